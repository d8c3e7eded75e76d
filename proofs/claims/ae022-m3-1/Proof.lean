import JvmDerived
import JvmDerived.Pilot.@@N@@Statement
import JvmDerived.Pilot.@@N@@Code
set_option linter.unusedVariables false
set_option linter.unusedSimpArgs false
namespace Jvm.RoadKit
open Sem ClassFile Op Lib Jvm.Stand Jvm.Free Jvm.LawKit
section New
variable {p : Program} {l : Launch} {e : Env} {R : Room} {s : State} {m : MethodId} {args : Array Value} {below : List Frame} {meth : Method} {c : Code} {T : State} {locs : List Loc} {cells slots : Nat}
theorem retI (X : Stand p l e R s m args below meth c T locs cells slots) (hx : p.tables.exec = Jvm.exec) {pc : Nat} {Ls : Array Slot} {z : Int32} {rest : List Value} (hret : meth.sig.returnType = some .int) (hd : decode c.code pc = .ok (.ireturn, 1)) {fs : List Frame}
    (hl : ∀ (f : JFrame) (acts : List Action), f.method = m → f.locked = none → f.entered = [] → (doReturn e (T.setTop f) acts (some (.int z))).1 = T.setFrames fs) : Steps p.tables e below (T.setTop (mkF m pc Ls (.int z :: rest))) (T.setFrames fs) := by
  have hm' : T.vm.method? m = some meth := X.method'
  have hn : narrow .int (.int z) = .int z := rfl
  show Steps p.tables e below (T.setTop { method := m, pc := pc, locals := Ls, stack := _ :: rest, locked := none }) _
  jvm_step X.here [X.here.top, hx, hd, hm', hret, hn]
  first | (intro acts; rw [hl _ acts rfl rfl rfl]) | rw [hl _ _ rfl rfl rfl]
  exact Steps.refl _
end New
end Jvm.RoadKit
namespace Jvm.Pilot.@@N@@
open Jvm Jvm.ClassFile Sem Op Lib Jvm.Free Jvm.Stand Jvm.LawKit Jvm.RoadKit Bundle Jvm.Pilot.@@N@@.Jvm.D
section OwnKit
variable {p : Program} {l : Launch} {e : Env} {R : Room} {s : State} {m : MethodId} {args : Array Value} {below : List Frame} {meth : Method} {c : Code} {T : State} {locs : List Loc} {cells slots : Nat} {Z : State} {h h' : Heap}
theorem own_lremM {g : JFrame} {target : State} (X : Stand p l e R s m args below meth c T locs cells slots) (hx : p.tables.exec = Jvm.exec) (hg : g.method = m) {x y : Int64} {rest : List Value} (hd : decode c.code g.pc = .ok (.lrem, 1)) (hs : g.stack = .long y :: .long x :: rest) (hy : y ≠ 0)
    (hr : Steps p.tables e below (T.setTop { g with pc := g.pc + 1, stack := .long (x % y) :: rest }) target) : Steps p.tables e below (T.setTop g) target :=
  XS.lrem X.here hx hg hd hs hy (by rw [lrem_mod]; exact hr)
/-- an array, by the list of its values -/
def own_A (Z : State) (h : Heap) (a : Addr) (ty : FieldType) (vs : List Value) : Prop := ∃ c : Cell, Arr Z h a c ty ∧ c.slots = vs.toArray
def own_AJ (Z : State) (h : Heap) (a : Addr) (xs : List Int64) : Prop := own_A Z h a .long (xs.map .long)
def own_AI (Z : State) (h : Heap) (a : Addr) (ty : FieldType) (xs : List Int32) : Prop := own_A Z h a ty (xs.map .int)
section Facts
variable {a b : Addr} {ty : FieldType} {vs : List Value} {xs : List Int64} {ys : List Int32} {sl : Nat} {v : Value} {ws : List Addr}
theorem own_A.ext (F : own_A Z h a ty vs) (E : Ext h h') : own_A Z h' a ty vs := by obtain ⟨c, A, r⟩ := F; exact ⟨c, A.ext E, r⟩
theorem own_A.other (F : own_A Z h b ty vs) (W : Wr h h' a sl v) (q : b ≠ a) : own_A Z h' b ty vs := by obtain ⟨c, A, r⟩ := F; exact ⟨c, A.other W q, r⟩
theorem own_A.keep (F : own_A Z h a ty vs) (K : Keep h h' ws) (q : a ∉ ws) : own_A Z h' a ty vs := by obtain ⟨c, A, r⟩ := F; exact ⟨c, ⟨K.2.1 a c A.1 q, A.2⟩, r⟩
theorem own_A.lt (F : own_A Z h a ty vs) : a < h.size := by obtain ⟨c, A, -⟩ := F; exact A.lt
theorem own_AJ.ext (F : own_AJ Z h a xs) (E : Ext h h') : own_AJ Z h' a xs := own_A.ext F E
theorem own_AJ.other (F : own_AJ Z h b xs) (W : Wr h h' a sl v) (q : b ≠ a) : own_AJ Z h' b xs := own_A.other F W q
theorem own_AJ.keep (F : own_AJ Z h a xs) (K : Keep h h' ws) (q : a ∉ ws) : own_AJ Z h' a xs := own_A.keep F K q
theorem own_AJ.lt (F : own_AJ Z h a xs) : a < h.size := own_A.lt F
theorem own_AI.ext (F : own_AI Z h a ty ys) (E : Ext h h') : own_AI Z h' a ty ys := own_A.ext F E
theorem own_AI.other (F : own_AI Z h b ty ys) (W : Wr h h' a sl v) (q : b ≠ a) : own_AI Z h' b ty ys := own_A.other F W q
theorem own_AI.keep (F : own_AI Z h a ty ys) (K : Keep h h' ws) (q : a ∉ ws) : own_AI Z h' a ty ys := own_A.keep F K q
theorem own_AI.lt (F : own_AI Z h a ty ys) : a < h.size := own_A.lt F
theorem own_A.set (F : own_A Z h a ty vs) {k : Nat} (W : Wr h h' a k v) : own_A Z h' a ty (vs.set k v) := by
  obtain ⟨c, A, r⟩ := F
  refine ⟨c.setSlot k v, A.same W, ?_⟩
  simp [Cell.setSlot, r]
theorem own_A_new {cA : ClassId} {n : Int32} {k : Nat} (A : Arr Z h a (newA cA ty n) ty) (hk : n.toNatClampNeg = k) : own_A Z h a ty (List.replicate k (defaultValue ty)) := by
  subst hk
  exact ⟨_, A, by simp [newA]⟩
theorem own_AJ_new {cA : ClassId} {n : Int32} {k : Nat} (A : Arr Z h a (newA cA .long n) .long) (hk : n.toNatClampNeg = k) : own_AJ Z h a (List.replicate k 0) := by
  have q := own_A_new A hk
  rw [own_AJ, List.map_replicate]; exact q
theorem own_AIint_new {cA : ClassId} {n : Int32} {k : Nat} (A : Arr Z h a (newA cA .int n) .int) (hk : n.toNatClampNeg = k) : own_AI Z h a .int (List.replicate k 0) := by
  have q := own_A_new A hk
  rw [own_AI, List.map_replicate]; exact q
theorem own_AIbyte_new {cA : ClassId} {n : Int32} {k : Nat} (A : Arr Z h a (newA cA .byte n) .byte) (hk : n.toNatClampNeg = k) : own_AI Z h a .byte (List.replicate k 0) := by
  have q := own_A_new A hk
  rw [own_AI, List.map_replicate]; exact q
theorem own_AIboolean_new {cA : ClassId} {n : Int32} {k : Nat} (A : Arr Z h a (newA cA .boolean n) .boolean) (hk : n.toNatClampNeg = k) : own_AI Z h a .boolean (List.replicate k 0) := by
  have q := own_A_new A hk
  rw [own_AI, List.map_replicate]; exact q
theorem own_inb {cl : Cell} {j : Int32} (r : cl.slots = vs.toArray) (hj : 0 ≤ j.toInt ∧ j.toInt < (vs.length : Nat)) : ¬ (j < 0 ∨ cl.slots.size ≤ j.toNatClampNeg) ∧ j.toNatClampNeg = j.toInt.toNat := by
  have e : j.toNatClampNeg = j.toInt.toNat := rfl
  refine ⟨fun q => ?_, e⟩
  rcases q with q | q
  · rw [Int32.lt_iff_toInt_lt] at q
    have : (0 : Int32).toInt = 0 := by decide
    omega
  · rw [r, e] at q
    simp at q
    omega
end Facts
theorem own_at? {α : Type} (f : α → Value) (xs : List α) (k : Nat) (d : α) (hk : k < xs.length) : (xs.map f).toArray[k]? = some (f (xs.getD k d)) := by
  simp [List.getD, hk]
section Loads
variable {a : Addr} {xs : List Int64} {ys : List Int32} {j : Int32} {pc : Nat} {Ls : Array Slot} {rest : List Value}
theorem own_laload (X : Stand p l e R s m args below meth c T locs cells slots) (hx : p.tables.exec = Jvm.exec) (hZ : Z.Warmed39 s.vm) (eT : T.heap = h) (A : own_AJ Z h a xs) (hj : 0 ≤ j.toInt ∧ j.toInt < (xs.length : Nat)) (hd : decode c.code pc = .ok (.laload, 1)) (target : State)
    (hr : Steps p.tables e below (T.setTop (mkF m (pc + 1) Ls (.long (xs.getD j.toInt.toNat 0) :: rest))) target) : Steps p.tables e below (T.setTop (mkF m pc Ls (.int j :: .ref a :: rest))) target := by
  obtain ⟨cl, A, r⟩ := A
  obtain ⟨q1, q2⟩ := own_inb (j := j) r (by simpa using hj)
  refine X.laload hx (by rw [eT]; exact A.1) (State.isArrayOf_alike hZ.alike A.2.1) A.2.2 q1 (v := .long (xs.getD j.toInt.toNat 0)) ?_ (g := mkF m pc Ls (.int j :: .ref a :: rest)) rfl rfl hd target hr
  rw [q2, r]
  exact own_at? _ xs _ 0 (by omega)
theorem own_iaload (X : Stand p l e R s m args below meth c T locs cells slots) (hx : p.tables.exec = Jvm.exec) (hZ : Z.Warmed39 s.vm) (eT : T.heap = h) (A : own_AI Z h a .int ys) (hj : 0 ≤ j.toInt ∧ j.toInt < (ys.length : Nat)) (hd : decode c.code pc = .ok (.iaload, 1)) (target : State)
    (hr : Steps p.tables e below (T.setTop (mkF m (pc + 1) Ls (.int (ys.getD j.toInt.toNat 0) :: rest))) target) : Steps p.tables e below (T.setTop (mkF m pc Ls (.int j :: .ref a :: rest))) target := by
  obtain ⟨cl, A, r⟩ := A
  obtain ⟨q1, q2⟩ := own_inb (j := j) r (by simpa using hj)
  refine X.iaload hx (by rw [eT]; exact A.1) (State.isArrayOf_alike hZ.alike A.2.1) A.2.2 q1 (v := .int (ys.getD j.toInt.toNat 0)) ?_ (g := mkF m pc Ls (.int j :: .ref a :: rest)) rfl rfl hd target hr
  rw [q2, r]
  exact own_at? _ ys _ 0 (by omega)
theorem own_baloadB (X : Stand p l e R s m args below meth c T locs cells slots) (hx : p.tables.exec = Jvm.exec) (hZ : Z.Warmed39 s.vm) (eT : T.heap = h) (A : own_AI Z h a .byte ys) (hj : 0 ≤ j.toInt ∧ j.toInt < (ys.length : Nat)) (hd : decode c.code pc = .ok (.baload, 1)) (target : State)
    (hr : Steps p.tables e below (T.setTop (mkF m (pc + 1) Ls (.int (ys.getD j.toInt.toNat 0) :: rest))) target) : Steps p.tables e below (T.setTop (mkF m pc Ls (.int j :: .ref a :: rest))) target := by
  obtain ⟨cl, A, r⟩ := A
  obtain ⟨q1, q2⟩ := own_inb (j := j) r (by simpa using hj)
  refine X.baloadBytes hx (by rw [eT]; exact A.1) (State.isArrayOf_alike hZ.alike A.2.1) A.2.2 q1 (v := .int (ys.getD j.toInt.toNat 0)) ?_ (g := mkF m pc Ls (.int j :: .ref a :: rest)) rfl rfl hd target hr
  rw [q2, r]
  exact own_at? _ ys _ 0 (by omega)
theorem own_baloadZ (X : Stand p l e R s m args below meth c T locs cells slots) (hx : p.tables.exec = Jvm.exec) (hZ : Z.Warmed39 s.vm) (eT : T.heap = h) (A : own_AI Z h a .boolean ys) (hj : 0 ≤ j.toInt ∧ j.toInt < (ys.length : Nat)) (hd : decode c.code pc = .ok (.baload, 1)) (target : State)
    (hr : Steps p.tables e below (T.setTop (mkF m (pc + 1) Ls (.int (ys.getD j.toInt.toNat 0) :: rest))) target) : Steps p.tables e below (T.setTop (mkF m pc Ls (.int j :: .ref a :: rest))) target := by
  obtain ⟨cl, A, r⟩ := A
  obtain ⟨q1, q2⟩ := own_inb (j := j) r (by simpa using hj)
  refine X.baloadBooleans hx (by rw [eT]; exact A.1) (State.isArrayOf_alike hZ.alike A.2.1) A.2.2 q1 (v := .int (ys.getD j.toInt.toNat 0)) ?_ (g := mkF m pc Ls (.int j :: .ref a :: rest)) rfl rfl hd target hr
  rw [q2, r]
  exact own_at? _ ys _ 0 (by omega)
theorem own_alenJ (X : Stand p l e R s m args below meth c T locs cells slots) (hx : p.tables.exec = Jvm.exec) (hZ : Z.Warmed39 s.vm) (eT : T.heap = h) (A : own_AJ Z h a xs) (hd : decode c.code pc = .ok (.arraylength, 1)) (target : State)
    (hr : Steps p.tables e below (T.setTop (mkF m (pc + 1) Ls (.int xs.length.toInt32 :: rest))) target) : Steps p.tables e below (T.setTop (mkF m pc Ls (.ref a :: rest))) target := by
  obtain ⟨cl, A, r⟩ := A
  refine X.arraylength hx (by rw [eT]; exact A.1) (State.isArrayOf_alike hZ.alike A.2.1) (g := mkF m pc Ls (.ref a :: rest)) rfl rfl hd target ?_
  rw [r]
  simpa using hr
theorem own_alenI {ty : FieldType} (X : Stand p l e R s m args below meth c T locs cells slots) (hx : p.tables.exec = Jvm.exec) (hZ : Z.Warmed39 s.vm) (eT : T.heap = h) (A : own_AI Z h a ty ys) (hd : decode c.code pc = .ok (.arraylength, 1)) (target : State)
    (hr : Steps p.tables e below (T.setTop (mkF m (pc + 1) Ls (.int ys.length.toInt32 :: rest))) target) : Steps p.tables e below (T.setTop (mkF m pc Ls (.ref a :: rest))) target := by
  obtain ⟨cl, A, r⟩ := A
  refine X.arraylength hx (by rw [eT]; exact A.1) (State.isArrayOf_alike hZ.alike A.2.1) (g := mkF m pc Ls (.ref a :: rest)) rfl rfl hd target ?_
  rw [r]
  simpa using hr
theorem own_lastore (X : Stand p l e R s m args below meth c T locs cells slots) (hx : p.tables.exec = Jvm.exec) (hZ : Z.Warmed39 s.vm) (eT : T.heap = h) (A : own_AJ Z h a xs) (hj : 0 ≤ j.toInt ∧ j.toInt < (xs.length : Nat)) {x : Int64} (hd : decode c.code pc = .ok (.lastore, 1)) :
    ∃ T' h', Stand p l e R s m args below meth c T' (locs ++ [⟨a, j.toInt.toNat⟩]) cells slots ∧ T'.heap = h' ∧ Wr h h' a j.toInt.toNat (.long x) ∧ own_AJ Z h' a (xs.set j.toInt.toNat x) ∧ ∀ target, Steps p.tables e below (T'.setTop (mkF m (pc + 1) Ls rest)) target → Steps p.tables e below (T.setTop (mkF m pc Ls (.long x :: .int j :: .ref a :: rest))) target := by
  obtain ⟨cl, B, r⟩ := A
  obtain ⟨q1, q2⟩ := own_inb (j := j) r (by simpa using hj)
  obtain ⟨T', h', X', e', W', st⟩ := stJ X hx hZ eT B q1 (x := x) (g := mkF m pc Ls (.long x :: .int j :: .ref a :: rest)) rfl rfl hd
  rw [q2] at X' W'
  exact ⟨T', h', X', e', W', by have := own_A.set ⟨cl, B, r⟩ W'; rw [own_AJ, List.map_set]; exact this, st⟩
theorem own_iastore (X : Stand p l e R s m args below meth c T locs cells slots) (hx : p.tables.exec = Jvm.exec) (hZ : Z.Warmed39 s.vm) (eT : T.heap = h) (A : own_AI Z h a .int ys) (hj : 0 ≤ j.toInt ∧ j.toInt < (ys.length : Nat)) {x : Int32} (hd : decode c.code pc = .ok (.iastore, 1)) :
    ∃ T' h', Stand p l e R s m args below meth c T' (locs ++ [⟨a, j.toInt.toNat⟩]) cells slots ∧ T'.heap = h' ∧ Wr h h' a j.toInt.toNat (.int x) ∧ own_AI Z h' a .int (ys.set j.toInt.toNat x) ∧ ∀ target, Steps p.tables e below (T'.setTop (mkF m (pc + 1) Ls rest)) target → Steps p.tables e below (T.setTop (mkF m pc Ls (.int x :: .int j :: .ref a :: rest))) target := by
  obtain ⟨cl, B, r⟩ := A
  obtain ⟨q1, q2⟩ := own_inb (j := j) r (by simpa using hj)
  obtain ⟨T', h', X', e', W', st⟩ := stI X hx hZ eT B q1 (x := x) (g := mkF m pc Ls (.int x :: .int j :: .ref a :: rest)) rfl rfl hd
  rw [q2] at X' W'
  exact ⟨T', h', X', e', W', by have := own_A.set ⟨cl, B, r⟩ W'; rw [own_AI, List.map_set]; exact this, st⟩
theorem own_bastoreB (X : Stand p l e R s m args below meth c T locs cells slots) (hx : p.tables.exec = Jvm.exec) (hZ : Z.Warmed39 s.vm) (eT : T.heap = h) (A : own_AI Z h a .byte ys) (hj : 0 ≤ j.toInt ∧ j.toInt < (ys.length : Nat)) {x : Int32} (hd : decode c.code pc = .ok (.bastore, 1)) :
    ∃ T' h', Stand p l e R s m args below meth c T' (locs ++ [⟨a, j.toInt.toNat⟩]) cells slots ∧ T'.heap = h' ∧ Wr h h' a j.toInt.toNat (.int x.toInt8.toInt32) ∧ own_AI Z h' a .byte (ys.set j.toInt.toNat x.toInt8.toInt32) ∧ ∀ target, Steps p.tables e below (T'.setTop (mkF m (pc + 1) Ls rest)) target → Steps p.tables e below (T.setTop (mkF m pc Ls (.int x :: .int j :: .ref a :: rest))) target := by
  obtain ⟨cl, B, r⟩ := A
  obtain ⟨q1, q2⟩ := own_inb (j := j) r (by simpa using hj)
  obtain ⟨T', h', X', e', W', st⟩ := stB X hx hZ eT B q1 (x := x) (g := mkF m pc Ls (.int x :: .int j :: .ref a :: rest)) rfl rfl hd
  rw [q2] at X' W'
  exact ⟨T', h', X', e', W', by have := own_A.set ⟨cl, B, r⟩ W'; rw [own_AI, List.map_set]; exact this, st⟩
theorem own_bastoreZ (X : Stand p l e R s m args below meth c T locs cells slots) (hx : p.tables.exec = Jvm.exec) (hZ : Z.Warmed39 s.vm) (eT : T.heap = h) (A : own_AI Z h a .boolean ys) (hj : 0 ≤ j.toInt ∧ j.toInt < (ys.length : Nat)) {x : Int32} (hd : decode c.code pc = .ok (.bastore, 1)) :
    ∃ T' h', Stand p l e R s m args below meth c T' (locs ++ [⟨a, j.toInt.toNat⟩]) cells slots ∧ T'.heap = h' ∧ Wr h h' a j.toInt.toNat (.int (x &&& 1)) ∧ own_AI Z h' a .boolean (ys.set j.toInt.toNat (x &&& 1)) ∧ ∀ target, Steps p.tables e below (T'.setTop (mkF m (pc + 1) Ls rest)) target → Steps p.tables e below (T.setTop (mkF m pc Ls (.int x :: .int j :: .ref a :: rest))) target := by
  obtain ⟨cl, B, r⟩ := A
  obtain ⟨q1, q2⟩ := own_inb (j := j) r (by simpa using hj)
  obtain ⟨T', h', X', e', W', st⟩ := stZ X hx hZ eT B q1 (x := x) (g := mkF m pc Ls (.int x :: .int j :: .ref a :: rest)) rfl rfl hd
  rw [q2] at X' W'
  exact ⟨T', h', X', e', W', by have := own_A.set ⟨cl, B, r⟩ W'; rw [own_AI, List.map_set]; exact this, st⟩
end Loads
end OwnKit
theorem own_bm32 {x : Int} (h1 : -2147483648 ≤ x) (h2 : x < 2147483648) : x.bmod (2 ^ 32) = x := by
  rw [Int.bmod_def]; split <;> omega
theorem own_bm64 {x : Int} (h1 : -9223372036854775808 ≤ x) (h2 : x < 9223372036854775808) : x.bmod (2 ^ 64) = x := by
  rw [Int.bmod_def]; split <;> omega
theorem own_r32 (x : Int32) : -2147483648 ≤ x.toInt ∧ x.toInt < 2147483648 := ⟨x.le_toInt, x.toInt_lt⟩
theorem own_r64 (x : Int64) : -9223372036854775808 ≤ x.toInt ∧ x.toInt < 9223372036854775808 := ⟨x.le_toInt, x.toInt_lt⟩
theorem own_iadd {x y : Int32} (h : -2147483648 ≤ x.toInt + y.toInt ∧ x.toInt + y.toInt < 2147483648) : (x + y).toInt = x.toInt + y.toInt := by rw [Int32.toInt_add]; exact own_bm32 h.1 h.2
theorem own_isub {x y : Int32} (h : -2147483648 ≤ x.toInt - y.toInt ∧ x.toInt - y.toInt < 2147483648) : (x - y).toInt = x.toInt - y.toInt := by rw [Int32.toInt_sub]; exact own_bm32 h.1 h.2
theorem own_imul {x y : Int32} (h : -2147483648 ≤ x.toInt * y.toInt ∧ x.toInt * y.toInt < 2147483648) : (x * y).toInt = x.toInt * y.toInt := by rw [Int32.toInt_mul]; exact own_bm32 h.1 h.2
theorem own_ladd {x y : Int64} (h : -9223372036854775808 ≤ x.toInt + y.toInt ∧ x.toInt + y.toInt < 9223372036854775808) : (x + y).toInt = x.toInt + y.toInt := by rw [Int64.toInt_add]; exact own_bm64 h.1 h.2
theorem own_lsub {x y : Int64} (h : -9223372036854775808 ≤ x.toInt - y.toInt ∧ x.toInt - y.toInt < 9223372036854775808) : (x - y).toInt = x.toInt - y.toInt := by rw [Int64.toInt_sub]; exact own_bm64 h.1 h.2
theorem own_lmul {x y : Int64} (h : -9223372036854775808 ≤ x.toInt * y.toInt ∧ x.toInt * y.toInt < 9223372036854775808) : (x * y).toInt = x.toInt * y.toInt := by rw [Int64.toInt_mul]; exact own_bm64 h.1 h.2
theorem own_i2l (x : Int32) : x.toInt64.toInt = x.toInt := Int32.toInt_toInt64 x
theorem own_l2i {x : Int64} (h : -2147483648 ≤ x.toInt ∧ x.toInt < 2147483648) : x.toInt32.toInt = x.toInt := by rw [Int64.toInt_toInt32]; exact own_bm32 h.1 h.2
theorem own_irem {x y : Int32} (h : 0 ≤ x.toInt) : (x % y).toInt = x.toInt % y.toInt := by rw [Int32.toInt_mod]; exact Int.tmod_eq_emod_of_nonneg h
theorem own_lrem {x y : Int64} (h : 0 ≤ x.toInt) : (x % y).toInt = x.toInt % y.toInt := by rw [Int64.toInt_mod]; exact Int.tmod_eq_emod_of_nonneg h
theorem own_idiv {x y : Int32} (h : 0 ≤ x.toInt) (hy : 0 ≤ y.toInt) : (x / y).toInt = x.toInt / y.toInt := by
  rw [Int32.toInt_div_of_ne_right x y (fun q => by rw [q] at hy; revert hy; decide)]; exact Int.tdiv_eq_ediv_of_nonneg h
theorem own_ldiv {x y : Int64} (h : 0 ≤ x.toInt) (hy : 0 ≤ y.toInt) : (x / y).toInt = x.toInt / y.toInt := by
  rw [Int64.toInt_div_of_ne_right x y (fun q => by rw [q] at hy; revert hy; decide)]; exact Int.tdiv_eq_ediv_of_nonneg h
/-- a mask of k bits -/
theorem own_mask (x m : Int32) (k : Nat) (hk : k ≤ 31) (hm : m.toBitVec.toNat = 2 ^ k - 1) : (x &&& m).toInt = x.toInt % (2 ^ k : Nat) := by
  have hp : 2 ^ k ≤ 2 ^ 31 := Nat.pow_le_pow_right (by decide) hk
  have hp0 : 0 < 2 ^ k := Nat.pow_pos (by decide)
  have e : (x &&& m).toBitVec.toNat = x.toBitVec.toNat % 2 ^ k := by rw [Int32.toBitVec_and, BitVec.toNat_and, hm, Nat.and_two_pow_sub_one_eq_mod]
  have l := Nat.mod_lt x.toBitVec.toNat hp0
  rw [← Int32.toInt_toBitVec, ← Int32.toInt_toBitVec, BitVec.toInt_eq_toNat_cond, e, if_pos (by omega), BitVec.toInt_eq_toNat_cond]
  split
  · simp
  · rename_i q
    have d : (2 ^ k : Nat) ∣ 2 ^ 32 := Nat.pow_dvd_pow 2 (by omega)
    obtain ⟨c, hc⟩ := d
    have hc' : ((2 ^ 32 : Nat) : Int) = ((2 ^ k : Nat) : Int) * (c : Int) := by rw [hc]; simp
    rw [hc', Int.sub_mul_emod_self_left]; simp
theorem own_ushr (x : Int64) (y : Int32) (k : Nat) (hk : (y &&& 0x3f).toInt64.toBitVec.toNat % 64 = k) (h0 : 0 < k) : (((x).toUInt64 >>> (y &&& 0x3f).toInt64.toUInt64).toInt64).toInt = (x.toInt % 18446744073709551616) / (2 ^ k : Nat) := by
  have e : (((x).toUInt64 >>> (y &&& 0x3f).toInt64.toUInt64).toInt64).toBitVec = x.toBitVec >>> k := by rw [← hk]; simp
  have hl := x.toBitVec.isLt
  have hp0 : 0 < 2 ^ k := Nat.pow_pos (by decide)
  have h2 : 2 ^ 1 ≤ 2 ^ k := Nat.pow_le_pow_right (by decide) h0
  have hd : x.toBitVec.toNat / 2 ^ k ≤ x.toBitVec.toNat / 2 := Nat.div_le_div_left h2 (by decide)
  have t : x.toInt % 18446744073709551616 = (x.toBitVec.toNat : Int) := by
    rw [← Int64.toInt_toBitVec, BitVec.toInt_eq_toNat_cond]; split <;> omega
  rw [t, ← Int64.toInt_toBitVec, e, BitVec.toInt_eq_toNat_cond, BitVec.toNat_ushiftRight, Nat.shiftRight_eq_div_pow, if_pos (by omega)]
  simp
theorem own_shl (x : Int64) (y : Int32) (k : Nat) (hk : y.toBitVec.toNat % 64 = k) (h : -9223372036854775808 ≤ x.toInt * (2 ^ k : Nat) ∧ x.toInt * (2 ^ k : Nat) < 9223372036854775808) : (x <<< (y &&& 0x3f).toInt64).toInt = x.toInt * (2 ^ k : Nat) := by
  have q := c_lshl x y k hk
  have r := own_r64 (x <<< (y &&& 0x3f).toInt64)
  generalize x.toInt * (2 ^ k : Nat) = z at *
  omega
theorem own_nzL {x : Int32} (h : ¬ x = 0) : ¬ x.toInt64 = 0 := fun q => h (Int32.toInt_inj.mp (by rw [← own_i2l, q]; rfl))
theorem own_nzP {x : Int32} (h : 1 ≤ x.toInt) : ¬ x = 0 := fun q => by rw [q] at h; revert h; decide
theorem own_fA {t n : Int32} {k : Int} (h : t < n) (q : n.toInt - 1 = k) : t.toInt ≤ k := by rw [Int32.lt_iff_toInt_lt] at h; omega
theorem own_fB {t n : Int32} {k : Int} (h : ¬ n < t) (q : n.toInt = k) : t.toInt ≤ k := by rw [Int32.lt_iff_toInt_lt] at h; omega
theorem own_fC {t n : Int32} {k : Int} (h : n < t) (q : n.toInt + 1 = k) : k ≤ t.toInt := by rw [Int32.lt_iff_toInt_lt] at h; omega
theorem own_fD {t n : Int32} {k : Int} (h : ¬ t < n) (q : n.toInt = k) : k ≤ t.toInt := by rw [Int32.lt_iff_toInt_lt] at h; omega
theorem own_fE {t n : Int32} {k : Int} (h : t = n) (q : n.toInt = k) : t.toInt ≤ k := by rw [h]; omega
theorem own_fF {t n : Int32} {k : Int} (h : t = n) (q : n.toInt = k) : k ≤ t.toInt := by rw [h]; omega
theorem own_g1 {t m : Int32} {k : Int} (h : t.toInt ≤ k) (q : k < m.toInt) : t < m := by rw [Int32.lt_iff_toInt_lt]; omega
theorem own_g2 {t m : Int32} {k : Int} (h : t.toInt ≤ k) (q : k ≤ m.toInt) : ¬ m < t := by rw [Int32.lt_iff_toInt_lt]; omega
theorem own_g3 {t m : Int32} {k : Int} (h : t.toInt ≤ k) (q : k < m.toInt) : ¬ t = m := fun e => by rw [e] at h; omega
theorem own_g4 {t m : Int32} {k : Int} (h : k ≤ t.toInt) (q : m.toInt ≤ k) : ¬ t < m := by rw [Int32.lt_iff_toInt_lt]; omega
theorem own_g5 {t m : Int32} {k : Int} (h : k ≤ t.toInt) (q : m.toInt < k) : m < t := by rw [Int32.lt_iff_toInt_lt]; omega
theorem own_g6 {t m : Int32} {k : Int} (h : k ≤ t.toInt) (q : m.toInt < k) : ¬ t = m := fun e => by rw [e] at h; omega
theorem own_g7 {t m : Int32} {k : Int} (h : k ≤ t.toInt) (h' : t.toInt ≤ k) (q : m.toInt = k) : t = m := Int32.toInt_inj.mp (by omega)
theorem own_ne {x n : Int32} {k : Int} (h : ¬ x = n) (q : n.toInt = k) : k ≠ x.toInt := fun e => h (Int32.toInt_inj.mp (by omega))
theorem own_gs1 {α : Type} (xs : List α) (n : Nat) (v d : α) (h : n < xs.length) : (xs.set n v).getD n d = v := by simp [List.getD, h]
theorem own_gs2 {α : Type} (xs : List α) (n j : Nat) (v d : α) (h : n ≠ j) : (xs.set n v).getD j d = xs.getD j d := by simp [List.getD, List.getElem?_set, h]
theorem own_inK {x : Int32} {k : Int64} (h : k = (x &&& 127).toInt64) : 0 ≤ k.toInt ∧ k.toInt < 128 := by
  have a := own_mask x 127 7 (by decide) (by decide)
  rw [h, own_i2l]; omega
theorem own_wd {k : Int64} (h : 0 ≤ k.toInt ∧ k.toInt < 128) : ((((k).toUInt64 >>> ((6 : Int32) &&& 0x3f).toInt64.toUInt64).toInt64).toInt32).toInt = k.toInt / 64 := by
  have a := own_ushr k 6 6 (by decide) (by decide)
  rw [own_l2i (by omega)]; omega
theorem own_wdin {k : Int64} (h : 0 ≤ k.toInt ∧ k.toInt < 128) : 0 ≤ ((((k).toUInt64 >>> ((6 : Int32) &&& 0x3f).toInt64.toUInt64).toInt64).toInt32).toInt ∧ ((((k).toUInt64 >>> ((6 : Int32) &&& 0x3f).toInt64.toUInt64).toInt64).toInt32).toInt < (2 : Nat) := by
  rw [own_wd h]; omega
def own_clr (xs : List Int64) (q1 : Int64) : List Int64 := xs.set ((((q1).toUInt64 >>> ((6 : Int32) &&& 0x3f).toInt64.toUInt64).toInt64).toInt32).toInt.toNat ((xs.getD ((((q1).toUInt64 >>> ((6 : Int32) &&& 0x3f).toInt64.toUInt64).toInt64).toInt32).toInt.toNat 0) &&& (((1 : Int64) <<< ((q1).toInt32 &&& 0x3f).toInt64) ^^^ (-1 : Int64)))
theorem d1_0 : decode prog_1_method_2_code 0 = .ok (.aload_n 0, 1) := by decide +kernel
theorem d1_1 : decode prog_1_method_2_code 1 = .ok (.invokespecial 3, 3) := by decide +kernel
theorem d1_4 : decode prog_1_method_2_code 4 = .ok (.aload_n 0, 1) := by decide +kernel
theorem d1_5 : decode prog_1_method_2_code 5 = .ok (.aload_n 1, 1) := by decide +kernel
theorem d1_6 : decode prog_1_method_2_code 6 = .ok (.putfield 15, 3) := by decide +kernel
theorem d1_9 : decode prog_1_method_2_code 9 = .ok (.return_, 1) := by decide +kernel
theorem pn_1 : plainName "com/example/mini_bloom/minibloom/BitArray" = true := by first | (simp [plainName, overriddenIn]; done) | decide +kernel
theorem ef_1 (m : MethodId) (ra : Addr) (rb : Addr) : entryFrame m #[(.ref ra), (.ref rb)] 2 = mkF m 0 #[.val (.ref ra), .val (.ref rb)] [] := by first | (simp [entryFrame, mkF, argsToLocals, Value.category, maxLocals]; done) | rfl
def Q1 (Z : State) (ra : Addr) (rb : Addr)  (h0 : Heap) (n0 : Nat) (v : Option Value) (h : Heap) (L : List Loc) : Prop := v = none ∧ Fr n0 L ∧ Keep h0 h [ra] ∧ Exa Z h ra "com/example/mini_bloom/minibloom/BitArray" ∧ Fld Z h ra "com/example/mini_bloom/minibloom/BitArray" "words" "[J" (.ref rb)
set_option maxRecDepth 65536 in
set_option maxHeartbeats 40000000 in
theorem rm1 (l : Launch) (Z : State) (a0 : Array Value) (hw : ∀ d ∈ tables_1, d.before a0 Z = true) (ws : List Jvm.Cond) (ra : Addr) (rb : Addr)  (h0 : Heap) (n0 : Nat) (Z0 : n0 ≤ h0.size) (PE0 : Exa Z h0 ra "com/example/mini_bloom/minibloom/BitArray") (PF0 : Fld Z h0 ra "com/example/mini_bloom/minibloom/BitArray" "words" "[J" .null) (PG0 : n0 ≤ ra) :
    MetFree l (⟨"com/example/mini_bloom/minibloom/BitArray", "<init>", "([J)V"⟩ : MethodName) (head1 (Jvm.Cond.code (⟨"com/example/mini_bloom/minibloom/BitArray", "<init>", "([J)V"⟩ : MethodName) prog_1_method_2_code 2 none :: ws) ({ frames := 1, cells := 0, slots := 0, locals := 12 } : Room)) (fun a U => a = #[(.ref ra), (.ref rb)] ∧ Z.Warmed39 U.vm ∧ U.heap = h0) (fun _ _ _ _ _ => True) (fun _ U o U' => ∃ v L, o = .returned v ∧ Q1 Z ra rb h0 n0 v U'.heap L ∧ FrameEnd U o U' L ({ frames := 1, cells := 0, slots := 0, locals := 12 } : Room).cells ({ frames := 1, cells := 0, slots := 0, locals := 12 } : Room).slots) := by
  refine MetFree.of_bodySF (plainFor_of_name pn_1) hisR ?_
  intro p e s m args below meth c s₁ Bd hml0 hP hK
  obtain ⟨rfl, hZ, hh⟩ := hP
  have hx := Bd.exec
  have hby := Bd.bytes
  have hml : c.maxLocals = 2 := hml0
  have hown : s.vm.findClass "com/example/mini_bloom/minibloom/BitArray" = some m.cls := findClass_of_methodNamed Bd.named
  have hnm := (name_of_methodNamed Bd.named Bd.method).1
  have X0 : Stand p l e ({ frames := 1, cells := 0, slots := 0, locals := 12 } : Room) s m #[(.ref ra), (.ref rb)] below meth c s₁ [] 0 0 := Stand.of_body Bd
  have hlk : meth.locks = false := by first | exact BodyLoose.notSynchronized (by assumption) | exact Body.notSynchronized (by assumption)
  have e0 : s₁.heap = h0 := by rw [← hh, Bd.state]; rfl
  have N0 := Fr.nil n0
  have pre0 : ∀ t, Steps p.tables e below (s₁.setTop (mkF m 0 #[.val (.ref ra), .val (.ref rb)] [])) t → Steps p.tables e below (s₁.setTop (entryFrame m #[(.ref ra), (.ref rb)] 2)) t := fun t k => castTop (ef_1 m ra rb) k
  obtain ⟨T1, X1, e1, st1⟩ := initO X0 hx hZ hown (hw _ (List.mem_of_getElem? (i := 7) rfl)) (hw _ (List.mem_of_getElem? (i := 8) rfl)) (hw _ (List.mem_of_getElem? (i := 9) rfl)) e0 (g := (mkF m 1 #[.val (.ref ra), .val (.ref rb)] [(.ref ra)])) rfl (by rw [hml]; rfl) rfl (hb hby d1_1) (by decide) (W := 0) (by show 2 * 0 + _ ≤ _; exact Nat.le_of_eq rfl) (by decide)
  obtain ⟨T2, h2, X2, e2, W2, st2⟩ := putF X1 hx hZ hown (host := "") (Or.inl (hw _ (List.mem_of_getElem? (i := 10) rfl))) Via.refl e1 PF0 PE0 (Or.inr ⟨(hw _ (List.mem_of_getElem? (i := 11) rfl)), rfl, hnm⟩) (hw _ (List.mem_of_getElem? (i := 2) rfl)) (ty := (.array .long)) (by decide) rfl rfl (g := (mkF m 6 #[.val (.ref ra), .val (.ref rb)] [(.ref rb), (.ref ra)])) rfl rfl (hb hby d1_6)
  have A2_ra : Exa Z h2 ra "com/example/mini_bloom/minibloom/BitArray" := PE0.wr W2
  have sz2 : n0 ≤ h2.size := Nat.le_trans Z0 (Keep.of_wr W2).1
  have K2 : Keep h0 h2 [ra] := (Keep.refl h0 [ra]).wr W2 (Or.inl (by simp))
  have N2 := Fr.snoc X2 N0 PG0
  have F2_s : Fld Z h2 ra "com/example/mini_bloom/minibloom/BitArray" "words" "[J" (.ref rb) := PF0.same W2
  obtain ⟨fs, hr, hrun, hended, hW, hsame⟩ := X2.leave (v := none) (fun _ => rfl) hlk
  refine ⟨_, _, pre0 _ ?_, hrun, hended, _, _, rfl, ?_, ⟨_, rfl⟩, hW, hsame.mono (by decide) (by decide)⟩
  · show Steps p.tables e below (s₁.setTop (mkF m 0 #[.val (.ref ra), .val (.ref rb)] [])) _
    refine XS.aloadN X0.here hx rfl (hb hby d1_0) rfl rfl ?_
    show Steps p.tables e below (s₁.setTop (mkF m 1 #[.val (.ref ra), .val (.ref rb)] [(.ref ra)])) _
    refine st1 _ ?_
    show Steps p.tables e below (T1.setTop (mkF m 4 #[.val (.ref ra), .val (.ref rb)] [])) _
    refine XS.aloadN X1.here hx rfl (hb hby d1_4) rfl rfl ?_
    show Steps p.tables e below (T1.setTop (mkF m 5 #[.val (.ref ra), .val (.ref rb)] [(.ref ra)])) _
    refine XS.aloadN X1.here hx rfl (hb hby d1_5) rfl rfl ?_
    show Steps p.tables e below (T1.setTop (mkF m 6 #[.val (.ref ra), .val (.ref rb)] [(.ref rb), (.ref ra)])) _
    refine st2 _ ?_
    show Steps p.tables e below (T2.setTop (mkF m 9 #[.val (.ref ra), .val (.ref rb)] [])) _
    exact X2.returnOut hx Bd.returns (hb hby d1_9) hr
  · show Q1 Z ra rb h0 n0 _ T2.heap _
    rw [e2]
    exact ⟨rfl, N2, K2, A2_ra, F2_s⟩
theorem d3_0 : decode prog_1_method_11_code 0 = .ok (.aload_n 0, 1) := by decide +kernel
theorem d3_1 : decode prog_1_method_11_code 1 = .ok (.getfield 15, 3) := by decide +kernel
theorem d3_4 : decode prog_1_method_11_code 4 = .ok (.lload_n 1, 1) := by decide +kernel
theorem d3_5 : decode prog_1_method_11_code 5 = .ok (.bipush 6, 2) := by decide +kernel
theorem d3_7 : decode prog_1_method_11_code 7 = .ok (.lushr, 1) := by decide +kernel
theorem d3_8 : decode prog_1_method_11_code 8 = .ok (.l2i, 1) := by decide +kernel
theorem d3_9 : decode prog_1_method_11_code 9 = .ok (.dup2, 1) := by decide +kernel
theorem d3_10 : decode prog_1_method_11_code 10 = .ok (.laload, 1) := by decide +kernel
theorem d3_11 : decode prog_1_method_11_code 11 = .ok (.lconst 1, 1) := by decide +kernel
theorem d3_12 : decode prog_1_method_11_code 12 = .ok (.lload_n 1, 1) := by decide +kernel
theorem d3_13 : decode prog_1_method_11_code 13 = .ok (.l2i, 1) := by decide +kernel
theorem d3_14 : decode prog_1_method_11_code 14 = .ok (.lshl, 1) := by decide +kernel
theorem d3_15 : decode prog_1_method_11_code 15 = .ok (.ldc2_w 31, 3) := by decide +kernel
theorem d3_18 : decode prog_1_method_11_code 18 = .ok (.lxor, 1) := by decide +kernel
theorem d3_19 : decode prog_1_method_11_code 19 = .ok (.land, 1) := by decide +kernel
theorem d3_20 : decode prog_1_method_11_code 20 = .ok (.lastore, 1) := by decide +kernel
theorem d3_21 : decode prog_1_method_11_code 21 = .ok (.return_, 1) := by decide +kernel
theorem ef_3 (m : MethodId) (ra : Addr) (q1 : Int64) : entryFrame m #[(.ref ra), (.long q1)] 3 = mkF m 0 #[.val (.ref ra), .val (.long q1), .second] [] := by first | (simp [entryFrame, mkF, argsToLocals, Value.category, maxLocals]; done) | rfl
def Q3 (Z : State) (ra : Addr) (q1 : Int64) (rb : Addr) (xs : List Int64) (h0 : Heap) (n0 : Nat) (v : Option Value) (h : Heap) (L : List Loc) : Prop := v = none ∧ Fr n0 L ∧ Keep h0 h [rb] ∧ own_AJ Z h rb (own_clr xs q1)
set_option maxRecDepth 65536 in
set_option maxHeartbeats 40000000 in
theorem rm3 (l : Launch) (Z : State) (a0 : Array Value) (hw : ∀ d ∈ tables_1, d.before a0 Z = true) (ws : List Jvm.Cond) (ra : Addr) (q1 : Int64) (rb : Addr) (xs : List Int64) (h0 : Heap) (n0 : Nat) (Z0 : n0 ≤ h0.size) (PA0 : own_AJ Z h0 rb xs) (PE0 : Exa Z h0 ra "com/example/mini_bloom/minibloom/BitArray") (PF0 : Fld Z h0 ra "com/example/mini_bloom/minibloom/BitArray" "words" "[J" (.ref rb)) (PG0 : n0 ≤ rb) (PN0 : ra ≠ rb) (hin : 0 ≤ ((((q1).toUInt64 >>> ((6 : Int32) &&& 0x3f).toInt64.toUInt64).toInt64).toInt32).toInt ∧ ((((q1).toUInt64 >>> ((6 : Int32) &&& 0x3f).toInt64.toUInt64).toInt64).toInt32).toInt < (xs.length : Nat)) :
    MetFree l (⟨"com/example/mini_bloom/minibloom/BitArray", "clearBit", "(J)V"⟩ : MethodName) (head1 (Jvm.Cond.code (⟨"com/example/mini_bloom/minibloom/BitArray", "clearBit", "(J)V"⟩ : MethodName) prog_1_method_11_code 3 none :: ws) ({ frames := 0, cells := 0, slots := 0, locals := 0 } : Room)) (fun a U => a = #[(.ref ra), (.long q1)] ∧ Z.Warmed39 U.vm ∧ U.heap = h0) (fun _ _ _ _ _ => True) (fun _ U o U' => ∃ v L, o = .returned v ∧ Q3 Z ra q1 rb xs h0 n0 v U'.heap L ∧ FrameEnd U o U' L ({ frames := 0, cells := 0, slots := 0, locals := 0 } : Room).cells ({ frames := 0, cells := 0, slots := 0, locals := 0 } : Room).slots) := by
  refine MetFree.of_bodySF (plainFor_of_name pn_1) hisR ?_
  intro p e s m args below meth c s₁ Bd hml0 hP hK
  obtain ⟨rfl, hZ, hh⟩ := hP
  have hx := Bd.exec
  have hby := Bd.bytes
  have hml : c.maxLocals = 3 := hml0
  have hown : s.vm.findClass "com/example/mini_bloom/minibloom/BitArray" = some m.cls := findClass_of_methodNamed Bd.named
  have hnm := (name_of_methodNamed Bd.named Bd.method).1
  have X0 : Stand p l e ({ frames := 0, cells := 0, slots := 0, locals := 0 } : Room) s m #[(.ref ra), (.long q1)] below meth c s₁ [] 0 0 := Stand.of_body Bd
  have hlk : meth.locks = false := by first | exact BodyLoose.notSynchronized (by assumption) | exact Body.notSynchronized (by assumption)
  have e0 : s₁.heap = h0 := by rw [← hh, Bd.state]; rfl
  have N0 := Fr.nil n0
  have pre0 : ∀ t, Steps p.tables e below (s₁.setTop (mkF m 0 #[.val (.ref ra), .val (.long q1), .second] [])) t → Steps p.tables e below (s₁.setTop (entryFrame m #[(.ref ra), (.long q1)] 3)) t := fun t k => castTop (ef_3 m ra q1) k
  obtain ⟨T1, X1, e1, st1⟩ := getF X0 hx hZ hown (host := "") (Or.inl (hw _ (List.mem_of_getElem? (i := 10) rfl))) Via.refl e0 PF0 (g := (mkF m 1 #[.val (.ref ra), .val (.long q1), .second] [(.ref ra)])) rfl rfl (hb hby d3_1)
  have in_10_2 : 0 ≤ ((((q1).toUInt64 >>> ((6 : Int32) &&& 0x3f).toInt64.toUInt64).toInt64).toInt32).toInt ∧ ((((q1).toUInt64 >>> ((6 : Int32) &&& 0x3f).toInt64.toUInt64).toInt64).toInt32).toInt < (xs.length : Nat) := hin
  have in_20_4 : 0 ≤ ((((q1).toUInt64 >>> ((6 : Int32) &&& 0x3f).toInt64.toUInt64).toInt64).toInt32).toInt ∧ ((((q1).toUInt64 >>> ((6 : Int32) &&& 0x3f).toInt64.toUInt64).toInt64).toInt32).toInt < (xs.length : Nat) := hin
  obtain ⟨T3, h3, X3, e3, W3, V3, st3⟩ := own_lastore X1 hx hZ e1 PA0 (j := (((q1).toUInt64 >>> ((6 : Int32) &&& 0x3f).toInt64.toUInt64).toInt64).toInt32) in_20_4 (x := ((xs.getD ((((q1).toUInt64 >>> ((6 : Int32) &&& 0x3f).toInt64.toUInt64).toInt64).toInt32).toInt.toNat 0) &&& (((1 : Int64) <<< ((q1).toInt32 &&& 0x3f).toInt64) ^^^ (-1 : Int64)))) (hb hby d3_20) (Ls := #[.val (.ref ra), .val (.long q1), .second]) (rest := [])
  have A3_ra : Exa Z h3 ra "com/example/mini_bloom/minibloom/BitArray" := PE0.wr W3
  have F3_ra_0 : Fld Z h3 ra "com/example/mini_bloom/minibloom/BitArray" "words" "[J" (.ref rb) := PF0.other W3 (Or.inl PN0)
  have sz3 : n0 ≤ h3.size := Nat.le_trans Z0 (Keep.of_wr W3).1
  have K3 : Keep h0 h3 [rb] := (Keep.refl h0 [rb]).wr W3 (Or.inl (by simp))
  have N3 := Fr.snoc X3 N0 PG0
  have V3_n : own_AJ Z h3 rb (xs.set ((((q1).toUInt64 >>> ((6 : Int32) &&& 0x3f).toInt64.toUInt64).toInt64).toInt32).toInt.toNat ((xs.getD ((((q1).toUInt64 >>> ((6 : Int32) &&& 0x3f).toInt64.toUInt64).toInt64).toInt32).toInt.toNat 0) &&& (((1 : Int64) <<< ((q1).toInt32 &&& 0x3f).toInt64) ^^^ (-1 : Int64)))) := V3
  obtain ⟨fs, hr, hrun, hended, hW, hsame⟩ := X3.leave (v := none) (fun _ => rfl) hlk
  refine ⟨_, _, pre0 _ ?_, hrun, hended, _, _, rfl, ?_, ⟨_, rfl⟩, hW, hsame.mono (by decide) (by decide)⟩
  · show Steps p.tables e below (s₁.setTop (mkF m 0 #[.val (.ref ra), .val (.long q1), .second] [])) _
    refine XS.aloadN X0.here hx rfl (hb hby d3_0) rfl rfl ?_
    show Steps p.tables e below (s₁.setTop (mkF m 1 #[.val (.ref ra), .val (.long q1), .second] [(.ref ra)])) _
    refine st1 _ ?_
    show Steps p.tables e below (T1.setTop (mkF m 4 #[.val (.ref ra), .val (.long q1), .second] [(.ref rb)])) _
    refine XS.lloadN X1.here hx rfl (hb hby d3_4) rfl ?_
    show Steps p.tables e below (T1.setTop (mkF m 5 #[.val (.ref ra), .val (.long q1), .second] [(.long q1), (.ref rb)])) _
    refine XS.bipush X1.here hx rfl (hb hby d3_5) ?_
    show Steps p.tables e below (T1.setTop (mkF m 7 #[.val (.ref ra), .val (.long q1), .second] [(.int (6 : Int32)), (.long q1), (.ref rb)])) _
    refine XS.lushr X1.here hx rfl (hb hby d3_7) rfl ?_
    show Steps p.tables e below (T1.setTop (mkF m 8 #[.val (.ref ra), .val (.long q1), .second] [(.long ((q1).toUInt64 >>> ((6 : Int32) &&& 0x3f).toInt64.toUInt64).toInt64), (.ref rb)])) _
    refine XS.l2i X1.here hx rfl (hb hby d3_8) rfl ?_
    show Steps p.tables e below (T1.setTop (mkF m 9 #[.val (.ref ra), .val (.long q1), .second] [(.int (((q1).toUInt64 >>> ((6 : Int32) &&& 0x3f).toInt64.toUInt64).toInt64).toInt32), (.ref rb)])) _
    refine Jvm.Free.XT.dup2 X1.here hx rfl (hb hby d3_9) rfl rfl rfl ?_
    show Steps p.tables e below (T1.setTop (mkF m 10 #[.val (.ref ra), .val (.long q1), .second] [(.int (((q1).toUInt64 >>> ((6 : Int32) &&& 0x3f).toInt64.toUInt64).toInt64).toInt32), (.ref rb), (.int (((q1).toUInt64 >>> ((6 : Int32) &&& 0x3f).toInt64.toUInt64).toInt64).toInt32), (.ref rb)])) _
    refine own_laload X1 hx hZ e1 PA0 in_10_2 (hb hby d3_10) _ ?_
    show Steps p.tables e below (T1.setTop (mkF m 11 #[.val (.ref ra), .val (.long q1), .second] [(.long (xs.getD ((((q1).toUInt64 >>> ((6 : Int32) &&& 0x3f).toInt64.toUInt64).toInt64).toInt32).toInt.toNat 0)), (.int (((q1).toUInt64 >>> ((6 : Int32) &&& 0x3f).toInt64.toUInt64).toInt64).toInt32), (.ref rb)])) _
    refine XS.lconst X1.here hx rfl (hb hby d3_11) ?_
    show Steps p.tables e below (T1.setTop (mkF m 12 #[.val (.ref ra), .val (.long q1), .second] [(.long (1 : Int64)), (.long (xs.getD ((((q1).toUInt64 >>> ((6 : Int32) &&& 0x3f).toInt64.toUInt64).toInt64).toInt32).toInt.toNat 0)), (.int (((q1).toUInt64 >>> ((6 : Int32) &&& 0x3f).toInt64.toUInt64).toInt64).toInt32), (.ref rb)])) _
    refine XS.lloadN X1.here hx rfl (hb hby d3_12) rfl ?_
    show Steps p.tables e below (T1.setTop (mkF m 13 #[.val (.ref ra), .val (.long q1), .second] [(.long q1), (.long (1 : Int64)), (.long (xs.getD ((((q1).toUInt64 >>> ((6 : Int32) &&& 0x3f).toInt64.toUInt64).toInt64).toInt32).toInt.toNat 0)), (.int (((q1).toUInt64 >>> ((6 : Int32) &&& 0x3f).toInt64.toUInt64).toInt64).toInt32), (.ref rb)])) _
    refine XS.l2i X1.here hx rfl (hb hby d3_13) rfl ?_
    show Steps p.tables e below (T1.setTop (mkF m 14 #[.val (.ref ra), .val (.long q1), .second] [(.int (q1).toInt32), (.long (1 : Int64)), (.long (xs.getD ((((q1).toUInt64 >>> ((6 : Int32) &&& 0x3f).toInt64.toUInt64).toInt64).toInt32).toInt.toNat 0)), (.int (((q1).toUInt64 >>> ((6 : Int32) &&& 0x3f).toInt64.toUInt64).toInt64).toInt32), (.ref rb)])) _
    refine XS.lshl X1.here hx rfl (hb hby d3_14) rfl ?_
    show Steps p.tables e below (T1.setTop (mkF m 15 #[.val (.ref ra), .val (.long q1), .second] [(.long ((1 : Int64) <<< ((q1).toInt32 &&& 0x3f).toInt64)), (.long (xs.getD ((((q1).toUInt64 >>> ((6 : Int32) &&& 0x3f).toInt64.toUInt64).toInt64).toInt32).toInt.toNat 0)), (.int (((q1).toUInt64 >>> ((6 : Int32) &&& 0x3f).toInt64.toUInt64).toInt64).toInt32), (.ref rb)])) _
    refine X1.ldc2Long hx hown (mvT hZ (hw _ (List.mem_of_getElem? (i := 17) rfl))) (g := (mkF m 15 #[.val (.ref ra), .val (.long q1), .second] [(.long ((1 : Int64) <<< ((q1).toInt32 &&& 0x3f).toInt64)), (.long (xs.getD ((((q1).toUInt64 >>> ((6 : Int32) &&& 0x3f).toInt64.toUInt64).toInt64).toInt32).toInt.toNat 0)), (.int (((q1).toUInt64 >>> ((6 : Int32) &&& 0x3f).toInt64.toUInt64).toInt64).toInt32), (.ref rb)])) rfl (hb hby d3_15) _ ?_
    show Steps p.tables e below (T1.setTop (mkF m 18 #[.val (.ref ra), .val (.long q1), .second] [(.long (-1 : Int64)), (.long ((1 : Int64) <<< ((q1).toInt32 &&& 0x3f).toInt64)), (.long (xs.getD ((((q1).toUInt64 >>> ((6 : Int32) &&& 0x3f).toInt64.toUInt64).toInt64).toInt32).toInt.toNat 0)), (.int (((q1).toUInt64 >>> ((6 : Int32) &&& 0x3f).toInt64.toUInt64).toInt64).toInt32), (.ref rb)])) _
    refine XS.lxor X1.here hx rfl (hb hby d3_18) rfl ?_
    show Steps p.tables e below (T1.setTop (mkF m 19 #[.val (.ref ra), .val (.long q1), .second] [(.long (((1 : Int64) <<< ((q1).toInt32 &&& 0x3f).toInt64) ^^^ (-1 : Int64))), (.long (xs.getD ((((q1).toUInt64 >>> ((6 : Int32) &&& 0x3f).toInt64.toUInt64).toInt64).toInt32).toInt.toNat 0)), (.int (((q1).toUInt64 >>> ((6 : Int32) &&& 0x3f).toInt64.toUInt64).toInt64).toInt32), (.ref rb)])) _
    refine XS.land X1.here hx rfl (hb hby d3_19) rfl ?_
    show Steps p.tables e below (T1.setTop (mkF m 20 #[.val (.ref ra), .val (.long q1), .second] [(.long ((xs.getD ((((q1).toUInt64 >>> ((6 : Int32) &&& 0x3f).toInt64.toUInt64).toInt64).toInt32).toInt.toNat 0) &&& (((1 : Int64) <<< ((q1).toInt32 &&& 0x3f).toInt64) ^^^ (-1 : Int64)))), (.int (((q1).toUInt64 >>> ((6 : Int32) &&& 0x3f).toInt64.toUInt64).toInt64).toInt32), (.ref rb)])) _
    refine st3 _ ?_
    show Steps p.tables e below (T3.setTop (mkF m 21 #[.val (.ref ra), .val (.long q1), .second] [])) _
    exact X3.returnOut hx Bd.returns (hb hby d3_21) hr
  · show Q3 Z ra q1 rb xs h0 n0 _ T3.heap _
    rw [e3]
    exact ⟨rfl, N3, K3, V3_n⟩
theorem d4_0 : decode prog_1_method_7_code 0 = .ok (.aload_n 0, 1) := by decide +kernel
theorem d4_1 : decode prog_1_method_7_code 1 = .ok (.getfield 15, 3) := by decide +kernel
theorem d4_4 : decode prog_1_method_7_code 4 = .ok (.arraylength, 1) := by decide +kernel
theorem d4_5 : decode prog_1_method_7_code 5 = .ok (.ireturn, 1) := by decide +kernel
theorem ef_4 (m : MethodId) (ra : Addr) : entryFrame m #[(.ref ra)] 1 = mkF m 0 #[.val (.ref ra)] [] := by first | (simp [entryFrame, mkF, argsToLocals, Value.category, maxLocals]; done) | rfl
def own_f4  (xs : List Int64) : Int32 := (xs.length).toInt32
def Q4 (Z : State) (ra : Addr) (rb : Addr) (xs : List Int64) (h0 : Heap) (n0 : Nat) (v : Option Value) (h : Heap) (L : List Loc) : Prop := v = some (.int (own_f4 xs)) ∧ Fr n0 L ∧ h = h0
set_option maxRecDepth 65536 in
set_option maxHeartbeats 40000000 in
theorem rm4 (l : Launch) (Z : State) (a0 : Array Value) (hw : ∀ d ∈ tables_1, d.before a0 Z = true) (ws : List Jvm.Cond) (ra : Addr) (rb : Addr) (xs : List Int64) (h0 : Heap) (n0 : Nat) (Z0 : n0 ≤ h0.size) (PA0 : own_AJ Z h0 rb xs) (PE0 : Exa Z h0 ra "com/example/mini_bloom/minibloom/BitArray") (PF0 : Fld Z h0 ra "com/example/mini_bloom/minibloom/BitArray" "words" "[J" (.ref rb)) :
    MetFree l (⟨"com/example/mini_bloom/minibloom/BitArray", "words", "()I"⟩ : MethodName) (head1 (Jvm.Cond.code (⟨"com/example/mini_bloom/minibloom/BitArray", "words", "()I"⟩ : MethodName) prog_1_method_7_code 1 (some .int) :: ws) ({ frames := 0, cells := 0, slots := 0, locals := 0 } : Room)) (fun a U => a = #[(.ref ra)] ∧ Z.Warmed39 U.vm ∧ U.heap = h0) (fun _ _ _ _ _ => True) (fun _ U o U' => ∃ v L, o = .returned v ∧ Q4 Z ra rb xs h0 n0 v U'.heap L ∧ FrameEnd U o U' L ({ frames := 0, cells := 0, slots := 0, locals := 0 } : Room).cells ({ frames := 0, cells := 0, slots := 0, locals := 0 } : Room).slots) := by
  refine MetFree.of_bodySF (plainFor_of_name pn_1) hisR ?_
  intro p e s m args below meth c s₁ Bd hml0 hP hK
  obtain ⟨rfl, hZ, hh⟩ := hP
  have hx := Bd.exec
  have hby := Bd.bytes
  have hml : c.maxLocals = 1 := hml0
  have hown : s.vm.findClass "com/example/mini_bloom/minibloom/BitArray" = some m.cls := findClass_of_methodNamed Bd.named
  have hnm := (name_of_methodNamed Bd.named Bd.method).1
  have X0 : Stand p l e ({ frames := 0, cells := 0, slots := 0, locals := 0 } : Room) s m #[(.ref ra)] below meth c s₁ [] 0 0 := Stand.of_body Bd
  have hlk : meth.locks = false := by first | exact BodyLoose.notSynchronized (by assumption) | exact Body.notSynchronized (by assumption)
  have e0 : s₁.heap = h0 := by rw [← hh, Bd.state]; rfl
  have N0 := Fr.nil n0
  have pre0 : ∀ t, Steps p.tables e below (s₁.setTop (mkF m 0 #[.val (.ref ra)] [])) t → Steps p.tables e below (s₁.setTop (entryFrame m #[(.ref ra)] 1)) t := fun t k => castTop (ef_4 m ra) k
  obtain ⟨T1, X1, e1, st1⟩ := getF X0 hx hZ hown (host := "") (Or.inl (hw _ (List.mem_of_getElem? (i := 10) rfl))) Via.refl e0 PF0 (g := (mkF m 1 #[.val (.ref ra)] [(.ref ra)])) rfl rfl (hb hby d4_1)
  obtain ⟨fs, hr, hrun, hended, hW, hsame⟩ := X1.leave (v := some (.int (xs.length).toInt32)) (fun h => by rw [Bd.returns] at h; cases h) hlk
  refine ⟨_, _, pre0 _ ?_, hrun, hended, _, _, rfl, ?_, ⟨_, rfl⟩, hW, hsame.mono (by decide) (by decide)⟩
  · show Steps p.tables e below (s₁.setTop (mkF m 0 #[.val (.ref ra)] [])) _
    refine XS.aloadN X0.here hx rfl (hb hby d4_0) rfl rfl ?_
    show Steps p.tables e below (s₁.setTop (mkF m 1 #[.val (.ref ra)] [(.ref ra)])) _
    refine st1 _ ?_
    show Steps p.tables e below (T1.setTop (mkF m 4 #[.val (.ref ra)] [(.ref rb)])) _
    refine own_alenJ X1 hx hZ e1 PA0 (hb hby d4_4) _ ?_
    show Steps p.tables e below (T1.setTop (mkF m 5 #[.val (.ref ra)] [(.int (xs.length).toInt32)])) _
    exact retI X1 hx Bd.returns (hb hby d4_5) hr
  · show Q4 Z ra rb xs h0 n0 _ T1.heap _
    rw [e1]
    exact ⟨by rfl, N0, rfl⟩
theorem d5_0 : decode prog_1_method_8_code 0 = .ok (.aload_n 0, 1) := by decide +kernel
theorem d5_1 : decode prog_1_method_8_code 1 = .ok (.getfield 15, 3) := by decide +kernel
theorem d5_4 : decode prog_1_method_8_code 4 = .ok (.iload_n 1, 1) := by decide +kernel
theorem d5_5 : decode prog_1_method_8_code 5 = .ok (.laload, 1) := by decide +kernel
theorem d5_6 : decode prog_1_method_8_code 6 = .ok (.lreturn, 1) := by decide +kernel
theorem ef_5 (m : MethodId) (ra : Addr) (q1 : Int32) : entryFrame m #[(.ref ra), (.int q1)] 2 = mkF m 0 #[.val (.ref ra), .val (.int q1)] [] := by first | (simp [entryFrame, mkF, argsToLocals, Value.category, maxLocals]; done) | rfl
def own_f5 (q1 : Int32) (xs : List Int64) : Int64 := (xs.getD (q1).toInt.toNat 0)
def Q5 (Z : State) (ra : Addr) (q1 : Int32) (rb : Addr) (xs : List Int64) (h0 : Heap) (n0 : Nat) (v : Option Value) (h : Heap) (L : List Loc) : Prop := v = some (.long (own_f5 q1 xs)) ∧ Fr n0 L ∧ h = h0
set_option maxRecDepth 65536 in
set_option maxHeartbeats 40000000 in
theorem rm5 (l : Launch) (Z : State) (a0 : Array Value) (hw : ∀ d ∈ tables_1, d.before a0 Z = true) (ws : List Jvm.Cond) (ra : Addr) (q1 : Int32) (rb : Addr) (xs : List Int64) (h0 : Heap) (n0 : Nat) (Z0 : n0 ≤ h0.size) (PA0 : own_AJ Z h0 rb xs) (PE0 : Exa Z h0 ra "com/example/mini_bloom/minibloom/BitArray") (PF0 : Fld Z h0 ra "com/example/mini_bloom/minibloom/BitArray" "words" "[J" (.ref rb)) (hin : 0 ≤ (q1).toInt ∧ (q1).toInt < (xs.length : Nat)) :
    MetFree l (⟨"com/example/mini_bloom/minibloom/BitArray", "word", "(I)J"⟩ : MethodName) (head1 (Jvm.Cond.code (⟨"com/example/mini_bloom/minibloom/BitArray", "word", "(I)J"⟩ : MethodName) prog_1_method_8_code 2 (some .long) :: ws) ({ frames := 0, cells := 0, slots := 0, locals := 0 } : Room)) (fun a U => a = #[(.ref ra), (.int q1)] ∧ Z.Warmed39 U.vm ∧ U.heap = h0) (fun _ _ _ _ _ => True) (fun _ U o U' => ∃ v L, o = .returned v ∧ Q5 Z ra q1 rb xs h0 n0 v U'.heap L ∧ FrameEnd U o U' L ({ frames := 0, cells := 0, slots := 0, locals := 0 } : Room).cells ({ frames := 0, cells := 0, slots := 0, locals := 0 } : Room).slots) := by
  refine MetFree.of_bodySF (plainFor_of_name pn_1) hisR ?_
  intro p e s m args below meth c s₁ Bd hml0 hP hK
  obtain ⟨rfl, hZ, hh⟩ := hP
  have hx := Bd.exec
  have hby := Bd.bytes
  have hml : c.maxLocals = 2 := hml0
  have hown : s.vm.findClass "com/example/mini_bloom/minibloom/BitArray" = some m.cls := findClass_of_methodNamed Bd.named
  have hnm := (name_of_methodNamed Bd.named Bd.method).1
  have X0 : Stand p l e ({ frames := 0, cells := 0, slots := 0, locals := 0 } : Room) s m #[(.ref ra), (.int q1)] below meth c s₁ [] 0 0 := Stand.of_body Bd
  have hlk : meth.locks = false := by first | exact BodyLoose.notSynchronized (by assumption) | exact Body.notSynchronized (by assumption)
  have e0 : s₁.heap = h0 := by rw [← hh, Bd.state]; rfl
  have N0 := Fr.nil n0
  have pre0 : ∀ t, Steps p.tables e below (s₁.setTop (mkF m 0 #[.val (.ref ra), .val (.int q1)] [])) t → Steps p.tables e below (s₁.setTop (entryFrame m #[(.ref ra), (.int q1)] 2)) t := fun t k => castTop (ef_5 m ra q1) k
  obtain ⟨T1, X1, e1, st1⟩ := getF X0 hx hZ hown (host := "") (Or.inl (hw _ (List.mem_of_getElem? (i := 10) rfl))) Via.refl e0 PF0 (g := (mkF m 1 #[.val (.ref ra), .val (.int q1)] [(.ref ra)])) rfl rfl (hb hby d5_1)
  have in_5_2 : 0 ≤ (q1).toInt ∧ (q1).toInt < (xs.length : Nat) := hin
  obtain ⟨fs, hr, hrun, hended, hW, hsame⟩ := X1.leave (v := some (.long (xs.getD (q1).toInt.toNat 0))) (fun h => by rw [Bd.returns] at h; cases h) hlk
  refine ⟨_, _, pre0 _ ?_, hrun, hended, _, _, rfl, ?_, ⟨_, rfl⟩, hW, hsame.mono (by decide) (by decide)⟩
  · show Steps p.tables e below (s₁.setTop (mkF m 0 #[.val (.ref ra), .val (.int q1)] [])) _
    refine XS.aloadN X0.here hx rfl (hb hby d5_0) rfl rfl ?_
    show Steps p.tables e below (s₁.setTop (mkF m 1 #[.val (.ref ra), .val (.int q1)] [(.ref ra)])) _
    refine st1 _ ?_
    show Steps p.tables e below (T1.setTop (mkF m 4 #[.val (.ref ra), .val (.int q1)] [(.ref rb)])) _
    refine XS.iloadN X1.here hx rfl (hb hby d5_4) rfl ?_
    show Steps p.tables e below (T1.setTop (mkF m 5 #[.val (.ref ra), .val (.int q1)] [(.int q1), (.ref rb)])) _
    refine own_laload X1 hx hZ e1 PA0 in_5_2 (hb hby d5_5) _ ?_
    show Steps p.tables e below (T1.setTop (mkF m 6 #[.val (.ref ra), .val (.int q1)] [(.long (xs.getD (q1).toInt.toNat 0))])) _
    exact X1.lreturnOut hx Bd.returns (hb hby d5_6) hr
  · show Q5 Z ra q1 rb xs h0 n0 _ T1.heap _
    rw [e1]
    exact ⟨by rfl, N0, rfl⟩
theorem pn_5 : plainName "com/example/mini_bloom/minibloom/BitArrayClearBitPinLaw" = true := by first | (simp [plainName, overriddenIn]; done) | decide +kernel
theorem ef_0 (m : MethodId) (q0 : Int64) (q1 : Int64) (q2 : Int32) : entryFrame m #[(.long q0), (.long q1), (.int q2)] maxLocals = mkF m 0 #[.val (.long q0), .second, .val (.long q1), .second, .val (.int q2), .unset, .unset, .unset, .unset, .unset, .unset, .unset, .unset, .unset, .unset, .unset, .unset] [] := by first | (simp [entryFrame, mkF, argsToLocals, Value.category, maxLocals]; done) | rfl
theorem pd_6 : parseMethodDescriptor "([J)V" = some ⟨[(.array .long)], none⟩ := by decide +kernel
theorem pd_7 : parseMethodDescriptor "(J)V" = some ⟨[.long], none⟩ := by decide +kernel
theorem pd_8 : parseMethodDescriptor "()I" = some ⟨[], some .int⟩ := by decide +kernel
theorem pd_9 : parseMethodDescriptor "(I)J" = some ⟨[.int], some .long⟩ := by decide +kernel
def own_f0 (q0 : Int64) (q1 : Int64) (q2 : Int32) : Int32 := let v1 := ((q2 &&& (127 : Int32))).toInt64
  (if v1 < (64 : Int64) then let v11 := ((v1 - (0 : Int64))).toInt32
  let v13 := ((1 : Int64) <<< (v11 &&& 0x3f).toInt64)
  let v15 := ((q0 ||| v13) ^^^ v13)
  (if (own_f4  ((own_clr ([q0, q1]) v1))) = (2 : Int32) then (if (own_f5 ((0 : Int32)) ((own_clr ([q0, q1]) v1))) = v15 then (if (own_f5 ((1 : Int32)) ((own_clr ([q0, q1]) v1))) = q1 then (1 : Int32) else (0 : Int32)) else (0 : Int32)) else (0 : Int32)) else let v26 := ((v1 - (64 : Int64))).toInt32
  let v28 := ((1 : Int64) <<< (v26 &&& 0x3f).toInt64)
  let v30 := ((q1 ||| v28) ^^^ v28)
  (if (own_f4  ((own_clr ([q0, q1]) v1))) = (2 : Int32) then (if (own_f5 ((0 : Int32)) ((own_clr ([q0, q1]) v1))) = q0 then (if (own_f5 ((1 : Int32)) ((own_clr ([q0, q1]) v1))) = v30 then (1 : Int32) else (0 : Int32)) else (0 : Int32)) else (0 : Int32)))
def Q0 (Z : State) (q0 : Int64) (q1 : Int64) (q2 : Int32)  (h0 : Heap) (n0 : Nat) (v : Option Value) (h : Heap) (L : List Loc) : Prop := v = some (.int (own_f0 q0 q1 q2)) ∧ Fr n0 L
set_option maxRecDepth 65536 in
set_option maxHeartbeats 40000000 in
theorem rm0 (l : Launch) (Z : State) (a0 : Array Value) (hw : ∀ d ∈ tables_1, d.before a0 Z = true) (ws : List Jvm.Cond) (q0 : Int64) (q1 : Int64) (q2 : Int32)  (h0 : Heap) (n0 : Nat) (Z0 : n0 ≤ h0.size)  :
    MetFree l x (head1 (Jvm.Cond.code x code maxLocals ret :: ws) room_1) (fun a U => a = #[(.long q0), (.long q1), (.int q2)] ∧ Z.Warmed39 U.vm ∧ U.heap = h0) (fun _ _ _ _ _ => True) (fun _ U o U' => ∃ v L, o = .returned v ∧ Q0 Z q0 q1 q2 h0 n0 v U'.heap L ∧ FrameEnd U o U' L room_1.cells room_1.slots) := by
  refine MetFree.of_bodySF (plainFor_of_name pn_5) hisR ?_
  intro p e s m args below meth c s₁ Bd hml0 hP hK
  obtain ⟨rfl, hZ, hh⟩ := hP
  have hx := Bd.exec
  have hby := Bd.bytes
  have hml : c.maxLocals = 17 := hml0
  have hown : s.vm.findClass "com/example/mini_bloom/minibloom/BitArrayClearBitPinLaw" = some m.cls := findClass_of_methodNamed Bd.named
  have hnm := (name_of_methodNamed Bd.named Bd.method).1
  have X0 : Stand p l e room_1 s m #[(.long q0), (.long q1), (.int q2)] below meth c s₁ [] 0 0 := Stand.of_body Bd
  have hlk : meth.locks = false := by first | exact BodyLoose.notSynchronized (by assumption) | exact Body.notSynchronized (by assumption)
  have e0 : s₁.heap = h0 := by rw [← hh, Bd.state]; rfl
  have N0 := Fr.nil n0
  have pre0 : ∀ t, Steps p.tables e below (s₁.setTop (mkF m 0 #[.val (.long q0), .second, .val (.long q1), .second, .val (.int q2), .unset, .unset, .unset, .unset, .unset, .unset, .unset, .unset, .unset, .unset, .unset, .unset] [])) t → Steps p.tables e below (s₁.setTop (entryFrame m #[(.long q0), (.long q1), (.int q2)] maxLocals)) t := fun t k => castTop (ef_0 m q0 q1 q2) k
  obtain ⟨v1, hv1⟩ : ∃ z : Int64, z = ((q2 &&& (127 : Int32))).toInt64 := ⟨_, rfl⟩
  have pre2 : ∀ t, Steps p.tables e below (s₁.setTop (mkF m 6 #[.val (.long q0), .second, .val (.long q1), .second, .val (.int q2), .unset, .unset, .unset, .unset, .unset, .unset, .unset, .unset, .unset, .unset, .unset, .unset] [(.long v1)])) t → Steps p.tables e below (s₁.setTop (entryFrame m #[(.long q0), (.long q1), (.int q2)] maxLocals)) t := by
    rw [hv1]
    intro t k
    refine pre0 t ?_
    show Steps p.tables e below (s₁.setTop (mkF m 0 #[.val (.long q0), .second, .val (.long q1), .second, .val (.int q2), .unset, .unset, .unset, .unset, .unset, .unset, .unset, .unset, .unset, .unset, .unset, .unset] [])) _
    refine XS.iload X0.here hx rfl (hb hby at_0) rfl ?_
    show Steps p.tables e below (s₁.setTop (mkF m 2 #[.val (.long q0), .second, .val (.long q1), .second, .val (.int q2), .unset, .unset, .unset, .unset, .unset, .unset, .unset, .unset, .unset, .unset, .unset, .unset] [(.int q2)])) _
    refine XS.bipush X0.here hx rfl (hb hby at_2) ?_
    show Steps p.tables e below (s₁.setTop (mkF m 4 #[.val (.long q0), .second, .val (.long q1), .second, .val (.int q2), .unset, .unset, .unset, .unset, .unset, .unset, .unset, .unset, .unset, .unset, .unset, .unset] [(.int (127 : Int32)), (.int q2)])) _
    refine XS.iand X0.here hx rfl (hb hby at_4) rfl ?_
    show Steps p.tables e below (s₁.setTop (mkF m 5 #[.val (.long q0), .second, .val (.long q1), .second, .val (.int q2), .unset, .unset, .unset, .unset, .unset, .unset, .unset, .unset, .unset, .unset, .unset, .unset] [(.int (q2 &&& (127 : Int32)))])) _
    refine XS.i2l X0.here hx rfl (hb hby at_5) rfl ?_
    exact k
  obtain ⟨T3, h3, cA3, X3, e3, E3, A3, st3⟩ := newP X0 hx hZ (aty := .long) (hw _ (List.mem_of_getElem? (i := 0) rfl)) e0 (g := (mkF m 9 #[.val (.long q0), .second, .val (.long q1), .second, .val (.int q2), .val (.long v1), .second, .unset, .unset, .unset, .unset, .unset, .unset, .unset, .unset, .unset, .unset] [(.int (2 : Int32))])) rfl (hb hby at_9) rfl (by decide) (cap := 2) (by decide) (by decide) (by decide) (by decide)
  obtain ⟨a3, g3⟩ : ∃ z, z = h0.size := ⟨_, rfl⟩
  rw [← g3] at A3 st3
  have ge_a3 : n0 ≤ a3 := g3 ▸ Z0
  have sz3 : n0 ≤ h3.size := Nat.le_trans Z0 E3.1
  have V3_n : own_AJ Z h3 a3 [(0 : Int64), (0 : Int64)] := own_AJ_new A3 (k := 2) (by decide)
  obtain ⟨T4, h4, X4, e4, W4, V4, st4⟩ := own_lastore X3 hx hZ e3 V3_n (j := (0 : Int32)) (show 0 ≤ Int32.toInt (0 : Int32) ∧ Int32.toInt (0 : Int32) < ((2 : Nat) : Int) by decide) (x := q0) (hb hby at_17) (Ls := #[.val (.long q0), .second, .val (.long q1), .second, .val (.int q2), .val (.long v1), .second, .val (.ref a3), .unset, .unset, .unset, .unset, .unset, .unset, .unset, .unset, .unset]) (rest := [])
  have sz4 : n0 ≤ h4.size := Nat.le_trans sz3 (Keep.of_wr W4).1
  have N4 := Fr.snoc X4 N0 ge_a3
  have V4_n : own_AJ Z h4 a3 [q0, (0 : Int64)] := V4
  obtain ⟨T5, h5, X5, e5, W5, V5, st5⟩ := own_lastore X4 hx hZ e4 V4_n (j := (1 : Int32)) (show 0 ≤ Int32.toInt (1 : Int32) ∧ Int32.toInt (1 : Int32) < ((2 : Nat) : Int) by decide) (x := q1) (hb hby at_22) (Ls := #[.val (.long q0), .second, .val (.long q1), .second, .val (.int q2), .val (.long v1), .second, .val (.ref a3), .unset, .unset, .unset, .unset, .unset, .unset, .unset, .unset, .unset]) (rest := [])
  have sz5 : n0 ≤ h5.size := Nat.le_trans sz4 (Keep.of_wr W5).1
  have N5 := Fr.snoc X5 N4 ge_a3
  have V5_n : own_AJ Z h5 a3 [q0, q1] := V5
  obtain ⟨T6, h6, X6, e6, E6, A6, D6, -, st6⟩ := newO X5 hx hZ hown (hw _ (List.mem_of_getElem? (i := 1) rfl)) (hw _ (List.mem_of_getElem? (i := 2) rfl)) (hw _ (List.mem_of_getElem? (i := 3) rfl)) e5 (g := (mkF m 23 #[.val (.long q0), .second, .val (.long q1), .second, .val (.int q2), .val (.long v1), .second, .val (.ref a3), .unset, .unset, .unset, .unset, .unset, .unset, .unset, .unset, .unset] [])) rfl (hb hby at_23) (by decide) (by decide)
  obtain ⟨a6, g6⟩ : ∃ z, z = h5.size := ⟨_, rfl⟩
  rw [← g6] at A6 D6 st6
  have ne_a3_a6 : a3 ≠ a6 := g6 ▸ Nat.ne_of_lt V5_n.lt
  have ge_a6 : n0 ≤ a6 := g6 ▸ sz5
  have V6_a3 : own_AJ Z h6 a3 [q0, q1] := V5_n.ext E6
  have sz6 : n0 ≤ h6.size := Nat.le_trans sz5 E6.1
  have F6_n0 : Fld Z h6 a6 "com/example/mini_bloom/minibloom/BitArray" "words" "[J" .null := D6 (Or.inr (hw _ (List.mem_of_getElem? (i := 11) rfl))) (ty := (.array .long)) (by decide)
  obtain ⟨_, _, ⟨T7, L7, k7, n7⟩, -, X7, ⟨Lc7, hQ7, l7, y7, z7⟩, st7⟩ := X6.specialBack hx (y := (⟨"com/example/mini_bloom/minibloom/BitArray", "<init>", "([J)V"⟩ : MethodName)) rfl hown (mvT hZ (hw _ (List.mem_of_getElem? (i := 4) rfl))) (mvT hZ (hw _ (List.mem_of_getElem? (i := 5) rfl))) (mvT hZ (hw _ (List.mem_of_getElem? (i := 6) rfl))) (by decide) (backOf (W := 1) (rm1 l Z a0 hw [] a6 a3  h6 n0 sz6 A6 F6_n0 ge_a6 ) hZ (hw _ (List.mem_of_getElem? (i := 6) rfl)) (hw _ (List.mem_of_getElem? (i := 3) rfl)) (by decide) (by decide)) (g := (mkF m 29 #[.val (.long q0), .second, .val (.long q1), .second, .val (.int q2), .val (.long v1), .second, .val (.ref a3), .unset, .unset, .unset, .unset, .unset, .unset, .unset, .unset, .unset] [(.ref a3), (.ref a6), (.ref a6)])) rfl (by rw [hml]; rfl) (Steps.refl _) (a := a6) (argsL := [(.ref a3)]) (rest := [(.ref a6)]) (lenOf pd_6 rfl) rfl (by show 2 * 0 + _ ≤ _; exact Nat.le_of_eq rfl) (hb hby at_29) (fun _ _ => ⟨rfl, e6, (by decide : 2 + 0 ≤ _), (by decide : 3 + 0 ≤ _)⟩)
  dsimp only [Pt.U, Pt.locs, Pt.cells, Pt.slots] at X7 l7 y7 z7 st7 hQ7
  subst l7 y7 z7
  obtain ⟨rfl, N7q, K7, A7_o0, F7_o0⟩ := hQ7
  obtain ⟨h7, e7⟩ : ∃ z, T7.heap = z := ⟨_, rfl⟩
  rw [e7] at K7 A7_o0 F7_o0
  have V7_a3 : own_AJ Z h7 a3 [q0, q1] := V6_a3.keep K7 (ninS ne_a3_a6 nin0)
  have A7_a6 : Exa Z h7 a6 "com/example/mini_bloom/minibloom/BitArray" := A6.keep K7
  have sz7 : n0 ≤ h7.size := Nat.le_trans sz6 K7.1
  have N7 := Fr.app N5 N7q
  obtain ⟨cq8, kq8, q8a, q8b, q8c⟩ := isOf hZ e7 A7_o0
  obtain ⟨_, _, ⟨T8, L8, k8, n8⟩, -, X8, ⟨Lc8, hQ8, l8, y8, z8⟩, st8⟩ := X7.virtualBack hx (y := (⟨"com/example/mini_bloom/minibloom/BitArray", "clearBit", "(J)V"⟩ : MethodName)) (z := (⟨"com/example/mini_bloom/minibloom/BitArray", "clearBit", "(J)V"⟩ : MethodName)) hown (mvT hZ (hw _ (List.mem_of_getElem? (i := 12) rfl))) (mvT hZ (hw _ (List.mem_of_getElem? (i := 13) rfl))) (notFace_of_selects (args := #[]) (mvT hZ (hw _ (List.mem_of_getElem? (i := 15) rfl)))) (mvT hZ (hw _ (List.mem_of_getElem? (i := 15) rfl))) (mvT hZ (hw _ (List.mem_of_getElem? (i := 14) rfl))) (by decide) (backOf (W := 0) (rm3 l Z a0 hw [] a6 v1 a3 [q0, q1] h7 n0 sz7 V7_a3 A7_o0 F7_o0 ge_a3 (Ne.symm ne_a3_a6) (own_wdin (own_inK (by assumption)))) hZ (hw _ (List.mem_of_getElem? (i := 16) rfl)) (hw _ (List.mem_of_getElem? (i := 3) rfl)) (by decide) (by decide)) q8a q8c (g := (mkF m 38 #[.val (.long q0), .second, .val (.long q1), .second, .val (.int q2), .val (.long v1), .second, .val (.ref a3), .val (.ref a6), .unset, .unset, .unset, .unset, .unset, .unset, .unset, .unset] [(.long v1), (.ref a6)])) rfl (by rw [hml]; rfl) (Steps.refl _) (argsL := [(.long v1)]) (rest := []) (lenOf pd_7 rfl) rfl (by show 2 * 0 + _ ≤ _; exact Nat.le_of_eq rfl) (hb hby at_38) (fun _ _ => ⟨rfl, e7, (by decide : 2 + 0 ≤ _), (by decide : 3 + 0 ≤ _)⟩)
  dsimp only [Pt.U, Pt.locs, Pt.cells, Pt.slots] at X8 l8 y8 z8 st8 hQ8
  subst l8 y8 z8
  obtain ⟨rfl, N8q, K8, V8_o0⟩ := hQ8
  obtain ⟨h8, e8⟩ : ∃ z, T8.heap = z := ⟨_, rfl⟩
  rw [e8] at K8 V8_o0
  have A8_a6 : Exa Z h8 a6 "com/example/mini_bloom/minibloom/BitArray" := A7_o0.keep K8
  have F8_a6_0 : Fld Z h8 a6 "com/example/mini_bloom/minibloom/BitArray" "words" "[J" (.ref a3) := F7_o0.keep K8 (ninS (Ne.symm ne_a3_a6) nin0)
  have sz8 : n0 ≤ h8.size := Nat.le_trans sz7 K8.1
  have N8 := Fr.app N7 N8q
  have pre9 : ∀ t, Steps p.tables e below (T8.setTop (mkF m 47 #[.val (.long q0), .second, .val (.long q1), .second, .val (.int q2), .val (.long v1), .second, .val (.ref a3), .val (.ref a6), .unset, .unset, .unset, .unset, .unset, .unset, .unset, .unset] [(.int (lcmpW v1 (64 : Int64)))])) t → Steps p.tables e below (s₁.setTop (entryFrame m #[(.long q0), (.long q1), (.int q2)] maxLocals)) t := by
    intro t k
    refine pre2 t ?_
    show Steps p.tables e below (s₁.setTop (mkF m 6 #[.val (.long q0), .second, .val (.long q1), .second, .val (.int q2), .unset, .unset, .unset, .unset, .unset, .unset, .unset, .unset, .unset, .unset, .unset, .unset] [(.long v1)])) _
    refine XS.lstore X0.here hx rfl (hb hby at_6) rfl (l' := #[.val (.long q0), .second, .val (.long q1), .second, .val (.int q2), .val (.long v1), .second, .unset, .unset, .unset, .unset, .unset, .unset, .unset, .unset, .unset, .unset]) rfl ?_
    show Steps p.tables e below (s₁.setTop (mkF m 8 #[.val (.long q0), .second, .val (.long q1), .second, .val (.int q2), .val (.long v1), .second, .unset, .unset, .unset, .unset, .unset, .unset, .unset, .unset, .unset, .unset] [])) _
    refine XS.iconst X0.here hx rfl (hb hby at_8) ?_
    show Steps p.tables e below (s₁.setTop (mkF m 9 #[.val (.long q0), .second, .val (.long q1), .second, .val (.int q2), .val (.long v1), .second, .unset, .unset, .unset, .unset, .unset, .unset, .unset, .unset, .unset, .unset] [(.int (2 : Int32))])) _
    refine st3 _ ?_
    show Steps p.tables e below (T3.setTop (mkF m 11 #[.val (.long q0), .second, .val (.long q1), .second, .val (.int q2), .val (.long v1), .second, .unset, .unset, .unset, .unset, .unset, .unset, .unset, .unset, .unset, .unset] [(.ref a3)])) _
    refine XS.astore X3.here hx rfl (hb hby at_11) rfl rfl (l' := #[.val (.long q0), .second, .val (.long q1), .second, .val (.int q2), .val (.long v1), .second, .val (.ref a3), .unset, .unset, .unset, .unset, .unset, .unset, .unset, .unset, .unset]) rfl ?_
    show Steps p.tables e below (T3.setTop (mkF m 13 #[.val (.long q0), .second, .val (.long q1), .second, .val (.int q2), .val (.long v1), .second, .val (.ref a3), .unset, .unset, .unset, .unset, .unset, .unset, .unset, .unset, .unset] [])) _
    refine XS.aload X3.here hx rfl (hb hby at_13) rfl rfl ?_
    show Steps p.tables e below (T3.setTop (mkF m 15 #[.val (.long q0), .second, .val (.long q1), .second, .val (.int q2), .val (.long v1), .second, .val (.ref a3), .unset, .unset, .unset, .unset, .unset, .unset, .unset, .unset, .unset] [(.ref a3)])) _
    refine XS.iconst X3.here hx rfl (hb hby at_15) ?_
    show Steps p.tables e below (T3.setTop (mkF m 16 #[.val (.long q0), .second, .val (.long q1), .second, .val (.int q2), .val (.long v1), .second, .val (.ref a3), .unset, .unset, .unset, .unset, .unset, .unset, .unset, .unset, .unset] [(.int (0 : Int32)), (.ref a3)])) _
    refine XS.lloadN X3.here hx rfl (hb hby at_16) rfl ?_
    show Steps p.tables e below (T3.setTop (mkF m 17 #[.val (.long q0), .second, .val (.long q1), .second, .val (.int q2), .val (.long v1), .second, .val (.ref a3), .unset, .unset, .unset, .unset, .unset, .unset, .unset, .unset, .unset] [(.long q0), (.int (0 : Int32)), (.ref a3)])) _
    refine st4 _ ?_
    show Steps p.tables e below (T4.setTop (mkF m 18 #[.val (.long q0), .second, .val (.long q1), .second, .val (.int q2), .val (.long v1), .second, .val (.ref a3), .unset, .unset, .unset, .unset, .unset, .unset, .unset, .unset, .unset] [])) _
    refine XS.aload X4.here hx rfl (hb hby at_18) rfl rfl ?_
    show Steps p.tables e below (T4.setTop (mkF m 20 #[.val (.long q0), .second, .val (.long q1), .second, .val (.int q2), .val (.long v1), .second, .val (.ref a3), .unset, .unset, .unset, .unset, .unset, .unset, .unset, .unset, .unset] [(.ref a3)])) _
    refine XS.iconst X4.here hx rfl (hb hby at_20) ?_
    show Steps p.tables e below (T4.setTop (mkF m 21 #[.val (.long q0), .second, .val (.long q1), .second, .val (.int q2), .val (.long v1), .second, .val (.ref a3), .unset, .unset, .unset, .unset, .unset, .unset, .unset, .unset, .unset] [(.int (1 : Int32)), (.ref a3)])) _
    refine XS.lloadN X4.here hx rfl (hb hby at_21) rfl ?_
    show Steps p.tables e below (T4.setTop (mkF m 22 #[.val (.long q0), .second, .val (.long q1), .second, .val (.int q2), .val (.long v1), .second, .val (.ref a3), .unset, .unset, .unset, .unset, .unset, .unset, .unset, .unset, .unset] [(.long q1), (.int (1 : Int32)), (.ref a3)])) _
    refine st5 _ ?_
    show Steps p.tables e below (T5.setTop (mkF m 23 #[.val (.long q0), .second, .val (.long q1), .second, .val (.int q2), .val (.long v1), .second, .val (.ref a3), .unset, .unset, .unset, .unset, .unset, .unset, .unset, .unset, .unset] [])) _
    refine st6 _ ?_
    show Steps p.tables e below (T6.setTop (mkF m 26 #[.val (.long q0), .second, .val (.long q1), .second, .val (.int q2), .val (.long v1), .second, .val (.ref a3), .unset, .unset, .unset, .unset, .unset, .unset, .unset, .unset, .unset] [(.ref a6)])) _
    refine XS.dup X6.here hx rfl (hb hby at_26) rfl rfl ?_
    show Steps p.tables e below (T6.setTop (mkF m 27 #[.val (.long q0), .second, .val (.long q1), .second, .val (.int q2), .val (.long v1), .second, .val (.ref a3), .unset, .unset, .unset, .unset, .unset, .unset, .unset, .unset, .unset] [(.ref a6), (.ref a6)])) _
    refine XS.aload X6.here hx rfl (hb hby at_27) rfl rfl ?_
    show Steps p.tables e below (T6.setTop (mkF m 29 #[.val (.long q0), .second, .val (.long q1), .second, .val (.int q2), .val (.long v1), .second, .val (.ref a3), .unset, .unset, .unset, .unset, .unset, .unset, .unset, .unset, .unset] [(.ref a3), (.ref a6), (.ref a6)])) _
    refine st7.trans ?_
    show Steps p.tables e below (T7.setTop (mkF m 32 #[.val (.long q0), .second, .val (.long q1), .second, .val (.int q2), .val (.long v1), .second, .val (.ref a3), .unset, .unset, .unset, .unset, .unset, .unset, .unset, .unset, .unset] [(.ref a6)])) _
    refine XS.astore X7.here hx rfl (hb hby at_32) rfl rfl (l' := #[.val (.long q0), .second, .val (.long q1), .second, .val (.int q2), .val (.long v1), .second, .val (.ref a3), .val (.ref a6), .unset, .unset, .unset, .unset, .unset, .unset, .unset, .unset]) rfl ?_
    show Steps p.tables e below (T7.setTop (mkF m 34 #[.val (.long q0), .second, .val (.long q1), .second, .val (.int q2), .val (.long v1), .second, .val (.ref a3), .val (.ref a6), .unset, .unset, .unset, .unset, .unset, .unset, .unset, .unset] [])) _
    refine XS.aload X7.here hx rfl (hb hby at_34) rfl rfl ?_
    show Steps p.tables e below (T7.setTop (mkF m 36 #[.val (.long q0), .second, .val (.long q1), .second, .val (.int q2), .val (.long v1), .second, .val (.ref a3), .val (.ref a6), .unset, .unset, .unset, .unset, .unset, .unset, .unset, .unset] [(.ref a6)])) _
    refine XS.lload X7.here hx rfl (hb hby at_36) rfl ?_
    show Steps p.tables e below (T7.setTop (mkF m 38 #[.val (.long q0), .second, .val (.long q1), .second, .val (.int q2), .val (.long v1), .second, .val (.ref a3), .val (.ref a6), .unset, .unset, .unset, .unset, .unset, .unset, .unset, .unset] [(.long v1), (.ref a6)])) _
    refine st8.trans ?_
    show Steps p.tables e below (T8.setTop (mkF m 41 #[.val (.long q0), .second, .val (.long q1), .second, .val (.int q2), .val (.long v1), .second, .val (.ref a3), .val (.ref a6), .unset, .unset, .unset, .unset, .unset, .unset, .unset, .unset] [])) _
    refine XS.lload X8.here hx rfl (hb hby at_41) rfl ?_
    show Steps p.tables e below (T8.setTop (mkF m 43 #[.val (.long q0), .second, .val (.long q1), .second, .val (.int q2), .val (.long v1), .second, .val (.ref a3), .val (.ref a6), .unset, .unset, .unset, .unset, .unset, .unset, .unset, .unset] [(.long v1)])) _
    refine X8.ldc2Long hx hown (mvT hZ (hw _ (List.mem_of_getElem? (i := 18) rfl))) (g := (mkF m 43 #[.val (.long q0), .second, .val (.long q1), .second, .val (.int q2), .val (.long v1), .second, .val (.ref a3), .val (.ref a6), .unset, .unset, .unset, .unset, .unset, .unset, .unset, .unset] [(.long v1)])) rfl (hb hby at_43) _ ?_
    show Steps p.tables e below (T8.setTop (mkF m 46 #[.val (.long q0), .second, .val (.long q1), .second, .val (.int q2), .val (.long v1), .second, .val (.ref a3), .val (.ref a6), .unset, .unset, .unset, .unset, .unset, .unset, .unset, .unset] [(.long (64 : Int64)), (.long v1)])) _
    refine XS.lcmp X8.here hx rfl (hb hby at_46) rfl ?_
    exact k
  by_cases c10 : v1 < (64 : Int64)
  · obtain ⟨v11, hv11⟩ : ∃ z : Int32, z = ((v1 - (0 : Int64))).toInt32 := ⟨_, rfl⟩
    have pre12 : ∀ t, Steps p.tables e below (T8.setTop (mkF m 68 #[.val (.long q0), .second, .val (.long q1), .second, .val (.int q2), .val (.long v1), .second, .val (.ref a3), .val (.ref a6), .val (.int (0 : Int32)), .unset, .unset, .unset, .unset, .unset, .unset, .unset] [(.int v11)])) t → Steps p.tables e below (s₁.setTop (entryFrame m #[(.long q0), (.long q1), (.int q2)] maxLocals)) t := by
      rw [hv11]
      intro t k
      refine pre9 t ?_
      show Steps p.tables e below (T8.setTop (mkF m 47 #[.val (.long q0), .second, .val (.long q1), .second, .val (.int q2), .val (.long v1), .second, .val (.ref a3), .val (.ref a6), .unset, .unset, .unset, .unset, .unset, .unset, .unset, .unset] [(.int (lcmpW v1 (64 : Int64)))])) _
      refine XS.ifNo X8.here hx rfl (hb hby at_47) rfl ((if0 _ _).trans (tlt ((lw_lt v1 (64 : Int64)).mpr c10)).2.1) ?_
      show Steps p.tables e below (T8.setTop (mkF m 50 #[.val (.long q0), .second, .val (.long q1), .second, .val (.int q2), .val (.long v1), .second, .val (.ref a3), .val (.ref a6), .unset, .unset, .unset, .unset, .unset, .unset, .unset, .unset] [])) _
      refine XS.iconst X8.here hx rfl (hb hby at_50) ?_
      show Steps p.tables e below (T8.setTop (mkF m 51 #[.val (.long q0), .second, .val (.long q1), .second, .val (.int q2), .val (.long v1), .second, .val (.ref a3), .val (.ref a6), .unset, .unset, .unset, .unset, .unset, .unset, .unset, .unset] [(.int (0 : Int32))])) _
      refine XS.goto X8.here hx rfl (pc0 := 51) (pc' := 55) rfl (hb hby at_51) (by decide) (by decide) ?_
      show Steps p.tables e below (T8.setTop (mkF m 55 #[.val (.long q0), .second, .val (.long q1), .second, .val (.int q2), .val (.long v1), .second, .val (.ref a3), .val (.ref a6), .unset, .unset, .unset, .unset, .unset, .unset, .unset, .unset] [(.int (0 : Int32))])) _
      refine XS.istore X8.here hx rfl (hb hby at_55) rfl (l' := #[.val (.long q0), .second, .val (.long q1), .second, .val (.int q2), .val (.long v1), .second, .val (.ref a3), .val (.ref a6), .val (.int (0 : Int32)), .unset, .unset, .unset, .unset, .unset, .unset, .unset]) rfl ?_
      show Steps p.tables e below (T8.setTop (mkF m 57 #[.val (.long q0), .second, .val (.long q1), .second, .val (.int q2), .val (.long v1), .second, .val (.ref a3), .val (.ref a6), .val (.int (0 : Int32)), .unset, .unset, .unset, .unset, .unset, .unset, .unset] [])) _
      refine XS.lload X8.here hx rfl (hb hby at_57) rfl ?_
      show Steps p.tables e below (T8.setTop (mkF m 59 #[.val (.long q0), .second, .val (.long q1), .second, .val (.int q2), .val (.long v1), .second, .val (.ref a3), .val (.ref a6), .val (.int (0 : Int32)), .unset, .unset, .unset, .unset, .unset, .unset, .unset] [(.long v1)])) _
      refine X8.ldc2Long hx hown (mvT hZ (hw _ (List.mem_of_getElem? (i := 18) rfl))) (g := (mkF m 59 #[.val (.long q0), .second, .val (.long q1), .second, .val (.int q2), .val (.long v1), .second, .val (.ref a3), .val (.ref a6), .val (.int (0 : Int32)), .unset, .unset, .unset, .unset, .unset, .unset, .unset] [(.long v1)])) rfl (hb hby at_59) _ ?_
      show Steps p.tables e below (T8.setTop (mkF m 62 #[.val (.long q0), .second, .val (.long q1), .second, .val (.int q2), .val (.long v1), .second, .val (.ref a3), .val (.ref a6), .val (.int (0 : Int32)), .unset, .unset, .unset, .unset, .unset, .unset, .unset] [(.long (64 : Int64)), (.long v1)])) _
      refine XS.iload X8.here hx rfl (hb hby at_62) rfl ?_
      show Steps p.tables e below (T8.setTop (mkF m 64 #[.val (.long q0), .second, .val (.long q1), .second, .val (.int q2), .val (.long v1), .second, .val (.ref a3), .val (.ref a6), .val (.int (0 : Int32)), .unset, .unset, .unset, .unset, .unset, .unset, .unset] [(.int (0 : Int32)), (.long (64 : Int64)), (.long v1)])) _
      refine XS.i2l X8.here hx rfl (hb hby at_64) rfl ?_
      show Steps p.tables e below (T8.setTop (mkF m 65 #[.val (.long q0), .second, .val (.long q1), .second, .val (.int q2), .val (.long v1), .second, .val (.ref a3), .val (.ref a6), .val (.int (0 : Int32)), .unset, .unset, .unset, .unset, .unset, .unset, .unset] [(.long (0 : Int64)), (.long (64 : Int64)), (.long v1)])) _
      refine XS.lmul X8.here hx rfl (hb hby at_65) rfl ?_
      show Steps p.tables e below (T8.setTop (mkF m 66 #[.val (.long q0), .second, .val (.long q1), .second, .val (.int q2), .val (.long v1), .second, .val (.ref a3), .val (.ref a6), .val (.int (0 : Int32)), .unset, .unset, .unset, .unset, .unset, .unset, .unset] [(.long (0 : Int64)), (.long v1)])) _
      refine XS.lsub X8.here hx rfl (hb hby at_66) rfl ?_
      show Steps p.tables e below (T8.setTop (mkF m 67 #[.val (.long q0), .second, .val (.long q1), .second, .val (.int q2), .val (.long v1), .second, .val (.ref a3), .val (.ref a6), .val (.int (0 : Int32)), .unset, .unset, .unset, .unset, .unset, .unset, .unset] [(.long (v1 - (0 : Int64)))])) _
      refine XS.l2i X8.here hx rfl (hb hby at_67) rfl ?_
      exact k
    obtain ⟨v13, hv13⟩ : ∃ z : Int64, z = ((1 : Int64) <<< (v11 &&& 0x3f).toInt64) := ⟨_, rfl⟩
    have pre14 : ∀ t, Steps p.tables e below (T8.setTop (mkF m 74 #[.val (.long q0), .second, .val (.long q1), .second, .val (.int q2), .val (.long v1), .second, .val (.ref a3), .val (.ref a6), .val (.int (0 : Int32)), .val (.int v11), .unset, .unset, .unset, .unset, .unset, .unset] [(.long v13)])) t → Steps p.tables e below (s₁.setTop (entryFrame m #[(.long q0), (.long q1), (.int q2)] maxLocals)) t := by
      rw [hv13]
      intro t k
      refine pre12 t ?_
      show Steps p.tables e below (T8.setTop (mkF m 68 #[.val (.long q0), .second, .val (.long q1), .second, .val (.int q2), .val (.long v1), .second, .val (.ref a3), .val (.ref a6), .val (.int (0 : Int32)), .unset, .unset, .unset, .unset, .unset, .unset, .unset] [(.int v11)])) _
      refine XS.istore X8.here hx rfl (hb hby at_68) rfl (l' := #[.val (.long q0), .second, .val (.long q1), .second, .val (.int q2), .val (.long v1), .second, .val (.ref a3), .val (.ref a6), .val (.int (0 : Int32)), .val (.int v11), .unset, .unset, .unset, .unset, .unset, .unset]) rfl ?_
      show Steps p.tables e below (T8.setTop (mkF m 70 #[.val (.long q0), .second, .val (.long q1), .second, .val (.int q2), .val (.long v1), .second, .val (.ref a3), .val (.ref a6), .val (.int (0 : Int32)), .val (.int v11), .unset, .unset, .unset, .unset, .unset, .unset] [])) _
      refine XS.lconst X8.here hx rfl (hb hby at_70) ?_
      show Steps p.tables e below (T8.setTop (mkF m 71 #[.val (.long q0), .second, .val (.long q1), .second, .val (.int q2), .val (.long v1), .second, .val (.ref a3), .val (.ref a6), .val (.int (0 : Int32)), .val (.int v11), .unset, .unset, .unset, .unset, .unset, .unset] [(.long (1 : Int64))])) _
      refine XS.iload X8.here hx rfl (hb hby at_71) rfl ?_
      show Steps p.tables e below (T8.setTop (mkF m 73 #[.val (.long q0), .second, .val (.long q1), .second, .val (.int q2), .val (.long v1), .second, .val (.ref a3), .val (.ref a6), .val (.int (0 : Int32)), .val (.int v11), .unset, .unset, .unset, .unset, .unset, .unset] [(.int v11), (.long (1 : Int64))])) _
      refine XS.lshl X8.here hx rfl (hb hby at_73) rfl ?_
      exact k
    obtain ⟨v15, hv15⟩ : ∃ z : Int64, z = ((q0 ||| v13) ^^^ v13) := ⟨_, rfl⟩
    have pre16 : ∀ t, Steps p.tables e below (T8.setTop (mkF m 92 #[.val (.long q0), .second, .val (.long q1), .second, .val (.int q2), .val (.long v1), .second, .val (.ref a3), .val (.ref a6), .val (.int (0 : Int32)), .val (.int v11), .val (.long v13), .second, .unset, .unset, .unset, .unset] [(.long v15)])) t → Steps p.tables e below (s₁.setTop (entryFrame m #[(.long q0), (.long q1), (.int q2)] maxLocals)) t := by
      rw [hv15]
      intro t k
      refine pre14 t ?_
      show Steps p.tables e below (T8.setTop (mkF m 74 #[.val (.long q0), .second, .val (.long q1), .second, .val (.int q2), .val (.long v1), .second, .val (.ref a3), .val (.ref a6), .val (.int (0 : Int32)), .val (.int v11), .unset, .unset, .unset, .unset, .unset, .unset] [(.long v13)])) _
      refine XS.lstore X8.here hx rfl (hb hby at_74) rfl (l' := #[.val (.long q0), .second, .val (.long q1), .second, .val (.int q2), .val (.long v1), .second, .val (.ref a3), .val (.ref a6), .val (.int (0 : Int32)), .val (.int v11), .val (.long v13), .second, .unset, .unset, .unset, .unset]) rfl ?_
      show Steps p.tables e below (T8.setTop (mkF m 76 #[.val (.long q0), .second, .val (.long q1), .second, .val (.int q2), .val (.long v1), .second, .val (.ref a3), .val (.ref a6), .val (.int (0 : Int32)), .val (.int v11), .val (.long v13), .second, .unset, .unset, .unset, .unset] [])) _
      refine XS.iload X8.here hx rfl (hb hby at_76) rfl ?_
      show Steps p.tables e below (T8.setTop (mkF m 78 #[.val (.long q0), .second, .val (.long q1), .second, .val (.int q2), .val (.long v1), .second, .val (.ref a3), .val (.ref a6), .val (.int (0 : Int32)), .val (.int v11), .val (.long v13), .second, .unset, .unset, .unset, .unset] [(.int (0 : Int32))])) _
      refine XS.ifNo X8.here hx rfl (hb hby at_78) rfl (by decide) ?_
      show Steps p.tables e below (T8.setTop (mkF m 81 #[.val (.long q0), .second, .val (.long q1), .second, .val (.int q2), .val (.long v1), .second, .val (.ref a3), .val (.ref a6), .val (.int (0 : Int32)), .val (.int v11), .val (.long v13), .second, .unset, .unset, .unset, .unset] [])) _
      refine XS.lloadN X8.here hx rfl (hb hby at_81) rfl ?_
      show Steps p.tables e below (T8.setTop (mkF m 82 #[.val (.long q0), .second, .val (.long q1), .second, .val (.int q2), .val (.long v1), .second, .val (.ref a3), .val (.ref a6), .val (.int (0 : Int32)), .val (.int v11), .val (.long v13), .second, .unset, .unset, .unset, .unset] [(.long q0)])) _
      refine XS.lload X8.here hx rfl (hb hby at_82) rfl ?_
      show Steps p.tables e below (T8.setTop (mkF m 84 #[.val (.long q0), .second, .val (.long q1), .second, .val (.int q2), .val (.long v1), .second, .val (.ref a3), .val (.ref a6), .val (.int (0 : Int32)), .val (.int v11), .val (.long v13), .second, .unset, .unset, .unset, .unset] [(.long v13), (.long q0)])) _
      refine XS.lor X8.here hx rfl (hb hby at_84) rfl ?_
      show Steps p.tables e below (T8.setTop (mkF m 85 #[.val (.long q0), .second, .val (.long q1), .second, .val (.int q2), .val (.long v1), .second, .val (.ref a3), .val (.ref a6), .val (.int (0 : Int32)), .val (.int v11), .val (.long v13), .second, .unset, .unset, .unset, .unset] [(.long (q0 ||| v13))])) _
      refine XS.lload X8.here hx rfl (hb hby at_85) rfl ?_
      show Steps p.tables e below (T8.setTop (mkF m 87 #[.val (.long q0), .second, .val (.long q1), .second, .val (.int q2), .val (.long v1), .second, .val (.ref a3), .val (.ref a6), .val (.int (0 : Int32)), .val (.int v11), .val (.long v13), .second, .unset, .unset, .unset, .unset] [(.long v13), (.long (q0 ||| v13))])) _
      refine XS.lxor X8.here hx rfl (hb hby at_87) rfl ?_
      show Steps p.tables e below (T8.setTop (mkF m 88 #[.val (.long q0), .second, .val (.long q1), .second, .val (.int q2), .val (.long v1), .second, .val (.ref a3), .val (.ref a6), .val (.int (0 : Int32)), .val (.int v11), .val (.long v13), .second, .unset, .unset, .unset, .unset] [(.long ((q0 ||| v13) ^^^ v13))])) _
      refine XS.goto X8.here hx rfl (pc0 := 88) (pc' := 92) rfl (hb hby at_88) (by decide) (by decide) ?_
      exact k
    obtain ⟨cq17, kq17, q17a, q17b, q17c⟩ := isOf hZ e8 A8_a6
    obtain ⟨_, _, ⟨T17, L17, k17, n17⟩, -, X17, ⟨Lc17, hQ17, l17, y17, z17⟩, st17⟩ := X8.virtualBack hx (y := (⟨"com/example/mini_bloom/minibloom/BitArray", "words", "()I"⟩ : MethodName)) (z := (⟨"com/example/mini_bloom/minibloom/BitArray", "words", "()I"⟩ : MethodName)) hown (mvT hZ (hw _ (List.mem_of_getElem? (i := 19) rfl))) (mvT hZ (hw _ (List.mem_of_getElem? (i := 20) rfl))) (notFace_of_selects (args := #[]) (mvT hZ (hw _ (List.mem_of_getElem? (i := 22) rfl)))) (mvT hZ (hw _ (List.mem_of_getElem? (i := 22) rfl))) (mvT hZ (hw _ (List.mem_of_getElem? (i := 21) rfl))) (by decide) (backOf (W := 0) (rm4 l Z a0 hw [] a6 a3 ((own_clr ([q0, q1]) v1)) h8 n0 sz8 V8_o0 A8_a6 F8_a6_0 ) hZ (hw _ (List.mem_of_getElem? (i := 23) rfl)) (hw _ (List.mem_of_getElem? (i := 3) rfl)) (by decide) (by decide)) q17a q17c (g := (mkF m 115 #[.val (.long q0), .second, .val (.long q1), .second, .val (.int q2), .val (.long v1), .second, .val (.ref a3), .val (.ref a6), .val (.int (0 : Int32)), .val (.int v11), .val (.long v13), .second, .val (.long v15), .second, .val (.long q1), .second] [(.ref a6)])) rfl (by rw [hml]; rfl) (Steps.refl _) (argsL := []) (rest := []) (lenOf pd_8 rfl) rfl (by show 2 * 0 + _ ≤ _; exact Nat.le_of_eq rfl) (hb hby at_115) (fun _ _ => ⟨rfl, e8, (by decide : 2 + 0 ≤ _), (by decide : 3 + 0 ≤ _)⟩)
    dsimp only [Pt.U, Pt.locs, Pt.cells, Pt.slots] at X17 l17 y17 z17 st17 hQ17
    subst l17 y17 z17
    obtain ⟨rfl, N17q, e17⟩ := hQ17
    have N17 := Fr.app N8 N17q
    have pre18 : ∀ t, Steps p.tables e below (T17.setTop (mkF m 119 #[.val (.long q0), .second, .val (.long q1), .second, .val (.int q2), .val (.long v1), .second, .val (.ref a3), .val (.ref a6), .val (.int (0 : Int32)), .val (.int v11), .val (.long v13), .second, .val (.long v15), .second, .val (.long q1), .second] [(.int (2 : Int32)), (.int (own_f4  ((own_clr ([q0, q1]) v1))))])) t → Steps p.tables e below (s₁.setTop (entryFrame m #[(.long q0), (.long q1), (.int q2)] maxLocals)) t := by
      intro t k
      refine pre16 t ?_
      show Steps p.tables e below (T8.setTop (mkF m 92 #[.val (.long q0), .second, .val (.long q1), .second, .val (.int q2), .val (.long v1), .second, .val (.ref a3), .val (.ref a6), .val (.int (0 : Int32)), .val (.int v11), .val (.long v13), .second, .unset, .unset, .unset, .unset] [(.long v15)])) _
      refine XS.lstore X8.here hx rfl (hb hby at_92) rfl (l' := #[.val (.long q0), .second, .val (.long q1), .second, .val (.int q2), .val (.long v1), .second, .val (.ref a3), .val (.ref a6), .val (.int (0 : Int32)), .val (.int v11), .val (.long v13), .second, .val (.long v15), .second, .unset, .unset]) rfl ?_
      show Steps p.tables e below (T8.setTop (mkF m 94 #[.val (.long q0), .second, .val (.long q1), .second, .val (.int q2), .val (.long v1), .second, .val (.ref a3), .val (.ref a6), .val (.int (0 : Int32)), .val (.int v11), .val (.long v13), .second, .val (.long v15), .second, .unset, .unset] [])) _
      refine XS.iload X8.here hx rfl (hb hby at_94) rfl ?_
      show Steps p.tables e below (T8.setTop (mkF m 96 #[.val (.long q0), .second, .val (.long q1), .second, .val (.int q2), .val (.long v1), .second, .val (.ref a3), .val (.ref a6), .val (.int (0 : Int32)), .val (.int v11), .val (.long v13), .second, .val (.long v15), .second, .unset, .unset] [(.int (0 : Int32))])) _
      refine XS.iconst X8.here hx rfl (hb hby at_96) ?_
      show Steps p.tables e below (T8.setTop (mkF m 97 #[.val (.long q0), .second, .val (.long q1), .second, .val (.int q2), .val (.long v1), .second, .val (.ref a3), .val (.ref a6), .val (.int (0 : Int32)), .val (.int v11), .val (.long v13), .second, .val (.long v15), .second, .unset, .unset] [(.int (1 : Int32)), (.int (0 : Int32))])) _
      refine XS.icmpYes X8.here hx rfl (pc0 := 97) (pc' := 110) rfl (hb hby at_97) rfl (by decide) (by decide) (by decide) ?_
      show Steps p.tables e below (T8.setTop (mkF m 110 #[.val (.long q0), .second, .val (.long q1), .second, .val (.int q2), .val (.long v1), .second, .val (.ref a3), .val (.ref a6), .val (.int (0 : Int32)), .val (.int v11), .val (.long v13), .second, .val (.long v15), .second, .unset, .unset] [])) _
      refine XS.lloadN X8.here hx rfl (hb hby at_110) rfl ?_
      show Steps p.tables e below (T8.setTop (mkF m 111 #[.val (.long q0), .second, .val (.long q1), .second, .val (.int q2), .val (.long v1), .second, .val (.ref a3), .val (.ref a6), .val (.int (0 : Int32)), .val (.int v11), .val (.long v13), .second, .val (.long v15), .second, .unset, .unset] [(.long q1)])) _
      refine XS.lstore X8.here hx rfl (hb hby at_111) rfl (l' := #[.val (.long q0), .second, .val (.long q1), .second, .val (.int q2), .val (.long v1), .second, .val (.ref a3), .val (.ref a6), .val (.int (0 : Int32)), .val (.int v11), .val (.long v13), .second, .val (.long v15), .second, .val (.long q1), .second]) rfl ?_
      show Steps p.tables e below (T8.setTop (mkF m 113 #[.val (.long q0), .second, .val (.long q1), .second, .val (.int q2), .val (.long v1), .second, .val (.ref a3), .val (.ref a6), .val (.int (0 : Int32)), .val (.int v11), .val (.long v13), .second, .val (.long v15), .second, .val (.long q1), .second] [])) _
      refine XS.aload X8.here hx rfl (hb hby at_113) rfl rfl ?_
      show Steps p.tables e below (T8.setTop (mkF m 115 #[.val (.long q0), .second, .val (.long q1), .second, .val (.int q2), .val (.long v1), .second, .val (.ref a3), .val (.ref a6), .val (.int (0 : Int32)), .val (.int v11), .val (.long v13), .second, .val (.long v15), .second, .val (.long q1), .second] [(.ref a6)])) _
      refine st17.trans ?_
      show Steps p.tables e below (T17.setTop (mkF m 118 #[.val (.long q0), .second, .val (.long q1), .second, .val (.int q2), .val (.long v1), .second, .val (.ref a3), .val (.ref a6), .val (.int (0 : Int32)), .val (.int v11), .val (.long v13), .second, .val (.long v15), .second, .val (.long q1), .second] [(.int (own_f4  ((own_clr ([q0, q1]) v1))))])) _
      refine XS.iconst X17.here hx rfl (hb hby at_118) ?_
      exact k
    by_cases c19 : (own_f4  ((own_clr ([q0, q1]) v1))) = (2 : Int32)
    · obtain ⟨cq20, kq20, q20a, q20b, q20c⟩ := isOf hZ e17 A8_a6
      obtain ⟨_, _, ⟨T20, L20, k20, n20⟩, -, X20, ⟨Lc20, hQ20, l20, y20, z20⟩, st20⟩ := X17.virtualBack hx (y := (⟨"com/example/mini_bloom/minibloom/BitArray", "word", "(I)J"⟩ : MethodName)) (z := (⟨"com/example/mini_bloom/minibloom/BitArray", "word", "(I)J"⟩ : MethodName)) hown (mvT hZ (hw _ (List.mem_of_getElem? (i := 24) rfl))) (mvT hZ (hw _ (List.mem_of_getElem? (i := 25) rfl))) (notFace_of_selects (args := #[]) (mvT hZ (hw _ (List.mem_of_getElem? (i := 27) rfl)))) (mvT hZ (hw _ (List.mem_of_getElem? (i := 27) rfl))) (mvT hZ (hw _ (List.mem_of_getElem? (i := 26) rfl))) (by decide) (backOf (W := 0) (rm5 l Z a0 hw [] a6 (0 : Int32) a3 ((own_clr ([q0, q1]) v1)) h8 n0 sz8 V8_o0 A8_a6 F8_a6_0 (by simp [own_clr])) hZ (hw _ (List.mem_of_getElem? (i := 28) rfl)) (hw _ (List.mem_of_getElem? (i := 3) rfl)) (by decide) (by decide)) q20a q20c (g := (mkF m 125 #[.val (.long q0), .second, .val (.long q1), .second, .val (.int q2), .val (.long v1), .second, .val (.ref a3), .val (.ref a6), .val (.int (0 : Int32)), .val (.int v11), .val (.long v13), .second, .val (.long v15), .second, .val (.long q1), .second] [(.int (0 : Int32)), (.ref a6)])) rfl (by rw [hml]; rfl) (Steps.refl _) (argsL := [(.int (0 : Int32))]) (rest := []) (lenOf pd_9 rfl) rfl (by show 2 * 0 + _ ≤ _; exact Nat.le_of_eq rfl) (hb hby at_125) (fun _ _ => ⟨rfl, e17, (by decide : 2 + 0 ≤ _), (by decide : 3 + 0 ≤ _)⟩)
      dsimp only [Pt.U, Pt.locs, Pt.cells, Pt.slots] at X20 l20 y20 z20 st20 hQ20
      subst l20 y20 z20
      obtain ⟨rfl, N20q, e20⟩ := hQ20
      have N20 := Fr.app N17 N20q
      have pre21 : ∀ t, Steps p.tables e below (T20.setTop (mkF m 131 #[.val (.long q0), .second, .val (.long q1), .second, .val (.int q2), .val (.long v1), .second, .val (.ref a3), .val (.ref a6), .val (.int (0 : Int32)), .val (.int v11), .val (.long v13), .second, .val (.long v15), .second, .val (.long q1), .second] [(.int (lcmpW (own_f5 ((0 : Int32)) ((own_clr ([q0, q1]) v1))) v15))])) t → Steps p.tables e below (s₁.setTop (entryFrame m #[(.long q0), (.long q1), (.int q2)] maxLocals)) t := by
        intro t k
        refine pre18 t ?_
        show Steps p.tables e below (T17.setTop (mkF m 119 #[.val (.long q0), .second, .val (.long q1), .second, .val (.int q2), .val (.long v1), .second, .val (.ref a3), .val (.ref a6), .val (.int (0 : Int32)), .val (.int v11), .val (.long v13), .second, .val (.long v15), .second, .val (.long q1), .second] [(.int (2 : Int32)), (.int (own_f4  ((own_clr ([q0, q1]) v1))))])) _
        refine XS.icmpNo X17.here hx rfl (hb hby at_119) rfl ((teq c19).2) ?_
        show Steps p.tables e below (T17.setTop (mkF m 122 #[.val (.long q0), .second, .val (.long q1), .second, .val (.int q2), .val (.long v1), .second, .val (.ref a3), .val (.ref a6), .val (.int (0 : Int32)), .val (.int v11), .val (.long v13), .second, .val (.long v15), .second, .val (.long q1), .second] [])) _
        refine XS.aload X17.here hx rfl (hb hby at_122) rfl rfl ?_
        show Steps p.tables e below (T17.setTop (mkF m 124 #[.val (.long q0), .second, .val (.long q1), .second, .val (.int q2), .val (.long v1), .second, .val (.ref a3), .val (.ref a6), .val (.int (0 : Int32)), .val (.int v11), .val (.long v13), .second, .val (.long v15), .second, .val (.long q1), .second] [(.ref a6)])) _
        refine XS.iconst X17.here hx rfl (hb hby at_124) ?_
        show Steps p.tables e below (T17.setTop (mkF m 125 #[.val (.long q0), .second, .val (.long q1), .second, .val (.int q2), .val (.long v1), .second, .val (.ref a3), .val (.ref a6), .val (.int (0 : Int32)), .val (.int v11), .val (.long v13), .second, .val (.long v15), .second, .val (.long q1), .second] [(.int (0 : Int32)), (.ref a6)])) _
        refine st20.trans ?_
        show Steps p.tables e below (T20.setTop (mkF m 128 #[.val (.long q0), .second, .val (.long q1), .second, .val (.int q2), .val (.long v1), .second, .val (.ref a3), .val (.ref a6), .val (.int (0 : Int32)), .val (.int v11), .val (.long v13), .second, .val (.long v15), .second, .val (.long q1), .second] [(.long (own_f5 ((0 : Int32)) ((own_clr ([q0, q1]) v1))))])) _
        refine XS.lload X20.here hx rfl (hb hby at_128) rfl ?_
        show Steps p.tables e below (T20.setTop (mkF m 130 #[.val (.long q0), .second, .val (.long q1), .second, .val (.int q2), .val (.long v1), .second, .val (.ref a3), .val (.ref a6), .val (.int (0 : Int32)), .val (.int v11), .val (.long v13), .second, .val (.long v15), .second, .val (.long q1), .second] [(.long v15), (.long (own_f5 ((0 : Int32)) ((own_clr ([q0, q1]) v1))))])) _
        refine XS.lcmp X20.here hx rfl (hb hby at_130) rfl ?_
        exact k
      by_cases c22 : (own_f5 ((0 : Int32)) ((own_clr ([q0, q1]) v1))) = v15
      · obtain ⟨cq23, kq23, q23a, q23b, q23c⟩ := isOf hZ e20 A8_a6
        obtain ⟨_, _, ⟨T23, L23, k23, n23⟩, -, X23, ⟨Lc23, hQ23, l23, y23, z23⟩, st23⟩ := X20.virtualBack hx (y := (⟨"com/example/mini_bloom/minibloom/BitArray", "word", "(I)J"⟩ : MethodName)) (z := (⟨"com/example/mini_bloom/minibloom/BitArray", "word", "(I)J"⟩ : MethodName)) hown (mvT hZ (hw _ (List.mem_of_getElem? (i := 24) rfl))) (mvT hZ (hw _ (List.mem_of_getElem? (i := 25) rfl))) (notFace_of_selects (args := #[]) (mvT hZ (hw _ (List.mem_of_getElem? (i := 27) rfl)))) (mvT hZ (hw _ (List.mem_of_getElem? (i := 27) rfl))) (mvT hZ (hw _ (List.mem_of_getElem? (i := 26) rfl))) (by decide) (backOf (W := 0) (rm5 l Z a0 hw [] a6 (1 : Int32) a3 ((own_clr ([q0, q1]) v1)) h8 n0 sz8 V8_o0 A8_a6 F8_a6_0 (by simp [own_clr])) hZ (hw _ (List.mem_of_getElem? (i := 28) rfl)) (hw _ (List.mem_of_getElem? (i := 3) rfl)) (by decide) (by decide)) q23a q23c (g := (mkF m 137 #[.val (.long q0), .second, .val (.long q1), .second, .val (.int q2), .val (.long v1), .second, .val (.ref a3), .val (.ref a6), .val (.int (0 : Int32)), .val (.int v11), .val (.long v13), .second, .val (.long v15), .second, .val (.long q1), .second] [(.int (1 : Int32)), (.ref a6)])) rfl (by rw [hml]; rfl) (Steps.refl _) (argsL := [(.int (1 : Int32))]) (rest := []) (lenOf pd_9 rfl) rfl (by show 2 * 0 + _ ≤ _; exact Nat.le_of_eq rfl) (hb hby at_137) (fun _ _ => ⟨rfl, e20, (by decide : 2 + 0 ≤ _), (by decide : 3 + 0 ≤ _)⟩)
        dsimp only [Pt.U, Pt.locs, Pt.cells, Pt.slots] at X23 l23 y23 z23 st23 hQ23
        subst l23 y23 z23
        obtain ⟨rfl, N23q, e23⟩ := hQ23
        have N23 := Fr.app N20 N23q
        have pre24 : ∀ t, Steps p.tables e below (T23.setTop (mkF m 143 #[.val (.long q0), .second, .val (.long q1), .second, .val (.int q2), .val (.long v1), .second, .val (.ref a3), .val (.ref a6), .val (.int (0 : Int32)), .val (.int v11), .val (.long v13), .second, .val (.long v15), .second, .val (.long q1), .second] [(.int (lcmpW (own_f5 ((1 : Int32)) ((own_clr ([q0, q1]) v1))) q1))])) t → Steps p.tables e below (s₁.setTop (entryFrame m #[(.long q0), (.long q1), (.int q2)] maxLocals)) t := by
          intro t k
          refine pre21 t ?_
          show Steps p.tables e below (T20.setTop (mkF m 131 #[.val (.long q0), .second, .val (.long q1), .second, .val (.int q2), .val (.long v1), .second, .val (.ref a3), .val (.ref a6), .val (.int (0 : Int32)), .val (.int v11), .val (.long v13), .second, .val (.long v15), .second, .val (.long q1), .second] [(.int (lcmpW (own_f5 ((0 : Int32)) ((own_clr ([q0, q1]) v1))) v15))])) _
          refine XS.ifNo X20.here hx rfl (hb hby at_131) rfl ((if0 _ _).trans (teq ((lw_eq (own_f5 ((0 : Int32)) ((own_clr ([q0, q1]) v1))) v15).mpr c22)).2) ?_
          show Steps p.tables e below (T20.setTop (mkF m 134 #[.val (.long q0), .second, .val (.long q1), .second, .val (.int q2), .val (.long v1), .second, .val (.ref a3), .val (.ref a6), .val (.int (0 : Int32)), .val (.int v11), .val (.long v13), .second, .val (.long v15), .second, .val (.long q1), .second] [])) _
          refine XS.aload X20.here hx rfl (hb hby at_134) rfl rfl ?_
          show Steps p.tables e below (T20.setTop (mkF m 136 #[.val (.long q0), .second, .val (.long q1), .second, .val (.int q2), .val (.long v1), .second, .val (.ref a3), .val (.ref a6), .val (.int (0 : Int32)), .val (.int v11), .val (.long v13), .second, .val (.long v15), .second, .val (.long q1), .second] [(.ref a6)])) _
          refine XS.iconst X20.here hx rfl (hb hby at_136) ?_
          show Steps p.tables e below (T20.setTop (mkF m 137 #[.val (.long q0), .second, .val (.long q1), .second, .val (.int q2), .val (.long v1), .second, .val (.ref a3), .val (.ref a6), .val (.int (0 : Int32)), .val (.int v11), .val (.long v13), .second, .val (.long v15), .second, .val (.long q1), .second] [(.int (1 : Int32)), (.ref a6)])) _
          refine st23.trans ?_
          show Steps p.tables e below (T23.setTop (mkF m 140 #[.val (.long q0), .second, .val (.long q1), .second, .val (.int q2), .val (.long v1), .second, .val (.ref a3), .val (.ref a6), .val (.int (0 : Int32)), .val (.int v11), .val (.long v13), .second, .val (.long v15), .second, .val (.long q1), .second] [(.long (own_f5 ((1 : Int32)) ((own_clr ([q0, q1]) v1))))])) _
          refine XS.lload X23.here hx rfl (hb hby at_140) rfl ?_
          show Steps p.tables e below (T23.setTop (mkF m 142 #[.val (.long q0), .second, .val (.long q1), .second, .val (.int q2), .val (.long v1), .second, .val (.ref a3), .val (.ref a6), .val (.int (0 : Int32)), .val (.int v11), .val (.long v13), .second, .val (.long v15), .second, .val (.long q1), .second] [(.long q1), (.long (own_f5 ((1 : Int32)) ((own_clr ([q0, q1]) v1))))])) _
          refine XS.lcmp X23.here hx rfl (hb hby at_142) rfl ?_
          exact k
        by_cases c25 : (own_f5 ((1 : Int32)) ((own_clr ([q0, q1]) v1))) = q1
        · obtain ⟨fs, hr, hrun, hended, hW, hsame⟩ := X23.leave (v := some (.int (1 : Int32))) (fun h => by rw [Bd.returns] at h; cases h) hlk
          refine ⟨_, _, pre24 _ ?_, hrun, hended, _, _, rfl, ?_, ⟨_, rfl⟩, hW, hsame.mono (by decide) (by decide)⟩
          · show Steps p.tables e below (T23.setTop (mkF m 143 #[.val (.long q0), .second, .val (.long q1), .second, .val (.int q2), .val (.long v1), .second, .val (.ref a3), .val (.ref a6), .val (.int (0 : Int32)), .val (.int v11), .val (.long v13), .second, .val (.long v15), .second, .val (.long q1), .second] [(.int (lcmpW (own_f5 ((1 : Int32)) ((own_clr ([q0, q1]) v1))) q1))])) _
            refine XS.ifNo X23.here hx rfl (hb hby at_143) rfl ((if0 _ _).trans (teq ((lw_eq (own_f5 ((1 : Int32)) ((own_clr ([q0, q1]) v1))) q1).mpr c25)).2) ?_
            show Steps p.tables e below (T23.setTop (mkF m 146 #[.val (.long q0), .second, .val (.long q1), .second, .val (.int q2), .val (.long v1), .second, .val (.ref a3), .val (.ref a6), .val (.int (0 : Int32)), .val (.int v11), .val (.long v13), .second, .val (.long v15), .second, .val (.long q1), .second] [])) _
            refine XS.iconst X23.here hx rfl (hb hby at_146) ?_
            show Steps p.tables e below (T23.setTop (mkF m 147 #[.val (.long q0), .second, .val (.long q1), .second, .val (.int q2), .val (.long v1), .second, .val (.ref a3), .val (.ref a6), .val (.int (0 : Int32)), .val (.int v11), .val (.long v13), .second, .val (.long v15), .second, .val (.long q1), .second] [(.int (1 : Int32))])) _
            refine XS.goto X23.here hx rfl (pc0 := 147) (pc' := 151) rfl (hb hby at_147) (by decide) (by decide) ?_
            show Steps p.tables e below (T23.setTop (mkF m 151 #[.val (.long q0), .second, .val (.long q1), .second, .val (.int q2), .val (.long v1), .second, .val (.ref a3), .val (.ref a6), .val (.int (0 : Int32)), .val (.int v11), .val (.long v13), .second, .val (.long v15), .second, .val (.long q1), .second] [(.int (1 : Int32))])) _
            exact retN X23 hx (t := .boolean) Bd.returns (by simp) (hb hby at_151) hr
          · show Q0 Z q0 q1 q2 h0 n0 _ T23.heap _
            rw [e23]
            exact ⟨by have w_hv15 := hv15.symm; subst w_hv15; have w_hv13 := hv13.symm; subst w_hv13; have w_hv11 := hv11.symm; subst w_hv11; have w_hv1 := hv1.symm; subst w_hv1; simp only [own_f0, if_pos c10, if_pos c19, if_pos c22, if_pos c25], N23⟩
        · obtain ⟨fs, hr, hrun, hended, hW, hsame⟩ := X23.leave (v := some (.int (0 : Int32))) (fun h => by rw [Bd.returns] at h; cases h) hlk
          refine ⟨_, _, pre24 _ ?_, hrun, hended, _, _, rfl, ?_, ⟨_, rfl⟩, hW, hsame.mono (by decide) (by decide)⟩
          · show Steps p.tables e below (T23.setTop (mkF m 143 #[.val (.long q0), .second, .val (.long q1), .second, .val (.int q2), .val (.long v1), .second, .val (.ref a3), .val (.ref a6), .val (.int (0 : Int32)), .val (.int v11), .val (.long v13), .second, .val (.long v15), .second, .val (.long q1), .second] [(.int (lcmpW (own_f5 ((1 : Int32)) ((own_clr ([q0, q1]) v1))) q1))])) _
            refine XS.ifYes X23.here hx rfl (pc0 := 143) (pc' := 150) rfl (hb hby at_143) rfl ((if0 _ _).trans (feq (mt (lw_eq (own_f5 ((1 : Int32)) ((own_clr ([q0, q1]) v1))) q1).mp c25)).2) (by decide) (by decide) ?_
            show Steps p.tables e below (T23.setTop (mkF m 150 #[.val (.long q0), .second, .val (.long q1), .second, .val (.int q2), .val (.long v1), .second, .val (.ref a3), .val (.ref a6), .val (.int (0 : Int32)), .val (.int v11), .val (.long v13), .second, .val (.long v15), .second, .val (.long q1), .second] [])) _
            refine XS.iconst X23.here hx rfl (hb hby at_150) ?_
            show Steps p.tables e below (T23.setTop (mkF m 151 #[.val (.long q0), .second, .val (.long q1), .second, .val (.int q2), .val (.long v1), .second, .val (.ref a3), .val (.ref a6), .val (.int (0 : Int32)), .val (.int v11), .val (.long v13), .second, .val (.long v15), .second, .val (.long q1), .second] [(.int (0 : Int32))])) _
            exact retN X23 hx (t := .boolean) Bd.returns (by simp) (hb hby at_151) hr
          · show Q0 Z q0 q1 q2 h0 n0 _ T23.heap _
            rw [e23]
            exact ⟨by have w_hv15 := hv15.symm; subst w_hv15; have w_hv13 := hv13.symm; subst w_hv13; have w_hv11 := hv11.symm; subst w_hv11; have w_hv1 := hv1.symm; subst w_hv1; simp only [own_f0, if_pos c10, if_pos c19, if_pos c22, if_neg c25], N23⟩
      · obtain ⟨fs, hr, hrun, hended, hW, hsame⟩ := X20.leave (v := some (.int (0 : Int32))) (fun h => by rw [Bd.returns] at h; cases h) hlk
        refine ⟨_, _, pre21 _ ?_, hrun, hended, _, _, rfl, ?_, ⟨_, rfl⟩, hW, hsame.mono (by decide) (by decide)⟩
        · show Steps p.tables e below (T20.setTop (mkF m 131 #[.val (.long q0), .second, .val (.long q1), .second, .val (.int q2), .val (.long v1), .second, .val (.ref a3), .val (.ref a6), .val (.int (0 : Int32)), .val (.int v11), .val (.long v13), .second, .val (.long v15), .second, .val (.long q1), .second] [(.int (lcmpW (own_f5 ((0 : Int32)) ((own_clr ([q0, q1]) v1))) v15))])) _
          refine XS.ifYes X20.here hx rfl (pc0 := 131) (pc' := 150) rfl (hb hby at_131) rfl ((if0 _ _).trans (feq (mt (lw_eq (own_f5 ((0 : Int32)) ((own_clr ([q0, q1]) v1))) v15).mp c22)).2) (by decide) (by decide) ?_
          show Steps p.tables e below (T20.setTop (mkF m 150 #[.val (.long q0), .second, .val (.long q1), .second, .val (.int q2), .val (.long v1), .second, .val (.ref a3), .val (.ref a6), .val (.int (0 : Int32)), .val (.int v11), .val (.long v13), .second, .val (.long v15), .second, .val (.long q1), .second] [])) _
          refine XS.iconst X20.here hx rfl (hb hby at_150) ?_
          show Steps p.tables e below (T20.setTop (mkF m 151 #[.val (.long q0), .second, .val (.long q1), .second, .val (.int q2), .val (.long v1), .second, .val (.ref a3), .val (.ref a6), .val (.int (0 : Int32)), .val (.int v11), .val (.long v13), .second, .val (.long v15), .second, .val (.long q1), .second] [(.int (0 : Int32))])) _
          exact retN X20 hx (t := .boolean) Bd.returns (by simp) (hb hby at_151) hr
        · show Q0 Z q0 q1 q2 h0 n0 _ T20.heap _
          rw [e20]
          exact ⟨by have w_hv15 := hv15.symm; subst w_hv15; have w_hv13 := hv13.symm; subst w_hv13; have w_hv11 := hv11.symm; subst w_hv11; have w_hv1 := hv1.symm; subst w_hv1; simp only [own_f0, if_pos c10, if_pos c19, if_neg c22], N20⟩
    · obtain ⟨fs, hr, hrun, hended, hW, hsame⟩ := X17.leave (v := some (.int (0 : Int32))) (fun h => by rw [Bd.returns] at h; cases h) hlk
      refine ⟨_, _, pre18 _ ?_, hrun, hended, _, _, rfl, ?_, ⟨_, rfl⟩, hW, hsame.mono (by decide) (by decide)⟩
      · show Steps p.tables e below (T17.setTop (mkF m 119 #[.val (.long q0), .second, .val (.long q1), .second, .val (.int q2), .val (.long v1), .second, .val (.ref a3), .val (.ref a6), .val (.int (0 : Int32)), .val (.int v11), .val (.long v13), .second, .val (.long v15), .second, .val (.long q1), .second] [(.int (2 : Int32)), (.int (own_f4  ((own_clr ([q0, q1]) v1))))])) _
        refine XS.icmpYes X17.here hx rfl (pc0 := 119) (pc' := 150) rfl (hb hby at_119) rfl ((feq c19).2) (by decide) (by decide) ?_
        show Steps p.tables e below (T17.setTop (mkF m 150 #[.val (.long q0), .second, .val (.long q1), .second, .val (.int q2), .val (.long v1), .second, .val (.ref a3), .val (.ref a6), .val (.int (0 : Int32)), .val (.int v11), .val (.long v13), .second, .val (.long v15), .second, .val (.long q1), .second] [])) _
        refine XS.iconst X17.here hx rfl (hb hby at_150) ?_
        show Steps p.tables e below (T17.setTop (mkF m 151 #[.val (.long q0), .second, .val (.long q1), .second, .val (.int q2), .val (.long v1), .second, .val (.ref a3), .val (.ref a6), .val (.int (0 : Int32)), .val (.int v11), .val (.long v13), .second, .val (.long v15), .second, .val (.long q1), .second] [(.int (0 : Int32))])) _
        exact retN X17 hx (t := .boolean) Bd.returns (by simp) (hb hby at_151) hr
      · show Q0 Z q0 q1 q2 h0 n0 _ T17.heap _
        rw [e17]
        exact ⟨by have w_hv15 := hv15.symm; subst w_hv15; have w_hv13 := hv13.symm; subst w_hv13; have w_hv11 := hv11.symm; subst w_hv11; have w_hv1 := hv1.symm; subst w_hv1; simp only [own_f0, if_pos c10, if_neg c19], N17⟩
  · obtain ⟨v26, hv26⟩ : ∃ z : Int32, z = ((v1 - (64 : Int64))).toInt32 := ⟨_, rfl⟩
    have pre27 : ∀ t, Steps p.tables e below (T8.setTop (mkF m 68 #[.val (.long q0), .second, .val (.long q1), .second, .val (.int q2), .val (.long v1), .second, .val (.ref a3), .val (.ref a6), .val (.int (1 : Int32)), .unset, .unset, .unset, .unset, .unset, .unset, .unset] [(.int v26)])) t → Steps p.tables e below (s₁.setTop (entryFrame m #[(.long q0), (.long q1), (.int q2)] maxLocals)) t := by
      rw [hv26]
      intro t k
      refine pre9 t ?_
      show Steps p.tables e below (T8.setTop (mkF m 47 #[.val (.long q0), .second, .val (.long q1), .second, .val (.int q2), .val (.long v1), .second, .val (.ref a3), .val (.ref a6), .unset, .unset, .unset, .unset, .unset, .unset, .unset, .unset] [(.int (lcmpW v1 (64 : Int64)))])) _
      refine XS.ifYes X8.here hx rfl (pc0 := 47) (pc' := 54) rfl (hb hby at_47) rfl ((if0 _ _).trans (flt (mt (lw_lt v1 (64 : Int64)).mp c10)).2.1) (by decide) (by decide) ?_
      show Steps p.tables e below (T8.setTop (mkF m 54 #[.val (.long q0), .second, .val (.long q1), .second, .val (.int q2), .val (.long v1), .second, .val (.ref a3), .val (.ref a6), .unset, .unset, .unset, .unset, .unset, .unset, .unset, .unset] [])) _
      refine XS.iconst X8.here hx rfl (hb hby at_54) ?_
      show Steps p.tables e below (T8.setTop (mkF m 55 #[.val (.long q0), .second, .val (.long q1), .second, .val (.int q2), .val (.long v1), .second, .val (.ref a3), .val (.ref a6), .unset, .unset, .unset, .unset, .unset, .unset, .unset, .unset] [(.int (1 : Int32))])) _
      refine XS.istore X8.here hx rfl (hb hby at_55) rfl (l' := #[.val (.long q0), .second, .val (.long q1), .second, .val (.int q2), .val (.long v1), .second, .val (.ref a3), .val (.ref a6), .val (.int (1 : Int32)), .unset, .unset, .unset, .unset, .unset, .unset, .unset]) rfl ?_
      show Steps p.tables e below (T8.setTop (mkF m 57 #[.val (.long q0), .second, .val (.long q1), .second, .val (.int q2), .val (.long v1), .second, .val (.ref a3), .val (.ref a6), .val (.int (1 : Int32)), .unset, .unset, .unset, .unset, .unset, .unset, .unset] [])) _
      refine XS.lload X8.here hx rfl (hb hby at_57) rfl ?_
      show Steps p.tables e below (T8.setTop (mkF m 59 #[.val (.long q0), .second, .val (.long q1), .second, .val (.int q2), .val (.long v1), .second, .val (.ref a3), .val (.ref a6), .val (.int (1 : Int32)), .unset, .unset, .unset, .unset, .unset, .unset, .unset] [(.long v1)])) _
      refine X8.ldc2Long hx hown (mvT hZ (hw _ (List.mem_of_getElem? (i := 18) rfl))) (g := (mkF m 59 #[.val (.long q0), .second, .val (.long q1), .second, .val (.int q2), .val (.long v1), .second, .val (.ref a3), .val (.ref a6), .val (.int (1 : Int32)), .unset, .unset, .unset, .unset, .unset, .unset, .unset] [(.long v1)])) rfl (hb hby at_59) _ ?_
      show Steps p.tables e below (T8.setTop (mkF m 62 #[.val (.long q0), .second, .val (.long q1), .second, .val (.int q2), .val (.long v1), .second, .val (.ref a3), .val (.ref a6), .val (.int (1 : Int32)), .unset, .unset, .unset, .unset, .unset, .unset, .unset] [(.long (64 : Int64)), (.long v1)])) _
      refine XS.iload X8.here hx rfl (hb hby at_62) rfl ?_
      show Steps p.tables e below (T8.setTop (mkF m 64 #[.val (.long q0), .second, .val (.long q1), .second, .val (.int q2), .val (.long v1), .second, .val (.ref a3), .val (.ref a6), .val (.int (1 : Int32)), .unset, .unset, .unset, .unset, .unset, .unset, .unset] [(.int (1 : Int32)), (.long (64 : Int64)), (.long v1)])) _
      refine XS.i2l X8.here hx rfl (hb hby at_64) rfl ?_
      show Steps p.tables e below (T8.setTop (mkF m 65 #[.val (.long q0), .second, .val (.long q1), .second, .val (.int q2), .val (.long v1), .second, .val (.ref a3), .val (.ref a6), .val (.int (1 : Int32)), .unset, .unset, .unset, .unset, .unset, .unset, .unset] [(.long (1 : Int64)), (.long (64 : Int64)), (.long v1)])) _
      refine XS.lmul X8.here hx rfl (hb hby at_65) rfl ?_
      show Steps p.tables e below (T8.setTop (mkF m 66 #[.val (.long q0), .second, .val (.long q1), .second, .val (.int q2), .val (.long v1), .second, .val (.ref a3), .val (.ref a6), .val (.int (1 : Int32)), .unset, .unset, .unset, .unset, .unset, .unset, .unset] [(.long (64 : Int64)), (.long v1)])) _
      refine XS.lsub X8.here hx rfl (hb hby at_66) rfl ?_
      show Steps p.tables e below (T8.setTop (mkF m 67 #[.val (.long q0), .second, .val (.long q1), .second, .val (.int q2), .val (.long v1), .second, .val (.ref a3), .val (.ref a6), .val (.int (1 : Int32)), .unset, .unset, .unset, .unset, .unset, .unset, .unset] [(.long (v1 - (64 : Int64)))])) _
      refine XS.l2i X8.here hx rfl (hb hby at_67) rfl ?_
      exact k
    obtain ⟨v28, hv28⟩ : ∃ z : Int64, z = ((1 : Int64) <<< (v26 &&& 0x3f).toInt64) := ⟨_, rfl⟩
    have pre29 : ∀ t, Steps p.tables e below (T8.setTop (mkF m 74 #[.val (.long q0), .second, .val (.long q1), .second, .val (.int q2), .val (.long v1), .second, .val (.ref a3), .val (.ref a6), .val (.int (1 : Int32)), .val (.int v26), .unset, .unset, .unset, .unset, .unset, .unset] [(.long v28)])) t → Steps p.tables e below (s₁.setTop (entryFrame m #[(.long q0), (.long q1), (.int q2)] maxLocals)) t := by
      rw [hv28]
      intro t k
      refine pre27 t ?_
      show Steps p.tables e below (T8.setTop (mkF m 68 #[.val (.long q0), .second, .val (.long q1), .second, .val (.int q2), .val (.long v1), .second, .val (.ref a3), .val (.ref a6), .val (.int (1 : Int32)), .unset, .unset, .unset, .unset, .unset, .unset, .unset] [(.int v26)])) _
      refine XS.istore X8.here hx rfl (hb hby at_68) rfl (l' := #[.val (.long q0), .second, .val (.long q1), .second, .val (.int q2), .val (.long v1), .second, .val (.ref a3), .val (.ref a6), .val (.int (1 : Int32)), .val (.int v26), .unset, .unset, .unset, .unset, .unset, .unset]) rfl ?_
      show Steps p.tables e below (T8.setTop (mkF m 70 #[.val (.long q0), .second, .val (.long q1), .second, .val (.int q2), .val (.long v1), .second, .val (.ref a3), .val (.ref a6), .val (.int (1 : Int32)), .val (.int v26), .unset, .unset, .unset, .unset, .unset, .unset] [])) _
      refine XS.lconst X8.here hx rfl (hb hby at_70) ?_
      show Steps p.tables e below (T8.setTop (mkF m 71 #[.val (.long q0), .second, .val (.long q1), .second, .val (.int q2), .val (.long v1), .second, .val (.ref a3), .val (.ref a6), .val (.int (1 : Int32)), .val (.int v26), .unset, .unset, .unset, .unset, .unset, .unset] [(.long (1 : Int64))])) _
      refine XS.iload X8.here hx rfl (hb hby at_71) rfl ?_
      show Steps p.tables e below (T8.setTop (mkF m 73 #[.val (.long q0), .second, .val (.long q1), .second, .val (.int q2), .val (.long v1), .second, .val (.ref a3), .val (.ref a6), .val (.int (1 : Int32)), .val (.int v26), .unset, .unset, .unset, .unset, .unset, .unset] [(.int v26), (.long (1 : Int64))])) _
      refine XS.lshl X8.here hx rfl (hb hby at_73) rfl ?_
      exact k
    obtain ⟨v30, hv30⟩ : ∃ z : Int64, z = ((q1 ||| v28) ^^^ v28) := ⟨_, rfl⟩
    have pre31 : ∀ t, Steps p.tables e below (T8.setTop (mkF m 111 #[.val (.long q0), .second, .val (.long q1), .second, .val (.int q2), .val (.long v1), .second, .val (.ref a3), .val (.ref a6), .val (.int (1 : Int32)), .val (.int v26), .val (.long v28), .second, .val (.long q0), .second, .unset, .unset] [(.long v30)])) t → Steps p.tables e below (s₁.setTop (entryFrame m #[(.long q0), (.long q1), (.int q2)] maxLocals)) t := by
      rw [hv30]
      intro t k
      refine pre29 t ?_
      show Steps p.tables e below (T8.setTop (mkF m 74 #[.val (.long q0), .second, .val (.long q1), .second, .val (.int q2), .val (.long v1), .second, .val (.ref a3), .val (.ref a6), .val (.int (1 : Int32)), .val (.int v26), .unset, .unset, .unset, .unset, .unset, .unset] [(.long v28)])) _
      refine XS.lstore X8.here hx rfl (hb hby at_74) rfl (l' := #[.val (.long q0), .second, .val (.long q1), .second, .val (.int q2), .val (.long v1), .second, .val (.ref a3), .val (.ref a6), .val (.int (1 : Int32)), .val (.int v26), .val (.long v28), .second, .unset, .unset, .unset, .unset]) rfl ?_
      show Steps p.tables e below (T8.setTop (mkF m 76 #[.val (.long q0), .second, .val (.long q1), .second, .val (.int q2), .val (.long v1), .second, .val (.ref a3), .val (.ref a6), .val (.int (1 : Int32)), .val (.int v26), .val (.long v28), .second, .unset, .unset, .unset, .unset] [])) _
      refine XS.iload X8.here hx rfl (hb hby at_76) rfl ?_
      show Steps p.tables e below (T8.setTop (mkF m 78 #[.val (.long q0), .second, .val (.long q1), .second, .val (.int q2), .val (.long v1), .second, .val (.ref a3), .val (.ref a6), .val (.int (1 : Int32)), .val (.int v26), .val (.long v28), .second, .unset, .unset, .unset, .unset] [(.int (1 : Int32))])) _
      refine XS.ifYes X8.here hx rfl (pc0 := 78) (pc' := 91) rfl (hb hby at_78) rfl (by decide) (by decide) (by decide) ?_
      show Steps p.tables e below (T8.setTop (mkF m 91 #[.val (.long q0), .second, .val (.long q1), .second, .val (.int q2), .val (.long v1), .second, .val (.ref a3), .val (.ref a6), .val (.int (1 : Int32)), .val (.int v26), .val (.long v28), .second, .unset, .unset, .unset, .unset] [])) _
      refine XS.lloadN X8.here hx rfl (hb hby at_91) rfl ?_
      show Steps p.tables e below (T8.setTop (mkF m 92 #[.val (.long q0), .second, .val (.long q1), .second, .val (.int q2), .val (.long v1), .second, .val (.ref a3), .val (.ref a6), .val (.int (1 : Int32)), .val (.int v26), .val (.long v28), .second, .unset, .unset, .unset, .unset] [(.long q0)])) _
      refine XS.lstore X8.here hx rfl (hb hby at_92) rfl (l' := #[.val (.long q0), .second, .val (.long q1), .second, .val (.int q2), .val (.long v1), .second, .val (.ref a3), .val (.ref a6), .val (.int (1 : Int32)), .val (.int v26), .val (.long v28), .second, .val (.long q0), .second, .unset, .unset]) rfl ?_
      show Steps p.tables e below (T8.setTop (mkF m 94 #[.val (.long q0), .second, .val (.long q1), .second, .val (.int q2), .val (.long v1), .second, .val (.ref a3), .val (.ref a6), .val (.int (1 : Int32)), .val (.int v26), .val (.long v28), .second, .val (.long q0), .second, .unset, .unset] [])) _
      refine XS.iload X8.here hx rfl (hb hby at_94) rfl ?_
      show Steps p.tables e below (T8.setTop (mkF m 96 #[.val (.long q0), .second, .val (.long q1), .second, .val (.int q2), .val (.long v1), .second, .val (.ref a3), .val (.ref a6), .val (.int (1 : Int32)), .val (.int v26), .val (.long v28), .second, .val (.long q0), .second, .unset, .unset] [(.int (1 : Int32))])) _
      refine XS.iconst X8.here hx rfl (hb hby at_96) ?_
      show Steps p.tables e below (T8.setTop (mkF m 97 #[.val (.long q0), .second, .val (.long q1), .second, .val (.int q2), .val (.long v1), .second, .val (.ref a3), .val (.ref a6), .val (.int (1 : Int32)), .val (.int v26), .val (.long v28), .second, .val (.long q0), .second, .unset, .unset] [(.int (1 : Int32)), (.int (1 : Int32))])) _
      refine XS.icmpNo X8.here hx rfl (hb hby at_97) rfl (by decide) ?_
      show Steps p.tables e below (T8.setTop (mkF m 100 #[.val (.long q0), .second, .val (.long q1), .second, .val (.int q2), .val (.long v1), .second, .val (.ref a3), .val (.ref a6), .val (.int (1 : Int32)), .val (.int v26), .val (.long v28), .second, .val (.long q0), .second, .unset, .unset] [])) _
      refine XS.lloadN X8.here hx rfl (hb hby at_100) rfl ?_
      show Steps p.tables e below (T8.setTop (mkF m 101 #[.val (.long q0), .second, .val (.long q1), .second, .val (.int q2), .val (.long v1), .second, .val (.ref a3), .val (.ref a6), .val (.int (1 : Int32)), .val (.int v26), .val (.long v28), .second, .val (.long q0), .second, .unset, .unset] [(.long q1)])) _
      refine XS.lload X8.here hx rfl (hb hby at_101) rfl ?_
      show Steps p.tables e below (T8.setTop (mkF m 103 #[.val (.long q0), .second, .val (.long q1), .second, .val (.int q2), .val (.long v1), .second, .val (.ref a3), .val (.ref a6), .val (.int (1 : Int32)), .val (.int v26), .val (.long v28), .second, .val (.long q0), .second, .unset, .unset] [(.long v28), (.long q1)])) _
      refine XS.lor X8.here hx rfl (hb hby at_103) rfl ?_
      show Steps p.tables e below (T8.setTop (mkF m 104 #[.val (.long q0), .second, .val (.long q1), .second, .val (.int q2), .val (.long v1), .second, .val (.ref a3), .val (.ref a6), .val (.int (1 : Int32)), .val (.int v26), .val (.long v28), .second, .val (.long q0), .second, .unset, .unset] [(.long (q1 ||| v28))])) _
      refine XS.lload X8.here hx rfl (hb hby at_104) rfl ?_
      show Steps p.tables e below (T8.setTop (mkF m 106 #[.val (.long q0), .second, .val (.long q1), .second, .val (.int q2), .val (.long v1), .second, .val (.ref a3), .val (.ref a6), .val (.int (1 : Int32)), .val (.int v26), .val (.long v28), .second, .val (.long q0), .second, .unset, .unset] [(.long v28), (.long (q1 ||| v28))])) _
      refine XS.lxor X8.here hx rfl (hb hby at_106) rfl ?_
      show Steps p.tables e below (T8.setTop (mkF m 107 #[.val (.long q0), .second, .val (.long q1), .second, .val (.int q2), .val (.long v1), .second, .val (.ref a3), .val (.ref a6), .val (.int (1 : Int32)), .val (.int v26), .val (.long v28), .second, .val (.long q0), .second, .unset, .unset] [(.long ((q1 ||| v28) ^^^ v28))])) _
      refine XS.goto X8.here hx rfl (pc0 := 107) (pc' := 111) rfl (hb hby at_107) (by decide) (by decide) ?_
      exact k
    obtain ⟨cq32, kq32, q32a, q32b, q32c⟩ := isOf hZ e8 A8_a6
    obtain ⟨_, _, ⟨T32, L32, k32, n32⟩, -, X32, ⟨Lc32, hQ32, l32, y32, z32⟩, st32⟩ := X8.virtualBack hx (y := (⟨"com/example/mini_bloom/minibloom/BitArray", "words", "()I"⟩ : MethodName)) (z := (⟨"com/example/mini_bloom/minibloom/BitArray", "words", "()I"⟩ : MethodName)) hown (mvT hZ (hw _ (List.mem_of_getElem? (i := 19) rfl))) (mvT hZ (hw _ (List.mem_of_getElem? (i := 20) rfl))) (notFace_of_selects (args := #[]) (mvT hZ (hw _ (List.mem_of_getElem? (i := 22) rfl)))) (mvT hZ (hw _ (List.mem_of_getElem? (i := 22) rfl))) (mvT hZ (hw _ (List.mem_of_getElem? (i := 21) rfl))) (by decide) (backOf (W := 0) (rm4 l Z a0 hw [] a6 a3 ((own_clr ([q0, q1]) v1)) h8 n0 sz8 V8_o0 A8_a6 F8_a6_0 ) hZ (hw _ (List.mem_of_getElem? (i := 23) rfl)) (hw _ (List.mem_of_getElem? (i := 3) rfl)) (by decide) (by decide)) q32a q32c (g := (mkF m 115 #[.val (.long q0), .second, .val (.long q1), .second, .val (.int q2), .val (.long v1), .second, .val (.ref a3), .val (.ref a6), .val (.int (1 : Int32)), .val (.int v26), .val (.long v28), .second, .val (.long q0), .second, .val (.long v30), .second] [(.ref a6)])) rfl (by rw [hml]; rfl) (Steps.refl _) (argsL := []) (rest := []) (lenOf pd_8 rfl) rfl (by show 2 * 0 + _ ≤ _; exact Nat.le_of_eq rfl) (hb hby at_115) (fun _ _ => ⟨rfl, e8, (by decide : 2 + 0 ≤ _), (by decide : 3 + 0 ≤ _)⟩)
    dsimp only [Pt.U, Pt.locs, Pt.cells, Pt.slots] at X32 l32 y32 z32 st32 hQ32
    subst l32 y32 z32
    obtain ⟨rfl, N32q, e32⟩ := hQ32
    have N32 := Fr.app N8 N32q
    have pre33 : ∀ t, Steps p.tables e below (T32.setTop (mkF m 119 #[.val (.long q0), .second, .val (.long q1), .second, .val (.int q2), .val (.long v1), .second, .val (.ref a3), .val (.ref a6), .val (.int (1 : Int32)), .val (.int v26), .val (.long v28), .second, .val (.long q0), .second, .val (.long v30), .second] [(.int (2 : Int32)), (.int (own_f4  ((own_clr ([q0, q1]) v1))))])) t → Steps p.tables e below (s₁.setTop (entryFrame m #[(.long q0), (.long q1), (.int q2)] maxLocals)) t := by
      intro t k
      refine pre31 t ?_
      show Steps p.tables e below (T8.setTop (mkF m 111 #[.val (.long q0), .second, .val (.long q1), .second, .val (.int q2), .val (.long v1), .second, .val (.ref a3), .val (.ref a6), .val (.int (1 : Int32)), .val (.int v26), .val (.long v28), .second, .val (.long q0), .second, .unset, .unset] [(.long v30)])) _
      refine XS.lstore X8.here hx rfl (hb hby at_111) rfl (l' := #[.val (.long q0), .second, .val (.long q1), .second, .val (.int q2), .val (.long v1), .second, .val (.ref a3), .val (.ref a6), .val (.int (1 : Int32)), .val (.int v26), .val (.long v28), .second, .val (.long q0), .second, .val (.long v30), .second]) rfl ?_
      show Steps p.tables e below (T8.setTop (mkF m 113 #[.val (.long q0), .second, .val (.long q1), .second, .val (.int q2), .val (.long v1), .second, .val (.ref a3), .val (.ref a6), .val (.int (1 : Int32)), .val (.int v26), .val (.long v28), .second, .val (.long q0), .second, .val (.long v30), .second] [])) _
      refine XS.aload X8.here hx rfl (hb hby at_113) rfl rfl ?_
      show Steps p.tables e below (T8.setTop (mkF m 115 #[.val (.long q0), .second, .val (.long q1), .second, .val (.int q2), .val (.long v1), .second, .val (.ref a3), .val (.ref a6), .val (.int (1 : Int32)), .val (.int v26), .val (.long v28), .second, .val (.long q0), .second, .val (.long v30), .second] [(.ref a6)])) _
      refine st32.trans ?_
      show Steps p.tables e below (T32.setTop (mkF m 118 #[.val (.long q0), .second, .val (.long q1), .second, .val (.int q2), .val (.long v1), .second, .val (.ref a3), .val (.ref a6), .val (.int (1 : Int32)), .val (.int v26), .val (.long v28), .second, .val (.long q0), .second, .val (.long v30), .second] [(.int (own_f4  ((own_clr ([q0, q1]) v1))))])) _
      refine XS.iconst X32.here hx rfl (hb hby at_118) ?_
      exact k
    by_cases c34 : (own_f4  ((own_clr ([q0, q1]) v1))) = (2 : Int32)
    · obtain ⟨cq35, kq35, q35a, q35b, q35c⟩ := isOf hZ e32 A8_a6
      obtain ⟨_, _, ⟨T35, L35, k35, n35⟩, -, X35, ⟨Lc35, hQ35, l35, y35, z35⟩, st35⟩ := X32.virtualBack hx (y := (⟨"com/example/mini_bloom/minibloom/BitArray", "word", "(I)J"⟩ : MethodName)) (z := (⟨"com/example/mini_bloom/minibloom/BitArray", "word", "(I)J"⟩ : MethodName)) hown (mvT hZ (hw _ (List.mem_of_getElem? (i := 24) rfl))) (mvT hZ (hw _ (List.mem_of_getElem? (i := 25) rfl))) (notFace_of_selects (args := #[]) (mvT hZ (hw _ (List.mem_of_getElem? (i := 27) rfl)))) (mvT hZ (hw _ (List.mem_of_getElem? (i := 27) rfl))) (mvT hZ (hw _ (List.mem_of_getElem? (i := 26) rfl))) (by decide) (backOf (W := 0) (rm5 l Z a0 hw [] a6 (0 : Int32) a3 ((own_clr ([q0, q1]) v1)) h8 n0 sz8 V8_o0 A8_a6 F8_a6_0 (by simp [own_clr])) hZ (hw _ (List.mem_of_getElem? (i := 28) rfl)) (hw _ (List.mem_of_getElem? (i := 3) rfl)) (by decide) (by decide)) q35a q35c (g := (mkF m 125 #[.val (.long q0), .second, .val (.long q1), .second, .val (.int q2), .val (.long v1), .second, .val (.ref a3), .val (.ref a6), .val (.int (1 : Int32)), .val (.int v26), .val (.long v28), .second, .val (.long q0), .second, .val (.long v30), .second] [(.int (0 : Int32)), (.ref a6)])) rfl (by rw [hml]; rfl) (Steps.refl _) (argsL := [(.int (0 : Int32))]) (rest := []) (lenOf pd_9 rfl) rfl (by show 2 * 0 + _ ≤ _; exact Nat.le_of_eq rfl) (hb hby at_125) (fun _ _ => ⟨rfl, e32, (by decide : 2 + 0 ≤ _), (by decide : 3 + 0 ≤ _)⟩)
      dsimp only [Pt.U, Pt.locs, Pt.cells, Pt.slots] at X35 l35 y35 z35 st35 hQ35
      subst l35 y35 z35
      obtain ⟨rfl, N35q, e35⟩ := hQ35
      have N35 := Fr.app N32 N35q
      have pre36 : ∀ t, Steps p.tables e below (T35.setTop (mkF m 131 #[.val (.long q0), .second, .val (.long q1), .second, .val (.int q2), .val (.long v1), .second, .val (.ref a3), .val (.ref a6), .val (.int (1 : Int32)), .val (.int v26), .val (.long v28), .second, .val (.long q0), .second, .val (.long v30), .second] [(.int (lcmpW (own_f5 ((0 : Int32)) ((own_clr ([q0, q1]) v1))) q0))])) t → Steps p.tables e below (s₁.setTop (entryFrame m #[(.long q0), (.long q1), (.int q2)] maxLocals)) t := by
        intro t k
        refine pre33 t ?_
        show Steps p.tables e below (T32.setTop (mkF m 119 #[.val (.long q0), .second, .val (.long q1), .second, .val (.int q2), .val (.long v1), .second, .val (.ref a3), .val (.ref a6), .val (.int (1 : Int32)), .val (.int v26), .val (.long v28), .second, .val (.long q0), .second, .val (.long v30), .second] [(.int (2 : Int32)), (.int (own_f4  ((own_clr ([q0, q1]) v1))))])) _
        refine XS.icmpNo X32.here hx rfl (hb hby at_119) rfl ((teq c34).2) ?_
        show Steps p.tables e below (T32.setTop (mkF m 122 #[.val (.long q0), .second, .val (.long q1), .second, .val (.int q2), .val (.long v1), .second, .val (.ref a3), .val (.ref a6), .val (.int (1 : Int32)), .val (.int v26), .val (.long v28), .second, .val (.long q0), .second, .val (.long v30), .second] [])) _
        refine XS.aload X32.here hx rfl (hb hby at_122) rfl rfl ?_
        show Steps p.tables e below (T32.setTop (mkF m 124 #[.val (.long q0), .second, .val (.long q1), .second, .val (.int q2), .val (.long v1), .second, .val (.ref a3), .val (.ref a6), .val (.int (1 : Int32)), .val (.int v26), .val (.long v28), .second, .val (.long q0), .second, .val (.long v30), .second] [(.ref a6)])) _
        refine XS.iconst X32.here hx rfl (hb hby at_124) ?_
        show Steps p.tables e below (T32.setTop (mkF m 125 #[.val (.long q0), .second, .val (.long q1), .second, .val (.int q2), .val (.long v1), .second, .val (.ref a3), .val (.ref a6), .val (.int (1 : Int32)), .val (.int v26), .val (.long v28), .second, .val (.long q0), .second, .val (.long v30), .second] [(.int (0 : Int32)), (.ref a6)])) _
        refine st35.trans ?_
        show Steps p.tables e below (T35.setTop (mkF m 128 #[.val (.long q0), .second, .val (.long q1), .second, .val (.int q2), .val (.long v1), .second, .val (.ref a3), .val (.ref a6), .val (.int (1 : Int32)), .val (.int v26), .val (.long v28), .second, .val (.long q0), .second, .val (.long v30), .second] [(.long (own_f5 ((0 : Int32)) ((own_clr ([q0, q1]) v1))))])) _
        refine XS.lload X35.here hx rfl (hb hby at_128) rfl ?_
        show Steps p.tables e below (T35.setTop (mkF m 130 #[.val (.long q0), .second, .val (.long q1), .second, .val (.int q2), .val (.long v1), .second, .val (.ref a3), .val (.ref a6), .val (.int (1 : Int32)), .val (.int v26), .val (.long v28), .second, .val (.long q0), .second, .val (.long v30), .second] [(.long q0), (.long (own_f5 ((0 : Int32)) ((own_clr ([q0, q1]) v1))))])) _
        refine XS.lcmp X35.here hx rfl (hb hby at_130) rfl ?_
        exact k
      by_cases c37 : (own_f5 ((0 : Int32)) ((own_clr ([q0, q1]) v1))) = q0
      · obtain ⟨cq38, kq38, q38a, q38b, q38c⟩ := isOf hZ e35 A8_a6
        obtain ⟨_, _, ⟨T38, L38, k38, n38⟩, -, X38, ⟨Lc38, hQ38, l38, y38, z38⟩, st38⟩ := X35.virtualBack hx (y := (⟨"com/example/mini_bloom/minibloom/BitArray", "word", "(I)J"⟩ : MethodName)) (z := (⟨"com/example/mini_bloom/minibloom/BitArray", "word", "(I)J"⟩ : MethodName)) hown (mvT hZ (hw _ (List.mem_of_getElem? (i := 24) rfl))) (mvT hZ (hw _ (List.mem_of_getElem? (i := 25) rfl))) (notFace_of_selects (args := #[]) (mvT hZ (hw _ (List.mem_of_getElem? (i := 27) rfl)))) (mvT hZ (hw _ (List.mem_of_getElem? (i := 27) rfl))) (mvT hZ (hw _ (List.mem_of_getElem? (i := 26) rfl))) (by decide) (backOf (W := 0) (rm5 l Z a0 hw [] a6 (1 : Int32) a3 ((own_clr ([q0, q1]) v1)) h8 n0 sz8 V8_o0 A8_a6 F8_a6_0 (by simp [own_clr])) hZ (hw _ (List.mem_of_getElem? (i := 28) rfl)) (hw _ (List.mem_of_getElem? (i := 3) rfl)) (by decide) (by decide)) q38a q38c (g := (mkF m 137 #[.val (.long q0), .second, .val (.long q1), .second, .val (.int q2), .val (.long v1), .second, .val (.ref a3), .val (.ref a6), .val (.int (1 : Int32)), .val (.int v26), .val (.long v28), .second, .val (.long q0), .second, .val (.long v30), .second] [(.int (1 : Int32)), (.ref a6)])) rfl (by rw [hml]; rfl) (Steps.refl _) (argsL := [(.int (1 : Int32))]) (rest := []) (lenOf pd_9 rfl) rfl (by show 2 * 0 + _ ≤ _; exact Nat.le_of_eq rfl) (hb hby at_137) (fun _ _ => ⟨rfl, e35, (by decide : 2 + 0 ≤ _), (by decide : 3 + 0 ≤ _)⟩)
        dsimp only [Pt.U, Pt.locs, Pt.cells, Pt.slots] at X38 l38 y38 z38 st38 hQ38
        subst l38 y38 z38
        obtain ⟨rfl, N38q, e38⟩ := hQ38
        have N38 := Fr.app N35 N38q
        have pre39 : ∀ t, Steps p.tables e below (T38.setTop (mkF m 143 #[.val (.long q0), .second, .val (.long q1), .second, .val (.int q2), .val (.long v1), .second, .val (.ref a3), .val (.ref a6), .val (.int (1 : Int32)), .val (.int v26), .val (.long v28), .second, .val (.long q0), .second, .val (.long v30), .second] [(.int (lcmpW (own_f5 ((1 : Int32)) ((own_clr ([q0, q1]) v1))) v30))])) t → Steps p.tables e below (s₁.setTop (entryFrame m #[(.long q0), (.long q1), (.int q2)] maxLocals)) t := by
          intro t k
          refine pre36 t ?_
          show Steps p.tables e below (T35.setTop (mkF m 131 #[.val (.long q0), .second, .val (.long q1), .second, .val (.int q2), .val (.long v1), .second, .val (.ref a3), .val (.ref a6), .val (.int (1 : Int32)), .val (.int v26), .val (.long v28), .second, .val (.long q0), .second, .val (.long v30), .second] [(.int (lcmpW (own_f5 ((0 : Int32)) ((own_clr ([q0, q1]) v1))) q0))])) _
          refine XS.ifNo X35.here hx rfl (hb hby at_131) rfl ((if0 _ _).trans (teq ((lw_eq (own_f5 ((0 : Int32)) ((own_clr ([q0, q1]) v1))) q0).mpr c37)).2) ?_
          show Steps p.tables e below (T35.setTop (mkF m 134 #[.val (.long q0), .second, .val (.long q1), .second, .val (.int q2), .val (.long v1), .second, .val (.ref a3), .val (.ref a6), .val (.int (1 : Int32)), .val (.int v26), .val (.long v28), .second, .val (.long q0), .second, .val (.long v30), .second] [])) _
          refine XS.aload X35.here hx rfl (hb hby at_134) rfl rfl ?_
          show Steps p.tables e below (T35.setTop (mkF m 136 #[.val (.long q0), .second, .val (.long q1), .second, .val (.int q2), .val (.long v1), .second, .val (.ref a3), .val (.ref a6), .val (.int (1 : Int32)), .val (.int v26), .val (.long v28), .second, .val (.long q0), .second, .val (.long v30), .second] [(.ref a6)])) _
          refine XS.iconst X35.here hx rfl (hb hby at_136) ?_
          show Steps p.tables e below (T35.setTop (mkF m 137 #[.val (.long q0), .second, .val (.long q1), .second, .val (.int q2), .val (.long v1), .second, .val (.ref a3), .val (.ref a6), .val (.int (1 : Int32)), .val (.int v26), .val (.long v28), .second, .val (.long q0), .second, .val (.long v30), .second] [(.int (1 : Int32)), (.ref a6)])) _
          refine st38.trans ?_
          show Steps p.tables e below (T38.setTop (mkF m 140 #[.val (.long q0), .second, .val (.long q1), .second, .val (.int q2), .val (.long v1), .second, .val (.ref a3), .val (.ref a6), .val (.int (1 : Int32)), .val (.int v26), .val (.long v28), .second, .val (.long q0), .second, .val (.long v30), .second] [(.long (own_f5 ((1 : Int32)) ((own_clr ([q0, q1]) v1))))])) _
          refine XS.lload X38.here hx rfl (hb hby at_140) rfl ?_
          show Steps p.tables e below (T38.setTop (mkF m 142 #[.val (.long q0), .second, .val (.long q1), .second, .val (.int q2), .val (.long v1), .second, .val (.ref a3), .val (.ref a6), .val (.int (1 : Int32)), .val (.int v26), .val (.long v28), .second, .val (.long q0), .second, .val (.long v30), .second] [(.long v30), (.long (own_f5 ((1 : Int32)) ((own_clr ([q0, q1]) v1))))])) _
          refine XS.lcmp X38.here hx rfl (hb hby at_142) rfl ?_
          exact k
        by_cases c40 : (own_f5 ((1 : Int32)) ((own_clr ([q0, q1]) v1))) = v30
        · obtain ⟨fs, hr, hrun, hended, hW, hsame⟩ := X38.leave (v := some (.int (1 : Int32))) (fun h => by rw [Bd.returns] at h; cases h) hlk
          refine ⟨_, _, pre39 _ ?_, hrun, hended, _, _, rfl, ?_, ⟨_, rfl⟩, hW, hsame.mono (by decide) (by decide)⟩
          · show Steps p.tables e below (T38.setTop (mkF m 143 #[.val (.long q0), .second, .val (.long q1), .second, .val (.int q2), .val (.long v1), .second, .val (.ref a3), .val (.ref a6), .val (.int (1 : Int32)), .val (.int v26), .val (.long v28), .second, .val (.long q0), .second, .val (.long v30), .second] [(.int (lcmpW (own_f5 ((1 : Int32)) ((own_clr ([q0, q1]) v1))) v30))])) _
            refine XS.ifNo X38.here hx rfl (hb hby at_143) rfl ((if0 _ _).trans (teq ((lw_eq (own_f5 ((1 : Int32)) ((own_clr ([q0, q1]) v1))) v30).mpr c40)).2) ?_
            show Steps p.tables e below (T38.setTop (mkF m 146 #[.val (.long q0), .second, .val (.long q1), .second, .val (.int q2), .val (.long v1), .second, .val (.ref a3), .val (.ref a6), .val (.int (1 : Int32)), .val (.int v26), .val (.long v28), .second, .val (.long q0), .second, .val (.long v30), .second] [])) _
            refine XS.iconst X38.here hx rfl (hb hby at_146) ?_
            show Steps p.tables e below (T38.setTop (mkF m 147 #[.val (.long q0), .second, .val (.long q1), .second, .val (.int q2), .val (.long v1), .second, .val (.ref a3), .val (.ref a6), .val (.int (1 : Int32)), .val (.int v26), .val (.long v28), .second, .val (.long q0), .second, .val (.long v30), .second] [(.int (1 : Int32))])) _
            refine XS.goto X38.here hx rfl (pc0 := 147) (pc' := 151) rfl (hb hby at_147) (by decide) (by decide) ?_
            show Steps p.tables e below (T38.setTop (mkF m 151 #[.val (.long q0), .second, .val (.long q1), .second, .val (.int q2), .val (.long v1), .second, .val (.ref a3), .val (.ref a6), .val (.int (1 : Int32)), .val (.int v26), .val (.long v28), .second, .val (.long q0), .second, .val (.long v30), .second] [(.int (1 : Int32))])) _
            exact retN X38 hx (t := .boolean) Bd.returns (by simp) (hb hby at_151) hr
          · show Q0 Z q0 q1 q2 h0 n0 _ T38.heap _
            rw [e38]
            exact ⟨by have w_hv30 := hv30.symm; subst w_hv30; have w_hv28 := hv28.symm; subst w_hv28; have w_hv26 := hv26.symm; subst w_hv26; have w_hv1 := hv1.symm; subst w_hv1; simp only [own_f0, if_neg c10, if_pos c34, if_pos c37, if_pos c40], N38⟩
        · obtain ⟨fs, hr, hrun, hended, hW, hsame⟩ := X38.leave (v := some (.int (0 : Int32))) (fun h => by rw [Bd.returns] at h; cases h) hlk
          refine ⟨_, _, pre39 _ ?_, hrun, hended, _, _, rfl, ?_, ⟨_, rfl⟩, hW, hsame.mono (by decide) (by decide)⟩
          · show Steps p.tables e below (T38.setTop (mkF m 143 #[.val (.long q0), .second, .val (.long q1), .second, .val (.int q2), .val (.long v1), .second, .val (.ref a3), .val (.ref a6), .val (.int (1 : Int32)), .val (.int v26), .val (.long v28), .second, .val (.long q0), .second, .val (.long v30), .second] [(.int (lcmpW (own_f5 ((1 : Int32)) ((own_clr ([q0, q1]) v1))) v30))])) _
            refine XS.ifYes X38.here hx rfl (pc0 := 143) (pc' := 150) rfl (hb hby at_143) rfl ((if0 _ _).trans (feq (mt (lw_eq (own_f5 ((1 : Int32)) ((own_clr ([q0, q1]) v1))) v30).mp c40)).2) (by decide) (by decide) ?_
            show Steps p.tables e below (T38.setTop (mkF m 150 #[.val (.long q0), .second, .val (.long q1), .second, .val (.int q2), .val (.long v1), .second, .val (.ref a3), .val (.ref a6), .val (.int (1 : Int32)), .val (.int v26), .val (.long v28), .second, .val (.long q0), .second, .val (.long v30), .second] [])) _
            refine XS.iconst X38.here hx rfl (hb hby at_150) ?_
            show Steps p.tables e below (T38.setTop (mkF m 151 #[.val (.long q0), .second, .val (.long q1), .second, .val (.int q2), .val (.long v1), .second, .val (.ref a3), .val (.ref a6), .val (.int (1 : Int32)), .val (.int v26), .val (.long v28), .second, .val (.long q0), .second, .val (.long v30), .second] [(.int (0 : Int32))])) _
            exact retN X38 hx (t := .boolean) Bd.returns (by simp) (hb hby at_151) hr
          · show Q0 Z q0 q1 q2 h0 n0 _ T38.heap _
            rw [e38]
            exact ⟨by have w_hv30 := hv30.symm; subst w_hv30; have w_hv28 := hv28.symm; subst w_hv28; have w_hv26 := hv26.symm; subst w_hv26; have w_hv1 := hv1.symm; subst w_hv1; simp only [own_f0, if_neg c10, if_pos c34, if_pos c37, if_neg c40], N38⟩
      · obtain ⟨fs, hr, hrun, hended, hW, hsame⟩ := X35.leave (v := some (.int (0 : Int32))) (fun h => by rw [Bd.returns] at h; cases h) hlk
        refine ⟨_, _, pre36 _ ?_, hrun, hended, _, _, rfl, ?_, ⟨_, rfl⟩, hW, hsame.mono (by decide) (by decide)⟩
        · show Steps p.tables e below (T35.setTop (mkF m 131 #[.val (.long q0), .second, .val (.long q1), .second, .val (.int q2), .val (.long v1), .second, .val (.ref a3), .val (.ref a6), .val (.int (1 : Int32)), .val (.int v26), .val (.long v28), .second, .val (.long q0), .second, .val (.long v30), .second] [(.int (lcmpW (own_f5 ((0 : Int32)) ((own_clr ([q0, q1]) v1))) q0))])) _
          refine XS.ifYes X35.here hx rfl (pc0 := 131) (pc' := 150) rfl (hb hby at_131) rfl ((if0 _ _).trans (feq (mt (lw_eq (own_f5 ((0 : Int32)) ((own_clr ([q0, q1]) v1))) q0).mp c37)).2) (by decide) (by decide) ?_
          show Steps p.tables e below (T35.setTop (mkF m 150 #[.val (.long q0), .second, .val (.long q1), .second, .val (.int q2), .val (.long v1), .second, .val (.ref a3), .val (.ref a6), .val (.int (1 : Int32)), .val (.int v26), .val (.long v28), .second, .val (.long q0), .second, .val (.long v30), .second] [])) _
          refine XS.iconst X35.here hx rfl (hb hby at_150) ?_
          show Steps p.tables e below (T35.setTop (mkF m 151 #[.val (.long q0), .second, .val (.long q1), .second, .val (.int q2), .val (.long v1), .second, .val (.ref a3), .val (.ref a6), .val (.int (1 : Int32)), .val (.int v26), .val (.long v28), .second, .val (.long q0), .second, .val (.long v30), .second] [(.int (0 : Int32))])) _
          exact retN X35 hx (t := .boolean) Bd.returns (by simp) (hb hby at_151) hr
        · show Q0 Z q0 q1 q2 h0 n0 _ T35.heap _
          rw [e35]
          exact ⟨by have w_hv30 := hv30.symm; subst w_hv30; have w_hv28 := hv28.symm; subst w_hv28; have w_hv26 := hv26.symm; subst w_hv26; have w_hv1 := hv1.symm; subst w_hv1; simp only [own_f0, if_neg c10, if_pos c34, if_neg c37], N35⟩
    · obtain ⟨fs, hr, hrun, hended, hW, hsame⟩ := X32.leave (v := some (.int (0 : Int32))) (fun h => by rw [Bd.returns] at h; cases h) hlk
      refine ⟨_, _, pre33 _ ?_, hrun, hended, _, _, rfl, ?_, ⟨_, rfl⟩, hW, hsame.mono (by decide) (by decide)⟩
      · show Steps p.tables e below (T32.setTop (mkF m 119 #[.val (.long q0), .second, .val (.long q1), .second, .val (.int q2), .val (.long v1), .second, .val (.ref a3), .val (.ref a6), .val (.int (1 : Int32)), .val (.int v26), .val (.long v28), .second, .val (.long q0), .second, .val (.long v30), .second] [(.int (2 : Int32)), (.int (own_f4  ((own_clr ([q0, q1]) v1))))])) _
        refine XS.icmpYes X32.here hx rfl (pc0 := 119) (pc' := 150) rfl (hb hby at_119) rfl ((feq c34).2) (by decide) (by decide) ?_
        show Steps p.tables e below (T32.setTop (mkF m 150 #[.val (.long q0), .second, .val (.long q1), .second, .val (.int q2), .val (.long v1), .second, .val (.ref a3), .val (.ref a6), .val (.int (1 : Int32)), .val (.int v26), .val (.long v28), .second, .val (.long q0), .second, .val (.long v30), .second] [])) _
        refine XS.iconst X32.here hx rfl (hb hby at_150) ?_
        show Steps p.tables e below (T32.setTop (mkF m 151 #[.val (.long q0), .second, .val (.long q1), .second, .val (.int q2), .val (.long v1), .second, .val (.ref a3), .val (.ref a6), .val (.int (1 : Int32)), .val (.int v26), .val (.long v28), .second, .val (.long q0), .second, .val (.long v30), .second] [(.int (0 : Int32))])) _
        exact retN X32 hx (t := .boolean) Bd.returns (by simp) (hb hby at_151) hr
      · show Q0 Z q0 q1 q2 h0 n0 _ T32.heap _
        rw [e32]
        exact ⟨by have w_hv30 := hv30.symm; subst w_hv30; have w_hv28 := hv28.symm; subst w_hv28; have w_hv26 := hv26.symm; subst w_hv26; have w_hv1 := hv1.symm; subst w_hv1; simp only [own_f0, if_neg c10, if_neg c34], N32⟩

theorem own_clr1 (x b : Int64) : x &&& (b ^^^ (-1 : Int64)) = (x ||| b) ^^^ b := by
  have h1 : (-1 : Int64).toBitVec = BitVec.allOnes 64 := by decide
  apply Int64.toBitVec_inj.mp
  rw [Int64.toBitVec_and, Int64.toBitVec_xor, Int64.toBitVec_xor, Int64.toBitVec_or, h1]
  apply BitVec.eq_of_getLsbD_eq
  intro i hi
  simp only [BitVec.getLsbD_and, BitVec.getLsbD_xor, BitVec.getLsbD_or, BitVec.getLsbD_allOnes, hi, decide_true]
  cases x.toBitVec.getLsbD i <;> cases b.toBitVec.getLsbD i <;> rfl
/-- two shifts by counts that are one modulo 64 -/
theorem own_shc (s1 s2 : Int32) (h : s1.toBitVec.toNat % 64 = s2.toBitVec.toNat % 64) : ((1 : Int64) <<< (s1 &&& 0x3f).toInt64) = ((1 : Int64) <<< (s2 &&& 0x3f).toInt64) := by
  obtain ⟨h1, -⟩ := sm64 s1 _ rfl
  obtain ⟨h2, -⟩ := sm64 s2 _ rfl
  have e : (s1 &&& 0x3f).toInt64 = (s2 &&& 0x3f).toInt64 := Int64.toBitVec_inj.mp (by rw [h1, h2, h])
  rw [e]
theorem own_natOf {x : Int32} (h : 0 ≤ x.toInt) : (x.toBitVec.toNat : Int) = x.toInt := by
  rw [← Int32.toInt_toBitVec, BitVec.toInt_eq_toNat_cond] at h ⊢
  split at h <;> rename_i q
  · rw [if_pos q]
  · have := x.toBitVec.isLt
    omega
theorem own_sh2 (k c : Int64) (hk : 0 ≤ k.toInt ∧ k.toInt < 128) (hc : c.toInt = 0 ∨ c.toInt = 64) (hkc : c.toInt ≤ k.toInt) : ((1 : Int64) <<< ((k).toInt32 &&& 0x3f).toInt64) = ((1 : Int64) <<< ((k - c).toInt32 &&& 0x3f).toInt64) := by
  have s := own_lsub (x := k) (y := c) (by omega)
  have a := own_l2i (x := k) (by omega)
  have b := own_l2i (x := k - c) (by omega)
  have na := own_natOf (x := k.toInt32) (by omega)
  have nb := own_natOf (x := (k - c).toInt32) (by omega)
  exact own_shc _ _ (by omega)
theorem own_f50 (x y : Int64) : own_f5 0 [x, y] = x := rfl
theorem own_f51 (x y : Int64) : own_f5 1 [x, y] = y := rfl
theorem own_plain (q0 q1 : Int64) (q2 : Int32) : own_f0 q0 q1 q2 = 1 := by
  have h := own_inK (x := q2) rfl
  have w := own_wd h
  have e64 : (64 : Int64).toInt = 64 := by decide
  have len : ∀ k, own_f4 (own_clr [q0, q1] k) = 2 := fun k => by
    rw [own_f4, own_clr, List.length_set]; rfl
  simp only [own_f0, len, if_true]
  generalize (q2 &&& 127).toInt64 = k at *
  split
  · rename_i c
    rw [Int64.lt_iff_toInt_lt, e64] at c
    have i0 : ((((k).toUInt64 >>> ((6 : Int32) &&& 0x3f).toInt64.toUInt64).toInt64).toInt32).toInt.toNat = 0 := by rw [w]; omega
    have e : own_clr [q0, q1] k = [(q0 ||| ((1 : Int64) <<< ((k - 0).toInt32 &&& 0x3f).toInt64)) ^^^ ((1 : Int64) <<< ((k - 0).toInt32 &&& 0x3f).toInt64), q1] := by
      rw [own_clr, i0, own_sh2 k 0 h (Or.inl (by decide)) (by have : (0 : Int64).toInt = 0 := by decide
                                                              omega), own_clr1]; rfl
    rw [e, own_f50, own_f51, if_pos rfl, if_pos rfl]
  · rename_i c
    rw [Int64.lt_iff_toInt_lt, e64] at c
    have i1 : ((((k).toUInt64 >>> ((6 : Int32) &&& 0x3f).toInt64.toUInt64).toInt64).toInt32).toInt.toNat = 1 := by rw [w]; omega
    have e : own_clr [q0, q1] k = [q0, (q1 ||| ((1 : Int64) <<< ((k - 64).toInt32 &&& 0x3f).toInt64)) ^^^ ((1 : Int64) <<< ((k - 64).toInt32 &&& 0x3f).toInt64)] := by
      rw [own_clr, i1, own_sh2 k 64 h (Or.inr (by decide)) (by omega), own_clr1]; rfl
    rw [e, own_f50, own_f51, if_pos rfl, if_pos rfl]

set_option maxRecDepth 65536 in
set_option maxHeartbeats 40000000 in
theorem comes_1 {Post : Tables → Env → Array Value → State → Outcome → State → Prop} (hpost : ∀ tb e args s v u, (limb_1_1.after args s (.returned v) u = true ∧ limb_1_2.after args s (.returned v) u = true ∧ True) → FrameEnd s (.returned v) u (Jvm.fieldLocs frame_1_writes args s ++ Jvm.arrayLocs frame_1_arrays args s ++ Jvm.staticLocs frame_1_statics s) 16 128 → Post tb e args s (.returned v) u) :
    ArmFor flags0 classFile x code maxLocals ret World_1 tables_1 room_1 Calls_1 rest_1 Pre_1 Post := by
  intro l hfl _ _ p e ha hc hk s m args below hf hA hF happ hP
  obtain ⟨hcalls, hrest, hpre⟩ := hP
  obtain ⟨-, -, -, hnamed, -, -, -, hat⟩ := (Spec.applies_iff hf).mp happ
  obtain ⟨hg, hn⟩ := and_e (Cond.before_iff.mp (show (Jvm.Cond.and given_1 narrow_1).before args s = true from hpre))
  obtain ⟨gc, gr0⟩ := and_e hg
  obtain ⟨w0, w1, w2, rfl⟩ : ∃ w0 w1 w2 : Value, args = #[w0, w1, w2] := by
    have hs : args.size = 3 := by simpa [Cond.value, given_1] using gc
    obtain ⟨L⟩ := args
    match L, hs with
    | [w0, w1, w2], _ => exact ⟨w0, w1, w2, rfl⟩
  have hw := fun d (hd : d ∈ tables_1) => atoms_spec (ws := Jvm.Cond.code x code maxLocals ret :: tables_1) hat d (List.mem_cons_of_mem _ hd)
  obtain ⟨g0, gr1⟩ := and_e gr0
  obtain ⟨i0, ei0⟩ := isL_v g0
  obtain rfl : w0 = (.long i0) := Option.some.inj ei0
  obtain ⟨g1, gr2⟩ := and_e gr1
  obtain ⟨i1, ei1⟩ := isL_v g1
  obtain rfl : w1 = (.long i1) := Option.some.inj ei1
  obtain ⟨i2, ei2⟩ := is_v gr2
  obtain rfl : w2 = (.int i2) := Option.some.inj ei2
  obtain ⟨n, o, h1, h2, h3, _, L, rfl, ⟨hv, N⟩, hq⟩ := rm0 l s _ hw tables_1 i0 i1 i2 s.heap s.heap.size (Nat.le_refl _) p e ha hc hk s m _ below hf ((Spec.applies_iff_loose hf).mp happ).1 ⟨rfl, State.Warmed39.refl s, rfl⟩ trivial
  rw [own_plain] at hv
  subst hv
  refine ⟨n, _, h1, h2, h3, hpost _ _ _ _ _ _ ⟨Cond.after_iff.mpr rfl, Cond.after_iff.mpr (eq_i res_at (Term.int_eval (1)) rfl), trivial⟩ ⟨hq.1, hq.2.1, (hq.2.2.sift fun y hy => Or.inr (N y hy)).mono (by decide) (by decide)⟩⟩
theorem main_1_1 : Claimed_1_1 := comes_1 fun _ _ _ _ _ _ h hF => ⟨h.1, hF⟩
theorem main_1_2 : Claimed_1_2 := comes_1 fun _ _ _ _ _ _ h hF => ⟨h.2.1, hF⟩
end Jvm.Pilot.@@N@@
namespace Jvm.Pilot.@@N@@
open Jvm Jvm.ClassFile Sem Op Lib Jvm.Free Jvm.Stand Jvm.Pilot.@@N@@.Jvm.D
/-! MADE BY PROGRAM (witnessworld.py) out of the Statement's table words and the real class files: 11 classes; the members and pool entries that the words name. The judged class is class 1, her method 1. -/
namespace start1
open Jvm.ClassFile
def u (s : String) : CpInfo := .utf8 (stringToUtf16 s)
/-- a pool by its gaps: so many unusable entries, then the entry; so many at the end -/
def gap : Nat → List CpInfo → List CpInfo
  | 0, r => r
  | n + 1, r => .unusable :: gap n r
def poolList (es : List (Nat × CpInfo)) (last : Nat) : List CpInfo := es.foldr (fun e r => gap e.1 (e.2 :: r)) (gap last [])
def pool (es : List (Nat × CpInfo)) (last : Nat) : Array CpInfo := ⟨poolList es last⟩
def fileOf (pool : Array CpInfo) (this : Nat) (attrs : Array Attribute := #[]) (ms : Array MethodInfo := #[]) (fl : Nat := 33) (sup : Nat := 0) (ifs : Array Nat := #[]) (fds : Array FieldInfo := #[]) : ClassFile where
  minorVersion := 0
  majorVersion := 65
  constantPool := pool
  accessFlags := fl
  thisClass := this
  superClass := sup
  interfaces := ifs
  fields := fds
  methods := ms
  attributes := attrs
def plain (name : String) (sup : Option ClassId) : Class where
  name := name
  kind := .ordinary
  loader := none
  accessFlags := 33
  super := sup
  interfaces := #[]
  cf := none
  fields := #[]
  methods := #[]
  instanceTypes := #[]
  staticTypes := #[]
  resolved := #[]
  callSites := []
  init := .initialized
  statics := none
  mirror := none

def pool0 : Array CpInfo := pool [(5, u "<init>"), (0, u "()V"), (1, .class_ 10), (1, u "java/lang/Object")] 113

def k0c0 : Code := { maxStack := 0, maxLocals := 1, code := object_method_1_code, exceptionTable := #[], attributes := #[] }
def k0m0 : Method := { name := "<init>", desc := "()V", sig := { parameters := [], returnType := none }, accessFlags := 1, code := some k0c0 }
/-- java/lang/Object -/
def k0 : Class := { plain "java/lang/Object" none with
  accessFlags := 33
  interfaces := #[]
  cf := some (fileOf pool0 8 #[] #[{ accessFlags := 1, nameIndex := 5, descriptorIndex := 6, attributes := #[] }] 33 0 #[] #[])
  fields := #[]
  methods := #[k0m0]
  instanceTypes := #[]
  staticTypes := #[]
  resolved := Array.replicate 124 none
  statics := none }

def pool1 : Array CpInfo := pool [(2, .class_ 4), (1, u "java/lang/Object"), (0, u "<init>"), (0, u "()V"), (0, .class_ 8), (0, u "com/example/mini_bloom/minibloom/BitArray"), (0, .methodref 7 10), (0, .nameAndType 5 11), (0, u "([J)V"), (0, .methodref 7 13), (0, .nameAndType 14 15), (0, u "clearBit"), (0, u "(J)V"), (0, .long 64), (1, .methodref 7 19), (0, .nameAndType 20 21), (0, u "words"), (0, u "()I"), (0, .methodref 7 23), (0, .nameAndType 24 25), (0, u "word"), (0, u "(I)J"), (0, .class_ 27), (0, u "com/example/mini_bloom/minibloom/BitArrayClearBitPinLaw"), (2, u "law"), (0, u "(JJI)Z")] 5

def k1m0 : Method := { name := "<init>", desc := "()V", sig := { parameters := [], returnType := none }, accessFlags := 1, code := none }
def k1c1 : Code := { maxStack := 6, maxLocals := 17, code := code, exceptionTable := #[], attributes := #[] }
def k1m1 : Method := { name := "law", desc := "(JJI)Z", sig := { parameters := [.long, .long, .int], returnType := some .boolean }, accessFlags := 9, code := some k1c1 }
/-- com/example/mini_bloom/minibloom/BitArrayClearBitPinLaw -/
def k1 : Class := { plain "com/example/mini_bloom/minibloom/BitArrayClearBitPinLaw" (some 0) with
  accessFlags := 49
  interfaces := #[]
  cf := some (fileOf pool1 26 #[] #[{ accessFlags := 1, nameIndex := 5, descriptorIndex := 6, attributes := #[] }, { accessFlags := 9, nameIndex := 30, descriptorIndex := 31, attributes := #[] }] 49 2 #[] #[])
  fields := #[]
  methods := #[k1m0, k1m1]
  instanceTypes := #[]
  staticTypes := #[]
  resolved := Array.replicate 37 none
  statics := none }

def pool2 : Array CpInfo := pool [(3, .methodref 4 5), (0, .class_ 6), (0, .nameAndType 7 8), (0, u "java/lang/Object"), (0, u "<init>"), (0, u "()V"), (1, .class_ 12), (1, u "com/example/mini_bloom/minibloom/BitArray"), (2, .fieldref 10 16), (0, .nameAndType 17 18), (0, u "words"), (0, u "[J"), (7, u "([J)V"), (4, .long 18446744073709551615), (4, u "(I)J"), (13, u "MAX_BITS"), (0, u "J"), (3, u "(J)V"), (9, u "()I"), (0, u "word"), (3, u "clearBit")] 11

def k2c0 : Code := { maxStack := 2, maxLocals := 2, code := prog_1_method_2_code, exceptionTable := #[], attributes := #[] }
def k2m0 : Method := { name := "<init>", desc := "([J)V", sig := { parameters := [(.array .long)], returnType := none }, accessFlags := 0, code := some k2c0 }
def k2c1 : Code := { maxStack := 1, maxLocals := 1, code := prog_1_method_7_code, exceptionTable := #[], attributes := #[] }
def k2m1 : Method := { name := "words", desc := "()I", sig := { parameters := [], returnType := some .int }, accessFlags := 0, code := some k2c1 }
def k2c2 : Code := { maxStack := 2, maxLocals := 2, code := prog_1_method_8_code, exceptionTable := #[], attributes := #[] }
def k2m2 : Method := { name := "word", desc := "(I)J", sig := { parameters := [.int], returnType := some .long }, accessFlags := 0, code := some k2c2 }
def k2c3 : Code := { maxStack := 8, maxLocals := 3, code := prog_1_method_11_code, exceptionTable := #[], attributes := #[] }
def k2m3 : Method := { name := "clearBit", desc := "(J)V", sig := { parameters := [.long], returnType := none }, accessFlags := 0, code := some k2c3 }
/-- com/example/mini_bloom/minibloom/BitArray -/
def k2 : Class := { plain "com/example/mini_bloom/minibloom/BitArray" (some 0) with
  accessFlags := 48
  interfaces := #[]
  cf := some (fileOf pool2 10 #[] #[{ accessFlags := 0, nameIndex := 7, descriptorIndex := 26, attributes := #[] }, { accessFlags := 0, nameIndex := 17, descriptorIndex := 65, attributes := #[] }, { accessFlags := 0, nameIndex := 66, descriptorIndex := 36, attributes := #[] }, { accessFlags := 0, nameIndex := 70, descriptorIndex := 55, attributes := #[] }] 48 4 #[] #[{ accessFlags := 24, nameIndex := 50, descriptorIndex := 51, attributes := #[] }, { accessFlags := 18, nameIndex := 17, descriptorIndex := 18, attributes := #[] }])
  fields := #[{ name := "MAX_BITS", type := .long, accessFlags := 24, slot := 0, constantValue := 0 }, { name := "words", type := (.array .long), accessFlags := 18, slot := 0, constantValue := 0 }]
  methods := #[k2m0, k2m1, k2m2, k2m3]
  instanceTypes := #[(.array .long)]
  staticTypes := #[.long]
  resolved := Array.replicate 82 none
  statics := none }

def pool3 : Array CpInfo := pool [(1, u "java/lang/Cloneable"), (0, .class_ 1), (0, u "java/lang/Object"), (0, .class_ 3)] 3

/-- java/lang/Cloneable -/
def k3 : Class := { plain "java/lang/Cloneable" (some 0) with
  accessFlags := 1537
  interfaces := #[]
  cf := some (fileOf pool3 2 #[] #[] 1537 4 #[] #[])
  fields := #[]
  methods := #[]
  instanceTypes := #[]
  staticTypes := #[]
  resolved := Array.replicate 8 none
  statics := none }

def pool4 : Array CpInfo := pool [(1, u "java/io/Serializable"), (0, .class_ 1), (0, u "java/lang/Object"), (0, .class_ 3)] 3

/-- java/io/Serializable -/
def k4 : Class := { plain "java/io/Serializable" (some 0) with
  accessFlags := 1537
  interfaces := #[]
  cf := some (fileOf pool4 2 #[] #[] 1537 4 #[] #[])
  fields := #[]
  methods := #[]
  instanceTypes := #[]
  staticTypes := #[]
  resolved := Array.replicate 8 none
  statics := none }

/-- the primitive byte -/
def k5 : Class := { plain "byte" none with kind := .primitive 'B', accessFlags := 0x411 }
/-- [B -/
def k6 : Class := { plain "[B" (some 0) with kind := .array 5 .byte, interfaces := #[3, 4], accessFlags := 1041 }

/-- the primitive int -/
def k7 : Class := { plain "int" none with kind := .primitive 'I', accessFlags := 0x411 }
/-- [I -/
def k8 : Class := { plain "[I" (some 0) with kind := .array 7 .int, interfaces := #[3, 4], accessFlags := 1041 }

/-- the primitive long -/
def k9 : Class := { plain "long" none with kind := .primitive 'J', accessFlags := 0x411 }
/-- [J -/
def k10 : Class := { plain "[J" (some 0) with kind := .array 9 .long, interfaces := #[3, 4], accessFlags := 1041 }

def heap : Heap := #[]
def classes : Array Class := #[k0, k1, k2, k3, k4, k5, k6, k7, k8, k9, k10]
def interned : List (Array UInt16 × Addr) := []
def slotsUsed : Nat := 0
def theMethod : MethodId := ⟨1, 1⟩
def args0 : Array Value := #[.long 5, .long 6, .int 7]
def aboutOver (below : List Frame) : State where
  vm := { classes := classes, interned := interned.toArray }
  heap := heap
  slotsUsed := slotsUsed
  threads := #[{ frames := .invoking theMethod args0 :: below }]
def below0 : List Frame := [.native { method := ⟨0, 0⟩, args := #[] }]
def about1 : State := aboutOver below0
def p0 : Program := .bare "" "" ""
def e0 : Env := launch0.env 0 0 0
theorem w_frames : about1.frames = Frame.invoking theMethod args0 :: below0 := rfl
set_option maxRecDepth 65536 in
theorem w_args : argsFit about1.vm theMethod args0 = true := by decide +kernel
set_option maxRecDepth 65536 in
theorem w_heap : heapFits about1 = true := by decide +kernel
set_option maxRecDepth 65536 in
theorem w_runnable : about1.curStatus? = some .runnable := by decide +kernel
set_option maxRecDepth 65536 in
theorem w_alone : about1.alone = true := by decide +kernel
set_option maxRecDepth 65536 in
theorem w_named : about1.methodNamed? x = some theMethod := by decide +kernel
set_option maxRecDepth 65536 in
theorem w_hears : about1.hears theMethod below0 = true := by decide +kernel
set_option maxRecDepth 65536 in
theorem w_ripe : about1.ripe theMethod args0 below0 = true := by decide +kernel
theorem w_running : about1.status = .running := rfl
set_option maxRecDepth 65536 in
theorem w_room : about1.hasRoom e0.platform room_1 = true :=
  launch0.hasRoom_least _ room_1 (by decide +kernel) (by decide +kernel) (by decide +kernel) (by decide +kernel) (by decide +kernel) (by decide +kernel)
theorem allAtoms_all (ts : List Jvm.Cond) (a : Array Jvm.Value) (st : Jvm.State) : (allAtoms ts).before a st = ts.all (fun c => c.before a st) := by
  induction ts with
  | nil => rfl
  | cons c t ih =>
    show (Jvm.Cond.and c (allAtoms t)).before a st = _
    rw [Jvm.Cond.before_and, ih, List.all_cons]
def words1 : List Jvm.Cond := Jvm.Cond.code x code maxLocals ret :: tables_1
/-- a 'code' word, met by the world's own term for the bytes: nothing is compared byte by byte -/
theorem code_word {y : MethodName} {bytes : ByteArray} {mx : Nat} {rt : Option FieldType} {a : Array Value} {s : State} {m : MethodId} {meth : Method} {c : Code} (h1 : s.methodNamed? y = some m) (h2 : s.vm.method? m = some meth) (h3 : meth.code = some c) (h4 : c.code = bytes)
    (h5 : (c.maxLocals == mx && c.exceptionTable.isEmpty && decide (c.maxStack ≤ mostOperands) && decide (meth.sig.returnType = rt) && !meth.locks && decide (parseMethodDescriptor y.desc = some meth.sig)) = true) : (Jvm.Cond.code y bytes mx rt).before a s = true := by
  simp only [Bool.and_eq_true, beq_iff_eq, Bool.not_eq_true', decide_eq_true_eq] at h5
  obtain ⟨⟨⟨⟨⟨g1, g2⟩, g3⟩, g4⟩, g5⟩, g6⟩ := h5
  simp [Cond.before, Cond.holds, Cond.value, h1, h2, h3, h4, g1, g2, g3, g4, g5, g6]
def isCode : Jvm.Cond → Bool
  | .code _ _ _ _ => true
  | _ => false
theorem all_split {L : List Jvm.Cond} {P : Jvm.Cond → Bool} (h1 : L.all (fun c => isCode c || P c) = true) (h2 : ∀ c ∈ L.filter isCode, P c = true) : L.all P = true := by
  refine List.all_eq_true.mpr fun c hc => ?_
  have h := List.all_eq_true.mp h1 c hc
  rcases Bool.eq_false_or_eq_true (isCode c) with hi | hi
  · exact h2 c (List.mem_filter.mpr ⟨hc, hi⟩)
  · simpa [hi] using h
set_option maxRecDepth 65536 in
theorem w_c0 : (Jvm.Cond.code x code maxLocals ret).before args0 about1 = true := code_word (m := ⟨1, 1⟩) (meth := k1m1) (c := k1c1) (by decide +kernel) rfl rfl rfl (by decide +kernel)
set_option maxRecDepth 65536 in
theorem w_c1 : (Jvm.Cond.code ({ cls := "com/example/mini_bloom/minibloom/BitArray", name := "<init>", desc := "([J)V" } : Jvm.MethodName) prog_1_method_2_code (2 : Nat) (Option.none : Option Jvm.ClassFile.FieldType)).before args0 about1 = true := code_word (m := ⟨2, 0⟩) (meth := k2m0) (c := k2c0) (by decide +kernel) rfl rfl rfl (by decide +kernel)
set_option maxRecDepth 65536 in
theorem w_c2 : (Jvm.Cond.code ({ cls := "java/lang/Object", name := "<init>", desc := "()V" } : Jvm.MethodName) object_method_1_code (1 : Nat) (Option.none : Option Jvm.ClassFile.FieldType)).before args0 about1 = true := code_word (m := ⟨0, 0⟩) (meth := k0m0) (c := k0c0) (by decide +kernel) rfl rfl rfl (by decide +kernel)
set_option maxRecDepth 65536 in
theorem w_c3 : (Jvm.Cond.code ({ cls := "com/example/mini_bloom/minibloom/BitArray", name := "clearBit", desc := "(J)V" } : Jvm.MethodName) prog_1_method_11_code (3 : Nat) (Option.none : Option Jvm.ClassFile.FieldType)).before args0 about1 = true := code_word (m := ⟨2, 3⟩) (meth := k2m3) (c := k2c3) (by decide +kernel) rfl rfl rfl (by decide +kernel)
set_option maxRecDepth 65536 in
theorem w_c4 : (Jvm.Cond.code ({ cls := "com/example/mini_bloom/minibloom/BitArray", name := "words", desc := "()I" } : Jvm.MethodName) prog_1_method_7_code (1 : Nat) (Option.some Jvm.ClassFile.FieldType.int)).before args0 about1 = true := code_word (m := ⟨2, 1⟩) (meth := k2m1) (c := k2c1) (by decide +kernel) rfl rfl rfl (by decide +kernel)
set_option maxRecDepth 65536 in
theorem w_c5 : (Jvm.Cond.code ({ cls := "com/example/mini_bloom/minibloom/BitArray", name := "word", desc := "(I)J" } : Jvm.MethodName) prog_1_method_8_code (2 : Nat) (Option.some Jvm.ClassFile.FieldType.long)).before args0 about1 = true := code_word (m := ⟨2, 2⟩) (meth := k2m2) (c := k2c2) (by decide +kernel) rfl rfl rfl (by decide +kernel)
def codes1 : List Jvm.Cond := [Jvm.Cond.code x code maxLocals ret, Jvm.Cond.code ({ cls := "com/example/mini_bloom/minibloom/BitArray", name := "<init>", desc := "([J)V" } : Jvm.MethodName) prog_1_method_2_code (2 : Nat) (Option.none : Option Jvm.ClassFile.FieldType), Jvm.Cond.code ({ cls := "java/lang/Object", name := "<init>", desc := "()V" } : Jvm.MethodName) object_method_1_code (1 : Nat) (Option.none : Option Jvm.ClassFile.FieldType), Jvm.Cond.code ({ cls := "com/example/mini_bloom/minibloom/BitArray", name := "clearBit", desc := "(J)V" } : Jvm.MethodName) prog_1_method_11_code (3 : Nat) (Option.none : Option Jvm.ClassFile.FieldType), Jvm.Cond.code ({ cls := "com/example/mini_bloom/minibloom/BitArray", name := "words", desc := "()I" } : Jvm.MethodName) prog_1_method_7_code (1 : Nat) (Option.some Jvm.ClassFile.FieldType.int), Jvm.Cond.code ({ cls := "com/example/mini_bloom/minibloom/BitArray", name := "word", desc := "(I)J" } : Jvm.MethodName) prog_1_method_8_code (2 : Nat) (Option.some Jvm.ClassFile.FieldType.long)]
set_option maxRecDepth 65536 in
theorem codes_eq : words1.filter isCode = codes1 := rfl
theorem w_codes : ∀ c ∈ words1.filter isCode, c.before args0 about1 = true := by
  rw [codes_eq]
  intro c hc
  simp only [codes1, List.mem_cons, List.not_mem_nil, or_false] at hc
  rcases hc with rfl | rfl | rfl | rfl | rfl | rfl
  · exact w_c0
  · exact w_c1
  · exact w_c2
  · exact w_c3
  · exact w_c4
  · exact w_c5
set_option maxRecDepth 65536 in
theorem w_t1 : (words1.take 24).all (fun c => isCode c || c.before args0 about1) = true := by decide +kernel
set_option maxRecDepth 65536 in
theorem w_t2 : (words1.drop 24).all (fun c => isCode c || c.before args0 about1) = true := by decide +kernel
theorem w_tables : (allAtoms (Jvm.Cond.code x code maxLocals ret :: tables_1)).before args0 about1 = true := by
  rw [allAtoms_all]
  show words1.all (fun c => c.before args0 about1) = true
  refine all_split ?_ w_codes
  rw [← List.take_append_drop 24 words1, List.all_append, w_t1, w_t2]
  rfl
set_option maxRecDepth 65536 in
theorem w_case : (Jvm.Cond.and given_1 narrow_1).before args0 about1 = true := by decide +kernel
theorem w_applies : (headSpec (Jvm.Cond.code x code maxLocals ret :: tables_1) room_1).applies x e0.platform about1 = true :=
  (Spec.applies_iff w_frames).mpr ⟨w_running, w_runnable, w_alone, w_named, w_hears, w_ripe, w_room, w_tables⟩
theorem atStart : AtStart classFile x code maxLocals ret World_1 tables_1 room_1 Calls_1 rest_1 Pre_1 launch0 p0 e0 about1 theMethod args0 below0 :=
  ⟨lists_1, trivial, launch0.admits_env _ _ _, launch0.least_env, fairChoices_fair.cas, fairChoices_fair.clock, w_frames, w_args, w_heap, w_applies, trivial, trivial, w_case⟩
end start1
theorem witness_1 : WitnessClaimed_1 := ⟨start1.p0, start1.e0, start1.about1, start1.theMethod, start1.args0, start1.below0, start1.atStart⟩
end Jvm.Pilot.@@N@@
