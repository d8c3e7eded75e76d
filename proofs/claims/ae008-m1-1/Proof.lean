import JvmDerived
import JvmDerived.Pilot.@@N@@Statement
import JvmDerived.Pilot.@@N@@Code
set_option linter.unusedVariables false
set_option linter.unusedSimpArgs false
namespace Jvm.RoadKit
open Sem ClassFile Op Lib Jvm.Stand Jvm.Free Jvm.LawKit
section New
variable {p : Program} {l : Launch} {e : Env} {R : Room} {s : State} {m : MethodId} {args : Array Value} {below : List Frame} {meth : Method} {c : Code} {T : State} {locs : List Loc} {cells slots : Nat}
theorem retI (X : Stand p l e R s m args below meth c T locs cells slots) (hx : p.tables.exec = Jvm.exec) {pc : Nat} {Ls : Array Slot} {z : Int32} {rest : List Value} (hret : meth.sig.returnType = some .int) (hd : decode c.code pc = .ok (.ireturn, 1)) {fs : List Frame}
    (hl : ∀ (f : JFrame) (acts : List Action), f.method = m → f.locked = none → f.entered = [] → (doReturn e (T.setTop f) acts (some (.int z))).1 = T.setFrames fs) : Steps p.tables e below (T.setTop (mkF m pc Ls (.int z :: rest))) (T.setFrames fs) := by
  have hm' : T.vm.method? m = some meth := X.method'
  have hn : narrow .int (.int z) = .int z := rfl
  show Steps p.tables e below (T.setTop { method := m, pc := pc, locals := Ls, stack := _ :: rest, locked := none }) _
  jvm_step X.here [X.here.top, hx, hd, hm', hret, hn]
  first | (intro acts; rw [hl _ acts rfl rfl rfl]) | rw [hl _ _ rfl rfl rfl]
  exact Steps.refl _
end New
end Jvm.RoadKit
namespace Jvm.Pilot.@@N@@
open Jvm Jvm.ClassFile Sem Op Lib Jvm.Free Jvm.Stand Jvm.LawKit Jvm.RoadKit Bundle Jvm.Pilot.@@N@@.Jvm.D
section OwnKit
variable {p : Program} {l : Launch} {e : Env} {R : Room} {s : State} {m : MethodId} {args : Array Value} {below : List Frame} {meth : Method} {c : Code} {T : State} {locs : List Loc} {cells slots : Nat} {Z : State} {h h' : Heap}
theorem own_lremM {g : JFrame} {target : State} (X : Stand p l e R s m args below meth c T locs cells slots) (hx : p.tables.exec = Jvm.exec) (hg : g.method = m) {x y : Int64} {rest : List Value} (hd : decode c.code g.pc = .ok (.lrem, 1)) (hs : g.stack = .long y :: .long x :: rest) (hy : y ≠ 0)
    (hr : Steps p.tables e below (T.setTop { g with pc := g.pc + 1, stack := .long (x % y) :: rest }) target) : Steps p.tables e below (T.setTop g) target :=
  XS.lrem X.here hx hg hd hs hy (by rw [lrem_mod]; exact hr)
/-- an array, by the list of its values -/
def own_A (Z : State) (h : Heap) (a : Addr) (ty : FieldType) (vs : List Value) : Prop := ∃ c : Cell, Arr Z h a c ty ∧ c.slots = vs.toArray
def own_AJ (Z : State) (h : Heap) (a : Addr) (xs : List Int64) : Prop := own_A Z h a .long (xs.map .long)
def own_AI (Z : State) (h : Heap) (a : Addr) (ty : FieldType) (xs : List Int32) : Prop := own_A Z h a ty (xs.map .int)
section Facts
variable {a b : Addr} {ty : FieldType} {vs : List Value} {xs : List Int64} {ys : List Int32} {sl : Nat} {v : Value} {ws : List Addr}
theorem own_A.ext (F : own_A Z h a ty vs) (E : Ext h h') : own_A Z h' a ty vs := by obtain ⟨c, A, r⟩ := F; exact ⟨c, A.ext E, r⟩
theorem own_A.other (F : own_A Z h b ty vs) (W : Wr h h' a sl v) (q : b ≠ a) : own_A Z h' b ty vs := by obtain ⟨c, A, r⟩ := F; exact ⟨c, A.other W q, r⟩
theorem own_A.keep (F : own_A Z h a ty vs) (K : Keep h h' ws) (q : a ∉ ws) : own_A Z h' a ty vs := by obtain ⟨c, A, r⟩ := F; exact ⟨c, ⟨K.2.1 a c A.1 q, A.2⟩, r⟩
theorem own_A.lt (F : own_A Z h a ty vs) : a < h.size := by obtain ⟨c, A, -⟩ := F; exact A.lt
theorem own_AJ.ext (F : own_AJ Z h a xs) (E : Ext h h') : own_AJ Z h' a xs := own_A.ext F E
theorem own_AJ.other (F : own_AJ Z h b xs) (W : Wr h h' a sl v) (q : b ≠ a) : own_AJ Z h' b xs := own_A.other F W q
theorem own_AJ.keep (F : own_AJ Z h a xs) (K : Keep h h' ws) (q : a ∉ ws) : own_AJ Z h' a xs := own_A.keep F K q
theorem own_AJ.lt (F : own_AJ Z h a xs) : a < h.size := own_A.lt F
theorem own_AI.ext (F : own_AI Z h a ty ys) (E : Ext h h') : own_AI Z h' a ty ys := own_A.ext F E
theorem own_AI.other (F : own_AI Z h b ty ys) (W : Wr h h' a sl v) (q : b ≠ a) : own_AI Z h' b ty ys := own_A.other F W q
theorem own_AI.keep (F : own_AI Z h a ty ys) (K : Keep h h' ws) (q : a ∉ ws) : own_AI Z h' a ty ys := own_A.keep F K q
theorem own_AI.lt (F : own_AI Z h a ty ys) : a < h.size := own_A.lt F
theorem own_A.set (F : own_A Z h a ty vs) {k : Nat} (W : Wr h h' a k v) : own_A Z h' a ty (vs.set k v) := by
  obtain ⟨c, A, r⟩ := F
  refine ⟨c.setSlot k v, A.same W, ?_⟩
  simp [Cell.setSlot, r]
theorem own_A_new {cA : ClassId} {n : Int32} {k : Nat} (A : Arr Z h a (newA cA ty n) ty) (hk : n.toNatClampNeg = k) : own_A Z h a ty (List.replicate k (defaultValue ty)) := by
  subst hk
  exact ⟨_, A, by simp [newA]⟩
theorem own_AJ_new {cA : ClassId} {n : Int32} {k : Nat} (A : Arr Z h a (newA cA .long n) .long) (hk : n.toNatClampNeg = k) : own_AJ Z h a (List.replicate k 0) := by
  have q := own_A_new A hk
  rw [own_AJ, List.map_replicate]; exact q
theorem own_AIint_new {cA : ClassId} {n : Int32} {k : Nat} (A : Arr Z h a (newA cA .int n) .int) (hk : n.toNatClampNeg = k) : own_AI Z h a .int (List.replicate k 0) := by
  have q := own_A_new A hk
  rw [own_AI, List.map_replicate]; exact q
theorem own_AIbyte_new {cA : ClassId} {n : Int32} {k : Nat} (A : Arr Z h a (newA cA .byte n) .byte) (hk : n.toNatClampNeg = k) : own_AI Z h a .byte (List.replicate k 0) := by
  have q := own_A_new A hk
  rw [own_AI, List.map_replicate]; exact q
theorem own_AIboolean_new {cA : ClassId} {n : Int32} {k : Nat} (A : Arr Z h a (newA cA .boolean n) .boolean) (hk : n.toNatClampNeg = k) : own_AI Z h a .boolean (List.replicate k 0) := by
  have q := own_A_new A hk
  rw [own_AI, List.map_replicate]; exact q
theorem own_inb {cl : Cell} {j : Int32} (r : cl.slots = vs.toArray) (hj : 0 ≤ j.toInt ∧ j.toInt < (vs.length : Nat)) : ¬ (j < 0 ∨ cl.slots.size ≤ j.toNatClampNeg) ∧ j.toNatClampNeg = j.toInt.toNat := by
  have e : j.toNatClampNeg = j.toInt.toNat := rfl
  refine ⟨fun q => ?_, e⟩
  rcases q with q | q
  · rw [Int32.lt_iff_toInt_lt] at q
    have : (0 : Int32).toInt = 0 := by decide
    omega
  · rw [r, e] at q
    simp at q
    omega
end Facts
theorem own_at? {α : Type} (f : α → Value) (xs : List α) (k : Nat) (d : α) (hk : k < xs.length) : (xs.map f).toArray[k]? = some (f (xs.getD k d)) := by
  simp [List.getD, hk]
section Loads
variable {a : Addr} {xs : List Int64} {ys : List Int32} {j : Int32} {pc : Nat} {Ls : Array Slot} {rest : List Value}
theorem own_laload (X : Stand p l e R s m args below meth c T locs cells slots) (hx : p.tables.exec = Jvm.exec) (hZ : Z.Warmed39 s.vm) (eT : T.heap = h) (A : own_AJ Z h a xs) (hj : 0 ≤ j.toInt ∧ j.toInt < (xs.length : Nat)) (hd : decode c.code pc = .ok (.laload, 1)) (target : State)
    (hr : Steps p.tables e below (T.setTop (mkF m (pc + 1) Ls (.long (xs.getD j.toInt.toNat 0) :: rest))) target) : Steps p.tables e below (T.setTop (mkF m pc Ls (.int j :: .ref a :: rest))) target := by
  obtain ⟨cl, A, r⟩ := A
  obtain ⟨q1, q2⟩ := own_inb (j := j) r (by simpa using hj)
  refine X.laload hx (by rw [eT]; exact A.1) (State.isArrayOf_alike hZ.alike A.2.1) A.2.2 q1 (v := .long (xs.getD j.toInt.toNat 0)) ?_ (g := mkF m pc Ls (.int j :: .ref a :: rest)) rfl rfl hd target hr
  rw [q2, r]
  exact own_at? _ xs _ 0 (by omega)
theorem own_iaload (X : Stand p l e R s m args below meth c T locs cells slots) (hx : p.tables.exec = Jvm.exec) (hZ : Z.Warmed39 s.vm) (eT : T.heap = h) (A : own_AI Z h a .int ys) (hj : 0 ≤ j.toInt ∧ j.toInt < (ys.length : Nat)) (hd : decode c.code pc = .ok (.iaload, 1)) (target : State)
    (hr : Steps p.tables e below (T.setTop (mkF m (pc + 1) Ls (.int (ys.getD j.toInt.toNat 0) :: rest))) target) : Steps p.tables e below (T.setTop (mkF m pc Ls (.int j :: .ref a :: rest))) target := by
  obtain ⟨cl, A, r⟩ := A
  obtain ⟨q1, q2⟩ := own_inb (j := j) r (by simpa using hj)
  refine X.iaload hx (by rw [eT]; exact A.1) (State.isArrayOf_alike hZ.alike A.2.1) A.2.2 q1 (v := .int (ys.getD j.toInt.toNat 0)) ?_ (g := mkF m pc Ls (.int j :: .ref a :: rest)) rfl rfl hd target hr
  rw [q2, r]
  exact own_at? _ ys _ 0 (by omega)
theorem own_baloadB (X : Stand p l e R s m args below meth c T locs cells slots) (hx : p.tables.exec = Jvm.exec) (hZ : Z.Warmed39 s.vm) (eT : T.heap = h) (A : own_AI Z h a .byte ys) (hj : 0 ≤ j.toInt ∧ j.toInt < (ys.length : Nat)) (hd : decode c.code pc = .ok (.baload, 1)) (target : State)
    (hr : Steps p.tables e below (T.setTop (mkF m (pc + 1) Ls (.int (ys.getD j.toInt.toNat 0) :: rest))) target) : Steps p.tables e below (T.setTop (mkF m pc Ls (.int j :: .ref a :: rest))) target := by
  obtain ⟨cl, A, r⟩ := A
  obtain ⟨q1, q2⟩ := own_inb (j := j) r (by simpa using hj)
  refine X.baloadBytes hx (by rw [eT]; exact A.1) (State.isArrayOf_alike hZ.alike A.2.1) A.2.2 q1 (v := .int (ys.getD j.toInt.toNat 0)) ?_ (g := mkF m pc Ls (.int j :: .ref a :: rest)) rfl rfl hd target hr
  rw [q2, r]
  exact own_at? _ ys _ 0 (by omega)
theorem own_baloadZ (X : Stand p l e R s m args below meth c T locs cells slots) (hx : p.tables.exec = Jvm.exec) (hZ : Z.Warmed39 s.vm) (eT : T.heap = h) (A : own_AI Z h a .boolean ys) (hj : 0 ≤ j.toInt ∧ j.toInt < (ys.length : Nat)) (hd : decode c.code pc = .ok (.baload, 1)) (target : State)
    (hr : Steps p.tables e below (T.setTop (mkF m (pc + 1) Ls (.int (ys.getD j.toInt.toNat 0) :: rest))) target) : Steps p.tables e below (T.setTop (mkF m pc Ls (.int j :: .ref a :: rest))) target := by
  obtain ⟨cl, A, r⟩ := A
  obtain ⟨q1, q2⟩ := own_inb (j := j) r (by simpa using hj)
  refine X.baloadBooleans hx (by rw [eT]; exact A.1) (State.isArrayOf_alike hZ.alike A.2.1) A.2.2 q1 (v := .int (ys.getD j.toInt.toNat 0)) ?_ (g := mkF m pc Ls (.int j :: .ref a :: rest)) rfl rfl hd target hr
  rw [q2, r]
  exact own_at? _ ys _ 0 (by omega)
theorem own_alenJ (X : Stand p l e R s m args below meth c T locs cells slots) (hx : p.tables.exec = Jvm.exec) (hZ : Z.Warmed39 s.vm) (eT : T.heap = h) (A : own_AJ Z h a xs) (hd : decode c.code pc = .ok (.arraylength, 1)) (target : State)
    (hr : Steps p.tables e below (T.setTop (mkF m (pc + 1) Ls (.int xs.length.toInt32 :: rest))) target) : Steps p.tables e below (T.setTop (mkF m pc Ls (.ref a :: rest))) target := by
  obtain ⟨cl, A, r⟩ := A
  refine X.arraylength hx (by rw [eT]; exact A.1) (State.isArrayOf_alike hZ.alike A.2.1) (g := mkF m pc Ls (.ref a :: rest)) rfl rfl hd target ?_
  rw [r]
  simpa using hr
theorem own_alenI {ty : FieldType} (X : Stand p l e R s m args below meth c T locs cells slots) (hx : p.tables.exec = Jvm.exec) (hZ : Z.Warmed39 s.vm) (eT : T.heap = h) (A : own_AI Z h a ty ys) (hd : decode c.code pc = .ok (.arraylength, 1)) (target : State)
    (hr : Steps p.tables e below (T.setTop (mkF m (pc + 1) Ls (.int ys.length.toInt32 :: rest))) target) : Steps p.tables e below (T.setTop (mkF m pc Ls (.ref a :: rest))) target := by
  obtain ⟨cl, A, r⟩ := A
  refine X.arraylength hx (by rw [eT]; exact A.1) (State.isArrayOf_alike hZ.alike A.2.1) (g := mkF m pc Ls (.ref a :: rest)) rfl rfl hd target ?_
  rw [r]
  simpa using hr
theorem own_lastore (X : Stand p l e R s m args below meth c T locs cells slots) (hx : p.tables.exec = Jvm.exec) (hZ : Z.Warmed39 s.vm) (eT : T.heap = h) (A : own_AJ Z h a xs) (hj : 0 ≤ j.toInt ∧ j.toInt < (xs.length : Nat)) {x : Int64} (hd : decode c.code pc = .ok (.lastore, 1)) :
    ∃ T' h', Stand p l e R s m args below meth c T' (locs ++ [⟨a, j.toInt.toNat⟩]) cells slots ∧ T'.heap = h' ∧ Wr h h' a j.toInt.toNat (.long x) ∧ own_AJ Z h' a (xs.set j.toInt.toNat x) ∧ ∀ target, Steps p.tables e below (T'.setTop (mkF m (pc + 1) Ls rest)) target → Steps p.tables e below (T.setTop (mkF m pc Ls (.long x :: .int j :: .ref a :: rest))) target := by
  obtain ⟨cl, B, r⟩ := A
  obtain ⟨q1, q2⟩ := own_inb (j := j) r (by simpa using hj)
  obtain ⟨T', h', X', e', W', st⟩ := stJ X hx hZ eT B q1 (x := x) (g := mkF m pc Ls (.long x :: .int j :: .ref a :: rest)) rfl rfl hd
  rw [q2] at X' W'
  exact ⟨T', h', X', e', W', by have := own_A.set ⟨cl, B, r⟩ W'; rw [own_AJ, List.map_set]; exact this, st⟩
theorem own_iastore (X : Stand p l e R s m args below meth c T locs cells slots) (hx : p.tables.exec = Jvm.exec) (hZ : Z.Warmed39 s.vm) (eT : T.heap = h) (A : own_AI Z h a .int ys) (hj : 0 ≤ j.toInt ∧ j.toInt < (ys.length : Nat)) {x : Int32} (hd : decode c.code pc = .ok (.iastore, 1)) :
    ∃ T' h', Stand p l e R s m args below meth c T' (locs ++ [⟨a, j.toInt.toNat⟩]) cells slots ∧ T'.heap = h' ∧ Wr h h' a j.toInt.toNat (.int x) ∧ own_AI Z h' a .int (ys.set j.toInt.toNat x) ∧ ∀ target, Steps p.tables e below (T'.setTop (mkF m (pc + 1) Ls rest)) target → Steps p.tables e below (T.setTop (mkF m pc Ls (.int x :: .int j :: .ref a :: rest))) target := by
  obtain ⟨cl, B, r⟩ := A
  obtain ⟨q1, q2⟩ := own_inb (j := j) r (by simpa using hj)
  obtain ⟨T', h', X', e', W', st⟩ := stI X hx hZ eT B q1 (x := x) (g := mkF m pc Ls (.int x :: .int j :: .ref a :: rest)) rfl rfl hd
  rw [q2] at X' W'
  exact ⟨T', h', X', e', W', by have := own_A.set ⟨cl, B, r⟩ W'; rw [own_AI, List.map_set]; exact this, st⟩
theorem own_bastoreB (X : Stand p l e R s m args below meth c T locs cells slots) (hx : p.tables.exec = Jvm.exec) (hZ : Z.Warmed39 s.vm) (eT : T.heap = h) (A : own_AI Z h a .byte ys) (hj : 0 ≤ j.toInt ∧ j.toInt < (ys.length : Nat)) {x : Int32} (hd : decode c.code pc = .ok (.bastore, 1)) :
    ∃ T' h', Stand p l e R s m args below meth c T' (locs ++ [⟨a, j.toInt.toNat⟩]) cells slots ∧ T'.heap = h' ∧ Wr h h' a j.toInt.toNat (.int x.toInt8.toInt32) ∧ own_AI Z h' a .byte (ys.set j.toInt.toNat x.toInt8.toInt32) ∧ ∀ target, Steps p.tables e below (T'.setTop (mkF m (pc + 1) Ls rest)) target → Steps p.tables e below (T.setTop (mkF m pc Ls (.int x :: .int j :: .ref a :: rest))) target := by
  obtain ⟨cl, B, r⟩ := A
  obtain ⟨q1, q2⟩ := own_inb (j := j) r (by simpa using hj)
  obtain ⟨T', h', X', e', W', st⟩ := stB X hx hZ eT B q1 (x := x) (g := mkF m pc Ls (.int x :: .int j :: .ref a :: rest)) rfl rfl hd
  rw [q2] at X' W'
  exact ⟨T', h', X', e', W', by have := own_A.set ⟨cl, B, r⟩ W'; rw [own_AI, List.map_set]; exact this, st⟩
theorem own_bastoreZ (X : Stand p l e R s m args below meth c T locs cells slots) (hx : p.tables.exec = Jvm.exec) (hZ : Z.Warmed39 s.vm) (eT : T.heap = h) (A : own_AI Z h a .boolean ys) (hj : 0 ≤ j.toInt ∧ j.toInt < (ys.length : Nat)) {x : Int32} (hd : decode c.code pc = .ok (.bastore, 1)) :
    ∃ T' h', Stand p l e R s m args below meth c T' (locs ++ [⟨a, j.toInt.toNat⟩]) cells slots ∧ T'.heap = h' ∧ Wr h h' a j.toInt.toNat (.int (x &&& 1)) ∧ own_AI Z h' a .boolean (ys.set j.toInt.toNat (x &&& 1)) ∧ ∀ target, Steps p.tables e below (T'.setTop (mkF m (pc + 1) Ls rest)) target → Steps p.tables e below (T.setTop (mkF m pc Ls (.int x :: .int j :: .ref a :: rest))) target := by
  obtain ⟨cl, B, r⟩ := A
  obtain ⟨q1, q2⟩ := own_inb (j := j) r (by simpa using hj)
  obtain ⟨T', h', X', e', W', st⟩ := stZ X hx hZ eT B q1 (x := x) (g := mkF m pc Ls (.int x :: .int j :: .ref a :: rest)) rfl rfl hd
  rw [q2] at X' W'
  exact ⟨T', h', X', e', W', by have := own_A.set ⟨cl, B, r⟩ W'; rw [own_AI, List.map_set]; exact this, st⟩
end Loads
end OwnKit
theorem own_bm32 {x : Int} (h1 : -2147483648 ≤ x) (h2 : x < 2147483648) : x.bmod (2 ^ 32) = x := by
  rw [Int.bmod_def]; split <;> omega
theorem own_bm64 {x : Int} (h1 : -9223372036854775808 ≤ x) (h2 : x < 9223372036854775808) : x.bmod (2 ^ 64) = x := by
  rw [Int.bmod_def]; split <;> omega
theorem own_r32 (x : Int32) : -2147483648 ≤ x.toInt ∧ x.toInt < 2147483648 := ⟨x.le_toInt, x.toInt_lt⟩
theorem own_r64 (x : Int64) : -9223372036854775808 ≤ x.toInt ∧ x.toInt < 9223372036854775808 := ⟨x.le_toInt, x.toInt_lt⟩
theorem own_iadd {x y : Int32} (h : -2147483648 ≤ x.toInt + y.toInt ∧ x.toInt + y.toInt < 2147483648) : (x + y).toInt = x.toInt + y.toInt := by rw [Int32.toInt_add]; exact own_bm32 h.1 h.2
theorem own_isub {x y : Int32} (h : -2147483648 ≤ x.toInt - y.toInt ∧ x.toInt - y.toInt < 2147483648) : (x - y).toInt = x.toInt - y.toInt := by rw [Int32.toInt_sub]; exact own_bm32 h.1 h.2
theorem own_imul {x y : Int32} (h : -2147483648 ≤ x.toInt * y.toInt ∧ x.toInt * y.toInt < 2147483648) : (x * y).toInt = x.toInt * y.toInt := by rw [Int32.toInt_mul]; exact own_bm32 h.1 h.2
theorem own_ladd {x y : Int64} (h : -9223372036854775808 ≤ x.toInt + y.toInt ∧ x.toInt + y.toInt < 9223372036854775808) : (x + y).toInt = x.toInt + y.toInt := by rw [Int64.toInt_add]; exact own_bm64 h.1 h.2
theorem own_lsub {x y : Int64} (h : -9223372036854775808 ≤ x.toInt - y.toInt ∧ x.toInt - y.toInt < 9223372036854775808) : (x - y).toInt = x.toInt - y.toInt := by rw [Int64.toInt_sub]; exact own_bm64 h.1 h.2
theorem own_lmul {x y : Int64} (h : -9223372036854775808 ≤ x.toInt * y.toInt ∧ x.toInt * y.toInt < 9223372036854775808) : (x * y).toInt = x.toInt * y.toInt := by rw [Int64.toInt_mul]; exact own_bm64 h.1 h.2
theorem own_i2l (x : Int32) : x.toInt64.toInt = x.toInt := Int32.toInt_toInt64 x
theorem own_l2i {x : Int64} (h : -2147483648 ≤ x.toInt ∧ x.toInt < 2147483648) : x.toInt32.toInt = x.toInt := by rw [Int64.toInt_toInt32]; exact own_bm32 h.1 h.2
theorem own_irem {x y : Int32} (h : 0 ≤ x.toInt) : (x % y).toInt = x.toInt % y.toInt := by rw [Int32.toInt_mod]; exact Int.tmod_eq_emod_of_nonneg h
theorem own_lrem {x y : Int64} (h : 0 ≤ x.toInt) : (x % y).toInt = x.toInt % y.toInt := by rw [Int64.toInt_mod]; exact Int.tmod_eq_emod_of_nonneg h
theorem own_idiv {x y : Int32} (h : 0 ≤ x.toInt) (hy : 0 ≤ y.toInt) : (x / y).toInt = x.toInt / y.toInt := by
  rw [Int32.toInt_div_of_ne_right x y (fun q => by rw [q] at hy; revert hy; decide)]; exact Int.tdiv_eq_ediv_of_nonneg h
theorem own_ldiv {x y : Int64} (h : 0 ≤ x.toInt) (hy : 0 ≤ y.toInt) : (x / y).toInt = x.toInt / y.toInt := by
  rw [Int64.toInt_div_of_ne_right x y (fun q => by rw [q] at hy; revert hy; decide)]; exact Int.tdiv_eq_ediv_of_nonneg h
/-- a mask of k bits -/
theorem own_mask (x m : Int32) (k : Nat) (hk : k ≤ 31) (hm : m.toBitVec.toNat = 2 ^ k - 1) : (x &&& m).toInt = x.toInt % (2 ^ k : Nat) := by
  have hp : 2 ^ k ≤ 2 ^ 31 := Nat.pow_le_pow_right (by decide) hk
  have hp0 : 0 < 2 ^ k := Nat.pow_pos (by decide)
  have e : (x &&& m).toBitVec.toNat = x.toBitVec.toNat % 2 ^ k := by rw [Int32.toBitVec_and, BitVec.toNat_and, hm, Nat.and_two_pow_sub_one_eq_mod]
  have l := Nat.mod_lt x.toBitVec.toNat hp0
  rw [← Int32.toInt_toBitVec, ← Int32.toInt_toBitVec, BitVec.toInt_eq_toNat_cond, e, if_pos (by omega), BitVec.toInt_eq_toNat_cond]
  split
  · simp
  · rename_i q
    have d : (2 ^ k : Nat) ∣ 2 ^ 32 := Nat.pow_dvd_pow 2 (by omega)
    obtain ⟨c, hc⟩ := d
    have hc' : ((2 ^ 32 : Nat) : Int) = ((2 ^ k : Nat) : Int) * (c : Int) := by rw [hc]; simp
    rw [hc', Int.sub_mul_emod_self_left]; simp
theorem own_ushr (x : Int64) (y : Int32) (k : Nat) (hk : (y &&& 0x3f).toInt64.toBitVec.toNat % 64 = k) (h0 : 0 < k) : (((x).toUInt64 >>> (y &&& 0x3f).toInt64.toUInt64).toInt64).toInt = (x.toInt % 18446744073709551616) / (2 ^ k : Nat) := by
  have e : (((x).toUInt64 >>> (y &&& 0x3f).toInt64.toUInt64).toInt64).toBitVec = x.toBitVec >>> k := by rw [← hk]; simp
  have hl := x.toBitVec.isLt
  have hp0 : 0 < 2 ^ k := Nat.pow_pos (by decide)
  have h2 : 2 ^ 1 ≤ 2 ^ k := Nat.pow_le_pow_right (by decide) h0
  have hd : x.toBitVec.toNat / 2 ^ k ≤ x.toBitVec.toNat / 2 := Nat.div_le_div_left h2 (by decide)
  have t : x.toInt % 18446744073709551616 = (x.toBitVec.toNat : Int) := by
    rw [← Int64.toInt_toBitVec, BitVec.toInt_eq_toNat_cond]; split <;> omega
  rw [t, ← Int64.toInt_toBitVec, e, BitVec.toInt_eq_toNat_cond, BitVec.toNat_ushiftRight, Nat.shiftRight_eq_div_pow, if_pos (by omega)]
  simp
theorem own_shl (x : Int64) (y : Int32) (k : Nat) (hk : y.toBitVec.toNat % 64 = k) (h : -9223372036854775808 ≤ x.toInt * (2 ^ k : Nat) ∧ x.toInt * (2 ^ k : Nat) < 9223372036854775808) : (x <<< (y &&& 0x3f).toInt64).toInt = x.toInt * (2 ^ k : Nat) := by
  have q := c_lshl x y k hk
  have r := own_r64 (x <<< (y &&& 0x3f).toInt64)
  generalize x.toInt * (2 ^ k : Nat) = z at *
  omega
theorem own_nzL {x : Int32} (h : ¬ x = 0) : ¬ x.toInt64 = 0 := fun q => h (Int32.toInt_inj.mp (by rw [← own_i2l, q]; rfl))
theorem own_nzP {x : Int32} (h : 1 ≤ x.toInt) : ¬ x = 0 := fun q => by rw [q] at h; revert h; decide
theorem own_fA {t n : Int32} {k : Int} (h : t < n) (q : n.toInt - 1 = k) : t.toInt ≤ k := by rw [Int32.lt_iff_toInt_lt] at h; omega
theorem own_fB {t n : Int32} {k : Int} (h : ¬ n < t) (q : n.toInt = k) : t.toInt ≤ k := by rw [Int32.lt_iff_toInt_lt] at h; omega
theorem own_fC {t n : Int32} {k : Int} (h : n < t) (q : n.toInt + 1 = k) : k ≤ t.toInt := by rw [Int32.lt_iff_toInt_lt] at h; omega
theorem own_fD {t n : Int32} {k : Int} (h : ¬ t < n) (q : n.toInt = k) : k ≤ t.toInt := by rw [Int32.lt_iff_toInt_lt] at h; omega
theorem own_fE {t n : Int32} {k : Int} (h : t = n) (q : n.toInt = k) : t.toInt ≤ k := by rw [h]; omega
theorem own_fF {t n : Int32} {k : Int} (h : t = n) (q : n.toInt = k) : k ≤ t.toInt := by rw [h]; omega
theorem own_g1 {t m : Int32} {k : Int} (h : t.toInt ≤ k) (q : k < m.toInt) : t < m := by rw [Int32.lt_iff_toInt_lt]; omega
theorem own_g2 {t m : Int32} {k : Int} (h : t.toInt ≤ k) (q : k ≤ m.toInt) : ¬ m < t := by rw [Int32.lt_iff_toInt_lt]; omega
theorem own_g3 {t m : Int32} {k : Int} (h : t.toInt ≤ k) (q : k < m.toInt) : ¬ t = m := fun e => by rw [e] at h; omega
theorem own_g4 {t m : Int32} {k : Int} (h : k ≤ t.toInt) (q : m.toInt ≤ k) : ¬ t < m := by rw [Int32.lt_iff_toInt_lt]; omega
theorem own_g5 {t m : Int32} {k : Int} (h : k ≤ t.toInt) (q : m.toInt < k) : m < t := by rw [Int32.lt_iff_toInt_lt]; omega
theorem own_g6 {t m : Int32} {k : Int} (h : k ≤ t.toInt) (q : m.toInt < k) : ¬ t = m := fun e => by rw [e] at h; omega
theorem own_g7 {t m : Int32} {k : Int} (h : k ≤ t.toInt) (h' : t.toInt ≤ k) (q : m.toInt = k) : t = m := Int32.toInt_inj.mp (by omega)
theorem own_ne {x n : Int32} {k : Int} (h : ¬ x = n) (q : n.toInt = k) : k ≠ x.toInt := fun e => h (Int32.toInt_inj.mp (by omega))
theorem own_gs1 {α : Type} (xs : List α) (n : Nat) (v d : α) (h : n < xs.length) : (xs.set n v).getD n d = v := by simp [List.getD, h]
theorem own_gs2 {α : Type} (xs : List α) (n j : Nat) (v d : α) (h : n ≠ j) : (xs.set n v).getD j d = xs.getD j d := by simp [List.getD, List.getElem?_set, h]
theorem d1_0 : decode prog_28_method_9_code 0 = .ok (.lload_n 0, 1) := by decide +kernel
theorem d1_1 : decode prog_28_method_9_code 1 = .ok (.lload_n 2, 1) := by decide +kernel
theorem d1_2 : decode prog_28_method_9_code 2 = .ok (.lsub, 1) := by decide +kernel
theorem d1_3 : decode prog_28_method_9_code 3 = .ok (.lload 4, 2) := by decide +kernel
theorem d1_5 : decode prog_28_method_9_code 5 = .ok (.ldc2_w 28, 3) := by decide +kernel
theorem d1_8 : decode prog_28_method_9_code 8 = .ok (.lxor, 1) := by decide +kernel
theorem d1_9 : decode prog_28_method_9_code 9 = .ok (.land, 1) := by decide +kernel
theorem d1_10 : decode prog_28_method_9_code 10 = .ok (.lconst 0, 1) := by decide +kernel
theorem d1_11 : decode prog_28_method_9_code 11 = .ok (.lcmp, 1) := by decide +kernel
theorem d1_12 : decode prog_28_method_9_code 12 = .ok (.ifCond .ne 7, 3) := by decide +kernel
theorem d1_15 : decode prog_28_method_9_code 15 = .ok (.iconst 1, 1) := by decide +kernel
theorem d1_16 : decode prog_28_method_9_code 16 = .ok (.goto 4, 3) := by decide +kernel
theorem d1_19 : decode prog_28_method_9_code 19 = .ok (.iconst 0, 1) := by decide +kernel
theorem d1_20 : decode prog_28_method_9_code 20 = .ok (.ireturn, 1) := by decide +kernel
theorem pn_1 : plainName "quotidian/Modular" = true := by first | (simp [plainName, overriddenIn]; done) | decide +kernel
theorem ef_1 (m : MethodId) (q0 : Int64) (q1 : Int64) (q2 : Int64) : entryFrame m #[(.long q0), (.long q1), (.long q2)] 6 = mkF m 0 #[.val (.long q0), .second, .val (.long q1), .second, .val (.long q2), .second] [] := by first | (simp [entryFrame, mkF, argsToLocals, Value.category, maxLocals]; done) | rfl
def own_f1 (q0 : Int64) (q1 : Int64) (q2 : Int64) : Int32 := (if ((q0 - q1) &&& (q2 ^^^ (-1 : Int64))) = (0 : Int64) then (1 : Int32) else (0 : Int32))
def Q1 (Z : State) (q0 : Int64) (q1 : Int64) (q2 : Int64)  (h0 : Heap) (n0 : Nat) (v : Option Value) (h : Heap) (L : List Loc) : Prop := v = some (.int (own_f1 q0 q1 q2)) ∧ Fr n0 L ∧ h = h0
set_option maxRecDepth 65536 in
set_option maxHeartbeats 40000000 in
theorem rm1 (l : Launch) (Z : State) (a0 : Array Value) (hw : ∀ d ∈ tables_1, d.before a0 Z = true) (ws : List Jvm.Cond) (q0 : Int64) (q1 : Int64) (q2 : Int64)  (h0 : Heap) (n0 : Nat) (Z0 : n0 ≤ h0.size)  :
    MetFree l (⟨"quotidian/Modular", "isWord", "(JJJ)Z"⟩ : MethodName) (head1 (Jvm.Cond.code (⟨"quotidian/Modular", "isWord", "(JJJ)Z"⟩ : MethodName) prog_28_method_9_code 6 (some .boolean) :: ws) ({ frames := 0, cells := 0, slots := 0, locals := 0 } : Room)) (fun a U => a = #[(.long q0), (.long q1), (.long q2)] ∧ Z.Warmed39 U.vm ∧ U.heap = h0) (fun _ _ _ _ _ => True) (fun _ U o U' => ∃ v L, o = .returned v ∧ Q1 Z q0 q1 q2 h0 n0 v U'.heap L ∧ FrameEnd U o U' L ({ frames := 0, cells := 0, slots := 0, locals := 0 } : Room).cells ({ frames := 0, cells := 0, slots := 0, locals := 0 } : Room).slots) := by
  refine MetFree.of_bodySF (plainFor_of_name pn_1) hisR ?_
  intro p e s m args below meth c s₁ Bd hml0 hP hK
  obtain ⟨rfl, hZ, hh⟩ := hP
  have hx := Bd.exec
  have hby := Bd.bytes
  have hml : c.maxLocals = 6 := hml0
  have hown : s.vm.findClass "quotidian/Modular" = some m.cls := findClass_of_methodNamed Bd.named
  have hnm := (name_of_methodNamed Bd.named Bd.method).1
  have X0 : Stand p l e ({ frames := 0, cells := 0, slots := 0, locals := 0 } : Room) s m #[(.long q0), (.long q1), (.long q2)] below meth c s₁ [] 0 0 := Stand.of_body Bd
  have hlk : meth.locks = false := by first | exact BodyLoose.notSynchronized (by assumption) | exact Body.notSynchronized (by assumption)
  have e0 : s₁.heap = h0 := by rw [← hh, Bd.state]; rfl
  have N0 := Fr.nil n0
  have pre0 : ∀ t, Steps p.tables e below (s₁.setTop (mkF m 0 #[.val (.long q0), .second, .val (.long q1), .second, .val (.long q2), .second] [])) t → Steps p.tables e below (s₁.setTop (entryFrame m #[(.long q0), (.long q1), (.long q2)] 6)) t := fun t k => castTop (ef_1 m q0 q1 q2) k
  have pre1 : ∀ t, Steps p.tables e below (s₁.setTop (mkF m 12 #[.val (.long q0), .second, .val (.long q1), .second, .val (.long q2), .second] [(.int (lcmpW ((q0 - q1) &&& (q2 ^^^ (-1 : Int64))) (0 : Int64)))])) t → Steps p.tables e below (s₁.setTop (entryFrame m #[(.long q0), (.long q1), (.long q2)] 6)) t := by
    intro t k
    refine pre0 t ?_
    show Steps p.tables e below (s₁.setTop (mkF m 0 #[.val (.long q0), .second, .val (.long q1), .second, .val (.long q2), .second] [])) _
    refine XS.lloadN X0.here hx rfl (hb hby d1_0) rfl ?_
    show Steps p.tables e below (s₁.setTop (mkF m 1 #[.val (.long q0), .second, .val (.long q1), .second, .val (.long q2), .second] [(.long q0)])) _
    refine XS.lloadN X0.here hx rfl (hb hby d1_1) rfl ?_
    show Steps p.tables e below (s₁.setTop (mkF m 2 #[.val (.long q0), .second, .val (.long q1), .second, .val (.long q2), .second] [(.long q1), (.long q0)])) _
    refine XS.lsub X0.here hx rfl (hb hby d1_2) rfl ?_
    show Steps p.tables e below (s₁.setTop (mkF m 3 #[.val (.long q0), .second, .val (.long q1), .second, .val (.long q2), .second] [(.long (q0 - q1))])) _
    refine XS.lload X0.here hx rfl (hb hby d1_3) rfl ?_
    show Steps p.tables e below (s₁.setTop (mkF m 5 #[.val (.long q0), .second, .val (.long q1), .second, .val (.long q2), .second] [(.long q2), (.long (q0 - q1))])) _
    refine X0.ldc2Long hx hown (mvT hZ (hw _ (List.mem_of_getElem? (i := 4) rfl))) (g := (mkF m 5 #[.val (.long q0), .second, .val (.long q1), .second, .val (.long q2), .second] [(.long q2), (.long (q0 - q1))])) rfl (hb hby d1_5) _ ?_
    show Steps p.tables e below (s₁.setTop (mkF m 8 #[.val (.long q0), .second, .val (.long q1), .second, .val (.long q2), .second] [(.long (-1 : Int64)), (.long q2), (.long (q0 - q1))])) _
    refine XS.lxor X0.here hx rfl (hb hby d1_8) rfl ?_
    show Steps p.tables e below (s₁.setTop (mkF m 9 #[.val (.long q0), .second, .val (.long q1), .second, .val (.long q2), .second] [(.long (q2 ^^^ (-1 : Int64))), (.long (q0 - q1))])) _
    refine XS.land X0.here hx rfl (hb hby d1_9) rfl ?_
    show Steps p.tables e below (s₁.setTop (mkF m 10 #[.val (.long q0), .second, .val (.long q1), .second, .val (.long q2), .second] [(.long ((q0 - q1) &&& (q2 ^^^ (-1 : Int64))))])) _
    refine XS.lconst X0.here hx rfl (hb hby d1_10) ?_
    show Steps p.tables e below (s₁.setTop (mkF m 11 #[.val (.long q0), .second, .val (.long q1), .second, .val (.long q2), .second] [(.long (0 : Int64)), (.long ((q0 - q1) &&& (q2 ^^^ (-1 : Int64))))])) _
    refine XS.lcmp X0.here hx rfl (hb hby d1_11) rfl ?_
    exact k
  by_cases c2 : ((q0 - q1) &&& (q2 ^^^ (-1 : Int64))) = (0 : Int64)
  · obtain ⟨fs, hr, hrun, hended, hW, hsame⟩ := X0.leave (v := some (.int (1 : Int32))) (fun h => by rw [Bd.returns] at h; cases h) hlk
    refine ⟨_, _, pre1 _ ?_, hrun, hended, _, _, rfl, ?_, ⟨_, rfl⟩, hW, hsame.mono (by decide) (by decide)⟩
    · show Steps p.tables e below (s₁.setTop (mkF m 12 #[.val (.long q0), .second, .val (.long q1), .second, .val (.long q2), .second] [(.int (lcmpW ((q0 - q1) &&& (q2 ^^^ (-1 : Int64))) (0 : Int64)))])) _
      refine XS.ifNo X0.here hx rfl (hb hby d1_12) rfl ((if0 _ _).trans (teq ((lw_eq ((q0 - q1) &&& (q2 ^^^ (-1 : Int64))) (0 : Int64)).mpr c2)).2) ?_
      show Steps p.tables e below (s₁.setTop (mkF m 15 #[.val (.long q0), .second, .val (.long q1), .second, .val (.long q2), .second] [])) _
      refine XS.iconst X0.here hx rfl (hb hby d1_15) ?_
      show Steps p.tables e below (s₁.setTop (mkF m 16 #[.val (.long q0), .second, .val (.long q1), .second, .val (.long q2), .second] [(.int (1 : Int32))])) _
      refine XS.goto X0.here hx rfl (pc0 := 16) (pc' := 20) rfl (hb hby d1_16) (by decide) (by decide) ?_
      show Steps p.tables e below (s₁.setTop (mkF m 20 #[.val (.long q0), .second, .val (.long q1), .second, .val (.long q2), .second] [(.int (1 : Int32))])) _
      exact retN X0 hx (t := .boolean) Bd.returns (by simp) (hb hby d1_20) hr
    · show Q1 Z q0 q1 q2 h0 n0 _ s₁.heap _
      rw [e0]
      exact ⟨by simp only [own_f1, if_pos c2], N0, rfl⟩
  · obtain ⟨fs, hr, hrun, hended, hW, hsame⟩ := X0.leave (v := some (.int (0 : Int32))) (fun h => by rw [Bd.returns] at h; cases h) hlk
    refine ⟨_, _, pre1 _ ?_, hrun, hended, _, _, rfl, ?_, ⟨_, rfl⟩, hW, hsame.mono (by decide) (by decide)⟩
    · show Steps p.tables e below (s₁.setTop (mkF m 12 #[.val (.long q0), .second, .val (.long q1), .second, .val (.long q2), .second] [(.int (lcmpW ((q0 - q1) &&& (q2 ^^^ (-1 : Int64))) (0 : Int64)))])) _
      refine XS.ifYes X0.here hx rfl (pc0 := 12) (pc' := 19) rfl (hb hby d1_12) rfl ((if0 _ _).trans (feq (mt (lw_eq ((q0 - q1) &&& (q2 ^^^ (-1 : Int64))) (0 : Int64)).mp c2)).2) (by decide) (by decide) ?_
      show Steps p.tables e below (s₁.setTop (mkF m 19 #[.val (.long q0), .second, .val (.long q1), .second, .val (.long q2), .second] [])) _
      refine XS.iconst X0.here hx rfl (hb hby d1_19) ?_
      show Steps p.tables e below (s₁.setTop (mkF m 20 #[.val (.long q0), .second, .val (.long q1), .second, .val (.long q2), .second] [(.int (0 : Int32))])) _
      exact retN X0 hx (t := .boolean) Bd.returns (by simp) (hb hby d1_20) hr
    · show Q1 Z q0 q1 q2 h0 n0 _ s₁.heap _
      rw [e0]
      exact ⟨by simp only [own_f1, if_neg c2], N0, rfl⟩
theorem pn_2 : plainName "quotidian/ModularIsWordPinLaw" = true := by first | (simp [plainName, overriddenIn]; done) | decide +kernel
theorem ef_0 (m : MethodId) (q0 : Int64) (q1 : Int64) (q2 : Int32) (q3 : Int32) : entryFrame m #[(.long q0), (.long q1), (.int q2), (.int q3)] maxLocals = mkF m 0 #[.val (.long q0), .second, .val (.long q1), .second, .val (.int q2), .val (.int q3), .unset, .unset, .unset, .unset, .unset, .unset, .unset, .unset] [] := by first | (simp [entryFrame, mkF, argsToLocals, Value.category, maxLocals]; done) | rfl
theorem pd_3 : parseMethodDescriptor "(JJJ)Z" = some ⟨[.long, .long, .long], some .boolean⟩ := by decide +kernel
def own_f0 (q0 : Int64) (q1 : Int64) (q2 : Int32) (q3 : Int32) : Int32 := let v1 := ((q2 &&& (63 : Int32)) + (1 : Int32))
  (if v1 = (64 : Int32) then (if (q3 &&& (1 : Int32)) = (0 : Int32) then let v7 := (q0 - q1)
  (if (own_f1 q0 q1 ((-1 : Int64))) = (1 : Int32) then (1 : Int32) else (0 : Int32)) else let v12 := (((q1 + (-1 : Int64)) + (((q3 >>> ((1 : Int32) &&& 31)) &&& (3 : Int32))).toInt64) - (1 : Int64))
  let v14 := (v12 - q1)
  (if (own_f1 v12 q1 ((-1 : Int64))) = (1 : Int32) then (1 : Int32) else (0 : Int32))) else let v19 := (((1 : Int64) <<< (v1 &&& 0x3f).toInt64) - (1 : Int64))
  (if (q3 &&& (1 : Int32)) = (0 : Int32) then let v23 := (q0 - q1)
  (if v23 < (0 : Int64) then (if (own_f1 q0 q1 v19) = (0 : Int32) then (1 : Int32) else (0 : Int32)) else (if v19 < v23 then (if (own_f1 q0 q1 v19) = (0 : Int32) then (1 : Int32) else (0 : Int32)) else (if (own_f1 q0 q1 v19) = (1 : Int32) then (1 : Int32) else (0 : Int32)))) else let v38 := (((q1 + v19) + (((q3 >>> ((1 : Int32) &&& 31)) &&& (3 : Int32))).toInt64) - (1 : Int64))
  let v40 := (v38 - q1)
  (if v40 < (0 : Int64) then (if (own_f1 v38 q1 v19) = (0 : Int32) then (1 : Int32) else (0 : Int32)) else (if v19 < v40 then (if (own_f1 v38 q1 v19) = (0 : Int32) then (1 : Int32) else (0 : Int32)) else (if (own_f1 v38 q1 v19) = (1 : Int32) then (1 : Int32) else (0 : Int32))))))
def Q0 (Z : State) (q0 : Int64) (q1 : Int64) (q2 : Int32) (q3 : Int32)  (h0 : Heap) (n0 : Nat) (v : Option Value) (h : Heap) (L : List Loc) : Prop := v = some (.int (own_f0 q0 q1 q2 q3)) ∧ Fr n0 L
set_option maxRecDepth 65536 in
set_option maxHeartbeats 40000000 in
theorem rm0 (l : Launch) (Z : State) (a0 : Array Value) (hw : ∀ d ∈ tables_1, d.before a0 Z = true) (ws : List Jvm.Cond) (q0 : Int64) (q1 : Int64) (q2 : Int32) (q3 : Int32)  (h0 : Heap) (n0 : Nat) (Z0 : n0 ≤ h0.size)  :
    MetFree l x (head1 (Jvm.Cond.code x code maxLocals ret :: ws) room_1) (fun a U => a = #[(.long q0), (.long q1), (.int q2), (.int q3)] ∧ Z.Warmed39 U.vm ∧ U.heap = h0) (fun _ _ _ _ _ => True) (fun _ U o U' => ∃ v L, o = .returned v ∧ Q0 Z q0 q1 q2 q3 h0 n0 v U'.heap L ∧ FrameEnd U o U' L room_1.cells room_1.slots) := by
  refine MetFree.of_bodySF (plainFor_of_name pn_2) hisR ?_
  intro p e s m args below meth c s₁ Bd hml0 hP hK
  obtain ⟨rfl, hZ, hh⟩ := hP
  have hx := Bd.exec
  have hby := Bd.bytes
  have hml : c.maxLocals = 14 := hml0
  have hown : s.vm.findClass "quotidian/ModularIsWordPinLaw" = some m.cls := findClass_of_methodNamed Bd.named
  have hnm := (name_of_methodNamed Bd.named Bd.method).1
  have X0 : Stand p l e room_1 s m #[(.long q0), (.long q1), (.int q2), (.int q3)] below meth c s₁ [] 0 0 := Stand.of_body Bd
  have hlk : meth.locks = false := by first | exact BodyLoose.notSynchronized (by assumption) | exact Body.notSynchronized (by assumption)
  have e0 : s₁.heap = h0 := by rw [← hh, Bd.state]; rfl
  have N0 := Fr.nil n0
  have pre0 : ∀ t, Steps p.tables e below (s₁.setTop (mkF m 0 #[.val (.long q0), .second, .val (.long q1), .second, .val (.int q2), .val (.int q3), .unset, .unset, .unset, .unset, .unset, .unset, .unset, .unset] [])) t → Steps p.tables e below (s₁.setTop (entryFrame m #[(.long q0), (.long q1), (.int q2), (.int q3)] maxLocals)) t := fun t k => castTop (ef_0 m q0 q1 q2 q3) k
  obtain ⟨v1, hv1⟩ : ∃ z : Int32, z = ((q2 &&& (63 : Int32)) + (1 : Int32)) := ⟨_, rfl⟩
  have pre2 : ∀ t, Steps p.tables e below (s₁.setTop (mkF m 7 #[.val (.long q0), .second, .val (.long q1), .second, .val (.int q2), .val (.int q3), .unset, .unset, .unset, .unset, .unset, .unset, .unset, .unset] [(.int v1)])) t → Steps p.tables e below (s₁.setTop (entryFrame m #[(.long q0), (.long q1), (.int q2), (.int q3)] maxLocals)) t := by
    rw [hv1]
    intro t k
    refine pre0 t ?_
    show Steps p.tables e below (s₁.setTop (mkF m 0 #[.val (.long q0), .second, .val (.long q1), .second, .val (.int q2), .val (.int q3), .unset, .unset, .unset, .unset, .unset, .unset, .unset, .unset] [])) _
    refine XS.iload X0.here hx rfl (hb hby at_0) rfl ?_
    show Steps p.tables e below (s₁.setTop (mkF m 2 #[.val (.long q0), .second, .val (.long q1), .second, .val (.int q2), .val (.int q3), .unset, .unset, .unset, .unset, .unset, .unset, .unset, .unset] [(.int q2)])) _
    refine XS.bipush X0.here hx rfl (hb hby at_2) ?_
    show Steps p.tables e below (s₁.setTop (mkF m 4 #[.val (.long q0), .second, .val (.long q1), .second, .val (.int q2), .val (.int q3), .unset, .unset, .unset, .unset, .unset, .unset, .unset, .unset] [(.int (63 : Int32)), (.int q2)])) _
    refine XS.iand X0.here hx rfl (hb hby at_4) rfl ?_
    show Steps p.tables e below (s₁.setTop (mkF m 5 #[.val (.long q0), .second, .val (.long q1), .second, .val (.int q2), .val (.int q3), .unset, .unset, .unset, .unset, .unset, .unset, .unset, .unset] [(.int (q2 &&& (63 : Int32)))])) _
    refine XS.iconst X0.here hx rfl (hb hby at_5) ?_
    show Steps p.tables e below (s₁.setTop (mkF m 6 #[.val (.long q0), .second, .val (.long q1), .second, .val (.int q2), .val (.int q3), .unset, .unset, .unset, .unset, .unset, .unset, .unset, .unset] [(.int (1 : Int32)), (.int (q2 &&& (63 : Int32)))])) _
    refine XS.iadd X0.here hx rfl (hb hby at_6) rfl ?_
    exact k
  have pre3 : ∀ t, Steps p.tables e below (s₁.setTop (mkF m 13 #[.val (.long q0), .second, .val (.long q1), .second, .val (.int q2), .val (.int q3), .val (.int v1), .unset, .unset, .unset, .unset, .unset, .unset, .unset] [(.int (64 : Int32)), (.int v1)])) t → Steps p.tables e below (s₁.setTop (entryFrame m #[(.long q0), (.long q1), (.int q2), (.int q3)] maxLocals)) t := by
    intro t k
    refine pre2 t ?_
    show Steps p.tables e below (s₁.setTop (mkF m 7 #[.val (.long q0), .second, .val (.long q1), .second, .val (.int q2), .val (.int q3), .unset, .unset, .unset, .unset, .unset, .unset, .unset, .unset] [(.int v1)])) _
    refine XS.istore X0.here hx rfl (hb hby at_7) rfl (l' := #[.val (.long q0), .second, .val (.long q1), .second, .val (.int q2), .val (.int q3), .val (.int v1), .unset, .unset, .unset, .unset, .unset, .unset, .unset]) rfl ?_
    show Steps p.tables e below (s₁.setTop (mkF m 9 #[.val (.long q0), .second, .val (.long q1), .second, .val (.int q2), .val (.int q3), .val (.int v1), .unset, .unset, .unset, .unset, .unset, .unset, .unset] [])) _
    refine XS.iload X0.here hx rfl (hb hby at_9) rfl ?_
    show Steps p.tables e below (s₁.setTop (mkF m 11 #[.val (.long q0), .second, .val (.long q1), .second, .val (.int q2), .val (.int q3), .val (.int v1), .unset, .unset, .unset, .unset, .unset, .unset, .unset] [(.int v1)])) _
    refine XS.bipush X0.here hx rfl (hb hby at_11) ?_
    exact k
  by_cases c4 : v1 = (64 : Int32)
  · have pre5 : ∀ t, Steps p.tables e below (s₁.setTop (mkF m 37 #[.val (.long q0), .second, .val (.long q1), .second, .val (.int q2), .val (.int q3), .val (.int v1), .val (.long (-1 : Int64)), .second, .val (.long q0), .second, .unset, .unset, .unset] [(.int (q3 &&& (1 : Int32)))])) t → Steps p.tables e below (s₁.setTop (entryFrame m #[(.long q0), (.long q1), (.int q2), (.int q3)] maxLocals)) t := by
      intro t k
      refine pre3 t ?_
      show Steps p.tables e below (s₁.setTop (mkF m 13 #[.val (.long q0), .second, .val (.long q1), .second, .val (.int q2), .val (.int q3), .val (.int v1), .unset, .unset, .unset, .unset, .unset, .unset, .unset] [(.int (64 : Int32)), (.int v1)])) _
      refine XS.icmpNo X0.here hx rfl (hb hby at_13) rfl ((teq c4).2) ?_
      show Steps p.tables e below (s₁.setTop (mkF m 16 #[.val (.long q0), .second, .val (.long q1), .second, .val (.int q2), .val (.int q3), .val (.int v1), .unset, .unset, .unset, .unset, .unset, .unset, .unset] [])) _
      refine X0.ldc2Long hx hown (mvT hZ (hw _ (List.mem_of_getElem? (i := 5) rfl))) (g := (mkF m 16 #[.val (.long q0), .second, .val (.long q1), .second, .val (.int q2), .val (.int q3), .val (.int v1), .unset, .unset, .unset, .unset, .unset, .unset, .unset] [])) rfl (hb hby at_16) _ ?_
      show Steps p.tables e below (s₁.setTop (mkF m 19 #[.val (.long q0), .second, .val (.long q1), .second, .val (.int q2), .val (.int q3), .val (.int v1), .unset, .unset, .unset, .unset, .unset, .unset, .unset] [(.long (-1 : Int64))])) _
      refine XS.goto X0.here hx rfl (pc0 := 19) (pc' := 28) rfl (hb hby at_19) (by decide) (by decide) ?_
      show Steps p.tables e below (s₁.setTop (mkF m 28 #[.val (.long q0), .second, .val (.long q1), .second, .val (.int q2), .val (.int q3), .val (.int v1), .unset, .unset, .unset, .unset, .unset, .unset, .unset] [(.long (-1 : Int64))])) _
      refine XS.lstore X0.here hx rfl (hb hby at_28) rfl (l' := #[.val (.long q0), .second, .val (.long q1), .second, .val (.int q2), .val (.int q3), .val (.int v1), .val (.long (-1 : Int64)), .second, .unset, .unset, .unset, .unset, .unset]) rfl ?_
      show Steps p.tables e below (s₁.setTop (mkF m 30 #[.val (.long q0), .second, .val (.long q1), .second, .val (.int q2), .val (.int q3), .val (.int v1), .val (.long (-1 : Int64)), .second, .unset, .unset, .unset, .unset, .unset] [])) _
      refine XS.lloadN X0.here hx rfl (hb hby at_30) rfl ?_
      show Steps p.tables e below (s₁.setTop (mkF m 31 #[.val (.long q0), .second, .val (.long q1), .second, .val (.int q2), .val (.int q3), .val (.int v1), .val (.long (-1 : Int64)), .second, .unset, .unset, .unset, .unset, .unset] [(.long q0)])) _
      refine XS.lstore X0.here hx rfl (hb hby at_31) rfl (l' := #[.val (.long q0), .second, .val (.long q1), .second, .val (.int q2), .val (.int q3), .val (.int v1), .val (.long (-1 : Int64)), .second, .val (.long q0), .second, .unset, .unset, .unset]) rfl ?_
      show Steps p.tables e below (s₁.setTop (mkF m 33 #[.val (.long q0), .second, .val (.long q1), .second, .val (.int q2), .val (.int q3), .val (.int v1), .val (.long (-1 : Int64)), .second, .val (.long q0), .second, .unset, .unset, .unset] [])) _
      refine XS.iload X0.here hx rfl (hb hby at_33) rfl ?_
      show Steps p.tables e below (s₁.setTop (mkF m 35 #[.val (.long q0), .second, .val (.long q1), .second, .val (.int q2), .val (.int q3), .val (.int v1), .val (.long (-1 : Int64)), .second, .val (.long q0), .second, .unset, .unset, .unset] [(.int q3)])) _
      refine XS.iconst X0.here hx rfl (hb hby at_35) ?_
      show Steps p.tables e below (s₁.setTop (mkF m 36 #[.val (.long q0), .second, .val (.long q1), .second, .val (.int q2), .val (.int q3), .val (.int v1), .val (.long (-1 : Int64)), .second, .val (.long q0), .second, .unset, .unset, .unset] [(.int (1 : Int32)), (.int q3)])) _
      refine XS.iand X0.here hx rfl (hb hby at_36) rfl ?_
      exact k
    by_cases c6 : (q3 &&& (1 : Int32)) = (0 : Int32)
    · obtain ⟨v7, hv7⟩ : ∃ z : Int64, z = (q0 - q1) := ⟨_, rfl⟩
      have pre8 : ∀ t, Steps p.tables e below (s₁.setTop (mkF m 60 #[.val (.long q0), .second, .val (.long q1), .second, .val (.int q2), .val (.int q3), .val (.int v1), .val (.long (-1 : Int64)), .second, .val (.long q0), .second, .unset, .unset, .unset] [(.long v7)])) t → Steps p.tables e below (s₁.setTop (entryFrame m #[(.long q0), (.long q1), (.int q2), (.int q3)] maxLocals)) t := by
        rw [hv7]
        intro t k
        refine pre5 t ?_
        show Steps p.tables e below (s₁.setTop (mkF m 37 #[.val (.long q0), .second, .val (.long q1), .second, .val (.int q2), .val (.int q3), .val (.int v1), .val (.long (-1 : Int64)), .second, .val (.long q0), .second, .unset, .unset, .unset] [(.int (q3 &&& (1 : Int32)))])) _
        refine XS.ifYes X0.here hx rfl (pc0 := 37) (pc' := 56) rfl (hb hby at_37) rfl ((if0 _ _).trans (teq c6).1) (by decide) (by decide) ?_
        show Steps p.tables e below (s₁.setTop (mkF m 56 #[.val (.long q0), .second, .val (.long q1), .second, .val (.int q2), .val (.int q3), .val (.int v1), .val (.long (-1 : Int64)), .second, .val (.long q0), .second, .unset, .unset, .unset] [])) _
        refine XS.lload X0.here hx rfl (hb hby at_56) rfl ?_
        show Steps p.tables e below (s₁.setTop (mkF m 58 #[.val (.long q0), .second, .val (.long q1), .second, .val (.int q2), .val (.int q3), .val (.int v1), .val (.long (-1 : Int64)), .second, .val (.long q0), .second, .unset, .unset, .unset] [(.long q0)])) _
        refine XS.lloadN X0.here hx rfl (hb hby at_58) rfl ?_
        show Steps p.tables e below (s₁.setTop (mkF m 59 #[.val (.long q0), .second, .val (.long q1), .second, .val (.int q2), .val (.int q3), .val (.int v1), .val (.long (-1 : Int64)), .second, .val (.long q0), .second, .unset, .unset, .unset] [(.long q1), (.long q0)])) _
        refine XS.lsub X0.here hx rfl (hb hby at_59) rfl ?_
        exact k
      obtain ⟨_, _, ⟨T9, L9, k9, n9⟩, -, X9, ⟨Lc9, hQ9, l9, y9, z9⟩, st9⟩ := Jvm.LawKit.callS X0 hx (y := (⟨"quotidian/Modular", "isWord", "(JJJ)Z"⟩ : MethodName)) hown (mvT hZ (hw _ (List.mem_of_getElem? (i := 0) rfl))) (mvT hZ (hw _ (List.mem_of_getElem? (i := 1) rfl))) (mvT hZ (hw _ (List.mem_of_getElem? (i := 2) rfl))) (mvT hZ (hw _ (List.mem_of_getElem? (i := 3) rfl))) (by decide) (backOf (W := 0) (rm1 l Z a0 hw [] q0 q1 (-1 : Int64)  h0 n0 Z0 ) hZ (hw _ (List.mem_of_getElem? (i := 3) rfl)) (hw _ (List.mem_of_getElem? (i := 2) rfl)) (by decide) (by decide)) (g := (mkF m 96 #[.val (.long q0), .second, .val (.long q1), .second, .val (.int q2), .val (.int q3), .val (.int v1), .val (.long (-1 : Int64)), .second, .val (.long q0), .second, .val (.long v7), .second, .val (.int (1 : Int32))] [(.long (-1 : Int64)), (.long q1), (.long q0)])) rfl (by rw [hml]; rfl) (argsL := [(.long q0), (.long q1), (.long (-1 : Int64))]) (rest := []) (lenOf pd_3 rfl) rfl (by show 2 * 0 + _ ≤ _; exact Nat.le_of_eq rfl) (hb hby at_96) (fun _ _ => ⟨rfl, e0, (by decide : 0 + 0 ≤ _), (by decide : 0 + 0 ≤ _)⟩)
      dsimp only [Pt.U, Pt.locs, Pt.cells, Pt.slots] at X9 l9 y9 z9 st9 hQ9
      subst l9 y9 z9
      obtain ⟨rfl, N9q, e9⟩ := hQ9
      have N9 := Fr.app N0 N9q
      have pre10 : ∀ t, Steps p.tables e below (T9.setTop (mkF m 101 #[.val (.long q0), .second, .val (.long q1), .second, .val (.int q2), .val (.int q3), .val (.int v1), .val (.long (-1 : Int64)), .second, .val (.long q0), .second, .val (.long v7), .second, .val (.int (1 : Int32))] [(.int (1 : Int32)), (.int (own_f1 q0 q1 ((-1 : Int64))))])) t → Steps p.tables e below (s₁.setTop (entryFrame m #[(.long q0), (.long q1), (.int q2), (.int q3)] maxLocals)) t := by
        intro t k
        refine pre8 t ?_
        show Steps p.tables e below (s₁.setTop (mkF m 60 #[.val (.long q0), .second, .val (.long q1), .second, .val (.int q2), .val (.int q3), .val (.int v1), .val (.long (-1 : Int64)), .second, .val (.long q0), .second, .unset, .unset, .unset] [(.long v7)])) _
        refine XS.lstore X0.here hx rfl (hb hby at_60) rfl (l' := #[.val (.long q0), .second, .val (.long q1), .second, .val (.int q2), .val (.int q3), .val (.int v1), .val (.long (-1 : Int64)), .second, .val (.long q0), .second, .val (.long v7), .second, .unset]) rfl ?_
        show Steps p.tables e below (s₁.setTop (mkF m 62 #[.val (.long q0), .second, .val (.long q1), .second, .val (.int q2), .val (.int q3), .val (.int v1), .val (.long (-1 : Int64)), .second, .val (.long q0), .second, .val (.long v7), .second, .unset] [])) _
        refine XS.iload X0.here hx rfl (hb hby at_62) rfl ?_
        show Steps p.tables e below (s₁.setTop (mkF m 64 #[.val (.long q0), .second, .val (.long q1), .second, .val (.int q2), .val (.int q3), .val (.int v1), .val (.long (-1 : Int64)), .second, .val (.long q0), .second, .val (.long v7), .second, .unset] [(.int v1)])) _
        refine XS.bipush X0.here hx rfl (hb hby at_64) ?_
        show Steps p.tables e below (s₁.setTop (mkF m 66 #[.val (.long q0), .second, .val (.long q1), .second, .val (.int q2), .val (.int q3), .val (.int v1), .val (.long (-1 : Int64)), .second, .val (.long q0), .second, .val (.long v7), .second, .unset] [(.int (64 : Int32)), (.int v1)])) _
        refine XS.icmpYes X0.here hx rfl (pc0 := 66) (pc' := 84) rfl (hb hby at_66) rfl ((teq c4).1) (by decide) (by decide) ?_
        show Steps p.tables e below (s₁.setTop (mkF m 84 #[.val (.long q0), .second, .val (.long q1), .second, .val (.int q2), .val (.int q3), .val (.int v1), .val (.long (-1 : Int64)), .second, .val (.long q0), .second, .val (.long v7), .second, .unset] [])) _
        refine XS.iconst X0.here hx rfl (hb hby at_84) ?_
        show Steps p.tables e below (s₁.setTop (mkF m 85 #[.val (.long q0), .second, .val (.long q1), .second, .val (.int q2), .val (.int q3), .val (.int v1), .val (.long (-1 : Int64)), .second, .val (.long q0), .second, .val (.long v7), .second, .unset] [(.int (1 : Int32))])) _
        refine XS.goto X0.here hx rfl (pc0 := 85) (pc' := 89) rfl (hb hby at_85) (by decide) (by decide) ?_
        show Steps p.tables e below (s₁.setTop (mkF m 89 #[.val (.long q0), .second, .val (.long q1), .second, .val (.int q2), .val (.int q3), .val (.int v1), .val (.long (-1 : Int64)), .second, .val (.long q0), .second, .val (.long v7), .second, .unset] [(.int (1 : Int32))])) _
        refine XS.istore X0.here hx rfl (hb hby at_89) rfl (l' := #[.val (.long q0), .second, .val (.long q1), .second, .val (.int q2), .val (.int q3), .val (.int v1), .val (.long (-1 : Int64)), .second, .val (.long q0), .second, .val (.long v7), .second, .val (.int (1 : Int32))]) rfl ?_
        show Steps p.tables e below (s₁.setTop (mkF m 91 #[.val (.long q0), .second, .val (.long q1), .second, .val (.int q2), .val (.int q3), .val (.int v1), .val (.long (-1 : Int64)), .second, .val (.long q0), .second, .val (.long v7), .second, .val (.int (1 : Int32))] [])) _
        refine XS.lload X0.here hx rfl (hb hby at_91) rfl ?_
        show Steps p.tables e below (s₁.setTop (mkF m 93 #[.val (.long q0), .second, .val (.long q1), .second, .val (.int q2), .val (.int q3), .val (.int v1), .val (.long (-1 : Int64)), .second, .val (.long q0), .second, .val (.long v7), .second, .val (.int (1 : Int32))] [(.long q0)])) _
        refine XS.lloadN X0.here hx rfl (hb hby at_93) rfl ?_
        show Steps p.tables e below (s₁.setTop (mkF m 94 #[.val (.long q0), .second, .val (.long q1), .second, .val (.int q2), .val (.int q3), .val (.int v1), .val (.long (-1 : Int64)), .second, .val (.long q0), .second, .val (.long v7), .second, .val (.int (1 : Int32))] [(.long q1), (.long q0)])) _
        refine XS.lload X0.here hx rfl (hb hby at_94) rfl ?_
        show Steps p.tables e below (s₁.setTop (mkF m 96 #[.val (.long q0), .second, .val (.long q1), .second, .val (.int q2), .val (.int q3), .val (.int v1), .val (.long (-1 : Int64)), .second, .val (.long q0), .second, .val (.long v7), .second, .val (.int (1 : Int32))] [(.long (-1 : Int64)), (.long q1), (.long q0)])) _
        refine st9 _ ?_
        show Steps p.tables e below (T9.setTop (mkF m 99 #[.val (.long q0), .second, .val (.long q1), .second, .val (.int q2), .val (.int q3), .val (.int v1), .val (.long (-1 : Int64)), .second, .val (.long q0), .second, .val (.long v7), .second, .val (.int (1 : Int32))] [(.int (own_f1 q0 q1 ((-1 : Int64))))])) _
        refine XS.iload X9.here hx rfl (hb hby at_99) rfl ?_
        exact k
      by_cases c11 : (own_f1 q0 q1 ((-1 : Int64))) = (1 : Int32)
      · obtain ⟨fs, hr, hrun, hended, hW, hsame⟩ := X9.leave (v := some (.int (1 : Int32))) (fun h => by rw [Bd.returns] at h; cases h) hlk
        refine ⟨_, _, pre10 _ ?_, hrun, hended, _, _, rfl, ?_, ⟨_, rfl⟩, hW, hsame.mono (by decide) (by decide)⟩
        · show Steps p.tables e below (T9.setTop (mkF m 101 #[.val (.long q0), .second, .val (.long q1), .second, .val (.int q2), .val (.int q3), .val (.int v1), .val (.long (-1 : Int64)), .second, .val (.long q0), .second, .val (.long v7), .second, .val (.int (1 : Int32))] [(.int (1 : Int32)), (.int (own_f1 q0 q1 ((-1 : Int64))))])) _
          refine XS.icmpNo X9.here hx rfl (hb hby at_101) rfl ((teq c11).2) ?_
          show Steps p.tables e below (T9.setTop (mkF m 104 #[.val (.long q0), .second, .val (.long q1), .second, .val (.int q2), .val (.int q3), .val (.int v1), .val (.long (-1 : Int64)), .second, .val (.long q0), .second, .val (.long v7), .second, .val (.int (1 : Int32))] [])) _
          refine XS.iconst X9.here hx rfl (hb hby at_104) ?_
          show Steps p.tables e below (T9.setTop (mkF m 105 #[.val (.long q0), .second, .val (.long q1), .second, .val (.int q2), .val (.int q3), .val (.int v1), .val (.long (-1 : Int64)), .second, .val (.long q0), .second, .val (.long v7), .second, .val (.int (1 : Int32))] [(.int (1 : Int32))])) _
          refine XS.goto X9.here hx rfl (pc0 := 105) (pc' := 109) rfl (hb hby at_105) (by decide) (by decide) ?_
          show Steps p.tables e below (T9.setTop (mkF m 109 #[.val (.long q0), .second, .val (.long q1), .second, .val (.int q2), .val (.int q3), .val (.int v1), .val (.long (-1 : Int64)), .second, .val (.long q0), .second, .val (.long v7), .second, .val (.int (1 : Int32))] [(.int (1 : Int32))])) _
          exact retN X9 hx (t := .boolean) Bd.returns (by simp) (hb hby at_109) hr
        · show Q0 Z q0 q1 q2 q3 h0 n0 _ T9.heap _
          rw [e9]
          exact ⟨by have w_hv7 := hv7.symm; subst w_hv7; have w_hv1 := hv1.symm; subst w_hv1; simp only [own_f0, if_pos c4, if_pos c6, if_pos c11], N9⟩
      · obtain ⟨fs, hr, hrun, hended, hW, hsame⟩ := X9.leave (v := some (.int (0 : Int32))) (fun h => by rw [Bd.returns] at h; cases h) hlk
        refine ⟨_, _, pre10 _ ?_, hrun, hended, _, _, rfl, ?_, ⟨_, rfl⟩, hW, hsame.mono (by decide) (by decide)⟩
        · show Steps p.tables e below (T9.setTop (mkF m 101 #[.val (.long q0), .second, .val (.long q1), .second, .val (.int q2), .val (.int q3), .val (.int v1), .val (.long (-1 : Int64)), .second, .val (.long q0), .second, .val (.long v7), .second, .val (.int (1 : Int32))] [(.int (1 : Int32)), (.int (own_f1 q0 q1 ((-1 : Int64))))])) _
          refine XS.icmpYes X9.here hx rfl (pc0 := 101) (pc' := 108) rfl (hb hby at_101) rfl ((feq c11).2) (by decide) (by decide) ?_
          show Steps p.tables e below (T9.setTop (mkF m 108 #[.val (.long q0), .second, .val (.long q1), .second, .val (.int q2), .val (.int q3), .val (.int v1), .val (.long (-1 : Int64)), .second, .val (.long q0), .second, .val (.long v7), .second, .val (.int (1 : Int32))] [])) _
          refine XS.iconst X9.here hx rfl (hb hby at_108) ?_
          show Steps p.tables e below (T9.setTop (mkF m 109 #[.val (.long q0), .second, .val (.long q1), .second, .val (.int q2), .val (.int q3), .val (.int v1), .val (.long (-1 : Int64)), .second, .val (.long q0), .second, .val (.long v7), .second, .val (.int (1 : Int32))] [(.int (0 : Int32))])) _
          exact retN X9 hx (t := .boolean) Bd.returns (by simp) (hb hby at_109) hr
        · show Q0 Z q0 q1 q2 q3 h0 n0 _ T9.heap _
          rw [e9]
          exact ⟨by have w_hv7 := hv7.symm; subst w_hv7; have w_hv1 := hv1.symm; subst w_hv1; simp only [own_f0, if_pos c4, if_pos c6, if_neg c11], N9⟩
    · obtain ⟨v12, hv12⟩ : ∃ z : Int64, z = (((q1 + (-1 : Int64)) + (((q3 >>> ((1 : Int32) &&& 31)) &&& (3 : Int32))).toInt64) - (1 : Int64)) := ⟨_, rfl⟩
      have pre13 : ∀ t, Steps p.tables e below (s₁.setTop (mkF m 54 #[.val (.long q0), .second, .val (.long q1), .second, .val (.int q2), .val (.int q3), .val (.int v1), .val (.long (-1 : Int64)), .second, .val (.long q0), .second, .unset, .unset, .unset] [(.long v12)])) t → Steps p.tables e below (s₁.setTop (entryFrame m #[(.long q0), (.long q1), (.int q2), (.int q3)] maxLocals)) t := by
        rw [hv12]
        intro t k
        refine pre5 t ?_
        show Steps p.tables e below (s₁.setTop (mkF m 37 #[.val (.long q0), .second, .val (.long q1), .second, .val (.int q2), .val (.int q3), .val (.int v1), .val (.long (-1 : Int64)), .second, .val (.long q0), .second, .unset, .unset, .unset] [(.int (q3 &&& (1 : Int32)))])) _
        refine XS.ifNo X0.here hx rfl (hb hby at_37) rfl ((if0 _ _).trans (feq c6).1) ?_
        show Steps p.tables e below (s₁.setTop (mkF m 40 #[.val (.long q0), .second, .val (.long q1), .second, .val (.int q2), .val (.int q3), .val (.int v1), .val (.long (-1 : Int64)), .second, .val (.long q0), .second, .unset, .unset, .unset] [])) _
        refine XS.lloadN X0.here hx rfl (hb hby at_40) rfl ?_
        show Steps p.tables e below (s₁.setTop (mkF m 41 #[.val (.long q0), .second, .val (.long q1), .second, .val (.int q2), .val (.int q3), .val (.int v1), .val (.long (-1 : Int64)), .second, .val (.long q0), .second, .unset, .unset, .unset] [(.long q1)])) _
        refine XS.lload X0.here hx rfl (hb hby at_41) rfl ?_
        show Steps p.tables e below (s₁.setTop (mkF m 43 #[.val (.long q0), .second, .val (.long q1), .second, .val (.int q2), .val (.int q3), .val (.int v1), .val (.long (-1 : Int64)), .second, .val (.long q0), .second, .unset, .unset, .unset] [(.long (-1 : Int64)), (.long q1)])) _
        refine XS.ladd X0.here hx rfl (hb hby at_43) rfl ?_
        show Steps p.tables e below (s₁.setTop (mkF m 44 #[.val (.long q0), .second, .val (.long q1), .second, .val (.int q2), .val (.int q3), .val (.int v1), .val (.long (-1 : Int64)), .second, .val (.long q0), .second, .unset, .unset, .unset] [(.long (q1 + (-1 : Int64)))])) _
        refine XS.iload X0.here hx rfl (hb hby at_44) rfl ?_
        show Steps p.tables e below (s₁.setTop (mkF m 46 #[.val (.long q0), .second, .val (.long q1), .second, .val (.int q2), .val (.int q3), .val (.int v1), .val (.long (-1 : Int64)), .second, .val (.long q0), .second, .unset, .unset, .unset] [(.int q3), (.long (q1 + (-1 : Int64)))])) _
        refine XS.iconst X0.here hx rfl (hb hby at_46) ?_
        show Steps p.tables e below (s₁.setTop (mkF m 47 #[.val (.long q0), .second, .val (.long q1), .second, .val (.int q2), .val (.int q3), .val (.int v1), .val (.long (-1 : Int64)), .second, .val (.long q0), .second, .unset, .unset, .unset] [(.int (1 : Int32)), (.int q3), (.long (q1 + (-1 : Int64)))])) _
        refine XS.ishr X0.here hx rfl (hb hby at_47) rfl ?_
        show Steps p.tables e below (s₁.setTop (mkF m 48 #[.val (.long q0), .second, .val (.long q1), .second, .val (.int q2), .val (.int q3), .val (.int v1), .val (.long (-1 : Int64)), .second, .val (.long q0), .second, .unset, .unset, .unset] [(.int (q3 >>> ((1 : Int32) &&& 31))), (.long (q1 + (-1 : Int64)))])) _
        refine XS.iconst X0.here hx rfl (hb hby at_48) ?_
        show Steps p.tables e below (s₁.setTop (mkF m 49 #[.val (.long q0), .second, .val (.long q1), .second, .val (.int q2), .val (.int q3), .val (.int v1), .val (.long (-1 : Int64)), .second, .val (.long q0), .second, .unset, .unset, .unset] [(.int (3 : Int32)), (.int (q3 >>> ((1 : Int32) &&& 31))), (.long (q1 + (-1 : Int64)))])) _
        refine XS.iand X0.here hx rfl (hb hby at_49) rfl ?_
        show Steps p.tables e below (s₁.setTop (mkF m 50 #[.val (.long q0), .second, .val (.long q1), .second, .val (.int q2), .val (.int q3), .val (.int v1), .val (.long (-1 : Int64)), .second, .val (.long q0), .second, .unset, .unset, .unset] [(.int ((q3 >>> ((1 : Int32) &&& 31)) &&& (3 : Int32))), (.long (q1 + (-1 : Int64)))])) _
        refine XS.i2l X0.here hx rfl (hb hby at_50) rfl ?_
        show Steps p.tables e below (s₁.setTop (mkF m 51 #[.val (.long q0), .second, .val (.long q1), .second, .val (.int q2), .val (.int q3), .val (.int v1), .val (.long (-1 : Int64)), .second, .val (.long q0), .second, .unset, .unset, .unset] [(.long (((q3 >>> ((1 : Int32) &&& 31)) &&& (3 : Int32))).toInt64), (.long (q1 + (-1 : Int64)))])) _
        refine XS.ladd X0.here hx rfl (hb hby at_51) rfl ?_
        show Steps p.tables e below (s₁.setTop (mkF m 52 #[.val (.long q0), .second, .val (.long q1), .second, .val (.int q2), .val (.int q3), .val (.int v1), .val (.long (-1 : Int64)), .second, .val (.long q0), .second, .unset, .unset, .unset] [(.long ((q1 + (-1 : Int64)) + (((q3 >>> ((1 : Int32) &&& 31)) &&& (3 : Int32))).toInt64))])) _
        refine XS.lconst X0.here hx rfl (hb hby at_52) ?_
        show Steps p.tables e below (s₁.setTop (mkF m 53 #[.val (.long q0), .second, .val (.long q1), .second, .val (.int q2), .val (.int q3), .val (.int v1), .val (.long (-1 : Int64)), .second, .val (.long q0), .second, .unset, .unset, .unset] [(.long (1 : Int64)), (.long ((q1 + (-1 : Int64)) + (((q3 >>> ((1 : Int32) &&& 31)) &&& (3 : Int32))).toInt64))])) _
        refine XS.lsub X0.here hx rfl (hb hby at_53) rfl ?_
        exact k
      obtain ⟨v14, hv14⟩ : ∃ z : Int64, z = (v12 - q1) := ⟨_, rfl⟩
      have pre15 : ∀ t, Steps p.tables e below (s₁.setTop (mkF m 60 #[.val (.long q0), .second, .val (.long q1), .second, .val (.int q2), .val (.int q3), .val (.int v1), .val (.long (-1 : Int64)), .second, .val (.long v12), .second, .unset, .unset, .unset] [(.long v14)])) t → Steps p.tables e below (s₁.setTop (entryFrame m #[(.long q0), (.long q1), (.int q2), (.int q3)] maxLocals)) t := by
        rw [hv14]
        intro t k
        refine pre13 t ?_
        show Steps p.tables e below (s₁.setTop (mkF m 54 #[.val (.long q0), .second, .val (.long q1), .second, .val (.int q2), .val (.int q3), .val (.int v1), .val (.long (-1 : Int64)), .second, .val (.long q0), .second, .unset, .unset, .unset] [(.long v12)])) _
        refine XS.lstore X0.here hx rfl (hb hby at_54) rfl (l' := #[.val (.long q0), .second, .val (.long q1), .second, .val (.int q2), .val (.int q3), .val (.int v1), .val (.long (-1 : Int64)), .second, .val (.long v12), .second, .unset, .unset, .unset]) rfl ?_
        show Steps p.tables e below (s₁.setTop (mkF m 56 #[.val (.long q0), .second, .val (.long q1), .second, .val (.int q2), .val (.int q3), .val (.int v1), .val (.long (-1 : Int64)), .second, .val (.long v12), .second, .unset, .unset, .unset] [])) _
        refine XS.lload X0.here hx rfl (hb hby at_56) rfl ?_
        show Steps p.tables e below (s₁.setTop (mkF m 58 #[.val (.long q0), .second, .val (.long q1), .second, .val (.int q2), .val (.int q3), .val (.int v1), .val (.long (-1 : Int64)), .second, .val (.long v12), .second, .unset, .unset, .unset] [(.long v12)])) _
        refine XS.lloadN X0.here hx rfl (hb hby at_58) rfl ?_
        show Steps p.tables e below (s₁.setTop (mkF m 59 #[.val (.long q0), .second, .val (.long q1), .second, .val (.int q2), .val (.int q3), .val (.int v1), .val (.long (-1 : Int64)), .second, .val (.long v12), .second, .unset, .unset, .unset] [(.long q1), (.long v12)])) _
        refine XS.lsub X0.here hx rfl (hb hby at_59) rfl ?_
        exact k
      obtain ⟨_, _, ⟨T16, L16, k16, n16⟩, -, X16, ⟨Lc16, hQ16, l16, y16, z16⟩, st16⟩ := Jvm.LawKit.callS X0 hx (y := (⟨"quotidian/Modular", "isWord", "(JJJ)Z"⟩ : MethodName)) hown (mvT hZ (hw _ (List.mem_of_getElem? (i := 0) rfl))) (mvT hZ (hw _ (List.mem_of_getElem? (i := 1) rfl))) (mvT hZ (hw _ (List.mem_of_getElem? (i := 2) rfl))) (mvT hZ (hw _ (List.mem_of_getElem? (i := 3) rfl))) (by decide) (backOf (W := 0) (rm1 l Z a0 hw [] v12 q1 (-1 : Int64)  h0 n0 Z0 ) hZ (hw _ (List.mem_of_getElem? (i := 3) rfl)) (hw _ (List.mem_of_getElem? (i := 2) rfl)) (by decide) (by decide)) (g := (mkF m 96 #[.val (.long q0), .second, .val (.long q1), .second, .val (.int q2), .val (.int q3), .val (.int v1), .val (.long (-1 : Int64)), .second, .val (.long v12), .second, .val (.long v14), .second, .val (.int (1 : Int32))] [(.long (-1 : Int64)), (.long q1), (.long v12)])) rfl (by rw [hml]; rfl) (argsL := [(.long v12), (.long q1), (.long (-1 : Int64))]) (rest := []) (lenOf pd_3 rfl) rfl (by show 2 * 0 + _ ≤ _; exact Nat.le_of_eq rfl) (hb hby at_96) (fun _ _ => ⟨rfl, e0, (by decide : 0 + 0 ≤ _), (by decide : 0 + 0 ≤ _)⟩)
      dsimp only [Pt.U, Pt.locs, Pt.cells, Pt.slots] at X16 l16 y16 z16 st16 hQ16
      subst l16 y16 z16
      obtain ⟨rfl, N16q, e16⟩ := hQ16
      have N16 := Fr.app N0 N16q
      have pre17 : ∀ t, Steps p.tables e below (T16.setTop (mkF m 101 #[.val (.long q0), .second, .val (.long q1), .second, .val (.int q2), .val (.int q3), .val (.int v1), .val (.long (-1 : Int64)), .second, .val (.long v12), .second, .val (.long v14), .second, .val (.int (1 : Int32))] [(.int (1 : Int32)), (.int (own_f1 v12 q1 ((-1 : Int64))))])) t → Steps p.tables e below (s₁.setTop (entryFrame m #[(.long q0), (.long q1), (.int q2), (.int q3)] maxLocals)) t := by
        intro t k
        refine pre15 t ?_
        show Steps p.tables e below (s₁.setTop (mkF m 60 #[.val (.long q0), .second, .val (.long q1), .second, .val (.int q2), .val (.int q3), .val (.int v1), .val (.long (-1 : Int64)), .second, .val (.long v12), .second, .unset, .unset, .unset] [(.long v14)])) _
        refine XS.lstore X0.here hx rfl (hb hby at_60) rfl (l' := #[.val (.long q0), .second, .val (.long q1), .second, .val (.int q2), .val (.int q3), .val (.int v1), .val (.long (-1 : Int64)), .second, .val (.long v12), .second, .val (.long v14), .second, .unset]) rfl ?_
        show Steps p.tables e below (s₁.setTop (mkF m 62 #[.val (.long q0), .second, .val (.long q1), .second, .val (.int q2), .val (.int q3), .val (.int v1), .val (.long (-1 : Int64)), .second, .val (.long v12), .second, .val (.long v14), .second, .unset] [])) _
        refine XS.iload X0.here hx rfl (hb hby at_62) rfl ?_
        show Steps p.tables e below (s₁.setTop (mkF m 64 #[.val (.long q0), .second, .val (.long q1), .second, .val (.int q2), .val (.int q3), .val (.int v1), .val (.long (-1 : Int64)), .second, .val (.long v12), .second, .val (.long v14), .second, .unset] [(.int v1)])) _
        refine XS.bipush X0.here hx rfl (hb hby at_64) ?_
        show Steps p.tables e below (s₁.setTop (mkF m 66 #[.val (.long q0), .second, .val (.long q1), .second, .val (.int q2), .val (.int q3), .val (.int v1), .val (.long (-1 : Int64)), .second, .val (.long v12), .second, .val (.long v14), .second, .unset] [(.int (64 : Int32)), (.int v1)])) _
        refine XS.icmpYes X0.here hx rfl (pc0 := 66) (pc' := 84) rfl (hb hby at_66) rfl ((teq c4).1) (by decide) (by decide) ?_
        show Steps p.tables e below (s₁.setTop (mkF m 84 #[.val (.long q0), .second, .val (.long q1), .second, .val (.int q2), .val (.int q3), .val (.int v1), .val (.long (-1 : Int64)), .second, .val (.long v12), .second, .val (.long v14), .second, .unset] [])) _
        refine XS.iconst X0.here hx rfl (hb hby at_84) ?_
        show Steps p.tables e below (s₁.setTop (mkF m 85 #[.val (.long q0), .second, .val (.long q1), .second, .val (.int q2), .val (.int q3), .val (.int v1), .val (.long (-1 : Int64)), .second, .val (.long v12), .second, .val (.long v14), .second, .unset] [(.int (1 : Int32))])) _
        refine XS.goto X0.here hx rfl (pc0 := 85) (pc' := 89) rfl (hb hby at_85) (by decide) (by decide) ?_
        show Steps p.tables e below (s₁.setTop (mkF m 89 #[.val (.long q0), .second, .val (.long q1), .second, .val (.int q2), .val (.int q3), .val (.int v1), .val (.long (-1 : Int64)), .second, .val (.long v12), .second, .val (.long v14), .second, .unset] [(.int (1 : Int32))])) _
        refine XS.istore X0.here hx rfl (hb hby at_89) rfl (l' := #[.val (.long q0), .second, .val (.long q1), .second, .val (.int q2), .val (.int q3), .val (.int v1), .val (.long (-1 : Int64)), .second, .val (.long v12), .second, .val (.long v14), .second, .val (.int (1 : Int32))]) rfl ?_
        show Steps p.tables e below (s₁.setTop (mkF m 91 #[.val (.long q0), .second, .val (.long q1), .second, .val (.int q2), .val (.int q3), .val (.int v1), .val (.long (-1 : Int64)), .second, .val (.long v12), .second, .val (.long v14), .second, .val (.int (1 : Int32))] [])) _
        refine XS.lload X0.here hx rfl (hb hby at_91) rfl ?_
        show Steps p.tables e below (s₁.setTop (mkF m 93 #[.val (.long q0), .second, .val (.long q1), .second, .val (.int q2), .val (.int q3), .val (.int v1), .val (.long (-1 : Int64)), .second, .val (.long v12), .second, .val (.long v14), .second, .val (.int (1 : Int32))] [(.long v12)])) _
        refine XS.lloadN X0.here hx rfl (hb hby at_93) rfl ?_
        show Steps p.tables e below (s₁.setTop (mkF m 94 #[.val (.long q0), .second, .val (.long q1), .second, .val (.int q2), .val (.int q3), .val (.int v1), .val (.long (-1 : Int64)), .second, .val (.long v12), .second, .val (.long v14), .second, .val (.int (1 : Int32))] [(.long q1), (.long v12)])) _
        refine XS.lload X0.here hx rfl (hb hby at_94) rfl ?_
        show Steps p.tables e below (s₁.setTop (mkF m 96 #[.val (.long q0), .second, .val (.long q1), .second, .val (.int q2), .val (.int q3), .val (.int v1), .val (.long (-1 : Int64)), .second, .val (.long v12), .second, .val (.long v14), .second, .val (.int (1 : Int32))] [(.long (-1 : Int64)), (.long q1), (.long v12)])) _
        refine st16 _ ?_
        show Steps p.tables e below (T16.setTop (mkF m 99 #[.val (.long q0), .second, .val (.long q1), .second, .val (.int q2), .val (.int q3), .val (.int v1), .val (.long (-1 : Int64)), .second, .val (.long v12), .second, .val (.long v14), .second, .val (.int (1 : Int32))] [(.int (own_f1 v12 q1 ((-1 : Int64))))])) _
        refine XS.iload X16.here hx rfl (hb hby at_99) rfl ?_
        exact k
      by_cases c18 : (own_f1 v12 q1 ((-1 : Int64))) = (1 : Int32)
      · obtain ⟨fs, hr, hrun, hended, hW, hsame⟩ := X16.leave (v := some (.int (1 : Int32))) (fun h => by rw [Bd.returns] at h; cases h) hlk
        refine ⟨_, _, pre17 _ ?_, hrun, hended, _, _, rfl, ?_, ⟨_, rfl⟩, hW, hsame.mono (by decide) (by decide)⟩
        · show Steps p.tables e below (T16.setTop (mkF m 101 #[.val (.long q0), .second, .val (.long q1), .second, .val (.int q2), .val (.int q3), .val (.int v1), .val (.long (-1 : Int64)), .second, .val (.long v12), .second, .val (.long v14), .second, .val (.int (1 : Int32))] [(.int (1 : Int32)), (.int (own_f1 v12 q1 ((-1 : Int64))))])) _
          refine XS.icmpNo X16.here hx rfl (hb hby at_101) rfl ((teq c18).2) ?_
          show Steps p.tables e below (T16.setTop (mkF m 104 #[.val (.long q0), .second, .val (.long q1), .second, .val (.int q2), .val (.int q3), .val (.int v1), .val (.long (-1 : Int64)), .second, .val (.long v12), .second, .val (.long v14), .second, .val (.int (1 : Int32))] [])) _
          refine XS.iconst X16.here hx rfl (hb hby at_104) ?_
          show Steps p.tables e below (T16.setTop (mkF m 105 #[.val (.long q0), .second, .val (.long q1), .second, .val (.int q2), .val (.int q3), .val (.int v1), .val (.long (-1 : Int64)), .second, .val (.long v12), .second, .val (.long v14), .second, .val (.int (1 : Int32))] [(.int (1 : Int32))])) _
          refine XS.goto X16.here hx rfl (pc0 := 105) (pc' := 109) rfl (hb hby at_105) (by decide) (by decide) ?_
          show Steps p.tables e below (T16.setTop (mkF m 109 #[.val (.long q0), .second, .val (.long q1), .second, .val (.int q2), .val (.int q3), .val (.int v1), .val (.long (-1 : Int64)), .second, .val (.long v12), .second, .val (.long v14), .second, .val (.int (1 : Int32))] [(.int (1 : Int32))])) _
          exact retN X16 hx (t := .boolean) Bd.returns (by simp) (hb hby at_109) hr
        · show Q0 Z q0 q1 q2 q3 h0 n0 _ T16.heap _
          rw [e16]
          exact ⟨by have w_hv14 := hv14.symm; subst w_hv14; have w_hv12 := hv12.symm; subst w_hv12; have w_hv1 := hv1.symm; subst w_hv1; simp only [own_f0, if_pos c4, if_neg c6, if_pos c18], N16⟩
      · obtain ⟨fs, hr, hrun, hended, hW, hsame⟩ := X16.leave (v := some (.int (0 : Int32))) (fun h => by rw [Bd.returns] at h; cases h) hlk
        refine ⟨_, _, pre17 _ ?_, hrun, hended, _, _, rfl, ?_, ⟨_, rfl⟩, hW, hsame.mono (by decide) (by decide)⟩
        · show Steps p.tables e below (T16.setTop (mkF m 101 #[.val (.long q0), .second, .val (.long q1), .second, .val (.int q2), .val (.int q3), .val (.int v1), .val (.long (-1 : Int64)), .second, .val (.long v12), .second, .val (.long v14), .second, .val (.int (1 : Int32))] [(.int (1 : Int32)), (.int (own_f1 v12 q1 ((-1 : Int64))))])) _
          refine XS.icmpYes X16.here hx rfl (pc0 := 101) (pc' := 108) rfl (hb hby at_101) rfl ((feq c18).2) (by decide) (by decide) ?_
          show Steps p.tables e below (T16.setTop (mkF m 108 #[.val (.long q0), .second, .val (.long q1), .second, .val (.int q2), .val (.int q3), .val (.int v1), .val (.long (-1 : Int64)), .second, .val (.long v12), .second, .val (.long v14), .second, .val (.int (1 : Int32))] [])) _
          refine XS.iconst X16.here hx rfl (hb hby at_108) ?_
          show Steps p.tables e below (T16.setTop (mkF m 109 #[.val (.long q0), .second, .val (.long q1), .second, .val (.int q2), .val (.int q3), .val (.int v1), .val (.long (-1 : Int64)), .second, .val (.long v12), .second, .val (.long v14), .second, .val (.int (1 : Int32))] [(.int (0 : Int32))])) _
          exact retN X16 hx (t := .boolean) Bd.returns (by simp) (hb hby at_109) hr
        · show Q0 Z q0 q1 q2 q3 h0 n0 _ T16.heap _
          rw [e16]
          exact ⟨by have w_hv14 := hv14.symm; subst w_hv14; have w_hv12 := hv12.symm; subst w_hv12; have w_hv1 := hv1.symm; subst w_hv1; simp only [own_f0, if_pos c4, if_neg c6, if_neg c18], N16⟩
  · obtain ⟨v19, hv19⟩ : ∃ z : Int64, z = (((1 : Int64) <<< (v1 &&& 0x3f).toInt64) - (1 : Int64)) := ⟨_, rfl⟩
    have pre20 : ∀ t, Steps p.tables e below (s₁.setTop (mkF m 28 #[.val (.long q0), .second, .val (.long q1), .second, .val (.int q2), .val (.int q3), .val (.int v1), .unset, .unset, .unset, .unset, .unset, .unset, .unset] [(.long v19)])) t → Steps p.tables e below (s₁.setTop (entryFrame m #[(.long q0), (.long q1), (.int q2), (.int q3)] maxLocals)) t := by
      rw [hv19]
      intro t k
      refine pre3 t ?_
      show Steps p.tables e below (s₁.setTop (mkF m 13 #[.val (.long q0), .second, .val (.long q1), .second, .val (.int q2), .val (.int q3), .val (.int v1), .unset, .unset, .unset, .unset, .unset, .unset, .unset] [(.int (64 : Int32)), (.int v1)])) _
      refine XS.icmpYes X0.here hx rfl (pc0 := 13) (pc' := 22) rfl (hb hby at_13) rfl ((feq c4).2) (by decide) (by decide) ?_
      show Steps p.tables e below (s₁.setTop (mkF m 22 #[.val (.long q0), .second, .val (.long q1), .second, .val (.int q2), .val (.int q3), .val (.int v1), .unset, .unset, .unset, .unset, .unset, .unset, .unset] [])) _
      refine XS.lconst X0.here hx rfl (hb hby at_22) ?_
      show Steps p.tables e below (s₁.setTop (mkF m 23 #[.val (.long q0), .second, .val (.long q1), .second, .val (.int q2), .val (.int q3), .val (.int v1), .unset, .unset, .unset, .unset, .unset, .unset, .unset] [(.long (1 : Int64))])) _
      refine XS.iload X0.here hx rfl (hb hby at_23) rfl ?_
      show Steps p.tables e below (s₁.setTop (mkF m 25 #[.val (.long q0), .second, .val (.long q1), .second, .val (.int q2), .val (.int q3), .val (.int v1), .unset, .unset, .unset, .unset, .unset, .unset, .unset] [(.int v1), (.long (1 : Int64))])) _
      refine XS.lshl X0.here hx rfl (hb hby at_25) rfl ?_
      show Steps p.tables e below (s₁.setTop (mkF m 26 #[.val (.long q0), .second, .val (.long q1), .second, .val (.int q2), .val (.int q3), .val (.int v1), .unset, .unset, .unset, .unset, .unset, .unset, .unset] [(.long ((1 : Int64) <<< (v1 &&& 0x3f).toInt64))])) _
      refine XS.lconst X0.here hx rfl (hb hby at_26) ?_
      show Steps p.tables e below (s₁.setTop (mkF m 27 #[.val (.long q0), .second, .val (.long q1), .second, .val (.int q2), .val (.int q3), .val (.int v1), .unset, .unset, .unset, .unset, .unset, .unset, .unset] [(.long (1 : Int64)), (.long ((1 : Int64) <<< (v1 &&& 0x3f).toInt64))])) _
      refine XS.lsub X0.here hx rfl (hb hby at_27) rfl ?_
      exact k
    have pre21 : ∀ t, Steps p.tables e below (s₁.setTop (mkF m 37 #[.val (.long q0), .second, .val (.long q1), .second, .val (.int q2), .val (.int q3), .val (.int v1), .val (.long v19), .second, .val (.long q0), .second, .unset, .unset, .unset] [(.int (q3 &&& (1 : Int32)))])) t → Steps p.tables e below (s₁.setTop (entryFrame m #[(.long q0), (.long q1), (.int q2), (.int q3)] maxLocals)) t := by
      intro t k
      refine pre20 t ?_
      show Steps p.tables e below (s₁.setTop (mkF m 28 #[.val (.long q0), .second, .val (.long q1), .second, .val (.int q2), .val (.int q3), .val (.int v1), .unset, .unset, .unset, .unset, .unset, .unset, .unset] [(.long v19)])) _
      refine XS.lstore X0.here hx rfl (hb hby at_28) rfl (l' := #[.val (.long q0), .second, .val (.long q1), .second, .val (.int q2), .val (.int q3), .val (.int v1), .val (.long v19), .second, .unset, .unset, .unset, .unset, .unset]) rfl ?_
      show Steps p.tables e below (s₁.setTop (mkF m 30 #[.val (.long q0), .second, .val (.long q1), .second, .val (.int q2), .val (.int q3), .val (.int v1), .val (.long v19), .second, .unset, .unset, .unset, .unset, .unset] [])) _
      refine XS.lloadN X0.here hx rfl (hb hby at_30) rfl ?_
      show Steps p.tables e below (s₁.setTop (mkF m 31 #[.val (.long q0), .second, .val (.long q1), .second, .val (.int q2), .val (.int q3), .val (.int v1), .val (.long v19), .second, .unset, .unset, .unset, .unset, .unset] [(.long q0)])) _
      refine XS.lstore X0.here hx rfl (hb hby at_31) rfl (l' := #[.val (.long q0), .second, .val (.long q1), .second, .val (.int q2), .val (.int q3), .val (.int v1), .val (.long v19), .second, .val (.long q0), .second, .unset, .unset, .unset]) rfl ?_
      show Steps p.tables e below (s₁.setTop (mkF m 33 #[.val (.long q0), .second, .val (.long q1), .second, .val (.int q2), .val (.int q3), .val (.int v1), .val (.long v19), .second, .val (.long q0), .second, .unset, .unset, .unset] [])) _
      refine XS.iload X0.here hx rfl (hb hby at_33) rfl ?_
      show Steps p.tables e below (s₁.setTop (mkF m 35 #[.val (.long q0), .second, .val (.long q1), .second, .val (.int q2), .val (.int q3), .val (.int v1), .val (.long v19), .second, .val (.long q0), .second, .unset, .unset, .unset] [(.int q3)])) _
      refine XS.iconst X0.here hx rfl (hb hby at_35) ?_
      show Steps p.tables e below (s₁.setTop (mkF m 36 #[.val (.long q0), .second, .val (.long q1), .second, .val (.int q2), .val (.int q3), .val (.int v1), .val (.long v19), .second, .val (.long q0), .second, .unset, .unset, .unset] [(.int (1 : Int32)), (.int q3)])) _
      refine XS.iand X0.here hx rfl (hb hby at_36) rfl ?_
      exact k
    by_cases c22 : (q3 &&& (1 : Int32)) = (0 : Int32)
    · obtain ⟨v23, hv23⟩ : ∃ z : Int64, z = (q0 - q1) := ⟨_, rfl⟩
      have pre24 : ∀ t, Steps p.tables e below (s₁.setTop (mkF m 60 #[.val (.long q0), .second, .val (.long q1), .second, .val (.int q2), .val (.int q3), .val (.int v1), .val (.long v19), .second, .val (.long q0), .second, .unset, .unset, .unset] [(.long v23)])) t → Steps p.tables e below (s₁.setTop (entryFrame m #[(.long q0), (.long q1), (.int q2), (.int q3)] maxLocals)) t := by
        rw [hv23]
        intro t k
        refine pre21 t ?_
        show Steps p.tables e below (s₁.setTop (mkF m 37 #[.val (.long q0), .second, .val (.long q1), .second, .val (.int q2), .val (.int q3), .val (.int v1), .val (.long v19), .second, .val (.long q0), .second, .unset, .unset, .unset] [(.int (q3 &&& (1 : Int32)))])) _
        refine XS.ifYes X0.here hx rfl (pc0 := 37) (pc' := 56) rfl (hb hby at_37) rfl ((if0 _ _).trans (teq c22).1) (by decide) (by decide) ?_
        show Steps p.tables e below (s₁.setTop (mkF m 56 #[.val (.long q0), .second, .val (.long q1), .second, .val (.int q2), .val (.int q3), .val (.int v1), .val (.long v19), .second, .val (.long q0), .second, .unset, .unset, .unset] [])) _
        refine XS.lload X0.here hx rfl (hb hby at_56) rfl ?_
        show Steps p.tables e below (s₁.setTop (mkF m 58 #[.val (.long q0), .second, .val (.long q1), .second, .val (.int q2), .val (.int q3), .val (.int v1), .val (.long v19), .second, .val (.long q0), .second, .unset, .unset, .unset] [(.long q0)])) _
        refine XS.lloadN X0.here hx rfl (hb hby at_58) rfl ?_
        show Steps p.tables e below (s₁.setTop (mkF m 59 #[.val (.long q0), .second, .val (.long q1), .second, .val (.int q2), .val (.int q3), .val (.int v1), .val (.long v19), .second, .val (.long q0), .second, .unset, .unset, .unset] [(.long q1), (.long q0)])) _
        refine XS.lsub X0.here hx rfl (hb hby at_59) rfl ?_
        exact k
      have pre25 : ∀ t, Steps p.tables e below (s₁.setTop (mkF m 73 #[.val (.long q0), .second, .val (.long q1), .second, .val (.int q2), .val (.int q3), .val (.int v1), .val (.long v19), .second, .val (.long q0), .second, .val (.long v23), .second, .unset] [(.int (lcmpW v23 (0 : Int64)))])) t → Steps p.tables e below (s₁.setTop (entryFrame m #[(.long q0), (.long q1), (.int q2), (.int q3)] maxLocals)) t := by
        intro t k
        refine pre24 t ?_
        show Steps p.tables e below (s₁.setTop (mkF m 60 #[.val (.long q0), .second, .val (.long q1), .second, .val (.int q2), .val (.int q3), .val (.int v1), .val (.long v19), .second, .val (.long q0), .second, .unset, .unset, .unset] [(.long v23)])) _
        refine XS.lstore X0.here hx rfl (hb hby at_60) rfl (l' := #[.val (.long q0), .second, .val (.long q1), .second, .val (.int q2), .val (.int q3), .val (.int v1), .val (.long v19), .second, .val (.long q0), .second, .val (.long v23), .second, .unset]) rfl ?_
        show Steps p.tables e below (s₁.setTop (mkF m 62 #[.val (.long q0), .second, .val (.long q1), .second, .val (.int q2), .val (.int q3), .val (.int v1), .val (.long v19), .second, .val (.long q0), .second, .val (.long v23), .second, .unset] [])) _
        refine XS.iload X0.here hx rfl (hb hby at_62) rfl ?_
        show Steps p.tables e below (s₁.setTop (mkF m 64 #[.val (.long q0), .second, .val (.long q1), .second, .val (.int q2), .val (.int q3), .val (.int v1), .val (.long v19), .second, .val (.long q0), .second, .val (.long v23), .second, .unset] [(.int v1)])) _
        refine XS.bipush X0.here hx rfl (hb hby at_64) ?_
        show Steps p.tables e below (s₁.setTop (mkF m 66 #[.val (.long q0), .second, .val (.long q1), .second, .val (.int q2), .val (.int q3), .val (.int v1), .val (.long v19), .second, .val (.long q0), .second, .val (.long v23), .second, .unset] [(.int (64 : Int32)), (.int v1)])) _
        refine XS.icmpNo X0.here hx rfl (hb hby at_66) rfl ((feq c4).1) ?_
        show Steps p.tables e below (s₁.setTop (mkF m 69 #[.val (.long q0), .second, .val (.long q1), .second, .val (.int q2), .val (.int q3), .val (.int v1), .val (.long v19), .second, .val (.long q0), .second, .val (.long v23), .second, .unset] [])) _
        refine XS.lload X0.here hx rfl (hb hby at_69) rfl ?_
        show Steps p.tables e below (s₁.setTop (mkF m 71 #[.val (.long q0), .second, .val (.long q1), .second, .val (.int q2), .val (.int q3), .val (.int v1), .val (.long v19), .second, .val (.long q0), .second, .val (.long v23), .second, .unset] [(.long v23)])) _
        refine XS.lconst X0.here hx rfl (hb hby at_71) ?_
        show Steps p.tables e below (s₁.setTop (mkF m 72 #[.val (.long q0), .second, .val (.long q1), .second, .val (.int q2), .val (.int q3), .val (.int v1), .val (.long v19), .second, .val (.long q0), .second, .val (.long v23), .second, .unset] [(.long (0 : Int64)), (.long v23)])) _
        refine XS.lcmp X0.here hx rfl (hb hby at_72) rfl ?_
        exact k
      by_cases c26 : v23 < (0 : Int64)
      · obtain ⟨_, _, ⟨T27, L27, k27, n27⟩, -, X27, ⟨Lc27, hQ27, l27, y27, z27⟩, st27⟩ := Jvm.LawKit.callS X0 hx (y := (⟨"quotidian/Modular", "isWord", "(JJJ)Z"⟩ : MethodName)) hown (mvT hZ (hw _ (List.mem_of_getElem? (i := 0) rfl))) (mvT hZ (hw _ (List.mem_of_getElem? (i := 1) rfl))) (mvT hZ (hw _ (List.mem_of_getElem? (i := 2) rfl))) (mvT hZ (hw _ (List.mem_of_getElem? (i := 3) rfl))) (by decide) (backOf (W := 0) (rm1 l Z a0 hw [] q0 q1 v19  h0 n0 Z0 ) hZ (hw _ (List.mem_of_getElem? (i := 3) rfl)) (hw _ (List.mem_of_getElem? (i := 2) rfl)) (by decide) (by decide)) (g := (mkF m 96 #[.val (.long q0), .second, .val (.long q1), .second, .val (.int q2), .val (.int q3), .val (.int v1), .val (.long v19), .second, .val (.long q0), .second, .val (.long v23), .second, .val (.int (0 : Int32))] [(.long v19), (.long q1), (.long q0)])) rfl (by rw [hml]; rfl) (argsL := [(.long q0), (.long q1), (.long v19)]) (rest := []) (lenOf pd_3 rfl) rfl (by show 2 * 0 + _ ≤ _; exact Nat.le_of_eq rfl) (hb hby at_96) (fun _ _ => ⟨rfl, e0, (by decide : 0 + 0 ≤ _), (by decide : 0 + 0 ≤ _)⟩)
        dsimp only [Pt.U, Pt.locs, Pt.cells, Pt.slots] at X27 l27 y27 z27 st27 hQ27
        subst l27 y27 z27
        obtain ⟨rfl, N27q, e27⟩ := hQ27
        have N27 := Fr.app N0 N27q
        have pre28 : ∀ t, Steps p.tables e below (T27.setTop (mkF m 101 #[.val (.long q0), .second, .val (.long q1), .second, .val (.int q2), .val (.int q3), .val (.int v1), .val (.long v19), .second, .val (.long q0), .second, .val (.long v23), .second, .val (.int (0 : Int32))] [(.int (0 : Int32)), (.int (own_f1 q0 q1 v19))])) t → Steps p.tables e below (s₁.setTop (entryFrame m #[(.long q0), (.long q1), (.int q2), (.int q3)] maxLocals)) t := by
          intro t k
          refine pre25 t ?_
          show Steps p.tables e below (s₁.setTop (mkF m 73 #[.val (.long q0), .second, .val (.long q1), .second, .val (.int q2), .val (.int q3), .val (.int v1), .val (.long v19), .second, .val (.long q0), .second, .val (.long v23), .second, .unset] [(.int (lcmpW v23 (0 : Int64)))])) _
          refine XS.ifYes X0.here hx rfl (pc0 := 73) (pc' := 88) rfl (hb hby at_73) rfl ((if0 _ _).trans (tlt ((lw_lt v23 (0 : Int64)).mpr c26)).1) (by decide) (by decide) ?_
          show Steps p.tables e below (s₁.setTop (mkF m 88 #[.val (.long q0), .second, .val (.long q1), .second, .val (.int q2), .val (.int q3), .val (.int v1), .val (.long v19), .second, .val (.long q0), .second, .val (.long v23), .second, .unset] [])) _
          refine XS.iconst X0.here hx rfl (hb hby at_88) ?_
          show Steps p.tables e below (s₁.setTop (mkF m 89 #[.val (.long q0), .second, .val (.long q1), .second, .val (.int q2), .val (.int q3), .val (.int v1), .val (.long v19), .second, .val (.long q0), .second, .val (.long v23), .second, .unset] [(.int (0 : Int32))])) _
          refine XS.istore X0.here hx rfl (hb hby at_89) rfl (l' := #[.val (.long q0), .second, .val (.long q1), .second, .val (.int q2), .val (.int q3), .val (.int v1), .val (.long v19), .second, .val (.long q0), .second, .val (.long v23), .second, .val (.int (0 : Int32))]) rfl ?_
          show Steps p.tables e below (s₁.setTop (mkF m 91 #[.val (.long q0), .second, .val (.long q1), .second, .val (.int q2), .val (.int q3), .val (.int v1), .val (.long v19), .second, .val (.long q0), .second, .val (.long v23), .second, .val (.int (0 : Int32))] [])) _
          refine XS.lload X0.here hx rfl (hb hby at_91) rfl ?_
          show Steps p.tables e below (s₁.setTop (mkF m 93 #[.val (.long q0), .second, .val (.long q1), .second, .val (.int q2), .val (.int q3), .val (.int v1), .val (.long v19), .second, .val (.long q0), .second, .val (.long v23), .second, .val (.int (0 : Int32))] [(.long q0)])) _
          refine XS.lloadN X0.here hx rfl (hb hby at_93) rfl ?_
          show Steps p.tables e below (s₁.setTop (mkF m 94 #[.val (.long q0), .second, .val (.long q1), .second, .val (.int q2), .val (.int q3), .val (.int v1), .val (.long v19), .second, .val (.long q0), .second, .val (.long v23), .second, .val (.int (0 : Int32))] [(.long q1), (.long q0)])) _
          refine XS.lload X0.here hx rfl (hb hby at_94) rfl ?_
          show Steps p.tables e below (s₁.setTop (mkF m 96 #[.val (.long q0), .second, .val (.long q1), .second, .val (.int q2), .val (.int q3), .val (.int v1), .val (.long v19), .second, .val (.long q0), .second, .val (.long v23), .second, .val (.int (0 : Int32))] [(.long v19), (.long q1), (.long q0)])) _
          refine st27 _ ?_
          show Steps p.tables e below (T27.setTop (mkF m 99 #[.val (.long q0), .second, .val (.long q1), .second, .val (.int q2), .val (.int q3), .val (.int v1), .val (.long v19), .second, .val (.long q0), .second, .val (.long v23), .second, .val (.int (0 : Int32))] [(.int (own_f1 q0 q1 v19))])) _
          refine XS.iload X27.here hx rfl (hb hby at_99) rfl ?_
          exact k
        by_cases c29 : (own_f1 q0 q1 v19) = (0 : Int32)
        · obtain ⟨fs, hr, hrun, hended, hW, hsame⟩ := X27.leave (v := some (.int (1 : Int32))) (fun h => by rw [Bd.returns] at h; cases h) hlk
          refine ⟨_, _, pre28 _ ?_, hrun, hended, _, _, rfl, ?_, ⟨_, rfl⟩, hW, hsame.mono (by decide) (by decide)⟩
          · show Steps p.tables e below (T27.setTop (mkF m 101 #[.val (.long q0), .second, .val (.long q1), .second, .val (.int q2), .val (.int q3), .val (.int v1), .val (.long v19), .second, .val (.long q0), .second, .val (.long v23), .second, .val (.int (0 : Int32))] [(.int (0 : Int32)), (.int (own_f1 q0 q1 v19))])) _
            refine XS.icmpNo X27.here hx rfl (hb hby at_101) rfl ((teq c29).2) ?_
            show Steps p.tables e below (T27.setTop (mkF m 104 #[.val (.long q0), .second, .val (.long q1), .second, .val (.int q2), .val (.int q3), .val (.int v1), .val (.long v19), .second, .val (.long q0), .second, .val (.long v23), .second, .val (.int (0 : Int32))] [])) _
            refine XS.iconst X27.here hx rfl (hb hby at_104) ?_
            show Steps p.tables e below (T27.setTop (mkF m 105 #[.val (.long q0), .second, .val (.long q1), .second, .val (.int q2), .val (.int q3), .val (.int v1), .val (.long v19), .second, .val (.long q0), .second, .val (.long v23), .second, .val (.int (0 : Int32))] [(.int (1 : Int32))])) _
            refine XS.goto X27.here hx rfl (pc0 := 105) (pc' := 109) rfl (hb hby at_105) (by decide) (by decide) ?_
            show Steps p.tables e below (T27.setTop (mkF m 109 #[.val (.long q0), .second, .val (.long q1), .second, .val (.int q2), .val (.int q3), .val (.int v1), .val (.long v19), .second, .val (.long q0), .second, .val (.long v23), .second, .val (.int (0 : Int32))] [(.int (1 : Int32))])) _
            exact retN X27 hx (t := .boolean) Bd.returns (by simp) (hb hby at_109) hr
          · show Q0 Z q0 q1 q2 q3 h0 n0 _ T27.heap _
            rw [e27]
            exact ⟨by have w_hv23 := hv23.symm; subst w_hv23; have w_hv19 := hv19.symm; subst w_hv19; have w_hv1 := hv1.symm; subst w_hv1; simp only [own_f0, if_neg c4, if_pos c22, if_pos c26, if_pos c29], N27⟩
        · obtain ⟨fs, hr, hrun, hended, hW, hsame⟩ := X27.leave (v := some (.int (0 : Int32))) (fun h => by rw [Bd.returns] at h; cases h) hlk
          refine ⟨_, _, pre28 _ ?_, hrun, hended, _, _, rfl, ?_, ⟨_, rfl⟩, hW, hsame.mono (by decide) (by decide)⟩
          · show Steps p.tables e below (T27.setTop (mkF m 101 #[.val (.long q0), .second, .val (.long q1), .second, .val (.int q2), .val (.int q3), .val (.int v1), .val (.long v19), .second, .val (.long q0), .second, .val (.long v23), .second, .val (.int (0 : Int32))] [(.int (0 : Int32)), (.int (own_f1 q0 q1 v19))])) _
            refine XS.icmpYes X27.here hx rfl (pc0 := 101) (pc' := 108) rfl (hb hby at_101) rfl ((feq c29).2) (by decide) (by decide) ?_
            show Steps p.tables e below (T27.setTop (mkF m 108 #[.val (.long q0), .second, .val (.long q1), .second, .val (.int q2), .val (.int q3), .val (.int v1), .val (.long v19), .second, .val (.long q0), .second, .val (.long v23), .second, .val (.int (0 : Int32))] [])) _
            refine XS.iconst X27.here hx rfl (hb hby at_108) ?_
            show Steps p.tables e below (T27.setTop (mkF m 109 #[.val (.long q0), .second, .val (.long q1), .second, .val (.int q2), .val (.int q3), .val (.int v1), .val (.long v19), .second, .val (.long q0), .second, .val (.long v23), .second, .val (.int (0 : Int32))] [(.int (0 : Int32))])) _
            exact retN X27 hx (t := .boolean) Bd.returns (by simp) (hb hby at_109) hr
          · show Q0 Z q0 q1 q2 q3 h0 n0 _ T27.heap _
            rw [e27]
            exact ⟨by have w_hv23 := hv23.symm; subst w_hv23; have w_hv19 := hv19.symm; subst w_hv19; have w_hv1 := hv1.symm; subst w_hv1; simp only [own_f0, if_neg c4, if_pos c22, if_pos c26, if_neg c29], N27⟩
      · have pre30 : ∀ t, Steps p.tables e below (s₁.setTop (mkF m 81 #[.val (.long q0), .second, .val (.long q1), .second, .val (.int q2), .val (.int q3), .val (.int v1), .val (.long v19), .second, .val (.long q0), .second, .val (.long v23), .second, .unset] [(.int (lcmpW v23 v19))])) t → Steps p.tables e below (s₁.setTop (entryFrame m #[(.long q0), (.long q1), (.int q2), (.int q3)] maxLocals)) t := by
          intro t k
          refine pre25 t ?_
          show Steps p.tables e below (s₁.setTop (mkF m 73 #[.val (.long q0), .second, .val (.long q1), .second, .val (.int q2), .val (.int q3), .val (.int v1), .val (.long v19), .second, .val (.long q0), .second, .val (.long v23), .second, .unset] [(.int (lcmpW v23 (0 : Int64)))])) _
          refine XS.ifNo X0.here hx rfl (hb hby at_73) rfl ((if0 _ _).trans (flt (mt (lw_lt v23 (0 : Int64)).mp c26)).1) ?_
          show Steps p.tables e below (s₁.setTop (mkF m 76 #[.val (.long q0), .second, .val (.long q1), .second, .val (.int q2), .val (.int q3), .val (.int v1), .val (.long v19), .second, .val (.long q0), .second, .val (.long v23), .second, .unset] [])) _
          refine XS.lload X0.here hx rfl (hb hby at_76) rfl ?_
          show Steps p.tables e below (s₁.setTop (mkF m 78 #[.val (.long q0), .second, .val (.long q1), .second, .val (.int q2), .val (.int q3), .val (.int v1), .val (.long v19), .second, .val (.long q0), .second, .val (.long v23), .second, .unset] [(.long v23)])) _
          refine XS.lload X0.here hx rfl (hb hby at_78) rfl ?_
          show Steps p.tables e below (s₁.setTop (mkF m 80 #[.val (.long q0), .second, .val (.long q1), .second, .val (.int q2), .val (.int q3), .val (.int v1), .val (.long v19), .second, .val (.long q0), .second, .val (.long v23), .second, .unset] [(.long v19), (.long v23)])) _
          refine XS.lcmp X0.here hx rfl (hb hby at_80) rfl ?_
          exact k
        by_cases c31 : v19 < v23
        · obtain ⟨_, _, ⟨T32, L32, k32, n32⟩, -, X32, ⟨Lc32, hQ32, l32, y32, z32⟩, st32⟩ := Jvm.LawKit.callS X0 hx (y := (⟨"quotidian/Modular", "isWord", "(JJJ)Z"⟩ : MethodName)) hown (mvT hZ (hw _ (List.mem_of_getElem? (i := 0) rfl))) (mvT hZ (hw _ (List.mem_of_getElem? (i := 1) rfl))) (mvT hZ (hw _ (List.mem_of_getElem? (i := 2) rfl))) (mvT hZ (hw _ (List.mem_of_getElem? (i := 3) rfl))) (by decide) (backOf (W := 0) (rm1 l Z a0 hw [] q0 q1 v19  h0 n0 Z0 ) hZ (hw _ (List.mem_of_getElem? (i := 3) rfl)) (hw _ (List.mem_of_getElem? (i := 2) rfl)) (by decide) (by decide)) (g := (mkF m 96 #[.val (.long q0), .second, .val (.long q1), .second, .val (.int q2), .val (.int q3), .val (.int v1), .val (.long v19), .second, .val (.long q0), .second, .val (.long v23), .second, .val (.int (0 : Int32))] [(.long v19), (.long q1), (.long q0)])) rfl (by rw [hml]; rfl) (argsL := [(.long q0), (.long q1), (.long v19)]) (rest := []) (lenOf pd_3 rfl) rfl (by show 2 * 0 + _ ≤ _; exact Nat.le_of_eq rfl) (hb hby at_96) (fun _ _ => ⟨rfl, e0, (by decide : 0 + 0 ≤ _), (by decide : 0 + 0 ≤ _)⟩)
          dsimp only [Pt.U, Pt.locs, Pt.cells, Pt.slots] at X32 l32 y32 z32 st32 hQ32
          subst l32 y32 z32
          obtain ⟨rfl, N32q, e32⟩ := hQ32
          have N32 := Fr.app N0 N32q
          have pre33 : ∀ t, Steps p.tables e below (T32.setTop (mkF m 101 #[.val (.long q0), .second, .val (.long q1), .second, .val (.int q2), .val (.int q3), .val (.int v1), .val (.long v19), .second, .val (.long q0), .second, .val (.long v23), .second, .val (.int (0 : Int32))] [(.int (0 : Int32)), (.int (own_f1 q0 q1 v19))])) t → Steps p.tables e below (s₁.setTop (entryFrame m #[(.long q0), (.long q1), (.int q2), (.int q3)] maxLocals)) t := by
            intro t k
            refine pre30 t ?_
            show Steps p.tables e below (s₁.setTop (mkF m 81 #[.val (.long q0), .second, .val (.long q1), .second, .val (.int q2), .val (.int q3), .val (.int v1), .val (.long v19), .second, .val (.long q0), .second, .val (.long v23), .second, .unset] [(.int (lcmpW v23 v19))])) _
            refine XS.ifYes X0.here hx rfl (pc0 := 81) (pc' := 88) rfl (hb hby at_81) rfl ((if0 _ _).trans (tlt ((lw_gt v23 v19).mpr c31)).2.2.1) (by decide) (by decide) ?_
            show Steps p.tables e below (s₁.setTop (mkF m 88 #[.val (.long q0), .second, .val (.long q1), .second, .val (.int q2), .val (.int q3), .val (.int v1), .val (.long v19), .second, .val (.long q0), .second, .val (.long v23), .second, .unset] [])) _
            refine XS.iconst X0.here hx rfl (hb hby at_88) ?_
            show Steps p.tables e below (s₁.setTop (mkF m 89 #[.val (.long q0), .second, .val (.long q1), .second, .val (.int q2), .val (.int q3), .val (.int v1), .val (.long v19), .second, .val (.long q0), .second, .val (.long v23), .second, .unset] [(.int (0 : Int32))])) _
            refine XS.istore X0.here hx rfl (hb hby at_89) rfl (l' := #[.val (.long q0), .second, .val (.long q1), .second, .val (.int q2), .val (.int q3), .val (.int v1), .val (.long v19), .second, .val (.long q0), .second, .val (.long v23), .second, .val (.int (0 : Int32))]) rfl ?_
            show Steps p.tables e below (s₁.setTop (mkF m 91 #[.val (.long q0), .second, .val (.long q1), .second, .val (.int q2), .val (.int q3), .val (.int v1), .val (.long v19), .second, .val (.long q0), .second, .val (.long v23), .second, .val (.int (0 : Int32))] [])) _
            refine XS.lload X0.here hx rfl (hb hby at_91) rfl ?_
            show Steps p.tables e below (s₁.setTop (mkF m 93 #[.val (.long q0), .second, .val (.long q1), .second, .val (.int q2), .val (.int q3), .val (.int v1), .val (.long v19), .second, .val (.long q0), .second, .val (.long v23), .second, .val (.int (0 : Int32))] [(.long q0)])) _
            refine XS.lloadN X0.here hx rfl (hb hby at_93) rfl ?_
            show Steps p.tables e below (s₁.setTop (mkF m 94 #[.val (.long q0), .second, .val (.long q1), .second, .val (.int q2), .val (.int q3), .val (.int v1), .val (.long v19), .second, .val (.long q0), .second, .val (.long v23), .second, .val (.int (0 : Int32))] [(.long q1), (.long q0)])) _
            refine XS.lload X0.here hx rfl (hb hby at_94) rfl ?_
            show Steps p.tables e below (s₁.setTop (mkF m 96 #[.val (.long q0), .second, .val (.long q1), .second, .val (.int q2), .val (.int q3), .val (.int v1), .val (.long v19), .second, .val (.long q0), .second, .val (.long v23), .second, .val (.int (0 : Int32))] [(.long v19), (.long q1), (.long q0)])) _
            refine st32 _ ?_
            show Steps p.tables e below (T32.setTop (mkF m 99 #[.val (.long q0), .second, .val (.long q1), .second, .val (.int q2), .val (.int q3), .val (.int v1), .val (.long v19), .second, .val (.long q0), .second, .val (.long v23), .second, .val (.int (0 : Int32))] [(.int (own_f1 q0 q1 v19))])) _
            refine XS.iload X32.here hx rfl (hb hby at_99) rfl ?_
            exact k
          by_cases c34 : (own_f1 q0 q1 v19) = (0 : Int32)
          · obtain ⟨fs, hr, hrun, hended, hW, hsame⟩ := X32.leave (v := some (.int (1 : Int32))) (fun h => by rw [Bd.returns] at h; cases h) hlk
            refine ⟨_, _, pre33 _ ?_, hrun, hended, _, _, rfl, ?_, ⟨_, rfl⟩, hW, hsame.mono (by decide) (by decide)⟩
            · show Steps p.tables e below (T32.setTop (mkF m 101 #[.val (.long q0), .second, .val (.long q1), .second, .val (.int q2), .val (.int q3), .val (.int v1), .val (.long v19), .second, .val (.long q0), .second, .val (.long v23), .second, .val (.int (0 : Int32))] [(.int (0 : Int32)), (.int (own_f1 q0 q1 v19))])) _
              refine XS.icmpNo X32.here hx rfl (hb hby at_101) rfl ((teq c34).2) ?_
              show Steps p.tables e below (T32.setTop (mkF m 104 #[.val (.long q0), .second, .val (.long q1), .second, .val (.int q2), .val (.int q3), .val (.int v1), .val (.long v19), .second, .val (.long q0), .second, .val (.long v23), .second, .val (.int (0 : Int32))] [])) _
              refine XS.iconst X32.here hx rfl (hb hby at_104) ?_
              show Steps p.tables e below (T32.setTop (mkF m 105 #[.val (.long q0), .second, .val (.long q1), .second, .val (.int q2), .val (.int q3), .val (.int v1), .val (.long v19), .second, .val (.long q0), .second, .val (.long v23), .second, .val (.int (0 : Int32))] [(.int (1 : Int32))])) _
              refine XS.goto X32.here hx rfl (pc0 := 105) (pc' := 109) rfl (hb hby at_105) (by decide) (by decide) ?_
              show Steps p.tables e below (T32.setTop (mkF m 109 #[.val (.long q0), .second, .val (.long q1), .second, .val (.int q2), .val (.int q3), .val (.int v1), .val (.long v19), .second, .val (.long q0), .second, .val (.long v23), .second, .val (.int (0 : Int32))] [(.int (1 : Int32))])) _
              exact retN X32 hx (t := .boolean) Bd.returns (by simp) (hb hby at_109) hr
            · show Q0 Z q0 q1 q2 q3 h0 n0 _ T32.heap _
              rw [e32]
              exact ⟨by have w_hv23 := hv23.symm; subst w_hv23; have w_hv19 := hv19.symm; subst w_hv19; have w_hv1 := hv1.symm; subst w_hv1; simp only [own_f0, if_neg c4, if_pos c22, if_neg c26, if_pos c31, if_pos c34], N32⟩
          · obtain ⟨fs, hr, hrun, hended, hW, hsame⟩ := X32.leave (v := some (.int (0 : Int32))) (fun h => by rw [Bd.returns] at h; cases h) hlk
            refine ⟨_, _, pre33 _ ?_, hrun, hended, _, _, rfl, ?_, ⟨_, rfl⟩, hW, hsame.mono (by decide) (by decide)⟩
            · show Steps p.tables e below (T32.setTop (mkF m 101 #[.val (.long q0), .second, .val (.long q1), .second, .val (.int q2), .val (.int q3), .val (.int v1), .val (.long v19), .second, .val (.long q0), .second, .val (.long v23), .second, .val (.int (0 : Int32))] [(.int (0 : Int32)), (.int (own_f1 q0 q1 v19))])) _
              refine XS.icmpYes X32.here hx rfl (pc0 := 101) (pc' := 108) rfl (hb hby at_101) rfl ((feq c34).2) (by decide) (by decide) ?_
              show Steps p.tables e below (T32.setTop (mkF m 108 #[.val (.long q0), .second, .val (.long q1), .second, .val (.int q2), .val (.int q3), .val (.int v1), .val (.long v19), .second, .val (.long q0), .second, .val (.long v23), .second, .val (.int (0 : Int32))] [])) _
              refine XS.iconst X32.here hx rfl (hb hby at_108) ?_
              show Steps p.tables e below (T32.setTop (mkF m 109 #[.val (.long q0), .second, .val (.long q1), .second, .val (.int q2), .val (.int q3), .val (.int v1), .val (.long v19), .second, .val (.long q0), .second, .val (.long v23), .second, .val (.int (0 : Int32))] [(.int (0 : Int32))])) _
              exact retN X32 hx (t := .boolean) Bd.returns (by simp) (hb hby at_109) hr
            · show Q0 Z q0 q1 q2 q3 h0 n0 _ T32.heap _
              rw [e32]
              exact ⟨by have w_hv23 := hv23.symm; subst w_hv23; have w_hv19 := hv19.symm; subst w_hv19; have w_hv1 := hv1.symm; subst w_hv1; simp only [own_f0, if_neg c4, if_pos c22, if_neg c26, if_pos c31, if_neg c34], N32⟩
        · obtain ⟨_, _, ⟨T35, L35, k35, n35⟩, -, X35, ⟨Lc35, hQ35, l35, y35, z35⟩, st35⟩ := Jvm.LawKit.callS X0 hx (y := (⟨"quotidian/Modular", "isWord", "(JJJ)Z"⟩ : MethodName)) hown (mvT hZ (hw _ (List.mem_of_getElem? (i := 0) rfl))) (mvT hZ (hw _ (List.mem_of_getElem? (i := 1) rfl))) (mvT hZ (hw _ (List.mem_of_getElem? (i := 2) rfl))) (mvT hZ (hw _ (List.mem_of_getElem? (i := 3) rfl))) (by decide) (backOf (W := 0) (rm1 l Z a0 hw [] q0 q1 v19  h0 n0 Z0 ) hZ (hw _ (List.mem_of_getElem? (i := 3) rfl)) (hw _ (List.mem_of_getElem? (i := 2) rfl)) (by decide) (by decide)) (g := (mkF m 96 #[.val (.long q0), .second, .val (.long q1), .second, .val (.int q2), .val (.int q3), .val (.int v1), .val (.long v19), .second, .val (.long q0), .second, .val (.long v23), .second, .val (.int (1 : Int32))] [(.long v19), (.long q1), (.long q0)])) rfl (by rw [hml]; rfl) (argsL := [(.long q0), (.long q1), (.long v19)]) (rest := []) (lenOf pd_3 rfl) rfl (by show 2 * 0 + _ ≤ _; exact Nat.le_of_eq rfl) (hb hby at_96) (fun _ _ => ⟨rfl, e0, (by decide : 0 + 0 ≤ _), (by decide : 0 + 0 ≤ _)⟩)
          dsimp only [Pt.U, Pt.locs, Pt.cells, Pt.slots] at X35 l35 y35 z35 st35 hQ35
          subst l35 y35 z35
          obtain ⟨rfl, N35q, e35⟩ := hQ35
          have N35 := Fr.app N0 N35q
          have pre36 : ∀ t, Steps p.tables e below (T35.setTop (mkF m 101 #[.val (.long q0), .second, .val (.long q1), .second, .val (.int q2), .val (.int q3), .val (.int v1), .val (.long v19), .second, .val (.long q0), .second, .val (.long v23), .second, .val (.int (1 : Int32))] [(.int (1 : Int32)), (.int (own_f1 q0 q1 v19))])) t → Steps p.tables e below (s₁.setTop (entryFrame m #[(.long q0), (.long q1), (.int q2), (.int q3)] maxLocals)) t := by
            intro t k
            refine pre30 t ?_
            show Steps p.tables e below (s₁.setTop (mkF m 81 #[.val (.long q0), .second, .val (.long q1), .second, .val (.int q2), .val (.int q3), .val (.int v1), .val (.long v19), .second, .val (.long q0), .second, .val (.long v23), .second, .unset] [(.int (lcmpW v23 v19))])) _
            refine XS.ifNo X0.here hx rfl (hb hby at_81) rfl ((if0 _ _).trans (flt (mt (lw_gt v23 v19).mp c31)).2.2.1) ?_
            show Steps p.tables e below (s₁.setTop (mkF m 84 #[.val (.long q0), .second, .val (.long q1), .second, .val (.int q2), .val (.int q3), .val (.int v1), .val (.long v19), .second, .val (.long q0), .second, .val (.long v23), .second, .unset] [])) _
            refine XS.iconst X0.here hx rfl (hb hby at_84) ?_
            show Steps p.tables e below (s₁.setTop (mkF m 85 #[.val (.long q0), .second, .val (.long q1), .second, .val (.int q2), .val (.int q3), .val (.int v1), .val (.long v19), .second, .val (.long q0), .second, .val (.long v23), .second, .unset] [(.int (1 : Int32))])) _
            refine XS.goto X0.here hx rfl (pc0 := 85) (pc' := 89) rfl (hb hby at_85) (by decide) (by decide) ?_
            show Steps p.tables e below (s₁.setTop (mkF m 89 #[.val (.long q0), .second, .val (.long q1), .second, .val (.int q2), .val (.int q3), .val (.int v1), .val (.long v19), .second, .val (.long q0), .second, .val (.long v23), .second, .unset] [(.int (1 : Int32))])) _
            refine XS.istore X0.here hx rfl (hb hby at_89) rfl (l' := #[.val (.long q0), .second, .val (.long q1), .second, .val (.int q2), .val (.int q3), .val (.int v1), .val (.long v19), .second, .val (.long q0), .second, .val (.long v23), .second, .val (.int (1 : Int32))]) rfl ?_
            show Steps p.tables e below (s₁.setTop (mkF m 91 #[.val (.long q0), .second, .val (.long q1), .second, .val (.int q2), .val (.int q3), .val (.int v1), .val (.long v19), .second, .val (.long q0), .second, .val (.long v23), .second, .val (.int (1 : Int32))] [])) _
            refine XS.lload X0.here hx rfl (hb hby at_91) rfl ?_
            show Steps p.tables e below (s₁.setTop (mkF m 93 #[.val (.long q0), .second, .val (.long q1), .second, .val (.int q2), .val (.int q3), .val (.int v1), .val (.long v19), .second, .val (.long q0), .second, .val (.long v23), .second, .val (.int (1 : Int32))] [(.long q0)])) _
            refine XS.lloadN X0.here hx rfl (hb hby at_93) rfl ?_
            show Steps p.tables e below (s₁.setTop (mkF m 94 #[.val (.long q0), .second, .val (.long q1), .second, .val (.int q2), .val (.int q3), .val (.int v1), .val (.long v19), .second, .val (.long q0), .second, .val (.long v23), .second, .val (.int (1 : Int32))] [(.long q1), (.long q0)])) _
            refine XS.lload X0.here hx rfl (hb hby at_94) rfl ?_
            show Steps p.tables e below (s₁.setTop (mkF m 96 #[.val (.long q0), .second, .val (.long q1), .second, .val (.int q2), .val (.int q3), .val (.int v1), .val (.long v19), .second, .val (.long q0), .second, .val (.long v23), .second, .val (.int (1 : Int32))] [(.long v19), (.long q1), (.long q0)])) _
            refine st35 _ ?_
            show Steps p.tables e below (T35.setTop (mkF m 99 #[.val (.long q0), .second, .val (.long q1), .second, .val (.int q2), .val (.int q3), .val (.int v1), .val (.long v19), .second, .val (.long q0), .second, .val (.long v23), .second, .val (.int (1 : Int32))] [(.int (own_f1 q0 q1 v19))])) _
            refine XS.iload X35.here hx rfl (hb hby at_99) rfl ?_
            exact k
          by_cases c37 : (own_f1 q0 q1 v19) = (1 : Int32)
          · obtain ⟨fs, hr, hrun, hended, hW, hsame⟩ := X35.leave (v := some (.int (1 : Int32))) (fun h => by rw [Bd.returns] at h; cases h) hlk
            refine ⟨_, _, pre36 _ ?_, hrun, hended, _, _, rfl, ?_, ⟨_, rfl⟩, hW, hsame.mono (by decide) (by decide)⟩
            · show Steps p.tables e below (T35.setTop (mkF m 101 #[.val (.long q0), .second, .val (.long q1), .second, .val (.int q2), .val (.int q3), .val (.int v1), .val (.long v19), .second, .val (.long q0), .second, .val (.long v23), .second, .val (.int (1 : Int32))] [(.int (1 : Int32)), (.int (own_f1 q0 q1 v19))])) _
              refine XS.icmpNo X35.here hx rfl (hb hby at_101) rfl ((teq c37).2) ?_
              show Steps p.tables e below (T35.setTop (mkF m 104 #[.val (.long q0), .second, .val (.long q1), .second, .val (.int q2), .val (.int q3), .val (.int v1), .val (.long v19), .second, .val (.long q0), .second, .val (.long v23), .second, .val (.int (1 : Int32))] [])) _
              refine XS.iconst X35.here hx rfl (hb hby at_104) ?_
              show Steps p.tables e below (T35.setTop (mkF m 105 #[.val (.long q0), .second, .val (.long q1), .second, .val (.int q2), .val (.int q3), .val (.int v1), .val (.long v19), .second, .val (.long q0), .second, .val (.long v23), .second, .val (.int (1 : Int32))] [(.int (1 : Int32))])) _
              refine XS.goto X35.here hx rfl (pc0 := 105) (pc' := 109) rfl (hb hby at_105) (by decide) (by decide) ?_
              show Steps p.tables e below (T35.setTop (mkF m 109 #[.val (.long q0), .second, .val (.long q1), .second, .val (.int q2), .val (.int q3), .val (.int v1), .val (.long v19), .second, .val (.long q0), .second, .val (.long v23), .second, .val (.int (1 : Int32))] [(.int (1 : Int32))])) _
              exact retN X35 hx (t := .boolean) Bd.returns (by simp) (hb hby at_109) hr
            · show Q0 Z q0 q1 q2 q3 h0 n0 _ T35.heap _
              rw [e35]
              exact ⟨by have w_hv23 := hv23.symm; subst w_hv23; have w_hv19 := hv19.symm; subst w_hv19; have w_hv1 := hv1.symm; subst w_hv1; simp only [own_f0, if_neg c4, if_pos c22, if_neg c26, if_neg c31, if_pos c37], N35⟩
          · obtain ⟨fs, hr, hrun, hended, hW, hsame⟩ := X35.leave (v := some (.int (0 : Int32))) (fun h => by rw [Bd.returns] at h; cases h) hlk
            refine ⟨_, _, pre36 _ ?_, hrun, hended, _, _, rfl, ?_, ⟨_, rfl⟩, hW, hsame.mono (by decide) (by decide)⟩
            · show Steps p.tables e below (T35.setTop (mkF m 101 #[.val (.long q0), .second, .val (.long q1), .second, .val (.int q2), .val (.int q3), .val (.int v1), .val (.long v19), .second, .val (.long q0), .second, .val (.long v23), .second, .val (.int (1 : Int32))] [(.int (1 : Int32)), (.int (own_f1 q0 q1 v19))])) _
              refine XS.icmpYes X35.here hx rfl (pc0 := 101) (pc' := 108) rfl (hb hby at_101) rfl ((feq c37).2) (by decide) (by decide) ?_
              show Steps p.tables e below (T35.setTop (mkF m 108 #[.val (.long q0), .second, .val (.long q1), .second, .val (.int q2), .val (.int q3), .val (.int v1), .val (.long v19), .second, .val (.long q0), .second, .val (.long v23), .second, .val (.int (1 : Int32))] [])) _
              refine XS.iconst X35.here hx rfl (hb hby at_108) ?_
              show Steps p.tables e below (T35.setTop (mkF m 109 #[.val (.long q0), .second, .val (.long q1), .second, .val (.int q2), .val (.int q3), .val (.int v1), .val (.long v19), .second, .val (.long q0), .second, .val (.long v23), .second, .val (.int (1 : Int32))] [(.int (0 : Int32))])) _
              exact retN X35 hx (t := .boolean) Bd.returns (by simp) (hb hby at_109) hr
            · show Q0 Z q0 q1 q2 q3 h0 n0 _ T35.heap _
              rw [e35]
              exact ⟨by have w_hv23 := hv23.symm; subst w_hv23; have w_hv19 := hv19.symm; subst w_hv19; have w_hv1 := hv1.symm; subst w_hv1; simp only [own_f0, if_neg c4, if_pos c22, if_neg c26, if_neg c31, if_neg c37], N35⟩
    · obtain ⟨v38, hv38⟩ : ∃ z : Int64, z = (((q1 + v19) + (((q3 >>> ((1 : Int32) &&& 31)) &&& (3 : Int32))).toInt64) - (1 : Int64)) := ⟨_, rfl⟩
      have pre39 : ∀ t, Steps p.tables e below (s₁.setTop (mkF m 54 #[.val (.long q0), .second, .val (.long q1), .second, .val (.int q2), .val (.int q3), .val (.int v1), .val (.long v19), .second, .val (.long q0), .second, .unset, .unset, .unset] [(.long v38)])) t → Steps p.tables e below (s₁.setTop (entryFrame m #[(.long q0), (.long q1), (.int q2), (.int q3)] maxLocals)) t := by
        rw [hv38]
        intro t k
        refine pre21 t ?_
        show Steps p.tables e below (s₁.setTop (mkF m 37 #[.val (.long q0), .second, .val (.long q1), .second, .val (.int q2), .val (.int q3), .val (.int v1), .val (.long v19), .second, .val (.long q0), .second, .unset, .unset, .unset] [(.int (q3 &&& (1 : Int32)))])) _
        refine XS.ifNo X0.here hx rfl (hb hby at_37) rfl ((if0 _ _).trans (feq c22).1) ?_
        show Steps p.tables e below (s₁.setTop (mkF m 40 #[.val (.long q0), .second, .val (.long q1), .second, .val (.int q2), .val (.int q3), .val (.int v1), .val (.long v19), .second, .val (.long q0), .second, .unset, .unset, .unset] [])) _
        refine XS.lloadN X0.here hx rfl (hb hby at_40) rfl ?_
        show Steps p.tables e below (s₁.setTop (mkF m 41 #[.val (.long q0), .second, .val (.long q1), .second, .val (.int q2), .val (.int q3), .val (.int v1), .val (.long v19), .second, .val (.long q0), .second, .unset, .unset, .unset] [(.long q1)])) _
        refine XS.lload X0.here hx rfl (hb hby at_41) rfl ?_
        show Steps p.tables e below (s₁.setTop (mkF m 43 #[.val (.long q0), .second, .val (.long q1), .second, .val (.int q2), .val (.int q3), .val (.int v1), .val (.long v19), .second, .val (.long q0), .second, .unset, .unset, .unset] [(.long v19), (.long q1)])) _
        refine XS.ladd X0.here hx rfl (hb hby at_43) rfl ?_
        show Steps p.tables e below (s₁.setTop (mkF m 44 #[.val (.long q0), .second, .val (.long q1), .second, .val (.int q2), .val (.int q3), .val (.int v1), .val (.long v19), .second, .val (.long q0), .second, .unset, .unset, .unset] [(.long (q1 + v19))])) _
        refine XS.iload X0.here hx rfl (hb hby at_44) rfl ?_
        show Steps p.tables e below (s₁.setTop (mkF m 46 #[.val (.long q0), .second, .val (.long q1), .second, .val (.int q2), .val (.int q3), .val (.int v1), .val (.long v19), .second, .val (.long q0), .second, .unset, .unset, .unset] [(.int q3), (.long (q1 + v19))])) _
        refine XS.iconst X0.here hx rfl (hb hby at_46) ?_
        show Steps p.tables e below (s₁.setTop (mkF m 47 #[.val (.long q0), .second, .val (.long q1), .second, .val (.int q2), .val (.int q3), .val (.int v1), .val (.long v19), .second, .val (.long q0), .second, .unset, .unset, .unset] [(.int (1 : Int32)), (.int q3), (.long (q1 + v19))])) _
        refine XS.ishr X0.here hx rfl (hb hby at_47) rfl ?_
        show Steps p.tables e below (s₁.setTop (mkF m 48 #[.val (.long q0), .second, .val (.long q1), .second, .val (.int q2), .val (.int q3), .val (.int v1), .val (.long v19), .second, .val (.long q0), .second, .unset, .unset, .unset] [(.int (q3 >>> ((1 : Int32) &&& 31))), (.long (q1 + v19))])) _
        refine XS.iconst X0.here hx rfl (hb hby at_48) ?_
        show Steps p.tables e below (s₁.setTop (mkF m 49 #[.val (.long q0), .second, .val (.long q1), .second, .val (.int q2), .val (.int q3), .val (.int v1), .val (.long v19), .second, .val (.long q0), .second, .unset, .unset, .unset] [(.int (3 : Int32)), (.int (q3 >>> ((1 : Int32) &&& 31))), (.long (q1 + v19))])) _
        refine XS.iand X0.here hx rfl (hb hby at_49) rfl ?_
        show Steps p.tables e below (s₁.setTop (mkF m 50 #[.val (.long q0), .second, .val (.long q1), .second, .val (.int q2), .val (.int q3), .val (.int v1), .val (.long v19), .second, .val (.long q0), .second, .unset, .unset, .unset] [(.int ((q3 >>> ((1 : Int32) &&& 31)) &&& (3 : Int32))), (.long (q1 + v19))])) _
        refine XS.i2l X0.here hx rfl (hb hby at_50) rfl ?_
        show Steps p.tables e below (s₁.setTop (mkF m 51 #[.val (.long q0), .second, .val (.long q1), .second, .val (.int q2), .val (.int q3), .val (.int v1), .val (.long v19), .second, .val (.long q0), .second, .unset, .unset, .unset] [(.long (((q3 >>> ((1 : Int32) &&& 31)) &&& (3 : Int32))).toInt64), (.long (q1 + v19))])) _
        refine XS.ladd X0.here hx rfl (hb hby at_51) rfl ?_
        show Steps p.tables e below (s₁.setTop (mkF m 52 #[.val (.long q0), .second, .val (.long q1), .second, .val (.int q2), .val (.int q3), .val (.int v1), .val (.long v19), .second, .val (.long q0), .second, .unset, .unset, .unset] [(.long ((q1 + v19) + (((q3 >>> ((1 : Int32) &&& 31)) &&& (3 : Int32))).toInt64))])) _
        refine XS.lconst X0.here hx rfl (hb hby at_52) ?_
        show Steps p.tables e below (s₁.setTop (mkF m 53 #[.val (.long q0), .second, .val (.long q1), .second, .val (.int q2), .val (.int q3), .val (.int v1), .val (.long v19), .second, .val (.long q0), .second, .unset, .unset, .unset] [(.long (1 : Int64)), (.long ((q1 + v19) + (((q3 >>> ((1 : Int32) &&& 31)) &&& (3 : Int32))).toInt64))])) _
        refine XS.lsub X0.here hx rfl (hb hby at_53) rfl ?_
        exact k
      obtain ⟨v40, hv40⟩ : ∃ z : Int64, z = (v38 - q1) := ⟨_, rfl⟩
      have pre41 : ∀ t, Steps p.tables e below (s₁.setTop (mkF m 60 #[.val (.long q0), .second, .val (.long q1), .second, .val (.int q2), .val (.int q3), .val (.int v1), .val (.long v19), .second, .val (.long v38), .second, .unset, .unset, .unset] [(.long v40)])) t → Steps p.tables e below (s₁.setTop (entryFrame m #[(.long q0), (.long q1), (.int q2), (.int q3)] maxLocals)) t := by
        rw [hv40]
        intro t k
        refine pre39 t ?_
        show Steps p.tables e below (s₁.setTop (mkF m 54 #[.val (.long q0), .second, .val (.long q1), .second, .val (.int q2), .val (.int q3), .val (.int v1), .val (.long v19), .second, .val (.long q0), .second, .unset, .unset, .unset] [(.long v38)])) _
        refine XS.lstore X0.here hx rfl (hb hby at_54) rfl (l' := #[.val (.long q0), .second, .val (.long q1), .second, .val (.int q2), .val (.int q3), .val (.int v1), .val (.long v19), .second, .val (.long v38), .second, .unset, .unset, .unset]) rfl ?_
        show Steps p.tables e below (s₁.setTop (mkF m 56 #[.val (.long q0), .second, .val (.long q1), .second, .val (.int q2), .val (.int q3), .val (.int v1), .val (.long v19), .second, .val (.long v38), .second, .unset, .unset, .unset] [])) _
        refine XS.lload X0.here hx rfl (hb hby at_56) rfl ?_
        show Steps p.tables e below (s₁.setTop (mkF m 58 #[.val (.long q0), .second, .val (.long q1), .second, .val (.int q2), .val (.int q3), .val (.int v1), .val (.long v19), .second, .val (.long v38), .second, .unset, .unset, .unset] [(.long v38)])) _
        refine XS.lloadN X0.here hx rfl (hb hby at_58) rfl ?_
        show Steps p.tables e below (s₁.setTop (mkF m 59 #[.val (.long q0), .second, .val (.long q1), .second, .val (.int q2), .val (.int q3), .val (.int v1), .val (.long v19), .second, .val (.long v38), .second, .unset, .unset, .unset] [(.long q1), (.long v38)])) _
        refine XS.lsub X0.here hx rfl (hb hby at_59) rfl ?_
        exact k
      have pre42 : ∀ t, Steps p.tables e below (s₁.setTop (mkF m 73 #[.val (.long q0), .second, .val (.long q1), .second, .val (.int q2), .val (.int q3), .val (.int v1), .val (.long v19), .second, .val (.long v38), .second, .val (.long v40), .second, .unset] [(.int (lcmpW v40 (0 : Int64)))])) t → Steps p.tables e below (s₁.setTop (entryFrame m #[(.long q0), (.long q1), (.int q2), (.int q3)] maxLocals)) t := by
        intro t k
        refine pre41 t ?_
        show Steps p.tables e below (s₁.setTop (mkF m 60 #[.val (.long q0), .second, .val (.long q1), .second, .val (.int q2), .val (.int q3), .val (.int v1), .val (.long v19), .second, .val (.long v38), .second, .unset, .unset, .unset] [(.long v40)])) _
        refine XS.lstore X0.here hx rfl (hb hby at_60) rfl (l' := #[.val (.long q0), .second, .val (.long q1), .second, .val (.int q2), .val (.int q3), .val (.int v1), .val (.long v19), .second, .val (.long v38), .second, .val (.long v40), .second, .unset]) rfl ?_
        show Steps p.tables e below (s₁.setTop (mkF m 62 #[.val (.long q0), .second, .val (.long q1), .second, .val (.int q2), .val (.int q3), .val (.int v1), .val (.long v19), .second, .val (.long v38), .second, .val (.long v40), .second, .unset] [])) _
        refine XS.iload X0.here hx rfl (hb hby at_62) rfl ?_
        show Steps p.tables e below (s₁.setTop (mkF m 64 #[.val (.long q0), .second, .val (.long q1), .second, .val (.int q2), .val (.int q3), .val (.int v1), .val (.long v19), .second, .val (.long v38), .second, .val (.long v40), .second, .unset] [(.int v1)])) _
        refine XS.bipush X0.here hx rfl (hb hby at_64) ?_
        show Steps p.tables e below (s₁.setTop (mkF m 66 #[.val (.long q0), .second, .val (.long q1), .second, .val (.int q2), .val (.int q3), .val (.int v1), .val (.long v19), .second, .val (.long v38), .second, .val (.long v40), .second, .unset] [(.int (64 : Int32)), (.int v1)])) _
        refine XS.icmpNo X0.here hx rfl (hb hby at_66) rfl ((feq c4).1) ?_
        show Steps p.tables e below (s₁.setTop (mkF m 69 #[.val (.long q0), .second, .val (.long q1), .second, .val (.int q2), .val (.int q3), .val (.int v1), .val (.long v19), .second, .val (.long v38), .second, .val (.long v40), .second, .unset] [])) _
        refine XS.lload X0.here hx rfl (hb hby at_69) rfl ?_
        show Steps p.tables e below (s₁.setTop (mkF m 71 #[.val (.long q0), .second, .val (.long q1), .second, .val (.int q2), .val (.int q3), .val (.int v1), .val (.long v19), .second, .val (.long v38), .second, .val (.long v40), .second, .unset] [(.long v40)])) _
        refine XS.lconst X0.here hx rfl (hb hby at_71) ?_
        show Steps p.tables e below (s₁.setTop (mkF m 72 #[.val (.long q0), .second, .val (.long q1), .second, .val (.int q2), .val (.int q3), .val (.int v1), .val (.long v19), .second, .val (.long v38), .second, .val (.long v40), .second, .unset] [(.long (0 : Int64)), (.long v40)])) _
        refine XS.lcmp X0.here hx rfl (hb hby at_72) rfl ?_
        exact k
      by_cases c43 : v40 < (0 : Int64)
      · obtain ⟨_, _, ⟨T44, L44, k44, n44⟩, -, X44, ⟨Lc44, hQ44, l44, y44, z44⟩, st44⟩ := Jvm.LawKit.callS X0 hx (y := (⟨"quotidian/Modular", "isWord", "(JJJ)Z"⟩ : MethodName)) hown (mvT hZ (hw _ (List.mem_of_getElem? (i := 0) rfl))) (mvT hZ (hw _ (List.mem_of_getElem? (i := 1) rfl))) (mvT hZ (hw _ (List.mem_of_getElem? (i := 2) rfl))) (mvT hZ (hw _ (List.mem_of_getElem? (i := 3) rfl))) (by decide) (backOf (W := 0) (rm1 l Z a0 hw [] v38 q1 v19  h0 n0 Z0 ) hZ (hw _ (List.mem_of_getElem? (i := 3) rfl)) (hw _ (List.mem_of_getElem? (i := 2) rfl)) (by decide) (by decide)) (g := (mkF m 96 #[.val (.long q0), .second, .val (.long q1), .second, .val (.int q2), .val (.int q3), .val (.int v1), .val (.long v19), .second, .val (.long v38), .second, .val (.long v40), .second, .val (.int (0 : Int32))] [(.long v19), (.long q1), (.long v38)])) rfl (by rw [hml]; rfl) (argsL := [(.long v38), (.long q1), (.long v19)]) (rest := []) (lenOf pd_3 rfl) rfl (by show 2 * 0 + _ ≤ _; exact Nat.le_of_eq rfl) (hb hby at_96) (fun _ _ => ⟨rfl, e0, (by decide : 0 + 0 ≤ _), (by decide : 0 + 0 ≤ _)⟩)
        dsimp only [Pt.U, Pt.locs, Pt.cells, Pt.slots] at X44 l44 y44 z44 st44 hQ44
        subst l44 y44 z44
        obtain ⟨rfl, N44q, e44⟩ := hQ44
        have N44 := Fr.app N0 N44q
        have pre45 : ∀ t, Steps p.tables e below (T44.setTop (mkF m 101 #[.val (.long q0), .second, .val (.long q1), .second, .val (.int q2), .val (.int q3), .val (.int v1), .val (.long v19), .second, .val (.long v38), .second, .val (.long v40), .second, .val (.int (0 : Int32))] [(.int (0 : Int32)), (.int (own_f1 v38 q1 v19))])) t → Steps p.tables e below (s₁.setTop (entryFrame m #[(.long q0), (.long q1), (.int q2), (.int q3)] maxLocals)) t := by
          intro t k
          refine pre42 t ?_
          show Steps p.tables e below (s₁.setTop (mkF m 73 #[.val (.long q0), .second, .val (.long q1), .second, .val (.int q2), .val (.int q3), .val (.int v1), .val (.long v19), .second, .val (.long v38), .second, .val (.long v40), .second, .unset] [(.int (lcmpW v40 (0 : Int64)))])) _
          refine XS.ifYes X0.here hx rfl (pc0 := 73) (pc' := 88) rfl (hb hby at_73) rfl ((if0 _ _).trans (tlt ((lw_lt v40 (0 : Int64)).mpr c43)).1) (by decide) (by decide) ?_
          show Steps p.tables e below (s₁.setTop (mkF m 88 #[.val (.long q0), .second, .val (.long q1), .second, .val (.int q2), .val (.int q3), .val (.int v1), .val (.long v19), .second, .val (.long v38), .second, .val (.long v40), .second, .unset] [])) _
          refine XS.iconst X0.here hx rfl (hb hby at_88) ?_
          show Steps p.tables e below (s₁.setTop (mkF m 89 #[.val (.long q0), .second, .val (.long q1), .second, .val (.int q2), .val (.int q3), .val (.int v1), .val (.long v19), .second, .val (.long v38), .second, .val (.long v40), .second, .unset] [(.int (0 : Int32))])) _
          refine XS.istore X0.here hx rfl (hb hby at_89) rfl (l' := #[.val (.long q0), .second, .val (.long q1), .second, .val (.int q2), .val (.int q3), .val (.int v1), .val (.long v19), .second, .val (.long v38), .second, .val (.long v40), .second, .val (.int (0 : Int32))]) rfl ?_
          show Steps p.tables e below (s₁.setTop (mkF m 91 #[.val (.long q0), .second, .val (.long q1), .second, .val (.int q2), .val (.int q3), .val (.int v1), .val (.long v19), .second, .val (.long v38), .second, .val (.long v40), .second, .val (.int (0 : Int32))] [])) _
          refine XS.lload X0.here hx rfl (hb hby at_91) rfl ?_
          show Steps p.tables e below (s₁.setTop (mkF m 93 #[.val (.long q0), .second, .val (.long q1), .second, .val (.int q2), .val (.int q3), .val (.int v1), .val (.long v19), .second, .val (.long v38), .second, .val (.long v40), .second, .val (.int (0 : Int32))] [(.long v38)])) _
          refine XS.lloadN X0.here hx rfl (hb hby at_93) rfl ?_
          show Steps p.tables e below (s₁.setTop (mkF m 94 #[.val (.long q0), .second, .val (.long q1), .second, .val (.int q2), .val (.int q3), .val (.int v1), .val (.long v19), .second, .val (.long v38), .second, .val (.long v40), .second, .val (.int (0 : Int32))] [(.long q1), (.long v38)])) _
          refine XS.lload X0.here hx rfl (hb hby at_94) rfl ?_
          show Steps p.tables e below (s₁.setTop (mkF m 96 #[.val (.long q0), .second, .val (.long q1), .second, .val (.int q2), .val (.int q3), .val (.int v1), .val (.long v19), .second, .val (.long v38), .second, .val (.long v40), .second, .val (.int (0 : Int32))] [(.long v19), (.long q1), (.long v38)])) _
          refine st44 _ ?_
          show Steps p.tables e below (T44.setTop (mkF m 99 #[.val (.long q0), .second, .val (.long q1), .second, .val (.int q2), .val (.int q3), .val (.int v1), .val (.long v19), .second, .val (.long v38), .second, .val (.long v40), .second, .val (.int (0 : Int32))] [(.int (own_f1 v38 q1 v19))])) _
          refine XS.iload X44.here hx rfl (hb hby at_99) rfl ?_
          exact k
        by_cases c46 : (own_f1 v38 q1 v19) = (0 : Int32)
        · obtain ⟨fs, hr, hrun, hended, hW, hsame⟩ := X44.leave (v := some (.int (1 : Int32))) (fun h => by rw [Bd.returns] at h; cases h) hlk
          refine ⟨_, _, pre45 _ ?_, hrun, hended, _, _, rfl, ?_, ⟨_, rfl⟩, hW, hsame.mono (by decide) (by decide)⟩
          · show Steps p.tables e below (T44.setTop (mkF m 101 #[.val (.long q0), .second, .val (.long q1), .second, .val (.int q2), .val (.int q3), .val (.int v1), .val (.long v19), .second, .val (.long v38), .second, .val (.long v40), .second, .val (.int (0 : Int32))] [(.int (0 : Int32)), (.int (own_f1 v38 q1 v19))])) _
            refine XS.icmpNo X44.here hx rfl (hb hby at_101) rfl ((teq c46).2) ?_
            show Steps p.tables e below (T44.setTop (mkF m 104 #[.val (.long q0), .second, .val (.long q1), .second, .val (.int q2), .val (.int q3), .val (.int v1), .val (.long v19), .second, .val (.long v38), .second, .val (.long v40), .second, .val (.int (0 : Int32))] [])) _
            refine XS.iconst X44.here hx rfl (hb hby at_104) ?_
            show Steps p.tables e below (T44.setTop (mkF m 105 #[.val (.long q0), .second, .val (.long q1), .second, .val (.int q2), .val (.int q3), .val (.int v1), .val (.long v19), .second, .val (.long v38), .second, .val (.long v40), .second, .val (.int (0 : Int32))] [(.int (1 : Int32))])) _
            refine XS.goto X44.here hx rfl (pc0 := 105) (pc' := 109) rfl (hb hby at_105) (by decide) (by decide) ?_
            show Steps p.tables e below (T44.setTop (mkF m 109 #[.val (.long q0), .second, .val (.long q1), .second, .val (.int q2), .val (.int q3), .val (.int v1), .val (.long v19), .second, .val (.long v38), .second, .val (.long v40), .second, .val (.int (0 : Int32))] [(.int (1 : Int32))])) _
            exact retN X44 hx (t := .boolean) Bd.returns (by simp) (hb hby at_109) hr
          · show Q0 Z q0 q1 q2 q3 h0 n0 _ T44.heap _
            rw [e44]
            exact ⟨by have w_hv40 := hv40.symm; subst w_hv40; have w_hv38 := hv38.symm; subst w_hv38; have w_hv19 := hv19.symm; subst w_hv19; have w_hv1 := hv1.symm; subst w_hv1; simp only [own_f0, if_neg c4, if_neg c22, if_pos c43, if_pos c46], N44⟩
        · obtain ⟨fs, hr, hrun, hended, hW, hsame⟩ := X44.leave (v := some (.int (0 : Int32))) (fun h => by rw [Bd.returns] at h; cases h) hlk
          refine ⟨_, _, pre45 _ ?_, hrun, hended, _, _, rfl, ?_, ⟨_, rfl⟩, hW, hsame.mono (by decide) (by decide)⟩
          · show Steps p.tables e below (T44.setTop (mkF m 101 #[.val (.long q0), .second, .val (.long q1), .second, .val (.int q2), .val (.int q3), .val (.int v1), .val (.long v19), .second, .val (.long v38), .second, .val (.long v40), .second, .val (.int (0 : Int32))] [(.int (0 : Int32)), (.int (own_f1 v38 q1 v19))])) _
            refine XS.icmpYes X44.here hx rfl (pc0 := 101) (pc' := 108) rfl (hb hby at_101) rfl ((feq c46).2) (by decide) (by decide) ?_
            show Steps p.tables e below (T44.setTop (mkF m 108 #[.val (.long q0), .second, .val (.long q1), .second, .val (.int q2), .val (.int q3), .val (.int v1), .val (.long v19), .second, .val (.long v38), .second, .val (.long v40), .second, .val (.int (0 : Int32))] [])) _
            refine XS.iconst X44.here hx rfl (hb hby at_108) ?_
            show Steps p.tables e below (T44.setTop (mkF m 109 #[.val (.long q0), .second, .val (.long q1), .second, .val (.int q2), .val (.int q3), .val (.int v1), .val (.long v19), .second, .val (.long v38), .second, .val (.long v40), .second, .val (.int (0 : Int32))] [(.int (0 : Int32))])) _
            exact retN X44 hx (t := .boolean) Bd.returns (by simp) (hb hby at_109) hr
          · show Q0 Z q0 q1 q2 q3 h0 n0 _ T44.heap _
            rw [e44]
            exact ⟨by have w_hv40 := hv40.symm; subst w_hv40; have w_hv38 := hv38.symm; subst w_hv38; have w_hv19 := hv19.symm; subst w_hv19; have w_hv1 := hv1.symm; subst w_hv1; simp only [own_f0, if_neg c4, if_neg c22, if_pos c43, if_neg c46], N44⟩
      · have pre47 : ∀ t, Steps p.tables e below (s₁.setTop (mkF m 81 #[.val (.long q0), .second, .val (.long q1), .second, .val (.int q2), .val (.int q3), .val (.int v1), .val (.long v19), .second, .val (.long v38), .second, .val (.long v40), .second, .unset] [(.int (lcmpW v40 v19))])) t → Steps p.tables e below (s₁.setTop (entryFrame m #[(.long q0), (.long q1), (.int q2), (.int q3)] maxLocals)) t := by
          intro t k
          refine pre42 t ?_
          show Steps p.tables e below (s₁.setTop (mkF m 73 #[.val (.long q0), .second, .val (.long q1), .second, .val (.int q2), .val (.int q3), .val (.int v1), .val (.long v19), .second, .val (.long v38), .second, .val (.long v40), .second, .unset] [(.int (lcmpW v40 (0 : Int64)))])) _
          refine XS.ifNo X0.here hx rfl (hb hby at_73) rfl ((if0 _ _).trans (flt (mt (lw_lt v40 (0 : Int64)).mp c43)).1) ?_
          show Steps p.tables e below (s₁.setTop (mkF m 76 #[.val (.long q0), .second, .val (.long q1), .second, .val (.int q2), .val (.int q3), .val (.int v1), .val (.long v19), .second, .val (.long v38), .second, .val (.long v40), .second, .unset] [])) _
          refine XS.lload X0.here hx rfl (hb hby at_76) rfl ?_
          show Steps p.tables e below (s₁.setTop (mkF m 78 #[.val (.long q0), .second, .val (.long q1), .second, .val (.int q2), .val (.int q3), .val (.int v1), .val (.long v19), .second, .val (.long v38), .second, .val (.long v40), .second, .unset] [(.long v40)])) _
          refine XS.lload X0.here hx rfl (hb hby at_78) rfl ?_
          show Steps p.tables e below (s₁.setTop (mkF m 80 #[.val (.long q0), .second, .val (.long q1), .second, .val (.int q2), .val (.int q3), .val (.int v1), .val (.long v19), .second, .val (.long v38), .second, .val (.long v40), .second, .unset] [(.long v19), (.long v40)])) _
          refine XS.lcmp X0.here hx rfl (hb hby at_80) rfl ?_
          exact k
        by_cases c48 : v19 < v40
        · obtain ⟨_, _, ⟨T49, L49, k49, n49⟩, -, X49, ⟨Lc49, hQ49, l49, y49, z49⟩, st49⟩ := Jvm.LawKit.callS X0 hx (y := (⟨"quotidian/Modular", "isWord", "(JJJ)Z"⟩ : MethodName)) hown (mvT hZ (hw _ (List.mem_of_getElem? (i := 0) rfl))) (mvT hZ (hw _ (List.mem_of_getElem? (i := 1) rfl))) (mvT hZ (hw _ (List.mem_of_getElem? (i := 2) rfl))) (mvT hZ (hw _ (List.mem_of_getElem? (i := 3) rfl))) (by decide) (backOf (W := 0) (rm1 l Z a0 hw [] v38 q1 v19  h0 n0 Z0 ) hZ (hw _ (List.mem_of_getElem? (i := 3) rfl)) (hw _ (List.mem_of_getElem? (i := 2) rfl)) (by decide) (by decide)) (g := (mkF m 96 #[.val (.long q0), .second, .val (.long q1), .second, .val (.int q2), .val (.int q3), .val (.int v1), .val (.long v19), .second, .val (.long v38), .second, .val (.long v40), .second, .val (.int (0 : Int32))] [(.long v19), (.long q1), (.long v38)])) rfl (by rw [hml]; rfl) (argsL := [(.long v38), (.long q1), (.long v19)]) (rest := []) (lenOf pd_3 rfl) rfl (by show 2 * 0 + _ ≤ _; exact Nat.le_of_eq rfl) (hb hby at_96) (fun _ _ => ⟨rfl, e0, (by decide : 0 + 0 ≤ _), (by decide : 0 + 0 ≤ _)⟩)
          dsimp only [Pt.U, Pt.locs, Pt.cells, Pt.slots] at X49 l49 y49 z49 st49 hQ49
          subst l49 y49 z49
          obtain ⟨rfl, N49q, e49⟩ := hQ49
          have N49 := Fr.app N0 N49q
          have pre50 : ∀ t, Steps p.tables e below (T49.setTop (mkF m 101 #[.val (.long q0), .second, .val (.long q1), .second, .val (.int q2), .val (.int q3), .val (.int v1), .val (.long v19), .second, .val (.long v38), .second, .val (.long v40), .second, .val (.int (0 : Int32))] [(.int (0 : Int32)), (.int (own_f1 v38 q1 v19))])) t → Steps p.tables e below (s₁.setTop (entryFrame m #[(.long q0), (.long q1), (.int q2), (.int q3)] maxLocals)) t := by
            intro t k
            refine pre47 t ?_
            show Steps p.tables e below (s₁.setTop (mkF m 81 #[.val (.long q0), .second, .val (.long q1), .second, .val (.int q2), .val (.int q3), .val (.int v1), .val (.long v19), .second, .val (.long v38), .second, .val (.long v40), .second, .unset] [(.int (lcmpW v40 v19))])) _
            refine XS.ifYes X0.here hx rfl (pc0 := 81) (pc' := 88) rfl (hb hby at_81) rfl ((if0 _ _).trans (tlt ((lw_gt v40 v19).mpr c48)).2.2.1) (by decide) (by decide) ?_
            show Steps p.tables e below (s₁.setTop (mkF m 88 #[.val (.long q0), .second, .val (.long q1), .second, .val (.int q2), .val (.int q3), .val (.int v1), .val (.long v19), .second, .val (.long v38), .second, .val (.long v40), .second, .unset] [])) _
            refine XS.iconst X0.here hx rfl (hb hby at_88) ?_
            show Steps p.tables e below (s₁.setTop (mkF m 89 #[.val (.long q0), .second, .val (.long q1), .second, .val (.int q2), .val (.int q3), .val (.int v1), .val (.long v19), .second, .val (.long v38), .second, .val (.long v40), .second, .unset] [(.int (0 : Int32))])) _
            refine XS.istore X0.here hx rfl (hb hby at_89) rfl (l' := #[.val (.long q0), .second, .val (.long q1), .second, .val (.int q2), .val (.int q3), .val (.int v1), .val (.long v19), .second, .val (.long v38), .second, .val (.long v40), .second, .val (.int (0 : Int32))]) rfl ?_
            show Steps p.tables e below (s₁.setTop (mkF m 91 #[.val (.long q0), .second, .val (.long q1), .second, .val (.int q2), .val (.int q3), .val (.int v1), .val (.long v19), .second, .val (.long v38), .second, .val (.long v40), .second, .val (.int (0 : Int32))] [])) _
            refine XS.lload X0.here hx rfl (hb hby at_91) rfl ?_
            show Steps p.tables e below (s₁.setTop (mkF m 93 #[.val (.long q0), .second, .val (.long q1), .second, .val (.int q2), .val (.int q3), .val (.int v1), .val (.long v19), .second, .val (.long v38), .second, .val (.long v40), .second, .val (.int (0 : Int32))] [(.long v38)])) _
            refine XS.lloadN X0.here hx rfl (hb hby at_93) rfl ?_
            show Steps p.tables e below (s₁.setTop (mkF m 94 #[.val (.long q0), .second, .val (.long q1), .second, .val (.int q2), .val (.int q3), .val (.int v1), .val (.long v19), .second, .val (.long v38), .second, .val (.long v40), .second, .val (.int (0 : Int32))] [(.long q1), (.long v38)])) _
            refine XS.lload X0.here hx rfl (hb hby at_94) rfl ?_
            show Steps p.tables e below (s₁.setTop (mkF m 96 #[.val (.long q0), .second, .val (.long q1), .second, .val (.int q2), .val (.int q3), .val (.int v1), .val (.long v19), .second, .val (.long v38), .second, .val (.long v40), .second, .val (.int (0 : Int32))] [(.long v19), (.long q1), (.long v38)])) _
            refine st49 _ ?_
            show Steps p.tables e below (T49.setTop (mkF m 99 #[.val (.long q0), .second, .val (.long q1), .second, .val (.int q2), .val (.int q3), .val (.int v1), .val (.long v19), .second, .val (.long v38), .second, .val (.long v40), .second, .val (.int (0 : Int32))] [(.int (own_f1 v38 q1 v19))])) _
            refine XS.iload X49.here hx rfl (hb hby at_99) rfl ?_
            exact k
          by_cases c51 : (own_f1 v38 q1 v19) = (0 : Int32)
          · obtain ⟨fs, hr, hrun, hended, hW, hsame⟩ := X49.leave (v := some (.int (1 : Int32))) (fun h => by rw [Bd.returns] at h; cases h) hlk
            refine ⟨_, _, pre50 _ ?_, hrun, hended, _, _, rfl, ?_, ⟨_, rfl⟩, hW, hsame.mono (by decide) (by decide)⟩
            · show Steps p.tables e below (T49.setTop (mkF m 101 #[.val (.long q0), .second, .val (.long q1), .second, .val (.int q2), .val (.int q3), .val (.int v1), .val (.long v19), .second, .val (.long v38), .second, .val (.long v40), .second, .val (.int (0 : Int32))] [(.int (0 : Int32)), (.int (own_f1 v38 q1 v19))])) _
              refine XS.icmpNo X49.here hx rfl (hb hby at_101) rfl ((teq c51).2) ?_
              show Steps p.tables e below (T49.setTop (mkF m 104 #[.val (.long q0), .second, .val (.long q1), .second, .val (.int q2), .val (.int q3), .val (.int v1), .val (.long v19), .second, .val (.long v38), .second, .val (.long v40), .second, .val (.int (0 : Int32))] [])) _
              refine XS.iconst X49.here hx rfl (hb hby at_104) ?_
              show Steps p.tables e below (T49.setTop (mkF m 105 #[.val (.long q0), .second, .val (.long q1), .second, .val (.int q2), .val (.int q3), .val (.int v1), .val (.long v19), .second, .val (.long v38), .second, .val (.long v40), .second, .val (.int (0 : Int32))] [(.int (1 : Int32))])) _
              refine XS.goto X49.here hx rfl (pc0 := 105) (pc' := 109) rfl (hb hby at_105) (by decide) (by decide) ?_
              show Steps p.tables e below (T49.setTop (mkF m 109 #[.val (.long q0), .second, .val (.long q1), .second, .val (.int q2), .val (.int q3), .val (.int v1), .val (.long v19), .second, .val (.long v38), .second, .val (.long v40), .second, .val (.int (0 : Int32))] [(.int (1 : Int32))])) _
              exact retN X49 hx (t := .boolean) Bd.returns (by simp) (hb hby at_109) hr
            · show Q0 Z q0 q1 q2 q3 h0 n0 _ T49.heap _
              rw [e49]
              exact ⟨by have w_hv40 := hv40.symm; subst w_hv40; have w_hv38 := hv38.symm; subst w_hv38; have w_hv19 := hv19.symm; subst w_hv19; have w_hv1 := hv1.symm; subst w_hv1; simp only [own_f0, if_neg c4, if_neg c22, if_neg c43, if_pos c48, if_pos c51], N49⟩
          · obtain ⟨fs, hr, hrun, hended, hW, hsame⟩ := X49.leave (v := some (.int (0 : Int32))) (fun h => by rw [Bd.returns] at h; cases h) hlk
            refine ⟨_, _, pre50 _ ?_, hrun, hended, _, _, rfl, ?_, ⟨_, rfl⟩, hW, hsame.mono (by decide) (by decide)⟩
            · show Steps p.tables e below (T49.setTop (mkF m 101 #[.val (.long q0), .second, .val (.long q1), .second, .val (.int q2), .val (.int q3), .val (.int v1), .val (.long v19), .second, .val (.long v38), .second, .val (.long v40), .second, .val (.int (0 : Int32))] [(.int (0 : Int32)), (.int (own_f1 v38 q1 v19))])) _
              refine XS.icmpYes X49.here hx rfl (pc0 := 101) (pc' := 108) rfl (hb hby at_101) rfl ((feq c51).2) (by decide) (by decide) ?_
              show Steps p.tables e below (T49.setTop (mkF m 108 #[.val (.long q0), .second, .val (.long q1), .second, .val (.int q2), .val (.int q3), .val (.int v1), .val (.long v19), .second, .val (.long v38), .second, .val (.long v40), .second, .val (.int (0 : Int32))] [])) _
              refine XS.iconst X49.here hx rfl (hb hby at_108) ?_
              show Steps p.tables e below (T49.setTop (mkF m 109 #[.val (.long q0), .second, .val (.long q1), .second, .val (.int q2), .val (.int q3), .val (.int v1), .val (.long v19), .second, .val (.long v38), .second, .val (.long v40), .second, .val (.int (0 : Int32))] [(.int (0 : Int32))])) _
              exact retN X49 hx (t := .boolean) Bd.returns (by simp) (hb hby at_109) hr
            · show Q0 Z q0 q1 q2 q3 h0 n0 _ T49.heap _
              rw [e49]
              exact ⟨by have w_hv40 := hv40.symm; subst w_hv40; have w_hv38 := hv38.symm; subst w_hv38; have w_hv19 := hv19.symm; subst w_hv19; have w_hv1 := hv1.symm; subst w_hv1; simp only [own_f0, if_neg c4, if_neg c22, if_neg c43, if_pos c48, if_neg c51], N49⟩
        · obtain ⟨_, _, ⟨T52, L52, k52, n52⟩, -, X52, ⟨Lc52, hQ52, l52, y52, z52⟩, st52⟩ := Jvm.LawKit.callS X0 hx (y := (⟨"quotidian/Modular", "isWord", "(JJJ)Z"⟩ : MethodName)) hown (mvT hZ (hw _ (List.mem_of_getElem? (i := 0) rfl))) (mvT hZ (hw _ (List.mem_of_getElem? (i := 1) rfl))) (mvT hZ (hw _ (List.mem_of_getElem? (i := 2) rfl))) (mvT hZ (hw _ (List.mem_of_getElem? (i := 3) rfl))) (by decide) (backOf (W := 0) (rm1 l Z a0 hw [] v38 q1 v19  h0 n0 Z0 ) hZ (hw _ (List.mem_of_getElem? (i := 3) rfl)) (hw _ (List.mem_of_getElem? (i := 2) rfl)) (by decide) (by decide)) (g := (mkF m 96 #[.val (.long q0), .second, .val (.long q1), .second, .val (.int q2), .val (.int q3), .val (.int v1), .val (.long v19), .second, .val (.long v38), .second, .val (.long v40), .second, .val (.int (1 : Int32))] [(.long v19), (.long q1), (.long v38)])) rfl (by rw [hml]; rfl) (argsL := [(.long v38), (.long q1), (.long v19)]) (rest := []) (lenOf pd_3 rfl) rfl (by show 2 * 0 + _ ≤ _; exact Nat.le_of_eq rfl) (hb hby at_96) (fun _ _ => ⟨rfl, e0, (by decide : 0 + 0 ≤ _), (by decide : 0 + 0 ≤ _)⟩)
          dsimp only [Pt.U, Pt.locs, Pt.cells, Pt.slots] at X52 l52 y52 z52 st52 hQ52
          subst l52 y52 z52
          obtain ⟨rfl, N52q, e52⟩ := hQ52
          have N52 := Fr.app N0 N52q
          have pre53 : ∀ t, Steps p.tables e below (T52.setTop (mkF m 101 #[.val (.long q0), .second, .val (.long q1), .second, .val (.int q2), .val (.int q3), .val (.int v1), .val (.long v19), .second, .val (.long v38), .second, .val (.long v40), .second, .val (.int (1 : Int32))] [(.int (1 : Int32)), (.int (own_f1 v38 q1 v19))])) t → Steps p.tables e below (s₁.setTop (entryFrame m #[(.long q0), (.long q1), (.int q2), (.int q3)] maxLocals)) t := by
            intro t k
            refine pre47 t ?_
            show Steps p.tables e below (s₁.setTop (mkF m 81 #[.val (.long q0), .second, .val (.long q1), .second, .val (.int q2), .val (.int q3), .val (.int v1), .val (.long v19), .second, .val (.long v38), .second, .val (.long v40), .second, .unset] [(.int (lcmpW v40 v19))])) _
            refine XS.ifNo X0.here hx rfl (hb hby at_81) rfl ((if0 _ _).trans (flt (mt (lw_gt v40 v19).mp c48)).2.2.1) ?_
            show Steps p.tables e below (s₁.setTop (mkF m 84 #[.val (.long q0), .second, .val (.long q1), .second, .val (.int q2), .val (.int q3), .val (.int v1), .val (.long v19), .second, .val (.long v38), .second, .val (.long v40), .second, .unset] [])) _
            refine XS.iconst X0.here hx rfl (hb hby at_84) ?_
            show Steps p.tables e below (s₁.setTop (mkF m 85 #[.val (.long q0), .second, .val (.long q1), .second, .val (.int q2), .val (.int q3), .val (.int v1), .val (.long v19), .second, .val (.long v38), .second, .val (.long v40), .second, .unset] [(.int (1 : Int32))])) _
            refine XS.goto X0.here hx rfl (pc0 := 85) (pc' := 89) rfl (hb hby at_85) (by decide) (by decide) ?_
            show Steps p.tables e below (s₁.setTop (mkF m 89 #[.val (.long q0), .second, .val (.long q1), .second, .val (.int q2), .val (.int q3), .val (.int v1), .val (.long v19), .second, .val (.long v38), .second, .val (.long v40), .second, .unset] [(.int (1 : Int32))])) _
            refine XS.istore X0.here hx rfl (hb hby at_89) rfl (l' := #[.val (.long q0), .second, .val (.long q1), .second, .val (.int q2), .val (.int q3), .val (.int v1), .val (.long v19), .second, .val (.long v38), .second, .val (.long v40), .second, .val (.int (1 : Int32))]) rfl ?_
            show Steps p.tables e below (s₁.setTop (mkF m 91 #[.val (.long q0), .second, .val (.long q1), .second, .val (.int q2), .val (.int q3), .val (.int v1), .val (.long v19), .second, .val (.long v38), .second, .val (.long v40), .second, .val (.int (1 : Int32))] [])) _
            refine XS.lload X0.here hx rfl (hb hby at_91) rfl ?_
            show Steps p.tables e below (s₁.setTop (mkF m 93 #[.val (.long q0), .second, .val (.long q1), .second, .val (.int q2), .val (.int q3), .val (.int v1), .val (.long v19), .second, .val (.long v38), .second, .val (.long v40), .second, .val (.int (1 : Int32))] [(.long v38)])) _
            refine XS.lloadN X0.here hx rfl (hb hby at_93) rfl ?_
            show Steps p.tables e below (s₁.setTop (mkF m 94 #[.val (.long q0), .second, .val (.long q1), .second, .val (.int q2), .val (.int q3), .val (.int v1), .val (.long v19), .second, .val (.long v38), .second, .val (.long v40), .second, .val (.int (1 : Int32))] [(.long q1), (.long v38)])) _
            refine XS.lload X0.here hx rfl (hb hby at_94) rfl ?_
            show Steps p.tables e below (s₁.setTop (mkF m 96 #[.val (.long q0), .second, .val (.long q1), .second, .val (.int q2), .val (.int q3), .val (.int v1), .val (.long v19), .second, .val (.long v38), .second, .val (.long v40), .second, .val (.int (1 : Int32))] [(.long v19), (.long q1), (.long v38)])) _
            refine st52 _ ?_
            show Steps p.tables e below (T52.setTop (mkF m 99 #[.val (.long q0), .second, .val (.long q1), .second, .val (.int q2), .val (.int q3), .val (.int v1), .val (.long v19), .second, .val (.long v38), .second, .val (.long v40), .second, .val (.int (1 : Int32))] [(.int (own_f1 v38 q1 v19))])) _
            refine XS.iload X52.here hx rfl (hb hby at_99) rfl ?_
            exact k
          by_cases c54 : (own_f1 v38 q1 v19) = (1 : Int32)
          · obtain ⟨fs, hr, hrun, hended, hW, hsame⟩ := X52.leave (v := some (.int (1 : Int32))) (fun h => by rw [Bd.returns] at h; cases h) hlk
            refine ⟨_, _, pre53 _ ?_, hrun, hended, _, _, rfl, ?_, ⟨_, rfl⟩, hW, hsame.mono (by decide) (by decide)⟩
            · show Steps p.tables e below (T52.setTop (mkF m 101 #[.val (.long q0), .second, .val (.long q1), .second, .val (.int q2), .val (.int q3), .val (.int v1), .val (.long v19), .second, .val (.long v38), .second, .val (.long v40), .second, .val (.int (1 : Int32))] [(.int (1 : Int32)), (.int (own_f1 v38 q1 v19))])) _
              refine XS.icmpNo X52.here hx rfl (hb hby at_101) rfl ((teq c54).2) ?_
              show Steps p.tables e below (T52.setTop (mkF m 104 #[.val (.long q0), .second, .val (.long q1), .second, .val (.int q2), .val (.int q3), .val (.int v1), .val (.long v19), .second, .val (.long v38), .second, .val (.long v40), .second, .val (.int (1 : Int32))] [])) _
              refine XS.iconst X52.here hx rfl (hb hby at_104) ?_
              show Steps p.tables e below (T52.setTop (mkF m 105 #[.val (.long q0), .second, .val (.long q1), .second, .val (.int q2), .val (.int q3), .val (.int v1), .val (.long v19), .second, .val (.long v38), .second, .val (.long v40), .second, .val (.int (1 : Int32))] [(.int (1 : Int32))])) _
              refine XS.goto X52.here hx rfl (pc0 := 105) (pc' := 109) rfl (hb hby at_105) (by decide) (by decide) ?_
              show Steps p.tables e below (T52.setTop (mkF m 109 #[.val (.long q0), .second, .val (.long q1), .second, .val (.int q2), .val (.int q3), .val (.int v1), .val (.long v19), .second, .val (.long v38), .second, .val (.long v40), .second, .val (.int (1 : Int32))] [(.int (1 : Int32))])) _
              exact retN X52 hx (t := .boolean) Bd.returns (by simp) (hb hby at_109) hr
            · show Q0 Z q0 q1 q2 q3 h0 n0 _ T52.heap _
              rw [e52]
              exact ⟨by have w_hv40 := hv40.symm; subst w_hv40; have w_hv38 := hv38.symm; subst w_hv38; have w_hv19 := hv19.symm; subst w_hv19; have w_hv1 := hv1.symm; subst w_hv1; simp only [own_f0, if_neg c4, if_neg c22, if_neg c43, if_neg c48, if_pos c54], N52⟩
          · obtain ⟨fs, hr, hrun, hended, hW, hsame⟩ := X52.leave (v := some (.int (0 : Int32))) (fun h => by rw [Bd.returns] at h; cases h) hlk
            refine ⟨_, _, pre53 _ ?_, hrun, hended, _, _, rfl, ?_, ⟨_, rfl⟩, hW, hsame.mono (by decide) (by decide)⟩
            · show Steps p.tables e below (T52.setTop (mkF m 101 #[.val (.long q0), .second, .val (.long q1), .second, .val (.int q2), .val (.int q3), .val (.int v1), .val (.long v19), .second, .val (.long v38), .second, .val (.long v40), .second, .val (.int (1 : Int32))] [(.int (1 : Int32)), (.int (own_f1 v38 q1 v19))])) _
              refine XS.icmpYes X52.here hx rfl (pc0 := 101) (pc' := 108) rfl (hb hby at_101) rfl ((feq c54).2) (by decide) (by decide) ?_
              show Steps p.tables e below (T52.setTop (mkF m 108 #[.val (.long q0), .second, .val (.long q1), .second, .val (.int q2), .val (.int q3), .val (.int v1), .val (.long v19), .second, .val (.long v38), .second, .val (.long v40), .second, .val (.int (1 : Int32))] [])) _
              refine XS.iconst X52.here hx rfl (hb hby at_108) ?_
              show Steps p.tables e below (T52.setTop (mkF m 109 #[.val (.long q0), .second, .val (.long q1), .second, .val (.int q2), .val (.int q3), .val (.int v1), .val (.long v19), .second, .val (.long v38), .second, .val (.long v40), .second, .val (.int (1 : Int32))] [(.int (0 : Int32))])) _
              exact retN X52 hx (t := .boolean) Bd.returns (by simp) (hb hby at_109) hr
            · show Q0 Z q0 q1 q2 q3 h0 n0 _ T52.heap _
              rw [e52]
              exact ⟨by have w_hv40 := hv40.symm; subst w_hv40; have w_hv38 := hv38.symm; subst w_hv38; have w_hv19 := hv19.symm; subst w_hv19; have w_hv1 := hv1.symm; subst w_hv1; simp only [own_f0, if_neg c4, if_neg c22, if_neg c43, if_neg c48, if_neg c54], N52⟩
theorem own_63 (x : Int32) : ∃ k : Fin 64, x &&& 63 = Int32.ofNat k.1 := by
  have h : (x &&& 63).toBitVec.toNat < 64 := by
    have e : (63 : Int32).toBitVec.toNat = 63 := by decide
    rw [Int32.toBitVec_and, BitVec.toNat_and, e]
    exact Nat.lt_of_le_of_lt Nat.and_le_right (by decide)
  generalize x &&& 63 = y at h
  refine ⟨⟨_, h⟩, ?_⟩
  apply Int32.toBitVec_inj.mp
  apply BitVec.eq_of_toNat_eq
  rw [Int32.toBitVec_ofNat', BitVec.toNat_ofNat]
  exact (Nat.mod_eq_of_lt (Nat.lt_of_lt_of_le h (by decide))).symm
/-- the mask of n + 1 bits, n below 63 -/
theorem own_masks : ∀ k : Fin 64, Int32.ofNat k.1 + 1 = 64 ∨ (k.1 < 63 ∧ (((1 : Int64) <<< ((Int32.ofNat k.1 + 1) &&& 0x3f).toInt64) - (1 : Int64)).toBitVec = BitVec.ofNat 64 (2 ^ (k.1 + 1) - 1)) := by decide +kernel
theorem own_not64 : ∀ k : Fin 64, k.1 < 63 → ¬ (Int32.ofNat k.1 + 1 = 64) := by decide +kernel
theorem own_word (d m : Int64) (n : Nat) (hn : n < 64) (hm : m.toBitVec = BitVec.ofNat 64 (2 ^ n - 1)) : d &&& (m ^^^ (-1 : Int64)) = 0 ↔ ¬ d < 0 ∧ ¬ m < d := by
  have h1 : (-1 : Int64).toBitVec = BitVec.allOnes 64 := by decide
  have h0 : (0 : Int64).toBitVec = 0#64 := by decide
  have hp : 2 ^ n ≤ 2 ^ 63 := Nat.pow_le_pow_right (by decide) (by omega)
  have hp1 : 0 < 2 ^ n := Nat.pow_pos (by decide)
  have hmn : m.toBitVec.toNat = 2 ^ n - 1 := by rw [hm, BitVec.toNat_ofNat]; exact Nat.mod_eq_of_lt (by omega)
  have hmi : m.toInt = 2 ^ n - 1 := by
    rw [← Int64.toInt_toBitVec, BitVec.toInt_eq_toNat_cond, hmn, if_pos (by omega)]
    have c2 : ((2 ^ n : Nat) : Int) = (2 : Int) ^ n := by simp
    omega
  have hdl := d.toBitVec.isLt
  have key : d &&& (m ^^^ (-1 : Int64)) = 0 ↔ d.toBitVec.toNat < 2 ^ n := by
    rw [← Int64.toBitVec_inj, Int64.toBitVec_and, Int64.toBitVec_xor, h1, h0, BitVec.xor_allOnes]
    constructor
    · intro h
      have e : d.toBitVec = d.toBitVec &&& m.toBitVec := by
        apply BitVec.eq_of_getLsbD_eq
        intro i hi
        have := congrArg (fun x => x.getLsbD i) h
        simp only [BitVec.getLsbD_and, BitVec.getLsbD_not, BitVec.getLsbD_zero, hi, decide_true, Bool.true_and] at this ⊢
        revert this
        cases d.toBitVec.getLsbD i <;> cases m.toBitVec.getLsbD i <;> simp
      have := congrArg BitVec.toNat e
      rw [BitVec.toNat_and, hmn, Nat.and_two_pow_sub_one_eq_mod] at this
      rw [this]; exact Nat.mod_lt _ hp1
    · intro h
      apply BitVec.eq_of_getLsbD_eq
      intro i hi
      simp only [BitVec.getLsbD_and, BitVec.getLsbD_not, BitVec.getLsbD_zero, hi, decide_true, Bool.true_and]
      by_cases q : i < n
      · have : m.toBitVec.getLsbD i = true := by rw [BitVec.getLsbD, hmn, Nat.testBit_two_pow_sub_one]; simp [q]
        simp [this]
      · have : d.toBitVec.getLsbD i = false := by
          rw [BitVec.getLsbD]; exact Nat.testBit_lt_two_pow (Nat.lt_of_lt_of_le h (Nat.pow_le_pow_right (by decide) (by omega)))
        simp [this]
  rw [key, Int64.lt_iff_toInt_lt, Int64.lt_iff_toInt_lt, hmi]
  have e0 : (0 : Int64).toInt = 0 := by decide
  rw [e0, ← Int64.toInt_toBitVec, BitVec.toInt_eq_toNat_cond]
  have c2 : ((2 ^ n : Nat) : Int) = (2 : Int) ^ n := by simp
  split <;> omega
theorem own_all (d : Int64) : d &&& ((-1 : Int64) ^^^ (-1 : Int64)) = 0 := by
  have : (-1 : Int64) ^^^ (-1 : Int64) = 0 := by decide
  rw [this]; simp
theorem own_plain (q0 q1 : Int64) (q2 q3 : Int32) : own_f0 q0 q1 q2 q3 = 1 := by
  obtain ⟨k, hk⟩ := own_63 q2
  simp only [own_f0, hk]
  rcases own_masks k with h | ⟨h, hm⟩
  · simp only [h, if_true, own_f1, own_all, ite_self]
  · have h64 : ¬ (Int32.ofNat k.1 + 1 = 64) := own_not64 k h
    rw [if_neg h64]
    generalize (((1 : Int64) <<< ((Int32.ofNat k.1 + 1) &&& 0x3f).toInt64) - (1 : Int64)) = m at *
    have hw := fun d => own_word d m (k.1 + 1) (by omega) hm
    simp only [own_f1, hw]
    split
    · by_cases a : q0 - q1 < 0 <;> by_cases b : m < q0 - q1 <;> simp [a, b]
    · generalize (q1 + m + ((q3 >>> ((1 : Int32) &&& 31)) &&& (3 : Int32)).toInt64 - (1 : Int64)) - q1 = d
      by_cases a : d < 0 <;> by_cases b : m < d <;> simp [a, b]

set_option maxRecDepth 65536 in
set_option maxHeartbeats 40000000 in
theorem comes_1 {Post : Tables → Env → Array Value → State → Outcome → State → Prop} (hpost : ∀ tb e args s v u, (limb_1_1.after args s (.returned v) u = true ∧ limb_1_2.after args s (.returned v) u = true ∧ True) → FrameEnd s (.returned v) u (Jvm.fieldLocs frame_1_writes args s ++ Jvm.arrayLocs frame_1_arrays args s ++ Jvm.staticLocs frame_1_statics s) 0 0 → Post tb e args s (.returned v) u) :
    ArmFor flags0 classFile x code maxLocals ret World_1 tables_1 room_1 Calls_1 rest_1 Pre_1 Post := by
  intro l hfl _ _ p e ha hc hk s m args below hf hA hF happ hP
  obtain ⟨hcalls, hrest, hpre⟩ := hP
  obtain ⟨-, -, -, hnamed, -, -, -, hat⟩ := (Spec.applies_iff hf).mp happ
  obtain ⟨hg, hn⟩ := and_e (Cond.before_iff.mp (show (Jvm.Cond.and given_1 narrow_1).before args s = true from hpre))
  obtain ⟨gc, gr0⟩ := and_e hg
  obtain ⟨w0, w1, w2, w3, rfl⟩ : ∃ w0 w1 w2 w3 : Value, args = #[w0, w1, w2, w3] := by
    have hs : args.size = 4 := by simpa [Cond.value, given_1] using gc
    obtain ⟨L⟩ := args
    match L, hs with
    | [w0, w1, w2, w3], _ => exact ⟨w0, w1, w2, w3, rfl⟩
  have hw := fun d (hd : d ∈ tables_1) => atoms_spec (ws := Jvm.Cond.code x code maxLocals ret :: tables_1) hat d (List.mem_cons_of_mem _ hd)
  obtain ⟨g0, gr1⟩ := and_e gr0
  obtain ⟨i0, ei0⟩ := isL_v g0
  obtain rfl : w0 = (.long i0) := Option.some.inj ei0
  obtain ⟨g1, gr2⟩ := and_e gr1
  obtain ⟨i1, ei1⟩ := isL_v g1
  obtain rfl : w1 = (.long i1) := Option.some.inj ei1
  obtain ⟨g2, gr3⟩ := and_e gr2
  obtain ⟨i2, ei2⟩ := is_v g2
  obtain rfl : w2 = (.int i2) := Option.some.inj ei2
  obtain ⟨i3, ei3⟩ := is_v gr3
  obtain rfl : w3 = (.int i3) := Option.some.inj ei3
  obtain ⟨n, o, h1, h2, h3, _, L, rfl, ⟨hv, N⟩, hq⟩ := rm0 l s _ hw tables_1 i0 i1 i2 i3 s.heap s.heap.size (Nat.le_refl _) p e ha hc hk s m _ below hf ((Spec.applies_iff_loose hf).mp happ).1 ⟨rfl, State.Warmed39.refl s, rfl⟩ trivial
  rw [own_plain] at hv
  subst hv
  refine ⟨n, _, h1, h2, h3, hpost _ _ _ _ _ _ ⟨Cond.after_iff.mpr rfl, Cond.after_iff.mpr (eq_i res_at (Term.int_eval (1)) rfl), trivial⟩ ⟨hq.1, hq.2.1, (hq.2.2.sift fun y hy => Or.inr (N y hy)).mono (by decide) (by decide)⟩⟩
theorem main_1_1 : Claimed_1_1 := comes_1 fun _ _ _ _ _ _ h hF => ⟨h.1, hF⟩
theorem main_1_2 : Claimed_1_2 := comes_1 fun _ _ _ _ _ _ h hF => ⟨h.2.1, hF⟩
end Jvm.Pilot.@@N@@
namespace Jvm.Pilot.@@N@@
open Jvm Jvm.ClassFile Sem Op Lib Jvm.Free Jvm.Stand Jvm.Pilot.@@N@@.Jvm.D
/-! MADE BY PROGRAM (witnessworld.py) out of the Statement's table words and the real class files: 9 classes; the members and pool entries that the words name. The judged class is class 1, her method 1. -/
namespace start1
open Jvm.ClassFile
def u (s : String) : CpInfo := .utf8 (stringToUtf16 s)
/-- a pool by its gaps: so many unusable entries, then the entry; so many at the end -/
def gap : Nat → List CpInfo → List CpInfo
  | 0, r => r
  | n + 1, r => .unusable :: gap n r
def poolList (es : List (Nat × CpInfo)) (last : Nat) : List CpInfo := es.foldr (fun e r => gap e.1 (e.2 :: r)) (gap last [])
def pool (es : List (Nat × CpInfo)) (last : Nat) : Array CpInfo := ⟨poolList es last⟩
def fileOf (pool : Array CpInfo) (this : Nat) (attrs : Array Attribute := #[]) (ms : Array MethodInfo := #[]) (fl : Nat := 33) (sup : Nat := 0) (ifs : Array Nat := #[]) (fds : Array FieldInfo := #[]) : ClassFile where
  minorVersion := 0
  majorVersion := 65
  constantPool := pool
  accessFlags := fl
  thisClass := this
  superClass := sup
  interfaces := ifs
  fields := fds
  methods := ms
  attributes := attrs
def plain (name : String) (sup : Option ClassId) : Class where
  name := name
  kind := .ordinary
  loader := none
  accessFlags := 33
  super := sup
  interfaces := #[]
  cf := none
  fields := #[]
  methods := #[]
  instanceTypes := #[]
  staticTypes := #[]
  resolved := #[]
  callSites := []
  init := .initialized
  statics := none
  mirror := none

def pool0 : Array CpInfo := pool [(5, u "<init>"), (0, u "()V"), (1, .class_ 10), (1, u "java/lang/Object")] 113

def k0m0 : Method := { name := "<init>", desc := "()V", sig := { parameters := [], returnType := none }, accessFlags := 1, code := none }
/-- java/lang/Object -/
def k0 : Class := { plain "java/lang/Object" none with
  accessFlags := 33
  interfaces := #[]
  cf := some (fileOf pool0 8 #[] #[{ accessFlags := 1, nameIndex := 5, descriptorIndex := 6, attributes := #[] }] 33 0 #[] #[])
  fields := #[]
  methods := #[k0m0]
  instanceTypes := #[]
  staticTypes := #[]
  resolved := Array.replicate 124 none
  statics := none }

def pool1 : Array CpInfo := pool [(2, .class_ 4), (1, u "java/lang/Object"), (0, u "<init>"), (0, u "()V"), (0, .long 18446744073709551615), (1, .methodref 10 11), (0, .class_ 12), (0, .nameAndType 13 14), (0, u "quotidian/Modular"), (0, u "isWord"), (0, u "(JJJ)Z"), (0, .class_ 16), (0, u "quotidian/ModularIsWordPinLaw"), (2, u "law"), (0, u "(JJII)Z")] 3

def k1m0 : Method := { name := "<init>", desc := "()V", sig := { parameters := [], returnType := none }, accessFlags := 1, code := none }
def k1c1 : Code := { maxStack := 6, maxLocals := 14, code := code, exceptionTable := #[], attributes := #[] }
def k1m1 : Method := { name := "law", desc := "(JJII)Z", sig := { parameters := [.long, .long, .int, .int], returnType := some .boolean }, accessFlags := 9, code := some k1c1 }
/-- quotidian/ModularIsWordPinLaw -/
def k1 : Class := { plain "quotidian/ModularIsWordPinLaw" (some 0) with
  accessFlags := 49
  interfaces := #[]
  cf := some (fileOf pool1 15 #[] #[{ accessFlags := 1, nameIndex := 5, descriptorIndex := 6, attributes := #[] }, { accessFlags := 9, nameIndex := 19, descriptorIndex := 20, attributes := #[] }] 49 2 #[] #[])
  fields := #[]
  methods := #[k1m0, k1m1]
  instanceTypes := #[]
  staticTypes := #[]
  resolved := Array.replicate 24 none
  statics := none }

def pool2 : Array CpInfo := pool [(2, .class_ 4), (1, u "java/lang/Object"), (0, u "<init>"), (0, u "()V"), (0, .class_ 8), (0, u "quotidian/Modular"), (19, .long 18446744073709551615), (7, u "isWord"), (0, u "(JJJ)Z"), (61, u "$assertionsDisabled"), (0, u "Z"), (14, u "MIN_BITS"), (0, u "I"), (2, u "MAX_BITS")] 38

def k2m0 : Method := { name := "<init>", desc := "()V", sig := { parameters := [], returnType := none }, accessFlags := 2, code := none }
def k2c1 : Code := { maxStack := 6, maxLocals := 6, code := prog_28_method_9_code, exceptionTable := #[], attributes := #[] }
def k2m1 : Method := { name := "isWord", desc := "(JJJ)Z", sig := { parameters := [.long, .long, .long], returnType := some .boolean }, accessFlags := 8, code := some k2c1 }
/-- quotidian/Modular -/
def k2 : Class := { plain "quotidian/Modular" (some 0) with
  accessFlags := 48
  interfaces := #[]
  cf := some (fileOf pool2 7 #[] #[{ accessFlags := 2, nameIndex := 5, descriptorIndex := 6, attributes := #[] }, { accessFlags := 8, nameIndex := 36, descriptorIndex := 37, attributes := #[] }] 48 2 #[] #[{ accessFlags := 24, nameIndex := 115, descriptorIndex := 116, attributes := #[] }, { accessFlags := 24, nameIndex := 119, descriptorIndex := 116, attributes := #[] }, { accessFlags := 4120, nameIndex := 99, descriptorIndex := 100, attributes := #[] }])
  fields := #[{ name := "MIN_BITS", type := .int, accessFlags := 24, slot := 0, constantValue := 0 }, { name := "MAX_BITS", type := .int, accessFlags := 24, slot := 1, constantValue := 0 }, { name := "$assertionsDisabled", type := .boolean, accessFlags := 4120, slot := 2, constantValue := 0 }]
  methods := #[k2m0, k2m1]
  instanceTypes := #[]
  staticTypes := #[.int, .int, .boolean]
  resolved := Array.replicate 158 none
  statics := none }

def pool3 : Array CpInfo := pool [(1, u "java/lang/Cloneable"), (0, .class_ 1), (0, u "java/lang/Object"), (0, .class_ 3)] 3

/-- java/lang/Cloneable -/
def k3 : Class := { plain "java/lang/Cloneable" (some 0) with
  accessFlags := 1537
  interfaces := #[]
  cf := some (fileOf pool3 2 #[] #[] 1537 4 #[] #[])
  fields := #[]
  methods := #[]
  instanceTypes := #[]
  staticTypes := #[]
  resolved := Array.replicate 8 none
  statics := none }

def pool4 : Array CpInfo := pool [(1, u "java/io/Serializable"), (0, .class_ 1), (0, u "java/lang/Object"), (0, .class_ 3)] 3

/-- java/io/Serializable -/
def k4 : Class := { plain "java/io/Serializable" (some 0) with
  accessFlags := 1537
  interfaces := #[]
  cf := some (fileOf pool4 2 #[] #[] 1537 4 #[] #[])
  fields := #[]
  methods := #[]
  instanceTypes := #[]
  staticTypes := #[]
  resolved := Array.replicate 8 none
  statics := none }

/-- the primitive byte -/
def k5 : Class := { plain "byte" none with kind := .primitive 'B', accessFlags := 0x411 }
/-- [B -/
def k6 : Class := { plain "[B" (some 0) with kind := .array 5 .byte, interfaces := #[3, 4], accessFlags := 1041 }

/-- the primitive int -/
def k7 : Class := { plain "int" none with kind := .primitive 'I', accessFlags := 0x411 }
/-- [I -/
def k8 : Class := { plain "[I" (some 0) with kind := .array 7 .int, interfaces := #[3, 4], accessFlags := 1041 }

def heap : Heap := #[]
def classes : Array Class := #[k0, k1, k2, k3, k4, k5, k6, k7, k8]
def interned : List (Array UInt16 × Addr) := []
def slotsUsed : Nat := 0
def theMethod : MethodId := ⟨1, 1⟩
def args0 : Array Value := #[.long 5, .long 7, .int 3, .int 2]
def aboutOver (below : List Frame) : State where
  vm := { classes := classes, interned := interned.toArray }
  heap := heap
  slotsUsed := slotsUsed
  threads := #[{ frames := .invoking theMethod args0 :: below }]
def below0 : List Frame := [.native { method := ⟨0, 0⟩, args := #[] }]
def about1 : State := aboutOver below0
def p0 : Program := .bare "" "" ""
def e0 : Env := launch0.env 0 0 0
theorem w_frames : about1.frames = Frame.invoking theMethod args0 :: below0 := rfl
set_option maxRecDepth 65536 in
theorem w_args : argsFit about1.vm theMethod args0 = true := by decide +kernel
set_option maxRecDepth 65536 in
theorem w_heap : heapFits about1 = true := by decide +kernel
set_option maxRecDepth 65536 in
theorem w_runnable : about1.curStatus? = some .runnable := by decide +kernel
set_option maxRecDepth 65536 in
theorem w_alone : about1.alone = true := by decide +kernel
set_option maxRecDepth 65536 in
theorem w_named : about1.methodNamed? x = some theMethod := by decide +kernel
set_option maxRecDepth 65536 in
theorem w_hears : about1.hears theMethod below0 = true := by decide +kernel
set_option maxRecDepth 65536 in
theorem w_ripe : about1.ripe theMethod args0 below0 = true := by decide +kernel
theorem w_running : about1.status = .running := rfl
set_option maxRecDepth 65536 in
theorem w_room : about1.hasRoom e0.platform room_1 = true :=
  launch0.hasRoom_least _ room_1 (by decide +kernel) (by decide +kernel) (by decide +kernel) (by decide +kernel) (by decide +kernel) (by decide +kernel)
theorem allAtoms_all (ts : List Jvm.Cond) (a : Array Jvm.Value) (st : Jvm.State) : (allAtoms ts).before a st = ts.all (fun c => c.before a st) := by
  induction ts with
  | nil => rfl
  | cons c t ih =>
    show (Jvm.Cond.and c (allAtoms t)).before a st = _
    rw [Jvm.Cond.before_and, ih, List.all_cons]
def words1 : List Jvm.Cond := Jvm.Cond.code x code maxLocals ret :: tables_1
/-- a 'code' word, met by the world's own term for the bytes: nothing is compared byte by byte -/
theorem code_word {y : MethodName} {bytes : ByteArray} {mx : Nat} {rt : Option FieldType} {a : Array Value} {s : State} {m : MethodId} {meth : Method} {c : Code} (h1 : s.methodNamed? y = some m) (h2 : s.vm.method? m = some meth) (h3 : meth.code = some c) (h4 : c.code = bytes)
    (h5 : (c.maxLocals == mx && c.exceptionTable.isEmpty && decide (c.maxStack ≤ mostOperands) && decide (meth.sig.returnType = rt) && !meth.locks && decide (parseMethodDescriptor y.desc = some meth.sig)) = true) : (Jvm.Cond.code y bytes mx rt).before a s = true := by
  simp only [Bool.and_eq_true, beq_iff_eq, Bool.not_eq_true', decide_eq_true_eq] at h5
  obtain ⟨⟨⟨⟨⟨g1, g2⟩, g3⟩, g4⟩, g5⟩, g6⟩ := h5
  simp [Cond.before, Cond.holds, Cond.value, h1, h2, h3, h4, g1, g2, g3, g4, g5, g6]
def isCode : Jvm.Cond → Bool
  | .code _ _ _ _ => true
  | _ => false
theorem all_split {L : List Jvm.Cond} {P : Jvm.Cond → Bool} (h1 : L.all (fun c => isCode c || P c) = true) (h2 : ∀ c ∈ L.filter isCode, P c = true) : L.all P = true := by
  refine List.all_eq_true.mpr fun c hc => ?_
  have h := List.all_eq_true.mp h1 c hc
  rcases Bool.eq_false_or_eq_true (isCode c) with hi | hi
  · exact h2 c (List.mem_filter.mpr ⟨hc, hi⟩)
  · simpa [hi] using h
set_option maxRecDepth 65536 in
theorem w_c0 : (Jvm.Cond.code x code maxLocals ret).before args0 about1 = true := code_word (m := ⟨1, 1⟩) (meth := k1m1) (c := k1c1) (by decide +kernel) rfl rfl rfl (by decide +kernel)
set_option maxRecDepth 65536 in
theorem w_c1 : (Jvm.Cond.code ({ cls := "quotidian/Modular", name := "isWord", desc := "(JJJ)Z" } : Jvm.MethodName) prog_28_method_9_code (6 : Nat) (Option.some Jvm.ClassFile.FieldType.boolean)).before args0 about1 = true := code_word (m := ⟨2, 1⟩) (meth := k2m1) (c := k2c1) (by decide +kernel) rfl rfl rfl (by decide +kernel)
def codes1 : List Jvm.Cond := [Jvm.Cond.code x code maxLocals ret, Jvm.Cond.code ({ cls := "quotidian/Modular", name := "isWord", desc := "(JJJ)Z" } : Jvm.MethodName) prog_28_method_9_code (6 : Nat) (Option.some Jvm.ClassFile.FieldType.boolean)]
set_option maxRecDepth 65536 in
theorem codes_eq : words1.filter isCode = codes1 := rfl
theorem w_codes : ∀ c ∈ words1.filter isCode, c.before args0 about1 = true := by
  rw [codes_eq]
  intro c hc
  simp only [codes1, List.mem_cons, List.not_mem_nil, or_false] at hc
  rcases hc with rfl | rfl
  · exact w_c0
  · exact w_c1
set_option maxRecDepth 65536 in
theorem w_t1 : words1.all (fun c => isCode c || c.before args0 about1) = true := by decide +kernel
theorem w_tables : (allAtoms (Jvm.Cond.code x code maxLocals ret :: tables_1)).before args0 about1 = true := by
  rw [allAtoms_all]
  show words1.all (fun c => c.before args0 about1) = true
  refine all_split ?_ w_codes
  rw [w_t1]
set_option maxRecDepth 65536 in
theorem w_case : (Jvm.Cond.and given_1 narrow_1).before args0 about1 = true := by decide +kernel
theorem w_applies : (headSpec (Jvm.Cond.code x code maxLocals ret :: tables_1) room_1).applies x e0.platform about1 = true :=
  (Spec.applies_iff w_frames).mpr ⟨w_running, w_runnable, w_alone, w_named, w_hears, w_ripe, w_room, w_tables⟩
theorem atStart : AtStart classFile x code maxLocals ret World_1 tables_1 room_1 Calls_1 rest_1 Pre_1 launch0 p0 e0 about1 theMethod args0 below0 :=
  ⟨lists_1, trivial, launch0.admits_env _ _ _, launch0.least_env, fairChoices_fair.cas, fairChoices_fair.clock, w_frames, w_args, w_heap, w_applies, trivial, trivial, w_case⟩
end start1
theorem witness_1 : WitnessClaimed_1 := ⟨start1.p0, start1.e0, start1.about1, start1.theMethod, start1.args0, start1.below0, start1.atStart⟩
end Jvm.Pilot.@@N@@
