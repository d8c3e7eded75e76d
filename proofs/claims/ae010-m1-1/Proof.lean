import JvmDerived
import JvmDerived.Pilot.@@N@@Statement
import JvmDerived.Pilot.@@N@@Code
set_option linter.unusedVariables false
set_option linter.unusedSimpArgs false
namespace Jvm.RoadKit
open Sem ClassFile Op Lib Jvm.Stand Jvm.Free Jvm.LawKit
section New
variable {p : Program} {l : Launch} {e : Env} {R : Room} {s : State} {m : MethodId} {args : Array Value} {below : List Frame} {meth : Method} {c : Code} {T : State} {locs : List Loc} {cells slots : Nat}
theorem retI (X : Stand p l e R s m args below meth c T locs cells slots) (hx : p.tables.exec = Jvm.exec) {pc : Nat} {Ls : Array Slot} {z : Int32} {rest : List Value} (hret : meth.sig.returnType = some .int) (hd : decode c.code pc = .ok (.ireturn, 1)) {fs : List Frame}
    (hl : ∀ (f : JFrame) (acts : List Action), f.method = m → f.locked = none → f.entered = [] → (doReturn e (T.setTop f) acts (some (.int z))).1 = T.setFrames fs) : Steps p.tables e below (T.setTop (mkF m pc Ls (.int z :: rest))) (T.setFrames fs) := by
  have hm' : T.vm.method? m = some meth := X.method'
  have hn : narrow .int (.int z) = .int z := rfl
  show Steps p.tables e below (T.setTop { method := m, pc := pc, locals := Ls, stack := _ :: rest, locked := none }) _
  jvm_step X.here [X.here.top, hx, hd, hm', hret, hn]
  first | (intro acts; rw [hl _ acts rfl rfl rfl]) | rw [hl _ _ rfl rfl rfl]
  exact Steps.refl _
end New
end Jvm.RoadKit
namespace Jvm.Pilot.@@N@@
open Jvm Jvm.ClassFile Sem Op Lib Jvm.Free Jvm.Stand Jvm.LawKit Jvm.RoadKit Bundle Jvm.Pilot.@@N@@.Jvm.D
section OwnKit
variable {p : Program} {l : Launch} {e : Env} {R : Room} {s : State} {m : MethodId} {args : Array Value} {below : List Frame} {meth : Method} {c : Code} {T : State} {locs : List Loc} {cells slots : Nat} {Z : State} {h h' : Heap}
theorem own_lremM {g : JFrame} {target : State} (X : Stand p l e R s m args below meth c T locs cells slots) (hx : p.tables.exec = Jvm.exec) (hg : g.method = m) {x y : Int64} {rest : List Value} (hd : decode c.code g.pc = .ok (.lrem, 1)) (hs : g.stack = .long y :: .long x :: rest) (hy : y ≠ 0)
    (hr : Steps p.tables e below (T.setTop { g with pc := g.pc + 1, stack := .long (x % y) :: rest }) target) : Steps p.tables e below (T.setTop g) target :=
  XS.lrem X.here hx hg hd hs hy (by rw [lrem_mod]; exact hr)
/-- an array, by the list of its values -/
def own_A (Z : State) (h : Heap) (a : Addr) (ty : FieldType) (vs : List Value) : Prop := ∃ c : Cell, Arr Z h a c ty ∧ c.slots = vs.toArray
def own_AJ (Z : State) (h : Heap) (a : Addr) (xs : List Int64) : Prop := own_A Z h a .long (xs.map .long)
def own_AI (Z : State) (h : Heap) (a : Addr) (ty : FieldType) (xs : List Int32) : Prop := own_A Z h a ty (xs.map .int)
section Facts
variable {a b : Addr} {ty : FieldType} {vs : List Value} {xs : List Int64} {ys : List Int32} {sl : Nat} {v : Value} {ws : List Addr}
theorem own_A.ext (F : own_A Z h a ty vs) (E : Ext h h') : own_A Z h' a ty vs := by obtain ⟨c, A, r⟩ := F; exact ⟨c, A.ext E, r⟩
theorem own_A.other (F : own_A Z h b ty vs) (W : Wr h h' a sl v) (q : b ≠ a) : own_A Z h' b ty vs := by obtain ⟨c, A, r⟩ := F; exact ⟨c, A.other W q, r⟩
theorem own_A.keep (F : own_A Z h a ty vs) (K : Keep h h' ws) (q : a ∉ ws) : own_A Z h' a ty vs := by obtain ⟨c, A, r⟩ := F; exact ⟨c, ⟨K.2.1 a c A.1 q, A.2⟩, r⟩
theorem own_A.lt (F : own_A Z h a ty vs) : a < h.size := by obtain ⟨c, A, -⟩ := F; exact A.lt
theorem own_AJ.ext (F : own_AJ Z h a xs) (E : Ext h h') : own_AJ Z h' a xs := own_A.ext F E
theorem own_AJ.other (F : own_AJ Z h b xs) (W : Wr h h' a sl v) (q : b ≠ a) : own_AJ Z h' b xs := own_A.other F W q
theorem own_AJ.keep (F : own_AJ Z h a xs) (K : Keep h h' ws) (q : a ∉ ws) : own_AJ Z h' a xs := own_A.keep F K q
theorem own_AJ.lt (F : own_AJ Z h a xs) : a < h.size := own_A.lt F
theorem own_AI.ext (F : own_AI Z h a ty ys) (E : Ext h h') : own_AI Z h' a ty ys := own_A.ext F E
theorem own_AI.other (F : own_AI Z h b ty ys) (W : Wr h h' a sl v) (q : b ≠ a) : own_AI Z h' b ty ys := own_A.other F W q
theorem own_AI.keep (F : own_AI Z h a ty ys) (K : Keep h h' ws) (q : a ∉ ws) : own_AI Z h' a ty ys := own_A.keep F K q
theorem own_AI.lt (F : own_AI Z h a ty ys) : a < h.size := own_A.lt F
theorem own_A.set (F : own_A Z h a ty vs) {k : Nat} (W : Wr h h' a k v) : own_A Z h' a ty (vs.set k v) := by
  obtain ⟨c, A, r⟩ := F
  refine ⟨c.setSlot k v, A.same W, ?_⟩
  simp [Cell.setSlot, r]
theorem own_A_new {cA : ClassId} {n : Int32} {k : Nat} (A : Arr Z h a (newA cA ty n) ty) (hk : n.toNatClampNeg = k) : own_A Z h a ty (List.replicate k (defaultValue ty)) := by
  subst hk
  exact ⟨_, A, by simp [newA]⟩
theorem own_AJ_new {cA : ClassId} {n : Int32} {k : Nat} (A : Arr Z h a (newA cA .long n) .long) (hk : n.toNatClampNeg = k) : own_AJ Z h a (List.replicate k 0) := by
  have q := own_A_new A hk
  rw [own_AJ, List.map_replicate]; exact q
theorem own_AIint_new {cA : ClassId} {n : Int32} {k : Nat} (A : Arr Z h a (newA cA .int n) .int) (hk : n.toNatClampNeg = k) : own_AI Z h a .int (List.replicate k 0) := by
  have q := own_A_new A hk
  rw [own_AI, List.map_replicate]; exact q
theorem own_AIbyte_new {cA : ClassId} {n : Int32} {k : Nat} (A : Arr Z h a (newA cA .byte n) .byte) (hk : n.toNatClampNeg = k) : own_AI Z h a .byte (List.replicate k 0) := by
  have q := own_A_new A hk
  rw [own_AI, List.map_replicate]; exact q
theorem own_AIboolean_new {cA : ClassId} {n : Int32} {k : Nat} (A : Arr Z h a (newA cA .boolean n) .boolean) (hk : n.toNatClampNeg = k) : own_AI Z h a .boolean (List.replicate k 0) := by
  have q := own_A_new A hk
  rw [own_AI, List.map_replicate]; exact q
theorem own_inb {cl : Cell} {j : Int32} (r : cl.slots = vs.toArray) (hj : 0 ≤ j.toInt ∧ j.toInt < (vs.length : Nat)) : ¬ (j < 0 ∨ cl.slots.size ≤ j.toNatClampNeg) ∧ j.toNatClampNeg = j.toInt.toNat := by
  have e : j.toNatClampNeg = j.toInt.toNat := rfl
  refine ⟨fun q => ?_, e⟩
  rcases q with q | q
  · rw [Int32.lt_iff_toInt_lt] at q
    have : (0 : Int32).toInt = 0 := by decide
    omega
  · rw [r, e] at q
    simp at q
    omega
end Facts
theorem own_at? {α : Type} (f : α → Value) (xs : List α) (k : Nat) (d : α) (hk : k < xs.length) : (xs.map f).toArray[k]? = some (f (xs.getD k d)) := by
  simp [List.getD, hk]
section Loads
variable {a : Addr} {xs : List Int64} {ys : List Int32} {j : Int32} {pc : Nat} {Ls : Array Slot} {rest : List Value}
theorem own_laload (X : Stand p l e R s m args below meth c T locs cells slots) (hx : p.tables.exec = Jvm.exec) (hZ : Z.Warmed39 s.vm) (eT : T.heap = h) (A : own_AJ Z h a xs) (hj : 0 ≤ j.toInt ∧ j.toInt < (xs.length : Nat)) (hd : decode c.code pc = .ok (.laload, 1)) (target : State)
    (hr : Steps p.tables e below (T.setTop (mkF m (pc + 1) Ls (.long (xs.getD j.toInt.toNat 0) :: rest))) target) : Steps p.tables e below (T.setTop (mkF m pc Ls (.int j :: .ref a :: rest))) target := by
  obtain ⟨cl, A, r⟩ := A
  obtain ⟨q1, q2⟩ := own_inb (j := j) r (by simpa using hj)
  refine X.laload hx (by rw [eT]; exact A.1) (State.isArrayOf_alike hZ.alike A.2.1) A.2.2 q1 (v := .long (xs.getD j.toInt.toNat 0)) ?_ (g := mkF m pc Ls (.int j :: .ref a :: rest)) rfl rfl hd target hr
  rw [q2, r]
  exact own_at? _ xs _ 0 (by omega)
theorem own_iaload (X : Stand p l e R s m args below meth c T locs cells slots) (hx : p.tables.exec = Jvm.exec) (hZ : Z.Warmed39 s.vm) (eT : T.heap = h) (A : own_AI Z h a .int ys) (hj : 0 ≤ j.toInt ∧ j.toInt < (ys.length : Nat)) (hd : decode c.code pc = .ok (.iaload, 1)) (target : State)
    (hr : Steps p.tables e below (T.setTop (mkF m (pc + 1) Ls (.int (ys.getD j.toInt.toNat 0) :: rest))) target) : Steps p.tables e below (T.setTop (mkF m pc Ls (.int j :: .ref a :: rest))) target := by
  obtain ⟨cl, A, r⟩ := A
  obtain ⟨q1, q2⟩ := own_inb (j := j) r (by simpa using hj)
  refine X.iaload hx (by rw [eT]; exact A.1) (State.isArrayOf_alike hZ.alike A.2.1) A.2.2 q1 (v := .int (ys.getD j.toInt.toNat 0)) ?_ (g := mkF m pc Ls (.int j :: .ref a :: rest)) rfl rfl hd target hr
  rw [q2, r]
  exact own_at? _ ys _ 0 (by omega)
theorem own_baloadB (X : Stand p l e R s m args below meth c T locs cells slots) (hx : p.tables.exec = Jvm.exec) (hZ : Z.Warmed39 s.vm) (eT : T.heap = h) (A : own_AI Z h a .byte ys) (hj : 0 ≤ j.toInt ∧ j.toInt < (ys.length : Nat)) (hd : decode c.code pc = .ok (.baload, 1)) (target : State)
    (hr : Steps p.tables e below (T.setTop (mkF m (pc + 1) Ls (.int (ys.getD j.toInt.toNat 0) :: rest))) target) : Steps p.tables e below (T.setTop (mkF m pc Ls (.int j :: .ref a :: rest))) target := by
  obtain ⟨cl, A, r⟩ := A
  obtain ⟨q1, q2⟩ := own_inb (j := j) r (by simpa using hj)
  refine X.baloadBytes hx (by rw [eT]; exact A.1) (State.isArrayOf_alike hZ.alike A.2.1) A.2.2 q1 (v := .int (ys.getD j.toInt.toNat 0)) ?_ (g := mkF m pc Ls (.int j :: .ref a :: rest)) rfl rfl hd target hr
  rw [q2, r]
  exact own_at? _ ys _ 0 (by omega)
theorem own_baloadZ (X : Stand p l e R s m args below meth c T locs cells slots) (hx : p.tables.exec = Jvm.exec) (hZ : Z.Warmed39 s.vm) (eT : T.heap = h) (A : own_AI Z h a .boolean ys) (hj : 0 ≤ j.toInt ∧ j.toInt < (ys.length : Nat)) (hd : decode c.code pc = .ok (.baload, 1)) (target : State)
    (hr : Steps p.tables e below (T.setTop (mkF m (pc + 1) Ls (.int (ys.getD j.toInt.toNat 0) :: rest))) target) : Steps p.tables e below (T.setTop (mkF m pc Ls (.int j :: .ref a :: rest))) target := by
  obtain ⟨cl, A, r⟩ := A
  obtain ⟨q1, q2⟩ := own_inb (j := j) r (by simpa using hj)
  refine X.baloadBooleans hx (by rw [eT]; exact A.1) (State.isArrayOf_alike hZ.alike A.2.1) A.2.2 q1 (v := .int (ys.getD j.toInt.toNat 0)) ?_ (g := mkF m pc Ls (.int j :: .ref a :: rest)) rfl rfl hd target hr
  rw [q2, r]
  exact own_at? _ ys _ 0 (by omega)
theorem own_alenJ (X : Stand p l e R s m args below meth c T locs cells slots) (hx : p.tables.exec = Jvm.exec) (hZ : Z.Warmed39 s.vm) (eT : T.heap = h) (A : own_AJ Z h a xs) (hd : decode c.code pc = .ok (.arraylength, 1)) (target : State)
    (hr : Steps p.tables e below (T.setTop (mkF m (pc + 1) Ls (.int xs.length.toInt32 :: rest))) target) : Steps p.tables e below (T.setTop (mkF m pc Ls (.ref a :: rest))) target := by
  obtain ⟨cl, A, r⟩ := A
  refine X.arraylength hx (by rw [eT]; exact A.1) (State.isArrayOf_alike hZ.alike A.2.1) (g := mkF m pc Ls (.ref a :: rest)) rfl rfl hd target ?_
  rw [r]
  simpa using hr
theorem own_alenI {ty : FieldType} (X : Stand p l e R s m args below meth c T locs cells slots) (hx : p.tables.exec = Jvm.exec) (hZ : Z.Warmed39 s.vm) (eT : T.heap = h) (A : own_AI Z h a ty ys) (hd : decode c.code pc = .ok (.arraylength, 1)) (target : State)
    (hr : Steps p.tables e below (T.setTop (mkF m (pc + 1) Ls (.int ys.length.toInt32 :: rest))) target) : Steps p.tables e below (T.setTop (mkF m pc Ls (.ref a :: rest))) target := by
  obtain ⟨cl, A, r⟩ := A
  refine X.arraylength hx (by rw [eT]; exact A.1) (State.isArrayOf_alike hZ.alike A.2.1) (g := mkF m pc Ls (.ref a :: rest)) rfl rfl hd target ?_
  rw [r]
  simpa using hr
theorem own_lastore (X : Stand p l e R s m args below meth c T locs cells slots) (hx : p.tables.exec = Jvm.exec) (hZ : Z.Warmed39 s.vm) (eT : T.heap = h) (A : own_AJ Z h a xs) (hj : 0 ≤ j.toInt ∧ j.toInt < (xs.length : Nat)) {x : Int64} (hd : decode c.code pc = .ok (.lastore, 1)) :
    ∃ T' h', Stand p l e R s m args below meth c T' (locs ++ [⟨a, j.toInt.toNat⟩]) cells slots ∧ T'.heap = h' ∧ Wr h h' a j.toInt.toNat (.long x) ∧ own_AJ Z h' a (xs.set j.toInt.toNat x) ∧ ∀ target, Steps p.tables e below (T'.setTop (mkF m (pc + 1) Ls rest)) target → Steps p.tables e below (T.setTop (mkF m pc Ls (.long x :: .int j :: .ref a :: rest))) target := by
  obtain ⟨cl, B, r⟩ := A
  obtain ⟨q1, q2⟩ := own_inb (j := j) r (by simpa using hj)
  obtain ⟨T', h', X', e', W', st⟩ := stJ X hx hZ eT B q1 (x := x) (g := mkF m pc Ls (.long x :: .int j :: .ref a :: rest)) rfl rfl hd
  rw [q2] at X' W'
  exact ⟨T', h', X', e', W', by have := own_A.set ⟨cl, B, r⟩ W'; rw [own_AJ, List.map_set]; exact this, st⟩
theorem own_iastore (X : Stand p l e R s m args below meth c T locs cells slots) (hx : p.tables.exec = Jvm.exec) (hZ : Z.Warmed39 s.vm) (eT : T.heap = h) (A : own_AI Z h a .int ys) (hj : 0 ≤ j.toInt ∧ j.toInt < (ys.length : Nat)) {x : Int32} (hd : decode c.code pc = .ok (.iastore, 1)) :
    ∃ T' h', Stand p l e R s m args below meth c T' (locs ++ [⟨a, j.toInt.toNat⟩]) cells slots ∧ T'.heap = h' ∧ Wr h h' a j.toInt.toNat (.int x) ∧ own_AI Z h' a .int (ys.set j.toInt.toNat x) ∧ ∀ target, Steps p.tables e below (T'.setTop (mkF m (pc + 1) Ls rest)) target → Steps p.tables e below (T.setTop (mkF m pc Ls (.int x :: .int j :: .ref a :: rest))) target := by
  obtain ⟨cl, B, r⟩ := A
  obtain ⟨q1, q2⟩ := own_inb (j := j) r (by simpa using hj)
  obtain ⟨T', h', X', e', W', st⟩ := stI X hx hZ eT B q1 (x := x) (g := mkF m pc Ls (.int x :: .int j :: .ref a :: rest)) rfl rfl hd
  rw [q2] at X' W'
  exact ⟨T', h', X', e', W', by have := own_A.set ⟨cl, B, r⟩ W'; rw [own_AI, List.map_set]; exact this, st⟩
theorem own_bastoreB (X : Stand p l e R s m args below meth c T locs cells slots) (hx : p.tables.exec = Jvm.exec) (hZ : Z.Warmed39 s.vm) (eT : T.heap = h) (A : own_AI Z h a .byte ys) (hj : 0 ≤ j.toInt ∧ j.toInt < (ys.length : Nat)) {x : Int32} (hd : decode c.code pc = .ok (.bastore, 1)) :
    ∃ T' h', Stand p l e R s m args below meth c T' (locs ++ [⟨a, j.toInt.toNat⟩]) cells slots ∧ T'.heap = h' ∧ Wr h h' a j.toInt.toNat (.int x.toInt8.toInt32) ∧ own_AI Z h' a .byte (ys.set j.toInt.toNat x.toInt8.toInt32) ∧ ∀ target, Steps p.tables e below (T'.setTop (mkF m (pc + 1) Ls rest)) target → Steps p.tables e below (T.setTop (mkF m pc Ls (.int x :: .int j :: .ref a :: rest))) target := by
  obtain ⟨cl, B, r⟩ := A
  obtain ⟨q1, q2⟩ := own_inb (j := j) r (by simpa using hj)
  obtain ⟨T', h', X', e', W', st⟩ := stB X hx hZ eT B q1 (x := x) (g := mkF m pc Ls (.int x :: .int j :: .ref a :: rest)) rfl rfl hd
  rw [q2] at X' W'
  exact ⟨T', h', X', e', W', by have := own_A.set ⟨cl, B, r⟩ W'; rw [own_AI, List.map_set]; exact this, st⟩
theorem own_bastoreZ (X : Stand p l e R s m args below meth c T locs cells slots) (hx : p.tables.exec = Jvm.exec) (hZ : Z.Warmed39 s.vm) (eT : T.heap = h) (A : own_AI Z h a .boolean ys) (hj : 0 ≤ j.toInt ∧ j.toInt < (ys.length : Nat)) {x : Int32} (hd : decode c.code pc = .ok (.bastore, 1)) :
    ∃ T' h', Stand p l e R s m args below meth c T' (locs ++ [⟨a, j.toInt.toNat⟩]) cells slots ∧ T'.heap = h' ∧ Wr h h' a j.toInt.toNat (.int (x &&& 1)) ∧ own_AI Z h' a .boolean (ys.set j.toInt.toNat (x &&& 1)) ∧ ∀ target, Steps p.tables e below (T'.setTop (mkF m (pc + 1) Ls rest)) target → Steps p.tables e below (T.setTop (mkF m pc Ls (.int x :: .int j :: .ref a :: rest))) target := by
  obtain ⟨cl, B, r⟩ := A
  obtain ⟨q1, q2⟩ := own_inb (j := j) r (by simpa using hj)
  obtain ⟨T', h', X', e', W', st⟩ := stZ X hx hZ eT B q1 (x := x) (g := mkF m pc Ls (.int x :: .int j :: .ref a :: rest)) rfl rfl hd
  rw [q2] at X' W'
  exact ⟨T', h', X', e', W', by have := own_A.set ⟨cl, B, r⟩ W'; rw [own_AI, List.map_set]; exact this, st⟩
end Loads
end OwnKit
theorem own_bm32 {x : Int} (h1 : -2147483648 ≤ x) (h2 : x < 2147483648) : x.bmod (2 ^ 32) = x := by
  rw [Int.bmod_def]; split <;> omega
theorem own_bm64 {x : Int} (h1 : -9223372036854775808 ≤ x) (h2 : x < 9223372036854775808) : x.bmod (2 ^ 64) = x := by
  rw [Int.bmod_def]; split <;> omega
theorem own_r32 (x : Int32) : -2147483648 ≤ x.toInt ∧ x.toInt < 2147483648 := ⟨x.le_toInt, x.toInt_lt⟩
theorem own_r64 (x : Int64) : -9223372036854775808 ≤ x.toInt ∧ x.toInt < 9223372036854775808 := ⟨x.le_toInt, x.toInt_lt⟩
theorem own_iadd {x y : Int32} (h : -2147483648 ≤ x.toInt + y.toInt ∧ x.toInt + y.toInt < 2147483648) : (x + y).toInt = x.toInt + y.toInt := by rw [Int32.toInt_add]; exact own_bm32 h.1 h.2
theorem own_isub {x y : Int32} (h : -2147483648 ≤ x.toInt - y.toInt ∧ x.toInt - y.toInt < 2147483648) : (x - y).toInt = x.toInt - y.toInt := by rw [Int32.toInt_sub]; exact own_bm32 h.1 h.2
theorem own_imul {x y : Int32} (h : -2147483648 ≤ x.toInt * y.toInt ∧ x.toInt * y.toInt < 2147483648) : (x * y).toInt = x.toInt * y.toInt := by rw [Int32.toInt_mul]; exact own_bm32 h.1 h.2
theorem own_ladd {x y : Int64} (h : -9223372036854775808 ≤ x.toInt + y.toInt ∧ x.toInt + y.toInt < 9223372036854775808) : (x + y).toInt = x.toInt + y.toInt := by rw [Int64.toInt_add]; exact own_bm64 h.1 h.2
theorem own_lsub {x y : Int64} (h : -9223372036854775808 ≤ x.toInt - y.toInt ∧ x.toInt - y.toInt < 9223372036854775808) : (x - y).toInt = x.toInt - y.toInt := by rw [Int64.toInt_sub]; exact own_bm64 h.1 h.2
theorem own_lmul {x y : Int64} (h : -9223372036854775808 ≤ x.toInt * y.toInt ∧ x.toInt * y.toInt < 9223372036854775808) : (x * y).toInt = x.toInt * y.toInt := by rw [Int64.toInt_mul]; exact own_bm64 h.1 h.2
theorem own_i2l (x : Int32) : x.toInt64.toInt = x.toInt := Int32.toInt_toInt64 x
theorem own_l2i {x : Int64} (h : -2147483648 ≤ x.toInt ∧ x.toInt < 2147483648) : x.toInt32.toInt = x.toInt := by rw [Int64.toInt_toInt32]; exact own_bm32 h.1 h.2
theorem own_irem {x y : Int32} (h : 0 ≤ x.toInt) : (x % y).toInt = x.toInt % y.toInt := by rw [Int32.toInt_mod]; exact Int.tmod_eq_emod_of_nonneg h
theorem own_lrem {x y : Int64} (h : 0 ≤ x.toInt) : (x % y).toInt = x.toInt % y.toInt := by rw [Int64.toInt_mod]; exact Int.tmod_eq_emod_of_nonneg h
theorem own_idiv {x y : Int32} (h : 0 ≤ x.toInt) (hy : 0 ≤ y.toInt) : (x / y).toInt = x.toInt / y.toInt := by
  rw [Int32.toInt_div_of_ne_right x y (fun q => by rw [q] at hy; revert hy; decide)]; exact Int.tdiv_eq_ediv_of_nonneg h
theorem own_ldiv {x y : Int64} (h : 0 ≤ x.toInt) (hy : 0 ≤ y.toInt) : (x / y).toInt = x.toInt / y.toInt := by
  rw [Int64.toInt_div_of_ne_right x y (fun q => by rw [q] at hy; revert hy; decide)]; exact Int.tdiv_eq_ediv_of_nonneg h
/-- a mask of k bits -/
theorem own_mask (x m : Int32) (k : Nat) (hk : k ≤ 31) (hm : m.toBitVec.toNat = 2 ^ k - 1) : (x &&& m).toInt = x.toInt % (2 ^ k : Nat) := by
  have hp : 2 ^ k ≤ 2 ^ 31 := Nat.pow_le_pow_right (by decide) hk
  have hp0 : 0 < 2 ^ k := Nat.pow_pos (by decide)
  have e : (x &&& m).toBitVec.toNat = x.toBitVec.toNat % 2 ^ k := by rw [Int32.toBitVec_and, BitVec.toNat_and, hm, Nat.and_two_pow_sub_one_eq_mod]
  have l := Nat.mod_lt x.toBitVec.toNat hp0
  rw [← Int32.toInt_toBitVec, ← Int32.toInt_toBitVec, BitVec.toInt_eq_toNat_cond, e, if_pos (by omega), BitVec.toInt_eq_toNat_cond]
  split
  · simp
  · rename_i q
    have d : (2 ^ k : Nat) ∣ 2 ^ 32 := Nat.pow_dvd_pow 2 (by omega)
    obtain ⟨c, hc⟩ := d
    have hc' : ((2 ^ 32 : Nat) : Int) = ((2 ^ k : Nat) : Int) * (c : Int) := by rw [hc]; simp
    rw [hc', Int.sub_mul_emod_self_left]; simp
theorem own_ushr (x : Int64) (y : Int32) (k : Nat) (hk : (y &&& 0x3f).toInt64.toBitVec.toNat % 64 = k) (h0 : 0 < k) : (((x).toUInt64 >>> (y &&& 0x3f).toInt64.toUInt64).toInt64).toInt = (x.toInt % 18446744073709551616) / (2 ^ k : Nat) := by
  have e : (((x).toUInt64 >>> (y &&& 0x3f).toInt64.toUInt64).toInt64).toBitVec = x.toBitVec >>> k := by rw [← hk]; simp
  have hl := x.toBitVec.isLt
  have hp0 : 0 < 2 ^ k := Nat.pow_pos (by decide)
  have h2 : 2 ^ 1 ≤ 2 ^ k := Nat.pow_le_pow_right (by decide) h0
  have hd : x.toBitVec.toNat / 2 ^ k ≤ x.toBitVec.toNat / 2 := Nat.div_le_div_left h2 (by decide)
  have t : x.toInt % 18446744073709551616 = (x.toBitVec.toNat : Int) := by
    rw [← Int64.toInt_toBitVec, BitVec.toInt_eq_toNat_cond]; split <;> omega
  rw [t, ← Int64.toInt_toBitVec, e, BitVec.toInt_eq_toNat_cond, BitVec.toNat_ushiftRight, Nat.shiftRight_eq_div_pow, if_pos (by omega)]
  simp
theorem own_shl (x : Int64) (y : Int32) (k : Nat) (hk : y.toBitVec.toNat % 64 = k) (h : -9223372036854775808 ≤ x.toInt * (2 ^ k : Nat) ∧ x.toInt * (2 ^ k : Nat) < 9223372036854775808) : (x <<< (y &&& 0x3f).toInt64).toInt = x.toInt * (2 ^ k : Nat) := by
  have q := c_lshl x y k hk
  have r := own_r64 (x <<< (y &&& 0x3f).toInt64)
  generalize x.toInt * (2 ^ k : Nat) = z at *
  omega
theorem own_nzL {x : Int32} (h : ¬ x = 0) : ¬ x.toInt64 = 0 := fun q => h (Int32.toInt_inj.mp (by rw [← own_i2l, q]; rfl))
theorem own_nzP {x : Int32} (h : 1 ≤ x.toInt) : ¬ x = 0 := fun q => by rw [q] at h; revert h; decide
theorem own_fA {t n : Int32} {k : Int} (h : t < n) (q : n.toInt - 1 = k) : t.toInt ≤ k := by rw [Int32.lt_iff_toInt_lt] at h; omega
theorem own_fB {t n : Int32} {k : Int} (h : ¬ n < t) (q : n.toInt = k) : t.toInt ≤ k := by rw [Int32.lt_iff_toInt_lt] at h; omega
theorem own_fC {t n : Int32} {k : Int} (h : n < t) (q : n.toInt + 1 = k) : k ≤ t.toInt := by rw [Int32.lt_iff_toInt_lt] at h; omega
theorem own_fD {t n : Int32} {k : Int} (h : ¬ t < n) (q : n.toInt = k) : k ≤ t.toInt := by rw [Int32.lt_iff_toInt_lt] at h; omega
theorem own_fE {t n : Int32} {k : Int} (h : t = n) (q : n.toInt = k) : t.toInt ≤ k := by rw [h]; omega
theorem own_fF {t n : Int32} {k : Int} (h : t = n) (q : n.toInt = k) : k ≤ t.toInt := by rw [h]; omega
theorem own_g1 {t m : Int32} {k : Int} (h : t.toInt ≤ k) (q : k < m.toInt) : t < m := by rw [Int32.lt_iff_toInt_lt]; omega
theorem own_g2 {t m : Int32} {k : Int} (h : t.toInt ≤ k) (q : k ≤ m.toInt) : ¬ m < t := by rw [Int32.lt_iff_toInt_lt]; omega
theorem own_g3 {t m : Int32} {k : Int} (h : t.toInt ≤ k) (q : k < m.toInt) : ¬ t = m := fun e => by rw [e] at h; omega
theorem own_g4 {t m : Int32} {k : Int} (h : k ≤ t.toInt) (q : m.toInt ≤ k) : ¬ t < m := by rw [Int32.lt_iff_toInt_lt]; omega
theorem own_g5 {t m : Int32} {k : Int} (h : k ≤ t.toInt) (q : m.toInt < k) : m < t := by rw [Int32.lt_iff_toInt_lt]; omega
theorem own_g6 {t m : Int32} {k : Int} (h : k ≤ t.toInt) (q : m.toInt < k) : ¬ t = m := fun e => by rw [e] at h; omega
theorem own_g7 {t m : Int32} {k : Int} (h : k ≤ t.toInt) (h' : t.toInt ≤ k) (q : m.toInt = k) : t = m := Int32.toInt_inj.mp (by omega)
theorem own_ne {x n : Int32} {k : Int} (h : ¬ x = n) (q : n.toInt = k) : k ≠ x.toInt := fun e => h (Int32.toInt_inj.mp (by omega))
theorem own_gs1 {α : Type} (xs : List α) (n : Nat) (v d : α) (h : n < xs.length) : (xs.set n v).getD n d = v := by simp [List.getD, h]
theorem own_gs2 {α : Type} (xs : List α) (n j : Nat) (v d : α) (h : n ≠ j) : (xs.set n v).getD j d = xs.getD j d := by simp [List.getD, List.getElem?_set, h]
theorem d1_0 : decode prog_21_method_3_code 0 = .ok (.iconst 1, 1) := by decide +kernel
theorem d1_1 : decode prog_21_method_3_code 1 = .ok (.iload_n 3, 1) := by decide +kernel
theorem d1_2 : decode prog_21_method_3_code 2 = .ok (.ishl, 1) := by decide +kernel
theorem d1_3 : decode prog_21_method_3_code 3 = .ok (.iconst 1, 1) := by decide +kernel
theorem d1_4 : decode prog_21_method_3_code 4 = .ok (.isub, 1) := by decide +kernel
theorem d1_5 : decode prog_21_method_3_code 5 = .ok (.istore 4, 2) := by decide +kernel
theorem d1_7 : decode prog_21_method_3_code 7 = .ok (.iload_n 2, 1) := by decide +kernel
theorem d1_8 : decode prog_21_method_3_code 8 = .ok (.newarray .int, 2) := by decide +kernel
theorem d1_10 : decode prog_21_method_3_code 10 = .ok (.astore 5, 2) := by decide +kernel
theorem d1_12 : decode prog_21_method_3_code 12 = .ok (.iconst 0, 1) := by decide +kernel
theorem d1_13 : decode prog_21_method_3_code 13 = .ok (.istore 6, 2) := by decide +kernel
theorem d1_15 : decode prog_21_method_3_code 15 = .ok (.iload 6, 2) := by decide +kernel
theorem d1_17 : decode prog_21_method_3_code 17 = .ok (.iload_n 2, 1) := by decide +kernel
theorem d1_18 : decode prog_21_method_3_code 18 = .ok (.if_icmp .ge 84, 3) := by decide +kernel
theorem d1_21 : decode prog_21_method_3_code 21 = .ok (.iload_n 1, 1) := by decide +kernel
theorem d1_22 : decode prog_21_method_3_code 22 = .ok (.iload 6, 2) := by decide +kernel
theorem d1_24 : decode prog_21_method_3_code 24 = .ok (.iload_n 3, 1) := by decide +kernel
theorem d1_25 : decode prog_21_method_3_code 25 = .ok (.imul, 1) := by decide +kernel
theorem d1_26 : decode prog_21_method_3_code 26 = .ok (.bipush 8, 2) := by decide +kernel
theorem d1_28 : decode prog_21_method_3_code 28 = .ok (.idiv, 1) := by decide +kernel
theorem d1_29 : decode prog_21_method_3_code 29 = .ok (.iadd, 1) := by decide +kernel
theorem d1_30 : decode prog_21_method_3_code 30 = .ok (.istore 7, 2) := by decide +kernel
theorem d1_32 : decode prog_21_method_3_code 32 = .ok (.iload 6, 2) := by decide +kernel
theorem d1_34 : decode prog_21_method_3_code 34 = .ok (.iload_n 3, 1) := by decide +kernel
theorem d1_35 : decode prog_21_method_3_code 35 = .ok (.imul, 1) := by decide +kernel
theorem d1_36 : decode prog_21_method_3_code 36 = .ok (.bipush 8, 2) := by decide +kernel
theorem d1_38 : decode prog_21_method_3_code 38 = .ok (.irem, 1) := by decide +kernel
theorem d1_39 : decode prog_21_method_3_code 39 = .ok (.istore 8, 2) := by decide +kernel
theorem d1_41 : decode prog_21_method_3_code 41 = .ok (.aload_n 0, 1) := by decide +kernel
theorem d1_42 : decode prog_21_method_3_code 42 = .ok (.iload 7, 2) := by decide +kernel
theorem d1_44 : decode prog_21_method_3_code 44 = .ok (.baload, 1) := by decide +kernel
theorem d1_45 : decode prog_21_method_3_code 45 = .ok (.sipush 255, 3) := by decide +kernel
theorem d1_48 : decode prog_21_method_3_code 48 = .ok (.iand, 1) := by decide +kernel
theorem d1_49 : decode prog_21_method_3_code 49 = .ok (.bipush 8, 2) := by decide +kernel
theorem d1_51 : decode prog_21_method_3_code 51 = .ok (.ishl, 1) := by decide +kernel
theorem d1_52 : decode prog_21_method_3_code 52 = .ok (.iload 8, 2) := by decide +kernel
theorem d1_54 : decode prog_21_method_3_code 54 = .ok (.iload_n 3, 1) := by decide +kernel
theorem d1_55 : decode prog_21_method_3_code 55 = .ok (.iadd, 1) := by decide +kernel
theorem d1_56 : decode prog_21_method_3_code 56 = .ok (.bipush 8, 2) := by decide +kernel
theorem d1_58 : decode prog_21_method_3_code 58 = .ok (.if_icmp .le 16, 3) := by decide +kernel
theorem d1_61 : decode prog_21_method_3_code 61 = .ok (.aload_n 0, 1) := by decide +kernel
theorem d1_62 : decode prog_21_method_3_code 62 = .ok (.iload 7, 2) := by decide +kernel
theorem d1_64 : decode prog_21_method_3_code 64 = .ok (.iconst 1, 1) := by decide +kernel
theorem d1_65 : decode prog_21_method_3_code 65 = .ok (.iadd, 1) := by decide +kernel
theorem d1_66 : decode prog_21_method_3_code 66 = .ok (.baload, 1) := by decide +kernel
theorem d1_67 : decode prog_21_method_3_code 67 = .ok (.sipush 255, 3) := by decide +kernel
theorem d1_70 : decode prog_21_method_3_code 70 = .ok (.iand, 1) := by decide +kernel
theorem d1_71 : decode prog_21_method_3_code 71 = .ok (.goto 4, 3) := by decide +kernel
theorem d1_74 : decode prog_21_method_3_code 74 = .ok (.iconst 0, 1) := by decide +kernel
theorem d1_75 : decode prog_21_method_3_code 75 = .ok (.ior, 1) := by decide +kernel
theorem d1_76 : decode prog_21_method_3_code 76 = .ok (.istore 9, 2) := by decide +kernel
theorem d1_78 : decode prog_21_method_3_code 78 = .ok (.aload 5, 2) := by decide +kernel
theorem d1_80 : decode prog_21_method_3_code 80 = .ok (.iload 6, 2) := by decide +kernel
theorem d1_82 : decode prog_21_method_3_code 82 = .ok (.iload 9, 2) := by decide +kernel
theorem d1_84 : decode prog_21_method_3_code 84 = .ok (.bipush 16, 2) := by decide +kernel
theorem d1_86 : decode prog_21_method_3_code 86 = .ok (.iload 8, 2) := by decide +kernel
theorem d1_88 : decode prog_21_method_3_code 88 = .ok (.isub, 1) := by decide +kernel
theorem d1_89 : decode prog_21_method_3_code 89 = .ok (.iload_n 3, 1) := by decide +kernel
theorem d1_90 : decode prog_21_method_3_code 90 = .ok (.isub, 1) := by decide +kernel
theorem d1_91 : decode prog_21_method_3_code 91 = .ok (.iushr, 1) := by decide +kernel
theorem d1_92 : decode prog_21_method_3_code 92 = .ok (.iload 4, 2) := by decide +kernel
theorem d1_94 : decode prog_21_method_3_code 94 = .ok (.iand, 1) := by decide +kernel
theorem d1_95 : decode prog_21_method_3_code 95 = .ok (.iastore, 1) := by decide +kernel
theorem d1_96 : decode prog_21_method_3_code 96 = .ok (.iinc 6 1, 3) := by decide +kernel
theorem d1_99 : decode prog_21_method_3_code 99 = .ok (.goto (-84), 3) := by decide +kernel
theorem d1_102 : decode prog_21_method_3_code 102 = .ok (.aload 5, 2) := by decide +kernel
theorem d1_104 : decode prog_21_method_3_code 104 = .ok (.areturn, 1) := by decide +kernel
theorem pn_1 : plainName "com/example/cardglyph/cardglyph/image/PackedPoints" = true := by first | (simp [plainName, overriddenIn]; done) | decide +kernel
def own_uv (ys : List Int32) (q1 q3 mk i : Int32) : Int32 := if (8 : Int32) < (((i * q3) % (8 : Int32)) + q3) then ((((((ys.getD ((q1 + ((i * q3) / (8 : Int32)))).toInt.toNat 0) &&& (255 : Int32)) <<< ((8 : Int32) &&& 31)) ||| ((ys.getD (((q1 + ((i * q3) / (8 : Int32))) + (1 : Int32))).toInt.toNat 0) &&& (255 : Int32)))).toUInt32 >>> ((((16 : Int32) - ((i * q3) % (8 : Int32))) - q3) &&& 31).toUInt32).toInt32 &&& mk else ((((((ys.getD ((q1 + ((i * q3) / (8 : Int32)))).toInt.toNat 0) &&& (255 : Int32)) <<< ((8 : Int32) &&& 31)) ||| (0 : Int32))).toUInt32 >>> ((((16 : Int32) - ((i * q3) % (8 : Int32))) - q3) &&& 31).toUInt32).toInt32 &&& mk
def own_B (d : Int64) (k : Int32) : Int32 := ((((((d).toUInt64 >>> (k &&& 0x3f).toInt64.toUInt64).toInt64).toInt32).toInt8.toInt32)).toInt8.toInt32
def own_data (q0 : Int64) : List Int32 := [own_B q0 56, own_B q0 48, own_B q0 40, own_B q0 32, own_B q0 24, own_B q0 16, own_B q0 8, (((q0).toInt32).toInt8.toInt32).toInt8.toInt32]
def own_fill (ys : List Int32) (q1 q3 mk : Int32) : Nat → Int32 → List Int32 → List Int32
  | 0, _, ps => ps
  | k + 1, i, ps => own_fill ys q1 q3 mk k (i + 1) (ps.set i.toInt.toNat (own_uv ys q1 q3 mk i))
theorem own_filllen (ys : List Int32) (q1 q3 mk : Int32) : ∀ (k : Nat) (i : Int32) (ps : List Int32), (own_fill ys q1 q3 mk k i ps).length = ps.length
  | 0, _, _ => rfl
  | k + 1, i, ps => by rw [own_fill, own_filllen ys q1 q3 mk k, List.length_set]
theorem own_mulb {i q2 q3 : Int32} (h0 : 0 ≤ i.toInt) (hi : i < q2) (h3 : 0 ≤ q3.toInt) (hb : q2.toInt * q3.toInt ≤ 64) : (i * q3).toInt = i.toInt * q3.toInt ∧ 0 ≤ i.toInt * q3.toInt ∧ i.toInt * q3.toInt + q3.toInt ≤ q2.toInt * q3.toInt := by
  rw [Int32.lt_iff_toInt_lt] at hi
  have a : 0 ≤ i.toInt * q3.toInt := Int.mul_nonneg h0 h3
  have b : (i.toInt + 1) * q3.toInt ≤ q2.toInt * q3.toInt := Int.mul_le_mul_of_nonneg_right (by omega) h3
  rw [Int.add_mul, Int.one_mul] at b
  exact ⟨own_imul (by omega), a, b⟩
theorem own_ld {q1 q2 q3 i v : Int32} {n : Nat} (hy : (0 ≤ q1.toInt ∧ q1.toInt ≤ 8 ∧ 1 ≤ q3.toInt ∧ q3.toInt ≤ 8 ∧ 0 ≤ q2.toInt ∧ q2.toInt ≤ 64 ∧ 8 * q1.toInt + q2.toInt * q3.toInt ≤ 64) ∧ n = 8) (h0 : 0 ≤ i.toInt) (hi : i < q2) (hv : v = q1 + (i * q3) / 8) : 0 ≤ v.toInt ∧ v.toInt < (n : Nat) := by
  obtain ⟨a, b, c⟩ := own_mulb h0 hi (by omega) (q3 := q3) (by omega)
  have e : (8 : Int32).toInt = 8 := by decide
  have d := own_idiv (x := i * q3) (y := 8) (by omega) (by omega)
  rw [e] at d
  have f := own_iadd (x := q1) (y := i * q3 / 8) (by omega)
  rw [← hv] at f
  omega
theorem own_ld2 {q1 q2 q3 i v w : Int32} {n : Nat} (hy : (0 ≤ q1.toInt ∧ q1.toInt ≤ 8 ∧ 1 ≤ q3.toInt ∧ q3.toInt ≤ 8 ∧ 0 ≤ q2.toInt ∧ q2.toInt ≤ 64 ∧ 8 * q1.toInt + q2.toInt * q3.toInt ≤ 64) ∧ n = 8) (h0 : 0 ≤ i.toInt) (hi : i < q2) (hv : v = q1 + (i * q3) / 8) (hw : w = (i * q3) % 8) (hc : (8 : Int32) < w + q3) : 0 ≤ (v + 1).toInt ∧ (v + 1).toInt < (n : Nat) := by
  obtain ⟨a, b, c⟩ := own_mulb h0 hi (by omega) (q3 := q3) (by omega)
  have e : (8 : Int32).toInt = 8 := by decide
  have e1 : (1 : Int32).toInt = 1 := by decide
  have d := own_idiv (x := i * q3) (y := 8) (by omega) (by omega)
  rw [e] at d
  have f := own_iadd (x := q1) (y := i * q3 / 8) (by omega)
  rw [← hv] at f
  have r := own_irem (x := i * q3) (y := 8) (by omega)
  rw [e, ← hw] at r
  rw [Int32.lt_iff_toInt_lt] at hc
  have g := own_iadd (x := w) (y := q3) (by omega)
  have k := own_iadd (x := v) (y := 1) (by omega)
  omega
set_option maxRecDepth 65536 in
set_option maxHeartbeats 40000000 in
theorem own_turn {p : Program} {l : Launch} {e : Env} {R : Room} {s : State} {m : MethodId} {args : Array Value} {below : List Frame} {meth : Method} {c : Code} {T0 : State} {locs : List Loc} {cells slots : Nat} {Z : State} {a0 : Array Value} {h0 : Heap} {n0 : Nat} {rb rp : Addr} {q1 q2 q3 mk i : Int32} {ys ps : List Int32} {s7 s8 s9 : Slot}
    (X0 : Stand p l e R s m args below meth c T0 locs cells slots) (hx : p.tables.exec = Jvm.exec) (hby : c.code = prog_21_method_3_code) (hml : c.maxLocals = 10) (hw : ∀ d ∈ tables_1, d.before a0 Z = true) (hZ : Z.Warmed39 s.vm) (hown : s.vm.findClass "com/example/cardglyph/cardglyph/image/PackedPoints" = some m.cls) (e0 : T0.heap = h0) (N0 : Fr n0 locs) (Z0 : n0 ≤ h0.size) (PA0 : own_AI Z h0 rb .byte ys) (PA1 : own_AI Z h0 rp .int ps) (PG0 : n0 ≤ rp) (PN0 : rb ≠ rp) (g7 : One s7) (g8 : One s8) (g9 : One s9) (hi : i < q2) (hi0 : 0 ≤ i.toInt) (hil : i.toInt < (ps.length : Nat)) (hy : (0 ≤ q1.toInt ∧ q1.toInt ≤ 8 ∧ 1 ≤ q3.toInt ∧ q3.toInt ≤ 8 ∧ 0 ≤ q2.toInt ∧ q2.toInt ≤ 64 ∧ 8 * q1.toInt + q2.toInt * q3.toInt ≤ 64) ∧ ys.length = 8) :
    ∃ T' locs' h', Stand p l e R s m args below meth c T' locs' cells slots ∧ T'.heap = h' ∧ Fr n0 locs' ∧ (own_AI Z h' rb .byte ys ∧ own_AI Z h' rp .int (ps.set (i).toInt.toNat (own_uv ys q1 q3 mk i)) ∧ Keep h0 h' [rp]) ∧ ∃ s7' s8' s9', (One s7' ∧ One s8' ∧ One s9') ∧ ∀ t, Steps p.tables e below (T'.setTop (mkF m 15 #[.val (.ref rb), .val (.int q1), .val (.int q2), .val (.int q3), .val (.int mk), .val (.ref rp), .val (.int (i + (1 : Int32))), s7', s8', s9'] [])) t → Steps p.tables e below (T0.setTop (mkF m 15 #[.val (.ref rb), .val (.int q1), .val (.int q2), .val (.int q3), .val (.int mk), .val (.ref rp), .val (.int i), s7, s8, s9] [])) t := by
  have pre0 : ∀ t, Steps p.tables e below (T0.setTop (mkF m 15 #[.val (.ref rb), .val (.int q1), .val (.int q2), .val (.int q3), .val (.int mk), .val (.ref rp), .val (.int i), s7, s8, s9] [])) t → Steps p.tables e below (T0.setTop (mkF m 15 #[.val (.ref rb), .val (.int q1), .val (.int q2), .val (.int q3), .val (.int mk), .val (.ref rp), .val (.int i), s7, s8, s9] [])) t := fun _ k => k
  obtain ⟨v1, hv1⟩ : ∃ z : Int32, z = (q1 + ((i * q3) / (8 : Int32))) := ⟨_, rfl⟩
  have pre2 : ∀ t, Steps p.tables e below (T0.setTop (mkF m 30 #[.val (.ref rb), .val (.int q1), .val (.int q2), .val (.int q3), .val (.int mk), .val (.ref rp), .val (.int i), s7, s8, s9] [(.int v1)])) t → Steps p.tables e below (T0.setTop (mkF m 15 #[.val (.ref rb), .val (.int q1), .val (.int q2), .val (.int q3), .val (.int mk), .val (.ref rp), .val (.int i), s7, s8, s9] [])) t := by
    rw [hv1]
    intro t k
    refine pre0 t ?_
    show Steps p.tables e below (T0.setTop (mkF m 15 #[.val (.ref rb), .val (.int q1), .val (.int q2), .val (.int q3), .val (.int mk), .val (.ref rp), .val (.int i), s7, s8, s9] [])) _
    refine XS.iload X0.here hx rfl (hb hby d1_15) rfl ?_
    show Steps p.tables e below (T0.setTop (mkF m 17 #[.val (.ref rb), .val (.int q1), .val (.int q2), .val (.int q3), .val (.int mk), .val (.ref rp), .val (.int i), s7, s8, s9] [(.int i)])) _
    refine XS.iloadN X0.here hx rfl (hb hby d1_17) rfl ?_
    show Steps p.tables e below (T0.setTop (mkF m 18 #[.val (.ref rb), .val (.int q1), .val (.int q2), .val (.int q3), .val (.int mk), .val (.ref rp), .val (.int i), s7, s8, s9] [(.int q2), (.int i)])) _
    refine XS.icmpNo X0.here hx rfl (hb hby d1_18) rfl ((tlt hi).2.1) ?_
    show Steps p.tables e below (T0.setTop (mkF m 21 #[.val (.ref rb), .val (.int q1), .val (.int q2), .val (.int q3), .val (.int mk), .val (.ref rp), .val (.int i), s7, s8, s9] [])) _
    refine XS.iloadN X0.here hx rfl (hb hby d1_21) rfl ?_
    show Steps p.tables e below (T0.setTop (mkF m 22 #[.val (.ref rb), .val (.int q1), .val (.int q2), .val (.int q3), .val (.int mk), .val (.ref rp), .val (.int i), s7, s8, s9] [(.int q1)])) _
    refine XS.iload X0.here hx rfl (hb hby d1_22) rfl ?_
    show Steps p.tables e below (T0.setTop (mkF m 24 #[.val (.ref rb), .val (.int q1), .val (.int q2), .val (.int q3), .val (.int mk), .val (.ref rp), .val (.int i), s7, s8, s9] [(.int i), (.int q1)])) _
    refine XS.iloadN X0.here hx rfl (hb hby d1_24) rfl ?_
    show Steps p.tables e below (T0.setTop (mkF m 25 #[.val (.ref rb), .val (.int q1), .val (.int q2), .val (.int q3), .val (.int mk), .val (.ref rp), .val (.int i), s7, s8, s9] [(.int q3), (.int i), (.int q1)])) _
    refine XS.imul X0.here hx rfl (hb hby d1_25) rfl ?_
    show Steps p.tables e below (T0.setTop (mkF m 26 #[.val (.ref rb), .val (.int q1), .val (.int q2), .val (.int q3), .val (.int mk), .val (.ref rp), .val (.int i), s7, s8, s9] [(.int (i * q3)), (.int q1)])) _
    refine XS.bipush X0.here hx rfl (hb hby d1_26) ?_
    show Steps p.tables e below (T0.setTop (mkF m 28 #[.val (.ref rb), .val (.int q1), .val (.int q2), .val (.int q3), .val (.int mk), .val (.ref rp), .val (.int i), s7, s8, s9] [(.int (8 : Int32)), (.int (i * q3)), (.int q1)])) _
    refine XS.idiv X0.here hx rfl (hb hby d1_28) rfl (by decide) ?_
    show Steps p.tables e below (T0.setTop (mkF m 29 #[.val (.ref rb), .val (.int q1), .val (.int q2), .val (.int q3), .val (.int mk), .val (.ref rp), .val (.int i), s7, s8, s9] [(.int ((i * q3) / (8 : Int32))), (.int q1)])) _
    refine XS.iadd X0.here hx rfl (hb hby d1_29) rfl ?_
    exact k
  obtain ⟨v3, hv3⟩ : ∃ z : Int32, z = ((i * q3) % (8 : Int32)) := ⟨_, rfl⟩
  have pre4 : ∀ t, Steps p.tables e below (T0.setTop (mkF m 39 #[.val (.ref rb), .val (.int q1), .val (.int q2), .val (.int q3), .val (.int mk), .val (.ref rp), .val (.int i), .val (.int v1), s8, s9] [(.int v3)])) t → Steps p.tables e below (T0.setTop (mkF m 15 #[.val (.ref rb), .val (.int q1), .val (.int q2), .val (.int q3), .val (.int mk), .val (.ref rp), .val (.int i), s7, s8, s9] [])) t := by
    rw [hv3]
    intro t k
    refine pre2 t ?_
    show Steps p.tables e below (T0.setTop (mkF m 30 #[.val (.ref rb), .val (.int q1), .val (.int q2), .val (.int q3), .val (.int mk), .val (.ref rp), .val (.int i), s7, s8, s9] [(.int v1)])) _
    refine XS.istoreS X0.here hx rfl (hb hby d1_30) rfl (o := s7) rfl g7 ?_
    show Steps p.tables e below (T0.setTop (mkF m 32 #[.val (.ref rb), .val (.int q1), .val (.int q2), .val (.int q3), .val (.int mk), .val (.ref rp), .val (.int i), .val (.int v1), s8, s9] [])) _
    refine XS.iload X0.here hx rfl (hb hby d1_32) rfl ?_
    show Steps p.tables e below (T0.setTop (mkF m 34 #[.val (.ref rb), .val (.int q1), .val (.int q2), .val (.int q3), .val (.int mk), .val (.ref rp), .val (.int i), .val (.int v1), s8, s9] [(.int i)])) _
    refine XS.iloadN X0.here hx rfl (hb hby d1_34) rfl ?_
    show Steps p.tables e below (T0.setTop (mkF m 35 #[.val (.ref rb), .val (.int q1), .val (.int q2), .val (.int q3), .val (.int mk), .val (.ref rp), .val (.int i), .val (.int v1), s8, s9] [(.int q3), (.int i)])) _
    refine XS.imul X0.here hx rfl (hb hby d1_35) rfl ?_
    show Steps p.tables e below (T0.setTop (mkF m 36 #[.val (.ref rb), .val (.int q1), .val (.int q2), .val (.int q3), .val (.int mk), .val (.ref rp), .val (.int i), .val (.int v1), s8, s9] [(.int (i * q3))])) _
    refine XS.bipush X0.here hx rfl (hb hby d1_36) ?_
    show Steps p.tables e below (T0.setTop (mkF m 38 #[.val (.ref rb), .val (.int q1), .val (.int q2), .val (.int q3), .val (.int mk), .val (.ref rp), .val (.int i), .val (.int v1), s8, s9] [(.int (8 : Int32)), (.int (i * q3))])) _
    refine iremM X0 hx rfl (hb hby d1_38) rfl (by decide) ?_
    exact k
  have in_44_5 : 0 ≤ (v1).toInt ∧ (v1).toInt < (ys.length : Nat) := (own_ld hy hi0 hi (by assumption))
  have pre6 : ∀ t, Steps p.tables e below (T0.setTop (mkF m 58 #[.val (.ref rb), .val (.int q1), .val (.int q2), .val (.int q3), .val (.int mk), .val (.ref rp), .val (.int i), .val (.int v1), .val (.int v3), s9] [(.int (8 : Int32)), (.int (v3 + q3)), (.int (((ys.getD (v1).toInt.toNat 0) &&& (255 : Int32)) <<< ((8 : Int32) &&& 31)))])) t → Steps p.tables e below (T0.setTop (mkF m 15 #[.val (.ref rb), .val (.int q1), .val (.int q2), .val (.int q3), .val (.int mk), .val (.ref rp), .val (.int i), s7, s8, s9] [])) t := by
    intro t k
    refine pre4 t ?_
    show Steps p.tables e below (T0.setTop (mkF m 39 #[.val (.ref rb), .val (.int q1), .val (.int q2), .val (.int q3), .val (.int mk), .val (.ref rp), .val (.int i), .val (.int v1), s8, s9] [(.int v3)])) _
    refine XS.istoreS X0.here hx rfl (hb hby d1_39) rfl (o := s8) rfl g8 ?_
    show Steps p.tables e below (T0.setTop (mkF m 41 #[.val (.ref rb), .val (.int q1), .val (.int q2), .val (.int q3), .val (.int mk), .val (.ref rp), .val (.int i), .val (.int v1), .val (.int v3), s9] [])) _
    refine XS.aloadN X0.here hx rfl (hb hby d1_41) rfl rfl ?_
    show Steps p.tables e below (T0.setTop (mkF m 42 #[.val (.ref rb), .val (.int q1), .val (.int q2), .val (.int q3), .val (.int mk), .val (.ref rp), .val (.int i), .val (.int v1), .val (.int v3), s9] [(.ref rb)])) _
    refine XS.iload X0.here hx rfl (hb hby d1_42) rfl ?_
    show Steps p.tables e below (T0.setTop (mkF m 44 #[.val (.ref rb), .val (.int q1), .val (.int q2), .val (.int q3), .val (.int mk), .val (.ref rp), .val (.int i), .val (.int v1), .val (.int v3), s9] [(.int v1), (.ref rb)])) _
    refine own_baloadB X0 hx hZ e0 PA0 in_44_5 (hb hby d1_44) _ ?_
    show Steps p.tables e below (T0.setTop (mkF m 45 #[.val (.ref rb), .val (.int q1), .val (.int q2), .val (.int q3), .val (.int mk), .val (.ref rp), .val (.int i), .val (.int v1), .val (.int v3), s9] [(.int (ys.getD (v1).toInt.toNat 0))])) _
    refine XS.sipush X0.here hx rfl (hb hby d1_45) ?_
    show Steps p.tables e below (T0.setTop (mkF m 48 #[.val (.ref rb), .val (.int q1), .val (.int q2), .val (.int q3), .val (.int mk), .val (.ref rp), .val (.int i), .val (.int v1), .val (.int v3), s9] [(.int (255 : Int32)), (.int (ys.getD (v1).toInt.toNat 0))])) _
    refine XS.iand X0.here hx rfl (hb hby d1_48) rfl ?_
    show Steps p.tables e below (T0.setTop (mkF m 49 #[.val (.ref rb), .val (.int q1), .val (.int q2), .val (.int q3), .val (.int mk), .val (.ref rp), .val (.int i), .val (.int v1), .val (.int v3), s9] [(.int ((ys.getD (v1).toInt.toNat 0) &&& (255 : Int32)))])) _
    refine XS.bipush X0.here hx rfl (hb hby d1_49) ?_
    show Steps p.tables e below (T0.setTop (mkF m 51 #[.val (.ref rb), .val (.int q1), .val (.int q2), .val (.int q3), .val (.int mk), .val (.ref rp), .val (.int i), .val (.int v1), .val (.int v3), s9] [(.int (8 : Int32)), (.int ((ys.getD (v1).toInt.toNat 0) &&& (255 : Int32)))])) _
    refine XS.ishl X0.here hx rfl (hb hby d1_51) rfl ?_
    show Steps p.tables e below (T0.setTop (mkF m 52 #[.val (.ref rb), .val (.int q1), .val (.int q2), .val (.int q3), .val (.int mk), .val (.ref rp), .val (.int i), .val (.int v1), .val (.int v3), s9] [(.int (((ys.getD (v1).toInt.toNat 0) &&& (255 : Int32)) <<< ((8 : Int32) &&& 31)))])) _
    refine XS.iload X0.here hx rfl (hb hby d1_52) rfl ?_
    show Steps p.tables e below (T0.setTop (mkF m 54 #[.val (.ref rb), .val (.int q1), .val (.int q2), .val (.int q3), .val (.int mk), .val (.ref rp), .val (.int i), .val (.int v1), .val (.int v3), s9] [(.int v3), (.int (((ys.getD (v1).toInt.toNat 0) &&& (255 : Int32)) <<< ((8 : Int32) &&& 31)))])) _
    refine XS.iloadN X0.here hx rfl (hb hby d1_54) rfl ?_
    show Steps p.tables e below (T0.setTop (mkF m 55 #[.val (.ref rb), .val (.int q1), .val (.int q2), .val (.int q3), .val (.int mk), .val (.ref rp), .val (.int i), .val (.int v1), .val (.int v3), s9] [(.int q3), (.int v3), (.int (((ys.getD (v1).toInt.toNat 0) &&& (255 : Int32)) <<< ((8 : Int32) &&& 31)))])) _
    refine XS.iadd X0.here hx rfl (hb hby d1_55) rfl ?_
    show Steps p.tables e below (T0.setTop (mkF m 56 #[.val (.ref rb), .val (.int q1), .val (.int q2), .val (.int q3), .val (.int mk), .val (.ref rp), .val (.int i), .val (.int v1), .val (.int v3), s9] [(.int (v3 + q3)), (.int (((ys.getD (v1).toInt.toNat 0) &&& (255 : Int32)) <<< ((8 : Int32) &&& 31)))])) _
    refine XS.bipush X0.here hx rfl (hb hby d1_56) ?_
    exact k
  by_cases c7 : (8 : Int32) < (v3 + q3)
  · have in_66_8 : 0 ≤ ((v1 + (1 : Int32))).toInt ∧ ((v1 + (1 : Int32))).toInt < (ys.length : Nat) := (own_ld2 hy hi0 hi (by assumption) (by assumption) (by assumption))
    obtain ⟨v9, hv9⟩ : ∃ z : Int32, z = ((((ys.getD (v1).toInt.toNat 0) &&& (255 : Int32)) <<< ((8 : Int32) &&& 31)) ||| ((ys.getD ((v1 + (1 : Int32))).toInt.toNat 0) &&& (255 : Int32))) := ⟨_, rfl⟩
    have pre10 : ∀ t, Steps p.tables e below (T0.setTop (mkF m 76 #[.val (.ref rb), .val (.int q1), .val (.int q2), .val (.int q3), .val (.int mk), .val (.ref rp), .val (.int i), .val (.int v1), .val (.int v3), s9] [(.int v9)])) t → Steps p.tables e below (T0.setTop (mkF m 15 #[.val (.ref rb), .val (.int q1), .val (.int q2), .val (.int q3), .val (.int mk), .val (.ref rp), .val (.int i), s7, s8, s9] [])) t := by
      rw [hv9]
      intro t k
      refine pre6 t ?_
      show Steps p.tables e below (T0.setTop (mkF m 58 #[.val (.ref rb), .val (.int q1), .val (.int q2), .val (.int q3), .val (.int mk), .val (.ref rp), .val (.int i), .val (.int v1), .val (.int v3), s9] [(.int (8 : Int32)), (.int (v3 + q3)), (.int (((ys.getD (v1).toInt.toNat 0) &&& (255 : Int32)) <<< ((8 : Int32) &&& 31)))])) _
      refine XS.icmpNo X0.here hx rfl (hb hby d1_58) rfl ((tlt c7).2.2.2) ?_
      show Steps p.tables e below (T0.setTop (mkF m 61 #[.val (.ref rb), .val (.int q1), .val (.int q2), .val (.int q3), .val (.int mk), .val (.ref rp), .val (.int i), .val (.int v1), .val (.int v3), s9] [(.int (((ys.getD (v1).toInt.toNat 0) &&& (255 : Int32)) <<< ((8 : Int32) &&& 31)))])) _
      refine XS.aloadN X0.here hx rfl (hb hby d1_61) rfl rfl ?_
      show Steps p.tables e below (T0.setTop (mkF m 62 #[.val (.ref rb), .val (.int q1), .val (.int q2), .val (.int q3), .val (.int mk), .val (.ref rp), .val (.int i), .val (.int v1), .val (.int v3), s9] [(.ref rb), (.int (((ys.getD (v1).toInt.toNat 0) &&& (255 : Int32)) <<< ((8 : Int32) &&& 31)))])) _
      refine XS.iload X0.here hx rfl (hb hby d1_62) rfl ?_
      show Steps p.tables e below (T0.setTop (mkF m 64 #[.val (.ref rb), .val (.int q1), .val (.int q2), .val (.int q3), .val (.int mk), .val (.ref rp), .val (.int i), .val (.int v1), .val (.int v3), s9] [(.int v1), (.ref rb), (.int (((ys.getD (v1).toInt.toNat 0) &&& (255 : Int32)) <<< ((8 : Int32) &&& 31)))])) _
      refine XS.iconst X0.here hx rfl (hb hby d1_64) ?_
      show Steps p.tables e below (T0.setTop (mkF m 65 #[.val (.ref rb), .val (.int q1), .val (.int q2), .val (.int q3), .val (.int mk), .val (.ref rp), .val (.int i), .val (.int v1), .val (.int v3), s9] [(.int (1 : Int32)), (.int v1), (.ref rb), (.int (((ys.getD (v1).toInt.toNat 0) &&& (255 : Int32)) <<< ((8 : Int32) &&& 31)))])) _
      refine XS.iadd X0.here hx rfl (hb hby d1_65) rfl ?_
      show Steps p.tables e below (T0.setTop (mkF m 66 #[.val (.ref rb), .val (.int q1), .val (.int q2), .val (.int q3), .val (.int mk), .val (.ref rp), .val (.int i), .val (.int v1), .val (.int v3), s9] [(.int (v1 + (1 : Int32))), (.ref rb), (.int (((ys.getD (v1).toInt.toNat 0) &&& (255 : Int32)) <<< ((8 : Int32) &&& 31)))])) _
      refine own_baloadB X0 hx hZ e0 PA0 in_66_8 (hb hby d1_66) _ ?_
      show Steps p.tables e below (T0.setTop (mkF m 67 #[.val (.ref rb), .val (.int q1), .val (.int q2), .val (.int q3), .val (.int mk), .val (.ref rp), .val (.int i), .val (.int v1), .val (.int v3), s9] [(.int (ys.getD ((v1 + (1 : Int32))).toInt.toNat 0)), (.int (((ys.getD (v1).toInt.toNat 0) &&& (255 : Int32)) <<< ((8 : Int32) &&& 31)))])) _
      refine XS.sipush X0.here hx rfl (hb hby d1_67) ?_
      show Steps p.tables e below (T0.setTop (mkF m 70 #[.val (.ref rb), .val (.int q1), .val (.int q2), .val (.int q3), .val (.int mk), .val (.ref rp), .val (.int i), .val (.int v1), .val (.int v3), s9] [(.int (255 : Int32)), (.int (ys.getD ((v1 + (1 : Int32))).toInt.toNat 0)), (.int (((ys.getD (v1).toInt.toNat 0) &&& (255 : Int32)) <<< ((8 : Int32) &&& 31)))])) _
      refine XS.iand X0.here hx rfl (hb hby d1_70) rfl ?_
      show Steps p.tables e below (T0.setTop (mkF m 71 #[.val (.ref rb), .val (.int q1), .val (.int q2), .val (.int q3), .val (.int mk), .val (.ref rp), .val (.int i), .val (.int v1), .val (.int v3), s9] [(.int ((ys.getD ((v1 + (1 : Int32))).toInt.toNat 0) &&& (255 : Int32))), (.int (((ys.getD (v1).toInt.toNat 0) &&& (255 : Int32)) <<< ((8 : Int32) &&& 31)))])) _
      refine XS.goto X0.here hx rfl (pc0 := 71) (pc' := 75) rfl (hb hby d1_71) (by decide) (by decide) ?_
      show Steps p.tables e below (T0.setTop (mkF m 75 #[.val (.ref rb), .val (.int q1), .val (.int q2), .val (.int q3), .val (.int mk), .val (.ref rp), .val (.int i), .val (.int v1), .val (.int v3), s9] [(.int ((ys.getD ((v1 + (1 : Int32))).toInt.toNat 0) &&& (255 : Int32))), (.int (((ys.getD (v1).toInt.toNat 0) &&& (255 : Int32)) <<< ((8 : Int32) &&& 31)))])) _
      refine XS.ior X0.here hx rfl (hb hby d1_75) rfl ?_
      exact k
    have in_95_12 : 0 ≤ (i).toInt ∧ (i).toInt < (ps.length : Nat) := ⟨hi0, hil⟩
    obtain ⟨T11, h11, X11, e11, W11, V11, st11⟩ := own_iastore X0 hx hZ e0 PA1 (j := i) in_95_12 (x := (((v9).toUInt32 >>> ((((16 : Int32) - v3) - q3) &&& 31).toUInt32).toInt32 &&& mk)) (hb hby d1_95) (Ls := #[.val (.ref rb), .val (.int q1), .val (.int q2), .val (.int q3), .val (.int mk), .val (.ref rp), .val (.int i), .val (.int v1), .val (.int v3), .val (.int v9)]) (rest := [])
    have V11_rb : own_AI Z h11 rb .byte ys := PA0.other W11 PN0
    have sz11 : n0 ≤ h11.size := Nat.le_trans Z0 (Keep.of_wr W11).1
    have K11 : Keep h0 h11 [rp] := (Keep.refl h0 [rp]).wr W11 (Or.inl (by simp))
    have N11 := Fr.snoc X11 N0 PG0
    have V11_n : own_AI Z h11 rp .int (ps.set (i).toInt.toNat (((v9).toUInt32 >>> ((((16 : Int32) - v3) - q3) &&& 31).toUInt32).toInt32 &&& mk)) := V11
    have pre13 : ∀ t, Steps p.tables e below (T11.setTop (mkF m 15 #[.val (.ref rb), .val (.int q1), .val (.int q2), .val (.int q3), .val (.int mk), .val (.ref rp), .val (.int (i + (1 : Int32))), .val (.int v1), .val (.int v3), .val (.int v9)] [])) t → Steps p.tables e below (T0.setTop (mkF m 15 #[.val (.ref rb), .val (.int q1), .val (.int q2), .val (.int q3), .val (.int mk), .val (.ref rp), .val (.int i), s7, s8, s9] [])) t := by
      intro t k
      refine pre10 t ?_
      show Steps p.tables e below (T0.setTop (mkF m 76 #[.val (.ref rb), .val (.int q1), .val (.int q2), .val (.int q3), .val (.int mk), .val (.ref rp), .val (.int i), .val (.int v1), .val (.int v3), s9] [(.int v9)])) _
      refine XS.istoreS X0.here hx rfl (hb hby d1_76) rfl (o := s9) rfl g9 ?_
      show Steps p.tables e below (T0.setTop (mkF m 78 #[.val (.ref rb), .val (.int q1), .val (.int q2), .val (.int q3), .val (.int mk), .val (.ref rp), .val (.int i), .val (.int v1), .val (.int v3), .val (.int v9)] [])) _
      refine XS.aload X0.here hx rfl (hb hby d1_78) rfl rfl ?_
      show Steps p.tables e below (T0.setTop (mkF m 80 #[.val (.ref rb), .val (.int q1), .val (.int q2), .val (.int q3), .val (.int mk), .val (.ref rp), .val (.int i), .val (.int v1), .val (.int v3), .val (.int v9)] [(.ref rp)])) _
      refine XS.iload X0.here hx rfl (hb hby d1_80) rfl ?_
      show Steps p.tables e below (T0.setTop (mkF m 82 #[.val (.ref rb), .val (.int q1), .val (.int q2), .val (.int q3), .val (.int mk), .val (.ref rp), .val (.int i), .val (.int v1), .val (.int v3), .val (.int v9)] [(.int i), (.ref rp)])) _
      refine XS.iload X0.here hx rfl (hb hby d1_82) rfl ?_
      show Steps p.tables e below (T0.setTop (mkF m 84 #[.val (.ref rb), .val (.int q1), .val (.int q2), .val (.int q3), .val (.int mk), .val (.ref rp), .val (.int i), .val (.int v1), .val (.int v3), .val (.int v9)] [(.int v9), (.int i), (.ref rp)])) _
      refine XS.bipush X0.here hx rfl (hb hby d1_84) ?_
      show Steps p.tables e below (T0.setTop (mkF m 86 #[.val (.ref rb), .val (.int q1), .val (.int q2), .val (.int q3), .val (.int mk), .val (.ref rp), .val (.int i), .val (.int v1), .val (.int v3), .val (.int v9)] [(.int (16 : Int32)), (.int v9), (.int i), (.ref rp)])) _
      refine XS.iload X0.here hx rfl (hb hby d1_86) rfl ?_
      show Steps p.tables e below (T0.setTop (mkF m 88 #[.val (.ref rb), .val (.int q1), .val (.int q2), .val (.int q3), .val (.int mk), .val (.ref rp), .val (.int i), .val (.int v1), .val (.int v3), .val (.int v9)] [(.int v3), (.int (16 : Int32)), (.int v9), (.int i), (.ref rp)])) _
      refine XS.isub X0.here hx rfl (hb hby d1_88) rfl ?_
      show Steps p.tables e below (T0.setTop (mkF m 89 #[.val (.ref rb), .val (.int q1), .val (.int q2), .val (.int q3), .val (.int mk), .val (.ref rp), .val (.int i), .val (.int v1), .val (.int v3), .val (.int v9)] [(.int ((16 : Int32) - v3)), (.int v9), (.int i), (.ref rp)])) _
      refine XS.iloadN X0.here hx rfl (hb hby d1_89) rfl ?_
      show Steps p.tables e below (T0.setTop (mkF m 90 #[.val (.ref rb), .val (.int q1), .val (.int q2), .val (.int q3), .val (.int mk), .val (.ref rp), .val (.int i), .val (.int v1), .val (.int v3), .val (.int v9)] [(.int q3), (.int ((16 : Int32) - v3)), (.int v9), (.int i), (.ref rp)])) _
      refine XS.isub X0.here hx rfl (hb hby d1_90) rfl ?_
      show Steps p.tables e below (T0.setTop (mkF m 91 #[.val (.ref rb), .val (.int q1), .val (.int q2), .val (.int q3), .val (.int mk), .val (.ref rp), .val (.int i), .val (.int v1), .val (.int v3), .val (.int v9)] [(.int (((16 : Int32) - v3) - q3)), (.int v9), (.int i), (.ref rp)])) _
      refine XS.iushr X0.here hx rfl (hb hby d1_91) rfl ?_
      show Steps p.tables e below (T0.setTop (mkF m 92 #[.val (.ref rb), .val (.int q1), .val (.int q2), .val (.int q3), .val (.int mk), .val (.ref rp), .val (.int i), .val (.int v1), .val (.int v3), .val (.int v9)] [(.int ((v9).toUInt32 >>> ((((16 : Int32) - v3) - q3) &&& 31).toUInt32).toInt32), (.int i), (.ref rp)])) _
      refine XS.iload X0.here hx rfl (hb hby d1_92) rfl ?_
      show Steps p.tables e below (T0.setTop (mkF m 94 #[.val (.ref rb), .val (.int q1), .val (.int q2), .val (.int q3), .val (.int mk), .val (.ref rp), .val (.int i), .val (.int v1), .val (.int v3), .val (.int v9)] [(.int mk), (.int ((v9).toUInt32 >>> ((((16 : Int32) - v3) - q3) &&& 31).toUInt32).toInt32), (.int i), (.ref rp)])) _
      refine XS.iand X0.here hx rfl (hb hby d1_94) rfl ?_
      show Steps p.tables e below (T0.setTop (mkF m 95 #[.val (.ref rb), .val (.int q1), .val (.int q2), .val (.int q3), .val (.int mk), .val (.ref rp), .val (.int i), .val (.int v1), .val (.int v3), .val (.int v9)] [(.int (((v9).toUInt32 >>> ((((16 : Int32) - v3) - q3) &&& 31).toUInt32).toInt32 &&& mk)), (.int i), (.ref rp)])) _
      refine st11 _ ?_
      show Steps p.tables e below (T11.setTop (mkF m 96 #[.val (.ref rb), .val (.int q1), .val (.int q2), .val (.int q3), .val (.int mk), .val (.ref rp), .val (.int i), .val (.int v1), .val (.int v3), .val (.int v9)] [])) _
      refine XS.iinc X11.here hx rfl (hb hby d1_96) rfl (l' := #[.val (.ref rb), .val (.int q1), .val (.int q2), .val (.int q3), .val (.int mk), .val (.ref rp), .val (.int (i + (1 : Int32))), .val (.int v1), .val (.int v3), .val (.int v9)]) rfl ?_
      show Steps p.tables e below (T11.setTop (mkF m 99 #[.val (.ref rb), .val (.int q1), .val (.int q2), .val (.int q3), .val (.int mk), .val (.ref rp), .val (.int (i + (1 : Int32))), .val (.int v1), .val (.int v3), .val (.int v9)] [])) _
      refine XS.goto X11.here hx rfl (pc0 := 99) (pc' := 15) rfl (hb hby d1_99) (by decide) (by decide) ?_
      exact k
    exact ⟨_, _, _, X11, e11, N11, ⟨V11_rb, (by have w_hv9 := hv9.symm; subst w_hv9; have w_hv3 := hv3.symm; subst w_hv3; have w_hv1 := hv1.symm; subst w_hv1;  rw [own_uv, if_pos c7]; exact V11_n), K11⟩, _, _, _, ⟨One.val rfl, One.val rfl, One.val rfl⟩, pre13⟩
  · obtain ⟨v14, hv14⟩ : ∃ z : Int32, z = ((((ys.getD (v1).toInt.toNat 0) &&& (255 : Int32)) <<< ((8 : Int32) &&& 31)) ||| (0 : Int32)) := ⟨_, rfl⟩
    have pre15 : ∀ t, Steps p.tables e below (T0.setTop (mkF m 76 #[.val (.ref rb), .val (.int q1), .val (.int q2), .val (.int q3), .val (.int mk), .val (.ref rp), .val (.int i), .val (.int v1), .val (.int v3), s9] [(.int v14)])) t → Steps p.tables e below (T0.setTop (mkF m 15 #[.val (.ref rb), .val (.int q1), .val (.int q2), .val (.int q3), .val (.int mk), .val (.ref rp), .val (.int i), s7, s8, s9] [])) t := by
      rw [hv14]
      intro t k
      refine pre6 t ?_
      show Steps p.tables e below (T0.setTop (mkF m 58 #[.val (.ref rb), .val (.int q1), .val (.int q2), .val (.int q3), .val (.int mk), .val (.ref rp), .val (.int i), .val (.int v1), .val (.int v3), s9] [(.int (8 : Int32)), (.int (v3 + q3)), (.int (((ys.getD (v1).toInt.toNat 0) &&& (255 : Int32)) <<< ((8 : Int32) &&& 31)))])) _
      refine XS.icmpYes X0.here hx rfl (pc0 := 58) (pc' := 74) rfl (hb hby d1_58) rfl ((flt c7).2.2.2) (by decide) (by decide) ?_
      show Steps p.tables e below (T0.setTop (mkF m 74 #[.val (.ref rb), .val (.int q1), .val (.int q2), .val (.int q3), .val (.int mk), .val (.ref rp), .val (.int i), .val (.int v1), .val (.int v3), s9] [(.int (((ys.getD (v1).toInt.toNat 0) &&& (255 : Int32)) <<< ((8 : Int32) &&& 31)))])) _
      refine XS.iconst X0.here hx rfl (hb hby d1_74) ?_
      show Steps p.tables e below (T0.setTop (mkF m 75 #[.val (.ref rb), .val (.int q1), .val (.int q2), .val (.int q3), .val (.int mk), .val (.ref rp), .val (.int i), .val (.int v1), .val (.int v3), s9] [(.int (0 : Int32)), (.int (((ys.getD (v1).toInt.toNat 0) &&& (255 : Int32)) <<< ((8 : Int32) &&& 31)))])) _
      refine XS.ior X0.here hx rfl (hb hby d1_75) rfl ?_
      exact k
    have in_95_17 : 0 ≤ (i).toInt ∧ (i).toInt < (ps.length : Nat) := ⟨hi0, hil⟩
    obtain ⟨T16, h16, X16, e16, W16, V16, st16⟩ := own_iastore X0 hx hZ e0 PA1 (j := i) in_95_17 (x := (((v14).toUInt32 >>> ((((16 : Int32) - v3) - q3) &&& 31).toUInt32).toInt32 &&& mk)) (hb hby d1_95) (Ls := #[.val (.ref rb), .val (.int q1), .val (.int q2), .val (.int q3), .val (.int mk), .val (.ref rp), .val (.int i), .val (.int v1), .val (.int v3), .val (.int v14)]) (rest := [])
    have V16_rb : own_AI Z h16 rb .byte ys := PA0.other W16 PN0
    have sz16 : n0 ≤ h16.size := Nat.le_trans Z0 (Keep.of_wr W16).1
    have K16 : Keep h0 h16 [rp] := (Keep.refl h0 [rp]).wr W16 (Or.inl (by simp))
    have N16 := Fr.snoc X16 N0 PG0
    have V16_n : own_AI Z h16 rp .int (ps.set (i).toInt.toNat (((v14).toUInt32 >>> ((((16 : Int32) - v3) - q3) &&& 31).toUInt32).toInt32 &&& mk)) := V16
    have pre18 : ∀ t, Steps p.tables e below (T16.setTop (mkF m 15 #[.val (.ref rb), .val (.int q1), .val (.int q2), .val (.int q3), .val (.int mk), .val (.ref rp), .val (.int (i + (1 : Int32))), .val (.int v1), .val (.int v3), .val (.int v14)] [])) t → Steps p.tables e below (T0.setTop (mkF m 15 #[.val (.ref rb), .val (.int q1), .val (.int q2), .val (.int q3), .val (.int mk), .val (.ref rp), .val (.int i), s7, s8, s9] [])) t := by
      intro t k
      refine pre15 t ?_
      show Steps p.tables e below (T0.setTop (mkF m 76 #[.val (.ref rb), .val (.int q1), .val (.int q2), .val (.int q3), .val (.int mk), .val (.ref rp), .val (.int i), .val (.int v1), .val (.int v3), s9] [(.int v14)])) _
      refine XS.istoreS X0.here hx rfl (hb hby d1_76) rfl (o := s9) rfl g9 ?_
      show Steps p.tables e below (T0.setTop (mkF m 78 #[.val (.ref rb), .val (.int q1), .val (.int q2), .val (.int q3), .val (.int mk), .val (.ref rp), .val (.int i), .val (.int v1), .val (.int v3), .val (.int v14)] [])) _
      refine XS.aload X0.here hx rfl (hb hby d1_78) rfl rfl ?_
      show Steps p.tables e below (T0.setTop (mkF m 80 #[.val (.ref rb), .val (.int q1), .val (.int q2), .val (.int q3), .val (.int mk), .val (.ref rp), .val (.int i), .val (.int v1), .val (.int v3), .val (.int v14)] [(.ref rp)])) _
      refine XS.iload X0.here hx rfl (hb hby d1_80) rfl ?_
      show Steps p.tables e below (T0.setTop (mkF m 82 #[.val (.ref rb), .val (.int q1), .val (.int q2), .val (.int q3), .val (.int mk), .val (.ref rp), .val (.int i), .val (.int v1), .val (.int v3), .val (.int v14)] [(.int i), (.ref rp)])) _
      refine XS.iload X0.here hx rfl (hb hby d1_82) rfl ?_
      show Steps p.tables e below (T0.setTop (mkF m 84 #[.val (.ref rb), .val (.int q1), .val (.int q2), .val (.int q3), .val (.int mk), .val (.ref rp), .val (.int i), .val (.int v1), .val (.int v3), .val (.int v14)] [(.int v14), (.int i), (.ref rp)])) _
      refine XS.bipush X0.here hx rfl (hb hby d1_84) ?_
      show Steps p.tables e below (T0.setTop (mkF m 86 #[.val (.ref rb), .val (.int q1), .val (.int q2), .val (.int q3), .val (.int mk), .val (.ref rp), .val (.int i), .val (.int v1), .val (.int v3), .val (.int v14)] [(.int (16 : Int32)), (.int v14), (.int i), (.ref rp)])) _
      refine XS.iload X0.here hx rfl (hb hby d1_86) rfl ?_
      show Steps p.tables e below (T0.setTop (mkF m 88 #[.val (.ref rb), .val (.int q1), .val (.int q2), .val (.int q3), .val (.int mk), .val (.ref rp), .val (.int i), .val (.int v1), .val (.int v3), .val (.int v14)] [(.int v3), (.int (16 : Int32)), (.int v14), (.int i), (.ref rp)])) _
      refine XS.isub X0.here hx rfl (hb hby d1_88) rfl ?_
      show Steps p.tables e below (T0.setTop (mkF m 89 #[.val (.ref rb), .val (.int q1), .val (.int q2), .val (.int q3), .val (.int mk), .val (.ref rp), .val (.int i), .val (.int v1), .val (.int v3), .val (.int v14)] [(.int ((16 : Int32) - v3)), (.int v14), (.int i), (.ref rp)])) _
      refine XS.iloadN X0.here hx rfl (hb hby d1_89) rfl ?_
      show Steps p.tables e below (T0.setTop (mkF m 90 #[.val (.ref rb), .val (.int q1), .val (.int q2), .val (.int q3), .val (.int mk), .val (.ref rp), .val (.int i), .val (.int v1), .val (.int v3), .val (.int v14)] [(.int q3), (.int ((16 : Int32) - v3)), (.int v14), (.int i), (.ref rp)])) _
      refine XS.isub X0.here hx rfl (hb hby d1_90) rfl ?_
      show Steps p.tables e below (T0.setTop (mkF m 91 #[.val (.ref rb), .val (.int q1), .val (.int q2), .val (.int q3), .val (.int mk), .val (.ref rp), .val (.int i), .val (.int v1), .val (.int v3), .val (.int v14)] [(.int (((16 : Int32) - v3) - q3)), (.int v14), (.int i), (.ref rp)])) _
      refine XS.iushr X0.here hx rfl (hb hby d1_91) rfl ?_
      show Steps p.tables e below (T0.setTop (mkF m 92 #[.val (.ref rb), .val (.int q1), .val (.int q2), .val (.int q3), .val (.int mk), .val (.ref rp), .val (.int i), .val (.int v1), .val (.int v3), .val (.int v14)] [(.int ((v14).toUInt32 >>> ((((16 : Int32) - v3) - q3) &&& 31).toUInt32).toInt32), (.int i), (.ref rp)])) _
      refine XS.iload X0.here hx rfl (hb hby d1_92) rfl ?_
      show Steps p.tables e below (T0.setTop (mkF m 94 #[.val (.ref rb), .val (.int q1), .val (.int q2), .val (.int q3), .val (.int mk), .val (.ref rp), .val (.int i), .val (.int v1), .val (.int v3), .val (.int v14)] [(.int mk), (.int ((v14).toUInt32 >>> ((((16 : Int32) - v3) - q3) &&& 31).toUInt32).toInt32), (.int i), (.ref rp)])) _
      refine XS.iand X0.here hx rfl (hb hby d1_94) rfl ?_
      show Steps p.tables e below (T0.setTop (mkF m 95 #[.val (.ref rb), .val (.int q1), .val (.int q2), .val (.int q3), .val (.int mk), .val (.ref rp), .val (.int i), .val (.int v1), .val (.int v3), .val (.int v14)] [(.int (((v14).toUInt32 >>> ((((16 : Int32) - v3) - q3) &&& 31).toUInt32).toInt32 &&& mk)), (.int i), (.ref rp)])) _
      refine st16 _ ?_
      show Steps p.tables e below (T16.setTop (mkF m 96 #[.val (.ref rb), .val (.int q1), .val (.int q2), .val (.int q3), .val (.int mk), .val (.ref rp), .val (.int i), .val (.int v1), .val (.int v3), .val (.int v14)] [])) _
      refine XS.iinc X16.here hx rfl (hb hby d1_96) rfl (l' := #[.val (.ref rb), .val (.int q1), .val (.int q2), .val (.int q3), .val (.int mk), .val (.ref rp), .val (.int (i + (1 : Int32))), .val (.int v1), .val (.int v3), .val (.int v14)]) rfl ?_
      show Steps p.tables e below (T16.setTop (mkF m 99 #[.val (.ref rb), .val (.int q1), .val (.int q2), .val (.int q3), .val (.int mk), .val (.ref rp), .val (.int (i + (1 : Int32))), .val (.int v1), .val (.int v3), .val (.int v14)] [])) _
      refine XS.goto X16.here hx rfl (pc0 := 99) (pc' := 15) rfl (hb hby d1_99) (by decide) (by decide) ?_
      exact k
    exact ⟨_, _, _, X16, e16, N16, ⟨V16_rb, (by have w_hv14 := hv14.symm; subst w_hv14; have w_hv3 := hv3.symm; subst w_hv3; have w_hv1 := hv1.symm; subst w_hv1;  rw [own_uv, if_neg c7]; exact V16_n), K16⟩, _, _, _, ⟨One.val rfl, One.val rfl, One.val rfl⟩, pre18⟩
set_option maxRecDepth 65536 in
set_option maxHeartbeats 40000000 in
theorem own_out {p : Program} {l : Launch} {e : Env} {R : Room} {s : State} {m : MethodId} {args : Array Value} {below : List Frame} {meth : Method} {c : Code} {T0 : State} {locs : List Loc} {cells slots : Nat} {Z : State} {a0 : Array Value} {h0 : Heap} {n0 : Nat} {rb rp : Addr} {q1 q2 q3 mk i : Int32} {ys ps : List Int32} {s7 s8 s9 : Slot}
    (X0 : Stand p l e R s m args below meth c T0 locs cells slots) (hx : p.tables.exec = Jvm.exec) (hby : c.code = prog_21_method_3_code) (hml : c.maxLocals = 10) (hw : ∀ d ∈ tables_1, d.before a0 Z = true) (hZ : Z.Warmed39 s.vm) (hown : s.vm.findClass "com/example/cardglyph/cardglyph/image/PackedPoints" = some m.cls) (e0 : T0.heap = h0) (N0 : Fr n0 locs) (Z0 : n0 ≤ h0.size) (PA0 : own_AI Z h0 rb .byte ys) (PA1 : own_AI Z h0 rp .int ps) (PG0 : n0 ≤ rp) (PN0 : rb ≠ rp) (g7 : One s7) (g8 : One s8) (g9 : One s9) (hi : ¬ i < q2) :
    ∃ T' locs' h', Stand p l e R s m args below meth c T' locs' cells slots ∧ T'.heap = h' ∧ Fr n0 locs' ∧ (own_AI Z h' rb .byte ys ∧ own_AI Z h' rp .int ps ∧ Keep h0 h' [rp]) ∧ ∃ s7' s8' s9', (One s7' ∧ One s8' ∧ One s9') ∧ ∀ t, Steps p.tables e below (T'.setTop (mkF m 102 #[.val (.ref rb), .val (.int q1), .val (.int q2), .val (.int q3), .val (.int mk), .val (.ref rp), .val (.int i), s7', s8', s9'] [])) t → Steps p.tables e below (T0.setTop (mkF m 15 #[.val (.ref rb), .val (.int q1), .val (.int q2), .val (.int q3), .val (.int mk), .val (.ref rp), .val (.int i), s7, s8, s9] [])) t := by
  have pre0 : ∀ t, Steps p.tables e below (T0.setTop (mkF m 15 #[.val (.ref rb), .val (.int q1), .val (.int q2), .val (.int q3), .val (.int mk), .val (.ref rp), .val (.int i), s7, s8, s9] [])) t → Steps p.tables e below (T0.setTop (mkF m 15 #[.val (.ref rb), .val (.int q1), .val (.int q2), .val (.int q3), .val (.int mk), .val (.ref rp), .val (.int i), s7, s8, s9] [])) t := fun _ k => k
  have pre1 : ∀ t, Steps p.tables e below (T0.setTop (mkF m 102 #[.val (.ref rb), .val (.int q1), .val (.int q2), .val (.int q3), .val (.int mk), .val (.ref rp), .val (.int i), s7, s8, s9] [])) t → Steps p.tables e below (T0.setTop (mkF m 15 #[.val (.ref rb), .val (.int q1), .val (.int q2), .val (.int q3), .val (.int mk), .val (.ref rp), .val (.int i), s7, s8, s9] [])) t := by
    intro t k
    refine pre0 t ?_
    show Steps p.tables e below (T0.setTop (mkF m 15 #[.val (.ref rb), .val (.int q1), .val (.int q2), .val (.int q3), .val (.int mk), .val (.ref rp), .val (.int i), s7, s8, s9] [])) _
    refine XS.iload X0.here hx rfl (hb hby d1_15) rfl ?_
    show Steps p.tables e below (T0.setTop (mkF m 17 #[.val (.ref rb), .val (.int q1), .val (.int q2), .val (.int q3), .val (.int mk), .val (.ref rp), .val (.int i), s7, s8, s9] [(.int i)])) _
    refine XS.iloadN X0.here hx rfl (hb hby d1_17) rfl ?_
    show Steps p.tables e below (T0.setTop (mkF m 18 #[.val (.ref rb), .val (.int q1), .val (.int q2), .val (.int q3), .val (.int mk), .val (.ref rp), .val (.int i), s7, s8, s9] [(.int q2), (.int i)])) _
    refine XS.icmpYes X0.here hx rfl (pc0 := 18) (pc' := 102) rfl (hb hby d1_18) rfl ((flt hi).2.1) (by decide) (by decide) ?_
    exact k
  exact ⟨_, _, _, X0, e0, N0, ⟨PA0, PA1, (Keep.refl h0 [rp])⟩, _, _, _, ⟨g7, g8, g9⟩, pre1⟩
set_option maxRecDepth 65536 in
theorem own_loop {p : Program} {l : Launch} {e : Env} {R : Room} {s : State} {m : MethodId} {args : Array Value} {below : List Frame} {meth : Method} {c : Code} {cells slots : Nat} {Z : State} {a0 : Array Value} {n0 : Nat} {rb rp : Addr} {q1 q2 q3 mk : Int32} {ys : List Int32} (hx : p.tables.exec = Jvm.exec) (hby : c.code = prog_21_method_3_code) (hml : c.maxLocals = 10) (hw : ∀ d ∈ tables_1, d.before a0 Z = true) (hZ : Z.Warmed39 s.vm) (hown : s.vm.findClass "com/example/cardglyph/cardglyph/image/PackedPoints" = some m.cls) (PG : n0 ≤ rp) (PN : rb ≠ rp) (hy : (0 ≤ q1.toInt ∧ q1.toInt ≤ 8 ∧ 1 ≤ q3.toInt ∧ q3.toInt ≤ 8 ∧ 0 ≤ q2.toInt ∧ q2.toInt ≤ 64 ∧ 8 * q1.toInt + q2.toInt * q3.toInt ≤ 64) ∧ ys.length = 8) :
    ∀ (k : Nat) (i : Int32) (ps : List Int32) {T0 : State} {locs : List Loc} {h0 : Heap} {s7 s8 s9 : Slot} (g7 : One s7) (g8 : One s8) (g9 : One s9) (X0 : Stand p l e R s m args below meth c T0 locs cells slots) (e0 : T0.heap = h0) (N0 : Fr n0 locs) (Z0 : n0 ≤ h0.size) (A1 : own_AI Z h0 rb .byte ys) (A2 : own_AI Z h0 rp .int ps) (hk : i.toInt + k = q2.toInt) (h0i : 0 ≤ i.toInt) (hl : q2.toInt = (ps.length : Nat)),
    ∃ T' locs' h', Stand p l e R s m args below meth c T' locs' cells slots ∧ T'.heap = h' ∧ Fr n0 locs' ∧ (own_AI Z h' rb .byte ys ∧ own_AI Z h' rp .int (own_fill ys q1 q3 mk k i ps) ∧ Keep h0 h' [rp]) ∧ ∃ s7' s8' s9', (One s7' ∧ One s8' ∧ One s9') ∧ ∀ t, Steps p.tables e below (T'.setTop (mkF m 102 #[.val (.ref rb), .val (.int q1), .val (.int q2), .val (.int q3), .val (.int mk), .val (.ref rp), .val (.int q2), s7', s8', s9'] [])) t → Steps p.tables e below (T0.setTop (mkF m 15 #[.val (.ref rb), .val (.int q1), .val (.int q2), .val (.int q3), .val (.int mk), .val (.ref rp), .val (.int i), s7, s8, s9] [])) t
  | 0, i, ps, T0, locs, h0, s7, s8, s9, g7, g8, g9, X0, e0, N0, Z0, A1, A2, hk, h0i, hl => by
    have hq : i = q2 := Int32.toInt_inj.mp (by omega)
    subst hq
    exact own_out X0 hx hby hml hw hZ hown e0 N0 Z0 A1 A2 PG PN g7 g8 g9 (by rw [Int32.lt_iff_toInt_lt]; omega)
  | k + 1, i, ps, T0, locs, h0, s7, s8, s9, g7, g8, g9, X0, e0, N0, Z0, A1, A2, hk, h0i, hl => by
    have e1 : (1 : Int32).toInt = 1 := by decide
    have a1 := own_iadd (x := i) (y := 1) (by omega)
    obtain ⟨T1, l1, h1, X1, f1, N1, ⟨B1, B2, K1⟩, t7, t8, t9, ⟨u7, u8, u9⟩, st1⟩ := own_turn X0 hx hby hml hw hZ hown e0 N0 Z0 A1 A2 PG PN g7 g8 g9 (by rw [Int32.lt_iff_toInt_lt]; omega) h0i (by omega) hy
    obtain ⟨T2, l2, h2, X2, f2, N2, ⟨C1, C2, K2⟩, w7, w8, w9, G2, st2⟩ := own_loop hx hby hml hw hZ hown PG PN hy k (i + 1) _ u7 u8 u9 X1 f1 N1 (Nat.le_trans Z0 K1.1) B1 B2 (by omega) (by omega) (by rw [List.length_set]; exact hl)
    exact ⟨T2, l2, h2, X2, f2, N2, ⟨C1, C2, K1.trans K2 (allS (Or.inl (by simp)) all0)⟩, w7, w8, w9, G2, fun t kk => st1 t (st2 t kk)⟩
theorem ef_1 (m : MethodId) (rb : Addr) (q1 : Int32) (q2 : Int32) (q3 : Int32) : entryFrame m #[(.ref rb), (.int q1), (.int q2), (.int q3)] 10 = mkF m 0 #[.val (.ref rb), .val (.int q1), .val (.int q2), .val (.int q3), .unset, .unset, .unset, .unset, .unset, .unset] [] := by first | (simp [entryFrame, mkF, argsToLocals, Value.category, maxLocals]; done) | rfl
def Q1 (Z : State) (rb : Addr) (q1 : Int32) (q2 : Int32) (q3 : Int32) (ys : List Int32) (h0 : Heap) (n0 : Nat) (v : Option Value) (h : Heap) (L : List Loc) : Prop := v = some (.ref h0.size) ∧ Fr n0 L ∧ Keep h0 h [] ∧ own_AI Z h h0.size .int (own_fill ys q1 q3 (((1 : Int32) <<< (q3 &&& 31)) - (1 : Int32)) (q2).toInt.toNat 0 (List.replicate (q2).toInt.toNat 0))
set_option maxRecDepth 65536 in
set_option maxHeartbeats 40000000 in
theorem rm1 (l : Launch) (Z : State) (a0 : Array Value) (hw : ∀ d ∈ tables_1, d.before a0 Z = true) (ws : List Jvm.Cond) (rb : Addr) (q1 : Int32) (q2 : Int32) (q3 : Int32) (ys : List Int32) (h0 : Heap) (n0 : Nat) (Z0 : n0 ≤ h0.size) (PA0 : own_AI Z h0 rb .byte ys) (hy : (0 ≤ q1.toInt ∧ q1.toInt ≤ 8 ∧ 1 ≤ q3.toInt ∧ q3.toInt ≤ 8 ∧ 0 ≤ q2.toInt ∧ q2.toInt ≤ 64 ∧ 8 * q1.toInt + q2.toInt * q3.toInt ≤ 64) ∧ ys.length = 8) :
    MetFree l (⟨"com/example/cardglyph/cardglyph/image/PackedPoints", "unpack", "([BIII)[I"⟩ : MethodName) (head1 (Jvm.Cond.code (⟨"com/example/cardglyph/cardglyph/image/PackedPoints", "unpack", "([BIII)[I"⟩ : MethodName) prog_21_method_3_code 10 (some (.array .int)) :: ws) ({ frames := 0, cells := 1, slots := 64, locals := 0 } : Room)) (fun a U => a = #[(.ref rb), (.int q1), (.int q2), (.int q3)] ∧ Z.Warmed39 U.vm ∧ U.heap = h0) (fun _ _ _ _ _ => True) (fun _ U o U' => ∃ v L, o = .returned v ∧ Q1 Z rb q1 q2 q3 ys h0 n0 v U'.heap L ∧ FrameEnd U o U' L ({ frames := 0, cells := 1, slots := 64, locals := 0 } : Room).cells ({ frames := 0, cells := 1, slots := 64, locals := 0 } : Room).slots) := by
  refine MetFree.of_bodySF (plainFor_of_name pn_1) hisR ?_
  intro p e s m args below meth c s₁ Bd hml0 hP hK
  obtain ⟨rfl, hZ, hh⟩ := hP
  have hx := Bd.exec
  have hby := Bd.bytes
  have hml : c.maxLocals = 10 := hml0
  have hown : s.vm.findClass "com/example/cardglyph/cardglyph/image/PackedPoints" = some m.cls := findClass_of_methodNamed Bd.named
  have hnm := (name_of_methodNamed Bd.named Bd.method).1
  have X0 : Stand p l e ({ frames := 0, cells := 1, slots := 64, locals := 0 } : Room) s m #[(.ref rb), (.int q1), (.int q2), (.int q3)] below meth c s₁ [] 0 0 := Stand.of_body Bd
  have hlk : meth.locks = false := by first | exact BodyLoose.notSynchronized (by assumption) | exact Body.notSynchronized (by assumption)
  have e0 : s₁.heap = h0 := by rw [← hh, Bd.state]; rfl
  have N0 := Fr.nil n0
  have pre0 : ∀ t, Steps p.tables e below (s₁.setTop (mkF m 0 #[.val (.ref rb), .val (.int q1), .val (.int q2), .val (.int q3), .unset, .unset, .unset, .unset, .unset, .unset] [])) t → Steps p.tables e below (s₁.setTop (entryFrame m #[(.ref rb), (.int q1), (.int q2), (.int q3)] 10)) t := fun t k => castTop (ef_1 m rb q1 q2 q3) k
  obtain ⟨v1, hv1⟩ : ∃ z : Int32, z = (((1 : Int32) <<< (q3 &&& 31)) - (1 : Int32)) := ⟨_, rfl⟩
  have pre2 : ∀ t, Steps p.tables e below (s₁.setTop (mkF m 5 #[.val (.ref rb), .val (.int q1), .val (.int q2), .val (.int q3), .unset, .unset, .unset, .unset, .unset, .unset] [(.int v1)])) t → Steps p.tables e below (s₁.setTop (entryFrame m #[(.ref rb), (.int q1), (.int q2), (.int q3)] 10)) t := by
    rw [hv1]
    intro t k
    refine pre0 t ?_
    show Steps p.tables e below (s₁.setTop (mkF m 0 #[.val (.ref rb), .val (.int q1), .val (.int q2), .val (.int q3), .unset, .unset, .unset, .unset, .unset, .unset] [])) _
    refine XS.iconst X0.here hx rfl (hb hby d1_0) ?_
    show Steps p.tables e below (s₁.setTop (mkF m 1 #[.val (.ref rb), .val (.int q1), .val (.int q2), .val (.int q3), .unset, .unset, .unset, .unset, .unset, .unset] [(.int (1 : Int32))])) _
    refine XS.iloadN X0.here hx rfl (hb hby d1_1) rfl ?_
    show Steps p.tables e below (s₁.setTop (mkF m 2 #[.val (.ref rb), .val (.int q1), .val (.int q2), .val (.int q3), .unset, .unset, .unset, .unset, .unset, .unset] [(.int q3), (.int (1 : Int32))])) _
    refine XS.ishl X0.here hx rfl (hb hby d1_2) rfl ?_
    show Steps p.tables e below (s₁.setTop (mkF m 3 #[.val (.ref rb), .val (.int q1), .val (.int q2), .val (.int q3), .unset, .unset, .unset, .unset, .unset, .unset] [(.int ((1 : Int32) <<< (q3 &&& 31)))])) _
    refine XS.iconst X0.here hx rfl (hb hby d1_3) ?_
    show Steps p.tables e below (s₁.setTop (mkF m 4 #[.val (.ref rb), .val (.int q1), .val (.int q2), .val (.int q3), .unset, .unset, .unset, .unset, .unset, .unset] [(.int (1 : Int32)), (.int ((1 : Int32) <<< (q3 &&& 31)))])) _
    refine XS.isub X0.here hx rfl (hb hby d1_4) rfl ?_
    exact k
  obtain ⟨T3, h3, cA3, X3, e3, E3, A3, st3⟩ := newP X0 hx hZ (aty := .int) (hw _ (List.mem_of_getElem? (i := 6) rfl)) e0 (g := (mkF m 8 #[.val (.ref rb), .val (.int q1), .val (.int q2), .val (.int q3), .val (.int v1), .unset, .unset, .unset, .unset, .unset] [(.int q2)])) rfl (hb hby d1_8) rfl (by rw [Int32.lt_iff_toInt_lt, show (0 : Int32).toInt = 0 from by decide]; omega) (cap := 64) (by show (q2).toInt.toNat ≤ 64; omega) (by decide) (by decide) (by decide)
  obtain ⟨a3, g3⟩ : ∃ z, z = h0.size := ⟨_, rfl⟩
  rw [← g3] at A3 st3
  have ne_rb_a3 : rb ≠ a3 := g3 ▸ Nat.ne_of_lt PA0.lt
  have ge_a3 : n0 ≤ a3 := g3 ▸ Z0
  have go_a3 : h0.size ≤ a3 := g3 ▸ (Keep.refl h0 []).1
  have V3_rb : own_AI Z h3 rb .byte ys := PA0.ext E3
  have sz3 : n0 ≤ h3.size := Nat.le_trans Z0 E3.1
  have K3 : Keep h0 h3 [] := (Keep.refl h0 []).ext E3
  have V3_n : own_AI Z h3 a3 .int (List.replicate (q2).toInt.toNat 0) := own_AIint_new A3 (k := (q2).toInt.toNat) rfl
  have pre4 : ∀ t, Steps p.tables e below (T3.setTop (mkF m 15 #[.val (.ref rb), .val (.int q1), .val (.int q2), .val (.int q3), .val (.int v1), .val (.ref a3), .val (.int (0 : Int32)), .unset, .unset, .unset] [])) t → Steps p.tables e below (s₁.setTop (entryFrame m #[(.ref rb), (.int q1), (.int q2), (.int q3)] 10)) t := by
    intro t k
    refine pre2 t ?_
    show Steps p.tables e below (s₁.setTop (mkF m 5 #[.val (.ref rb), .val (.int q1), .val (.int q2), .val (.int q3), .unset, .unset, .unset, .unset, .unset, .unset] [(.int v1)])) _
    refine XS.istore X0.here hx rfl (hb hby d1_5) rfl (l' := #[.val (.ref rb), .val (.int q1), .val (.int q2), .val (.int q3), .val (.int v1), .unset, .unset, .unset, .unset, .unset]) rfl ?_
    show Steps p.tables e below (s₁.setTop (mkF m 7 #[.val (.ref rb), .val (.int q1), .val (.int q2), .val (.int q3), .val (.int v1), .unset, .unset, .unset, .unset, .unset] [])) _
    refine XS.iloadN X0.here hx rfl (hb hby d1_7) rfl ?_
    show Steps p.tables e below (s₁.setTop (mkF m 8 #[.val (.ref rb), .val (.int q1), .val (.int q2), .val (.int q3), .val (.int v1), .unset, .unset, .unset, .unset, .unset] [(.int q2)])) _
    refine st3 _ ?_
    show Steps p.tables e below (T3.setTop (mkF m 10 #[.val (.ref rb), .val (.int q1), .val (.int q2), .val (.int q3), .val (.int v1), .unset, .unset, .unset, .unset, .unset] [(.ref a3)])) _
    refine XS.astore X3.here hx rfl (hb hby d1_10) rfl rfl (l' := #[.val (.ref rb), .val (.int q1), .val (.int q2), .val (.int q3), .val (.int v1), .val (.ref a3), .unset, .unset, .unset, .unset]) rfl ?_
    show Steps p.tables e below (T3.setTop (mkF m 12 #[.val (.ref rb), .val (.int q1), .val (.int q2), .val (.int q3), .val (.int v1), .val (.ref a3), .unset, .unset, .unset, .unset] [])) _
    refine XS.iconst X3.here hx rfl (hb hby d1_12) ?_
    show Steps p.tables e below (T3.setTop (mkF m 13 #[.val (.ref rb), .val (.int q1), .val (.int q2), .val (.int q3), .val (.int v1), .val (.ref a3), .unset, .unset, .unset, .unset] [(.int (0 : Int32))])) _
    refine XS.istore X3.here hx rfl (hb hby d1_13) rfl (l' := #[.val (.ref rb), .val (.int q1), .val (.int q2), .val (.int q3), .val (.int v1), .val (.ref a3), .val (.int (0 : Int32)), .unset, .unset, .unset]) rfl ?_
    exact k
  obtain ⟨T5, l5, h5, X5, e5, N5, ⟨VB5, VP5, KL5⟩, u7, u8, u9, -, st5⟩ := own_loop (mk := v1) hx hby hml hw hZ hown ge_a3 ne_rb_a3 hy (q2).toInt.toNat 0 _ One.u One.u One.u X3 e3 N0 sz3 V3_rb V3_n (by rw [show (0 : Int32).toInt = 0 from by decide]; omega) (by decide) (by rw [List.length_replicate]; omega)
  have KK5 : Keep h0 h5 [] := K3.trans KL5 (allS (Or.inr go_a3) all0)
  have sz5 : n0 ≤ h5.size := Nat.le_trans sz3 KL5.1
  obtain ⟨fs, hr, hrun, hended, hW, hsame⟩ := X5.leave (v := some (.ref a3)) (fun h => by rw [Bd.returns] at h; cases h) hlk
  refine ⟨_, _, pre4 _ ?_, hrun, hended, _, _, rfl, ?_, ⟨_, rfl⟩, hW, hsame.mono (by decide) (by decide)⟩
  · show Steps p.tables e below (T3.setTop (mkF m 15 #[.val (.ref rb), .val (.int q1), .val (.int q2), .val (.int q3), .val (.int v1), .val (.ref a3), .val (.int (0 : Int32)), .unset, .unset, .unset] [])) _
    refine st5 _ ?_
    show Steps p.tables e below (T5.setTop (mkF m 102 #[.val (.ref rb), .val (.int q1), .val (.int q2), .val (.int q3), .val (.int v1), .val (.ref a3), .val (.int q2), u7, u8, u9] [])) _
    refine XS.aload X5.here hx rfl (hb hby d1_102) rfl rfl ?_
    show Steps p.tables e below (T5.setTop (mkF m 104 #[.val (.ref rb), .val (.int q1), .val (.int q2), .val (.int q3), .val (.int v1), .val (.ref a3), .val (.int q2), u7, u8, u9] [(.ref a3)])) _
    exact retOut X5 hx Bd.returns rfl (Or.inr (Or.inr (Or.inr (Or.inr ⟨rfl, rfl, rfl⟩)))) (hb hby d1_104) hr
  · show Q1 Z rb q1 q2 q3 ys h0 n0 _ T5.heap _
    rw [e5]
    exact ⟨by rw [g3], N5, KK5, (by rw [← g3]; exact (by rw [← hv1]; exact VP5))⟩
theorem own_rem {x y n : Int32} {k : Int} (h : y = (x &&& 2147483647) % n) (hn : n.toInt = k) (hk : 1 ≤ k) : 0 ≤ y.toInt ∧ y.toInt < k := by
  have a := own_mask x 2147483647 31 (by decide) (by decide)
  have b := own_irem (x := x &&& 2147483647) (y := n) (by omega)
  have c := Int.emod_lt_of_pos (x &&& 2147483647).toInt (show 0 < n.toInt by omega)
  have d := Int.emod_nonneg (x &&& 2147483647).toInt (show n.toInt ≠ 0 by omega)
  rw [← h] at b
  omega
theorem own_from {x f : Int32} (h : f = x &&& 3) : 0 ≤ f.toInt ∧ f.toInt ≤ 3 := by
  have a := own_mask x 3 2 (by decide) (by decide)
  rw [h]; omega
theorem own_bits {x b : Int32} (h : b = (x &&& 7) + 1) : 1 ≤ b.toInt ∧ b.toInt ≤ 8 := by
  have a := own_mask x 7 3 (by decide) (by decide)
  have e1 : (1 : Int32).toInt = 1 := by decide
  have r := own_iadd (x := x &&& 7) (y := 1) (by omega)
  rw [h]; omega
theorem own_max {x x2 f b mx : Int32} (hf : f = x &&& 3) (hb : b = (x2 &&& 7) + 1) (hm : mx = ((8 - f) * 8) / b) : 0 ≤ mx.toInt ∧ mx.toInt ≤ 64 ∧ mx.toInt * b.toInt ≤ 64 - 8 * f.toInt := by
  have a := own_from hf
  have c := own_bits hb
  have e : (8 : Int32).toInt = 8 := by decide
  have s := own_isub (x := 8) (y := f) (by omega)
  have m := own_imul (x := 8 - f) (y := 8) (by rw [e]; omega)
  rw [e] at m
  have d := own_idiv (x := (8 - f) * 8) (y := b) (by omega) (by omega)
  rw [← hm, m, s, e] at d
  clear m
  have g1 : 0 ≤ (8 - f.toInt) * 8 / b.toInt := Int.ediv_nonneg (by omega) (by omega)
  have g2 : (8 - f.toInt) * 8 / b.toInt ≤ (8 - f.toInt) * 8 := Int.ediv_le_self _ (by omega)
  have g3 : (8 - f.toInt) * 8 / b.toInt * b.toInt ≤ (8 - f.toInt) * 8 := Int.ediv_mul_le _ (by omega)
  rw [d]
  omega
theorem own_nzb {x b : Int32} (h : b = (x &&& 7) + 1) : ¬ b = 0 := own_nzP (own_bits h).1
theorem own_nzm {x x2 f b mx : Int32} (hf : f = x &&& 3) (hb : b = (x2 &&& 7) + 1) (hm : mx = ((8 - f) * 8) / b) : ¬ (mx + 1) = 0 := by
  have a := own_max hf hb hm
  have e1 : (1 : Int32).toInt = 1 := by decide
  have r := own_iadd (x := mx) (y := 1) (by omega)
  exact own_nzP (by omega)
theorem own_cnt {x x2 x3 f b mx n : Int32} (hf : f = x &&& 3) (hb : b = (x2 &&& 7) + 1) (hm : mx = ((8 - f) * 8) / b) (hn : n = (x3 &&& 2147483647) % (mx + 1)) : 0 ≤ n.toInt ∧ n.toInt ≤ 64 ∧ n.toInt * b.toInt ≤ 64 - 8 * f.toInt := by
  have a := own_max hf hb hm
  have e1 : (1 : Int32).toInt = 1 := by decide
  have r := own_iadd (x := mx) (y := 1) (by omega)
  have q := own_rem hn (k := mx.toInt + 1) (by omega) (by omega)
  have c := own_bits hb
  have m : n.toInt * b.toInt ≤ mx.toInt * b.toInt := Int.mul_le_mul_of_nonneg_right (by omega) (by omega)
  omega
theorem own_hy {x x2 x3 f b mx n : Int32} (hf : f = x &&& 3) (hb : b = (x2 &&& 7) + 1) (hm : mx = ((8 - f) * 8) / b) (hn : n = (x3 &&& 2147483647) % (mx + 1)) : (0 ≤ f.toInt ∧ f.toInt ≤ 8 ∧ 1 ≤ b.toInt ∧ b.toInt ≤ 8 ∧ 0 ≤ n.toInt ∧ n.toInt ≤ 64 ∧ 8 * f.toInt + n.toInt * b.toInt ≤ 64) ∧ 8 = 8 := by
  have a := own_cnt hf hb hm hn
  have c := own_bits hb
  have d := own_from hf
  omega
theorem own_pin {x x2 x3 x4 f b mx n p : Int32} (hf : f = x &&& 3) (hb : b = (x2 &&& 7) + 1) (hm : mx = ((8 - f) * 8) / b) (hn : n = (x3 &&& 2147483647) % (mx + 1)) (h0 : ¬ n = 0) (hp : p = (x4 &&& 2147483647) % n) : 0 ≤ p.toInt ∧ p.toInt < n.toInt := by
  have a := own_cnt hf hb hm hn
  have e0 : (0 : Int32).toInt = 0 := by decide
  rw [← Int32.toInt_inj, e0] at h0
  exact own_rem hp rfl (by omega)
theorem pn_2 : plainName "com/example/cardglyph/cardglyph/image/PackedPointsUnpackPinLaw" = true := by first | (simp [plainName, overriddenIn]; done) | decide +kernel
theorem ef_0 (m : MethodId) (q0 : Int64) (q1 : Int32) (q2 : Int32) (q3 : Int32) (q4 : Int32) : entryFrame m #[(.long q0), (.int q1), (.int q2), (.int q3), (.int q4)] maxLocals = mkF m 0 #[.val (.long q0), .second, .val (.int q1), .val (.int q2), .val (.int q3), .val (.int q4), .unset, .unset, .unset, .unset, .unset, .unset, .unset, .unset, .unset, .unset] [] := by first | (simp [entryFrame, mkF, argsToLocals, Value.category, maxLocals]; done) | rfl
theorem pd_3 : parseMethodDescriptor "([BIII)[I" = some ⟨[(.array .byte), .int, .int, .int], some (.array .int)⟩ := by decide +kernel
def own_f0 (q0 : Int64) (q1 : Int32) (q2 : Int32) (q3 : Int32) (q4 : Int32) : Int32 := let v11 := (q1 &&& (3 : Int32))
  let v13 := ((q3 &&& (7 : Int32)) + (1 : Int32))
  let v16 := ((((8 : Int32) - v11) * (8 : Int32)) / v13)
  let v19 := ((q2 &&& (2147483647 : Int32)) % (v16 + (1 : Int32)))
  (if ((own_fill ((own_data q0)) v11 v13 (((1 : Int32) <<< (v13 &&& 31)) - (1 : Int32)) (v19).toInt.toNat 0 (List.replicate (v19).toInt.toNat 0)).length).toInt32 = v19 then (if v19 = (0 : Int32) then (1 : Int32) else let v27 := ((q4 &&& (2147483647 : Int32)) % v19)
  let v29 := ((v11 * (8 : Int32)) + (v27 * v13))
  let v31 := (((64 : Int32) - v29) - v13)
  let v33 := ((((q0).toUInt64 >>> (v31 &&& 0x3f).toInt64.toUInt64).toInt64 &&& (((1 : Int64) <<< (v13 &&& 0x3f).toInt64) - (1 : Int64)))).toInt32
  (if ((own_fill ((own_data q0)) v11 v13 (((1 : Int32) <<< (v13 &&& 31)) - (1 : Int32)) (v19).toInt.toNat 0 (List.replicate (v19).toInt.toNat 0)).getD (v27).toInt.toNat 0) = v33 then (1 : Int32) else (0 : Int32))) else (0 : Int32))
def Q0 (Z : State) (q0 : Int64) (q1 : Int32) (q2 : Int32) (q3 : Int32) (q4 : Int32)  (h0 : Heap) (n0 : Nat) (v : Option Value) (h : Heap) (L : List Loc) : Prop := v = some (.int (own_f0 q0 q1 q2 q3 q4)) ∧ Fr n0 L
set_option maxRecDepth 65536 in
set_option maxHeartbeats 40000000 in
theorem rm0 (l : Launch) (Z : State) (a0 : Array Value) (hw : ∀ d ∈ tables_1, d.before a0 Z = true) (ws : List Jvm.Cond) (q0 : Int64) (q1 : Int32) (q2 : Int32) (q3 : Int32) (q4 : Int32)  (h0 : Heap) (n0 : Nat) (Z0 : n0 ≤ h0.size)  :
    MetFree l x (head1 (Jvm.Cond.code x code maxLocals ret :: ws) room_1) (fun a U => a = #[(.long q0), (.int q1), (.int q2), (.int q3), (.int q4)] ∧ Z.Warmed39 U.vm ∧ U.heap = h0) (fun _ _ _ _ _ => True) (fun _ U o U' => ∃ v L, o = .returned v ∧ Q0 Z q0 q1 q2 q3 q4 h0 n0 v U'.heap L ∧ FrameEnd U o U' L room_1.cells room_1.slots) := by
  refine MetFree.of_bodySF (plainFor_of_name pn_2) hisR ?_
  intro p e s m args below meth c s₁ Bd hml0 hP hK
  obtain ⟨rfl, hZ, hh⟩ := hP
  have hx := Bd.exec
  have hby := Bd.bytes
  have hml : c.maxLocals = 16 := hml0
  have hown : s.vm.findClass "com/example/cardglyph/cardglyph/image/PackedPointsUnpackPinLaw" = some m.cls := findClass_of_methodNamed Bd.named
  have hnm := (name_of_methodNamed Bd.named Bd.method).1
  have X0 : Stand p l e room_1 s m #[(.long q0), (.int q1), (.int q2), (.int q3), (.int q4)] below meth c s₁ [] 0 0 := Stand.of_body Bd
  have hlk : meth.locks = false := by first | exact BodyLoose.notSynchronized (by assumption) | exact Body.notSynchronized (by assumption)
  have e0 : s₁.heap = h0 := by rw [← hh, Bd.state]; rfl
  have N0 := Fr.nil n0
  have pre0 : ∀ t, Steps p.tables e below (s₁.setTop (mkF m 0 #[.val (.long q0), .second, .val (.int q1), .val (.int q2), .val (.int q3), .val (.int q4), .unset, .unset, .unset, .unset, .unset, .unset, .unset, .unset, .unset, .unset] [])) t → Steps p.tables e below (s₁.setTop (entryFrame m #[(.long q0), (.int q1), (.int q2), (.int q3), (.int q4)] maxLocals)) t := fun t k => castTop (ef_0 m q0 q1 q2 q3 q4) k
  obtain ⟨T1, h1, cA1, X1, e1, E1, A1, st1⟩ := newP X0 hx hZ (aty := .byte) (hw _ (List.mem_of_getElem? (i := 0) rfl)) e0 (g := (mkF m 2 #[.val (.long q0), .second, .val (.int q1), .val (.int q2), .val (.int q3), .val (.int q4), .unset, .unset, .unset, .unset, .unset, .unset, .unset, .unset, .unset, .unset] [(.int (8 : Int32))])) rfl (hb hby at_2) rfl (by decide) (cap := 8) (by decide) (by decide) (by decide) (by decide)
  obtain ⟨a1, g1⟩ : ∃ z, z = h0.size := ⟨_, rfl⟩
  rw [← g1] at A1 st1
  have ge_a1 : n0 ≤ a1 := g1 ▸ Z0
  have sz1 : n0 ≤ h1.size := Nat.le_trans Z0 E1.1
  have V1_n : own_AI Z h1 a1 .byte [(0 : Int32), (0 : Int32), (0 : Int32), (0 : Int32), (0 : Int32), (0 : Int32), (0 : Int32), (0 : Int32)] := own_AIbyte_new A1 (k := 8) (by decide)
  obtain ⟨T2, h2, X2, e2, W2, V2, st2⟩ := own_bastoreB X1 hx hZ e1 V1_n (j := (0 : Int32)) (show 0 ≤ Int32.toInt (0 : Int32) ∧ Int32.toInt (0 : Int32) < ((8 : Nat) : Int) by decide) (x := ((((q0).toUInt64 >>> ((56 : Int32) &&& 0x3f).toInt64.toUInt64).toInt64).toInt32).toInt8.toInt32) (hb hby at_15) (Ls := #[.val (.long q0), .second, .val (.int q1), .val (.int q2), .val (.int q3), .val (.int q4), .val (.ref a1), .unset, .unset, .unset, .unset, .unset, .unset, .unset, .unset, .unset]) (rest := [])
  have sz2 : n0 ≤ h2.size := Nat.le_trans sz1 (Keep.of_wr W2).1
  have N2 := Fr.snoc X2 N0 ge_a1
  have V2_n : own_AI Z h2 a1 .byte [(((((q0).toUInt64 >>> ((56 : Int32) &&& 0x3f).toInt64.toUInt64).toInt64).toInt32).toInt8.toInt32).toInt8.toInt32, (0 : Int32), (0 : Int32), (0 : Int32), (0 : Int32), (0 : Int32), (0 : Int32), (0 : Int32)] := V2
  obtain ⟨T3, h3, X3, e3, W3, V3, st3⟩ := own_bastoreB X2 hx hZ e2 V2_n (j := (1 : Int32)) (show 0 ≤ Int32.toInt (1 : Int32) ∧ Int32.toInt (1 : Int32) < ((8 : Nat) : Int) by decide) (x := ((((q0).toUInt64 >>> ((48 : Int32) &&& 0x3f).toInt64.toUInt64).toInt64).toInt32).toInt8.toInt32) (hb hby at_25) (Ls := #[.val (.long q0), .second, .val (.int q1), .val (.int q2), .val (.int q3), .val (.int q4), .val (.ref a1), .unset, .unset, .unset, .unset, .unset, .unset, .unset, .unset, .unset]) (rest := [])
  have sz3 : n0 ≤ h3.size := Nat.le_trans sz2 (Keep.of_wr W3).1
  have N3 := Fr.snoc X3 N2 ge_a1
  have V3_n : own_AI Z h3 a1 .byte [(((((q0).toUInt64 >>> ((56 : Int32) &&& 0x3f).toInt64.toUInt64).toInt64).toInt32).toInt8.toInt32).toInt8.toInt32, (((((q0).toUInt64 >>> ((48 : Int32) &&& 0x3f).toInt64.toUInt64).toInt64).toInt32).toInt8.toInt32).toInt8.toInt32, (0 : Int32), (0 : Int32), (0 : Int32), (0 : Int32), (0 : Int32), (0 : Int32)] := V3
  obtain ⟨T4, h4, X4, e4, W4, V4, st4⟩ := own_bastoreB X3 hx hZ e3 V3_n (j := (2 : Int32)) (show 0 ≤ Int32.toInt (2 : Int32) ∧ Int32.toInt (2 : Int32) < ((8 : Nat) : Int) by decide) (x := ((((q0).toUInt64 >>> ((40 : Int32) &&& 0x3f).toInt64.toUInt64).toInt64).toInt32).toInt8.toInt32) (hb hby at_35) (Ls := #[.val (.long q0), .second, .val (.int q1), .val (.int q2), .val (.int q3), .val (.int q4), .val (.ref a1), .unset, .unset, .unset, .unset, .unset, .unset, .unset, .unset, .unset]) (rest := [])
  have sz4 : n0 ≤ h4.size := Nat.le_trans sz3 (Keep.of_wr W4).1
  have N4 := Fr.snoc X4 N3 ge_a1
  have V4_n : own_AI Z h4 a1 .byte [(((((q0).toUInt64 >>> ((56 : Int32) &&& 0x3f).toInt64.toUInt64).toInt64).toInt32).toInt8.toInt32).toInt8.toInt32, (((((q0).toUInt64 >>> ((48 : Int32) &&& 0x3f).toInt64.toUInt64).toInt64).toInt32).toInt8.toInt32).toInt8.toInt32, (((((q0).toUInt64 >>> ((40 : Int32) &&& 0x3f).toInt64.toUInt64).toInt64).toInt32).toInt8.toInt32).toInt8.toInt32, (0 : Int32), (0 : Int32), (0 : Int32), (0 : Int32), (0 : Int32)] := V4
  obtain ⟨T5, h5, X5, e5, W5, V5, st5⟩ := own_bastoreB X4 hx hZ e4 V4_n (j := (3 : Int32)) (show 0 ≤ Int32.toInt (3 : Int32) ∧ Int32.toInt (3 : Int32) < ((8 : Nat) : Int) by decide) (x := ((((q0).toUInt64 >>> ((32 : Int32) &&& 0x3f).toInt64.toUInt64).toInt64).toInt32).toInt8.toInt32) (hb hby at_45) (Ls := #[.val (.long q0), .second, .val (.int q1), .val (.int q2), .val (.int q3), .val (.int q4), .val (.ref a1), .unset, .unset, .unset, .unset, .unset, .unset, .unset, .unset, .unset]) (rest := [])
  have sz5 : n0 ≤ h5.size := Nat.le_trans sz4 (Keep.of_wr W5).1
  have N5 := Fr.snoc X5 N4 ge_a1
  have V5_n : own_AI Z h5 a1 .byte [(((((q0).toUInt64 >>> ((56 : Int32) &&& 0x3f).toInt64.toUInt64).toInt64).toInt32).toInt8.toInt32).toInt8.toInt32, (((((q0).toUInt64 >>> ((48 : Int32) &&& 0x3f).toInt64.toUInt64).toInt64).toInt32).toInt8.toInt32).toInt8.toInt32, (((((q0).toUInt64 >>> ((40 : Int32) &&& 0x3f).toInt64.toUInt64).toInt64).toInt32).toInt8.toInt32).toInt8.toInt32, (((((q0).toUInt64 >>> ((32 : Int32) &&& 0x3f).toInt64.toUInt64).toInt64).toInt32).toInt8.toInt32).toInt8.toInt32, (0 : Int32), (0 : Int32), (0 : Int32), (0 : Int32)] := V5
  obtain ⟨T6, h6, X6, e6, W6, V6, st6⟩ := own_bastoreB X5 hx hZ e5 V5_n (j := (4 : Int32)) (show 0 ≤ Int32.toInt (4 : Int32) ∧ Int32.toInt (4 : Int32) < ((8 : Nat) : Int) by decide) (x := ((((q0).toUInt64 >>> ((24 : Int32) &&& 0x3f).toInt64.toUInt64).toInt64).toInt32).toInt8.toInt32) (hb hby at_55) (Ls := #[.val (.long q0), .second, .val (.int q1), .val (.int q2), .val (.int q3), .val (.int q4), .val (.ref a1), .unset, .unset, .unset, .unset, .unset, .unset, .unset, .unset, .unset]) (rest := [])
  have sz6 : n0 ≤ h6.size := Nat.le_trans sz5 (Keep.of_wr W6).1
  have N6 := Fr.snoc X6 N5 ge_a1
  have V6_n : own_AI Z h6 a1 .byte [(((((q0).toUInt64 >>> ((56 : Int32) &&& 0x3f).toInt64.toUInt64).toInt64).toInt32).toInt8.toInt32).toInt8.toInt32, (((((q0).toUInt64 >>> ((48 : Int32) &&& 0x3f).toInt64.toUInt64).toInt64).toInt32).toInt8.toInt32).toInt8.toInt32, (((((q0).toUInt64 >>> ((40 : Int32) &&& 0x3f).toInt64.toUInt64).toInt64).toInt32).toInt8.toInt32).toInt8.toInt32, (((((q0).toUInt64 >>> ((32 : Int32) &&& 0x3f).toInt64.toUInt64).toInt64).toInt32).toInt8.toInt32).toInt8.toInt32, (((((q0).toUInt64 >>> ((24 : Int32) &&& 0x3f).toInt64.toUInt64).toInt64).toInt32).toInt8.toInt32).toInt8.toInt32, (0 : Int32), (0 : Int32), (0 : Int32)] := V6
  obtain ⟨T7, h7, X7, e7, W7, V7, st7⟩ := own_bastoreB X6 hx hZ e6 V6_n (j := (5 : Int32)) (show 0 ≤ Int32.toInt (5 : Int32) ∧ Int32.toInt (5 : Int32) < ((8 : Nat) : Int) by decide) (x := ((((q0).toUInt64 >>> ((16 : Int32) &&& 0x3f).toInt64.toUInt64).toInt64).toInt32).toInt8.toInt32) (hb hby at_65) (Ls := #[.val (.long q0), .second, .val (.int q1), .val (.int q2), .val (.int q3), .val (.int q4), .val (.ref a1), .unset, .unset, .unset, .unset, .unset, .unset, .unset, .unset, .unset]) (rest := [])
  have sz7 : n0 ≤ h7.size := Nat.le_trans sz6 (Keep.of_wr W7).1
  have N7 := Fr.snoc X7 N6 ge_a1
  have V7_n : own_AI Z h7 a1 .byte [(((((q0).toUInt64 >>> ((56 : Int32) &&& 0x3f).toInt64.toUInt64).toInt64).toInt32).toInt8.toInt32).toInt8.toInt32, (((((q0).toUInt64 >>> ((48 : Int32) &&& 0x3f).toInt64.toUInt64).toInt64).toInt32).toInt8.toInt32).toInt8.toInt32, (((((q0).toUInt64 >>> ((40 : Int32) &&& 0x3f).toInt64.toUInt64).toInt64).toInt32).toInt8.toInt32).toInt8.toInt32, (((((q0).toUInt64 >>> ((32 : Int32) &&& 0x3f).toInt64.toUInt64).toInt64).toInt32).toInt8.toInt32).toInt8.toInt32, (((((q0).toUInt64 >>> ((24 : Int32) &&& 0x3f).toInt64.toUInt64).toInt64).toInt32).toInt8.toInt32).toInt8.toInt32, (((((q0).toUInt64 >>> ((16 : Int32) &&& 0x3f).toInt64.toUInt64).toInt64).toInt32).toInt8.toInt32).toInt8.toInt32, (0 : Int32), (0 : Int32)] := V7
  obtain ⟨T8, h8, X8, e8, W8, V8, st8⟩ := own_bastoreB X7 hx hZ e7 V7_n (j := (6 : Int32)) (show 0 ≤ Int32.toInt (6 : Int32) ∧ Int32.toInt (6 : Int32) < ((8 : Nat) : Int) by decide) (x := ((((q0).toUInt64 >>> ((8 : Int32) &&& 0x3f).toInt64.toUInt64).toInt64).toInt32).toInt8.toInt32) (hb hby at_76) (Ls := #[.val (.long q0), .second, .val (.int q1), .val (.int q2), .val (.int q3), .val (.int q4), .val (.ref a1), .unset, .unset, .unset, .unset, .unset, .unset, .unset, .unset, .unset]) (rest := [])
  have sz8 : n0 ≤ h8.size := Nat.le_trans sz7 (Keep.of_wr W8).1
  have N8 := Fr.snoc X8 N7 ge_a1
  have V8_n : own_AI Z h8 a1 .byte [(((((q0).toUInt64 >>> ((56 : Int32) &&& 0x3f).toInt64.toUInt64).toInt64).toInt32).toInt8.toInt32).toInt8.toInt32, (((((q0).toUInt64 >>> ((48 : Int32) &&& 0x3f).toInt64.toUInt64).toInt64).toInt32).toInt8.toInt32).toInt8.toInt32, (((((q0).toUInt64 >>> ((40 : Int32) &&& 0x3f).toInt64.toUInt64).toInt64).toInt32).toInt8.toInt32).toInt8.toInt32, (((((q0).toUInt64 >>> ((32 : Int32) &&& 0x3f).toInt64.toUInt64).toInt64).toInt32).toInt8.toInt32).toInt8.toInt32, (((((q0).toUInt64 >>> ((24 : Int32) &&& 0x3f).toInt64.toUInt64).toInt64).toInt32).toInt8.toInt32).toInt8.toInt32, (((((q0).toUInt64 >>> ((16 : Int32) &&& 0x3f).toInt64.toUInt64).toInt64).toInt32).toInt8.toInt32).toInt8.toInt32, (((((q0).toUInt64 >>> ((8 : Int32) &&& 0x3f).toInt64.toUInt64).toInt64).toInt32).toInt8.toInt32).toInt8.toInt32, (0 : Int32)] := V8
  obtain ⟨T9, h9, X9, e9, W9, V9, st9⟩ := own_bastoreB X8 hx hZ e8 V8_n (j := (7 : Int32)) (show 0 ≤ Int32.toInt (7 : Int32) ∧ Int32.toInt (7 : Int32) < ((8 : Nat) : Int) by decide) (x := ((q0).toInt32).toInt8.toInt32) (hb hby at_84) (Ls := #[.val (.long q0), .second, .val (.int q1), .val (.int q2), .val (.int q3), .val (.int q4), .val (.ref a1), .unset, .unset, .unset, .unset, .unset, .unset, .unset, .unset, .unset]) (rest := [])
  have sz9 : n0 ≤ h9.size := Nat.le_trans sz8 (Keep.of_wr W9).1
  have N9 := Fr.snoc X9 N8 ge_a1
  have V9_n : own_AI Z h9 a1 .byte [(((((q0).toUInt64 >>> ((56 : Int32) &&& 0x3f).toInt64.toUInt64).toInt64).toInt32).toInt8.toInt32).toInt8.toInt32, (((((q0).toUInt64 >>> ((48 : Int32) &&& 0x3f).toInt64.toUInt64).toInt64).toInt32).toInt8.toInt32).toInt8.toInt32, (((((q0).toUInt64 >>> ((40 : Int32) &&& 0x3f).toInt64.toUInt64).toInt64).toInt32).toInt8.toInt32).toInt8.toInt32, (((((q0).toUInt64 >>> ((32 : Int32) &&& 0x3f).toInt64.toUInt64).toInt64).toInt32).toInt8.toInt32).toInt8.toInt32, (((((q0).toUInt64 >>> ((24 : Int32) &&& 0x3f).toInt64.toUInt64).toInt64).toInt32).toInt8.toInt32).toInt8.toInt32, (((((q0).toUInt64 >>> ((16 : Int32) &&& 0x3f).toInt64.toUInt64).toInt64).toInt32).toInt8.toInt32).toInt8.toInt32, (((((q0).toUInt64 >>> ((8 : Int32) &&& 0x3f).toInt64.toUInt64).toInt64).toInt32).toInt8.toInt32).toInt8.toInt32, (((q0).toInt32).toInt8.toInt32).toInt8.toInt32] := V9
  have V10_a : own_AI Z h9 a1 .byte (own_data q0) := V9_n
  obtain ⟨v11, hv11⟩ : ∃ z : Int32, z = (q1 &&& (3 : Int32)) := ⟨_, rfl⟩
  have pre12 : ∀ t, Steps p.tables e below (T9.setTop (mkF m 88 #[.val (.long q0), .second, .val (.int q1), .val (.int q2), .val (.int q3), .val (.int q4), .val (.ref a1), .unset, .unset, .unset, .unset, .unset, .unset, .unset, .unset, .unset] [(.int v11)])) t → Steps p.tables e below (s₁.setTop (entryFrame m #[(.long q0), (.int q1), (.int q2), (.int q3), (.int q4)] maxLocals)) t := by
    rw [hv11]
    intro t k
    refine pre0 t ?_
    show Steps p.tables e below (s₁.setTop (mkF m 0 #[.val (.long q0), .second, .val (.int q1), .val (.int q2), .val (.int q3), .val (.int q4), .unset, .unset, .unset, .unset, .unset, .unset, .unset, .unset, .unset, .unset] [])) _
    refine XS.bipush X0.here hx rfl (hb hby at_0) ?_
    show Steps p.tables e below (s₁.setTop (mkF m 2 #[.val (.long q0), .second, .val (.int q1), .val (.int q2), .val (.int q3), .val (.int q4), .unset, .unset, .unset, .unset, .unset, .unset, .unset, .unset, .unset, .unset] [(.int (8 : Int32))])) _
    refine st1 _ ?_
    show Steps p.tables e below (T1.setTop (mkF m 4 #[.val (.long q0), .second, .val (.int q1), .val (.int q2), .val (.int q3), .val (.int q4), .unset, .unset, .unset, .unset, .unset, .unset, .unset, .unset, .unset, .unset] [(.ref a1)])) _
    refine XS.astore X1.here hx rfl (hb hby at_4) rfl rfl (l' := #[.val (.long q0), .second, .val (.int q1), .val (.int q2), .val (.int q3), .val (.int q4), .val (.ref a1), .unset, .unset, .unset, .unset, .unset, .unset, .unset, .unset, .unset]) rfl ?_
    show Steps p.tables e below (T1.setTop (mkF m 6 #[.val (.long q0), .second, .val (.int q1), .val (.int q2), .val (.int q3), .val (.int q4), .val (.ref a1), .unset, .unset, .unset, .unset, .unset, .unset, .unset, .unset, .unset] [])) _
    refine XS.aload X1.here hx rfl (hb hby at_6) rfl rfl ?_
    show Steps p.tables e below (T1.setTop (mkF m 8 #[.val (.long q0), .second, .val (.int q1), .val (.int q2), .val (.int q3), .val (.int q4), .val (.ref a1), .unset, .unset, .unset, .unset, .unset, .unset, .unset, .unset, .unset] [(.ref a1)])) _
    refine XS.iconst X1.here hx rfl (hb hby at_8) ?_
    show Steps p.tables e below (T1.setTop (mkF m 9 #[.val (.long q0), .second, .val (.int q1), .val (.int q2), .val (.int q3), .val (.int q4), .val (.ref a1), .unset, .unset, .unset, .unset, .unset, .unset, .unset, .unset, .unset] [(.int (0 : Int32)), (.ref a1)])) _
    refine XS.lloadN X1.here hx rfl (hb hby at_9) rfl ?_
    show Steps p.tables e below (T1.setTop (mkF m 10 #[.val (.long q0), .second, .val (.int q1), .val (.int q2), .val (.int q3), .val (.int q4), .val (.ref a1), .unset, .unset, .unset, .unset, .unset, .unset, .unset, .unset, .unset] [(.long q0), (.int (0 : Int32)), (.ref a1)])) _
    refine XS.bipush X1.here hx rfl (hb hby at_10) ?_
    show Steps p.tables e below (T1.setTop (mkF m 12 #[.val (.long q0), .second, .val (.int q1), .val (.int q2), .val (.int q3), .val (.int q4), .val (.ref a1), .unset, .unset, .unset, .unset, .unset, .unset, .unset, .unset, .unset] [(.int (56 : Int32)), (.long q0), (.int (0 : Int32)), (.ref a1)])) _
    refine XS.lushr X1.here hx rfl (hb hby at_12) rfl ?_
    show Steps p.tables e below (T1.setTop (mkF m 13 #[.val (.long q0), .second, .val (.int q1), .val (.int q2), .val (.int q3), .val (.int q4), .val (.ref a1), .unset, .unset, .unset, .unset, .unset, .unset, .unset, .unset, .unset] [(.long ((q0).toUInt64 >>> ((56 : Int32) &&& 0x3f).toInt64.toUInt64).toInt64), (.int (0 : Int32)), (.ref a1)])) _
    refine XS.l2i X1.here hx rfl (hb hby at_13) rfl ?_
    show Steps p.tables e below (T1.setTop (mkF m 14 #[.val (.long q0), .second, .val (.int q1), .val (.int q2), .val (.int q3), .val (.int q4), .val (.ref a1), .unset, .unset, .unset, .unset, .unset, .unset, .unset, .unset, .unset] [(.int (((q0).toUInt64 >>> ((56 : Int32) &&& 0x3f).toInt64.toUInt64).toInt64).toInt32), (.int (0 : Int32)), (.ref a1)])) _
    refine XS.i2b X1.here hx rfl (hb hby at_14) rfl ?_
    show Steps p.tables e below (T1.setTop (mkF m 15 #[.val (.long q0), .second, .val (.int q1), .val (.int q2), .val (.int q3), .val (.int q4), .val (.ref a1), .unset, .unset, .unset, .unset, .unset, .unset, .unset, .unset, .unset] [(.int ((((q0).toUInt64 >>> ((56 : Int32) &&& 0x3f).toInt64.toUInt64).toInt64).toInt32).toInt8.toInt32), (.int (0 : Int32)), (.ref a1)])) _
    refine st2 _ ?_
    show Steps p.tables e below (T2.setTop (mkF m 16 #[.val (.long q0), .second, .val (.int q1), .val (.int q2), .val (.int q3), .val (.int q4), .val (.ref a1), .unset, .unset, .unset, .unset, .unset, .unset, .unset, .unset, .unset] [])) _
    refine XS.aload X2.here hx rfl (hb hby at_16) rfl rfl ?_
    show Steps p.tables e below (T2.setTop (mkF m 18 #[.val (.long q0), .second, .val (.int q1), .val (.int q2), .val (.int q3), .val (.int q4), .val (.ref a1), .unset, .unset, .unset, .unset, .unset, .unset, .unset, .unset, .unset] [(.ref a1)])) _
    refine XS.iconst X2.here hx rfl (hb hby at_18) ?_
    show Steps p.tables e below (T2.setTop (mkF m 19 #[.val (.long q0), .second, .val (.int q1), .val (.int q2), .val (.int q3), .val (.int q4), .val (.ref a1), .unset, .unset, .unset, .unset, .unset, .unset, .unset, .unset, .unset] [(.int (1 : Int32)), (.ref a1)])) _
    refine XS.lloadN X2.here hx rfl (hb hby at_19) rfl ?_
    show Steps p.tables e below (T2.setTop (mkF m 20 #[.val (.long q0), .second, .val (.int q1), .val (.int q2), .val (.int q3), .val (.int q4), .val (.ref a1), .unset, .unset, .unset, .unset, .unset, .unset, .unset, .unset, .unset] [(.long q0), (.int (1 : Int32)), (.ref a1)])) _
    refine XS.bipush X2.here hx rfl (hb hby at_20) ?_
    show Steps p.tables e below (T2.setTop (mkF m 22 #[.val (.long q0), .second, .val (.int q1), .val (.int q2), .val (.int q3), .val (.int q4), .val (.ref a1), .unset, .unset, .unset, .unset, .unset, .unset, .unset, .unset, .unset] [(.int (48 : Int32)), (.long q0), (.int (1 : Int32)), (.ref a1)])) _
    refine XS.lushr X2.here hx rfl (hb hby at_22) rfl ?_
    show Steps p.tables e below (T2.setTop (mkF m 23 #[.val (.long q0), .second, .val (.int q1), .val (.int q2), .val (.int q3), .val (.int q4), .val (.ref a1), .unset, .unset, .unset, .unset, .unset, .unset, .unset, .unset, .unset] [(.long ((q0).toUInt64 >>> ((48 : Int32) &&& 0x3f).toInt64.toUInt64).toInt64), (.int (1 : Int32)), (.ref a1)])) _
    refine XS.l2i X2.here hx rfl (hb hby at_23) rfl ?_
    show Steps p.tables e below (T2.setTop (mkF m 24 #[.val (.long q0), .second, .val (.int q1), .val (.int q2), .val (.int q3), .val (.int q4), .val (.ref a1), .unset, .unset, .unset, .unset, .unset, .unset, .unset, .unset, .unset] [(.int (((q0).toUInt64 >>> ((48 : Int32) &&& 0x3f).toInt64.toUInt64).toInt64).toInt32), (.int (1 : Int32)), (.ref a1)])) _
    refine XS.i2b X2.here hx rfl (hb hby at_24) rfl ?_
    show Steps p.tables e below (T2.setTop (mkF m 25 #[.val (.long q0), .second, .val (.int q1), .val (.int q2), .val (.int q3), .val (.int q4), .val (.ref a1), .unset, .unset, .unset, .unset, .unset, .unset, .unset, .unset, .unset] [(.int ((((q0).toUInt64 >>> ((48 : Int32) &&& 0x3f).toInt64.toUInt64).toInt64).toInt32).toInt8.toInt32), (.int (1 : Int32)), (.ref a1)])) _
    refine st3 _ ?_
    show Steps p.tables e below (T3.setTop (mkF m 26 #[.val (.long q0), .second, .val (.int q1), .val (.int q2), .val (.int q3), .val (.int q4), .val (.ref a1), .unset, .unset, .unset, .unset, .unset, .unset, .unset, .unset, .unset] [])) _
    refine XS.aload X3.here hx rfl (hb hby at_26) rfl rfl ?_
    show Steps p.tables e below (T3.setTop (mkF m 28 #[.val (.long q0), .second, .val (.int q1), .val (.int q2), .val (.int q3), .val (.int q4), .val (.ref a1), .unset, .unset, .unset, .unset, .unset, .unset, .unset, .unset, .unset] [(.ref a1)])) _
    refine XS.iconst X3.here hx rfl (hb hby at_28) ?_
    show Steps p.tables e below (T3.setTop (mkF m 29 #[.val (.long q0), .second, .val (.int q1), .val (.int q2), .val (.int q3), .val (.int q4), .val (.ref a1), .unset, .unset, .unset, .unset, .unset, .unset, .unset, .unset, .unset] [(.int (2 : Int32)), (.ref a1)])) _
    refine XS.lloadN X3.here hx rfl (hb hby at_29) rfl ?_
    show Steps p.tables e below (T3.setTop (mkF m 30 #[.val (.long q0), .second, .val (.int q1), .val (.int q2), .val (.int q3), .val (.int q4), .val (.ref a1), .unset, .unset, .unset, .unset, .unset, .unset, .unset, .unset, .unset] [(.long q0), (.int (2 : Int32)), (.ref a1)])) _
    refine XS.bipush X3.here hx rfl (hb hby at_30) ?_
    show Steps p.tables e below (T3.setTop (mkF m 32 #[.val (.long q0), .second, .val (.int q1), .val (.int q2), .val (.int q3), .val (.int q4), .val (.ref a1), .unset, .unset, .unset, .unset, .unset, .unset, .unset, .unset, .unset] [(.int (40 : Int32)), (.long q0), (.int (2 : Int32)), (.ref a1)])) _
    refine XS.lushr X3.here hx rfl (hb hby at_32) rfl ?_
    show Steps p.tables e below (T3.setTop (mkF m 33 #[.val (.long q0), .second, .val (.int q1), .val (.int q2), .val (.int q3), .val (.int q4), .val (.ref a1), .unset, .unset, .unset, .unset, .unset, .unset, .unset, .unset, .unset] [(.long ((q0).toUInt64 >>> ((40 : Int32) &&& 0x3f).toInt64.toUInt64).toInt64), (.int (2 : Int32)), (.ref a1)])) _
    refine XS.l2i X3.here hx rfl (hb hby at_33) rfl ?_
    show Steps p.tables e below (T3.setTop (mkF m 34 #[.val (.long q0), .second, .val (.int q1), .val (.int q2), .val (.int q3), .val (.int q4), .val (.ref a1), .unset, .unset, .unset, .unset, .unset, .unset, .unset, .unset, .unset] [(.int (((q0).toUInt64 >>> ((40 : Int32) &&& 0x3f).toInt64.toUInt64).toInt64).toInt32), (.int (2 : Int32)), (.ref a1)])) _
    refine XS.i2b X3.here hx rfl (hb hby at_34) rfl ?_
    show Steps p.tables e below (T3.setTop (mkF m 35 #[.val (.long q0), .second, .val (.int q1), .val (.int q2), .val (.int q3), .val (.int q4), .val (.ref a1), .unset, .unset, .unset, .unset, .unset, .unset, .unset, .unset, .unset] [(.int ((((q0).toUInt64 >>> ((40 : Int32) &&& 0x3f).toInt64.toUInt64).toInt64).toInt32).toInt8.toInt32), (.int (2 : Int32)), (.ref a1)])) _
    refine st4 _ ?_
    show Steps p.tables e below (T4.setTop (mkF m 36 #[.val (.long q0), .second, .val (.int q1), .val (.int q2), .val (.int q3), .val (.int q4), .val (.ref a1), .unset, .unset, .unset, .unset, .unset, .unset, .unset, .unset, .unset] [])) _
    refine XS.aload X4.here hx rfl (hb hby at_36) rfl rfl ?_
    show Steps p.tables e below (T4.setTop (mkF m 38 #[.val (.long q0), .second, .val (.int q1), .val (.int q2), .val (.int q3), .val (.int q4), .val (.ref a1), .unset, .unset, .unset, .unset, .unset, .unset, .unset, .unset, .unset] [(.ref a1)])) _
    refine XS.iconst X4.here hx rfl (hb hby at_38) ?_
    show Steps p.tables e below (T4.setTop (mkF m 39 #[.val (.long q0), .second, .val (.int q1), .val (.int q2), .val (.int q3), .val (.int q4), .val (.ref a1), .unset, .unset, .unset, .unset, .unset, .unset, .unset, .unset, .unset] [(.int (3 : Int32)), (.ref a1)])) _
    refine XS.lloadN X4.here hx rfl (hb hby at_39) rfl ?_
    show Steps p.tables e below (T4.setTop (mkF m 40 #[.val (.long q0), .second, .val (.int q1), .val (.int q2), .val (.int q3), .val (.int q4), .val (.ref a1), .unset, .unset, .unset, .unset, .unset, .unset, .unset, .unset, .unset] [(.long q0), (.int (3 : Int32)), (.ref a1)])) _
    refine XS.bipush X4.here hx rfl (hb hby at_40) ?_
    show Steps p.tables e below (T4.setTop (mkF m 42 #[.val (.long q0), .second, .val (.int q1), .val (.int q2), .val (.int q3), .val (.int q4), .val (.ref a1), .unset, .unset, .unset, .unset, .unset, .unset, .unset, .unset, .unset] [(.int (32 : Int32)), (.long q0), (.int (3 : Int32)), (.ref a1)])) _
    refine XS.lushr X4.here hx rfl (hb hby at_42) rfl ?_
    show Steps p.tables e below (T4.setTop (mkF m 43 #[.val (.long q0), .second, .val (.int q1), .val (.int q2), .val (.int q3), .val (.int q4), .val (.ref a1), .unset, .unset, .unset, .unset, .unset, .unset, .unset, .unset, .unset] [(.long ((q0).toUInt64 >>> ((32 : Int32) &&& 0x3f).toInt64.toUInt64).toInt64), (.int (3 : Int32)), (.ref a1)])) _
    refine XS.l2i X4.here hx rfl (hb hby at_43) rfl ?_
    show Steps p.tables e below (T4.setTop (mkF m 44 #[.val (.long q0), .second, .val (.int q1), .val (.int q2), .val (.int q3), .val (.int q4), .val (.ref a1), .unset, .unset, .unset, .unset, .unset, .unset, .unset, .unset, .unset] [(.int (((q0).toUInt64 >>> ((32 : Int32) &&& 0x3f).toInt64.toUInt64).toInt64).toInt32), (.int (3 : Int32)), (.ref a1)])) _
    refine XS.i2b X4.here hx rfl (hb hby at_44) rfl ?_
    show Steps p.tables e below (T4.setTop (mkF m 45 #[.val (.long q0), .second, .val (.int q1), .val (.int q2), .val (.int q3), .val (.int q4), .val (.ref a1), .unset, .unset, .unset, .unset, .unset, .unset, .unset, .unset, .unset] [(.int ((((q0).toUInt64 >>> ((32 : Int32) &&& 0x3f).toInt64.toUInt64).toInt64).toInt32).toInt8.toInt32), (.int (3 : Int32)), (.ref a1)])) _
    refine st5 _ ?_
    show Steps p.tables e below (T5.setTop (mkF m 46 #[.val (.long q0), .second, .val (.int q1), .val (.int q2), .val (.int q3), .val (.int q4), .val (.ref a1), .unset, .unset, .unset, .unset, .unset, .unset, .unset, .unset, .unset] [])) _
    refine XS.aload X5.here hx rfl (hb hby at_46) rfl rfl ?_
    show Steps p.tables e below (T5.setTop (mkF m 48 #[.val (.long q0), .second, .val (.int q1), .val (.int q2), .val (.int q3), .val (.int q4), .val (.ref a1), .unset, .unset, .unset, .unset, .unset, .unset, .unset, .unset, .unset] [(.ref a1)])) _
    refine XS.iconst X5.here hx rfl (hb hby at_48) ?_
    show Steps p.tables e below (T5.setTop (mkF m 49 #[.val (.long q0), .second, .val (.int q1), .val (.int q2), .val (.int q3), .val (.int q4), .val (.ref a1), .unset, .unset, .unset, .unset, .unset, .unset, .unset, .unset, .unset] [(.int (4 : Int32)), (.ref a1)])) _
    refine XS.lloadN X5.here hx rfl (hb hby at_49) rfl ?_
    show Steps p.tables e below (T5.setTop (mkF m 50 #[.val (.long q0), .second, .val (.int q1), .val (.int q2), .val (.int q3), .val (.int q4), .val (.ref a1), .unset, .unset, .unset, .unset, .unset, .unset, .unset, .unset, .unset] [(.long q0), (.int (4 : Int32)), (.ref a1)])) _
    refine XS.bipush X5.here hx rfl (hb hby at_50) ?_
    show Steps p.tables e below (T5.setTop (mkF m 52 #[.val (.long q0), .second, .val (.int q1), .val (.int q2), .val (.int q3), .val (.int q4), .val (.ref a1), .unset, .unset, .unset, .unset, .unset, .unset, .unset, .unset, .unset] [(.int (24 : Int32)), (.long q0), (.int (4 : Int32)), (.ref a1)])) _
    refine XS.lushr X5.here hx rfl (hb hby at_52) rfl ?_
    show Steps p.tables e below (T5.setTop (mkF m 53 #[.val (.long q0), .second, .val (.int q1), .val (.int q2), .val (.int q3), .val (.int q4), .val (.ref a1), .unset, .unset, .unset, .unset, .unset, .unset, .unset, .unset, .unset] [(.long ((q0).toUInt64 >>> ((24 : Int32) &&& 0x3f).toInt64.toUInt64).toInt64), (.int (4 : Int32)), (.ref a1)])) _
    refine XS.l2i X5.here hx rfl (hb hby at_53) rfl ?_
    show Steps p.tables e below (T5.setTop (mkF m 54 #[.val (.long q0), .second, .val (.int q1), .val (.int q2), .val (.int q3), .val (.int q4), .val (.ref a1), .unset, .unset, .unset, .unset, .unset, .unset, .unset, .unset, .unset] [(.int (((q0).toUInt64 >>> ((24 : Int32) &&& 0x3f).toInt64.toUInt64).toInt64).toInt32), (.int (4 : Int32)), (.ref a1)])) _
    refine XS.i2b X5.here hx rfl (hb hby at_54) rfl ?_
    show Steps p.tables e below (T5.setTop (mkF m 55 #[.val (.long q0), .second, .val (.int q1), .val (.int q2), .val (.int q3), .val (.int q4), .val (.ref a1), .unset, .unset, .unset, .unset, .unset, .unset, .unset, .unset, .unset] [(.int ((((q0).toUInt64 >>> ((24 : Int32) &&& 0x3f).toInt64.toUInt64).toInt64).toInt32).toInt8.toInt32), (.int (4 : Int32)), (.ref a1)])) _
    refine st6 _ ?_
    show Steps p.tables e below (T6.setTop (mkF m 56 #[.val (.long q0), .second, .val (.int q1), .val (.int q2), .val (.int q3), .val (.int q4), .val (.ref a1), .unset, .unset, .unset, .unset, .unset, .unset, .unset, .unset, .unset] [])) _
    refine XS.aload X6.here hx rfl (hb hby at_56) rfl rfl ?_
    show Steps p.tables e below (T6.setTop (mkF m 58 #[.val (.long q0), .second, .val (.int q1), .val (.int q2), .val (.int q3), .val (.int q4), .val (.ref a1), .unset, .unset, .unset, .unset, .unset, .unset, .unset, .unset, .unset] [(.ref a1)])) _
    refine XS.iconst X6.here hx rfl (hb hby at_58) ?_
    show Steps p.tables e below (T6.setTop (mkF m 59 #[.val (.long q0), .second, .val (.int q1), .val (.int q2), .val (.int q3), .val (.int q4), .val (.ref a1), .unset, .unset, .unset, .unset, .unset, .unset, .unset, .unset, .unset] [(.int (5 : Int32)), (.ref a1)])) _
    refine XS.lloadN X6.here hx rfl (hb hby at_59) rfl ?_
    show Steps p.tables e below (T6.setTop (mkF m 60 #[.val (.long q0), .second, .val (.int q1), .val (.int q2), .val (.int q3), .val (.int q4), .val (.ref a1), .unset, .unset, .unset, .unset, .unset, .unset, .unset, .unset, .unset] [(.long q0), (.int (5 : Int32)), (.ref a1)])) _
    refine XS.bipush X6.here hx rfl (hb hby at_60) ?_
    show Steps p.tables e below (T6.setTop (mkF m 62 #[.val (.long q0), .second, .val (.int q1), .val (.int q2), .val (.int q3), .val (.int q4), .val (.ref a1), .unset, .unset, .unset, .unset, .unset, .unset, .unset, .unset, .unset] [(.int (16 : Int32)), (.long q0), (.int (5 : Int32)), (.ref a1)])) _
    refine XS.lushr X6.here hx rfl (hb hby at_62) rfl ?_
    show Steps p.tables e below (T6.setTop (mkF m 63 #[.val (.long q0), .second, .val (.int q1), .val (.int q2), .val (.int q3), .val (.int q4), .val (.ref a1), .unset, .unset, .unset, .unset, .unset, .unset, .unset, .unset, .unset] [(.long ((q0).toUInt64 >>> ((16 : Int32) &&& 0x3f).toInt64.toUInt64).toInt64), (.int (5 : Int32)), (.ref a1)])) _
    refine XS.l2i X6.here hx rfl (hb hby at_63) rfl ?_
    show Steps p.tables e below (T6.setTop (mkF m 64 #[.val (.long q0), .second, .val (.int q1), .val (.int q2), .val (.int q3), .val (.int q4), .val (.ref a1), .unset, .unset, .unset, .unset, .unset, .unset, .unset, .unset, .unset] [(.int (((q0).toUInt64 >>> ((16 : Int32) &&& 0x3f).toInt64.toUInt64).toInt64).toInt32), (.int (5 : Int32)), (.ref a1)])) _
    refine XS.i2b X6.here hx rfl (hb hby at_64) rfl ?_
    show Steps p.tables e below (T6.setTop (mkF m 65 #[.val (.long q0), .second, .val (.int q1), .val (.int q2), .val (.int q3), .val (.int q4), .val (.ref a1), .unset, .unset, .unset, .unset, .unset, .unset, .unset, .unset, .unset] [(.int ((((q0).toUInt64 >>> ((16 : Int32) &&& 0x3f).toInt64.toUInt64).toInt64).toInt32).toInt8.toInt32), (.int (5 : Int32)), (.ref a1)])) _
    refine st7 _ ?_
    show Steps p.tables e below (T7.setTop (mkF m 66 #[.val (.long q0), .second, .val (.int q1), .val (.int q2), .val (.int q3), .val (.int q4), .val (.ref a1), .unset, .unset, .unset, .unset, .unset, .unset, .unset, .unset, .unset] [])) _
    refine XS.aload X7.here hx rfl (hb hby at_66) rfl rfl ?_
    show Steps p.tables e below (T7.setTop (mkF m 68 #[.val (.long q0), .second, .val (.int q1), .val (.int q2), .val (.int q3), .val (.int q4), .val (.ref a1), .unset, .unset, .unset, .unset, .unset, .unset, .unset, .unset, .unset] [(.ref a1)])) _
    refine XS.bipush X7.here hx rfl (hb hby at_68) ?_
    show Steps p.tables e below (T7.setTop (mkF m 70 #[.val (.long q0), .second, .val (.int q1), .val (.int q2), .val (.int q3), .val (.int q4), .val (.ref a1), .unset, .unset, .unset, .unset, .unset, .unset, .unset, .unset, .unset] [(.int (6 : Int32)), (.ref a1)])) _
    refine XS.lloadN X7.here hx rfl (hb hby at_70) rfl ?_
    show Steps p.tables e below (T7.setTop (mkF m 71 #[.val (.long q0), .second, .val (.int q1), .val (.int q2), .val (.int q3), .val (.int q4), .val (.ref a1), .unset, .unset, .unset, .unset, .unset, .unset, .unset, .unset, .unset] [(.long q0), (.int (6 : Int32)), (.ref a1)])) _
    refine XS.bipush X7.here hx rfl (hb hby at_71) ?_
    show Steps p.tables e below (T7.setTop (mkF m 73 #[.val (.long q0), .second, .val (.int q1), .val (.int q2), .val (.int q3), .val (.int q4), .val (.ref a1), .unset, .unset, .unset, .unset, .unset, .unset, .unset, .unset, .unset] [(.int (8 : Int32)), (.long q0), (.int (6 : Int32)), (.ref a1)])) _
    refine XS.lushr X7.here hx rfl (hb hby at_73) rfl ?_
    show Steps p.tables e below (T7.setTop (mkF m 74 #[.val (.long q0), .second, .val (.int q1), .val (.int q2), .val (.int q3), .val (.int q4), .val (.ref a1), .unset, .unset, .unset, .unset, .unset, .unset, .unset, .unset, .unset] [(.long ((q0).toUInt64 >>> ((8 : Int32) &&& 0x3f).toInt64.toUInt64).toInt64), (.int (6 : Int32)), (.ref a1)])) _
    refine XS.l2i X7.here hx rfl (hb hby at_74) rfl ?_
    show Steps p.tables e below (T7.setTop (mkF m 75 #[.val (.long q0), .second, .val (.int q1), .val (.int q2), .val (.int q3), .val (.int q4), .val (.ref a1), .unset, .unset, .unset, .unset, .unset, .unset, .unset, .unset, .unset] [(.int (((q0).toUInt64 >>> ((8 : Int32) &&& 0x3f).toInt64.toUInt64).toInt64).toInt32), (.int (6 : Int32)), (.ref a1)])) _
    refine XS.i2b X7.here hx rfl (hb hby at_75) rfl ?_
    show Steps p.tables e below (T7.setTop (mkF m 76 #[.val (.long q0), .second, .val (.int q1), .val (.int q2), .val (.int q3), .val (.int q4), .val (.ref a1), .unset, .unset, .unset, .unset, .unset, .unset, .unset, .unset, .unset] [(.int ((((q0).toUInt64 >>> ((8 : Int32) &&& 0x3f).toInt64.toUInt64).toInt64).toInt32).toInt8.toInt32), (.int (6 : Int32)), (.ref a1)])) _
    refine st8 _ ?_
    show Steps p.tables e below (T8.setTop (mkF m 77 #[.val (.long q0), .second, .val (.int q1), .val (.int q2), .val (.int q3), .val (.int q4), .val (.ref a1), .unset, .unset, .unset, .unset, .unset, .unset, .unset, .unset, .unset] [])) _
    refine XS.aload X8.here hx rfl (hb hby at_77) rfl rfl ?_
    show Steps p.tables e below (T8.setTop (mkF m 79 #[.val (.long q0), .second, .val (.int q1), .val (.int q2), .val (.int q3), .val (.int q4), .val (.ref a1), .unset, .unset, .unset, .unset, .unset, .unset, .unset, .unset, .unset] [(.ref a1)])) _
    refine XS.bipush X8.here hx rfl (hb hby at_79) ?_
    show Steps p.tables e below (T8.setTop (mkF m 81 #[.val (.long q0), .second, .val (.int q1), .val (.int q2), .val (.int q3), .val (.int q4), .val (.ref a1), .unset, .unset, .unset, .unset, .unset, .unset, .unset, .unset, .unset] [(.int (7 : Int32)), (.ref a1)])) _
    refine XS.lloadN X8.here hx rfl (hb hby at_81) rfl ?_
    show Steps p.tables e below (T8.setTop (mkF m 82 #[.val (.long q0), .second, .val (.int q1), .val (.int q2), .val (.int q3), .val (.int q4), .val (.ref a1), .unset, .unset, .unset, .unset, .unset, .unset, .unset, .unset, .unset] [(.long q0), (.int (7 : Int32)), (.ref a1)])) _
    refine XS.l2i X8.here hx rfl (hb hby at_82) rfl ?_
    show Steps p.tables e below (T8.setTop (mkF m 83 #[.val (.long q0), .second, .val (.int q1), .val (.int q2), .val (.int q3), .val (.int q4), .val (.ref a1), .unset, .unset, .unset, .unset, .unset, .unset, .unset, .unset, .unset] [(.int (q0).toInt32), (.int (7 : Int32)), (.ref a1)])) _
    refine XS.i2b X8.here hx rfl (hb hby at_83) rfl ?_
    show Steps p.tables e below (T8.setTop (mkF m 84 #[.val (.long q0), .second, .val (.int q1), .val (.int q2), .val (.int q3), .val (.int q4), .val (.ref a1), .unset, .unset, .unset, .unset, .unset, .unset, .unset, .unset, .unset] [(.int ((q0).toInt32).toInt8.toInt32), (.int (7 : Int32)), (.ref a1)])) _
    refine st9 _ ?_
    show Steps p.tables e below (T9.setTop (mkF m 85 #[.val (.long q0), .second, .val (.int q1), .val (.int q2), .val (.int q3), .val (.int q4), .val (.ref a1), .unset, .unset, .unset, .unset, .unset, .unset, .unset, .unset, .unset] [])) _
    refine XS.iloadN X9.here hx rfl (hb hby at_85) rfl ?_
    show Steps p.tables e below (T9.setTop (mkF m 86 #[.val (.long q0), .second, .val (.int q1), .val (.int q2), .val (.int q3), .val (.int q4), .val (.ref a1), .unset, .unset, .unset, .unset, .unset, .unset, .unset, .unset, .unset] [(.int q1)])) _
    refine XS.iconst X9.here hx rfl (hb hby at_86) ?_
    show Steps p.tables e below (T9.setTop (mkF m 87 #[.val (.long q0), .second, .val (.int q1), .val (.int q2), .val (.int q3), .val (.int q4), .val (.ref a1), .unset, .unset, .unset, .unset, .unset, .unset, .unset, .unset, .unset] [(.int (3 : Int32)), (.int q1)])) _
    refine XS.iand X9.here hx rfl (hb hby at_87) rfl ?_
    exact k
  obtain ⟨v13, hv13⟩ : ∃ z : Int32, z = ((q3 &&& (7 : Int32)) + (1 : Int32)) := ⟨_, rfl⟩
  have pre14 : ∀ t, Steps p.tables e below (T9.setTop (mkF m 97 #[.val (.long q0), .second, .val (.int q1), .val (.int q2), .val (.int q3), .val (.int q4), .val (.ref a1), .val (.int v11), .unset, .unset, .unset, .unset, .unset, .unset, .unset, .unset] [(.int v13)])) t → Steps p.tables e below (s₁.setTop (entryFrame m #[(.long q0), (.int q1), (.int q2), (.int q3), (.int q4)] maxLocals)) t := by
    rw [hv13]
    intro t k
    refine pre12 t ?_
    show Steps p.tables e below (T9.setTop (mkF m 88 #[.val (.long q0), .second, .val (.int q1), .val (.int q2), .val (.int q3), .val (.int q4), .val (.ref a1), .unset, .unset, .unset, .unset, .unset, .unset, .unset, .unset, .unset] [(.int v11)])) _
    refine XS.istore X9.here hx rfl (hb hby at_88) rfl (l' := #[.val (.long q0), .second, .val (.int q1), .val (.int q2), .val (.int q3), .val (.int q4), .val (.ref a1), .val (.int v11), .unset, .unset, .unset, .unset, .unset, .unset, .unset, .unset]) rfl ?_
    show Steps p.tables e below (T9.setTop (mkF m 90 #[.val (.long q0), .second, .val (.int q1), .val (.int q2), .val (.int q3), .val (.int q4), .val (.ref a1), .val (.int v11), .unset, .unset, .unset, .unset, .unset, .unset, .unset, .unset] [])) _
    refine XS.iload X9.here hx rfl (hb hby at_90) rfl ?_
    show Steps p.tables e below (T9.setTop (mkF m 92 #[.val (.long q0), .second, .val (.int q1), .val (.int q2), .val (.int q3), .val (.int q4), .val (.ref a1), .val (.int v11), .unset, .unset, .unset, .unset, .unset, .unset, .unset, .unset] [(.int q3)])) _
    refine XS.bipush X9.here hx rfl (hb hby at_92) ?_
    show Steps p.tables e below (T9.setTop (mkF m 94 #[.val (.long q0), .second, .val (.int q1), .val (.int q2), .val (.int q3), .val (.int q4), .val (.ref a1), .val (.int v11), .unset, .unset, .unset, .unset, .unset, .unset, .unset, .unset] [(.int (7 : Int32)), (.int q3)])) _
    refine XS.iand X9.here hx rfl (hb hby at_94) rfl ?_
    show Steps p.tables e below (T9.setTop (mkF m 95 #[.val (.long q0), .second, .val (.int q1), .val (.int q2), .val (.int q3), .val (.int q4), .val (.ref a1), .val (.int v11), .unset, .unset, .unset, .unset, .unset, .unset, .unset, .unset] [(.int (q3 &&& (7 : Int32)))])) _
    refine XS.iconst X9.here hx rfl (hb hby at_95) ?_
    show Steps p.tables e below (T9.setTop (mkF m 96 #[.val (.long q0), .second, .val (.int q1), .val (.int q2), .val (.int q3), .val (.int q4), .val (.ref a1), .val (.int v11), .unset, .unset, .unset, .unset, .unset, .unset, .unset, .unset] [(.int (1 : Int32)), (.int (q3 &&& (7 : Int32)))])) _
    refine XS.iadd X9.here hx rfl (hb hby at_96) rfl ?_
    exact k
  have nz_109_15 : ¬ (v13 = (0 : Int32)) := (own_nzb (by assumption))
  obtain ⟨v16, hv16⟩ : ∃ z : Int32, z = ((((8 : Int32) - v11) * (8 : Int32)) / v13) := ⟨_, rfl⟩
  have pre17 : ∀ t, Steps p.tables e below (T9.setTop (mkF m 110 #[.val (.long q0), .second, .val (.int q1), .val (.int q2), .val (.int q3), .val (.int q4), .val (.ref a1), .val (.int v11), .val (.int v13), .unset, .unset, .unset, .unset, .unset, .unset, .unset] [(.int v16)])) t → Steps p.tables e below (s₁.setTop (entryFrame m #[(.long q0), (.int q1), (.int q2), (.int q3), (.int q4)] maxLocals)) t := by
    rw [hv16]
    intro t k
    refine pre14 t ?_
    show Steps p.tables e below (T9.setTop (mkF m 97 #[.val (.long q0), .second, .val (.int q1), .val (.int q2), .val (.int q3), .val (.int q4), .val (.ref a1), .val (.int v11), .unset, .unset, .unset, .unset, .unset, .unset, .unset, .unset] [(.int v13)])) _
    refine XS.istore X9.here hx rfl (hb hby at_97) rfl (l' := #[.val (.long q0), .second, .val (.int q1), .val (.int q2), .val (.int q3), .val (.int q4), .val (.ref a1), .val (.int v11), .val (.int v13), .unset, .unset, .unset, .unset, .unset, .unset, .unset]) rfl ?_
    show Steps p.tables e below (T9.setTop (mkF m 99 #[.val (.long q0), .second, .val (.int q1), .val (.int q2), .val (.int q3), .val (.int q4), .val (.ref a1), .val (.int v11), .val (.int v13), .unset, .unset, .unset, .unset, .unset, .unset, .unset] [])) _
    refine XS.bipush X9.here hx rfl (hb hby at_99) ?_
    show Steps p.tables e below (T9.setTop (mkF m 101 #[.val (.long q0), .second, .val (.int q1), .val (.int q2), .val (.int q3), .val (.int q4), .val (.ref a1), .val (.int v11), .val (.int v13), .unset, .unset, .unset, .unset, .unset, .unset, .unset] [(.int (8 : Int32))])) _
    refine XS.iload X9.here hx rfl (hb hby at_101) rfl ?_
    show Steps p.tables e below (T9.setTop (mkF m 103 #[.val (.long q0), .second, .val (.int q1), .val (.int q2), .val (.int q3), .val (.int q4), .val (.ref a1), .val (.int v11), .val (.int v13), .unset, .unset, .unset, .unset, .unset, .unset, .unset] [(.int v11), (.int (8 : Int32))])) _
    refine XS.isub X9.here hx rfl (hb hby at_103) rfl ?_
    show Steps p.tables e below (T9.setTop (mkF m 104 #[.val (.long q0), .second, .val (.int q1), .val (.int q2), .val (.int q3), .val (.int q4), .val (.ref a1), .val (.int v11), .val (.int v13), .unset, .unset, .unset, .unset, .unset, .unset, .unset] [(.int ((8 : Int32) - v11))])) _
    refine XS.bipush X9.here hx rfl (hb hby at_104) ?_
    show Steps p.tables e below (T9.setTop (mkF m 106 #[.val (.long q0), .second, .val (.int q1), .val (.int q2), .val (.int q3), .val (.int q4), .val (.ref a1), .val (.int v11), .val (.int v13), .unset, .unset, .unset, .unset, .unset, .unset, .unset] [(.int (8 : Int32)), (.int ((8 : Int32) - v11))])) _
    refine XS.imul X9.here hx rfl (hb hby at_106) rfl ?_
    show Steps p.tables e below (T9.setTop (mkF m 107 #[.val (.long q0), .second, .val (.int q1), .val (.int q2), .val (.int q3), .val (.int q4), .val (.ref a1), .val (.int v11), .val (.int v13), .unset, .unset, .unset, .unset, .unset, .unset, .unset] [(.int (((8 : Int32) - v11) * (8 : Int32)))])) _
    refine XS.iload X9.here hx rfl (hb hby at_107) rfl ?_
    show Steps p.tables e below (T9.setTop (mkF m 109 #[.val (.long q0), .second, .val (.int q1), .val (.int q2), .val (.int q3), .val (.int q4), .val (.ref a1), .val (.int v11), .val (.int v13), .unset, .unset, .unset, .unset, .unset, .unset, .unset] [(.int v13), (.int (((8 : Int32) - v11) * (8 : Int32)))])) _
    refine XS.idiv X9.here hx rfl (hb hby at_109) rfl nz_109_15 ?_
    exact k
  have nz_120_18 : ¬ ((v16 + (1 : Int32)) = (0 : Int32)) := (own_nzm (by assumption) (by assumption) (by assumption))
  obtain ⟨v19, hv19⟩ : ∃ z : Int32, z = ((q2 &&& (2147483647 : Int32)) % (v16 + (1 : Int32))) := ⟨_, rfl⟩
  have pre20 : ∀ t, Steps p.tables e below (T9.setTop (mkF m 121 #[.val (.long q0), .second, .val (.int q1), .val (.int q2), .val (.int q3), .val (.int q4), .val (.ref a1), .val (.int v11), .val (.int v13), .val (.int v16), .unset, .unset, .unset, .unset, .unset, .unset] [(.int v19)])) t → Steps p.tables e below (s₁.setTop (entryFrame m #[(.long q0), (.int q1), (.int q2), (.int q3), (.int q4)] maxLocals)) t := by
    rw [hv19]
    intro t k
    refine pre17 t ?_
    show Steps p.tables e below (T9.setTop (mkF m 110 #[.val (.long q0), .second, .val (.int q1), .val (.int q2), .val (.int q3), .val (.int q4), .val (.ref a1), .val (.int v11), .val (.int v13), .unset, .unset, .unset, .unset, .unset, .unset, .unset] [(.int v16)])) _
    refine XS.istore X9.here hx rfl (hb hby at_110) rfl (l' := #[.val (.long q0), .second, .val (.int q1), .val (.int q2), .val (.int q3), .val (.int q4), .val (.ref a1), .val (.int v11), .val (.int v13), .val (.int v16), .unset, .unset, .unset, .unset, .unset, .unset]) rfl ?_
    show Steps p.tables e below (T9.setTop (mkF m 112 #[.val (.long q0), .second, .val (.int q1), .val (.int q2), .val (.int q3), .val (.int q4), .val (.ref a1), .val (.int v11), .val (.int v13), .val (.int v16), .unset, .unset, .unset, .unset, .unset, .unset] [])) _
    refine XS.iloadN X9.here hx rfl (hb hby at_112) rfl ?_
    show Steps p.tables e below (T9.setTop (mkF m 113 #[.val (.long q0), .second, .val (.int q1), .val (.int q2), .val (.int q3), .val (.int q4), .val (.ref a1), .val (.int v11), .val (.int v13), .val (.int v16), .unset, .unset, .unset, .unset, .unset, .unset] [(.int q2)])) _
    refine X9.ldcInt hx hown (mvT hZ (hw _ (List.mem_of_getElem? (i := 1) rfl))) (g := (mkF m 113 #[.val (.long q0), .second, .val (.int q1), .val (.int q2), .val (.int q3), .val (.int q4), .val (.ref a1), .val (.int v11), .val (.int v13), .val (.int v16), .unset, .unset, .unset, .unset, .unset, .unset] [(.int q2)])) rfl (hb hby at_113) _ ?_
    show Steps p.tables e below (T9.setTop (mkF m 115 #[.val (.long q0), .second, .val (.int q1), .val (.int q2), .val (.int q3), .val (.int q4), .val (.ref a1), .val (.int v11), .val (.int v13), .val (.int v16), .unset, .unset, .unset, .unset, .unset, .unset] [(.int (2147483647 : Int32)), (.int q2)])) _
    refine XS.iand X9.here hx rfl (hb hby at_115) rfl ?_
    show Steps p.tables e below (T9.setTop (mkF m 116 #[.val (.long q0), .second, .val (.int q1), .val (.int q2), .val (.int q3), .val (.int q4), .val (.ref a1), .val (.int v11), .val (.int v13), .val (.int v16), .unset, .unset, .unset, .unset, .unset, .unset] [(.int (q2 &&& (2147483647 : Int32)))])) _
    refine XS.iload X9.here hx rfl (hb hby at_116) rfl ?_
    show Steps p.tables e below (T9.setTop (mkF m 118 #[.val (.long q0), .second, .val (.int q1), .val (.int q2), .val (.int q3), .val (.int q4), .val (.ref a1), .val (.int v11), .val (.int v13), .val (.int v16), .unset, .unset, .unset, .unset, .unset, .unset] [(.int v16), (.int (q2 &&& (2147483647 : Int32)))])) _
    refine XS.iconst X9.here hx rfl (hb hby at_118) ?_
    show Steps p.tables e below (T9.setTop (mkF m 119 #[.val (.long q0), .second, .val (.int q1), .val (.int q2), .val (.int q3), .val (.int q4), .val (.ref a1), .val (.int v11), .val (.int v13), .val (.int v16), .unset, .unset, .unset, .unset, .unset, .unset] [(.int (1 : Int32)), (.int v16), (.int (q2 &&& (2147483647 : Int32)))])) _
    refine XS.iadd X9.here hx rfl (hb hby at_119) rfl ?_
    show Steps p.tables e below (T9.setTop (mkF m 120 #[.val (.long q0), .second, .val (.int q1), .val (.int q2), .val (.int q3), .val (.int q4), .val (.ref a1), .val (.int v11), .val (.int v13), .val (.int v16), .unset, .unset, .unset, .unset, .unset, .unset] [(.int (v16 + (1 : Int32))), (.int (q2 &&& (2147483647 : Int32)))])) _
    refine iremM X9 hx rfl (hb hby at_120) rfl nz_120_18 ?_
    exact k
  obtain ⟨_, _, ⟨T21, L21, k21, n21⟩, -, X21, ⟨Lc21, hQ21, l21, y21, z21⟩, st21⟩ := Jvm.LawKit.callS X9 hx (y := (⟨"com/example/cardglyph/cardglyph/image/PackedPoints", "unpack", "([BIII)[I"⟩ : MethodName)) hown (mvT hZ (hw _ (List.mem_of_getElem? (i := 2) rfl))) (mvT hZ (hw _ (List.mem_of_getElem? (i := 3) rfl))) (mvT hZ (hw _ (List.mem_of_getElem? (i := 4) rfl))) (mvT hZ (hw _ (List.mem_of_getElem? (i := 5) rfl))) (by decide) (backOf (W := 0) (rm1 l Z a0 hw [] a1 v11 v19 v13 ((own_data q0)) h9 n0 sz9 V10_a (own_hy (by assumption) (by assumption) (by assumption) (by assumption))) hZ (hw _ (List.mem_of_getElem? (i := 5) rfl)) (hw _ (List.mem_of_getElem? (i := 4) rfl)) (by decide) (by decide)) (g := (mkF m 131 #[.val (.long q0), .second, .val (.int q1), .val (.int q2), .val (.int q3), .val (.int q4), .val (.ref a1), .val (.int v11), .val (.int v13), .val (.int v16), .val (.int v19), .unset, .unset, .unset, .unset, .unset] [(.int v13), (.int v19), (.int v11), (.ref a1)])) rfl (by rw [hml]; rfl) (argsL := [(.ref a1), (.int v11), (.int v19), (.int v13)]) (rest := []) (lenOf pd_3 rfl) rfl (by show 2 * 0 + _ ≤ _; exact Nat.le_of_eq rfl) (hb hby at_131) (fun _ _ => ⟨rfl, e9, (by decide : 1 + 1 ≤ _), (by decide : 8 + 64 ≤ _)⟩)
  dsimp only [Pt.U, Pt.locs, Pt.cells, Pt.slots] at X21 l21 y21 z21 st21 hQ21
  subst l21 y21 z21
  obtain ⟨rfl, N21q, K21, R21⟩ := hQ21
  obtain ⟨h21, e21⟩ : ∃ z, T21.heap = z := ⟨_, rfl⟩
  rw [e21] at K21 R21
  obtain ⟨a21, g21⟩ : ∃ z, z = h9.size := ⟨_, rfl⟩
  rw [← g21] at R21 st21
  have ne_a1_a21 : a1 ≠ a21 := g21 ▸ Nat.ne_of_lt V10_a.lt
  have ge_a21 : n0 ≤ a21 := g21 ▸ sz9
  have V21_a1 : own_AI Z h21 a1 .byte (own_data q0) := V10_a.keep K21 nin0
  have sz21 : n0 ≤ h21.size := Nat.le_trans sz9 K21.1
  have N21 := Fr.app N9 N21q
  have pre22 : ∀ t, Steps p.tables e below (T21.setTop (mkF m 141 #[.val (.long q0), .second, .val (.int q1), .val (.int q2), .val (.int q3), .val (.int q4), .val (.ref a1), .val (.int v11), .val (.int v13), .val (.int v16), .val (.int v19), .val (.ref a21), .unset, .unset, .unset, .unset] [(.int v19), (.int ((own_fill ((own_data q0)) v11 v13 (((1 : Int32) <<< (v13 &&& 31)) - (1 : Int32)) (v19).toInt.toNat 0 (List.replicate (v19).toInt.toNat 0)).length).toInt32)])) t → Steps p.tables e below (s₁.setTop (entryFrame m #[(.long q0), (.int q1), (.int q2), (.int q3), (.int q4)] maxLocals)) t := by
    intro t k
    refine pre20 t ?_
    show Steps p.tables e below (T9.setTop (mkF m 121 #[.val (.long q0), .second, .val (.int q1), .val (.int q2), .val (.int q3), .val (.int q4), .val (.ref a1), .val (.int v11), .val (.int v13), .val (.int v16), .unset, .unset, .unset, .unset, .unset, .unset] [(.int v19)])) _
    refine XS.istore X9.here hx rfl (hb hby at_121) rfl (l' := #[.val (.long q0), .second, .val (.int q1), .val (.int q2), .val (.int q3), .val (.int q4), .val (.ref a1), .val (.int v11), .val (.int v13), .val (.int v16), .val (.int v19), .unset, .unset, .unset, .unset, .unset]) rfl ?_
    show Steps p.tables e below (T9.setTop (mkF m 123 #[.val (.long q0), .second, .val (.int q1), .val (.int q2), .val (.int q3), .val (.int q4), .val (.ref a1), .val (.int v11), .val (.int v13), .val (.int v16), .val (.int v19), .unset, .unset, .unset, .unset, .unset] [])) _
    refine XS.aload X9.here hx rfl (hb hby at_123) rfl rfl ?_
    show Steps p.tables e below (T9.setTop (mkF m 125 #[.val (.long q0), .second, .val (.int q1), .val (.int q2), .val (.int q3), .val (.int q4), .val (.ref a1), .val (.int v11), .val (.int v13), .val (.int v16), .val (.int v19), .unset, .unset, .unset, .unset, .unset] [(.ref a1)])) _
    refine XS.iload X9.here hx rfl (hb hby at_125) rfl ?_
    show Steps p.tables e below (T9.setTop (mkF m 127 #[.val (.long q0), .second, .val (.int q1), .val (.int q2), .val (.int q3), .val (.int q4), .val (.ref a1), .val (.int v11), .val (.int v13), .val (.int v16), .val (.int v19), .unset, .unset, .unset, .unset, .unset] [(.int v11), (.ref a1)])) _
    refine XS.iload X9.here hx rfl (hb hby at_127) rfl ?_
    show Steps p.tables e below (T9.setTop (mkF m 129 #[.val (.long q0), .second, .val (.int q1), .val (.int q2), .val (.int q3), .val (.int q4), .val (.ref a1), .val (.int v11), .val (.int v13), .val (.int v16), .val (.int v19), .unset, .unset, .unset, .unset, .unset] [(.int v19), (.int v11), (.ref a1)])) _
    refine XS.iload X9.here hx rfl (hb hby at_129) rfl ?_
    show Steps p.tables e below (T9.setTop (mkF m 131 #[.val (.long q0), .second, .val (.int q1), .val (.int q2), .val (.int q3), .val (.int q4), .val (.ref a1), .val (.int v11), .val (.int v13), .val (.int v16), .val (.int v19), .unset, .unset, .unset, .unset, .unset] [(.int v13), (.int v19), (.int v11), (.ref a1)])) _
    refine st21 _ ?_
    show Steps p.tables e below (T21.setTop (mkF m 134 #[.val (.long q0), .second, .val (.int q1), .val (.int q2), .val (.int q3), .val (.int q4), .val (.ref a1), .val (.int v11), .val (.int v13), .val (.int v16), .val (.int v19), .unset, .unset, .unset, .unset, .unset] [(.ref a21)])) _
    refine XS.astore X21.here hx rfl (hb hby at_134) rfl rfl (l' := #[.val (.long q0), .second, .val (.int q1), .val (.int q2), .val (.int q3), .val (.int q4), .val (.ref a1), .val (.int v11), .val (.int v13), .val (.int v16), .val (.int v19), .val (.ref a21), .unset, .unset, .unset, .unset]) rfl ?_
    show Steps p.tables e below (T21.setTop (mkF m 136 #[.val (.long q0), .second, .val (.int q1), .val (.int q2), .val (.int q3), .val (.int q4), .val (.ref a1), .val (.int v11), .val (.int v13), .val (.int v16), .val (.int v19), .val (.ref a21), .unset, .unset, .unset, .unset] [])) _
    refine XS.aload X21.here hx rfl (hb hby at_136) rfl rfl ?_
    show Steps p.tables e below (T21.setTop (mkF m 138 #[.val (.long q0), .second, .val (.int q1), .val (.int q2), .val (.int q3), .val (.int q4), .val (.ref a1), .val (.int v11), .val (.int v13), .val (.int v16), .val (.int v19), .val (.ref a21), .unset, .unset, .unset, .unset] [(.ref a21)])) _
    refine own_alenI X21 hx hZ e21 R21 (hb hby at_138) _ ?_
    show Steps p.tables e below (T21.setTop (mkF m 139 #[.val (.long q0), .second, .val (.int q1), .val (.int q2), .val (.int q3), .val (.int q4), .val (.ref a1), .val (.int v11), .val (.int v13), .val (.int v16), .val (.int v19), .val (.ref a21), .unset, .unset, .unset, .unset] [(.int ((own_fill ((own_data q0)) v11 v13 (((1 : Int32) <<< (v13 &&& 31)) - (1 : Int32)) (v19).toInt.toNat 0 (List.replicate (v19).toInt.toNat 0)).length).toInt32)])) _
    refine XS.iload X21.here hx rfl (hb hby at_139) rfl ?_
    exact k
  by_cases c23 : ((own_fill ((own_data q0)) v11 v13 (((1 : Int32) <<< (v13 &&& 31)) - (1 : Int32)) (v19).toInt.toNat 0 (List.replicate (v19).toInt.toNat 0)).length).toInt32 = v19
  · have pre24 : ∀ t, Steps p.tables e below (T21.setTop (mkF m 148 #[.val (.long q0), .second, .val (.int q1), .val (.int q2), .val (.int q3), .val (.int q4), .val (.ref a1), .val (.int v11), .val (.int v13), .val (.int v16), .val (.int v19), .val (.ref a21), .unset, .unset, .unset, .unset] [(.int v19)])) t → Steps p.tables e below (s₁.setTop (entryFrame m #[(.long q0), (.int q1), (.int q2), (.int q3), (.int q4)] maxLocals)) t := by
      intro t k
      refine pre22 t ?_
      show Steps p.tables e below (T21.setTop (mkF m 141 #[.val (.long q0), .second, .val (.int q1), .val (.int q2), .val (.int q3), .val (.int q4), .val (.ref a1), .val (.int v11), .val (.int v13), .val (.int v16), .val (.int v19), .val (.ref a21), .unset, .unset, .unset, .unset] [(.int v19), (.int ((own_fill ((own_data q0)) v11 v13 (((1 : Int32) <<< (v13 &&& 31)) - (1 : Int32)) (v19).toInt.toNat 0 (List.replicate (v19).toInt.toNat 0)).length).toInt32)])) _
      refine XS.icmpYes X21.here hx rfl (pc0 := 141) (pc' := 146) rfl (hb hby at_141) rfl ((teq c23).1) (by decide) (by decide) ?_
      show Steps p.tables e below (T21.setTop (mkF m 146 #[.val (.long q0), .second, .val (.int q1), .val (.int q2), .val (.int q3), .val (.int q4), .val (.ref a1), .val (.int v11), .val (.int v13), .val (.int v16), .val (.int v19), .val (.ref a21), .unset, .unset, .unset, .unset] [])) _
      refine XS.iload X21.here hx rfl (hb hby at_146) rfl ?_
      exact k
    by_cases c25 : v19 = (0 : Int32)
    · obtain ⟨fs, hr, hrun, hended, hW, hsame⟩ := X21.leave (v := some (.int (1 : Int32))) (fun h => by rw [Bd.returns] at h; cases h) hlk
      refine ⟨_, _, pre24 _ ?_, hrun, hended, _, _, rfl, ?_, ⟨_, rfl⟩, hW, hsame.mono (by decide) (by decide)⟩
      · show Steps p.tables e below (T21.setTop (mkF m 148 #[.val (.long q0), .second, .val (.int q1), .val (.int q2), .val (.int q3), .val (.int q4), .val (.ref a1), .val (.int v11), .val (.int v13), .val (.int v16), .val (.int v19), .val (.ref a21), .unset, .unset, .unset, .unset] [(.int v19)])) _
        refine XS.ifNo X21.here hx rfl (hb hby at_148) rfl ((if0 _ _).trans (teq c25).2) ?_
        show Steps p.tables e below (T21.setTop (mkF m 151 #[.val (.long q0), .second, .val (.int q1), .val (.int q2), .val (.int q3), .val (.int q4), .val (.ref a1), .val (.int v11), .val (.int v13), .val (.int v16), .val (.int v19), .val (.ref a21), .unset, .unset, .unset, .unset] [])) _
        refine XS.iconst X21.here hx rfl (hb hby at_151) ?_
        show Steps p.tables e below (T21.setTop (mkF m 152 #[.val (.long q0), .second, .val (.int q1), .val (.int q2), .val (.int q3), .val (.int q4), .val (.ref a1), .val (.int v11), .val (.int v13), .val (.int v16), .val (.int v19), .val (.ref a21), .unset, .unset, .unset, .unset] [(.int (1 : Int32))])) _
        exact retN X21 hx (t := .boolean) Bd.returns (by simp) (hb hby at_152) hr
      · show Q0 Z q0 q1 q2 q3 q4 h0 n0 _ T21.heap _
        rw [e21]
        exact ⟨by have w_hv19 := hv19.symm; subst w_hv19; have w_hv16 := hv16.symm; subst w_hv16; have w_hv13 := hv13.symm; subst w_hv13; have w_hv11 := hv11.symm; subst w_hv11; simp only [own_f0, if_pos c23, if_pos c25], N21⟩
    · have nz_160_26 : ¬ (v19 = (0 : Int32)) := (by assumption)
      obtain ⟨v27, hv27⟩ : ∃ z : Int32, z = ((q4 &&& (2147483647 : Int32)) % v19) := ⟨_, rfl⟩
      have pre28 : ∀ t, Steps p.tables e below (T21.setTop (mkF m 161 #[.val (.long q0), .second, .val (.int q1), .val (.int q2), .val (.int q3), .val (.int q4), .val (.ref a1), .val (.int v11), .val (.int v13), .val (.int v16), .val (.int v19), .val (.ref a21), .unset, .unset, .unset, .unset] [(.int v27)])) t → Steps p.tables e below (s₁.setTop (entryFrame m #[(.long q0), (.int q1), (.int q2), (.int q3), (.int q4)] maxLocals)) t := by
        rw [hv27]
        intro t k
        refine pre24 t ?_
        show Steps p.tables e below (T21.setTop (mkF m 148 #[.val (.long q0), .second, .val (.int q1), .val (.int q2), .val (.int q3), .val (.int q4), .val (.ref a1), .val (.int v11), .val (.int v13), .val (.int v16), .val (.int v19), .val (.ref a21), .unset, .unset, .unset, .unset] [(.int v19)])) _
        refine XS.ifYes X21.here hx rfl (pc0 := 148) (pc' := 153) rfl (hb hby at_148) rfl ((if0 _ _).trans (feq c25).2) (by decide) (by decide) ?_
        show Steps p.tables e below (T21.setTop (mkF m 153 #[.val (.long q0), .second, .val (.int q1), .val (.int q2), .val (.int q3), .val (.int q4), .val (.ref a1), .val (.int v11), .val (.int v13), .val (.int v16), .val (.int v19), .val (.ref a21), .unset, .unset, .unset, .unset] [])) _
        refine XS.iload X21.here hx rfl (hb hby at_153) rfl ?_
        show Steps p.tables e below (T21.setTop (mkF m 155 #[.val (.long q0), .second, .val (.int q1), .val (.int q2), .val (.int q3), .val (.int q4), .val (.ref a1), .val (.int v11), .val (.int v13), .val (.int v16), .val (.int v19), .val (.ref a21), .unset, .unset, .unset, .unset] [(.int q4)])) _
        refine X21.ldcInt hx hown (mvT hZ (hw _ (List.mem_of_getElem? (i := 1) rfl))) (g := (mkF m 155 #[.val (.long q0), .second, .val (.int q1), .val (.int q2), .val (.int q3), .val (.int q4), .val (.ref a1), .val (.int v11), .val (.int v13), .val (.int v16), .val (.int v19), .val (.ref a21), .unset, .unset, .unset, .unset] [(.int q4)])) rfl (hb hby at_155) _ ?_
        show Steps p.tables e below (T21.setTop (mkF m 157 #[.val (.long q0), .second, .val (.int q1), .val (.int q2), .val (.int q3), .val (.int q4), .val (.ref a1), .val (.int v11), .val (.int v13), .val (.int v16), .val (.int v19), .val (.ref a21), .unset, .unset, .unset, .unset] [(.int (2147483647 : Int32)), (.int q4)])) _
        refine XS.iand X21.here hx rfl (hb hby at_157) rfl ?_
        show Steps p.tables e below (T21.setTop (mkF m 158 #[.val (.long q0), .second, .val (.int q1), .val (.int q2), .val (.int q3), .val (.int q4), .val (.ref a1), .val (.int v11), .val (.int v13), .val (.int v16), .val (.int v19), .val (.ref a21), .unset, .unset, .unset, .unset] [(.int (q4 &&& (2147483647 : Int32)))])) _
        refine XS.iload X21.here hx rfl (hb hby at_158) rfl ?_
        show Steps p.tables e below (T21.setTop (mkF m 160 #[.val (.long q0), .second, .val (.int q1), .val (.int q2), .val (.int q3), .val (.int q4), .val (.ref a1), .val (.int v11), .val (.int v13), .val (.int v16), .val (.int v19), .val (.ref a21), .unset, .unset, .unset, .unset] [(.int v19), (.int (q4 &&& (2147483647 : Int32)))])) _
        refine iremM X21 hx rfl (hb hby at_160) rfl nz_160_26 ?_
        exact k
      obtain ⟨v29, hv29⟩ : ∃ z : Int32, z = ((v11 * (8 : Int32)) + (v27 * v13)) := ⟨_, rfl⟩
      have pre30 : ∀ t, Steps p.tables e below (T21.setTop (mkF m 174 #[.val (.long q0), .second, .val (.int q1), .val (.int q2), .val (.int q3), .val (.int q4), .val (.ref a1), .val (.int v11), .val (.int v13), .val (.int v16), .val (.int v19), .val (.ref a21), .val (.int v27), .unset, .unset, .unset] [(.int v29)])) t → Steps p.tables e below (s₁.setTop (entryFrame m #[(.long q0), (.int q1), (.int q2), (.int q3), (.int q4)] maxLocals)) t := by
        rw [hv29]
        intro t k
        refine pre28 t ?_
        show Steps p.tables e below (T21.setTop (mkF m 161 #[.val (.long q0), .second, .val (.int q1), .val (.int q2), .val (.int q3), .val (.int q4), .val (.ref a1), .val (.int v11), .val (.int v13), .val (.int v16), .val (.int v19), .val (.ref a21), .unset, .unset, .unset, .unset] [(.int v27)])) _
        refine XS.istore X21.here hx rfl (hb hby at_161) rfl (l' := #[.val (.long q0), .second, .val (.int q1), .val (.int q2), .val (.int q3), .val (.int q4), .val (.ref a1), .val (.int v11), .val (.int v13), .val (.int v16), .val (.int v19), .val (.ref a21), .val (.int v27), .unset, .unset, .unset]) rfl ?_
        show Steps p.tables e below (T21.setTop (mkF m 163 #[.val (.long q0), .second, .val (.int q1), .val (.int q2), .val (.int q3), .val (.int q4), .val (.ref a1), .val (.int v11), .val (.int v13), .val (.int v16), .val (.int v19), .val (.ref a21), .val (.int v27), .unset, .unset, .unset] [])) _
        refine XS.iload X21.here hx rfl (hb hby at_163) rfl ?_
        show Steps p.tables e below (T21.setTop (mkF m 165 #[.val (.long q0), .second, .val (.int q1), .val (.int q2), .val (.int q3), .val (.int q4), .val (.ref a1), .val (.int v11), .val (.int v13), .val (.int v16), .val (.int v19), .val (.ref a21), .val (.int v27), .unset, .unset, .unset] [(.int v11)])) _
        refine XS.bipush X21.here hx rfl (hb hby at_165) ?_
        show Steps p.tables e below (T21.setTop (mkF m 167 #[.val (.long q0), .second, .val (.int q1), .val (.int q2), .val (.int q3), .val (.int q4), .val (.ref a1), .val (.int v11), .val (.int v13), .val (.int v16), .val (.int v19), .val (.ref a21), .val (.int v27), .unset, .unset, .unset] [(.int (8 : Int32)), (.int v11)])) _
        refine XS.imul X21.here hx rfl (hb hby at_167) rfl ?_
        show Steps p.tables e below (T21.setTop (mkF m 168 #[.val (.long q0), .second, .val (.int q1), .val (.int q2), .val (.int q3), .val (.int q4), .val (.ref a1), .val (.int v11), .val (.int v13), .val (.int v16), .val (.int v19), .val (.ref a21), .val (.int v27), .unset, .unset, .unset] [(.int (v11 * (8 : Int32)))])) _
        refine XS.iload X21.here hx rfl (hb hby at_168) rfl ?_
        show Steps p.tables e below (T21.setTop (mkF m 170 #[.val (.long q0), .second, .val (.int q1), .val (.int q2), .val (.int q3), .val (.int q4), .val (.ref a1), .val (.int v11), .val (.int v13), .val (.int v16), .val (.int v19), .val (.ref a21), .val (.int v27), .unset, .unset, .unset] [(.int v27), (.int (v11 * (8 : Int32)))])) _
        refine XS.iload X21.here hx rfl (hb hby at_170) rfl ?_
        show Steps p.tables e below (T21.setTop (mkF m 172 #[.val (.long q0), .second, .val (.int q1), .val (.int q2), .val (.int q3), .val (.int q4), .val (.ref a1), .val (.int v11), .val (.int v13), .val (.int v16), .val (.int v19), .val (.ref a21), .val (.int v27), .unset, .unset, .unset] [(.int v13), (.int v27), (.int (v11 * (8 : Int32)))])) _
        refine XS.imul X21.here hx rfl (hb hby at_172) rfl ?_
        show Steps p.tables e below (T21.setTop (mkF m 173 #[.val (.long q0), .second, .val (.int q1), .val (.int q2), .val (.int q3), .val (.int q4), .val (.ref a1), .val (.int v11), .val (.int v13), .val (.int v16), .val (.int v19), .val (.ref a21), .val (.int v27), .unset, .unset, .unset] [(.int (v27 * v13)), (.int (v11 * (8 : Int32)))])) _
        refine XS.iadd X21.here hx rfl (hb hby at_173) rfl ?_
        exact k
      obtain ⟨v31, hv31⟩ : ∃ z : Int32, z = (((64 : Int32) - v29) - v13) := ⟨_, rfl⟩
      have pre32 : ∀ t, Steps p.tables e below (T21.setTop (mkF m 184 #[.val (.long q0), .second, .val (.int q1), .val (.int q2), .val (.int q3), .val (.int q4), .val (.ref a1), .val (.int v11), .val (.int v13), .val (.int v16), .val (.int v19), .val (.ref a21), .val (.int v27), .val (.int v29), .unset, .unset] [(.int v31)])) t → Steps p.tables e below (s₁.setTop (entryFrame m #[(.long q0), (.int q1), (.int q2), (.int q3), (.int q4)] maxLocals)) t := by
        rw [hv31]
        intro t k
        refine pre30 t ?_
        show Steps p.tables e below (T21.setTop (mkF m 174 #[.val (.long q0), .second, .val (.int q1), .val (.int q2), .val (.int q3), .val (.int q4), .val (.ref a1), .val (.int v11), .val (.int v13), .val (.int v16), .val (.int v19), .val (.ref a21), .val (.int v27), .unset, .unset, .unset] [(.int v29)])) _
        refine XS.istore X21.here hx rfl (hb hby at_174) rfl (l' := #[.val (.long q0), .second, .val (.int q1), .val (.int q2), .val (.int q3), .val (.int q4), .val (.ref a1), .val (.int v11), .val (.int v13), .val (.int v16), .val (.int v19), .val (.ref a21), .val (.int v27), .val (.int v29), .unset, .unset]) rfl ?_
        show Steps p.tables e below (T21.setTop (mkF m 176 #[.val (.long q0), .second, .val (.int q1), .val (.int q2), .val (.int q3), .val (.int q4), .val (.ref a1), .val (.int v11), .val (.int v13), .val (.int v16), .val (.int v19), .val (.ref a21), .val (.int v27), .val (.int v29), .unset, .unset] [])) _
        refine XS.bipush X21.here hx rfl (hb hby at_176) ?_
        show Steps p.tables e below (T21.setTop (mkF m 178 #[.val (.long q0), .second, .val (.int q1), .val (.int q2), .val (.int q3), .val (.int q4), .val (.ref a1), .val (.int v11), .val (.int v13), .val (.int v16), .val (.int v19), .val (.ref a21), .val (.int v27), .val (.int v29), .unset, .unset] [(.int (64 : Int32))])) _
        refine XS.iload X21.here hx rfl (hb hby at_178) rfl ?_
        show Steps p.tables e below (T21.setTop (mkF m 180 #[.val (.long q0), .second, .val (.int q1), .val (.int q2), .val (.int q3), .val (.int q4), .val (.ref a1), .val (.int v11), .val (.int v13), .val (.int v16), .val (.int v19), .val (.ref a21), .val (.int v27), .val (.int v29), .unset, .unset] [(.int v29), (.int (64 : Int32))])) _
        refine XS.isub X21.here hx rfl (hb hby at_180) rfl ?_
        show Steps p.tables e below (T21.setTop (mkF m 181 #[.val (.long q0), .second, .val (.int q1), .val (.int q2), .val (.int q3), .val (.int q4), .val (.ref a1), .val (.int v11), .val (.int v13), .val (.int v16), .val (.int v19), .val (.ref a21), .val (.int v27), .val (.int v29), .unset, .unset] [(.int ((64 : Int32) - v29))])) _
        refine XS.iload X21.here hx rfl (hb hby at_181) rfl ?_
        show Steps p.tables e below (T21.setTop (mkF m 183 #[.val (.long q0), .second, .val (.int q1), .val (.int q2), .val (.int q3), .val (.int q4), .val (.ref a1), .val (.int v11), .val (.int v13), .val (.int v16), .val (.int v19), .val (.ref a21), .val (.int v27), .val (.int v29), .unset, .unset] [(.int v13), (.int ((64 : Int32) - v29))])) _
        refine XS.isub X21.here hx rfl (hb hby at_183) rfl ?_
        exact k
      obtain ⟨v33, hv33⟩ : ∃ z : Int32, z = ((((q0).toUInt64 >>> (v31 &&& 0x3f).toInt64.toUInt64).toInt64 &&& (((1 : Int64) <<< (v13 &&& 0x3f).toInt64) - (1 : Int64)))).toInt32 := ⟨_, rfl⟩
      have pre34 : ∀ t, Steps p.tables e below (T21.setTop (mkF m 198 #[.val (.long q0), .second, .val (.int q1), .val (.int q2), .val (.int q3), .val (.int q4), .val (.ref a1), .val (.int v11), .val (.int v13), .val (.int v16), .val (.int v19), .val (.ref a21), .val (.int v27), .val (.int v29), .val (.int v31), .unset] [(.int v33)])) t → Steps p.tables e below (s₁.setTop (entryFrame m #[(.long q0), (.int q1), (.int q2), (.int q3), (.int q4)] maxLocals)) t := by
        rw [hv33]
        intro t k
        refine pre32 t ?_
        show Steps p.tables e below (T21.setTop (mkF m 184 #[.val (.long q0), .second, .val (.int q1), .val (.int q2), .val (.int q3), .val (.int q4), .val (.ref a1), .val (.int v11), .val (.int v13), .val (.int v16), .val (.int v19), .val (.ref a21), .val (.int v27), .val (.int v29), .unset, .unset] [(.int v31)])) _
        refine XS.istore X21.here hx rfl (hb hby at_184) rfl (l' := #[.val (.long q0), .second, .val (.int q1), .val (.int q2), .val (.int q3), .val (.int q4), .val (.ref a1), .val (.int v11), .val (.int v13), .val (.int v16), .val (.int v19), .val (.ref a21), .val (.int v27), .val (.int v29), .val (.int v31), .unset]) rfl ?_
        show Steps p.tables e below (T21.setTop (mkF m 186 #[.val (.long q0), .second, .val (.int q1), .val (.int q2), .val (.int q3), .val (.int q4), .val (.ref a1), .val (.int v11), .val (.int v13), .val (.int v16), .val (.int v19), .val (.ref a21), .val (.int v27), .val (.int v29), .val (.int v31), .unset] [])) _
        refine XS.lloadN X21.here hx rfl (hb hby at_186) rfl ?_
        show Steps p.tables e below (T21.setTop (mkF m 187 #[.val (.long q0), .second, .val (.int q1), .val (.int q2), .val (.int q3), .val (.int q4), .val (.ref a1), .val (.int v11), .val (.int v13), .val (.int v16), .val (.int v19), .val (.ref a21), .val (.int v27), .val (.int v29), .val (.int v31), .unset] [(.long q0)])) _
        refine XS.iload X21.here hx rfl (hb hby at_187) rfl ?_
        show Steps p.tables e below (T21.setTop (mkF m 189 #[.val (.long q0), .second, .val (.int q1), .val (.int q2), .val (.int q3), .val (.int q4), .val (.ref a1), .val (.int v11), .val (.int v13), .val (.int v16), .val (.int v19), .val (.ref a21), .val (.int v27), .val (.int v29), .val (.int v31), .unset] [(.int v31), (.long q0)])) _
        refine XS.lushr X21.here hx rfl (hb hby at_189) rfl ?_
        show Steps p.tables e below (T21.setTop (mkF m 190 #[.val (.long q0), .second, .val (.int q1), .val (.int q2), .val (.int q3), .val (.int q4), .val (.ref a1), .val (.int v11), .val (.int v13), .val (.int v16), .val (.int v19), .val (.ref a21), .val (.int v27), .val (.int v29), .val (.int v31), .unset] [(.long ((q0).toUInt64 >>> (v31 &&& 0x3f).toInt64.toUInt64).toInt64)])) _
        refine XS.lconst X21.here hx rfl (hb hby at_190) ?_
        show Steps p.tables e below (T21.setTop (mkF m 191 #[.val (.long q0), .second, .val (.int q1), .val (.int q2), .val (.int q3), .val (.int q4), .val (.ref a1), .val (.int v11), .val (.int v13), .val (.int v16), .val (.int v19), .val (.ref a21), .val (.int v27), .val (.int v29), .val (.int v31), .unset] [(.long (1 : Int64)), (.long ((q0).toUInt64 >>> (v31 &&& 0x3f).toInt64.toUInt64).toInt64)])) _
        refine XS.iload X21.here hx rfl (hb hby at_191) rfl ?_
        show Steps p.tables e below (T21.setTop (mkF m 193 #[.val (.long q0), .second, .val (.int q1), .val (.int q2), .val (.int q3), .val (.int q4), .val (.ref a1), .val (.int v11), .val (.int v13), .val (.int v16), .val (.int v19), .val (.ref a21), .val (.int v27), .val (.int v29), .val (.int v31), .unset] [(.int v13), (.long (1 : Int64)), (.long ((q0).toUInt64 >>> (v31 &&& 0x3f).toInt64.toUInt64).toInt64)])) _
        refine XS.lshl X21.here hx rfl (hb hby at_193) rfl ?_
        show Steps p.tables e below (T21.setTop (mkF m 194 #[.val (.long q0), .second, .val (.int q1), .val (.int q2), .val (.int q3), .val (.int q4), .val (.ref a1), .val (.int v11), .val (.int v13), .val (.int v16), .val (.int v19), .val (.ref a21), .val (.int v27), .val (.int v29), .val (.int v31), .unset] [(.long ((1 : Int64) <<< (v13 &&& 0x3f).toInt64)), (.long ((q0).toUInt64 >>> (v31 &&& 0x3f).toInt64.toUInt64).toInt64)])) _
        refine XS.lconst X21.here hx rfl (hb hby at_194) ?_
        show Steps p.tables e below (T21.setTop (mkF m 195 #[.val (.long q0), .second, .val (.int q1), .val (.int q2), .val (.int q3), .val (.int q4), .val (.ref a1), .val (.int v11), .val (.int v13), .val (.int v16), .val (.int v19), .val (.ref a21), .val (.int v27), .val (.int v29), .val (.int v31), .unset] [(.long (1 : Int64)), (.long ((1 : Int64) <<< (v13 &&& 0x3f).toInt64)), (.long ((q0).toUInt64 >>> (v31 &&& 0x3f).toInt64.toUInt64).toInt64)])) _
        refine XS.lsub X21.here hx rfl (hb hby at_195) rfl ?_
        show Steps p.tables e below (T21.setTop (mkF m 196 #[.val (.long q0), .second, .val (.int q1), .val (.int q2), .val (.int q3), .val (.int q4), .val (.ref a1), .val (.int v11), .val (.int v13), .val (.int v16), .val (.int v19), .val (.ref a21), .val (.int v27), .val (.int v29), .val (.int v31), .unset] [(.long (((1 : Int64) <<< (v13 &&& 0x3f).toInt64) - (1 : Int64))), (.long ((q0).toUInt64 >>> (v31 &&& 0x3f).toInt64.toUInt64).toInt64)])) _
        refine XS.land X21.here hx rfl (hb hby at_196) rfl ?_
        show Steps p.tables e below (T21.setTop (mkF m 197 #[.val (.long q0), .second, .val (.int q1), .val (.int q2), .val (.int q3), .val (.int q4), .val (.ref a1), .val (.int v11), .val (.int v13), .val (.int v16), .val (.int v19), .val (.ref a21), .val (.int v27), .val (.int v29), .val (.int v31), .unset] [(.long (((q0).toUInt64 >>> (v31 &&& 0x3f).toInt64.toUInt64).toInt64 &&& (((1 : Int64) <<< (v13 &&& 0x3f).toInt64) - (1 : Int64))))])) _
        refine XS.l2i X21.here hx rfl (hb hby at_197) rfl ?_
        exact k
      have in_204_35 : 0 ≤ (v27).toInt ∧ (v27).toInt < ((own_fill ((own_data q0)) v11 v13 (((1 : Int32) <<< (v13 &&& 31)) - (1 : Int32)) (v19).toInt.toNat 0 (List.replicate (v19).toInt.toNat 0)).length : Nat) := (by rw [own_filllen, List.length_replicate]; have := own_pin (by assumption) (by assumption) (by assumption) (by assumption) (by assumption) (by assumption); omega)
      have pre36 : ∀ t, Steps p.tables e below (T21.setTop (mkF m 207 #[.val (.long q0), .second, .val (.int q1), .val (.int q2), .val (.int q3), .val (.int q4), .val (.ref a1), .val (.int v11), .val (.int v13), .val (.int v16), .val (.int v19), .val (.ref a21), .val (.int v27), .val (.int v29), .val (.int v31), .val (.int v33)] [(.int v33), (.int ((own_fill ((own_data q0)) v11 v13 (((1 : Int32) <<< (v13 &&& 31)) - (1 : Int32)) (v19).toInt.toNat 0 (List.replicate (v19).toInt.toNat 0)).getD (v27).toInt.toNat 0))])) t → Steps p.tables e below (s₁.setTop (entryFrame m #[(.long q0), (.int q1), (.int q2), (.int q3), (.int q4)] maxLocals)) t := by
        intro t k
        refine pre34 t ?_
        show Steps p.tables e below (T21.setTop (mkF m 198 #[.val (.long q0), .second, .val (.int q1), .val (.int q2), .val (.int q3), .val (.int q4), .val (.ref a1), .val (.int v11), .val (.int v13), .val (.int v16), .val (.int v19), .val (.ref a21), .val (.int v27), .val (.int v29), .val (.int v31), .unset] [(.int v33)])) _
        refine XS.istore X21.here hx rfl (hb hby at_198) rfl (l' := #[.val (.long q0), .second, .val (.int q1), .val (.int q2), .val (.int q3), .val (.int q4), .val (.ref a1), .val (.int v11), .val (.int v13), .val (.int v16), .val (.int v19), .val (.ref a21), .val (.int v27), .val (.int v29), .val (.int v31), .val (.int v33)]) rfl ?_
        show Steps p.tables e below (T21.setTop (mkF m 200 #[.val (.long q0), .second, .val (.int q1), .val (.int q2), .val (.int q3), .val (.int q4), .val (.ref a1), .val (.int v11), .val (.int v13), .val (.int v16), .val (.int v19), .val (.ref a21), .val (.int v27), .val (.int v29), .val (.int v31), .val (.int v33)] [])) _
        refine XS.aload X21.here hx rfl (hb hby at_200) rfl rfl ?_
        show Steps p.tables e below (T21.setTop (mkF m 202 #[.val (.long q0), .second, .val (.int q1), .val (.int q2), .val (.int q3), .val (.int q4), .val (.ref a1), .val (.int v11), .val (.int v13), .val (.int v16), .val (.int v19), .val (.ref a21), .val (.int v27), .val (.int v29), .val (.int v31), .val (.int v33)] [(.ref a21)])) _
        refine XS.iload X21.here hx rfl (hb hby at_202) rfl ?_
        show Steps p.tables e below (T21.setTop (mkF m 204 #[.val (.long q0), .second, .val (.int q1), .val (.int q2), .val (.int q3), .val (.int q4), .val (.ref a1), .val (.int v11), .val (.int v13), .val (.int v16), .val (.int v19), .val (.ref a21), .val (.int v27), .val (.int v29), .val (.int v31), .val (.int v33)] [(.int v27), (.ref a21)])) _
        refine own_iaload X21 hx hZ e21 R21 in_204_35 (hb hby at_204) _ ?_
        show Steps p.tables e below (T21.setTop (mkF m 205 #[.val (.long q0), .second, .val (.int q1), .val (.int q2), .val (.int q3), .val (.int q4), .val (.ref a1), .val (.int v11), .val (.int v13), .val (.int v16), .val (.int v19), .val (.ref a21), .val (.int v27), .val (.int v29), .val (.int v31), .val (.int v33)] [(.int ((own_fill ((own_data q0)) v11 v13 (((1 : Int32) <<< (v13 &&& 31)) - (1 : Int32)) (v19).toInt.toNat 0 (List.replicate (v19).toInt.toNat 0)).getD (v27).toInt.toNat 0))])) _
        refine XS.iload X21.here hx rfl (hb hby at_205) rfl ?_
        exact k
      by_cases c37 : ((own_fill ((own_data q0)) v11 v13 (((1 : Int32) <<< (v13 &&& 31)) - (1 : Int32)) (v19).toInt.toNat 0 (List.replicate (v19).toInt.toNat 0)).getD (v27).toInt.toNat 0) = v33
      · obtain ⟨fs, hr, hrun, hended, hW, hsame⟩ := X21.leave (v := some (.int (1 : Int32))) (fun h => by rw [Bd.returns] at h; cases h) hlk
        refine ⟨_, _, pre36 _ ?_, hrun, hended, _, _, rfl, ?_, ⟨_, rfl⟩, hW, hsame.mono (by decide) (by decide)⟩
        · show Steps p.tables e below (T21.setTop (mkF m 207 #[.val (.long q0), .second, .val (.int q1), .val (.int q2), .val (.int q3), .val (.int q4), .val (.ref a1), .val (.int v11), .val (.int v13), .val (.int v16), .val (.int v19), .val (.ref a21), .val (.int v27), .val (.int v29), .val (.int v31), .val (.int v33)] [(.int v33), (.int ((own_fill ((own_data q0)) v11 v13 (((1 : Int32) <<< (v13 &&& 31)) - (1 : Int32)) (v19).toInt.toNat 0 (List.replicate (v19).toInt.toNat 0)).getD (v27).toInt.toNat 0))])) _
          refine XS.icmpNo X21.here hx rfl (hb hby at_207) rfl ((teq c37).2) ?_
          show Steps p.tables e below (T21.setTop (mkF m 210 #[.val (.long q0), .second, .val (.int q1), .val (.int q2), .val (.int q3), .val (.int q4), .val (.ref a1), .val (.int v11), .val (.int v13), .val (.int v16), .val (.int v19), .val (.ref a21), .val (.int v27), .val (.int v29), .val (.int v31), .val (.int v33)] [])) _
          refine XS.iconst X21.here hx rfl (hb hby at_210) ?_
          show Steps p.tables e below (T21.setTop (mkF m 211 #[.val (.long q0), .second, .val (.int q1), .val (.int q2), .val (.int q3), .val (.int q4), .val (.ref a1), .val (.int v11), .val (.int v13), .val (.int v16), .val (.int v19), .val (.ref a21), .val (.int v27), .val (.int v29), .val (.int v31), .val (.int v33)] [(.int (1 : Int32))])) _
          refine XS.goto X21.here hx rfl (pc0 := 211) (pc' := 215) rfl (hb hby at_211) (by decide) (by decide) ?_
          show Steps p.tables e below (T21.setTop (mkF m 215 #[.val (.long q0), .second, .val (.int q1), .val (.int q2), .val (.int q3), .val (.int q4), .val (.ref a1), .val (.int v11), .val (.int v13), .val (.int v16), .val (.int v19), .val (.ref a21), .val (.int v27), .val (.int v29), .val (.int v31), .val (.int v33)] [(.int (1 : Int32))])) _
          exact retN X21 hx (t := .boolean) Bd.returns (by simp) (hb hby at_215) hr
        · show Q0 Z q0 q1 q2 q3 q4 h0 n0 _ T21.heap _
          rw [e21]
          exact ⟨by have w_hv33 := hv33.symm; subst w_hv33; have w_hv31 := hv31.symm; subst w_hv31; have w_hv29 := hv29.symm; subst w_hv29; have w_hv27 := hv27.symm; subst w_hv27; have w_hv19 := hv19.symm; subst w_hv19; have w_hv16 := hv16.symm; subst w_hv16; have w_hv13 := hv13.symm; subst w_hv13; have w_hv11 := hv11.symm; subst w_hv11; simp only [own_f0, if_pos c23, if_neg c25, if_pos c37], N21⟩
      · obtain ⟨fs, hr, hrun, hended, hW, hsame⟩ := X21.leave (v := some (.int (0 : Int32))) (fun h => by rw [Bd.returns] at h; cases h) hlk
        refine ⟨_, _, pre36 _ ?_, hrun, hended, _, _, rfl, ?_, ⟨_, rfl⟩, hW, hsame.mono (by decide) (by decide)⟩
        · show Steps p.tables e below (T21.setTop (mkF m 207 #[.val (.long q0), .second, .val (.int q1), .val (.int q2), .val (.int q3), .val (.int q4), .val (.ref a1), .val (.int v11), .val (.int v13), .val (.int v16), .val (.int v19), .val (.ref a21), .val (.int v27), .val (.int v29), .val (.int v31), .val (.int v33)] [(.int v33), (.int ((own_fill ((own_data q0)) v11 v13 (((1 : Int32) <<< (v13 &&& 31)) - (1 : Int32)) (v19).toInt.toNat 0 (List.replicate (v19).toInt.toNat 0)).getD (v27).toInt.toNat 0))])) _
          refine XS.icmpYes X21.here hx rfl (pc0 := 207) (pc' := 214) rfl (hb hby at_207) rfl ((feq c37).2) (by decide) (by decide) ?_
          show Steps p.tables e below (T21.setTop (mkF m 214 #[.val (.long q0), .second, .val (.int q1), .val (.int q2), .val (.int q3), .val (.int q4), .val (.ref a1), .val (.int v11), .val (.int v13), .val (.int v16), .val (.int v19), .val (.ref a21), .val (.int v27), .val (.int v29), .val (.int v31), .val (.int v33)] [])) _
          refine XS.iconst X21.here hx rfl (hb hby at_214) ?_
          show Steps p.tables e below (T21.setTop (mkF m 215 #[.val (.long q0), .second, .val (.int q1), .val (.int q2), .val (.int q3), .val (.int q4), .val (.ref a1), .val (.int v11), .val (.int v13), .val (.int v16), .val (.int v19), .val (.ref a21), .val (.int v27), .val (.int v29), .val (.int v31), .val (.int v33)] [(.int (0 : Int32))])) _
          exact retN X21 hx (t := .boolean) Bd.returns (by simp) (hb hby at_215) hr
        · show Q0 Z q0 q1 q2 q3 q4 h0 n0 _ T21.heap _
          rw [e21]
          exact ⟨by have w_hv33 := hv33.symm; subst w_hv33; have w_hv31 := hv31.symm; subst w_hv31; have w_hv29 := hv29.symm; subst w_hv29; have w_hv27 := hv27.symm; subst w_hv27; have w_hv19 := hv19.symm; subst w_hv19; have w_hv16 := hv16.symm; subst w_hv16; have w_hv13 := hv13.symm; subst w_hv13; have w_hv11 := hv11.symm; subst w_hv11; simp only [own_f0, if_pos c23, if_neg c25, if_neg c37], N21⟩
  · obtain ⟨fs, hr, hrun, hended, hW, hsame⟩ := X21.leave (v := some (.int (0 : Int32))) (fun h => by rw [Bd.returns] at h; cases h) hlk
    refine ⟨_, _, pre22 _ ?_, hrun, hended, _, _, rfl, ?_, ⟨_, rfl⟩, hW, hsame.mono (by decide) (by decide)⟩
    · show Steps p.tables e below (T21.setTop (mkF m 141 #[.val (.long q0), .second, .val (.int q1), .val (.int q2), .val (.int q3), .val (.int q4), .val (.ref a1), .val (.int v11), .val (.int v13), .val (.int v16), .val (.int v19), .val (.ref a21), .unset, .unset, .unset, .unset] [(.int v19), (.int ((own_fill ((own_data q0)) v11 v13 (((1 : Int32) <<< (v13 &&& 31)) - (1 : Int32)) (v19).toInt.toNat 0 (List.replicate (v19).toInt.toNat 0)).length).toInt32)])) _
      refine XS.icmpNo X21.here hx rfl (hb hby at_141) rfl ((feq c23).1) ?_
      show Steps p.tables e below (T21.setTop (mkF m 144 #[.val (.long q0), .second, .val (.int q1), .val (.int q2), .val (.int q3), .val (.int q4), .val (.ref a1), .val (.int v11), .val (.int v13), .val (.int v16), .val (.int v19), .val (.ref a21), .unset, .unset, .unset, .unset] [])) _
      refine XS.iconst X21.here hx rfl (hb hby at_144) ?_
      show Steps p.tables e below (T21.setTop (mkF m 145 #[.val (.long q0), .second, .val (.int q1), .val (.int q2), .val (.int q3), .val (.int q4), .val (.ref a1), .val (.int v11), .val (.int v13), .val (.int v16), .val (.int v19), .val (.ref a21), .unset, .unset, .unset, .unset] [(.int (0 : Int32))])) _
      exact retN X21 hx (t := .boolean) Bd.returns (by simp) (hb hby at_145) hr
    · show Q0 Z q0 q1 q2 q3 q4 h0 n0 _ T21.heap _
      rw [e21]
      exact ⟨by have w_hv19 := hv19.symm; subst w_hv19; have w_hv16 := hv16.symm; subst w_hv16; have w_hv13 := hv13.symm; subst w_hv13; have w_hv11 := hv11.symm; subst w_hv11; simp only [own_f0, if_neg c23], N21⟩
theorem own_byte (x : Int32) (j : Nat) (hj : j < 8) : (x.toInt8.toInt32).toInt8.toInt32.toBitVec.getLsbD j = x.toBitVec.getLsbD j := by
  have e : (x.toInt8.toInt32).toInt8.toInt32.toBitVec = (x.toBitVec.signExtend 8).signExtend 32 := by simp
  rw [e, BitVec.getLsbD_signExtend, if_pos hj, BitVec.getLsbD_signExtend, if_pos (by omega)]
  simp [hj]
  intro; omega
theorem own_l2ib (x : Int64) (j : Nat) (hj : j < 32) : x.toInt32.toBitVec.getLsbD j = x.toBitVec.getLsbD j := by
  have e : x.toInt32.toBitVec = x.toBitVec.signExtend 32 := rfl
  rw [e, BitVec.getLsbD_signExtend, if_pos (by omega)]
  simp [hj]
theorem own_shL (x : Int64) (y : Int32) (n j : Nat) (hn : (y &&& 0x3f).toInt64.toBitVec.toNat % 64 = n) : ((x.toUInt64 >>> (y &&& 0x3f).toInt64.toUInt64).toInt64).toBitVec.getLsbD j = x.toBitVec.getLsbD (n + j) := by
  have e : ((x.toUInt64 >>> (y &&& 0x3f).toInt64.toUInt64).toInt64).toBitVec = x.toBitVec >>> n := by rw [← hn]; simp
  rw [e]; simp
theorem own_Bb (d : Int64) (k : Int32) (n j : Nat) (hn : (k &&& 0x3f).toInt64.toBitVec.toNat % 64 = n) (hj : j < 8) : (own_B d k).toBitVec.getLsbD j = d.toBitVec.getLsbD (n + j) :=
  ((own_byte _ j hj).trans (own_l2ib _ j (by omega))).trans (own_shL d k n j hn)
theorem own_dbit (d : Int64) (b j : Nat) (hb : b < 8) (hj : j < 8) : ((own_data d).getD b 0).toBitVec.getLsbD j = d.toBitVec.getLsbD (56 - 8 * b + j) := by
  match b, hb with
  | 0, _ => exact own_Bb d 56 56 j (by decide) hj
  | 1, _ => exact own_Bb d 48 48 j (by decide) hj
  | 2, _ => exact own_Bb d 40 40 j (by decide) hj
  | 3, _ => exact own_Bb d 32 32 j (by decide) hj
  | 4, _ => exact own_Bb d 24 24 j (by decide) hj
  | 5, _ => exact own_Bb d 16 16 j (by decide) hj
  | 6, _ => exact own_Bb d 8 8 j (by decide) hj
  | 7, _ => exact ((own_byte _ j hj).trans (own_l2ib _ j (by omega))).trans (by rw [show 56 - 8 * 7 + j = j by omega])
theorem own_sh (x y : Int32) (n j : Nat) (hn : (y &&& 31).toBitVec.toNat % 32 = n) : ((x.toUInt32 >>> (y &&& 31).toUInt32).toInt32).toBitVec.getLsbD j = x.toBitVec.getLsbD (n + j) := by
  have e : ((x.toUInt32 >>> (y &&& 31).toUInt32).toInt32).toBitVec = x.toBitVec >>> n := by rw [← hn]; simp
  rw [e]; simp
theorem own_255 : ∀ k : Fin 32, (255 : Int32).toBitVec.getLsbD k.1 = decide (k.1 < 8) := by decide +kernel
theorem own_shl8 (x : Int32) (j : Nat) (hj : j < 32) : (x <<< ((8 : Int32) &&& 31)).toBitVec.getLsbD j = (decide (8 ≤ j) && x.toBitVec.getLsbD (j - 8)) := by
  have e : (x <<< ((8 : Int32) &&& 31)).toBitVec = x.toBitVec <<< 8 := by
    rw [Int32.toBitVec_shiftLeft]; rfl
  rw [e, BitVec.getLsbD_shiftLeft]
  simp [hj]
  by_cases c : 8 ≤ j
  · simp [c, Nat.not_lt.mpr c]
  · simp [c, Nat.lt_of_not_le c]
/-- the two bytes side by side, its bit j -/
theorem own_two (u w : Int32) (j : Nat) (hj : j < 16) : (((u &&& (255 : Int32)) <<< ((8 : Int32) &&& 31)) ||| (w &&& (255 : Int32))).toBitVec.getLsbD j = if 8 ≤ j then u.toBitVec.getLsbD (j - 8) else w.toBitVec.getLsbD j := by
  rw [Int32.toBitVec_or, BitVec.getLsbD_or, own_shl8 _ j (by omega), Int32.toBitVec_and, Int32.toBitVec_and, BitVec.getLsbD_and, BitVec.getLsbD_and, own_255 ⟨j, by omega⟩]
  by_cases c : 8 ≤ j
  · rw [own_255 ⟨j - 8, by omega⟩]
    have h1 : ¬ j < 8 := by omega
    have h2 : j - 8 < 8 := by omega
    simp [c, h1, h2]
  · have h1 : j < 8 := by omega
    simp [c, h1]
theorem own_two0 (u : Int32) (j : Nat) (hj : j < 16) : (((u &&& (255 : Int32)) <<< ((8 : Int32) &&& 31)) ||| (0 : Int32)).toBitVec.getLsbD j = if 8 ≤ j then u.toBitVec.getLsbD (j - 8) else (0 : Int32).toBitVec.getLsbD j := by
  have q := own_two u 0 j hj
  have z : (0 : Int32) &&& 255 = 0 := by decide
  rwa [z] at q
theorem own_mk : ∀ b : Fin 9, ∀ k : Fin 32, (((1 : Int32) <<< (Int32.ofNat b.1 &&& 31)) - (1 : Int32)).toBitVec.getLsbD k.1 = decide (k.1 < b.1) := by decide +kernel
theorem own_mkL : ∀ b : Fin 9, ∀ k : Fin 32, (((1 : Int64) <<< (Int32.ofNat b.1 &&& 0x3f).toInt64) - (1 : Int64)).toBitVec.getLsbD k.1 = decide (k.1 < b.1) := by decide +kernel
theorem own_num1 : ∀ x : Fin 65, ∀ b : Fin 9, ((((16 : Int32) - (Int32.ofNat x.1 % (8 : Int32))) - Int32.ofNat b.1) &&& 31).toBitVec.toNat % 32 = 16 - x.1 % 8 - b.1 ∧ ((8 : Int32) < ((Int32.ofNat x.1 % (8 : Int32)) + Int32.ofNat b.1) ↔ 8 < x.1 % 8 + b.1) := by decide +kernel
theorem own_num2 : ∀ x : Fin 65, ∀ f : Fin 9, ((Int32.ofNat f.1 + (Int32.ofNat x.1 / (8 : Int32)))).toInt.toNat = f.1 + x.1 / 8 ∧ (((Int32.ofNat f.1 + (Int32.ofNat x.1 / (8 : Int32))) + (1 : Int32))).toInt.toNat = f.1 + x.1 / 8 + 1 := by decide +kernel
theorem own_num3 : ∀ st : Fin 65, ∀ b : Fin 9, st.1 + b.1 ≤ 64 → ((((64 : Int32) - Int32.ofNat st.1) - Int32.ofNat b.1) &&& 0x3f).toInt64.toBitVec.toNat % 64 = (64 - st.1 - b.1) % 64 := by decide +kernel
theorem own_val (d : Int64) (f b x : Nat) (hf : f < 9) (hb : 1 ≤ b ∧ b < 9) (hx : 8 * f + x + b ≤ 64) (i q3 : Int32) (h3 : q3 = Int32.ofNat b) (hi : i * q3 = Int32.ofNat x) (q1 : Int32) (h1 : q1 = Int32.ofNat f) :
    own_uv (own_data d) q1 q3 (((1 : Int32) <<< (q3 &&& 31)) - (1 : Int32)) i = ((((d).toUInt64 >>> ((((64 : Int32) - Int32.ofNat (8 * f + x)) - q3) &&& 0x3f).toInt64.toUInt64).toInt64 &&& (((1 : Int64) <<< (q3 &&& 0x3f).toInt64) - (1 : Int64)))).toInt32 := by
  obtain ⟨n1, n2⟩ := own_num1 ⟨x, by omega⟩ ⟨b, hb.2⟩
  obtain ⟨n3, n4⟩ := own_num2 ⟨x, by omega⟩ ⟨f, hf⟩
  have n5 := own_num3 ⟨8 * f + x, by omega⟩ ⟨b, hb.2⟩ hx
  dsimp only at n1 n2 n3 n4 n5
  apply Int32.toBitVec_inj.mp
  apply BitVec.eq_of_getLsbD_eq
  intro k hk
  have m1 := own_mk ⟨b, hb.2⟩ ⟨k, hk⟩
  have m2 := own_mkL ⟨b, hb.2⟩ ⟨k, hk⟩
  dsimp only at m1 m2
  rw [own_l2ib _ k hk, Int64.toBitVec_and, BitVec.getLsbD_and]
  subst h3
  rw [m2, own_shL _ _ _ _ n5]
  rw [own_uv, hi, h1, n3, n4]
  by_cases kb : k < b
  · have e64 : (64 - (8 * f + x) - b) % 64 = 64 - (8 * f + x) - b := Nat.mod_eq_of_lt (by omega)
    by_cases c : 8 < x % 8 + b
    · rw [if_pos (n2.mpr c), Int32.toBitVec_and, BitVec.getLsbD_and, m1, own_sh _ _ _ _ n1, own_two _ _ _ (by omega)]
      by_cases c8 : 8 ≤ 16 - x % 8 - b + k
      · rw [if_pos c8, own_dbit d _ _ (by omega) (by omega), e64]
        congr 2; omega
      · rw [if_neg c8, own_dbit d _ _ (by omega) (by omega), e64]
        congr 2; omega
    · rw [if_neg (fun q => c (n2.mp q)), Int32.toBitVec_and, BitVec.getLsbD_and, m1, own_sh _ _ _ _ n1, own_two0 _ _ (by omega), if_pos (by omega), own_dbit d _ _ (by omega) (by omega), e64]
      congr 2; omega
  · have e0 : decide (k < b) = false := by simp [kb]
    rw [e0, Bool.and_false]
    split
    · rw [Int32.toBitVec_and, BitVec.getLsbD_and, m1, e0, Bool.and_false]
    · rw [Int32.toBitVec_and, BitVec.getLsbD_and, m1, e0, Bool.and_false]
theorem own_ofn {z : Int32} (h : 0 ≤ z.toInt) : z = Int32.ofNat z.toInt.toNat := by
  apply Int32.toInt_inj.mp
  have := own_r32 z
  rw [Int32.toInt_ofNat_of_lt (by show z.toInt.toNat < 2 ^ 31; omega)]
  show z.toInt = (z.toInt.toNat : Int)
  omega
theorem own_fillat (ys : List Int32) (q1 q3 mk : Int32) : ∀ (k : Nat) (i : Int32) (ps : List Int32) (j : Nat), 0 ≤ i.toInt → i.toInt + k ≤ (ps.length : Nat) → ps.length ≤ 100 →
    (own_fill ys q1 q3 mk k i ps).getD j 0 = if i.toInt.toNat ≤ j ∧ j < i.toInt.toNat + k then own_uv ys q1 q3 mk (Int32.ofNat j) else ps.getD j 0
  | 0, i, ps, j, h0, h1, h2 => by rw [own_fill, if_neg (by omega)]
  | k + 1, i, ps, j, h0, h1, h2 => by
    have e1 : (1 : Int32).toInt = 1 := by decide
    have a1 := own_iadd (x := i) (y := 1) (by omega)
    rw [own_fill, own_fillat ys q1 q3 mk k (i + 1) _ j (by omega) (by rw [List.length_set]; omega) (by rw [List.length_set]; exact h2)]
    by_cases c : (i + 1).toInt.toNat ≤ j ∧ j < (i + 1).toInt.toNat + k
    · rw [if_pos c, if_pos (by omega)]
    · rw [if_neg c]
      by_cases d : j = i.toInt.toNat
      · subst d
        rw [if_pos (by omega), own_gs1 _ _ _ _ (by omega), ← own_ofn h0]
      · rw [if_neg (by omega)]
        rw [own_gs2 _ _ _ _ _ (by omega)]
theorem own_core (d : Int64) (f b n p : Int32) (hf : 0 ≤ f.toInt ∧ f.toInt ≤ 3) (hb : 1 ≤ b.toInt ∧ b.toInt ≤ 8) (hn : 0 ≤ n.toInt ∧ n.toInt ≤ 64 ∧ n.toInt * b.toInt ≤ 64 - 8 * f.toInt) (hp : ¬ n = 0 → 0 ≤ p.toInt ∧ p.toInt < n.toInt) :
    (if ((own_fill ((own_data d)) f b (((1 : Int32) <<< (b &&& 31)) - (1 : Int32)) (n).toInt.toNat 0 (List.replicate (n).toInt.toNat 0)).length).toInt32 = n then (if n = (0 : Int32) then (1 : Int32) else 
    (if ((own_fill ((own_data d)) f b (((1 : Int32) <<< (b &&& 31)) - (1 : Int32)) (n).toInt.toNat 0 (List.replicate (n).toInt.toNat 0)).getD (p).toInt.toNat 0) = ((((d).toUInt64 >>> ((((64 : Int32) - ((f * (8 : Int32)) + (p * b))) - b) &&& 0x3f).toInt64.toUInt64).toInt64 &&& (((1 : Int64) <<< (b &&& 0x3f).toInt64) - (1 : Int64)))).toInt32 then (1 : Int32) else (0 : Int32))) else (0 : Int32)) = 1 := by
  have z : (0 : Int32).toInt = 0 := by decide
  have hl : n.toInt.toNat.toInt32 = n := (own_ofn hn.1).symm
  rw [own_filllen, List.length_replicate, if_pos hl]
  by_cases h0 : n = 0
  · rw [if_pos h0]
  · rw [if_neg h0]
    have hp' := hp h0
    have g := own_fillat (own_data d) f b (((1 : Int32) <<< (b &&& 31)) - (1 : Int32)) n.toInt.toNat 0 (List.replicate n.toInt.toNat 0) p.toInt.toNat (by decide) (by rw [z, List.length_replicate]; omega) (by rw [List.length_replicate]; omega)
    obtain ⟨m1, m2, m3⟩ := own_mulb hp'.1 (by rw [Int32.lt_iff_toInt_lt]; exact hp'.2) (show 0 ≤ b.toInt by omega) (by omega)
    have e8 : (8 : Int32).toInt = 8 := by decide
    have f8 := own_imul (x := f) (y := 8) (by rw [e8]; omega)
    rw [e8] at f8
    have s := own_iadd (x := f * 8) (y := p * b) (by omega)
    have v := own_val d f.toInt.toNat b.toInt.toNat (p * b).toInt.toNat (by omega) (by omega) (by omega) p b (own_ofn (by omega)) (own_ofn (by omega)) f (own_ofn hf.1)
    have es : Int32.ofNat (8 * f.toInt.toNat + (p * b).toInt.toNat) = f * 8 + p * b := by
      rw [own_ofn (z := f * 8 + p * b) (by omega)]
      congr 1; omega
    rw [es] at v
    rw [z, if_pos (by omega), ← own_ofn hp'.1, v] at g
    rw [g, if_pos rfl]
theorem own_plain (q0 : Int64) (q1 q2 q3 q4 : Int32) : own_f0 q0 q1 q2 q3 q4 = 1 :=
  own_core q0 (q1 &&& 3) ((q3 &&& 7) + 1) ((q2 &&& 2147483647) % (((((8 : Int32) - (q1 &&& 3)) * (8 : Int32)) / ((q3 &&& 7) + 1)) + 1)) _ (own_from rfl) (own_bits rfl) (own_cnt rfl rfl rfl rfl) (fun h => own_pin rfl rfl rfl rfl h rfl)

set_option maxRecDepth 65536 in
set_option maxHeartbeats 40000000 in
theorem comes_1 {Post : Tables → Env → Array Value → State → Outcome → State → Prop} (hpost : ∀ tb e args s v u, (limb_1_1.after args s (.returned v) u = true ∧ limb_1_2.after args s (.returned v) u = true ∧ True) → FrameEnd s (.returned v) u (Jvm.fieldLocs frame_1_writes args s ++ Jvm.arrayLocs frame_1_arrays args s ++ Jvm.staticLocs frame_1_statics s) 16 256 → Post tb e args s (.returned v) u) :
    ArmFor flags0 classFile x code maxLocals ret World_1 tables_1 room_1 Calls_1 rest_1 Pre_1 Post := by
  intro l hfl _ _ p e ha hc hk s m args below hf hA hF happ hP
  obtain ⟨hcalls, hrest, hpre⟩ := hP
  obtain ⟨-, -, -, hnamed, -, -, -, hat⟩ := (Spec.applies_iff hf).mp happ
  obtain ⟨hg, hn⟩ := and_e (Cond.before_iff.mp (show (Jvm.Cond.and given_1 narrow_1).before args s = true from hpre))
  obtain ⟨gc, gr0⟩ := and_e hg
  obtain ⟨w0, w1, w2, w3, w4, rfl⟩ : ∃ w0 w1 w2 w3 w4 : Value, args = #[w0, w1, w2, w3, w4] := by
    have hs : args.size = 5 := by simpa [Cond.value, given_1] using gc
    obtain ⟨L⟩ := args
    match L, hs with
    | [w0, w1, w2, w3, w4], _ => exact ⟨w0, w1, w2, w3, w4, rfl⟩
  have hw := fun d (hd : d ∈ tables_1) => atoms_spec (ws := Jvm.Cond.code x code maxLocals ret :: tables_1) hat d (List.mem_cons_of_mem _ hd)
  obtain ⟨g0, gr1⟩ := and_e gr0
  obtain ⟨i0, ei0⟩ := isL_v g0
  obtain rfl : w0 = (.long i0) := Option.some.inj ei0
  obtain ⟨g1, gr2⟩ := and_e gr1
  obtain ⟨i1, ei1⟩ := is_v g1
  obtain rfl : w1 = (.int i1) := Option.some.inj ei1
  obtain ⟨g2, gr3⟩ := and_e gr2
  obtain ⟨i2, ei2⟩ := is_v g2
  obtain rfl : w2 = (.int i2) := Option.some.inj ei2
  obtain ⟨g3, gr4⟩ := and_e gr3
  obtain ⟨i3, ei3⟩ := is_v g3
  obtain rfl : w3 = (.int i3) := Option.some.inj ei3
  obtain ⟨i4, ei4⟩ := is_v gr4
  obtain rfl : w4 = (.int i4) := Option.some.inj ei4
  obtain ⟨n, o, h1, h2, h3, _, L, rfl, ⟨hv, N⟩, hq⟩ := rm0 l s _ hw tables_1 i0 i1 i2 i3 i4 s.heap s.heap.size (Nat.le_refl _) p e ha hc hk s m _ below hf ((Spec.applies_iff_loose hf).mp happ).1 ⟨rfl, State.Warmed39.refl s, rfl⟩ trivial
  rw [own_plain] at hv
  subst hv
  refine ⟨n, _, h1, h2, h3, hpost _ _ _ _ _ _ ⟨Cond.after_iff.mpr rfl, Cond.after_iff.mpr (eq_i res_at (Term.int_eval (1)) rfl), trivial⟩ ⟨hq.1, hq.2.1, (hq.2.2.sift fun y hy => Or.inr (N y hy)).mono (by decide) (by decide)⟩⟩
theorem main_1_1 : Claimed_1_1 := comes_1 fun _ _ _ _ _ _ h hF => ⟨h.1, hF⟩
theorem main_1_2 : Claimed_1_2 := comes_1 fun _ _ _ _ _ _ h hF => ⟨h.2.1, hF⟩
end Jvm.Pilot.@@N@@
namespace Jvm.Pilot.@@N@@
open Jvm Jvm.ClassFile Sem Op Lib Jvm.Free Jvm.Stand Jvm.Pilot.@@N@@.Jvm.D
/-! MADE BY PROGRAM (witnessworld.py) out of the Statement's table words and the real class files: 9 classes; the members and pool entries that the words name. The judged class is class 1, her method 1. -/
namespace start1
open Jvm.ClassFile
def u (s : String) : CpInfo := .utf8 (stringToUtf16 s)
/-- a pool by its gaps: so many unusable entries, then the entry; so many at the end -/
def gap : Nat → List CpInfo → List CpInfo
  | 0, r => r
  | n + 1, r => .unusable :: gap n r
def poolList (es : List (Nat × CpInfo)) (last : Nat) : List CpInfo := es.foldr (fun e r => gap e.1 (e.2 :: r)) (gap last [])
def pool (es : List (Nat × CpInfo)) (last : Nat) : Array CpInfo := ⟨poolList es last⟩
def fileOf (pool : Array CpInfo) (this : Nat) (attrs : Array Attribute := #[]) (ms : Array MethodInfo := #[]) (fl : Nat := 33) (sup : Nat := 0) (ifs : Array Nat := #[]) (fds : Array FieldInfo := #[]) : ClassFile where
  minorVersion := 0
  majorVersion := 65
  constantPool := pool
  accessFlags := fl
  thisClass := this
  superClass := sup
  interfaces := ifs
  fields := fds
  methods := ms
  attributes := attrs
def plain (name : String) (sup : Option ClassId) : Class where
  name := name
  kind := .ordinary
  loader := none
  accessFlags := 33
  super := sup
  interfaces := #[]
  cf := none
  fields := #[]
  methods := #[]
  instanceTypes := #[]
  staticTypes := #[]
  resolved := #[]
  callSites := []
  init := .initialized
  statics := none
  mirror := none

def pool0 : Array CpInfo := pool [(5, u "<init>"), (0, u "()V"), (1, .class_ 10), (1, u "java/lang/Object")] 113

def k0m0 : Method := { name := "<init>", desc := "()V", sig := { parameters := [], returnType := none }, accessFlags := 1, code := none }
/-- java/lang/Object -/
def k0 : Class := { plain "java/lang/Object" none with
  accessFlags := 33
  interfaces := #[]
  cf := some (fileOf pool0 8 #[] #[{ accessFlags := 1, nameIndex := 5, descriptorIndex := 6, attributes := #[] }] 33 0 #[] #[])
  fields := #[]
  methods := #[k0m0]
  instanceTypes := #[]
  staticTypes := #[]
  resolved := Array.replicate 124 none
  statics := none }

def pool1 : Array CpInfo := pool [(2, .class_ 4), (1, u "java/lang/Object"), (0, u "<init>"), (0, u "()V"), (0, .integer 2147483647), (0, .methodref 9 10), (0, .class_ 11), (0, .nameAndType 12 13), (0, u "com/example/cardglyph/cardglyph/image/PackedPoints"), (0, u "unpack"), (0, u "([BIII)[I"), (0, .class_ 15), (0, u "com/example/cardglyph/cardglyph/image/PackedPointsUnpackPinLaw"), (2, u "law"), (0, u "(JIIII)Z")] 7

def k1m0 : Method := { name := "<init>", desc := "()V", sig := { parameters := [], returnType := none }, accessFlags := 2, code := none }
def k1c1 : Code := { maxStack := 6, maxLocals := 16, code := code, exceptionTable := #[], attributes := #[] }
def k1m1 : Method := { name := "law", desc := "(JIIII)Z", sig := { parameters := [.long, .int, .int, .int, .int], returnType := some .boolean }, accessFlags := 9, code := some k1c1 }
/-- com/example/cardglyph/cardglyph/image/PackedPointsUnpackPinLaw -/
def k1 : Class := { plain "com/example/cardglyph/cardglyph/image/PackedPointsUnpackPinLaw" (some 0) with
  accessFlags := 49
  interfaces := #[]
  cf := some (fileOf pool1 14 #[] #[{ accessFlags := 2, nameIndex := 5, descriptorIndex := 6, attributes := #[] }, { accessFlags := 9, nameIndex := 18, descriptorIndex := 19, attributes := #[] }] 49 2 #[] #[])
  fields := #[]
  methods := #[k1m0, k1m1]
  instanceTypes := #[]
  staticTypes := #[]
  resolved := Array.replicate 27 none
  statics := none }

def pool2 : Array CpInfo := pool [(2, .class_ 4), (1, u "java/lang/Object"), (0, u "<init>"), (0, u "()V"), (3, .class_ 12), (1, u "com/example/cardglyph/cardglyph/image/PackedPoints"), (10, u "unpack"), (0, u "([BIII)[I")] 13

def k2m0 : Method := { name := "<init>", desc := "()V", sig := { parameters := [], returnType := none }, accessFlags := 2, code := none }
def k2c1 : Code := { maxStack := 5, maxLocals := 10, code := prog_21_method_3_code, exceptionTable := #[], attributes := #[] }
def k2m1 : Method := { name := "unpack", desc := "([BIII)[I", sig := { parameters := [(.array .byte), .int, .int, .int], returnType := some (.array .int) }, accessFlags := 8, code := some k2c1 }
/-- com/example/cardglyph/cardglyph/image/PackedPoints -/
def k2 : Class := { plain "com/example/cardglyph/cardglyph/image/PackedPoints" (some 0) with
  accessFlags := 48
  interfaces := #[]
  cf := some (fileOf pool2 10 #[] #[{ accessFlags := 2, nameIndex := 5, descriptorIndex := 6, attributes := #[] }, { accessFlags := 8, nameIndex := 23, descriptorIndex := 24, attributes := #[] }] 48 2 #[] #[])
  fields := #[]
  methods := #[k2m0, k2m1]
  instanceTypes := #[]
  staticTypes := #[]
  resolved := Array.replicate 38 none
  statics := none }

def pool3 : Array CpInfo := pool [(1, u "java/lang/Cloneable"), (0, .class_ 1), (0, u "java/lang/Object"), (0, .class_ 3)] 3

/-- java/lang/Cloneable -/
def k3 : Class := { plain "java/lang/Cloneable" (some 0) with
  accessFlags := 1537
  interfaces := #[]
  cf := some (fileOf pool3 2 #[] #[] 1537 4 #[] #[])
  fields := #[]
  methods := #[]
  instanceTypes := #[]
  staticTypes := #[]
  resolved := Array.replicate 8 none
  statics := none }

def pool4 : Array CpInfo := pool [(1, u "java/io/Serializable"), (0, .class_ 1), (0, u "java/lang/Object"), (0, .class_ 3)] 3

/-- java/io/Serializable -/
def k4 : Class := { plain "java/io/Serializable" (some 0) with
  accessFlags := 1537
  interfaces := #[]
  cf := some (fileOf pool4 2 #[] #[] 1537 4 #[] #[])
  fields := #[]
  methods := #[]
  instanceTypes := #[]
  staticTypes := #[]
  resolved := Array.replicate 8 none
  statics := none }

/-- the primitive byte -/
def k5 : Class := { plain "byte" none with kind := .primitive 'B', accessFlags := 0x411 }
/-- [B -/
def k6 : Class := { plain "[B" (some 0) with kind := .array 5 .byte, interfaces := #[3, 4], accessFlags := 1041 }

/-- the primitive int -/
def k7 : Class := { plain "int" none with kind := .primitive 'I', accessFlags := 0x411 }
/-- [I -/
def k8 : Class := { plain "[I" (some 0) with kind := .array 7 .int, interfaces := #[3, 4], accessFlags := 1041 }

def heap : Heap := #[]
def classes : Array Class := #[k0, k1, k2, k3, k4, k5, k6, k7, k8]
def interned : List (Array UInt16 × Addr) := []
def slotsUsed : Nat := 0
def theMethod : MethodId := ⟨1, 1⟩
def args0 : Array Value := #[.long 5, .int 1, .int 2, .int 3, .int 4]
def aboutOver (below : List Frame) : State where
  vm := { classes := classes, interned := interned.toArray }
  heap := heap
  slotsUsed := slotsUsed
  threads := #[{ frames := .invoking theMethod args0 :: below }]
def below0 : List Frame := [.native { method := ⟨0, 0⟩, args := #[] }]
def about1 : State := aboutOver below0
def p0 : Program := .bare "" "" ""
def e0 : Env := launch0.env 0 0 0
theorem w_frames : about1.frames = Frame.invoking theMethod args0 :: below0 := rfl
set_option maxRecDepth 65536 in
theorem w_args : argsFit about1.vm theMethod args0 = true := by decide +kernel
set_option maxRecDepth 65536 in
theorem w_heap : heapFits about1 = true := by decide +kernel
set_option maxRecDepth 65536 in
theorem w_runnable : about1.curStatus? = some .runnable := by decide +kernel
set_option maxRecDepth 65536 in
theorem w_alone : about1.alone = true := by decide +kernel
set_option maxRecDepth 65536 in
theorem w_named : about1.methodNamed? x = some theMethod := by decide +kernel
set_option maxRecDepth 65536 in
theorem w_hears : about1.hears theMethod below0 = true := by decide +kernel
set_option maxRecDepth 65536 in
theorem w_ripe : about1.ripe theMethod args0 below0 = true := by decide +kernel
theorem w_running : about1.status = .running := rfl
set_option maxRecDepth 65536 in
theorem w_room : about1.hasRoom e0.platform room_1 = true :=
  launch0.hasRoom_least _ room_1 (by decide +kernel) (by decide +kernel) (by decide +kernel) (by decide +kernel) (by decide +kernel) (by decide +kernel)
theorem allAtoms_all (ts : List Jvm.Cond) (a : Array Jvm.Value) (st : Jvm.State) : (allAtoms ts).before a st = ts.all (fun c => c.before a st) := by
  induction ts with
  | nil => rfl
  | cons c t ih =>
    show (Jvm.Cond.and c (allAtoms t)).before a st = _
    rw [Jvm.Cond.before_and, ih, List.all_cons]
def words1 : List Jvm.Cond := Jvm.Cond.code x code maxLocals ret :: tables_1
/-- a 'code' word, met by the world's own term for the bytes: nothing is compared byte by byte -/
theorem code_word {y : MethodName} {bytes : ByteArray} {mx : Nat} {rt : Option FieldType} {a : Array Value} {s : State} {m : MethodId} {meth : Method} {c : Code} (h1 : s.methodNamed? y = some m) (h2 : s.vm.method? m = some meth) (h3 : meth.code = some c) (h4 : c.code = bytes)
    (h5 : (c.maxLocals == mx && c.exceptionTable.isEmpty && decide (c.maxStack ≤ mostOperands) && decide (meth.sig.returnType = rt) && !meth.locks && decide (parseMethodDescriptor y.desc = some meth.sig)) = true) : (Jvm.Cond.code y bytes mx rt).before a s = true := by
  simp only [Bool.and_eq_true, beq_iff_eq, Bool.not_eq_true', decide_eq_true_eq] at h5
  obtain ⟨⟨⟨⟨⟨g1, g2⟩, g3⟩, g4⟩, g5⟩, g6⟩ := h5
  simp [Cond.before, Cond.holds, Cond.value, h1, h2, h3, h4, g1, g2, g3, g4, g5, g6]
def isCode : Jvm.Cond → Bool
  | .code _ _ _ _ => true
  | _ => false
theorem all_split {L : List Jvm.Cond} {P : Jvm.Cond → Bool} (h1 : L.all (fun c => isCode c || P c) = true) (h2 : ∀ c ∈ L.filter isCode, P c = true) : L.all P = true := by
  refine List.all_eq_true.mpr fun c hc => ?_
  have h := List.all_eq_true.mp h1 c hc
  rcases Bool.eq_false_or_eq_true (isCode c) with hi | hi
  · exact h2 c (List.mem_filter.mpr ⟨hc, hi⟩)
  · simpa [hi] using h
set_option maxRecDepth 65536 in
theorem w_c0 : (Jvm.Cond.code x code maxLocals ret).before args0 about1 = true := code_word (m := ⟨1, 1⟩) (meth := k1m1) (c := k1c1) (by decide +kernel) rfl rfl rfl (by decide +kernel)
set_option maxRecDepth 65536 in
theorem w_c1 : (Jvm.Cond.code ({ cls := "com/example/cardglyph/cardglyph/image/PackedPoints", name := "unpack", desc := "([BIII)[I" } : Jvm.MethodName) prog_21_method_3_code (10 : Nat) (Option.some (Jvm.ClassFile.FieldType.array Jvm.ClassFile.FieldType.int))).before args0 about1 = true := code_word (m := ⟨2, 1⟩) (meth := k2m1) (c := k2c1) (by decide +kernel) rfl rfl rfl (by decide +kernel)
def codes1 : List Jvm.Cond := [Jvm.Cond.code x code maxLocals ret, Jvm.Cond.code ({ cls := "com/example/cardglyph/cardglyph/image/PackedPoints", name := "unpack", desc := "([BIII)[I" } : Jvm.MethodName) prog_21_method_3_code (10 : Nat) (Option.some (Jvm.ClassFile.FieldType.array Jvm.ClassFile.FieldType.int))]
set_option maxRecDepth 65536 in
theorem codes_eq : words1.filter isCode = codes1 := rfl
theorem w_codes : ∀ c ∈ words1.filter isCode, c.before args0 about1 = true := by
  rw [codes_eq]
  intro c hc
  simp only [codes1, List.mem_cons, List.not_mem_nil, or_false] at hc
  rcases hc with rfl | rfl
  · exact w_c0
  · exact w_c1
set_option maxRecDepth 65536 in
theorem w_t1 : words1.all (fun c => isCode c || c.before args0 about1) = true := by decide +kernel
theorem w_tables : (allAtoms (Jvm.Cond.code x code maxLocals ret :: tables_1)).before args0 about1 = true := by
  rw [allAtoms_all]
  show words1.all (fun c => c.before args0 about1) = true
  refine all_split ?_ w_codes
  rw [w_t1]
set_option maxRecDepth 65536 in
theorem w_case : (Jvm.Cond.and given_1 narrow_1).before args0 about1 = true := by decide +kernel
theorem w_applies : (headSpec (Jvm.Cond.code x code maxLocals ret :: tables_1) room_1).applies x e0.platform about1 = true :=
  (Spec.applies_iff w_frames).mpr ⟨w_running, w_runnable, w_alone, w_named, w_hears, w_ripe, w_room, w_tables⟩
theorem atStart : AtStart classFile x code maxLocals ret World_1 tables_1 room_1 Calls_1 rest_1 Pre_1 launch0 p0 e0 about1 theMethod args0 below0 :=
  ⟨lists_1, trivial, launch0.admits_env _ _ _, launch0.least_env, fairChoices_fair.cas, fairChoices_fair.clock, w_frames, w_args, w_heap, w_applies, trivial, trivial, w_case⟩
end start1
theorem witness_1 : WitnessClaimed_1 := ⟨start1.p0, start1.e0, start1.about1, start1.theMethod, start1.args0, start1.below0, start1.atStart⟩
end Jvm.Pilot.@@N@@
