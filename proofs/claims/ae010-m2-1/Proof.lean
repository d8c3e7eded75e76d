import JvmDerived
import JvmDerived.Pilot.@@N@@Statement
import JvmDerived.Pilot.@@N@@Code
set_option linter.unusedVariables false
set_option linter.unusedSimpArgs false
namespace Jvm.RoadKit
open Sem ClassFile Op Lib Jvm.Stand Jvm.Free Jvm.LawKit
section New
variable {p : Program} {l : Launch} {e : Env} {R : Room} {s : State} {m : MethodId} {args : Array Value} {below : List Frame} {meth : Method} {c : Code} {T : State} {locs : List Loc} {cells slots : Nat}
theorem retI (X : Stand p l e R s m args below meth c T locs cells slots) (hx : p.tables.exec = Jvm.exec) {pc : Nat} {Ls : Array Slot} {z : Int32} {rest : List Value} (hret : meth.sig.returnType = some .int) (hd : decode c.code pc = .ok (.ireturn, 1)) {fs : List Frame}
    (hl : ∀ (f : JFrame) (acts : List Action), f.method = m → f.locked = none → f.entered = [] → (doReturn e (T.setTop f) acts (some (.int z))).1 = T.setFrames fs) : Steps p.tables e below (T.setTop (mkF m pc Ls (.int z :: rest))) (T.setFrames fs) := by
  have hm' : T.vm.method? m = some meth := X.method'
  have hn : narrow .int (.int z) = .int z := rfl
  show Steps p.tables e below (T.setTop { method := m, pc := pc, locals := Ls, stack := _ :: rest, locked := none }) _
  jvm_step X.here [X.here.top, hx, hd, hm', hret, hn]
  first | (intro acts; rw [hl _ acts rfl rfl rfl]) | rw [hl _ _ rfl rfl rfl]
  exact Steps.refl _
end New
end Jvm.RoadKit
namespace Jvm.Pilot.@@N@@
open Jvm Jvm.ClassFile Sem Op Lib Jvm.Free Jvm.Stand Jvm.LawKit Jvm.RoadKit Bundle Jvm.Pilot.@@N@@.Jvm.D
section OwnKit
variable {p : Program} {l : Launch} {e : Env} {R : Room} {s : State} {m : MethodId} {args : Array Value} {below : List Frame} {meth : Method} {c : Code} {T : State} {locs : List Loc} {cells slots : Nat} {Z : State} {h h' : Heap}
theorem own_lremM {g : JFrame} {target : State} (X : Stand p l e R s m args below meth c T locs cells slots) (hx : p.tables.exec = Jvm.exec) (hg : g.method = m) {x y : Int64} {rest : List Value} (hd : decode c.code g.pc = .ok (.lrem, 1)) (hs : g.stack = .long y :: .long x :: rest) (hy : y ≠ 0)
    (hr : Steps p.tables e below (T.setTop { g with pc := g.pc + 1, stack := .long (x % y) :: rest }) target) : Steps p.tables e below (T.setTop g) target :=
  XS.lrem X.here hx hg hd hs hy (by rw [lrem_mod]; exact hr)
/-- an array, by the list of its values -/
def own_A (Z : State) (h : Heap) (a : Addr) (ty : FieldType) (vs : List Value) : Prop := ∃ c : Cell, Arr Z h a c ty ∧ c.slots = vs.toArray
def own_AJ (Z : State) (h : Heap) (a : Addr) (xs : List Int64) : Prop := own_A Z h a .long (xs.map .long)
def own_AI (Z : State) (h : Heap) (a : Addr) (ty : FieldType) (xs : List Int32) : Prop := own_A Z h a ty (xs.map .int)
section Facts
variable {a b : Addr} {ty : FieldType} {vs : List Value} {xs : List Int64} {ys : List Int32} {sl : Nat} {v : Value} {ws : List Addr}
theorem own_A.ext (F : own_A Z h a ty vs) (E : Ext h h') : own_A Z h' a ty vs := by obtain ⟨c, A, r⟩ := F; exact ⟨c, A.ext E, r⟩
theorem own_A.other (F : own_A Z h b ty vs) (W : Wr h h' a sl v) (q : b ≠ a) : own_A Z h' b ty vs := by obtain ⟨c, A, r⟩ := F; exact ⟨c, A.other W q, r⟩
theorem own_A.keep (F : own_A Z h a ty vs) (K : Keep h h' ws) (q : a ∉ ws) : own_A Z h' a ty vs := by obtain ⟨c, A, r⟩ := F; exact ⟨c, ⟨K.2.1 a c A.1 q, A.2⟩, r⟩
theorem own_A.lt (F : own_A Z h a ty vs) : a < h.size := by obtain ⟨c, A, -⟩ := F; exact A.lt
theorem own_AJ.ext (F : own_AJ Z h a xs) (E : Ext h h') : own_AJ Z h' a xs := own_A.ext F E
theorem own_AJ.other (F : own_AJ Z h b xs) (W : Wr h h' a sl v) (q : b ≠ a) : own_AJ Z h' b xs := own_A.other F W q
theorem own_AJ.keep (F : own_AJ Z h a xs) (K : Keep h h' ws) (q : a ∉ ws) : own_AJ Z h' a xs := own_A.keep F K q
theorem own_AJ.lt (F : own_AJ Z h a xs) : a < h.size := own_A.lt F
theorem own_AI.ext (F : own_AI Z h a ty ys) (E : Ext h h') : own_AI Z h' a ty ys := own_A.ext F E
theorem own_AI.other (F : own_AI Z h b ty ys) (W : Wr h h' a sl v) (q : b ≠ a) : own_AI Z h' b ty ys := own_A.other F W q
theorem own_AI.keep (F : own_AI Z h a ty ys) (K : Keep h h' ws) (q : a ∉ ws) : own_AI Z h' a ty ys := own_A.keep F K q
theorem own_AI.lt (F : own_AI Z h a ty ys) : a < h.size := own_A.lt F
theorem own_A.set (F : own_A Z h a ty vs) {k : Nat} (W : Wr h h' a k v) : own_A Z h' a ty (vs.set k v) := by
  obtain ⟨c, A, r⟩ := F
  refine ⟨c.setSlot k v, A.same W, ?_⟩
  simp [Cell.setSlot, r]
theorem own_A_new {cA : ClassId} {n : Int32} {k : Nat} (A : Arr Z h a (newA cA ty n) ty) (hk : n.toNatClampNeg = k) : own_A Z h a ty (List.replicate k (defaultValue ty)) := by
  subst hk
  exact ⟨_, A, by simp [newA]⟩
theorem own_AJ_new {cA : ClassId} {n : Int32} {k : Nat} (A : Arr Z h a (newA cA .long n) .long) (hk : n.toNatClampNeg = k) : own_AJ Z h a (List.replicate k 0) := by
  have q := own_A_new A hk
  rw [own_AJ, List.map_replicate]; exact q
theorem own_AIint_new {cA : ClassId} {n : Int32} {k : Nat} (A : Arr Z h a (newA cA .int n) .int) (hk : n.toNatClampNeg = k) : own_AI Z h a .int (List.replicate k 0) := by
  have q := own_A_new A hk
  rw [own_AI, List.map_replicate]; exact q
theorem own_AIbyte_new {cA : ClassId} {n : Int32} {k : Nat} (A : Arr Z h a (newA cA .byte n) .byte) (hk : n.toNatClampNeg = k) : own_AI Z h a .byte (List.replicate k 0) := by
  have q := own_A_new A hk
  rw [own_AI, List.map_replicate]; exact q
theorem own_AIboolean_new {cA : ClassId} {n : Int32} {k : Nat} (A : Arr Z h a (newA cA .boolean n) .boolean) (hk : n.toNatClampNeg = k) : own_AI Z h a .boolean (List.replicate k 0) := by
  have q := own_A_new A hk
  rw [own_AI, List.map_replicate]; exact q
theorem own_inb {cl : Cell} {j : Int32} (r : cl.slots = vs.toArray) (hj : 0 ≤ j.toInt ∧ j.toInt < (vs.length : Nat)) : ¬ (j < 0 ∨ cl.slots.size ≤ j.toNatClampNeg) ∧ j.toNatClampNeg = j.toInt.toNat := by
  have e : j.toNatClampNeg = j.toInt.toNat := rfl
  refine ⟨fun q => ?_, e⟩
  rcases q with q | q
  · rw [Int32.lt_iff_toInt_lt] at q
    have : (0 : Int32).toInt = 0 := by decide
    omega
  · rw [r, e] at q
    simp at q
    omega
end Facts
theorem own_at? {α : Type} (f : α → Value) (xs : List α) (k : Nat) (d : α) (hk : k < xs.length) : (xs.map f).toArray[k]? = some (f (xs.getD k d)) := by
  simp [List.getD, hk]
section Loads
variable {a : Addr} {xs : List Int64} {ys : List Int32} {j : Int32} {pc : Nat} {Ls : Array Slot} {rest : List Value}
theorem own_laload (X : Stand p l e R s m args below meth c T locs cells slots) (hx : p.tables.exec = Jvm.exec) (hZ : Z.Warmed39 s.vm) (eT : T.heap = h) (A : own_AJ Z h a xs) (hj : 0 ≤ j.toInt ∧ j.toInt < (xs.length : Nat)) (hd : decode c.code pc = .ok (.laload, 1)) (target : State)
    (hr : Steps p.tables e below (T.setTop (mkF m (pc + 1) Ls (.long (xs.getD j.toInt.toNat 0) :: rest))) target) : Steps p.tables e below (T.setTop (mkF m pc Ls (.int j :: .ref a :: rest))) target := by
  obtain ⟨cl, A, r⟩ := A
  obtain ⟨q1, q2⟩ := own_inb (j := j) r (by simpa using hj)
  refine X.laload hx (by rw [eT]; exact A.1) (State.isArrayOf_alike hZ.alike A.2.1) A.2.2 q1 (v := .long (xs.getD j.toInt.toNat 0)) ?_ (g := mkF m pc Ls (.int j :: .ref a :: rest)) rfl rfl hd target hr
  rw [q2, r]
  exact own_at? _ xs _ 0 (by omega)
theorem own_iaload (X : Stand p l e R s m args below meth c T locs cells slots) (hx : p.tables.exec = Jvm.exec) (hZ : Z.Warmed39 s.vm) (eT : T.heap = h) (A : own_AI Z h a .int ys) (hj : 0 ≤ j.toInt ∧ j.toInt < (ys.length : Nat)) (hd : decode c.code pc = .ok (.iaload, 1)) (target : State)
    (hr : Steps p.tables e below (T.setTop (mkF m (pc + 1) Ls (.int (ys.getD j.toInt.toNat 0) :: rest))) target) : Steps p.tables e below (T.setTop (mkF m pc Ls (.int j :: .ref a :: rest))) target := by
  obtain ⟨cl, A, r⟩ := A
  obtain ⟨q1, q2⟩ := own_inb (j := j) r (by simpa using hj)
  refine X.iaload hx (by rw [eT]; exact A.1) (State.isArrayOf_alike hZ.alike A.2.1) A.2.2 q1 (v := .int (ys.getD j.toInt.toNat 0)) ?_ (g := mkF m pc Ls (.int j :: .ref a :: rest)) rfl rfl hd target hr
  rw [q2, r]
  exact own_at? _ ys _ 0 (by omega)
theorem own_baloadB (X : Stand p l e R s m args below meth c T locs cells slots) (hx : p.tables.exec = Jvm.exec) (hZ : Z.Warmed39 s.vm) (eT : T.heap = h) (A : own_AI Z h a .byte ys) (hj : 0 ≤ j.toInt ∧ j.toInt < (ys.length : Nat)) (hd : decode c.code pc = .ok (.baload, 1)) (target : State)
    (hr : Steps p.tables e below (T.setTop (mkF m (pc + 1) Ls (.int (ys.getD j.toInt.toNat 0) :: rest))) target) : Steps p.tables e below (T.setTop (mkF m pc Ls (.int j :: .ref a :: rest))) target := by
  obtain ⟨cl, A, r⟩ := A
  obtain ⟨q1, q2⟩ := own_inb (j := j) r (by simpa using hj)
  refine X.baloadBytes hx (by rw [eT]; exact A.1) (State.isArrayOf_alike hZ.alike A.2.1) A.2.2 q1 (v := .int (ys.getD j.toInt.toNat 0)) ?_ (g := mkF m pc Ls (.int j :: .ref a :: rest)) rfl rfl hd target hr
  rw [q2, r]
  exact own_at? _ ys _ 0 (by omega)
theorem own_baloadZ (X : Stand p l e R s m args below meth c T locs cells slots) (hx : p.tables.exec = Jvm.exec) (hZ : Z.Warmed39 s.vm) (eT : T.heap = h) (A : own_AI Z h a .boolean ys) (hj : 0 ≤ j.toInt ∧ j.toInt < (ys.length : Nat)) (hd : decode c.code pc = .ok (.baload, 1)) (target : State)
    (hr : Steps p.tables e below (T.setTop (mkF m (pc + 1) Ls (.int (ys.getD j.toInt.toNat 0) :: rest))) target) : Steps p.tables e below (T.setTop (mkF m pc Ls (.int j :: .ref a :: rest))) target := by
  obtain ⟨cl, A, r⟩ := A
  obtain ⟨q1, q2⟩ := own_inb (j := j) r (by simpa using hj)
  refine X.baloadBooleans hx (by rw [eT]; exact A.1) (State.isArrayOf_alike hZ.alike A.2.1) A.2.2 q1 (v := .int (ys.getD j.toInt.toNat 0)) ?_ (g := mkF m pc Ls (.int j :: .ref a :: rest)) rfl rfl hd target hr
  rw [q2, r]
  exact own_at? _ ys _ 0 (by omega)
theorem own_alenJ (X : Stand p l e R s m args below meth c T locs cells slots) (hx : p.tables.exec = Jvm.exec) (hZ : Z.Warmed39 s.vm) (eT : T.heap = h) (A : own_AJ Z h a xs) (hd : decode c.code pc = .ok (.arraylength, 1)) (target : State)
    (hr : Steps p.tables e below (T.setTop (mkF m (pc + 1) Ls (.int xs.length.toInt32 :: rest))) target) : Steps p.tables e below (T.setTop (mkF m pc Ls (.ref a :: rest))) target := by
  obtain ⟨cl, A, r⟩ := A
  refine X.arraylength hx (by rw [eT]; exact A.1) (State.isArrayOf_alike hZ.alike A.2.1) (g := mkF m pc Ls (.ref a :: rest)) rfl rfl hd target ?_
  rw [r]
  simpa using hr
theorem own_alenI {ty : FieldType} (X : Stand p l e R s m args below meth c T locs cells slots) (hx : p.tables.exec = Jvm.exec) (hZ : Z.Warmed39 s.vm) (eT : T.heap = h) (A : own_AI Z h a ty ys) (hd : decode c.code pc = .ok (.arraylength, 1)) (target : State)
    (hr : Steps p.tables e below (T.setTop (mkF m (pc + 1) Ls (.int ys.length.toInt32 :: rest))) target) : Steps p.tables e below (T.setTop (mkF m pc Ls (.ref a :: rest))) target := by
  obtain ⟨cl, A, r⟩ := A
  refine X.arraylength hx (by rw [eT]; exact A.1) (State.isArrayOf_alike hZ.alike A.2.1) (g := mkF m pc Ls (.ref a :: rest)) rfl rfl hd target ?_
  rw [r]
  simpa using hr
theorem own_lastore (X : Stand p l e R s m args below meth c T locs cells slots) (hx : p.tables.exec = Jvm.exec) (hZ : Z.Warmed39 s.vm) (eT : T.heap = h) (A : own_AJ Z h a xs) (hj : 0 ≤ j.toInt ∧ j.toInt < (xs.length : Nat)) {x : Int64} (hd : decode c.code pc = .ok (.lastore, 1)) :
    ∃ T' h', Stand p l e R s m args below meth c T' (locs ++ [⟨a, j.toInt.toNat⟩]) cells slots ∧ T'.heap = h' ∧ Wr h h' a j.toInt.toNat (.long x) ∧ own_AJ Z h' a (xs.set j.toInt.toNat x) ∧ ∀ target, Steps p.tables e below (T'.setTop (mkF m (pc + 1) Ls rest)) target → Steps p.tables e below (T.setTop (mkF m pc Ls (.long x :: .int j :: .ref a :: rest))) target := by
  obtain ⟨cl, B, r⟩ := A
  obtain ⟨q1, q2⟩ := own_inb (j := j) r (by simpa using hj)
  obtain ⟨T', h', X', e', W', st⟩ := stJ X hx hZ eT B q1 (x := x) (g := mkF m pc Ls (.long x :: .int j :: .ref a :: rest)) rfl rfl hd
  rw [q2] at X' W'
  exact ⟨T', h', X', e', W', by have := own_A.set ⟨cl, B, r⟩ W'; rw [own_AJ, List.map_set]; exact this, st⟩
theorem own_iastore (X : Stand p l e R s m args below meth c T locs cells slots) (hx : p.tables.exec = Jvm.exec) (hZ : Z.Warmed39 s.vm) (eT : T.heap = h) (A : own_AI Z h a .int ys) (hj : 0 ≤ j.toInt ∧ j.toInt < (ys.length : Nat)) {x : Int32} (hd : decode c.code pc = .ok (.iastore, 1)) :
    ∃ T' h', Stand p l e R s m args below meth c T' (locs ++ [⟨a, j.toInt.toNat⟩]) cells slots ∧ T'.heap = h' ∧ Wr h h' a j.toInt.toNat (.int x) ∧ own_AI Z h' a .int (ys.set j.toInt.toNat x) ∧ ∀ target, Steps p.tables e below (T'.setTop (mkF m (pc + 1) Ls rest)) target → Steps p.tables e below (T.setTop (mkF m pc Ls (.int x :: .int j :: .ref a :: rest))) target := by
  obtain ⟨cl, B, r⟩ := A
  obtain ⟨q1, q2⟩ := own_inb (j := j) r (by simpa using hj)
  obtain ⟨T', h', X', e', W', st⟩ := stI X hx hZ eT B q1 (x := x) (g := mkF m pc Ls (.int x :: .int j :: .ref a :: rest)) rfl rfl hd
  rw [q2] at X' W'
  exact ⟨T', h', X', e', W', by have := own_A.set ⟨cl, B, r⟩ W'; rw [own_AI, List.map_set]; exact this, st⟩
theorem own_bastoreB (X : Stand p l e R s m args below meth c T locs cells slots) (hx : p.tables.exec = Jvm.exec) (hZ : Z.Warmed39 s.vm) (eT : T.heap = h) (A : own_AI Z h a .byte ys) (hj : 0 ≤ j.toInt ∧ j.toInt < (ys.length : Nat)) {x : Int32} (hd : decode c.code pc = .ok (.bastore, 1)) :
    ∃ T' h', Stand p l e R s m args below meth c T' (locs ++ [⟨a, j.toInt.toNat⟩]) cells slots ∧ T'.heap = h' ∧ Wr h h' a j.toInt.toNat (.int x.toInt8.toInt32) ∧ own_AI Z h' a .byte (ys.set j.toInt.toNat x.toInt8.toInt32) ∧ ∀ target, Steps p.tables e below (T'.setTop (mkF m (pc + 1) Ls rest)) target → Steps p.tables e below (T.setTop (mkF m pc Ls (.int x :: .int j :: .ref a :: rest))) target := by
  obtain ⟨cl, B, r⟩ := A
  obtain ⟨q1, q2⟩ := own_inb (j := j) r (by simpa using hj)
  obtain ⟨T', h', X', e', W', st⟩ := stB X hx hZ eT B q1 (x := x) (g := mkF m pc Ls (.int x :: .int j :: .ref a :: rest)) rfl rfl hd
  rw [q2] at X' W'
  exact ⟨T', h', X', e', W', by have := own_A.set ⟨cl, B, r⟩ W'; rw [own_AI, List.map_set]; exact this, st⟩
theorem own_bastoreZ (X : Stand p l e R s m args below meth c T locs cells slots) (hx : p.tables.exec = Jvm.exec) (hZ : Z.Warmed39 s.vm) (eT : T.heap = h) (A : own_AI Z h a .boolean ys) (hj : 0 ≤ j.toInt ∧ j.toInt < (ys.length : Nat)) {x : Int32} (hd : decode c.code pc = .ok (.bastore, 1)) :
    ∃ T' h', Stand p l e R s m args below meth c T' (locs ++ [⟨a, j.toInt.toNat⟩]) cells slots ∧ T'.heap = h' ∧ Wr h h' a j.toInt.toNat (.int (x &&& 1)) ∧ own_AI Z h' a .boolean (ys.set j.toInt.toNat (x &&& 1)) ∧ ∀ target, Steps p.tables e below (T'.setTop (mkF m (pc + 1) Ls rest)) target → Steps p.tables e below (T.setTop (mkF m pc Ls (.int x :: .int j :: .ref a :: rest))) target := by
  obtain ⟨cl, B, r⟩ := A
  obtain ⟨q1, q2⟩ := own_inb (j := j) r (by simpa using hj)
  obtain ⟨T', h', X', e', W', st⟩ := stZ X hx hZ eT B q1 (x := x) (g := mkF m pc Ls (.int x :: .int j :: .ref a :: rest)) rfl rfl hd
  rw [q2] at X' W'
  exact ⟨T', h', X', e', W', by have := own_A.set ⟨cl, B, r⟩ W'; rw [own_AI, List.map_set]; exact this, st⟩
end Loads
end OwnKit
theorem own_bm32 {x : Int} (h1 : -2147483648 ≤ x) (h2 : x < 2147483648) : x.bmod (2 ^ 32) = x := by
  rw [Int.bmod_def]; split <;> omega
theorem own_bm64 {x : Int} (h1 : -9223372036854775808 ≤ x) (h2 : x < 9223372036854775808) : x.bmod (2 ^ 64) = x := by
  rw [Int.bmod_def]; split <;> omega
theorem own_r32 (x : Int32) : -2147483648 ≤ x.toInt ∧ x.toInt < 2147483648 := ⟨x.le_toInt, x.toInt_lt⟩
theorem own_r64 (x : Int64) : -9223372036854775808 ≤ x.toInt ∧ x.toInt < 9223372036854775808 := ⟨x.le_toInt, x.toInt_lt⟩
theorem own_iadd {x y : Int32} (h : -2147483648 ≤ x.toInt + y.toInt ∧ x.toInt + y.toInt < 2147483648) : (x + y).toInt = x.toInt + y.toInt := by rw [Int32.toInt_add]; exact own_bm32 h.1 h.2
theorem own_isub {x y : Int32} (h : -2147483648 ≤ x.toInt - y.toInt ∧ x.toInt - y.toInt < 2147483648) : (x - y).toInt = x.toInt - y.toInt := by rw [Int32.toInt_sub]; exact own_bm32 h.1 h.2
theorem own_imul {x y : Int32} (h : -2147483648 ≤ x.toInt * y.toInt ∧ x.toInt * y.toInt < 2147483648) : (x * y).toInt = x.toInt * y.toInt := by rw [Int32.toInt_mul]; exact own_bm32 h.1 h.2
theorem own_ladd {x y : Int64} (h : -9223372036854775808 ≤ x.toInt + y.toInt ∧ x.toInt + y.toInt < 9223372036854775808) : (x + y).toInt = x.toInt + y.toInt := by rw [Int64.toInt_add]; exact own_bm64 h.1 h.2
theorem own_lsub {x y : Int64} (h : -9223372036854775808 ≤ x.toInt - y.toInt ∧ x.toInt - y.toInt < 9223372036854775808) : (x - y).toInt = x.toInt - y.toInt := by rw [Int64.toInt_sub]; exact own_bm64 h.1 h.2
theorem own_lmul {x y : Int64} (h : -9223372036854775808 ≤ x.toInt * y.toInt ∧ x.toInt * y.toInt < 9223372036854775808) : (x * y).toInt = x.toInt * y.toInt := by rw [Int64.toInt_mul]; exact own_bm64 h.1 h.2
theorem own_i2l (x : Int32) : x.toInt64.toInt = x.toInt := Int32.toInt_toInt64 x
theorem own_l2i {x : Int64} (h : -2147483648 ≤ x.toInt ∧ x.toInt < 2147483648) : x.toInt32.toInt = x.toInt := by rw [Int64.toInt_toInt32]; exact own_bm32 h.1 h.2
theorem own_irem {x y : Int32} (h : 0 ≤ x.toInt) : (x % y).toInt = x.toInt % y.toInt := by rw [Int32.toInt_mod]; exact Int.tmod_eq_emod_of_nonneg h
theorem own_lrem {x y : Int64} (h : 0 ≤ x.toInt) : (x % y).toInt = x.toInt % y.toInt := by rw [Int64.toInt_mod]; exact Int.tmod_eq_emod_of_nonneg h
theorem own_idiv {x y : Int32} (h : 0 ≤ x.toInt) (hy : 0 ≤ y.toInt) : (x / y).toInt = x.toInt / y.toInt := by
  rw [Int32.toInt_div_of_ne_right x y (fun q => by rw [q] at hy; revert hy; decide)]; exact Int.tdiv_eq_ediv_of_nonneg h
theorem own_ldiv {x y : Int64} (h : 0 ≤ x.toInt) (hy : 0 ≤ y.toInt) : (x / y).toInt = x.toInt / y.toInt := by
  rw [Int64.toInt_div_of_ne_right x y (fun q => by rw [q] at hy; revert hy; decide)]; exact Int.tdiv_eq_ediv_of_nonneg h
/-- a mask of k bits -/
theorem own_mask (x m : Int32) (k : Nat) (hk : k ≤ 31) (hm : m.toBitVec.toNat = 2 ^ k - 1) : (x &&& m).toInt = x.toInt % (2 ^ k : Nat) := by
  have hp : 2 ^ k ≤ 2 ^ 31 := Nat.pow_le_pow_right (by decide) hk
  have hp0 : 0 < 2 ^ k := Nat.pow_pos (by decide)
  have e : (x &&& m).toBitVec.toNat = x.toBitVec.toNat % 2 ^ k := by rw [Int32.toBitVec_and, BitVec.toNat_and, hm, Nat.and_two_pow_sub_one_eq_mod]
  have l := Nat.mod_lt x.toBitVec.toNat hp0
  rw [← Int32.toInt_toBitVec, ← Int32.toInt_toBitVec, BitVec.toInt_eq_toNat_cond, e, if_pos (by omega), BitVec.toInt_eq_toNat_cond]
  split
  · simp
  · rename_i q
    have d : (2 ^ k : Nat) ∣ 2 ^ 32 := Nat.pow_dvd_pow 2 (by omega)
    obtain ⟨c, hc⟩ := d
    have hc' : ((2 ^ 32 : Nat) : Int) = ((2 ^ k : Nat) : Int) * (c : Int) := by rw [hc]; simp
    rw [hc', Int.sub_mul_emod_self_left]; simp
theorem own_ushr (x : Int64) (y : Int32) (k : Nat) (hk : (y &&& 0x3f).toInt64.toBitVec.toNat % 64 = k) (h0 : 0 < k) : (((x).toUInt64 >>> (y &&& 0x3f).toInt64.toUInt64).toInt64).toInt = (x.toInt % 18446744073709551616) / (2 ^ k : Nat) := by
  have e : (((x).toUInt64 >>> (y &&& 0x3f).toInt64.toUInt64).toInt64).toBitVec = x.toBitVec >>> k := by rw [← hk]; simp
  have hl := x.toBitVec.isLt
  have hp0 : 0 < 2 ^ k := Nat.pow_pos (by decide)
  have h2 : 2 ^ 1 ≤ 2 ^ k := Nat.pow_le_pow_right (by decide) h0
  have hd : x.toBitVec.toNat / 2 ^ k ≤ x.toBitVec.toNat / 2 := Nat.div_le_div_left h2 (by decide)
  have t : x.toInt % 18446744073709551616 = (x.toBitVec.toNat : Int) := by
    rw [← Int64.toInt_toBitVec, BitVec.toInt_eq_toNat_cond]; split <;> omega
  rw [t, ← Int64.toInt_toBitVec, e, BitVec.toInt_eq_toNat_cond, BitVec.toNat_ushiftRight, Nat.shiftRight_eq_div_pow, if_pos (by omega)]
  simp
theorem own_shl (x : Int64) (y : Int32) (k : Nat) (hk : y.toBitVec.toNat % 64 = k) (h : -9223372036854775808 ≤ x.toInt * (2 ^ k : Nat) ∧ x.toInt * (2 ^ k : Nat) < 9223372036854775808) : (x <<< (y &&& 0x3f).toInt64).toInt = x.toInt * (2 ^ k : Nat) := by
  have q := c_lshl x y k hk
  have r := own_r64 (x <<< (y &&& 0x3f).toInt64)
  generalize x.toInt * (2 ^ k : Nat) = z at *
  omega
theorem own_nzL {x : Int32} (h : ¬ x = 0) : ¬ x.toInt64 = 0 := fun q => h (Int32.toInt_inj.mp (by rw [← own_i2l, q]; rfl))
theorem own_nzP {x : Int32} (h : 1 ≤ x.toInt) : ¬ x = 0 := fun q => by rw [q] at h; revert h; decide
theorem own_fA {t n : Int32} {k : Int} (h : t < n) (q : n.toInt - 1 = k) : t.toInt ≤ k := by rw [Int32.lt_iff_toInt_lt] at h; omega
theorem own_fB {t n : Int32} {k : Int} (h : ¬ n < t) (q : n.toInt = k) : t.toInt ≤ k := by rw [Int32.lt_iff_toInt_lt] at h; omega
theorem own_fC {t n : Int32} {k : Int} (h : n < t) (q : n.toInt + 1 = k) : k ≤ t.toInt := by rw [Int32.lt_iff_toInt_lt] at h; omega
theorem own_fD {t n : Int32} {k : Int} (h : ¬ t < n) (q : n.toInt = k) : k ≤ t.toInt := by rw [Int32.lt_iff_toInt_lt] at h; omega
theorem own_fE {t n : Int32} {k : Int} (h : t = n) (q : n.toInt = k) : t.toInt ≤ k := by rw [h]; omega
theorem own_fF {t n : Int32} {k : Int} (h : t = n) (q : n.toInt = k) : k ≤ t.toInt := by rw [h]; omega
theorem own_g1 {t m : Int32} {k : Int} (h : t.toInt ≤ k) (q : k < m.toInt) : t < m := by rw [Int32.lt_iff_toInt_lt]; omega
theorem own_g2 {t m : Int32} {k : Int} (h : t.toInt ≤ k) (q : k ≤ m.toInt) : ¬ m < t := by rw [Int32.lt_iff_toInt_lt]; omega
theorem own_g3 {t m : Int32} {k : Int} (h : t.toInt ≤ k) (q : k < m.toInt) : ¬ t = m := fun e => by rw [e] at h; omega
theorem own_g4 {t m : Int32} {k : Int} (h : k ≤ t.toInt) (q : m.toInt ≤ k) : ¬ t < m := by rw [Int32.lt_iff_toInt_lt]; omega
theorem own_g5 {t m : Int32} {k : Int} (h : k ≤ t.toInt) (q : m.toInt < k) : m < t := by rw [Int32.lt_iff_toInt_lt]; omega
theorem own_g6 {t m : Int32} {k : Int} (h : k ≤ t.toInt) (q : m.toInt < k) : ¬ t = m := fun e => by rw [e] at h; omega
theorem own_g7 {t m : Int32} {k : Int} (h : k ≤ t.toInt) (h' : t.toInt ≤ k) (q : m.toInt = k) : t = m := Int32.toInt_inj.mp (by omega)
theorem own_ne {x n : Int32} {k : Int} (h : ¬ x = n) (q : n.toInt = k) : k ≠ x.toInt := fun e => h (Int32.toInt_inj.mp (by omega))
theorem own_gs1 {α : Type} (xs : List α) (n : Nat) (v d : α) (h : n < xs.length) : (xs.set n v).getD n d = v := by simp [List.getD, h]
theorem own_gs2 {α : Type} (xs : List α) (n j : Nat) (v d : α) (h : n ≠ j) : (xs.set n v).getD j d = xs.getD j d := by simp [List.getD, List.getElem?_set, h]
theorem d1_0 : decode prog_21_method_4_code 0 = .ok (.iload_n 2, 1) := by decide +kernel
theorem d1_1 : decode prog_21_method_4_code 1 = .ok (.newarray .boolean, 2) := by decide +kernel
theorem d1_3 : decode prog_21_method_4_code 3 = .ok (.astore_n 3, 1) := by decide +kernel
theorem d1_4 : decode prog_21_method_4_code 4 = .ok (.iconst 0, 1) := by decide +kernel
theorem d1_5 : decode prog_21_method_4_code 5 = .ok (.istore 4, 2) := by decide +kernel
theorem d1_7 : decode prog_21_method_4_code 7 = .ok (.iload 4, 2) := by decide +kernel
theorem d1_9 : decode prog_21_method_4_code 9 = .ok (.iload_n 2, 1) := by decide +kernel
theorem d1_10 : decode prog_21_method_4_code 10 = .ok (.if_icmp .ge 40, 3) := by decide +kernel
theorem d1_13 : decode prog_21_method_4_code 13 = .ok (.aload_n 3, 1) := by decide +kernel
theorem d1_14 : decode prog_21_method_4_code 14 = .ok (.iload 4, 2) := by decide +kernel
theorem d1_16 : decode prog_21_method_4_code 16 = .ok (.aload_n 0, 1) := by decide +kernel
theorem d1_17 : decode prog_21_method_4_code 17 = .ok (.iload_n 1, 1) := by decide +kernel
theorem d1_18 : decode prog_21_method_4_code 18 = .ok (.iload 4, 2) := by decide +kernel
theorem d1_20 : decode prog_21_method_4_code 20 = .ok (.bipush 8, 2) := by decide +kernel
theorem d1_22 : decode prog_21_method_4_code 22 = .ok (.idiv, 1) := by decide +kernel
theorem d1_23 : decode prog_21_method_4_code 23 = .ok (.iadd, 1) := by decide +kernel
theorem d1_24 : decode prog_21_method_4_code 24 = .ok (.baload, 1) := by decide +kernel
theorem d1_25 : decode prog_21_method_4_code 25 = .ok (.sipush 128, 3) := by decide +kernel
theorem d1_28 : decode prog_21_method_4_code 28 = .ok (.iload 4, 2) := by decide +kernel
theorem d1_30 : decode prog_21_method_4_code 30 = .ok (.bipush 8, 2) := by decide +kernel
theorem d1_32 : decode prog_21_method_4_code 32 = .ok (.irem, 1) := by decide +kernel
theorem d1_33 : decode prog_21_method_4_code 33 = .ok (.iushr, 1) := by decide +kernel
theorem d1_34 : decode prog_21_method_4_code 34 = .ok (.iand, 1) := by decide +kernel
theorem d1_35 : decode prog_21_method_4_code 35 = .ok (.ifCond .eq 7, 3) := by decide +kernel
theorem d1_38 : decode prog_21_method_4_code 38 = .ok (.iconst 1, 1) := by decide +kernel
theorem d1_39 : decode prog_21_method_4_code 39 = .ok (.goto 4, 3) := by decide +kernel
theorem d1_42 : decode prog_21_method_4_code 42 = .ok (.iconst 0, 1) := by decide +kernel
theorem d1_43 : decode prog_21_method_4_code 43 = .ok (.bastore, 1) := by decide +kernel
theorem d1_44 : decode prog_21_method_4_code 44 = .ok (.iinc 4 1, 3) := by decide +kernel
theorem d1_47 : decode prog_21_method_4_code 47 = .ok (.goto (-40), 3) := by decide +kernel
theorem d1_50 : decode prog_21_method_4_code 50 = .ok (.aload_n 3, 1) := by decide +kernel
theorem d1_51 : decode prog_21_method_4_code 51 = .ok (.areturn, 1) := by decide +kernel
theorem pn_1 : plainName "com/example/cardglyph/cardglyph/image/PackedPoints" = true := by first | (simp [plainName, overriddenIn]; done) | decide +kernel
def own_bv (ys : List Int32) (q1 i : Int32) : Int32 := if ((ys.getD ((q1 + (i / (8 : Int32)))).toInt.toNat 0) &&& (((128 : Int32)).toUInt32 >>> ((i % (8 : Int32)) &&& 31).toUInt32).toInt32) = (0 : Int32) then 0 else 1
def own_fill (ys : List Int32) (q1 : Int32) : Nat → Int32 → List Int32 → List Int32
  | 0, _, ps => ps
  | k + 1, i, ps => own_fill ys q1 k (i + 1) (ps.set i.toInt.toNat (own_bv ys q1 i))
def own_data (q0 : Int32) : List Int32 := [((((q0).toUInt32 >>> ((24 : Int32) &&& 31).toUInt32).toInt32).toInt8.toInt32).toInt8.toInt32, ((((q0).toUInt32 >>> ((16 : Int32) &&& 31).toUInt32).toInt32).toInt8.toInt32).toInt8.toInt32, ((((q0).toUInt32 >>> ((8 : Int32) &&& 31).toUInt32).toInt32).toInt8.toInt32).toInt8.toInt32, ((q0).toInt8.toInt32).toInt8.toInt32]
theorem own_filllen (ys : List Int32) (q1 : Int32) : ∀ (k : Nat) (i : Int32) (ps : List Int32), (own_fill ys q1 k i ps).length = ps.length
  | 0, _, _ => rfl
  | k + 1, i, ps => by rw [own_fill, own_filllen ys q1 k, List.length_set]
theorem own_atin {i : Int32} {n : Nat} (hl : n ≤ 100) (h1 : 0 ≤ i.toInt) (h : i < n.toInt32) : 0 ≤ i.toInt ∧ i.toInt < (n : Nat) := by
  rw [Int32.lt_iff_toInt_lt, len_toInt (by omega)] at h
  exact ⟨h1, h⟩
theorem own_rem {x y n : Int32} {k : Int} (h : y = (x &&& 2147483647) % n) (hn : n.toInt = k) (hk : 1 ≤ k) : 0 ≤ y.toInt ∧ y.toInt < k := by
  have a := own_mask x 2147483647 31 (by decide) (by decide)
  have b := own_irem (x := x &&& 2147483647) (y := n) (by omega)
  have c := Int.emod_lt_of_pos (x &&& 2147483647).toInt (show 0 < n.toInt by omega)
  have d := Int.emod_nonneg (x &&& 2147483647).toInt (show n.toInt ≠ 0 by omega)
  rw [← h] at b
  omega
theorem own_hy {x x2 y z : Int32} (h : y = (x &&& 2147483647) % 3) (h2 : z = (x2 &&& 2147483647) % 17) : (0 ≤ y.toInt ∧ y.toInt + 2 ≤ (4 : Nat)) ∧ 4 ≤ 100 ∧ 0 ≤ z.toInt ∧ z.toInt ≤ 16 := by
  have a := own_rem h (k := 3) (by decide) (by decide)
  have b := own_rem h2 (k := 17) (by decide) (by decide)
  omega
theorem own_c17 {x z : Int32} (h : z = (x &&& 2147483647) % 17) : z.toInt.toNat ≤ 16 := by
  have b := own_rem h (k := 17) (by decide) (by decide)
  omega
theorem own_div8 {i : Int32} (h : 0 ≤ i.toInt) : (i / 8).toInt = i.toInt / 8 := by
  have e : (8 : Int32).toInt = 8 := by decide
  rw [own_idiv h (by omega), e]
theorem own_ld {q1 q2 i : Int32} {n : Nat} (h : (0 ≤ q1.toInt ∧ q1.toInt + 2 ≤ (n : Nat)) ∧ n ≤ 100 ∧ 0 ≤ q2.toInt ∧ q2.toInt ≤ 16) (h0 : 0 ≤ i.toInt) (hi : i < q2) : 0 ≤ (q1 + (i / 8)).toInt ∧ (q1 + (i / 8)).toInt < (n : Nat) := by
  rw [Int32.lt_iff_toInt_lt] at hi
  have d := own_div8 h0
  have a := own_iadd (x := q1) (y := i / 8) (by omega)
  omega
set_option maxRecDepth 65536 in
set_option maxHeartbeats 40000000 in
theorem own_turn {p : Program} {l : Launch} {e : Env} {R : Room} {s : State} {m : MethodId} {args : Array Value} {below : List Frame} {meth : Method} {c : Code} {T0 : State} {locs : List Loc} {cells slots : Nat} {Z : State} {a0 : Array Value} {h0 : Heap} {n0 : Nat} {rb rp : Addr} {q1 q2 i : Int32} {ys ps : List Int32}
    (X0 : Stand p l e R s m args below meth c T0 locs cells slots) (hx : p.tables.exec = Jvm.exec) (hby : c.code = prog_21_method_4_code) (hml : c.maxLocals = 5) (hw : ∀ d ∈ tables_1, d.before a0 Z = true) (hZ : Z.Warmed39 s.vm) (hown : s.vm.findClass "com/example/cardglyph/cardglyph/image/PackedPoints" = some m.cls) (e0 : T0.heap = h0) (N0 : Fr n0 locs) (Z0 : n0 ≤ h0.size) (PA0 : own_AI Z h0 rb .byte ys) (PA1 : own_AI Z h0 rp .boolean ps) (PG0 : n0 ≤ rp) (PN0 : rb ≠ rp) (hi : i < q2) (hi0 : 0 ≤ i.toInt) (hil : i.toInt < (ps.length : Nat)) (hy : (0 ≤ q1.toInt ∧ q1.toInt + 2 ≤ (ys.length : Nat)) ∧ ys.length ≤ 100 ∧ 0 ≤ q2.toInt ∧ q2.toInt ≤ 16) :
    ∃ T' locs' h', Stand p l e R s m args below meth c T' locs' cells slots ∧ T'.heap = h' ∧ Fr n0 locs' ∧ (own_AI Z h' rb .byte ys ∧ own_AI Z h' rp .boolean (ps.set (i).toInt.toNat (own_bv ys q1 i)) ∧ Keep h0 h' [rp]) ∧ ∀ t, Steps p.tables e below (T'.setTop (mkF m 7 #[.val (.ref rb), .val (.int q1), .val (.int q2), .val (.ref rp), .val (.int (i + (1 : Int32)))] [])) t → Steps p.tables e below (T0.setTop (mkF m 7 #[.val (.ref rb), .val (.int q1), .val (.int q2), .val (.ref rp), .val (.int i)] [])) t := by
  have pre0 : ∀ t, Steps p.tables e below (T0.setTop (mkF m 7 #[.val (.ref rb), .val (.int q1), .val (.int q2), .val (.ref rp), .val (.int i)] [])) t → Steps p.tables e below (T0.setTop (mkF m 7 #[.val (.ref rb), .val (.int q1), .val (.int q2), .val (.ref rp), .val (.int i)] [])) t := fun _ k => k
  have in_24_1 : 0 ≤ ((q1 + (i / (8 : Int32)))).toInt ∧ ((q1 + (i / (8 : Int32)))).toInt < (ys.length : Nat) := (own_ld hy hi0 hi)
  have pre2 : ∀ t, Steps p.tables e below (T0.setTop (mkF m 35 #[.val (.ref rb), .val (.int q1), .val (.int q2), .val (.ref rp), .val (.int i)] [(.int ((ys.getD ((q1 + (i / (8 : Int32)))).toInt.toNat 0) &&& (((128 : Int32)).toUInt32 >>> ((i % (8 : Int32)) &&& 31).toUInt32).toInt32)), (.int i), (.ref rp)])) t → Steps p.tables e below (T0.setTop (mkF m 7 #[.val (.ref rb), .val (.int q1), .val (.int q2), .val (.ref rp), .val (.int i)] [])) t := by
    intro t k
    refine pre0 t ?_
    show Steps p.tables e below (T0.setTop (mkF m 7 #[.val (.ref rb), .val (.int q1), .val (.int q2), .val (.ref rp), .val (.int i)] [])) _
    refine XS.iload X0.here hx rfl (hb hby d1_7) rfl ?_
    show Steps p.tables e below (T0.setTop (mkF m 9 #[.val (.ref rb), .val (.int q1), .val (.int q2), .val (.ref rp), .val (.int i)] [(.int i)])) _
    refine XS.iloadN X0.here hx rfl (hb hby d1_9) rfl ?_
    show Steps p.tables e below (T0.setTop (mkF m 10 #[.val (.ref rb), .val (.int q1), .val (.int q2), .val (.ref rp), .val (.int i)] [(.int q2), (.int i)])) _
    refine XS.icmpNo X0.here hx rfl (hb hby d1_10) rfl ((tlt hi).2.1) ?_
    show Steps p.tables e below (T0.setTop (mkF m 13 #[.val (.ref rb), .val (.int q1), .val (.int q2), .val (.ref rp), .val (.int i)] [])) _
    refine XS.aloadN X0.here hx rfl (hb hby d1_13) rfl rfl ?_
    show Steps p.tables e below (T0.setTop (mkF m 14 #[.val (.ref rb), .val (.int q1), .val (.int q2), .val (.ref rp), .val (.int i)] [(.ref rp)])) _
    refine XS.iload X0.here hx rfl (hb hby d1_14) rfl ?_
    show Steps p.tables e below (T0.setTop (mkF m 16 #[.val (.ref rb), .val (.int q1), .val (.int q2), .val (.ref rp), .val (.int i)] [(.int i), (.ref rp)])) _
    refine XS.aloadN X0.here hx rfl (hb hby d1_16) rfl rfl ?_
    show Steps p.tables e below (T0.setTop (mkF m 17 #[.val (.ref rb), .val (.int q1), .val (.int q2), .val (.ref rp), .val (.int i)] [(.ref rb), (.int i), (.ref rp)])) _
    refine XS.iloadN X0.here hx rfl (hb hby d1_17) rfl ?_
    show Steps p.tables e below (T0.setTop (mkF m 18 #[.val (.ref rb), .val (.int q1), .val (.int q2), .val (.ref rp), .val (.int i)] [(.int q1), (.ref rb), (.int i), (.ref rp)])) _
    refine XS.iload X0.here hx rfl (hb hby d1_18) rfl ?_
    show Steps p.tables e below (T0.setTop (mkF m 20 #[.val (.ref rb), .val (.int q1), .val (.int q2), .val (.ref rp), .val (.int i)] [(.int i), (.int q1), (.ref rb), (.int i), (.ref rp)])) _
    refine XS.bipush X0.here hx rfl (hb hby d1_20) ?_
    show Steps p.tables e below (T0.setTop (mkF m 22 #[.val (.ref rb), .val (.int q1), .val (.int q2), .val (.ref rp), .val (.int i)] [(.int (8 : Int32)), (.int i), (.int q1), (.ref rb), (.int i), (.ref rp)])) _
    refine XS.idiv X0.here hx rfl (hb hby d1_22) rfl (by decide) ?_
    show Steps p.tables e below (T0.setTop (mkF m 23 #[.val (.ref rb), .val (.int q1), .val (.int q2), .val (.ref rp), .val (.int i)] [(.int (i / (8 : Int32))), (.int q1), (.ref rb), (.int i), (.ref rp)])) _
    refine XS.iadd X0.here hx rfl (hb hby d1_23) rfl ?_
    show Steps p.tables e below (T0.setTop (mkF m 24 #[.val (.ref rb), .val (.int q1), .val (.int q2), .val (.ref rp), .val (.int i)] [(.int (q1 + (i / (8 : Int32)))), (.ref rb), (.int i), (.ref rp)])) _
    refine own_baloadB X0 hx hZ e0 PA0 in_24_1 (hb hby d1_24) _ ?_
    show Steps p.tables e below (T0.setTop (mkF m 25 #[.val (.ref rb), .val (.int q1), .val (.int q2), .val (.ref rp), .val (.int i)] [(.int (ys.getD ((q1 + (i / (8 : Int32)))).toInt.toNat 0)), (.int i), (.ref rp)])) _
    refine XS.sipush X0.here hx rfl (hb hby d1_25) ?_
    show Steps p.tables e below (T0.setTop (mkF m 28 #[.val (.ref rb), .val (.int q1), .val (.int q2), .val (.ref rp), .val (.int i)] [(.int (128 : Int32)), (.int (ys.getD ((q1 + (i / (8 : Int32)))).toInt.toNat 0)), (.int i), (.ref rp)])) _
    refine XS.iload X0.here hx rfl (hb hby d1_28) rfl ?_
    show Steps p.tables e below (T0.setTop (mkF m 30 #[.val (.ref rb), .val (.int q1), .val (.int q2), .val (.ref rp), .val (.int i)] [(.int i), (.int (128 : Int32)), (.int (ys.getD ((q1 + (i / (8 : Int32)))).toInt.toNat 0)), (.int i), (.ref rp)])) _
    refine XS.bipush X0.here hx rfl (hb hby d1_30) ?_
    show Steps p.tables e below (T0.setTop (mkF m 32 #[.val (.ref rb), .val (.int q1), .val (.int q2), .val (.ref rp), .val (.int i)] [(.int (8 : Int32)), (.int i), (.int (128 : Int32)), (.int (ys.getD ((q1 + (i / (8 : Int32)))).toInt.toNat 0)), (.int i), (.ref rp)])) _
    refine iremM X0 hx rfl (hb hby d1_32) rfl (by decide) ?_
    show Steps p.tables e below (T0.setTop (mkF m 33 #[.val (.ref rb), .val (.int q1), .val (.int q2), .val (.ref rp), .val (.int i)] [(.int (i % (8 : Int32))), (.int (128 : Int32)), (.int (ys.getD ((q1 + (i / (8 : Int32)))).toInt.toNat 0)), (.int i), (.ref rp)])) _
    refine XS.iushr X0.here hx rfl (hb hby d1_33) rfl ?_
    show Steps p.tables e below (T0.setTop (mkF m 34 #[.val (.ref rb), .val (.int q1), .val (.int q2), .val (.ref rp), .val (.int i)] [(.int (((128 : Int32)).toUInt32 >>> ((i % (8 : Int32)) &&& 31).toUInt32).toInt32), (.int (ys.getD ((q1 + (i / (8 : Int32)))).toInt.toNat 0)), (.int i), (.ref rp)])) _
    refine XS.iand X0.here hx rfl (hb hby d1_34) rfl ?_
    exact k
  by_cases c3 : ((ys.getD ((q1 + (i / (8 : Int32)))).toInt.toNat 0) &&& (((128 : Int32)).toUInt32 >>> ((i % (8 : Int32)) &&& 31).toUInt32).toInt32) = (0 : Int32)
  · have in_43_5 : 0 ≤ (i).toInt ∧ (i).toInt < (ps.length : Nat) := ⟨hi0, hil⟩
    obtain ⟨T4, h4, X4, e4, W4, V4, st4⟩ := own_bastoreZ X0 hx hZ e0 PA1 (j := i) in_43_5 (x := (0 : Int32)) (hb hby d1_43) (Ls := #[.val (.ref rb), .val (.int q1), .val (.int q2), .val (.ref rp), .val (.int i)]) (rest := [])
    have V4_rb : own_AI Z h4 rb .byte ys := PA0.other W4 PN0
    have sz4 : n0 ≤ h4.size := Nat.le_trans Z0 (Keep.of_wr W4).1
    have K4 : Keep h0 h4 [rp] := (Keep.refl h0 [rp]).wr W4 (Or.inl (by simp))
    have N4 := Fr.snoc X4 N0 PG0
    have V4_n : own_AI Z h4 rp .boolean (ps.set (i).toInt.toNat (0 : Int32)) := V4
    have pre6 : ∀ t, Steps p.tables e below (T4.setTop (mkF m 7 #[.val (.ref rb), .val (.int q1), .val (.int q2), .val (.ref rp), .val (.int (i + (1 : Int32)))] [])) t → Steps p.tables e below (T0.setTop (mkF m 7 #[.val (.ref rb), .val (.int q1), .val (.int q2), .val (.ref rp), .val (.int i)] [])) t := by
      intro t k
      refine pre2 t ?_
      show Steps p.tables e below (T0.setTop (mkF m 35 #[.val (.ref rb), .val (.int q1), .val (.int q2), .val (.ref rp), .val (.int i)] [(.int ((ys.getD ((q1 + (i / (8 : Int32)))).toInt.toNat 0) &&& (((128 : Int32)).toUInt32 >>> ((i % (8 : Int32)) &&& 31).toUInt32).toInt32)), (.int i), (.ref rp)])) _
      refine XS.ifYes X0.here hx rfl (pc0 := 35) (pc' := 42) rfl (hb hby d1_35) rfl ((if0 _ _).trans (teq c3).1) (by decide) (by decide) ?_
      show Steps p.tables e below (T0.setTop (mkF m 42 #[.val (.ref rb), .val (.int q1), .val (.int q2), .val (.ref rp), .val (.int i)] [(.int i), (.ref rp)])) _
      refine XS.iconst X0.here hx rfl (hb hby d1_42) ?_
      show Steps p.tables e below (T0.setTop (mkF m 43 #[.val (.ref rb), .val (.int q1), .val (.int q2), .val (.ref rp), .val (.int i)] [(.int (0 : Int32)), (.int i), (.ref rp)])) _
      refine st4 _ ?_
      show Steps p.tables e below (T4.setTop (mkF m 44 #[.val (.ref rb), .val (.int q1), .val (.int q2), .val (.ref rp), .val (.int i)] [])) _
      refine XS.iinc X4.here hx rfl (hb hby d1_44) rfl (l' := #[.val (.ref rb), .val (.int q1), .val (.int q2), .val (.ref rp), .val (.int (i + (1 : Int32)))]) rfl ?_
      show Steps p.tables e below (T4.setTop (mkF m 47 #[.val (.ref rb), .val (.int q1), .val (.int q2), .val (.ref rp), .val (.int (i + (1 : Int32)))] [])) _
      refine XS.goto X4.here hx rfl (pc0 := 47) (pc' := 7) rfl (hb hby d1_47) (by decide) (by decide) ?_
      exact k
    exact ⟨_, _, _, X4, e4, N4, ⟨V4_rb, (by rw [own_bv, if_pos c3]; exact V4_n), K4⟩, pre6⟩
  · have in_43_8 : 0 ≤ (i).toInt ∧ (i).toInt < (ps.length : Nat) := ⟨hi0, hil⟩
    obtain ⟨T7, h7, X7, e7, W7, V7, st7⟩ := own_bastoreZ X0 hx hZ e0 PA1 (j := i) in_43_8 (x := (1 : Int32)) (hb hby d1_43) (Ls := #[.val (.ref rb), .val (.int q1), .val (.int q2), .val (.ref rp), .val (.int i)]) (rest := [])
    have V7_rb : own_AI Z h7 rb .byte ys := PA0.other W7 PN0
    have sz7 : n0 ≤ h7.size := Nat.le_trans Z0 (Keep.of_wr W7).1
    have K7 : Keep h0 h7 [rp] := (Keep.refl h0 [rp]).wr W7 (Or.inl (by simp))
    have N7 := Fr.snoc X7 N0 PG0
    have V7_n : own_AI Z h7 rp .boolean (ps.set (i).toInt.toNat (1 : Int32)) := V7
    have pre9 : ∀ t, Steps p.tables e below (T7.setTop (mkF m 7 #[.val (.ref rb), .val (.int q1), .val (.int q2), .val (.ref rp), .val (.int (i + (1 : Int32)))] [])) t → Steps p.tables e below (T0.setTop (mkF m 7 #[.val (.ref rb), .val (.int q1), .val (.int q2), .val (.ref rp), .val (.int i)] [])) t := by
      intro t k
      refine pre2 t ?_
      show Steps p.tables e below (T0.setTop (mkF m 35 #[.val (.ref rb), .val (.int q1), .val (.int q2), .val (.ref rp), .val (.int i)] [(.int ((ys.getD ((q1 + (i / (8 : Int32)))).toInt.toNat 0) &&& (((128 : Int32)).toUInt32 >>> ((i % (8 : Int32)) &&& 31).toUInt32).toInt32)), (.int i), (.ref rp)])) _
      refine XS.ifNo X0.here hx rfl (hb hby d1_35) rfl ((if0 _ _).trans (feq c3).1) ?_
      show Steps p.tables e below (T0.setTop (mkF m 38 #[.val (.ref rb), .val (.int q1), .val (.int q2), .val (.ref rp), .val (.int i)] [(.int i), (.ref rp)])) _
      refine XS.iconst X0.here hx rfl (hb hby d1_38) ?_
      show Steps p.tables e below (T0.setTop (mkF m 39 #[.val (.ref rb), .val (.int q1), .val (.int q2), .val (.ref rp), .val (.int i)] [(.int (1 : Int32)), (.int i), (.ref rp)])) _
      refine XS.goto X0.here hx rfl (pc0 := 39) (pc' := 43) rfl (hb hby d1_39) (by decide) (by decide) ?_
      show Steps p.tables e below (T0.setTop (mkF m 43 #[.val (.ref rb), .val (.int q1), .val (.int q2), .val (.ref rp), .val (.int i)] [(.int (1 : Int32)), (.int i), (.ref rp)])) _
      refine st7 _ ?_
      show Steps p.tables e below (T7.setTop (mkF m 44 #[.val (.ref rb), .val (.int q1), .val (.int q2), .val (.ref rp), .val (.int i)] [])) _
      refine XS.iinc X7.here hx rfl (hb hby d1_44) rfl (l' := #[.val (.ref rb), .val (.int q1), .val (.int q2), .val (.ref rp), .val (.int (i + (1 : Int32)))]) rfl ?_
      show Steps p.tables e below (T7.setTop (mkF m 47 #[.val (.ref rb), .val (.int q1), .val (.int q2), .val (.ref rp), .val (.int (i + (1 : Int32)))] [])) _
      refine XS.goto X7.here hx rfl (pc0 := 47) (pc' := 7) rfl (hb hby d1_47) (by decide) (by decide) ?_
      exact k
    exact ⟨_, _, _, X7, e7, N7, ⟨V7_rb, (by rw [own_bv, if_neg c3]; exact V7_n), K7⟩, pre9⟩
set_option maxRecDepth 65536 in
set_option maxHeartbeats 40000000 in
theorem own_out {p : Program} {l : Launch} {e : Env} {R : Room} {s : State} {m : MethodId} {args : Array Value} {below : List Frame} {meth : Method} {c : Code} {T0 : State} {locs : List Loc} {cells slots : Nat} {Z : State} {a0 : Array Value} {h0 : Heap} {n0 : Nat} {rb rp : Addr} {q1 q2 i : Int32} {ys ps : List Int32}
    (X0 : Stand p l e R s m args below meth c T0 locs cells slots) (hx : p.tables.exec = Jvm.exec) (hby : c.code = prog_21_method_4_code) (hml : c.maxLocals = 5) (hw : ∀ d ∈ tables_1, d.before a0 Z = true) (hZ : Z.Warmed39 s.vm) (hown : s.vm.findClass "com/example/cardglyph/cardglyph/image/PackedPoints" = some m.cls) (e0 : T0.heap = h0) (N0 : Fr n0 locs) (Z0 : n0 ≤ h0.size) (PA0 : own_AI Z h0 rb .byte ys) (PA1 : own_AI Z h0 rp .boolean ps) (PG0 : n0 ≤ rp) (PN0 : rb ≠ rp) (hi : ¬ i < q2) :
    ∃ T' locs' h', Stand p l e R s m args below meth c T' locs' cells slots ∧ T'.heap = h' ∧ Fr n0 locs' ∧ (own_AI Z h' rb .byte ys ∧ own_AI Z h' rp .boolean ps ∧ Keep h0 h' [rp]) ∧ ∀ t, Steps p.tables e below (T'.setTop (mkF m 50 #[.val (.ref rb), .val (.int q1), .val (.int q2), .val (.ref rp), .val (.int i)] [])) t → Steps p.tables e below (T0.setTop (mkF m 7 #[.val (.ref rb), .val (.int q1), .val (.int q2), .val (.ref rp), .val (.int i)] [])) t := by
  have pre0 : ∀ t, Steps p.tables e below (T0.setTop (mkF m 7 #[.val (.ref rb), .val (.int q1), .val (.int q2), .val (.ref rp), .val (.int i)] [])) t → Steps p.tables e below (T0.setTop (mkF m 7 #[.val (.ref rb), .val (.int q1), .val (.int q2), .val (.ref rp), .val (.int i)] [])) t := fun _ k => k
  have pre1 : ∀ t, Steps p.tables e below (T0.setTop (mkF m 50 #[.val (.ref rb), .val (.int q1), .val (.int q2), .val (.ref rp), .val (.int i)] [])) t → Steps p.tables e below (T0.setTop (mkF m 7 #[.val (.ref rb), .val (.int q1), .val (.int q2), .val (.ref rp), .val (.int i)] [])) t := by
    intro t k
    refine pre0 t ?_
    show Steps p.tables e below (T0.setTop (mkF m 7 #[.val (.ref rb), .val (.int q1), .val (.int q2), .val (.ref rp), .val (.int i)] [])) _
    refine XS.iload X0.here hx rfl (hb hby d1_7) rfl ?_
    show Steps p.tables e below (T0.setTop (mkF m 9 #[.val (.ref rb), .val (.int q1), .val (.int q2), .val (.ref rp), .val (.int i)] [(.int i)])) _
    refine XS.iloadN X0.here hx rfl (hb hby d1_9) rfl ?_
    show Steps p.tables e below (T0.setTop (mkF m 10 #[.val (.ref rb), .val (.int q1), .val (.int q2), .val (.ref rp), .val (.int i)] [(.int q2), (.int i)])) _
    refine XS.icmpYes X0.here hx rfl (pc0 := 10) (pc' := 50) rfl (hb hby d1_10) rfl ((flt hi).2.1) (by decide) (by decide) ?_
    exact k
  exact ⟨_, _, _, X0, e0, N0, ⟨PA0, PA1, (Keep.refl h0 [rp])⟩, pre1⟩
set_option maxRecDepth 65536 in
theorem own_loop {p : Program} {l : Launch} {e : Env} {R : Room} {s : State} {m : MethodId} {args : Array Value} {below : List Frame} {meth : Method} {c : Code} {cells slots : Nat} {Z : State} {a0 : Array Value} {n0 : Nat} {rb rp : Addr} {q1 q2 : Int32} {ys : List Int32} (hx : p.tables.exec = Jvm.exec) (hby : c.code = prog_21_method_4_code) (hml : c.maxLocals = 5) (hw : ∀ d ∈ tables_1, d.before a0 Z = true) (hZ : Z.Warmed39 s.vm) (hown : s.vm.findClass "com/example/cardglyph/cardglyph/image/PackedPoints" = some m.cls) (PG : n0 ≤ rp) (PN : rb ≠ rp) (hy : (0 ≤ q1.toInt ∧ q1.toInt + 2 ≤ (ys.length : Nat)) ∧ ys.length ≤ 100 ∧ 0 ≤ q2.toInt ∧ q2.toInt ≤ 16) :
    ∀ (k : Nat) (i : Int32) (ps : List Int32) {T0 : State} {locs : List Loc} {h0 : Heap} (X0 : Stand p l e R s m args below meth c T0 locs cells slots) (e0 : T0.heap = h0) (N0 : Fr n0 locs) (Z0 : n0 ≤ h0.size) (A1 : own_AI Z h0 rb .byte ys) (A2 : own_AI Z h0 rp .boolean ps) (hk : i.toInt + k = q2.toInt) (h0i : 0 ≤ i.toInt) (hl : q2.toInt = (ps.length : Nat)),
    ∃ T' locs' h', Stand p l e R s m args below meth c T' locs' cells slots ∧ T'.heap = h' ∧ Fr n0 locs' ∧ (own_AI Z h' rb .byte ys ∧ own_AI Z h' rp .boolean (own_fill ys q1 k i ps) ∧ Keep h0 h' [rp]) ∧ ∀ t, Steps p.tables e below (T'.setTop (mkF m 50 #[.val (.ref rb), .val (.int q1), .val (.int q2), .val (.ref rp), .val (.int q2)] [])) t → Steps p.tables e below (T0.setTop (mkF m 7 #[.val (.ref rb), .val (.int q1), .val (.int q2), .val (.ref rp), .val (.int i)] [])) t
  | 0, i, ps, T0, locs, h0, X0, e0, N0, Z0, A1, A2, hk, h0i, hl => by
    have hq : i = q2 := Int32.toInt_inj.mp (by omega)
    subst hq
    exact own_out X0 hx hby hml hw hZ hown e0 N0 Z0 A1 A2 PG PN (by rw [Int32.lt_iff_toInt_lt]; omega)
  | k + 1, i, ps, T0, locs, h0, X0, e0, N0, Z0, A1, A2, hk, h0i, hl => by
    have e1 : (1 : Int32).toInt = 1 := by decide
    have a1 := own_iadd (x := i) (y := 1) (by omega)
    obtain ⟨T1, l1, h1, X1, f1, N1, ⟨B1, B2, K1⟩, st1⟩ := own_turn X0 hx hby hml hw hZ hown e0 N0 Z0 A1 A2 PG PN (by rw [Int32.lt_iff_toInt_lt]; omega) h0i (by omega) hy
    obtain ⟨T2, l2, h2, X2, f2, N2, ⟨C1, C2, K2⟩, st2⟩ := own_loop hx hby hml hw hZ hown PG PN hy k (i + 1) _ X1 f1 N1 (Nat.le_trans Z0 K1.1) B1 B2 (by omega) (by omega) (by rw [List.length_set]; exact hl)
    exact ⟨T2, l2, h2, X2, f2, N2, ⟨C1, C2, K1.trans K2 (allS (Or.inl (by simp)) all0)⟩, fun t kk => st1 t (st2 t kk)⟩
theorem ef_1 (m : MethodId) (rb : Addr) (q1 : Int32) (q2 : Int32) : entryFrame m #[(.ref rb), (.int q1), (.int q2)] 5 = mkF m 0 #[.val (.ref rb), .val (.int q1), .val (.int q2), .unset, .unset] [] := by first | (simp [entryFrame, mkF, argsToLocals, Value.category, maxLocals]; done) | rfl
def Q1 (Z : State) (rb : Addr) (q1 : Int32) (q2 : Int32) (ys : List Int32) (h0 : Heap) (n0 : Nat) (v : Option Value) (h : Heap) (L : List Loc) : Prop := v = some (.ref h0.size) ∧ Fr n0 L ∧ Keep h0 h [] ∧ own_AI Z h h0.size .boolean (own_fill ys q1 (q2).toInt.toNat 0 (List.replicate (q2).toInt.toNat 0))
set_option maxRecDepth 65536 in
set_option maxHeartbeats 40000000 in
theorem rm1 (l : Launch) (Z : State) (a0 : Array Value) (hw : ∀ d ∈ tables_1, d.before a0 Z = true) (ws : List Jvm.Cond) (rb : Addr) (q1 : Int32) (q2 : Int32) (ys : List Int32) (h0 : Heap) (n0 : Nat) (Z0 : n0 ≤ h0.size) (PA0 : own_AI Z h0 rb .byte ys) (hy : (0 ≤ q1.toInt ∧ q1.toInt + 2 ≤ (ys.length : Nat)) ∧ ys.length ≤ 100 ∧ 0 ≤ q2.toInt ∧ q2.toInt ≤ 16) :
    MetFree l (⟨"com/example/cardglyph/cardglyph/image/PackedPoints", "unpackBits", "([BII)[Z"⟩ : MethodName) (head1 (Jvm.Cond.code (⟨"com/example/cardglyph/cardglyph/image/PackedPoints", "unpackBits", "([BII)[Z"⟩ : MethodName) prog_21_method_4_code 5 (some (.array .boolean)) :: ws) ({ frames := 0, cells := 1, slots := 16, locals := 0 } : Room)) (fun a U => a = #[(.ref rb), (.int q1), (.int q2)] ∧ Z.Warmed39 U.vm ∧ U.heap = h0) (fun _ _ _ _ _ => True) (fun _ U o U' => ∃ v L, o = .returned v ∧ Q1 Z rb q1 q2 ys h0 n0 v U'.heap L ∧ FrameEnd U o U' L ({ frames := 0, cells := 1, slots := 16, locals := 0 } : Room).cells ({ frames := 0, cells := 1, slots := 16, locals := 0 } : Room).slots) := by
  refine MetFree.of_bodySF (plainFor_of_name pn_1) hisR ?_
  intro p e s m args below meth c s₁ Bd hml0 hP hK
  obtain ⟨rfl, hZ, hh⟩ := hP
  have hx := Bd.exec
  have hby := Bd.bytes
  have hml : c.maxLocals = 5 := hml0
  have hown : s.vm.findClass "com/example/cardglyph/cardglyph/image/PackedPoints" = some m.cls := findClass_of_methodNamed Bd.named
  have hnm := (name_of_methodNamed Bd.named Bd.method).1
  have X0 : Stand p l e ({ frames := 0, cells := 1, slots := 16, locals := 0 } : Room) s m #[(.ref rb), (.int q1), (.int q2)] below meth c s₁ [] 0 0 := Stand.of_body Bd
  have hlk : meth.locks = false := by first | exact BodyLoose.notSynchronized (by assumption) | exact Body.notSynchronized (by assumption)
  have e0 : s₁.heap = h0 := by rw [← hh, Bd.state]; rfl
  have N0 := Fr.nil n0
  have pre0 : ∀ t, Steps p.tables e below (s₁.setTop (mkF m 0 #[.val (.ref rb), .val (.int q1), .val (.int q2), .unset, .unset] [])) t → Steps p.tables e below (s₁.setTop (entryFrame m #[(.ref rb), (.int q1), (.int q2)] 5)) t := fun t k => castTop (ef_1 m rb q1 q2) k
  obtain ⟨T1, h1, cA1, X1, e1, E1, A1, st1⟩ := newP X0 hx hZ (aty := .boolean) (hw _ (List.mem_of_getElem? (i := 7) rfl)) e0 (g := (mkF m 1 #[.val (.ref rb), .val (.int q1), .val (.int q2), .unset, .unset] [(.int q2)])) rfl (hb hby d1_1) rfl (by rw [Int32.lt_iff_toInt_lt, show (0 : Int32).toInt = 0 from by decide]; omega) (cap := 16) (by show (q2).toInt.toNat ≤ 16; omega) (by decide) (by decide) (by decide)
  obtain ⟨a1, g1⟩ : ∃ z, z = h0.size := ⟨_, rfl⟩
  rw [← g1] at A1 st1
  have ne_rb_a1 : rb ≠ a1 := g1 ▸ Nat.ne_of_lt PA0.lt
  have ge_a1 : n0 ≤ a1 := g1 ▸ Z0
  have go_a1 : h0.size ≤ a1 := g1 ▸ (Keep.refl h0 []).1
  have V1_rb : own_AI Z h1 rb .byte ys := PA0.ext E1
  have sz1 : n0 ≤ h1.size := Nat.le_trans Z0 E1.1
  have K1 : Keep h0 h1 [] := (Keep.refl h0 []).ext E1
  have V1_n : own_AI Z h1 a1 .boolean (List.replicate (q2).toInt.toNat 0) := own_AIboolean_new A1 (k := (q2).toInt.toNat) rfl
  have pre2 : ∀ t, Steps p.tables e below (T1.setTop (mkF m 7 #[.val (.ref rb), .val (.int q1), .val (.int q2), .val (.ref a1), .val (.int (0 : Int32))] [])) t → Steps p.tables e below (s₁.setTop (entryFrame m #[(.ref rb), (.int q1), (.int q2)] 5)) t := by
    intro t k
    refine pre0 t ?_
    show Steps p.tables e below (s₁.setTop (mkF m 0 #[.val (.ref rb), .val (.int q1), .val (.int q2), .unset, .unset] [])) _
    refine XS.iloadN X0.here hx rfl (hb hby d1_0) rfl ?_
    show Steps p.tables e below (s₁.setTop (mkF m 1 #[.val (.ref rb), .val (.int q1), .val (.int q2), .unset, .unset] [(.int q2)])) _
    refine st1 _ ?_
    show Steps p.tables e below (T1.setTop (mkF m 3 #[.val (.ref rb), .val (.int q1), .val (.int q2), .unset, .unset] [(.ref a1)])) _
    refine XS.astoreN X1.here hx rfl (hb hby d1_3) rfl rfl (l' := #[.val (.ref rb), .val (.int q1), .val (.int q2), .val (.ref a1), .unset]) rfl ?_
    show Steps p.tables e below (T1.setTop (mkF m 4 #[.val (.ref rb), .val (.int q1), .val (.int q2), .val (.ref a1), .unset] [])) _
    refine XS.iconst X1.here hx rfl (hb hby d1_4) ?_
    show Steps p.tables e below (T1.setTop (mkF m 5 #[.val (.ref rb), .val (.int q1), .val (.int q2), .val (.ref a1), .unset] [(.int (0 : Int32))])) _
    refine XS.istore X1.here hx rfl (hb hby d1_5) rfl (l' := #[.val (.ref rb), .val (.int q1), .val (.int q2), .val (.ref a1), .val (.int (0 : Int32))]) rfl ?_
    exact k
  obtain ⟨T3, l3, h3, X3, e3, N3, ⟨VB3, VP3, KL3⟩, st3⟩ := own_loop hx hby hml hw hZ hown ge_a1 ne_rb_a1 hy (q2).toInt.toNat 0 _ X1 e1 N0 sz1 V1_rb V1_n (by rw [show (0 : Int32).toInt = 0 from by decide]; omega) (by decide) (by rw [List.length_replicate]; omega)
  have KK3 : Keep h0 h3 [] := K1.trans KL3 (allS (Or.inr go_a1) all0)
  have sz3 : n0 ≤ h3.size := Nat.le_trans sz1 KL3.1
  obtain ⟨fs, hr, hrun, hended, hW, hsame⟩ := X3.leave (v := some (.ref a1)) (fun h => by rw [Bd.returns] at h; cases h) hlk
  refine ⟨_, _, pre2 _ ?_, hrun, hended, _, _, rfl, ?_, ⟨_, rfl⟩, hW, hsame.mono (by decide) (by decide)⟩
  · show Steps p.tables e below (T1.setTop (mkF m 7 #[.val (.ref rb), .val (.int q1), .val (.int q2), .val (.ref a1), .val (.int (0 : Int32))] [])) _
    refine st3 _ ?_
    show Steps p.tables e below (T3.setTop (mkF m 50 #[.val (.ref rb), .val (.int q1), .val (.int q2), .val (.ref a1), .val (.int q2)] [])) _
    refine XS.aloadN X3.here hx rfl (hb hby d1_50) rfl rfl ?_
    show Steps p.tables e below (T3.setTop (mkF m 51 #[.val (.ref rb), .val (.int q1), .val (.int q2), .val (.ref a1), .val (.int q2)] [(.ref a1)])) _
    exact retOut X3 hx Bd.returns rfl (Or.inr (Or.inr (Or.inr (Or.inr ⟨rfl, rfl, rfl⟩)))) (hb hby d1_51) hr
  · show Q1 Z rb q1 q2 ys h0 n0 _ T3.heap _
    rw [e3]
    exact ⟨by rw [g1], N3, KK3, (by rw [← g1]; exact VP3)⟩
theorem d2_0 : decode method_2_code 0 = .ok (.iload_n 1, 1) := by decide +kernel
theorem d2_1 : decode method_2_code 1 = .ok (.aload_n 0, 1) := by decide +kernel
theorem d2_2 : decode method_2_code 2 = .ok (.arraylength, 1) := by decide +kernel
theorem d2_3 : decode method_2_code 3 = .ok (.if_icmp .lt 5, 3) := by decide +kernel
theorem d2_6 : decode method_2_code 6 = .ok (.iconst 1, 1) := by decide +kernel
theorem d2_7 : decode method_2_code 7 = .ok (.ireturn, 1) := by decide +kernel
theorem d2_8 : decode method_2_code 8 = .ok (.aload_n 0, 1) := by decide +kernel
theorem d2_9 : decode method_2_code 9 = .ok (.iload_n 1, 1) := by decide +kernel
theorem d2_10 : decode method_2_code 10 = .ok (.baload, 1) := by decide +kernel
theorem d2_11 : decode method_2_code 11 = .ok (.iload_n 2, 1) := by decide +kernel
theorem d2_12 : decode method_2_code 12 = .ok (.bipush 15, 2) := by decide +kernel
theorem d2_14 : decode method_2_code 14 = .ok (.iload_n 1, 1) := by decide +kernel
theorem d2_15 : decode method_2_code 15 = .ok (.isub, 1) := by decide +kernel
theorem d2_16 : decode method_2_code 16 = .ok (.iushr, 1) := by decide +kernel
theorem d2_17 : decode method_2_code 17 = .ok (.iconst 1, 1) := by decide +kernel
theorem d2_18 : decode method_2_code 18 = .ok (.iand, 1) := by decide +kernel
theorem d2_19 : decode method_2_code 19 = .ok (.ifCond .eq 7, 3) := by decide +kernel
theorem d2_22 : decode method_2_code 22 = .ok (.iconst 1, 1) := by decide +kernel
theorem d2_23 : decode method_2_code 23 = .ok (.goto 4, 3) := by decide +kernel
theorem d2_26 : decode method_2_code 26 = .ok (.iconst 0, 1) := by decide +kernel
theorem d2_27 : decode method_2_code 27 = .ok (.if_icmp .ne 7, 3) := by decide +kernel
theorem d2_30 : decode method_2_code 30 = .ok (.iconst 1, 1) := by decide +kernel
theorem d2_31 : decode method_2_code 31 = .ok (.goto 4, 3) := by decide +kernel
theorem d2_34 : decode method_2_code 34 = .ok (.iconst 0, 1) := by decide +kernel
theorem d2_35 : decode method_2_code 35 = .ok (.ireturn, 1) := by decide +kernel
theorem pn_3 : plainName "com/example/cardglyph/cardglyph/image/PackedPointsUnpackBitsPinLaw" = true := by first | (simp [plainName, overriddenIn]; done) | decide +kernel
theorem ef_2 (m : MethodId) (rp : Addr) (q1 : Int32) (q2 : Int32) : entryFrame m #[(.ref rp), (.int q1), (.int q2)] 3 = mkF m 0 #[.val (.ref rp), .val (.int q1), .val (.int q2)] [] := by first | (simp [entryFrame, mkF, argsToLocals, Value.category, maxLocals]; done) | rfl
def own_f2 (q1 : Int32) (q2 : Int32) (ps : List Int32) : Int32 := (if q1 < (ps.length).toInt32 then (if (((q2).toUInt32 >>> (((15 : Int32) - q1) &&& 31).toUInt32).toInt32 &&& (1 : Int32)) = (0 : Int32) then (if (ps.getD (q1).toInt.toNat 0) = (0 : Int32) then (1 : Int32) else (0 : Int32)) else (if (ps.getD (q1).toInt.toNat 0) = (1 : Int32) then (1 : Int32) else (0 : Int32))) else (1 : Int32))
def Q2 (Z : State) (rp : Addr) (q1 : Int32) (q2 : Int32) (ps : List Int32) (h0 : Heap) (n0 : Nat) (v : Option Value) (h : Heap) (L : List Loc) : Prop := v = some (.int (own_f2 q1 q2 ps)) ∧ Fr n0 L ∧ h = h0
set_option maxRecDepth 65536 in
set_option maxHeartbeats 40000000 in
theorem rm2 (l : Launch) (Z : State) (a0 : Array Value) (hw : ∀ d ∈ tables_1, d.before a0 Z = true) (ws : List Jvm.Cond) (rp : Addr) (q1 : Int32) (q2 : Int32) (ps : List Int32) (h0 : Heap) (n0 : Nat) (Z0 : n0 ≤ h0.size) (PA0 : own_AI Z h0 rp .boolean ps) (hl : ps.length ≤ 100) (h1 : 0 ≤ (q1).toInt) :
    MetFree l (⟨"com/example/cardglyph/cardglyph/image/PackedPointsUnpackBitsPinLaw", "at", "([ZII)Z"⟩ : MethodName) (head1 (Jvm.Cond.code (⟨"com/example/cardglyph/cardglyph/image/PackedPointsUnpackBitsPinLaw", "at", "([ZII)Z"⟩ : MethodName) method_2_code 3 (some .boolean) :: ws) ({ frames := 0, cells := 0, slots := 0, locals := 0 } : Room)) (fun a U => a = #[(.ref rp), (.int q1), (.int q2)] ∧ Z.Warmed39 U.vm ∧ U.heap = h0) (fun _ _ _ _ _ => True) (fun _ U o U' => ∃ v L, o = .returned v ∧ Q2 Z rp q1 q2 ps h0 n0 v U'.heap L ∧ FrameEnd U o U' L ({ frames := 0, cells := 0, slots := 0, locals := 0 } : Room).cells ({ frames := 0, cells := 0, slots := 0, locals := 0 } : Room).slots) := by
  refine MetFree.of_bodySF (plainFor_of_name pn_3) hisR ?_
  intro p e s m args below meth c s₁ Bd hml0 hP hK
  obtain ⟨rfl, hZ, hh⟩ := hP
  have hx := Bd.exec
  have hby := Bd.bytes
  have hml : c.maxLocals = 3 := hml0
  have hown : s.vm.findClass "com/example/cardglyph/cardglyph/image/PackedPointsUnpackBitsPinLaw" = some m.cls := findClass_of_methodNamed Bd.named
  have hnm := (name_of_methodNamed Bd.named Bd.method).1
  have X0 : Stand p l e ({ frames := 0, cells := 0, slots := 0, locals := 0 } : Room) s m #[(.ref rp), (.int q1), (.int q2)] below meth c s₁ [] 0 0 := Stand.of_body Bd
  have hlk : meth.locks = false := by first | exact BodyLoose.notSynchronized (by assumption) | exact Body.notSynchronized (by assumption)
  have e0 : s₁.heap = h0 := by rw [← hh, Bd.state]; rfl
  have N0 := Fr.nil n0
  have pre0 : ∀ t, Steps p.tables e below (s₁.setTop (mkF m 0 #[.val (.ref rp), .val (.int q1), .val (.int q2)] [])) t → Steps p.tables e below (s₁.setTop (entryFrame m #[(.ref rp), (.int q1), (.int q2)] 3)) t := fun t k => castTop (ef_2 m rp q1 q2) k
  have pre1 : ∀ t, Steps p.tables e below (s₁.setTop (mkF m 3 #[.val (.ref rp), .val (.int q1), .val (.int q2)] [(.int (ps.length).toInt32), (.int q1)])) t → Steps p.tables e below (s₁.setTop (entryFrame m #[(.ref rp), (.int q1), (.int q2)] 3)) t := by
    intro t k
    refine pre0 t ?_
    show Steps p.tables e below (s₁.setTop (mkF m 0 #[.val (.ref rp), .val (.int q1), .val (.int q2)] [])) _
    refine XS.iloadN X0.here hx rfl (hb hby d2_0) rfl ?_
    show Steps p.tables e below (s₁.setTop (mkF m 1 #[.val (.ref rp), .val (.int q1), .val (.int q2)] [(.int q1)])) _
    refine XS.aloadN X0.here hx rfl (hb hby d2_1) rfl rfl ?_
    show Steps p.tables e below (s₁.setTop (mkF m 2 #[.val (.ref rp), .val (.int q1), .val (.int q2)] [(.ref rp), (.int q1)])) _
    refine own_alenI X0 hx hZ e0 PA0 (hb hby d2_2) _ ?_
    exact k
  by_cases c2 : q1 < (ps.length).toInt32
  · have in_10_3 : 0 ≤ (q1).toInt ∧ (q1).toInt < (ps.length : Nat) := (own_atin hl h1 (by assumption))
    have pre4 : ∀ t, Steps p.tables e below (s₁.setTop (mkF m 19 #[.val (.ref rp), .val (.int q1), .val (.int q2)] [(.int (((q2).toUInt32 >>> (((15 : Int32) - q1) &&& 31).toUInt32).toInt32 &&& (1 : Int32))), (.int (ps.getD (q1).toInt.toNat 0))])) t → Steps p.tables e below (s₁.setTop (entryFrame m #[(.ref rp), (.int q1), (.int q2)] 3)) t := by
      intro t k
      refine pre1 t ?_
      show Steps p.tables e below (s₁.setTop (mkF m 3 #[.val (.ref rp), .val (.int q1), .val (.int q2)] [(.int (ps.length).toInt32), (.int q1)])) _
      refine XS.icmpYes X0.here hx rfl (pc0 := 3) (pc' := 8) rfl (hb hby d2_3) rfl ((tlt c2).1) (by decide) (by decide) ?_
      show Steps p.tables e below (s₁.setTop (mkF m 8 #[.val (.ref rp), .val (.int q1), .val (.int q2)] [])) _
      refine XS.aloadN X0.here hx rfl (hb hby d2_8) rfl rfl ?_
      show Steps p.tables e below (s₁.setTop (mkF m 9 #[.val (.ref rp), .val (.int q1), .val (.int q2)] [(.ref rp)])) _
      refine XS.iloadN X0.here hx rfl (hb hby d2_9) rfl ?_
      show Steps p.tables e below (s₁.setTop (mkF m 10 #[.val (.ref rp), .val (.int q1), .val (.int q2)] [(.int q1), (.ref rp)])) _
      refine own_baloadZ X0 hx hZ e0 PA0 in_10_3 (hb hby d2_10) _ ?_
      show Steps p.tables e below (s₁.setTop (mkF m 11 #[.val (.ref rp), .val (.int q1), .val (.int q2)] [(.int (ps.getD (q1).toInt.toNat 0))])) _
      refine XS.iloadN X0.here hx rfl (hb hby d2_11) rfl ?_
      show Steps p.tables e below (s₁.setTop (mkF m 12 #[.val (.ref rp), .val (.int q1), .val (.int q2)] [(.int q2), (.int (ps.getD (q1).toInt.toNat 0))])) _
      refine XS.bipush X0.here hx rfl (hb hby d2_12) ?_
      show Steps p.tables e below (s₁.setTop (mkF m 14 #[.val (.ref rp), .val (.int q1), .val (.int q2)] [(.int (15 : Int32)), (.int q2), (.int (ps.getD (q1).toInt.toNat 0))])) _
      refine XS.iloadN X0.here hx rfl (hb hby d2_14) rfl ?_
      show Steps p.tables e below (s₁.setTop (mkF m 15 #[.val (.ref rp), .val (.int q1), .val (.int q2)] [(.int q1), (.int (15 : Int32)), (.int q2), (.int (ps.getD (q1).toInt.toNat 0))])) _
      refine XS.isub X0.here hx rfl (hb hby d2_15) rfl ?_
      show Steps p.tables e below (s₁.setTop (mkF m 16 #[.val (.ref rp), .val (.int q1), .val (.int q2)] [(.int ((15 : Int32) - q1)), (.int q2), (.int (ps.getD (q1).toInt.toNat 0))])) _
      refine XS.iushr X0.here hx rfl (hb hby d2_16) rfl ?_
      show Steps p.tables e below (s₁.setTop (mkF m 17 #[.val (.ref rp), .val (.int q1), .val (.int q2)] [(.int ((q2).toUInt32 >>> (((15 : Int32) - q1) &&& 31).toUInt32).toInt32), (.int (ps.getD (q1).toInt.toNat 0))])) _
      refine XS.iconst X0.here hx rfl (hb hby d2_17) ?_
      show Steps p.tables e below (s₁.setTop (mkF m 18 #[.val (.ref rp), .val (.int q1), .val (.int q2)] [(.int (1 : Int32)), (.int ((q2).toUInt32 >>> (((15 : Int32) - q1) &&& 31).toUInt32).toInt32), (.int (ps.getD (q1).toInt.toNat 0))])) _
      refine XS.iand X0.here hx rfl (hb hby d2_18) rfl ?_
      exact k
    by_cases c5 : (((q2).toUInt32 >>> (((15 : Int32) - q1) &&& 31).toUInt32).toInt32 &&& (1 : Int32)) = (0 : Int32)
    · have pre6 : ∀ t, Steps p.tables e below (s₁.setTop (mkF m 27 #[.val (.ref rp), .val (.int q1), .val (.int q2)] [(.int (0 : Int32)), (.int (ps.getD (q1).toInt.toNat 0))])) t → Steps p.tables e below (s₁.setTop (entryFrame m #[(.ref rp), (.int q1), (.int q2)] 3)) t := by
        intro t k
        refine pre4 t ?_
        show Steps p.tables e below (s₁.setTop (mkF m 19 #[.val (.ref rp), .val (.int q1), .val (.int q2)] [(.int (((q2).toUInt32 >>> (((15 : Int32) - q1) &&& 31).toUInt32).toInt32 &&& (1 : Int32))), (.int (ps.getD (q1).toInt.toNat 0))])) _
        refine XS.ifYes X0.here hx rfl (pc0 := 19) (pc' := 26) rfl (hb hby d2_19) rfl ((if0 _ _).trans (teq c5).1) (by decide) (by decide) ?_
        show Steps p.tables e below (s₁.setTop (mkF m 26 #[.val (.ref rp), .val (.int q1), .val (.int q2)] [(.int (ps.getD (q1).toInt.toNat 0))])) _
        refine XS.iconst X0.here hx rfl (hb hby d2_26) ?_
        exact k
      by_cases c7 : (ps.getD (q1).toInt.toNat 0) = (0 : Int32)
      · obtain ⟨fs, hr, hrun, hended, hW, hsame⟩ := X0.leave (v := some (.int (1 : Int32))) (fun h => by rw [Bd.returns] at h; cases h) hlk
        refine ⟨_, _, pre6 _ ?_, hrun, hended, _, _, rfl, ?_, ⟨_, rfl⟩, hW, hsame.mono (by decide) (by decide)⟩
        · show Steps p.tables e below (s₁.setTop (mkF m 27 #[.val (.ref rp), .val (.int q1), .val (.int q2)] [(.int (0 : Int32)), (.int (ps.getD (q1).toInt.toNat 0))])) _
          refine XS.icmpNo X0.here hx rfl (hb hby d2_27) rfl ((teq c7).2) ?_
          show Steps p.tables e below (s₁.setTop (mkF m 30 #[.val (.ref rp), .val (.int q1), .val (.int q2)] [])) _
          refine XS.iconst X0.here hx rfl (hb hby d2_30) ?_
          show Steps p.tables e below (s₁.setTop (mkF m 31 #[.val (.ref rp), .val (.int q1), .val (.int q2)] [(.int (1 : Int32))])) _
          refine XS.goto X0.here hx rfl (pc0 := 31) (pc' := 35) rfl (hb hby d2_31) (by decide) (by decide) ?_
          show Steps p.tables e below (s₁.setTop (mkF m 35 #[.val (.ref rp), .val (.int q1), .val (.int q2)] [(.int (1 : Int32))])) _
          exact retN X0 hx (t := .boolean) Bd.returns (by simp) (hb hby d2_35) hr
        · show Q2 Z rp q1 q2 ps h0 n0 _ s₁.heap _
          rw [e0]
          exact ⟨by simp only [own_f2, if_pos c2, if_pos c5, if_pos c7], N0, rfl⟩
      · obtain ⟨fs, hr, hrun, hended, hW, hsame⟩ := X0.leave (v := some (.int (0 : Int32))) (fun h => by rw [Bd.returns] at h; cases h) hlk
        refine ⟨_, _, pre6 _ ?_, hrun, hended, _, _, rfl, ?_, ⟨_, rfl⟩, hW, hsame.mono (by decide) (by decide)⟩
        · show Steps p.tables e below (s₁.setTop (mkF m 27 #[.val (.ref rp), .val (.int q1), .val (.int q2)] [(.int (0 : Int32)), (.int (ps.getD (q1).toInt.toNat 0))])) _
          refine XS.icmpYes X0.here hx rfl (pc0 := 27) (pc' := 34) rfl (hb hby d2_27) rfl ((feq c7).2) (by decide) (by decide) ?_
          show Steps p.tables e below (s₁.setTop (mkF m 34 #[.val (.ref rp), .val (.int q1), .val (.int q2)] [])) _
          refine XS.iconst X0.here hx rfl (hb hby d2_34) ?_
          show Steps p.tables e below (s₁.setTop (mkF m 35 #[.val (.ref rp), .val (.int q1), .val (.int q2)] [(.int (0 : Int32))])) _
          exact retN X0 hx (t := .boolean) Bd.returns (by simp) (hb hby d2_35) hr
        · show Q2 Z rp q1 q2 ps h0 n0 _ s₁.heap _
          rw [e0]
          exact ⟨by simp only [own_f2, if_pos c2, if_pos c5, if_neg c7], N0, rfl⟩
    · have pre8 : ∀ t, Steps p.tables e below (s₁.setTop (mkF m 27 #[.val (.ref rp), .val (.int q1), .val (.int q2)] [(.int (1 : Int32)), (.int (ps.getD (q1).toInt.toNat 0))])) t → Steps p.tables e below (s₁.setTop (entryFrame m #[(.ref rp), (.int q1), (.int q2)] 3)) t := by
        intro t k
        refine pre4 t ?_
        show Steps p.tables e below (s₁.setTop (mkF m 19 #[.val (.ref rp), .val (.int q1), .val (.int q2)] [(.int (((q2).toUInt32 >>> (((15 : Int32) - q1) &&& 31).toUInt32).toInt32 &&& (1 : Int32))), (.int (ps.getD (q1).toInt.toNat 0))])) _
        refine XS.ifNo X0.here hx rfl (hb hby d2_19) rfl ((if0 _ _).trans (feq c5).1) ?_
        show Steps p.tables e below (s₁.setTop (mkF m 22 #[.val (.ref rp), .val (.int q1), .val (.int q2)] [(.int (ps.getD (q1).toInt.toNat 0))])) _
        refine XS.iconst X0.here hx rfl (hb hby d2_22) ?_
        show Steps p.tables e below (s₁.setTop (mkF m 23 #[.val (.ref rp), .val (.int q1), .val (.int q2)] [(.int (1 : Int32)), (.int (ps.getD (q1).toInt.toNat 0))])) _
        refine XS.goto X0.here hx rfl (pc0 := 23) (pc' := 27) rfl (hb hby d2_23) (by decide) (by decide) ?_
        exact k
      by_cases c9 : (ps.getD (q1).toInt.toNat 0) = (1 : Int32)
      · obtain ⟨fs, hr, hrun, hended, hW, hsame⟩ := X0.leave (v := some (.int (1 : Int32))) (fun h => by rw [Bd.returns] at h; cases h) hlk
        refine ⟨_, _, pre8 _ ?_, hrun, hended, _, _, rfl, ?_, ⟨_, rfl⟩, hW, hsame.mono (by decide) (by decide)⟩
        · show Steps p.tables e below (s₁.setTop (mkF m 27 #[.val (.ref rp), .val (.int q1), .val (.int q2)] [(.int (1 : Int32)), (.int (ps.getD (q1).toInt.toNat 0))])) _
          refine XS.icmpNo X0.here hx rfl (hb hby d2_27) rfl ((teq c9).2) ?_
          show Steps p.tables e below (s₁.setTop (mkF m 30 #[.val (.ref rp), .val (.int q1), .val (.int q2)] [])) _
          refine XS.iconst X0.here hx rfl (hb hby d2_30) ?_
          show Steps p.tables e below (s₁.setTop (mkF m 31 #[.val (.ref rp), .val (.int q1), .val (.int q2)] [(.int (1 : Int32))])) _
          refine XS.goto X0.here hx rfl (pc0 := 31) (pc' := 35) rfl (hb hby d2_31) (by decide) (by decide) ?_
          show Steps p.tables e below (s₁.setTop (mkF m 35 #[.val (.ref rp), .val (.int q1), .val (.int q2)] [(.int (1 : Int32))])) _
          exact retN X0 hx (t := .boolean) Bd.returns (by simp) (hb hby d2_35) hr
        · show Q2 Z rp q1 q2 ps h0 n0 _ s₁.heap _
          rw [e0]
          exact ⟨by simp only [own_f2, if_pos c2, if_neg c5, if_pos c9], N0, rfl⟩
      · obtain ⟨fs, hr, hrun, hended, hW, hsame⟩ := X0.leave (v := some (.int (0 : Int32))) (fun h => by rw [Bd.returns] at h; cases h) hlk
        refine ⟨_, _, pre8 _ ?_, hrun, hended, _, _, rfl, ?_, ⟨_, rfl⟩, hW, hsame.mono (by decide) (by decide)⟩
        · show Steps p.tables e below (s₁.setTop (mkF m 27 #[.val (.ref rp), .val (.int q1), .val (.int q2)] [(.int (1 : Int32)), (.int (ps.getD (q1).toInt.toNat 0))])) _
          refine XS.icmpYes X0.here hx rfl (pc0 := 27) (pc' := 34) rfl (hb hby d2_27) rfl ((feq c9).2) (by decide) (by decide) ?_
          show Steps p.tables e below (s₁.setTop (mkF m 34 #[.val (.ref rp), .val (.int q1), .val (.int q2)] [])) _
          refine XS.iconst X0.here hx rfl (hb hby d2_34) ?_
          show Steps p.tables e below (s₁.setTop (mkF m 35 #[.val (.ref rp), .val (.int q1), .val (.int q2)] [(.int (0 : Int32))])) _
          exact retN X0 hx (t := .boolean) Bd.returns (by simp) (hb hby d2_35) hr
        · show Q2 Z rp q1 q2 ps h0 n0 _ s₁.heap _
          rw [e0]
          exact ⟨by simp only [own_f2, if_pos c2, if_neg c5, if_neg c9], N0, rfl⟩
  · obtain ⟨fs, hr, hrun, hended, hW, hsame⟩ := X0.leave (v := some (.int (1 : Int32))) (fun h => by rw [Bd.returns] at h; cases h) hlk
    refine ⟨_, _, pre1 _ ?_, hrun, hended, _, _, rfl, ?_, ⟨_, rfl⟩, hW, hsame.mono (by decide) (by decide)⟩
    · show Steps p.tables e below (s₁.setTop (mkF m 3 #[.val (.ref rp), .val (.int q1), .val (.int q2)] [(.int (ps.length).toInt32), (.int q1)])) _
      refine XS.icmpNo X0.here hx rfl (hb hby d2_3) rfl ((flt c2).1) ?_
      show Steps p.tables e below (s₁.setTop (mkF m 6 #[.val (.ref rp), .val (.int q1), .val (.int q2)] [])) _
      refine XS.iconst X0.here hx rfl (hb hby d2_6) ?_
      show Steps p.tables e below (s₁.setTop (mkF m 7 #[.val (.ref rp), .val (.int q1), .val (.int q2)] [(.int (1 : Int32))])) _
      exact retN X0 hx (t := .boolean) Bd.returns (by simp) (hb hby d2_7) hr
    · show Q2 Z rp q1 q2 ps h0 n0 _ s₁.heap _
      rw [e0]
      exact ⟨by simp only [own_f2, if_neg c2], N0, rfl⟩
theorem ef_0 (m : MethodId) (q0 : Int32) (q1 : Int32) (q2 : Int32) : entryFrame m #[(.int q0), (.int q1), (.int q2)] maxLocals = mkF m 0 #[.val (.int q0), .val (.int q1), .val (.int q2), .unset, .unset, .unset, .unset, .unset] [] := by first | (simp [entryFrame, mkF, argsToLocals, Value.category, maxLocals]; done) | rfl
theorem pd_4 : parseMethodDescriptor "([BII)[Z" = some ⟨[(.array .byte), .int, .int], some (.array .boolean)⟩ := by decide +kernel
theorem pd_5 : parseMethodDescriptor "([ZII)Z" = some ⟨[(.array .boolean), .int, .int], some .boolean⟩ := by decide +kernel
def own_f0 (q0 : Int32) (q1 : Int32) (q2 : Int32) : Int32 := let v6 := ((q1 &&& (2147483647 : Int32)) % (3 : Int32))
  let v8 := ((q2 &&& (2147483647 : Int32)) % (17 : Int32))
  let v10 := (((q0).toUInt32 >>> (((16 : Int32) - ((8 : Int32) * v6)) &&& 31).toUInt32).toInt32 &&& (65535 : Int32))
  (if ((own_fill ((own_data q0)) v6 (v8).toInt.toNat 0 (List.replicate (v8).toInt.toNat 0)).length).toInt32 = v8 then (if (own_f2 ((0 : Int32)) v10 ((own_fill ((own_data q0)) v6 (v8).toInt.toNat 0 (List.replicate (v8).toInt.toNat 0)))) = (0 : Int32) then (0 : Int32) else (if (own_f2 ((1 : Int32)) v10 ((own_fill ((own_data q0)) v6 (v8).toInt.toNat 0 (List.replicate (v8).toInt.toNat 0)))) = (0 : Int32) then (0 : Int32) else (if (own_f2 ((2 : Int32)) v10 ((own_fill ((own_data q0)) v6 (v8).toInt.toNat 0 (List.replicate (v8).toInt.toNat 0)))) = (0 : Int32) then (0 : Int32) else (if (own_f2 ((3 : Int32)) v10 ((own_fill ((own_data q0)) v6 (v8).toInt.toNat 0 (List.replicate (v8).toInt.toNat 0)))) = (0 : Int32) then (0 : Int32) else (if (own_f2 ((4 : Int32)) v10 ((own_fill ((own_data q0)) v6 (v8).toInt.toNat 0 (List.replicate (v8).toInt.toNat 0)))) = (0 : Int32) then (0 : Int32) else (if (own_f2 ((5 : Int32)) v10 ((own_fill ((own_data q0)) v6 (v8).toInt.toNat 0 (List.replicate (v8).toInt.toNat 0)))) = (0 : Int32) then (0 : Int32) else (if (own_f2 ((6 : Int32)) v10 ((own_fill ((own_data q0)) v6 (v8).toInt.toNat 0 (List.replicate (v8).toInt.toNat 0)))) = (0 : Int32) then (0 : Int32) else (if (own_f2 ((7 : Int32)) v10 ((own_fill ((own_data q0)) v6 (v8).toInt.toNat 0 (List.replicate (v8).toInt.toNat 0)))) = (0 : Int32) then (0 : Int32) else (if (own_f2 ((8 : Int32)) v10 ((own_fill ((own_data q0)) v6 (v8).toInt.toNat 0 (List.replicate (v8).toInt.toNat 0)))) = (0 : Int32) then (0 : Int32) else (if (own_f2 ((9 : Int32)) v10 ((own_fill ((own_data q0)) v6 (v8).toInt.toNat 0 (List.replicate (v8).toInt.toNat 0)))) = (0 : Int32) then (0 : Int32) else (if (own_f2 ((10 : Int32)) v10 ((own_fill ((own_data q0)) v6 (v8).toInt.toNat 0 (List.replicate (v8).toInt.toNat 0)))) = (0 : Int32) then (0 : Int32) else (if (own_f2 ((11 : Int32)) v10 ((own_fill ((own_data q0)) v6 (v8).toInt.toNat 0 (List.replicate (v8).toInt.toNat 0)))) = (0 : Int32) then (0 : Int32) else (if (own_f2 ((12 : Int32)) v10 ((own_fill ((own_data q0)) v6 (v8).toInt.toNat 0 (List.replicate (v8).toInt.toNat 0)))) = (0 : Int32) then (0 : Int32) else (if (own_f2 ((13 : Int32)) v10 ((own_fill ((own_data q0)) v6 (v8).toInt.toNat 0 (List.replicate (v8).toInt.toNat 0)))) = (0 : Int32) then (0 : Int32) else (if (own_f2 ((14 : Int32)) v10 ((own_fill ((own_data q0)) v6 (v8).toInt.toNat 0 (List.replicate (v8).toInt.toNat 0)))) = (0 : Int32) then (0 : Int32) else (if (own_f2 ((15 : Int32)) v10 ((own_fill ((own_data q0)) v6 (v8).toInt.toNat 0 (List.replicate (v8).toInt.toNat 0)))) = (0 : Int32) then (0 : Int32) else (1 : Int32))))))))))))))))) else (0 : Int32))
def Q0 (Z : State) (q0 : Int32) (q1 : Int32) (q2 : Int32)  (h0 : Heap) (n0 : Nat) (v : Option Value) (h : Heap) (L : List Loc) : Prop := v = some (.int (own_f0 q0 q1 q2)) ∧ Fr n0 L
set_option maxRecDepth 65536 in
set_option maxHeartbeats 40000000 in
theorem rm0 (l : Launch) (Z : State) (a0 : Array Value) (hw : ∀ d ∈ tables_1, d.before a0 Z = true) (ws : List Jvm.Cond) (q0 : Int32) (q1 : Int32) (q2 : Int32)  (h0 : Heap) (n0 : Nat) (Z0 : n0 ≤ h0.size)  :
    MetFree l x (head1 (Jvm.Cond.code x code maxLocals ret :: ws) room_1) (fun a U => a = #[(.int q0), (.int q1), (.int q2)] ∧ Z.Warmed39 U.vm ∧ U.heap = h0) (fun _ _ _ _ _ => True) (fun _ U o U' => ∃ v L, o = .returned v ∧ Q0 Z q0 q1 q2 h0 n0 v U'.heap L ∧ FrameEnd U o U' L room_1.cells room_1.slots) := by
  refine MetFree.of_bodySF (plainFor_of_name pn_3) hisR ?_
  intro p e s m args below meth c s₁ Bd hml0 hP hK
  obtain ⟨rfl, hZ, hh⟩ := hP
  have hx := Bd.exec
  have hby := Bd.bytes
  have hml : c.maxLocals = 8 := hml0
  have hown : s.vm.findClass "com/example/cardglyph/cardglyph/image/PackedPointsUnpackBitsPinLaw" = some m.cls := findClass_of_methodNamed Bd.named
  have hnm := (name_of_methodNamed Bd.named Bd.method).1
  have X0 : Stand p l e room_1 s m #[(.int q0), (.int q1), (.int q2)] below meth c s₁ [] 0 0 := Stand.of_body Bd
  have hlk : meth.locks = false := by first | exact BodyLoose.notSynchronized (by assumption) | exact Body.notSynchronized (by assumption)
  have e0 : s₁.heap = h0 := by rw [← hh, Bd.state]; rfl
  have N0 := Fr.nil n0
  have pre0 : ∀ t, Steps p.tables e below (s₁.setTop (mkF m 0 #[.val (.int q0), .val (.int q1), .val (.int q2), .unset, .unset, .unset, .unset, .unset] [])) t → Steps p.tables e below (s₁.setTop (entryFrame m #[(.int q0), (.int q1), (.int q2)] maxLocals)) t := fun t k => castTop (ef_0 m q0 q1 q2) k
  obtain ⟨T1, h1, cA1, X1, e1, E1, A1, st1⟩ := newP X0 hx hZ (aty := .byte) (hw _ (List.mem_of_getElem? (i := 0) rfl)) e0 (g := (mkF m 1 #[.val (.int q0), .val (.int q1), .val (.int q2), .unset, .unset, .unset, .unset, .unset] [(.int (4 : Int32))])) rfl (hb hby at_1) rfl (by decide) (cap := 4) (by decide) (by decide) (by decide) (by decide)
  obtain ⟨a1, g1⟩ : ∃ z, z = h0.size := ⟨_, rfl⟩
  rw [← g1] at A1 st1
  have ge_a1 : n0 ≤ a1 := g1 ▸ Z0
  have sz1 : n0 ≤ h1.size := Nat.le_trans Z0 E1.1
  have V1_n : own_AI Z h1 a1 .byte [(0 : Int32), (0 : Int32), (0 : Int32), (0 : Int32)] := own_AIbyte_new A1 (k := 4) (by decide)
  obtain ⟨T2, h2, X2, e2, W2, V2, st2⟩ := own_bastoreB X1 hx hZ e1 V1_n (j := (0 : Int32)) (show 0 ≤ Int32.toInt (0 : Int32) ∧ Int32.toInt (0 : Int32) < ((4 : Nat) : Int) by decide) (x := (((q0).toUInt32 >>> ((24 : Int32) &&& 31).toUInt32).toInt32).toInt8.toInt32) (hb hby at_11) (Ls := #[.val (.int q0), .val (.int q1), .val (.int q2), .val (.ref a1), .unset, .unset, .unset, .unset]) (rest := [])
  have sz2 : n0 ≤ h2.size := Nat.le_trans sz1 (Keep.of_wr W2).1
  have N2 := Fr.snoc X2 N0 ge_a1
  have V2_n : own_AI Z h2 a1 .byte [((((q0).toUInt32 >>> ((24 : Int32) &&& 31).toUInt32).toInt32).toInt8.toInt32).toInt8.toInt32, (0 : Int32), (0 : Int32), (0 : Int32)] := V2
  obtain ⟨T3, h3, X3, e3, W3, V3, st3⟩ := own_bastoreB X2 hx hZ e2 V2_n (j := (1 : Int32)) (show 0 ≤ Int32.toInt (1 : Int32) ∧ Int32.toInt (1 : Int32) < ((4 : Nat) : Int) by decide) (x := (((q0).toUInt32 >>> ((16 : Int32) &&& 31).toUInt32).toInt32).toInt8.toInt32) (hb hby at_19) (Ls := #[.val (.int q0), .val (.int q1), .val (.int q2), .val (.ref a1), .unset, .unset, .unset, .unset]) (rest := [])
  have sz3 : n0 ≤ h3.size := Nat.le_trans sz2 (Keep.of_wr W3).1
  have N3 := Fr.snoc X3 N2 ge_a1
  have V3_n : own_AI Z h3 a1 .byte [((((q0).toUInt32 >>> ((24 : Int32) &&& 31).toUInt32).toInt32).toInt8.toInt32).toInt8.toInt32, ((((q0).toUInt32 >>> ((16 : Int32) &&& 31).toUInt32).toInt32).toInt8.toInt32).toInt8.toInt32, (0 : Int32), (0 : Int32)] := V3
  obtain ⟨T4, h4, X4, e4, W4, V4, st4⟩ := own_bastoreB X3 hx hZ e3 V3_n (j := (2 : Int32)) (show 0 ≤ Int32.toInt (2 : Int32) ∧ Int32.toInt (2 : Int32) < ((4 : Nat) : Int) by decide) (x := (((q0).toUInt32 >>> ((8 : Int32) &&& 31).toUInt32).toInt32).toInt8.toInt32) (hb hby at_27) (Ls := #[.val (.int q0), .val (.int q1), .val (.int q2), .val (.ref a1), .unset, .unset, .unset, .unset]) (rest := [])
  have sz4 : n0 ≤ h4.size := Nat.le_trans sz3 (Keep.of_wr W4).1
  have N4 := Fr.snoc X4 N3 ge_a1
  have V4_n : own_AI Z h4 a1 .byte [((((q0).toUInt32 >>> ((24 : Int32) &&& 31).toUInt32).toInt32).toInt8.toInt32).toInt8.toInt32, ((((q0).toUInt32 >>> ((16 : Int32) &&& 31).toUInt32).toInt32).toInt8.toInt32).toInt8.toInt32, ((((q0).toUInt32 >>> ((8 : Int32) &&& 31).toUInt32).toInt32).toInt8.toInt32).toInt8.toInt32, (0 : Int32)] := V4
  obtain ⟨T5, h5, X5, e5, W5, V5, st5⟩ := own_bastoreB X4 hx hZ e4 V4_n (j := (3 : Int32)) (show 0 ≤ Int32.toInt (3 : Int32) ∧ Int32.toInt (3 : Int32) < ((4 : Nat) : Int) by decide) (x := (q0).toInt8.toInt32) (hb hby at_32) (Ls := #[.val (.int q0), .val (.int q1), .val (.int q2), .val (.ref a1), .unset, .unset, .unset, .unset]) (rest := [])
  have sz5 : n0 ≤ h5.size := Nat.le_trans sz4 (Keep.of_wr W5).1
  have N5 := Fr.snoc X5 N4 ge_a1
  have V5_n : own_AI Z h5 a1 .byte [((((q0).toUInt32 >>> ((24 : Int32) &&& 31).toUInt32).toInt32).toInt8.toInt32).toInt8.toInt32, ((((q0).toUInt32 >>> ((16 : Int32) &&& 31).toUInt32).toInt32).toInt8.toInt32).toInt8.toInt32, ((((q0).toUInt32 >>> ((8 : Int32) &&& 31).toUInt32).toInt32).toInt8.toInt32).toInt8.toInt32, ((q0).toInt8.toInt32).toInt8.toInt32] := V5
  obtain ⟨v6, hv6⟩ : ∃ z : Int32, z = ((q1 &&& (2147483647 : Int32)) % (3 : Int32)) := ⟨_, rfl⟩
  have pre7 : ∀ t, Steps p.tables e below (T5.setTop (mkF m 39 #[.val (.int q0), .val (.int q1), .val (.int q2), .val (.ref a1), .unset, .unset, .unset, .unset] [(.int v6)])) t → Steps p.tables e below (s₁.setTop (entryFrame m #[(.int q0), (.int q1), (.int q2)] maxLocals)) t := by
    rw [hv6]
    intro t k
    refine pre0 t ?_
    show Steps p.tables e below (s₁.setTop (mkF m 0 #[.val (.int q0), .val (.int q1), .val (.int q2), .unset, .unset, .unset, .unset, .unset] [])) _
    refine XS.iconst X0.here hx rfl (hb hby at_0) ?_
    show Steps p.tables e below (s₁.setTop (mkF m 1 #[.val (.int q0), .val (.int q1), .val (.int q2), .unset, .unset, .unset, .unset, .unset] [(.int (4 : Int32))])) _
    refine st1 _ ?_
    show Steps p.tables e below (T1.setTop (mkF m 3 #[.val (.int q0), .val (.int q1), .val (.int q2), .unset, .unset, .unset, .unset, .unset] [(.ref a1)])) _
    refine XS.astoreN X1.here hx rfl (hb hby at_3) rfl rfl (l' := #[.val (.int q0), .val (.int q1), .val (.int q2), .val (.ref a1), .unset, .unset, .unset, .unset]) rfl ?_
    show Steps p.tables e below (T1.setTop (mkF m 4 #[.val (.int q0), .val (.int q1), .val (.int q2), .val (.ref a1), .unset, .unset, .unset, .unset] [])) _
    refine XS.aloadN X1.here hx rfl (hb hby at_4) rfl rfl ?_
    show Steps p.tables e below (T1.setTop (mkF m 5 #[.val (.int q0), .val (.int q1), .val (.int q2), .val (.ref a1), .unset, .unset, .unset, .unset] [(.ref a1)])) _
    refine XS.iconst X1.here hx rfl (hb hby at_5) ?_
    show Steps p.tables e below (T1.setTop (mkF m 6 #[.val (.int q0), .val (.int q1), .val (.int q2), .val (.ref a1), .unset, .unset, .unset, .unset] [(.int (0 : Int32)), (.ref a1)])) _
    refine XS.iloadN X1.here hx rfl (hb hby at_6) rfl ?_
    show Steps p.tables e below (T1.setTop (mkF m 7 #[.val (.int q0), .val (.int q1), .val (.int q2), .val (.ref a1), .unset, .unset, .unset, .unset] [(.int q0), (.int (0 : Int32)), (.ref a1)])) _
    refine XS.bipush X1.here hx rfl (hb hby at_7) ?_
    show Steps p.tables e below (T1.setTop (mkF m 9 #[.val (.int q0), .val (.int q1), .val (.int q2), .val (.ref a1), .unset, .unset, .unset, .unset] [(.int (24 : Int32)), (.int q0), (.int (0 : Int32)), (.ref a1)])) _
    refine XS.iushr X1.here hx rfl (hb hby at_9) rfl ?_
    show Steps p.tables e below (T1.setTop (mkF m 10 #[.val (.int q0), .val (.int q1), .val (.int q2), .val (.ref a1), .unset, .unset, .unset, .unset] [(.int ((q0).toUInt32 >>> ((24 : Int32) &&& 31).toUInt32).toInt32), (.int (0 : Int32)), (.ref a1)])) _
    refine XS.i2b X1.here hx rfl (hb hby at_10) rfl ?_
    show Steps p.tables e below (T1.setTop (mkF m 11 #[.val (.int q0), .val (.int q1), .val (.int q2), .val (.ref a1), .unset, .unset, .unset, .unset] [(.int (((q0).toUInt32 >>> ((24 : Int32) &&& 31).toUInt32).toInt32).toInt8.toInt32), (.int (0 : Int32)), (.ref a1)])) _
    refine st2 _ ?_
    show Steps p.tables e below (T2.setTop (mkF m 12 #[.val (.int q0), .val (.int q1), .val (.int q2), .val (.ref a1), .unset, .unset, .unset, .unset] [])) _
    refine XS.aloadN X2.here hx rfl (hb hby at_12) rfl rfl ?_
    show Steps p.tables e below (T2.setTop (mkF m 13 #[.val (.int q0), .val (.int q1), .val (.int q2), .val (.ref a1), .unset, .unset, .unset, .unset] [(.ref a1)])) _
    refine XS.iconst X2.here hx rfl (hb hby at_13) ?_
    show Steps p.tables e below (T2.setTop (mkF m 14 #[.val (.int q0), .val (.int q1), .val (.int q2), .val (.ref a1), .unset, .unset, .unset, .unset] [(.int (1 : Int32)), (.ref a1)])) _
    refine XS.iloadN X2.here hx rfl (hb hby at_14) rfl ?_
    show Steps p.tables e below (T2.setTop (mkF m 15 #[.val (.int q0), .val (.int q1), .val (.int q2), .val (.ref a1), .unset, .unset, .unset, .unset] [(.int q0), (.int (1 : Int32)), (.ref a1)])) _
    refine XS.bipush X2.here hx rfl (hb hby at_15) ?_
    show Steps p.tables e below (T2.setTop (mkF m 17 #[.val (.int q0), .val (.int q1), .val (.int q2), .val (.ref a1), .unset, .unset, .unset, .unset] [(.int (16 : Int32)), (.int q0), (.int (1 : Int32)), (.ref a1)])) _
    refine XS.iushr X2.here hx rfl (hb hby at_17) rfl ?_
    show Steps p.tables e below (T2.setTop (mkF m 18 #[.val (.int q0), .val (.int q1), .val (.int q2), .val (.ref a1), .unset, .unset, .unset, .unset] [(.int ((q0).toUInt32 >>> ((16 : Int32) &&& 31).toUInt32).toInt32), (.int (1 : Int32)), (.ref a1)])) _
    refine XS.i2b X2.here hx rfl (hb hby at_18) rfl ?_
    show Steps p.tables e below (T2.setTop (mkF m 19 #[.val (.int q0), .val (.int q1), .val (.int q2), .val (.ref a1), .unset, .unset, .unset, .unset] [(.int (((q0).toUInt32 >>> ((16 : Int32) &&& 31).toUInt32).toInt32).toInt8.toInt32), (.int (1 : Int32)), (.ref a1)])) _
    refine st3 _ ?_
    show Steps p.tables e below (T3.setTop (mkF m 20 #[.val (.int q0), .val (.int q1), .val (.int q2), .val (.ref a1), .unset, .unset, .unset, .unset] [])) _
    refine XS.aloadN X3.here hx rfl (hb hby at_20) rfl rfl ?_
    show Steps p.tables e below (T3.setTop (mkF m 21 #[.val (.int q0), .val (.int q1), .val (.int q2), .val (.ref a1), .unset, .unset, .unset, .unset] [(.ref a1)])) _
    refine XS.iconst X3.here hx rfl (hb hby at_21) ?_
    show Steps p.tables e below (T3.setTop (mkF m 22 #[.val (.int q0), .val (.int q1), .val (.int q2), .val (.ref a1), .unset, .unset, .unset, .unset] [(.int (2 : Int32)), (.ref a1)])) _
    refine XS.iloadN X3.here hx rfl (hb hby at_22) rfl ?_
    show Steps p.tables e below (T3.setTop (mkF m 23 #[.val (.int q0), .val (.int q1), .val (.int q2), .val (.ref a1), .unset, .unset, .unset, .unset] [(.int q0), (.int (2 : Int32)), (.ref a1)])) _
    refine XS.bipush X3.here hx rfl (hb hby at_23) ?_
    show Steps p.tables e below (T3.setTop (mkF m 25 #[.val (.int q0), .val (.int q1), .val (.int q2), .val (.ref a1), .unset, .unset, .unset, .unset] [(.int (8 : Int32)), (.int q0), (.int (2 : Int32)), (.ref a1)])) _
    refine XS.iushr X3.here hx rfl (hb hby at_25) rfl ?_
    show Steps p.tables e below (T3.setTop (mkF m 26 #[.val (.int q0), .val (.int q1), .val (.int q2), .val (.ref a1), .unset, .unset, .unset, .unset] [(.int ((q0).toUInt32 >>> ((8 : Int32) &&& 31).toUInt32).toInt32), (.int (2 : Int32)), (.ref a1)])) _
    refine XS.i2b X3.here hx rfl (hb hby at_26) rfl ?_
    show Steps p.tables e below (T3.setTop (mkF m 27 #[.val (.int q0), .val (.int q1), .val (.int q2), .val (.ref a1), .unset, .unset, .unset, .unset] [(.int (((q0).toUInt32 >>> ((8 : Int32) &&& 31).toUInt32).toInt32).toInt8.toInt32), (.int (2 : Int32)), (.ref a1)])) _
    refine st4 _ ?_
    show Steps p.tables e below (T4.setTop (mkF m 28 #[.val (.int q0), .val (.int q1), .val (.int q2), .val (.ref a1), .unset, .unset, .unset, .unset] [])) _
    refine XS.aloadN X4.here hx rfl (hb hby at_28) rfl rfl ?_
    show Steps p.tables e below (T4.setTop (mkF m 29 #[.val (.int q0), .val (.int q1), .val (.int q2), .val (.ref a1), .unset, .unset, .unset, .unset] [(.ref a1)])) _
    refine XS.iconst X4.here hx rfl (hb hby at_29) ?_
    show Steps p.tables e below (T4.setTop (mkF m 30 #[.val (.int q0), .val (.int q1), .val (.int q2), .val (.ref a1), .unset, .unset, .unset, .unset] [(.int (3 : Int32)), (.ref a1)])) _
    refine XS.iloadN X4.here hx rfl (hb hby at_30) rfl ?_
    show Steps p.tables e below (T4.setTop (mkF m 31 #[.val (.int q0), .val (.int q1), .val (.int q2), .val (.ref a1), .unset, .unset, .unset, .unset] [(.int q0), (.int (3 : Int32)), (.ref a1)])) _
    refine XS.i2b X4.here hx rfl (hb hby at_31) rfl ?_
    show Steps p.tables e below (T4.setTop (mkF m 32 #[.val (.int q0), .val (.int q1), .val (.int q2), .val (.ref a1), .unset, .unset, .unset, .unset] [(.int (q0).toInt8.toInt32), (.int (3 : Int32)), (.ref a1)])) _
    refine st5 _ ?_
    show Steps p.tables e below (T5.setTop (mkF m 33 #[.val (.int q0), .val (.int q1), .val (.int q2), .val (.ref a1), .unset, .unset, .unset, .unset] [])) _
    refine XS.iloadN X5.here hx rfl (hb hby at_33) rfl ?_
    show Steps p.tables e below (T5.setTop (mkF m 34 #[.val (.int q0), .val (.int q1), .val (.int q2), .val (.ref a1), .unset, .unset, .unset, .unset] [(.int q1)])) _
    refine X5.ldcInt hx hown (mvT hZ (hw _ (List.mem_of_getElem? (i := 1) rfl))) (g := (mkF m 34 #[.val (.int q0), .val (.int q1), .val (.int q2), .val (.ref a1), .unset, .unset, .unset, .unset] [(.int q1)])) rfl (hb hby at_34) _ ?_
    show Steps p.tables e below (T5.setTop (mkF m 36 #[.val (.int q0), .val (.int q1), .val (.int q2), .val (.ref a1), .unset, .unset, .unset, .unset] [(.int (2147483647 : Int32)), (.int q1)])) _
    refine XS.iand X5.here hx rfl (hb hby at_36) rfl ?_
    show Steps p.tables e below (T5.setTop (mkF m 37 #[.val (.int q0), .val (.int q1), .val (.int q2), .val (.ref a1), .unset, .unset, .unset, .unset] [(.int (q1 &&& (2147483647 : Int32)))])) _
    refine XS.iconst X5.here hx rfl (hb hby at_37) ?_
    show Steps p.tables e below (T5.setTop (mkF m 38 #[.val (.int q0), .val (.int q1), .val (.int q2), .val (.ref a1), .unset, .unset, .unset, .unset] [(.int (3 : Int32)), (.int (q1 &&& (2147483647 : Int32)))])) _
    refine iremM X5 hx rfl (hb hby at_38) rfl (by decide) ?_
    exact k
  obtain ⟨v8, hv8⟩ : ∃ z : Int32, z = ((q2 &&& (2147483647 : Int32)) % (17 : Int32)) := ⟨_, rfl⟩
  have pre9 : ∀ t, Steps p.tables e below (T5.setTop (mkF m 48 #[.val (.int q0), .val (.int q1), .val (.int q2), .val (.ref a1), .val (.int v6), .unset, .unset, .unset] [(.int v8)])) t → Steps p.tables e below (s₁.setTop (entryFrame m #[(.int q0), (.int q1), (.int q2)] maxLocals)) t := by
    rw [hv8]
    intro t k
    refine pre7 t ?_
    show Steps p.tables e below (T5.setTop (mkF m 39 #[.val (.int q0), .val (.int q1), .val (.int q2), .val (.ref a1), .unset, .unset, .unset, .unset] [(.int v6)])) _
    refine XS.istore X5.here hx rfl (hb hby at_39) rfl (l' := #[.val (.int q0), .val (.int q1), .val (.int q2), .val (.ref a1), .val (.int v6), .unset, .unset, .unset]) rfl ?_
    show Steps p.tables e below (T5.setTop (mkF m 41 #[.val (.int q0), .val (.int q1), .val (.int q2), .val (.ref a1), .val (.int v6), .unset, .unset, .unset] [])) _
    refine XS.iloadN X5.here hx rfl (hb hby at_41) rfl ?_
    show Steps p.tables e below (T5.setTop (mkF m 42 #[.val (.int q0), .val (.int q1), .val (.int q2), .val (.ref a1), .val (.int v6), .unset, .unset, .unset] [(.int q2)])) _
    refine X5.ldcInt hx hown (mvT hZ (hw _ (List.mem_of_getElem? (i := 1) rfl))) (g := (mkF m 42 #[.val (.int q0), .val (.int q1), .val (.int q2), .val (.ref a1), .val (.int v6), .unset, .unset, .unset] [(.int q2)])) rfl (hb hby at_42) _ ?_
    show Steps p.tables e below (T5.setTop (mkF m 44 #[.val (.int q0), .val (.int q1), .val (.int q2), .val (.ref a1), .val (.int v6), .unset, .unset, .unset] [(.int (2147483647 : Int32)), (.int q2)])) _
    refine XS.iand X5.here hx rfl (hb hby at_44) rfl ?_
    show Steps p.tables e below (T5.setTop (mkF m 45 #[.val (.int q0), .val (.int q1), .val (.int q2), .val (.ref a1), .val (.int v6), .unset, .unset, .unset] [(.int (q2 &&& (2147483647 : Int32)))])) _
    refine XS.bipush X5.here hx rfl (hb hby at_45) ?_
    show Steps p.tables e below (T5.setTop (mkF m 47 #[.val (.int q0), .val (.int q1), .val (.int q2), .val (.ref a1), .val (.int v6), .unset, .unset, .unset] [(.int (17 : Int32)), (.int (q2 &&& (2147483647 : Int32)))])) _
    refine iremM X5 hx rfl (hb hby at_47) rfl (by decide) ?_
    exact k
  obtain ⟨v10, hv10⟩ : ∃ z : Int32, z = (((q0).toUInt32 >>> (((16 : Int32) - ((8 : Int32) * v6)) &&& 31).toUInt32).toInt32 &&& (65535 : Int32)) := ⟨_, rfl⟩
  have pre11 : ∀ t, Steps p.tables e below (T5.setTop (mkF m 63 #[.val (.int q0), .val (.int q1), .val (.int q2), .val (.ref a1), .val (.int v6), .val (.int v8), .unset, .unset] [(.int v10)])) t → Steps p.tables e below (s₁.setTop (entryFrame m #[(.int q0), (.int q1), (.int q2)] maxLocals)) t := by
    rw [hv10]
    intro t k
    refine pre9 t ?_
    show Steps p.tables e below (T5.setTop (mkF m 48 #[.val (.int q0), .val (.int q1), .val (.int q2), .val (.ref a1), .val (.int v6), .unset, .unset, .unset] [(.int v8)])) _
    refine XS.istore X5.here hx rfl (hb hby at_48) rfl (l' := #[.val (.int q0), .val (.int q1), .val (.int q2), .val (.ref a1), .val (.int v6), .val (.int v8), .unset, .unset]) rfl ?_
    show Steps p.tables e below (T5.setTop (mkF m 50 #[.val (.int q0), .val (.int q1), .val (.int q2), .val (.ref a1), .val (.int v6), .val (.int v8), .unset, .unset] [])) _
    refine XS.iloadN X5.here hx rfl (hb hby at_50) rfl ?_
    show Steps p.tables e below (T5.setTop (mkF m 51 #[.val (.int q0), .val (.int q1), .val (.int q2), .val (.ref a1), .val (.int v6), .val (.int v8), .unset, .unset] [(.int q0)])) _
    refine XS.bipush X5.here hx rfl (hb hby at_51) ?_
    show Steps p.tables e below (T5.setTop (mkF m 53 #[.val (.int q0), .val (.int q1), .val (.int q2), .val (.ref a1), .val (.int v6), .val (.int v8), .unset, .unset] [(.int (16 : Int32)), (.int q0)])) _
    refine XS.bipush X5.here hx rfl (hb hby at_53) ?_
    show Steps p.tables e below (T5.setTop (mkF m 55 #[.val (.int q0), .val (.int q1), .val (.int q2), .val (.ref a1), .val (.int v6), .val (.int v8), .unset, .unset] [(.int (8 : Int32)), (.int (16 : Int32)), (.int q0)])) _
    refine XS.iload X5.here hx rfl (hb hby at_55) rfl ?_
    show Steps p.tables e below (T5.setTop (mkF m 57 #[.val (.int q0), .val (.int q1), .val (.int q2), .val (.ref a1), .val (.int v6), .val (.int v8), .unset, .unset] [(.int v6), (.int (8 : Int32)), (.int (16 : Int32)), (.int q0)])) _
    refine XS.imul X5.here hx rfl (hb hby at_57) rfl ?_
    show Steps p.tables e below (T5.setTop (mkF m 58 #[.val (.int q0), .val (.int q1), .val (.int q2), .val (.ref a1), .val (.int v6), .val (.int v8), .unset, .unset] [(.int ((8 : Int32) * v6)), (.int (16 : Int32)), (.int q0)])) _
    refine XS.isub X5.here hx rfl (hb hby at_58) rfl ?_
    show Steps p.tables e below (T5.setTop (mkF m 59 #[.val (.int q0), .val (.int q1), .val (.int q2), .val (.ref a1), .val (.int v6), .val (.int v8), .unset, .unset] [(.int ((16 : Int32) - ((8 : Int32) * v6))), (.int q0)])) _
    refine XS.iushr X5.here hx rfl (hb hby at_59) rfl ?_
    show Steps p.tables e below (T5.setTop (mkF m 60 #[.val (.int q0), .val (.int q1), .val (.int q2), .val (.ref a1), .val (.int v6), .val (.int v8), .unset, .unset] [(.int ((q0).toUInt32 >>> (((16 : Int32) - ((8 : Int32) * v6)) &&& 31).toUInt32).toInt32)])) _
    refine X5.ldcInt hx hown (mvT hZ (hw _ (List.mem_of_getElem? (i := 2) rfl))) (g := (mkF m 60 #[.val (.int q0), .val (.int q1), .val (.int q2), .val (.ref a1), .val (.int v6), .val (.int v8), .unset, .unset] [(.int ((q0).toUInt32 >>> (((16 : Int32) - ((8 : Int32) * v6)) &&& 31).toUInt32).toInt32)])) rfl (hb hby at_60) _ ?_
    show Steps p.tables e below (T5.setTop (mkF m 62 #[.val (.int q0), .val (.int q1), .val (.int q2), .val (.ref a1), .val (.int v6), .val (.int v8), .unset, .unset] [(.int (65535 : Int32)), (.int ((q0).toUInt32 >>> (((16 : Int32) - ((8 : Int32) * v6)) &&& 31).toUInt32).toInt32)])) _
    refine XS.iand X5.here hx rfl (hb hby at_62) rfl ?_
    exact k
  have V12_a : own_AI Z h5 a1 .byte (own_data q0) := V5_n
  obtain ⟨_, _, ⟨T13, L13, k13, n13⟩, -, X13, ⟨Lc13, hQ13, l13, y13, z13⟩, st13⟩ := Jvm.LawKit.callS X5 hx (y := (⟨"com/example/cardglyph/cardglyph/image/PackedPoints", "unpackBits", "([BII)[Z"⟩ : MethodName)) hown (mvT hZ (hw _ (List.mem_of_getElem? (i := 3) rfl))) (mvT hZ (hw _ (List.mem_of_getElem? (i := 4) rfl))) (mvT hZ (hw _ (List.mem_of_getElem? (i := 5) rfl))) (mvT hZ (hw _ (List.mem_of_getElem? (i := 6) rfl))) (by decide) (backOf (W := 0) (rm1 l Z a0 hw [] a1 v6 v8 ((own_data q0)) h5 n0 sz5 V12_a (own_hy (by assumption) (by assumption))) hZ (hw _ (List.mem_of_getElem? (i := 6) rfl)) (hw _ (List.mem_of_getElem? (i := 5) rfl)) (by decide) (by decide)) (g := (mkF m 70 #[.val (.int q0), .val (.int q1), .val (.int q2), .val (.ref a1), .val (.int v6), .val (.int v8), .val (.int v10), .unset] [(.int v8), (.int v6), (.ref a1)])) rfl (by rw [hml]; rfl) (argsL := [(.ref a1), (.int v6), (.int v8)]) (rest := []) (lenOf pd_4 rfl) rfl (by show 2 * 0 + _ ≤ _; exact Nat.le_of_eq rfl) (hb hby at_70) (fun _ _ => ⟨rfl, e5, (by decide : 1 + 1 ≤ _), (by decide : 4 + 16 ≤ _)⟩)
  dsimp only [Pt.U, Pt.locs, Pt.cells, Pt.slots] at X13 l13 y13 z13 st13 hQ13
  subst l13 y13 z13
  obtain ⟨rfl, N13q, K13, R13⟩ := hQ13
  obtain ⟨h13, e13⟩ : ∃ z, T13.heap = z := ⟨_, rfl⟩
  rw [e13] at K13 R13
  obtain ⟨a13, g13⟩ : ∃ z, z = h5.size := ⟨_, rfl⟩
  rw [← g13] at R13 st13
  have ne_a1_a13 : a1 ≠ a13 := g13 ▸ Nat.ne_of_lt V12_a.lt
  have ge_a13 : n0 ≤ a13 := g13 ▸ sz5
  have V13_a1 : own_AI Z h13 a1 .byte (own_data q0) := V12_a.keep K13 nin0
  have sz13 : n0 ≤ h13.size := Nat.le_trans sz5 K13.1
  have N13 := Fr.app N5 N13q
  have pre14 : ∀ t, Steps p.tables e below (T13.setTop (mkF m 80 #[.val (.int q0), .val (.int q1), .val (.int q2), .val (.ref a1), .val (.int v6), .val (.int v8), .val (.int v10), .val (.ref a13)] [(.int v8), (.int ((own_fill ((own_data q0)) v6 (v8).toInt.toNat 0 (List.replicate (v8).toInt.toNat 0)).length).toInt32)])) t → Steps p.tables e below (s₁.setTop (entryFrame m #[(.int q0), (.int q1), (.int q2)] maxLocals)) t := by
    intro t k
    refine pre11 t ?_
    show Steps p.tables e below (T5.setTop (mkF m 63 #[.val (.int q0), .val (.int q1), .val (.int q2), .val (.ref a1), .val (.int v6), .val (.int v8), .unset, .unset] [(.int v10)])) _
    refine XS.istore X5.here hx rfl (hb hby at_63) rfl (l' := #[.val (.int q0), .val (.int q1), .val (.int q2), .val (.ref a1), .val (.int v6), .val (.int v8), .val (.int v10), .unset]) rfl ?_
    show Steps p.tables e below (T5.setTop (mkF m 65 #[.val (.int q0), .val (.int q1), .val (.int q2), .val (.ref a1), .val (.int v6), .val (.int v8), .val (.int v10), .unset] [])) _
    refine XS.aloadN X5.here hx rfl (hb hby at_65) rfl rfl ?_
    show Steps p.tables e below (T5.setTop (mkF m 66 #[.val (.int q0), .val (.int q1), .val (.int q2), .val (.ref a1), .val (.int v6), .val (.int v8), .val (.int v10), .unset] [(.ref a1)])) _
    refine XS.iload X5.here hx rfl (hb hby at_66) rfl ?_
    show Steps p.tables e below (T5.setTop (mkF m 68 #[.val (.int q0), .val (.int q1), .val (.int q2), .val (.ref a1), .val (.int v6), .val (.int v8), .val (.int v10), .unset] [(.int v6), (.ref a1)])) _
    refine XS.iload X5.here hx rfl (hb hby at_68) rfl ?_
    show Steps p.tables e below (T5.setTop (mkF m 70 #[.val (.int q0), .val (.int q1), .val (.int q2), .val (.ref a1), .val (.int v6), .val (.int v8), .val (.int v10), .unset] [(.int v8), (.int v6), (.ref a1)])) _
    refine st13 _ ?_
    show Steps p.tables e below (T13.setTop (mkF m 73 #[.val (.int q0), .val (.int q1), .val (.int q2), .val (.ref a1), .val (.int v6), .val (.int v8), .val (.int v10), .unset] [(.ref a13)])) _
    refine XS.astore X13.here hx rfl (hb hby at_73) rfl rfl (l' := #[.val (.int q0), .val (.int q1), .val (.int q2), .val (.ref a1), .val (.int v6), .val (.int v8), .val (.int v10), .val (.ref a13)]) rfl ?_
    show Steps p.tables e below (T13.setTop (mkF m 75 #[.val (.int q0), .val (.int q1), .val (.int q2), .val (.ref a1), .val (.int v6), .val (.int v8), .val (.int v10), .val (.ref a13)] [])) _
    refine XS.aload X13.here hx rfl (hb hby at_75) rfl rfl ?_
    show Steps p.tables e below (T13.setTop (mkF m 77 #[.val (.int q0), .val (.int q1), .val (.int q2), .val (.ref a1), .val (.int v6), .val (.int v8), .val (.int v10), .val (.ref a13)] [(.ref a13)])) _
    refine own_alenI X13 hx hZ e13 R13 (hb hby at_77) _ ?_
    show Steps p.tables e below (T13.setTop (mkF m 78 #[.val (.int q0), .val (.int q1), .val (.int q2), .val (.ref a1), .val (.int v6), .val (.int v8), .val (.int v10), .val (.ref a13)] [(.int ((own_fill ((own_data q0)) v6 (v8).toInt.toNat 0 (List.replicate (v8).toInt.toNat 0)).length).toInt32)])) _
    refine XS.iload X13.here hx rfl (hb hby at_78) rfl ?_
    exact k
  by_cases c15 : ((own_fill ((own_data q0)) v6 (v8).toInt.toNat 0 (List.replicate (v8).toInt.toNat 0)).length).toInt32 = v8
  · obtain ⟨_, _, ⟨T16, L16, k16, n16⟩, -, X16, ⟨Lc16, hQ16, l16, y16, z16⟩, st16⟩ := Jvm.LawKit.callS X13 hx (y := (⟨"com/example/cardglyph/cardglyph/image/PackedPointsUnpackBitsPinLaw", "at", "([ZII)Z"⟩ : MethodName)) hown (mvT hZ (hw _ (List.mem_of_getElem? (i := 8) rfl))) (mvT hZ (hw _ (List.mem_of_getElem? (i := 9) rfl))) (mvT hZ (hw _ (List.mem_of_getElem? (i := 10) rfl))) (mvT hZ (hw _ (List.mem_of_getElem? (i := 11) rfl))) (by decide) (backOf (W := 0) (rm2 l Z a0 hw [] a13 (0 : Int32) v10 ((own_fill ((own_data q0)) v6 (v8).toInt.toNat 0 (List.replicate (v8).toInt.toNat 0))) h13 n0 sz13 R13 (by simp only [own_filllen, List.length_replicate]; have := own_c17 (by assumption); omega) (by decide)) hZ (hw _ (List.mem_of_getElem? (i := 11) rfl)) (hw _ (List.mem_of_getElem? (i := 10) rfl)) (by decide) (by decide)) (g := (mkF m 90 #[.val (.int q0), .val (.int q1), .val (.int q2), .val (.ref a1), .val (.int v6), .val (.int v8), .val (.int v10), .val (.ref a13)] [(.int v10), (.int (0 : Int32)), (.ref a13)])) rfl (by rw [hml]; rfl) (argsL := [(.ref a13), (.int (0 : Int32)), (.int v10)]) (rest := []) (lenOf pd_5 rfl) rfl (by show 2 * 0 + _ ≤ _; exact Nat.le_of_eq rfl) (hb hby at_90) (fun _ _ => ⟨rfl, e13, (by decide : 2 + 0 ≤ _), (by decide : 20 + 0 ≤ _)⟩)
    dsimp only [Pt.U, Pt.locs, Pt.cells, Pt.slots] at X16 l16 y16 z16 st16 hQ16
    subst l16 y16 z16
    obtain ⟨rfl, N16q, e16⟩ := hQ16
    have N16 := Fr.app N13 N16q
    have pre17 : ∀ t, Steps p.tables e below (T16.setTop (mkF m 93 #[.val (.int q0), .val (.int q1), .val (.int q2), .val (.ref a1), .val (.int v6), .val (.int v8), .val (.int v10), .val (.ref a13)] [(.int (own_f2 ((0 : Int32)) v10 ((own_fill ((own_data q0)) v6 (v8).toInt.toNat 0 (List.replicate (v8).toInt.toNat 0)))))])) t → Steps p.tables e below (s₁.setTop (entryFrame m #[(.int q0), (.int q1), (.int q2)] maxLocals)) t := by
      intro t k
      refine pre14 t ?_
      show Steps p.tables e below (T13.setTop (mkF m 80 #[.val (.int q0), .val (.int q1), .val (.int q2), .val (.ref a1), .val (.int v6), .val (.int v8), .val (.int v10), .val (.ref a13)] [(.int v8), (.int ((own_fill ((own_data q0)) v6 (v8).toInt.toNat 0 (List.replicate (v8).toInt.toNat 0)).length).toInt32)])) _
      refine XS.icmpYes X13.here hx rfl (pc0 := 80) (pc' := 85) rfl (hb hby at_80) rfl ((teq c15).1) (by decide) (by decide) ?_
      show Steps p.tables e below (T13.setTop (mkF m 85 #[.val (.int q0), .val (.int q1), .val (.int q2), .val (.ref a1), .val (.int v6), .val (.int v8), .val (.int v10), .val (.ref a13)] [])) _
      refine XS.aload X13.here hx rfl (hb hby at_85) rfl rfl ?_
      show Steps p.tables e below (T13.setTop (mkF m 87 #[.val (.int q0), .val (.int q1), .val (.int q2), .val (.ref a1), .val (.int v6), .val (.int v8), .val (.int v10), .val (.ref a13)] [(.ref a13)])) _
      refine XS.iconst X13.here hx rfl (hb hby at_87) ?_
      show Steps p.tables e below (T13.setTop (mkF m 88 #[.val (.int q0), .val (.int q1), .val (.int q2), .val (.ref a1), .val (.int v6), .val (.int v8), .val (.int v10), .val (.ref a13)] [(.int (0 : Int32)), (.ref a13)])) _
      refine XS.iload X13.here hx rfl (hb hby at_88) rfl ?_
      show Steps p.tables e below (T13.setTop (mkF m 90 #[.val (.int q0), .val (.int q1), .val (.int q2), .val (.ref a1), .val (.int v6), .val (.int v8), .val (.int v10), .val (.ref a13)] [(.int v10), (.int (0 : Int32)), (.ref a13)])) _
      refine st16 _ ?_
      exact k
    by_cases c18 : (own_f2 ((0 : Int32)) v10 ((own_fill ((own_data q0)) v6 (v8).toInt.toNat 0 (List.replicate (v8).toInt.toNat 0)))) = (0 : Int32)
    · obtain ⟨fs, hr, hrun, hended, hW, hsame⟩ := X16.leave (v := some (.int (0 : Int32))) (fun h => by rw [Bd.returns] at h; cases h) hlk
      refine ⟨_, _, pre17 _ ?_, hrun, hended, _, _, rfl, ?_, ⟨_, rfl⟩, hW, hsame.mono (by decide) (by decide)⟩
      · show Steps p.tables e below (T16.setTop (mkF m 93 #[.val (.int q0), .val (.int q1), .val (.int q2), .val (.ref a1), .val (.int v6), .val (.int v8), .val (.int v10), .val (.ref a13)] [(.int (own_f2 ((0 : Int32)) v10 ((own_fill ((own_data q0)) v6 (v8).toInt.toNat 0 (List.replicate (v8).toInt.toNat 0)))))])) _
        refine XS.ifYes X16.here hx rfl (pc0 := 93) (pc' := 275) rfl (hb hby at_93) rfl ((if0 _ _).trans (teq c18).1) (by decide) (by decide) ?_
        show Steps p.tables e below (T16.setTop (mkF m 275 #[.val (.int q0), .val (.int q1), .val (.int q2), .val (.ref a1), .val (.int v6), .val (.int v8), .val (.int v10), .val (.ref a13)] [])) _
        refine XS.iconst X16.here hx rfl (hb hby at_275) ?_
        show Steps p.tables e below (T16.setTop (mkF m 276 #[.val (.int q0), .val (.int q1), .val (.int q2), .val (.ref a1), .val (.int v6), .val (.int v8), .val (.int v10), .val (.ref a13)] [(.int (0 : Int32))])) _
        exact retN X16 hx (t := .boolean) Bd.returns (by simp) (hb hby at_276) hr
      · show Q0 Z q0 q1 q2 h0 n0 _ T16.heap _
        rw [e16]
        exact ⟨by have w_hv10 := hv10.symm; subst w_hv10; have w_hv8 := hv8.symm; subst w_hv8; have w_hv6 := hv6.symm; subst w_hv6; simp only [own_f0, if_pos c15, if_pos c18], N16⟩
    · obtain ⟨_, _, ⟨T19, L19, k19, n19⟩, -, X19, ⟨Lc19, hQ19, l19, y19, z19⟩, st19⟩ := Jvm.LawKit.callS X16 hx (y := (⟨"com/example/cardglyph/cardglyph/image/PackedPointsUnpackBitsPinLaw", "at", "([ZII)Z"⟩ : MethodName)) hown (mvT hZ (hw _ (List.mem_of_getElem? (i := 8) rfl))) (mvT hZ (hw _ (List.mem_of_getElem? (i := 9) rfl))) (mvT hZ (hw _ (List.mem_of_getElem? (i := 10) rfl))) (mvT hZ (hw _ (List.mem_of_getElem? (i := 11) rfl))) (by decide) (backOf (W := 0) (rm2 l Z a0 hw [] a13 (1 : Int32) v10 ((own_fill ((own_data q0)) v6 (v8).toInt.toNat 0 (List.replicate (v8).toInt.toNat 0))) h13 n0 sz13 R13 (by simp only [own_filllen, List.length_replicate]; have := own_c17 (by assumption); omega) (by decide)) hZ (hw _ (List.mem_of_getElem? (i := 11) rfl)) (hw _ (List.mem_of_getElem? (i := 10) rfl)) (by decide) (by decide)) (g := (mkF m 101 #[.val (.int q0), .val (.int q1), .val (.int q2), .val (.ref a1), .val (.int v6), .val (.int v8), .val (.int v10), .val (.ref a13)] [(.int v10), (.int (1 : Int32)), (.ref a13)])) rfl (by rw [hml]; rfl) (argsL := [(.ref a13), (.int (1 : Int32)), (.int v10)]) (rest := []) (lenOf pd_5 rfl) rfl (by show 2 * 0 + _ ≤ _; exact Nat.le_of_eq rfl) (hb hby at_101) (fun _ _ => ⟨rfl, e16, (by decide : 2 + 0 ≤ _), (by decide : 20 + 0 ≤ _)⟩)
      dsimp only [Pt.U, Pt.locs, Pt.cells, Pt.slots] at X19 l19 y19 z19 st19 hQ19
      subst l19 y19 z19
      obtain ⟨rfl, N19q, e19⟩ := hQ19
      have N19 := Fr.app N16 N19q
      have pre20 : ∀ t, Steps p.tables e below (T19.setTop (mkF m 104 #[.val (.int q0), .val (.int q1), .val (.int q2), .val (.ref a1), .val (.int v6), .val (.int v8), .val (.int v10), .val (.ref a13)] [(.int (own_f2 ((1 : Int32)) v10 ((own_fill ((own_data q0)) v6 (v8).toInt.toNat 0 (List.replicate (v8).toInt.toNat 0)))))])) t → Steps p.tables e below (s₁.setTop (entryFrame m #[(.int q0), (.int q1), (.int q2)] maxLocals)) t := by
        intro t k
        refine pre17 t ?_
        show Steps p.tables e below (T16.setTop (mkF m 93 #[.val (.int q0), .val (.int q1), .val (.int q2), .val (.ref a1), .val (.int v6), .val (.int v8), .val (.int v10), .val (.ref a13)] [(.int (own_f2 ((0 : Int32)) v10 ((own_fill ((own_data q0)) v6 (v8).toInt.toNat 0 (List.replicate (v8).toInt.toNat 0)))))])) _
        refine XS.ifNo X16.here hx rfl (hb hby at_93) rfl ((if0 _ _).trans (feq c18).1) ?_
        show Steps p.tables e below (T16.setTop (mkF m 96 #[.val (.int q0), .val (.int q1), .val (.int q2), .val (.ref a1), .val (.int v6), .val (.int v8), .val (.int v10), .val (.ref a13)] [])) _
        refine XS.aload X16.here hx rfl (hb hby at_96) rfl rfl ?_
        show Steps p.tables e below (T16.setTop (mkF m 98 #[.val (.int q0), .val (.int q1), .val (.int q2), .val (.ref a1), .val (.int v6), .val (.int v8), .val (.int v10), .val (.ref a13)] [(.ref a13)])) _
        refine XS.iconst X16.here hx rfl (hb hby at_98) ?_
        show Steps p.tables e below (T16.setTop (mkF m 99 #[.val (.int q0), .val (.int q1), .val (.int q2), .val (.ref a1), .val (.int v6), .val (.int v8), .val (.int v10), .val (.ref a13)] [(.int (1 : Int32)), (.ref a13)])) _
        refine XS.iload X16.here hx rfl (hb hby at_99) rfl ?_
        show Steps p.tables e below (T16.setTop (mkF m 101 #[.val (.int q0), .val (.int q1), .val (.int q2), .val (.ref a1), .val (.int v6), .val (.int v8), .val (.int v10), .val (.ref a13)] [(.int v10), (.int (1 : Int32)), (.ref a13)])) _
        refine st19 _ ?_
        exact k
      by_cases c21 : (own_f2 ((1 : Int32)) v10 ((own_fill ((own_data q0)) v6 (v8).toInt.toNat 0 (List.replicate (v8).toInt.toNat 0)))) = (0 : Int32)
      · obtain ⟨fs, hr, hrun, hended, hW, hsame⟩ := X19.leave (v := some (.int (0 : Int32))) (fun h => by rw [Bd.returns] at h; cases h) hlk
        refine ⟨_, _, pre20 _ ?_, hrun, hended, _, _, rfl, ?_, ⟨_, rfl⟩, hW, hsame.mono (by decide) (by decide)⟩
        · show Steps p.tables e below (T19.setTop (mkF m 104 #[.val (.int q0), .val (.int q1), .val (.int q2), .val (.ref a1), .val (.int v6), .val (.int v8), .val (.int v10), .val (.ref a13)] [(.int (own_f2 ((1 : Int32)) v10 ((own_fill ((own_data q0)) v6 (v8).toInt.toNat 0 (List.replicate (v8).toInt.toNat 0)))))])) _
          refine XS.ifYes X19.here hx rfl (pc0 := 104) (pc' := 275) rfl (hb hby at_104) rfl ((if0 _ _).trans (teq c21).1) (by decide) (by decide) ?_
          show Steps p.tables e below (T19.setTop (mkF m 275 #[.val (.int q0), .val (.int q1), .val (.int q2), .val (.ref a1), .val (.int v6), .val (.int v8), .val (.int v10), .val (.ref a13)] [])) _
          refine XS.iconst X19.here hx rfl (hb hby at_275) ?_
          show Steps p.tables e below (T19.setTop (mkF m 276 #[.val (.int q0), .val (.int q1), .val (.int q2), .val (.ref a1), .val (.int v6), .val (.int v8), .val (.int v10), .val (.ref a13)] [(.int (0 : Int32))])) _
          exact retN X19 hx (t := .boolean) Bd.returns (by simp) (hb hby at_276) hr
        · show Q0 Z q0 q1 q2 h0 n0 _ T19.heap _
          rw [e19]
          exact ⟨by have w_hv10 := hv10.symm; subst w_hv10; have w_hv8 := hv8.symm; subst w_hv8; have w_hv6 := hv6.symm; subst w_hv6; simp only [own_f0, if_pos c15, if_neg c18, if_pos c21], N19⟩
      · obtain ⟨_, _, ⟨T22, L22, k22, n22⟩, -, X22, ⟨Lc22, hQ22, l22, y22, z22⟩, st22⟩ := Jvm.LawKit.callS X19 hx (y := (⟨"com/example/cardglyph/cardglyph/image/PackedPointsUnpackBitsPinLaw", "at", "([ZII)Z"⟩ : MethodName)) hown (mvT hZ (hw _ (List.mem_of_getElem? (i := 8) rfl))) (mvT hZ (hw _ (List.mem_of_getElem? (i := 9) rfl))) (mvT hZ (hw _ (List.mem_of_getElem? (i := 10) rfl))) (mvT hZ (hw _ (List.mem_of_getElem? (i := 11) rfl))) (by decide) (backOf (W := 0) (rm2 l Z a0 hw [] a13 (2 : Int32) v10 ((own_fill ((own_data q0)) v6 (v8).toInt.toNat 0 (List.replicate (v8).toInt.toNat 0))) h13 n0 sz13 R13 (by simp only [own_filllen, List.length_replicate]; have := own_c17 (by assumption); omega) (by decide)) hZ (hw _ (List.mem_of_getElem? (i := 11) rfl)) (hw _ (List.mem_of_getElem? (i := 10) rfl)) (by decide) (by decide)) (g := (mkF m 112 #[.val (.int q0), .val (.int q1), .val (.int q2), .val (.ref a1), .val (.int v6), .val (.int v8), .val (.int v10), .val (.ref a13)] [(.int v10), (.int (2 : Int32)), (.ref a13)])) rfl (by rw [hml]; rfl) (argsL := [(.ref a13), (.int (2 : Int32)), (.int v10)]) (rest := []) (lenOf pd_5 rfl) rfl (by show 2 * 0 + _ ≤ _; exact Nat.le_of_eq rfl) (hb hby at_112) (fun _ _ => ⟨rfl, e19, (by decide : 2 + 0 ≤ _), (by decide : 20 + 0 ≤ _)⟩)
        dsimp only [Pt.U, Pt.locs, Pt.cells, Pt.slots] at X22 l22 y22 z22 st22 hQ22
        subst l22 y22 z22
        obtain ⟨rfl, N22q, e22⟩ := hQ22
        have N22 := Fr.app N19 N22q
        have pre23 : ∀ t, Steps p.tables e below (T22.setTop (mkF m 115 #[.val (.int q0), .val (.int q1), .val (.int q2), .val (.ref a1), .val (.int v6), .val (.int v8), .val (.int v10), .val (.ref a13)] [(.int (own_f2 ((2 : Int32)) v10 ((own_fill ((own_data q0)) v6 (v8).toInt.toNat 0 (List.replicate (v8).toInt.toNat 0)))))])) t → Steps p.tables e below (s₁.setTop (entryFrame m #[(.int q0), (.int q1), (.int q2)] maxLocals)) t := by
          intro t k
          refine pre20 t ?_
          show Steps p.tables e below (T19.setTop (mkF m 104 #[.val (.int q0), .val (.int q1), .val (.int q2), .val (.ref a1), .val (.int v6), .val (.int v8), .val (.int v10), .val (.ref a13)] [(.int (own_f2 ((1 : Int32)) v10 ((own_fill ((own_data q0)) v6 (v8).toInt.toNat 0 (List.replicate (v8).toInt.toNat 0)))))])) _
          refine XS.ifNo X19.here hx rfl (hb hby at_104) rfl ((if0 _ _).trans (feq c21).1) ?_
          show Steps p.tables e below (T19.setTop (mkF m 107 #[.val (.int q0), .val (.int q1), .val (.int q2), .val (.ref a1), .val (.int v6), .val (.int v8), .val (.int v10), .val (.ref a13)] [])) _
          refine XS.aload X19.here hx rfl (hb hby at_107) rfl rfl ?_
          show Steps p.tables e below (T19.setTop (mkF m 109 #[.val (.int q0), .val (.int q1), .val (.int q2), .val (.ref a1), .val (.int v6), .val (.int v8), .val (.int v10), .val (.ref a13)] [(.ref a13)])) _
          refine XS.iconst X19.here hx rfl (hb hby at_109) ?_
          show Steps p.tables e below (T19.setTop (mkF m 110 #[.val (.int q0), .val (.int q1), .val (.int q2), .val (.ref a1), .val (.int v6), .val (.int v8), .val (.int v10), .val (.ref a13)] [(.int (2 : Int32)), (.ref a13)])) _
          refine XS.iload X19.here hx rfl (hb hby at_110) rfl ?_
          show Steps p.tables e below (T19.setTop (mkF m 112 #[.val (.int q0), .val (.int q1), .val (.int q2), .val (.ref a1), .val (.int v6), .val (.int v8), .val (.int v10), .val (.ref a13)] [(.int v10), (.int (2 : Int32)), (.ref a13)])) _
          refine st22 _ ?_
          exact k
        by_cases c24 : (own_f2 ((2 : Int32)) v10 ((own_fill ((own_data q0)) v6 (v8).toInt.toNat 0 (List.replicate (v8).toInt.toNat 0)))) = (0 : Int32)
        · obtain ⟨fs, hr, hrun, hended, hW, hsame⟩ := X22.leave (v := some (.int (0 : Int32))) (fun h => by rw [Bd.returns] at h; cases h) hlk
          refine ⟨_, _, pre23 _ ?_, hrun, hended, _, _, rfl, ?_, ⟨_, rfl⟩, hW, hsame.mono (by decide) (by decide)⟩
          · show Steps p.tables e below (T22.setTop (mkF m 115 #[.val (.int q0), .val (.int q1), .val (.int q2), .val (.ref a1), .val (.int v6), .val (.int v8), .val (.int v10), .val (.ref a13)] [(.int (own_f2 ((2 : Int32)) v10 ((own_fill ((own_data q0)) v6 (v8).toInt.toNat 0 (List.replicate (v8).toInt.toNat 0)))))])) _
            refine XS.ifYes X22.here hx rfl (pc0 := 115) (pc' := 275) rfl (hb hby at_115) rfl ((if0 _ _).trans (teq c24).1) (by decide) (by decide) ?_
            show Steps p.tables e below (T22.setTop (mkF m 275 #[.val (.int q0), .val (.int q1), .val (.int q2), .val (.ref a1), .val (.int v6), .val (.int v8), .val (.int v10), .val (.ref a13)] [])) _
            refine XS.iconst X22.here hx rfl (hb hby at_275) ?_
            show Steps p.tables e below (T22.setTop (mkF m 276 #[.val (.int q0), .val (.int q1), .val (.int q2), .val (.ref a1), .val (.int v6), .val (.int v8), .val (.int v10), .val (.ref a13)] [(.int (0 : Int32))])) _
            exact retN X22 hx (t := .boolean) Bd.returns (by simp) (hb hby at_276) hr
          · show Q0 Z q0 q1 q2 h0 n0 _ T22.heap _
            rw [e22]
            exact ⟨by have w_hv10 := hv10.symm; subst w_hv10; have w_hv8 := hv8.symm; subst w_hv8; have w_hv6 := hv6.symm; subst w_hv6; simp only [own_f0, if_pos c15, if_neg c18, if_neg c21, if_pos c24], N22⟩
        · obtain ⟨_, _, ⟨T25, L25, k25, n25⟩, -, X25, ⟨Lc25, hQ25, l25, y25, z25⟩, st25⟩ := Jvm.LawKit.callS X22 hx (y := (⟨"com/example/cardglyph/cardglyph/image/PackedPointsUnpackBitsPinLaw", "at", "([ZII)Z"⟩ : MethodName)) hown (mvT hZ (hw _ (List.mem_of_getElem? (i := 8) rfl))) (mvT hZ (hw _ (List.mem_of_getElem? (i := 9) rfl))) (mvT hZ (hw _ (List.mem_of_getElem? (i := 10) rfl))) (mvT hZ (hw _ (List.mem_of_getElem? (i := 11) rfl))) (by decide) (backOf (W := 0) (rm2 l Z a0 hw [] a13 (3 : Int32) v10 ((own_fill ((own_data q0)) v6 (v8).toInt.toNat 0 (List.replicate (v8).toInt.toNat 0))) h13 n0 sz13 R13 (by simp only [own_filllen, List.length_replicate]; have := own_c17 (by assumption); omega) (by decide)) hZ (hw _ (List.mem_of_getElem? (i := 11) rfl)) (hw _ (List.mem_of_getElem? (i := 10) rfl)) (by decide) (by decide)) (g := (mkF m 123 #[.val (.int q0), .val (.int q1), .val (.int q2), .val (.ref a1), .val (.int v6), .val (.int v8), .val (.int v10), .val (.ref a13)] [(.int v10), (.int (3 : Int32)), (.ref a13)])) rfl (by rw [hml]; rfl) (argsL := [(.ref a13), (.int (3 : Int32)), (.int v10)]) (rest := []) (lenOf pd_5 rfl) rfl (by show 2 * 0 + _ ≤ _; exact Nat.le_of_eq rfl) (hb hby at_123) (fun _ _ => ⟨rfl, e22, (by decide : 2 + 0 ≤ _), (by decide : 20 + 0 ≤ _)⟩)
          dsimp only [Pt.U, Pt.locs, Pt.cells, Pt.slots] at X25 l25 y25 z25 st25 hQ25
          subst l25 y25 z25
          obtain ⟨rfl, N25q, e25⟩ := hQ25
          have N25 := Fr.app N22 N25q
          have pre26 : ∀ t, Steps p.tables e below (T25.setTop (mkF m 126 #[.val (.int q0), .val (.int q1), .val (.int q2), .val (.ref a1), .val (.int v6), .val (.int v8), .val (.int v10), .val (.ref a13)] [(.int (own_f2 ((3 : Int32)) v10 ((own_fill ((own_data q0)) v6 (v8).toInt.toNat 0 (List.replicate (v8).toInt.toNat 0)))))])) t → Steps p.tables e below (s₁.setTop (entryFrame m #[(.int q0), (.int q1), (.int q2)] maxLocals)) t := by
            intro t k
            refine pre23 t ?_
            show Steps p.tables e below (T22.setTop (mkF m 115 #[.val (.int q0), .val (.int q1), .val (.int q2), .val (.ref a1), .val (.int v6), .val (.int v8), .val (.int v10), .val (.ref a13)] [(.int (own_f2 ((2 : Int32)) v10 ((own_fill ((own_data q0)) v6 (v8).toInt.toNat 0 (List.replicate (v8).toInt.toNat 0)))))])) _
            refine XS.ifNo X22.here hx rfl (hb hby at_115) rfl ((if0 _ _).trans (feq c24).1) ?_
            show Steps p.tables e below (T22.setTop (mkF m 118 #[.val (.int q0), .val (.int q1), .val (.int q2), .val (.ref a1), .val (.int v6), .val (.int v8), .val (.int v10), .val (.ref a13)] [])) _
            refine XS.aload X22.here hx rfl (hb hby at_118) rfl rfl ?_
            show Steps p.tables e below (T22.setTop (mkF m 120 #[.val (.int q0), .val (.int q1), .val (.int q2), .val (.ref a1), .val (.int v6), .val (.int v8), .val (.int v10), .val (.ref a13)] [(.ref a13)])) _
            refine XS.iconst X22.here hx rfl (hb hby at_120) ?_
            show Steps p.tables e below (T22.setTop (mkF m 121 #[.val (.int q0), .val (.int q1), .val (.int q2), .val (.ref a1), .val (.int v6), .val (.int v8), .val (.int v10), .val (.ref a13)] [(.int (3 : Int32)), (.ref a13)])) _
            refine XS.iload X22.here hx rfl (hb hby at_121) rfl ?_
            show Steps p.tables e below (T22.setTop (mkF m 123 #[.val (.int q0), .val (.int q1), .val (.int q2), .val (.ref a1), .val (.int v6), .val (.int v8), .val (.int v10), .val (.ref a13)] [(.int v10), (.int (3 : Int32)), (.ref a13)])) _
            refine st25 _ ?_
            exact k
          by_cases c27 : (own_f2 ((3 : Int32)) v10 ((own_fill ((own_data q0)) v6 (v8).toInt.toNat 0 (List.replicate (v8).toInt.toNat 0)))) = (0 : Int32)
          · obtain ⟨fs, hr, hrun, hended, hW, hsame⟩ := X25.leave (v := some (.int (0 : Int32))) (fun h => by rw [Bd.returns] at h; cases h) hlk
            refine ⟨_, _, pre26 _ ?_, hrun, hended, _, _, rfl, ?_, ⟨_, rfl⟩, hW, hsame.mono (by decide) (by decide)⟩
            · show Steps p.tables e below (T25.setTop (mkF m 126 #[.val (.int q0), .val (.int q1), .val (.int q2), .val (.ref a1), .val (.int v6), .val (.int v8), .val (.int v10), .val (.ref a13)] [(.int (own_f2 ((3 : Int32)) v10 ((own_fill ((own_data q0)) v6 (v8).toInt.toNat 0 (List.replicate (v8).toInt.toNat 0)))))])) _
              refine XS.ifYes X25.here hx rfl (pc0 := 126) (pc' := 275) rfl (hb hby at_126) rfl ((if0 _ _).trans (teq c27).1) (by decide) (by decide) ?_
              show Steps p.tables e below (T25.setTop (mkF m 275 #[.val (.int q0), .val (.int q1), .val (.int q2), .val (.ref a1), .val (.int v6), .val (.int v8), .val (.int v10), .val (.ref a13)] [])) _
              refine XS.iconst X25.here hx rfl (hb hby at_275) ?_
              show Steps p.tables e below (T25.setTop (mkF m 276 #[.val (.int q0), .val (.int q1), .val (.int q2), .val (.ref a1), .val (.int v6), .val (.int v8), .val (.int v10), .val (.ref a13)] [(.int (0 : Int32))])) _
              exact retN X25 hx (t := .boolean) Bd.returns (by simp) (hb hby at_276) hr
            · show Q0 Z q0 q1 q2 h0 n0 _ T25.heap _
              rw [e25]
              exact ⟨by have w_hv10 := hv10.symm; subst w_hv10; have w_hv8 := hv8.symm; subst w_hv8; have w_hv6 := hv6.symm; subst w_hv6; simp only [own_f0, if_pos c15, if_neg c18, if_neg c21, if_neg c24, if_pos c27], N25⟩
          · obtain ⟨_, _, ⟨T28, L28, k28, n28⟩, -, X28, ⟨Lc28, hQ28, l28, y28, z28⟩, st28⟩ := Jvm.LawKit.callS X25 hx (y := (⟨"com/example/cardglyph/cardglyph/image/PackedPointsUnpackBitsPinLaw", "at", "([ZII)Z"⟩ : MethodName)) hown (mvT hZ (hw _ (List.mem_of_getElem? (i := 8) rfl))) (mvT hZ (hw _ (List.mem_of_getElem? (i := 9) rfl))) (mvT hZ (hw _ (List.mem_of_getElem? (i := 10) rfl))) (mvT hZ (hw _ (List.mem_of_getElem? (i := 11) rfl))) (by decide) (backOf (W := 0) (rm2 l Z a0 hw [] a13 (4 : Int32) v10 ((own_fill ((own_data q0)) v6 (v8).toInt.toNat 0 (List.replicate (v8).toInt.toNat 0))) h13 n0 sz13 R13 (by simp only [own_filllen, List.length_replicate]; have := own_c17 (by assumption); omega) (by decide)) hZ (hw _ (List.mem_of_getElem? (i := 11) rfl)) (hw _ (List.mem_of_getElem? (i := 10) rfl)) (by decide) (by decide)) (g := (mkF m 134 #[.val (.int q0), .val (.int q1), .val (.int q2), .val (.ref a1), .val (.int v6), .val (.int v8), .val (.int v10), .val (.ref a13)] [(.int v10), (.int (4 : Int32)), (.ref a13)])) rfl (by rw [hml]; rfl) (argsL := [(.ref a13), (.int (4 : Int32)), (.int v10)]) (rest := []) (lenOf pd_5 rfl) rfl (by show 2 * 0 + _ ≤ _; exact Nat.le_of_eq rfl) (hb hby at_134) (fun _ _ => ⟨rfl, e25, (by decide : 2 + 0 ≤ _), (by decide : 20 + 0 ≤ _)⟩)
            dsimp only [Pt.U, Pt.locs, Pt.cells, Pt.slots] at X28 l28 y28 z28 st28 hQ28
            subst l28 y28 z28
            obtain ⟨rfl, N28q, e28⟩ := hQ28
            have N28 := Fr.app N25 N28q
            have pre29 : ∀ t, Steps p.tables e below (T28.setTop (mkF m 137 #[.val (.int q0), .val (.int q1), .val (.int q2), .val (.ref a1), .val (.int v6), .val (.int v8), .val (.int v10), .val (.ref a13)] [(.int (own_f2 ((4 : Int32)) v10 ((own_fill ((own_data q0)) v6 (v8).toInt.toNat 0 (List.replicate (v8).toInt.toNat 0)))))])) t → Steps p.tables e below (s₁.setTop (entryFrame m #[(.int q0), (.int q1), (.int q2)] maxLocals)) t := by
              intro t k
              refine pre26 t ?_
              show Steps p.tables e below (T25.setTop (mkF m 126 #[.val (.int q0), .val (.int q1), .val (.int q2), .val (.ref a1), .val (.int v6), .val (.int v8), .val (.int v10), .val (.ref a13)] [(.int (own_f2 ((3 : Int32)) v10 ((own_fill ((own_data q0)) v6 (v8).toInt.toNat 0 (List.replicate (v8).toInt.toNat 0)))))])) _
              refine XS.ifNo X25.here hx rfl (hb hby at_126) rfl ((if0 _ _).trans (feq c27).1) ?_
              show Steps p.tables e below (T25.setTop (mkF m 129 #[.val (.int q0), .val (.int q1), .val (.int q2), .val (.ref a1), .val (.int v6), .val (.int v8), .val (.int v10), .val (.ref a13)] [])) _
              refine XS.aload X25.here hx rfl (hb hby at_129) rfl rfl ?_
              show Steps p.tables e below (T25.setTop (mkF m 131 #[.val (.int q0), .val (.int q1), .val (.int q2), .val (.ref a1), .val (.int v6), .val (.int v8), .val (.int v10), .val (.ref a13)] [(.ref a13)])) _
              refine XS.iconst X25.here hx rfl (hb hby at_131) ?_
              show Steps p.tables e below (T25.setTop (mkF m 132 #[.val (.int q0), .val (.int q1), .val (.int q2), .val (.ref a1), .val (.int v6), .val (.int v8), .val (.int v10), .val (.ref a13)] [(.int (4 : Int32)), (.ref a13)])) _
              refine XS.iload X25.here hx rfl (hb hby at_132) rfl ?_
              show Steps p.tables e below (T25.setTop (mkF m 134 #[.val (.int q0), .val (.int q1), .val (.int q2), .val (.ref a1), .val (.int v6), .val (.int v8), .val (.int v10), .val (.ref a13)] [(.int v10), (.int (4 : Int32)), (.ref a13)])) _
              refine st28 _ ?_
              exact k
            by_cases c30 : (own_f2 ((4 : Int32)) v10 ((own_fill ((own_data q0)) v6 (v8).toInt.toNat 0 (List.replicate (v8).toInt.toNat 0)))) = (0 : Int32)
            · obtain ⟨fs, hr, hrun, hended, hW, hsame⟩ := X28.leave (v := some (.int (0 : Int32))) (fun h => by rw [Bd.returns] at h; cases h) hlk
              refine ⟨_, _, pre29 _ ?_, hrun, hended, _, _, rfl, ?_, ⟨_, rfl⟩, hW, hsame.mono (by decide) (by decide)⟩
              · show Steps p.tables e below (T28.setTop (mkF m 137 #[.val (.int q0), .val (.int q1), .val (.int q2), .val (.ref a1), .val (.int v6), .val (.int v8), .val (.int v10), .val (.ref a13)] [(.int (own_f2 ((4 : Int32)) v10 ((own_fill ((own_data q0)) v6 (v8).toInt.toNat 0 (List.replicate (v8).toInt.toNat 0)))))])) _
                refine XS.ifYes X28.here hx rfl (pc0 := 137) (pc' := 275) rfl (hb hby at_137) rfl ((if0 _ _).trans (teq c30).1) (by decide) (by decide) ?_
                show Steps p.tables e below (T28.setTop (mkF m 275 #[.val (.int q0), .val (.int q1), .val (.int q2), .val (.ref a1), .val (.int v6), .val (.int v8), .val (.int v10), .val (.ref a13)] [])) _
                refine XS.iconst X28.here hx rfl (hb hby at_275) ?_
                show Steps p.tables e below (T28.setTop (mkF m 276 #[.val (.int q0), .val (.int q1), .val (.int q2), .val (.ref a1), .val (.int v6), .val (.int v8), .val (.int v10), .val (.ref a13)] [(.int (0 : Int32))])) _
                exact retN X28 hx (t := .boolean) Bd.returns (by simp) (hb hby at_276) hr
              · show Q0 Z q0 q1 q2 h0 n0 _ T28.heap _
                rw [e28]
                exact ⟨by have w_hv10 := hv10.symm; subst w_hv10; have w_hv8 := hv8.symm; subst w_hv8; have w_hv6 := hv6.symm; subst w_hv6; simp only [own_f0, if_pos c15, if_neg c18, if_neg c21, if_neg c24, if_neg c27, if_pos c30], N28⟩
            · obtain ⟨_, _, ⟨T31, L31, k31, n31⟩, -, X31, ⟨Lc31, hQ31, l31, y31, z31⟩, st31⟩ := Jvm.LawKit.callS X28 hx (y := (⟨"com/example/cardglyph/cardglyph/image/PackedPointsUnpackBitsPinLaw", "at", "([ZII)Z"⟩ : MethodName)) hown (mvT hZ (hw _ (List.mem_of_getElem? (i := 8) rfl))) (mvT hZ (hw _ (List.mem_of_getElem? (i := 9) rfl))) (mvT hZ (hw _ (List.mem_of_getElem? (i := 10) rfl))) (mvT hZ (hw _ (List.mem_of_getElem? (i := 11) rfl))) (by decide) (backOf (W := 0) (rm2 l Z a0 hw [] a13 (5 : Int32) v10 ((own_fill ((own_data q0)) v6 (v8).toInt.toNat 0 (List.replicate (v8).toInt.toNat 0))) h13 n0 sz13 R13 (by simp only [own_filllen, List.length_replicate]; have := own_c17 (by assumption); omega) (by decide)) hZ (hw _ (List.mem_of_getElem? (i := 11) rfl)) (hw _ (List.mem_of_getElem? (i := 10) rfl)) (by decide) (by decide)) (g := (mkF m 145 #[.val (.int q0), .val (.int q1), .val (.int q2), .val (.ref a1), .val (.int v6), .val (.int v8), .val (.int v10), .val (.ref a13)] [(.int v10), (.int (5 : Int32)), (.ref a13)])) rfl (by rw [hml]; rfl) (argsL := [(.ref a13), (.int (5 : Int32)), (.int v10)]) (rest := []) (lenOf pd_5 rfl) rfl (by show 2 * 0 + _ ≤ _; exact Nat.le_of_eq rfl) (hb hby at_145) (fun _ _ => ⟨rfl, e28, (by decide : 2 + 0 ≤ _), (by decide : 20 + 0 ≤ _)⟩)
              dsimp only [Pt.U, Pt.locs, Pt.cells, Pt.slots] at X31 l31 y31 z31 st31 hQ31
              subst l31 y31 z31
              obtain ⟨rfl, N31q, e31⟩ := hQ31
              have N31 := Fr.app N28 N31q
              have pre32 : ∀ t, Steps p.tables e below (T31.setTop (mkF m 148 #[.val (.int q0), .val (.int q1), .val (.int q2), .val (.ref a1), .val (.int v6), .val (.int v8), .val (.int v10), .val (.ref a13)] [(.int (own_f2 ((5 : Int32)) v10 ((own_fill ((own_data q0)) v6 (v8).toInt.toNat 0 (List.replicate (v8).toInt.toNat 0)))))])) t → Steps p.tables e below (s₁.setTop (entryFrame m #[(.int q0), (.int q1), (.int q2)] maxLocals)) t := by
                intro t k
                refine pre29 t ?_
                show Steps p.tables e below (T28.setTop (mkF m 137 #[.val (.int q0), .val (.int q1), .val (.int q2), .val (.ref a1), .val (.int v6), .val (.int v8), .val (.int v10), .val (.ref a13)] [(.int (own_f2 ((4 : Int32)) v10 ((own_fill ((own_data q0)) v6 (v8).toInt.toNat 0 (List.replicate (v8).toInt.toNat 0)))))])) _
                refine XS.ifNo X28.here hx rfl (hb hby at_137) rfl ((if0 _ _).trans (feq c30).1) ?_
                show Steps p.tables e below (T28.setTop (mkF m 140 #[.val (.int q0), .val (.int q1), .val (.int q2), .val (.ref a1), .val (.int v6), .val (.int v8), .val (.int v10), .val (.ref a13)] [])) _
                refine XS.aload X28.here hx rfl (hb hby at_140) rfl rfl ?_
                show Steps p.tables e below (T28.setTop (mkF m 142 #[.val (.int q0), .val (.int q1), .val (.int q2), .val (.ref a1), .val (.int v6), .val (.int v8), .val (.int v10), .val (.ref a13)] [(.ref a13)])) _
                refine XS.iconst X28.here hx rfl (hb hby at_142) ?_
                show Steps p.tables e below (T28.setTop (mkF m 143 #[.val (.int q0), .val (.int q1), .val (.int q2), .val (.ref a1), .val (.int v6), .val (.int v8), .val (.int v10), .val (.ref a13)] [(.int (5 : Int32)), (.ref a13)])) _
                refine XS.iload X28.here hx rfl (hb hby at_143) rfl ?_
                show Steps p.tables e below (T28.setTop (mkF m 145 #[.val (.int q0), .val (.int q1), .val (.int q2), .val (.ref a1), .val (.int v6), .val (.int v8), .val (.int v10), .val (.ref a13)] [(.int v10), (.int (5 : Int32)), (.ref a13)])) _
                refine st31 _ ?_
                exact k
              by_cases c33 : (own_f2 ((5 : Int32)) v10 ((own_fill ((own_data q0)) v6 (v8).toInt.toNat 0 (List.replicate (v8).toInt.toNat 0)))) = (0 : Int32)
              · obtain ⟨fs, hr, hrun, hended, hW, hsame⟩ := X31.leave (v := some (.int (0 : Int32))) (fun h => by rw [Bd.returns] at h; cases h) hlk
                refine ⟨_, _, pre32 _ ?_, hrun, hended, _, _, rfl, ?_, ⟨_, rfl⟩, hW, hsame.mono (by decide) (by decide)⟩
                · show Steps p.tables e below (T31.setTop (mkF m 148 #[.val (.int q0), .val (.int q1), .val (.int q2), .val (.ref a1), .val (.int v6), .val (.int v8), .val (.int v10), .val (.ref a13)] [(.int (own_f2 ((5 : Int32)) v10 ((own_fill ((own_data q0)) v6 (v8).toInt.toNat 0 (List.replicate (v8).toInt.toNat 0)))))])) _
                  refine XS.ifYes X31.here hx rfl (pc0 := 148) (pc' := 275) rfl (hb hby at_148) rfl ((if0 _ _).trans (teq c33).1) (by decide) (by decide) ?_
                  show Steps p.tables e below (T31.setTop (mkF m 275 #[.val (.int q0), .val (.int q1), .val (.int q2), .val (.ref a1), .val (.int v6), .val (.int v8), .val (.int v10), .val (.ref a13)] [])) _
                  refine XS.iconst X31.here hx rfl (hb hby at_275) ?_
                  show Steps p.tables e below (T31.setTop (mkF m 276 #[.val (.int q0), .val (.int q1), .val (.int q2), .val (.ref a1), .val (.int v6), .val (.int v8), .val (.int v10), .val (.ref a13)] [(.int (0 : Int32))])) _
                  exact retN X31 hx (t := .boolean) Bd.returns (by simp) (hb hby at_276) hr
                · show Q0 Z q0 q1 q2 h0 n0 _ T31.heap _
                  rw [e31]
                  exact ⟨by have w_hv10 := hv10.symm; subst w_hv10; have w_hv8 := hv8.symm; subst w_hv8; have w_hv6 := hv6.symm; subst w_hv6; simp only [own_f0, if_pos c15, if_neg c18, if_neg c21, if_neg c24, if_neg c27, if_neg c30, if_pos c33], N31⟩
              · obtain ⟨_, _, ⟨T34, L34, k34, n34⟩, -, X34, ⟨Lc34, hQ34, l34, y34, z34⟩, st34⟩ := Jvm.LawKit.callS X31 hx (y := (⟨"com/example/cardglyph/cardglyph/image/PackedPointsUnpackBitsPinLaw", "at", "([ZII)Z"⟩ : MethodName)) hown (mvT hZ (hw _ (List.mem_of_getElem? (i := 8) rfl))) (mvT hZ (hw _ (List.mem_of_getElem? (i := 9) rfl))) (mvT hZ (hw _ (List.mem_of_getElem? (i := 10) rfl))) (mvT hZ (hw _ (List.mem_of_getElem? (i := 11) rfl))) (by decide) (backOf (W := 0) (rm2 l Z a0 hw [] a13 (6 : Int32) v10 ((own_fill ((own_data q0)) v6 (v8).toInt.toNat 0 (List.replicate (v8).toInt.toNat 0))) h13 n0 sz13 R13 (by simp only [own_filllen, List.length_replicate]; have := own_c17 (by assumption); omega) (by decide)) hZ (hw _ (List.mem_of_getElem? (i := 11) rfl)) (hw _ (List.mem_of_getElem? (i := 10) rfl)) (by decide) (by decide)) (g := (mkF m 157 #[.val (.int q0), .val (.int q1), .val (.int q2), .val (.ref a1), .val (.int v6), .val (.int v8), .val (.int v10), .val (.ref a13)] [(.int v10), (.int (6 : Int32)), (.ref a13)])) rfl (by rw [hml]; rfl) (argsL := [(.ref a13), (.int (6 : Int32)), (.int v10)]) (rest := []) (lenOf pd_5 rfl) rfl (by show 2 * 0 + _ ≤ _; exact Nat.le_of_eq rfl) (hb hby at_157) (fun _ _ => ⟨rfl, e31, (by decide : 2 + 0 ≤ _), (by decide : 20 + 0 ≤ _)⟩)
                dsimp only [Pt.U, Pt.locs, Pt.cells, Pt.slots] at X34 l34 y34 z34 st34 hQ34
                subst l34 y34 z34
                obtain ⟨rfl, N34q, e34⟩ := hQ34
                have N34 := Fr.app N31 N34q
                have pre35 : ∀ t, Steps p.tables e below (T34.setTop (mkF m 160 #[.val (.int q0), .val (.int q1), .val (.int q2), .val (.ref a1), .val (.int v6), .val (.int v8), .val (.int v10), .val (.ref a13)] [(.int (own_f2 ((6 : Int32)) v10 ((own_fill ((own_data q0)) v6 (v8).toInt.toNat 0 (List.replicate (v8).toInt.toNat 0)))))])) t → Steps p.tables e below (s₁.setTop (entryFrame m #[(.int q0), (.int q1), (.int q2)] maxLocals)) t := by
                  intro t k
                  refine pre32 t ?_
                  show Steps p.tables e below (T31.setTop (mkF m 148 #[.val (.int q0), .val (.int q1), .val (.int q2), .val (.ref a1), .val (.int v6), .val (.int v8), .val (.int v10), .val (.ref a13)] [(.int (own_f2 ((5 : Int32)) v10 ((own_fill ((own_data q0)) v6 (v8).toInt.toNat 0 (List.replicate (v8).toInt.toNat 0)))))])) _
                  refine XS.ifNo X31.here hx rfl (hb hby at_148) rfl ((if0 _ _).trans (feq c33).1) ?_
                  show Steps p.tables e below (T31.setTop (mkF m 151 #[.val (.int q0), .val (.int q1), .val (.int q2), .val (.ref a1), .val (.int v6), .val (.int v8), .val (.int v10), .val (.ref a13)] [])) _
                  refine XS.aload X31.here hx rfl (hb hby at_151) rfl rfl ?_
                  show Steps p.tables e below (T31.setTop (mkF m 153 #[.val (.int q0), .val (.int q1), .val (.int q2), .val (.ref a1), .val (.int v6), .val (.int v8), .val (.int v10), .val (.ref a13)] [(.ref a13)])) _
                  refine XS.bipush X31.here hx rfl (hb hby at_153) ?_
                  show Steps p.tables e below (T31.setTop (mkF m 155 #[.val (.int q0), .val (.int q1), .val (.int q2), .val (.ref a1), .val (.int v6), .val (.int v8), .val (.int v10), .val (.ref a13)] [(.int (6 : Int32)), (.ref a13)])) _
                  refine XS.iload X31.here hx rfl (hb hby at_155) rfl ?_
                  show Steps p.tables e below (T31.setTop (mkF m 157 #[.val (.int q0), .val (.int q1), .val (.int q2), .val (.ref a1), .val (.int v6), .val (.int v8), .val (.int v10), .val (.ref a13)] [(.int v10), (.int (6 : Int32)), (.ref a13)])) _
                  refine st34 _ ?_
                  exact k
                by_cases c36 : (own_f2 ((6 : Int32)) v10 ((own_fill ((own_data q0)) v6 (v8).toInt.toNat 0 (List.replicate (v8).toInt.toNat 0)))) = (0 : Int32)
                · obtain ⟨fs, hr, hrun, hended, hW, hsame⟩ := X34.leave (v := some (.int (0 : Int32))) (fun h => by rw [Bd.returns] at h; cases h) hlk
                  refine ⟨_, _, pre35 _ ?_, hrun, hended, _, _, rfl, ?_, ⟨_, rfl⟩, hW, hsame.mono (by decide) (by decide)⟩
                  · show Steps p.tables e below (T34.setTop (mkF m 160 #[.val (.int q0), .val (.int q1), .val (.int q2), .val (.ref a1), .val (.int v6), .val (.int v8), .val (.int v10), .val (.ref a13)] [(.int (own_f2 ((6 : Int32)) v10 ((own_fill ((own_data q0)) v6 (v8).toInt.toNat 0 (List.replicate (v8).toInt.toNat 0)))))])) _
                    refine XS.ifYes X34.here hx rfl (pc0 := 160) (pc' := 275) rfl (hb hby at_160) rfl ((if0 _ _).trans (teq c36).1) (by decide) (by decide) ?_
                    show Steps p.tables e below (T34.setTop (mkF m 275 #[.val (.int q0), .val (.int q1), .val (.int q2), .val (.ref a1), .val (.int v6), .val (.int v8), .val (.int v10), .val (.ref a13)] [])) _
                    refine XS.iconst X34.here hx rfl (hb hby at_275) ?_
                    show Steps p.tables e below (T34.setTop (mkF m 276 #[.val (.int q0), .val (.int q1), .val (.int q2), .val (.ref a1), .val (.int v6), .val (.int v8), .val (.int v10), .val (.ref a13)] [(.int (0 : Int32))])) _
                    exact retN X34 hx (t := .boolean) Bd.returns (by simp) (hb hby at_276) hr
                  · show Q0 Z q0 q1 q2 h0 n0 _ T34.heap _
                    rw [e34]
                    exact ⟨by have w_hv10 := hv10.symm; subst w_hv10; have w_hv8 := hv8.symm; subst w_hv8; have w_hv6 := hv6.symm; subst w_hv6; simp only [own_f0, if_pos c15, if_neg c18, if_neg c21, if_neg c24, if_neg c27, if_neg c30, if_neg c33, if_pos c36], N34⟩
                · obtain ⟨_, _, ⟨T37, L37, k37, n37⟩, -, X37, ⟨Lc37, hQ37, l37, y37, z37⟩, st37⟩ := Jvm.LawKit.callS X34 hx (y := (⟨"com/example/cardglyph/cardglyph/image/PackedPointsUnpackBitsPinLaw", "at", "([ZII)Z"⟩ : MethodName)) hown (mvT hZ (hw _ (List.mem_of_getElem? (i := 8) rfl))) (mvT hZ (hw _ (List.mem_of_getElem? (i := 9) rfl))) (mvT hZ (hw _ (List.mem_of_getElem? (i := 10) rfl))) (mvT hZ (hw _ (List.mem_of_getElem? (i := 11) rfl))) (by decide) (backOf (W := 0) (rm2 l Z a0 hw [] a13 (7 : Int32) v10 ((own_fill ((own_data q0)) v6 (v8).toInt.toNat 0 (List.replicate (v8).toInt.toNat 0))) h13 n0 sz13 R13 (by simp only [own_filllen, List.length_replicate]; have := own_c17 (by assumption); omega) (by decide)) hZ (hw _ (List.mem_of_getElem? (i := 11) rfl)) (hw _ (List.mem_of_getElem? (i := 10) rfl)) (by decide) (by decide)) (g := (mkF m 169 #[.val (.int q0), .val (.int q1), .val (.int q2), .val (.ref a1), .val (.int v6), .val (.int v8), .val (.int v10), .val (.ref a13)] [(.int v10), (.int (7 : Int32)), (.ref a13)])) rfl (by rw [hml]; rfl) (argsL := [(.ref a13), (.int (7 : Int32)), (.int v10)]) (rest := []) (lenOf pd_5 rfl) rfl (by show 2 * 0 + _ ≤ _; exact Nat.le_of_eq rfl) (hb hby at_169) (fun _ _ => ⟨rfl, e34, (by decide : 2 + 0 ≤ _), (by decide : 20 + 0 ≤ _)⟩)
                  dsimp only [Pt.U, Pt.locs, Pt.cells, Pt.slots] at X37 l37 y37 z37 st37 hQ37
                  subst l37 y37 z37
                  obtain ⟨rfl, N37q, e37⟩ := hQ37
                  have N37 := Fr.app N34 N37q
                  have pre38 : ∀ t, Steps p.tables e below (T37.setTop (mkF m 172 #[.val (.int q0), .val (.int q1), .val (.int q2), .val (.ref a1), .val (.int v6), .val (.int v8), .val (.int v10), .val (.ref a13)] [(.int (own_f2 ((7 : Int32)) v10 ((own_fill ((own_data q0)) v6 (v8).toInt.toNat 0 (List.replicate (v8).toInt.toNat 0)))))])) t → Steps p.tables e below (s₁.setTop (entryFrame m #[(.int q0), (.int q1), (.int q2)] maxLocals)) t := by
                    intro t k
                    refine pre35 t ?_
                    show Steps p.tables e below (T34.setTop (mkF m 160 #[.val (.int q0), .val (.int q1), .val (.int q2), .val (.ref a1), .val (.int v6), .val (.int v8), .val (.int v10), .val (.ref a13)] [(.int (own_f2 ((6 : Int32)) v10 ((own_fill ((own_data q0)) v6 (v8).toInt.toNat 0 (List.replicate (v8).toInt.toNat 0)))))])) _
                    refine XS.ifNo X34.here hx rfl (hb hby at_160) rfl ((if0 _ _).trans (feq c36).1) ?_
                    show Steps p.tables e below (T34.setTop (mkF m 163 #[.val (.int q0), .val (.int q1), .val (.int q2), .val (.ref a1), .val (.int v6), .val (.int v8), .val (.int v10), .val (.ref a13)] [])) _
                    refine XS.aload X34.here hx rfl (hb hby at_163) rfl rfl ?_
                    show Steps p.tables e below (T34.setTop (mkF m 165 #[.val (.int q0), .val (.int q1), .val (.int q2), .val (.ref a1), .val (.int v6), .val (.int v8), .val (.int v10), .val (.ref a13)] [(.ref a13)])) _
                    refine XS.bipush X34.here hx rfl (hb hby at_165) ?_
                    show Steps p.tables e below (T34.setTop (mkF m 167 #[.val (.int q0), .val (.int q1), .val (.int q2), .val (.ref a1), .val (.int v6), .val (.int v8), .val (.int v10), .val (.ref a13)] [(.int (7 : Int32)), (.ref a13)])) _
                    refine XS.iload X34.here hx rfl (hb hby at_167) rfl ?_
                    show Steps p.tables e below (T34.setTop (mkF m 169 #[.val (.int q0), .val (.int q1), .val (.int q2), .val (.ref a1), .val (.int v6), .val (.int v8), .val (.int v10), .val (.ref a13)] [(.int v10), (.int (7 : Int32)), (.ref a13)])) _
                    refine st37 _ ?_
                    exact k
                  by_cases c39 : (own_f2 ((7 : Int32)) v10 ((own_fill ((own_data q0)) v6 (v8).toInt.toNat 0 (List.replicate (v8).toInt.toNat 0)))) = (0 : Int32)
                  · obtain ⟨fs, hr, hrun, hended, hW, hsame⟩ := X37.leave (v := some (.int (0 : Int32))) (fun h => by rw [Bd.returns] at h; cases h) hlk
                    refine ⟨_, _, pre38 _ ?_, hrun, hended, _, _, rfl, ?_, ⟨_, rfl⟩, hW, hsame.mono (by decide) (by decide)⟩
                    · show Steps p.tables e below (T37.setTop (mkF m 172 #[.val (.int q0), .val (.int q1), .val (.int q2), .val (.ref a1), .val (.int v6), .val (.int v8), .val (.int v10), .val (.ref a13)] [(.int (own_f2 ((7 : Int32)) v10 ((own_fill ((own_data q0)) v6 (v8).toInt.toNat 0 (List.replicate (v8).toInt.toNat 0)))))])) _
                      refine XS.ifYes X37.here hx rfl (pc0 := 172) (pc' := 275) rfl (hb hby at_172) rfl ((if0 _ _).trans (teq c39).1) (by decide) (by decide) ?_
                      show Steps p.tables e below (T37.setTop (mkF m 275 #[.val (.int q0), .val (.int q1), .val (.int q2), .val (.ref a1), .val (.int v6), .val (.int v8), .val (.int v10), .val (.ref a13)] [])) _
                      refine XS.iconst X37.here hx rfl (hb hby at_275) ?_
                      show Steps p.tables e below (T37.setTop (mkF m 276 #[.val (.int q0), .val (.int q1), .val (.int q2), .val (.ref a1), .val (.int v6), .val (.int v8), .val (.int v10), .val (.ref a13)] [(.int (0 : Int32))])) _
                      exact retN X37 hx (t := .boolean) Bd.returns (by simp) (hb hby at_276) hr
                    · show Q0 Z q0 q1 q2 h0 n0 _ T37.heap _
                      rw [e37]
                      exact ⟨by have w_hv10 := hv10.symm; subst w_hv10; have w_hv8 := hv8.symm; subst w_hv8; have w_hv6 := hv6.symm; subst w_hv6; simp only [own_f0, if_pos c15, if_neg c18, if_neg c21, if_neg c24, if_neg c27, if_neg c30, if_neg c33, if_neg c36, if_pos c39], N37⟩
                  · obtain ⟨_, _, ⟨T40, L40, k40, n40⟩, -, X40, ⟨Lc40, hQ40, l40, y40, z40⟩, st40⟩ := Jvm.LawKit.callS X37 hx (y := (⟨"com/example/cardglyph/cardglyph/image/PackedPointsUnpackBitsPinLaw", "at", "([ZII)Z"⟩ : MethodName)) hown (mvT hZ (hw _ (List.mem_of_getElem? (i := 8) rfl))) (mvT hZ (hw _ (List.mem_of_getElem? (i := 9) rfl))) (mvT hZ (hw _ (List.mem_of_getElem? (i := 10) rfl))) (mvT hZ (hw _ (List.mem_of_getElem? (i := 11) rfl))) (by decide) (backOf (W := 0) (rm2 l Z a0 hw [] a13 (8 : Int32) v10 ((own_fill ((own_data q0)) v6 (v8).toInt.toNat 0 (List.replicate (v8).toInt.toNat 0))) h13 n0 sz13 R13 (by simp only [own_filllen, List.length_replicate]; have := own_c17 (by assumption); omega) (by decide)) hZ (hw _ (List.mem_of_getElem? (i := 11) rfl)) (hw _ (List.mem_of_getElem? (i := 10) rfl)) (by decide) (by decide)) (g := (mkF m 181 #[.val (.int q0), .val (.int q1), .val (.int q2), .val (.ref a1), .val (.int v6), .val (.int v8), .val (.int v10), .val (.ref a13)] [(.int v10), (.int (8 : Int32)), (.ref a13)])) rfl (by rw [hml]; rfl) (argsL := [(.ref a13), (.int (8 : Int32)), (.int v10)]) (rest := []) (lenOf pd_5 rfl) rfl (by show 2 * 0 + _ ≤ _; exact Nat.le_of_eq rfl) (hb hby at_181) (fun _ _ => ⟨rfl, e37, (by decide : 2 + 0 ≤ _), (by decide : 20 + 0 ≤ _)⟩)
                    dsimp only [Pt.U, Pt.locs, Pt.cells, Pt.slots] at X40 l40 y40 z40 st40 hQ40
                    subst l40 y40 z40
                    obtain ⟨rfl, N40q, e40⟩ := hQ40
                    have N40 := Fr.app N37 N40q
                    have pre41 : ∀ t, Steps p.tables e below (T40.setTop (mkF m 184 #[.val (.int q0), .val (.int q1), .val (.int q2), .val (.ref a1), .val (.int v6), .val (.int v8), .val (.int v10), .val (.ref a13)] [(.int (own_f2 ((8 : Int32)) v10 ((own_fill ((own_data q0)) v6 (v8).toInt.toNat 0 (List.replicate (v8).toInt.toNat 0)))))])) t → Steps p.tables e below (s₁.setTop (entryFrame m #[(.int q0), (.int q1), (.int q2)] maxLocals)) t := by
                      intro t k
                      refine pre38 t ?_
                      show Steps p.tables e below (T37.setTop (mkF m 172 #[.val (.int q0), .val (.int q1), .val (.int q2), .val (.ref a1), .val (.int v6), .val (.int v8), .val (.int v10), .val (.ref a13)] [(.int (own_f2 ((7 : Int32)) v10 ((own_fill ((own_data q0)) v6 (v8).toInt.toNat 0 (List.replicate (v8).toInt.toNat 0)))))])) _
                      refine XS.ifNo X37.here hx rfl (hb hby at_172) rfl ((if0 _ _).trans (feq c39).1) ?_
                      show Steps p.tables e below (T37.setTop (mkF m 175 #[.val (.int q0), .val (.int q1), .val (.int q2), .val (.ref a1), .val (.int v6), .val (.int v8), .val (.int v10), .val (.ref a13)] [])) _
                      refine XS.aload X37.here hx rfl (hb hby at_175) rfl rfl ?_
                      show Steps p.tables e below (T37.setTop (mkF m 177 #[.val (.int q0), .val (.int q1), .val (.int q2), .val (.ref a1), .val (.int v6), .val (.int v8), .val (.int v10), .val (.ref a13)] [(.ref a13)])) _
                      refine XS.bipush X37.here hx rfl (hb hby at_177) ?_
                      show Steps p.tables e below (T37.setTop (mkF m 179 #[.val (.int q0), .val (.int q1), .val (.int q2), .val (.ref a1), .val (.int v6), .val (.int v8), .val (.int v10), .val (.ref a13)] [(.int (8 : Int32)), (.ref a13)])) _
                      refine XS.iload X37.here hx rfl (hb hby at_179) rfl ?_
                      show Steps p.tables e below (T37.setTop (mkF m 181 #[.val (.int q0), .val (.int q1), .val (.int q2), .val (.ref a1), .val (.int v6), .val (.int v8), .val (.int v10), .val (.ref a13)] [(.int v10), (.int (8 : Int32)), (.ref a13)])) _
                      refine st40 _ ?_
                      exact k
                    by_cases c42 : (own_f2 ((8 : Int32)) v10 ((own_fill ((own_data q0)) v6 (v8).toInt.toNat 0 (List.replicate (v8).toInt.toNat 0)))) = (0 : Int32)
                    · obtain ⟨fs, hr, hrun, hended, hW, hsame⟩ := X40.leave (v := some (.int (0 : Int32))) (fun h => by rw [Bd.returns] at h; cases h) hlk
                      refine ⟨_, _, pre41 _ ?_, hrun, hended, _, _, rfl, ?_, ⟨_, rfl⟩, hW, hsame.mono (by decide) (by decide)⟩
                      · show Steps p.tables e below (T40.setTop (mkF m 184 #[.val (.int q0), .val (.int q1), .val (.int q2), .val (.ref a1), .val (.int v6), .val (.int v8), .val (.int v10), .val (.ref a13)] [(.int (own_f2 ((8 : Int32)) v10 ((own_fill ((own_data q0)) v6 (v8).toInt.toNat 0 (List.replicate (v8).toInt.toNat 0)))))])) _
                        refine XS.ifYes X40.here hx rfl (pc0 := 184) (pc' := 275) rfl (hb hby at_184) rfl ((if0 _ _).trans (teq c42).1) (by decide) (by decide) ?_
                        show Steps p.tables e below (T40.setTop (mkF m 275 #[.val (.int q0), .val (.int q1), .val (.int q2), .val (.ref a1), .val (.int v6), .val (.int v8), .val (.int v10), .val (.ref a13)] [])) _
                        refine XS.iconst X40.here hx rfl (hb hby at_275) ?_
                        show Steps p.tables e below (T40.setTop (mkF m 276 #[.val (.int q0), .val (.int q1), .val (.int q2), .val (.ref a1), .val (.int v6), .val (.int v8), .val (.int v10), .val (.ref a13)] [(.int (0 : Int32))])) _
                        exact retN X40 hx (t := .boolean) Bd.returns (by simp) (hb hby at_276) hr
                      · show Q0 Z q0 q1 q2 h0 n0 _ T40.heap _
                        rw [e40]
                        exact ⟨by have w_hv10 := hv10.symm; subst w_hv10; have w_hv8 := hv8.symm; subst w_hv8; have w_hv6 := hv6.symm; subst w_hv6; simp only [own_f0, if_pos c15, if_neg c18, if_neg c21, if_neg c24, if_neg c27, if_neg c30, if_neg c33, if_neg c36, if_neg c39, if_pos c42], N40⟩
                    · obtain ⟨_, _, ⟨T43, L43, k43, n43⟩, -, X43, ⟨Lc43, hQ43, l43, y43, z43⟩, st43⟩ := Jvm.LawKit.callS X40 hx (y := (⟨"com/example/cardglyph/cardglyph/image/PackedPointsUnpackBitsPinLaw", "at", "([ZII)Z"⟩ : MethodName)) hown (mvT hZ (hw _ (List.mem_of_getElem? (i := 8) rfl))) (mvT hZ (hw _ (List.mem_of_getElem? (i := 9) rfl))) (mvT hZ (hw _ (List.mem_of_getElem? (i := 10) rfl))) (mvT hZ (hw _ (List.mem_of_getElem? (i := 11) rfl))) (by decide) (backOf (W := 0) (rm2 l Z a0 hw [] a13 (9 : Int32) v10 ((own_fill ((own_data q0)) v6 (v8).toInt.toNat 0 (List.replicate (v8).toInt.toNat 0))) h13 n0 sz13 R13 (by simp only [own_filllen, List.length_replicate]; have := own_c17 (by assumption); omega) (by decide)) hZ (hw _ (List.mem_of_getElem? (i := 11) rfl)) (hw _ (List.mem_of_getElem? (i := 10) rfl)) (by decide) (by decide)) (g := (mkF m 193 #[.val (.int q0), .val (.int q1), .val (.int q2), .val (.ref a1), .val (.int v6), .val (.int v8), .val (.int v10), .val (.ref a13)] [(.int v10), (.int (9 : Int32)), (.ref a13)])) rfl (by rw [hml]; rfl) (argsL := [(.ref a13), (.int (9 : Int32)), (.int v10)]) (rest := []) (lenOf pd_5 rfl) rfl (by show 2 * 0 + _ ≤ _; exact Nat.le_of_eq rfl) (hb hby at_193) (fun _ _ => ⟨rfl, e40, (by decide : 2 + 0 ≤ _), (by decide : 20 + 0 ≤ _)⟩)
                      dsimp only [Pt.U, Pt.locs, Pt.cells, Pt.slots] at X43 l43 y43 z43 st43 hQ43
                      subst l43 y43 z43
                      obtain ⟨rfl, N43q, e43⟩ := hQ43
                      have N43 := Fr.app N40 N43q
                      have pre44 : ∀ t, Steps p.tables e below (T43.setTop (mkF m 196 #[.val (.int q0), .val (.int q1), .val (.int q2), .val (.ref a1), .val (.int v6), .val (.int v8), .val (.int v10), .val (.ref a13)] [(.int (own_f2 ((9 : Int32)) v10 ((own_fill ((own_data q0)) v6 (v8).toInt.toNat 0 (List.replicate (v8).toInt.toNat 0)))))])) t → Steps p.tables e below (s₁.setTop (entryFrame m #[(.int q0), (.int q1), (.int q2)] maxLocals)) t := by
                        intro t k
                        refine pre41 t ?_
                        show Steps p.tables e below (T40.setTop (mkF m 184 #[.val (.int q0), .val (.int q1), .val (.int q2), .val (.ref a1), .val (.int v6), .val (.int v8), .val (.int v10), .val (.ref a13)] [(.int (own_f2 ((8 : Int32)) v10 ((own_fill ((own_data q0)) v6 (v8).toInt.toNat 0 (List.replicate (v8).toInt.toNat 0)))))])) _
                        refine XS.ifNo X40.here hx rfl (hb hby at_184) rfl ((if0 _ _).trans (feq c42).1) ?_
                        show Steps p.tables e below (T40.setTop (mkF m 187 #[.val (.int q0), .val (.int q1), .val (.int q2), .val (.ref a1), .val (.int v6), .val (.int v8), .val (.int v10), .val (.ref a13)] [])) _
                        refine XS.aload X40.here hx rfl (hb hby at_187) rfl rfl ?_
                        show Steps p.tables e below (T40.setTop (mkF m 189 #[.val (.int q0), .val (.int q1), .val (.int q2), .val (.ref a1), .val (.int v6), .val (.int v8), .val (.int v10), .val (.ref a13)] [(.ref a13)])) _
                        refine XS.bipush X40.here hx rfl (hb hby at_189) ?_
                        show Steps p.tables e below (T40.setTop (mkF m 191 #[.val (.int q0), .val (.int q1), .val (.int q2), .val (.ref a1), .val (.int v6), .val (.int v8), .val (.int v10), .val (.ref a13)] [(.int (9 : Int32)), (.ref a13)])) _
                        refine XS.iload X40.here hx rfl (hb hby at_191) rfl ?_
                        show Steps p.tables e below (T40.setTop (mkF m 193 #[.val (.int q0), .val (.int q1), .val (.int q2), .val (.ref a1), .val (.int v6), .val (.int v8), .val (.int v10), .val (.ref a13)] [(.int v10), (.int (9 : Int32)), (.ref a13)])) _
                        refine st43 _ ?_
                        exact k
                      by_cases c45 : (own_f2 ((9 : Int32)) v10 ((own_fill ((own_data q0)) v6 (v8).toInt.toNat 0 (List.replicate (v8).toInt.toNat 0)))) = (0 : Int32)
                      · obtain ⟨fs, hr, hrun, hended, hW, hsame⟩ := X43.leave (v := some (.int (0 : Int32))) (fun h => by rw [Bd.returns] at h; cases h) hlk
                        refine ⟨_, _, pre44 _ ?_, hrun, hended, _, _, rfl, ?_, ⟨_, rfl⟩, hW, hsame.mono (by decide) (by decide)⟩
                        · show Steps p.tables e below (T43.setTop (mkF m 196 #[.val (.int q0), .val (.int q1), .val (.int q2), .val (.ref a1), .val (.int v6), .val (.int v8), .val (.int v10), .val (.ref a13)] [(.int (own_f2 ((9 : Int32)) v10 ((own_fill ((own_data q0)) v6 (v8).toInt.toNat 0 (List.replicate (v8).toInt.toNat 0)))))])) _
                          refine XS.ifYes X43.here hx rfl (pc0 := 196) (pc' := 275) rfl (hb hby at_196) rfl ((if0 _ _).trans (teq c45).1) (by decide) (by decide) ?_
                          show Steps p.tables e below (T43.setTop (mkF m 275 #[.val (.int q0), .val (.int q1), .val (.int q2), .val (.ref a1), .val (.int v6), .val (.int v8), .val (.int v10), .val (.ref a13)] [])) _
                          refine XS.iconst X43.here hx rfl (hb hby at_275) ?_
                          show Steps p.tables e below (T43.setTop (mkF m 276 #[.val (.int q0), .val (.int q1), .val (.int q2), .val (.ref a1), .val (.int v6), .val (.int v8), .val (.int v10), .val (.ref a13)] [(.int (0 : Int32))])) _
                          exact retN X43 hx (t := .boolean) Bd.returns (by simp) (hb hby at_276) hr
                        · show Q0 Z q0 q1 q2 h0 n0 _ T43.heap _
                          rw [e43]
                          exact ⟨by have w_hv10 := hv10.symm; subst w_hv10; have w_hv8 := hv8.symm; subst w_hv8; have w_hv6 := hv6.symm; subst w_hv6; simp only [own_f0, if_pos c15, if_neg c18, if_neg c21, if_neg c24, if_neg c27, if_neg c30, if_neg c33, if_neg c36, if_neg c39, if_neg c42, if_pos c45], N43⟩
                      · obtain ⟨_, _, ⟨T46, L46, k46, n46⟩, -, X46, ⟨Lc46, hQ46, l46, y46, z46⟩, st46⟩ := Jvm.LawKit.callS X43 hx (y := (⟨"com/example/cardglyph/cardglyph/image/PackedPointsUnpackBitsPinLaw", "at", "([ZII)Z"⟩ : MethodName)) hown (mvT hZ (hw _ (List.mem_of_getElem? (i := 8) rfl))) (mvT hZ (hw _ (List.mem_of_getElem? (i := 9) rfl))) (mvT hZ (hw _ (List.mem_of_getElem? (i := 10) rfl))) (mvT hZ (hw _ (List.mem_of_getElem? (i := 11) rfl))) (by decide) (backOf (W := 0) (rm2 l Z a0 hw [] a13 (10 : Int32) v10 ((own_fill ((own_data q0)) v6 (v8).toInt.toNat 0 (List.replicate (v8).toInt.toNat 0))) h13 n0 sz13 R13 (by simp only [own_filllen, List.length_replicate]; have := own_c17 (by assumption); omega) (by decide)) hZ (hw _ (List.mem_of_getElem? (i := 11) rfl)) (hw _ (List.mem_of_getElem? (i := 10) rfl)) (by decide) (by decide)) (g := (mkF m 205 #[.val (.int q0), .val (.int q1), .val (.int q2), .val (.ref a1), .val (.int v6), .val (.int v8), .val (.int v10), .val (.ref a13)] [(.int v10), (.int (10 : Int32)), (.ref a13)])) rfl (by rw [hml]; rfl) (argsL := [(.ref a13), (.int (10 : Int32)), (.int v10)]) (rest := []) (lenOf pd_5 rfl) rfl (by show 2 * 0 + _ ≤ _; exact Nat.le_of_eq rfl) (hb hby at_205) (fun _ _ => ⟨rfl, e43, (by decide : 2 + 0 ≤ _), (by decide : 20 + 0 ≤ _)⟩)
                        dsimp only [Pt.U, Pt.locs, Pt.cells, Pt.slots] at X46 l46 y46 z46 st46 hQ46
                        subst l46 y46 z46
                        obtain ⟨rfl, N46q, e46⟩ := hQ46
                        have N46 := Fr.app N43 N46q
                        have pre47 : ∀ t, Steps p.tables e below (T46.setTop (mkF m 208 #[.val (.int q0), .val (.int q1), .val (.int q2), .val (.ref a1), .val (.int v6), .val (.int v8), .val (.int v10), .val (.ref a13)] [(.int (own_f2 ((10 : Int32)) v10 ((own_fill ((own_data q0)) v6 (v8).toInt.toNat 0 (List.replicate (v8).toInt.toNat 0)))))])) t → Steps p.tables e below (s₁.setTop (entryFrame m #[(.int q0), (.int q1), (.int q2)] maxLocals)) t := by
                          intro t k
                          refine pre44 t ?_
                          show Steps p.tables e below (T43.setTop (mkF m 196 #[.val (.int q0), .val (.int q1), .val (.int q2), .val (.ref a1), .val (.int v6), .val (.int v8), .val (.int v10), .val (.ref a13)] [(.int (own_f2 ((9 : Int32)) v10 ((own_fill ((own_data q0)) v6 (v8).toInt.toNat 0 (List.replicate (v8).toInt.toNat 0)))))])) _
                          refine XS.ifNo X43.here hx rfl (hb hby at_196) rfl ((if0 _ _).trans (feq c45).1) ?_
                          show Steps p.tables e below (T43.setTop (mkF m 199 #[.val (.int q0), .val (.int q1), .val (.int q2), .val (.ref a1), .val (.int v6), .val (.int v8), .val (.int v10), .val (.ref a13)] [])) _
                          refine XS.aload X43.here hx rfl (hb hby at_199) rfl rfl ?_
                          show Steps p.tables e below (T43.setTop (mkF m 201 #[.val (.int q0), .val (.int q1), .val (.int q2), .val (.ref a1), .val (.int v6), .val (.int v8), .val (.int v10), .val (.ref a13)] [(.ref a13)])) _
                          refine XS.bipush X43.here hx rfl (hb hby at_201) ?_
                          show Steps p.tables e below (T43.setTop (mkF m 203 #[.val (.int q0), .val (.int q1), .val (.int q2), .val (.ref a1), .val (.int v6), .val (.int v8), .val (.int v10), .val (.ref a13)] [(.int (10 : Int32)), (.ref a13)])) _
                          refine XS.iload X43.here hx rfl (hb hby at_203) rfl ?_
                          show Steps p.tables e below (T43.setTop (mkF m 205 #[.val (.int q0), .val (.int q1), .val (.int q2), .val (.ref a1), .val (.int v6), .val (.int v8), .val (.int v10), .val (.ref a13)] [(.int v10), (.int (10 : Int32)), (.ref a13)])) _
                          refine st46 _ ?_
                          exact k
                        by_cases c48 : (own_f2 ((10 : Int32)) v10 ((own_fill ((own_data q0)) v6 (v8).toInt.toNat 0 (List.replicate (v8).toInt.toNat 0)))) = (0 : Int32)
                        · obtain ⟨fs, hr, hrun, hended, hW, hsame⟩ := X46.leave (v := some (.int (0 : Int32))) (fun h => by rw [Bd.returns] at h; cases h) hlk
                          refine ⟨_, _, pre47 _ ?_, hrun, hended, _, _, rfl, ?_, ⟨_, rfl⟩, hW, hsame.mono (by decide) (by decide)⟩
                          · show Steps p.tables e below (T46.setTop (mkF m 208 #[.val (.int q0), .val (.int q1), .val (.int q2), .val (.ref a1), .val (.int v6), .val (.int v8), .val (.int v10), .val (.ref a13)] [(.int (own_f2 ((10 : Int32)) v10 ((own_fill ((own_data q0)) v6 (v8).toInt.toNat 0 (List.replicate (v8).toInt.toNat 0)))))])) _
                            refine XS.ifYes X46.here hx rfl (pc0 := 208) (pc' := 275) rfl (hb hby at_208) rfl ((if0 _ _).trans (teq c48).1) (by decide) (by decide) ?_
                            show Steps p.tables e below (T46.setTop (mkF m 275 #[.val (.int q0), .val (.int q1), .val (.int q2), .val (.ref a1), .val (.int v6), .val (.int v8), .val (.int v10), .val (.ref a13)] [])) _
                            refine XS.iconst X46.here hx rfl (hb hby at_275) ?_
                            show Steps p.tables e below (T46.setTop (mkF m 276 #[.val (.int q0), .val (.int q1), .val (.int q2), .val (.ref a1), .val (.int v6), .val (.int v8), .val (.int v10), .val (.ref a13)] [(.int (0 : Int32))])) _
                            exact retN X46 hx (t := .boolean) Bd.returns (by simp) (hb hby at_276) hr
                          · show Q0 Z q0 q1 q2 h0 n0 _ T46.heap _
                            rw [e46]
                            exact ⟨by have w_hv10 := hv10.symm; subst w_hv10; have w_hv8 := hv8.symm; subst w_hv8; have w_hv6 := hv6.symm; subst w_hv6; simp only [own_f0, if_pos c15, if_neg c18, if_neg c21, if_neg c24, if_neg c27, if_neg c30, if_neg c33, if_neg c36, if_neg c39, if_neg c42, if_neg c45, if_pos c48], N46⟩
                        · obtain ⟨_, _, ⟨T49, L49, k49, n49⟩, -, X49, ⟨Lc49, hQ49, l49, y49, z49⟩, st49⟩ := Jvm.LawKit.callS X46 hx (y := (⟨"com/example/cardglyph/cardglyph/image/PackedPointsUnpackBitsPinLaw", "at", "([ZII)Z"⟩ : MethodName)) hown (mvT hZ (hw _ (List.mem_of_getElem? (i := 8) rfl))) (mvT hZ (hw _ (List.mem_of_getElem? (i := 9) rfl))) (mvT hZ (hw _ (List.mem_of_getElem? (i := 10) rfl))) (mvT hZ (hw _ (List.mem_of_getElem? (i := 11) rfl))) (by decide) (backOf (W := 0) (rm2 l Z a0 hw [] a13 (11 : Int32) v10 ((own_fill ((own_data q0)) v6 (v8).toInt.toNat 0 (List.replicate (v8).toInt.toNat 0))) h13 n0 sz13 R13 (by simp only [own_filllen, List.length_replicate]; have := own_c17 (by assumption); omega) (by decide)) hZ (hw _ (List.mem_of_getElem? (i := 11) rfl)) (hw _ (List.mem_of_getElem? (i := 10) rfl)) (by decide) (by decide)) (g := (mkF m 217 #[.val (.int q0), .val (.int q1), .val (.int q2), .val (.ref a1), .val (.int v6), .val (.int v8), .val (.int v10), .val (.ref a13)] [(.int v10), (.int (11 : Int32)), (.ref a13)])) rfl (by rw [hml]; rfl) (argsL := [(.ref a13), (.int (11 : Int32)), (.int v10)]) (rest := []) (lenOf pd_5 rfl) rfl (by show 2 * 0 + _ ≤ _; exact Nat.le_of_eq rfl) (hb hby at_217) (fun _ _ => ⟨rfl, e46, (by decide : 2 + 0 ≤ _), (by decide : 20 + 0 ≤ _)⟩)
                          dsimp only [Pt.U, Pt.locs, Pt.cells, Pt.slots] at X49 l49 y49 z49 st49 hQ49
                          subst l49 y49 z49
                          obtain ⟨rfl, N49q, e49⟩ := hQ49
                          have N49 := Fr.app N46 N49q
                          have pre50 : ∀ t, Steps p.tables e below (T49.setTop (mkF m 220 #[.val (.int q0), .val (.int q1), .val (.int q2), .val (.ref a1), .val (.int v6), .val (.int v8), .val (.int v10), .val (.ref a13)] [(.int (own_f2 ((11 : Int32)) v10 ((own_fill ((own_data q0)) v6 (v8).toInt.toNat 0 (List.replicate (v8).toInt.toNat 0)))))])) t → Steps p.tables e below (s₁.setTop (entryFrame m #[(.int q0), (.int q1), (.int q2)] maxLocals)) t := by
                            intro t k
                            refine pre47 t ?_
                            show Steps p.tables e below (T46.setTop (mkF m 208 #[.val (.int q0), .val (.int q1), .val (.int q2), .val (.ref a1), .val (.int v6), .val (.int v8), .val (.int v10), .val (.ref a13)] [(.int (own_f2 ((10 : Int32)) v10 ((own_fill ((own_data q0)) v6 (v8).toInt.toNat 0 (List.replicate (v8).toInt.toNat 0)))))])) _
                            refine XS.ifNo X46.here hx rfl (hb hby at_208) rfl ((if0 _ _).trans (feq c48).1) ?_
                            show Steps p.tables e below (T46.setTop (mkF m 211 #[.val (.int q0), .val (.int q1), .val (.int q2), .val (.ref a1), .val (.int v6), .val (.int v8), .val (.int v10), .val (.ref a13)] [])) _
                            refine XS.aload X46.here hx rfl (hb hby at_211) rfl rfl ?_
                            show Steps p.tables e below (T46.setTop (mkF m 213 #[.val (.int q0), .val (.int q1), .val (.int q2), .val (.ref a1), .val (.int v6), .val (.int v8), .val (.int v10), .val (.ref a13)] [(.ref a13)])) _
                            refine XS.bipush X46.here hx rfl (hb hby at_213) ?_
                            show Steps p.tables e below (T46.setTop (mkF m 215 #[.val (.int q0), .val (.int q1), .val (.int q2), .val (.ref a1), .val (.int v6), .val (.int v8), .val (.int v10), .val (.ref a13)] [(.int (11 : Int32)), (.ref a13)])) _
                            refine XS.iload X46.here hx rfl (hb hby at_215) rfl ?_
                            show Steps p.tables e below (T46.setTop (mkF m 217 #[.val (.int q0), .val (.int q1), .val (.int q2), .val (.ref a1), .val (.int v6), .val (.int v8), .val (.int v10), .val (.ref a13)] [(.int v10), (.int (11 : Int32)), (.ref a13)])) _
                            refine st49 _ ?_
                            exact k
                          by_cases c51 : (own_f2 ((11 : Int32)) v10 ((own_fill ((own_data q0)) v6 (v8).toInt.toNat 0 (List.replicate (v8).toInt.toNat 0)))) = (0 : Int32)
                          · obtain ⟨fs, hr, hrun, hended, hW, hsame⟩ := X49.leave (v := some (.int (0 : Int32))) (fun h => by rw [Bd.returns] at h; cases h) hlk
                            refine ⟨_, _, pre50 _ ?_, hrun, hended, _, _, rfl, ?_, ⟨_, rfl⟩, hW, hsame.mono (by decide) (by decide)⟩
                            · show Steps p.tables e below (T49.setTop (mkF m 220 #[.val (.int q0), .val (.int q1), .val (.int q2), .val (.ref a1), .val (.int v6), .val (.int v8), .val (.int v10), .val (.ref a13)] [(.int (own_f2 ((11 : Int32)) v10 ((own_fill ((own_data q0)) v6 (v8).toInt.toNat 0 (List.replicate (v8).toInt.toNat 0)))))])) _
                              refine XS.ifYes X49.here hx rfl (pc0 := 220) (pc' := 275) rfl (hb hby at_220) rfl ((if0 _ _).trans (teq c51).1) (by decide) (by decide) ?_
                              show Steps p.tables e below (T49.setTop (mkF m 275 #[.val (.int q0), .val (.int q1), .val (.int q2), .val (.ref a1), .val (.int v6), .val (.int v8), .val (.int v10), .val (.ref a13)] [])) _
                              refine XS.iconst X49.here hx rfl (hb hby at_275) ?_
                              show Steps p.tables e below (T49.setTop (mkF m 276 #[.val (.int q0), .val (.int q1), .val (.int q2), .val (.ref a1), .val (.int v6), .val (.int v8), .val (.int v10), .val (.ref a13)] [(.int (0 : Int32))])) _
                              exact retN X49 hx (t := .boolean) Bd.returns (by simp) (hb hby at_276) hr
                            · show Q0 Z q0 q1 q2 h0 n0 _ T49.heap _
                              rw [e49]
                              exact ⟨by have w_hv10 := hv10.symm; subst w_hv10; have w_hv8 := hv8.symm; subst w_hv8; have w_hv6 := hv6.symm; subst w_hv6; simp only [own_f0, if_pos c15, if_neg c18, if_neg c21, if_neg c24, if_neg c27, if_neg c30, if_neg c33, if_neg c36, if_neg c39, if_neg c42, if_neg c45, if_neg c48, if_pos c51], N49⟩
                          · obtain ⟨_, _, ⟨T52, L52, k52, n52⟩, -, X52, ⟨Lc52, hQ52, l52, y52, z52⟩, st52⟩ := Jvm.LawKit.callS X49 hx (y := (⟨"com/example/cardglyph/cardglyph/image/PackedPointsUnpackBitsPinLaw", "at", "([ZII)Z"⟩ : MethodName)) hown (mvT hZ (hw _ (List.mem_of_getElem? (i := 8) rfl))) (mvT hZ (hw _ (List.mem_of_getElem? (i := 9) rfl))) (mvT hZ (hw _ (List.mem_of_getElem? (i := 10) rfl))) (mvT hZ (hw _ (List.mem_of_getElem? (i := 11) rfl))) (by decide) (backOf (W := 0) (rm2 l Z a0 hw [] a13 (12 : Int32) v10 ((own_fill ((own_data q0)) v6 (v8).toInt.toNat 0 (List.replicate (v8).toInt.toNat 0))) h13 n0 sz13 R13 (by simp only [own_filllen, List.length_replicate]; have := own_c17 (by assumption); omega) (by decide)) hZ (hw _ (List.mem_of_getElem? (i := 11) rfl)) (hw _ (List.mem_of_getElem? (i := 10) rfl)) (by decide) (by decide)) (g := (mkF m 229 #[.val (.int q0), .val (.int q1), .val (.int q2), .val (.ref a1), .val (.int v6), .val (.int v8), .val (.int v10), .val (.ref a13)] [(.int v10), (.int (12 : Int32)), (.ref a13)])) rfl (by rw [hml]; rfl) (argsL := [(.ref a13), (.int (12 : Int32)), (.int v10)]) (rest := []) (lenOf pd_5 rfl) rfl (by show 2 * 0 + _ ≤ _; exact Nat.le_of_eq rfl) (hb hby at_229) (fun _ _ => ⟨rfl, e49, (by decide : 2 + 0 ≤ _), (by decide : 20 + 0 ≤ _)⟩)
                            dsimp only [Pt.U, Pt.locs, Pt.cells, Pt.slots] at X52 l52 y52 z52 st52 hQ52
                            subst l52 y52 z52
                            obtain ⟨rfl, N52q, e52⟩ := hQ52
                            have N52 := Fr.app N49 N52q
                            have pre53 : ∀ t, Steps p.tables e below (T52.setTop (mkF m 232 #[.val (.int q0), .val (.int q1), .val (.int q2), .val (.ref a1), .val (.int v6), .val (.int v8), .val (.int v10), .val (.ref a13)] [(.int (own_f2 ((12 : Int32)) v10 ((own_fill ((own_data q0)) v6 (v8).toInt.toNat 0 (List.replicate (v8).toInt.toNat 0)))))])) t → Steps p.tables e below (s₁.setTop (entryFrame m #[(.int q0), (.int q1), (.int q2)] maxLocals)) t := by
                              intro t k
                              refine pre50 t ?_
                              show Steps p.tables e below (T49.setTop (mkF m 220 #[.val (.int q0), .val (.int q1), .val (.int q2), .val (.ref a1), .val (.int v6), .val (.int v8), .val (.int v10), .val (.ref a13)] [(.int (own_f2 ((11 : Int32)) v10 ((own_fill ((own_data q0)) v6 (v8).toInt.toNat 0 (List.replicate (v8).toInt.toNat 0)))))])) _
                              refine XS.ifNo X49.here hx rfl (hb hby at_220) rfl ((if0 _ _).trans (feq c51).1) ?_
                              show Steps p.tables e below (T49.setTop (mkF m 223 #[.val (.int q0), .val (.int q1), .val (.int q2), .val (.ref a1), .val (.int v6), .val (.int v8), .val (.int v10), .val (.ref a13)] [])) _
                              refine XS.aload X49.here hx rfl (hb hby at_223) rfl rfl ?_
                              show Steps p.tables e below (T49.setTop (mkF m 225 #[.val (.int q0), .val (.int q1), .val (.int q2), .val (.ref a1), .val (.int v6), .val (.int v8), .val (.int v10), .val (.ref a13)] [(.ref a13)])) _
                              refine XS.bipush X49.here hx rfl (hb hby at_225) ?_
                              show Steps p.tables e below (T49.setTop (mkF m 227 #[.val (.int q0), .val (.int q1), .val (.int q2), .val (.ref a1), .val (.int v6), .val (.int v8), .val (.int v10), .val (.ref a13)] [(.int (12 : Int32)), (.ref a13)])) _
                              refine XS.iload X49.here hx rfl (hb hby at_227) rfl ?_
                              show Steps p.tables e below (T49.setTop (mkF m 229 #[.val (.int q0), .val (.int q1), .val (.int q2), .val (.ref a1), .val (.int v6), .val (.int v8), .val (.int v10), .val (.ref a13)] [(.int v10), (.int (12 : Int32)), (.ref a13)])) _
                              refine st52 _ ?_
                              exact k
                            by_cases c54 : (own_f2 ((12 : Int32)) v10 ((own_fill ((own_data q0)) v6 (v8).toInt.toNat 0 (List.replicate (v8).toInt.toNat 0)))) = (0 : Int32)
                            · obtain ⟨fs, hr, hrun, hended, hW, hsame⟩ := X52.leave (v := some (.int (0 : Int32))) (fun h => by rw [Bd.returns] at h; cases h) hlk
                              refine ⟨_, _, pre53 _ ?_, hrun, hended, _, _, rfl, ?_, ⟨_, rfl⟩, hW, hsame.mono (by decide) (by decide)⟩
                              · show Steps p.tables e below (T52.setTop (mkF m 232 #[.val (.int q0), .val (.int q1), .val (.int q2), .val (.ref a1), .val (.int v6), .val (.int v8), .val (.int v10), .val (.ref a13)] [(.int (own_f2 ((12 : Int32)) v10 ((own_fill ((own_data q0)) v6 (v8).toInt.toNat 0 (List.replicate (v8).toInt.toNat 0)))))])) _
                                refine XS.ifYes X52.here hx rfl (pc0 := 232) (pc' := 275) rfl (hb hby at_232) rfl ((if0 _ _).trans (teq c54).1) (by decide) (by decide) ?_
                                show Steps p.tables e below (T52.setTop (mkF m 275 #[.val (.int q0), .val (.int q1), .val (.int q2), .val (.ref a1), .val (.int v6), .val (.int v8), .val (.int v10), .val (.ref a13)] [])) _
                                refine XS.iconst X52.here hx rfl (hb hby at_275) ?_
                                show Steps p.tables e below (T52.setTop (mkF m 276 #[.val (.int q0), .val (.int q1), .val (.int q2), .val (.ref a1), .val (.int v6), .val (.int v8), .val (.int v10), .val (.ref a13)] [(.int (0 : Int32))])) _
                                exact retN X52 hx (t := .boolean) Bd.returns (by simp) (hb hby at_276) hr
                              · show Q0 Z q0 q1 q2 h0 n0 _ T52.heap _
                                rw [e52]
                                exact ⟨by have w_hv10 := hv10.symm; subst w_hv10; have w_hv8 := hv8.symm; subst w_hv8; have w_hv6 := hv6.symm; subst w_hv6; simp only [own_f0, if_pos c15, if_neg c18, if_neg c21, if_neg c24, if_neg c27, if_neg c30, if_neg c33, if_neg c36, if_neg c39, if_neg c42, if_neg c45, if_neg c48, if_neg c51, if_pos c54], N52⟩
                            · obtain ⟨_, _, ⟨T55, L55, k55, n55⟩, -, X55, ⟨Lc55, hQ55, l55, y55, z55⟩, st55⟩ := Jvm.LawKit.callS X52 hx (y := (⟨"com/example/cardglyph/cardglyph/image/PackedPointsUnpackBitsPinLaw", "at", "([ZII)Z"⟩ : MethodName)) hown (mvT hZ (hw _ (List.mem_of_getElem? (i := 8) rfl))) (mvT hZ (hw _ (List.mem_of_getElem? (i := 9) rfl))) (mvT hZ (hw _ (List.mem_of_getElem? (i := 10) rfl))) (mvT hZ (hw _ (List.mem_of_getElem? (i := 11) rfl))) (by decide) (backOf (W := 0) (rm2 l Z a0 hw [] a13 (13 : Int32) v10 ((own_fill ((own_data q0)) v6 (v8).toInt.toNat 0 (List.replicate (v8).toInt.toNat 0))) h13 n0 sz13 R13 (by simp only [own_filllen, List.length_replicate]; have := own_c17 (by assumption); omega) (by decide)) hZ (hw _ (List.mem_of_getElem? (i := 11) rfl)) (hw _ (List.mem_of_getElem? (i := 10) rfl)) (by decide) (by decide)) (g := (mkF m 241 #[.val (.int q0), .val (.int q1), .val (.int q2), .val (.ref a1), .val (.int v6), .val (.int v8), .val (.int v10), .val (.ref a13)] [(.int v10), (.int (13 : Int32)), (.ref a13)])) rfl (by rw [hml]; rfl) (argsL := [(.ref a13), (.int (13 : Int32)), (.int v10)]) (rest := []) (lenOf pd_5 rfl) rfl (by show 2 * 0 + _ ≤ _; exact Nat.le_of_eq rfl) (hb hby at_241) (fun _ _ => ⟨rfl, e52, (by decide : 2 + 0 ≤ _), (by decide : 20 + 0 ≤ _)⟩)
                              dsimp only [Pt.U, Pt.locs, Pt.cells, Pt.slots] at X55 l55 y55 z55 st55 hQ55
                              subst l55 y55 z55
                              obtain ⟨rfl, N55q, e55⟩ := hQ55
                              have N55 := Fr.app N52 N55q
                              have pre56 : ∀ t, Steps p.tables e below (T55.setTop (mkF m 244 #[.val (.int q0), .val (.int q1), .val (.int q2), .val (.ref a1), .val (.int v6), .val (.int v8), .val (.int v10), .val (.ref a13)] [(.int (own_f2 ((13 : Int32)) v10 ((own_fill ((own_data q0)) v6 (v8).toInt.toNat 0 (List.replicate (v8).toInt.toNat 0)))))])) t → Steps p.tables e below (s₁.setTop (entryFrame m #[(.int q0), (.int q1), (.int q2)] maxLocals)) t := by
                                intro t k
                                refine pre53 t ?_
                                show Steps p.tables e below (T52.setTop (mkF m 232 #[.val (.int q0), .val (.int q1), .val (.int q2), .val (.ref a1), .val (.int v6), .val (.int v8), .val (.int v10), .val (.ref a13)] [(.int (own_f2 ((12 : Int32)) v10 ((own_fill ((own_data q0)) v6 (v8).toInt.toNat 0 (List.replicate (v8).toInt.toNat 0)))))])) _
                                refine XS.ifNo X52.here hx rfl (hb hby at_232) rfl ((if0 _ _).trans (feq c54).1) ?_
                                show Steps p.tables e below (T52.setTop (mkF m 235 #[.val (.int q0), .val (.int q1), .val (.int q2), .val (.ref a1), .val (.int v6), .val (.int v8), .val (.int v10), .val (.ref a13)] [])) _
                                refine XS.aload X52.here hx rfl (hb hby at_235) rfl rfl ?_
                                show Steps p.tables e below (T52.setTop (mkF m 237 #[.val (.int q0), .val (.int q1), .val (.int q2), .val (.ref a1), .val (.int v6), .val (.int v8), .val (.int v10), .val (.ref a13)] [(.ref a13)])) _
                                refine XS.bipush X52.here hx rfl (hb hby at_237) ?_
                                show Steps p.tables e below (T52.setTop (mkF m 239 #[.val (.int q0), .val (.int q1), .val (.int q2), .val (.ref a1), .val (.int v6), .val (.int v8), .val (.int v10), .val (.ref a13)] [(.int (13 : Int32)), (.ref a13)])) _
                                refine XS.iload X52.here hx rfl (hb hby at_239) rfl ?_
                                show Steps p.tables e below (T52.setTop (mkF m 241 #[.val (.int q0), .val (.int q1), .val (.int q2), .val (.ref a1), .val (.int v6), .val (.int v8), .val (.int v10), .val (.ref a13)] [(.int v10), (.int (13 : Int32)), (.ref a13)])) _
                                refine st55 _ ?_
                                exact k
                              by_cases c57 : (own_f2 ((13 : Int32)) v10 ((own_fill ((own_data q0)) v6 (v8).toInt.toNat 0 (List.replicate (v8).toInt.toNat 0)))) = (0 : Int32)
                              · obtain ⟨fs, hr, hrun, hended, hW, hsame⟩ := X55.leave (v := some (.int (0 : Int32))) (fun h => by rw [Bd.returns] at h; cases h) hlk
                                refine ⟨_, _, pre56 _ ?_, hrun, hended, _, _, rfl, ?_, ⟨_, rfl⟩, hW, hsame.mono (by decide) (by decide)⟩
                                · show Steps p.tables e below (T55.setTop (mkF m 244 #[.val (.int q0), .val (.int q1), .val (.int q2), .val (.ref a1), .val (.int v6), .val (.int v8), .val (.int v10), .val (.ref a13)] [(.int (own_f2 ((13 : Int32)) v10 ((own_fill ((own_data q0)) v6 (v8).toInt.toNat 0 (List.replicate (v8).toInt.toNat 0)))))])) _
                                  refine XS.ifYes X55.here hx rfl (pc0 := 244) (pc' := 275) rfl (hb hby at_244) rfl ((if0 _ _).trans (teq c57).1) (by decide) (by decide) ?_
                                  show Steps p.tables e below (T55.setTop (mkF m 275 #[.val (.int q0), .val (.int q1), .val (.int q2), .val (.ref a1), .val (.int v6), .val (.int v8), .val (.int v10), .val (.ref a13)] [])) _
                                  refine XS.iconst X55.here hx rfl (hb hby at_275) ?_
                                  show Steps p.tables e below (T55.setTop (mkF m 276 #[.val (.int q0), .val (.int q1), .val (.int q2), .val (.ref a1), .val (.int v6), .val (.int v8), .val (.int v10), .val (.ref a13)] [(.int (0 : Int32))])) _
                                  exact retN X55 hx (t := .boolean) Bd.returns (by simp) (hb hby at_276) hr
                                · show Q0 Z q0 q1 q2 h0 n0 _ T55.heap _
                                  rw [e55]
                                  exact ⟨by have w_hv10 := hv10.symm; subst w_hv10; have w_hv8 := hv8.symm; subst w_hv8; have w_hv6 := hv6.symm; subst w_hv6; simp only [own_f0, if_pos c15, if_neg c18, if_neg c21, if_neg c24, if_neg c27, if_neg c30, if_neg c33, if_neg c36, if_neg c39, if_neg c42, if_neg c45, if_neg c48, if_neg c51, if_neg c54, if_pos c57], N55⟩
                              · obtain ⟨_, _, ⟨T58, L58, k58, n58⟩, -, X58, ⟨Lc58, hQ58, l58, y58, z58⟩, st58⟩ := Jvm.LawKit.callS X55 hx (y := (⟨"com/example/cardglyph/cardglyph/image/PackedPointsUnpackBitsPinLaw", "at", "([ZII)Z"⟩ : MethodName)) hown (mvT hZ (hw _ (List.mem_of_getElem? (i := 8) rfl))) (mvT hZ (hw _ (List.mem_of_getElem? (i := 9) rfl))) (mvT hZ (hw _ (List.mem_of_getElem? (i := 10) rfl))) (mvT hZ (hw _ (List.mem_of_getElem? (i := 11) rfl))) (by decide) (backOf (W := 0) (rm2 l Z a0 hw [] a13 (14 : Int32) v10 ((own_fill ((own_data q0)) v6 (v8).toInt.toNat 0 (List.replicate (v8).toInt.toNat 0))) h13 n0 sz13 R13 (by simp only [own_filllen, List.length_replicate]; have := own_c17 (by assumption); omega) (by decide)) hZ (hw _ (List.mem_of_getElem? (i := 11) rfl)) (hw _ (List.mem_of_getElem? (i := 10) rfl)) (by decide) (by decide)) (g := (mkF m 253 #[.val (.int q0), .val (.int q1), .val (.int q2), .val (.ref a1), .val (.int v6), .val (.int v8), .val (.int v10), .val (.ref a13)] [(.int v10), (.int (14 : Int32)), (.ref a13)])) rfl (by rw [hml]; rfl) (argsL := [(.ref a13), (.int (14 : Int32)), (.int v10)]) (rest := []) (lenOf pd_5 rfl) rfl (by show 2 * 0 + _ ≤ _; exact Nat.le_of_eq rfl) (hb hby at_253) (fun _ _ => ⟨rfl, e55, (by decide : 2 + 0 ≤ _), (by decide : 20 + 0 ≤ _)⟩)
                                dsimp only [Pt.U, Pt.locs, Pt.cells, Pt.slots] at X58 l58 y58 z58 st58 hQ58
                                subst l58 y58 z58
                                obtain ⟨rfl, N58q, e58⟩ := hQ58
                                have N58 := Fr.app N55 N58q
                                have pre59 : ∀ t, Steps p.tables e below (T58.setTop (mkF m 256 #[.val (.int q0), .val (.int q1), .val (.int q2), .val (.ref a1), .val (.int v6), .val (.int v8), .val (.int v10), .val (.ref a13)] [(.int (own_f2 ((14 : Int32)) v10 ((own_fill ((own_data q0)) v6 (v8).toInt.toNat 0 (List.replicate (v8).toInt.toNat 0)))))])) t → Steps p.tables e below (s₁.setTop (entryFrame m #[(.int q0), (.int q1), (.int q2)] maxLocals)) t := by
                                  intro t k
                                  refine pre56 t ?_
                                  show Steps p.tables e below (T55.setTop (mkF m 244 #[.val (.int q0), .val (.int q1), .val (.int q2), .val (.ref a1), .val (.int v6), .val (.int v8), .val (.int v10), .val (.ref a13)] [(.int (own_f2 ((13 : Int32)) v10 ((own_fill ((own_data q0)) v6 (v8).toInt.toNat 0 (List.replicate (v8).toInt.toNat 0)))))])) _
                                  refine XS.ifNo X55.here hx rfl (hb hby at_244) rfl ((if0 _ _).trans (feq c57).1) ?_
                                  show Steps p.tables e below (T55.setTop (mkF m 247 #[.val (.int q0), .val (.int q1), .val (.int q2), .val (.ref a1), .val (.int v6), .val (.int v8), .val (.int v10), .val (.ref a13)] [])) _
                                  refine XS.aload X55.here hx rfl (hb hby at_247) rfl rfl ?_
                                  show Steps p.tables e below (T55.setTop (mkF m 249 #[.val (.int q0), .val (.int q1), .val (.int q2), .val (.ref a1), .val (.int v6), .val (.int v8), .val (.int v10), .val (.ref a13)] [(.ref a13)])) _
                                  refine XS.bipush X55.here hx rfl (hb hby at_249) ?_
                                  show Steps p.tables e below (T55.setTop (mkF m 251 #[.val (.int q0), .val (.int q1), .val (.int q2), .val (.ref a1), .val (.int v6), .val (.int v8), .val (.int v10), .val (.ref a13)] [(.int (14 : Int32)), (.ref a13)])) _
                                  refine XS.iload X55.here hx rfl (hb hby at_251) rfl ?_
                                  show Steps p.tables e below (T55.setTop (mkF m 253 #[.val (.int q0), .val (.int q1), .val (.int q2), .val (.ref a1), .val (.int v6), .val (.int v8), .val (.int v10), .val (.ref a13)] [(.int v10), (.int (14 : Int32)), (.ref a13)])) _
                                  refine st58 _ ?_
                                  exact k
                                by_cases c60 : (own_f2 ((14 : Int32)) v10 ((own_fill ((own_data q0)) v6 (v8).toInt.toNat 0 (List.replicate (v8).toInt.toNat 0)))) = (0 : Int32)
                                · obtain ⟨fs, hr, hrun, hended, hW, hsame⟩ := X58.leave (v := some (.int (0 : Int32))) (fun h => by rw [Bd.returns] at h; cases h) hlk
                                  refine ⟨_, _, pre59 _ ?_, hrun, hended, _, _, rfl, ?_, ⟨_, rfl⟩, hW, hsame.mono (by decide) (by decide)⟩
                                  · show Steps p.tables e below (T58.setTop (mkF m 256 #[.val (.int q0), .val (.int q1), .val (.int q2), .val (.ref a1), .val (.int v6), .val (.int v8), .val (.int v10), .val (.ref a13)] [(.int (own_f2 ((14 : Int32)) v10 ((own_fill ((own_data q0)) v6 (v8).toInt.toNat 0 (List.replicate (v8).toInt.toNat 0)))))])) _
                                    refine XS.ifYes X58.here hx rfl (pc0 := 256) (pc' := 275) rfl (hb hby at_256) rfl ((if0 _ _).trans (teq c60).1) (by decide) (by decide) ?_
                                    show Steps p.tables e below (T58.setTop (mkF m 275 #[.val (.int q0), .val (.int q1), .val (.int q2), .val (.ref a1), .val (.int v6), .val (.int v8), .val (.int v10), .val (.ref a13)] [])) _
                                    refine XS.iconst X58.here hx rfl (hb hby at_275) ?_
                                    show Steps p.tables e below (T58.setTop (mkF m 276 #[.val (.int q0), .val (.int q1), .val (.int q2), .val (.ref a1), .val (.int v6), .val (.int v8), .val (.int v10), .val (.ref a13)] [(.int (0 : Int32))])) _
                                    exact retN X58 hx (t := .boolean) Bd.returns (by simp) (hb hby at_276) hr
                                  · show Q0 Z q0 q1 q2 h0 n0 _ T58.heap _
                                    rw [e58]
                                    exact ⟨by have w_hv10 := hv10.symm; subst w_hv10; have w_hv8 := hv8.symm; subst w_hv8; have w_hv6 := hv6.symm; subst w_hv6; simp only [own_f0, if_pos c15, if_neg c18, if_neg c21, if_neg c24, if_neg c27, if_neg c30, if_neg c33, if_neg c36, if_neg c39, if_neg c42, if_neg c45, if_neg c48, if_neg c51, if_neg c54, if_neg c57, if_pos c60], N58⟩
                                · obtain ⟨_, _, ⟨T61, L61, k61, n61⟩, -, X61, ⟨Lc61, hQ61, l61, y61, z61⟩, st61⟩ := Jvm.LawKit.callS X58 hx (y := (⟨"com/example/cardglyph/cardglyph/image/PackedPointsUnpackBitsPinLaw", "at", "([ZII)Z"⟩ : MethodName)) hown (mvT hZ (hw _ (List.mem_of_getElem? (i := 8) rfl))) (mvT hZ (hw _ (List.mem_of_getElem? (i := 9) rfl))) (mvT hZ (hw _ (List.mem_of_getElem? (i := 10) rfl))) (mvT hZ (hw _ (List.mem_of_getElem? (i := 11) rfl))) (by decide) (backOf (W := 0) (rm2 l Z a0 hw [] a13 (15 : Int32) v10 ((own_fill ((own_data q0)) v6 (v8).toInt.toNat 0 (List.replicate (v8).toInt.toNat 0))) h13 n0 sz13 R13 (by simp only [own_filllen, List.length_replicate]; have := own_c17 (by assumption); omega) (by decide)) hZ (hw _ (List.mem_of_getElem? (i := 11) rfl)) (hw _ (List.mem_of_getElem? (i := 10) rfl)) (by decide) (by decide)) (g := (mkF m 265 #[.val (.int q0), .val (.int q1), .val (.int q2), .val (.ref a1), .val (.int v6), .val (.int v8), .val (.int v10), .val (.ref a13)] [(.int v10), (.int (15 : Int32)), (.ref a13)])) rfl (by rw [hml]; rfl) (argsL := [(.ref a13), (.int (15 : Int32)), (.int v10)]) (rest := []) (lenOf pd_5 rfl) rfl (by show 2 * 0 + _ ≤ _; exact Nat.le_of_eq rfl) (hb hby at_265) (fun _ _ => ⟨rfl, e58, (by decide : 2 + 0 ≤ _), (by decide : 20 + 0 ≤ _)⟩)
                                  dsimp only [Pt.U, Pt.locs, Pt.cells, Pt.slots] at X61 l61 y61 z61 st61 hQ61
                                  subst l61 y61 z61
                                  obtain ⟨rfl, N61q, e61⟩ := hQ61
                                  have N61 := Fr.app N58 N61q
                                  have pre62 : ∀ t, Steps p.tables e below (T61.setTop (mkF m 268 #[.val (.int q0), .val (.int q1), .val (.int q2), .val (.ref a1), .val (.int v6), .val (.int v8), .val (.int v10), .val (.ref a13)] [(.int (own_f2 ((15 : Int32)) v10 ((own_fill ((own_data q0)) v6 (v8).toInt.toNat 0 (List.replicate (v8).toInt.toNat 0)))))])) t → Steps p.tables e below (s₁.setTop (entryFrame m #[(.int q0), (.int q1), (.int q2)] maxLocals)) t := by
                                    intro t k
                                    refine pre59 t ?_
                                    show Steps p.tables e below (T58.setTop (mkF m 256 #[.val (.int q0), .val (.int q1), .val (.int q2), .val (.ref a1), .val (.int v6), .val (.int v8), .val (.int v10), .val (.ref a13)] [(.int (own_f2 ((14 : Int32)) v10 ((own_fill ((own_data q0)) v6 (v8).toInt.toNat 0 (List.replicate (v8).toInt.toNat 0)))))])) _
                                    refine XS.ifNo X58.here hx rfl (hb hby at_256) rfl ((if0 _ _).trans (feq c60).1) ?_
                                    show Steps p.tables e below (T58.setTop (mkF m 259 #[.val (.int q0), .val (.int q1), .val (.int q2), .val (.ref a1), .val (.int v6), .val (.int v8), .val (.int v10), .val (.ref a13)] [])) _
                                    refine XS.aload X58.here hx rfl (hb hby at_259) rfl rfl ?_
                                    show Steps p.tables e below (T58.setTop (mkF m 261 #[.val (.int q0), .val (.int q1), .val (.int q2), .val (.ref a1), .val (.int v6), .val (.int v8), .val (.int v10), .val (.ref a13)] [(.ref a13)])) _
                                    refine XS.bipush X58.here hx rfl (hb hby at_261) ?_
                                    show Steps p.tables e below (T58.setTop (mkF m 263 #[.val (.int q0), .val (.int q1), .val (.int q2), .val (.ref a1), .val (.int v6), .val (.int v8), .val (.int v10), .val (.ref a13)] [(.int (15 : Int32)), (.ref a13)])) _
                                    refine XS.iload X58.here hx rfl (hb hby at_263) rfl ?_
                                    show Steps p.tables e below (T58.setTop (mkF m 265 #[.val (.int q0), .val (.int q1), .val (.int q2), .val (.ref a1), .val (.int v6), .val (.int v8), .val (.int v10), .val (.ref a13)] [(.int v10), (.int (15 : Int32)), (.ref a13)])) _
                                    refine st61 _ ?_
                                    exact k
                                  by_cases c63 : (own_f2 ((15 : Int32)) v10 ((own_fill ((own_data q0)) v6 (v8).toInt.toNat 0 (List.replicate (v8).toInt.toNat 0)))) = (0 : Int32)
                                  · obtain ⟨fs, hr, hrun, hended, hW, hsame⟩ := X61.leave (v := some (.int (0 : Int32))) (fun h => by rw [Bd.returns] at h; cases h) hlk
                                    refine ⟨_, _, pre62 _ ?_, hrun, hended, _, _, rfl, ?_, ⟨_, rfl⟩, hW, hsame.mono (by decide) (by decide)⟩
                                    · show Steps p.tables e below (T61.setTop (mkF m 268 #[.val (.int q0), .val (.int q1), .val (.int q2), .val (.ref a1), .val (.int v6), .val (.int v8), .val (.int v10), .val (.ref a13)] [(.int (own_f2 ((15 : Int32)) v10 ((own_fill ((own_data q0)) v6 (v8).toInt.toNat 0 (List.replicate (v8).toInt.toNat 0)))))])) _
                                      refine XS.ifYes X61.here hx rfl (pc0 := 268) (pc' := 275) rfl (hb hby at_268) rfl ((if0 _ _).trans (teq c63).1) (by decide) (by decide) ?_
                                      show Steps p.tables e below (T61.setTop (mkF m 275 #[.val (.int q0), .val (.int q1), .val (.int q2), .val (.ref a1), .val (.int v6), .val (.int v8), .val (.int v10), .val (.ref a13)] [])) _
                                      refine XS.iconst X61.here hx rfl (hb hby at_275) ?_
                                      show Steps p.tables e below (T61.setTop (mkF m 276 #[.val (.int q0), .val (.int q1), .val (.int q2), .val (.ref a1), .val (.int v6), .val (.int v8), .val (.int v10), .val (.ref a13)] [(.int (0 : Int32))])) _
                                      exact retN X61 hx (t := .boolean) Bd.returns (by simp) (hb hby at_276) hr
                                    · show Q0 Z q0 q1 q2 h0 n0 _ T61.heap _
                                      rw [e61]
                                      exact ⟨by have w_hv10 := hv10.symm; subst w_hv10; have w_hv8 := hv8.symm; subst w_hv8; have w_hv6 := hv6.symm; subst w_hv6; simp only [own_f0, if_pos c15, if_neg c18, if_neg c21, if_neg c24, if_neg c27, if_neg c30, if_neg c33, if_neg c36, if_neg c39, if_neg c42, if_neg c45, if_neg c48, if_neg c51, if_neg c54, if_neg c57, if_neg c60, if_pos c63], N61⟩
                                  · obtain ⟨fs, hr, hrun, hended, hW, hsame⟩ := X61.leave (v := some (.int (1 : Int32))) (fun h => by rw [Bd.returns] at h; cases h) hlk
                                    refine ⟨_, _, pre62 _ ?_, hrun, hended, _, _, rfl, ?_, ⟨_, rfl⟩, hW, hsame.mono (by decide) (by decide)⟩
                                    · show Steps p.tables e below (T61.setTop (mkF m 268 #[.val (.int q0), .val (.int q1), .val (.int q2), .val (.ref a1), .val (.int v6), .val (.int v8), .val (.int v10), .val (.ref a13)] [(.int (own_f2 ((15 : Int32)) v10 ((own_fill ((own_data q0)) v6 (v8).toInt.toNat 0 (List.replicate (v8).toInt.toNat 0)))))])) _
                                      refine XS.ifNo X61.here hx rfl (hb hby at_268) rfl ((if0 _ _).trans (feq c63).1) ?_
                                      show Steps p.tables e below (T61.setTop (mkF m 271 #[.val (.int q0), .val (.int q1), .val (.int q2), .val (.ref a1), .val (.int v6), .val (.int v8), .val (.int v10), .val (.ref a13)] [])) _
                                      refine XS.iconst X61.here hx rfl (hb hby at_271) ?_
                                      show Steps p.tables e below (T61.setTop (mkF m 272 #[.val (.int q0), .val (.int q1), .val (.int q2), .val (.ref a1), .val (.int v6), .val (.int v8), .val (.int v10), .val (.ref a13)] [(.int (1 : Int32))])) _
                                      refine XS.goto X61.here hx rfl (pc0 := 272) (pc' := 276) rfl (hb hby at_272) (by decide) (by decide) ?_
                                      show Steps p.tables e below (T61.setTop (mkF m 276 #[.val (.int q0), .val (.int q1), .val (.int q2), .val (.ref a1), .val (.int v6), .val (.int v8), .val (.int v10), .val (.ref a13)] [(.int (1 : Int32))])) _
                                      exact retN X61 hx (t := .boolean) Bd.returns (by simp) (hb hby at_276) hr
                                    · show Q0 Z q0 q1 q2 h0 n0 _ T61.heap _
                                      rw [e61]
                                      exact ⟨by have w_hv10 := hv10.symm; subst w_hv10; have w_hv8 := hv8.symm; subst w_hv8; have w_hv6 := hv6.symm; subst w_hv6; simp only [own_f0, if_pos c15, if_neg c18, if_neg c21, if_neg c24, if_neg c27, if_neg c30, if_neg c33, if_neg c36, if_neg c39, if_neg c42, if_neg c45, if_neg c48, if_neg c51, if_neg c54, if_neg c57, if_neg c60, if_neg c63], N61⟩
  · obtain ⟨fs, hr, hrun, hended, hW, hsame⟩ := X13.leave (v := some (.int (0 : Int32))) (fun h => by rw [Bd.returns] at h; cases h) hlk
    refine ⟨_, _, pre14 _ ?_, hrun, hended, _, _, rfl, ?_, ⟨_, rfl⟩, hW, hsame.mono (by decide) (by decide)⟩
    · show Steps p.tables e below (T13.setTop (mkF m 80 #[.val (.int q0), .val (.int q1), .val (.int q2), .val (.ref a1), .val (.int v6), .val (.int v8), .val (.int v10), .val (.ref a13)] [(.int v8), (.int ((own_fill ((own_data q0)) v6 (v8).toInt.toNat 0 (List.replicate (v8).toInt.toNat 0)).length).toInt32)])) _
      refine XS.icmpNo X13.here hx rfl (hb hby at_80) rfl ((feq c15).1) ?_
      show Steps p.tables e below (T13.setTop (mkF m 83 #[.val (.int q0), .val (.int q1), .val (.int q2), .val (.ref a1), .val (.int v6), .val (.int v8), .val (.int v10), .val (.ref a13)] [])) _
      refine XS.iconst X13.here hx rfl (hb hby at_83) ?_
      show Steps p.tables e below (T13.setTop (mkF m 84 #[.val (.int q0), .val (.int q1), .val (.int q2), .val (.ref a1), .val (.int v6), .val (.int v8), .val (.int v10), .val (.ref a13)] [(.int (0 : Int32))])) _
      exact retN X13 hx (t := .boolean) Bd.returns (by simp) (hb hby at_84) hr
    · show Q0 Z q0 q1 q2 h0 n0 _ T13.heap _
      rw [e13]
      exact ⟨by have w_hv10 := hv10.symm; subst w_hv10; have w_hv8 := hv8.symm; subst w_hv8; have w_hv6 := hv6.symm; subst w_hv6; simp only [own_f0, if_neg c15], N13⟩
theorem own_fillat (ys : List Int32) (q1 : Int32) : ∀ (k : Nat) (i : Int32) (ps : List Int32) (j : Nat), 0 ≤ i.toInt → i.toInt + k ≤ (ps.length : Nat) → ps.length ≤ 100 →
    (own_fill ys q1 k i ps).getD j 0 = if i.toInt.toNat ≤ j ∧ j < i.toInt.toNat + k then own_bv ys q1 (Int32.ofNat j) else ps.getD j 0
  | 0, i, ps, j, h0, h1, h2 => by rw [own_fill, if_neg (by omega)]
  | k + 1, i, ps, j, h0, h1, h2 => by
    have e1 : (1 : Int32).toInt = 1 := by decide
    have a1 := own_iadd (x := i) (y := 1) (by omega)
    rw [own_fill, own_fillat ys q1 k (i + 1) _ j (by omega) (by rw [List.length_set]; omega) (by rw [List.length_set]; exact h2)]
    by_cases c : (i + 1).toInt.toNat ≤ j ∧ j < (i + 1).toInt.toNat + k
    · rw [if_pos c, if_pos (by omega)]
    · rw [if_neg c]
      by_cases d : j = i.toInt.toNat
      · subst d
        rw [if_pos (by omega)]
        have : i.toInt.toNat < ps.length := by omega
        have ei : Int32.ofNat i.toInt.toNat = i := by
          apply Int32.toInt_inj.mp
          rw [Int32.toInt_ofNat_of_lt (by omega)]; omega
        rw [own_gs1 _ _ _ _ this, ei]
      · rw [if_neg (by omega)]
        rw [own_gs2 _ _ _ _ _ (by omega)]
theorem own_one (x : Int32) (j : Nat) (hj : j < 32) (m : Int32) (hm : m.toBitVec = 1#32 <<< j) : x &&& m = 0 ↔ x.toBitVec.getLsbD j = false := by
  have z : (0 : Int32).toBitVec = 0#32 := by decide
  rw [← Int32.toBitVec_inj, Int32.toBitVec_and, hm, z]
  constructor
  · intro h
    have := congrArg (fun x => x.getLsbD j) h
    simpa [hj] using this
  · intro h
    apply BitVec.eq_of_getLsbD_eq
    intro i hi
    by_cases q : i = j
    · subst q; simp [h]
    · by_cases q2 : i < j
      · simp [q2]
      · have : i - j ≠ 0 := by omega
        simp [this]
theorem own_byte (x : Int32) (j : Nat) (hj : j < 8) : (x.toInt8.toInt32).toInt8.toInt32.toBitVec.getLsbD j = x.toBitVec.getLsbD j := by
  have e : (x.toInt8.toInt32).toInt8.toInt32.toBitVec = (x.toBitVec.signExtend 8).signExtend 32 := by simp
  rw [e, BitVec.getLsbD_signExtend, if_pos hj, BitVec.getLsbD_signExtend, if_pos (by omega)]
  simp [hj]
  intro; omega
theorem own_sh (x y : Int32) (n j : Nat) (hn : (y &&& 31).toBitVec.toNat % 32 = n) : ((x.toUInt32 >>> (y &&& 31).toUInt32).toInt32).toBitVec.getLsbD j = x.toBitVec.getLsbD (n + j) := by
  have e : ((x.toUInt32 >>> (y &&& 31).toUInt32).toInt32).toBitVec = x.toBitVec >>> n := by rw [← hn]; simp
  rw [e]; simp
/-- the byte of place b, its bit j: the int's bit -/
theorem own_dbit (a : Int32) (b j : Nat) (hb : b < 4) (hj : j < 8) : ((own_data a).getD b 0).toBitVec.getLsbD j = a.toBitVec.getLsbD (24 - 8 * b + j) := by
  match b, hb with
  | 0, _ => exact (own_byte _ j hj).trans (own_sh a 24 24 j (by decide))
  | 1, _ => exact (own_byte _ j hj).trans (own_sh a 16 16 j (by decide))
  | 2, _ => exact (own_byte _ j hj).trans (own_sh a 8 8 j (by decide))
  | 3, _ => exact (own_byte a j hj).trans (by rw [show 24 - 8 * 3 + j = j by omega])
theorem own_nums : ∀ i : Fin 16, ∀ f : Fin 3, ((Int32.ofNat f.1 + (Int32.ofNat i.1 / (8 : Int32)))).toInt.toNat = f.1 + i.1 / 8 ∧ ((((128 : Int32)).toUInt32 >>> ((Int32.ofNat i.1 % (8 : Int32)) &&& 31).toUInt32).toInt32).toBitVec = 1#32 <<< (7 - i.1 % 8) ∧ (((16 : Int32) - ((8 : Int32) * Int32.ofNat f.1)) &&& 31).toBitVec.toNat % 32 = 16 - 8 * f.1 ∧ (((15 : Int32) - Int32.ofNat i.1) &&& 31).toBitVec.toNat % 32 = 15 - i.1 := by decide +kernel
theorem own_bvbit (a : Int32) (i : Fin 16) (f : Fin 3) : own_bv (own_data a) (Int32.ofNat f.1) (Int32.ofNat i.1) = if a.toBitVec.getLsbD (31 - 8 * f.1 - i.1) then 1 else 0 := by
  obtain ⟨n1, n2, -, -⟩ := own_nums i f
  have hi := i.2
  have hf := f.2
  have o := own_one ((own_data a).getD (f.1 + i.1 / 8) 0) (7 - i.1 % 8) (by omega) _ n2
  rw [own_dbit a _ _ (by omega) (by omega)] at o
  have e : 24 - 8 * (f.1 + i.1 / 8) + (7 - i.1 % 8) = 31 - 8 * f.1 - i.1 := by omega
  rw [e] at o
  rw [own_bv, n1]
  by_cases c : a.toBitVec.getLsbD (31 - 8 * f.1 - i.1)
  · rw [if_neg (fun q => by rw [o.mp q] at c; cases c), if_pos c]
  · rw [if_pos (o.mpr (by simpa using c)), if_neg c]
theorem own_wbit (a : Int32) (i : Fin 16) (f : Fin 3) : ((((((a).toUInt32 >>> (((16 : Int32) - ((8 : Int32) * Int32.ofNat f.1)) &&& 31).toUInt32).toInt32 &&& (65535 : Int32))).toUInt32 >>> (((15 : Int32) - Int32.ofNat i.1) &&& 31).toUInt32).toInt32 &&& (1 : Int32)) = 0 ↔ a.toBitVec.getLsbD (31 - 8 * f.1 - i.1) = false := by
  obtain ⟨-, -, n3, n4⟩ := own_nums i f
  have hi := i.2
  have hf := f.2
  rw [own_one _ 0 (by decide) 1 (by decide), own_sh _ _ _ _ n4, Int32.toBitVec_and, BitVec.getLsbD_and, own_sh _ _ _ _ n3]
  have m : (65535 : Int32).toBitVec.getLsbD (15 - i.1 + 0) = true := by
    have : ∀ k : Fin 16, (65535 : Int32).toBitVec.getLsbD (15 - k.1 + 0) = true := by decide +kernel
    exact this i
  rw [m, Bool.and_true]
  have e : 16 - 8 * f.1 + (15 - i.1 + 0) = 31 - 8 * f.1 - i.1 := by omega
  rw [e]

theorem own_ofnat {z : Int32} {k : Nat} (h : 0 ≤ z.toInt ∧ z.toInt < (k : Nat)) : ∃ f : Fin k, z = Int32.ofNat f.1 := by
  refine ⟨⟨z.toInt.toNat, by omega⟩, ?_⟩
  apply Int32.toInt_inj.mp
  have := own_r32 z
  rw [Int32.toInt_ofNat_of_lt (by show z.toInt.toNat < 2 ^ 31; omega)]
  show z.toInt = (z.toInt.toNat : Int)
  omega
theorem own_at (a : Int32) (f : Fin 3) (n : Nat) (hn : n ≤ 16) (i : Fin 16) : own_f2 (Int32.ofNat i.1) ((((a).toUInt32 >>> (((16 : Int32) - ((8 : Int32) * Int32.ofNat f.1)) &&& 31).toUInt32).toInt32 &&& (65535 : Int32))) (own_fill (own_data a) (Int32.ofNat f.1) n 0 (List.replicate n 0)) = 1 := by
  have hi := i.2
  have ei : (Int32.ofNat i.1).toInt = (i.1 : Int) := Int32.toInt_ofNat_of_lt (by omega)
  have z : (0 : Int32).toInt = 0 := by decide
  have g := own_fillat (own_data a) (Int32.ofNat f.1) n 0 (List.replicate n 0) i.1 (by decide) (by rw [z, List.length_replicate]; omega) (by rw [List.length_replicate]; omega)
  have w := own_wbit a i f
  have v := own_bvbit a i f
  have hc : Int32.ofNat i.1 < ((own_fill (own_data a) (Int32.ofNat f.1) n 0 (List.replicate n 0)).length).toInt32 ↔ (i.1 : Int) < (n : Int) := by
    rw [own_filllen, List.length_replicate, Int32.lt_iff_toInt_lt, len_toInt (n := n) (by omega), ei]
  rw [own_f2]
  by_cases c : (i.1 : Int) < (n : Int)
  · have e2 : (Int32.ofNat i.1).toInt.toNat = i.1 := by rw [ei]; omega
    rw [z, if_pos (by omega)] at g
    rw [if_pos (hc.mpr c), e2, g, v]
    by_cases d : a.toBitVec.getLsbD (31 - 8 * f.1 - i.1) = false
    · rw [if_pos (w.mpr d), d]; rfl
    · rw [if_neg (fun q => d (w.mp q))]
      have d' : a.toBitVec.getLsbD (31 - 8 * f.1 - i.1) = true := by simpa using d
      rw [d']; rfl
  · rw [if_neg (fun q => c (hc.mp q))]
set_option maxHeartbeats 4000000 in
theorem own_plain (q0 q1 q2 : Int32) : own_f0 q0 q1 q2 = 1 := by
  obtain ⟨f, hf⟩ := own_ofnat (own_rem (x := q1) (n := 3) (k := (3 : Nat)) rfl (by decide) (by decide))
  have hz := own_rem (x := q2) (n := 17) (k := 17) rfl (by decide) (by decide)
  have hl : ((q2 &&& 2147483647) % 17).toInt.toNat.toInt32 = (q2 &&& 2147483647) % 17 := by
    apply Int32.toInt_inj.mp
    rw [len_toInt (by omega)]
    omega
  have hA := fun i => own_at q0 f ((q2 &&& 2147483647) % 17).toInt.toNat (by omega) i
  rw [← hf] at hA
  have n1 : ¬ ((1 : Int32) = 0) := by decide
  have B : ∀ (z : Int32) (i : Fin 16), z = Int32.ofNat i.1 → own_f2 z ((((q0).toUInt32 >>> (((16 : Int32) - ((8 : Int32) * ((q1 &&& (2147483647 : Int32)) % (3 : Int32)))) &&& 31).toUInt32).toInt32 &&& (65535 : Int32))) (own_fill (own_data q0) ((q1 &&& (2147483647 : Int32)) % (3 : Int32)) ((q2 &&& 2147483647) % 17).toInt.toNat 0 (List.replicate ((q2 &&& 2147483647) % 17).toInt.toNat 0)) = 1 := fun z i h => by rw [h]; exact hA i
  simp only [own_f0, own_filllen, List.length_replicate, hl, if_true]
  rw [B 0 0 rfl, if_neg n1, B 1 1 rfl, if_neg n1, B 2 2 rfl, if_neg n1, B 3 3 rfl, if_neg n1, B 4 4 rfl, if_neg n1, B 5 5 rfl, if_neg n1, B 6 6 rfl, if_neg n1, B 7 7 rfl, if_neg n1, B 8 8 rfl, if_neg n1, B 9 9 rfl, if_neg n1, B 10 10 rfl, if_neg n1, B 11 11 rfl, if_neg n1, B 12 12 rfl, if_neg n1, B 13 13 rfl, if_neg n1, B 14 14 rfl, if_neg n1, B 15 15 rfl, if_neg n1]

set_option maxRecDepth 65536 in
set_option maxHeartbeats 40000000 in
theorem comes_1 {Post : Tables → Env → Array Value → State → Outcome → State → Prop} (hpost : ∀ tb e args s v u, (limb_1_1.after args s (.returned v) u = true ∧ limb_1_2.after args s (.returned v) u = true ∧ True) → FrameEnd s (.returned v) u (Jvm.fieldLocs frame_1_writes args s ++ Jvm.arrayLocs frame_1_arrays args s ++ Jvm.staticLocs frame_1_statics s) 16 128 → Post tb e args s (.returned v) u) :
    ArmFor flags0 classFile x code maxLocals ret World_1 tables_1 room_1 Calls_1 rest_1 Pre_1 Post := by
  intro l hfl _ _ p e ha hc hk s m args below hf hA hF happ hP
  obtain ⟨hcalls, hrest, hpre⟩ := hP
  obtain ⟨-, -, -, hnamed, -, -, -, hat⟩ := (Spec.applies_iff hf).mp happ
  obtain ⟨hg, hn⟩ := and_e (Cond.before_iff.mp (show (Jvm.Cond.and given_1 narrow_1).before args s = true from hpre))
  obtain ⟨gc, gr0⟩ := and_e hg
  obtain ⟨w0, w1, w2, rfl⟩ : ∃ w0 w1 w2 : Value, args = #[w0, w1, w2] := by
    have hs : args.size = 3 := by simpa [Cond.value, given_1] using gc
    obtain ⟨L⟩ := args
    match L, hs with
    | [w0, w1, w2], _ => exact ⟨w0, w1, w2, rfl⟩
  have hw := fun d (hd : d ∈ tables_1) => atoms_spec (ws := Jvm.Cond.code x code maxLocals ret :: tables_1) hat d (List.mem_cons_of_mem _ hd)
  obtain ⟨g0, gr1⟩ := and_e gr0
  obtain ⟨i0, ei0⟩ := is_v g0
  obtain rfl : w0 = (.int i0) := Option.some.inj ei0
  obtain ⟨g1, gr2⟩ := and_e gr1
  obtain ⟨i1, ei1⟩ := is_v g1
  obtain rfl : w1 = (.int i1) := Option.some.inj ei1
  obtain ⟨i2, ei2⟩ := is_v gr2
  obtain rfl : w2 = (.int i2) := Option.some.inj ei2
  obtain ⟨n, o, h1, h2, h3, _, L, rfl, ⟨hv, N⟩, hq⟩ := rm0 l s _ hw tables_1 i0 i1 i2 s.heap s.heap.size (Nat.le_refl _) p e ha hc hk s m _ below hf ((Spec.applies_iff_loose hf).mp happ).1 ⟨rfl, State.Warmed39.refl s, rfl⟩ trivial
  rw [own_plain] at hv
  subst hv
  refine ⟨n, _, h1, h2, h3, hpost _ _ _ _ _ _ ⟨Cond.after_iff.mpr rfl, Cond.after_iff.mpr (eq_i res_at (Term.int_eval (1)) rfl), trivial⟩ ⟨hq.1, hq.2.1, (hq.2.2.sift fun y hy => Or.inr (N y hy)).mono (by decide) (by decide)⟩⟩
theorem main_1_1 : Claimed_1_1 := comes_1 fun _ _ _ _ _ _ h hF => ⟨h.1, hF⟩
theorem main_1_2 : Claimed_1_2 := comes_1 fun _ _ _ _ _ _ h hF => ⟨h.2.1, hF⟩
end Jvm.Pilot.@@N@@
namespace Jvm.Pilot.@@N@@
open Jvm Jvm.ClassFile Sem Op Lib Jvm.Free Jvm.Stand Jvm.Pilot.@@N@@.Jvm.D
/-! MADE BY PROGRAM (witnessworld.py) out of the Statement's table words and the real class files: 11 classes; the members and pool entries that the words name. The judged class is class 1, her method 2. -/
namespace start1
open Jvm.ClassFile
def u (s : String) : CpInfo := .utf8 (stringToUtf16 s)
/-- a pool by its gaps: so many unusable entries, then the entry; so many at the end -/
def gap : Nat → List CpInfo → List CpInfo
  | 0, r => r
  | n + 1, r => .unusable :: gap n r
def poolList (es : List (Nat × CpInfo)) (last : Nat) : List CpInfo := es.foldr (fun e r => gap e.1 (e.2 :: r)) (gap last [])
def pool (es : List (Nat × CpInfo)) (last : Nat) : Array CpInfo := ⟨poolList es last⟩
def fileOf (pool : Array CpInfo) (this : Nat) (attrs : Array Attribute := #[]) (ms : Array MethodInfo := #[]) (fl : Nat := 33) (sup : Nat := 0) (ifs : Array Nat := #[]) (fds : Array FieldInfo := #[]) : ClassFile where
  minorVersion := 0
  majorVersion := 65
  constantPool := pool
  accessFlags := fl
  thisClass := this
  superClass := sup
  interfaces := ifs
  fields := fds
  methods := ms
  attributes := attrs
def plain (name : String) (sup : Option ClassId) : Class where
  name := name
  kind := .ordinary
  loader := none
  accessFlags := 33
  super := sup
  interfaces := #[]
  cf := none
  fields := #[]
  methods := #[]
  instanceTypes := #[]
  staticTypes := #[]
  resolved := #[]
  callSites := []
  init := .initialized
  statics := none
  mirror := none

def pool0 : Array CpInfo := pool [(5, u "<init>"), (0, u "()V"), (1, .class_ 10), (1, u "java/lang/Object")] 113

def k0m0 : Method := { name := "<init>", desc := "()V", sig := { parameters := [], returnType := none }, accessFlags := 1, code := none }
/-- java/lang/Object -/
def k0 : Class := { plain "java/lang/Object" none with
  accessFlags := 33
  interfaces := #[]
  cf := some (fileOf pool0 8 #[] #[{ accessFlags := 1, nameIndex := 5, descriptorIndex := 6, attributes := #[] }] 33 0 #[] #[])
  fields := #[]
  methods := #[k0m0]
  instanceTypes := #[]
  staticTypes := #[]
  resolved := Array.replicate 124 none
  statics := none }

def pool1 : Array CpInfo := pool [(2, .class_ 4), (1, u "java/lang/Object"), (0, u "<init>"), (0, u "()V"), (0, .integer 2147483647), (0, .integer 65535), (0, .methodref 10 11), (0, .class_ 12), (0, .nameAndType 13 14), (0, u "com/example/cardglyph/cardglyph/image/PackedPoints"), (0, u "unpackBits"), (0, u "([BII)[Z"), (0, .methodref 16 17), (0, .class_ 18), (0, .nameAndType 19 20), (0, u "com/example/cardglyph/cardglyph/image/PackedPointsUnpackBitsPinLaw"), (0, u "at"), (0, u "([ZII)Z"), (5, u "law"), (0, u "(III)Z")] 4

def k1m0 : Method := { name := "<init>", desc := "()V", sig := { parameters := [], returnType := none }, accessFlags := 2, code := none }
def k1c1 : Code := { maxStack := 4, maxLocals := 3, code := method_2_code, exceptionTable := #[], attributes := #[] }
def k1m1 : Method := { name := "at", desc := "([ZII)Z", sig := { parameters := [(.array .boolean), .int, .int], returnType := some .boolean }, accessFlags := 10, code := some k1c1 }
def k1c2 : Code := { maxStack := 4, maxLocals := 8, code := code, exceptionTable := #[], attributes := #[] }
def k1m2 : Method := { name := "law", desc := "(III)Z", sig := { parameters := [.int, .int, .int], returnType := some .boolean }, accessFlags := 9, code := some k1c2 }
/-- com/example/cardglyph/cardglyph/image/PackedPointsUnpackBitsPinLaw -/
def k1 : Class := { plain "com/example/cardglyph/cardglyph/image/PackedPointsUnpackBitsPinLaw" (some 0) with
  accessFlags := 49
  interfaces := #[]
  cf := some (fileOf pool1 16 #[] #[{ accessFlags := 2, nameIndex := 5, descriptorIndex := 6, attributes := #[] }, { accessFlags := 10, nameIndex := 19, descriptorIndex := 20, attributes := #[] }, { accessFlags := 9, nameIndex := 26, descriptorIndex := 27, attributes := #[] }] 49 2 #[] #[])
  fields := #[]
  methods := #[k1m0, k1m1, k1m2]
  instanceTypes := #[]
  staticTypes := #[]
  resolved := Array.replicate 32 none
  statics := none }

def pool2 : Array CpInfo := pool [(2, .class_ 4), (1, u "java/lang/Object"), (0, u "<init>"), (0, u "()V"), (3, .class_ 12), (1, u "com/example/cardglyph/cardglyph/image/PackedPoints"), (17, u "unpackBits"), (0, u "([BII)[Z")] 6

def k2m0 : Method := { name := "<init>", desc := "()V", sig := { parameters := [], returnType := none }, accessFlags := 2, code := none }
def k2c1 : Code := { maxStack := 6, maxLocals := 5, code := prog_21_method_4_code, exceptionTable := #[], attributes := #[] }
def k2m1 : Method := { name := "unpackBits", desc := "([BII)[Z", sig := { parameters := [(.array .byte), .int, .int], returnType := some (.array .boolean) }, accessFlags := 8, code := some k2c1 }
/-- com/example/cardglyph/cardglyph/image/PackedPoints -/
def k2 : Class := { plain "com/example/cardglyph/cardglyph/image/PackedPoints" (some 0) with
  accessFlags := 48
  interfaces := #[]
  cf := some (fileOf pool2 10 #[] #[{ accessFlags := 2, nameIndex := 5, descriptorIndex := 6, attributes := #[] }, { accessFlags := 8, nameIndex := 30, descriptorIndex := 31, attributes := #[] }] 48 2 #[] #[])
  fields := #[]
  methods := #[k2m0, k2m1]
  instanceTypes := #[]
  staticTypes := #[]
  resolved := Array.replicate 38 none
  statics := none }

def pool3 : Array CpInfo := pool [(1, u "java/lang/Cloneable"), (0, .class_ 1), (0, u "java/lang/Object"), (0, .class_ 3)] 3

/-- java/lang/Cloneable -/
def k3 : Class := { plain "java/lang/Cloneable" (some 0) with
  accessFlags := 1537
  interfaces := #[]
  cf := some (fileOf pool3 2 #[] #[] 1537 4 #[] #[])
  fields := #[]
  methods := #[]
  instanceTypes := #[]
  staticTypes := #[]
  resolved := Array.replicate 8 none
  statics := none }

def pool4 : Array CpInfo := pool [(1, u "java/io/Serializable"), (0, .class_ 1), (0, u "java/lang/Object"), (0, .class_ 3)] 3

/-- java/io/Serializable -/
def k4 : Class := { plain "java/io/Serializable" (some 0) with
  accessFlags := 1537
  interfaces := #[]
  cf := some (fileOf pool4 2 #[] #[] 1537 4 #[] #[])
  fields := #[]
  methods := #[]
  instanceTypes := #[]
  staticTypes := #[]
  resolved := Array.replicate 8 none
  statics := none }

/-- the primitive boolean -/
def k5 : Class := { plain "boolean" none with kind := .primitive 'Z', accessFlags := 0x411 }
/-- [Z -/
def k6 : Class := { plain "[Z" (some 0) with kind := .array 5 .boolean, interfaces := #[3, 4], accessFlags := 1041 }

/-- the primitive byte -/
def k7 : Class := { plain "byte" none with kind := .primitive 'B', accessFlags := 0x411 }
/-- [B -/
def k8 : Class := { plain "[B" (some 0) with kind := .array 7 .byte, interfaces := #[3, 4], accessFlags := 1041 }

/-- the primitive int -/
def k9 : Class := { plain "int" none with kind := .primitive 'I', accessFlags := 0x411 }
/-- [I -/
def k10 : Class := { plain "[I" (some 0) with kind := .array 9 .int, interfaces := #[3, 4], accessFlags := 1041 }

def heap : Heap := #[]
def classes : Array Class := #[k0, k1, k2, k3, k4, k5, k6, k7, k8, k9, k10]
def interned : List (Array UInt16 × Addr) := []
def slotsUsed : Nat := 0
def theMethod : MethodId := ⟨1, 2⟩
def args0 : Array Value := #[.int 2, .int 5, .int 6]
def aboutOver (below : List Frame) : State where
  vm := { classes := classes, interned := interned.toArray }
  heap := heap
  slotsUsed := slotsUsed
  threads := #[{ frames := .invoking theMethod args0 :: below }]
def below0 : List Frame := [.native { method := ⟨0, 0⟩, args := #[] }]
def about1 : State := aboutOver below0
def p0 : Program := .bare "" "" ""
def e0 : Env := launch0.env 0 0 0
theorem w_frames : about1.frames = Frame.invoking theMethod args0 :: below0 := rfl
set_option maxRecDepth 65536 in
theorem w_args : argsFit about1.vm theMethod args0 = true := by decide +kernel
set_option maxRecDepth 65536 in
theorem w_heap : heapFits about1 = true := by decide +kernel
set_option maxRecDepth 65536 in
theorem w_runnable : about1.curStatus? = some .runnable := by decide +kernel
set_option maxRecDepth 65536 in
theorem w_alone : about1.alone = true := by decide +kernel
set_option maxRecDepth 65536 in
theorem w_named : about1.methodNamed? x = some theMethod := by decide +kernel
set_option maxRecDepth 65536 in
theorem w_hears : about1.hears theMethod below0 = true := by decide +kernel
set_option maxRecDepth 65536 in
theorem w_ripe : about1.ripe theMethod args0 below0 = true := by decide +kernel
theorem w_running : about1.status = .running := rfl
set_option maxRecDepth 65536 in
theorem w_room : about1.hasRoom e0.platform room_1 = true :=
  launch0.hasRoom_least _ room_1 (by decide +kernel) (by decide +kernel) (by decide +kernel) (by decide +kernel) (by decide +kernel) (by decide +kernel)
theorem allAtoms_all (ts : List Jvm.Cond) (a : Array Jvm.Value) (st : Jvm.State) : (allAtoms ts).before a st = ts.all (fun c => c.before a st) := by
  induction ts with
  | nil => rfl
  | cons c t ih =>
    show (Jvm.Cond.and c (allAtoms t)).before a st = _
    rw [Jvm.Cond.before_and, ih, List.all_cons]
def words1 : List Jvm.Cond := Jvm.Cond.code x code maxLocals ret :: tables_1
/-- a 'code' word, met by the world's own term for the bytes: nothing is compared byte by byte -/
theorem code_word {y : MethodName} {bytes : ByteArray} {mx : Nat} {rt : Option FieldType} {a : Array Value} {s : State} {m : MethodId} {meth : Method} {c : Code} (h1 : s.methodNamed? y = some m) (h2 : s.vm.method? m = some meth) (h3 : meth.code = some c) (h4 : c.code = bytes)
    (h5 : (c.maxLocals == mx && c.exceptionTable.isEmpty && decide (c.maxStack ≤ mostOperands) && decide (meth.sig.returnType = rt) && !meth.locks && decide (parseMethodDescriptor y.desc = some meth.sig)) = true) : (Jvm.Cond.code y bytes mx rt).before a s = true := by
  simp only [Bool.and_eq_true, beq_iff_eq, Bool.not_eq_true', decide_eq_true_eq] at h5
  obtain ⟨⟨⟨⟨⟨g1, g2⟩, g3⟩, g4⟩, g5⟩, g6⟩ := h5
  simp [Cond.before, Cond.holds, Cond.value, h1, h2, h3, h4, g1, g2, g3, g4, g5, g6]
def isCode : Jvm.Cond → Bool
  | .code _ _ _ _ => true
  | _ => false
theorem all_split {L : List Jvm.Cond} {P : Jvm.Cond → Bool} (h1 : L.all (fun c => isCode c || P c) = true) (h2 : ∀ c ∈ L.filter isCode, P c = true) : L.all P = true := by
  refine List.all_eq_true.mpr fun c hc => ?_
  have h := List.all_eq_true.mp h1 c hc
  rcases Bool.eq_false_or_eq_true (isCode c) with hi | hi
  · exact h2 c (List.mem_filter.mpr ⟨hc, hi⟩)
  · simpa [hi] using h
set_option maxRecDepth 65536 in
theorem w_c0 : (Jvm.Cond.code x code maxLocals ret).before args0 about1 = true := code_word (m := ⟨1, 2⟩) (meth := k1m2) (c := k1c2) (by decide +kernel) rfl rfl rfl (by decide +kernel)
set_option maxRecDepth 65536 in
theorem w_c1 : (Jvm.Cond.code ({ cls := "com/example/cardglyph/cardglyph/image/PackedPoints", name := "unpackBits", desc := "([BII)[Z" } : Jvm.MethodName) prog_21_method_4_code (5 : Nat) (Option.some (Jvm.ClassFile.FieldType.array Jvm.ClassFile.FieldType.boolean))).before args0 about1 = true := code_word (m := ⟨2, 1⟩) (meth := k2m1) (c := k2c1) (by decide +kernel) rfl rfl rfl (by decide +kernel)
set_option maxRecDepth 65536 in
theorem w_c2 : (Jvm.Cond.code ({ cls := "com/example/cardglyph/cardglyph/image/PackedPointsUnpackBitsPinLaw", name := "at", desc := "([ZII)Z" } : Jvm.MethodName) method_2_code (3 : Nat) (Option.some Jvm.ClassFile.FieldType.boolean)).before args0 about1 = true := code_word (m := ⟨1, 1⟩) (meth := k1m1) (c := k1c1) (by decide +kernel) rfl rfl rfl (by decide +kernel)
def codes1 : List Jvm.Cond := [Jvm.Cond.code x code maxLocals ret, Jvm.Cond.code ({ cls := "com/example/cardglyph/cardglyph/image/PackedPoints", name := "unpackBits", desc := "([BII)[Z" } : Jvm.MethodName) prog_21_method_4_code (5 : Nat) (Option.some (Jvm.ClassFile.FieldType.array Jvm.ClassFile.FieldType.boolean)), Jvm.Cond.code ({ cls := "com/example/cardglyph/cardglyph/image/PackedPointsUnpackBitsPinLaw", name := "at", desc := "([ZII)Z" } : Jvm.MethodName) method_2_code (3 : Nat) (Option.some Jvm.ClassFile.FieldType.boolean)]
set_option maxRecDepth 65536 in
theorem codes_eq : words1.filter isCode = codes1 := rfl
theorem w_codes : ∀ c ∈ words1.filter isCode, c.before args0 about1 = true := by
  rw [codes_eq]
  intro c hc
  simp only [codes1, List.mem_cons, List.not_mem_nil, or_false] at hc
  rcases hc with rfl | rfl | rfl
  · exact w_c0
  · exact w_c1
  · exact w_c2
set_option maxRecDepth 65536 in
theorem w_t1 : words1.all (fun c => isCode c || c.before args0 about1) = true := by decide +kernel
theorem w_tables : (allAtoms (Jvm.Cond.code x code maxLocals ret :: tables_1)).before args0 about1 = true := by
  rw [allAtoms_all]
  show words1.all (fun c => c.before args0 about1) = true
  refine all_split ?_ w_codes
  rw [w_t1]
set_option maxRecDepth 65536 in
theorem w_case : (Jvm.Cond.and given_1 narrow_1).before args0 about1 = true := by decide +kernel
theorem w_applies : (headSpec (Jvm.Cond.code x code maxLocals ret :: tables_1) room_1).applies x e0.platform about1 = true :=
  (Spec.applies_iff w_frames).mpr ⟨w_running, w_runnable, w_alone, w_named, w_hears, w_ripe, w_room, w_tables⟩
theorem atStart : AtStart classFile x code maxLocals ret World_1 tables_1 room_1 Calls_1 rest_1 Pre_1 launch0 p0 e0 about1 theMethod args0 below0 :=
  ⟨lists_1, trivial, launch0.admits_env _ _ _, launch0.least_env, fairChoices_fair.cas, fairChoices_fair.clock, w_frames, w_args, w_heap, w_applies, trivial, trivial, w_case⟩
end start1
theorem witness_1 : WitnessClaimed_1 := ⟨start1.p0, start1.e0, start1.about1, start1.theMethod, start1.args0, start1.below0, start1.atStart⟩
end Jvm.Pilot.@@N@@
