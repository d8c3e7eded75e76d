import JvmDerived
import JvmDerived.Pilot.@@N@@Statement
import JvmDerived.Pilot.@@N@@Code
set_option linter.unusedVariables false
set_option linter.unusedSimpArgs false
namespace Jvm.RoadKit
open Sem ClassFile Op Lib Jvm.Stand Jvm.Free Jvm.LawKit
section New
variable {p : Program} {l : Launch} {e : Env} {R : Room} {s : State} {m : MethodId} {args : Array Value} {below : List Frame} {meth : Method} {c : Code} {T : State} {locs : List Loc} {cells slots : Nat}
theorem retI (X : Stand p l e R s m args below meth c T locs cells slots) (hx : p.tables.exec = Jvm.exec) {pc : Nat} {Ls : Array Slot} {z : Int32} {rest : List Value} (hret : meth.sig.returnType = some .int) (hd : decode c.code pc = .ok (.ireturn, 1)) {fs : List Frame}
    (hl : ∀ (f : JFrame) (acts : List Action), f.method = m → f.locked = none → f.entered = [] → (doReturn e (T.setTop f) acts (some (.int z))).1 = T.setFrames fs) : Steps p.tables e below (T.setTop (mkF m pc Ls (.int z :: rest))) (T.setFrames fs) := by
  have hm' : T.vm.method? m = some meth := X.method'
  have hn : narrow .int (.int z) = .int z := rfl
  show Steps p.tables e below (T.setTop { method := m, pc := pc, locals := Ls, stack := _ :: rest, locked := none }) _
  jvm_step X.here [X.here.top, hx, hd, hm', hret, hn]
  first | (intro acts; rw [hl _ acts rfl rfl rfl]) | rw [hl _ _ rfl rfl rfl]
  exact Steps.refl _
end New
end Jvm.RoadKit
namespace Jvm.Pilot.@@N@@
open Jvm Jvm.ClassFile Sem Op Lib Jvm.Free Jvm.Stand Jvm.LawKit Jvm.RoadKit Bundle Jvm.Pilot.@@N@@.Jvm.D
section OwnKit
variable {p : Program} {l : Launch} {e : Env} {R : Room} {s : State} {m : MethodId} {args : Array Value} {below : List Frame} {meth : Method} {c : Code} {T : State} {locs : List Loc} {cells slots : Nat} {Z : State} {h h' : Heap}
theorem own_lremM {g : JFrame} {target : State} (X : Stand p l e R s m args below meth c T locs cells slots) (hx : p.tables.exec = Jvm.exec) (hg : g.method = m) {x y : Int64} {rest : List Value} (hd : decode c.code g.pc = .ok (.lrem, 1)) (hs : g.stack = .long y :: .long x :: rest) (hy : y ≠ 0)
    (hr : Steps p.tables e below (T.setTop { g with pc := g.pc + 1, stack := .long (x % y) :: rest }) target) : Steps p.tables e below (T.setTop g) target :=
  XS.lrem X.here hx hg hd hs hy (by rw [lrem_mod]; exact hr)
/-- an array, by the list of its values -/
def own_A (Z : State) (h : Heap) (a : Addr) (ty : FieldType) (vs : List Value) : Prop := ∃ c : Cell, Arr Z h a c ty ∧ c.slots = vs.toArray
def own_AJ (Z : State) (h : Heap) (a : Addr) (xs : List Int64) : Prop := own_A Z h a .long (xs.map .long)
def own_AI (Z : State) (h : Heap) (a : Addr) (ty : FieldType) (xs : List Int32) : Prop := own_A Z h a ty (xs.map .int)
section Facts
variable {a b : Addr} {ty : FieldType} {vs : List Value} {xs : List Int64} {ys : List Int32} {sl : Nat} {v : Value} {ws : List Addr}
theorem own_A.ext (F : own_A Z h a ty vs) (E : Ext h h') : own_A Z h' a ty vs := by obtain ⟨c, A, r⟩ := F; exact ⟨c, A.ext E, r⟩
theorem own_A.other (F : own_A Z h b ty vs) (W : Wr h h' a sl v) (q : b ≠ a) : own_A Z h' b ty vs := by obtain ⟨c, A, r⟩ := F; exact ⟨c, A.other W q, r⟩
theorem own_A.keep (F : own_A Z h a ty vs) (K : Keep h h' ws) (q : a ∉ ws) : own_A Z h' a ty vs := by obtain ⟨c, A, r⟩ := F; exact ⟨c, ⟨K.2.1 a c A.1 q, A.2⟩, r⟩
theorem own_A.lt (F : own_A Z h a ty vs) : a < h.size := by obtain ⟨c, A, -⟩ := F; exact A.lt
theorem own_AJ.ext (F : own_AJ Z h a xs) (E : Ext h h') : own_AJ Z h' a xs := own_A.ext F E
theorem own_AJ.other (F : own_AJ Z h b xs) (W : Wr h h' a sl v) (q : b ≠ a) : own_AJ Z h' b xs := own_A.other F W q
theorem own_AJ.keep (F : own_AJ Z h a xs) (K : Keep h h' ws) (q : a ∉ ws) : own_AJ Z h' a xs := own_A.keep F K q
theorem own_AJ.lt (F : own_AJ Z h a xs) : a < h.size := own_A.lt F
theorem own_AI.ext (F : own_AI Z h a ty ys) (E : Ext h h') : own_AI Z h' a ty ys := own_A.ext F E
theorem own_AI.other (F : own_AI Z h b ty ys) (W : Wr h h' a sl v) (q : b ≠ a) : own_AI Z h' b ty ys := own_A.other F W q
theorem own_AI.keep (F : own_AI Z h a ty ys) (K : Keep h h' ws) (q : a ∉ ws) : own_AI Z h' a ty ys := own_A.keep F K q
theorem own_AI.lt (F : own_AI Z h a ty ys) : a < h.size := own_A.lt F
theorem own_A.set (F : own_A Z h a ty vs) {k : Nat} (W : Wr h h' a k v) : own_A Z h' a ty (vs.set k v) := by
  obtain ⟨c, A, r⟩ := F
  refine ⟨c.setSlot k v, A.same W, ?_⟩
  simp [Cell.setSlot, r]
theorem own_A_new {cA : ClassId} {n : Int32} {k : Nat} (A : Arr Z h a (newA cA ty n) ty) (hk : n.toNatClampNeg = k) : own_A Z h a ty (List.replicate k (defaultValue ty)) := by
  subst hk
  exact ⟨_, A, by simp [newA]⟩
theorem own_AJ_new {cA : ClassId} {n : Int32} {k : Nat} (A : Arr Z h a (newA cA .long n) .long) (hk : n.toNatClampNeg = k) : own_AJ Z h a (List.replicate k 0) := by
  have q := own_A_new A hk
  rw [own_AJ, List.map_replicate]; exact q
theorem own_AIint_new {cA : ClassId} {n : Int32} {k : Nat} (A : Arr Z h a (newA cA .int n) .int) (hk : n.toNatClampNeg = k) : own_AI Z h a .int (List.replicate k 0) := by
  have q := own_A_new A hk
  rw [own_AI, List.map_replicate]; exact q
theorem own_AIbyte_new {cA : ClassId} {n : Int32} {k : Nat} (A : Arr Z h a (newA cA .byte n) .byte) (hk : n.toNatClampNeg = k) : own_AI Z h a .byte (List.replicate k 0) := by
  have q := own_A_new A hk
  rw [own_AI, List.map_replicate]; exact q
theorem own_AIboolean_new {cA : ClassId} {n : Int32} {k : Nat} (A : Arr Z h a (newA cA .boolean n) .boolean) (hk : n.toNatClampNeg = k) : own_AI Z h a .boolean (List.replicate k 0) := by
  have q := own_A_new A hk
  rw [own_AI, List.map_replicate]; exact q
theorem own_inb {cl : Cell} {j : Int32} (r : cl.slots = vs.toArray) (hj : 0 ≤ j.toInt ∧ j.toInt < (vs.length : Nat)) : ¬ (j < 0 ∨ cl.slots.size ≤ j.toNatClampNeg) ∧ j.toNatClampNeg = j.toInt.toNat := by
  have e : j.toNatClampNeg = j.toInt.toNat := rfl
  refine ⟨fun q => ?_, e⟩
  rcases q with q | q
  · rw [Int32.lt_iff_toInt_lt] at q
    have : (0 : Int32).toInt = 0 := by decide
    omega
  · rw [r, e] at q
    simp at q
    omega
end Facts
theorem own_at? {α : Type} (f : α → Value) (xs : List α) (k : Nat) (d : α) (hk : k < xs.length) : (xs.map f).toArray[k]? = some (f (xs.getD k d)) := by
  simp [List.getD, hk]
section Loads
variable {a : Addr} {xs : List Int64} {ys : List Int32} {j : Int32} {pc : Nat} {Ls : Array Slot} {rest : List Value}
theorem own_laload (X : Stand p l e R s m args below meth c T locs cells slots) (hx : p.tables.exec = Jvm.exec) (hZ : Z.Warmed39 s.vm) (eT : T.heap = h) (A : own_AJ Z h a xs) (hj : 0 ≤ j.toInt ∧ j.toInt < (xs.length : Nat)) (hd : decode c.code pc = .ok (.laload, 1)) (target : State)
    (hr : Steps p.tables e below (T.setTop (mkF m (pc + 1) Ls (.long (xs.getD j.toInt.toNat 0) :: rest))) target) : Steps p.tables e below (T.setTop (mkF m pc Ls (.int j :: .ref a :: rest))) target := by
  obtain ⟨cl, A, r⟩ := A
  obtain ⟨q1, q2⟩ := own_inb (j := j) r (by simpa using hj)
  refine X.laload hx (by rw [eT]; exact A.1) (State.isArrayOf_alike hZ.alike A.2.1) A.2.2 q1 (v := .long (xs.getD j.toInt.toNat 0)) ?_ (g := mkF m pc Ls (.int j :: .ref a :: rest)) rfl rfl hd target hr
  rw [q2, r]
  exact own_at? _ xs _ 0 (by omega)
theorem own_iaload (X : Stand p l e R s m args below meth c T locs cells slots) (hx : p.tables.exec = Jvm.exec) (hZ : Z.Warmed39 s.vm) (eT : T.heap = h) (A : own_AI Z h a .int ys) (hj : 0 ≤ j.toInt ∧ j.toInt < (ys.length : Nat)) (hd : decode c.code pc = .ok (.iaload, 1)) (target : State)
    (hr : Steps p.tables e below (T.setTop (mkF m (pc + 1) Ls (.int (ys.getD j.toInt.toNat 0) :: rest))) target) : Steps p.tables e below (T.setTop (mkF m pc Ls (.int j :: .ref a :: rest))) target := by
  obtain ⟨cl, A, r⟩ := A
  obtain ⟨q1, q2⟩ := own_inb (j := j) r (by simpa using hj)
  refine X.iaload hx (by rw [eT]; exact A.1) (State.isArrayOf_alike hZ.alike A.2.1) A.2.2 q1 (v := .int (ys.getD j.toInt.toNat 0)) ?_ (g := mkF m pc Ls (.int j :: .ref a :: rest)) rfl rfl hd target hr
  rw [q2, r]
  exact own_at? _ ys _ 0 (by omega)
theorem own_baloadB (X : Stand p l e R s m args below meth c T locs cells slots) (hx : p.tables.exec = Jvm.exec) (hZ : Z.Warmed39 s.vm) (eT : T.heap = h) (A : own_AI Z h a .byte ys) (hj : 0 ≤ j.toInt ∧ j.toInt < (ys.length : Nat)) (hd : decode c.code pc = .ok (.baload, 1)) (target : State)
    (hr : Steps p.tables e below (T.setTop (mkF m (pc + 1) Ls (.int (ys.getD j.toInt.toNat 0) :: rest))) target) : Steps p.tables e below (T.setTop (mkF m pc Ls (.int j :: .ref a :: rest))) target := by
  obtain ⟨cl, A, r⟩ := A
  obtain ⟨q1, q2⟩ := own_inb (j := j) r (by simpa using hj)
  refine X.baloadBytes hx (by rw [eT]; exact A.1) (State.isArrayOf_alike hZ.alike A.2.1) A.2.2 q1 (v := .int (ys.getD j.toInt.toNat 0)) ?_ (g := mkF m pc Ls (.int j :: .ref a :: rest)) rfl rfl hd target hr
  rw [q2, r]
  exact own_at? _ ys _ 0 (by omega)
theorem own_baloadZ (X : Stand p l e R s m args below meth c T locs cells slots) (hx : p.tables.exec = Jvm.exec) (hZ : Z.Warmed39 s.vm) (eT : T.heap = h) (A : own_AI Z h a .boolean ys) (hj : 0 ≤ j.toInt ∧ j.toInt < (ys.length : Nat)) (hd : decode c.code pc = .ok (.baload, 1)) (target : State)
    (hr : Steps p.tables e below (T.setTop (mkF m (pc + 1) Ls (.int (ys.getD j.toInt.toNat 0) :: rest))) target) : Steps p.tables e below (T.setTop (mkF m pc Ls (.int j :: .ref a :: rest))) target := by
  obtain ⟨cl, A, r⟩ := A
  obtain ⟨q1, q2⟩ := own_inb (j := j) r (by simpa using hj)
  refine X.baloadBooleans hx (by rw [eT]; exact A.1) (State.isArrayOf_alike hZ.alike A.2.1) A.2.2 q1 (v := .int (ys.getD j.toInt.toNat 0)) ?_ (g := mkF m pc Ls (.int j :: .ref a :: rest)) rfl rfl hd target hr
  rw [q2, r]
  exact own_at? _ ys _ 0 (by omega)
theorem own_alenJ (X : Stand p l e R s m args below meth c T locs cells slots) (hx : p.tables.exec = Jvm.exec) (hZ : Z.Warmed39 s.vm) (eT : T.heap = h) (A : own_AJ Z h a xs) (hd : decode c.code pc = .ok (.arraylength, 1)) (target : State)
    (hr : Steps p.tables e below (T.setTop (mkF m (pc + 1) Ls (.int xs.length.toInt32 :: rest))) target) : Steps p.tables e below (T.setTop (mkF m pc Ls (.ref a :: rest))) target := by
  obtain ⟨cl, A, r⟩ := A
  refine X.arraylength hx (by rw [eT]; exact A.1) (State.isArrayOf_alike hZ.alike A.2.1) (g := mkF m pc Ls (.ref a :: rest)) rfl rfl hd target ?_
  rw [r]
  simpa using hr
theorem own_alenI {ty : FieldType} (X : Stand p l e R s m args below meth c T locs cells slots) (hx : p.tables.exec = Jvm.exec) (hZ : Z.Warmed39 s.vm) (eT : T.heap = h) (A : own_AI Z h a ty ys) (hd : decode c.code pc = .ok (.arraylength, 1)) (target : State)
    (hr : Steps p.tables e below (T.setTop (mkF m (pc + 1) Ls (.int ys.length.toInt32 :: rest))) target) : Steps p.tables e below (T.setTop (mkF m pc Ls (.ref a :: rest))) target := by
  obtain ⟨cl, A, r⟩ := A
  refine X.arraylength hx (by rw [eT]; exact A.1) (State.isArrayOf_alike hZ.alike A.2.1) (g := mkF m pc Ls (.ref a :: rest)) rfl rfl hd target ?_
  rw [r]
  simpa using hr
theorem own_lastore (X : Stand p l e R s m args below meth c T locs cells slots) (hx : p.tables.exec = Jvm.exec) (hZ : Z.Warmed39 s.vm) (eT : T.heap = h) (A : own_AJ Z h a xs) (hj : 0 ≤ j.toInt ∧ j.toInt < (xs.length : Nat)) {x : Int64} (hd : decode c.code pc = .ok (.lastore, 1)) :
    ∃ T' h', Stand p l e R s m args below meth c T' (locs ++ [⟨a, j.toInt.toNat⟩]) cells slots ∧ T'.heap = h' ∧ Wr h h' a j.toInt.toNat (.long x) ∧ own_AJ Z h' a (xs.set j.toInt.toNat x) ∧ ∀ target, Steps p.tables e below (T'.setTop (mkF m (pc + 1) Ls rest)) target → Steps p.tables e below (T.setTop (mkF m pc Ls (.long x :: .int j :: .ref a :: rest))) target := by
  obtain ⟨cl, B, r⟩ := A
  obtain ⟨q1, q2⟩ := own_inb (j := j) r (by simpa using hj)
  obtain ⟨T', h', X', e', W', st⟩ := stJ X hx hZ eT B q1 (x := x) (g := mkF m pc Ls (.long x :: .int j :: .ref a :: rest)) rfl rfl hd
  rw [q2] at X' W'
  exact ⟨T', h', X', e', W', by have := own_A.set ⟨cl, B, r⟩ W'; rw [own_AJ, List.map_set]; exact this, st⟩
theorem own_iastore (X : Stand p l e R s m args below meth c T locs cells slots) (hx : p.tables.exec = Jvm.exec) (hZ : Z.Warmed39 s.vm) (eT : T.heap = h) (A : own_AI Z h a .int ys) (hj : 0 ≤ j.toInt ∧ j.toInt < (ys.length : Nat)) {x : Int32} (hd : decode c.code pc = .ok (.iastore, 1)) :
    ∃ T' h', Stand p l e R s m args below meth c T' (locs ++ [⟨a, j.toInt.toNat⟩]) cells slots ∧ T'.heap = h' ∧ Wr h h' a j.toInt.toNat (.int x) ∧ own_AI Z h' a .int (ys.set j.toInt.toNat x) ∧ ∀ target, Steps p.tables e below (T'.setTop (mkF m (pc + 1) Ls rest)) target → Steps p.tables e below (T.setTop (mkF m pc Ls (.int x :: .int j :: .ref a :: rest))) target := by
  obtain ⟨cl, B, r⟩ := A
  obtain ⟨q1, q2⟩ := own_inb (j := j) r (by simpa using hj)
  obtain ⟨T', h', X', e', W', st⟩ := stI X hx hZ eT B q1 (x := x) (g := mkF m pc Ls (.int x :: .int j :: .ref a :: rest)) rfl rfl hd
  rw [q2] at X' W'
  exact ⟨T', h', X', e', W', by have := own_A.set ⟨cl, B, r⟩ W'; rw [own_AI, List.map_set]; exact this, st⟩
theorem own_bastoreB (X : Stand p l e R s m args below meth c T locs cells slots) (hx : p.tables.exec = Jvm.exec) (hZ : Z.Warmed39 s.vm) (eT : T.heap = h) (A : own_AI Z h a .byte ys) (hj : 0 ≤ j.toInt ∧ j.toInt < (ys.length : Nat)) {x : Int32} (hd : decode c.code pc = .ok (.bastore, 1)) :
    ∃ T' h', Stand p l e R s m args below meth c T' (locs ++ [⟨a, j.toInt.toNat⟩]) cells slots ∧ T'.heap = h' ∧ Wr h h' a j.toInt.toNat (.int x.toInt8.toInt32) ∧ own_AI Z h' a .byte (ys.set j.toInt.toNat x.toInt8.toInt32) ∧ ∀ target, Steps p.tables e below (T'.setTop (mkF m (pc + 1) Ls rest)) target → Steps p.tables e below (T.setTop (mkF m pc Ls (.int x :: .int j :: .ref a :: rest))) target := by
  obtain ⟨cl, B, r⟩ := A
  obtain ⟨q1, q2⟩ := own_inb (j := j) r (by simpa using hj)
  obtain ⟨T', h', X', e', W', st⟩ := stB X hx hZ eT B q1 (x := x) (g := mkF m pc Ls (.int x :: .int j :: .ref a :: rest)) rfl rfl hd
  rw [q2] at X' W'
  exact ⟨T', h', X', e', W', by have := own_A.set ⟨cl, B, r⟩ W'; rw [own_AI, List.map_set]; exact this, st⟩
theorem own_bastoreZ (X : Stand p l e R s m args below meth c T locs cells slots) (hx : p.tables.exec = Jvm.exec) (hZ : Z.Warmed39 s.vm) (eT : T.heap = h) (A : own_AI Z h a .boolean ys) (hj : 0 ≤ j.toInt ∧ j.toInt < (ys.length : Nat)) {x : Int32} (hd : decode c.code pc = .ok (.bastore, 1)) :
    ∃ T' h', Stand p l e R s m args below meth c T' (locs ++ [⟨a, j.toInt.toNat⟩]) cells slots ∧ T'.heap = h' ∧ Wr h h' a j.toInt.toNat (.int (x &&& 1)) ∧ own_AI Z h' a .boolean (ys.set j.toInt.toNat (x &&& 1)) ∧ ∀ target, Steps p.tables e below (T'.setTop (mkF m (pc + 1) Ls rest)) target → Steps p.tables e below (T.setTop (mkF m pc Ls (.int x :: .int j :: .ref a :: rest))) target := by
  obtain ⟨cl, B, r⟩ := A
  obtain ⟨q1, q2⟩ := own_inb (j := j) r (by simpa using hj)
  obtain ⟨T', h', X', e', W', st⟩ := stZ X hx hZ eT B q1 (x := x) (g := mkF m pc Ls (.int x :: .int j :: .ref a :: rest)) rfl rfl hd
  rw [q2] at X' W'
  exact ⟨T', h', X', e', W', by have := own_A.set ⟨cl, B, r⟩ W'; rw [own_AI, List.map_set]; exact this, st⟩
end Loads
end OwnKit
theorem own_bm32 {x : Int} (h1 : -2147483648 ≤ x) (h2 : x < 2147483648) : x.bmod (2 ^ 32) = x := by
  rw [Int.bmod_def]; split <;> omega
theorem own_bm64 {x : Int} (h1 : -9223372036854775808 ≤ x) (h2 : x < 9223372036854775808) : x.bmod (2 ^ 64) = x := by
  rw [Int.bmod_def]; split <;> omega
theorem own_r32 (x : Int32) : -2147483648 ≤ x.toInt ∧ x.toInt < 2147483648 := ⟨x.le_toInt, x.toInt_lt⟩
theorem own_r64 (x : Int64) : -9223372036854775808 ≤ x.toInt ∧ x.toInt < 9223372036854775808 := ⟨x.le_toInt, x.toInt_lt⟩
theorem own_iadd {x y : Int32} (h : -2147483648 ≤ x.toInt + y.toInt ∧ x.toInt + y.toInt < 2147483648) : (x + y).toInt = x.toInt + y.toInt := by rw [Int32.toInt_add]; exact own_bm32 h.1 h.2
theorem own_isub {x y : Int32} (h : -2147483648 ≤ x.toInt - y.toInt ∧ x.toInt - y.toInt < 2147483648) : (x - y).toInt = x.toInt - y.toInt := by rw [Int32.toInt_sub]; exact own_bm32 h.1 h.2
theorem own_imul {x y : Int32} (h : -2147483648 ≤ x.toInt * y.toInt ∧ x.toInt * y.toInt < 2147483648) : (x * y).toInt = x.toInt * y.toInt := by rw [Int32.toInt_mul]; exact own_bm32 h.1 h.2
theorem own_ladd {x y : Int64} (h : -9223372036854775808 ≤ x.toInt + y.toInt ∧ x.toInt + y.toInt < 9223372036854775808) : (x + y).toInt = x.toInt + y.toInt := by rw [Int64.toInt_add]; exact own_bm64 h.1 h.2
theorem own_lsub {x y : Int64} (h : -9223372036854775808 ≤ x.toInt - y.toInt ∧ x.toInt - y.toInt < 9223372036854775808) : (x - y).toInt = x.toInt - y.toInt := by rw [Int64.toInt_sub]; exact own_bm64 h.1 h.2
theorem own_lmul {x y : Int64} (h : -9223372036854775808 ≤ x.toInt * y.toInt ∧ x.toInt * y.toInt < 9223372036854775808) : (x * y).toInt = x.toInt * y.toInt := by rw [Int64.toInt_mul]; exact own_bm64 h.1 h.2
theorem own_i2l (x : Int32) : x.toInt64.toInt = x.toInt := Int32.toInt_toInt64 x
theorem own_l2i {x : Int64} (h : -2147483648 ≤ x.toInt ∧ x.toInt < 2147483648) : x.toInt32.toInt = x.toInt := by rw [Int64.toInt_toInt32]; exact own_bm32 h.1 h.2
theorem own_irem {x y : Int32} (h : 0 ≤ x.toInt) : (x % y).toInt = x.toInt % y.toInt := by rw [Int32.toInt_mod]; exact Int.tmod_eq_emod_of_nonneg h
theorem own_lrem {x y : Int64} (h : 0 ≤ x.toInt) : (x % y).toInt = x.toInt % y.toInt := by rw [Int64.toInt_mod]; exact Int.tmod_eq_emod_of_nonneg h
theorem own_idiv {x y : Int32} (h : 0 ≤ x.toInt) (hy : 0 ≤ y.toInt) : (x / y).toInt = x.toInt / y.toInt := by
  rw [Int32.toInt_div_of_ne_right x y (fun q => by rw [q] at hy; revert hy; decide)]; exact Int.tdiv_eq_ediv_of_nonneg h
theorem own_ldiv {x y : Int64} (h : 0 ≤ x.toInt) (hy : 0 ≤ y.toInt) : (x / y).toInt = x.toInt / y.toInt := by
  rw [Int64.toInt_div_of_ne_right x y (fun q => by rw [q] at hy; revert hy; decide)]; exact Int.tdiv_eq_ediv_of_nonneg h
/-- a mask of k bits -/
theorem own_mask (x m : Int32) (k : Nat) (hk : k ≤ 31) (hm : m.toBitVec.toNat = 2 ^ k - 1) : (x &&& m).toInt = x.toInt % (2 ^ k : Nat) := by
  have hp : 2 ^ k ≤ 2 ^ 31 := Nat.pow_le_pow_right (by decide) hk
  have hp0 : 0 < 2 ^ k := Nat.pow_pos (by decide)
  have e : (x &&& m).toBitVec.toNat = x.toBitVec.toNat % 2 ^ k := by rw [Int32.toBitVec_and, BitVec.toNat_and, hm, Nat.and_two_pow_sub_one_eq_mod]
  have l := Nat.mod_lt x.toBitVec.toNat hp0
  rw [← Int32.toInt_toBitVec, ← Int32.toInt_toBitVec, BitVec.toInt_eq_toNat_cond, e, if_pos (by omega), BitVec.toInt_eq_toNat_cond]
  split
  · simp
  · rename_i q
    have d : (2 ^ k : Nat) ∣ 2 ^ 32 := Nat.pow_dvd_pow 2 (by omega)
    obtain ⟨c, hc⟩ := d
    have hc' : ((2 ^ 32 : Nat) : Int) = ((2 ^ k : Nat) : Int) * (c : Int) := by rw [hc]; simp
    rw [hc', Int.sub_mul_emod_self_left]; simp
theorem own_ushr (x : Int64) (y : Int32) (k : Nat) (hk : (y &&& 0x3f).toInt64.toBitVec.toNat % 64 = k) (h0 : 0 < k) : (((x).toUInt64 >>> (y &&& 0x3f).toInt64.toUInt64).toInt64).toInt = (x.toInt % 18446744073709551616) / (2 ^ k : Nat) := by
  have e : (((x).toUInt64 >>> (y &&& 0x3f).toInt64.toUInt64).toInt64).toBitVec = x.toBitVec >>> k := by rw [← hk]; simp
  have hl := x.toBitVec.isLt
  have hp0 : 0 < 2 ^ k := Nat.pow_pos (by decide)
  have h2 : 2 ^ 1 ≤ 2 ^ k := Nat.pow_le_pow_right (by decide) h0
  have hd : x.toBitVec.toNat / 2 ^ k ≤ x.toBitVec.toNat / 2 := Nat.div_le_div_left h2 (by decide)
  have t : x.toInt % 18446744073709551616 = (x.toBitVec.toNat : Int) := by
    rw [← Int64.toInt_toBitVec, BitVec.toInt_eq_toNat_cond]; split <;> omega
  rw [t, ← Int64.toInt_toBitVec, e, BitVec.toInt_eq_toNat_cond, BitVec.toNat_ushiftRight, Nat.shiftRight_eq_div_pow, if_pos (by omega)]
  simp
theorem own_shl (x : Int64) (y : Int32) (k : Nat) (hk : y.toBitVec.toNat % 64 = k) (h : -9223372036854775808 ≤ x.toInt * (2 ^ k : Nat) ∧ x.toInt * (2 ^ k : Nat) < 9223372036854775808) : (x <<< (y &&& 0x3f).toInt64).toInt = x.toInt * (2 ^ k : Nat) := by
  have q := c_lshl x y k hk
  have r := own_r64 (x <<< (y &&& 0x3f).toInt64)
  generalize x.toInt * (2 ^ k : Nat) = z at *
  omega
theorem own_nzL {x : Int32} (h : ¬ x = 0) : ¬ x.toInt64 = 0 := fun q => h (Int32.toInt_inj.mp (by rw [← own_i2l, q]; rfl))
theorem own_nzP {x : Int32} (h : 1 ≤ x.toInt) : ¬ x = 0 := fun q => by rw [q] at h; revert h; decide
theorem own_fA {t n : Int32} {k : Int} (h : t < n) (q : n.toInt - 1 = k) : t.toInt ≤ k := by rw [Int32.lt_iff_toInt_lt] at h; omega
theorem own_fB {t n : Int32} {k : Int} (h : ¬ n < t) (q : n.toInt = k) : t.toInt ≤ k := by rw [Int32.lt_iff_toInt_lt] at h; omega
theorem own_fC {t n : Int32} {k : Int} (h : n < t) (q : n.toInt + 1 = k) : k ≤ t.toInt := by rw [Int32.lt_iff_toInt_lt] at h; omega
theorem own_fD {t n : Int32} {k : Int} (h : ¬ t < n) (q : n.toInt = k) : k ≤ t.toInt := by rw [Int32.lt_iff_toInt_lt] at h; omega
theorem own_fE {t n : Int32} {k : Int} (h : t = n) (q : n.toInt = k) : t.toInt ≤ k := by rw [h]; omega
theorem own_fF {t n : Int32} {k : Int} (h : t = n) (q : n.toInt = k) : k ≤ t.toInt := by rw [h]; omega
theorem own_g1 {t m : Int32} {k : Int} (h : t.toInt ≤ k) (q : k < m.toInt) : t < m := by rw [Int32.lt_iff_toInt_lt]; omega
theorem own_g2 {t m : Int32} {k : Int} (h : t.toInt ≤ k) (q : k ≤ m.toInt) : ¬ m < t := by rw [Int32.lt_iff_toInt_lt]; omega
theorem own_g3 {t m : Int32} {k : Int} (h : t.toInt ≤ k) (q : k < m.toInt) : ¬ t = m := fun e => by rw [e] at h; omega
theorem own_g4 {t m : Int32} {k : Int} (h : k ≤ t.toInt) (q : m.toInt ≤ k) : ¬ t < m := by rw [Int32.lt_iff_toInt_lt]; omega
theorem own_g5 {t m : Int32} {k : Int} (h : k ≤ t.toInt) (q : m.toInt < k) : m < t := by rw [Int32.lt_iff_toInt_lt]; omega
theorem own_g6 {t m : Int32} {k : Int} (h : k ≤ t.toInt) (q : m.toInt < k) : ¬ t = m := fun e => by rw [e] at h; omega
theorem own_g7 {t m : Int32} {k : Int} (h : k ≤ t.toInt) (h' : t.toInt ≤ k) (q : m.toInt = k) : t = m := Int32.toInt_inj.mp (by omega)
theorem own_ne {x n : Int32} {k : Int} (h : ¬ x = n) (q : n.toInt = k) : k ≠ x.toInt := fun e => h (Int32.toInt_inj.mp (by omega))
theorem own_gs1 {α : Type} (xs : List α) (n : Nat) (v d : α) (h : n < xs.length) : (xs.set n v).getD n d = v := by simp [List.getD, h]
theorem own_gs2 {α : Type} (xs : List α) (n j : Nat) (v d : α) (h : n ≠ j) : (xs.set n v).getD j d = xs.getD j d := by simp [List.getD, List.getElem?_set, h]
theorem own_bits (q1 : Int32) : 1 ≤ ((q1 &&& (7 : Int32)) + (1 : Int32)).toInt ∧ ((q1 &&& (7 : Int32)) + (1 : Int32)).toInt ≤ 8 := by
  have a := own_mask q1 7 3 (by decide) (by decide)
  have o1 : (1 : Int32).toInt = 1 := by decide
  have r := own_iadd (x := q1 &&& 7) (y := 1) (by omega)
  omega
theorem own_lim (n : Int32) (hn : 1 ≤ n.toInt ∧ n.toInt ≤ 8) : ((2147483640 : Int64) / n.toInt64 + 1).toInt = 2147483640 / n.toInt + 1 ∧ 1 ≤ 2147483640 / n.toInt + 1 ∧ 2147483640 / n.toInt + 1 ≤ 2147483641 ∧ (2147483640 / n.toInt) * n.toInt ≤ 2147483640 := by
  have m1 : (2147483640 : Int64).toInt = 2147483640 := by decide
  have o1 : (1 : Int64).toInt = 1 := by decide
  have e := own_i2l n
  have d := own_ldiv (x := 2147483640) (y := n.toInt64) (by omega) (by omega)
  rw [m1, e] at d
  have p0 : 0 ≤ 2147483640 / n.toInt := Int.ediv_nonneg (by decide) (by omega)
  have p1 : 2147483640 / n.toInt ≤ 2147483640 := Int.ediv_le_self _ (by decide)
  have p2 : (2147483640 / n.toInt) * n.toInt ≤ 2147483640 := Int.ediv_mul_le _ (by omega)
  have r := own_ladd (x := 2147483640 / n.toInt64) (y := 1) (by omega)
  refine ⟨by omega, by omega, by omega, p2⟩
theorem own_nz12 {v q : Int32} (h : v = (q &&& 7) + 1) : ¬ v.toInt64 = 0 := own_nzL (own_nzP (by rw [h]; exact (own_bits q).1))
theorem own_nz22 {v q : Int32} {w : Int64} (h : v = (q &&& 7) + 1) (h4 : w = (2147483640 : Int64) / v.toInt64 + 1) : ¬ w = 0 := fun e => by
  have := (own_lim v (by rw [h]; exact own_bits q))
  rw [← h4, e] at this
  have z : (0 : Int64).toInt = 0 := by decide
  omega

theorem d1_0 : decode prog_21_method_2_code 0 = .ok (.iload_n 0, 1) := by decide +kernel
theorem d1_1 : decode prog_21_method_2_code 1 = .ok (.iload_n 1, 1) := by decide +kernel
theorem d1_2 : decode prog_21_method_2_code 2 = .ok (.imul, 1) := by decide +kernel
theorem d1_3 : decode prog_21_method_2_code 3 = .ok (.bipush 8, 2) := by decide +kernel
theorem d1_5 : decode prog_21_method_2_code 5 = .ok (.iadd, 1) := by decide +kernel
theorem d1_6 : decode prog_21_method_2_code 6 = .ok (.iconst 1, 1) := by decide +kernel
theorem d1_7 : decode prog_21_method_2_code 7 = .ok (.isub, 1) := by decide +kernel
theorem d1_8 : decode prog_21_method_2_code 8 = .ok (.bipush 8, 2) := by decide +kernel
theorem d1_10 : decode prog_21_method_2_code 10 = .ok (.idiv, 1) := by decide +kernel
theorem d1_11 : decode prog_21_method_2_code 11 = .ok (.ireturn, 1) := by decide +kernel
theorem pn_1 : plainName "com/example/cardglyph/cardglyph/image/PackedPoints" = true := by first | (simp [plainName, overriddenIn]; done) | decide +kernel
theorem ef_1 (m : MethodId) (q0 : Int32) (q1 : Int32) : entryFrame m #[(.int q0), (.int q1)] 2 = mkF m 0 #[.val (.int q0), .val (.int q1)] [] := by first | (simp [entryFrame, mkF, argsToLocals, Value.category, maxLocals]; done) | rfl
def own_f1 (q0 : Int32) (q1 : Int32) : Int32 := ((((q0 * q1) + (8 : Int32)) - (1 : Int32)) / (8 : Int32))
def Q1 (Z : State) (q0 : Int32) (q1 : Int32)  (h0 : Heap) (n0 : Nat) (v : Option Value) (h : Heap) (L : List Loc) : Prop := v = some (.int (own_f1 q0 q1)) ∧ Fr n0 L ∧ h = h0
set_option maxRecDepth 65536 in
set_option maxHeartbeats 40000000 in
theorem rm1 (l : Launch) (Z : State) (a0 : Array Value) (hw : ∀ d ∈ tables_1, d.before a0 Z = true) (ws : List Jvm.Cond) (q0 : Int32) (q1 : Int32)  (h0 : Heap) (n0 : Nat) (Z0 : n0 ≤ h0.size)  :
    MetFree l (⟨"com/example/cardglyph/cardglyph/image/PackedPoints", "bytes", "(II)I"⟩ : MethodName) (head1 (Jvm.Cond.code (⟨"com/example/cardglyph/cardglyph/image/PackedPoints", "bytes", "(II)I"⟩ : MethodName) prog_21_method_2_code 2 (some .int) :: ws) ({ frames := 0, cells := 0, slots := 0, locals := 0 } : Room)) (fun a U => a = #[(.int q0), (.int q1)] ∧ Z.Warmed39 U.vm ∧ U.heap = h0) (fun _ _ _ _ _ => True) (fun _ U o U' => ∃ v L, o = .returned v ∧ Q1 Z q0 q1 h0 n0 v U'.heap L ∧ FrameEnd U o U' L ({ frames := 0, cells := 0, slots := 0, locals := 0 } : Room).cells ({ frames := 0, cells := 0, slots := 0, locals := 0 } : Room).slots) := by
  refine MetFree.of_bodySF (plainFor_of_name pn_1) hisR ?_
  intro p e s m args below meth c s₁ Bd hml0 hP hK
  obtain ⟨rfl, hZ, hh⟩ := hP
  have hx := Bd.exec
  have hby := Bd.bytes
  have hml : c.maxLocals = 2 := hml0
  have hown : s.vm.findClass "com/example/cardglyph/cardglyph/image/PackedPoints" = some m.cls := findClass_of_methodNamed Bd.named
  have hnm := (name_of_methodNamed Bd.named Bd.method).1
  have X0 : Stand p l e ({ frames := 0, cells := 0, slots := 0, locals := 0 } : Room) s m #[(.int q0), (.int q1)] below meth c s₁ [] 0 0 := Stand.of_body Bd
  have hlk : meth.locks = false := by first | exact BodyLoose.notSynchronized (by assumption) | exact Body.notSynchronized (by assumption)
  have e0 : s₁.heap = h0 := by rw [← hh, Bd.state]; rfl
  have N0 := Fr.nil n0
  have pre0 : ∀ t, Steps p.tables e below (s₁.setTop (mkF m 0 #[.val (.int q0), .val (.int q1)] [])) t → Steps p.tables e below (s₁.setTop (entryFrame m #[(.int q0), (.int q1)] 2)) t := fun t k => castTop (ef_1 m q0 q1) k
  obtain ⟨fs, hr, hrun, hended, hW, hsame⟩ := X0.leave (v := some (.int ((((q0 * q1) + (8 : Int32)) - (1 : Int32)) / (8 : Int32)))) (fun h => by rw [Bd.returns] at h; cases h) hlk
  refine ⟨_, _, pre0 _ ?_, hrun, hended, _, _, rfl, ?_, ⟨_, rfl⟩, hW, hsame.mono (by decide) (by decide)⟩
  · show Steps p.tables e below (s₁.setTop (mkF m 0 #[.val (.int q0), .val (.int q1)] [])) _
    refine XS.iloadN X0.here hx rfl (hb hby d1_0) rfl ?_
    show Steps p.tables e below (s₁.setTop (mkF m 1 #[.val (.int q0), .val (.int q1)] [(.int q0)])) _
    refine XS.iloadN X0.here hx rfl (hb hby d1_1) rfl ?_
    show Steps p.tables e below (s₁.setTop (mkF m 2 #[.val (.int q0), .val (.int q1)] [(.int q1), (.int q0)])) _
    refine XS.imul X0.here hx rfl (hb hby d1_2) rfl ?_
    show Steps p.tables e below (s₁.setTop (mkF m 3 #[.val (.int q0), .val (.int q1)] [(.int (q0 * q1))])) _
    refine XS.bipush X0.here hx rfl (hb hby d1_3) ?_
    show Steps p.tables e below (s₁.setTop (mkF m 5 #[.val (.int q0), .val (.int q1)] [(.int (8 : Int32)), (.int (q0 * q1))])) _
    refine XS.iadd X0.here hx rfl (hb hby d1_5) rfl ?_
    show Steps p.tables e below (s₁.setTop (mkF m 6 #[.val (.int q0), .val (.int q1)] [(.int ((q0 * q1) + (8 : Int32)))])) _
    refine XS.iconst X0.here hx rfl (hb hby d1_6) ?_
    show Steps p.tables e below (s₁.setTop (mkF m 7 #[.val (.int q0), .val (.int q1)] [(.int (1 : Int32)), (.int ((q0 * q1) + (8 : Int32)))])) _
    refine XS.isub X0.here hx rfl (hb hby d1_7) rfl ?_
    show Steps p.tables e below (s₁.setTop (mkF m 8 #[.val (.int q0), .val (.int q1)] [(.int (((q0 * q1) + (8 : Int32)) - (1 : Int32)))])) _
    refine XS.bipush X0.here hx rfl (hb hby d1_8) ?_
    show Steps p.tables e below (s₁.setTop (mkF m 10 #[.val (.int q0), .val (.int q1)] [(.int (8 : Int32)), (.int (((q0 * q1) + (8 : Int32)) - (1 : Int32)))])) _
    refine XS.idiv X0.here hx rfl (hb hby d1_10) rfl (by decide) ?_
    show Steps p.tables e below (s₁.setTop (mkF m 11 #[.val (.int q0), .val (.int q1)] [(.int ((((q0 * q1) + (8 : Int32)) - (1 : Int32)) / (8 : Int32)))])) _
    exact retI X0 hx Bd.returns (hb hby d1_11) hr
  · show Q1 Z q0 q1 h0 n0 _ s₁.heap _
    rw [e0]
    exact ⟨by rfl, N0, rfl⟩
theorem pn_2 : plainName "com/example/cardglyph/cardglyph/image/PackedPointsBytesPinLaw" = true := by first | (simp [plainName, overriddenIn]; done) | decide +kernel
theorem ef_0 (m : MethodId) (q0 : Int32) (q1 : Int32) : entryFrame m #[(.int q0), (.int q1)] maxLocals = mkF m 0 #[.val (.int q0), .val (.int q1), .unset, .unset, .unset, .unset, .unset, .unset, .unset, .unset] [] := by first | (simp [entryFrame, mkF, argsToLocals, Value.category, maxLocals]; done) | rfl
theorem pd_3 : parseMethodDescriptor "(II)I" = some ⟨[.int, .int], some .int⟩ := by decide +kernel
def own_f0 (q0 : Int32) (q1 : Int32) : Int32 := let v1 := ((q1 &&& (7 : Int32)) + (1 : Int32))
  let v4 := (((2147483640 : Int64) / (v1).toInt64) + (1 : Int64))
  let v7 := ((((q0 &&& (2147483647 : Int32))).toInt64 % v4)).toInt32
  let v9 := ((v7).toInt64 * (v1).toInt64)
  let v12 := ((own_f1 v7 v1)).toInt64
  (if v12 < (0 : Int64) then (0 : Int32) else (if (v12 * (8 : Int64)) < v9 then (0 : Int32) else (if (v12 * (8 : Int64)) < (v9 + (8 : Int64)) then (1 : Int32) else (0 : Int32))))
def Q0 (Z : State) (q0 : Int32) (q1 : Int32)  (h0 : Heap) (n0 : Nat) (v : Option Value) (h : Heap) (L : List Loc) : Prop := v = some (.int (own_f0 q0 q1)) ∧ Fr n0 L
set_option maxRecDepth 65536 in
set_option maxHeartbeats 40000000 in
theorem rm0 (l : Launch) (Z : State) (a0 : Array Value) (hw : ∀ d ∈ tables_1, d.before a0 Z = true) (ws : List Jvm.Cond) (q0 : Int32) (q1 : Int32)  (h0 : Heap) (n0 : Nat) (Z0 : n0 ≤ h0.size)  :
    MetFree l x (head1 (Jvm.Cond.code x code maxLocals ret :: ws) room_1) (fun a U => a = #[(.int q0), (.int q1)] ∧ Z.Warmed39 U.vm ∧ U.heap = h0) (fun _ _ _ _ _ => True) (fun _ U o U' => ∃ v L, o = .returned v ∧ Q0 Z q0 q1 h0 n0 v U'.heap L ∧ FrameEnd U o U' L room_1.cells room_1.slots) := by
  refine MetFree.of_bodySF (plainFor_of_name pn_2) hisR ?_
  intro p e s m args below meth c s₁ Bd hml0 hP hK
  obtain ⟨rfl, hZ, hh⟩ := hP
  have hx := Bd.exec
  have hby := Bd.bytes
  have hml : c.maxLocals = 10 := hml0
  have hown : s.vm.findClass "com/example/cardglyph/cardglyph/image/PackedPointsBytesPinLaw" = some m.cls := findClass_of_methodNamed Bd.named
  have hnm := (name_of_methodNamed Bd.named Bd.method).1
  have X0 : Stand p l e room_1 s m #[(.int q0), (.int q1)] below meth c s₁ [] 0 0 := Stand.of_body Bd
  have hlk : meth.locks = false := by first | exact BodyLoose.notSynchronized (by assumption) | exact Body.notSynchronized (by assumption)
  have e0 : s₁.heap = h0 := by rw [← hh, Bd.state]; rfl
  have N0 := Fr.nil n0
  have pre0 : ∀ t, Steps p.tables e below (s₁.setTop (mkF m 0 #[.val (.int q0), .val (.int q1), .unset, .unset, .unset, .unset, .unset, .unset, .unset, .unset] [])) t → Steps p.tables e below (s₁.setTop (entryFrame m #[(.int q0), (.int q1)] maxLocals)) t := fun t k => castTop (ef_0 m q0 q1) k
  obtain ⟨v1, hv1⟩ : ∃ z : Int32, z = ((q1 &&& (7 : Int32)) + (1 : Int32)) := ⟨_, rfl⟩
  have pre2 : ∀ t, Steps p.tables e below (s₁.setTop (mkF m 6 #[.val (.int q0), .val (.int q1), .unset, .unset, .unset, .unset, .unset, .unset, .unset, .unset] [(.int v1)])) t → Steps p.tables e below (s₁.setTop (entryFrame m #[(.int q0), (.int q1)] maxLocals)) t := by
    rw [hv1]
    intro t k
    refine pre0 t ?_
    show Steps p.tables e below (s₁.setTop (mkF m 0 #[.val (.int q0), .val (.int q1), .unset, .unset, .unset, .unset, .unset, .unset, .unset, .unset] [])) _
    refine XS.iloadN X0.here hx rfl (hb hby at_0) rfl ?_
    show Steps p.tables e below (s₁.setTop (mkF m 1 #[.val (.int q0), .val (.int q1), .unset, .unset, .unset, .unset, .unset, .unset, .unset, .unset] [(.int q1)])) _
    refine XS.bipush X0.here hx rfl (hb hby at_1) ?_
    show Steps p.tables e below (s₁.setTop (mkF m 3 #[.val (.int q0), .val (.int q1), .unset, .unset, .unset, .unset, .unset, .unset, .unset, .unset] [(.int (7 : Int32)), (.int q1)])) _
    refine XS.iand X0.here hx rfl (hb hby at_3) rfl ?_
    show Steps p.tables e below (s₁.setTop (mkF m 4 #[.val (.int q0), .val (.int q1), .unset, .unset, .unset, .unset, .unset, .unset, .unset, .unset] [(.int (q1 &&& (7 : Int32)))])) _
    refine XS.iconst X0.here hx rfl (hb hby at_4) ?_
    show Steps p.tables e below (s₁.setTop (mkF m 5 #[.val (.int q0), .val (.int q1), .unset, .unset, .unset, .unset, .unset, .unset, .unset, .unset] [(.int (1 : Int32)), (.int (q1 &&& (7 : Int32)))])) _
    refine XS.iadd X0.here hx rfl (hb hby at_5) rfl ?_
    exact k
  have nz_12_3 : ¬ ((v1).toInt64 = (0 : Int64)) := (own_nz12 (by assumption))
  obtain ⟨v4, hv4⟩ : ∃ z : Int64, z = (((2147483640 : Int64) / (v1).toInt64) + (1 : Int64)) := ⟨_, rfl⟩
  have pre5 : ∀ t, Steps p.tables e below (s₁.setTop (mkF m 15 #[.val (.int q0), .val (.int q1), .val (.int v1), .unset, .unset, .unset, .unset, .unset, .unset, .unset] [(.long v4)])) t → Steps p.tables e below (s₁.setTop (entryFrame m #[(.int q0), (.int q1)] maxLocals)) t := by
    rw [hv4]
    intro t k
    refine pre2 t ?_
    show Steps p.tables e below (s₁.setTop (mkF m 6 #[.val (.int q0), .val (.int q1), .unset, .unset, .unset, .unset, .unset, .unset, .unset, .unset] [(.int v1)])) _
    refine XS.istoreN X0.here hx rfl (hb hby at_6) rfl (l' := #[.val (.int q0), .val (.int q1), .val (.int v1), .unset, .unset, .unset, .unset, .unset, .unset, .unset]) rfl ?_
    show Steps p.tables e below (s₁.setTop (mkF m 7 #[.val (.int q0), .val (.int q1), .val (.int v1), .unset, .unset, .unset, .unset, .unset, .unset, .unset] [])) _
    refine X0.ldc2Long hx hown (mvT hZ (hw _ (List.mem_of_getElem? (i := 0) rfl))) (g := (mkF m 7 #[.val (.int q0), .val (.int q1), .val (.int v1), .unset, .unset, .unset, .unset, .unset, .unset, .unset] [])) rfl (hb hby at_7) _ ?_
    show Steps p.tables e below (s₁.setTop (mkF m 10 #[.val (.int q0), .val (.int q1), .val (.int v1), .unset, .unset, .unset, .unset, .unset, .unset, .unset] [(.long (2147483640 : Int64))])) _
    refine XS.iloadN X0.here hx rfl (hb hby at_10) rfl ?_
    show Steps p.tables e below (s₁.setTop (mkF m 11 #[.val (.int q0), .val (.int q1), .val (.int v1), .unset, .unset, .unset, .unset, .unset, .unset, .unset] [(.int v1), (.long (2147483640 : Int64))])) _
    refine XS.i2l X0.here hx rfl (hb hby at_11) rfl ?_
    show Steps p.tables e below (s₁.setTop (mkF m 12 #[.val (.int q0), .val (.int q1), .val (.int v1), .unset, .unset, .unset, .unset, .unset, .unset, .unset] [(.long (v1).toInt64), (.long (2147483640 : Int64))])) _
    refine XS.ldiv X0.here hx rfl (hb hby at_12) rfl nz_12_3 ?_
    show Steps p.tables e below (s₁.setTop (mkF m 13 #[.val (.int q0), .val (.int q1), .val (.int v1), .unset, .unset, .unset, .unset, .unset, .unset, .unset] [(.long ((2147483640 : Int64) / (v1).toInt64))])) _
    refine XS.lconst X0.here hx rfl (hb hby at_13) ?_
    show Steps p.tables e below (s₁.setTop (mkF m 14 #[.val (.int q0), .val (.int q1), .val (.int v1), .unset, .unset, .unset, .unset, .unset, .unset, .unset] [(.long (1 : Int64)), (.long ((2147483640 : Int64) / (v1).toInt64))])) _
    refine XS.ladd X0.here hx rfl (hb hby at_14) rfl ?_
    exact k
  have nz_22_6 : ¬ (v4 = (0 : Int64)) := (own_nz22 (by assumption) (by assumption))
  obtain ⟨v7, hv7⟩ : ∃ z : Int32, z = ((((q0 &&& (2147483647 : Int32))).toInt64 % v4)).toInt32 := ⟨_, rfl⟩
  have pre8 : ∀ t, Steps p.tables e below (s₁.setTop (mkF m 24 #[.val (.int q0), .val (.int q1), .val (.int v1), .val (.long v4), .second, .unset, .unset, .unset, .unset, .unset] [(.int v7)])) t → Steps p.tables e below (s₁.setTop (entryFrame m #[(.int q0), (.int q1)] maxLocals)) t := by
    rw [hv7]
    intro t k
    refine pre5 t ?_
    show Steps p.tables e below (s₁.setTop (mkF m 15 #[.val (.int q0), .val (.int q1), .val (.int v1), .unset, .unset, .unset, .unset, .unset, .unset, .unset] [(.long v4)])) _
    refine XS.lstoreN X0.here hx rfl (hb hby at_15) rfl (l' := #[.val (.int q0), .val (.int q1), .val (.int v1), .val (.long v4), .second, .unset, .unset, .unset, .unset, .unset]) rfl ?_
    show Steps p.tables e below (s₁.setTop (mkF m 16 #[.val (.int q0), .val (.int q1), .val (.int v1), .val (.long v4), .second, .unset, .unset, .unset, .unset, .unset] [])) _
    refine XS.iloadN X0.here hx rfl (hb hby at_16) rfl ?_
    show Steps p.tables e below (s₁.setTop (mkF m 17 #[.val (.int q0), .val (.int q1), .val (.int v1), .val (.long v4), .second, .unset, .unset, .unset, .unset, .unset] [(.int q0)])) _
    refine X0.ldcInt hx hown (mvT hZ (hw _ (List.mem_of_getElem? (i := 1) rfl))) (g := (mkF m 17 #[.val (.int q0), .val (.int q1), .val (.int v1), .val (.long v4), .second, .unset, .unset, .unset, .unset, .unset] [(.int q0)])) rfl (hb hby at_17) _ ?_
    show Steps p.tables e below (s₁.setTop (mkF m 19 #[.val (.int q0), .val (.int q1), .val (.int v1), .val (.long v4), .second, .unset, .unset, .unset, .unset, .unset] [(.int (2147483647 : Int32)), (.int q0)])) _
    refine XS.iand X0.here hx rfl (hb hby at_19) rfl ?_
    show Steps p.tables e below (s₁.setTop (mkF m 20 #[.val (.int q0), .val (.int q1), .val (.int v1), .val (.long v4), .second, .unset, .unset, .unset, .unset, .unset] [(.int (q0 &&& (2147483647 : Int32)))])) _
    refine XS.i2l X0.here hx rfl (hb hby at_20) rfl ?_
    show Steps p.tables e below (s₁.setTop (mkF m 21 #[.val (.int q0), .val (.int q1), .val (.int v1), .val (.long v4), .second, .unset, .unset, .unset, .unset, .unset] [(.long ((q0 &&& (2147483647 : Int32))).toInt64)])) _
    refine XS.lloadN X0.here hx rfl (hb hby at_21) rfl ?_
    show Steps p.tables e below (s₁.setTop (mkF m 22 #[.val (.int q0), .val (.int q1), .val (.int v1), .val (.long v4), .second, .unset, .unset, .unset, .unset, .unset] [(.long v4), (.long ((q0 &&& (2147483647 : Int32))).toInt64)])) _
    refine own_lremM X0 hx rfl (hb hby at_22) rfl nz_22_6 ?_
    show Steps p.tables e below (s₁.setTop (mkF m 23 #[.val (.int q0), .val (.int q1), .val (.int v1), .val (.long v4), .second, .unset, .unset, .unset, .unset, .unset] [(.long (((q0 &&& (2147483647 : Int32))).toInt64 % v4))])) _
    refine XS.l2i X0.here hx rfl (hb hby at_23) rfl ?_
    exact k
  obtain ⟨v9, hv9⟩ : ∃ z : Int64, z = ((v7).toInt64 * (v1).toInt64) := ⟨_, rfl⟩
  have pre10 : ∀ t, Steps p.tables e below (s₁.setTop (mkF m 32 #[.val (.int q0), .val (.int q1), .val (.int v1), .val (.long v4), .second, .val (.int v7), .unset, .unset, .unset, .unset] [(.long v9)])) t → Steps p.tables e below (s₁.setTop (entryFrame m #[(.int q0), (.int q1)] maxLocals)) t := by
    rw [hv9]
    intro t k
    refine pre8 t ?_
    show Steps p.tables e below (s₁.setTop (mkF m 24 #[.val (.int q0), .val (.int q1), .val (.int v1), .val (.long v4), .second, .unset, .unset, .unset, .unset, .unset] [(.int v7)])) _
    refine XS.istore X0.here hx rfl (hb hby at_24) rfl (l' := #[.val (.int q0), .val (.int q1), .val (.int v1), .val (.long v4), .second, .val (.int v7), .unset, .unset, .unset, .unset]) rfl ?_
    show Steps p.tables e below (s₁.setTop (mkF m 26 #[.val (.int q0), .val (.int q1), .val (.int v1), .val (.long v4), .second, .val (.int v7), .unset, .unset, .unset, .unset] [])) _
    refine XS.iload X0.here hx rfl (hb hby at_26) rfl ?_
    show Steps p.tables e below (s₁.setTop (mkF m 28 #[.val (.int q0), .val (.int q1), .val (.int v1), .val (.long v4), .second, .val (.int v7), .unset, .unset, .unset, .unset] [(.int v7)])) _
    refine XS.i2l X0.here hx rfl (hb hby at_28) rfl ?_
    show Steps p.tables e below (s₁.setTop (mkF m 29 #[.val (.int q0), .val (.int q1), .val (.int v1), .val (.long v4), .second, .val (.int v7), .unset, .unset, .unset, .unset] [(.long (v7).toInt64)])) _
    refine XS.iloadN X0.here hx rfl (hb hby at_29) rfl ?_
    show Steps p.tables e below (s₁.setTop (mkF m 30 #[.val (.int q0), .val (.int q1), .val (.int v1), .val (.long v4), .second, .val (.int v7), .unset, .unset, .unset, .unset] [(.int v1), (.long (v7).toInt64)])) _
    refine XS.i2l X0.here hx rfl (hb hby at_30) rfl ?_
    show Steps p.tables e below (s₁.setTop (mkF m 31 #[.val (.int q0), .val (.int q1), .val (.int v1), .val (.long v4), .second, .val (.int v7), .unset, .unset, .unset, .unset] [(.long (v1).toInt64), (.long (v7).toInt64)])) _
    refine XS.lmul X0.here hx rfl (hb hby at_31) rfl ?_
    exact k
  obtain ⟨_, _, ⟨T11, L11, k11, n11⟩, -, X11, ⟨Lc11, hQ11, l11, y11, z11⟩, st11⟩ := Jvm.LawKit.callS X0 hx (y := (⟨"com/example/cardglyph/cardglyph/image/PackedPoints", "bytes", "(II)I"⟩ : MethodName)) hown (mvT hZ (hw _ (List.mem_of_getElem? (i := 2) rfl))) (mvT hZ (hw _ (List.mem_of_getElem? (i := 3) rfl))) (mvT hZ (hw _ (List.mem_of_getElem? (i := 4) rfl))) (mvT hZ (hw _ (List.mem_of_getElem? (i := 5) rfl))) (by decide) (backOf (W := 0) (rm1 l Z a0 hw [] v7 v1  h0 n0 Z0 ) hZ (hw _ (List.mem_of_getElem? (i := 5) rfl)) (hw _ (List.mem_of_getElem? (i := 4) rfl)) (by decide) (by decide)) (g := (mkF m 37 #[.val (.int q0), .val (.int q1), .val (.int v1), .val (.long v4), .second, .val (.int v7), .val (.long v9), .second, .unset, .unset] [(.int v1), (.int v7)])) rfl (by rw [hml]; rfl) (argsL := [(.int v7), (.int v1)]) (rest := []) (lenOf pd_3 rfl) rfl (by show 2 * 0 + _ ≤ _; exact Nat.le_of_eq rfl) (hb hby at_37) (fun _ _ => ⟨rfl, e0, (by decide : 0 + 0 ≤ _), (by decide : 0 + 0 ≤ _)⟩)
  dsimp only [Pt.U, Pt.locs, Pt.cells, Pt.slots] at X11 l11 y11 z11 st11 hQ11
  subst l11 y11 z11
  obtain ⟨rfl, N11q, e11⟩ := hQ11
  have N11 := Fr.app N0 N11q
  obtain ⟨v12, hv12⟩ : ∃ z : Int64, z = ((own_f1 v7 v1)).toInt64 := ⟨_, rfl⟩
  have pre13 : ∀ t, Steps p.tables e below (T11.setTop (mkF m 41 #[.val (.int q0), .val (.int q1), .val (.int v1), .val (.long v4), .second, .val (.int v7), .val (.long v9), .second, .unset, .unset] [(.long v12)])) t → Steps p.tables e below (s₁.setTop (entryFrame m #[(.int q0), (.int q1)] maxLocals)) t := by
    rw [hv12]
    intro t k
    refine pre10 t ?_
    show Steps p.tables e below (s₁.setTop (mkF m 32 #[.val (.int q0), .val (.int q1), .val (.int v1), .val (.long v4), .second, .val (.int v7), .unset, .unset, .unset, .unset] [(.long v9)])) _
    refine XS.lstore X0.here hx rfl (hb hby at_32) rfl (l' := #[.val (.int q0), .val (.int q1), .val (.int v1), .val (.long v4), .second, .val (.int v7), .val (.long v9), .second, .unset, .unset]) rfl ?_
    show Steps p.tables e below (s₁.setTop (mkF m 34 #[.val (.int q0), .val (.int q1), .val (.int v1), .val (.long v4), .second, .val (.int v7), .val (.long v9), .second, .unset, .unset] [])) _
    refine XS.iload X0.here hx rfl (hb hby at_34) rfl ?_
    show Steps p.tables e below (s₁.setTop (mkF m 36 #[.val (.int q0), .val (.int q1), .val (.int v1), .val (.long v4), .second, .val (.int v7), .val (.long v9), .second, .unset, .unset] [(.int v7)])) _
    refine XS.iloadN X0.here hx rfl (hb hby at_36) rfl ?_
    show Steps p.tables e below (s₁.setTop (mkF m 37 #[.val (.int q0), .val (.int q1), .val (.int v1), .val (.long v4), .second, .val (.int v7), .val (.long v9), .second, .unset, .unset] [(.int v1), (.int v7)])) _
    refine st11 _ ?_
    show Steps p.tables e below (T11.setTop (mkF m 40 #[.val (.int q0), .val (.int q1), .val (.int v1), .val (.long v4), .second, .val (.int v7), .val (.long v9), .second, .unset, .unset] [(.int (own_f1 v7 v1))])) _
    refine XS.i2l X11.here hx rfl (hb hby at_40) rfl ?_
    exact k
  have pre14 : ∀ t, Steps p.tables e below (T11.setTop (mkF m 47 #[.val (.int q0), .val (.int q1), .val (.int v1), .val (.long v4), .second, .val (.int v7), .val (.long v9), .second, .val (.long v12), .second] [(.int (lcmpW v12 (0 : Int64)))])) t → Steps p.tables e below (s₁.setTop (entryFrame m #[(.int q0), (.int q1)] maxLocals)) t := by
    intro t k
    refine pre13 t ?_
    show Steps p.tables e below (T11.setTop (mkF m 41 #[.val (.int q0), .val (.int q1), .val (.int v1), .val (.long v4), .second, .val (.int v7), .val (.long v9), .second, .unset, .unset] [(.long v12)])) _
    refine XS.lstore X11.here hx rfl (hb hby at_41) rfl (l' := #[.val (.int q0), .val (.int q1), .val (.int v1), .val (.long v4), .second, .val (.int v7), .val (.long v9), .second, .val (.long v12), .second]) rfl ?_
    show Steps p.tables e below (T11.setTop (mkF m 43 #[.val (.int q0), .val (.int q1), .val (.int v1), .val (.long v4), .second, .val (.int v7), .val (.long v9), .second, .val (.long v12), .second] [])) _
    refine XS.lload X11.here hx rfl (hb hby at_43) rfl ?_
    show Steps p.tables e below (T11.setTop (mkF m 45 #[.val (.int q0), .val (.int q1), .val (.int v1), .val (.long v4), .second, .val (.int v7), .val (.long v9), .second, .val (.long v12), .second] [(.long v12)])) _
    refine XS.lconst X11.here hx rfl (hb hby at_45) ?_
    show Steps p.tables e below (T11.setTop (mkF m 46 #[.val (.int q0), .val (.int q1), .val (.int v1), .val (.long v4), .second, .val (.int v7), .val (.long v9), .second, .val (.long v12), .second] [(.long (0 : Int64)), (.long v12)])) _
    refine XS.lcmp X11.here hx rfl (hb hby at_46) rfl ?_
    exact k
  by_cases c15 : v12 < (0 : Int64)
  · obtain ⟨fs, hr, hrun, hended, hW, hsame⟩ := X11.leave (v := some (.int (0 : Int32))) (fun h => by rw [Bd.returns] at h; cases h) hlk
    refine ⟨_, _, pre14 _ ?_, hrun, hended, _, _, rfl, ?_, ⟨_, rfl⟩, hW, hsame.mono (by decide) (by decide)⟩
    · show Steps p.tables e below (T11.setTop (mkF m 47 #[.val (.int q0), .val (.int q1), .val (.int v1), .val (.long v4), .second, .val (.int v7), .val (.long v9), .second, .val (.long v12), .second] [(.int (lcmpW v12 (0 : Int64)))])) _
      refine XS.ifYes X11.here hx rfl (pc0 := 47) (pc' := 82) rfl (hb hby at_47) rfl ((if0 _ _).trans (tlt ((lw_lt v12 (0 : Int64)).mpr c15)).1) (by decide) (by decide) ?_
      show Steps p.tables e below (T11.setTop (mkF m 82 #[.val (.int q0), .val (.int q1), .val (.int v1), .val (.long v4), .second, .val (.int v7), .val (.long v9), .second, .val (.long v12), .second] [])) _
      refine XS.iconst X11.here hx rfl (hb hby at_82) ?_
      show Steps p.tables e below (T11.setTop (mkF m 83 #[.val (.int q0), .val (.int q1), .val (.int v1), .val (.long v4), .second, .val (.int v7), .val (.long v9), .second, .val (.long v12), .second] [(.int (0 : Int32))])) _
      exact retN X11 hx (t := .boolean) Bd.returns (by simp) (hb hby at_83) hr
    · show Q0 Z q0 q1 h0 n0 _ T11.heap _
      rw [e11]
      exact ⟨by have w_hv12 := hv12.symm; subst w_hv12; have w_hv9 := hv9.symm; subst w_hv9; have w_hv7 := hv7.symm; subst w_hv7; have w_hv4 := hv4.symm; subst w_hv4; have w_hv1 := hv1.symm; subst w_hv1; simp only [own_f0, if_pos c15], N11⟩
  · have pre16 : ∀ t, Steps p.tables e below (T11.setTop (mkF m 59 #[.val (.int q0), .val (.int q1), .val (.int v1), .val (.long v4), .second, .val (.int v7), .val (.long v9), .second, .val (.long v12), .second] [(.int (lcmpW (v12 * (8 : Int64)) v9))])) t → Steps p.tables e below (s₁.setTop (entryFrame m #[(.int q0), (.int q1)] maxLocals)) t := by
      intro t k
      refine pre14 t ?_
      show Steps p.tables e below (T11.setTop (mkF m 47 #[.val (.int q0), .val (.int q1), .val (.int v1), .val (.long v4), .second, .val (.int v7), .val (.long v9), .second, .val (.long v12), .second] [(.int (lcmpW v12 (0 : Int64)))])) _
      refine XS.ifNo X11.here hx rfl (hb hby at_47) rfl ((if0 _ _).trans (flt (mt (lw_lt v12 (0 : Int64)).mp c15)).1) ?_
      show Steps p.tables e below (T11.setTop (mkF m 50 #[.val (.int q0), .val (.int q1), .val (.int v1), .val (.long v4), .second, .val (.int v7), .val (.long v9), .second, .val (.long v12), .second] [])) _
      refine XS.lload X11.here hx rfl (hb hby at_50) rfl ?_
      show Steps p.tables e below (T11.setTop (mkF m 52 #[.val (.int q0), .val (.int q1), .val (.int v1), .val (.long v4), .second, .val (.int v7), .val (.long v9), .second, .val (.long v12), .second] [(.long v12)])) _
      refine X11.ldc2Long hx hown (mvT hZ (hw _ (List.mem_of_getElem? (i := 6) rfl))) (g := (mkF m 52 #[.val (.int q0), .val (.int q1), .val (.int v1), .val (.long v4), .second, .val (.int v7), .val (.long v9), .second, .val (.long v12), .second] [(.long v12)])) rfl (hb hby at_52) _ ?_
      show Steps p.tables e below (T11.setTop (mkF m 55 #[.val (.int q0), .val (.int q1), .val (.int v1), .val (.long v4), .second, .val (.int v7), .val (.long v9), .second, .val (.long v12), .second] [(.long (8 : Int64)), (.long v12)])) _
      refine XS.lmul X11.here hx rfl (hb hby at_55) rfl ?_
      show Steps p.tables e below (T11.setTop (mkF m 56 #[.val (.int q0), .val (.int q1), .val (.int v1), .val (.long v4), .second, .val (.int v7), .val (.long v9), .second, .val (.long v12), .second] [(.long (v12 * (8 : Int64)))])) _
      refine XS.lload X11.here hx rfl (hb hby at_56) rfl ?_
      show Steps p.tables e below (T11.setTop (mkF m 58 #[.val (.int q0), .val (.int q1), .val (.int v1), .val (.long v4), .second, .val (.int v7), .val (.long v9), .second, .val (.long v12), .second] [(.long v9), (.long (v12 * (8 : Int64)))])) _
      refine XS.lcmp X11.here hx rfl (hb hby at_58) rfl ?_
      exact k
    by_cases c17 : (v12 * (8 : Int64)) < v9
    · obtain ⟨fs, hr, hrun, hended, hW, hsame⟩ := X11.leave (v := some (.int (0 : Int32))) (fun h => by rw [Bd.returns] at h; cases h) hlk
      refine ⟨_, _, pre16 _ ?_, hrun, hended, _, _, rfl, ?_, ⟨_, rfl⟩, hW, hsame.mono (by decide) (by decide)⟩
      · show Steps p.tables e below (T11.setTop (mkF m 59 #[.val (.int q0), .val (.int q1), .val (.int v1), .val (.long v4), .second, .val (.int v7), .val (.long v9), .second, .val (.long v12), .second] [(.int (lcmpW (v12 * (8 : Int64)) v9))])) _
        refine XS.ifYes X11.here hx rfl (pc0 := 59) (pc' := 82) rfl (hb hby at_59) rfl ((if0 _ _).trans (tlt ((lw_lt (v12 * (8 : Int64)) v9).mpr c17)).1) (by decide) (by decide) ?_
        show Steps p.tables e below (T11.setTop (mkF m 82 #[.val (.int q0), .val (.int q1), .val (.int v1), .val (.long v4), .second, .val (.int v7), .val (.long v9), .second, .val (.long v12), .second] [])) _
        refine XS.iconst X11.here hx rfl (hb hby at_82) ?_
        show Steps p.tables e below (T11.setTop (mkF m 83 #[.val (.int q0), .val (.int q1), .val (.int v1), .val (.long v4), .second, .val (.int v7), .val (.long v9), .second, .val (.long v12), .second] [(.int (0 : Int32))])) _
        exact retN X11 hx (t := .boolean) Bd.returns (by simp) (hb hby at_83) hr
      · show Q0 Z q0 q1 h0 n0 _ T11.heap _
        rw [e11]
        exact ⟨by have w_hv12 := hv12.symm; subst w_hv12; have w_hv9 := hv9.symm; subst w_hv9; have w_hv7 := hv7.symm; subst w_hv7; have w_hv4 := hv4.symm; subst w_hv4; have w_hv1 := hv1.symm; subst w_hv1; simp only [own_f0, if_neg c15, if_pos c17], N11⟩
    · have pre18 : ∀ t, Steps p.tables e below (T11.setTop (mkF m 75 #[.val (.int q0), .val (.int q1), .val (.int v1), .val (.long v4), .second, .val (.int v7), .val (.long v9), .second, .val (.long v12), .second] [(.int (lcmpW (v12 * (8 : Int64)) (v9 + (8 : Int64))))])) t → Steps p.tables e below (s₁.setTop (entryFrame m #[(.int q0), (.int q1)] maxLocals)) t := by
        intro t k
        refine pre16 t ?_
        show Steps p.tables e below (T11.setTop (mkF m 59 #[.val (.int q0), .val (.int q1), .val (.int v1), .val (.long v4), .second, .val (.int v7), .val (.long v9), .second, .val (.long v12), .second] [(.int (lcmpW (v12 * (8 : Int64)) v9))])) _
        refine XS.ifNo X11.here hx rfl (hb hby at_59) rfl ((if0 _ _).trans (flt (mt (lw_lt (v12 * (8 : Int64)) v9).mp c17)).1) ?_
        show Steps p.tables e below (T11.setTop (mkF m 62 #[.val (.int q0), .val (.int q1), .val (.int v1), .val (.long v4), .second, .val (.int v7), .val (.long v9), .second, .val (.long v12), .second] [])) _
        refine XS.lload X11.here hx rfl (hb hby at_62) rfl ?_
        show Steps p.tables e below (T11.setTop (mkF m 64 #[.val (.int q0), .val (.int q1), .val (.int v1), .val (.long v4), .second, .val (.int v7), .val (.long v9), .second, .val (.long v12), .second] [(.long v12)])) _
        refine X11.ldc2Long hx hown (mvT hZ (hw _ (List.mem_of_getElem? (i := 6) rfl))) (g := (mkF m 64 #[.val (.int q0), .val (.int q1), .val (.int v1), .val (.long v4), .second, .val (.int v7), .val (.long v9), .second, .val (.long v12), .second] [(.long v12)])) rfl (hb hby at_64) _ ?_
        show Steps p.tables e below (T11.setTop (mkF m 67 #[.val (.int q0), .val (.int q1), .val (.int v1), .val (.long v4), .second, .val (.int v7), .val (.long v9), .second, .val (.long v12), .second] [(.long (8 : Int64)), (.long v12)])) _
        refine XS.lmul X11.here hx rfl (hb hby at_67) rfl ?_
        show Steps p.tables e below (T11.setTop (mkF m 68 #[.val (.int q0), .val (.int q1), .val (.int v1), .val (.long v4), .second, .val (.int v7), .val (.long v9), .second, .val (.long v12), .second] [(.long (v12 * (8 : Int64)))])) _
        refine XS.lload X11.here hx rfl (hb hby at_68) rfl ?_
        show Steps p.tables e below (T11.setTop (mkF m 70 #[.val (.int q0), .val (.int q1), .val (.int v1), .val (.long v4), .second, .val (.int v7), .val (.long v9), .second, .val (.long v12), .second] [(.long v9), (.long (v12 * (8 : Int64)))])) _
        refine X11.ldc2Long hx hown (mvT hZ (hw _ (List.mem_of_getElem? (i := 6) rfl))) (g := (mkF m 70 #[.val (.int q0), .val (.int q1), .val (.int v1), .val (.long v4), .second, .val (.int v7), .val (.long v9), .second, .val (.long v12), .second] [(.long v9), (.long (v12 * (8 : Int64)))])) rfl (hb hby at_70) _ ?_
        show Steps p.tables e below (T11.setTop (mkF m 73 #[.val (.int q0), .val (.int q1), .val (.int v1), .val (.long v4), .second, .val (.int v7), .val (.long v9), .second, .val (.long v12), .second] [(.long (8 : Int64)), (.long v9), (.long (v12 * (8 : Int64)))])) _
        refine XS.ladd X11.here hx rfl (hb hby at_73) rfl ?_
        show Steps p.tables e below (T11.setTop (mkF m 74 #[.val (.int q0), .val (.int q1), .val (.int v1), .val (.long v4), .second, .val (.int v7), .val (.long v9), .second, .val (.long v12), .second] [(.long (v9 + (8 : Int64))), (.long (v12 * (8 : Int64)))])) _
        refine XS.lcmp X11.here hx rfl (hb hby at_74) rfl ?_
        exact k
      by_cases c19 : (v12 * (8 : Int64)) < (v9 + (8 : Int64))
      · obtain ⟨fs, hr, hrun, hended, hW, hsame⟩ := X11.leave (v := some (.int (1 : Int32))) (fun h => by rw [Bd.returns] at h; cases h) hlk
        refine ⟨_, _, pre18 _ ?_, hrun, hended, _, _, rfl, ?_, ⟨_, rfl⟩, hW, hsame.mono (by decide) (by decide)⟩
        · show Steps p.tables e below (T11.setTop (mkF m 75 #[.val (.int q0), .val (.int q1), .val (.int v1), .val (.long v4), .second, .val (.int v7), .val (.long v9), .second, .val (.long v12), .second] [(.int (lcmpW (v12 * (8 : Int64)) (v9 + (8 : Int64))))])) _
          refine XS.ifNo X11.here hx rfl (hb hby at_75) rfl ((if0 _ _).trans (tlt ((lw_lt (v12 * (8 : Int64)) (v9 + (8 : Int64))).mpr c19)).2.1) ?_
          show Steps p.tables e below (T11.setTop (mkF m 78 #[.val (.int q0), .val (.int q1), .val (.int v1), .val (.long v4), .second, .val (.int v7), .val (.long v9), .second, .val (.long v12), .second] [])) _
          refine XS.iconst X11.here hx rfl (hb hby at_78) ?_
          show Steps p.tables e below (T11.setTop (mkF m 79 #[.val (.int q0), .val (.int q1), .val (.int v1), .val (.long v4), .second, .val (.int v7), .val (.long v9), .second, .val (.long v12), .second] [(.int (1 : Int32))])) _
          refine XS.goto X11.here hx rfl (pc0 := 79) (pc' := 83) rfl (hb hby at_79) (by decide) (by decide) ?_
          show Steps p.tables e below (T11.setTop (mkF m 83 #[.val (.int q0), .val (.int q1), .val (.int v1), .val (.long v4), .second, .val (.int v7), .val (.long v9), .second, .val (.long v12), .second] [(.int (1 : Int32))])) _
          exact retN X11 hx (t := .boolean) Bd.returns (by simp) (hb hby at_83) hr
        · show Q0 Z q0 q1 h0 n0 _ T11.heap _
          rw [e11]
          exact ⟨by have w_hv12 := hv12.symm; subst w_hv12; have w_hv9 := hv9.symm; subst w_hv9; have w_hv7 := hv7.symm; subst w_hv7; have w_hv4 := hv4.symm; subst w_hv4; have w_hv1 := hv1.symm; subst w_hv1; simp only [own_f0, if_neg c15, if_neg c17, if_pos c19], N11⟩
      · obtain ⟨fs, hr, hrun, hended, hW, hsame⟩ := X11.leave (v := some (.int (0 : Int32))) (fun h => by rw [Bd.returns] at h; cases h) hlk
        refine ⟨_, _, pre18 _ ?_, hrun, hended, _, _, rfl, ?_, ⟨_, rfl⟩, hW, hsame.mono (by decide) (by decide)⟩
        · show Steps p.tables e below (T11.setTop (mkF m 75 #[.val (.int q0), .val (.int q1), .val (.int v1), .val (.long v4), .second, .val (.int v7), .val (.long v9), .second, .val (.long v12), .second] [(.int (lcmpW (v12 * (8 : Int64)) (v9 + (8 : Int64))))])) _
          refine XS.ifYes X11.here hx rfl (pc0 := 75) (pc' := 82) rfl (hb hby at_75) rfl ((if0 _ _).trans (flt (mt (lw_lt (v12 * (8 : Int64)) (v9 + (8 : Int64))).mp c19)).2.1) (by decide) (by decide) ?_
          show Steps p.tables e below (T11.setTop (mkF m 82 #[.val (.int q0), .val (.int q1), .val (.int v1), .val (.long v4), .second, .val (.int v7), .val (.long v9), .second, .val (.long v12), .second] [])) _
          refine XS.iconst X11.here hx rfl (hb hby at_82) ?_
          show Steps p.tables e below (T11.setTop (mkF m 83 #[.val (.int q0), .val (.int q1), .val (.int v1), .val (.long v4), .second, .val (.int v7), .val (.long v9), .second, .val (.long v12), .second] [(.int (0 : Int32))])) _
          exact retN X11 hx (t := .boolean) Bd.returns (by simp) (hb hby at_83) hr
        · show Q0 Z q0 q1 h0 n0 _ T11.heap _
          rw [e11]
          exact ⟨by have w_hv12 := hv12.symm; subst w_hv12; have w_hv9 := hv9.symm; subst w_hv9; have w_hv7 := hv7.symm; subst w_hv7; have w_hv4 := hv4.symm; subst w_hv4; have w_hv1 := hv1.symm; subst w_hv1; simp only [own_f0, if_neg c15, if_neg c17, if_neg c19], N11⟩
theorem own_core (n : Int32) (hn : 1 ≤ n.toInt ∧ n.toInt ≤ 8) (v4 : Int64) (h4 : v4 = (2147483640 : Int64) / n.toInt64 + 1) (x : Int64) (hx : 0 ≤ x.toInt) (v7 : Int32) (h7 : v7 = (x % v4).toInt32) (v9 : Int64) (h9 : v9 = v7.toInt64 * n.toInt64) (v12 : Int64) (h12 : v12 = (own_f1 v7 n).toInt64) :
    (if v12 < (0 : Int64) then (0 : Int32) else (if (v12 * (8 : Int64)) < v9 then (0 : Int32) else (if (v12 * (8 : Int64)) < (v9 + (8 : Int64)) then (1 : Int32) else (0 : Int32)))) = 1 := by
  obtain ⟨l1, l2, l3, l4⟩ := own_lim n hn
  rw [← h4] at l1
  have e := own_i2l n
  have g := own_lrem (x := x) (y := v4) hx
  have g1 := Int.emod_lt_of_pos x.toInt (show 0 < v4.toInt by omega)
  have g2 := Int.emod_nonneg x.toInt (show v4.toInt ≠ 0 by omega)
  have k := own_l2i (x := x % v4) (by omega)
  rw [← h7] at k
  have hv : 0 ≤ v7.toInt ∧ v7.toInt ≤ 2147483640 / n.toInt := by omega
  have hp0 : 0 ≤ v7.toInt * n.toInt := Int.mul_nonneg hv.1 (by omega)
  have hp1 : v7.toInt * n.toInt ≤ (2147483640 / n.toInt) * n.toInt := Int.mul_le_mul_of_nonneg_right hv.2 (by omega)
  have e8 : (8 : Int32).toInt = 8 := by decide
  have e1 : (1 : Int32).toInt = 1 := by decide
  have f8 : (8 : Int64).toInt = 8 := by decide
  have z : (0 : Int64).toInt = 0 := by decide
  have i1 := own_imul (x := v7) (y := n) (by omega)
  have e7 : (7 : Int32).toInt = 7 := by decide
  have i2 : v7 * n + 8 - 1 = v7 * n + 7 := by rw [Int32.sub_eq_add_neg, Int32.add_assoc]; rfl
  have i3 := own_iadd (x := v7 * n) (y := 7) (by omega)
  have i4 := own_idiv (x := v7 * n + 7) (y := 8) (by omega) (by omega)
  rw [e8] at i4
  have e7' := own_i2l v7
  have j := own_lmul (x := v7.toInt64) (y := n.toInt64) (by rw [e7', e]; omega)
  rw [e7', e, ← h9] at j
  have b12 : v12.toInt = (v7.toInt * n.toInt + 7) / 8 := by
    rw [h12, own_i2l]; simp only [own_f1]; rw [i2, i4, i3, i1, e7]
  have j2 := own_lmul (x := v12) (y := 8) (by rw [f8]; omega)
  rw [f8] at j2
  have j3 := own_ladd (x := v9) (y := 8) (by omega)
  simp only [Int64.lt_iff_toInt_lt]
  rw [if_neg (by omega), if_neg (by omega), if_pos (by omega)]
theorem own_plain (q0 q1 : Int32) : own_f0 q0 q1 = 1 := by
  have a := own_mask q0 2147483647 31 (by decide) (by decide)
  have m1 : (2147483647 : Int32).toInt = 2147483647 := by decide
  exact own_core _ (own_bits q1) _ rfl _ (by rw [own_i2l]; omega) _ rfl _ rfl _ rfl

set_option maxRecDepth 65536 in
set_option maxHeartbeats 40000000 in
theorem comes_1 {Post : Tables → Env → Array Value → State → Outcome → State → Prop} (hpost : ∀ tb e args s v u, (limb_1_1.after args s (.returned v) u = true ∧ limb_1_2.after args s (.returned v) u = true ∧ True) → FrameEnd s (.returned v) u (Jvm.fieldLocs frame_1_writes args s ++ Jvm.arrayLocs frame_1_arrays args s ++ Jvm.staticLocs frame_1_statics s) 0 0 → Post tb e args s (.returned v) u) :
    ArmFor flags0 classFile x code maxLocals ret World_1 tables_1 room_1 Calls_1 rest_1 Pre_1 Post := by
  intro l hfl _ _ p e ha hc hk s m args below hf hA hF happ hP
  obtain ⟨hcalls, hrest, hpre⟩ := hP
  obtain ⟨-, -, -, hnamed, -, -, -, hat⟩ := (Spec.applies_iff hf).mp happ
  obtain ⟨hg, hn⟩ := and_e (Cond.before_iff.mp (show (Jvm.Cond.and given_1 narrow_1).before args s = true from hpre))
  obtain ⟨gc, gr0⟩ := and_e hg
  obtain ⟨w0, w1, rfl⟩ : ∃ w0 w1 : Value, args = #[w0, w1] := by
    have hs : args.size = 2 := by simpa [Cond.value, given_1] using gc
    obtain ⟨L⟩ := args
    match L, hs with
    | [w0, w1], _ => exact ⟨w0, w1, rfl⟩
  have hw := fun d (hd : d ∈ tables_1) => atoms_spec (ws := Jvm.Cond.code x code maxLocals ret :: tables_1) hat d (List.mem_cons_of_mem _ hd)
  obtain ⟨g0, gr1⟩ := and_e gr0
  obtain ⟨i0, ei0⟩ := is_v g0
  obtain rfl : w0 = (.int i0) := Option.some.inj ei0
  obtain ⟨i1, ei1⟩ := is_v gr1
  obtain rfl : w1 = (.int i1) := Option.some.inj ei1
  obtain ⟨n, o, h1, h2, h3, _, L, rfl, ⟨hv, N⟩, hq⟩ := rm0 l s _ hw tables_1 i0 i1 s.heap s.heap.size (Nat.le_refl _) p e ha hc hk s m _ below hf ((Spec.applies_iff_loose hf).mp happ).1 ⟨rfl, State.Warmed39.refl s, rfl⟩ trivial
  rw [own_plain] at hv
  subst hv
  refine ⟨n, _, h1, h2, h3, hpost _ _ _ _ _ _ ⟨Cond.after_iff.mpr rfl, Cond.after_iff.mpr (eq_i res_at (Term.int_eval (1)) rfl), trivial⟩ ⟨hq.1, hq.2.1, (hq.2.2.sift fun y hy => Or.inr (N y hy)).mono (by decide) (by decide)⟩⟩
theorem main_1_1 : Claimed_1_1 := comes_1 fun _ _ _ _ _ _ h hF => ⟨h.1, hF⟩
theorem main_1_2 : Claimed_1_2 := comes_1 fun _ _ _ _ _ _ h hF => ⟨h.2.1, hF⟩
end Jvm.Pilot.@@N@@
namespace Jvm.Pilot.@@N@@
open Jvm Jvm.ClassFile Sem Op Lib Jvm.Free Jvm.Stand Jvm.Pilot.@@N@@.Jvm.D
/-! MADE BY PROGRAM (witnessworld.py) out of the Statement's table words and the real class files: 9 classes; the members and pool entries that the words name. The judged class is class 1, her method 1. -/
namespace start1
open Jvm.ClassFile
def u (s : String) : CpInfo := .utf8 (stringToUtf16 s)
/-- a pool by its gaps: so many unusable entries, then the entry; so many at the end -/
def gap : Nat → List CpInfo → List CpInfo
  | 0, r => r
  | n + 1, r => .unusable :: gap n r
def poolList (es : List (Nat × CpInfo)) (last : Nat) : List CpInfo := es.foldr (fun e r => gap e.1 (e.2 :: r)) (gap last [])
def pool (es : List (Nat × CpInfo)) (last : Nat) : Array CpInfo := ⟨poolList es last⟩
def fileOf (pool : Array CpInfo) (this : Nat) (attrs : Array Attribute := #[]) (ms : Array MethodInfo := #[]) (fl : Nat := 33) (sup : Nat := 0) (ifs : Array Nat := #[]) (fds : Array FieldInfo := #[]) : ClassFile where
  minorVersion := 0
  majorVersion := 65
  constantPool := pool
  accessFlags := fl
  thisClass := this
  superClass := sup
  interfaces := ifs
  fields := fds
  methods := ms
  attributes := attrs
def plain (name : String) (sup : Option ClassId) : Class where
  name := name
  kind := .ordinary
  loader := none
  accessFlags := 33
  super := sup
  interfaces := #[]
  cf := none
  fields := #[]
  methods := #[]
  instanceTypes := #[]
  staticTypes := #[]
  resolved := #[]
  callSites := []
  init := .initialized
  statics := none
  mirror := none

def pool0 : Array CpInfo := pool [(5, u "<init>"), (0, u "()V"), (1, .class_ 10), (1, u "java/lang/Object")] 113

def k0m0 : Method := { name := "<init>", desc := "()V", sig := { parameters := [], returnType := none }, accessFlags := 1, code := none }
/-- java/lang/Object -/
def k0 : Class := { plain "java/lang/Object" none with
  accessFlags := 33
  interfaces := #[]
  cf := some (fileOf pool0 8 #[] #[{ accessFlags := 1, nameIndex := 5, descriptorIndex := 6, attributes := #[] }] 33 0 #[] #[])
  fields := #[]
  methods := #[k0m0]
  instanceTypes := #[]
  staticTypes := #[]
  resolved := Array.replicate 124 none
  statics := none }

def pool1 : Array CpInfo := pool [(2, .class_ 4), (1, u "java/lang/Object"), (0, u "<init>"), (0, u "()V"), (2, .long 2147483640), (1, .integer 2147483647), (0, .methodref 13 14), (0, .class_ 15), (0, .nameAndType 16 17), (0, u "com/example/cardglyph/cardglyph/image/PackedPoints"), (0, u "bytes"), (0, u "(II)I"), (0, .long 8), (1, .class_ 21), (0, u "com/example/cardglyph/cardglyph/image/PackedPointsBytesPinLaw"), (2, u "law"), (0, u "(II)Z")] 3

def k1m0 : Method := { name := "<init>", desc := "()V", sig := { parameters := [], returnType := none }, accessFlags := 2, code := none }
def k1c1 : Code := { maxStack := 6, maxLocals := 10, code := code, exceptionTable := #[], attributes := #[] }
def k1m1 : Method := { name := "law", desc := "(II)Z", sig := { parameters := [.int, .int], returnType := some .boolean }, accessFlags := 9, code := some k1c1 }
/-- com/example/cardglyph/cardglyph/image/PackedPointsBytesPinLaw -/
def k1 : Class := { plain "com/example/cardglyph/cardglyph/image/PackedPointsBytesPinLaw" (some 0) with
  accessFlags := 49
  interfaces := #[]
  cf := some (fileOf pool1 20 #[] #[{ accessFlags := 2, nameIndex := 5, descriptorIndex := 6, attributes := #[] }, { accessFlags := 9, nameIndex := 24, descriptorIndex := 25, attributes := #[] }] 49 2 #[] #[])
  fields := #[]
  methods := #[k1m0, k1m1]
  instanceTypes := #[]
  staticTypes := #[]
  resolved := Array.replicate 29 none
  statics := none }

def pool2 : Array CpInfo := pool [(2, .class_ 4), (1, u "java/lang/Object"), (0, u "<init>"), (0, u "()V"), (3, .class_ 12), (1, u "com/example/cardglyph/cardglyph/image/PackedPoints"), (0, u "bytes"), (0, u "(II)I")] 23

def k2m0 : Method := { name := "<init>", desc := "()V", sig := { parameters := [], returnType := none }, accessFlags := 2, code := none }
def k2c1 : Code := { maxStack := 2, maxLocals := 2, code := prog_21_method_2_code, exceptionTable := #[], attributes := #[] }
def k2m1 : Method := { name := "bytes", desc := "(II)I", sig := { parameters := [.int, .int], returnType := some .int }, accessFlags := 8, code := some k2c1 }
/-- com/example/cardglyph/cardglyph/image/PackedPoints -/
def k2 : Class := { plain "com/example/cardglyph/cardglyph/image/PackedPoints" (some 0) with
  accessFlags := 48
  interfaces := #[]
  cf := some (fileOf pool2 10 #[] #[{ accessFlags := 2, nameIndex := 5, descriptorIndex := 6, attributes := #[] }, { accessFlags := 8, nameIndex := 13, descriptorIndex := 14, attributes := #[] }] 48 2 #[] #[])
  fields := #[]
  methods := #[k2m0, k2m1]
  instanceTypes := #[]
  staticTypes := #[]
  resolved := Array.replicate 38 none
  statics := none }

def pool3 : Array CpInfo := pool [(1, u "java/lang/Cloneable"), (0, .class_ 1), (0, u "java/lang/Object"), (0, .class_ 3)] 3

/-- java/lang/Cloneable -/
def k3 : Class := { plain "java/lang/Cloneable" (some 0) with
  accessFlags := 1537
  interfaces := #[]
  cf := some (fileOf pool3 2 #[] #[] 1537 4 #[] #[])
  fields := #[]
  methods := #[]
  instanceTypes := #[]
  staticTypes := #[]
  resolved := Array.replicate 8 none
  statics := none }

def pool4 : Array CpInfo := pool [(1, u "java/io/Serializable"), (0, .class_ 1), (0, u "java/lang/Object"), (0, .class_ 3)] 3

/-- java/io/Serializable -/
def k4 : Class := { plain "java/io/Serializable" (some 0) with
  accessFlags := 1537
  interfaces := #[]
  cf := some (fileOf pool4 2 #[] #[] 1537 4 #[] #[])
  fields := #[]
  methods := #[]
  instanceTypes := #[]
  staticTypes := #[]
  resolved := Array.replicate 8 none
  statics := none }

/-- the primitive byte -/
def k5 : Class := { plain "byte" none with kind := .primitive 'B', accessFlags := 0x411 }
/-- [B -/
def k6 : Class := { plain "[B" (some 0) with kind := .array 5 .byte, interfaces := #[3, 4], accessFlags := 1041 }

/-- the primitive int -/
def k7 : Class := { plain "int" none with kind := .primitive 'I', accessFlags := 0x411 }
/-- [I -/
def k8 : Class := { plain "[I" (some 0) with kind := .array 7 .int, interfaces := #[3, 4], accessFlags := 1041 }

def heap : Heap := #[]
def classes : Array Class := #[k0, k1, k2, k3, k4, k5, k6, k7, k8]
def interned : List (Array UInt16 × Addr) := []
def slotsUsed : Nat := 0
def theMethod : MethodId := ⟨1, 1⟩
def args0 : Array Value := #[.int 5, .int 7]
def aboutOver (below : List Frame) : State where
  vm := { classes := classes, interned := interned.toArray }
  heap := heap
  slotsUsed := slotsUsed
  threads := #[{ frames := .invoking theMethod args0 :: below }]
def below0 : List Frame := [.native { method := ⟨0, 0⟩, args := #[] }]
def about1 : State := aboutOver below0
def p0 : Program := .bare "" "" ""
def e0 : Env := launch0.env 0 0 0
theorem w_frames : about1.frames = Frame.invoking theMethod args0 :: below0 := rfl
set_option maxRecDepth 65536 in
theorem w_args : argsFit about1.vm theMethod args0 = true := by decide +kernel
set_option maxRecDepth 65536 in
theorem w_heap : heapFits about1 = true := by decide +kernel
set_option maxRecDepth 65536 in
theorem w_runnable : about1.curStatus? = some .runnable := by decide +kernel
set_option maxRecDepth 65536 in
theorem w_alone : about1.alone = true := by decide +kernel
set_option maxRecDepth 65536 in
theorem w_named : about1.methodNamed? x = some theMethod := by decide +kernel
set_option maxRecDepth 65536 in
theorem w_hears : about1.hears theMethod below0 = true := by decide +kernel
set_option maxRecDepth 65536 in
theorem w_ripe : about1.ripe theMethod args0 below0 = true := by decide +kernel
theorem w_running : about1.status = .running := rfl
set_option maxRecDepth 65536 in
theorem w_room : about1.hasRoom e0.platform room_1 = true :=
  launch0.hasRoom_least _ room_1 (by decide +kernel) (by decide +kernel) (by decide +kernel) (by decide +kernel) (by decide +kernel) (by decide +kernel)
theorem allAtoms_all (ts : List Jvm.Cond) (a : Array Jvm.Value) (st : Jvm.State) : (allAtoms ts).before a st = ts.all (fun c => c.before a st) := by
  induction ts with
  | nil => rfl
  | cons c t ih =>
    show (Jvm.Cond.and c (allAtoms t)).before a st = _
    rw [Jvm.Cond.before_and, ih, List.all_cons]
def words1 : List Jvm.Cond := Jvm.Cond.code x code maxLocals ret :: tables_1
/-- a 'code' word, met by the world's own term for the bytes: nothing is compared byte by byte -/
theorem code_word {y : MethodName} {bytes : ByteArray} {mx : Nat} {rt : Option FieldType} {a : Array Value} {s : State} {m : MethodId} {meth : Method} {c : Code} (h1 : s.methodNamed? y = some m) (h2 : s.vm.method? m = some meth) (h3 : meth.code = some c) (h4 : c.code = bytes)
    (h5 : (c.maxLocals == mx && c.exceptionTable.isEmpty && decide (c.maxStack ≤ mostOperands) && decide (meth.sig.returnType = rt) && !meth.locks && decide (parseMethodDescriptor y.desc = some meth.sig)) = true) : (Jvm.Cond.code y bytes mx rt).before a s = true := by
  simp only [Bool.and_eq_true, beq_iff_eq, Bool.not_eq_true', decide_eq_true_eq] at h5
  obtain ⟨⟨⟨⟨⟨g1, g2⟩, g3⟩, g4⟩, g5⟩, g6⟩ := h5
  simp [Cond.before, Cond.holds, Cond.value, h1, h2, h3, h4, g1, g2, g3, g4, g5, g6]
def isCode : Jvm.Cond → Bool
  | .code _ _ _ _ => true
  | _ => false
theorem all_split {L : List Jvm.Cond} {P : Jvm.Cond → Bool} (h1 : L.all (fun c => isCode c || P c) = true) (h2 : ∀ c ∈ L.filter isCode, P c = true) : L.all P = true := by
  refine List.all_eq_true.mpr fun c hc => ?_
  have h := List.all_eq_true.mp h1 c hc
  rcases Bool.eq_false_or_eq_true (isCode c) with hi | hi
  · exact h2 c (List.mem_filter.mpr ⟨hc, hi⟩)
  · simpa [hi] using h
set_option maxRecDepth 65536 in
theorem w_c0 : (Jvm.Cond.code x code maxLocals ret).before args0 about1 = true := code_word (m := ⟨1, 1⟩) (meth := k1m1) (c := k1c1) (by decide +kernel) rfl rfl rfl (by decide +kernel)
set_option maxRecDepth 65536 in
theorem w_c1 : (Jvm.Cond.code ({ cls := "com/example/cardglyph/cardglyph/image/PackedPoints", name := "bytes", desc := "(II)I" } : Jvm.MethodName) prog_21_method_2_code (2 : Nat) (Option.some Jvm.ClassFile.FieldType.int)).before args0 about1 = true := code_word (m := ⟨2, 1⟩) (meth := k2m1) (c := k2c1) (by decide +kernel) rfl rfl rfl (by decide +kernel)
def codes1 : List Jvm.Cond := [Jvm.Cond.code x code maxLocals ret, Jvm.Cond.code ({ cls := "com/example/cardglyph/cardglyph/image/PackedPoints", name := "bytes", desc := "(II)I" } : Jvm.MethodName) prog_21_method_2_code (2 : Nat) (Option.some Jvm.ClassFile.FieldType.int)]
set_option maxRecDepth 65536 in
theorem codes_eq : words1.filter isCode = codes1 := rfl
theorem w_codes : ∀ c ∈ words1.filter isCode, c.before args0 about1 = true := by
  rw [codes_eq]
  intro c hc
  simp only [codes1, List.mem_cons, List.not_mem_nil, or_false] at hc
  rcases hc with rfl | rfl
  · exact w_c0
  · exact w_c1
set_option maxRecDepth 65536 in
theorem w_t1 : words1.all (fun c => isCode c || c.before args0 about1) = true := by decide +kernel
theorem w_tables : (allAtoms (Jvm.Cond.code x code maxLocals ret :: tables_1)).before args0 about1 = true := by
  rw [allAtoms_all]
  show words1.all (fun c => c.before args0 about1) = true
  refine all_split ?_ w_codes
  rw [w_t1]
set_option maxRecDepth 65536 in
theorem w_case : (Jvm.Cond.and given_1 narrow_1).before args0 about1 = true := by decide +kernel
theorem w_applies : (headSpec (Jvm.Cond.code x code maxLocals ret :: tables_1) room_1).applies x e0.platform about1 = true :=
  (Spec.applies_iff w_frames).mpr ⟨w_running, w_runnable, w_alone, w_named, w_hears, w_ripe, w_room, w_tables⟩
theorem atStart : AtStart classFile x code maxLocals ret World_1 tables_1 room_1 Calls_1 rest_1 Pre_1 launch0 p0 e0 about1 theMethod args0 below0 :=
  ⟨lists_1, trivial, launch0.admits_env _ _ _, launch0.least_env, fairChoices_fair.cas, fairChoices_fair.clock, w_frames, w_args, w_heap, w_applies, trivial, trivial, w_case⟩
end start1
theorem witness_1 : WitnessClaimed_1 := ⟨start1.p0, start1.e0, start1.about1, start1.theMethod, start1.args0, start1.below0, start1.atStart⟩
end Jvm.Pilot.@@N@@
