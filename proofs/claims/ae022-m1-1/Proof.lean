import JvmDerived
import JvmDerived.Pilot.@@N@@Statement
import JvmDerived.Pilot.@@N@@Code
set_option linter.unusedVariables false
set_option linter.unusedSimpArgs false
namespace Jvm.RoadKit
open Sem ClassFile Op Lib Jvm.Stand Jvm.Free Jvm.LawKit
section New
variable {p : Program} {l : Launch} {e : Env} {R : Room} {s : State} {m : MethodId} {args : Array Value} {below : List Frame} {meth : Method} {c : Code} {T : State} {locs : List Loc} {cells slots : Nat}
theorem retI (X : Stand p l e R s m args below meth c T locs cells slots) (hx : p.tables.exec = Jvm.exec) {pc : Nat} {Ls : Array Slot} {z : Int32} {rest : List Value} (hret : meth.sig.returnType = some .int) (hd : decode c.code pc = .ok (.ireturn, 1)) {fs : List Frame}
    (hl : ∀ (f : JFrame) (acts : List Action), f.method = m → f.locked = none → f.entered = [] → (doReturn e (T.setTop f) acts (some (.int z))).1 = T.setFrames fs) : Steps p.tables e below (T.setTop (mkF m pc Ls (.int z :: rest))) (T.setFrames fs) := by
  have hm' : T.vm.method? m = some meth := X.method'
  have hn : narrow .int (.int z) = .int z := rfl
  show Steps p.tables e below (T.setTop { method := m, pc := pc, locals := Ls, stack := _ :: rest, locked := none }) _
  jvm_step X.here [X.here.top, hx, hd, hm', hret, hn]
  first | (intro acts; rw [hl _ acts rfl rfl rfl]) | rw [hl _ _ rfl rfl rfl]
  exact Steps.refl _
end New
end Jvm.RoadKit
namespace Jvm.Pilot.@@N@@
open Jvm Jvm.ClassFile Sem Op Lib Jvm.Free Jvm.Stand Jvm.LawKit Jvm.RoadKit Bundle Jvm.Pilot.@@N@@.Jvm.D
section OwnKit
variable {p : Program} {l : Launch} {e : Env} {R : Room} {s : State} {m : MethodId} {args : Array Value} {below : List Frame} {meth : Method} {c : Code} {T : State} {locs : List Loc} {cells slots : Nat} {Z : State} {h h' : Heap}
theorem own_lremM {g : JFrame} {target : State} (X : Stand p l e R s m args below meth c T locs cells slots) (hx : p.tables.exec = Jvm.exec) (hg : g.method = m) {x y : Int64} {rest : List Value} (hd : decode c.code g.pc = .ok (.lrem, 1)) (hs : g.stack = .long y :: .long x :: rest) (hy : y ≠ 0)
    (hr : Steps p.tables e below (T.setTop { g with pc := g.pc + 1, stack := .long (x % y) :: rest }) target) : Steps p.tables e below (T.setTop g) target :=
  XS.lrem X.here hx hg hd hs hy (by rw [lrem_mod]; exact hr)
/-- an array, by the list of its values -/
def own_A (Z : State) (h : Heap) (a : Addr) (ty : FieldType) (vs : List Value) : Prop := ∃ c : Cell, Arr Z h a c ty ∧ c.slots = vs.toArray
def own_AJ (Z : State) (h : Heap) (a : Addr) (xs : List Int64) : Prop := own_A Z h a .long (xs.map .long)
def own_AI (Z : State) (h : Heap) (a : Addr) (ty : FieldType) (xs : List Int32) : Prop := own_A Z h a ty (xs.map .int)
section Facts
variable {a b : Addr} {ty : FieldType} {vs : List Value} {xs : List Int64} {ys : List Int32} {sl : Nat} {v : Value} {ws : List Addr}
theorem own_A.ext (F : own_A Z h a ty vs) (E : Ext h h') : own_A Z h' a ty vs := by obtain ⟨c, A, r⟩ := F; exact ⟨c, A.ext E, r⟩
theorem own_A.other (F : own_A Z h b ty vs) (W : Wr h h' a sl v) (q : b ≠ a) : own_A Z h' b ty vs := by obtain ⟨c, A, r⟩ := F; exact ⟨c, A.other W q, r⟩
theorem own_A.keep (F : own_A Z h a ty vs) (K : Keep h h' ws) (q : a ∉ ws) : own_A Z h' a ty vs := by obtain ⟨c, A, r⟩ := F; exact ⟨c, ⟨K.2.1 a c A.1 q, A.2⟩, r⟩
theorem own_A.lt (F : own_A Z h a ty vs) : a < h.size := by obtain ⟨c, A, -⟩ := F; exact A.lt
theorem own_AJ.ext (F : own_AJ Z h a xs) (E : Ext h h') : own_AJ Z h' a xs := own_A.ext F E
theorem own_AJ.other (F : own_AJ Z h b xs) (W : Wr h h' a sl v) (q : b ≠ a) : own_AJ Z h' b xs := own_A.other F W q
theorem own_AJ.keep (F : own_AJ Z h a xs) (K : Keep h h' ws) (q : a ∉ ws) : own_AJ Z h' a xs := own_A.keep F K q
theorem own_AJ.lt (F : own_AJ Z h a xs) : a < h.size := own_A.lt F
theorem own_AI.ext (F : own_AI Z h a ty ys) (E : Ext h h') : own_AI Z h' a ty ys := own_A.ext F E
theorem own_AI.other (F : own_AI Z h b ty ys) (W : Wr h h' a sl v) (q : b ≠ a) : own_AI Z h' b ty ys := own_A.other F W q
theorem own_AI.keep (F : own_AI Z h a ty ys) (K : Keep h h' ws) (q : a ∉ ws) : own_AI Z h' a ty ys := own_A.keep F K q
theorem own_AI.lt (F : own_AI Z h a ty ys) : a < h.size := own_A.lt F
theorem own_A.set (F : own_A Z h a ty vs) {k : Nat} (W : Wr h h' a k v) : own_A Z h' a ty (vs.set k v) := by
  obtain ⟨c, A, r⟩ := F
  refine ⟨c.setSlot k v, A.same W, ?_⟩
  simp [Cell.setSlot, r]
theorem own_A_new {cA : ClassId} {n : Int32} {k : Nat} (A : Arr Z h a (newA cA ty n) ty) (hk : n.toNatClampNeg = k) : own_A Z h a ty (List.replicate k (defaultValue ty)) := by
  subst hk
  exact ⟨_, A, by simp [newA]⟩
theorem own_AJ_new {cA : ClassId} {n : Int32} {k : Nat} (A : Arr Z h a (newA cA .long n) .long) (hk : n.toNatClampNeg = k) : own_AJ Z h a (List.replicate k 0) := by
  have q := own_A_new A hk
  rw [own_AJ, List.map_replicate]; exact q
theorem own_AIint_new {cA : ClassId} {n : Int32} {k : Nat} (A : Arr Z h a (newA cA .int n) .int) (hk : n.toNatClampNeg = k) : own_AI Z h a .int (List.replicate k 0) := by
  have q := own_A_new A hk
  rw [own_AI, List.map_replicate]; exact q
theorem own_AIbyte_new {cA : ClassId} {n : Int32} {k : Nat} (A : Arr Z h a (newA cA .byte n) .byte) (hk : n.toNatClampNeg = k) : own_AI Z h a .byte (List.replicate k 0) := by
  have q := own_A_new A hk
  rw [own_AI, List.map_replicate]; exact q
theorem own_AIboolean_new {cA : ClassId} {n : Int32} {k : Nat} (A : Arr Z h a (newA cA .boolean n) .boolean) (hk : n.toNatClampNeg = k) : own_AI Z h a .boolean (List.replicate k 0) := by
  have q := own_A_new A hk
  rw [own_AI, List.map_replicate]; exact q
theorem own_inb {cl : Cell} {j : Int32} (r : cl.slots = vs.toArray) (hj : 0 ≤ j.toInt ∧ j.toInt < (vs.length : Nat)) : ¬ (j < 0 ∨ cl.slots.size ≤ j.toNatClampNeg) ∧ j.toNatClampNeg = j.toInt.toNat := by
  have e : j.toNatClampNeg = j.toInt.toNat := rfl
  refine ⟨fun q => ?_, e⟩
  rcases q with q | q
  · rw [Int32.lt_iff_toInt_lt] at q
    have : (0 : Int32).toInt = 0 := by decide
    omega
  · rw [r, e] at q
    simp at q
    omega
end Facts
theorem own_at? {α : Type} (f : α → Value) (xs : List α) (k : Nat) (d : α) (hk : k < xs.length) : (xs.map f).toArray[k]? = some (f (xs.getD k d)) := by
  simp [List.getD, hk]
section Loads
variable {a : Addr} {xs : List Int64} {ys : List Int32} {j : Int32} {pc : Nat} {Ls : Array Slot} {rest : List Value}
theorem own_laload (X : Stand p l e R s m args below meth c T locs cells slots) (hx : p.tables.exec = Jvm.exec) (hZ : Z.Warmed39 s.vm) (eT : T.heap = h) (A : own_AJ Z h a xs) (hj : 0 ≤ j.toInt ∧ j.toInt < (xs.length : Nat)) (hd : decode c.code pc = .ok (.laload, 1)) (target : State)
    (hr : Steps p.tables e below (T.setTop (mkF m (pc + 1) Ls (.long (xs.getD j.toInt.toNat 0) :: rest))) target) : Steps p.tables e below (T.setTop (mkF m pc Ls (.int j :: .ref a :: rest))) target := by
  obtain ⟨cl, A, r⟩ := A
  obtain ⟨q1, q2⟩ := own_inb (j := j) r (by simpa using hj)
  refine X.laload hx (by rw [eT]; exact A.1) (State.isArrayOf_alike hZ.alike A.2.1) A.2.2 q1 (v := .long (xs.getD j.toInt.toNat 0)) ?_ (g := mkF m pc Ls (.int j :: .ref a :: rest)) rfl rfl hd target hr
  rw [q2, r]
  exact own_at? _ xs _ 0 (by omega)
theorem own_iaload (X : Stand p l e R s m args below meth c T locs cells slots) (hx : p.tables.exec = Jvm.exec) (hZ : Z.Warmed39 s.vm) (eT : T.heap = h) (A : own_AI Z h a .int ys) (hj : 0 ≤ j.toInt ∧ j.toInt < (ys.length : Nat)) (hd : decode c.code pc = .ok (.iaload, 1)) (target : State)
    (hr : Steps p.tables e below (T.setTop (mkF m (pc + 1) Ls (.int (ys.getD j.toInt.toNat 0) :: rest))) target) : Steps p.tables e below (T.setTop (mkF m pc Ls (.int j :: .ref a :: rest))) target := by
  obtain ⟨cl, A, r⟩ := A
  obtain ⟨q1, q2⟩ := own_inb (j := j) r (by simpa using hj)
  refine X.iaload hx (by rw [eT]; exact A.1) (State.isArrayOf_alike hZ.alike A.2.1) A.2.2 q1 (v := .int (ys.getD j.toInt.toNat 0)) ?_ (g := mkF m pc Ls (.int j :: .ref a :: rest)) rfl rfl hd target hr
  rw [q2, r]
  exact own_at? _ ys _ 0 (by omega)
theorem own_baloadB (X : Stand p l e R s m args below meth c T locs cells slots) (hx : p.tables.exec = Jvm.exec) (hZ : Z.Warmed39 s.vm) (eT : T.heap = h) (A : own_AI Z h a .byte ys) (hj : 0 ≤ j.toInt ∧ j.toInt < (ys.length : Nat)) (hd : decode c.code pc = .ok (.baload, 1)) (target : State)
    (hr : Steps p.tables e below (T.setTop (mkF m (pc + 1) Ls (.int (ys.getD j.toInt.toNat 0) :: rest))) target) : Steps p.tables e below (T.setTop (mkF m pc Ls (.int j :: .ref a :: rest))) target := by
  obtain ⟨cl, A, r⟩ := A
  obtain ⟨q1, q2⟩ := own_inb (j := j) r (by simpa using hj)
  refine X.baloadBytes hx (by rw [eT]; exact A.1) (State.isArrayOf_alike hZ.alike A.2.1) A.2.2 q1 (v := .int (ys.getD j.toInt.toNat 0)) ?_ (g := mkF m pc Ls (.int j :: .ref a :: rest)) rfl rfl hd target hr
  rw [q2, r]
  exact own_at? _ ys _ 0 (by omega)
theorem own_baloadZ (X : Stand p l e R s m args below meth c T locs cells slots) (hx : p.tables.exec = Jvm.exec) (hZ : Z.Warmed39 s.vm) (eT : T.heap = h) (A : own_AI Z h a .boolean ys) (hj : 0 ≤ j.toInt ∧ j.toInt < (ys.length : Nat)) (hd : decode c.code pc = .ok (.baload, 1)) (target : State)
    (hr : Steps p.tables e below (T.setTop (mkF m (pc + 1) Ls (.int (ys.getD j.toInt.toNat 0) :: rest))) target) : Steps p.tables e below (T.setTop (mkF m pc Ls (.int j :: .ref a :: rest))) target := by
  obtain ⟨cl, A, r⟩ := A
  obtain ⟨q1, q2⟩ := own_inb (j := j) r (by simpa using hj)
  refine X.baloadBooleans hx (by rw [eT]; exact A.1) (State.isArrayOf_alike hZ.alike A.2.1) A.2.2 q1 (v := .int (ys.getD j.toInt.toNat 0)) ?_ (g := mkF m pc Ls (.int j :: .ref a :: rest)) rfl rfl hd target hr
  rw [q2, r]
  exact own_at? _ ys _ 0 (by omega)
theorem own_alenJ (X : Stand p l e R s m args below meth c T locs cells slots) (hx : p.tables.exec = Jvm.exec) (hZ : Z.Warmed39 s.vm) (eT : T.heap = h) (A : own_AJ Z h a xs) (hd : decode c.code pc = .ok (.arraylength, 1)) (target : State)
    (hr : Steps p.tables e below (T.setTop (mkF m (pc + 1) Ls (.int xs.length.toInt32 :: rest))) target) : Steps p.tables e below (T.setTop (mkF m pc Ls (.ref a :: rest))) target := by
  obtain ⟨cl, A, r⟩ := A
  refine X.arraylength hx (by rw [eT]; exact A.1) (State.isArrayOf_alike hZ.alike A.2.1) (g := mkF m pc Ls (.ref a :: rest)) rfl rfl hd target ?_
  rw [r]
  simpa using hr
theorem own_alenI {ty : FieldType} (X : Stand p l e R s m args below meth c T locs cells slots) (hx : p.tables.exec = Jvm.exec) (hZ : Z.Warmed39 s.vm) (eT : T.heap = h) (A : own_AI Z h a ty ys) (hd : decode c.code pc = .ok (.arraylength, 1)) (target : State)
    (hr : Steps p.tables e below (T.setTop (mkF m (pc + 1) Ls (.int ys.length.toInt32 :: rest))) target) : Steps p.tables e below (T.setTop (mkF m pc Ls (.ref a :: rest))) target := by
  obtain ⟨cl, A, r⟩ := A
  refine X.arraylength hx (by rw [eT]; exact A.1) (State.isArrayOf_alike hZ.alike A.2.1) (g := mkF m pc Ls (.ref a :: rest)) rfl rfl hd target ?_
  rw [r]
  simpa using hr
theorem own_lastore (X : Stand p l e R s m args below meth c T locs cells slots) (hx : p.tables.exec = Jvm.exec) (hZ : Z.Warmed39 s.vm) (eT : T.heap = h) (A : own_AJ Z h a xs) (hj : 0 ≤ j.toInt ∧ j.toInt < (xs.length : Nat)) {x : Int64} (hd : decode c.code pc = .ok (.lastore, 1)) :
    ∃ T' h', Stand p l e R s m args below meth c T' (locs ++ [⟨a, j.toInt.toNat⟩]) cells slots ∧ T'.heap = h' ∧ Wr h h' a j.toInt.toNat (.long x) ∧ own_AJ Z h' a (xs.set j.toInt.toNat x) ∧ ∀ target, Steps p.tables e below (T'.setTop (mkF m (pc + 1) Ls rest)) target → Steps p.tables e below (T.setTop (mkF m pc Ls (.long x :: .int j :: .ref a :: rest))) target := by
  obtain ⟨cl, B, r⟩ := A
  obtain ⟨q1, q2⟩ := own_inb (j := j) r (by simpa using hj)
  obtain ⟨T', h', X', e', W', st⟩ := stJ X hx hZ eT B q1 (x := x) (g := mkF m pc Ls (.long x :: .int j :: .ref a :: rest)) rfl rfl hd
  rw [q2] at X' W'
  exact ⟨T', h', X', e', W', by have := own_A.set ⟨cl, B, r⟩ W'; rw [own_AJ, List.map_set]; exact this, st⟩
theorem own_iastore (X : Stand p l e R s m args below meth c T locs cells slots) (hx : p.tables.exec = Jvm.exec) (hZ : Z.Warmed39 s.vm) (eT : T.heap = h) (A : own_AI Z h a .int ys) (hj : 0 ≤ j.toInt ∧ j.toInt < (ys.length : Nat)) {x : Int32} (hd : decode c.code pc = .ok (.iastore, 1)) :
    ∃ T' h', Stand p l e R s m args below meth c T' (locs ++ [⟨a, j.toInt.toNat⟩]) cells slots ∧ T'.heap = h' ∧ Wr h h' a j.toInt.toNat (.int x) ∧ own_AI Z h' a .int (ys.set j.toInt.toNat x) ∧ ∀ target, Steps p.tables e below (T'.setTop (mkF m (pc + 1) Ls rest)) target → Steps p.tables e below (T.setTop (mkF m pc Ls (.int x :: .int j :: .ref a :: rest))) target := by
  obtain ⟨cl, B, r⟩ := A
  obtain ⟨q1, q2⟩ := own_inb (j := j) r (by simpa using hj)
  obtain ⟨T', h', X', e', W', st⟩ := stI X hx hZ eT B q1 (x := x) (g := mkF m pc Ls (.int x :: .int j :: .ref a :: rest)) rfl rfl hd
  rw [q2] at X' W'
  exact ⟨T', h', X', e', W', by have := own_A.set ⟨cl, B, r⟩ W'; rw [own_AI, List.map_set]; exact this, st⟩
theorem own_bastoreB (X : Stand p l e R s m args below meth c T locs cells slots) (hx : p.tables.exec = Jvm.exec) (hZ : Z.Warmed39 s.vm) (eT : T.heap = h) (A : own_AI Z h a .byte ys) (hj : 0 ≤ j.toInt ∧ j.toInt < (ys.length : Nat)) {x : Int32} (hd : decode c.code pc = .ok (.bastore, 1)) :
    ∃ T' h', Stand p l e R s m args below meth c T' (locs ++ [⟨a, j.toInt.toNat⟩]) cells slots ∧ T'.heap = h' ∧ Wr h h' a j.toInt.toNat (.int x.toInt8.toInt32) ∧ own_AI Z h' a .byte (ys.set j.toInt.toNat x.toInt8.toInt32) ∧ ∀ target, Steps p.tables e below (T'.setTop (mkF m (pc + 1) Ls rest)) target → Steps p.tables e below (T.setTop (mkF m pc Ls (.int x :: .int j :: .ref a :: rest))) target := by
  obtain ⟨cl, B, r⟩ := A
  obtain ⟨q1, q2⟩ := own_inb (j := j) r (by simpa using hj)
  obtain ⟨T', h', X', e', W', st⟩ := stB X hx hZ eT B q1 (x := x) (g := mkF m pc Ls (.int x :: .int j :: .ref a :: rest)) rfl rfl hd
  rw [q2] at X' W'
  exact ⟨T', h', X', e', W', by have := own_A.set ⟨cl, B, r⟩ W'; rw [own_AI, List.map_set]; exact this, st⟩
theorem own_bastoreZ (X : Stand p l e R s m args below meth c T locs cells slots) (hx : p.tables.exec = Jvm.exec) (hZ : Z.Warmed39 s.vm) (eT : T.heap = h) (A : own_AI Z h a .boolean ys) (hj : 0 ≤ j.toInt ∧ j.toInt < (ys.length : Nat)) {x : Int32} (hd : decode c.code pc = .ok (.bastore, 1)) :
    ∃ T' h', Stand p l e R s m args below meth c T' (locs ++ [⟨a, j.toInt.toNat⟩]) cells slots ∧ T'.heap = h' ∧ Wr h h' a j.toInt.toNat (.int (x &&& 1)) ∧ own_AI Z h' a .boolean (ys.set j.toInt.toNat (x &&& 1)) ∧ ∀ target, Steps p.tables e below (T'.setTop (mkF m (pc + 1) Ls rest)) target → Steps p.tables e below (T.setTop (mkF m pc Ls (.int x :: .int j :: .ref a :: rest))) target := by
  obtain ⟨cl, B, r⟩ := A
  obtain ⟨q1, q2⟩ := own_inb (j := j) r (by simpa using hj)
  obtain ⟨T', h', X', e', W', st⟩ := stZ X hx hZ eT B q1 (x := x) (g := mkF m pc Ls (.int x :: .int j :: .ref a :: rest)) rfl rfl hd
  rw [q2] at X' W'
  exact ⟨T', h', X', e', W', by have := own_A.set ⟨cl, B, r⟩ W'; rw [own_AI, List.map_set]; exact this, st⟩
end Loads
end OwnKit
theorem own_bm32 {x : Int} (h1 : -2147483648 ≤ x) (h2 : x < 2147483648) : x.bmod (2 ^ 32) = x := by
  rw [Int.bmod_def]; split <;> omega
theorem own_bm64 {x : Int} (h1 : -9223372036854775808 ≤ x) (h2 : x < 9223372036854775808) : x.bmod (2 ^ 64) = x := by
  rw [Int.bmod_def]; split <;> omega
theorem own_r32 (x : Int32) : -2147483648 ≤ x.toInt ∧ x.toInt < 2147483648 := ⟨x.le_toInt, x.toInt_lt⟩
theorem own_r64 (x : Int64) : -9223372036854775808 ≤ x.toInt ∧ x.toInt < 9223372036854775808 := ⟨x.le_toInt, x.toInt_lt⟩
theorem own_iadd {x y : Int32} (h : -2147483648 ≤ x.toInt + y.toInt ∧ x.toInt + y.toInt < 2147483648) : (x + y).toInt = x.toInt + y.toInt := by rw [Int32.toInt_add]; exact own_bm32 h.1 h.2
theorem own_isub {x y : Int32} (h : -2147483648 ≤ x.toInt - y.toInt ∧ x.toInt - y.toInt < 2147483648) : (x - y).toInt = x.toInt - y.toInt := by rw [Int32.toInt_sub]; exact own_bm32 h.1 h.2
theorem own_imul {x y : Int32} (h : -2147483648 ≤ x.toInt * y.toInt ∧ x.toInt * y.toInt < 2147483648) : (x * y).toInt = x.toInt * y.toInt := by rw [Int32.toInt_mul]; exact own_bm32 h.1 h.2
theorem own_ladd {x y : Int64} (h : -9223372036854775808 ≤ x.toInt + y.toInt ∧ x.toInt + y.toInt < 9223372036854775808) : (x + y).toInt = x.toInt + y.toInt := by rw [Int64.toInt_add]; exact own_bm64 h.1 h.2
theorem own_lsub {x y : Int64} (h : -9223372036854775808 ≤ x.toInt - y.toInt ∧ x.toInt - y.toInt < 9223372036854775808) : (x - y).toInt = x.toInt - y.toInt := by rw [Int64.toInt_sub]; exact own_bm64 h.1 h.2
theorem own_lmul {x y : Int64} (h : -9223372036854775808 ≤ x.toInt * y.toInt ∧ x.toInt * y.toInt < 9223372036854775808) : (x * y).toInt = x.toInt * y.toInt := by rw [Int64.toInt_mul]; exact own_bm64 h.1 h.2
theorem own_i2l (x : Int32) : x.toInt64.toInt = x.toInt := Int32.toInt_toInt64 x
theorem own_l2i {x : Int64} (h : -2147483648 ≤ x.toInt ∧ x.toInt < 2147483648) : x.toInt32.toInt = x.toInt := by rw [Int64.toInt_toInt32]; exact own_bm32 h.1 h.2
theorem own_irem {x y : Int32} (h : 0 ≤ x.toInt) : (x % y).toInt = x.toInt % y.toInt := by rw [Int32.toInt_mod]; exact Int.tmod_eq_emod_of_nonneg h
theorem own_lrem {x y : Int64} (h : 0 ≤ x.toInt) : (x % y).toInt = x.toInt % y.toInt := by rw [Int64.toInt_mod]; exact Int.tmod_eq_emod_of_nonneg h
theorem own_idiv {x y : Int32} (h : 0 ≤ x.toInt) (hy : 0 ≤ y.toInt) : (x / y).toInt = x.toInt / y.toInt := by
  rw [Int32.toInt_div_of_ne_right x y (fun q => by rw [q] at hy; revert hy; decide)]; exact Int.tdiv_eq_ediv_of_nonneg h
theorem own_ldiv {x y : Int64} (h : 0 ≤ x.toInt) (hy : 0 ≤ y.toInt) : (x / y).toInt = x.toInt / y.toInt := by
  rw [Int64.toInt_div_of_ne_right x y (fun q => by rw [q] at hy; revert hy; decide)]; exact Int.tdiv_eq_ediv_of_nonneg h
/-- a mask of k bits -/
theorem own_mask (x m : Int32) (k : Nat) (hk : k ≤ 31) (hm : m.toBitVec.toNat = 2 ^ k - 1) : (x &&& m).toInt = x.toInt % (2 ^ k : Nat) := by
  have hp : 2 ^ k ≤ 2 ^ 31 := Nat.pow_le_pow_right (by decide) hk
  have hp0 : 0 < 2 ^ k := Nat.pow_pos (by decide)
  have e : (x &&& m).toBitVec.toNat = x.toBitVec.toNat % 2 ^ k := by rw [Int32.toBitVec_and, BitVec.toNat_and, hm, Nat.and_two_pow_sub_one_eq_mod]
  have l := Nat.mod_lt x.toBitVec.toNat hp0
  rw [← Int32.toInt_toBitVec, ← Int32.toInt_toBitVec, BitVec.toInt_eq_toNat_cond, e, if_pos (by omega), BitVec.toInt_eq_toNat_cond]
  split
  · simp
  · rename_i q
    have d : (2 ^ k : Nat) ∣ 2 ^ 32 := Nat.pow_dvd_pow 2 (by omega)
    obtain ⟨c, hc⟩ := d
    have hc' : ((2 ^ 32 : Nat) : Int) = ((2 ^ k : Nat) : Int) * (c : Int) := by rw [hc]; simp
    rw [hc', Int.sub_mul_emod_self_left]; simp
theorem own_ushr (x : Int64) (y : Int32) (k : Nat) (hk : (y &&& 0x3f).toInt64.toBitVec.toNat % 64 = k) (h0 : 0 < k) : (((x).toUInt64 >>> (y &&& 0x3f).toInt64.toUInt64).toInt64).toInt = (x.toInt % 18446744073709551616) / (2 ^ k : Nat) := by
  have e : (((x).toUInt64 >>> (y &&& 0x3f).toInt64.toUInt64).toInt64).toBitVec = x.toBitVec >>> k := by rw [← hk]; simp
  have hl := x.toBitVec.isLt
  have hp0 : 0 < 2 ^ k := Nat.pow_pos (by decide)
  have h2 : 2 ^ 1 ≤ 2 ^ k := Nat.pow_le_pow_right (by decide) h0
  have hd : x.toBitVec.toNat / 2 ^ k ≤ x.toBitVec.toNat / 2 := Nat.div_le_div_left h2 (by decide)
  have t : x.toInt % 18446744073709551616 = (x.toBitVec.toNat : Int) := by
    rw [← Int64.toInt_toBitVec, BitVec.toInt_eq_toNat_cond]; split <;> omega
  rw [t, ← Int64.toInt_toBitVec, e, BitVec.toInt_eq_toNat_cond, BitVec.toNat_ushiftRight, Nat.shiftRight_eq_div_pow, if_pos (by omega)]
  simp
theorem own_shl (x : Int64) (y : Int32) (k : Nat) (hk : y.toBitVec.toNat % 64 = k) (h : -9223372036854775808 ≤ x.toInt * (2 ^ k : Nat) ∧ x.toInt * (2 ^ k : Nat) < 9223372036854775808) : (x <<< (y &&& 0x3f).toInt64).toInt = x.toInt * (2 ^ k : Nat) := by
  have q := c_lshl x y k hk
  have r := own_r64 (x <<< (y &&& 0x3f).toInt64)
  generalize x.toInt * (2 ^ k : Nat) = z at *
  omega
theorem own_nzL {x : Int32} (h : ¬ x = 0) : ¬ x.toInt64 = 0 := fun q => h (Int32.toInt_inj.mp (by rw [← own_i2l, q]; rfl))
theorem own_nzP {x : Int32} (h : 1 ≤ x.toInt) : ¬ x = 0 := fun q => by rw [q] at h; revert h; decide
theorem own_fA {t n : Int32} {k : Int} (h : t < n) (q : n.toInt - 1 = k) : t.toInt ≤ k := by rw [Int32.lt_iff_toInt_lt] at h; omega
theorem own_fB {t n : Int32} {k : Int} (h : ¬ n < t) (q : n.toInt = k) : t.toInt ≤ k := by rw [Int32.lt_iff_toInt_lt] at h; omega
theorem own_fC {t n : Int32} {k : Int} (h : n < t) (q : n.toInt + 1 = k) : k ≤ t.toInt := by rw [Int32.lt_iff_toInt_lt] at h; omega
theorem own_fD {t n : Int32} {k : Int} (h : ¬ t < n) (q : n.toInt = k) : k ≤ t.toInt := by rw [Int32.lt_iff_toInt_lt] at h; omega
theorem own_fE {t n : Int32} {k : Int} (h : t = n) (q : n.toInt = k) : t.toInt ≤ k := by rw [h]; omega
theorem own_fF {t n : Int32} {k : Int} (h : t = n) (q : n.toInt = k) : k ≤ t.toInt := by rw [h]; omega
theorem own_g1 {t m : Int32} {k : Int} (h : t.toInt ≤ k) (q : k < m.toInt) : t < m := by rw [Int32.lt_iff_toInt_lt]; omega
theorem own_g2 {t m : Int32} {k : Int} (h : t.toInt ≤ k) (q : k ≤ m.toInt) : ¬ m < t := by rw [Int32.lt_iff_toInt_lt]; omega
theorem own_g3 {t m : Int32} {k : Int} (h : t.toInt ≤ k) (q : k < m.toInt) : ¬ t = m := fun e => by rw [e] at h; omega
theorem own_g4 {t m : Int32} {k : Int} (h : k ≤ t.toInt) (q : m.toInt ≤ k) : ¬ t < m := by rw [Int32.lt_iff_toInt_lt]; omega
theorem own_g5 {t m : Int32} {k : Int} (h : k ≤ t.toInt) (q : m.toInt < k) : m < t := by rw [Int32.lt_iff_toInt_lt]; omega
theorem own_g6 {t m : Int32} {k : Int} (h : k ≤ t.toInt) (q : m.toInt < k) : ¬ t = m := fun e => by rw [e] at h; omega
theorem own_g7 {t m : Int32} {k : Int} (h : k ≤ t.toInt) (h' : t.toInt ≤ k) (q : m.toInt = k) : t = m := Int32.toInt_inj.mp (by omega)
theorem own_ne {x n : Int32} {k : Int} (h : ¬ x = n) (q : n.toInt = k) : k ≠ x.toInt := fun e => h (Int32.toInt_inj.mp (by omega))
theorem own_gs1 {α : Type} (xs : List α) (n : Nat) (v d : α) (h : n < xs.length) : (xs.set n v).getD n d = v := by simp [List.getD, h]
theorem own_gs2 {α : Type} (xs : List α) (n j : Nat) (v d : α) (h : n ≠ j) : (xs.set n v).getD j d = xs.getD j d := by simp [List.getD, List.getElem?_set, h]
theorem own_four {x k : Int32} (h : k = x &&& 3) : k = 0 ∨ k = 1 ∨ k = 2 ∨ k = 3 := by
  have a := own_mask x 3 2 (by decide) (by decide)
  rw [← h] at a
  simp only [← Int32.toInt_inj]
  have e0 : (0 : Int32).toInt = 0 := by decide
  have e1 : (1 : Int32).toInt = 1 := by decide
  have e2 : (2 : Int32).toInt = 2 := by decide
  have e3 : (3 : Int32).toInt = 3 := by decide
  omega
theorem d1_0 : decode prog_1_method_2_code 0 = .ok (.aload_n 0, 1) := by decide +kernel
theorem d1_1 : decode prog_1_method_2_code 1 = .ok (.invokespecial 3, 3) := by decide +kernel
theorem d1_4 : decode prog_1_method_2_code 4 = .ok (.aload_n 0, 1) := by decide +kernel
theorem d1_5 : decode prog_1_method_2_code 5 = .ok (.aload_n 1, 1) := by decide +kernel
theorem d1_6 : decode prog_1_method_2_code 6 = .ok (.putfield 15, 3) := by decide +kernel
theorem d1_9 : decode prog_1_method_2_code 9 = .ok (.return_, 1) := by decide +kernel
theorem pn_1 : plainName "com/example/mini_bloom/minibloom/BitArray" = true := by first | (simp [plainName, overriddenIn]; done) | decide +kernel
theorem ef_1 (m : MethodId) (ra : Addr) (rb : Addr) : entryFrame m #[(.ref ra), (.ref rb)] 2 = mkF m 0 #[.val (.ref ra), .val (.ref rb)] [] := by first | (simp [entryFrame, mkF, argsToLocals, Value.category, maxLocals]; done) | rfl
def Q1 (Z : State) (ra : Addr) (rb : Addr)  (h0 : Heap) (n0 : Nat) (v : Option Value) (h : Heap) (L : List Loc) : Prop := v = none ∧ Fr n0 L ∧ Keep h0 h [ra] ∧ Exa Z h ra "com/example/mini_bloom/minibloom/BitArray" ∧ Fld Z h ra "com/example/mini_bloom/minibloom/BitArray" "words" "[J" (.ref rb)
set_option maxRecDepth 65536 in
set_option maxHeartbeats 40000000 in
theorem rm1 (l : Launch) (Z : State) (a0 : Array Value) (hw : ∀ d ∈ tables_1, d.before a0 Z = true) (ws : List Jvm.Cond) (ra : Addr) (rb : Addr)  (h0 : Heap) (n0 : Nat) (Z0 : n0 ≤ h0.size) (PE0 : Exa Z h0 ra "com/example/mini_bloom/minibloom/BitArray") (PF0 : Fld Z h0 ra "com/example/mini_bloom/minibloom/BitArray" "words" "[J" .null) (PG0 : n0 ≤ ra) :
    MetFree l (⟨"com/example/mini_bloom/minibloom/BitArray", "<init>", "([J)V"⟩ : MethodName) (head1 (Jvm.Cond.code (⟨"com/example/mini_bloom/minibloom/BitArray", "<init>", "([J)V"⟩ : MethodName) prog_1_method_2_code 2 none :: ws) ({ frames := 1, cells := 0, slots := 0, locals := 12 } : Room)) (fun a U => a = #[(.ref ra), (.ref rb)] ∧ Z.Warmed39 U.vm ∧ U.heap = h0) (fun _ _ _ _ _ => True) (fun _ U o U' => ∃ v L, o = .returned v ∧ Q1 Z ra rb h0 n0 v U'.heap L ∧ FrameEnd U o U' L ({ frames := 1, cells := 0, slots := 0, locals := 12 } : Room).cells ({ frames := 1, cells := 0, slots := 0, locals := 12 } : Room).slots) := by
  refine MetFree.of_bodySF (plainFor_of_name pn_1) hisR ?_
  intro p e s m args below meth c s₁ Bd hml0 hP hK
  obtain ⟨rfl, hZ, hh⟩ := hP
  have hx := Bd.exec
  have hby := Bd.bytes
  have hml : c.maxLocals = 2 := hml0
  have hown : s.vm.findClass "com/example/mini_bloom/minibloom/BitArray" = some m.cls := findClass_of_methodNamed Bd.named
  have hnm := (name_of_methodNamed Bd.named Bd.method).1
  have X0 : Stand p l e ({ frames := 1, cells := 0, slots := 0, locals := 12 } : Room) s m #[(.ref ra), (.ref rb)] below meth c s₁ [] 0 0 := Stand.of_body Bd
  have hlk : meth.locks = false := by first | exact BodyLoose.notSynchronized (by assumption) | exact Body.notSynchronized (by assumption)
  have e0 : s₁.heap = h0 := by rw [← hh, Bd.state]; rfl
  have N0 := Fr.nil n0
  have pre0 : ∀ t, Steps p.tables e below (s₁.setTop (mkF m 0 #[.val (.ref ra), .val (.ref rb)] [])) t → Steps p.tables e below (s₁.setTop (entryFrame m #[(.ref ra), (.ref rb)] 2)) t := fun t k => castTop (ef_1 m ra rb) k
  obtain ⟨T1, X1, e1, st1⟩ := initO X0 hx hZ hown (hw _ (List.mem_of_getElem? (i := 7) rfl)) (hw _ (List.mem_of_getElem? (i := 8) rfl)) (hw _ (List.mem_of_getElem? (i := 9) rfl)) e0 (g := (mkF m 1 #[.val (.ref ra), .val (.ref rb)] [(.ref ra)])) rfl (by rw [hml]; rfl) rfl (hb hby d1_1) (by decide) (W := 0) (by show 2 * 0 + _ ≤ _; exact Nat.le_of_eq rfl) (by decide)
  obtain ⟨T2, h2, X2, e2, W2, st2⟩ := putF X1 hx hZ hown (host := "") (Or.inl (hw _ (List.mem_of_getElem? (i := 10) rfl))) Via.refl e1 PF0 PE0 (Or.inr ⟨(hw _ (List.mem_of_getElem? (i := 11) rfl)), rfl, hnm⟩) (hw _ (List.mem_of_getElem? (i := 2) rfl)) (ty := (.array .long)) (by decide) rfl rfl (g := (mkF m 6 #[.val (.ref ra), .val (.ref rb)] [(.ref rb), (.ref ra)])) rfl rfl (hb hby d1_6)
  have A2_ra : Exa Z h2 ra "com/example/mini_bloom/minibloom/BitArray" := PE0.wr W2
  have sz2 : n0 ≤ h2.size := Nat.le_trans Z0 (Keep.of_wr W2).1
  have K2 : Keep h0 h2 [ra] := (Keep.refl h0 [ra]).wr W2 (Or.inl (by simp))
  have N2 := Fr.snoc X2 N0 PG0
  have F2_s : Fld Z h2 ra "com/example/mini_bloom/minibloom/BitArray" "words" "[J" (.ref rb) := PF0.same W2
  obtain ⟨fs, hr, hrun, hended, hW, hsame⟩ := X2.leave (v := none) (fun _ => rfl) hlk
  refine ⟨_, _, pre0 _ ?_, hrun, hended, _, _, rfl, ?_, ⟨_, rfl⟩, hW, hsame.mono (by decide) (by decide)⟩
  · show Steps p.tables e below (s₁.setTop (mkF m 0 #[.val (.ref ra), .val (.ref rb)] [])) _
    refine XS.aloadN X0.here hx rfl (hb hby d1_0) rfl rfl ?_
    show Steps p.tables e below (s₁.setTop (mkF m 1 #[.val (.ref ra), .val (.ref rb)] [(.ref ra)])) _
    refine st1 _ ?_
    show Steps p.tables e below (T1.setTop (mkF m 4 #[.val (.ref ra), .val (.ref rb)] [])) _
    refine XS.aloadN X1.here hx rfl (hb hby d1_4) rfl rfl ?_
    show Steps p.tables e below (T1.setTop (mkF m 5 #[.val (.ref ra), .val (.ref rb)] [(.ref ra)])) _
    refine XS.aloadN X1.here hx rfl (hb hby d1_5) rfl rfl ?_
    show Steps p.tables e below (T1.setTop (mkF m 6 #[.val (.ref ra), .val (.ref rb)] [(.ref rb), (.ref ra)])) _
    refine st2 _ ?_
    show Steps p.tables e below (T2.setTop (mkF m 9 #[.val (.ref ra), .val (.ref rb)] [])) _
    exact X2.returnOut hx Bd.returns (hb hby d1_9) hr
  · show Q1 Z ra rb h0 n0 _ T2.heap _
    rw [e2]
    exact ⟨rfl, N2, K2, A2_ra, F2_s⟩
theorem d3_0 : decode prog_1_method_4_code 0 = .ok (.iconst 0, 1) := by decide +kernel
theorem d3_1 : decode prog_1_method_4_code 1 = .ok (.istore_n 2, 1) := by decide +kernel
theorem d3_2 : decode prog_1_method_4_code 2 = .ok (.iload_n 2, 1) := by decide +kernel
theorem d3_3 : decode prog_1_method_4_code 3 = .ok (.aload_n 0, 1) := by decide +kernel
theorem d3_4 : decode prog_1_method_4_code 4 = .ok (.getfield 15, 3) := by decide +kernel
theorem d3_7 : decode prog_1_method_4_code 7 = .ok (.arraylength, 1) := by decide +kernel
theorem d3_8 : decode prog_1_method_4_code 8 = .ok (.if_icmp .ge 24, 3) := by decide +kernel
theorem d3_11 : decode prog_1_method_4_code 11 = .ok (.aload_n 0, 1) := by decide +kernel
theorem d3_12 : decode prog_1_method_4_code 12 = .ok (.getfield 15, 3) := by decide +kernel
theorem d3_15 : decode prog_1_method_4_code 15 = .ok (.iload_n 2, 1) := by decide +kernel
theorem d3_16 : decode prog_1_method_4_code 16 = .ok (.dup2, 1) := by decide +kernel
theorem d3_17 : decode prog_1_method_4_code 17 = .ok (.laload, 1) := by decide +kernel
theorem d3_18 : decode prog_1_method_4_code 18 = .ok (.aload_n 1, 1) := by decide +kernel
theorem d3_19 : decode prog_1_method_4_code 19 = .ok (.getfield 15, 3) := by decide +kernel
theorem d3_22 : decode prog_1_method_4_code 22 = .ok (.iload_n 2, 1) := by decide +kernel
theorem d3_23 : decode prog_1_method_4_code 23 = .ok (.laload, 1) := by decide +kernel
theorem d3_24 : decode prog_1_method_4_code 24 = .ok (.lor, 1) := by decide +kernel
theorem d3_25 : decode prog_1_method_4_code 25 = .ok (.lastore, 1) := by decide +kernel
theorem d3_26 : decode prog_1_method_4_code 26 = .ok (.iinc 2 1, 3) := by decide +kernel
theorem d3_29 : decode prog_1_method_4_code 29 = .ok (.goto (-27), 3) := by decide +kernel
theorem d3_32 : decode prog_1_method_4_code 32 = .ok (.return_, 1) := by decide +kernel
theorem ef_3_0 (m : MethodId) (ra : Addr) (rb : Addr) : entryFrame m #[(.ref ra), (.ref rb)] 3 = mkF m 0 #[.val (.ref ra), .val (.ref rb), .unset] [] := by first | (simp [entryFrame, mkF, argsToLocals, Value.category, maxLocals]; done) | rfl
def Q3_0 (Z : State) (ra : Addr) (rb : Addr) (rx : Addr) (ry : Addr) (h0 : Heap) (n0 : Nat) (v : Option Value) (h : Heap) (L : List Loc) : Prop := v = none ∧ Fr n0 L ∧ Keep h0 h [rx] ∧ own_AJ Z h rx []
set_option maxRecDepth 65536 in
set_option maxHeartbeats 40000000 in
theorem rm3_0 (l : Launch) (Z : State) (a0 : Array Value) (hw : ∀ d ∈ tables_1, d.before a0 Z = true) (ws : List Jvm.Cond) (ra : Addr) (rb : Addr) (rx : Addr) (ry : Addr) (h0 : Heap) (n0 : Nat) (Z0 : n0 ≤ h0.size) (PA0 : own_AJ Z h0 rx []) (PA1 : own_AJ Z h0 ry []) (PE0 : Exa Z h0 ra "com/example/mini_bloom/minibloom/BitArray") (PE1 : Exa Z h0 rb "com/example/mini_bloom/minibloom/BitArray") (PF0 : Fld Z h0 ra "com/example/mini_bloom/minibloom/BitArray" "words" "[J" (.ref rx)) (PF1 : Fld Z h0 rb "com/example/mini_bloom/minibloom/BitArray" "words" "[J" (.ref ry)) (PG0 : n0 ≤ rx) (PN0 : ry ≠ rx) (PN1 : ra ≠ rx) (PN2 : rb ≠ rx) :
    MetFree l (⟨"com/example/mini_bloom/minibloom/BitArray", "or", "(Lcom/example/mini_bloom/minibloom/BitArray;)V"⟩ : MethodName) (head1 (Jvm.Cond.code (⟨"com/example/mini_bloom/minibloom/BitArray", "or", "(Lcom/example/mini_bloom/minibloom/BitArray;)V"⟩ : MethodName) prog_1_method_4_code 3 none :: ws) ({ frames := 0, cells := 0, slots := 0, locals := 0 } : Room)) (fun a U => a = #[(.ref ra), (.ref rb)] ∧ Z.Warmed39 U.vm ∧ U.heap = h0) (fun _ _ _ _ _ => True) (fun _ U o U' => ∃ v L, o = .returned v ∧ Q3_0 Z ra rb rx ry h0 n0 v U'.heap L ∧ FrameEnd U o U' L ({ frames := 0, cells := 0, slots := 0, locals := 0 } : Room).cells ({ frames := 0, cells := 0, slots := 0, locals := 0 } : Room).slots) := by
  refine MetFree.of_bodySF (plainFor_of_name pn_1) hisR ?_
  intro p e s m args below meth c s₁ Bd hml0 hP hK
  obtain ⟨rfl, hZ, hh⟩ := hP
  have hx := Bd.exec
  have hby := Bd.bytes
  have hml : c.maxLocals = 3 := hml0
  have hown : s.vm.findClass "com/example/mini_bloom/minibloom/BitArray" = some m.cls := findClass_of_methodNamed Bd.named
  have hnm := (name_of_methodNamed Bd.named Bd.method).1
  have X0 : Stand p l e ({ frames := 0, cells := 0, slots := 0, locals := 0 } : Room) s m #[(.ref ra), (.ref rb)] below meth c s₁ [] 0 0 := Stand.of_body Bd
  have hlk : meth.locks = false := by first | exact BodyLoose.notSynchronized (by assumption) | exact Body.notSynchronized (by assumption)
  have e0 : s₁.heap = h0 := by rw [← hh, Bd.state]; rfl
  have N0 := Fr.nil n0
  have pre0 : ∀ t, Steps p.tables e below (s₁.setTop (mkF m 0 #[.val (.ref ra), .val (.ref rb), .unset] [])) t → Steps p.tables e below (s₁.setTop (entryFrame m #[(.ref ra), (.ref rb)] 3)) t := fun t k => castTop (ef_3_0 m ra rb) k
  obtain ⟨T1, X1, e1, st1⟩ := getF X0 hx hZ hown (host := "") (Or.inl (hw _ (List.mem_of_getElem? (i := 10) rfl))) Via.refl e0 PF0 (g := (mkF m 4 #[.val (.ref ra), .val (.ref rb), .val (.int (0 : Int32))] [(.ref ra), (.int (0 : Int32))])) rfl rfl (hb hby d3_4)
  obtain ⟨fs, hr, hrun, hended, hW, hsame⟩ := X1.leave (v := none) (fun _ => rfl) hlk
  refine ⟨_, _, pre0 _ ?_, hrun, hended, _, _, rfl, ?_, ⟨_, rfl⟩, hW, hsame.mono (by decide) (by decide)⟩
  · show Steps p.tables e below (s₁.setTop (mkF m 0 #[.val (.ref ra), .val (.ref rb), .unset] [])) _
    refine XS.iconst X0.here hx rfl (hb hby d3_0) ?_
    show Steps p.tables e below (s₁.setTop (mkF m 1 #[.val (.ref ra), .val (.ref rb), .unset] [(.int (0 : Int32))])) _
    refine XS.istoreN X0.here hx rfl (hb hby d3_1) rfl (l' := #[.val (.ref ra), .val (.ref rb), .val (.int (0 : Int32))]) rfl ?_
    show Steps p.tables e below (s₁.setTop (mkF m 2 #[.val (.ref ra), .val (.ref rb), .val (.int (0 : Int32))] [])) _
    refine XS.iloadN X0.here hx rfl (hb hby d3_2) rfl ?_
    show Steps p.tables e below (s₁.setTop (mkF m 3 #[.val (.ref ra), .val (.ref rb), .val (.int (0 : Int32))] [(.int (0 : Int32))])) _
    refine XS.aloadN X0.here hx rfl (hb hby d3_3) rfl rfl ?_
    show Steps p.tables e below (s₁.setTop (mkF m 4 #[.val (.ref ra), .val (.ref rb), .val (.int (0 : Int32))] [(.ref ra), (.int (0 : Int32))])) _
    refine st1 _ ?_
    show Steps p.tables e below (T1.setTop (mkF m 7 #[.val (.ref ra), .val (.ref rb), .val (.int (0 : Int32))] [(.ref rx), (.int (0 : Int32))])) _
    refine own_alenJ X1 hx hZ e1 PA0 (hb hby d3_7) _ ?_
    show Steps p.tables e below (T1.setTop (mkF m 8 #[.val (.ref ra), .val (.ref rb), .val (.int (0 : Int32))] [(.int (0 : Int32)), (.int (0 : Int32))])) _
    refine XS.icmpYes X1.here hx rfl (pc0 := 8) (pc' := 32) rfl (hb hby d3_8) rfl (by decide) (by decide) (by decide) ?_
    show Steps p.tables e below (T1.setTop (mkF m 32 #[.val (.ref ra), .val (.ref rb), .val (.int (0 : Int32))] [])) _
    exact X1.returnOut hx Bd.returns (hb hby d3_32) hr
  · show Q3_0 Z ra rb rx ry h0 n0 _ T1.heap _
    rw [e1]
    exact ⟨rfl, N0, (Keep.refl h0 [rx]), PA0⟩
theorem ef_3_1 (m : MethodId) (ra : Addr) (rb : Addr) : entryFrame m #[(.ref ra), (.ref rb)] 3 = mkF m 0 #[.val (.ref ra), .val (.ref rb), .unset] [] := by first | (simp [entryFrame, mkF, argsToLocals, Value.category, maxLocals]; done) | rfl
def Q3_1 (Z : State) (ra : Addr) (rb : Addr) (rx : Addr) (ry : Addr) (x0 : Int64) (y0 : Int64) (h0 : Heap) (n0 : Nat) (v : Option Value) (h : Heap) (L : List Loc) : Prop := v = none ∧ Fr n0 L ∧ Keep h0 h [rx] ∧ own_AJ Z h rx [(x0 ||| y0)]
set_option maxRecDepth 65536 in
set_option maxHeartbeats 40000000 in
theorem rm3_1 (l : Launch) (Z : State) (a0 : Array Value) (hw : ∀ d ∈ tables_1, d.before a0 Z = true) (ws : List Jvm.Cond) (ra : Addr) (rb : Addr) (rx : Addr) (ry : Addr) (x0 : Int64) (y0 : Int64) (h0 : Heap) (n0 : Nat) (Z0 : n0 ≤ h0.size) (PA0 : own_AJ Z h0 rx [x0]) (PA1 : own_AJ Z h0 ry [y0]) (PE0 : Exa Z h0 ra "com/example/mini_bloom/minibloom/BitArray") (PE1 : Exa Z h0 rb "com/example/mini_bloom/minibloom/BitArray") (PF0 : Fld Z h0 ra "com/example/mini_bloom/minibloom/BitArray" "words" "[J" (.ref rx)) (PF1 : Fld Z h0 rb "com/example/mini_bloom/minibloom/BitArray" "words" "[J" (.ref ry)) (PG0 : n0 ≤ rx) (PN0 : ry ≠ rx) (PN1 : ra ≠ rx) (PN2 : rb ≠ rx) :
    MetFree l (⟨"com/example/mini_bloom/minibloom/BitArray", "or", "(Lcom/example/mini_bloom/minibloom/BitArray;)V"⟩ : MethodName) (head1 (Jvm.Cond.code (⟨"com/example/mini_bloom/minibloom/BitArray", "or", "(Lcom/example/mini_bloom/minibloom/BitArray;)V"⟩ : MethodName) prog_1_method_4_code 3 none :: ws) ({ frames := 0, cells := 0, slots := 0, locals := 0 } : Room)) (fun a U => a = #[(.ref ra), (.ref rb)] ∧ Z.Warmed39 U.vm ∧ U.heap = h0) (fun _ _ _ _ _ => True) (fun _ U o U' => ∃ v L, o = .returned v ∧ Q3_1 Z ra rb rx ry x0 y0 h0 n0 v U'.heap L ∧ FrameEnd U o U' L ({ frames := 0, cells := 0, slots := 0, locals := 0 } : Room).cells ({ frames := 0, cells := 0, slots := 0, locals := 0 } : Room).slots) := by
  refine MetFree.of_bodySF (plainFor_of_name pn_1) hisR ?_
  intro p e s m args below meth c s₁ Bd hml0 hP hK
  obtain ⟨rfl, hZ, hh⟩ := hP
  have hx := Bd.exec
  have hby := Bd.bytes
  have hml : c.maxLocals = 3 := hml0
  have hown : s.vm.findClass "com/example/mini_bloom/minibloom/BitArray" = some m.cls := findClass_of_methodNamed Bd.named
  have hnm := (name_of_methodNamed Bd.named Bd.method).1
  have X0 : Stand p l e ({ frames := 0, cells := 0, slots := 0, locals := 0 } : Room) s m #[(.ref ra), (.ref rb)] below meth c s₁ [] 0 0 := Stand.of_body Bd
  have hlk : meth.locks = false := by first | exact BodyLoose.notSynchronized (by assumption) | exact Body.notSynchronized (by assumption)
  have e0 : s₁.heap = h0 := by rw [← hh, Bd.state]; rfl
  have N0 := Fr.nil n0
  have pre0 : ∀ t, Steps p.tables e below (s₁.setTop (mkF m 0 #[.val (.ref ra), .val (.ref rb), .unset] [])) t → Steps p.tables e below (s₁.setTop (entryFrame m #[(.ref ra), (.ref rb)] 3)) t := fun t k => castTop (ef_3_1 m ra rb) k
  obtain ⟨T1, X1, e1, st1⟩ := getF X0 hx hZ hown (host := "") (Or.inl (hw _ (List.mem_of_getElem? (i := 10) rfl))) Via.refl e0 PF0 (g := (mkF m 4 #[.val (.ref ra), .val (.ref rb), .val (.int (0 : Int32))] [(.ref ra), (.int (0 : Int32))])) rfl rfl (hb hby d3_4)
  obtain ⟨T2, X2, e2, st2⟩ := getF X1 hx hZ hown (host := "") (Or.inl (hw _ (List.mem_of_getElem? (i := 10) rfl))) Via.refl e1 PF0 (g := (mkF m 12 #[.val (.ref ra), .val (.ref rb), .val (.int (0 : Int32))] [(.ref ra)])) rfl rfl (hb hby d3_12)
  obtain ⟨T3, X3, e3, st3⟩ := getF X2 hx hZ hown (host := "") (Or.inl (hw _ (List.mem_of_getElem? (i := 10) rfl))) Via.refl e2 PF1 (g := (mkF m 19 #[.val (.ref ra), .val (.ref rb), .val (.int (0 : Int32))] [(.ref rb), (.long x0), (.int (0 : Int32)), (.ref rx)])) rfl rfl (hb hby d3_19)
  obtain ⟨T4, h4, X4, e4, W4, V4, st4⟩ := own_lastore X3 hx hZ e3 PA0 (j := (0 : Int32)) (show 0 ≤ Int32.toInt (0 : Int32) ∧ Int32.toInt (0 : Int32) < ((1 : Nat) : Int) by decide) (x := (x0 ||| y0)) (hb hby d3_25) (Ls := #[.val (.ref ra), .val (.ref rb), .val (.int (0 : Int32))]) (rest := [])
  have V4_ry : own_AJ Z h4 ry [y0] := PA1.other W4 PN0
  have A4_ra : Exa Z h4 ra "com/example/mini_bloom/minibloom/BitArray" := PE0.wr W4
  have F4_ra_0 : Fld Z h4 ra "com/example/mini_bloom/minibloom/BitArray" "words" "[J" (.ref rx) := PF0.other W4 (Or.inl PN1)
  have A4_rb : Exa Z h4 rb "com/example/mini_bloom/minibloom/BitArray" := PE1.wr W4
  have F4_rb_0 : Fld Z h4 rb "com/example/mini_bloom/minibloom/BitArray" "words" "[J" (.ref ry) := PF1.other W4 (Or.inl PN2)
  have sz4 : n0 ≤ h4.size := Nat.le_trans Z0 (Keep.of_wr W4).1
  have K4 : Keep h0 h4 [rx] := (Keep.refl h0 [rx]).wr W4 (Or.inl (by simp))
  have N4 := Fr.snoc X4 N0 PG0
  have V4_n : own_AJ Z h4 rx [(x0 ||| y0)] := V4
  obtain ⟨T5, X5, e5, st5⟩ := getF X4 hx hZ hown (host := "") (Or.inl (hw _ (List.mem_of_getElem? (i := 10) rfl))) Via.refl e4 F4_ra_0 (g := (mkF m 4 #[.val (.ref ra), .val (.ref rb), .val (.int (1 : Int32))] [(.ref ra), (.int (1 : Int32))])) rfl rfl (hb hby d3_4)
  obtain ⟨fs, hr, hrun, hended, hW, hsame⟩ := X5.leave (v := none) (fun _ => rfl) hlk
  refine ⟨_, _, pre0 _ ?_, hrun, hended, _, _, rfl, ?_, ⟨_, rfl⟩, hW, hsame.mono (by decide) (by decide)⟩
  · show Steps p.tables e below (s₁.setTop (mkF m 0 #[.val (.ref ra), .val (.ref rb), .unset] [])) _
    refine XS.iconst X0.here hx rfl (hb hby d3_0) ?_
    show Steps p.tables e below (s₁.setTop (mkF m 1 #[.val (.ref ra), .val (.ref rb), .unset] [(.int (0 : Int32))])) _
    refine XS.istoreN X0.here hx rfl (hb hby d3_1) rfl (l' := #[.val (.ref ra), .val (.ref rb), .val (.int (0 : Int32))]) rfl ?_
    show Steps p.tables e below (s₁.setTop (mkF m 2 #[.val (.ref ra), .val (.ref rb), .val (.int (0 : Int32))] [])) _
    refine XS.iloadN X0.here hx rfl (hb hby d3_2) rfl ?_
    show Steps p.tables e below (s₁.setTop (mkF m 3 #[.val (.ref ra), .val (.ref rb), .val (.int (0 : Int32))] [(.int (0 : Int32))])) _
    refine XS.aloadN X0.here hx rfl (hb hby d3_3) rfl rfl ?_
    show Steps p.tables e below (s₁.setTop (mkF m 4 #[.val (.ref ra), .val (.ref rb), .val (.int (0 : Int32))] [(.ref ra), (.int (0 : Int32))])) _
    refine st1 _ ?_
    show Steps p.tables e below (T1.setTop (mkF m 7 #[.val (.ref ra), .val (.ref rb), .val (.int (0 : Int32))] [(.ref rx), (.int (0 : Int32))])) _
    refine own_alenJ X1 hx hZ e1 PA0 (hb hby d3_7) _ ?_
    show Steps p.tables e below (T1.setTop (mkF m 8 #[.val (.ref ra), .val (.ref rb), .val (.int (0 : Int32))] [(.int (1 : Int32)), (.int (0 : Int32))])) _
    refine XS.icmpNo X1.here hx rfl (hb hby d3_8) rfl (by decide) ?_
    show Steps p.tables e below (T1.setTop (mkF m 11 #[.val (.ref ra), .val (.ref rb), .val (.int (0 : Int32))] [])) _
    refine XS.aloadN X1.here hx rfl (hb hby d3_11) rfl rfl ?_
    show Steps p.tables e below (T1.setTop (mkF m 12 #[.val (.ref ra), .val (.ref rb), .val (.int (0 : Int32))] [(.ref ra)])) _
    refine st2 _ ?_
    show Steps p.tables e below (T2.setTop (mkF m 15 #[.val (.ref ra), .val (.ref rb), .val (.int (0 : Int32))] [(.ref rx)])) _
    refine XS.iloadN X2.here hx rfl (hb hby d3_15) rfl ?_
    show Steps p.tables e below (T2.setTop (mkF m 16 #[.val (.ref ra), .val (.ref rb), .val (.int (0 : Int32))] [(.int (0 : Int32)), (.ref rx)])) _
    refine Jvm.Free.XT.dup2 X2.here hx rfl (hb hby d3_16) rfl rfl rfl ?_
    show Steps p.tables e below (T2.setTop (mkF m 17 #[.val (.ref ra), .val (.ref rb), .val (.int (0 : Int32))] [(.int (0 : Int32)), (.ref rx), (.int (0 : Int32)), (.ref rx)])) _
    refine own_laload X2 hx hZ e2 PA0 (show 0 ≤ Int32.toInt (0 : Int32) ∧ Int32.toInt (0 : Int32) < ((1 : Nat) : Int) by decide) (hb hby d3_17) _ ?_
    show Steps p.tables e below (T2.setTop (mkF m 18 #[.val (.ref ra), .val (.ref rb), .val (.int (0 : Int32))] [(.long x0), (.int (0 : Int32)), (.ref rx)])) _
    refine XS.aloadN X2.here hx rfl (hb hby d3_18) rfl rfl ?_
    show Steps p.tables e below (T2.setTop (mkF m 19 #[.val (.ref ra), .val (.ref rb), .val (.int (0 : Int32))] [(.ref rb), (.long x0), (.int (0 : Int32)), (.ref rx)])) _
    refine st3 _ ?_
    show Steps p.tables e below (T3.setTop (mkF m 22 #[.val (.ref ra), .val (.ref rb), .val (.int (0 : Int32))] [(.ref ry), (.long x0), (.int (0 : Int32)), (.ref rx)])) _
    refine XS.iloadN X3.here hx rfl (hb hby d3_22) rfl ?_
    show Steps p.tables e below (T3.setTop (mkF m 23 #[.val (.ref ra), .val (.ref rb), .val (.int (0 : Int32))] [(.int (0 : Int32)), (.ref ry), (.long x0), (.int (0 : Int32)), (.ref rx)])) _
    refine own_laload X3 hx hZ e3 PA1 (show 0 ≤ Int32.toInt (0 : Int32) ∧ Int32.toInt (0 : Int32) < ((1 : Nat) : Int) by decide) (hb hby d3_23) _ ?_
    show Steps p.tables e below (T3.setTop (mkF m 24 #[.val (.ref ra), .val (.ref rb), .val (.int (0 : Int32))] [(.long y0), (.long x0), (.int (0 : Int32)), (.ref rx)])) _
    refine XS.lor X3.here hx rfl (hb hby d3_24) rfl ?_
    show Steps p.tables e below (T3.setTop (mkF m 25 #[.val (.ref ra), .val (.ref rb), .val (.int (0 : Int32))] [(.long (x0 ||| y0)), (.int (0 : Int32)), (.ref rx)])) _
    refine st4 _ ?_
    show Steps p.tables e below (T4.setTop (mkF m 26 #[.val (.ref ra), .val (.ref rb), .val (.int (0 : Int32))] [])) _
    refine XS.iinc X4.here hx rfl (hb hby d3_26) rfl (l' := #[.val (.ref ra), .val (.ref rb), .val (.int (1 : Int32))]) rfl ?_
    show Steps p.tables e below (T4.setTop (mkF m 29 #[.val (.ref ra), .val (.ref rb), .val (.int (1 : Int32))] [])) _
    refine XS.goto X4.here hx rfl (pc0 := 29) (pc' := 2) rfl (hb hby d3_29) (by decide) (by decide) ?_
    show Steps p.tables e below (T4.setTop (mkF m 2 #[.val (.ref ra), .val (.ref rb), .val (.int (1 : Int32))] [])) _
    refine XS.iloadN X4.here hx rfl (hb hby d3_2) rfl ?_
    show Steps p.tables e below (T4.setTop (mkF m 3 #[.val (.ref ra), .val (.ref rb), .val (.int (1 : Int32))] [(.int (1 : Int32))])) _
    refine XS.aloadN X4.here hx rfl (hb hby d3_3) rfl rfl ?_
    show Steps p.tables e below (T4.setTop (mkF m 4 #[.val (.ref ra), .val (.ref rb), .val (.int (1 : Int32))] [(.ref ra), (.int (1 : Int32))])) _
    refine st5 _ ?_
    show Steps p.tables e below (T5.setTop (mkF m 7 #[.val (.ref ra), .val (.ref rb), .val (.int (1 : Int32))] [(.ref rx), (.int (1 : Int32))])) _
    refine own_alenJ X5 hx hZ e5 V4_n (hb hby d3_7) _ ?_
    show Steps p.tables e below (T5.setTop (mkF m 8 #[.val (.ref ra), .val (.ref rb), .val (.int (1 : Int32))] [(.int (1 : Int32)), (.int (1 : Int32))])) _
    refine XS.icmpYes X5.here hx rfl (pc0 := 8) (pc' := 32) rfl (hb hby d3_8) rfl (by decide) (by decide) (by decide) ?_
    show Steps p.tables e below (T5.setTop (mkF m 32 #[.val (.ref ra), .val (.ref rb), .val (.int (1 : Int32))] [])) _
    exact X5.returnOut hx Bd.returns (hb hby d3_32) hr
  · show Q3_1 Z ra rb rx ry x0 y0 h0 n0 _ T5.heap _
    rw [e5]
    exact ⟨rfl, N4, K4, V4_n⟩
theorem ef_3_2 (m : MethodId) (ra : Addr) (rb : Addr) : entryFrame m #[(.ref ra), (.ref rb)] 3 = mkF m 0 #[.val (.ref ra), .val (.ref rb), .unset] [] := by first | (simp [entryFrame, mkF, argsToLocals, Value.category, maxLocals]; done) | rfl
def Q3_2 (Z : State) (ra : Addr) (rb : Addr) (rx : Addr) (ry : Addr) (x0 : Int64) (x1 : Int64) (y0 : Int64) (y1 : Int64) (h0 : Heap) (n0 : Nat) (v : Option Value) (h : Heap) (L : List Loc) : Prop := v = none ∧ Fr n0 L ∧ Keep h0 h [rx] ∧ own_AJ Z h rx [(x0 ||| y0), (x1 ||| y1)]
set_option maxRecDepth 65536 in
set_option maxHeartbeats 40000000 in
theorem rm3_2 (l : Launch) (Z : State) (a0 : Array Value) (hw : ∀ d ∈ tables_1, d.before a0 Z = true) (ws : List Jvm.Cond) (ra : Addr) (rb : Addr) (rx : Addr) (ry : Addr) (x0 : Int64) (x1 : Int64) (y0 : Int64) (y1 : Int64) (h0 : Heap) (n0 : Nat) (Z0 : n0 ≤ h0.size) (PA0 : own_AJ Z h0 rx [x0, x1]) (PA1 : own_AJ Z h0 ry [y0, y1]) (PE0 : Exa Z h0 ra "com/example/mini_bloom/minibloom/BitArray") (PE1 : Exa Z h0 rb "com/example/mini_bloom/minibloom/BitArray") (PF0 : Fld Z h0 ra "com/example/mini_bloom/minibloom/BitArray" "words" "[J" (.ref rx)) (PF1 : Fld Z h0 rb "com/example/mini_bloom/minibloom/BitArray" "words" "[J" (.ref ry)) (PG0 : n0 ≤ rx) (PN0 : ry ≠ rx) (PN1 : ra ≠ rx) (PN2 : rb ≠ rx) :
    MetFree l (⟨"com/example/mini_bloom/minibloom/BitArray", "or", "(Lcom/example/mini_bloom/minibloom/BitArray;)V"⟩ : MethodName) (head1 (Jvm.Cond.code (⟨"com/example/mini_bloom/minibloom/BitArray", "or", "(Lcom/example/mini_bloom/minibloom/BitArray;)V"⟩ : MethodName) prog_1_method_4_code 3 none :: ws) ({ frames := 0, cells := 0, slots := 0, locals := 0 } : Room)) (fun a U => a = #[(.ref ra), (.ref rb)] ∧ Z.Warmed39 U.vm ∧ U.heap = h0) (fun _ _ _ _ _ => True) (fun _ U o U' => ∃ v L, o = .returned v ∧ Q3_2 Z ra rb rx ry x0 x1 y0 y1 h0 n0 v U'.heap L ∧ FrameEnd U o U' L ({ frames := 0, cells := 0, slots := 0, locals := 0 } : Room).cells ({ frames := 0, cells := 0, slots := 0, locals := 0 } : Room).slots) := by
  refine MetFree.of_bodySF (plainFor_of_name pn_1) hisR ?_
  intro p e s m args below meth c s₁ Bd hml0 hP hK
  obtain ⟨rfl, hZ, hh⟩ := hP
  have hx := Bd.exec
  have hby := Bd.bytes
  have hml : c.maxLocals = 3 := hml0
  have hown : s.vm.findClass "com/example/mini_bloom/minibloom/BitArray" = some m.cls := findClass_of_methodNamed Bd.named
  have hnm := (name_of_methodNamed Bd.named Bd.method).1
  have X0 : Stand p l e ({ frames := 0, cells := 0, slots := 0, locals := 0 } : Room) s m #[(.ref ra), (.ref rb)] below meth c s₁ [] 0 0 := Stand.of_body Bd
  have hlk : meth.locks = false := by first | exact BodyLoose.notSynchronized (by assumption) | exact Body.notSynchronized (by assumption)
  have e0 : s₁.heap = h0 := by rw [← hh, Bd.state]; rfl
  have N0 := Fr.nil n0
  have pre0 : ∀ t, Steps p.tables e below (s₁.setTop (mkF m 0 #[.val (.ref ra), .val (.ref rb), .unset] [])) t → Steps p.tables e below (s₁.setTop (entryFrame m #[(.ref ra), (.ref rb)] 3)) t := fun t k => castTop (ef_3_2 m ra rb) k
  obtain ⟨T1, X1, e1, st1⟩ := getF X0 hx hZ hown (host := "") (Or.inl (hw _ (List.mem_of_getElem? (i := 10) rfl))) Via.refl e0 PF0 (g := (mkF m 4 #[.val (.ref ra), .val (.ref rb), .val (.int (0 : Int32))] [(.ref ra), (.int (0 : Int32))])) rfl rfl (hb hby d3_4)
  obtain ⟨T2, X2, e2, st2⟩ := getF X1 hx hZ hown (host := "") (Or.inl (hw _ (List.mem_of_getElem? (i := 10) rfl))) Via.refl e1 PF0 (g := (mkF m 12 #[.val (.ref ra), .val (.ref rb), .val (.int (0 : Int32))] [(.ref ra)])) rfl rfl (hb hby d3_12)
  obtain ⟨T3, X3, e3, st3⟩ := getF X2 hx hZ hown (host := "") (Or.inl (hw _ (List.mem_of_getElem? (i := 10) rfl))) Via.refl e2 PF1 (g := (mkF m 19 #[.val (.ref ra), .val (.ref rb), .val (.int (0 : Int32))] [(.ref rb), (.long x0), (.int (0 : Int32)), (.ref rx)])) rfl rfl (hb hby d3_19)
  obtain ⟨T4, h4, X4, e4, W4, V4, st4⟩ := own_lastore X3 hx hZ e3 PA0 (j := (0 : Int32)) (show 0 ≤ Int32.toInt (0 : Int32) ∧ Int32.toInt (0 : Int32) < ((2 : Nat) : Int) by decide) (x := (x0 ||| y0)) (hb hby d3_25) (Ls := #[.val (.ref ra), .val (.ref rb), .val (.int (0 : Int32))]) (rest := [])
  have V4_ry : own_AJ Z h4 ry [y0, y1] := PA1.other W4 PN0
  have A4_ra : Exa Z h4 ra "com/example/mini_bloom/minibloom/BitArray" := PE0.wr W4
  have F4_ra_0 : Fld Z h4 ra "com/example/mini_bloom/minibloom/BitArray" "words" "[J" (.ref rx) := PF0.other W4 (Or.inl PN1)
  have A4_rb : Exa Z h4 rb "com/example/mini_bloom/minibloom/BitArray" := PE1.wr W4
  have F4_rb_0 : Fld Z h4 rb "com/example/mini_bloom/minibloom/BitArray" "words" "[J" (.ref ry) := PF1.other W4 (Or.inl PN2)
  have sz4 : n0 ≤ h4.size := Nat.le_trans Z0 (Keep.of_wr W4).1
  have K4 : Keep h0 h4 [rx] := (Keep.refl h0 [rx]).wr W4 (Or.inl (by simp))
  have N4 := Fr.snoc X4 N0 PG0
  have V4_n : own_AJ Z h4 rx [(x0 ||| y0), x1] := V4
  obtain ⟨T5, X5, e5, st5⟩ := getF X4 hx hZ hown (host := "") (Or.inl (hw _ (List.mem_of_getElem? (i := 10) rfl))) Via.refl e4 F4_ra_0 (g := (mkF m 4 #[.val (.ref ra), .val (.ref rb), .val (.int (1 : Int32))] [(.ref ra), (.int (1 : Int32))])) rfl rfl (hb hby d3_4)
  obtain ⟨T6, X6, e6, st6⟩ := getF X5 hx hZ hown (host := "") (Or.inl (hw _ (List.mem_of_getElem? (i := 10) rfl))) Via.refl e5 F4_ra_0 (g := (mkF m 12 #[.val (.ref ra), .val (.ref rb), .val (.int (1 : Int32))] [(.ref ra)])) rfl rfl (hb hby d3_12)
  obtain ⟨T7, X7, e7, st7⟩ := getF X6 hx hZ hown (host := "") (Or.inl (hw _ (List.mem_of_getElem? (i := 10) rfl))) Via.refl e6 F4_rb_0 (g := (mkF m 19 #[.val (.ref ra), .val (.ref rb), .val (.int (1 : Int32))] [(.ref rb), (.long x1), (.int (1 : Int32)), (.ref rx)])) rfl rfl (hb hby d3_19)
  obtain ⟨T8, h8, X8, e8, W8, V8, st8⟩ := own_lastore X7 hx hZ e7 V4_n (j := (1 : Int32)) (show 0 ≤ Int32.toInt (1 : Int32) ∧ Int32.toInt (1 : Int32) < ((2 : Nat) : Int) by decide) (x := (x1 ||| y1)) (hb hby d3_25) (Ls := #[.val (.ref ra), .val (.ref rb), .val (.int (1 : Int32))]) (rest := [])
  have V8_ry : own_AJ Z h8 ry [y0, y1] := V4_ry.other W8 PN0
  have A8_ra : Exa Z h8 ra "com/example/mini_bloom/minibloom/BitArray" := A4_ra.wr W8
  have F8_ra_0 : Fld Z h8 ra "com/example/mini_bloom/minibloom/BitArray" "words" "[J" (.ref rx) := F4_ra_0.other W8 (Or.inl PN1)
  have A8_rb : Exa Z h8 rb "com/example/mini_bloom/minibloom/BitArray" := A4_rb.wr W8
  have F8_rb_0 : Fld Z h8 rb "com/example/mini_bloom/minibloom/BitArray" "words" "[J" (.ref ry) := F4_rb_0.other W8 (Or.inl PN2)
  have sz8 : n0 ≤ h8.size := Nat.le_trans sz4 (Keep.of_wr W8).1
  have K8 : Keep h0 h8 [rx] := K4.wr W8 (Or.inl (by simp))
  have N8 := Fr.snoc X8 N4 PG0
  have V8_n : own_AJ Z h8 rx [(x0 ||| y0), (x1 ||| y1)] := V8
  obtain ⟨T9, X9, e9, st9⟩ := getF X8 hx hZ hown (host := "") (Or.inl (hw _ (List.mem_of_getElem? (i := 10) rfl))) Via.refl e8 F8_ra_0 (g := (mkF m 4 #[.val (.ref ra), .val (.ref rb), .val (.int (2 : Int32))] [(.ref ra), (.int (2 : Int32))])) rfl rfl (hb hby d3_4)
  obtain ⟨fs, hr, hrun, hended, hW, hsame⟩ := X9.leave (v := none) (fun _ => rfl) hlk
  refine ⟨_, _, pre0 _ ?_, hrun, hended, _, _, rfl, ?_, ⟨_, rfl⟩, hW, hsame.mono (by decide) (by decide)⟩
  · show Steps p.tables e below (s₁.setTop (mkF m 0 #[.val (.ref ra), .val (.ref rb), .unset] [])) _
    refine XS.iconst X0.here hx rfl (hb hby d3_0) ?_
    show Steps p.tables e below (s₁.setTop (mkF m 1 #[.val (.ref ra), .val (.ref rb), .unset] [(.int (0 : Int32))])) _
    refine XS.istoreN X0.here hx rfl (hb hby d3_1) rfl (l' := #[.val (.ref ra), .val (.ref rb), .val (.int (0 : Int32))]) rfl ?_
    show Steps p.tables e below (s₁.setTop (mkF m 2 #[.val (.ref ra), .val (.ref rb), .val (.int (0 : Int32))] [])) _
    refine XS.iloadN X0.here hx rfl (hb hby d3_2) rfl ?_
    show Steps p.tables e below (s₁.setTop (mkF m 3 #[.val (.ref ra), .val (.ref rb), .val (.int (0 : Int32))] [(.int (0 : Int32))])) _
    refine XS.aloadN X0.here hx rfl (hb hby d3_3) rfl rfl ?_
    show Steps p.tables e below (s₁.setTop (mkF m 4 #[.val (.ref ra), .val (.ref rb), .val (.int (0 : Int32))] [(.ref ra), (.int (0 : Int32))])) _
    refine st1 _ ?_
    show Steps p.tables e below (T1.setTop (mkF m 7 #[.val (.ref ra), .val (.ref rb), .val (.int (0 : Int32))] [(.ref rx), (.int (0 : Int32))])) _
    refine own_alenJ X1 hx hZ e1 PA0 (hb hby d3_7) _ ?_
    show Steps p.tables e below (T1.setTop (mkF m 8 #[.val (.ref ra), .val (.ref rb), .val (.int (0 : Int32))] [(.int (2 : Int32)), (.int (0 : Int32))])) _
    refine XS.icmpNo X1.here hx rfl (hb hby d3_8) rfl (by decide) ?_
    show Steps p.tables e below (T1.setTop (mkF m 11 #[.val (.ref ra), .val (.ref rb), .val (.int (0 : Int32))] [])) _
    refine XS.aloadN X1.here hx rfl (hb hby d3_11) rfl rfl ?_
    show Steps p.tables e below (T1.setTop (mkF m 12 #[.val (.ref ra), .val (.ref rb), .val (.int (0 : Int32))] [(.ref ra)])) _
    refine st2 _ ?_
    show Steps p.tables e below (T2.setTop (mkF m 15 #[.val (.ref ra), .val (.ref rb), .val (.int (0 : Int32))] [(.ref rx)])) _
    refine XS.iloadN X2.here hx rfl (hb hby d3_15) rfl ?_
    show Steps p.tables e below (T2.setTop (mkF m 16 #[.val (.ref ra), .val (.ref rb), .val (.int (0 : Int32))] [(.int (0 : Int32)), (.ref rx)])) _
    refine Jvm.Free.XT.dup2 X2.here hx rfl (hb hby d3_16) rfl rfl rfl ?_
    show Steps p.tables e below (T2.setTop (mkF m 17 #[.val (.ref ra), .val (.ref rb), .val (.int (0 : Int32))] [(.int (0 : Int32)), (.ref rx), (.int (0 : Int32)), (.ref rx)])) _
    refine own_laload X2 hx hZ e2 PA0 (show 0 ≤ Int32.toInt (0 : Int32) ∧ Int32.toInt (0 : Int32) < ((2 : Nat) : Int) by decide) (hb hby d3_17) _ ?_
    show Steps p.tables e below (T2.setTop (mkF m 18 #[.val (.ref ra), .val (.ref rb), .val (.int (0 : Int32))] [(.long x0), (.int (0 : Int32)), (.ref rx)])) _
    refine XS.aloadN X2.here hx rfl (hb hby d3_18) rfl rfl ?_
    show Steps p.tables e below (T2.setTop (mkF m 19 #[.val (.ref ra), .val (.ref rb), .val (.int (0 : Int32))] [(.ref rb), (.long x0), (.int (0 : Int32)), (.ref rx)])) _
    refine st3 _ ?_
    show Steps p.tables e below (T3.setTop (mkF m 22 #[.val (.ref ra), .val (.ref rb), .val (.int (0 : Int32))] [(.ref ry), (.long x0), (.int (0 : Int32)), (.ref rx)])) _
    refine XS.iloadN X3.here hx rfl (hb hby d3_22) rfl ?_
    show Steps p.tables e below (T3.setTop (mkF m 23 #[.val (.ref ra), .val (.ref rb), .val (.int (0 : Int32))] [(.int (0 : Int32)), (.ref ry), (.long x0), (.int (0 : Int32)), (.ref rx)])) _
    refine own_laload X3 hx hZ e3 PA1 (show 0 ≤ Int32.toInt (0 : Int32) ∧ Int32.toInt (0 : Int32) < ((2 : Nat) : Int) by decide) (hb hby d3_23) _ ?_
    show Steps p.tables e below (T3.setTop (mkF m 24 #[.val (.ref ra), .val (.ref rb), .val (.int (0 : Int32))] [(.long y0), (.long x0), (.int (0 : Int32)), (.ref rx)])) _
    refine XS.lor X3.here hx rfl (hb hby d3_24) rfl ?_
    show Steps p.tables e below (T3.setTop (mkF m 25 #[.val (.ref ra), .val (.ref rb), .val (.int (0 : Int32))] [(.long (x0 ||| y0)), (.int (0 : Int32)), (.ref rx)])) _
    refine st4 _ ?_
    show Steps p.tables e below (T4.setTop (mkF m 26 #[.val (.ref ra), .val (.ref rb), .val (.int (0 : Int32))] [])) _
    refine XS.iinc X4.here hx rfl (hb hby d3_26) rfl (l' := #[.val (.ref ra), .val (.ref rb), .val (.int (1 : Int32))]) rfl ?_
    show Steps p.tables e below (T4.setTop (mkF m 29 #[.val (.ref ra), .val (.ref rb), .val (.int (1 : Int32))] [])) _
    refine XS.goto X4.here hx rfl (pc0 := 29) (pc' := 2) rfl (hb hby d3_29) (by decide) (by decide) ?_
    show Steps p.tables e below (T4.setTop (mkF m 2 #[.val (.ref ra), .val (.ref rb), .val (.int (1 : Int32))] [])) _
    refine XS.iloadN X4.here hx rfl (hb hby d3_2) rfl ?_
    show Steps p.tables e below (T4.setTop (mkF m 3 #[.val (.ref ra), .val (.ref rb), .val (.int (1 : Int32))] [(.int (1 : Int32))])) _
    refine XS.aloadN X4.here hx rfl (hb hby d3_3) rfl rfl ?_
    show Steps p.tables e below (T4.setTop (mkF m 4 #[.val (.ref ra), .val (.ref rb), .val (.int (1 : Int32))] [(.ref ra), (.int (1 : Int32))])) _
    refine st5 _ ?_
    show Steps p.tables e below (T5.setTop (mkF m 7 #[.val (.ref ra), .val (.ref rb), .val (.int (1 : Int32))] [(.ref rx), (.int (1 : Int32))])) _
    refine own_alenJ X5 hx hZ e5 V4_n (hb hby d3_7) _ ?_
    show Steps p.tables e below (T5.setTop (mkF m 8 #[.val (.ref ra), .val (.ref rb), .val (.int (1 : Int32))] [(.int (2 : Int32)), (.int (1 : Int32))])) _
    refine XS.icmpNo X5.here hx rfl (hb hby d3_8) rfl (by decide) ?_
    show Steps p.tables e below (T5.setTop (mkF m 11 #[.val (.ref ra), .val (.ref rb), .val (.int (1 : Int32))] [])) _
    refine XS.aloadN X5.here hx rfl (hb hby d3_11) rfl rfl ?_
    show Steps p.tables e below (T5.setTop (mkF m 12 #[.val (.ref ra), .val (.ref rb), .val (.int (1 : Int32))] [(.ref ra)])) _
    refine st6 _ ?_
    show Steps p.tables e below (T6.setTop (mkF m 15 #[.val (.ref ra), .val (.ref rb), .val (.int (1 : Int32))] [(.ref rx)])) _
    refine XS.iloadN X6.here hx rfl (hb hby d3_15) rfl ?_
    show Steps p.tables e below (T6.setTop (mkF m 16 #[.val (.ref ra), .val (.ref rb), .val (.int (1 : Int32))] [(.int (1 : Int32)), (.ref rx)])) _
    refine Jvm.Free.XT.dup2 X6.here hx rfl (hb hby d3_16) rfl rfl rfl ?_
    show Steps p.tables e below (T6.setTop (mkF m 17 #[.val (.ref ra), .val (.ref rb), .val (.int (1 : Int32))] [(.int (1 : Int32)), (.ref rx), (.int (1 : Int32)), (.ref rx)])) _
    refine own_laload X6 hx hZ e6 V4_n (show 0 ≤ Int32.toInt (1 : Int32) ∧ Int32.toInt (1 : Int32) < ((2 : Nat) : Int) by decide) (hb hby d3_17) _ ?_
    show Steps p.tables e below (T6.setTop (mkF m 18 #[.val (.ref ra), .val (.ref rb), .val (.int (1 : Int32))] [(.long x1), (.int (1 : Int32)), (.ref rx)])) _
    refine XS.aloadN X6.here hx rfl (hb hby d3_18) rfl rfl ?_
    show Steps p.tables e below (T6.setTop (mkF m 19 #[.val (.ref ra), .val (.ref rb), .val (.int (1 : Int32))] [(.ref rb), (.long x1), (.int (1 : Int32)), (.ref rx)])) _
    refine st7 _ ?_
    show Steps p.tables e below (T7.setTop (mkF m 22 #[.val (.ref ra), .val (.ref rb), .val (.int (1 : Int32))] [(.ref ry), (.long x1), (.int (1 : Int32)), (.ref rx)])) _
    refine XS.iloadN X7.here hx rfl (hb hby d3_22) rfl ?_
    show Steps p.tables e below (T7.setTop (mkF m 23 #[.val (.ref ra), .val (.ref rb), .val (.int (1 : Int32))] [(.int (1 : Int32)), (.ref ry), (.long x1), (.int (1 : Int32)), (.ref rx)])) _
    refine own_laload X7 hx hZ e7 V4_ry (show 0 ≤ Int32.toInt (1 : Int32) ∧ Int32.toInt (1 : Int32) < ((2 : Nat) : Int) by decide) (hb hby d3_23) _ ?_
    show Steps p.tables e below (T7.setTop (mkF m 24 #[.val (.ref ra), .val (.ref rb), .val (.int (1 : Int32))] [(.long y1), (.long x1), (.int (1 : Int32)), (.ref rx)])) _
    refine XS.lor X7.here hx rfl (hb hby d3_24) rfl ?_
    show Steps p.tables e below (T7.setTop (mkF m 25 #[.val (.ref ra), .val (.ref rb), .val (.int (1 : Int32))] [(.long (x1 ||| y1)), (.int (1 : Int32)), (.ref rx)])) _
    refine st8 _ ?_
    show Steps p.tables e below (T8.setTop (mkF m 26 #[.val (.ref ra), .val (.ref rb), .val (.int (1 : Int32))] [])) _
    refine XS.iinc X8.here hx rfl (hb hby d3_26) rfl (l' := #[.val (.ref ra), .val (.ref rb), .val (.int (2 : Int32))]) rfl ?_
    show Steps p.tables e below (T8.setTop (mkF m 29 #[.val (.ref ra), .val (.ref rb), .val (.int (2 : Int32))] [])) _
    refine XS.goto X8.here hx rfl (pc0 := 29) (pc' := 2) rfl (hb hby d3_29) (by decide) (by decide) ?_
    show Steps p.tables e below (T8.setTop (mkF m 2 #[.val (.ref ra), .val (.ref rb), .val (.int (2 : Int32))] [])) _
    refine XS.iloadN X8.here hx rfl (hb hby d3_2) rfl ?_
    show Steps p.tables e below (T8.setTop (mkF m 3 #[.val (.ref ra), .val (.ref rb), .val (.int (2 : Int32))] [(.int (2 : Int32))])) _
    refine XS.aloadN X8.here hx rfl (hb hby d3_3) rfl rfl ?_
    show Steps p.tables e below (T8.setTop (mkF m 4 #[.val (.ref ra), .val (.ref rb), .val (.int (2 : Int32))] [(.ref ra), (.int (2 : Int32))])) _
    refine st9 _ ?_
    show Steps p.tables e below (T9.setTop (mkF m 7 #[.val (.ref ra), .val (.ref rb), .val (.int (2 : Int32))] [(.ref rx), (.int (2 : Int32))])) _
    refine own_alenJ X9 hx hZ e9 V8_n (hb hby d3_7) _ ?_
    show Steps p.tables e below (T9.setTop (mkF m 8 #[.val (.ref ra), .val (.ref rb), .val (.int (2 : Int32))] [(.int (2 : Int32)), (.int (2 : Int32))])) _
    refine XS.icmpYes X9.here hx rfl (pc0 := 8) (pc' := 32) rfl (hb hby d3_8) rfl (by decide) (by decide) (by decide) ?_
    show Steps p.tables e below (T9.setTop (mkF m 32 #[.val (.ref ra), .val (.ref rb), .val (.int (2 : Int32))] [])) _
    exact X9.returnOut hx Bd.returns (hb hby d3_32) hr
  · show Q3_2 Z ra rb rx ry x0 x1 y0 y1 h0 n0 _ T9.heap _
    rw [e9]
    exact ⟨rfl, N8, K8, V8_n⟩
theorem d4_0 : decode prog_1_method_7_code 0 = .ok (.aload_n 0, 1) := by decide +kernel
theorem d4_1 : decode prog_1_method_7_code 1 = .ok (.getfield 15, 3) := by decide +kernel
theorem d4_4 : decode prog_1_method_7_code 4 = .ok (.arraylength, 1) := by decide +kernel
theorem d4_5 : decode prog_1_method_7_code 5 = .ok (.ireturn, 1) := by decide +kernel
theorem ef_4 (m : MethodId) (ra : Addr) : entryFrame m #[(.ref ra)] 1 = mkF m 0 #[.val (.ref ra)] [] := by first | (simp [entryFrame, mkF, argsToLocals, Value.category, maxLocals]; done) | rfl
def own_f4  (xs : List Int64) : Int32 := (xs.length).toInt32
def Q4 (Z : State) (ra : Addr) (rb : Addr) (xs : List Int64) (h0 : Heap) (n0 : Nat) (v : Option Value) (h : Heap) (L : List Loc) : Prop := v = some (.int (own_f4 xs)) ∧ Fr n0 L ∧ h = h0
set_option maxRecDepth 65536 in
set_option maxHeartbeats 40000000 in
theorem rm4 (l : Launch) (Z : State) (a0 : Array Value) (hw : ∀ d ∈ tables_1, d.before a0 Z = true) (ws : List Jvm.Cond) (ra : Addr) (rb : Addr) (xs : List Int64) (h0 : Heap) (n0 : Nat) (Z0 : n0 ≤ h0.size) (PA0 : own_AJ Z h0 rb xs) (PE0 : Exa Z h0 ra "com/example/mini_bloom/minibloom/BitArray") (PF0 : Fld Z h0 ra "com/example/mini_bloom/minibloom/BitArray" "words" "[J" (.ref rb)) :
    MetFree l (⟨"com/example/mini_bloom/minibloom/BitArray", "words", "()I"⟩ : MethodName) (head1 (Jvm.Cond.code (⟨"com/example/mini_bloom/minibloom/BitArray", "words", "()I"⟩ : MethodName) prog_1_method_7_code 1 (some .int) :: ws) ({ frames := 0, cells := 0, slots := 0, locals := 0 } : Room)) (fun a U => a = #[(.ref ra)] ∧ Z.Warmed39 U.vm ∧ U.heap = h0) (fun _ _ _ _ _ => True) (fun _ U o U' => ∃ v L, o = .returned v ∧ Q4 Z ra rb xs h0 n0 v U'.heap L ∧ FrameEnd U o U' L ({ frames := 0, cells := 0, slots := 0, locals := 0 } : Room).cells ({ frames := 0, cells := 0, slots := 0, locals := 0 } : Room).slots) := by
  refine MetFree.of_bodySF (plainFor_of_name pn_1) hisR ?_
  intro p e s m args below meth c s₁ Bd hml0 hP hK
  obtain ⟨rfl, hZ, hh⟩ := hP
  have hx := Bd.exec
  have hby := Bd.bytes
  have hml : c.maxLocals = 1 := hml0
  have hown : s.vm.findClass "com/example/mini_bloom/minibloom/BitArray" = some m.cls := findClass_of_methodNamed Bd.named
  have hnm := (name_of_methodNamed Bd.named Bd.method).1
  have X0 : Stand p l e ({ frames := 0, cells := 0, slots := 0, locals := 0 } : Room) s m #[(.ref ra)] below meth c s₁ [] 0 0 := Stand.of_body Bd
  have hlk : meth.locks = false := by first | exact BodyLoose.notSynchronized (by assumption) | exact Body.notSynchronized (by assumption)
  have e0 : s₁.heap = h0 := by rw [← hh, Bd.state]; rfl
  have N0 := Fr.nil n0
  have pre0 : ∀ t, Steps p.tables e below (s₁.setTop (mkF m 0 #[.val (.ref ra)] [])) t → Steps p.tables e below (s₁.setTop (entryFrame m #[(.ref ra)] 1)) t := fun t k => castTop (ef_4 m ra) k
  obtain ⟨T1, X1, e1, st1⟩ := getF X0 hx hZ hown (host := "") (Or.inl (hw _ (List.mem_of_getElem? (i := 10) rfl))) Via.refl e0 PF0 (g := (mkF m 1 #[.val (.ref ra)] [(.ref ra)])) rfl rfl (hb hby d4_1)
  obtain ⟨fs, hr, hrun, hended, hW, hsame⟩ := X1.leave (v := some (.int (xs.length).toInt32)) (fun h => by rw [Bd.returns] at h; cases h) hlk
  refine ⟨_, _, pre0 _ ?_, hrun, hended, _, _, rfl, ?_, ⟨_, rfl⟩, hW, hsame.mono (by decide) (by decide)⟩
  · show Steps p.tables e below (s₁.setTop (mkF m 0 #[.val (.ref ra)] [])) _
    refine XS.aloadN X0.here hx rfl (hb hby d4_0) rfl rfl ?_
    show Steps p.tables e below (s₁.setTop (mkF m 1 #[.val (.ref ra)] [(.ref ra)])) _
    refine st1 _ ?_
    show Steps p.tables e below (T1.setTop (mkF m 4 #[.val (.ref ra)] [(.ref rb)])) _
    refine own_alenJ X1 hx hZ e1 PA0 (hb hby d4_4) _ ?_
    show Steps p.tables e below (T1.setTop (mkF m 5 #[.val (.ref ra)] [(.int (xs.length).toInt32)])) _
    exact retI X1 hx Bd.returns (hb hby d4_5) hr
  · show Q4 Z ra rb xs h0 n0 _ T1.heap _
    rw [e1]
    exact ⟨by rfl, N0, rfl⟩
theorem d5_0 : decode prog_1_method_8_code 0 = .ok (.aload_n 0, 1) := by decide +kernel
theorem d5_1 : decode prog_1_method_8_code 1 = .ok (.getfield 15, 3) := by decide +kernel
theorem d5_4 : decode prog_1_method_8_code 4 = .ok (.iload_n 1, 1) := by decide +kernel
theorem d5_5 : decode prog_1_method_8_code 5 = .ok (.laload, 1) := by decide +kernel
theorem d5_6 : decode prog_1_method_8_code 6 = .ok (.lreturn, 1) := by decide +kernel
theorem ef_5 (m : MethodId) (ra : Addr) (q1 : Int32) : entryFrame m #[(.ref ra), (.int q1)] 2 = mkF m 0 #[.val (.ref ra), .val (.int q1)] [] := by first | (simp [entryFrame, mkF, argsToLocals, Value.category, maxLocals]; done) | rfl
def own_f5 (q1 : Int32) (xs : List Int64) : Int64 := (xs.getD (q1).toInt.toNat 0)
def Q5 (Z : State) (ra : Addr) (q1 : Int32) (rb : Addr) (xs : List Int64) (h0 : Heap) (n0 : Nat) (v : Option Value) (h : Heap) (L : List Loc) : Prop := v = some (.long (own_f5 q1 xs)) ∧ Fr n0 L ∧ h = h0
set_option maxRecDepth 65536 in
set_option maxHeartbeats 40000000 in
theorem rm5 (l : Launch) (Z : State) (a0 : Array Value) (hw : ∀ d ∈ tables_1, d.before a0 Z = true) (ws : List Jvm.Cond) (ra : Addr) (q1 : Int32) (rb : Addr) (xs : List Int64) (h0 : Heap) (n0 : Nat) (Z0 : n0 ≤ h0.size) (PA0 : own_AJ Z h0 rb xs) (PE0 : Exa Z h0 ra "com/example/mini_bloom/minibloom/BitArray") (PF0 : Fld Z h0 ra "com/example/mini_bloom/minibloom/BitArray" "words" "[J" (.ref rb)) (hin : 0 ≤ (q1).toInt ∧ (q1).toInt < (xs.length : Nat)) :
    MetFree l (⟨"com/example/mini_bloom/minibloom/BitArray", "word", "(I)J"⟩ : MethodName) (head1 (Jvm.Cond.code (⟨"com/example/mini_bloom/minibloom/BitArray", "word", "(I)J"⟩ : MethodName) prog_1_method_8_code 2 (some .long) :: ws) ({ frames := 0, cells := 0, slots := 0, locals := 0 } : Room)) (fun a U => a = #[(.ref ra), (.int q1)] ∧ Z.Warmed39 U.vm ∧ U.heap = h0) (fun _ _ _ _ _ => True) (fun _ U o U' => ∃ v L, o = .returned v ∧ Q5 Z ra q1 rb xs h0 n0 v U'.heap L ∧ FrameEnd U o U' L ({ frames := 0, cells := 0, slots := 0, locals := 0 } : Room).cells ({ frames := 0, cells := 0, slots := 0, locals := 0 } : Room).slots) := by
  refine MetFree.of_bodySF (plainFor_of_name pn_1) hisR ?_
  intro p e s m args below meth c s₁ Bd hml0 hP hK
  obtain ⟨rfl, hZ, hh⟩ := hP
  have hx := Bd.exec
  have hby := Bd.bytes
  have hml : c.maxLocals = 2 := hml0
  have hown : s.vm.findClass "com/example/mini_bloom/minibloom/BitArray" = some m.cls := findClass_of_methodNamed Bd.named
  have hnm := (name_of_methodNamed Bd.named Bd.method).1
  have X0 : Stand p l e ({ frames := 0, cells := 0, slots := 0, locals := 0 } : Room) s m #[(.ref ra), (.int q1)] below meth c s₁ [] 0 0 := Stand.of_body Bd
  have hlk : meth.locks = false := by first | exact BodyLoose.notSynchronized (by assumption) | exact Body.notSynchronized (by assumption)
  have e0 : s₁.heap = h0 := by rw [← hh, Bd.state]; rfl
  have N0 := Fr.nil n0
  have pre0 : ∀ t, Steps p.tables e below (s₁.setTop (mkF m 0 #[.val (.ref ra), .val (.int q1)] [])) t → Steps p.tables e below (s₁.setTop (entryFrame m #[(.ref ra), (.int q1)] 2)) t := fun t k => castTop (ef_5 m ra q1) k
  obtain ⟨T1, X1, e1, st1⟩ := getF X0 hx hZ hown (host := "") (Or.inl (hw _ (List.mem_of_getElem? (i := 10) rfl))) Via.refl e0 PF0 (g := (mkF m 1 #[.val (.ref ra), .val (.int q1)] [(.ref ra)])) rfl rfl (hb hby d5_1)
  have in_5_2 : 0 ≤ (q1).toInt ∧ (q1).toInt < (xs.length : Nat) := hin
  obtain ⟨fs, hr, hrun, hended, hW, hsame⟩ := X1.leave (v := some (.long (xs.getD (q1).toInt.toNat 0))) (fun h => by rw [Bd.returns] at h; cases h) hlk
  refine ⟨_, _, pre0 _ ?_, hrun, hended, _, _, rfl, ?_, ⟨_, rfl⟩, hW, hsame.mono (by decide) (by decide)⟩
  · show Steps p.tables e below (s₁.setTop (mkF m 0 #[.val (.ref ra), .val (.int q1)] [])) _
    refine XS.aloadN X0.here hx rfl (hb hby d5_0) rfl rfl ?_
    show Steps p.tables e below (s₁.setTop (mkF m 1 #[.val (.ref ra), .val (.int q1)] [(.ref ra)])) _
    refine st1 _ ?_
    show Steps p.tables e below (T1.setTop (mkF m 4 #[.val (.ref ra), .val (.int q1)] [(.ref rb)])) _
    refine XS.iloadN X1.here hx rfl (hb hby d5_4) rfl ?_
    show Steps p.tables e below (T1.setTop (mkF m 5 #[.val (.ref ra), .val (.int q1)] [(.int q1), (.ref rb)])) _
    refine own_laload X1 hx hZ e1 PA0 in_5_2 (hb hby d5_5) _ ?_
    show Steps p.tables e below (T1.setTop (mkF m 6 #[.val (.ref ra), .val (.int q1)] [(.long (xs.getD (q1).toInt.toNat 0))])) _
    exact X1.lreturnOut hx Bd.returns (hb hby d5_6) hr
  · show Q5 Z ra q1 rb xs h0 n0 _ T1.heap _
    rw [e1]
    exact ⟨by rfl, N0, rfl⟩
theorem pn_5 : plainName "com/example/mini_bloom/minibloom/BitArrayOrPinLaw" = true := by first | (simp [plainName, overriddenIn]; done) | decide +kernel
theorem ef_0 (m : MethodId) (q0 : Int32) (q1 : Int64) (q2 : Int64) (q3 : Int64) (q4 : Int64) : entryFrame m #[(.int q0), (.long q1), (.long q2), (.long q3), (.long q4)] maxLocals = mkF m 0 #[.val (.int q0), .val (.long q1), .second, .val (.long q2), .second, .val (.long q3), .second, .val (.long q4), .second, .unset, .unset, .unset, .unset, .unset] [] := by first | (simp [entryFrame, mkF, argsToLocals, Value.category, maxLocals]; done) | rfl
theorem pd_6 : parseMethodDescriptor "([J)V" = some ⟨[(.array .long)], none⟩ := by decide +kernel
theorem pd_7 : parseMethodDescriptor "(Lcom/example/mini_bloom/minibloom/BitArray;)V" = some ⟨[(.object "com/example/mini_bloom/minibloom/BitArray")], none⟩ := by decide +kernel
theorem pd_8 : parseMethodDescriptor "()I" = some ⟨[], some .int⟩ := by decide +kernel
theorem pd_9 : parseMethodDescriptor "(I)J" = some ⟨[.int], some .long⟩ := by decide +kernel
def own_f0 (q0 : Int32) (q1 : Int64) (q2 : Int64) (q3 : Int64) (q4 : Int64) : Int32 := let v1 := (q0 &&& (3 : Int32))
  (if v1 = (0 : Int32) then (1 : Int32) else (if v1 = (1 : Int32) then (1 : Int32) else (if v1 = (2 : Int32) then (1 : Int32) else (1 : Int32))))
def Q0 (Z : State) (q0 : Int32) (q1 : Int64) (q2 : Int64) (q3 : Int64) (q4 : Int64)  (h0 : Heap) (n0 : Nat) (v : Option Value) (h : Heap) (L : List Loc) : Prop := v = some (.int (own_f0 q0 q1 q2 q3 q4)) ∧ Fr n0 L
set_option maxRecDepth 65536 in
set_option maxHeartbeats 40000000 in
theorem rm0 (l : Launch) (Z : State) (a0 : Array Value) (hw : ∀ d ∈ tables_1, d.before a0 Z = true) (ws : List Jvm.Cond) (q0 : Int32) (q1 : Int64) (q2 : Int64) (q3 : Int64) (q4 : Int64)  (h0 : Heap) (n0 : Nat) (Z0 : n0 ≤ h0.size)  :
    MetFree l x (head1 (Jvm.Cond.code x code maxLocals ret :: ws) room_1) (fun a U => a = #[(.int q0), (.long q1), (.long q2), (.long q3), (.long q4)] ∧ Z.Warmed39 U.vm ∧ U.heap = h0) (fun _ _ _ _ _ => True) (fun _ U o U' => ∃ v L, o = .returned v ∧ Q0 Z q0 q1 q2 q3 q4 h0 n0 v U'.heap L ∧ FrameEnd U o U' L room_1.cells room_1.slots) := by
  refine MetFree.of_bodySF (plainFor_of_name pn_5) hisR ?_
  intro p e s m args below meth c s₁ Bd hml0 hP hK
  obtain ⟨rfl, hZ, hh⟩ := hP
  have hx := Bd.exec
  have hby := Bd.bytes
  have hml : c.maxLocals = 14 := hml0
  have hown : s.vm.findClass "com/example/mini_bloom/minibloom/BitArrayOrPinLaw" = some m.cls := findClass_of_methodNamed Bd.named
  have hnm := (name_of_methodNamed Bd.named Bd.method).1
  have X0 : Stand p l e room_1 s m #[(.int q0), (.long q1), (.long q2), (.long q3), (.long q4)] below meth c s₁ [] 0 0 := Stand.of_body Bd
  have hlk : meth.locks = false := by first | exact BodyLoose.notSynchronized (by assumption) | exact Body.notSynchronized (by assumption)
  have e0 : s₁.heap = h0 := by rw [← hh, Bd.state]; rfl
  have N0 := Fr.nil n0
  have pre0 : ∀ t, Steps p.tables e below (s₁.setTop (mkF m 0 #[.val (.int q0), .val (.long q1), .second, .val (.long q2), .second, .val (.long q3), .second, .val (.long q4), .second, .unset, .unset, .unset, .unset, .unset] [])) t → Steps p.tables e below (s₁.setTop (entryFrame m #[(.int q0), (.long q1), (.long q2), (.long q3), (.long q4)] maxLocals)) t := fun t k => castTop (ef_0 m q0 q1 q2 q3 q4) k
  obtain ⟨v1, hv1⟩ : ∃ z : Int32, z = (q0 &&& (3 : Int32)) := ⟨_, rfl⟩
  have pre2 : ∀ t, Steps p.tables e below (s₁.setTop (mkF m 3 #[.val (.int q0), .val (.long q1), .second, .val (.long q2), .second, .val (.long q3), .second, .val (.long q4), .second, .unset, .unset, .unset, .unset, .unset] [(.int v1)])) t → Steps p.tables e below (s₁.setTop (entryFrame m #[(.int q0), (.long q1), (.long q2), (.long q3), (.long q4)] maxLocals)) t := by
    rw [hv1]
    intro t k
    refine pre0 t ?_
    show Steps p.tables e below (s₁.setTop (mkF m 0 #[.val (.int q0), .val (.long q1), .second, .val (.long q2), .second, .val (.long q3), .second, .val (.long q4), .second, .unset, .unset, .unset, .unset, .unset] [])) _
    refine XS.iloadN X0.here hx rfl (hb hby at_0) rfl ?_
    show Steps p.tables e below (s₁.setTop (mkF m 1 #[.val (.int q0), .val (.long q1), .second, .val (.long q2), .second, .val (.long q3), .second, .val (.long q4), .second, .unset, .unset, .unset, .unset, .unset] [(.int q0)])) _
    refine XS.iconst X0.here hx rfl (hb hby at_1) ?_
    show Steps p.tables e below (s₁.setTop (mkF m 2 #[.val (.int q0), .val (.long q1), .second, .val (.long q2), .second, .val (.long q3), .second, .val (.long q4), .second, .unset, .unset, .unset, .unset, .unset] [(.int (3 : Int32)), (.int q0)])) _
    refine XS.iand X0.here hx rfl (hb hby at_2) rfl ?_
    exact k
  rcases own_four hv1 with rfl | rfl | rfl | rfl
  · obtain ⟨T3, h3, cA3, X3, e3, E3, A3, st3⟩ := newP X0 hx hZ (aty := .long) (hw _ (List.mem_of_getElem? (i := 0) rfl)) e0 (g := (mkF m 20 #[.val (.int q0), .val (.long q1), .second, .val (.long q2), .second, .val (.long q3), .second, .val (.long q4), .second, .val (.int (0 : Int32)), .unset, .unset, .unset, .unset] [(.int (0 : Int32))])) rfl (hb hby at_20) rfl (by decide) (cap := 0) (by decide) (by decide) (by decide) (by decide)
    obtain ⟨a3, g3⟩ : ∃ z, z = h0.size := ⟨_, rfl⟩
    rw [← g3] at A3 st3
    have ge_a3 : n0 ≤ a3 := g3 ▸ Z0
    have sz3 : n0 ≤ h3.size := Nat.le_trans Z0 E3.1
    have V3_n : own_AJ Z h3 a3 [] := own_AJ_new A3 (k := 0) (by decide)
    obtain ⟨T4, h4, cA4, X4, e4, E4, A4, st4⟩ := newP X3 hx hZ (aty := .long) (hw _ (List.mem_of_getElem? (i := 0) rfl)) e3 (g := (mkF m 25 #[.val (.int q0), .val (.long q1), .second, .val (.long q2), .second, .val (.long q3), .second, .val (.long q4), .second, .val (.int (0 : Int32)), .val (.ref a3), .unset, .unset, .unset] [(.int (0 : Int32))])) rfl (hb hby at_25) rfl (by decide) (cap := 0) (by decide) (by decide) (by decide) (by decide)
    obtain ⟨a4, g4⟩ : ∃ z, z = h3.size := ⟨_, rfl⟩
    rw [← g4] at A4 st4
    have ne_a3_a4 : a3 ≠ a4 := g4 ▸ Nat.ne_of_lt V3_n.lt
    have ge_a4 : n0 ≤ a4 := g4 ▸ sz3
    have V4_a3 : own_AJ Z h4 a3 [] := V3_n.ext E4
    have sz4 : n0 ≤ h4.size := Nat.le_trans sz3 E4.1
    have V4_n : own_AJ Z h4 a4 [] := own_AJ_new A4 (k := 0) (by decide)
    obtain ⟨T5, h5, X5, e5, E5, A5, D5, -, st5⟩ := newO X4 hx hZ hown (hw _ (List.mem_of_getElem? (i := 1) rfl)) (hw _ (List.mem_of_getElem? (i := 2) rfl)) (hw _ (List.mem_of_getElem? (i := 3) rfl)) e4 (g := (mkF m 88 #[.val (.int q0), .val (.long q1), .second, .val (.long q2), .second, .val (.long q3), .second, .val (.long q4), .second, .val (.int (0 : Int32)), .val (.ref a3), .val (.ref a4), .unset, .unset] [])) rfl (hb hby at_88) (by decide) (by decide)
    obtain ⟨a5, g5⟩ : ∃ z, z = h4.size := ⟨_, rfl⟩
    rw [← g5] at A5 D5 st5
    have ne_a3_a5 : a3 ≠ a5 := g5 ▸ Nat.ne_of_lt V4_a3.lt
    have ne_a4_a5 : a4 ≠ a5 := g5 ▸ Nat.ne_of_lt V4_n.lt
    have ge_a5 : n0 ≤ a5 := g5 ▸ sz4
    have V5_a3 : own_AJ Z h5 a3 [] := V4_a3.ext E5
    have V5_a4 : own_AJ Z h5 a4 [] := V4_n.ext E5
    have sz5 : n0 ≤ h5.size := Nat.le_trans sz4 E5.1
    have F5_n0 : Fld Z h5 a5 "com/example/mini_bloom/minibloom/BitArray" "words" "[J" .null := D5 (Or.inr (hw _ (List.mem_of_getElem? (i := 11) rfl))) (ty := (.array .long)) (by decide)
    obtain ⟨_, _, ⟨T6, L6, k6, n6⟩, -, X6, ⟨Lc6, hQ6, l6, y6, z6⟩, st6⟩ := X5.specialBack hx (y := (⟨"com/example/mini_bloom/minibloom/BitArray", "<init>", "([J)V"⟩ : MethodName)) rfl hown (mvT hZ (hw _ (List.mem_of_getElem? (i := 4) rfl))) (mvT hZ (hw _ (List.mem_of_getElem? (i := 5) rfl))) (mvT hZ (hw _ (List.mem_of_getElem? (i := 6) rfl))) (by decide) (backOf (W := 1) (rm1 l Z a0 hw [] a5 a3  h5 n0 sz5 A5 F5_n0 ge_a5 ) hZ (hw _ (List.mem_of_getElem? (i := 6) rfl)) (hw _ (List.mem_of_getElem? (i := 3) rfl)) (by decide) (by decide)) (g := (mkF m 94 #[.val (.int q0), .val (.long q1), .second, .val (.long q2), .second, .val (.long q3), .second, .val (.long q4), .second, .val (.int (0 : Int32)), .val (.ref a3), .val (.ref a4), .unset, .unset] [(.ref a3), (.ref a5), (.ref a5)])) rfl (by rw [hml]; rfl) (Steps.refl _) (a := a5) (argsL := [(.ref a3)]) (rest := [(.ref a5)]) (lenOf pd_6 rfl) rfl (by show 2 * 0 + _ ≤ _; exact Nat.le_of_eq rfl) (hb hby at_94) (fun _ _ => ⟨rfl, e5, (by decide : 3 + 0 ≤ _), (by decide : 1 + 0 ≤ _)⟩)
    dsimp only [Pt.U, Pt.locs, Pt.cells, Pt.slots] at X6 l6 y6 z6 st6 hQ6
    subst l6 y6 z6
    obtain ⟨rfl, N6q, K6, A6_o0, F6_o0⟩ := hQ6
    obtain ⟨h6, e6⟩ : ∃ z, T6.heap = z := ⟨_, rfl⟩
    rw [e6] at K6 A6_o0 F6_o0
    have V6_a3 : own_AJ Z h6 a3 [] := V5_a3.keep K6 (ninS ne_a3_a5 nin0)
    have V6_a4 : own_AJ Z h6 a4 [] := V5_a4.keep K6 (ninS ne_a4_a5 nin0)
    have A6_a5 : Exa Z h6 a5 "com/example/mini_bloom/minibloom/BitArray" := A5.keep K6
    have sz6 : n0 ≤ h6.size := Nat.le_trans sz5 K6.1
    have N6 := Fr.app N0 N6q
    obtain ⟨T7, h7, X7, e7, E7, A7, D7, -, st7⟩ := newO X6 hx hZ hown (hw _ (List.mem_of_getElem? (i := 1) rfl)) (hw _ (List.mem_of_getElem? (i := 2) rfl)) (hw _ (List.mem_of_getElem? (i := 3) rfl)) e6 (g := (mkF m 99 #[.val (.int q0), .val (.long q1), .second, .val (.long q2), .second, .val (.long q3), .second, .val (.long q4), .second, .val (.int (0 : Int32)), .val (.ref a3), .val (.ref a4), .val (.ref a5), .unset] [])) rfl (hb hby at_99) (by decide) (by decide)
    obtain ⟨a7, g7⟩ : ∃ z, z = h6.size := ⟨_, rfl⟩
    rw [← g7] at A7 D7 st7
    have ne_a3_a7 : a3 ≠ a7 := g7 ▸ Nat.ne_of_lt V6_a3.lt
    have ne_a4_a7 : a4 ≠ a7 := g7 ▸ Nat.ne_of_lt V6_a4.lt
    have ne_a5_a7 : a5 ≠ a7 := g7 ▸ Nat.ne_of_lt A6_o0.lt
    have ge_a7 : n0 ≤ a7 := g7 ▸ sz6
    have V7_a3 : own_AJ Z h7 a3 [] := V6_a3.ext E7
    have V7_a4 : own_AJ Z h7 a4 [] := V6_a4.ext E7
    have A7_a5 : Exa Z h7 a5 "com/example/mini_bloom/minibloom/BitArray" := A6_o0.ext E7
    have F7_a5_0 : Fld Z h7 a5 "com/example/mini_bloom/minibloom/BitArray" "words" "[J" (.ref a3) := F6_o0.ext E7
    have sz7 : n0 ≤ h7.size := Nat.le_trans sz6 E7.1
    have F7_n0 : Fld Z h7 a7 "com/example/mini_bloom/minibloom/BitArray" "words" "[J" .null := D7 (Or.inr (hw _ (List.mem_of_getElem? (i := 11) rfl))) (ty := (.array .long)) (by decide)
    obtain ⟨_, _, ⟨T8, L8, k8, n8⟩, -, X8, ⟨Lc8, hQ8, l8, y8, z8⟩, st8⟩ := X7.specialBack hx (y := (⟨"com/example/mini_bloom/minibloom/BitArray", "<init>", "([J)V"⟩ : MethodName)) rfl hown (mvT hZ (hw _ (List.mem_of_getElem? (i := 4) rfl))) (mvT hZ (hw _ (List.mem_of_getElem? (i := 5) rfl))) (mvT hZ (hw _ (List.mem_of_getElem? (i := 6) rfl))) (by decide) (backOf (W := 1) (rm1 l Z a0 hw [] a7 a4  h7 n0 sz7 A7 F7_n0 ge_a7 ) hZ (hw _ (List.mem_of_getElem? (i := 6) rfl)) (hw _ (List.mem_of_getElem? (i := 3) rfl)) (by decide) (by decide)) (g := (mkF m 105 #[.val (.int q0), .val (.long q1), .second, .val (.long q2), .second, .val (.long q3), .second, .val (.long q4), .second, .val (.int (0 : Int32)), .val (.ref a3), .val (.ref a4), .val (.ref a5), .unset] [(.ref a4), (.ref a7), (.ref a7)])) rfl (by rw [hml]; rfl) (Steps.refl _) (a := a7) (argsL := [(.ref a4)]) (rest := [(.ref a7)]) (lenOf pd_6 rfl) rfl (by show 2 * 0 + _ ≤ _; exact Nat.le_of_eq rfl) (hb hby at_105) (fun _ _ => ⟨rfl, e7, (by decide : 4 + 0 ≤ _), (by decide : 2 + 0 ≤ _)⟩)
    dsimp only [Pt.U, Pt.locs, Pt.cells, Pt.slots] at X8 l8 y8 z8 st8 hQ8
    subst l8 y8 z8
    obtain ⟨rfl, N8q, K8, A8_o0, F8_o0⟩ := hQ8
    obtain ⟨h8, e8⟩ : ∃ z, T8.heap = z := ⟨_, rfl⟩
    rw [e8] at K8 A8_o0 F8_o0
    have V8_a3 : own_AJ Z h8 a3 [] := V7_a3.keep K8 (ninS ne_a3_a7 nin0)
    have V8_a4 : own_AJ Z h8 a4 [] := V7_a4.keep K8 (ninS ne_a4_a7 nin0)
    have A8_a5 : Exa Z h8 a5 "com/example/mini_bloom/minibloom/BitArray" := A7_a5.keep K8
    have F8_a5_0 : Fld Z h8 a5 "com/example/mini_bloom/minibloom/BitArray" "words" "[J" (.ref a3) := F7_a5_0.keep K8 (ninS ne_a5_a7 nin0)
    have A8_a7 : Exa Z h8 a7 "com/example/mini_bloom/minibloom/BitArray" := A7.keep K8
    have sz8 : n0 ≤ h8.size := Nat.le_trans sz7 K8.1
    have N8 := Fr.app N6 N8q
    obtain ⟨cq9, kq9, q9a, q9b, q9c⟩ := isOf hZ e8 A8_a5
    obtain ⟨_, _, ⟨T9, L9, k9, n9⟩, -, X9, ⟨Lc9, hQ9, l9, y9, z9⟩, st9⟩ := X8.virtualBack hx (y := (⟨"com/example/mini_bloom/minibloom/BitArray", "or", "(Lcom/example/mini_bloom/minibloom/BitArray;)V"⟩ : MethodName)) (z := (⟨"com/example/mini_bloom/minibloom/BitArray", "or", "(Lcom/example/mini_bloom/minibloom/BitArray;)V"⟩ : MethodName)) hown (mvT hZ (hw _ (List.mem_of_getElem? (i := 12) rfl))) (mvT hZ (hw _ (List.mem_of_getElem? (i := 13) rfl))) (notFace_of_selects (args := #[]) (mvT hZ (hw _ (List.mem_of_getElem? (i := 15) rfl)))) (mvT hZ (hw _ (List.mem_of_getElem? (i := 15) rfl))) (mvT hZ (hw _ (List.mem_of_getElem? (i := 14) rfl))) (by decide) (backOf (W := 0) (rm3_0 l Z a0 hw [] a5 a7 a3 a4 h8 n0 sz8 V8_a3 V8_a4 A8_a5 A8_o0 F8_a5_0 F8_o0 ge_a3 (Ne.symm ne_a3_a4) (Ne.symm ne_a3_a5) (Ne.symm ne_a3_a7) ) hZ (hw _ (List.mem_of_getElem? (i := 16) rfl)) (hw _ (List.mem_of_getElem? (i := 3) rfl)) (by decide) (by decide)) q9a q9c (g := (mkF m 114 #[.val (.int q0), .val (.long q1), .second, .val (.long q2), .second, .val (.long q3), .second, .val (.long q4), .second, .val (.int (0 : Int32)), .val (.ref a3), .val (.ref a4), .val (.ref a5), .val (.ref a7)] [(.ref a7), (.ref a5)])) rfl (by rw [hml]; rfl) (Steps.refl _) (argsL := [(.ref a7)]) (rest := []) (lenOf pd_7 rfl) rfl (by show 2 * 0 + _ ≤ _; exact Nat.le_of_eq rfl) (hb hby at_114) (fun _ _ => ⟨rfl, e8, (by decide : 4 + 0 ≤ _), (by decide : 2 + 0 ≤ _)⟩)
    dsimp only [Pt.U, Pt.locs, Pt.cells, Pt.slots] at X9 l9 y9 z9 st9 hQ9
    subst l9 y9 z9
    obtain ⟨rfl, N9q, K9, V9_o0⟩ := hQ9
    obtain ⟨h9, e9⟩ : ∃ z, T9.heap = z := ⟨_, rfl⟩
    rw [e9] at K9 V9_o0
    have V9_a4 : own_AJ Z h9 a4 [] := V8_a4.keep K9 (ninS (Ne.symm ne_a3_a4) nin0)
    have A9_a5 : Exa Z h9 a5 "com/example/mini_bloom/minibloom/BitArray" := A8_a5.keep K9
    have F9_a5_0 : Fld Z h9 a5 "com/example/mini_bloom/minibloom/BitArray" "words" "[J" (.ref a3) := F8_a5_0.keep K9 (ninS (Ne.symm ne_a3_a5) nin0)
    have A9_a7 : Exa Z h9 a7 "com/example/mini_bloom/minibloom/BitArray" := A8_o0.keep K9
    have F9_a7_0 : Fld Z h9 a7 "com/example/mini_bloom/minibloom/BitArray" "words" "[J" (.ref a4) := F8_o0.keep K9 (ninS (Ne.symm ne_a3_a7) nin0)
    have sz9 : n0 ≤ h9.size := Nat.le_trans sz8 K9.1
    have N9 := Fr.app N8 N9q
    obtain ⟨cq10, kq10, q10a, q10b, q10c⟩ := isOf hZ e9 A9_a5
    obtain ⟨_, _, ⟨T10, L10, k10, n10⟩, -, X10, ⟨Lc10, hQ10, l10, y10, z10⟩, st10⟩ := X9.virtualBack hx (y := (⟨"com/example/mini_bloom/minibloom/BitArray", "words", "()I"⟩ : MethodName)) (z := (⟨"com/example/mini_bloom/minibloom/BitArray", "words", "()I"⟩ : MethodName)) hown (mvT hZ (hw _ (List.mem_of_getElem? (i := 17) rfl))) (mvT hZ (hw _ (List.mem_of_getElem? (i := 18) rfl))) (notFace_of_selects (args := #[]) (mvT hZ (hw _ (List.mem_of_getElem? (i := 20) rfl)))) (mvT hZ (hw _ (List.mem_of_getElem? (i := 20) rfl))) (mvT hZ (hw _ (List.mem_of_getElem? (i := 19) rfl))) (by decide) (backOf (W := 0) (rm4 l Z a0 hw [] a5 a3 [] h9 n0 sz9 V9_o0 A9_a5 F9_a5_0 ) hZ (hw _ (List.mem_of_getElem? (i := 21) rfl)) (hw _ (List.mem_of_getElem? (i := 3) rfl)) (by decide) (by decide)) q10a q10c (g := (mkF m 119 #[.val (.int q0), .val (.long q1), .second, .val (.long q2), .second, .val (.long q3), .second, .val (.long q4), .second, .val (.int (0 : Int32)), .val (.ref a3), .val (.ref a4), .val (.ref a5), .val (.ref a7)] [(.ref a5)])) rfl (by rw [hml]; rfl) (Steps.refl _) (argsL := []) (rest := []) (lenOf pd_8 rfl) rfl (by show 2 * 0 + _ ≤ _; exact Nat.le_of_eq rfl) (hb hby at_119) (fun _ _ => ⟨rfl, e9, (by decide : 4 + 0 ≤ _), (by decide : 2 + 0 ≤ _)⟩)
    dsimp only [Pt.U, Pt.locs, Pt.cells, Pt.slots] at X10 l10 y10 z10 st10 hQ10
    subst l10 y10 z10
    obtain ⟨rfl, N10q, e10⟩ := hQ10
    have N10 := Fr.app N9 N10q
    obtain ⟨cq11, kq11, q11a, q11b, q11c⟩ := isOf hZ e10 A9_a7
    obtain ⟨_, _, ⟨T11, L11, k11, n11⟩, -, X11, ⟨Lc11, hQ11, l11, y11, z11⟩, st11⟩ := X10.virtualBack hx (y := (⟨"com/example/mini_bloom/minibloom/BitArray", "words", "()I"⟩ : MethodName)) (z := (⟨"com/example/mini_bloom/minibloom/BitArray", "words", "()I"⟩ : MethodName)) hown (mvT hZ (hw _ (List.mem_of_getElem? (i := 17) rfl))) (mvT hZ (hw _ (List.mem_of_getElem? (i := 18) rfl))) (notFace_of_selects (args := #[]) (mvT hZ (hw _ (List.mem_of_getElem? (i := 20) rfl)))) (mvT hZ (hw _ (List.mem_of_getElem? (i := 20) rfl))) (mvT hZ (hw _ (List.mem_of_getElem? (i := 19) rfl))) (by decide) (backOf (W := 0) (rm4 l Z a0 hw [] a7 a4 [] h9 n0 sz9 V9_a4 A9_a7 F9_a7_0 ) hZ (hw _ (List.mem_of_getElem? (i := 21) rfl)) (hw _ (List.mem_of_getElem? (i := 3) rfl)) (by decide) (by decide)) q11a q11c (g := (mkF m 129 #[.val (.int q0), .val (.long q1), .second, .val (.long q2), .second, .val (.long q3), .second, .val (.long q4), .second, .val (.int (0 : Int32)), .val (.ref a3), .val (.ref a4), .val (.ref a5), .val (.ref a7)] [(.ref a7)])) rfl (by rw [hml]; rfl) (Steps.refl _) (argsL := []) (rest := []) (lenOf pd_8 rfl) rfl (by show 2 * 0 + _ ≤ _; exact Nat.le_of_eq rfl) (hb hby at_129) (fun _ _ => ⟨rfl, e10, (by decide : 4 + 0 ≤ _), (by decide : 2 + 0 ≤ _)⟩)
    dsimp only [Pt.U, Pt.locs, Pt.cells, Pt.slots] at X11 l11 y11 z11 st11 hQ11
    subst l11 y11 z11
    obtain ⟨rfl, N11q, e11⟩ := hQ11
    have N11 := Fr.app N10 N11q
    obtain ⟨fs, hr, hrun, hended, hW, hsame⟩ := X11.leave (v := some (.int (1 : Int32))) (fun h => by rw [Bd.returns] at h; cases h) hlk
    refine ⟨_, _, pre2 _ ?_, hrun, hended, _, _, rfl, ?_, ⟨_, rfl⟩, hW, hsame.mono (by decide) (by decide)⟩
    · show Steps p.tables e below (s₁.setTop (mkF m 3 #[.val (.int q0), .val (.long q1), .second, .val (.long q2), .second, .val (.long q3), .second, .val (.long q4), .second, .unset, .unset, .unset, .unset, .unset] [(.int (0 : Int32))])) _
      refine XS.istore X0.here hx rfl (hb hby at_3) rfl (l' := #[.val (.int q0), .val (.long q1), .second, .val (.long q2), .second, .val (.long q3), .second, .val (.long q4), .second, .val (.int (0 : Int32)), .unset, .unset, .unset, .unset]) rfl ?_
      show Steps p.tables e below (s₁.setTop (mkF m 5 #[.val (.int q0), .val (.long q1), .second, .val (.long q2), .second, .val (.long q3), .second, .val (.long q4), .second, .val (.int (0 : Int32)), .unset, .unset, .unset, .unset] [])) _
      refine XS.iload X0.here hx rfl (hb hby at_5) rfl ?_
      show Steps p.tables e below (s₁.setTop (mkF m 7 #[.val (.int q0), .val (.long q1), .second, .val (.long q2), .second, .val (.long q3), .second, .val (.long q4), .second, .val (.int (0 : Int32)), .unset, .unset, .unset, .unset] [(.int (0 : Int32))])) _
      refine XS.iconst X0.here hx rfl (hb hby at_7) ?_
      show Steps p.tables e below (s₁.setTop (mkF m 8 #[.val (.int q0), .val (.long q1), .second, .val (.long q2), .second, .val (.long q3), .second, .val (.long q4), .second, .val (.int (0 : Int32)), .unset, .unset, .unset, .unset] [(.int (3 : Int32)), (.int (0 : Int32))])) _
      refine XS.icmpYes X0.here hx rfl (pc0 := 8) (pc' := 14) rfl (hb hby at_8) rfl (by decide) (by decide) (by decide) ?_
      show Steps p.tables e below (s₁.setTop (mkF m 14 #[.val (.int q0), .val (.long q1), .second, .val (.long q2), .second, .val (.long q3), .second, .val (.long q4), .second, .val (.int (0 : Int32)), .unset, .unset, .unset, .unset] [])) _
      refine XS.iload X0.here hx rfl (hb hby at_14) rfl ?_
      show Steps p.tables e below (s₁.setTop (mkF m 16 #[.val (.int q0), .val (.long q1), .second, .val (.long q2), .second, .val (.long q3), .second, .val (.long q4), .second, .val (.int (0 : Int32)), .unset, .unset, .unset, .unset] [(.int (0 : Int32))])) _
      refine XS.ifNo X0.here hx rfl (hb hby at_16) rfl (by decide) ?_
      show Steps p.tables e below (s₁.setTop (mkF m 19 #[.val (.int q0), .val (.long q1), .second, .val (.long q2), .second, .val (.long q3), .second, .val (.long q4), .second, .val (.int (0 : Int32)), .unset, .unset, .unset, .unset] [])) _
      refine XS.iconst X0.here hx rfl (hb hby at_19) ?_
      show Steps p.tables e below (s₁.setTop (mkF m 20 #[.val (.int q0), .val (.long q1), .second, .val (.long q2), .second, .val (.long q3), .second, .val (.long q4), .second, .val (.int (0 : Int32)), .unset, .unset, .unset, .unset] [(.int (0 : Int32))])) _
      refine st3 _ ?_
      show Steps p.tables e below (T3.setTop (mkF m 22 #[.val (.int q0), .val (.long q1), .second, .val (.long q2), .second, .val (.long q3), .second, .val (.long q4), .second, .val (.int (0 : Int32)), .unset, .unset, .unset, .unset] [(.ref a3)])) _
      refine XS.astore X3.here hx rfl (hb hby at_22) rfl rfl (l' := #[.val (.int q0), .val (.long q1), .second, .val (.long q2), .second, .val (.long q3), .second, .val (.long q4), .second, .val (.int (0 : Int32)), .val (.ref a3), .unset, .unset, .unset]) rfl ?_
      show Steps p.tables e below (T3.setTop (mkF m 24 #[.val (.int q0), .val (.long q1), .second, .val (.long q2), .second, .val (.long q3), .second, .val (.long q4), .second, .val (.int (0 : Int32)), .val (.ref a3), .unset, .unset, .unset] [])) _
      refine XS.iconst X3.here hx rfl (hb hby at_24) ?_
      show Steps p.tables e below (T3.setTop (mkF m 25 #[.val (.int q0), .val (.long q1), .second, .val (.long q2), .second, .val (.long q3), .second, .val (.long q4), .second, .val (.int (0 : Int32)), .val (.ref a3), .unset, .unset, .unset] [(.int (0 : Int32))])) _
      refine st4 _ ?_
      show Steps p.tables e below (T4.setTop (mkF m 27 #[.val (.int q0), .val (.long q1), .second, .val (.long q2), .second, .val (.long q3), .second, .val (.long q4), .second, .val (.int (0 : Int32)), .val (.ref a3), .unset, .unset, .unset] [(.ref a4)])) _
      refine XS.astore X4.here hx rfl (hb hby at_27) rfl rfl (l' := #[.val (.int q0), .val (.long q1), .second, .val (.long q2), .second, .val (.long q3), .second, .val (.long q4), .second, .val (.int (0 : Int32)), .val (.ref a3), .val (.ref a4), .unset, .unset]) rfl ?_
      show Steps p.tables e below (T4.setTop (mkF m 29 #[.val (.int q0), .val (.long q1), .second, .val (.long q2), .second, .val (.long q3), .second, .val (.long q4), .second, .val (.int (0 : Int32)), .val (.ref a3), .val (.ref a4), .unset, .unset] [])) _
      refine XS.goto X4.here hx rfl (pc0 := 29) (pc' := 88) rfl (hb hby at_29) (by decide) (by decide) ?_
      show Steps p.tables e below (T4.setTop (mkF m 88 #[.val (.int q0), .val (.long q1), .second, .val (.long q2), .second, .val (.long q3), .second, .val (.long q4), .second, .val (.int (0 : Int32)), .val (.ref a3), .val (.ref a4), .unset, .unset] [])) _
      refine st5 _ ?_
      show Steps p.tables e below (T5.setTop (mkF m 91 #[.val (.int q0), .val (.long q1), .second, .val (.long q2), .second, .val (.long q3), .second, .val (.long q4), .second, .val (.int (0 : Int32)), .val (.ref a3), .val (.ref a4), .unset, .unset] [(.ref a5)])) _
      refine XS.dup X5.here hx rfl (hb hby at_91) rfl rfl ?_
      show Steps p.tables e below (T5.setTop (mkF m 92 #[.val (.int q0), .val (.long q1), .second, .val (.long q2), .second, .val (.long q3), .second, .val (.long q4), .second, .val (.int (0 : Int32)), .val (.ref a3), .val (.ref a4), .unset, .unset] [(.ref a5), (.ref a5)])) _
      refine XS.aload X5.here hx rfl (hb hby at_92) rfl rfl ?_
      show Steps p.tables e below (T5.setTop (mkF m 94 #[.val (.int q0), .val (.long q1), .second, .val (.long q2), .second, .val (.long q3), .second, .val (.long q4), .second, .val (.int (0 : Int32)), .val (.ref a3), .val (.ref a4), .unset, .unset] [(.ref a3), (.ref a5), (.ref a5)])) _
      refine st6.trans ?_
      show Steps p.tables e below (T6.setTop (mkF m 97 #[.val (.int q0), .val (.long q1), .second, .val (.long q2), .second, .val (.long q3), .second, .val (.long q4), .second, .val (.int (0 : Int32)), .val (.ref a3), .val (.ref a4), .unset, .unset] [(.ref a5)])) _
      refine XS.astore X6.here hx rfl (hb hby at_97) rfl rfl (l' := #[.val (.int q0), .val (.long q1), .second, .val (.long q2), .second, .val (.long q3), .second, .val (.long q4), .second, .val (.int (0 : Int32)), .val (.ref a3), .val (.ref a4), .val (.ref a5), .unset]) rfl ?_
      show Steps p.tables e below (T6.setTop (mkF m 99 #[.val (.int q0), .val (.long q1), .second, .val (.long q2), .second, .val (.long q3), .second, .val (.long q4), .second, .val (.int (0 : Int32)), .val (.ref a3), .val (.ref a4), .val (.ref a5), .unset] [])) _
      refine st7 _ ?_
      show Steps p.tables e below (T7.setTop (mkF m 102 #[.val (.int q0), .val (.long q1), .second, .val (.long q2), .second, .val (.long q3), .second, .val (.long q4), .second, .val (.int (0 : Int32)), .val (.ref a3), .val (.ref a4), .val (.ref a5), .unset] [(.ref a7)])) _
      refine XS.dup X7.here hx rfl (hb hby at_102) rfl rfl ?_
      show Steps p.tables e below (T7.setTop (mkF m 103 #[.val (.int q0), .val (.long q1), .second, .val (.long q2), .second, .val (.long q3), .second, .val (.long q4), .second, .val (.int (0 : Int32)), .val (.ref a3), .val (.ref a4), .val (.ref a5), .unset] [(.ref a7), (.ref a7)])) _
      refine XS.aload X7.here hx rfl (hb hby at_103) rfl rfl ?_
      show Steps p.tables e below (T7.setTop (mkF m 105 #[.val (.int q0), .val (.long q1), .second, .val (.long q2), .second, .val (.long q3), .second, .val (.long q4), .second, .val (.int (0 : Int32)), .val (.ref a3), .val (.ref a4), .val (.ref a5), .unset] [(.ref a4), (.ref a7), (.ref a7)])) _
      refine st8.trans ?_
      show Steps p.tables e below (T8.setTop (mkF m 108 #[.val (.int q0), .val (.long q1), .second, .val (.long q2), .second, .val (.long q3), .second, .val (.long q4), .second, .val (.int (0 : Int32)), .val (.ref a3), .val (.ref a4), .val (.ref a5), .unset] [(.ref a7)])) _
      refine XS.astore X8.here hx rfl (hb hby at_108) rfl rfl (l' := #[.val (.int q0), .val (.long q1), .second, .val (.long q2), .second, .val (.long q3), .second, .val (.long q4), .second, .val (.int (0 : Int32)), .val (.ref a3), .val (.ref a4), .val (.ref a5), .val (.ref a7)]) rfl ?_
      show Steps p.tables e below (T8.setTop (mkF m 110 #[.val (.int q0), .val (.long q1), .second, .val (.long q2), .second, .val (.long q3), .second, .val (.long q4), .second, .val (.int (0 : Int32)), .val (.ref a3), .val (.ref a4), .val (.ref a5), .val (.ref a7)] [])) _
      refine XS.aload X8.here hx rfl (hb hby at_110) rfl rfl ?_
      show Steps p.tables e below (T8.setTop (mkF m 112 #[.val (.int q0), .val (.long q1), .second, .val (.long q2), .second, .val (.long q3), .second, .val (.long q4), .second, .val (.int (0 : Int32)), .val (.ref a3), .val (.ref a4), .val (.ref a5), .val (.ref a7)] [(.ref a5)])) _
      refine XS.aload X8.here hx rfl (hb hby at_112) rfl rfl ?_
      show Steps p.tables e below (T8.setTop (mkF m 114 #[.val (.int q0), .val (.long q1), .second, .val (.long q2), .second, .val (.long q3), .second, .val (.long q4), .second, .val (.int (0 : Int32)), .val (.ref a3), .val (.ref a4), .val (.ref a5), .val (.ref a7)] [(.ref a7), (.ref a5)])) _
      refine st9.trans ?_
      show Steps p.tables e below (T9.setTop (mkF m 117 #[.val (.int q0), .val (.long q1), .second, .val (.long q2), .second, .val (.long q3), .second, .val (.long q4), .second, .val (.int (0 : Int32)), .val (.ref a3), .val (.ref a4), .val (.ref a5), .val (.ref a7)] [])) _
      refine XS.aload X9.here hx rfl (hb hby at_117) rfl rfl ?_
      show Steps p.tables e below (T9.setTop (mkF m 119 #[.val (.int q0), .val (.long q1), .second, .val (.long q2), .second, .val (.long q3), .second, .val (.long q4), .second, .val (.int (0 : Int32)), .val (.ref a3), .val (.ref a4), .val (.ref a5), .val (.ref a7)] [(.ref a5)])) _
      refine st10.trans ?_
      show Steps p.tables e below (T10.setTop (mkF m 122 #[.val (.int q0), .val (.long q1), .second, .val (.long q2), .second, .val (.long q3), .second, .val (.long q4), .second, .val (.int (0 : Int32)), .val (.ref a3), .val (.ref a4), .val (.ref a5), .val (.ref a7)] [(.int (0 : Int32))])) _
      refine XS.iload X10.here hx rfl (hb hby at_122) rfl ?_
      show Steps p.tables e below (T10.setTop (mkF m 124 #[.val (.int q0), .val (.long q1), .second, .val (.long q2), .second, .val (.long q3), .second, .val (.long q4), .second, .val (.int (0 : Int32)), .val (.ref a3), .val (.ref a4), .val (.ref a5), .val (.ref a7)] [(.int (0 : Int32)), (.int (0 : Int32))])) _
      refine XS.icmpNo X10.here hx rfl (hb hby at_124) rfl (by decide) ?_
      show Steps p.tables e below (T10.setTop (mkF m 127 #[.val (.int q0), .val (.long q1), .second, .val (.long q2), .second, .val (.long q3), .second, .val (.long q4), .second, .val (.int (0 : Int32)), .val (.ref a3), .val (.ref a4), .val (.ref a5), .val (.ref a7)] [])) _
      refine XS.aload X10.here hx rfl (hb hby at_127) rfl rfl ?_
      show Steps p.tables e below (T10.setTop (mkF m 129 #[.val (.int q0), .val (.long q1), .second, .val (.long q2), .second, .val (.long q3), .second, .val (.long q4), .second, .val (.int (0 : Int32)), .val (.ref a3), .val (.ref a4), .val (.ref a5), .val (.ref a7)] [(.ref a7)])) _
      refine st11.trans ?_
      show Steps p.tables e below (T11.setTop (mkF m 132 #[.val (.int q0), .val (.long q1), .second, .val (.long q2), .second, .val (.long q3), .second, .val (.long q4), .second, .val (.int (0 : Int32)), .val (.ref a3), .val (.ref a4), .val (.ref a5), .val (.ref a7)] [(.int (0 : Int32))])) _
      refine XS.iload X11.here hx rfl (hb hby at_132) rfl ?_
      show Steps p.tables e below (T11.setTop (mkF m 134 #[.val (.int q0), .val (.long q1), .second, .val (.long q2), .second, .val (.long q3), .second, .val (.long q4), .second, .val (.int (0 : Int32)), .val (.ref a3), .val (.ref a4), .val (.ref a5), .val (.ref a7)] [(.int (0 : Int32)), (.int (0 : Int32))])) _
      refine XS.icmpYes X11.here hx rfl (pc0 := 134) (pc' := 139) rfl (hb hby at_134) rfl (by decide) (by decide) (by decide) ?_
      show Steps p.tables e below (T11.setTop (mkF m 139 #[.val (.int q0), .val (.long q1), .second, .val (.long q2), .second, .val (.long q3), .second, .val (.long q4), .second, .val (.int (0 : Int32)), .val (.ref a3), .val (.ref a4), .val (.ref a5), .val (.ref a7)] [])) _
      refine XS.iload X11.here hx rfl (hb hby at_139) rfl ?_
      show Steps p.tables e below (T11.setTop (mkF m 141 #[.val (.int q0), .val (.long q1), .second, .val (.long q2), .second, .val (.long q3), .second, .val (.long q4), .second, .val (.int (0 : Int32)), .val (.ref a3), .val (.ref a4), .val (.ref a5), .val (.ref a7)] [(.int (0 : Int32))])) _
      refine XS.iconst X11.here hx rfl (hb hby at_141) ?_
      show Steps p.tables e below (T11.setTop (mkF m 142 #[.val (.int q0), .val (.long q1), .second, .val (.long q2), .second, .val (.long q3), .second, .val (.long q4), .second, .val (.int (0 : Int32)), .val (.ref a3), .val (.ref a4), .val (.ref a5), .val (.ref a7)] [(.int (1 : Int32)), (.int (0 : Int32))])) _
      refine XS.icmpYes X11.here hx rfl (pc0 := 142) (pc' := 173) rfl (hb hby at_142) rfl (by decide) (by decide) (by decide) ?_
      show Steps p.tables e below (T11.setTop (mkF m 173 #[.val (.int q0), .val (.long q1), .second, .val (.long q2), .second, .val (.long q3), .second, .val (.long q4), .second, .val (.int (0 : Int32)), .val (.ref a3), .val (.ref a4), .val (.ref a5), .val (.ref a7)] [])) _
      refine XS.iload X11.here hx rfl (hb hby at_173) rfl ?_
      show Steps p.tables e below (T11.setTop (mkF m 175 #[.val (.int q0), .val (.long q1), .second, .val (.long q2), .second, .val (.long q3), .second, .val (.long q4), .second, .val (.int (0 : Int32)), .val (.ref a3), .val (.ref a4), .val (.ref a5), .val (.ref a7)] [(.int (0 : Int32))])) _
      refine XS.iconst X11.here hx rfl (hb hby at_175) ?_
      show Steps p.tables e below (T11.setTop (mkF m 176 #[.val (.int q0), .val (.long q1), .second, .val (.long q2), .second, .val (.long q3), .second, .val (.long q4), .second, .val (.int (0 : Int32)), .val (.ref a3), .val (.ref a4), .val (.ref a5), .val (.ref a7)] [(.int (2 : Int32)), (.int (0 : Int32))])) _
      refine XS.icmpYes X11.here hx rfl (pc0 := 176) (pc' := 207) rfl (hb hby at_176) rfl (by decide) (by decide) (by decide) ?_
      show Steps p.tables e below (T11.setTop (mkF m 207 #[.val (.int q0), .val (.long q1), .second, .val (.long q2), .second, .val (.long q3), .second, .val (.long q4), .second, .val (.int (0 : Int32)), .val (.ref a3), .val (.ref a4), .val (.ref a5), .val (.ref a7)] [])) _
      refine XS.iconst X11.here hx rfl (hb hby at_207) ?_
      show Steps p.tables e below (T11.setTop (mkF m 208 #[.val (.int q0), .val (.long q1), .second, .val (.long q2), .second, .val (.long q3), .second, .val (.long q4), .second, .val (.int (0 : Int32)), .val (.ref a3), .val (.ref a4), .val (.ref a5), .val (.ref a7)] [(.int (1 : Int32))])) _
      exact retN X11 hx (t := .boolean) Bd.returns (by simp) (hb hby at_208) hr
    · show Q0 Z q0 q1 q2 q3 q4 h0 n0 _ T11.heap _
      rw [e11]
      exact ⟨by simp only [own_f0, ← hv1, if_pos (rfl : (0 : Int32) = (0 : Int32)), if_true, if_false], N11⟩
  · obtain ⟨T12, h12, cA12, X12, e12, E12, A12, st12⟩ := newP X0 hx hZ (aty := .long) (hw _ (List.mem_of_getElem? (i := 0) rfl)) e0 (g := (mkF m 39 #[.val (.int q0), .val (.long q1), .second, .val (.long q2), .second, .val (.long q3), .second, .val (.long q4), .second, .val (.int (1 : Int32)), .unset, .unset, .unset, .unset] [(.int (1 : Int32))])) rfl (hb hby at_39) rfl (by decide) (cap := 1) (by decide) (by decide) (by decide) (by decide)
    obtain ⟨a12, g12⟩ : ∃ z, z = h0.size := ⟨_, rfl⟩
    rw [← g12] at A12 st12
    have ge_a12 : n0 ≤ a12 := g12 ▸ Z0
    have sz12 : n0 ≤ h12.size := Nat.le_trans Z0 E12.1
    have V12_n : own_AJ Z h12 a12 [(0 : Int64)] := own_AJ_new A12 (k := 1) (by decide)
    obtain ⟨T13, h13, X13, e13, W13, V13, st13⟩ := own_lastore X12 hx hZ e12 V12_n (j := (0 : Int32)) (show 0 ≤ Int32.toInt (0 : Int32) ∧ Int32.toInt (0 : Int32) < ((1 : Nat) : Int) by decide) (x := q1) (hb hby at_44) (Ls := #[.val (.int q0), .val (.long q1), .second, .val (.long q2), .second, .val (.long q3), .second, .val (.long q4), .second, .val (.int (1 : Int32)), .unset, .unset, .unset, .unset]) (rest := [(.ref a12)])
    have sz13 : n0 ≤ h13.size := Nat.le_trans sz12 (Keep.of_wr W13).1
    have N13 := Fr.snoc X13 N0 ge_a12
    have V13_n : own_AJ Z h13 a12 [q1] := V13
    obtain ⟨T14, h14, cA14, X14, e14, E14, A14, st14⟩ := newP X13 hx hZ (aty := .long) (hw _ (List.mem_of_getElem? (i := 0) rfl)) e13 (g := (mkF m 48 #[.val (.int q0), .val (.long q1), .second, .val (.long q2), .second, .val (.long q3), .second, .val (.long q4), .second, .val (.int (1 : Int32)), .val (.ref a12), .unset, .unset, .unset] [(.int (1 : Int32))])) rfl (hb hby at_48) rfl (by decide) (cap := 1) (by decide) (by decide) (by decide) (by decide)
    obtain ⟨a14, g14⟩ : ∃ z, z = h13.size := ⟨_, rfl⟩
    rw [← g14] at A14 st14
    have ne_a12_a14 : a12 ≠ a14 := g14 ▸ Nat.ne_of_lt V13_n.lt
    have ge_a14 : n0 ≤ a14 := g14 ▸ sz13
    have V14_a12 : own_AJ Z h14 a12 [q1] := V13_n.ext E14
    have sz14 : n0 ≤ h14.size := Nat.le_trans sz13 E14.1
    have V14_n : own_AJ Z h14 a14 [(0 : Int64)] := own_AJ_new A14 (k := 1) (by decide)
    obtain ⟨T15, h15, X15, e15, W15, V15, st15⟩ := own_lastore X14 hx hZ e14 V14_n (j := (0 : Int32)) (show 0 ≤ Int32.toInt (0 : Int32) ∧ Int32.toInt (0 : Int32) < ((1 : Nat) : Int) by decide) (x := q3) (hb hby at_54) (Ls := #[.val (.int q0), .val (.long q1), .second, .val (.long q2), .second, .val (.long q3), .second, .val (.long q4), .second, .val (.int (1 : Int32)), .val (.ref a12), .unset, .unset, .unset]) (rest := [(.ref a14)])
    have V15_a12 : own_AJ Z h15 a12 [q1] := V14_a12.other W15 ne_a12_a14
    have sz15 : n0 ≤ h15.size := Nat.le_trans sz14 (Keep.of_wr W15).1
    have N15 := Fr.snoc X15 N13 ge_a14
    have V15_n : own_AJ Z h15 a14 [q3] := V15
    obtain ⟨T16, h16, X16, e16, E16, A16, D16, -, st16⟩ := newO X15 hx hZ hown (hw _ (List.mem_of_getElem? (i := 1) rfl)) (hw _ (List.mem_of_getElem? (i := 2) rfl)) (hw _ (List.mem_of_getElem? (i := 3) rfl)) e15 (g := (mkF m 88 #[.val (.int q0), .val (.long q1), .second, .val (.long q2), .second, .val (.long q3), .second, .val (.long q4), .second, .val (.int (1 : Int32)), .val (.ref a12), .val (.ref a14), .unset, .unset] [])) rfl (hb hby at_88) (by decide) (by decide)
    obtain ⟨a16, g16⟩ : ∃ z, z = h15.size := ⟨_, rfl⟩
    rw [← g16] at A16 D16 st16
    have ne_a12_a16 : a12 ≠ a16 := g16 ▸ Nat.ne_of_lt V15_a12.lt
    have ne_a14_a16 : a14 ≠ a16 := g16 ▸ Nat.ne_of_lt V15_n.lt
    have ge_a16 : n0 ≤ a16 := g16 ▸ sz15
    have V16_a12 : own_AJ Z h16 a12 [q1] := V15_a12.ext E16
    have V16_a14 : own_AJ Z h16 a14 [q3] := V15_n.ext E16
    have sz16 : n0 ≤ h16.size := Nat.le_trans sz15 E16.1
    have F16_n0 : Fld Z h16 a16 "com/example/mini_bloom/minibloom/BitArray" "words" "[J" .null := D16 (Or.inr (hw _ (List.mem_of_getElem? (i := 11) rfl))) (ty := (.array .long)) (by decide)
    obtain ⟨_, _, ⟨T17, L17, k17, n17⟩, -, X17, ⟨Lc17, hQ17, l17, y17, z17⟩, st17⟩ := X16.specialBack hx (y := (⟨"com/example/mini_bloom/minibloom/BitArray", "<init>", "([J)V"⟩ : MethodName)) rfl hown (mvT hZ (hw _ (List.mem_of_getElem? (i := 4) rfl))) (mvT hZ (hw _ (List.mem_of_getElem? (i := 5) rfl))) (mvT hZ (hw _ (List.mem_of_getElem? (i := 6) rfl))) (by decide) (backOf (W := 1) (rm1 l Z a0 hw [] a16 a12  h16 n0 sz16 A16 F16_n0 ge_a16 ) hZ (hw _ (List.mem_of_getElem? (i := 6) rfl)) (hw _ (List.mem_of_getElem? (i := 3) rfl)) (by decide) (by decide)) (g := (mkF m 94 #[.val (.int q0), .val (.long q1), .second, .val (.long q2), .second, .val (.long q3), .second, .val (.long q4), .second, .val (.int (1 : Int32)), .val (.ref a12), .val (.ref a14), .unset, .unset] [(.ref a12), (.ref a16), (.ref a16)])) rfl (by rw [hml]; rfl) (Steps.refl _) (a := a16) (argsL := [(.ref a12)]) (rest := [(.ref a16)]) (lenOf pd_6 rfl) rfl (by show 2 * 0 + _ ≤ _; exact Nat.le_of_eq rfl) (hb hby at_94) (fun _ _ => ⟨rfl, e16, (by decide : 3 + 0 ≤ _), (by decide : 3 + 0 ≤ _)⟩)
    dsimp only [Pt.U, Pt.locs, Pt.cells, Pt.slots] at X17 l17 y17 z17 st17 hQ17
    subst l17 y17 z17
    obtain ⟨rfl, N17q, K17, A17_o0, F17_o0⟩ := hQ17
    obtain ⟨h17, e17⟩ : ∃ z, T17.heap = z := ⟨_, rfl⟩
    rw [e17] at K17 A17_o0 F17_o0
    have V17_a12 : own_AJ Z h17 a12 [q1] := V16_a12.keep K17 (ninS ne_a12_a16 nin0)
    have V17_a14 : own_AJ Z h17 a14 [q3] := V16_a14.keep K17 (ninS ne_a14_a16 nin0)
    have A17_a16 : Exa Z h17 a16 "com/example/mini_bloom/minibloom/BitArray" := A16.keep K17
    have sz17 : n0 ≤ h17.size := Nat.le_trans sz16 K17.1
    have N17 := Fr.app N15 N17q
    obtain ⟨T18, h18, X18, e18, E18, A18, D18, -, st18⟩ := newO X17 hx hZ hown (hw _ (List.mem_of_getElem? (i := 1) rfl)) (hw _ (List.mem_of_getElem? (i := 2) rfl)) (hw _ (List.mem_of_getElem? (i := 3) rfl)) e17 (g := (mkF m 99 #[.val (.int q0), .val (.long q1), .second, .val (.long q2), .second, .val (.long q3), .second, .val (.long q4), .second, .val (.int (1 : Int32)), .val (.ref a12), .val (.ref a14), .val (.ref a16), .unset] [])) rfl (hb hby at_99) (by decide) (by decide)
    obtain ⟨a18, g18⟩ : ∃ z, z = h17.size := ⟨_, rfl⟩
    rw [← g18] at A18 D18 st18
    have ne_a12_a18 : a12 ≠ a18 := g18 ▸ Nat.ne_of_lt V17_a12.lt
    have ne_a14_a18 : a14 ≠ a18 := g18 ▸ Nat.ne_of_lt V17_a14.lt
    have ne_a16_a18 : a16 ≠ a18 := g18 ▸ Nat.ne_of_lt A17_o0.lt
    have ge_a18 : n0 ≤ a18 := g18 ▸ sz17
    have V18_a12 : own_AJ Z h18 a12 [q1] := V17_a12.ext E18
    have V18_a14 : own_AJ Z h18 a14 [q3] := V17_a14.ext E18
    have A18_a16 : Exa Z h18 a16 "com/example/mini_bloom/minibloom/BitArray" := A17_o0.ext E18
    have F18_a16_0 : Fld Z h18 a16 "com/example/mini_bloom/minibloom/BitArray" "words" "[J" (.ref a12) := F17_o0.ext E18
    have sz18 : n0 ≤ h18.size := Nat.le_trans sz17 E18.1
    have F18_n0 : Fld Z h18 a18 "com/example/mini_bloom/minibloom/BitArray" "words" "[J" .null := D18 (Or.inr (hw _ (List.mem_of_getElem? (i := 11) rfl))) (ty := (.array .long)) (by decide)
    obtain ⟨_, _, ⟨T19, L19, k19, n19⟩, -, X19, ⟨Lc19, hQ19, l19, y19, z19⟩, st19⟩ := X18.specialBack hx (y := (⟨"com/example/mini_bloom/minibloom/BitArray", "<init>", "([J)V"⟩ : MethodName)) rfl hown (mvT hZ (hw _ (List.mem_of_getElem? (i := 4) rfl))) (mvT hZ (hw _ (List.mem_of_getElem? (i := 5) rfl))) (mvT hZ (hw _ (List.mem_of_getElem? (i := 6) rfl))) (by decide) (backOf (W := 1) (rm1 l Z a0 hw [] a18 a14  h18 n0 sz18 A18 F18_n0 ge_a18 ) hZ (hw _ (List.mem_of_getElem? (i := 6) rfl)) (hw _ (List.mem_of_getElem? (i := 3) rfl)) (by decide) (by decide)) (g := (mkF m 105 #[.val (.int q0), .val (.long q1), .second, .val (.long q2), .second, .val (.long q3), .second, .val (.long q4), .second, .val (.int (1 : Int32)), .val (.ref a12), .val (.ref a14), .val (.ref a16), .unset] [(.ref a14), (.ref a18), (.ref a18)])) rfl (by rw [hml]; rfl) (Steps.refl _) (a := a18) (argsL := [(.ref a14)]) (rest := [(.ref a18)]) (lenOf pd_6 rfl) rfl (by show 2 * 0 + _ ≤ _; exact Nat.le_of_eq rfl) (hb hby at_105) (fun _ _ => ⟨rfl, e18, (by decide : 4 + 0 ≤ _), (by decide : 4 + 0 ≤ _)⟩)
    dsimp only [Pt.U, Pt.locs, Pt.cells, Pt.slots] at X19 l19 y19 z19 st19 hQ19
    subst l19 y19 z19
    obtain ⟨rfl, N19q, K19, A19_o0, F19_o0⟩ := hQ19
    obtain ⟨h19, e19⟩ : ∃ z, T19.heap = z := ⟨_, rfl⟩
    rw [e19] at K19 A19_o0 F19_o0
    have V19_a12 : own_AJ Z h19 a12 [q1] := V18_a12.keep K19 (ninS ne_a12_a18 nin0)
    have V19_a14 : own_AJ Z h19 a14 [q3] := V18_a14.keep K19 (ninS ne_a14_a18 nin0)
    have A19_a16 : Exa Z h19 a16 "com/example/mini_bloom/minibloom/BitArray" := A18_a16.keep K19
    have F19_a16_0 : Fld Z h19 a16 "com/example/mini_bloom/minibloom/BitArray" "words" "[J" (.ref a12) := F18_a16_0.keep K19 (ninS ne_a16_a18 nin0)
    have A19_a18 : Exa Z h19 a18 "com/example/mini_bloom/minibloom/BitArray" := A18.keep K19
    have sz19 : n0 ≤ h19.size := Nat.le_trans sz18 K19.1
    have N19 := Fr.app N17 N19q
    obtain ⟨cq20, kq20, q20a, q20b, q20c⟩ := isOf hZ e19 A19_a16
    obtain ⟨_, _, ⟨T20, L20, k20, n20⟩, -, X20, ⟨Lc20, hQ20, l20, y20, z20⟩, st20⟩ := X19.virtualBack hx (y := (⟨"com/example/mini_bloom/minibloom/BitArray", "or", "(Lcom/example/mini_bloom/minibloom/BitArray;)V"⟩ : MethodName)) (z := (⟨"com/example/mini_bloom/minibloom/BitArray", "or", "(Lcom/example/mini_bloom/minibloom/BitArray;)V"⟩ : MethodName)) hown (mvT hZ (hw _ (List.mem_of_getElem? (i := 12) rfl))) (mvT hZ (hw _ (List.mem_of_getElem? (i := 13) rfl))) (notFace_of_selects (args := #[]) (mvT hZ (hw _ (List.mem_of_getElem? (i := 15) rfl)))) (mvT hZ (hw _ (List.mem_of_getElem? (i := 15) rfl))) (mvT hZ (hw _ (List.mem_of_getElem? (i := 14) rfl))) (by decide) (backOf (W := 0) (rm3_1 l Z a0 hw [] a16 a18 a12 a14 q1 q3 h19 n0 sz19 V19_a12 V19_a14 A19_a16 A19_o0 F19_a16_0 F19_o0 ge_a12 (Ne.symm ne_a12_a14) (Ne.symm ne_a12_a16) (Ne.symm ne_a12_a18) ) hZ (hw _ (List.mem_of_getElem? (i := 16) rfl)) (hw _ (List.mem_of_getElem? (i := 3) rfl)) (by decide) (by decide)) q20a q20c (g := (mkF m 114 #[.val (.int q0), .val (.long q1), .second, .val (.long q2), .second, .val (.long q3), .second, .val (.long q4), .second, .val (.int (1 : Int32)), .val (.ref a12), .val (.ref a14), .val (.ref a16), .val (.ref a18)] [(.ref a18), (.ref a16)])) rfl (by rw [hml]; rfl) (Steps.refl _) (argsL := [(.ref a18)]) (rest := []) (lenOf pd_7 rfl) rfl (by show 2 * 0 + _ ≤ _; exact Nat.le_of_eq rfl) (hb hby at_114) (fun _ _ => ⟨rfl, e19, (by decide : 4 + 0 ≤ _), (by decide : 4 + 0 ≤ _)⟩)
    dsimp only [Pt.U, Pt.locs, Pt.cells, Pt.slots] at X20 l20 y20 z20 st20 hQ20
    subst l20 y20 z20
    obtain ⟨rfl, N20q, K20, V20_o0⟩ := hQ20
    obtain ⟨h20, e20⟩ : ∃ z, T20.heap = z := ⟨_, rfl⟩
    rw [e20] at K20 V20_o0
    have V20_a14 : own_AJ Z h20 a14 [q3] := V19_a14.keep K20 (ninS (Ne.symm ne_a12_a14) nin0)
    have A20_a16 : Exa Z h20 a16 "com/example/mini_bloom/minibloom/BitArray" := A19_a16.keep K20
    have F20_a16_0 : Fld Z h20 a16 "com/example/mini_bloom/minibloom/BitArray" "words" "[J" (.ref a12) := F19_a16_0.keep K20 (ninS (Ne.symm ne_a12_a16) nin0)
    have A20_a18 : Exa Z h20 a18 "com/example/mini_bloom/minibloom/BitArray" := A19_o0.keep K20
    have F20_a18_0 : Fld Z h20 a18 "com/example/mini_bloom/minibloom/BitArray" "words" "[J" (.ref a14) := F19_o0.keep K20 (ninS (Ne.symm ne_a12_a18) nin0)
    have sz20 : n0 ≤ h20.size := Nat.le_trans sz19 K20.1
    have N20 := Fr.app N19 N20q
    obtain ⟨cq21, kq21, q21a, q21b, q21c⟩ := isOf hZ e20 A20_a16
    obtain ⟨_, _, ⟨T21, L21, k21, n21⟩, -, X21, ⟨Lc21, hQ21, l21, y21, z21⟩, st21⟩ := X20.virtualBack hx (y := (⟨"com/example/mini_bloom/minibloom/BitArray", "words", "()I"⟩ : MethodName)) (z := (⟨"com/example/mini_bloom/minibloom/BitArray", "words", "()I"⟩ : MethodName)) hown (mvT hZ (hw _ (List.mem_of_getElem? (i := 17) rfl))) (mvT hZ (hw _ (List.mem_of_getElem? (i := 18) rfl))) (notFace_of_selects (args := #[]) (mvT hZ (hw _ (List.mem_of_getElem? (i := 20) rfl)))) (mvT hZ (hw _ (List.mem_of_getElem? (i := 20) rfl))) (mvT hZ (hw _ (List.mem_of_getElem? (i := 19) rfl))) (by decide) (backOf (W := 0) (rm4 l Z a0 hw [] a16 a12 [(q1 ||| q3)] h20 n0 sz20 V20_o0 A20_a16 F20_a16_0 ) hZ (hw _ (List.mem_of_getElem? (i := 21) rfl)) (hw _ (List.mem_of_getElem? (i := 3) rfl)) (by decide) (by decide)) q21a q21c (g := (mkF m 119 #[.val (.int q0), .val (.long q1), .second, .val (.long q2), .second, .val (.long q3), .second, .val (.long q4), .second, .val (.int (1 : Int32)), .val (.ref a12), .val (.ref a14), .val (.ref a16), .val (.ref a18)] [(.ref a16)])) rfl (by rw [hml]; rfl) (Steps.refl _) (argsL := []) (rest := []) (lenOf pd_8 rfl) rfl (by show 2 * 0 + _ ≤ _; exact Nat.le_of_eq rfl) (hb hby at_119) (fun _ _ => ⟨rfl, e20, (by decide : 4 + 0 ≤ _), (by decide : 4 + 0 ≤ _)⟩)
    dsimp only [Pt.U, Pt.locs, Pt.cells, Pt.slots] at X21 l21 y21 z21 st21 hQ21
    subst l21 y21 z21
    obtain ⟨rfl, N21q, e21⟩ := hQ21
    have N21 := Fr.app N20 N21q
    obtain ⟨cq22, kq22, q22a, q22b, q22c⟩ := isOf hZ e21 A20_a18
    obtain ⟨_, _, ⟨T22, L22, k22, n22⟩, -, X22, ⟨Lc22, hQ22, l22, y22, z22⟩, st22⟩ := X21.virtualBack hx (y := (⟨"com/example/mini_bloom/minibloom/BitArray", "words", "()I"⟩ : MethodName)) (z := (⟨"com/example/mini_bloom/minibloom/BitArray", "words", "()I"⟩ : MethodName)) hown (mvT hZ (hw _ (List.mem_of_getElem? (i := 17) rfl))) (mvT hZ (hw _ (List.mem_of_getElem? (i := 18) rfl))) (notFace_of_selects (args := #[]) (mvT hZ (hw _ (List.mem_of_getElem? (i := 20) rfl)))) (mvT hZ (hw _ (List.mem_of_getElem? (i := 20) rfl))) (mvT hZ (hw _ (List.mem_of_getElem? (i := 19) rfl))) (by decide) (backOf (W := 0) (rm4 l Z a0 hw [] a18 a14 [q3] h20 n0 sz20 V20_a14 A20_a18 F20_a18_0 ) hZ (hw _ (List.mem_of_getElem? (i := 21) rfl)) (hw _ (List.mem_of_getElem? (i := 3) rfl)) (by decide) (by decide)) q22a q22c (g := (mkF m 129 #[.val (.int q0), .val (.long q1), .second, .val (.long q2), .second, .val (.long q3), .second, .val (.long q4), .second, .val (.int (1 : Int32)), .val (.ref a12), .val (.ref a14), .val (.ref a16), .val (.ref a18)] [(.ref a18)])) rfl (by rw [hml]; rfl) (Steps.refl _) (argsL := []) (rest := []) (lenOf pd_8 rfl) rfl (by show 2 * 0 + _ ≤ _; exact Nat.le_of_eq rfl) (hb hby at_129) (fun _ _ => ⟨rfl, e21, (by decide : 4 + 0 ≤ _), (by decide : 4 + 0 ≤ _)⟩)
    dsimp only [Pt.U, Pt.locs, Pt.cells, Pt.slots] at X22 l22 y22 z22 st22 hQ22
    subst l22 y22 z22
    obtain ⟨rfl, N22q, e22⟩ := hQ22
    have N22 := Fr.app N21 N22q
    obtain ⟨cq23, kq23, q23a, q23b, q23c⟩ := isOf hZ e22 A20_a16
    obtain ⟨_, _, ⟨T23, L23, k23, n23⟩, -, X23, ⟨Lc23, hQ23, l23, y23, z23⟩, st23⟩ := X22.virtualBack hx (y := (⟨"com/example/mini_bloom/minibloom/BitArray", "word", "(I)J"⟩ : MethodName)) (z := (⟨"com/example/mini_bloom/minibloom/BitArray", "word", "(I)J"⟩ : MethodName)) hown (mvT hZ (hw _ (List.mem_of_getElem? (i := 22) rfl))) (mvT hZ (hw _ (List.mem_of_getElem? (i := 23) rfl))) (notFace_of_selects (args := #[]) (mvT hZ (hw _ (List.mem_of_getElem? (i := 25) rfl)))) (mvT hZ (hw _ (List.mem_of_getElem? (i := 25) rfl))) (mvT hZ (hw _ (List.mem_of_getElem? (i := 24) rfl))) (by decide) (backOf (W := 0) (rm5 l Z a0 hw [] a16 (0 : Int32) a12 [(q1 ||| q3)] h20 n0 sz20 V20_o0 A20_a16 F20_a16_0 (show 0 ≤ Int32.toInt (0 : Int32) ∧ Int32.toInt (0 : Int32) < ((1 : Nat) : Int) by decide)) hZ (hw _ (List.mem_of_getElem? (i := 26) rfl)) (hw _ (List.mem_of_getElem? (i := 3) rfl)) (by decide) (by decide)) q23a q23c (g := (mkF m 148 #[.val (.int q0), .val (.long q1), .second, .val (.long q2), .second, .val (.long q3), .second, .val (.long q4), .second, .val (.int (1 : Int32)), .val (.ref a12), .val (.ref a14), .val (.ref a16), .val (.ref a18)] [(.int (0 : Int32)), (.ref a16)])) rfl (by rw [hml]; rfl) (Steps.refl _) (argsL := [(.int (0 : Int32))]) (rest := []) (lenOf pd_9 rfl) rfl (by show 2 * 0 + _ ≤ _; exact Nat.le_of_eq rfl) (hb hby at_148) (fun _ _ => ⟨rfl, e22, (by decide : 4 + 0 ≤ _), (by decide : 4 + 0 ≤ _)⟩)
    dsimp only [Pt.U, Pt.locs, Pt.cells, Pt.slots] at X23 l23 y23 z23 st23 hQ23
    subst l23 y23 z23
    obtain ⟨rfl, N23q, e23⟩ := hQ23
    have N23 := Fr.app N22 N23q
    have c24 : (q1 ||| q3) = (q1 ||| q3) := rfl
    obtain ⟨cq25, kq25, q25a, q25b, q25c⟩ := isOf hZ e23 A20_a18
    obtain ⟨_, _, ⟨T25, L25, k25, n25⟩, -, X25, ⟨Lc25, hQ25, l25, y25, z25⟩, st25⟩ := X23.virtualBack hx (y := (⟨"com/example/mini_bloom/minibloom/BitArray", "word", "(I)J"⟩ : MethodName)) (z := (⟨"com/example/mini_bloom/minibloom/BitArray", "word", "(I)J"⟩ : MethodName)) hown (mvT hZ (hw _ (List.mem_of_getElem? (i := 22) rfl))) (mvT hZ (hw _ (List.mem_of_getElem? (i := 23) rfl))) (notFace_of_selects (args := #[]) (mvT hZ (hw _ (List.mem_of_getElem? (i := 25) rfl)))) (mvT hZ (hw _ (List.mem_of_getElem? (i := 25) rfl))) (mvT hZ (hw _ (List.mem_of_getElem? (i := 24) rfl))) (by decide) (backOf (W := 0) (rm5 l Z a0 hw [] a18 (0 : Int32) a14 [q3] h20 n0 sz20 V20_a14 A20_a18 F20_a18_0 (show 0 ≤ Int32.toInt (0 : Int32) ∧ Int32.toInt (0 : Int32) < ((1 : Nat) : Int) by decide)) hZ (hw _ (List.mem_of_getElem? (i := 26) rfl)) (hw _ (List.mem_of_getElem? (i := 3) rfl)) (by decide) (by decide)) q25a q25c (g := (mkF m 162 #[.val (.int q0), .val (.long q1), .second, .val (.long q2), .second, .val (.long q3), .second, .val (.long q4), .second, .val (.int (1 : Int32)), .val (.ref a12), .val (.ref a14), .val (.ref a16), .val (.ref a18)] [(.int (0 : Int32)), (.ref a18)])) rfl (by rw [hml]; rfl) (Steps.refl _) (argsL := [(.int (0 : Int32))]) (rest := []) (lenOf pd_9 rfl) rfl (by show 2 * 0 + _ ≤ _; exact Nat.le_of_eq rfl) (hb hby at_162) (fun _ _ => ⟨rfl, e23, (by decide : 4 + 0 ≤ _), (by decide : 4 + 0 ≤ _)⟩)
    dsimp only [Pt.U, Pt.locs, Pt.cells, Pt.slots] at X25 l25 y25 z25 st25 hQ25
    subst l25 y25 z25
    obtain ⟨rfl, N25q, e25⟩ := hQ25
    have N25 := Fr.app N23 N25q
    have c26 : q3 = q3 := rfl
    obtain ⟨fs, hr, hrun, hended, hW, hsame⟩ := X25.leave (v := some (.int (1 : Int32))) (fun h => by rw [Bd.returns] at h; cases h) hlk
    refine ⟨_, _, pre2 _ ?_, hrun, hended, _, _, rfl, ?_, ⟨_, rfl⟩, hW, hsame.mono (by decide) (by decide)⟩
    · show Steps p.tables e below (s₁.setTop (mkF m 3 #[.val (.int q0), .val (.long q1), .second, .val (.long q2), .second, .val (.long q3), .second, .val (.long q4), .second, .unset, .unset, .unset, .unset, .unset] [(.int (1 : Int32))])) _
      refine XS.istore X0.here hx rfl (hb hby at_3) rfl (l' := #[.val (.int q0), .val (.long q1), .second, .val (.long q2), .second, .val (.long q3), .second, .val (.long q4), .second, .val (.int (1 : Int32)), .unset, .unset, .unset, .unset]) rfl ?_
      show Steps p.tables e below (s₁.setTop (mkF m 5 #[.val (.int q0), .val (.long q1), .second, .val (.long q2), .second, .val (.long q3), .second, .val (.long q4), .second, .val (.int (1 : Int32)), .unset, .unset, .unset, .unset] [])) _
      refine XS.iload X0.here hx rfl (hb hby at_5) rfl ?_
      show Steps p.tables e below (s₁.setTop (mkF m 7 #[.val (.int q0), .val (.long q1), .second, .val (.long q2), .second, .val (.long q3), .second, .val (.long q4), .second, .val (.int (1 : Int32)), .unset, .unset, .unset, .unset] [(.int (1 : Int32))])) _
      refine XS.iconst X0.here hx rfl (hb hby at_7) ?_
      show Steps p.tables e below (s₁.setTop (mkF m 8 #[.val (.int q0), .val (.long q1), .second, .val (.long q2), .second, .val (.long q3), .second, .val (.long q4), .second, .val (.int (1 : Int32)), .unset, .unset, .unset, .unset] [(.int (3 : Int32)), (.int (1 : Int32))])) _
      refine XS.icmpYes X0.here hx rfl (pc0 := 8) (pc' := 14) rfl (hb hby at_8) rfl (by decide) (by decide) (by decide) ?_
      show Steps p.tables e below (s₁.setTop (mkF m 14 #[.val (.int q0), .val (.long q1), .second, .val (.long q2), .second, .val (.long q3), .second, .val (.long q4), .second, .val (.int (1 : Int32)), .unset, .unset, .unset, .unset] [])) _
      refine XS.iload X0.here hx rfl (hb hby at_14) rfl ?_
      show Steps p.tables e below (s₁.setTop (mkF m 16 #[.val (.int q0), .val (.long q1), .second, .val (.long q2), .second, .val (.long q3), .second, .val (.long q4), .second, .val (.int (1 : Int32)), .unset, .unset, .unset, .unset] [(.int (1 : Int32))])) _
      refine XS.ifYes X0.here hx rfl (pc0 := 16) (pc' := 32) rfl (hb hby at_16) rfl (by decide) (by decide) (by decide) ?_
      show Steps p.tables e below (s₁.setTop (mkF m 32 #[.val (.int q0), .val (.long q1), .second, .val (.long q2), .second, .val (.long q3), .second, .val (.long q4), .second, .val (.int (1 : Int32)), .unset, .unset, .unset, .unset] [])) _
      refine XS.iload X0.here hx rfl (hb hby at_32) rfl ?_
      show Steps p.tables e below (s₁.setTop (mkF m 34 #[.val (.int q0), .val (.long q1), .second, .val (.long q2), .second, .val (.long q3), .second, .val (.long q4), .second, .val (.int (1 : Int32)), .unset, .unset, .unset, .unset] [(.int (1 : Int32))])) _
      refine XS.iconst X0.here hx rfl (hb hby at_34) ?_
      show Steps p.tables e below (s₁.setTop (mkF m 35 #[.val (.int q0), .val (.long q1), .second, .val (.long q2), .second, .val (.long q3), .second, .val (.long q4), .second, .val (.int (1 : Int32)), .unset, .unset, .unset, .unset] [(.int (1 : Int32)), (.int (1 : Int32))])) _
      refine XS.icmpNo X0.here hx rfl (hb hby at_35) rfl (by decide) ?_
      show Steps p.tables e below (s₁.setTop (mkF m 38 #[.val (.int q0), .val (.long q1), .second, .val (.long q2), .second, .val (.long q3), .second, .val (.long q4), .second, .val (.int (1 : Int32)), .unset, .unset, .unset, .unset] [])) _
      refine XS.iconst X0.here hx rfl (hb hby at_38) ?_
      show Steps p.tables e below (s₁.setTop (mkF m 39 #[.val (.int q0), .val (.long q1), .second, .val (.long q2), .second, .val (.long q3), .second, .val (.long q4), .second, .val (.int (1 : Int32)), .unset, .unset, .unset, .unset] [(.int (1 : Int32))])) _
      refine st12 _ ?_
      show Steps p.tables e below (T12.setTop (mkF m 41 #[.val (.int q0), .val (.long q1), .second, .val (.long q2), .second, .val (.long q3), .second, .val (.long q4), .second, .val (.int (1 : Int32)), .unset, .unset, .unset, .unset] [(.ref a12)])) _
      refine XS.dup X12.here hx rfl (hb hby at_41) rfl rfl ?_
      show Steps p.tables e below (T12.setTop (mkF m 42 #[.val (.int q0), .val (.long q1), .second, .val (.long q2), .second, .val (.long q3), .second, .val (.long q4), .second, .val (.int (1 : Int32)), .unset, .unset, .unset, .unset] [(.ref a12), (.ref a12)])) _
      refine XS.iconst X12.here hx rfl (hb hby at_42) ?_
      show Steps p.tables e below (T12.setTop (mkF m 43 #[.val (.int q0), .val (.long q1), .second, .val (.long q2), .second, .val (.long q3), .second, .val (.long q4), .second, .val (.int (1 : Int32)), .unset, .unset, .unset, .unset] [(.int (0 : Int32)), (.ref a12), (.ref a12)])) _
      refine XS.lloadN X12.here hx rfl (hb hby at_43) rfl ?_
      show Steps p.tables e below (T12.setTop (mkF m 44 #[.val (.int q0), .val (.long q1), .second, .val (.long q2), .second, .val (.long q3), .second, .val (.long q4), .second, .val (.int (1 : Int32)), .unset, .unset, .unset, .unset] [(.long q1), (.int (0 : Int32)), (.ref a12), (.ref a12)])) _
      refine st13 _ ?_
      show Steps p.tables e below (T13.setTop (mkF m 45 #[.val (.int q0), .val (.long q1), .second, .val (.long q2), .second, .val (.long q3), .second, .val (.long q4), .second, .val (.int (1 : Int32)), .unset, .unset, .unset, .unset] [(.ref a12)])) _
      refine XS.astore X13.here hx rfl (hb hby at_45) rfl rfl (l' := #[.val (.int q0), .val (.long q1), .second, .val (.long q2), .second, .val (.long q3), .second, .val (.long q4), .second, .val (.int (1 : Int32)), .val (.ref a12), .unset, .unset, .unset]) rfl ?_
      show Steps p.tables e below (T13.setTop (mkF m 47 #[.val (.int q0), .val (.long q1), .second, .val (.long q2), .second, .val (.long q3), .second, .val (.long q4), .second, .val (.int (1 : Int32)), .val (.ref a12), .unset, .unset, .unset] [])) _
      refine XS.iconst X13.here hx rfl (hb hby at_47) ?_
      show Steps p.tables e below (T13.setTop (mkF m 48 #[.val (.int q0), .val (.long q1), .second, .val (.long q2), .second, .val (.long q3), .second, .val (.long q4), .second, .val (.int (1 : Int32)), .val (.ref a12), .unset, .unset, .unset] [(.int (1 : Int32))])) _
      refine st14 _ ?_
      show Steps p.tables e below (T14.setTop (mkF m 50 #[.val (.int q0), .val (.long q1), .second, .val (.long q2), .second, .val (.long q3), .second, .val (.long q4), .second, .val (.int (1 : Int32)), .val (.ref a12), .unset, .unset, .unset] [(.ref a14)])) _
      refine XS.dup X14.here hx rfl (hb hby at_50) rfl rfl ?_
      show Steps p.tables e below (T14.setTop (mkF m 51 #[.val (.int q0), .val (.long q1), .second, .val (.long q2), .second, .val (.long q3), .second, .val (.long q4), .second, .val (.int (1 : Int32)), .val (.ref a12), .unset, .unset, .unset] [(.ref a14), (.ref a14)])) _
      refine XS.iconst X14.here hx rfl (hb hby at_51) ?_
      show Steps p.tables e below (T14.setTop (mkF m 52 #[.val (.int q0), .val (.long q1), .second, .val (.long q2), .second, .val (.long q3), .second, .val (.long q4), .second, .val (.int (1 : Int32)), .val (.ref a12), .unset, .unset, .unset] [(.int (0 : Int32)), (.ref a14), (.ref a14)])) _
      refine XS.lload X14.here hx rfl (hb hby at_52) rfl ?_
      show Steps p.tables e below (T14.setTop (mkF m 54 #[.val (.int q0), .val (.long q1), .second, .val (.long q2), .second, .val (.long q3), .second, .val (.long q4), .second, .val (.int (1 : Int32)), .val (.ref a12), .unset, .unset, .unset] [(.long q3), (.int (0 : Int32)), (.ref a14), (.ref a14)])) _
      refine st15 _ ?_
      show Steps p.tables e below (T15.setTop (mkF m 55 #[.val (.int q0), .val (.long q1), .second, .val (.long q2), .second, .val (.long q3), .second, .val (.long q4), .second, .val (.int (1 : Int32)), .val (.ref a12), .unset, .unset, .unset] [(.ref a14)])) _
      refine XS.astore X15.here hx rfl (hb hby at_55) rfl rfl (l' := #[.val (.int q0), .val (.long q1), .second, .val (.long q2), .second, .val (.long q3), .second, .val (.long q4), .second, .val (.int (1 : Int32)), .val (.ref a12), .val (.ref a14), .unset, .unset]) rfl ?_
      show Steps p.tables e below (T15.setTop (mkF m 57 #[.val (.int q0), .val (.long q1), .second, .val (.long q2), .second, .val (.long q3), .second, .val (.long q4), .second, .val (.int (1 : Int32)), .val (.ref a12), .val (.ref a14), .unset, .unset] [])) _
      refine XS.goto X15.here hx rfl (pc0 := 57) (pc' := 88) rfl (hb hby at_57) (by decide) (by decide) ?_
      show Steps p.tables e below (T15.setTop (mkF m 88 #[.val (.int q0), .val (.long q1), .second, .val (.long q2), .second, .val (.long q3), .second, .val (.long q4), .second, .val (.int (1 : Int32)), .val (.ref a12), .val (.ref a14), .unset, .unset] [])) _
      refine st16 _ ?_
      show Steps p.tables e below (T16.setTop (mkF m 91 #[.val (.int q0), .val (.long q1), .second, .val (.long q2), .second, .val (.long q3), .second, .val (.long q4), .second, .val (.int (1 : Int32)), .val (.ref a12), .val (.ref a14), .unset, .unset] [(.ref a16)])) _
      refine XS.dup X16.here hx rfl (hb hby at_91) rfl rfl ?_
      show Steps p.tables e below (T16.setTop (mkF m 92 #[.val (.int q0), .val (.long q1), .second, .val (.long q2), .second, .val (.long q3), .second, .val (.long q4), .second, .val (.int (1 : Int32)), .val (.ref a12), .val (.ref a14), .unset, .unset] [(.ref a16), (.ref a16)])) _
      refine XS.aload X16.here hx rfl (hb hby at_92) rfl rfl ?_
      show Steps p.tables e below (T16.setTop (mkF m 94 #[.val (.int q0), .val (.long q1), .second, .val (.long q2), .second, .val (.long q3), .second, .val (.long q4), .second, .val (.int (1 : Int32)), .val (.ref a12), .val (.ref a14), .unset, .unset] [(.ref a12), (.ref a16), (.ref a16)])) _
      refine st17.trans ?_
      show Steps p.tables e below (T17.setTop (mkF m 97 #[.val (.int q0), .val (.long q1), .second, .val (.long q2), .second, .val (.long q3), .second, .val (.long q4), .second, .val (.int (1 : Int32)), .val (.ref a12), .val (.ref a14), .unset, .unset] [(.ref a16)])) _
      refine XS.astore X17.here hx rfl (hb hby at_97) rfl rfl (l' := #[.val (.int q0), .val (.long q1), .second, .val (.long q2), .second, .val (.long q3), .second, .val (.long q4), .second, .val (.int (1 : Int32)), .val (.ref a12), .val (.ref a14), .val (.ref a16), .unset]) rfl ?_
      show Steps p.tables e below (T17.setTop (mkF m 99 #[.val (.int q0), .val (.long q1), .second, .val (.long q2), .second, .val (.long q3), .second, .val (.long q4), .second, .val (.int (1 : Int32)), .val (.ref a12), .val (.ref a14), .val (.ref a16), .unset] [])) _
      refine st18 _ ?_
      show Steps p.tables e below (T18.setTop (mkF m 102 #[.val (.int q0), .val (.long q1), .second, .val (.long q2), .second, .val (.long q3), .second, .val (.long q4), .second, .val (.int (1 : Int32)), .val (.ref a12), .val (.ref a14), .val (.ref a16), .unset] [(.ref a18)])) _
      refine XS.dup X18.here hx rfl (hb hby at_102) rfl rfl ?_
      show Steps p.tables e below (T18.setTop (mkF m 103 #[.val (.int q0), .val (.long q1), .second, .val (.long q2), .second, .val (.long q3), .second, .val (.long q4), .second, .val (.int (1 : Int32)), .val (.ref a12), .val (.ref a14), .val (.ref a16), .unset] [(.ref a18), (.ref a18)])) _
      refine XS.aload X18.here hx rfl (hb hby at_103) rfl rfl ?_
      show Steps p.tables e below (T18.setTop (mkF m 105 #[.val (.int q0), .val (.long q1), .second, .val (.long q2), .second, .val (.long q3), .second, .val (.long q4), .second, .val (.int (1 : Int32)), .val (.ref a12), .val (.ref a14), .val (.ref a16), .unset] [(.ref a14), (.ref a18), (.ref a18)])) _
      refine st19.trans ?_
      show Steps p.tables e below (T19.setTop (mkF m 108 #[.val (.int q0), .val (.long q1), .second, .val (.long q2), .second, .val (.long q3), .second, .val (.long q4), .second, .val (.int (1 : Int32)), .val (.ref a12), .val (.ref a14), .val (.ref a16), .unset] [(.ref a18)])) _
      refine XS.astore X19.here hx rfl (hb hby at_108) rfl rfl (l' := #[.val (.int q0), .val (.long q1), .second, .val (.long q2), .second, .val (.long q3), .second, .val (.long q4), .second, .val (.int (1 : Int32)), .val (.ref a12), .val (.ref a14), .val (.ref a16), .val (.ref a18)]) rfl ?_
      show Steps p.tables e below (T19.setTop (mkF m 110 #[.val (.int q0), .val (.long q1), .second, .val (.long q2), .second, .val (.long q3), .second, .val (.long q4), .second, .val (.int (1 : Int32)), .val (.ref a12), .val (.ref a14), .val (.ref a16), .val (.ref a18)] [])) _
      refine XS.aload X19.here hx rfl (hb hby at_110) rfl rfl ?_
      show Steps p.tables e below (T19.setTop (mkF m 112 #[.val (.int q0), .val (.long q1), .second, .val (.long q2), .second, .val (.long q3), .second, .val (.long q4), .second, .val (.int (1 : Int32)), .val (.ref a12), .val (.ref a14), .val (.ref a16), .val (.ref a18)] [(.ref a16)])) _
      refine XS.aload X19.here hx rfl (hb hby at_112) rfl rfl ?_
      show Steps p.tables e below (T19.setTop (mkF m 114 #[.val (.int q0), .val (.long q1), .second, .val (.long q2), .second, .val (.long q3), .second, .val (.long q4), .second, .val (.int (1 : Int32)), .val (.ref a12), .val (.ref a14), .val (.ref a16), .val (.ref a18)] [(.ref a18), (.ref a16)])) _
      refine st20.trans ?_
      show Steps p.tables e below (T20.setTop (mkF m 117 #[.val (.int q0), .val (.long q1), .second, .val (.long q2), .second, .val (.long q3), .second, .val (.long q4), .second, .val (.int (1 : Int32)), .val (.ref a12), .val (.ref a14), .val (.ref a16), .val (.ref a18)] [])) _
      refine XS.aload X20.here hx rfl (hb hby at_117) rfl rfl ?_
      show Steps p.tables e below (T20.setTop (mkF m 119 #[.val (.int q0), .val (.long q1), .second, .val (.long q2), .second, .val (.long q3), .second, .val (.long q4), .second, .val (.int (1 : Int32)), .val (.ref a12), .val (.ref a14), .val (.ref a16), .val (.ref a18)] [(.ref a16)])) _
      refine st21.trans ?_
      show Steps p.tables e below (T21.setTop (mkF m 122 #[.val (.int q0), .val (.long q1), .second, .val (.long q2), .second, .val (.long q3), .second, .val (.long q4), .second, .val (.int (1 : Int32)), .val (.ref a12), .val (.ref a14), .val (.ref a16), .val (.ref a18)] [(.int (1 : Int32))])) _
      refine XS.iload X21.here hx rfl (hb hby at_122) rfl ?_
      show Steps p.tables e below (T21.setTop (mkF m 124 #[.val (.int q0), .val (.long q1), .second, .val (.long q2), .second, .val (.long q3), .second, .val (.long q4), .second, .val (.int (1 : Int32)), .val (.ref a12), .val (.ref a14), .val (.ref a16), .val (.ref a18)] [(.int (1 : Int32)), (.int (1 : Int32))])) _
      refine XS.icmpNo X21.here hx rfl (hb hby at_124) rfl (by decide) ?_
      show Steps p.tables e below (T21.setTop (mkF m 127 #[.val (.int q0), .val (.long q1), .second, .val (.long q2), .second, .val (.long q3), .second, .val (.long q4), .second, .val (.int (1 : Int32)), .val (.ref a12), .val (.ref a14), .val (.ref a16), .val (.ref a18)] [])) _
      refine XS.aload X21.here hx rfl (hb hby at_127) rfl rfl ?_
      show Steps p.tables e below (T21.setTop (mkF m 129 #[.val (.int q0), .val (.long q1), .second, .val (.long q2), .second, .val (.long q3), .second, .val (.long q4), .second, .val (.int (1 : Int32)), .val (.ref a12), .val (.ref a14), .val (.ref a16), .val (.ref a18)] [(.ref a18)])) _
      refine st22.trans ?_
      show Steps p.tables e below (T22.setTop (mkF m 132 #[.val (.int q0), .val (.long q1), .second, .val (.long q2), .second, .val (.long q3), .second, .val (.long q4), .second, .val (.int (1 : Int32)), .val (.ref a12), .val (.ref a14), .val (.ref a16), .val (.ref a18)] [(.int (1 : Int32))])) _
      refine XS.iload X22.here hx rfl (hb hby at_132) rfl ?_
      show Steps p.tables e below (T22.setTop (mkF m 134 #[.val (.int q0), .val (.long q1), .second, .val (.long q2), .second, .val (.long q3), .second, .val (.long q4), .second, .val (.int (1 : Int32)), .val (.ref a12), .val (.ref a14), .val (.ref a16), .val (.ref a18)] [(.int (1 : Int32)), (.int (1 : Int32))])) _
      refine XS.icmpYes X22.here hx rfl (pc0 := 134) (pc' := 139) rfl (hb hby at_134) rfl (by decide) (by decide) (by decide) ?_
      show Steps p.tables e below (T22.setTop (mkF m 139 #[.val (.int q0), .val (.long q1), .second, .val (.long q2), .second, .val (.long q3), .second, .val (.long q4), .second, .val (.int (1 : Int32)), .val (.ref a12), .val (.ref a14), .val (.ref a16), .val (.ref a18)] [])) _
      refine XS.iload X22.here hx rfl (hb hby at_139) rfl ?_
      show Steps p.tables e below (T22.setTop (mkF m 141 #[.val (.int q0), .val (.long q1), .second, .val (.long q2), .second, .val (.long q3), .second, .val (.long q4), .second, .val (.int (1 : Int32)), .val (.ref a12), .val (.ref a14), .val (.ref a16), .val (.ref a18)] [(.int (1 : Int32))])) _
      refine XS.iconst X22.here hx rfl (hb hby at_141) ?_
      show Steps p.tables e below (T22.setTop (mkF m 142 #[.val (.int q0), .val (.long q1), .second, .val (.long q2), .second, .val (.long q3), .second, .val (.long q4), .second, .val (.int (1 : Int32)), .val (.ref a12), .val (.ref a14), .val (.ref a16), .val (.ref a18)] [(.int (1 : Int32)), (.int (1 : Int32))])) _
      refine XS.icmpNo X22.here hx rfl (hb hby at_142) rfl (by decide) ?_
      show Steps p.tables e below (T22.setTop (mkF m 145 #[.val (.int q0), .val (.long q1), .second, .val (.long q2), .second, .val (.long q3), .second, .val (.long q4), .second, .val (.int (1 : Int32)), .val (.ref a12), .val (.ref a14), .val (.ref a16), .val (.ref a18)] [])) _
      refine XS.aload X22.here hx rfl (hb hby at_145) rfl rfl ?_
      show Steps p.tables e below (T22.setTop (mkF m 147 #[.val (.int q0), .val (.long q1), .second, .val (.long q2), .second, .val (.long q3), .second, .val (.long q4), .second, .val (.int (1 : Int32)), .val (.ref a12), .val (.ref a14), .val (.ref a16), .val (.ref a18)] [(.ref a16)])) _
      refine XS.iconst X22.here hx rfl (hb hby at_147) ?_
      show Steps p.tables e below (T22.setTop (mkF m 148 #[.val (.int q0), .val (.long q1), .second, .val (.long q2), .second, .val (.long q3), .second, .val (.long q4), .second, .val (.int (1 : Int32)), .val (.ref a12), .val (.ref a14), .val (.ref a16), .val (.ref a18)] [(.int (0 : Int32)), (.ref a16)])) _
      refine st23.trans ?_
      show Steps p.tables e below (T23.setTop (mkF m 151 #[.val (.int q0), .val (.long q1), .second, .val (.long q2), .second, .val (.long q3), .second, .val (.long q4), .second, .val (.int (1 : Int32)), .val (.ref a12), .val (.ref a14), .val (.ref a16), .val (.ref a18)] [(.long (q1 ||| q3))])) _
      refine XS.lloadN X23.here hx rfl (hb hby at_151) rfl ?_
      show Steps p.tables e below (T23.setTop (mkF m 152 #[.val (.int q0), .val (.long q1), .second, .val (.long q2), .second, .val (.long q3), .second, .val (.long q4), .second, .val (.int (1 : Int32)), .val (.ref a12), .val (.ref a14), .val (.ref a16), .val (.ref a18)] [(.long q1), (.long (q1 ||| q3))])) _
      refine XS.lload X23.here hx rfl (hb hby at_152) rfl ?_
      show Steps p.tables e below (T23.setTop (mkF m 154 #[.val (.int q0), .val (.long q1), .second, .val (.long q2), .second, .val (.long q3), .second, .val (.long q4), .second, .val (.int (1 : Int32)), .val (.ref a12), .val (.ref a14), .val (.ref a16), .val (.ref a18)] [(.long q3), (.long q1), (.long (q1 ||| q3))])) _
      refine XS.lor X23.here hx rfl (hb hby at_154) rfl ?_
      show Steps p.tables e below (T23.setTop (mkF m 155 #[.val (.int q0), .val (.long q1), .second, .val (.long q2), .second, .val (.long q3), .second, .val (.long q4), .second, .val (.int (1 : Int32)), .val (.ref a12), .val (.ref a14), .val (.ref a16), .val (.ref a18)] [(.long (q1 ||| q3)), (.long (q1 ||| q3))])) _
      refine XS.lcmp X23.here hx rfl (hb hby at_155) rfl ?_
      show Steps p.tables e below (T23.setTop (mkF m 156 #[.val (.int q0), .val (.long q1), .second, .val (.long q2), .second, .val (.long q3), .second, .val (.long q4), .second, .val (.int (1 : Int32)), .val (.ref a12), .val (.ref a14), .val (.ref a16), .val (.ref a18)] [(.int (lcmpW (q1 ||| q3) (q1 ||| q3)))])) _
      refine XS.ifNo X23.here hx rfl (hb hby at_156) rfl ((if0 _ _).trans (teq ((lw_eq (q1 ||| q3) (q1 ||| q3)).mpr c24)).2) ?_
      show Steps p.tables e below (T23.setTop (mkF m 159 #[.val (.int q0), .val (.long q1), .second, .val (.long q2), .second, .val (.long q3), .second, .val (.long q4), .second, .val (.int (1 : Int32)), .val (.ref a12), .val (.ref a14), .val (.ref a16), .val (.ref a18)] [])) _
      refine XS.aload X23.here hx rfl (hb hby at_159) rfl rfl ?_
      show Steps p.tables e below (T23.setTop (mkF m 161 #[.val (.int q0), .val (.long q1), .second, .val (.long q2), .second, .val (.long q3), .second, .val (.long q4), .second, .val (.int (1 : Int32)), .val (.ref a12), .val (.ref a14), .val (.ref a16), .val (.ref a18)] [(.ref a18)])) _
      refine XS.iconst X23.here hx rfl (hb hby at_161) ?_
      show Steps p.tables e below (T23.setTop (mkF m 162 #[.val (.int q0), .val (.long q1), .second, .val (.long q2), .second, .val (.long q3), .second, .val (.long q4), .second, .val (.int (1 : Int32)), .val (.ref a12), .val (.ref a14), .val (.ref a16), .val (.ref a18)] [(.int (0 : Int32)), (.ref a18)])) _
      refine st25.trans ?_
      show Steps p.tables e below (T25.setTop (mkF m 165 #[.val (.int q0), .val (.long q1), .second, .val (.long q2), .second, .val (.long q3), .second, .val (.long q4), .second, .val (.int (1 : Int32)), .val (.ref a12), .val (.ref a14), .val (.ref a16), .val (.ref a18)] [(.long q3)])) _
      refine XS.lload X25.here hx rfl (hb hby at_165) rfl ?_
      show Steps p.tables e below (T25.setTop (mkF m 167 #[.val (.int q0), .val (.long q1), .second, .val (.long q2), .second, .val (.long q3), .second, .val (.long q4), .second, .val (.int (1 : Int32)), .val (.ref a12), .val (.ref a14), .val (.ref a16), .val (.ref a18)] [(.long q3), (.long q3)])) _
      refine XS.lcmp X25.here hx rfl (hb hby at_167) rfl ?_
      show Steps p.tables e below (T25.setTop (mkF m 168 #[.val (.int q0), .val (.long q1), .second, .val (.long q2), .second, .val (.long q3), .second, .val (.long q4), .second, .val (.int (1 : Int32)), .val (.ref a12), .val (.ref a14), .val (.ref a16), .val (.ref a18)] [(.int (lcmpW q3 q3))])) _
      refine XS.ifYes X25.here hx rfl (pc0 := 168) (pc' := 173) rfl (hb hby at_168) rfl ((if0 _ _).trans (teq ((lw_eq q3 q3).mpr c26)).1) (by decide) (by decide) ?_
      show Steps p.tables e below (T25.setTop (mkF m 173 #[.val (.int q0), .val (.long q1), .second, .val (.long q2), .second, .val (.long q3), .second, .val (.long q4), .second, .val (.int (1 : Int32)), .val (.ref a12), .val (.ref a14), .val (.ref a16), .val (.ref a18)] [])) _
      refine XS.iload X25.here hx rfl (hb hby at_173) rfl ?_
      show Steps p.tables e below (T25.setTop (mkF m 175 #[.val (.int q0), .val (.long q1), .second, .val (.long q2), .second, .val (.long q3), .second, .val (.long q4), .second, .val (.int (1 : Int32)), .val (.ref a12), .val (.ref a14), .val (.ref a16), .val (.ref a18)] [(.int (1 : Int32))])) _
      refine XS.iconst X25.here hx rfl (hb hby at_175) ?_
      show Steps p.tables e below (T25.setTop (mkF m 176 #[.val (.int q0), .val (.long q1), .second, .val (.long q2), .second, .val (.long q3), .second, .val (.long q4), .second, .val (.int (1 : Int32)), .val (.ref a12), .val (.ref a14), .val (.ref a16), .val (.ref a18)] [(.int (2 : Int32)), (.int (1 : Int32))])) _
      refine XS.icmpYes X25.here hx rfl (pc0 := 176) (pc' := 207) rfl (hb hby at_176) rfl (by decide) (by decide) (by decide) ?_
      show Steps p.tables e below (T25.setTop (mkF m 207 #[.val (.int q0), .val (.long q1), .second, .val (.long q2), .second, .val (.long q3), .second, .val (.long q4), .second, .val (.int (1 : Int32)), .val (.ref a12), .val (.ref a14), .val (.ref a16), .val (.ref a18)] [])) _
      refine XS.iconst X25.here hx rfl (hb hby at_207) ?_
      show Steps p.tables e below (T25.setTop (mkF m 208 #[.val (.int q0), .val (.long q1), .second, .val (.long q2), .second, .val (.long q3), .second, .val (.long q4), .second, .val (.int (1 : Int32)), .val (.ref a12), .val (.ref a14), .val (.ref a16), .val (.ref a18)] [(.int (1 : Int32))])) _
      exact retN X25 hx (t := .boolean) Bd.returns (by simp) (hb hby at_208) hr
    · show Q0 Z q0 q1 q2 q3 q4 h0 n0 _ T25.heap _
      rw [e25]
      exact ⟨by simp only [own_f0, ← hv1, if_neg (by decide : ¬ ((1 : Int32) = (0 : Int32))), if_pos (rfl : (1 : Int32) = (1 : Int32)), if_true, if_false], N25⟩
  · obtain ⟨T27, h27, cA27, X27, e27, E27, A27, st27⟩ := newP X0 hx hZ (aty := .long) (hw _ (List.mem_of_getElem? (i := 0) rfl)) e0 (g := (mkF m 61 #[.val (.int q0), .val (.long q1), .second, .val (.long q2), .second, .val (.long q3), .second, .val (.long q4), .second, .val (.int (2 : Int32)), .unset, .unset, .unset, .unset] [(.int (2 : Int32))])) rfl (hb hby at_61) rfl (by decide) (cap := 2) (by decide) (by decide) (by decide) (by decide)
    obtain ⟨a27, g27⟩ : ∃ z, z = h0.size := ⟨_, rfl⟩
    rw [← g27] at A27 st27
    have ge_a27 : n0 ≤ a27 := g27 ▸ Z0
    have sz27 : n0 ≤ h27.size := Nat.le_trans Z0 E27.1
    have V27_n : own_AJ Z h27 a27 [(0 : Int64), (0 : Int64)] := own_AJ_new A27 (k := 2) (by decide)
    obtain ⟨T28, h28, X28, e28, W28, V28, st28⟩ := own_lastore X27 hx hZ e27 V27_n (j := (0 : Int32)) (show 0 ≤ Int32.toInt (0 : Int32) ∧ Int32.toInt (0 : Int32) < ((2 : Nat) : Int) by decide) (x := q1) (hb hby at_66) (Ls := #[.val (.int q0), .val (.long q1), .second, .val (.long q2), .second, .val (.long q3), .second, .val (.long q4), .second, .val (.int (2 : Int32)), .unset, .unset, .unset, .unset]) (rest := [(.ref a27)])
    have sz28 : n0 ≤ h28.size := Nat.le_trans sz27 (Keep.of_wr W28).1
    have N28 := Fr.snoc X28 N0 ge_a27
    have V28_n : own_AJ Z h28 a27 [q1, (0 : Int64)] := V28
    obtain ⟨T29, h29, X29, e29, W29, V29, st29⟩ := own_lastore X28 hx hZ e28 V28_n (j := (1 : Int32)) (show 0 ≤ Int32.toInt (1 : Int32) ∧ Int32.toInt (1 : Int32) < ((2 : Nat) : Int) by decide) (x := q2) (hb hby at_70) (Ls := #[.val (.int q0), .val (.long q1), .second, .val (.long q2), .second, .val (.long q3), .second, .val (.long q4), .second, .val (.int (2 : Int32)), .unset, .unset, .unset, .unset]) (rest := [(.ref a27)])
    have sz29 : n0 ≤ h29.size := Nat.le_trans sz28 (Keep.of_wr W29).1
    have N29 := Fr.snoc X29 N28 ge_a27
    have V29_n : own_AJ Z h29 a27 [q1, q2] := V29
    obtain ⟨T30, h30, cA30, X30, e30, E30, A30, st30⟩ := newP X29 hx hZ (aty := .long) (hw _ (List.mem_of_getElem? (i := 0) rfl)) e29 (g := (mkF m 74 #[.val (.int q0), .val (.long q1), .second, .val (.long q2), .second, .val (.long q3), .second, .val (.long q4), .second, .val (.int (2 : Int32)), .val (.ref a27), .unset, .unset, .unset] [(.int (2 : Int32))])) rfl (hb hby at_74) rfl (by decide) (cap := 2) (by decide) (by decide) (by decide) (by decide)
    obtain ⟨a30, g30⟩ : ∃ z, z = h29.size := ⟨_, rfl⟩
    rw [← g30] at A30 st30
    have ne_a27_a30 : a27 ≠ a30 := g30 ▸ Nat.ne_of_lt V29_n.lt
    have ge_a30 : n0 ≤ a30 := g30 ▸ sz29
    have V30_a27 : own_AJ Z h30 a27 [q1, q2] := V29_n.ext E30
    have sz30 : n0 ≤ h30.size := Nat.le_trans sz29 E30.1
    have V30_n : own_AJ Z h30 a30 [(0 : Int64), (0 : Int64)] := own_AJ_new A30 (k := 2) (by decide)
    obtain ⟨T31, h31, X31, e31, W31, V31, st31⟩ := own_lastore X30 hx hZ e30 V30_n (j := (0 : Int32)) (show 0 ≤ Int32.toInt (0 : Int32) ∧ Int32.toInt (0 : Int32) < ((2 : Nat) : Int) by decide) (x := q3) (hb hby at_80) (Ls := #[.val (.int q0), .val (.long q1), .second, .val (.long q2), .second, .val (.long q3), .second, .val (.long q4), .second, .val (.int (2 : Int32)), .val (.ref a27), .unset, .unset, .unset]) (rest := [(.ref a30)])
    have V31_a27 : own_AJ Z h31 a27 [q1, q2] := V30_a27.other W31 ne_a27_a30
    have sz31 : n0 ≤ h31.size := Nat.le_trans sz30 (Keep.of_wr W31).1
    have N31 := Fr.snoc X31 N29 ge_a30
    have V31_n : own_AJ Z h31 a30 [q3, (0 : Int64)] := V31
    obtain ⟨T32, h32, X32, e32, W32, V32, st32⟩ := own_lastore X31 hx hZ e31 V31_n (j := (1 : Int32)) (show 0 ≤ Int32.toInt (1 : Int32) ∧ Int32.toInt (1 : Int32) < ((2 : Nat) : Int) by decide) (x := q4) (hb hby at_85) (Ls := #[.val (.int q0), .val (.long q1), .second, .val (.long q2), .second, .val (.long q3), .second, .val (.long q4), .second, .val (.int (2 : Int32)), .val (.ref a27), .unset, .unset, .unset]) (rest := [(.ref a30)])
    have V32_a27 : own_AJ Z h32 a27 [q1, q2] := V31_a27.other W32 ne_a27_a30
    have sz32 : n0 ≤ h32.size := Nat.le_trans sz31 (Keep.of_wr W32).1
    have N32 := Fr.snoc X32 N31 ge_a30
    have V32_n : own_AJ Z h32 a30 [q3, q4] := V32
    obtain ⟨T33, h33, X33, e33, E33, A33, D33, -, st33⟩ := newO X32 hx hZ hown (hw _ (List.mem_of_getElem? (i := 1) rfl)) (hw _ (List.mem_of_getElem? (i := 2) rfl)) (hw _ (List.mem_of_getElem? (i := 3) rfl)) e32 (g := (mkF m 88 #[.val (.int q0), .val (.long q1), .second, .val (.long q2), .second, .val (.long q3), .second, .val (.long q4), .second, .val (.int (2 : Int32)), .val (.ref a27), .val (.ref a30), .unset, .unset] [])) rfl (hb hby at_88) (by decide) (by decide)
    obtain ⟨a33, g33⟩ : ∃ z, z = h32.size := ⟨_, rfl⟩
    rw [← g33] at A33 D33 st33
    have ne_a27_a33 : a27 ≠ a33 := g33 ▸ Nat.ne_of_lt V32_a27.lt
    have ne_a30_a33 : a30 ≠ a33 := g33 ▸ Nat.ne_of_lt V32_n.lt
    have ge_a33 : n0 ≤ a33 := g33 ▸ sz32
    have V33_a27 : own_AJ Z h33 a27 [q1, q2] := V32_a27.ext E33
    have V33_a30 : own_AJ Z h33 a30 [q3, q4] := V32_n.ext E33
    have sz33 : n0 ≤ h33.size := Nat.le_trans sz32 E33.1
    have F33_n0 : Fld Z h33 a33 "com/example/mini_bloom/minibloom/BitArray" "words" "[J" .null := D33 (Or.inr (hw _ (List.mem_of_getElem? (i := 11) rfl))) (ty := (.array .long)) (by decide)
    obtain ⟨_, _, ⟨T34, L34, k34, n34⟩, -, X34, ⟨Lc34, hQ34, l34, y34, z34⟩, st34⟩ := X33.specialBack hx (y := (⟨"com/example/mini_bloom/minibloom/BitArray", "<init>", "([J)V"⟩ : MethodName)) rfl hown (mvT hZ (hw _ (List.mem_of_getElem? (i := 4) rfl))) (mvT hZ (hw _ (List.mem_of_getElem? (i := 5) rfl))) (mvT hZ (hw _ (List.mem_of_getElem? (i := 6) rfl))) (by decide) (backOf (W := 1) (rm1 l Z a0 hw [] a33 a27  h33 n0 sz33 A33 F33_n0 ge_a33 ) hZ (hw _ (List.mem_of_getElem? (i := 6) rfl)) (hw _ (List.mem_of_getElem? (i := 3) rfl)) (by decide) (by decide)) (g := (mkF m 94 #[.val (.int q0), .val (.long q1), .second, .val (.long q2), .second, .val (.long q3), .second, .val (.long q4), .second, .val (.int (2 : Int32)), .val (.ref a27), .val (.ref a30), .unset, .unset] [(.ref a27), (.ref a33), (.ref a33)])) rfl (by rw [hml]; rfl) (Steps.refl _) (a := a33) (argsL := [(.ref a27)]) (rest := [(.ref a33)]) (lenOf pd_6 rfl) rfl (by show 2 * 0 + _ ≤ _; exact Nat.le_of_eq rfl) (hb hby at_94) (fun _ _ => ⟨rfl, e33, (by decide : 3 + 0 ≤ _), (by decide : 5 + 0 ≤ _)⟩)
    dsimp only [Pt.U, Pt.locs, Pt.cells, Pt.slots] at X34 l34 y34 z34 st34 hQ34
    subst l34 y34 z34
    obtain ⟨rfl, N34q, K34, A34_o0, F34_o0⟩ := hQ34
    obtain ⟨h34, e34⟩ : ∃ z, T34.heap = z := ⟨_, rfl⟩
    rw [e34] at K34 A34_o0 F34_o0
    have V34_a27 : own_AJ Z h34 a27 [q1, q2] := V33_a27.keep K34 (ninS ne_a27_a33 nin0)
    have V34_a30 : own_AJ Z h34 a30 [q3, q4] := V33_a30.keep K34 (ninS ne_a30_a33 nin0)
    have A34_a33 : Exa Z h34 a33 "com/example/mini_bloom/minibloom/BitArray" := A33.keep K34
    have sz34 : n0 ≤ h34.size := Nat.le_trans sz33 K34.1
    have N34 := Fr.app N32 N34q
    obtain ⟨T35, h35, X35, e35, E35, A35, D35, -, st35⟩ := newO X34 hx hZ hown (hw _ (List.mem_of_getElem? (i := 1) rfl)) (hw _ (List.mem_of_getElem? (i := 2) rfl)) (hw _ (List.mem_of_getElem? (i := 3) rfl)) e34 (g := (mkF m 99 #[.val (.int q0), .val (.long q1), .second, .val (.long q2), .second, .val (.long q3), .second, .val (.long q4), .second, .val (.int (2 : Int32)), .val (.ref a27), .val (.ref a30), .val (.ref a33), .unset] [])) rfl (hb hby at_99) (by decide) (by decide)
    obtain ⟨a35, g35⟩ : ∃ z, z = h34.size := ⟨_, rfl⟩
    rw [← g35] at A35 D35 st35
    have ne_a27_a35 : a27 ≠ a35 := g35 ▸ Nat.ne_of_lt V34_a27.lt
    have ne_a30_a35 : a30 ≠ a35 := g35 ▸ Nat.ne_of_lt V34_a30.lt
    have ne_a33_a35 : a33 ≠ a35 := g35 ▸ Nat.ne_of_lt A34_o0.lt
    have ge_a35 : n0 ≤ a35 := g35 ▸ sz34
    have V35_a27 : own_AJ Z h35 a27 [q1, q2] := V34_a27.ext E35
    have V35_a30 : own_AJ Z h35 a30 [q3, q4] := V34_a30.ext E35
    have A35_a33 : Exa Z h35 a33 "com/example/mini_bloom/minibloom/BitArray" := A34_o0.ext E35
    have F35_a33_0 : Fld Z h35 a33 "com/example/mini_bloom/minibloom/BitArray" "words" "[J" (.ref a27) := F34_o0.ext E35
    have sz35 : n0 ≤ h35.size := Nat.le_trans sz34 E35.1
    have F35_n0 : Fld Z h35 a35 "com/example/mini_bloom/minibloom/BitArray" "words" "[J" .null := D35 (Or.inr (hw _ (List.mem_of_getElem? (i := 11) rfl))) (ty := (.array .long)) (by decide)
    obtain ⟨_, _, ⟨T36, L36, k36, n36⟩, -, X36, ⟨Lc36, hQ36, l36, y36, z36⟩, st36⟩ := X35.specialBack hx (y := (⟨"com/example/mini_bloom/minibloom/BitArray", "<init>", "([J)V"⟩ : MethodName)) rfl hown (mvT hZ (hw _ (List.mem_of_getElem? (i := 4) rfl))) (mvT hZ (hw _ (List.mem_of_getElem? (i := 5) rfl))) (mvT hZ (hw _ (List.mem_of_getElem? (i := 6) rfl))) (by decide) (backOf (W := 1) (rm1 l Z a0 hw [] a35 a30  h35 n0 sz35 A35 F35_n0 ge_a35 ) hZ (hw _ (List.mem_of_getElem? (i := 6) rfl)) (hw _ (List.mem_of_getElem? (i := 3) rfl)) (by decide) (by decide)) (g := (mkF m 105 #[.val (.int q0), .val (.long q1), .second, .val (.long q2), .second, .val (.long q3), .second, .val (.long q4), .second, .val (.int (2 : Int32)), .val (.ref a27), .val (.ref a30), .val (.ref a33), .unset] [(.ref a30), (.ref a35), (.ref a35)])) rfl (by rw [hml]; rfl) (Steps.refl _) (a := a35) (argsL := [(.ref a30)]) (rest := [(.ref a35)]) (lenOf pd_6 rfl) rfl (by show 2 * 0 + _ ≤ _; exact Nat.le_of_eq rfl) (hb hby at_105) (fun _ _ => ⟨rfl, e35, (by decide : 4 + 0 ≤ _), (by decide : 6 + 0 ≤ _)⟩)
    dsimp only [Pt.U, Pt.locs, Pt.cells, Pt.slots] at X36 l36 y36 z36 st36 hQ36
    subst l36 y36 z36
    obtain ⟨rfl, N36q, K36, A36_o0, F36_o0⟩ := hQ36
    obtain ⟨h36, e36⟩ : ∃ z, T36.heap = z := ⟨_, rfl⟩
    rw [e36] at K36 A36_o0 F36_o0
    have V36_a27 : own_AJ Z h36 a27 [q1, q2] := V35_a27.keep K36 (ninS ne_a27_a35 nin0)
    have V36_a30 : own_AJ Z h36 a30 [q3, q4] := V35_a30.keep K36 (ninS ne_a30_a35 nin0)
    have A36_a33 : Exa Z h36 a33 "com/example/mini_bloom/minibloom/BitArray" := A35_a33.keep K36
    have F36_a33_0 : Fld Z h36 a33 "com/example/mini_bloom/minibloom/BitArray" "words" "[J" (.ref a27) := F35_a33_0.keep K36 (ninS ne_a33_a35 nin0)
    have A36_a35 : Exa Z h36 a35 "com/example/mini_bloom/minibloom/BitArray" := A35.keep K36
    have sz36 : n0 ≤ h36.size := Nat.le_trans sz35 K36.1
    have N36 := Fr.app N34 N36q
    obtain ⟨cq37, kq37, q37a, q37b, q37c⟩ := isOf hZ e36 A36_a33
    obtain ⟨_, _, ⟨T37, L37, k37, n37⟩, -, X37, ⟨Lc37, hQ37, l37, y37, z37⟩, st37⟩ := X36.virtualBack hx (y := (⟨"com/example/mini_bloom/minibloom/BitArray", "or", "(Lcom/example/mini_bloom/minibloom/BitArray;)V"⟩ : MethodName)) (z := (⟨"com/example/mini_bloom/minibloom/BitArray", "or", "(Lcom/example/mini_bloom/minibloom/BitArray;)V"⟩ : MethodName)) hown (mvT hZ (hw _ (List.mem_of_getElem? (i := 12) rfl))) (mvT hZ (hw _ (List.mem_of_getElem? (i := 13) rfl))) (notFace_of_selects (args := #[]) (mvT hZ (hw _ (List.mem_of_getElem? (i := 15) rfl)))) (mvT hZ (hw _ (List.mem_of_getElem? (i := 15) rfl))) (mvT hZ (hw _ (List.mem_of_getElem? (i := 14) rfl))) (by decide) (backOf (W := 0) (rm3_2 l Z a0 hw [] a33 a35 a27 a30 q1 q2 q3 q4 h36 n0 sz36 V36_a27 V36_a30 A36_a33 A36_o0 F36_a33_0 F36_o0 ge_a27 (Ne.symm ne_a27_a30) (Ne.symm ne_a27_a33) (Ne.symm ne_a27_a35) ) hZ (hw _ (List.mem_of_getElem? (i := 16) rfl)) (hw _ (List.mem_of_getElem? (i := 3) rfl)) (by decide) (by decide)) q37a q37c (g := (mkF m 114 #[.val (.int q0), .val (.long q1), .second, .val (.long q2), .second, .val (.long q3), .second, .val (.long q4), .second, .val (.int (2 : Int32)), .val (.ref a27), .val (.ref a30), .val (.ref a33), .val (.ref a35)] [(.ref a35), (.ref a33)])) rfl (by rw [hml]; rfl) (Steps.refl _) (argsL := [(.ref a35)]) (rest := []) (lenOf pd_7 rfl) rfl (by show 2 * 0 + _ ≤ _; exact Nat.le_of_eq rfl) (hb hby at_114) (fun _ _ => ⟨rfl, e36, (by decide : 4 + 0 ≤ _), (by decide : 6 + 0 ≤ _)⟩)
    dsimp only [Pt.U, Pt.locs, Pt.cells, Pt.slots] at X37 l37 y37 z37 st37 hQ37
    subst l37 y37 z37
    obtain ⟨rfl, N37q, K37, V37_o0⟩ := hQ37
    obtain ⟨h37, e37⟩ : ∃ z, T37.heap = z := ⟨_, rfl⟩
    rw [e37] at K37 V37_o0
    have V37_a30 : own_AJ Z h37 a30 [q3, q4] := V36_a30.keep K37 (ninS (Ne.symm ne_a27_a30) nin0)
    have A37_a33 : Exa Z h37 a33 "com/example/mini_bloom/minibloom/BitArray" := A36_a33.keep K37
    have F37_a33_0 : Fld Z h37 a33 "com/example/mini_bloom/minibloom/BitArray" "words" "[J" (.ref a27) := F36_a33_0.keep K37 (ninS (Ne.symm ne_a27_a33) nin0)
    have A37_a35 : Exa Z h37 a35 "com/example/mini_bloom/minibloom/BitArray" := A36_o0.keep K37
    have F37_a35_0 : Fld Z h37 a35 "com/example/mini_bloom/minibloom/BitArray" "words" "[J" (.ref a30) := F36_o0.keep K37 (ninS (Ne.symm ne_a27_a35) nin0)
    have sz37 : n0 ≤ h37.size := Nat.le_trans sz36 K37.1
    have N37 := Fr.app N36 N37q
    obtain ⟨cq38, kq38, q38a, q38b, q38c⟩ := isOf hZ e37 A37_a33
    obtain ⟨_, _, ⟨T38, L38, k38, n38⟩, -, X38, ⟨Lc38, hQ38, l38, y38, z38⟩, st38⟩ := X37.virtualBack hx (y := (⟨"com/example/mini_bloom/minibloom/BitArray", "words", "()I"⟩ : MethodName)) (z := (⟨"com/example/mini_bloom/minibloom/BitArray", "words", "()I"⟩ : MethodName)) hown (mvT hZ (hw _ (List.mem_of_getElem? (i := 17) rfl))) (mvT hZ (hw _ (List.mem_of_getElem? (i := 18) rfl))) (notFace_of_selects (args := #[]) (mvT hZ (hw _ (List.mem_of_getElem? (i := 20) rfl)))) (mvT hZ (hw _ (List.mem_of_getElem? (i := 20) rfl))) (mvT hZ (hw _ (List.mem_of_getElem? (i := 19) rfl))) (by decide) (backOf (W := 0) (rm4 l Z a0 hw [] a33 a27 [(q1 ||| q3), (q2 ||| q4)] h37 n0 sz37 V37_o0 A37_a33 F37_a33_0 ) hZ (hw _ (List.mem_of_getElem? (i := 21) rfl)) (hw _ (List.mem_of_getElem? (i := 3) rfl)) (by decide) (by decide)) q38a q38c (g := (mkF m 119 #[.val (.int q0), .val (.long q1), .second, .val (.long q2), .second, .val (.long q3), .second, .val (.long q4), .second, .val (.int (2 : Int32)), .val (.ref a27), .val (.ref a30), .val (.ref a33), .val (.ref a35)] [(.ref a33)])) rfl (by rw [hml]; rfl) (Steps.refl _) (argsL := []) (rest := []) (lenOf pd_8 rfl) rfl (by show 2 * 0 + _ ≤ _; exact Nat.le_of_eq rfl) (hb hby at_119) (fun _ _ => ⟨rfl, e37, (by decide : 4 + 0 ≤ _), (by decide : 6 + 0 ≤ _)⟩)
    dsimp only [Pt.U, Pt.locs, Pt.cells, Pt.slots] at X38 l38 y38 z38 st38 hQ38
    subst l38 y38 z38
    obtain ⟨rfl, N38q, e38⟩ := hQ38
    have N38 := Fr.app N37 N38q
    obtain ⟨cq39, kq39, q39a, q39b, q39c⟩ := isOf hZ e38 A37_a35
    obtain ⟨_, _, ⟨T39, L39, k39, n39⟩, -, X39, ⟨Lc39, hQ39, l39, y39, z39⟩, st39⟩ := X38.virtualBack hx (y := (⟨"com/example/mini_bloom/minibloom/BitArray", "words", "()I"⟩ : MethodName)) (z := (⟨"com/example/mini_bloom/minibloom/BitArray", "words", "()I"⟩ : MethodName)) hown (mvT hZ (hw _ (List.mem_of_getElem? (i := 17) rfl))) (mvT hZ (hw _ (List.mem_of_getElem? (i := 18) rfl))) (notFace_of_selects (args := #[]) (mvT hZ (hw _ (List.mem_of_getElem? (i := 20) rfl)))) (mvT hZ (hw _ (List.mem_of_getElem? (i := 20) rfl))) (mvT hZ (hw _ (List.mem_of_getElem? (i := 19) rfl))) (by decide) (backOf (W := 0) (rm4 l Z a0 hw [] a35 a30 [q3, q4] h37 n0 sz37 V37_a30 A37_a35 F37_a35_0 ) hZ (hw _ (List.mem_of_getElem? (i := 21) rfl)) (hw _ (List.mem_of_getElem? (i := 3) rfl)) (by decide) (by decide)) q39a q39c (g := (mkF m 129 #[.val (.int q0), .val (.long q1), .second, .val (.long q2), .second, .val (.long q3), .second, .val (.long q4), .second, .val (.int (2 : Int32)), .val (.ref a27), .val (.ref a30), .val (.ref a33), .val (.ref a35)] [(.ref a35)])) rfl (by rw [hml]; rfl) (Steps.refl _) (argsL := []) (rest := []) (lenOf pd_8 rfl) rfl (by show 2 * 0 + _ ≤ _; exact Nat.le_of_eq rfl) (hb hby at_129) (fun _ _ => ⟨rfl, e38, (by decide : 4 + 0 ≤ _), (by decide : 6 + 0 ≤ _)⟩)
    dsimp only [Pt.U, Pt.locs, Pt.cells, Pt.slots] at X39 l39 y39 z39 st39 hQ39
    subst l39 y39 z39
    obtain ⟨rfl, N39q, e39⟩ := hQ39
    have N39 := Fr.app N38 N39q
    obtain ⟨cq40, kq40, q40a, q40b, q40c⟩ := isOf hZ e39 A37_a33
    obtain ⟨_, _, ⟨T40, L40, k40, n40⟩, -, X40, ⟨Lc40, hQ40, l40, y40, z40⟩, st40⟩ := X39.virtualBack hx (y := (⟨"com/example/mini_bloom/minibloom/BitArray", "word", "(I)J"⟩ : MethodName)) (z := (⟨"com/example/mini_bloom/minibloom/BitArray", "word", "(I)J"⟩ : MethodName)) hown (mvT hZ (hw _ (List.mem_of_getElem? (i := 22) rfl))) (mvT hZ (hw _ (List.mem_of_getElem? (i := 23) rfl))) (notFace_of_selects (args := #[]) (mvT hZ (hw _ (List.mem_of_getElem? (i := 25) rfl)))) (mvT hZ (hw _ (List.mem_of_getElem? (i := 25) rfl))) (mvT hZ (hw _ (List.mem_of_getElem? (i := 24) rfl))) (by decide) (backOf (W := 0) (rm5 l Z a0 hw [] a33 (0 : Int32) a27 [(q1 ||| q3), (q2 ||| q4)] h37 n0 sz37 V37_o0 A37_a33 F37_a33_0 (show 0 ≤ Int32.toInt (0 : Int32) ∧ Int32.toInt (0 : Int32) < ((2 : Nat) : Int) by decide)) hZ (hw _ (List.mem_of_getElem? (i := 26) rfl)) (hw _ (List.mem_of_getElem? (i := 3) rfl)) (by decide) (by decide)) q40a q40c (g := (mkF m 148 #[.val (.int q0), .val (.long q1), .second, .val (.long q2), .second, .val (.long q3), .second, .val (.long q4), .second, .val (.int (2 : Int32)), .val (.ref a27), .val (.ref a30), .val (.ref a33), .val (.ref a35)] [(.int (0 : Int32)), (.ref a33)])) rfl (by rw [hml]; rfl) (Steps.refl _) (argsL := [(.int (0 : Int32))]) (rest := []) (lenOf pd_9 rfl) rfl (by show 2 * 0 + _ ≤ _; exact Nat.le_of_eq rfl) (hb hby at_148) (fun _ _ => ⟨rfl, e39, (by decide : 4 + 0 ≤ _), (by decide : 6 + 0 ≤ _)⟩)
    dsimp only [Pt.U, Pt.locs, Pt.cells, Pt.slots] at X40 l40 y40 z40 st40 hQ40
    subst l40 y40 z40
    obtain ⟨rfl, N40q, e40⟩ := hQ40
    have N40 := Fr.app N39 N40q
    have c41 : (q1 ||| q3) = (q1 ||| q3) := rfl
    obtain ⟨cq42, kq42, q42a, q42b, q42c⟩ := isOf hZ e40 A37_a35
    obtain ⟨_, _, ⟨T42, L42, k42, n42⟩, -, X42, ⟨Lc42, hQ42, l42, y42, z42⟩, st42⟩ := X40.virtualBack hx (y := (⟨"com/example/mini_bloom/minibloom/BitArray", "word", "(I)J"⟩ : MethodName)) (z := (⟨"com/example/mini_bloom/minibloom/BitArray", "word", "(I)J"⟩ : MethodName)) hown (mvT hZ (hw _ (List.mem_of_getElem? (i := 22) rfl))) (mvT hZ (hw _ (List.mem_of_getElem? (i := 23) rfl))) (notFace_of_selects (args := #[]) (mvT hZ (hw _ (List.mem_of_getElem? (i := 25) rfl)))) (mvT hZ (hw _ (List.mem_of_getElem? (i := 25) rfl))) (mvT hZ (hw _ (List.mem_of_getElem? (i := 24) rfl))) (by decide) (backOf (W := 0) (rm5 l Z a0 hw [] a35 (0 : Int32) a30 [q3, q4] h37 n0 sz37 V37_a30 A37_a35 F37_a35_0 (show 0 ≤ Int32.toInt (0 : Int32) ∧ Int32.toInt (0 : Int32) < ((2 : Nat) : Int) by decide)) hZ (hw _ (List.mem_of_getElem? (i := 26) rfl)) (hw _ (List.mem_of_getElem? (i := 3) rfl)) (by decide) (by decide)) q42a q42c (g := (mkF m 162 #[.val (.int q0), .val (.long q1), .second, .val (.long q2), .second, .val (.long q3), .second, .val (.long q4), .second, .val (.int (2 : Int32)), .val (.ref a27), .val (.ref a30), .val (.ref a33), .val (.ref a35)] [(.int (0 : Int32)), (.ref a35)])) rfl (by rw [hml]; rfl) (Steps.refl _) (argsL := [(.int (0 : Int32))]) (rest := []) (lenOf pd_9 rfl) rfl (by show 2 * 0 + _ ≤ _; exact Nat.le_of_eq rfl) (hb hby at_162) (fun _ _ => ⟨rfl, e40, (by decide : 4 + 0 ≤ _), (by decide : 6 + 0 ≤ _)⟩)
    dsimp only [Pt.U, Pt.locs, Pt.cells, Pt.slots] at X42 l42 y42 z42 st42 hQ42
    subst l42 y42 z42
    obtain ⟨rfl, N42q, e42⟩ := hQ42
    have N42 := Fr.app N40 N42q
    have c43 : q3 = q3 := rfl
    obtain ⟨cq44, kq44, q44a, q44b, q44c⟩ := isOf hZ e42 A37_a33
    obtain ⟨_, _, ⟨T44, L44, k44, n44⟩, -, X44, ⟨Lc44, hQ44, l44, y44, z44⟩, st44⟩ := X42.virtualBack hx (y := (⟨"com/example/mini_bloom/minibloom/BitArray", "word", "(I)J"⟩ : MethodName)) (z := (⟨"com/example/mini_bloom/minibloom/BitArray", "word", "(I)J"⟩ : MethodName)) hown (mvT hZ (hw _ (List.mem_of_getElem? (i := 22) rfl))) (mvT hZ (hw _ (List.mem_of_getElem? (i := 23) rfl))) (notFace_of_selects (args := #[]) (mvT hZ (hw _ (List.mem_of_getElem? (i := 25) rfl)))) (mvT hZ (hw _ (List.mem_of_getElem? (i := 25) rfl))) (mvT hZ (hw _ (List.mem_of_getElem? (i := 24) rfl))) (by decide) (backOf (W := 0) (rm5 l Z a0 hw [] a33 (1 : Int32) a27 [(q1 ||| q3), (q2 ||| q4)] h37 n0 sz37 V37_o0 A37_a33 F37_a33_0 (show 0 ≤ Int32.toInt (1 : Int32) ∧ Int32.toInt (1 : Int32) < ((2 : Nat) : Int) by decide)) hZ (hw _ (List.mem_of_getElem? (i := 26) rfl)) (hw _ (List.mem_of_getElem? (i := 3) rfl)) (by decide) (by decide)) q44a q44c (g := (mkF m 182 #[.val (.int q0), .val (.long q1), .second, .val (.long q2), .second, .val (.long q3), .second, .val (.long q4), .second, .val (.int (2 : Int32)), .val (.ref a27), .val (.ref a30), .val (.ref a33), .val (.ref a35)] [(.int (1 : Int32)), (.ref a33)])) rfl (by rw [hml]; rfl) (Steps.refl _) (argsL := [(.int (1 : Int32))]) (rest := []) (lenOf pd_9 rfl) rfl (by show 2 * 0 + _ ≤ _; exact Nat.le_of_eq rfl) (hb hby at_182) (fun _ _ => ⟨rfl, e42, (by decide : 4 + 0 ≤ _), (by decide : 6 + 0 ≤ _)⟩)
    dsimp only [Pt.U, Pt.locs, Pt.cells, Pt.slots] at X44 l44 y44 z44 st44 hQ44
    subst l44 y44 z44
    obtain ⟨rfl, N44q, e44⟩ := hQ44
    have N44 := Fr.app N42 N44q
    have c45 : (q2 ||| q4) = (q2 ||| q4) := rfl
    obtain ⟨cq46, kq46, q46a, q46b, q46c⟩ := isOf hZ e44 A37_a35
    obtain ⟨_, _, ⟨T46, L46, k46, n46⟩, -, X46, ⟨Lc46, hQ46, l46, y46, z46⟩, st46⟩ := X44.virtualBack hx (y := (⟨"com/example/mini_bloom/minibloom/BitArray", "word", "(I)J"⟩ : MethodName)) (z := (⟨"com/example/mini_bloom/minibloom/BitArray", "word", "(I)J"⟩ : MethodName)) hown (mvT hZ (hw _ (List.mem_of_getElem? (i := 22) rfl))) (mvT hZ (hw _ (List.mem_of_getElem? (i := 23) rfl))) (notFace_of_selects (args := #[]) (mvT hZ (hw _ (List.mem_of_getElem? (i := 25) rfl)))) (mvT hZ (hw _ (List.mem_of_getElem? (i := 25) rfl))) (mvT hZ (hw _ (List.mem_of_getElem? (i := 24) rfl))) (by decide) (backOf (W := 0) (rm5 l Z a0 hw [] a35 (1 : Int32) a30 [q3, q4] h37 n0 sz37 V37_a30 A37_a35 F37_a35_0 (show 0 ≤ Int32.toInt (1 : Int32) ∧ Int32.toInt (1 : Int32) < ((2 : Nat) : Int) by decide)) hZ (hw _ (List.mem_of_getElem? (i := 26) rfl)) (hw _ (List.mem_of_getElem? (i := 3) rfl)) (by decide) (by decide)) q46a q46c (g := (mkF m 196 #[.val (.int q0), .val (.long q1), .second, .val (.long q2), .second, .val (.long q3), .second, .val (.long q4), .second, .val (.int (2 : Int32)), .val (.ref a27), .val (.ref a30), .val (.ref a33), .val (.ref a35)] [(.int (1 : Int32)), (.ref a35)])) rfl (by rw [hml]; rfl) (Steps.refl _) (argsL := [(.int (1 : Int32))]) (rest := []) (lenOf pd_9 rfl) rfl (by show 2 * 0 + _ ≤ _; exact Nat.le_of_eq rfl) (hb hby at_196) (fun _ _ => ⟨rfl, e44, (by decide : 4 + 0 ≤ _), (by decide : 6 + 0 ≤ _)⟩)
    dsimp only [Pt.U, Pt.locs, Pt.cells, Pt.slots] at X46 l46 y46 z46 st46 hQ46
    subst l46 y46 z46
    obtain ⟨rfl, N46q, e46⟩ := hQ46
    have N46 := Fr.app N44 N46q
    have c47 : q4 = q4 := rfl
    obtain ⟨fs, hr, hrun, hended, hW, hsame⟩ := X46.leave (v := some (.int (1 : Int32))) (fun h => by rw [Bd.returns] at h; cases h) hlk
    refine ⟨_, _, pre2 _ ?_, hrun, hended, _, _, rfl, ?_, ⟨_, rfl⟩, hW, hsame.mono (by decide) (by decide)⟩
    · show Steps p.tables e below (s₁.setTop (mkF m 3 #[.val (.int q0), .val (.long q1), .second, .val (.long q2), .second, .val (.long q3), .second, .val (.long q4), .second, .unset, .unset, .unset, .unset, .unset] [(.int (2 : Int32))])) _
      refine XS.istore X0.here hx rfl (hb hby at_3) rfl (l' := #[.val (.int q0), .val (.long q1), .second, .val (.long q2), .second, .val (.long q3), .second, .val (.long q4), .second, .val (.int (2 : Int32)), .unset, .unset, .unset, .unset]) rfl ?_
      show Steps p.tables e below (s₁.setTop (mkF m 5 #[.val (.int q0), .val (.long q1), .second, .val (.long q2), .second, .val (.long q3), .second, .val (.long q4), .second, .val (.int (2 : Int32)), .unset, .unset, .unset, .unset] [])) _
      refine XS.iload X0.here hx rfl (hb hby at_5) rfl ?_
      show Steps p.tables e below (s₁.setTop (mkF m 7 #[.val (.int q0), .val (.long q1), .second, .val (.long q2), .second, .val (.long q3), .second, .val (.long q4), .second, .val (.int (2 : Int32)), .unset, .unset, .unset, .unset] [(.int (2 : Int32))])) _
      refine XS.iconst X0.here hx rfl (hb hby at_7) ?_
      show Steps p.tables e below (s₁.setTop (mkF m 8 #[.val (.int q0), .val (.long q1), .second, .val (.long q2), .second, .val (.long q3), .second, .val (.long q4), .second, .val (.int (2 : Int32)), .unset, .unset, .unset, .unset] [(.int (3 : Int32)), (.int (2 : Int32))])) _
      refine XS.icmpYes X0.here hx rfl (pc0 := 8) (pc' := 14) rfl (hb hby at_8) rfl (by decide) (by decide) (by decide) ?_
      show Steps p.tables e below (s₁.setTop (mkF m 14 #[.val (.int q0), .val (.long q1), .second, .val (.long q2), .second, .val (.long q3), .second, .val (.long q4), .second, .val (.int (2 : Int32)), .unset, .unset, .unset, .unset] [])) _
      refine XS.iload X0.here hx rfl (hb hby at_14) rfl ?_
      show Steps p.tables e below (s₁.setTop (mkF m 16 #[.val (.int q0), .val (.long q1), .second, .val (.long q2), .second, .val (.long q3), .second, .val (.long q4), .second, .val (.int (2 : Int32)), .unset, .unset, .unset, .unset] [(.int (2 : Int32))])) _
      refine XS.ifYes X0.here hx rfl (pc0 := 16) (pc' := 32) rfl (hb hby at_16) rfl (by decide) (by decide) (by decide) ?_
      show Steps p.tables e below (s₁.setTop (mkF m 32 #[.val (.int q0), .val (.long q1), .second, .val (.long q2), .second, .val (.long q3), .second, .val (.long q4), .second, .val (.int (2 : Int32)), .unset, .unset, .unset, .unset] [])) _
      refine XS.iload X0.here hx rfl (hb hby at_32) rfl ?_
      show Steps p.tables e below (s₁.setTop (mkF m 34 #[.val (.int q0), .val (.long q1), .second, .val (.long q2), .second, .val (.long q3), .second, .val (.long q4), .second, .val (.int (2 : Int32)), .unset, .unset, .unset, .unset] [(.int (2 : Int32))])) _
      refine XS.iconst X0.here hx rfl (hb hby at_34) ?_
      show Steps p.tables e below (s₁.setTop (mkF m 35 #[.val (.int q0), .val (.long q1), .second, .val (.long q2), .second, .val (.long q3), .second, .val (.long q4), .second, .val (.int (2 : Int32)), .unset, .unset, .unset, .unset] [(.int (1 : Int32)), (.int (2 : Int32))])) _
      refine XS.icmpYes X0.here hx rfl (pc0 := 35) (pc' := 60) rfl (hb hby at_35) rfl (by decide) (by decide) (by decide) ?_
      show Steps p.tables e below (s₁.setTop (mkF m 60 #[.val (.int q0), .val (.long q1), .second, .val (.long q2), .second, .val (.long q3), .second, .val (.long q4), .second, .val (.int (2 : Int32)), .unset, .unset, .unset, .unset] [])) _
      refine XS.iconst X0.here hx rfl (hb hby at_60) ?_
      show Steps p.tables e below (s₁.setTop (mkF m 61 #[.val (.int q0), .val (.long q1), .second, .val (.long q2), .second, .val (.long q3), .second, .val (.long q4), .second, .val (.int (2 : Int32)), .unset, .unset, .unset, .unset] [(.int (2 : Int32))])) _
      refine st27 _ ?_
      show Steps p.tables e below (T27.setTop (mkF m 63 #[.val (.int q0), .val (.long q1), .second, .val (.long q2), .second, .val (.long q3), .second, .val (.long q4), .second, .val (.int (2 : Int32)), .unset, .unset, .unset, .unset] [(.ref a27)])) _
      refine XS.dup X27.here hx rfl (hb hby at_63) rfl rfl ?_
      show Steps p.tables e below (T27.setTop (mkF m 64 #[.val (.int q0), .val (.long q1), .second, .val (.long q2), .second, .val (.long q3), .second, .val (.long q4), .second, .val (.int (2 : Int32)), .unset, .unset, .unset, .unset] [(.ref a27), (.ref a27)])) _
      refine XS.iconst X27.here hx rfl (hb hby at_64) ?_
      show Steps p.tables e below (T27.setTop (mkF m 65 #[.val (.int q0), .val (.long q1), .second, .val (.long q2), .second, .val (.long q3), .second, .val (.long q4), .second, .val (.int (2 : Int32)), .unset, .unset, .unset, .unset] [(.int (0 : Int32)), (.ref a27), (.ref a27)])) _
      refine XS.lloadN X27.here hx rfl (hb hby at_65) rfl ?_
      show Steps p.tables e below (T27.setTop (mkF m 66 #[.val (.int q0), .val (.long q1), .second, .val (.long q2), .second, .val (.long q3), .second, .val (.long q4), .second, .val (.int (2 : Int32)), .unset, .unset, .unset, .unset] [(.long q1), (.int (0 : Int32)), (.ref a27), (.ref a27)])) _
      refine st28 _ ?_
      show Steps p.tables e below (T28.setTop (mkF m 67 #[.val (.int q0), .val (.long q1), .second, .val (.long q2), .second, .val (.long q3), .second, .val (.long q4), .second, .val (.int (2 : Int32)), .unset, .unset, .unset, .unset] [(.ref a27)])) _
      refine XS.dup X28.here hx rfl (hb hby at_67) rfl rfl ?_
      show Steps p.tables e below (T28.setTop (mkF m 68 #[.val (.int q0), .val (.long q1), .second, .val (.long q2), .second, .val (.long q3), .second, .val (.long q4), .second, .val (.int (2 : Int32)), .unset, .unset, .unset, .unset] [(.ref a27), (.ref a27)])) _
      refine XS.iconst X28.here hx rfl (hb hby at_68) ?_
      show Steps p.tables e below (T28.setTop (mkF m 69 #[.val (.int q0), .val (.long q1), .second, .val (.long q2), .second, .val (.long q3), .second, .val (.long q4), .second, .val (.int (2 : Int32)), .unset, .unset, .unset, .unset] [(.int (1 : Int32)), (.ref a27), (.ref a27)])) _
      refine XS.lloadN X28.here hx rfl (hb hby at_69) rfl ?_
      show Steps p.tables e below (T28.setTop (mkF m 70 #[.val (.int q0), .val (.long q1), .second, .val (.long q2), .second, .val (.long q3), .second, .val (.long q4), .second, .val (.int (2 : Int32)), .unset, .unset, .unset, .unset] [(.long q2), (.int (1 : Int32)), (.ref a27), (.ref a27)])) _
      refine st29 _ ?_
      show Steps p.tables e below (T29.setTop (mkF m 71 #[.val (.int q0), .val (.long q1), .second, .val (.long q2), .second, .val (.long q3), .second, .val (.long q4), .second, .val (.int (2 : Int32)), .unset, .unset, .unset, .unset] [(.ref a27)])) _
      refine XS.astore X29.here hx rfl (hb hby at_71) rfl rfl (l' := #[.val (.int q0), .val (.long q1), .second, .val (.long q2), .second, .val (.long q3), .second, .val (.long q4), .second, .val (.int (2 : Int32)), .val (.ref a27), .unset, .unset, .unset]) rfl ?_
      show Steps p.tables e below (T29.setTop (mkF m 73 #[.val (.int q0), .val (.long q1), .second, .val (.long q2), .second, .val (.long q3), .second, .val (.long q4), .second, .val (.int (2 : Int32)), .val (.ref a27), .unset, .unset, .unset] [])) _
      refine XS.iconst X29.here hx rfl (hb hby at_73) ?_
      show Steps p.tables e below (T29.setTop (mkF m 74 #[.val (.int q0), .val (.long q1), .second, .val (.long q2), .second, .val (.long q3), .second, .val (.long q4), .second, .val (.int (2 : Int32)), .val (.ref a27), .unset, .unset, .unset] [(.int (2 : Int32))])) _
      refine st30 _ ?_
      show Steps p.tables e below (T30.setTop (mkF m 76 #[.val (.int q0), .val (.long q1), .second, .val (.long q2), .second, .val (.long q3), .second, .val (.long q4), .second, .val (.int (2 : Int32)), .val (.ref a27), .unset, .unset, .unset] [(.ref a30)])) _
      refine XS.dup X30.here hx rfl (hb hby at_76) rfl rfl ?_
      show Steps p.tables e below (T30.setTop (mkF m 77 #[.val (.int q0), .val (.long q1), .second, .val (.long q2), .second, .val (.long q3), .second, .val (.long q4), .second, .val (.int (2 : Int32)), .val (.ref a27), .unset, .unset, .unset] [(.ref a30), (.ref a30)])) _
      refine XS.iconst X30.here hx rfl (hb hby at_77) ?_
      show Steps p.tables e below (T30.setTop (mkF m 78 #[.val (.int q0), .val (.long q1), .second, .val (.long q2), .second, .val (.long q3), .second, .val (.long q4), .second, .val (.int (2 : Int32)), .val (.ref a27), .unset, .unset, .unset] [(.int (0 : Int32)), (.ref a30), (.ref a30)])) _
      refine XS.lload X30.here hx rfl (hb hby at_78) rfl ?_
      show Steps p.tables e below (T30.setTop (mkF m 80 #[.val (.int q0), .val (.long q1), .second, .val (.long q2), .second, .val (.long q3), .second, .val (.long q4), .second, .val (.int (2 : Int32)), .val (.ref a27), .unset, .unset, .unset] [(.long q3), (.int (0 : Int32)), (.ref a30), (.ref a30)])) _
      refine st31 _ ?_
      show Steps p.tables e below (T31.setTop (mkF m 81 #[.val (.int q0), .val (.long q1), .second, .val (.long q2), .second, .val (.long q3), .second, .val (.long q4), .second, .val (.int (2 : Int32)), .val (.ref a27), .unset, .unset, .unset] [(.ref a30)])) _
      refine XS.dup X31.here hx rfl (hb hby at_81) rfl rfl ?_
      show Steps p.tables e below (T31.setTop (mkF m 82 #[.val (.int q0), .val (.long q1), .second, .val (.long q2), .second, .val (.long q3), .second, .val (.long q4), .second, .val (.int (2 : Int32)), .val (.ref a27), .unset, .unset, .unset] [(.ref a30), (.ref a30)])) _
      refine XS.iconst X31.here hx rfl (hb hby at_82) ?_
      show Steps p.tables e below (T31.setTop (mkF m 83 #[.val (.int q0), .val (.long q1), .second, .val (.long q2), .second, .val (.long q3), .second, .val (.long q4), .second, .val (.int (2 : Int32)), .val (.ref a27), .unset, .unset, .unset] [(.int (1 : Int32)), (.ref a30), (.ref a30)])) _
      refine XS.lload X31.here hx rfl (hb hby at_83) rfl ?_
      show Steps p.tables e below (T31.setTop (mkF m 85 #[.val (.int q0), .val (.long q1), .second, .val (.long q2), .second, .val (.long q3), .second, .val (.long q4), .second, .val (.int (2 : Int32)), .val (.ref a27), .unset, .unset, .unset] [(.long q4), (.int (1 : Int32)), (.ref a30), (.ref a30)])) _
      refine st32 _ ?_
      show Steps p.tables e below (T32.setTop (mkF m 86 #[.val (.int q0), .val (.long q1), .second, .val (.long q2), .second, .val (.long q3), .second, .val (.long q4), .second, .val (.int (2 : Int32)), .val (.ref a27), .unset, .unset, .unset] [(.ref a30)])) _
      refine XS.astore X32.here hx rfl (hb hby at_86) rfl rfl (l' := #[.val (.int q0), .val (.long q1), .second, .val (.long q2), .second, .val (.long q3), .second, .val (.long q4), .second, .val (.int (2 : Int32)), .val (.ref a27), .val (.ref a30), .unset, .unset]) rfl ?_
      show Steps p.tables e below (T32.setTop (mkF m 88 #[.val (.int q0), .val (.long q1), .second, .val (.long q2), .second, .val (.long q3), .second, .val (.long q4), .second, .val (.int (2 : Int32)), .val (.ref a27), .val (.ref a30), .unset, .unset] [])) _
      refine st33 _ ?_
      show Steps p.tables e below (T33.setTop (mkF m 91 #[.val (.int q0), .val (.long q1), .second, .val (.long q2), .second, .val (.long q3), .second, .val (.long q4), .second, .val (.int (2 : Int32)), .val (.ref a27), .val (.ref a30), .unset, .unset] [(.ref a33)])) _
      refine XS.dup X33.here hx rfl (hb hby at_91) rfl rfl ?_
      show Steps p.tables e below (T33.setTop (mkF m 92 #[.val (.int q0), .val (.long q1), .second, .val (.long q2), .second, .val (.long q3), .second, .val (.long q4), .second, .val (.int (2 : Int32)), .val (.ref a27), .val (.ref a30), .unset, .unset] [(.ref a33), (.ref a33)])) _
      refine XS.aload X33.here hx rfl (hb hby at_92) rfl rfl ?_
      show Steps p.tables e below (T33.setTop (mkF m 94 #[.val (.int q0), .val (.long q1), .second, .val (.long q2), .second, .val (.long q3), .second, .val (.long q4), .second, .val (.int (2 : Int32)), .val (.ref a27), .val (.ref a30), .unset, .unset] [(.ref a27), (.ref a33), (.ref a33)])) _
      refine st34.trans ?_
      show Steps p.tables e below (T34.setTop (mkF m 97 #[.val (.int q0), .val (.long q1), .second, .val (.long q2), .second, .val (.long q3), .second, .val (.long q4), .second, .val (.int (2 : Int32)), .val (.ref a27), .val (.ref a30), .unset, .unset] [(.ref a33)])) _
      refine XS.astore X34.here hx rfl (hb hby at_97) rfl rfl (l' := #[.val (.int q0), .val (.long q1), .second, .val (.long q2), .second, .val (.long q3), .second, .val (.long q4), .second, .val (.int (2 : Int32)), .val (.ref a27), .val (.ref a30), .val (.ref a33), .unset]) rfl ?_
      show Steps p.tables e below (T34.setTop (mkF m 99 #[.val (.int q0), .val (.long q1), .second, .val (.long q2), .second, .val (.long q3), .second, .val (.long q4), .second, .val (.int (2 : Int32)), .val (.ref a27), .val (.ref a30), .val (.ref a33), .unset] [])) _
      refine st35 _ ?_
      show Steps p.tables e below (T35.setTop (mkF m 102 #[.val (.int q0), .val (.long q1), .second, .val (.long q2), .second, .val (.long q3), .second, .val (.long q4), .second, .val (.int (2 : Int32)), .val (.ref a27), .val (.ref a30), .val (.ref a33), .unset] [(.ref a35)])) _
      refine XS.dup X35.here hx rfl (hb hby at_102) rfl rfl ?_
      show Steps p.tables e below (T35.setTop (mkF m 103 #[.val (.int q0), .val (.long q1), .second, .val (.long q2), .second, .val (.long q3), .second, .val (.long q4), .second, .val (.int (2 : Int32)), .val (.ref a27), .val (.ref a30), .val (.ref a33), .unset] [(.ref a35), (.ref a35)])) _
      refine XS.aload X35.here hx rfl (hb hby at_103) rfl rfl ?_
      show Steps p.tables e below (T35.setTop (mkF m 105 #[.val (.int q0), .val (.long q1), .second, .val (.long q2), .second, .val (.long q3), .second, .val (.long q4), .second, .val (.int (2 : Int32)), .val (.ref a27), .val (.ref a30), .val (.ref a33), .unset] [(.ref a30), (.ref a35), (.ref a35)])) _
      refine st36.trans ?_
      show Steps p.tables e below (T36.setTop (mkF m 108 #[.val (.int q0), .val (.long q1), .second, .val (.long q2), .second, .val (.long q3), .second, .val (.long q4), .second, .val (.int (2 : Int32)), .val (.ref a27), .val (.ref a30), .val (.ref a33), .unset] [(.ref a35)])) _
      refine XS.astore X36.here hx rfl (hb hby at_108) rfl rfl (l' := #[.val (.int q0), .val (.long q1), .second, .val (.long q2), .second, .val (.long q3), .second, .val (.long q4), .second, .val (.int (2 : Int32)), .val (.ref a27), .val (.ref a30), .val (.ref a33), .val (.ref a35)]) rfl ?_
      show Steps p.tables e below (T36.setTop (mkF m 110 #[.val (.int q0), .val (.long q1), .second, .val (.long q2), .second, .val (.long q3), .second, .val (.long q4), .second, .val (.int (2 : Int32)), .val (.ref a27), .val (.ref a30), .val (.ref a33), .val (.ref a35)] [])) _
      refine XS.aload X36.here hx rfl (hb hby at_110) rfl rfl ?_
      show Steps p.tables e below (T36.setTop (mkF m 112 #[.val (.int q0), .val (.long q1), .second, .val (.long q2), .second, .val (.long q3), .second, .val (.long q4), .second, .val (.int (2 : Int32)), .val (.ref a27), .val (.ref a30), .val (.ref a33), .val (.ref a35)] [(.ref a33)])) _
      refine XS.aload X36.here hx rfl (hb hby at_112) rfl rfl ?_
      show Steps p.tables e below (T36.setTop (mkF m 114 #[.val (.int q0), .val (.long q1), .second, .val (.long q2), .second, .val (.long q3), .second, .val (.long q4), .second, .val (.int (2 : Int32)), .val (.ref a27), .val (.ref a30), .val (.ref a33), .val (.ref a35)] [(.ref a35), (.ref a33)])) _
      refine st37.trans ?_
      show Steps p.tables e below (T37.setTop (mkF m 117 #[.val (.int q0), .val (.long q1), .second, .val (.long q2), .second, .val (.long q3), .second, .val (.long q4), .second, .val (.int (2 : Int32)), .val (.ref a27), .val (.ref a30), .val (.ref a33), .val (.ref a35)] [])) _
      refine XS.aload X37.here hx rfl (hb hby at_117) rfl rfl ?_
      show Steps p.tables e below (T37.setTop (mkF m 119 #[.val (.int q0), .val (.long q1), .second, .val (.long q2), .second, .val (.long q3), .second, .val (.long q4), .second, .val (.int (2 : Int32)), .val (.ref a27), .val (.ref a30), .val (.ref a33), .val (.ref a35)] [(.ref a33)])) _
      refine st38.trans ?_
      show Steps p.tables e below (T38.setTop (mkF m 122 #[.val (.int q0), .val (.long q1), .second, .val (.long q2), .second, .val (.long q3), .second, .val (.long q4), .second, .val (.int (2 : Int32)), .val (.ref a27), .val (.ref a30), .val (.ref a33), .val (.ref a35)] [(.int (2 : Int32))])) _
      refine XS.iload X38.here hx rfl (hb hby at_122) rfl ?_
      show Steps p.tables e below (T38.setTop (mkF m 124 #[.val (.int q0), .val (.long q1), .second, .val (.long q2), .second, .val (.long q3), .second, .val (.long q4), .second, .val (.int (2 : Int32)), .val (.ref a27), .val (.ref a30), .val (.ref a33), .val (.ref a35)] [(.int (2 : Int32)), (.int (2 : Int32))])) _
      refine XS.icmpNo X38.here hx rfl (hb hby at_124) rfl (by decide) ?_
      show Steps p.tables e below (T38.setTop (mkF m 127 #[.val (.int q0), .val (.long q1), .second, .val (.long q2), .second, .val (.long q3), .second, .val (.long q4), .second, .val (.int (2 : Int32)), .val (.ref a27), .val (.ref a30), .val (.ref a33), .val (.ref a35)] [])) _
      refine XS.aload X38.here hx rfl (hb hby at_127) rfl rfl ?_
      show Steps p.tables e below (T38.setTop (mkF m 129 #[.val (.int q0), .val (.long q1), .second, .val (.long q2), .second, .val (.long q3), .second, .val (.long q4), .second, .val (.int (2 : Int32)), .val (.ref a27), .val (.ref a30), .val (.ref a33), .val (.ref a35)] [(.ref a35)])) _
      refine st39.trans ?_
      show Steps p.tables e below (T39.setTop (mkF m 132 #[.val (.int q0), .val (.long q1), .second, .val (.long q2), .second, .val (.long q3), .second, .val (.long q4), .second, .val (.int (2 : Int32)), .val (.ref a27), .val (.ref a30), .val (.ref a33), .val (.ref a35)] [(.int (2 : Int32))])) _
      refine XS.iload X39.here hx rfl (hb hby at_132) rfl ?_
      show Steps p.tables e below (T39.setTop (mkF m 134 #[.val (.int q0), .val (.long q1), .second, .val (.long q2), .second, .val (.long q3), .second, .val (.long q4), .second, .val (.int (2 : Int32)), .val (.ref a27), .val (.ref a30), .val (.ref a33), .val (.ref a35)] [(.int (2 : Int32)), (.int (2 : Int32))])) _
      refine XS.icmpYes X39.here hx rfl (pc0 := 134) (pc' := 139) rfl (hb hby at_134) rfl (by decide) (by decide) (by decide) ?_
      show Steps p.tables e below (T39.setTop (mkF m 139 #[.val (.int q0), .val (.long q1), .second, .val (.long q2), .second, .val (.long q3), .second, .val (.long q4), .second, .val (.int (2 : Int32)), .val (.ref a27), .val (.ref a30), .val (.ref a33), .val (.ref a35)] [])) _
      refine XS.iload X39.here hx rfl (hb hby at_139) rfl ?_
      show Steps p.tables e below (T39.setTop (mkF m 141 #[.val (.int q0), .val (.long q1), .second, .val (.long q2), .second, .val (.long q3), .second, .val (.long q4), .second, .val (.int (2 : Int32)), .val (.ref a27), .val (.ref a30), .val (.ref a33), .val (.ref a35)] [(.int (2 : Int32))])) _
      refine XS.iconst X39.here hx rfl (hb hby at_141) ?_
      show Steps p.tables e below (T39.setTop (mkF m 142 #[.val (.int q0), .val (.long q1), .second, .val (.long q2), .second, .val (.long q3), .second, .val (.long q4), .second, .val (.int (2 : Int32)), .val (.ref a27), .val (.ref a30), .val (.ref a33), .val (.ref a35)] [(.int (1 : Int32)), (.int (2 : Int32))])) _
      refine XS.icmpNo X39.here hx rfl (hb hby at_142) rfl (by decide) ?_
      show Steps p.tables e below (T39.setTop (mkF m 145 #[.val (.int q0), .val (.long q1), .second, .val (.long q2), .second, .val (.long q3), .second, .val (.long q4), .second, .val (.int (2 : Int32)), .val (.ref a27), .val (.ref a30), .val (.ref a33), .val (.ref a35)] [])) _
      refine XS.aload X39.here hx rfl (hb hby at_145) rfl rfl ?_
      show Steps p.tables e below (T39.setTop (mkF m 147 #[.val (.int q0), .val (.long q1), .second, .val (.long q2), .second, .val (.long q3), .second, .val (.long q4), .second, .val (.int (2 : Int32)), .val (.ref a27), .val (.ref a30), .val (.ref a33), .val (.ref a35)] [(.ref a33)])) _
      refine XS.iconst X39.here hx rfl (hb hby at_147) ?_
      show Steps p.tables e below (T39.setTop (mkF m 148 #[.val (.int q0), .val (.long q1), .second, .val (.long q2), .second, .val (.long q3), .second, .val (.long q4), .second, .val (.int (2 : Int32)), .val (.ref a27), .val (.ref a30), .val (.ref a33), .val (.ref a35)] [(.int (0 : Int32)), (.ref a33)])) _
      refine st40.trans ?_
      show Steps p.tables e below (T40.setTop (mkF m 151 #[.val (.int q0), .val (.long q1), .second, .val (.long q2), .second, .val (.long q3), .second, .val (.long q4), .second, .val (.int (2 : Int32)), .val (.ref a27), .val (.ref a30), .val (.ref a33), .val (.ref a35)] [(.long (q1 ||| q3))])) _
      refine XS.lloadN X40.here hx rfl (hb hby at_151) rfl ?_
      show Steps p.tables e below (T40.setTop (mkF m 152 #[.val (.int q0), .val (.long q1), .second, .val (.long q2), .second, .val (.long q3), .second, .val (.long q4), .second, .val (.int (2 : Int32)), .val (.ref a27), .val (.ref a30), .val (.ref a33), .val (.ref a35)] [(.long q1), (.long (q1 ||| q3))])) _
      refine XS.lload X40.here hx rfl (hb hby at_152) rfl ?_
      show Steps p.tables e below (T40.setTop (mkF m 154 #[.val (.int q0), .val (.long q1), .second, .val (.long q2), .second, .val (.long q3), .second, .val (.long q4), .second, .val (.int (2 : Int32)), .val (.ref a27), .val (.ref a30), .val (.ref a33), .val (.ref a35)] [(.long q3), (.long q1), (.long (q1 ||| q3))])) _
      refine XS.lor X40.here hx rfl (hb hby at_154) rfl ?_
      show Steps p.tables e below (T40.setTop (mkF m 155 #[.val (.int q0), .val (.long q1), .second, .val (.long q2), .second, .val (.long q3), .second, .val (.long q4), .second, .val (.int (2 : Int32)), .val (.ref a27), .val (.ref a30), .val (.ref a33), .val (.ref a35)] [(.long (q1 ||| q3)), (.long (q1 ||| q3))])) _
      refine XS.lcmp X40.here hx rfl (hb hby at_155) rfl ?_
      show Steps p.tables e below (T40.setTop (mkF m 156 #[.val (.int q0), .val (.long q1), .second, .val (.long q2), .second, .val (.long q3), .second, .val (.long q4), .second, .val (.int (2 : Int32)), .val (.ref a27), .val (.ref a30), .val (.ref a33), .val (.ref a35)] [(.int (lcmpW (q1 ||| q3) (q1 ||| q3)))])) _
      refine XS.ifNo X40.here hx rfl (hb hby at_156) rfl ((if0 _ _).trans (teq ((lw_eq (q1 ||| q3) (q1 ||| q3)).mpr c41)).2) ?_
      show Steps p.tables e below (T40.setTop (mkF m 159 #[.val (.int q0), .val (.long q1), .second, .val (.long q2), .second, .val (.long q3), .second, .val (.long q4), .second, .val (.int (2 : Int32)), .val (.ref a27), .val (.ref a30), .val (.ref a33), .val (.ref a35)] [])) _
      refine XS.aload X40.here hx rfl (hb hby at_159) rfl rfl ?_
      show Steps p.tables e below (T40.setTop (mkF m 161 #[.val (.int q0), .val (.long q1), .second, .val (.long q2), .second, .val (.long q3), .second, .val (.long q4), .second, .val (.int (2 : Int32)), .val (.ref a27), .val (.ref a30), .val (.ref a33), .val (.ref a35)] [(.ref a35)])) _
      refine XS.iconst X40.here hx rfl (hb hby at_161) ?_
      show Steps p.tables e below (T40.setTop (mkF m 162 #[.val (.int q0), .val (.long q1), .second, .val (.long q2), .second, .val (.long q3), .second, .val (.long q4), .second, .val (.int (2 : Int32)), .val (.ref a27), .val (.ref a30), .val (.ref a33), .val (.ref a35)] [(.int (0 : Int32)), (.ref a35)])) _
      refine st42.trans ?_
      show Steps p.tables e below (T42.setTop (mkF m 165 #[.val (.int q0), .val (.long q1), .second, .val (.long q2), .second, .val (.long q3), .second, .val (.long q4), .second, .val (.int (2 : Int32)), .val (.ref a27), .val (.ref a30), .val (.ref a33), .val (.ref a35)] [(.long q3)])) _
      refine XS.lload X42.here hx rfl (hb hby at_165) rfl ?_
      show Steps p.tables e below (T42.setTop (mkF m 167 #[.val (.int q0), .val (.long q1), .second, .val (.long q2), .second, .val (.long q3), .second, .val (.long q4), .second, .val (.int (2 : Int32)), .val (.ref a27), .val (.ref a30), .val (.ref a33), .val (.ref a35)] [(.long q3), (.long q3)])) _
      refine XS.lcmp X42.here hx rfl (hb hby at_167) rfl ?_
      show Steps p.tables e below (T42.setTop (mkF m 168 #[.val (.int q0), .val (.long q1), .second, .val (.long q2), .second, .val (.long q3), .second, .val (.long q4), .second, .val (.int (2 : Int32)), .val (.ref a27), .val (.ref a30), .val (.ref a33), .val (.ref a35)] [(.int (lcmpW q3 q3))])) _
      refine XS.ifYes X42.here hx rfl (pc0 := 168) (pc' := 173) rfl (hb hby at_168) rfl ((if0 _ _).trans (teq ((lw_eq q3 q3).mpr c43)).1) (by decide) (by decide) ?_
      show Steps p.tables e below (T42.setTop (mkF m 173 #[.val (.int q0), .val (.long q1), .second, .val (.long q2), .second, .val (.long q3), .second, .val (.long q4), .second, .val (.int (2 : Int32)), .val (.ref a27), .val (.ref a30), .val (.ref a33), .val (.ref a35)] [])) _
      refine XS.iload X42.here hx rfl (hb hby at_173) rfl ?_
      show Steps p.tables e below (T42.setTop (mkF m 175 #[.val (.int q0), .val (.long q1), .second, .val (.long q2), .second, .val (.long q3), .second, .val (.long q4), .second, .val (.int (2 : Int32)), .val (.ref a27), .val (.ref a30), .val (.ref a33), .val (.ref a35)] [(.int (2 : Int32))])) _
      refine XS.iconst X42.here hx rfl (hb hby at_175) ?_
      show Steps p.tables e below (T42.setTop (mkF m 176 #[.val (.int q0), .val (.long q1), .second, .val (.long q2), .second, .val (.long q3), .second, .val (.long q4), .second, .val (.int (2 : Int32)), .val (.ref a27), .val (.ref a30), .val (.ref a33), .val (.ref a35)] [(.int (2 : Int32)), (.int (2 : Int32))])) _
      refine XS.icmpNo X42.here hx rfl (hb hby at_176) rfl (by decide) ?_
      show Steps p.tables e below (T42.setTop (mkF m 179 #[.val (.int q0), .val (.long q1), .second, .val (.long q2), .second, .val (.long q3), .second, .val (.long q4), .second, .val (.int (2 : Int32)), .val (.ref a27), .val (.ref a30), .val (.ref a33), .val (.ref a35)] [])) _
      refine XS.aload X42.here hx rfl (hb hby at_179) rfl rfl ?_
      show Steps p.tables e below (T42.setTop (mkF m 181 #[.val (.int q0), .val (.long q1), .second, .val (.long q2), .second, .val (.long q3), .second, .val (.long q4), .second, .val (.int (2 : Int32)), .val (.ref a27), .val (.ref a30), .val (.ref a33), .val (.ref a35)] [(.ref a33)])) _
      refine XS.iconst X42.here hx rfl (hb hby at_181) ?_
      show Steps p.tables e below (T42.setTop (mkF m 182 #[.val (.int q0), .val (.long q1), .second, .val (.long q2), .second, .val (.long q3), .second, .val (.long q4), .second, .val (.int (2 : Int32)), .val (.ref a27), .val (.ref a30), .val (.ref a33), .val (.ref a35)] [(.int (1 : Int32)), (.ref a33)])) _
      refine st44.trans ?_
      show Steps p.tables e below (T44.setTop (mkF m 185 #[.val (.int q0), .val (.long q1), .second, .val (.long q2), .second, .val (.long q3), .second, .val (.long q4), .second, .val (.int (2 : Int32)), .val (.ref a27), .val (.ref a30), .val (.ref a33), .val (.ref a35)] [(.long (q2 ||| q4))])) _
      refine XS.lloadN X44.here hx rfl (hb hby at_185) rfl ?_
      show Steps p.tables e below (T44.setTop (mkF m 186 #[.val (.int q0), .val (.long q1), .second, .val (.long q2), .second, .val (.long q3), .second, .val (.long q4), .second, .val (.int (2 : Int32)), .val (.ref a27), .val (.ref a30), .val (.ref a33), .val (.ref a35)] [(.long q2), (.long (q2 ||| q4))])) _
      refine XS.lload X44.here hx rfl (hb hby at_186) rfl ?_
      show Steps p.tables e below (T44.setTop (mkF m 188 #[.val (.int q0), .val (.long q1), .second, .val (.long q2), .second, .val (.long q3), .second, .val (.long q4), .second, .val (.int (2 : Int32)), .val (.ref a27), .val (.ref a30), .val (.ref a33), .val (.ref a35)] [(.long q4), (.long q2), (.long (q2 ||| q4))])) _
      refine XS.lor X44.here hx rfl (hb hby at_188) rfl ?_
      show Steps p.tables e below (T44.setTop (mkF m 189 #[.val (.int q0), .val (.long q1), .second, .val (.long q2), .second, .val (.long q3), .second, .val (.long q4), .second, .val (.int (2 : Int32)), .val (.ref a27), .val (.ref a30), .val (.ref a33), .val (.ref a35)] [(.long (q2 ||| q4)), (.long (q2 ||| q4))])) _
      refine XS.lcmp X44.here hx rfl (hb hby at_189) rfl ?_
      show Steps p.tables e below (T44.setTop (mkF m 190 #[.val (.int q0), .val (.long q1), .second, .val (.long q2), .second, .val (.long q3), .second, .val (.long q4), .second, .val (.int (2 : Int32)), .val (.ref a27), .val (.ref a30), .val (.ref a33), .val (.ref a35)] [(.int (lcmpW (q2 ||| q4) (q2 ||| q4)))])) _
      refine XS.ifNo X44.here hx rfl (hb hby at_190) rfl ((if0 _ _).trans (teq ((lw_eq (q2 ||| q4) (q2 ||| q4)).mpr c45)).2) ?_
      show Steps p.tables e below (T44.setTop (mkF m 193 #[.val (.int q0), .val (.long q1), .second, .val (.long q2), .second, .val (.long q3), .second, .val (.long q4), .second, .val (.int (2 : Int32)), .val (.ref a27), .val (.ref a30), .val (.ref a33), .val (.ref a35)] [])) _
      refine XS.aload X44.here hx rfl (hb hby at_193) rfl rfl ?_
      show Steps p.tables e below (T44.setTop (mkF m 195 #[.val (.int q0), .val (.long q1), .second, .val (.long q2), .second, .val (.long q3), .second, .val (.long q4), .second, .val (.int (2 : Int32)), .val (.ref a27), .val (.ref a30), .val (.ref a33), .val (.ref a35)] [(.ref a35)])) _
      refine XS.iconst X44.here hx rfl (hb hby at_195) ?_
      show Steps p.tables e below (T44.setTop (mkF m 196 #[.val (.int q0), .val (.long q1), .second, .val (.long q2), .second, .val (.long q3), .second, .val (.long q4), .second, .val (.int (2 : Int32)), .val (.ref a27), .val (.ref a30), .val (.ref a33), .val (.ref a35)] [(.int (1 : Int32)), (.ref a35)])) _
      refine st46.trans ?_
      show Steps p.tables e below (T46.setTop (mkF m 199 #[.val (.int q0), .val (.long q1), .second, .val (.long q2), .second, .val (.long q3), .second, .val (.long q4), .second, .val (.int (2 : Int32)), .val (.ref a27), .val (.ref a30), .val (.ref a33), .val (.ref a35)] [(.long q4)])) _
      refine XS.lload X46.here hx rfl (hb hby at_199) rfl ?_
      show Steps p.tables e below (T46.setTop (mkF m 201 #[.val (.int q0), .val (.long q1), .second, .val (.long q2), .second, .val (.long q3), .second, .val (.long q4), .second, .val (.int (2 : Int32)), .val (.ref a27), .val (.ref a30), .val (.ref a33), .val (.ref a35)] [(.long q4), (.long q4)])) _
      refine XS.lcmp X46.here hx rfl (hb hby at_201) rfl ?_
      show Steps p.tables e below (T46.setTop (mkF m 202 #[.val (.int q0), .val (.long q1), .second, .val (.long q2), .second, .val (.long q3), .second, .val (.long q4), .second, .val (.int (2 : Int32)), .val (.ref a27), .val (.ref a30), .val (.ref a33), .val (.ref a35)] [(.int (lcmpW q4 q4))])) _
      refine XS.ifYes X46.here hx rfl (pc0 := 202) (pc' := 207) rfl (hb hby at_202) rfl ((if0 _ _).trans (teq ((lw_eq q4 q4).mpr c47)).1) (by decide) (by decide) ?_
      show Steps p.tables e below (T46.setTop (mkF m 207 #[.val (.int q0), .val (.long q1), .second, .val (.long q2), .second, .val (.long q3), .second, .val (.long q4), .second, .val (.int (2 : Int32)), .val (.ref a27), .val (.ref a30), .val (.ref a33), .val (.ref a35)] [])) _
      refine XS.iconst X46.here hx rfl (hb hby at_207) ?_
      show Steps p.tables e below (T46.setTop (mkF m 208 #[.val (.int q0), .val (.long q1), .second, .val (.long q2), .second, .val (.long q3), .second, .val (.long q4), .second, .val (.int (2 : Int32)), .val (.ref a27), .val (.ref a30), .val (.ref a33), .val (.ref a35)] [(.int (1 : Int32))])) _
      exact retN X46 hx (t := .boolean) Bd.returns (by simp) (hb hby at_208) hr
    · show Q0 Z q0 q1 q2 q3 q4 h0 n0 _ T46.heap _
      rw [e46]
      exact ⟨by simp only [own_f0, ← hv1, if_neg (by decide : ¬ ((2 : Int32) = (0 : Int32))), if_neg (by decide : ¬ ((2 : Int32) = (1 : Int32))), if_pos (rfl : (2 : Int32) = (2 : Int32)), if_true, if_false], N46⟩
  · obtain ⟨T48, h48, cA48, X48, e48, E48, A48, st48⟩ := newP X0 hx hZ (aty := .long) (hw _ (List.mem_of_getElem? (i := 0) rfl)) e0 (g := (mkF m 61 #[.val (.int q0), .val (.long q1), .second, .val (.long q2), .second, .val (.long q3), .second, .val (.long q4), .second, .val (.int (2 : Int32)), .unset, .unset, .unset, .unset] [(.int (2 : Int32))])) rfl (hb hby at_61) rfl (by decide) (cap := 2) (by decide) (by decide) (by decide) (by decide)
    obtain ⟨a48, g48⟩ : ∃ z, z = h0.size := ⟨_, rfl⟩
    rw [← g48] at A48 st48
    have ge_a48 : n0 ≤ a48 := g48 ▸ Z0
    have sz48 : n0 ≤ h48.size := Nat.le_trans Z0 E48.1
    have V48_n : own_AJ Z h48 a48 [(0 : Int64), (0 : Int64)] := own_AJ_new A48 (k := 2) (by decide)
    obtain ⟨T49, h49, X49, e49, W49, V49, st49⟩ := own_lastore X48 hx hZ e48 V48_n (j := (0 : Int32)) (show 0 ≤ Int32.toInt (0 : Int32) ∧ Int32.toInt (0 : Int32) < ((2 : Nat) : Int) by decide) (x := q1) (hb hby at_66) (Ls := #[.val (.int q0), .val (.long q1), .second, .val (.long q2), .second, .val (.long q3), .second, .val (.long q4), .second, .val (.int (2 : Int32)), .unset, .unset, .unset, .unset]) (rest := [(.ref a48)])
    have sz49 : n0 ≤ h49.size := Nat.le_trans sz48 (Keep.of_wr W49).1
    have N49 := Fr.snoc X49 N0 ge_a48
    have V49_n : own_AJ Z h49 a48 [q1, (0 : Int64)] := V49
    obtain ⟨T50, h50, X50, e50, W50, V50, st50⟩ := own_lastore X49 hx hZ e49 V49_n (j := (1 : Int32)) (show 0 ≤ Int32.toInt (1 : Int32) ∧ Int32.toInt (1 : Int32) < ((2 : Nat) : Int) by decide) (x := q2) (hb hby at_70) (Ls := #[.val (.int q0), .val (.long q1), .second, .val (.long q2), .second, .val (.long q3), .second, .val (.long q4), .second, .val (.int (2 : Int32)), .unset, .unset, .unset, .unset]) (rest := [(.ref a48)])
    have sz50 : n0 ≤ h50.size := Nat.le_trans sz49 (Keep.of_wr W50).1
    have N50 := Fr.snoc X50 N49 ge_a48
    have V50_n : own_AJ Z h50 a48 [q1, q2] := V50
    obtain ⟨T51, h51, cA51, X51, e51, E51, A51, st51⟩ := newP X50 hx hZ (aty := .long) (hw _ (List.mem_of_getElem? (i := 0) rfl)) e50 (g := (mkF m 74 #[.val (.int q0), .val (.long q1), .second, .val (.long q2), .second, .val (.long q3), .second, .val (.long q4), .second, .val (.int (2 : Int32)), .val (.ref a48), .unset, .unset, .unset] [(.int (2 : Int32))])) rfl (hb hby at_74) rfl (by decide) (cap := 2) (by decide) (by decide) (by decide) (by decide)
    obtain ⟨a51, g51⟩ : ∃ z, z = h50.size := ⟨_, rfl⟩
    rw [← g51] at A51 st51
    have ne_a48_a51 : a48 ≠ a51 := g51 ▸ Nat.ne_of_lt V50_n.lt
    have ge_a51 : n0 ≤ a51 := g51 ▸ sz50
    have V51_a48 : own_AJ Z h51 a48 [q1, q2] := V50_n.ext E51
    have sz51 : n0 ≤ h51.size := Nat.le_trans sz50 E51.1
    have V51_n : own_AJ Z h51 a51 [(0 : Int64), (0 : Int64)] := own_AJ_new A51 (k := 2) (by decide)
    obtain ⟨T52, h52, X52, e52, W52, V52, st52⟩ := own_lastore X51 hx hZ e51 V51_n (j := (0 : Int32)) (show 0 ≤ Int32.toInt (0 : Int32) ∧ Int32.toInt (0 : Int32) < ((2 : Nat) : Int) by decide) (x := q3) (hb hby at_80) (Ls := #[.val (.int q0), .val (.long q1), .second, .val (.long q2), .second, .val (.long q3), .second, .val (.long q4), .second, .val (.int (2 : Int32)), .val (.ref a48), .unset, .unset, .unset]) (rest := [(.ref a51)])
    have V52_a48 : own_AJ Z h52 a48 [q1, q2] := V51_a48.other W52 ne_a48_a51
    have sz52 : n0 ≤ h52.size := Nat.le_trans sz51 (Keep.of_wr W52).1
    have N52 := Fr.snoc X52 N50 ge_a51
    have V52_n : own_AJ Z h52 a51 [q3, (0 : Int64)] := V52
    obtain ⟨T53, h53, X53, e53, W53, V53, st53⟩ := own_lastore X52 hx hZ e52 V52_n (j := (1 : Int32)) (show 0 ≤ Int32.toInt (1 : Int32) ∧ Int32.toInt (1 : Int32) < ((2 : Nat) : Int) by decide) (x := q4) (hb hby at_85) (Ls := #[.val (.int q0), .val (.long q1), .second, .val (.long q2), .second, .val (.long q3), .second, .val (.long q4), .second, .val (.int (2 : Int32)), .val (.ref a48), .unset, .unset, .unset]) (rest := [(.ref a51)])
    have V53_a48 : own_AJ Z h53 a48 [q1, q2] := V52_a48.other W53 ne_a48_a51
    have sz53 : n0 ≤ h53.size := Nat.le_trans sz52 (Keep.of_wr W53).1
    have N53 := Fr.snoc X53 N52 ge_a51
    have V53_n : own_AJ Z h53 a51 [q3, q4] := V53
    obtain ⟨T54, h54, X54, e54, E54, A54, D54, -, st54⟩ := newO X53 hx hZ hown (hw _ (List.mem_of_getElem? (i := 1) rfl)) (hw _ (List.mem_of_getElem? (i := 2) rfl)) (hw _ (List.mem_of_getElem? (i := 3) rfl)) e53 (g := (mkF m 88 #[.val (.int q0), .val (.long q1), .second, .val (.long q2), .second, .val (.long q3), .second, .val (.long q4), .second, .val (.int (2 : Int32)), .val (.ref a48), .val (.ref a51), .unset, .unset] [])) rfl (hb hby at_88) (by decide) (by decide)
    obtain ⟨a54, g54⟩ : ∃ z, z = h53.size := ⟨_, rfl⟩
    rw [← g54] at A54 D54 st54
    have ne_a48_a54 : a48 ≠ a54 := g54 ▸ Nat.ne_of_lt V53_a48.lt
    have ne_a51_a54 : a51 ≠ a54 := g54 ▸ Nat.ne_of_lt V53_n.lt
    have ge_a54 : n0 ≤ a54 := g54 ▸ sz53
    have V54_a48 : own_AJ Z h54 a48 [q1, q2] := V53_a48.ext E54
    have V54_a51 : own_AJ Z h54 a51 [q3, q4] := V53_n.ext E54
    have sz54 : n0 ≤ h54.size := Nat.le_trans sz53 E54.1
    have F54_n0 : Fld Z h54 a54 "com/example/mini_bloom/minibloom/BitArray" "words" "[J" .null := D54 (Or.inr (hw _ (List.mem_of_getElem? (i := 11) rfl))) (ty := (.array .long)) (by decide)
    obtain ⟨_, _, ⟨T55, L55, k55, n55⟩, -, X55, ⟨Lc55, hQ55, l55, y55, z55⟩, st55⟩ := X54.specialBack hx (y := (⟨"com/example/mini_bloom/minibloom/BitArray", "<init>", "([J)V"⟩ : MethodName)) rfl hown (mvT hZ (hw _ (List.mem_of_getElem? (i := 4) rfl))) (mvT hZ (hw _ (List.mem_of_getElem? (i := 5) rfl))) (mvT hZ (hw _ (List.mem_of_getElem? (i := 6) rfl))) (by decide) (backOf (W := 1) (rm1 l Z a0 hw [] a54 a48  h54 n0 sz54 A54 F54_n0 ge_a54 ) hZ (hw _ (List.mem_of_getElem? (i := 6) rfl)) (hw _ (List.mem_of_getElem? (i := 3) rfl)) (by decide) (by decide)) (g := (mkF m 94 #[.val (.int q0), .val (.long q1), .second, .val (.long q2), .second, .val (.long q3), .second, .val (.long q4), .second, .val (.int (2 : Int32)), .val (.ref a48), .val (.ref a51), .unset, .unset] [(.ref a48), (.ref a54), (.ref a54)])) rfl (by rw [hml]; rfl) (Steps.refl _) (a := a54) (argsL := [(.ref a48)]) (rest := [(.ref a54)]) (lenOf pd_6 rfl) rfl (by show 2 * 0 + _ ≤ _; exact Nat.le_of_eq rfl) (hb hby at_94) (fun _ _ => ⟨rfl, e54, (by decide : 3 + 0 ≤ _), (by decide : 5 + 0 ≤ _)⟩)
    dsimp only [Pt.U, Pt.locs, Pt.cells, Pt.slots] at X55 l55 y55 z55 st55 hQ55
    subst l55 y55 z55
    obtain ⟨rfl, N55q, K55, A55_o0, F55_o0⟩ := hQ55
    obtain ⟨h55, e55⟩ : ∃ z, T55.heap = z := ⟨_, rfl⟩
    rw [e55] at K55 A55_o0 F55_o0
    have V55_a48 : own_AJ Z h55 a48 [q1, q2] := V54_a48.keep K55 (ninS ne_a48_a54 nin0)
    have V55_a51 : own_AJ Z h55 a51 [q3, q4] := V54_a51.keep K55 (ninS ne_a51_a54 nin0)
    have A55_a54 : Exa Z h55 a54 "com/example/mini_bloom/minibloom/BitArray" := A54.keep K55
    have sz55 : n0 ≤ h55.size := Nat.le_trans sz54 K55.1
    have N55 := Fr.app N53 N55q
    obtain ⟨T56, h56, X56, e56, E56, A56, D56, -, st56⟩ := newO X55 hx hZ hown (hw _ (List.mem_of_getElem? (i := 1) rfl)) (hw _ (List.mem_of_getElem? (i := 2) rfl)) (hw _ (List.mem_of_getElem? (i := 3) rfl)) e55 (g := (mkF m 99 #[.val (.int q0), .val (.long q1), .second, .val (.long q2), .second, .val (.long q3), .second, .val (.long q4), .second, .val (.int (2 : Int32)), .val (.ref a48), .val (.ref a51), .val (.ref a54), .unset] [])) rfl (hb hby at_99) (by decide) (by decide)
    obtain ⟨a56, g56⟩ : ∃ z, z = h55.size := ⟨_, rfl⟩
    rw [← g56] at A56 D56 st56
    have ne_a48_a56 : a48 ≠ a56 := g56 ▸ Nat.ne_of_lt V55_a48.lt
    have ne_a51_a56 : a51 ≠ a56 := g56 ▸ Nat.ne_of_lt V55_a51.lt
    have ne_a54_a56 : a54 ≠ a56 := g56 ▸ Nat.ne_of_lt A55_o0.lt
    have ge_a56 : n0 ≤ a56 := g56 ▸ sz55
    have V56_a48 : own_AJ Z h56 a48 [q1, q2] := V55_a48.ext E56
    have V56_a51 : own_AJ Z h56 a51 [q3, q4] := V55_a51.ext E56
    have A56_a54 : Exa Z h56 a54 "com/example/mini_bloom/minibloom/BitArray" := A55_o0.ext E56
    have F56_a54_0 : Fld Z h56 a54 "com/example/mini_bloom/minibloom/BitArray" "words" "[J" (.ref a48) := F55_o0.ext E56
    have sz56 : n0 ≤ h56.size := Nat.le_trans sz55 E56.1
    have F56_n0 : Fld Z h56 a56 "com/example/mini_bloom/minibloom/BitArray" "words" "[J" .null := D56 (Or.inr (hw _ (List.mem_of_getElem? (i := 11) rfl))) (ty := (.array .long)) (by decide)
    obtain ⟨_, _, ⟨T57, L57, k57, n57⟩, -, X57, ⟨Lc57, hQ57, l57, y57, z57⟩, st57⟩ := X56.specialBack hx (y := (⟨"com/example/mini_bloom/minibloom/BitArray", "<init>", "([J)V"⟩ : MethodName)) rfl hown (mvT hZ (hw _ (List.mem_of_getElem? (i := 4) rfl))) (mvT hZ (hw _ (List.mem_of_getElem? (i := 5) rfl))) (mvT hZ (hw _ (List.mem_of_getElem? (i := 6) rfl))) (by decide) (backOf (W := 1) (rm1 l Z a0 hw [] a56 a51  h56 n0 sz56 A56 F56_n0 ge_a56 ) hZ (hw _ (List.mem_of_getElem? (i := 6) rfl)) (hw _ (List.mem_of_getElem? (i := 3) rfl)) (by decide) (by decide)) (g := (mkF m 105 #[.val (.int q0), .val (.long q1), .second, .val (.long q2), .second, .val (.long q3), .second, .val (.long q4), .second, .val (.int (2 : Int32)), .val (.ref a48), .val (.ref a51), .val (.ref a54), .unset] [(.ref a51), (.ref a56), (.ref a56)])) rfl (by rw [hml]; rfl) (Steps.refl _) (a := a56) (argsL := [(.ref a51)]) (rest := [(.ref a56)]) (lenOf pd_6 rfl) rfl (by show 2 * 0 + _ ≤ _; exact Nat.le_of_eq rfl) (hb hby at_105) (fun _ _ => ⟨rfl, e56, (by decide : 4 + 0 ≤ _), (by decide : 6 + 0 ≤ _)⟩)
    dsimp only [Pt.U, Pt.locs, Pt.cells, Pt.slots] at X57 l57 y57 z57 st57 hQ57
    subst l57 y57 z57
    obtain ⟨rfl, N57q, K57, A57_o0, F57_o0⟩ := hQ57
    obtain ⟨h57, e57⟩ : ∃ z, T57.heap = z := ⟨_, rfl⟩
    rw [e57] at K57 A57_o0 F57_o0
    have V57_a48 : own_AJ Z h57 a48 [q1, q2] := V56_a48.keep K57 (ninS ne_a48_a56 nin0)
    have V57_a51 : own_AJ Z h57 a51 [q3, q4] := V56_a51.keep K57 (ninS ne_a51_a56 nin0)
    have A57_a54 : Exa Z h57 a54 "com/example/mini_bloom/minibloom/BitArray" := A56_a54.keep K57
    have F57_a54_0 : Fld Z h57 a54 "com/example/mini_bloom/minibloom/BitArray" "words" "[J" (.ref a48) := F56_a54_0.keep K57 (ninS ne_a54_a56 nin0)
    have A57_a56 : Exa Z h57 a56 "com/example/mini_bloom/minibloom/BitArray" := A56.keep K57
    have sz57 : n0 ≤ h57.size := Nat.le_trans sz56 K57.1
    have N57 := Fr.app N55 N57q
    obtain ⟨cq58, kq58, q58a, q58b, q58c⟩ := isOf hZ e57 A57_a54
    obtain ⟨_, _, ⟨T58, L58, k58, n58⟩, -, X58, ⟨Lc58, hQ58, l58, y58, z58⟩, st58⟩ := X57.virtualBack hx (y := (⟨"com/example/mini_bloom/minibloom/BitArray", "or", "(Lcom/example/mini_bloom/minibloom/BitArray;)V"⟩ : MethodName)) (z := (⟨"com/example/mini_bloom/minibloom/BitArray", "or", "(Lcom/example/mini_bloom/minibloom/BitArray;)V"⟩ : MethodName)) hown (mvT hZ (hw _ (List.mem_of_getElem? (i := 12) rfl))) (mvT hZ (hw _ (List.mem_of_getElem? (i := 13) rfl))) (notFace_of_selects (args := #[]) (mvT hZ (hw _ (List.mem_of_getElem? (i := 15) rfl)))) (mvT hZ (hw _ (List.mem_of_getElem? (i := 15) rfl))) (mvT hZ (hw _ (List.mem_of_getElem? (i := 14) rfl))) (by decide) (backOf (W := 0) (rm3_2 l Z a0 hw [] a54 a56 a48 a51 q1 q2 q3 q4 h57 n0 sz57 V57_a48 V57_a51 A57_a54 A57_o0 F57_a54_0 F57_o0 ge_a48 (Ne.symm ne_a48_a51) (Ne.symm ne_a48_a54) (Ne.symm ne_a48_a56) ) hZ (hw _ (List.mem_of_getElem? (i := 16) rfl)) (hw _ (List.mem_of_getElem? (i := 3) rfl)) (by decide) (by decide)) q58a q58c (g := (mkF m 114 #[.val (.int q0), .val (.long q1), .second, .val (.long q2), .second, .val (.long q3), .second, .val (.long q4), .second, .val (.int (2 : Int32)), .val (.ref a48), .val (.ref a51), .val (.ref a54), .val (.ref a56)] [(.ref a56), (.ref a54)])) rfl (by rw [hml]; rfl) (Steps.refl _) (argsL := [(.ref a56)]) (rest := []) (lenOf pd_7 rfl) rfl (by show 2 * 0 + _ ≤ _; exact Nat.le_of_eq rfl) (hb hby at_114) (fun _ _ => ⟨rfl, e57, (by decide : 4 + 0 ≤ _), (by decide : 6 + 0 ≤ _)⟩)
    dsimp only [Pt.U, Pt.locs, Pt.cells, Pt.slots] at X58 l58 y58 z58 st58 hQ58
    subst l58 y58 z58
    obtain ⟨rfl, N58q, K58, V58_o0⟩ := hQ58
    obtain ⟨h58, e58⟩ : ∃ z, T58.heap = z := ⟨_, rfl⟩
    rw [e58] at K58 V58_o0
    have V58_a51 : own_AJ Z h58 a51 [q3, q4] := V57_a51.keep K58 (ninS (Ne.symm ne_a48_a51) nin0)
    have A58_a54 : Exa Z h58 a54 "com/example/mini_bloom/minibloom/BitArray" := A57_a54.keep K58
    have F58_a54_0 : Fld Z h58 a54 "com/example/mini_bloom/minibloom/BitArray" "words" "[J" (.ref a48) := F57_a54_0.keep K58 (ninS (Ne.symm ne_a48_a54) nin0)
    have A58_a56 : Exa Z h58 a56 "com/example/mini_bloom/minibloom/BitArray" := A57_o0.keep K58
    have F58_a56_0 : Fld Z h58 a56 "com/example/mini_bloom/minibloom/BitArray" "words" "[J" (.ref a51) := F57_o0.keep K58 (ninS (Ne.symm ne_a48_a56) nin0)
    have sz58 : n0 ≤ h58.size := Nat.le_trans sz57 K58.1
    have N58 := Fr.app N57 N58q
    obtain ⟨cq59, kq59, q59a, q59b, q59c⟩ := isOf hZ e58 A58_a54
    obtain ⟨_, _, ⟨T59, L59, k59, n59⟩, -, X59, ⟨Lc59, hQ59, l59, y59, z59⟩, st59⟩ := X58.virtualBack hx (y := (⟨"com/example/mini_bloom/minibloom/BitArray", "words", "()I"⟩ : MethodName)) (z := (⟨"com/example/mini_bloom/minibloom/BitArray", "words", "()I"⟩ : MethodName)) hown (mvT hZ (hw _ (List.mem_of_getElem? (i := 17) rfl))) (mvT hZ (hw _ (List.mem_of_getElem? (i := 18) rfl))) (notFace_of_selects (args := #[]) (mvT hZ (hw _ (List.mem_of_getElem? (i := 20) rfl)))) (mvT hZ (hw _ (List.mem_of_getElem? (i := 20) rfl))) (mvT hZ (hw _ (List.mem_of_getElem? (i := 19) rfl))) (by decide) (backOf (W := 0) (rm4 l Z a0 hw [] a54 a48 [(q1 ||| q3), (q2 ||| q4)] h58 n0 sz58 V58_o0 A58_a54 F58_a54_0 ) hZ (hw _ (List.mem_of_getElem? (i := 21) rfl)) (hw _ (List.mem_of_getElem? (i := 3) rfl)) (by decide) (by decide)) q59a q59c (g := (mkF m 119 #[.val (.int q0), .val (.long q1), .second, .val (.long q2), .second, .val (.long q3), .second, .val (.long q4), .second, .val (.int (2 : Int32)), .val (.ref a48), .val (.ref a51), .val (.ref a54), .val (.ref a56)] [(.ref a54)])) rfl (by rw [hml]; rfl) (Steps.refl _) (argsL := []) (rest := []) (lenOf pd_8 rfl) rfl (by show 2 * 0 + _ ≤ _; exact Nat.le_of_eq rfl) (hb hby at_119) (fun _ _ => ⟨rfl, e58, (by decide : 4 + 0 ≤ _), (by decide : 6 + 0 ≤ _)⟩)
    dsimp only [Pt.U, Pt.locs, Pt.cells, Pt.slots] at X59 l59 y59 z59 st59 hQ59
    subst l59 y59 z59
    obtain ⟨rfl, N59q, e59⟩ := hQ59
    have N59 := Fr.app N58 N59q
    obtain ⟨cq60, kq60, q60a, q60b, q60c⟩ := isOf hZ e59 A58_a56
    obtain ⟨_, _, ⟨T60, L60, k60, n60⟩, -, X60, ⟨Lc60, hQ60, l60, y60, z60⟩, st60⟩ := X59.virtualBack hx (y := (⟨"com/example/mini_bloom/minibloom/BitArray", "words", "()I"⟩ : MethodName)) (z := (⟨"com/example/mini_bloom/minibloom/BitArray", "words", "()I"⟩ : MethodName)) hown (mvT hZ (hw _ (List.mem_of_getElem? (i := 17) rfl))) (mvT hZ (hw _ (List.mem_of_getElem? (i := 18) rfl))) (notFace_of_selects (args := #[]) (mvT hZ (hw _ (List.mem_of_getElem? (i := 20) rfl)))) (mvT hZ (hw _ (List.mem_of_getElem? (i := 20) rfl))) (mvT hZ (hw _ (List.mem_of_getElem? (i := 19) rfl))) (by decide) (backOf (W := 0) (rm4 l Z a0 hw [] a56 a51 [q3, q4] h58 n0 sz58 V58_a51 A58_a56 F58_a56_0 ) hZ (hw _ (List.mem_of_getElem? (i := 21) rfl)) (hw _ (List.mem_of_getElem? (i := 3) rfl)) (by decide) (by decide)) q60a q60c (g := (mkF m 129 #[.val (.int q0), .val (.long q1), .second, .val (.long q2), .second, .val (.long q3), .second, .val (.long q4), .second, .val (.int (2 : Int32)), .val (.ref a48), .val (.ref a51), .val (.ref a54), .val (.ref a56)] [(.ref a56)])) rfl (by rw [hml]; rfl) (Steps.refl _) (argsL := []) (rest := []) (lenOf pd_8 rfl) rfl (by show 2 * 0 + _ ≤ _; exact Nat.le_of_eq rfl) (hb hby at_129) (fun _ _ => ⟨rfl, e59, (by decide : 4 + 0 ≤ _), (by decide : 6 + 0 ≤ _)⟩)
    dsimp only [Pt.U, Pt.locs, Pt.cells, Pt.slots] at X60 l60 y60 z60 st60 hQ60
    subst l60 y60 z60
    obtain ⟨rfl, N60q, e60⟩ := hQ60
    have N60 := Fr.app N59 N60q
    obtain ⟨cq61, kq61, q61a, q61b, q61c⟩ := isOf hZ e60 A58_a54
    obtain ⟨_, _, ⟨T61, L61, k61, n61⟩, -, X61, ⟨Lc61, hQ61, l61, y61, z61⟩, st61⟩ := X60.virtualBack hx (y := (⟨"com/example/mini_bloom/minibloom/BitArray", "word", "(I)J"⟩ : MethodName)) (z := (⟨"com/example/mini_bloom/minibloom/BitArray", "word", "(I)J"⟩ : MethodName)) hown (mvT hZ (hw _ (List.mem_of_getElem? (i := 22) rfl))) (mvT hZ (hw _ (List.mem_of_getElem? (i := 23) rfl))) (notFace_of_selects (args := #[]) (mvT hZ (hw _ (List.mem_of_getElem? (i := 25) rfl)))) (mvT hZ (hw _ (List.mem_of_getElem? (i := 25) rfl))) (mvT hZ (hw _ (List.mem_of_getElem? (i := 24) rfl))) (by decide) (backOf (W := 0) (rm5 l Z a0 hw [] a54 (0 : Int32) a48 [(q1 ||| q3), (q2 ||| q4)] h58 n0 sz58 V58_o0 A58_a54 F58_a54_0 (show 0 ≤ Int32.toInt (0 : Int32) ∧ Int32.toInt (0 : Int32) < ((2 : Nat) : Int) by decide)) hZ (hw _ (List.mem_of_getElem? (i := 26) rfl)) (hw _ (List.mem_of_getElem? (i := 3) rfl)) (by decide) (by decide)) q61a q61c (g := (mkF m 148 #[.val (.int q0), .val (.long q1), .second, .val (.long q2), .second, .val (.long q3), .second, .val (.long q4), .second, .val (.int (2 : Int32)), .val (.ref a48), .val (.ref a51), .val (.ref a54), .val (.ref a56)] [(.int (0 : Int32)), (.ref a54)])) rfl (by rw [hml]; rfl) (Steps.refl _) (argsL := [(.int (0 : Int32))]) (rest := []) (lenOf pd_9 rfl) rfl (by show 2 * 0 + _ ≤ _; exact Nat.le_of_eq rfl) (hb hby at_148) (fun _ _ => ⟨rfl, e60, (by decide : 4 + 0 ≤ _), (by decide : 6 + 0 ≤ _)⟩)
    dsimp only [Pt.U, Pt.locs, Pt.cells, Pt.slots] at X61 l61 y61 z61 st61 hQ61
    subst l61 y61 z61
    obtain ⟨rfl, N61q, e61⟩ := hQ61
    have N61 := Fr.app N60 N61q
    have c62 : (q1 ||| q3) = (q1 ||| q3) := rfl
    obtain ⟨cq63, kq63, q63a, q63b, q63c⟩ := isOf hZ e61 A58_a56
    obtain ⟨_, _, ⟨T63, L63, k63, n63⟩, -, X63, ⟨Lc63, hQ63, l63, y63, z63⟩, st63⟩ := X61.virtualBack hx (y := (⟨"com/example/mini_bloom/minibloom/BitArray", "word", "(I)J"⟩ : MethodName)) (z := (⟨"com/example/mini_bloom/minibloom/BitArray", "word", "(I)J"⟩ : MethodName)) hown (mvT hZ (hw _ (List.mem_of_getElem? (i := 22) rfl))) (mvT hZ (hw _ (List.mem_of_getElem? (i := 23) rfl))) (notFace_of_selects (args := #[]) (mvT hZ (hw _ (List.mem_of_getElem? (i := 25) rfl)))) (mvT hZ (hw _ (List.mem_of_getElem? (i := 25) rfl))) (mvT hZ (hw _ (List.mem_of_getElem? (i := 24) rfl))) (by decide) (backOf (W := 0) (rm5 l Z a0 hw [] a56 (0 : Int32) a51 [q3, q4] h58 n0 sz58 V58_a51 A58_a56 F58_a56_0 (show 0 ≤ Int32.toInt (0 : Int32) ∧ Int32.toInt (0 : Int32) < ((2 : Nat) : Int) by decide)) hZ (hw _ (List.mem_of_getElem? (i := 26) rfl)) (hw _ (List.mem_of_getElem? (i := 3) rfl)) (by decide) (by decide)) q63a q63c (g := (mkF m 162 #[.val (.int q0), .val (.long q1), .second, .val (.long q2), .second, .val (.long q3), .second, .val (.long q4), .second, .val (.int (2 : Int32)), .val (.ref a48), .val (.ref a51), .val (.ref a54), .val (.ref a56)] [(.int (0 : Int32)), (.ref a56)])) rfl (by rw [hml]; rfl) (Steps.refl _) (argsL := [(.int (0 : Int32))]) (rest := []) (lenOf pd_9 rfl) rfl (by show 2 * 0 + _ ≤ _; exact Nat.le_of_eq rfl) (hb hby at_162) (fun _ _ => ⟨rfl, e61, (by decide : 4 + 0 ≤ _), (by decide : 6 + 0 ≤ _)⟩)
    dsimp only [Pt.U, Pt.locs, Pt.cells, Pt.slots] at X63 l63 y63 z63 st63 hQ63
    subst l63 y63 z63
    obtain ⟨rfl, N63q, e63⟩ := hQ63
    have N63 := Fr.app N61 N63q
    have c64 : q3 = q3 := rfl
    obtain ⟨cq65, kq65, q65a, q65b, q65c⟩ := isOf hZ e63 A58_a54
    obtain ⟨_, _, ⟨T65, L65, k65, n65⟩, -, X65, ⟨Lc65, hQ65, l65, y65, z65⟩, st65⟩ := X63.virtualBack hx (y := (⟨"com/example/mini_bloom/minibloom/BitArray", "word", "(I)J"⟩ : MethodName)) (z := (⟨"com/example/mini_bloom/minibloom/BitArray", "word", "(I)J"⟩ : MethodName)) hown (mvT hZ (hw _ (List.mem_of_getElem? (i := 22) rfl))) (mvT hZ (hw _ (List.mem_of_getElem? (i := 23) rfl))) (notFace_of_selects (args := #[]) (mvT hZ (hw _ (List.mem_of_getElem? (i := 25) rfl)))) (mvT hZ (hw _ (List.mem_of_getElem? (i := 25) rfl))) (mvT hZ (hw _ (List.mem_of_getElem? (i := 24) rfl))) (by decide) (backOf (W := 0) (rm5 l Z a0 hw [] a54 (1 : Int32) a48 [(q1 ||| q3), (q2 ||| q4)] h58 n0 sz58 V58_o0 A58_a54 F58_a54_0 (show 0 ≤ Int32.toInt (1 : Int32) ∧ Int32.toInt (1 : Int32) < ((2 : Nat) : Int) by decide)) hZ (hw _ (List.mem_of_getElem? (i := 26) rfl)) (hw _ (List.mem_of_getElem? (i := 3) rfl)) (by decide) (by decide)) q65a q65c (g := (mkF m 182 #[.val (.int q0), .val (.long q1), .second, .val (.long q2), .second, .val (.long q3), .second, .val (.long q4), .second, .val (.int (2 : Int32)), .val (.ref a48), .val (.ref a51), .val (.ref a54), .val (.ref a56)] [(.int (1 : Int32)), (.ref a54)])) rfl (by rw [hml]; rfl) (Steps.refl _) (argsL := [(.int (1 : Int32))]) (rest := []) (lenOf pd_9 rfl) rfl (by show 2 * 0 + _ ≤ _; exact Nat.le_of_eq rfl) (hb hby at_182) (fun _ _ => ⟨rfl, e63, (by decide : 4 + 0 ≤ _), (by decide : 6 + 0 ≤ _)⟩)
    dsimp only [Pt.U, Pt.locs, Pt.cells, Pt.slots] at X65 l65 y65 z65 st65 hQ65
    subst l65 y65 z65
    obtain ⟨rfl, N65q, e65⟩ := hQ65
    have N65 := Fr.app N63 N65q
    have c66 : (q2 ||| q4) = (q2 ||| q4) := rfl
    obtain ⟨cq67, kq67, q67a, q67b, q67c⟩ := isOf hZ e65 A58_a56
    obtain ⟨_, _, ⟨T67, L67, k67, n67⟩, -, X67, ⟨Lc67, hQ67, l67, y67, z67⟩, st67⟩ := X65.virtualBack hx (y := (⟨"com/example/mini_bloom/minibloom/BitArray", "word", "(I)J"⟩ : MethodName)) (z := (⟨"com/example/mini_bloom/minibloom/BitArray", "word", "(I)J"⟩ : MethodName)) hown (mvT hZ (hw _ (List.mem_of_getElem? (i := 22) rfl))) (mvT hZ (hw _ (List.mem_of_getElem? (i := 23) rfl))) (notFace_of_selects (args := #[]) (mvT hZ (hw _ (List.mem_of_getElem? (i := 25) rfl)))) (mvT hZ (hw _ (List.mem_of_getElem? (i := 25) rfl))) (mvT hZ (hw _ (List.mem_of_getElem? (i := 24) rfl))) (by decide) (backOf (W := 0) (rm5 l Z a0 hw [] a56 (1 : Int32) a51 [q3, q4] h58 n0 sz58 V58_a51 A58_a56 F58_a56_0 (show 0 ≤ Int32.toInt (1 : Int32) ∧ Int32.toInt (1 : Int32) < ((2 : Nat) : Int) by decide)) hZ (hw _ (List.mem_of_getElem? (i := 26) rfl)) (hw _ (List.mem_of_getElem? (i := 3) rfl)) (by decide) (by decide)) q67a q67c (g := (mkF m 196 #[.val (.int q0), .val (.long q1), .second, .val (.long q2), .second, .val (.long q3), .second, .val (.long q4), .second, .val (.int (2 : Int32)), .val (.ref a48), .val (.ref a51), .val (.ref a54), .val (.ref a56)] [(.int (1 : Int32)), (.ref a56)])) rfl (by rw [hml]; rfl) (Steps.refl _) (argsL := [(.int (1 : Int32))]) (rest := []) (lenOf pd_9 rfl) rfl (by show 2 * 0 + _ ≤ _; exact Nat.le_of_eq rfl) (hb hby at_196) (fun _ _ => ⟨rfl, e65, (by decide : 4 + 0 ≤ _), (by decide : 6 + 0 ≤ _)⟩)
    dsimp only [Pt.U, Pt.locs, Pt.cells, Pt.slots] at X67 l67 y67 z67 st67 hQ67
    subst l67 y67 z67
    obtain ⟨rfl, N67q, e67⟩ := hQ67
    have N67 := Fr.app N65 N67q
    have c68 : q4 = q4 := rfl
    obtain ⟨fs, hr, hrun, hended, hW, hsame⟩ := X67.leave (v := some (.int (1 : Int32))) (fun h => by rw [Bd.returns] at h; cases h) hlk
    refine ⟨_, _, pre2 _ ?_, hrun, hended, _, _, rfl, ?_, ⟨_, rfl⟩, hW, hsame.mono (by decide) (by decide)⟩
    · show Steps p.tables e below (s₁.setTop (mkF m 3 #[.val (.int q0), .val (.long q1), .second, .val (.long q2), .second, .val (.long q3), .second, .val (.long q4), .second, .unset, .unset, .unset, .unset, .unset] [(.int (3 : Int32))])) _
      refine XS.istore X0.here hx rfl (hb hby at_3) rfl (l' := #[.val (.int q0), .val (.long q1), .second, .val (.long q2), .second, .val (.long q3), .second, .val (.long q4), .second, .val (.int (3 : Int32)), .unset, .unset, .unset, .unset]) rfl ?_
      show Steps p.tables e below (s₁.setTop (mkF m 5 #[.val (.int q0), .val (.long q1), .second, .val (.long q2), .second, .val (.long q3), .second, .val (.long q4), .second, .val (.int (3 : Int32)), .unset, .unset, .unset, .unset] [])) _
      refine XS.iload X0.here hx rfl (hb hby at_5) rfl ?_
      show Steps p.tables e below (s₁.setTop (mkF m 7 #[.val (.int q0), .val (.long q1), .second, .val (.long q2), .second, .val (.long q3), .second, .val (.long q4), .second, .val (.int (3 : Int32)), .unset, .unset, .unset, .unset] [(.int (3 : Int32))])) _
      refine XS.iconst X0.here hx rfl (hb hby at_7) ?_
      show Steps p.tables e below (s₁.setTop (mkF m 8 #[.val (.int q0), .val (.long q1), .second, .val (.long q2), .second, .val (.long q3), .second, .val (.long q4), .second, .val (.int (3 : Int32)), .unset, .unset, .unset, .unset] [(.int (3 : Int32)), (.int (3 : Int32))])) _
      refine XS.icmpNo X0.here hx rfl (hb hby at_8) rfl (by decide) ?_
      show Steps p.tables e below (s₁.setTop (mkF m 11 #[.val (.int q0), .val (.long q1), .second, .val (.long q2), .second, .val (.long q3), .second, .val (.long q4), .second, .val (.int (3 : Int32)), .unset, .unset, .unset, .unset] [])) _
      refine XS.iconst X0.here hx rfl (hb hby at_11) ?_
      show Steps p.tables e below (s₁.setTop (mkF m 12 #[.val (.int q0), .val (.long q1), .second, .val (.long q2), .second, .val (.long q3), .second, .val (.long q4), .second, .val (.int (3 : Int32)), .unset, .unset, .unset, .unset] [(.int (2 : Int32))])) _
      refine XS.istore X0.here hx rfl (hb hby at_12) rfl (l' := #[.val (.int q0), .val (.long q1), .second, .val (.long q2), .second, .val (.long q3), .second, .val (.long q4), .second, .val (.int (2 : Int32)), .unset, .unset, .unset, .unset]) rfl ?_
      show Steps p.tables e below (s₁.setTop (mkF m 14 #[.val (.int q0), .val (.long q1), .second, .val (.long q2), .second, .val (.long q3), .second, .val (.long q4), .second, .val (.int (2 : Int32)), .unset, .unset, .unset, .unset] [])) _
      refine XS.iload X0.here hx rfl (hb hby at_14) rfl ?_
      show Steps p.tables e below (s₁.setTop (mkF m 16 #[.val (.int q0), .val (.long q1), .second, .val (.long q2), .second, .val (.long q3), .second, .val (.long q4), .second, .val (.int (2 : Int32)), .unset, .unset, .unset, .unset] [(.int (2 : Int32))])) _
      refine XS.ifYes X0.here hx rfl (pc0 := 16) (pc' := 32) rfl (hb hby at_16) rfl (by decide) (by decide) (by decide) ?_
      show Steps p.tables e below (s₁.setTop (mkF m 32 #[.val (.int q0), .val (.long q1), .second, .val (.long q2), .second, .val (.long q3), .second, .val (.long q4), .second, .val (.int (2 : Int32)), .unset, .unset, .unset, .unset] [])) _
      refine XS.iload X0.here hx rfl (hb hby at_32) rfl ?_
      show Steps p.tables e below (s₁.setTop (mkF m 34 #[.val (.int q0), .val (.long q1), .second, .val (.long q2), .second, .val (.long q3), .second, .val (.long q4), .second, .val (.int (2 : Int32)), .unset, .unset, .unset, .unset] [(.int (2 : Int32))])) _
      refine XS.iconst X0.here hx rfl (hb hby at_34) ?_
      show Steps p.tables e below (s₁.setTop (mkF m 35 #[.val (.int q0), .val (.long q1), .second, .val (.long q2), .second, .val (.long q3), .second, .val (.long q4), .second, .val (.int (2 : Int32)), .unset, .unset, .unset, .unset] [(.int (1 : Int32)), (.int (2 : Int32))])) _
      refine XS.icmpYes X0.here hx rfl (pc0 := 35) (pc' := 60) rfl (hb hby at_35) rfl (by decide) (by decide) (by decide) ?_
      show Steps p.tables e below (s₁.setTop (mkF m 60 #[.val (.int q0), .val (.long q1), .second, .val (.long q2), .second, .val (.long q3), .second, .val (.long q4), .second, .val (.int (2 : Int32)), .unset, .unset, .unset, .unset] [])) _
      refine XS.iconst X0.here hx rfl (hb hby at_60) ?_
      show Steps p.tables e below (s₁.setTop (mkF m 61 #[.val (.int q0), .val (.long q1), .second, .val (.long q2), .second, .val (.long q3), .second, .val (.long q4), .second, .val (.int (2 : Int32)), .unset, .unset, .unset, .unset] [(.int (2 : Int32))])) _
      refine st48 _ ?_
      show Steps p.tables e below (T48.setTop (mkF m 63 #[.val (.int q0), .val (.long q1), .second, .val (.long q2), .second, .val (.long q3), .second, .val (.long q4), .second, .val (.int (2 : Int32)), .unset, .unset, .unset, .unset] [(.ref a48)])) _
      refine XS.dup X48.here hx rfl (hb hby at_63) rfl rfl ?_
      show Steps p.tables e below (T48.setTop (mkF m 64 #[.val (.int q0), .val (.long q1), .second, .val (.long q2), .second, .val (.long q3), .second, .val (.long q4), .second, .val (.int (2 : Int32)), .unset, .unset, .unset, .unset] [(.ref a48), (.ref a48)])) _
      refine XS.iconst X48.here hx rfl (hb hby at_64) ?_
      show Steps p.tables e below (T48.setTop (mkF m 65 #[.val (.int q0), .val (.long q1), .second, .val (.long q2), .second, .val (.long q3), .second, .val (.long q4), .second, .val (.int (2 : Int32)), .unset, .unset, .unset, .unset] [(.int (0 : Int32)), (.ref a48), (.ref a48)])) _
      refine XS.lloadN X48.here hx rfl (hb hby at_65) rfl ?_
      show Steps p.tables e below (T48.setTop (mkF m 66 #[.val (.int q0), .val (.long q1), .second, .val (.long q2), .second, .val (.long q3), .second, .val (.long q4), .second, .val (.int (2 : Int32)), .unset, .unset, .unset, .unset] [(.long q1), (.int (0 : Int32)), (.ref a48), (.ref a48)])) _
      refine st49 _ ?_
      show Steps p.tables e below (T49.setTop (mkF m 67 #[.val (.int q0), .val (.long q1), .second, .val (.long q2), .second, .val (.long q3), .second, .val (.long q4), .second, .val (.int (2 : Int32)), .unset, .unset, .unset, .unset] [(.ref a48)])) _
      refine XS.dup X49.here hx rfl (hb hby at_67) rfl rfl ?_
      show Steps p.tables e below (T49.setTop (mkF m 68 #[.val (.int q0), .val (.long q1), .second, .val (.long q2), .second, .val (.long q3), .second, .val (.long q4), .second, .val (.int (2 : Int32)), .unset, .unset, .unset, .unset] [(.ref a48), (.ref a48)])) _
      refine XS.iconst X49.here hx rfl (hb hby at_68) ?_
      show Steps p.tables e below (T49.setTop (mkF m 69 #[.val (.int q0), .val (.long q1), .second, .val (.long q2), .second, .val (.long q3), .second, .val (.long q4), .second, .val (.int (2 : Int32)), .unset, .unset, .unset, .unset] [(.int (1 : Int32)), (.ref a48), (.ref a48)])) _
      refine XS.lloadN X49.here hx rfl (hb hby at_69) rfl ?_
      show Steps p.tables e below (T49.setTop (mkF m 70 #[.val (.int q0), .val (.long q1), .second, .val (.long q2), .second, .val (.long q3), .second, .val (.long q4), .second, .val (.int (2 : Int32)), .unset, .unset, .unset, .unset] [(.long q2), (.int (1 : Int32)), (.ref a48), (.ref a48)])) _
      refine st50 _ ?_
      show Steps p.tables e below (T50.setTop (mkF m 71 #[.val (.int q0), .val (.long q1), .second, .val (.long q2), .second, .val (.long q3), .second, .val (.long q4), .second, .val (.int (2 : Int32)), .unset, .unset, .unset, .unset] [(.ref a48)])) _
      refine XS.astore X50.here hx rfl (hb hby at_71) rfl rfl (l' := #[.val (.int q0), .val (.long q1), .second, .val (.long q2), .second, .val (.long q3), .second, .val (.long q4), .second, .val (.int (2 : Int32)), .val (.ref a48), .unset, .unset, .unset]) rfl ?_
      show Steps p.tables e below (T50.setTop (mkF m 73 #[.val (.int q0), .val (.long q1), .second, .val (.long q2), .second, .val (.long q3), .second, .val (.long q4), .second, .val (.int (2 : Int32)), .val (.ref a48), .unset, .unset, .unset] [])) _
      refine XS.iconst X50.here hx rfl (hb hby at_73) ?_
      show Steps p.tables e below (T50.setTop (mkF m 74 #[.val (.int q0), .val (.long q1), .second, .val (.long q2), .second, .val (.long q3), .second, .val (.long q4), .second, .val (.int (2 : Int32)), .val (.ref a48), .unset, .unset, .unset] [(.int (2 : Int32))])) _
      refine st51 _ ?_
      show Steps p.tables e below (T51.setTop (mkF m 76 #[.val (.int q0), .val (.long q1), .second, .val (.long q2), .second, .val (.long q3), .second, .val (.long q4), .second, .val (.int (2 : Int32)), .val (.ref a48), .unset, .unset, .unset] [(.ref a51)])) _
      refine XS.dup X51.here hx rfl (hb hby at_76) rfl rfl ?_
      show Steps p.tables e below (T51.setTop (mkF m 77 #[.val (.int q0), .val (.long q1), .second, .val (.long q2), .second, .val (.long q3), .second, .val (.long q4), .second, .val (.int (2 : Int32)), .val (.ref a48), .unset, .unset, .unset] [(.ref a51), (.ref a51)])) _
      refine XS.iconst X51.here hx rfl (hb hby at_77) ?_
      show Steps p.tables e below (T51.setTop (mkF m 78 #[.val (.int q0), .val (.long q1), .second, .val (.long q2), .second, .val (.long q3), .second, .val (.long q4), .second, .val (.int (2 : Int32)), .val (.ref a48), .unset, .unset, .unset] [(.int (0 : Int32)), (.ref a51), (.ref a51)])) _
      refine XS.lload X51.here hx rfl (hb hby at_78) rfl ?_
      show Steps p.tables e below (T51.setTop (mkF m 80 #[.val (.int q0), .val (.long q1), .second, .val (.long q2), .second, .val (.long q3), .second, .val (.long q4), .second, .val (.int (2 : Int32)), .val (.ref a48), .unset, .unset, .unset] [(.long q3), (.int (0 : Int32)), (.ref a51), (.ref a51)])) _
      refine st52 _ ?_
      show Steps p.tables e below (T52.setTop (mkF m 81 #[.val (.int q0), .val (.long q1), .second, .val (.long q2), .second, .val (.long q3), .second, .val (.long q4), .second, .val (.int (2 : Int32)), .val (.ref a48), .unset, .unset, .unset] [(.ref a51)])) _
      refine XS.dup X52.here hx rfl (hb hby at_81) rfl rfl ?_
      show Steps p.tables e below (T52.setTop (mkF m 82 #[.val (.int q0), .val (.long q1), .second, .val (.long q2), .second, .val (.long q3), .second, .val (.long q4), .second, .val (.int (2 : Int32)), .val (.ref a48), .unset, .unset, .unset] [(.ref a51), (.ref a51)])) _
      refine XS.iconst X52.here hx rfl (hb hby at_82) ?_
      show Steps p.tables e below (T52.setTop (mkF m 83 #[.val (.int q0), .val (.long q1), .second, .val (.long q2), .second, .val (.long q3), .second, .val (.long q4), .second, .val (.int (2 : Int32)), .val (.ref a48), .unset, .unset, .unset] [(.int (1 : Int32)), (.ref a51), (.ref a51)])) _
      refine XS.lload X52.here hx rfl (hb hby at_83) rfl ?_
      show Steps p.tables e below (T52.setTop (mkF m 85 #[.val (.int q0), .val (.long q1), .second, .val (.long q2), .second, .val (.long q3), .second, .val (.long q4), .second, .val (.int (2 : Int32)), .val (.ref a48), .unset, .unset, .unset] [(.long q4), (.int (1 : Int32)), (.ref a51), (.ref a51)])) _
      refine st53 _ ?_
      show Steps p.tables e below (T53.setTop (mkF m 86 #[.val (.int q0), .val (.long q1), .second, .val (.long q2), .second, .val (.long q3), .second, .val (.long q4), .second, .val (.int (2 : Int32)), .val (.ref a48), .unset, .unset, .unset] [(.ref a51)])) _
      refine XS.astore X53.here hx rfl (hb hby at_86) rfl rfl (l' := #[.val (.int q0), .val (.long q1), .second, .val (.long q2), .second, .val (.long q3), .second, .val (.long q4), .second, .val (.int (2 : Int32)), .val (.ref a48), .val (.ref a51), .unset, .unset]) rfl ?_
      show Steps p.tables e below (T53.setTop (mkF m 88 #[.val (.int q0), .val (.long q1), .second, .val (.long q2), .second, .val (.long q3), .second, .val (.long q4), .second, .val (.int (2 : Int32)), .val (.ref a48), .val (.ref a51), .unset, .unset] [])) _
      refine st54 _ ?_
      show Steps p.tables e below (T54.setTop (mkF m 91 #[.val (.int q0), .val (.long q1), .second, .val (.long q2), .second, .val (.long q3), .second, .val (.long q4), .second, .val (.int (2 : Int32)), .val (.ref a48), .val (.ref a51), .unset, .unset] [(.ref a54)])) _
      refine XS.dup X54.here hx rfl (hb hby at_91) rfl rfl ?_
      show Steps p.tables e below (T54.setTop (mkF m 92 #[.val (.int q0), .val (.long q1), .second, .val (.long q2), .second, .val (.long q3), .second, .val (.long q4), .second, .val (.int (2 : Int32)), .val (.ref a48), .val (.ref a51), .unset, .unset] [(.ref a54), (.ref a54)])) _
      refine XS.aload X54.here hx rfl (hb hby at_92) rfl rfl ?_
      show Steps p.tables e below (T54.setTop (mkF m 94 #[.val (.int q0), .val (.long q1), .second, .val (.long q2), .second, .val (.long q3), .second, .val (.long q4), .second, .val (.int (2 : Int32)), .val (.ref a48), .val (.ref a51), .unset, .unset] [(.ref a48), (.ref a54), (.ref a54)])) _
      refine st55.trans ?_
      show Steps p.tables e below (T55.setTop (mkF m 97 #[.val (.int q0), .val (.long q1), .second, .val (.long q2), .second, .val (.long q3), .second, .val (.long q4), .second, .val (.int (2 : Int32)), .val (.ref a48), .val (.ref a51), .unset, .unset] [(.ref a54)])) _
      refine XS.astore X55.here hx rfl (hb hby at_97) rfl rfl (l' := #[.val (.int q0), .val (.long q1), .second, .val (.long q2), .second, .val (.long q3), .second, .val (.long q4), .second, .val (.int (2 : Int32)), .val (.ref a48), .val (.ref a51), .val (.ref a54), .unset]) rfl ?_
      show Steps p.tables e below (T55.setTop (mkF m 99 #[.val (.int q0), .val (.long q1), .second, .val (.long q2), .second, .val (.long q3), .second, .val (.long q4), .second, .val (.int (2 : Int32)), .val (.ref a48), .val (.ref a51), .val (.ref a54), .unset] [])) _
      refine st56 _ ?_
      show Steps p.tables e below (T56.setTop (mkF m 102 #[.val (.int q0), .val (.long q1), .second, .val (.long q2), .second, .val (.long q3), .second, .val (.long q4), .second, .val (.int (2 : Int32)), .val (.ref a48), .val (.ref a51), .val (.ref a54), .unset] [(.ref a56)])) _
      refine XS.dup X56.here hx rfl (hb hby at_102) rfl rfl ?_
      show Steps p.tables e below (T56.setTop (mkF m 103 #[.val (.int q0), .val (.long q1), .second, .val (.long q2), .second, .val (.long q3), .second, .val (.long q4), .second, .val (.int (2 : Int32)), .val (.ref a48), .val (.ref a51), .val (.ref a54), .unset] [(.ref a56), (.ref a56)])) _
      refine XS.aload X56.here hx rfl (hb hby at_103) rfl rfl ?_
      show Steps p.tables e below (T56.setTop (mkF m 105 #[.val (.int q0), .val (.long q1), .second, .val (.long q2), .second, .val (.long q3), .second, .val (.long q4), .second, .val (.int (2 : Int32)), .val (.ref a48), .val (.ref a51), .val (.ref a54), .unset] [(.ref a51), (.ref a56), (.ref a56)])) _
      refine st57.trans ?_
      show Steps p.tables e below (T57.setTop (mkF m 108 #[.val (.int q0), .val (.long q1), .second, .val (.long q2), .second, .val (.long q3), .second, .val (.long q4), .second, .val (.int (2 : Int32)), .val (.ref a48), .val (.ref a51), .val (.ref a54), .unset] [(.ref a56)])) _
      refine XS.astore X57.here hx rfl (hb hby at_108) rfl rfl (l' := #[.val (.int q0), .val (.long q1), .second, .val (.long q2), .second, .val (.long q3), .second, .val (.long q4), .second, .val (.int (2 : Int32)), .val (.ref a48), .val (.ref a51), .val (.ref a54), .val (.ref a56)]) rfl ?_
      show Steps p.tables e below (T57.setTop (mkF m 110 #[.val (.int q0), .val (.long q1), .second, .val (.long q2), .second, .val (.long q3), .second, .val (.long q4), .second, .val (.int (2 : Int32)), .val (.ref a48), .val (.ref a51), .val (.ref a54), .val (.ref a56)] [])) _
      refine XS.aload X57.here hx rfl (hb hby at_110) rfl rfl ?_
      show Steps p.tables e below (T57.setTop (mkF m 112 #[.val (.int q0), .val (.long q1), .second, .val (.long q2), .second, .val (.long q3), .second, .val (.long q4), .second, .val (.int (2 : Int32)), .val (.ref a48), .val (.ref a51), .val (.ref a54), .val (.ref a56)] [(.ref a54)])) _
      refine XS.aload X57.here hx rfl (hb hby at_112) rfl rfl ?_
      show Steps p.tables e below (T57.setTop (mkF m 114 #[.val (.int q0), .val (.long q1), .second, .val (.long q2), .second, .val (.long q3), .second, .val (.long q4), .second, .val (.int (2 : Int32)), .val (.ref a48), .val (.ref a51), .val (.ref a54), .val (.ref a56)] [(.ref a56), (.ref a54)])) _
      refine st58.trans ?_
      show Steps p.tables e below (T58.setTop (mkF m 117 #[.val (.int q0), .val (.long q1), .second, .val (.long q2), .second, .val (.long q3), .second, .val (.long q4), .second, .val (.int (2 : Int32)), .val (.ref a48), .val (.ref a51), .val (.ref a54), .val (.ref a56)] [])) _
      refine XS.aload X58.here hx rfl (hb hby at_117) rfl rfl ?_
      show Steps p.tables e below (T58.setTop (mkF m 119 #[.val (.int q0), .val (.long q1), .second, .val (.long q2), .second, .val (.long q3), .second, .val (.long q4), .second, .val (.int (2 : Int32)), .val (.ref a48), .val (.ref a51), .val (.ref a54), .val (.ref a56)] [(.ref a54)])) _
      refine st59.trans ?_
      show Steps p.tables e below (T59.setTop (mkF m 122 #[.val (.int q0), .val (.long q1), .second, .val (.long q2), .second, .val (.long q3), .second, .val (.long q4), .second, .val (.int (2 : Int32)), .val (.ref a48), .val (.ref a51), .val (.ref a54), .val (.ref a56)] [(.int (2 : Int32))])) _
      refine XS.iload X59.here hx rfl (hb hby at_122) rfl ?_
      show Steps p.tables e below (T59.setTop (mkF m 124 #[.val (.int q0), .val (.long q1), .second, .val (.long q2), .second, .val (.long q3), .second, .val (.long q4), .second, .val (.int (2 : Int32)), .val (.ref a48), .val (.ref a51), .val (.ref a54), .val (.ref a56)] [(.int (2 : Int32)), (.int (2 : Int32))])) _
      refine XS.icmpNo X59.here hx rfl (hb hby at_124) rfl (by decide) ?_
      show Steps p.tables e below (T59.setTop (mkF m 127 #[.val (.int q0), .val (.long q1), .second, .val (.long q2), .second, .val (.long q3), .second, .val (.long q4), .second, .val (.int (2 : Int32)), .val (.ref a48), .val (.ref a51), .val (.ref a54), .val (.ref a56)] [])) _
      refine XS.aload X59.here hx rfl (hb hby at_127) rfl rfl ?_
      show Steps p.tables e below (T59.setTop (mkF m 129 #[.val (.int q0), .val (.long q1), .second, .val (.long q2), .second, .val (.long q3), .second, .val (.long q4), .second, .val (.int (2 : Int32)), .val (.ref a48), .val (.ref a51), .val (.ref a54), .val (.ref a56)] [(.ref a56)])) _
      refine st60.trans ?_
      show Steps p.tables e below (T60.setTop (mkF m 132 #[.val (.int q0), .val (.long q1), .second, .val (.long q2), .second, .val (.long q3), .second, .val (.long q4), .second, .val (.int (2 : Int32)), .val (.ref a48), .val (.ref a51), .val (.ref a54), .val (.ref a56)] [(.int (2 : Int32))])) _
      refine XS.iload X60.here hx rfl (hb hby at_132) rfl ?_
      show Steps p.tables e below (T60.setTop (mkF m 134 #[.val (.int q0), .val (.long q1), .second, .val (.long q2), .second, .val (.long q3), .second, .val (.long q4), .second, .val (.int (2 : Int32)), .val (.ref a48), .val (.ref a51), .val (.ref a54), .val (.ref a56)] [(.int (2 : Int32)), (.int (2 : Int32))])) _
      refine XS.icmpYes X60.here hx rfl (pc0 := 134) (pc' := 139) rfl (hb hby at_134) rfl (by decide) (by decide) (by decide) ?_
      show Steps p.tables e below (T60.setTop (mkF m 139 #[.val (.int q0), .val (.long q1), .second, .val (.long q2), .second, .val (.long q3), .second, .val (.long q4), .second, .val (.int (2 : Int32)), .val (.ref a48), .val (.ref a51), .val (.ref a54), .val (.ref a56)] [])) _
      refine XS.iload X60.here hx rfl (hb hby at_139) rfl ?_
      show Steps p.tables e below (T60.setTop (mkF m 141 #[.val (.int q0), .val (.long q1), .second, .val (.long q2), .second, .val (.long q3), .second, .val (.long q4), .second, .val (.int (2 : Int32)), .val (.ref a48), .val (.ref a51), .val (.ref a54), .val (.ref a56)] [(.int (2 : Int32))])) _
      refine XS.iconst X60.here hx rfl (hb hby at_141) ?_
      show Steps p.tables e below (T60.setTop (mkF m 142 #[.val (.int q0), .val (.long q1), .second, .val (.long q2), .second, .val (.long q3), .second, .val (.long q4), .second, .val (.int (2 : Int32)), .val (.ref a48), .val (.ref a51), .val (.ref a54), .val (.ref a56)] [(.int (1 : Int32)), (.int (2 : Int32))])) _
      refine XS.icmpNo X60.here hx rfl (hb hby at_142) rfl (by decide) ?_
      show Steps p.tables e below (T60.setTop (mkF m 145 #[.val (.int q0), .val (.long q1), .second, .val (.long q2), .second, .val (.long q3), .second, .val (.long q4), .second, .val (.int (2 : Int32)), .val (.ref a48), .val (.ref a51), .val (.ref a54), .val (.ref a56)] [])) _
      refine XS.aload X60.here hx rfl (hb hby at_145) rfl rfl ?_
      show Steps p.tables e below (T60.setTop (mkF m 147 #[.val (.int q0), .val (.long q1), .second, .val (.long q2), .second, .val (.long q3), .second, .val (.long q4), .second, .val (.int (2 : Int32)), .val (.ref a48), .val (.ref a51), .val (.ref a54), .val (.ref a56)] [(.ref a54)])) _
      refine XS.iconst X60.here hx rfl (hb hby at_147) ?_
      show Steps p.tables e below (T60.setTop (mkF m 148 #[.val (.int q0), .val (.long q1), .second, .val (.long q2), .second, .val (.long q3), .second, .val (.long q4), .second, .val (.int (2 : Int32)), .val (.ref a48), .val (.ref a51), .val (.ref a54), .val (.ref a56)] [(.int (0 : Int32)), (.ref a54)])) _
      refine st61.trans ?_
      show Steps p.tables e below (T61.setTop (mkF m 151 #[.val (.int q0), .val (.long q1), .second, .val (.long q2), .second, .val (.long q3), .second, .val (.long q4), .second, .val (.int (2 : Int32)), .val (.ref a48), .val (.ref a51), .val (.ref a54), .val (.ref a56)] [(.long (q1 ||| q3))])) _
      refine XS.lloadN X61.here hx rfl (hb hby at_151) rfl ?_
      show Steps p.tables e below (T61.setTop (mkF m 152 #[.val (.int q0), .val (.long q1), .second, .val (.long q2), .second, .val (.long q3), .second, .val (.long q4), .second, .val (.int (2 : Int32)), .val (.ref a48), .val (.ref a51), .val (.ref a54), .val (.ref a56)] [(.long q1), (.long (q1 ||| q3))])) _
      refine XS.lload X61.here hx rfl (hb hby at_152) rfl ?_
      show Steps p.tables e below (T61.setTop (mkF m 154 #[.val (.int q0), .val (.long q1), .second, .val (.long q2), .second, .val (.long q3), .second, .val (.long q4), .second, .val (.int (2 : Int32)), .val (.ref a48), .val (.ref a51), .val (.ref a54), .val (.ref a56)] [(.long q3), (.long q1), (.long (q1 ||| q3))])) _
      refine XS.lor X61.here hx rfl (hb hby at_154) rfl ?_
      show Steps p.tables e below (T61.setTop (mkF m 155 #[.val (.int q0), .val (.long q1), .second, .val (.long q2), .second, .val (.long q3), .second, .val (.long q4), .second, .val (.int (2 : Int32)), .val (.ref a48), .val (.ref a51), .val (.ref a54), .val (.ref a56)] [(.long (q1 ||| q3)), (.long (q1 ||| q3))])) _
      refine XS.lcmp X61.here hx rfl (hb hby at_155) rfl ?_
      show Steps p.tables e below (T61.setTop (mkF m 156 #[.val (.int q0), .val (.long q1), .second, .val (.long q2), .second, .val (.long q3), .second, .val (.long q4), .second, .val (.int (2 : Int32)), .val (.ref a48), .val (.ref a51), .val (.ref a54), .val (.ref a56)] [(.int (lcmpW (q1 ||| q3) (q1 ||| q3)))])) _
      refine XS.ifNo X61.here hx rfl (hb hby at_156) rfl ((if0 _ _).trans (teq ((lw_eq (q1 ||| q3) (q1 ||| q3)).mpr c62)).2) ?_
      show Steps p.tables e below (T61.setTop (mkF m 159 #[.val (.int q0), .val (.long q1), .second, .val (.long q2), .second, .val (.long q3), .second, .val (.long q4), .second, .val (.int (2 : Int32)), .val (.ref a48), .val (.ref a51), .val (.ref a54), .val (.ref a56)] [])) _
      refine XS.aload X61.here hx rfl (hb hby at_159) rfl rfl ?_
      show Steps p.tables e below (T61.setTop (mkF m 161 #[.val (.int q0), .val (.long q1), .second, .val (.long q2), .second, .val (.long q3), .second, .val (.long q4), .second, .val (.int (2 : Int32)), .val (.ref a48), .val (.ref a51), .val (.ref a54), .val (.ref a56)] [(.ref a56)])) _
      refine XS.iconst X61.here hx rfl (hb hby at_161) ?_
      show Steps p.tables e below (T61.setTop (mkF m 162 #[.val (.int q0), .val (.long q1), .second, .val (.long q2), .second, .val (.long q3), .second, .val (.long q4), .second, .val (.int (2 : Int32)), .val (.ref a48), .val (.ref a51), .val (.ref a54), .val (.ref a56)] [(.int (0 : Int32)), (.ref a56)])) _
      refine st63.trans ?_
      show Steps p.tables e below (T63.setTop (mkF m 165 #[.val (.int q0), .val (.long q1), .second, .val (.long q2), .second, .val (.long q3), .second, .val (.long q4), .second, .val (.int (2 : Int32)), .val (.ref a48), .val (.ref a51), .val (.ref a54), .val (.ref a56)] [(.long q3)])) _
      refine XS.lload X63.here hx rfl (hb hby at_165) rfl ?_
      show Steps p.tables e below (T63.setTop (mkF m 167 #[.val (.int q0), .val (.long q1), .second, .val (.long q2), .second, .val (.long q3), .second, .val (.long q4), .second, .val (.int (2 : Int32)), .val (.ref a48), .val (.ref a51), .val (.ref a54), .val (.ref a56)] [(.long q3), (.long q3)])) _
      refine XS.lcmp X63.here hx rfl (hb hby at_167) rfl ?_
      show Steps p.tables e below (T63.setTop (mkF m 168 #[.val (.int q0), .val (.long q1), .second, .val (.long q2), .second, .val (.long q3), .second, .val (.long q4), .second, .val (.int (2 : Int32)), .val (.ref a48), .val (.ref a51), .val (.ref a54), .val (.ref a56)] [(.int (lcmpW q3 q3))])) _
      refine XS.ifYes X63.here hx rfl (pc0 := 168) (pc' := 173) rfl (hb hby at_168) rfl ((if0 _ _).trans (teq ((lw_eq q3 q3).mpr c64)).1) (by decide) (by decide) ?_
      show Steps p.tables e below (T63.setTop (mkF m 173 #[.val (.int q0), .val (.long q1), .second, .val (.long q2), .second, .val (.long q3), .second, .val (.long q4), .second, .val (.int (2 : Int32)), .val (.ref a48), .val (.ref a51), .val (.ref a54), .val (.ref a56)] [])) _
      refine XS.iload X63.here hx rfl (hb hby at_173) rfl ?_
      show Steps p.tables e below (T63.setTop (mkF m 175 #[.val (.int q0), .val (.long q1), .second, .val (.long q2), .second, .val (.long q3), .second, .val (.long q4), .second, .val (.int (2 : Int32)), .val (.ref a48), .val (.ref a51), .val (.ref a54), .val (.ref a56)] [(.int (2 : Int32))])) _
      refine XS.iconst X63.here hx rfl (hb hby at_175) ?_
      show Steps p.tables e below (T63.setTop (mkF m 176 #[.val (.int q0), .val (.long q1), .second, .val (.long q2), .second, .val (.long q3), .second, .val (.long q4), .second, .val (.int (2 : Int32)), .val (.ref a48), .val (.ref a51), .val (.ref a54), .val (.ref a56)] [(.int (2 : Int32)), (.int (2 : Int32))])) _
      refine XS.icmpNo X63.here hx rfl (hb hby at_176) rfl (by decide) ?_
      show Steps p.tables e below (T63.setTop (mkF m 179 #[.val (.int q0), .val (.long q1), .second, .val (.long q2), .second, .val (.long q3), .second, .val (.long q4), .second, .val (.int (2 : Int32)), .val (.ref a48), .val (.ref a51), .val (.ref a54), .val (.ref a56)] [])) _
      refine XS.aload X63.here hx rfl (hb hby at_179) rfl rfl ?_
      show Steps p.tables e below (T63.setTop (mkF m 181 #[.val (.int q0), .val (.long q1), .second, .val (.long q2), .second, .val (.long q3), .second, .val (.long q4), .second, .val (.int (2 : Int32)), .val (.ref a48), .val (.ref a51), .val (.ref a54), .val (.ref a56)] [(.ref a54)])) _
      refine XS.iconst X63.here hx rfl (hb hby at_181) ?_
      show Steps p.tables e below (T63.setTop (mkF m 182 #[.val (.int q0), .val (.long q1), .second, .val (.long q2), .second, .val (.long q3), .second, .val (.long q4), .second, .val (.int (2 : Int32)), .val (.ref a48), .val (.ref a51), .val (.ref a54), .val (.ref a56)] [(.int (1 : Int32)), (.ref a54)])) _
      refine st65.trans ?_
      show Steps p.tables e below (T65.setTop (mkF m 185 #[.val (.int q0), .val (.long q1), .second, .val (.long q2), .second, .val (.long q3), .second, .val (.long q4), .second, .val (.int (2 : Int32)), .val (.ref a48), .val (.ref a51), .val (.ref a54), .val (.ref a56)] [(.long (q2 ||| q4))])) _
      refine XS.lloadN X65.here hx rfl (hb hby at_185) rfl ?_
      show Steps p.tables e below (T65.setTop (mkF m 186 #[.val (.int q0), .val (.long q1), .second, .val (.long q2), .second, .val (.long q3), .second, .val (.long q4), .second, .val (.int (2 : Int32)), .val (.ref a48), .val (.ref a51), .val (.ref a54), .val (.ref a56)] [(.long q2), (.long (q2 ||| q4))])) _
      refine XS.lload X65.here hx rfl (hb hby at_186) rfl ?_
      show Steps p.tables e below (T65.setTop (mkF m 188 #[.val (.int q0), .val (.long q1), .second, .val (.long q2), .second, .val (.long q3), .second, .val (.long q4), .second, .val (.int (2 : Int32)), .val (.ref a48), .val (.ref a51), .val (.ref a54), .val (.ref a56)] [(.long q4), (.long q2), (.long (q2 ||| q4))])) _
      refine XS.lor X65.here hx rfl (hb hby at_188) rfl ?_
      show Steps p.tables e below (T65.setTop (mkF m 189 #[.val (.int q0), .val (.long q1), .second, .val (.long q2), .second, .val (.long q3), .second, .val (.long q4), .second, .val (.int (2 : Int32)), .val (.ref a48), .val (.ref a51), .val (.ref a54), .val (.ref a56)] [(.long (q2 ||| q4)), (.long (q2 ||| q4))])) _
      refine XS.lcmp X65.here hx rfl (hb hby at_189) rfl ?_
      show Steps p.tables e below (T65.setTop (mkF m 190 #[.val (.int q0), .val (.long q1), .second, .val (.long q2), .second, .val (.long q3), .second, .val (.long q4), .second, .val (.int (2 : Int32)), .val (.ref a48), .val (.ref a51), .val (.ref a54), .val (.ref a56)] [(.int (lcmpW (q2 ||| q4) (q2 ||| q4)))])) _
      refine XS.ifNo X65.here hx rfl (hb hby at_190) rfl ((if0 _ _).trans (teq ((lw_eq (q2 ||| q4) (q2 ||| q4)).mpr c66)).2) ?_
      show Steps p.tables e below (T65.setTop (mkF m 193 #[.val (.int q0), .val (.long q1), .second, .val (.long q2), .second, .val (.long q3), .second, .val (.long q4), .second, .val (.int (2 : Int32)), .val (.ref a48), .val (.ref a51), .val (.ref a54), .val (.ref a56)] [])) _
      refine XS.aload X65.here hx rfl (hb hby at_193) rfl rfl ?_
      show Steps p.tables e below (T65.setTop (mkF m 195 #[.val (.int q0), .val (.long q1), .second, .val (.long q2), .second, .val (.long q3), .second, .val (.long q4), .second, .val (.int (2 : Int32)), .val (.ref a48), .val (.ref a51), .val (.ref a54), .val (.ref a56)] [(.ref a56)])) _
      refine XS.iconst X65.here hx rfl (hb hby at_195) ?_
      show Steps p.tables e below (T65.setTop (mkF m 196 #[.val (.int q0), .val (.long q1), .second, .val (.long q2), .second, .val (.long q3), .second, .val (.long q4), .second, .val (.int (2 : Int32)), .val (.ref a48), .val (.ref a51), .val (.ref a54), .val (.ref a56)] [(.int (1 : Int32)), (.ref a56)])) _
      refine st67.trans ?_
      show Steps p.tables e below (T67.setTop (mkF m 199 #[.val (.int q0), .val (.long q1), .second, .val (.long q2), .second, .val (.long q3), .second, .val (.long q4), .second, .val (.int (2 : Int32)), .val (.ref a48), .val (.ref a51), .val (.ref a54), .val (.ref a56)] [(.long q4)])) _
      refine XS.lload X67.here hx rfl (hb hby at_199) rfl ?_
      show Steps p.tables e below (T67.setTop (mkF m 201 #[.val (.int q0), .val (.long q1), .second, .val (.long q2), .second, .val (.long q3), .second, .val (.long q4), .second, .val (.int (2 : Int32)), .val (.ref a48), .val (.ref a51), .val (.ref a54), .val (.ref a56)] [(.long q4), (.long q4)])) _
      refine XS.lcmp X67.here hx rfl (hb hby at_201) rfl ?_
      show Steps p.tables e below (T67.setTop (mkF m 202 #[.val (.int q0), .val (.long q1), .second, .val (.long q2), .second, .val (.long q3), .second, .val (.long q4), .second, .val (.int (2 : Int32)), .val (.ref a48), .val (.ref a51), .val (.ref a54), .val (.ref a56)] [(.int (lcmpW q4 q4))])) _
      refine XS.ifYes X67.here hx rfl (pc0 := 202) (pc' := 207) rfl (hb hby at_202) rfl ((if0 _ _).trans (teq ((lw_eq q4 q4).mpr c68)).1) (by decide) (by decide) ?_
      show Steps p.tables e below (T67.setTop (mkF m 207 #[.val (.int q0), .val (.long q1), .second, .val (.long q2), .second, .val (.long q3), .second, .val (.long q4), .second, .val (.int (2 : Int32)), .val (.ref a48), .val (.ref a51), .val (.ref a54), .val (.ref a56)] [])) _
      refine XS.iconst X67.here hx rfl (hb hby at_207) ?_
      show Steps p.tables e below (T67.setTop (mkF m 208 #[.val (.int q0), .val (.long q1), .second, .val (.long q2), .second, .val (.long q3), .second, .val (.long q4), .second, .val (.int (2 : Int32)), .val (.ref a48), .val (.ref a51), .val (.ref a54), .val (.ref a56)] [(.int (1 : Int32))])) _
      exact retN X67 hx (t := .boolean) Bd.returns (by simp) (hb hby at_208) hr
    · show Q0 Z q0 q1 q2 q3 q4 h0 n0 _ T67.heap _
      rw [e67]
      exact ⟨by simp only [own_f0, ← hv1, if_neg (by decide : ¬ ((3 : Int32) = (0 : Int32))), if_neg (by decide : ¬ ((3 : Int32) = (1 : Int32))), if_neg (by decide : ¬ ((3 : Int32) = (2 : Int32))), if_true, if_false], N67⟩

theorem own_plain (q0 : Int32) (q1 q2 q3 q4 : Int64) : own_f0 q0 q1 q2 q3 q4 = 1 := by
  simp only [own_f0, if_true, ite_self]

set_option maxRecDepth 65536 in
set_option maxHeartbeats 40000000 in
theorem comes_1 {Post : Tables → Env → Array Value → State → Outcome → State → Prop} (hpost : ∀ tb e args s v u, (limb_1_1.after args s (.returned v) u = true ∧ limb_1_2.after args s (.returned v) u = true ∧ True) → FrameEnd s (.returned v) u (Jvm.fieldLocs frame_1_writes args s ++ Jvm.arrayLocs frame_1_arrays args s ++ Jvm.staticLocs frame_1_statics s) 16 128 → Post tb e args s (.returned v) u) :
    ArmFor flags0 classFile x code maxLocals ret World_1 tables_1 room_1 Calls_1 rest_1 Pre_1 Post := by
  intro l hfl _ _ p e ha hc hk s m args below hf hA hF happ hP
  obtain ⟨hcalls, hrest, hpre⟩ := hP
  obtain ⟨-, -, -, hnamed, -, -, -, hat⟩ := (Spec.applies_iff hf).mp happ
  obtain ⟨hg, hn⟩ := and_e (Cond.before_iff.mp (show (Jvm.Cond.and given_1 narrow_1).before args s = true from hpre))
  obtain ⟨gc, gr0⟩ := and_e hg
  obtain ⟨w0, w1, w2, w3, w4, rfl⟩ : ∃ w0 w1 w2 w3 w4 : Value, args = #[w0, w1, w2, w3, w4] := by
    have hs : args.size = 5 := by simpa [Cond.value, given_1] using gc
    obtain ⟨L⟩ := args
    match L, hs with
    | [w0, w1, w2, w3, w4], _ => exact ⟨w0, w1, w2, w3, w4, rfl⟩
  have hw := fun d (hd : d ∈ tables_1) => atoms_spec (ws := Jvm.Cond.code x code maxLocals ret :: tables_1) hat d (List.mem_cons_of_mem _ hd)
  obtain ⟨g0, gr1⟩ := and_e gr0
  obtain ⟨i0, ei0⟩ := is_v g0
  obtain rfl : w0 = (.int i0) := Option.some.inj ei0
  obtain ⟨g1, gr2⟩ := and_e gr1
  obtain ⟨i1, ei1⟩ := isL_v g1
  obtain rfl : w1 = (.long i1) := Option.some.inj ei1
  obtain ⟨g2, gr3⟩ := and_e gr2
  obtain ⟨i2, ei2⟩ := isL_v g2
  obtain rfl : w2 = (.long i2) := Option.some.inj ei2
  obtain ⟨g3, gr4⟩ := and_e gr3
  obtain ⟨i3, ei3⟩ := isL_v g3
  obtain rfl : w3 = (.long i3) := Option.some.inj ei3
  obtain ⟨i4, ei4⟩ := isL_v gr4
  obtain rfl : w4 = (.long i4) := Option.some.inj ei4
  obtain ⟨n, o, h1, h2, h3, _, L, rfl, ⟨hv, N⟩, hq⟩ := rm0 l s _ hw tables_1 i0 i1 i2 i3 i4 s.heap s.heap.size (Nat.le_refl _) p e ha hc hk s m _ below hf ((Spec.applies_iff_loose hf).mp happ).1 ⟨rfl, State.Warmed39.refl s, rfl⟩ trivial
  rw [own_plain] at hv
  subst hv
  refine ⟨n, _, h1, h2, h3, hpost _ _ _ _ _ _ ⟨Cond.after_iff.mpr rfl, Cond.after_iff.mpr (eq_i res_at (Term.int_eval (1)) rfl), trivial⟩ ⟨hq.1, hq.2.1, (hq.2.2.sift fun y hy => Or.inr (N y hy)).mono (by decide) (by decide)⟩⟩
theorem main_1_1 : Claimed_1_1 := comes_1 fun _ _ _ _ _ _ h hF => ⟨h.1, hF⟩
theorem main_1_2 : Claimed_1_2 := comes_1 fun _ _ _ _ _ _ h hF => ⟨h.2.1, hF⟩
end Jvm.Pilot.@@N@@
namespace Jvm.Pilot.@@N@@
open Jvm Jvm.ClassFile Sem Op Lib Jvm.Free Jvm.Stand Jvm.Pilot.@@N@@.Jvm.D
/-! MADE BY PROGRAM (witnessworld.py) out of the Statement's table words and the real class files: 11 classes; the members and pool entries that the words name. The judged class is class 1, her method 1. -/
namespace start1
open Jvm.ClassFile
def u (s : String) : CpInfo := .utf8 (stringToUtf16 s)
/-- a pool by its gaps: so many unusable entries, then the entry; so many at the end -/
def gap : Nat → List CpInfo → List CpInfo
  | 0, r => r
  | n + 1, r => .unusable :: gap n r
def poolList (es : List (Nat × CpInfo)) (last : Nat) : List CpInfo := es.foldr (fun e r => gap e.1 (e.2 :: r)) (gap last [])
def pool (es : List (Nat × CpInfo)) (last : Nat) : Array CpInfo := ⟨poolList es last⟩
def fileOf (pool : Array CpInfo) (this : Nat) (attrs : Array Attribute := #[]) (ms : Array MethodInfo := #[]) (fl : Nat := 33) (sup : Nat := 0) (ifs : Array Nat := #[]) (fds : Array FieldInfo := #[]) : ClassFile where
  minorVersion := 0
  majorVersion := 65
  constantPool := pool
  accessFlags := fl
  thisClass := this
  superClass := sup
  interfaces := ifs
  fields := fds
  methods := ms
  attributes := attrs
def plain (name : String) (sup : Option ClassId) : Class where
  name := name
  kind := .ordinary
  loader := none
  accessFlags := 33
  super := sup
  interfaces := #[]
  cf := none
  fields := #[]
  methods := #[]
  instanceTypes := #[]
  staticTypes := #[]
  resolved := #[]
  callSites := []
  init := .initialized
  statics := none
  mirror := none

def pool0 : Array CpInfo := pool [(5, u "<init>"), (0, u "()V"), (1, .class_ 10), (1, u "java/lang/Object")] 113

def k0c0 : Code := { maxStack := 0, maxLocals := 1, code := object_method_1_code, exceptionTable := #[], attributes := #[] }
def k0m0 : Method := { name := "<init>", desc := "()V", sig := { parameters := [], returnType := none }, accessFlags := 1, code := some k0c0 }
/-- java/lang/Object -/
def k0 : Class := { plain "java/lang/Object" none with
  accessFlags := 33
  interfaces := #[]
  cf := some (fileOf pool0 8 #[] #[{ accessFlags := 1, nameIndex := 5, descriptorIndex := 6, attributes := #[] }] 33 0 #[] #[])
  fields := #[]
  methods := #[k0m0]
  instanceTypes := #[]
  staticTypes := #[]
  resolved := Array.replicate 124 none
  statics := none }

def pool1 : Array CpInfo := pool [(2, .class_ 4), (1, u "java/lang/Object"), (0, u "<init>"), (0, u "()V"), (0, .class_ 8), (0, u "com/example/mini_bloom/minibloom/BitArray"), (0, .methodref 7 10), (0, .nameAndType 5 11), (0, u "([J)V"), (0, .methodref 7 13), (0, .nameAndType 14 15), (0, u "or"), (0, u "(Lcom/example/mini_bloom/minibloom/BitArray;)V"), (0, .methodref 7 17), (0, .nameAndType 18 19), (0, u "words"), (0, u "()I"), (0, .methodref 7 21), (0, .nameAndType 22 23), (0, u "word"), (0, u "(I)J"), (0, .class_ 25), (0, u "com/example/mini_bloom/minibloom/BitArrayOrPinLaw"), (2, u "law"), (0, u "(IJJJJ)Z")] 5

def k1m0 : Method := { name := "<init>", desc := "()V", sig := { parameters := [], returnType := none }, accessFlags := 1, code := none }
def k1c1 : Code := { maxStack := 6, maxLocals := 14, code := code, exceptionTable := #[], attributes := #[] }
def k1m1 : Method := { name := "law", desc := "(IJJJJ)Z", sig := { parameters := [.int, .long, .long, .long, .long], returnType := some .boolean }, accessFlags := 9, code := some k1c1 }
/-- com/example/mini_bloom/minibloom/BitArrayOrPinLaw -/
def k1 : Class := { plain "com/example/mini_bloom/minibloom/BitArrayOrPinLaw" (some 0) with
  accessFlags := 49
  interfaces := #[]
  cf := some (fileOf pool1 24 #[] #[{ accessFlags := 1, nameIndex := 5, descriptorIndex := 6, attributes := #[] }, { accessFlags := 9, nameIndex := 28, descriptorIndex := 29, attributes := #[] }] 49 2 #[] #[])
  fields := #[]
  methods := #[k1m0, k1m1]
  instanceTypes := #[]
  staticTypes := #[]
  resolved := Array.replicate 35 none
  statics := none }

def pool2 : Array CpInfo := pool [(3, .methodref 4 5), (0, .class_ 6), (0, .nameAndType 7 8), (0, u "java/lang/Object"), (0, u "<init>"), (0, u "()V"), (1, .class_ 12), (1, u "com/example/mini_bloom/minibloom/BitArray"), (2, .fieldref 10 16), (0, .nameAndType 17 18), (0, u "words"), (0, u "[J"), (7, u "([J)V"), (9, u "(I)J"), (13, u "MAX_BITS"), (0, u "J"), (8, u "or"), (0, u "(Lcom/example/mini_bloom/minibloom/BitArray;)V"), (3, u "()I"), (0, u "word")] 15

def k2c0 : Code := { maxStack := 2, maxLocals := 2, code := prog_1_method_2_code, exceptionTable := #[], attributes := #[] }
def k2m0 : Method := { name := "<init>", desc := "([J)V", sig := { parameters := [(.array .long)], returnType := none }, accessFlags := 0, code := some k2c0 }
def k2c1 : Code := { maxStack := 6, maxLocals := 3, code := prog_1_method_4_code, exceptionTable := #[], attributes := #[] }
def k2m1 : Method := { name := "or", desc := "(Lcom/example/mini_bloom/minibloom/BitArray;)V", sig := { parameters := [(.object "com/example/mini_bloom/minibloom/BitArray")], returnType := none }, accessFlags := 0, code := some k2c1 }
def k2c2 : Code := { maxStack := 1, maxLocals := 1, code := prog_1_method_7_code, exceptionTable := #[], attributes := #[] }
def k2m2 : Method := { name := "words", desc := "()I", sig := { parameters := [], returnType := some .int }, accessFlags := 0, code := some k2c2 }
def k2c3 : Code := { maxStack := 2, maxLocals := 2, code := prog_1_method_8_code, exceptionTable := #[], attributes := #[] }
def k2m3 : Method := { name := "word", desc := "(I)J", sig := { parameters := [.int], returnType := some .long }, accessFlags := 0, code := some k2c3 }
/-- com/example/mini_bloom/minibloom/BitArray -/
def k2 : Class := { plain "com/example/mini_bloom/minibloom/BitArray" (some 0) with
  accessFlags := 48
  interfaces := #[]
  cf := some (fileOf pool2 10 #[] #[{ accessFlags := 0, nameIndex := 7, descriptorIndex := 26, attributes := #[] }, { accessFlags := 0, nameIndex := 60, descriptorIndex := 61, attributes := #[] }, { accessFlags := 0, nameIndex := 17, descriptorIndex := 65, attributes := #[] }, { accessFlags := 0, nameIndex := 66, descriptorIndex := 36, attributes := #[] }] 48 4 #[] #[{ accessFlags := 24, nameIndex := 50, descriptorIndex := 51, attributes := #[] }, { accessFlags := 18, nameIndex := 17, descriptorIndex := 18, attributes := #[] }])
  fields := #[{ name := "MAX_BITS", type := .long, accessFlags := 24, slot := 0, constantValue := 0 }, { name := "words", type := (.array .long), accessFlags := 18, slot := 0, constantValue := 0 }]
  methods := #[k2m0, k2m1, k2m2, k2m3]
  instanceTypes := #[(.array .long)]
  staticTypes := #[.long]
  resolved := Array.replicate 82 none
  statics := none }

def pool3 : Array CpInfo := pool [(1, u "java/lang/Cloneable"), (0, .class_ 1), (0, u "java/lang/Object"), (0, .class_ 3)] 3

/-- java/lang/Cloneable -/
def k3 : Class := { plain "java/lang/Cloneable" (some 0) with
  accessFlags := 1537
  interfaces := #[]
  cf := some (fileOf pool3 2 #[] #[] 1537 4 #[] #[])
  fields := #[]
  methods := #[]
  instanceTypes := #[]
  staticTypes := #[]
  resolved := Array.replicate 8 none
  statics := none }

def pool4 : Array CpInfo := pool [(1, u "java/io/Serializable"), (0, .class_ 1), (0, u "java/lang/Object"), (0, .class_ 3)] 3

/-- java/io/Serializable -/
def k4 : Class := { plain "java/io/Serializable" (some 0) with
  accessFlags := 1537
  interfaces := #[]
  cf := some (fileOf pool4 2 #[] #[] 1537 4 #[] #[])
  fields := #[]
  methods := #[]
  instanceTypes := #[]
  staticTypes := #[]
  resolved := Array.replicate 8 none
  statics := none }

/-- the primitive byte -/
def k5 : Class := { plain "byte" none with kind := .primitive 'B', accessFlags := 0x411 }
/-- [B -/
def k6 : Class := { plain "[B" (some 0) with kind := .array 5 .byte, interfaces := #[3, 4], accessFlags := 1041 }

/-- the primitive int -/
def k7 : Class := { plain "int" none with kind := .primitive 'I', accessFlags := 0x411 }
/-- [I -/
def k8 : Class := { plain "[I" (some 0) with kind := .array 7 .int, interfaces := #[3, 4], accessFlags := 1041 }

/-- the primitive long -/
def k9 : Class := { plain "long" none with kind := .primitive 'J', accessFlags := 0x411 }
/-- [J -/
def k10 : Class := { plain "[J" (some 0) with kind := .array 9 .long, interfaces := #[3, 4], accessFlags := 1041 }

def heap : Heap := #[]
def classes : Array Class := #[k0, k1, k2, k3, k4, k5, k6, k7, k8, k9, k10]
def interned : List (Array UInt16 × Addr) := []
def slotsUsed : Nat := 0
def theMethod : MethodId := ⟨1, 1⟩
def args0 : Array Value := #[.int 2, .long 5, .long 6, .long 7, .long 8]
def aboutOver (below : List Frame) : State where
  vm := { classes := classes, interned := interned.toArray }
  heap := heap
  slotsUsed := slotsUsed
  threads := #[{ frames := .invoking theMethod args0 :: below }]
def below0 : List Frame := [.native { method := ⟨0, 0⟩, args := #[] }]
def about1 : State := aboutOver below0
def p0 : Program := .bare "" "" ""
def e0 : Env := launch0.env 0 0 0
theorem w_frames : about1.frames = Frame.invoking theMethod args0 :: below0 := rfl
set_option maxRecDepth 65536 in
theorem w_args : argsFit about1.vm theMethod args0 = true := by decide +kernel
set_option maxRecDepth 65536 in
theorem w_heap : heapFits about1 = true := by decide +kernel
set_option maxRecDepth 65536 in
theorem w_runnable : about1.curStatus? = some .runnable := by decide +kernel
set_option maxRecDepth 65536 in
theorem w_alone : about1.alone = true := by decide +kernel
set_option maxRecDepth 65536 in
theorem w_named : about1.methodNamed? x = some theMethod := by decide +kernel
set_option maxRecDepth 65536 in
theorem w_hears : about1.hears theMethod below0 = true := by decide +kernel
set_option maxRecDepth 65536 in
theorem w_ripe : about1.ripe theMethod args0 below0 = true := by decide +kernel
theorem w_running : about1.status = .running := rfl
set_option maxRecDepth 65536 in
theorem w_room : about1.hasRoom e0.platform room_1 = true :=
  launch0.hasRoom_least _ room_1 (by decide +kernel) (by decide +kernel) (by decide +kernel) (by decide +kernel) (by decide +kernel) (by decide +kernel)
theorem allAtoms_all (ts : List Jvm.Cond) (a : Array Jvm.Value) (st : Jvm.State) : (allAtoms ts).before a st = ts.all (fun c => c.before a st) := by
  induction ts with
  | nil => rfl
  | cons c t ih =>
    show (Jvm.Cond.and c (allAtoms t)).before a st = _
    rw [Jvm.Cond.before_and, ih, List.all_cons]
def words1 : List Jvm.Cond := Jvm.Cond.code x code maxLocals ret :: tables_1
/-- a 'code' word, met by the world's own term for the bytes: nothing is compared byte by byte -/
theorem code_word {y : MethodName} {bytes : ByteArray} {mx : Nat} {rt : Option FieldType} {a : Array Value} {s : State} {m : MethodId} {meth : Method} {c : Code} (h1 : s.methodNamed? y = some m) (h2 : s.vm.method? m = some meth) (h3 : meth.code = some c) (h4 : c.code = bytes)
    (h5 : (c.maxLocals == mx && c.exceptionTable.isEmpty && decide (c.maxStack ≤ mostOperands) && decide (meth.sig.returnType = rt) && !meth.locks && decide (parseMethodDescriptor y.desc = some meth.sig)) = true) : (Jvm.Cond.code y bytes mx rt).before a s = true := by
  simp only [Bool.and_eq_true, beq_iff_eq, Bool.not_eq_true', decide_eq_true_eq] at h5
  obtain ⟨⟨⟨⟨⟨g1, g2⟩, g3⟩, g4⟩, g5⟩, g6⟩ := h5
  simp [Cond.before, Cond.holds, Cond.value, h1, h2, h3, h4, g1, g2, g3, g4, g5, g6]
def isCode : Jvm.Cond → Bool
  | .code _ _ _ _ => true
  | _ => false
theorem all_split {L : List Jvm.Cond} {P : Jvm.Cond → Bool} (h1 : L.all (fun c => isCode c || P c) = true) (h2 : ∀ c ∈ L.filter isCode, P c = true) : L.all P = true := by
  refine List.all_eq_true.mpr fun c hc => ?_
  have h := List.all_eq_true.mp h1 c hc
  rcases Bool.eq_false_or_eq_true (isCode c) with hi | hi
  · exact h2 c (List.mem_filter.mpr ⟨hc, hi⟩)
  · simpa [hi] using h
set_option maxRecDepth 65536 in
theorem w_c0 : (Jvm.Cond.code x code maxLocals ret).before args0 about1 = true := code_word (m := ⟨1, 1⟩) (meth := k1m1) (c := k1c1) (by decide +kernel) rfl rfl rfl (by decide +kernel)
set_option maxRecDepth 65536 in
theorem w_c1 : (Jvm.Cond.code ({ cls := "com/example/mini_bloom/minibloom/BitArray", name := "<init>", desc := "([J)V" } : Jvm.MethodName) prog_1_method_2_code (2 : Nat) (Option.none : Option Jvm.ClassFile.FieldType)).before args0 about1 = true := code_word (m := ⟨2, 0⟩) (meth := k2m0) (c := k2c0) (by decide +kernel) rfl rfl rfl (by decide +kernel)
set_option maxRecDepth 65536 in
theorem w_c2 : (Jvm.Cond.code ({ cls := "java/lang/Object", name := "<init>", desc := "()V" } : Jvm.MethodName) object_method_1_code (1 : Nat) (Option.none : Option Jvm.ClassFile.FieldType)).before args0 about1 = true := code_word (m := ⟨0, 0⟩) (meth := k0m0) (c := k0c0) (by decide +kernel) rfl rfl rfl (by decide +kernel)
set_option maxRecDepth 65536 in
theorem w_c3 : (Jvm.Cond.code ({ cls := "com/example/mini_bloom/minibloom/BitArray", name := "or", desc := "(Lcom/example/mini_bloom/minibloom/BitArray;)V" } : Jvm.MethodName) prog_1_method_4_code (3 : Nat) (Option.none : Option Jvm.ClassFile.FieldType)).before args0 about1 = true := code_word (m := ⟨2, 1⟩) (meth := k2m1) (c := k2c1) (by decide +kernel) rfl rfl rfl (by decide +kernel)
set_option maxRecDepth 65536 in
theorem w_c4 : (Jvm.Cond.code ({ cls := "com/example/mini_bloom/minibloom/BitArray", name := "words", desc := "()I" } : Jvm.MethodName) prog_1_method_7_code (1 : Nat) (Option.some Jvm.ClassFile.FieldType.int)).before args0 about1 = true := code_word (m := ⟨2, 2⟩) (meth := k2m2) (c := k2c2) (by decide +kernel) rfl rfl rfl (by decide +kernel)
set_option maxRecDepth 65536 in
theorem w_c5 : (Jvm.Cond.code ({ cls := "com/example/mini_bloom/minibloom/BitArray", name := "word", desc := "(I)J" } : Jvm.MethodName) prog_1_method_8_code (2 : Nat) (Option.some Jvm.ClassFile.FieldType.long)).before args0 about1 = true := code_word (m := ⟨2, 3⟩) (meth := k2m3) (c := k2c3) (by decide +kernel) rfl rfl rfl (by decide +kernel)
def codes1 : List Jvm.Cond := [Jvm.Cond.code x code maxLocals ret, Jvm.Cond.code ({ cls := "com/example/mini_bloom/minibloom/BitArray", name := "<init>", desc := "([J)V" } : Jvm.MethodName) prog_1_method_2_code (2 : Nat) (Option.none : Option Jvm.ClassFile.FieldType), Jvm.Cond.code ({ cls := "java/lang/Object", name := "<init>", desc := "()V" } : Jvm.MethodName) object_method_1_code (1 : Nat) (Option.none : Option Jvm.ClassFile.FieldType), Jvm.Cond.code ({ cls := "com/example/mini_bloom/minibloom/BitArray", name := "or", desc := "(Lcom/example/mini_bloom/minibloom/BitArray;)V" } : Jvm.MethodName) prog_1_method_4_code (3 : Nat) (Option.none : Option Jvm.ClassFile.FieldType), Jvm.Cond.code ({ cls := "com/example/mini_bloom/minibloom/BitArray", name := "words", desc := "()I" } : Jvm.MethodName) prog_1_method_7_code (1 : Nat) (Option.some Jvm.ClassFile.FieldType.int), Jvm.Cond.code ({ cls := "com/example/mini_bloom/minibloom/BitArray", name := "word", desc := "(I)J" } : Jvm.MethodName) prog_1_method_8_code (2 : Nat) (Option.some Jvm.ClassFile.FieldType.long)]
set_option maxRecDepth 65536 in
theorem codes_eq : words1.filter isCode = codes1 := rfl
theorem w_codes : ∀ c ∈ words1.filter isCode, c.before args0 about1 = true := by
  rw [codes_eq]
  intro c hc
  simp only [codes1, List.mem_cons, List.not_mem_nil, or_false] at hc
  rcases hc with rfl | rfl | rfl | rfl | rfl | rfl
  · exact w_c0
  · exact w_c1
  · exact w_c2
  · exact w_c3
  · exact w_c4
  · exact w_c5
set_option maxRecDepth 65536 in
theorem w_t1 : (words1.take 24).all (fun c => isCode c || c.before args0 about1) = true := by decide +kernel
set_option maxRecDepth 65536 in
theorem w_t2 : (words1.drop 24).all (fun c => isCode c || c.before args0 about1) = true := by decide +kernel
theorem w_tables : (allAtoms (Jvm.Cond.code x code maxLocals ret :: tables_1)).before args0 about1 = true := by
  rw [allAtoms_all]
  show words1.all (fun c => c.before args0 about1) = true
  refine all_split ?_ w_codes
  rw [← List.take_append_drop 24 words1, List.all_append, w_t1, w_t2]
  rfl
set_option maxRecDepth 65536 in
theorem w_case : (Jvm.Cond.and given_1 narrow_1).before args0 about1 = true := by decide +kernel
theorem w_applies : (headSpec (Jvm.Cond.code x code maxLocals ret :: tables_1) room_1).applies x e0.platform about1 = true :=
  (Spec.applies_iff w_frames).mpr ⟨w_running, w_runnable, w_alone, w_named, w_hears, w_ripe, w_room, w_tables⟩
theorem atStart : AtStart classFile x code maxLocals ret World_1 tables_1 room_1 Calls_1 rest_1 Pre_1 launch0 p0 e0 about1 theMethod args0 below0 :=
  ⟨lists_1, trivial, launch0.admits_env _ _ _, launch0.least_env, fairChoices_fair.cas, fairChoices_fair.clock, w_frames, w_args, w_heap, w_applies, trivial, trivial, w_case⟩
end start1
theorem witness_1 : WitnessClaimed_1 := ⟨start1.p0, start1.e0, start1.about1, start1.theMethod, start1.args0, start1.below0, start1.atStart⟩
end Jvm.Pilot.@@N@@
