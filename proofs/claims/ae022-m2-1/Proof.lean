import JvmDerived
import JvmDerived.Pilot.@@N@@Statement
import JvmDerived.Pilot.@@N@@Code
set_option linter.unusedVariables false
set_option linter.unusedSimpArgs false
namespace Jvm.RoadKit
open Sem ClassFile Op Lib Jvm.Stand Jvm.Free Jvm.LawKit
section New
variable {p : Program} {l : Launch} {e : Env} {R : Room} {s : State} {m : MethodId} {args : Array Value} {below : List Frame} {meth : Method} {c : Code} {T : State} {locs : List Loc} {cells slots : Nat}
theorem retI (X : Stand p l e R s m args below meth c T locs cells slots) (hx : p.tables.exec = Jvm.exec) {pc : Nat} {Ls : Array Slot} {z : Int32} {rest : List Value} (hret : meth.sig.returnType = some .int) (hd : decode c.code pc = .ok (.ireturn, 1)) {fs : List Frame}
    (hl : ∀ (f : JFrame) (acts : List Action), f.method = m → f.locked = none → f.entered = [] → (doReturn e (T.setTop f) acts (some (.int z))).1 = T.setFrames fs) : Steps p.tables e below (T.setTop (mkF m pc Ls (.int z :: rest))) (T.setFrames fs) := by
  have hm' : T.vm.method? m = some meth := X.method'
  have hn : narrow .int (.int z) = .int z := rfl
  show Steps p.tables e below (T.setTop { method := m, pc := pc, locals := Ls, stack := _ :: rest, locked := none }) _
  jvm_step X.here [X.here.top, hx, hd, hm', hret, hn]
  first | (intro acts; rw [hl _ acts rfl rfl rfl]) | rw [hl _ _ rfl rfl rfl]
  exact Steps.refl _
end New
end Jvm.RoadKit
namespace Jvm.Pilot.@@N@@
open Jvm Jvm.ClassFile Sem Op Lib Jvm.Free Jvm.Stand Jvm.LawKit Jvm.RoadKit Bundle Jvm.Pilot.@@N@@.Jvm.D
section OwnKit
variable {p : Program} {l : Launch} {e : Env} {R : Room} {s : State} {m : MethodId} {args : Array Value} {below : List Frame} {meth : Method} {c : Code} {T : State} {locs : List Loc} {cells slots : Nat} {Z : State} {h h' : Heap}
theorem own_lremM {g : JFrame} {target : State} (X : Stand p l e R s m args below meth c T locs cells slots) (hx : p.tables.exec = Jvm.exec) (hg : g.method = m) {x y : Int64} {rest : List Value} (hd : decode c.code g.pc = .ok (.lrem, 1)) (hs : g.stack = .long y :: .long x :: rest) (hy : y ≠ 0)
    (hr : Steps p.tables e below (T.setTop { g with pc := g.pc + 1, stack := .long (x % y) :: rest }) target) : Steps p.tables e below (T.setTop g) target :=
  XS.lrem X.here hx hg hd hs hy (by rw [lrem_mod]; exact hr)
/-- an array, by the list of its values -/
def own_A (Z : State) (h : Heap) (a : Addr) (ty : FieldType) (vs : List Value) : Prop := ∃ c : Cell, Arr Z h a c ty ∧ c.slots = vs.toArray
def own_AJ (Z : State) (h : Heap) (a : Addr) (xs : List Int64) : Prop := own_A Z h a .long (xs.map .long)
def own_AI (Z : State) (h : Heap) (a : Addr) (ty : FieldType) (xs : List Int32) : Prop := own_A Z h a ty (xs.map .int)
section Facts
variable {a b : Addr} {ty : FieldType} {vs : List Value} {xs : List Int64} {ys : List Int32} {sl : Nat} {v : Value} {ws : List Addr}
theorem own_A.ext (F : own_A Z h a ty vs) (E : Ext h h') : own_A Z h' a ty vs := by obtain ⟨c, A, r⟩ := F; exact ⟨c, A.ext E, r⟩
theorem own_A.other (F : own_A Z h b ty vs) (W : Wr h h' a sl v) (q : b ≠ a) : own_A Z h' b ty vs := by obtain ⟨c, A, r⟩ := F; exact ⟨c, A.other W q, r⟩
theorem own_A.keep (F : own_A Z h a ty vs) (K : Keep h h' ws) (q : a ∉ ws) : own_A Z h' a ty vs := by obtain ⟨c, A, r⟩ := F; exact ⟨c, ⟨K.2.1 a c A.1 q, A.2⟩, r⟩
theorem own_A.lt (F : own_A Z h a ty vs) : a < h.size := by obtain ⟨c, A, -⟩ := F; exact A.lt
theorem own_AJ.ext (F : own_AJ Z h a xs) (E : Ext h h') : own_AJ Z h' a xs := own_A.ext F E
theorem own_AJ.other (F : own_AJ Z h b xs) (W : Wr h h' a sl v) (q : b ≠ a) : own_AJ Z h' b xs := own_A.other F W q
theorem own_AJ.keep (F : own_AJ Z h a xs) (K : Keep h h' ws) (q : a ∉ ws) : own_AJ Z h' a xs := own_A.keep F K q
theorem own_AJ.lt (F : own_AJ Z h a xs) : a < h.size := own_A.lt F
theorem own_AI.ext (F : own_AI Z h a ty ys) (E : Ext h h') : own_AI Z h' a ty ys := own_A.ext F E
theorem own_AI.other (F : own_AI Z h b ty ys) (W : Wr h h' a sl v) (q : b ≠ a) : own_AI Z h' b ty ys := own_A.other F W q
theorem own_AI.keep (F : own_AI Z h a ty ys) (K : Keep h h' ws) (q : a ∉ ws) : own_AI Z h' a ty ys := own_A.keep F K q
theorem own_AI.lt (F : own_AI Z h a ty ys) : a < h.size := own_A.lt F
theorem own_A.set (F : own_A Z h a ty vs) {k : Nat} (W : Wr h h' a k v) : own_A Z h' a ty (vs.set k v) := by
  obtain ⟨c, A, r⟩ := F
  refine ⟨c.setSlot k v, A.same W, ?_⟩
  simp [Cell.setSlot, r]
theorem own_A_new {cA : ClassId} {n : Int32} {k : Nat} (A : Arr Z h a (newA cA ty n) ty) (hk : n.toNatClampNeg = k) : own_A Z h a ty (List.replicate k (defaultValue ty)) := by
  subst hk
  exact ⟨_, A, by simp [newA]⟩
theorem own_AJ_new {cA : ClassId} {n : Int32} {k : Nat} (A : Arr Z h a (newA cA .long n) .long) (hk : n.toNatClampNeg = k) : own_AJ Z h a (List.replicate k 0) := by
  have q := own_A_new A hk
  rw [own_AJ, List.map_replicate]; exact q
theorem own_AIint_new {cA : ClassId} {n : Int32} {k : Nat} (A : Arr Z h a (newA cA .int n) .int) (hk : n.toNatClampNeg = k) : own_AI Z h a .int (List.replicate k 0) := by
  have q := own_A_new A hk
  rw [own_AI, List.map_replicate]; exact q
theorem own_AIbyte_new {cA : ClassId} {n : Int32} {k : Nat} (A : Arr Z h a (newA cA .byte n) .byte) (hk : n.toNatClampNeg = k) : own_AI Z h a .byte (List.replicate k 0) := by
  have q := own_A_new A hk
  rw [own_AI, List.map_replicate]; exact q
theorem own_AIboolean_new {cA : ClassId} {n : Int32} {k : Nat} (A : Arr Z h a (newA cA .boolean n) .boolean) (hk : n.toNatClampNeg = k) : own_AI Z h a .boolean (List.replicate k 0) := by
  have q := own_A_new A hk
  rw [own_AI, List.map_replicate]; exact q
theorem own_inb {cl : Cell} {j : Int32} (r : cl.slots = vs.toArray) (hj : 0 ≤ j.toInt ∧ j.toInt < (vs.length : Nat)) : ¬ (j < 0 ∨ cl.slots.size ≤ j.toNatClampNeg) ∧ j.toNatClampNeg = j.toInt.toNat := by
  have e : j.toNatClampNeg = j.toInt.toNat := rfl
  refine ⟨fun q => ?_, e⟩
  rcases q with q | q
  · rw [Int32.lt_iff_toInt_lt] at q
    have : (0 : Int32).toInt = 0 := by decide
    omega
  · rw [r, e] at q
    simp at q
    omega
end Facts
theorem own_at? {α : Type} (f : α → Value) (xs : List α) (k : Nat) (d : α) (hk : k < xs.length) : (xs.map f).toArray[k]? = some (f (xs.getD k d)) := by
  simp [List.getD, hk]
section Loads
variable {a : Addr} {xs : List Int64} {ys : List Int32} {j : Int32} {pc : Nat} {Ls : Array Slot} {rest : List Value}
theorem own_laload (X : Stand p l e R s m args below meth c T locs cells slots) (hx : p.tables.exec = Jvm.exec) (hZ : Z.Warmed39 s.vm) (eT : T.heap = h) (A : own_AJ Z h a xs) (hj : 0 ≤ j.toInt ∧ j.toInt < (xs.length : Nat)) (hd : decode c.code pc = .ok (.laload, 1)) (target : State)
    (hr : Steps p.tables e below (T.setTop (mkF m (pc + 1) Ls (.long (xs.getD j.toInt.toNat 0) :: rest))) target) : Steps p.tables e below (T.setTop (mkF m pc Ls (.int j :: .ref a :: rest))) target := by
  obtain ⟨cl, A, r⟩ := A
  obtain ⟨q1, q2⟩ := own_inb (j := j) r (by simpa using hj)
  refine X.laload hx (by rw [eT]; exact A.1) (State.isArrayOf_alike hZ.alike A.2.1) A.2.2 q1 (v := .long (xs.getD j.toInt.toNat 0)) ?_ (g := mkF m pc Ls (.int j :: .ref a :: rest)) rfl rfl hd target hr
  rw [q2, r]
  exact own_at? _ xs _ 0 (by omega)
theorem own_iaload (X : Stand p l e R s m args below meth c T locs cells slots) (hx : p.tables.exec = Jvm.exec) (hZ : Z.Warmed39 s.vm) (eT : T.heap = h) (A : own_AI Z h a .int ys) (hj : 0 ≤ j.toInt ∧ j.toInt < (ys.length : Nat)) (hd : decode c.code pc = .ok (.iaload, 1)) (target : State)
    (hr : Steps p.tables e below (T.setTop (mkF m (pc + 1) Ls (.int (ys.getD j.toInt.toNat 0) :: rest))) target) : Steps p.tables e below (T.setTop (mkF m pc Ls (.int j :: .ref a :: rest))) target := by
  obtain ⟨cl, A, r⟩ := A
  obtain ⟨q1, q2⟩ := own_inb (j := j) r (by simpa using hj)
  refine X.iaload hx (by rw [eT]; exact A.1) (State.isArrayOf_alike hZ.alike A.2.1) A.2.2 q1 (v := .int (ys.getD j.toInt.toNat 0)) ?_ (g := mkF m pc Ls (.int j :: .ref a :: rest)) rfl rfl hd target hr
  rw [q2, r]
  exact own_at? _ ys _ 0 (by omega)
theorem own_baloadB (X : Stand p l e R s m args below meth c T locs cells slots) (hx : p.tables.exec = Jvm.exec) (hZ : Z.Warmed39 s.vm) (eT : T.heap = h) (A : own_AI Z h a .byte ys) (hj : 0 ≤ j.toInt ∧ j.toInt < (ys.length : Nat)) (hd : decode c.code pc = .ok (.baload, 1)) (target : State)
    (hr : Steps p.tables e below (T.setTop (mkF m (pc + 1) Ls (.int (ys.getD j.toInt.toNat 0) :: rest))) target) : Steps p.tables e below (T.setTop (mkF m pc Ls (.int j :: .ref a :: rest))) target := by
  obtain ⟨cl, A, r⟩ := A
  obtain ⟨q1, q2⟩ := own_inb (j := j) r (by simpa using hj)
  refine X.baloadBytes hx (by rw [eT]; exact A.1) (State.isArrayOf_alike hZ.alike A.2.1) A.2.2 q1 (v := .int (ys.getD j.toInt.toNat 0)) ?_ (g := mkF m pc Ls (.int j :: .ref a :: rest)) rfl rfl hd target hr
  rw [q2, r]
  exact own_at? _ ys _ 0 (by omega)
theorem own_baloadZ (X : Stand p l e R s m args below meth c T locs cells slots) (hx : p.tables.exec = Jvm.exec) (hZ : Z.Warmed39 s.vm) (eT : T.heap = h) (A : own_AI Z h a .boolean ys) (hj : 0 ≤ j.toInt ∧ j.toInt < (ys.length : Nat)) (hd : decode c.code pc = .ok (.baload, 1)) (target : State)
    (hr : Steps p.tables e below (T.setTop (mkF m (pc + 1) Ls (.int (ys.getD j.toInt.toNat 0) :: rest))) target) : Steps p.tables e below (T.setTop (mkF m pc Ls (.int j :: .ref a :: rest))) target := by
  obtain ⟨cl, A, r⟩ := A
  obtain ⟨q1, q2⟩ := own_inb (j := j) r (by simpa using hj)
  refine X.baloadBooleans hx (by rw [eT]; exact A.1) (State.isArrayOf_alike hZ.alike A.2.1) A.2.2 q1 (v := .int (ys.getD j.toInt.toNat 0)) ?_ (g := mkF m pc Ls (.int j :: .ref a :: rest)) rfl rfl hd target hr
  rw [q2, r]
  exact own_at? _ ys _ 0 (by omega)
theorem own_alenJ (X : Stand p l e R s m args below meth c T locs cells slots) (hx : p.tables.exec = Jvm.exec) (hZ : Z.Warmed39 s.vm) (eT : T.heap = h) (A : own_AJ Z h a xs) (hd : decode c.code pc = .ok (.arraylength, 1)) (target : State)
    (hr : Steps p.tables e below (T.setTop (mkF m (pc + 1) Ls (.int xs.length.toInt32 :: rest))) target) : Steps p.tables e below (T.setTop (mkF m pc Ls (.ref a :: rest))) target := by
  obtain ⟨cl, A, r⟩ := A
  refine X.arraylength hx (by rw [eT]; exact A.1) (State.isArrayOf_alike hZ.alike A.2.1) (g := mkF m pc Ls (.ref a :: rest)) rfl rfl hd target ?_
  rw [r]
  simpa using hr
theorem own_alenI {ty : FieldType} (X : Stand p l e R s m args below meth c T locs cells slots) (hx : p.tables.exec = Jvm.exec) (hZ : Z.Warmed39 s.vm) (eT : T.heap = h) (A : own_AI Z h a ty ys) (hd : decode c.code pc = .ok (.arraylength, 1)) (target : State)
    (hr : Steps p.tables e below (T.setTop (mkF m (pc + 1) Ls (.int ys.length.toInt32 :: rest))) target) : Steps p.tables e below (T.setTop (mkF m pc Ls (.ref a :: rest))) target := by
  obtain ⟨cl, A, r⟩ := A
  refine X.arraylength hx (by rw [eT]; exact A.1) (State.isArrayOf_alike hZ.alike A.2.1) (g := mkF m pc Ls (.ref a :: rest)) rfl rfl hd target ?_
  rw [r]
  simpa using hr
theorem own_lastore (X : Stand p l e R s m args below meth c T locs cells slots) (hx : p.tables.exec = Jvm.exec) (hZ : Z.Warmed39 s.vm) (eT : T.heap = h) (A : own_AJ Z h a xs) (hj : 0 ≤ j.toInt ∧ j.toInt < (xs.length : Nat)) {x : Int64} (hd : decode c.code pc = .ok (.lastore, 1)) :
    ∃ T' h', Stand p l e R s m args below meth c T' (locs ++ [⟨a, j.toInt.toNat⟩]) cells slots ∧ T'.heap = h' ∧ Wr h h' a j.toInt.toNat (.long x) ∧ own_AJ Z h' a (xs.set j.toInt.toNat x) ∧ ∀ target, Steps p.tables e below (T'.setTop (mkF m (pc + 1) Ls rest)) target → Steps p.tables e below (T.setTop (mkF m pc Ls (.long x :: .int j :: .ref a :: rest))) target := by
  obtain ⟨cl, B, r⟩ := A
  obtain ⟨q1, q2⟩ := own_inb (j := j) r (by simpa using hj)
  obtain ⟨T', h', X', e', W', st⟩ := stJ X hx hZ eT B q1 (x := x) (g := mkF m pc Ls (.long x :: .int j :: .ref a :: rest)) rfl rfl hd
  rw [q2] at X' W'
  exact ⟨T', h', X', e', W', by have := own_A.set ⟨cl, B, r⟩ W'; rw [own_AJ, List.map_set]; exact this, st⟩
theorem own_iastore (X : Stand p l e R s m args below meth c T locs cells slots) (hx : p.tables.exec = Jvm.exec) (hZ : Z.Warmed39 s.vm) (eT : T.heap = h) (A : own_AI Z h a .int ys) (hj : 0 ≤ j.toInt ∧ j.toInt < (ys.length : Nat)) {x : Int32} (hd : decode c.code pc = .ok (.iastore, 1)) :
    ∃ T' h', Stand p l e R s m args below meth c T' (locs ++ [⟨a, j.toInt.toNat⟩]) cells slots ∧ T'.heap = h' ∧ Wr h h' a j.toInt.toNat (.int x) ∧ own_AI Z h' a .int (ys.set j.toInt.toNat x) ∧ ∀ target, Steps p.tables e below (T'.setTop (mkF m (pc + 1) Ls rest)) target → Steps p.tables e below (T.setTop (mkF m pc Ls (.int x :: .int j :: .ref a :: rest))) target := by
  obtain ⟨cl, B, r⟩ := A
  obtain ⟨q1, q2⟩ := own_inb (j := j) r (by simpa using hj)
  obtain ⟨T', h', X', e', W', st⟩ := stI X hx hZ eT B q1 (x := x) (g := mkF m pc Ls (.int x :: .int j :: .ref a :: rest)) rfl rfl hd
  rw [q2] at X' W'
  exact ⟨T', h', X', e', W', by have := own_A.set ⟨cl, B, r⟩ W'; rw [own_AI, List.map_set]; exact this, st⟩
theorem own_bastoreB (X : Stand p l e R s m args below meth c T locs cells slots) (hx : p.tables.exec = Jvm.exec) (hZ : Z.Warmed39 s.vm) (eT : T.heap = h) (A : own_AI Z h a .byte ys) (hj : 0 ≤ j.toInt ∧ j.toInt < (ys.length : Nat)) {x : Int32} (hd : decode c.code pc = .ok (.bastore, 1)) :
    ∃ T' h', Stand p l e R s m args below meth c T' (locs ++ [⟨a, j.toInt.toNat⟩]) cells slots ∧ T'.heap = h' ∧ Wr h h' a j.toInt.toNat (.int x.toInt8.toInt32) ∧ own_AI Z h' a .byte (ys.set j.toInt.toNat x.toInt8.toInt32) ∧ ∀ target, Steps p.tables e below (T'.setTop (mkF m (pc + 1) Ls rest)) target → Steps p.tables e below (T.setTop (mkF m pc Ls (.int x :: .int j :: .ref a :: rest))) target := by
  obtain ⟨cl, B, r⟩ := A
  obtain ⟨q1, q2⟩ := own_inb (j := j) r (by simpa using hj)
  obtain ⟨T', h', X', e', W', st⟩ := stB X hx hZ eT B q1 (x := x) (g := mkF m pc Ls (.int x :: .int j :: .ref a :: rest)) rfl rfl hd
  rw [q2] at X' W'
  exact ⟨T', h', X', e', W', by have := own_A.set ⟨cl, B, r⟩ W'; rw [own_AI, List.map_set]; exact this, st⟩
theorem own_bastoreZ (X : Stand p l e R s m args below meth c T locs cells slots) (hx : p.tables.exec = Jvm.exec) (hZ : Z.Warmed39 s.vm) (eT : T.heap = h) (A : own_AI Z h a .boolean ys) (hj : 0 ≤ j.toInt ∧ j.toInt < (ys.length : Nat)) {x : Int32} (hd : decode c.code pc = .ok (.bastore, 1)) :
    ∃ T' h', Stand p l e R s m args below meth c T' (locs ++ [⟨a, j.toInt.toNat⟩]) cells slots ∧ T'.heap = h' ∧ Wr h h' a j.toInt.toNat (.int (x &&& 1)) ∧ own_AI Z h' a .boolean (ys.set j.toInt.toNat (x &&& 1)) ∧ ∀ target, Steps p.tables e below (T'.setTop (mkF m (pc + 1) Ls rest)) target → Steps p.tables e below (T.setTop (mkF m pc Ls (.int x :: .int j :: .ref a :: rest))) target := by
  obtain ⟨cl, B, r⟩ := A
  obtain ⟨q1, q2⟩ := own_inb (j := j) r (by simpa using hj)
  obtain ⟨T', h', X', e', W', st⟩ := stZ X hx hZ eT B q1 (x := x) (g := mkF m pc Ls (.int x :: .int j :: .ref a :: rest)) rfl rfl hd
  rw [q2] at X' W'
  exact ⟨T', h', X', e', W', by have := own_A.set ⟨cl, B, r⟩ W'; rw [own_AI, List.map_set]; exact this, st⟩
end Loads
end OwnKit
theorem own_bm32 {x : Int} (h1 : -2147483648 ≤ x) (h2 : x < 2147483648) : x.bmod (2 ^ 32) = x := by
  rw [Int.bmod_def]; split <;> omega
theorem own_bm64 {x : Int} (h1 : -9223372036854775808 ≤ x) (h2 : x < 9223372036854775808) : x.bmod (2 ^ 64) = x := by
  rw [Int.bmod_def]; split <;> omega
theorem own_r32 (x : Int32) : -2147483648 ≤ x.toInt ∧ x.toInt < 2147483648 := ⟨x.le_toInt, x.toInt_lt⟩
theorem own_r64 (x : Int64) : -9223372036854775808 ≤ x.toInt ∧ x.toInt < 9223372036854775808 := ⟨x.le_toInt, x.toInt_lt⟩
theorem own_iadd {x y : Int32} (h : -2147483648 ≤ x.toInt + y.toInt ∧ x.toInt + y.toInt < 2147483648) : (x + y).toInt = x.toInt + y.toInt := by rw [Int32.toInt_add]; exact own_bm32 h.1 h.2
theorem own_isub {x y : Int32} (h : -2147483648 ≤ x.toInt - y.toInt ∧ x.toInt - y.toInt < 2147483648) : (x - y).toInt = x.toInt - y.toInt := by rw [Int32.toInt_sub]; exact own_bm32 h.1 h.2
theorem own_imul {x y : Int32} (h : -2147483648 ≤ x.toInt * y.toInt ∧ x.toInt * y.toInt < 2147483648) : (x * y).toInt = x.toInt * y.toInt := by rw [Int32.toInt_mul]; exact own_bm32 h.1 h.2
theorem own_ladd {x y : Int64} (h : -9223372036854775808 ≤ x.toInt + y.toInt ∧ x.toInt + y.toInt < 9223372036854775808) : (x + y).toInt = x.toInt + y.toInt := by rw [Int64.toInt_add]; exact own_bm64 h.1 h.2
theorem own_lsub {x y : Int64} (h : -9223372036854775808 ≤ x.toInt - y.toInt ∧ x.toInt - y.toInt < 9223372036854775808) : (x - y).toInt = x.toInt - y.toInt := by rw [Int64.toInt_sub]; exact own_bm64 h.1 h.2
theorem own_lmul {x y : Int64} (h : -9223372036854775808 ≤ x.toInt * y.toInt ∧ x.toInt * y.toInt < 9223372036854775808) : (x * y).toInt = x.toInt * y.toInt := by rw [Int64.toInt_mul]; exact own_bm64 h.1 h.2
theorem own_i2l (x : Int32) : x.toInt64.toInt = x.toInt := Int32.toInt_toInt64 x
theorem own_l2i {x : Int64} (h : -2147483648 ≤ x.toInt ∧ x.toInt < 2147483648) : x.toInt32.toInt = x.toInt := by rw [Int64.toInt_toInt32]; exact own_bm32 h.1 h.2
theorem own_irem {x y : Int32} (h : 0 ≤ x.toInt) : (x % y).toInt = x.toInt % y.toInt := by rw [Int32.toInt_mod]; exact Int.tmod_eq_emod_of_nonneg h
theorem own_lrem {x y : Int64} (h : 0 ≤ x.toInt) : (x % y).toInt = x.toInt % y.toInt := by rw [Int64.toInt_mod]; exact Int.tmod_eq_emod_of_nonneg h
theorem own_idiv {x y : Int32} (h : 0 ≤ x.toInt) (hy : 0 ≤ y.toInt) : (x / y).toInt = x.toInt / y.toInt := by
  rw [Int32.toInt_div_of_ne_right x y (fun q => by rw [q] at hy; revert hy; decide)]; exact Int.tdiv_eq_ediv_of_nonneg h
theorem own_ldiv {x y : Int64} (h : 0 ≤ x.toInt) (hy : 0 ≤ y.toInt) : (x / y).toInt = x.toInt / y.toInt := by
  rw [Int64.toInt_div_of_ne_right x y (fun q => by rw [q] at hy; revert hy; decide)]; exact Int.tdiv_eq_ediv_of_nonneg h
/-- a mask of k bits -/
theorem own_mask (x m : Int32) (k : Nat) (hk : k ≤ 31) (hm : m.toBitVec.toNat = 2 ^ k - 1) : (x &&& m).toInt = x.toInt % (2 ^ k : Nat) := by
  have hp : 2 ^ k ≤ 2 ^ 31 := Nat.pow_le_pow_right (by decide) hk
  have hp0 : 0 < 2 ^ k := Nat.pow_pos (by decide)
  have e : (x &&& m).toBitVec.toNat = x.toBitVec.toNat % 2 ^ k := by rw [Int32.toBitVec_and, BitVec.toNat_and, hm, Nat.and_two_pow_sub_one_eq_mod]
  have l := Nat.mod_lt x.toBitVec.toNat hp0
  rw [← Int32.toInt_toBitVec, ← Int32.toInt_toBitVec, BitVec.toInt_eq_toNat_cond, e, if_pos (by omega), BitVec.toInt_eq_toNat_cond]
  split
  · simp
  · rename_i q
    have d : (2 ^ k : Nat) ∣ 2 ^ 32 := Nat.pow_dvd_pow 2 (by omega)
    obtain ⟨c, hc⟩ := d
    have hc' : ((2 ^ 32 : Nat) : Int) = ((2 ^ k : Nat) : Int) * (c : Int) := by rw [hc]; simp
    rw [hc', Int.sub_mul_emod_self_left]; simp
theorem own_ushr (x : Int64) (y : Int32) (k : Nat) (hk : (y &&& 0x3f).toInt64.toBitVec.toNat % 64 = k) (h0 : 0 < k) : (((x).toUInt64 >>> (y &&& 0x3f).toInt64.toUInt64).toInt64).toInt = (x.toInt % 18446744073709551616) / (2 ^ k : Nat) := by
  have e : (((x).toUInt64 >>> (y &&& 0x3f).toInt64.toUInt64).toInt64).toBitVec = x.toBitVec >>> k := by rw [← hk]; simp
  have hl := x.toBitVec.isLt
  have hp0 : 0 < 2 ^ k := Nat.pow_pos (by decide)
  have h2 : 2 ^ 1 ≤ 2 ^ k := Nat.pow_le_pow_right (by decide) h0
  have hd : x.toBitVec.toNat / 2 ^ k ≤ x.toBitVec.toNat / 2 := Nat.div_le_div_left h2 (by decide)
  have t : x.toInt % 18446744073709551616 = (x.toBitVec.toNat : Int) := by
    rw [← Int64.toInt_toBitVec, BitVec.toInt_eq_toNat_cond]; split <;> omega
  rw [t, ← Int64.toInt_toBitVec, e, BitVec.toInt_eq_toNat_cond, BitVec.toNat_ushiftRight, Nat.shiftRight_eq_div_pow, if_pos (by omega)]
  simp
theorem own_shl (x : Int64) (y : Int32) (k : Nat) (hk : y.toBitVec.toNat % 64 = k) (h : -9223372036854775808 ≤ x.toInt * (2 ^ k : Nat) ∧ x.toInt * (2 ^ k : Nat) < 9223372036854775808) : (x <<< (y &&& 0x3f).toInt64).toInt = x.toInt * (2 ^ k : Nat) := by
  have q := c_lshl x y k hk
  have r := own_r64 (x <<< (y &&& 0x3f).toInt64)
  generalize x.toInt * (2 ^ k : Nat) = z at *
  omega
theorem own_nzL {x : Int32} (h : ¬ x = 0) : ¬ x.toInt64 = 0 := fun q => h (Int32.toInt_inj.mp (by rw [← own_i2l, q]; rfl))
theorem own_nzP {x : Int32} (h : 1 ≤ x.toInt) : ¬ x = 0 := fun q => by rw [q] at h; revert h; decide
theorem own_fA {t n : Int32} {k : Int} (h : t < n) (q : n.toInt - 1 = k) : t.toInt ≤ k := by rw [Int32.lt_iff_toInt_lt] at h; omega
theorem own_fB {t n : Int32} {k : Int} (h : ¬ n < t) (q : n.toInt = k) : t.toInt ≤ k := by rw [Int32.lt_iff_toInt_lt] at h; omega
theorem own_fC {t n : Int32} {k : Int} (h : n < t) (q : n.toInt + 1 = k) : k ≤ t.toInt := by rw [Int32.lt_iff_toInt_lt] at h; omega
theorem own_fD {t n : Int32} {k : Int} (h : ¬ t < n) (q : n.toInt = k) : k ≤ t.toInt := by rw [Int32.lt_iff_toInt_lt] at h; omega
theorem own_fE {t n : Int32} {k : Int} (h : t = n) (q : n.toInt = k) : t.toInt ≤ k := by rw [h]; omega
theorem own_fF {t n : Int32} {k : Int} (h : t = n) (q : n.toInt = k) : k ≤ t.toInt := by rw [h]; omega
theorem own_g1 {t m : Int32} {k : Int} (h : t.toInt ≤ k) (q : k < m.toInt) : t < m := by rw [Int32.lt_iff_toInt_lt]; omega
theorem own_g2 {t m : Int32} {k : Int} (h : t.toInt ≤ k) (q : k ≤ m.toInt) : ¬ m < t := by rw [Int32.lt_iff_toInt_lt]; omega
theorem own_g3 {t m : Int32} {k : Int} (h : t.toInt ≤ k) (q : k < m.toInt) : ¬ t = m := fun e => by rw [e] at h; omega
theorem own_g4 {t m : Int32} {k : Int} (h : k ≤ t.toInt) (q : m.toInt ≤ k) : ¬ t < m := by rw [Int32.lt_iff_toInt_lt]; omega
theorem own_g5 {t m : Int32} {k : Int} (h : k ≤ t.toInt) (q : m.toInt < k) : m < t := by rw [Int32.lt_iff_toInt_lt]; omega
theorem own_g6 {t m : Int32} {k : Int} (h : k ≤ t.toInt) (q : m.toInt < k) : ¬ t = m := fun e => by rw [e] at h; omega
theorem own_g7 {t m : Int32} {k : Int} (h : k ≤ t.toInt) (h' : t.toInt ≤ k) (q : m.toInt = k) : t = m := Int32.toInt_inj.mp (by omega)
theorem own_ne {x n : Int32} {k : Int} (h : ¬ x = n) (q : n.toInt = k) : k ≠ x.toInt := fun e => h (Int32.toInt_inj.mp (by omega))
theorem own_gs1 {α : Type} (xs : List α) (n : Nat) (v d : α) (h : n < xs.length) : (xs.set n v).getD n d = v := by simp [List.getD, h]
theorem own_gs2 {α : Type} (xs : List α) (n j : Nat) (v d : α) (h : n ≠ j) : (xs.set n v).getD j d = xs.getD j d := by simp [List.getD, List.getElem?_set, h]
theorem own_inK {x : Int32} {k : Int32} (h : k = (x &&& 2147483647) % 192) : 0 ≤ k.toInt ∧ k.toInt < 192 := by
  have a := own_mask x 2147483647 31 (by decide) (by decide)
  have b := own_irem (x := x &&& 2147483647) (y := 192) (by omega)
  have e : (192 : Int32).toInt = 192 := by decide
  rw [e] at b
  rw [h]; omega
theorem own_wd {k : Int32} (h : 0 ≤ k.toInt ∧ k.toInt < 192) : ((((k.toInt64).toUInt64 >>> ((6 : Int32) &&& 0x3f).toInt64.toUInt64).toInt64).toInt32).toInt = k.toInt / 64 := by
  have a := own_ushr k.toInt64 6 6 (by decide) (by decide)
  rw [own_i2l] at a
  rw [own_l2i (by omega)]; omega
theorem own_wdin {k : Int32} (h : 0 ≤ k.toInt ∧ k.toInt < 192) : 0 ≤ ((((k.toInt64).toUInt64 >>> ((6 : Int32) &&& 0x3f).toInt64.toUInt64).toInt64).toInt32).toInt ∧ ((((k.toInt64).toUInt64 >>> ((6 : Int32) &&& 0x3f).toInt64.toUInt64).toInt64).toInt32).toInt < (3 : Nat) := by
  rw [own_wd h]; omega
theorem d1_0 : decode prog_1_method_2_code 0 = .ok (.aload_n 0, 1) := by decide +kernel
theorem d1_1 : decode prog_1_method_2_code 1 = .ok (.invokespecial 3, 3) := by decide +kernel
theorem d1_4 : decode prog_1_method_2_code 4 = .ok (.aload_n 0, 1) := by decide +kernel
theorem d1_5 : decode prog_1_method_2_code 5 = .ok (.aload_n 1, 1) := by decide +kernel
theorem d1_6 : decode prog_1_method_2_code 6 = .ok (.putfield 15, 3) := by decide +kernel
theorem d1_9 : decode prog_1_method_2_code 9 = .ok (.return_, 1) := by decide +kernel
theorem pn_1 : plainName "com/example/mini_bloom/minibloom/BitArray" = true := by first | (simp [plainName, overriddenIn]; done) | decide +kernel
theorem ef_1 (m : MethodId) (ra : Addr) (rb : Addr) : entryFrame m #[(.ref ra), (.ref rb)] 2 = mkF m 0 #[.val (.ref ra), .val (.ref rb)] [] := by first | (simp [entryFrame, mkF, argsToLocals, Value.category, maxLocals]; done) | rfl
def Q1 (Z : State) (ra : Addr) (rb : Addr)  (h0 : Heap) (n0 : Nat) (v : Option Value) (h : Heap) (L : List Loc) : Prop := v = none ∧ Fr n0 L ∧ Keep h0 h [ra] ∧ Exa Z h ra "com/example/mini_bloom/minibloom/BitArray" ∧ Fld Z h ra "com/example/mini_bloom/minibloom/BitArray" "words" "[J" (.ref rb)
set_option maxRecDepth 65536 in
set_option maxHeartbeats 40000000 in
theorem rm1 (l : Launch) (Z : State) (a0 : Array Value) (hw : ∀ d ∈ tables_1, d.before a0 Z = true) (ws : List Jvm.Cond) (ra : Addr) (rb : Addr)  (h0 : Heap) (n0 : Nat) (Z0 : n0 ≤ h0.size) (PE0 : Exa Z h0 ra "com/example/mini_bloom/minibloom/BitArray") (PF0 : Fld Z h0 ra "com/example/mini_bloom/minibloom/BitArray" "words" "[J" .null) (PG0 : n0 ≤ ra) :
    MetFree l (⟨"com/example/mini_bloom/minibloom/BitArray", "<init>", "([J)V"⟩ : MethodName) (head1 (Jvm.Cond.code (⟨"com/example/mini_bloom/minibloom/BitArray", "<init>", "([J)V"⟩ : MethodName) prog_1_method_2_code 2 none :: ws) ({ frames := 1, cells := 0, slots := 0, locals := 12 } : Room)) (fun a U => a = #[(.ref ra), (.ref rb)] ∧ Z.Warmed39 U.vm ∧ U.heap = h0) (fun _ _ _ _ _ => True) (fun _ U o U' => ∃ v L, o = .returned v ∧ Q1 Z ra rb h0 n0 v U'.heap L ∧ FrameEnd U o U' L ({ frames := 1, cells := 0, slots := 0, locals := 12 } : Room).cells ({ frames := 1, cells := 0, slots := 0, locals := 12 } : Room).slots) := by
  refine MetFree.of_bodySF (plainFor_of_name pn_1) hisR ?_
  intro p e s m args below meth c s₁ Bd hml0 hP hK
  obtain ⟨rfl, hZ, hh⟩ := hP
  have hx := Bd.exec
  have hby := Bd.bytes
  have hml : c.maxLocals = 2 := hml0
  have hown : s.vm.findClass "com/example/mini_bloom/minibloom/BitArray" = some m.cls := findClass_of_methodNamed Bd.named
  have hnm := (name_of_methodNamed Bd.named Bd.method).1
  have X0 : Stand p l e ({ frames := 1, cells := 0, slots := 0, locals := 12 } : Room) s m #[(.ref ra), (.ref rb)] below meth c s₁ [] 0 0 := Stand.of_body Bd
  have hlk : meth.locks = false := by first | exact BodyLoose.notSynchronized (by assumption) | exact Body.notSynchronized (by assumption)
  have e0 : s₁.heap = h0 := by rw [← hh, Bd.state]; rfl
  have N0 := Fr.nil n0
  have pre0 : ∀ t, Steps p.tables e below (s₁.setTop (mkF m 0 #[.val (.ref ra), .val (.ref rb)] [])) t → Steps p.tables e below (s₁.setTop (entryFrame m #[(.ref ra), (.ref rb)] 2)) t := fun t k => castTop (ef_1 m ra rb) k
  obtain ⟨T1, X1, e1, st1⟩ := initO X0 hx hZ hown (hw _ (List.mem_of_getElem? (i := 7) rfl)) (hw _ (List.mem_of_getElem? (i := 8) rfl)) (hw _ (List.mem_of_getElem? (i := 9) rfl)) e0 (g := (mkF m 1 #[.val (.ref ra), .val (.ref rb)] [(.ref ra)])) rfl (by rw [hml]; rfl) rfl (hb hby d1_1) (by decide) (W := 0) (by show 2 * 0 + _ ≤ _; exact Nat.le_of_eq rfl) (by decide)
  obtain ⟨T2, h2, X2, e2, W2, st2⟩ := putF X1 hx hZ hown (host := "") (Or.inl (hw _ (List.mem_of_getElem? (i := 10) rfl))) Via.refl e1 PF0 PE0 (Or.inr ⟨(hw _ (List.mem_of_getElem? (i := 11) rfl)), rfl, hnm⟩) (hw _ (List.mem_of_getElem? (i := 2) rfl)) (ty := (.array .long)) (by decide) rfl rfl (g := (mkF m 6 #[.val (.ref ra), .val (.ref rb)] [(.ref rb), (.ref ra)])) rfl rfl (hb hby d1_6)
  have A2_ra : Exa Z h2 ra "com/example/mini_bloom/minibloom/BitArray" := PE0.wr W2
  have sz2 : n0 ≤ h2.size := Nat.le_trans Z0 (Keep.of_wr W2).1
  have K2 : Keep h0 h2 [ra] := (Keep.refl h0 [ra]).wr W2 (Or.inl (by simp))
  have N2 := Fr.snoc X2 N0 PG0
  have F2_s : Fld Z h2 ra "com/example/mini_bloom/minibloom/BitArray" "words" "[J" (.ref rb) := PF0.same W2
  obtain ⟨fs, hr, hrun, hended, hW, hsame⟩ := X2.leave (v := none) (fun _ => rfl) hlk
  refine ⟨_, _, pre0 _ ?_, hrun, hended, _, _, rfl, ?_, ⟨_, rfl⟩, hW, hsame.mono (by decide) (by decide)⟩
  · show Steps p.tables e below (s₁.setTop (mkF m 0 #[.val (.ref ra), .val (.ref rb)] [])) _
    refine XS.aloadN X0.here hx rfl (hb hby d1_0) rfl rfl ?_
    show Steps p.tables e below (s₁.setTop (mkF m 1 #[.val (.ref ra), .val (.ref rb)] [(.ref ra)])) _
    refine st1 _ ?_
    show Steps p.tables e below (T1.setTop (mkF m 4 #[.val (.ref ra), .val (.ref rb)] [])) _
    refine XS.aloadN X1.here hx rfl (hb hby d1_4) rfl rfl ?_
    show Steps p.tables e below (T1.setTop (mkF m 5 #[.val (.ref ra), .val (.ref rb)] [(.ref ra)])) _
    refine XS.aloadN X1.here hx rfl (hb hby d1_5) rfl rfl ?_
    show Steps p.tables e below (T1.setTop (mkF m 6 #[.val (.ref ra), .val (.ref rb)] [(.ref rb), (.ref ra)])) _
    refine st2 _ ?_
    show Steps p.tables e below (T2.setTop (mkF m 9 #[.val (.ref ra), .val (.ref rb)] [])) _
    exact X2.returnOut hx Bd.returns (hb hby d1_9) hr
  · show Q1 Z ra rb h0 n0 _ T2.heap _
    rw [e2]
    exact ⟨rfl, N2, K2, A2_ra, F2_s⟩
theorem d3_0 : decode prog_1_method_9_code 0 = .ok (.aload_n 0, 1) := by decide +kernel
theorem d3_1 : decode prog_1_method_9_code 1 = .ok (.getfield 15, 3) := by decide +kernel
theorem d3_4 : decode prog_1_method_9_code 4 = .ok (.lload_n 1, 1) := by decide +kernel
theorem d3_5 : decode prog_1_method_9_code 5 = .ok (.bipush 6, 2) := by decide +kernel
theorem d3_7 : decode prog_1_method_9_code 7 = .ok (.lushr, 1) := by decide +kernel
theorem d3_8 : decode prog_1_method_9_code 8 = .ok (.l2i, 1) := by decide +kernel
theorem d3_9 : decode prog_1_method_9_code 9 = .ok (.laload, 1) := by decide +kernel
theorem d3_10 : decode prog_1_method_9_code 10 = .ok (.lconst 1, 1) := by decide +kernel
theorem d3_11 : decode prog_1_method_9_code 11 = .ok (.lload_n 1, 1) := by decide +kernel
theorem d3_12 : decode prog_1_method_9_code 12 = .ok (.l2i, 1) := by decide +kernel
theorem d3_13 : decode prog_1_method_9_code 13 = .ok (.lshl, 1) := by decide +kernel
theorem d3_14 : decode prog_1_method_9_code 14 = .ok (.land, 1) := by decide +kernel
theorem d3_15 : decode prog_1_method_9_code 15 = .ok (.lconst 0, 1) := by decide +kernel
theorem d3_16 : decode prog_1_method_9_code 16 = .ok (.lcmp, 1) := by decide +kernel
theorem d3_17 : decode prog_1_method_9_code 17 = .ok (.ifCond .eq 7, 3) := by decide +kernel
theorem d3_20 : decode prog_1_method_9_code 20 = .ok (.iconst 1, 1) := by decide +kernel
theorem d3_21 : decode prog_1_method_9_code 21 = .ok (.goto 4, 3) := by decide +kernel
theorem d3_24 : decode prog_1_method_9_code 24 = .ok (.iconst 0, 1) := by decide +kernel
theorem d3_25 : decode prog_1_method_9_code 25 = .ok (.ireturn, 1) := by decide +kernel
theorem ef_3 (m : MethodId) (ra : Addr) (q1 : Int64) : entryFrame m #[(.ref ra), (.long q1)] 3 = mkF m 0 #[.val (.ref ra), .val (.long q1), .second] [] := by first | (simp [entryFrame, mkF, argsToLocals, Value.category, maxLocals]; done) | rfl
def own_f3 (q1 : Int64) (xs : List Int64) : Int32 := (if ((xs.getD ((((q1).toUInt64 >>> ((6 : Int32) &&& 0x3f).toInt64.toUInt64).toInt64).toInt32).toInt.toNat 0) &&& ((1 : Int64) <<< ((q1).toInt32 &&& 0x3f).toInt64)) = (0 : Int64) then (0 : Int32) else (1 : Int32))
def Q3 (Z : State) (ra : Addr) (q1 : Int64) (rb : Addr) (xs : List Int64) (h0 : Heap) (n0 : Nat) (v : Option Value) (h : Heap) (L : List Loc) : Prop := v = some (.int (own_f3 q1 xs)) ∧ Fr n0 L ∧ h = h0
set_option maxRecDepth 65536 in
set_option maxHeartbeats 40000000 in
theorem rm3 (l : Launch) (Z : State) (a0 : Array Value) (hw : ∀ d ∈ tables_1, d.before a0 Z = true) (ws : List Jvm.Cond) (ra : Addr) (q1 : Int64) (rb : Addr) (xs : List Int64) (h0 : Heap) (n0 : Nat) (Z0 : n0 ≤ h0.size) (PA0 : own_AJ Z h0 rb xs) (PE0 : Exa Z h0 ra "com/example/mini_bloom/minibloom/BitArray") (PF0 : Fld Z h0 ra "com/example/mini_bloom/minibloom/BitArray" "words" "[J" (.ref rb)) (hin : 0 ≤ ((((q1).toUInt64 >>> ((6 : Int32) &&& 0x3f).toInt64.toUInt64).toInt64).toInt32).toInt ∧ ((((q1).toUInt64 >>> ((6 : Int32) &&& 0x3f).toInt64.toUInt64).toInt64).toInt32).toInt < (xs.length : Nat)) :
    MetFree l (⟨"com/example/mini_bloom/minibloom/BitArray", "getBit", "(J)Z"⟩ : MethodName) (head1 (Jvm.Cond.code (⟨"com/example/mini_bloom/minibloom/BitArray", "getBit", "(J)Z"⟩ : MethodName) prog_1_method_9_code 3 (some .boolean) :: ws) ({ frames := 0, cells := 0, slots := 0, locals := 0 } : Room)) (fun a U => a = #[(.ref ra), (.long q1)] ∧ Z.Warmed39 U.vm ∧ U.heap = h0) (fun _ _ _ _ _ => True) (fun _ U o U' => ∃ v L, o = .returned v ∧ Q3 Z ra q1 rb xs h0 n0 v U'.heap L ∧ FrameEnd U o U' L ({ frames := 0, cells := 0, slots := 0, locals := 0 } : Room).cells ({ frames := 0, cells := 0, slots := 0, locals := 0 } : Room).slots) := by
  refine MetFree.of_bodySF (plainFor_of_name pn_1) hisR ?_
  intro p e s m args below meth c s₁ Bd hml0 hP hK
  obtain ⟨rfl, hZ, hh⟩ := hP
  have hx := Bd.exec
  have hby := Bd.bytes
  have hml : c.maxLocals = 3 := hml0
  have hown : s.vm.findClass "com/example/mini_bloom/minibloom/BitArray" = some m.cls := findClass_of_methodNamed Bd.named
  have hnm := (name_of_methodNamed Bd.named Bd.method).1
  have X0 : Stand p l e ({ frames := 0, cells := 0, slots := 0, locals := 0 } : Room) s m #[(.ref ra), (.long q1)] below meth c s₁ [] 0 0 := Stand.of_body Bd
  have hlk : meth.locks = false := by first | exact BodyLoose.notSynchronized (by assumption) | exact Body.notSynchronized (by assumption)
  have e0 : s₁.heap = h0 := by rw [← hh, Bd.state]; rfl
  have N0 := Fr.nil n0
  have pre0 : ∀ t, Steps p.tables e below (s₁.setTop (mkF m 0 #[.val (.ref ra), .val (.long q1), .second] [])) t → Steps p.tables e below (s₁.setTop (entryFrame m #[(.ref ra), (.long q1)] 3)) t := fun t k => castTop (ef_3 m ra q1) k
  obtain ⟨T1, X1, e1, st1⟩ := getF X0 hx hZ hown (host := "") (Or.inl (hw _ (List.mem_of_getElem? (i := 10) rfl))) Via.refl e0 PF0 (g := (mkF m 1 #[.val (.ref ra), .val (.long q1), .second] [(.ref ra)])) rfl rfl (hb hby d3_1)
  have in_9_2 : 0 ≤ ((((q1).toUInt64 >>> ((6 : Int32) &&& 0x3f).toInt64.toUInt64).toInt64).toInt32).toInt ∧ ((((q1).toUInt64 >>> ((6 : Int32) &&& 0x3f).toInt64.toUInt64).toInt64).toInt32).toInt < (xs.length : Nat) := hin
  have pre3 : ∀ t, Steps p.tables e below (T1.setTop (mkF m 17 #[.val (.ref ra), .val (.long q1), .second] [(.int (lcmpW ((xs.getD ((((q1).toUInt64 >>> ((6 : Int32) &&& 0x3f).toInt64.toUInt64).toInt64).toInt32).toInt.toNat 0) &&& ((1 : Int64) <<< ((q1).toInt32 &&& 0x3f).toInt64)) (0 : Int64)))])) t → Steps p.tables e below (s₁.setTop (entryFrame m #[(.ref ra), (.long q1)] 3)) t := by
    intro t k
    refine pre0 t ?_
    show Steps p.tables e below (s₁.setTop (mkF m 0 #[.val (.ref ra), .val (.long q1), .second] [])) _
    refine XS.aloadN X0.here hx rfl (hb hby d3_0) rfl rfl ?_
    show Steps p.tables e below (s₁.setTop (mkF m 1 #[.val (.ref ra), .val (.long q1), .second] [(.ref ra)])) _
    refine st1 _ ?_
    show Steps p.tables e below (T1.setTop (mkF m 4 #[.val (.ref ra), .val (.long q1), .second] [(.ref rb)])) _
    refine XS.lloadN X1.here hx rfl (hb hby d3_4) rfl ?_
    show Steps p.tables e below (T1.setTop (mkF m 5 #[.val (.ref ra), .val (.long q1), .second] [(.long q1), (.ref rb)])) _
    refine XS.bipush X1.here hx rfl (hb hby d3_5) ?_
    show Steps p.tables e below (T1.setTop (mkF m 7 #[.val (.ref ra), .val (.long q1), .second] [(.int (6 : Int32)), (.long q1), (.ref rb)])) _
    refine XS.lushr X1.here hx rfl (hb hby d3_7) rfl ?_
    show Steps p.tables e below (T1.setTop (mkF m 8 #[.val (.ref ra), .val (.long q1), .second] [(.long ((q1).toUInt64 >>> ((6 : Int32) &&& 0x3f).toInt64.toUInt64).toInt64), (.ref rb)])) _
    refine XS.l2i X1.here hx rfl (hb hby d3_8) rfl ?_
    show Steps p.tables e below (T1.setTop (mkF m 9 #[.val (.ref ra), .val (.long q1), .second] [(.int (((q1).toUInt64 >>> ((6 : Int32) &&& 0x3f).toInt64.toUInt64).toInt64).toInt32), (.ref rb)])) _
    refine own_laload X1 hx hZ e1 PA0 in_9_2 (hb hby d3_9) _ ?_
    show Steps p.tables e below (T1.setTop (mkF m 10 #[.val (.ref ra), .val (.long q1), .second] [(.long (xs.getD ((((q1).toUInt64 >>> ((6 : Int32) &&& 0x3f).toInt64.toUInt64).toInt64).toInt32).toInt.toNat 0))])) _
    refine XS.lconst X1.here hx rfl (hb hby d3_10) ?_
    show Steps p.tables e below (T1.setTop (mkF m 11 #[.val (.ref ra), .val (.long q1), .second] [(.long (1 : Int64)), (.long (xs.getD ((((q1).toUInt64 >>> ((6 : Int32) &&& 0x3f).toInt64.toUInt64).toInt64).toInt32).toInt.toNat 0))])) _
    refine XS.lloadN X1.here hx rfl (hb hby d3_11) rfl ?_
    show Steps p.tables e below (T1.setTop (mkF m 12 #[.val (.ref ra), .val (.long q1), .second] [(.long q1), (.long (1 : Int64)), (.long (xs.getD ((((q1).toUInt64 >>> ((6 : Int32) &&& 0x3f).toInt64.toUInt64).toInt64).toInt32).toInt.toNat 0))])) _
    refine XS.l2i X1.here hx rfl (hb hby d3_12) rfl ?_
    show Steps p.tables e below (T1.setTop (mkF m 13 #[.val (.ref ra), .val (.long q1), .second] [(.int (q1).toInt32), (.long (1 : Int64)), (.long (xs.getD ((((q1).toUInt64 >>> ((6 : Int32) &&& 0x3f).toInt64.toUInt64).toInt64).toInt32).toInt.toNat 0))])) _
    refine XS.lshl X1.here hx rfl (hb hby d3_13) rfl ?_
    show Steps p.tables e below (T1.setTop (mkF m 14 #[.val (.ref ra), .val (.long q1), .second] [(.long ((1 : Int64) <<< ((q1).toInt32 &&& 0x3f).toInt64)), (.long (xs.getD ((((q1).toUInt64 >>> ((6 : Int32) &&& 0x3f).toInt64.toUInt64).toInt64).toInt32).toInt.toNat 0))])) _
    refine XS.land X1.here hx rfl (hb hby d3_14) rfl ?_
    show Steps p.tables e below (T1.setTop (mkF m 15 #[.val (.ref ra), .val (.long q1), .second] [(.long ((xs.getD ((((q1).toUInt64 >>> ((6 : Int32) &&& 0x3f).toInt64.toUInt64).toInt64).toInt32).toInt.toNat 0) &&& ((1 : Int64) <<< ((q1).toInt32 &&& 0x3f).toInt64)))])) _
    refine XS.lconst X1.here hx rfl (hb hby d3_15) ?_
    show Steps p.tables e below (T1.setTop (mkF m 16 #[.val (.ref ra), .val (.long q1), .second] [(.long (0 : Int64)), (.long ((xs.getD ((((q1).toUInt64 >>> ((6 : Int32) &&& 0x3f).toInt64.toUInt64).toInt64).toInt32).toInt.toNat 0) &&& ((1 : Int64) <<< ((q1).toInt32 &&& 0x3f).toInt64)))])) _
    refine XS.lcmp X1.here hx rfl (hb hby d3_16) rfl ?_
    exact k
  by_cases c4 : ((xs.getD ((((q1).toUInt64 >>> ((6 : Int32) &&& 0x3f).toInt64.toUInt64).toInt64).toInt32).toInt.toNat 0) &&& ((1 : Int64) <<< ((q1).toInt32 &&& 0x3f).toInt64)) = (0 : Int64)
  · obtain ⟨fs, hr, hrun, hended, hW, hsame⟩ := X1.leave (v := some (.int (0 : Int32))) (fun h => by rw [Bd.returns] at h; cases h) hlk
    refine ⟨_, _, pre3 _ ?_, hrun, hended, _, _, rfl, ?_, ⟨_, rfl⟩, hW, hsame.mono (by decide) (by decide)⟩
    · show Steps p.tables e below (T1.setTop (mkF m 17 #[.val (.ref ra), .val (.long q1), .second] [(.int (lcmpW ((xs.getD ((((q1).toUInt64 >>> ((6 : Int32) &&& 0x3f).toInt64.toUInt64).toInt64).toInt32).toInt.toNat 0) &&& ((1 : Int64) <<< ((q1).toInt32 &&& 0x3f).toInt64)) (0 : Int64)))])) _
      refine XS.ifYes X1.here hx rfl (pc0 := 17) (pc' := 24) rfl (hb hby d3_17) rfl ((if0 _ _).trans (teq ((lw_eq ((xs.getD ((((q1).toUInt64 >>> ((6 : Int32) &&& 0x3f).toInt64.toUInt64).toInt64).toInt32).toInt.toNat 0) &&& ((1 : Int64) <<< ((q1).toInt32 &&& 0x3f).toInt64)) (0 : Int64)).mpr c4)).1) (by decide) (by decide) ?_
      show Steps p.tables e below (T1.setTop (mkF m 24 #[.val (.ref ra), .val (.long q1), .second] [])) _
      refine XS.iconst X1.here hx rfl (hb hby d3_24) ?_
      show Steps p.tables e below (T1.setTop (mkF m 25 #[.val (.ref ra), .val (.long q1), .second] [(.int (0 : Int32))])) _
      exact retN X1 hx (t := .boolean) Bd.returns (by simp) (hb hby d3_25) hr
    · show Q3 Z ra q1 rb xs h0 n0 _ T1.heap _
      rw [e1]
      exact ⟨by simp only [own_f3, if_pos c4], N0, rfl⟩
  · obtain ⟨fs, hr, hrun, hended, hW, hsame⟩ := X1.leave (v := some (.int (1 : Int32))) (fun h => by rw [Bd.returns] at h; cases h) hlk
    refine ⟨_, _, pre3 _ ?_, hrun, hended, _, _, rfl, ?_, ⟨_, rfl⟩, hW, hsame.mono (by decide) (by decide)⟩
    · show Steps p.tables e below (T1.setTop (mkF m 17 #[.val (.ref ra), .val (.long q1), .second] [(.int (lcmpW ((xs.getD ((((q1).toUInt64 >>> ((6 : Int32) &&& 0x3f).toInt64.toUInt64).toInt64).toInt32).toInt.toNat 0) &&& ((1 : Int64) <<< ((q1).toInt32 &&& 0x3f).toInt64)) (0 : Int64)))])) _
      refine XS.ifNo X1.here hx rfl (hb hby d3_17) rfl ((if0 _ _).trans (feq (mt (lw_eq ((xs.getD ((((q1).toUInt64 >>> ((6 : Int32) &&& 0x3f).toInt64.toUInt64).toInt64).toInt32).toInt.toNat 0) &&& ((1 : Int64) <<< ((q1).toInt32 &&& 0x3f).toInt64)) (0 : Int64)).mp c4)).1) ?_
      show Steps p.tables e below (T1.setTop (mkF m 20 #[.val (.ref ra), .val (.long q1), .second] [])) _
      refine XS.iconst X1.here hx rfl (hb hby d3_20) ?_
      show Steps p.tables e below (T1.setTop (mkF m 21 #[.val (.ref ra), .val (.long q1), .second] [(.int (1 : Int32))])) _
      refine XS.goto X1.here hx rfl (pc0 := 21) (pc' := 25) rfl (hb hby d3_21) (by decide) (by decide) ?_
      show Steps p.tables e below (T1.setTop (mkF m 25 #[.val (.ref ra), .val (.long q1), .second] [(.int (1 : Int32))])) _
      exact retN X1 hx (t := .boolean) Bd.returns (by simp) (hb hby d3_25) hr
    · show Q3 Z ra q1 rb xs h0 n0 _ T1.heap _
      rw [e1]
      exact ⟨by simp only [own_f3, if_neg c4], N0, rfl⟩
theorem pn_3 : plainName "com/example/mini_bloom/minibloom/BitArrayGetBitPinLaw" = true := by first | (simp [plainName, overriddenIn]; done) | decide +kernel
theorem ef_0 (m : MethodId) (q0 : Int64) (q1 : Int64) (q2 : Int64) (q3 : Int32) : entryFrame m #[(.long q0), (.long q1), (.long q2), (.int q3)] maxLocals = mkF m 0 #[.val (.long q0), .second, .val (.long q1), .second, .val (.long q2), .second, .val (.int q3), .unset, .unset, .unset, .unset, .unset, .unset, .unset] [] := by first | (simp [entryFrame, mkF, argsToLocals, Value.category, maxLocals]; done) | rfl
theorem pd_4 : parseMethodDescriptor "([J)V" = some ⟨[(.array .long)], none⟩ := by decide +kernel
theorem pd_5 : parseMethodDescriptor "(J)Z" = some ⟨[.long], some .boolean⟩ := by decide +kernel
def own_f0 (q0 : Int64) (q1 : Int64) (q2 : Int64) (q3 : Int32) : Int32 := let v7 := ((q3 &&& (2147483647 : Int32)) % (192 : Int32))
  (if v7 < (64 : Int32) then let v11 := (v7 % (64 : Int32))
  (if (((q0).toUInt64 >>> (v11 &&& 0x3f).toInt64.toUInt64).toInt64 &&& (1 : Int64)) = (1 : Int64) then (if (own_f3 ((v7).toInt64) [q0, q1, q2]) = (1 : Int32) then (1 : Int32) else (0 : Int32)) else (if (own_f3 ((v7).toInt64) [q0, q1, q2]) = (0 : Int32) then (1 : Int32) else (0 : Int32))) else (if v7 < (128 : Int32) then let v23 := (v7 % (64 : Int32))
  (if (((q1).toUInt64 >>> (v23 &&& 0x3f).toInt64.toUInt64).toInt64 &&& (1 : Int64)) = (1 : Int64) then (if (own_f3 ((v7).toInt64) [q0, q1, q2]) = (1 : Int32) then (1 : Int32) else (0 : Int32)) else (if (own_f3 ((v7).toInt64) [q0, q1, q2]) = (0 : Int32) then (1 : Int32) else (0 : Int32))) else let v33 := (v7 % (64 : Int32))
  (if (((q2).toUInt64 >>> (v33 &&& 0x3f).toInt64.toUInt64).toInt64 &&& (1 : Int64)) = (1 : Int64) then (if (own_f3 ((v7).toInt64) [q0, q1, q2]) = (1 : Int32) then (1 : Int32) else (0 : Int32)) else (if (own_f3 ((v7).toInt64) [q0, q1, q2]) = (0 : Int32) then (1 : Int32) else (0 : Int32)))))
def Q0 (Z : State) (q0 : Int64) (q1 : Int64) (q2 : Int64) (q3 : Int32)  (h0 : Heap) (n0 : Nat) (v : Option Value) (h : Heap) (L : List Loc) : Prop := v = some (.int (own_f0 q0 q1 q2 q3)) ∧ Fr n0 L
set_option maxRecDepth 65536 in
set_option maxHeartbeats 40000000 in
theorem rm0 (l : Launch) (Z : State) (a0 : Array Value) (hw : ∀ d ∈ tables_1, d.before a0 Z = true) (ws : List Jvm.Cond) (q0 : Int64) (q1 : Int64) (q2 : Int64) (q3 : Int32)  (h0 : Heap) (n0 : Nat) (Z0 : n0 ≤ h0.size)  :
    MetFree l x (head1 (Jvm.Cond.code x code maxLocals ret :: ws) room_1) (fun a U => a = #[(.long q0), (.long q1), (.long q2), (.int q3)] ∧ Z.Warmed39 U.vm ∧ U.heap = h0) (fun _ _ _ _ _ => True) (fun _ U o U' => ∃ v L, o = .returned v ∧ Q0 Z q0 q1 q2 q3 h0 n0 v U'.heap L ∧ FrameEnd U o U' L room_1.cells room_1.slots) := by
  refine MetFree.of_bodySF (plainFor_of_name pn_3) hisR ?_
  intro p e s m args below meth c s₁ Bd hml0 hP hK
  obtain ⟨rfl, hZ, hh⟩ := hP
  have hx := Bd.exec
  have hby := Bd.bytes
  have hml : c.maxLocals = 14 := hml0
  have hown : s.vm.findClass "com/example/mini_bloom/minibloom/BitArrayGetBitPinLaw" = some m.cls := findClass_of_methodNamed Bd.named
  have hnm := (name_of_methodNamed Bd.named Bd.method).1
  have X0 : Stand p l e room_1 s m #[(.long q0), (.long q1), (.long q2), (.int q3)] below meth c s₁ [] 0 0 := Stand.of_body Bd
  have hlk : meth.locks = false := by first | exact BodyLoose.notSynchronized (by assumption) | exact Body.notSynchronized (by assumption)
  have e0 : s₁.heap = h0 := by rw [← hh, Bd.state]; rfl
  have N0 := Fr.nil n0
  have pre0 : ∀ t, Steps p.tables e below (s₁.setTop (mkF m 0 #[.val (.long q0), .second, .val (.long q1), .second, .val (.long q2), .second, .val (.int q3), .unset, .unset, .unset, .unset, .unset, .unset, .unset] [])) t → Steps p.tables e below (s₁.setTop (entryFrame m #[(.long q0), (.long q1), (.long q2), (.int q3)] maxLocals)) t := fun t k => castTop (ef_0 m q0 q1 q2 q3) k
  obtain ⟨T1, h1, cA1, X1, e1, E1, A1, st1⟩ := newP X0 hx hZ (aty := .long) (hw _ (List.mem_of_getElem? (i := 0) rfl)) e0 (g := (mkF m 1 #[.val (.long q0), .second, .val (.long q1), .second, .val (.long q2), .second, .val (.int q3), .unset, .unset, .unset, .unset, .unset, .unset, .unset] [(.int (3 : Int32))])) rfl (hb hby at_1) rfl (by decide) (cap := 3) (by decide) (by decide) (by decide) (by decide)
  obtain ⟨a1, g1⟩ : ∃ z, z = h0.size := ⟨_, rfl⟩
  rw [← g1] at A1 st1
  have ge_a1 : n0 ≤ a1 := g1 ▸ Z0
  have sz1 : n0 ≤ h1.size := Nat.le_trans Z0 E1.1
  have V1_n : own_AJ Z h1 a1 [(0 : Int64), (0 : Int64), (0 : Int64)] := own_AJ_new A1 (k := 3) (by decide)
  obtain ⟨T2, h2, X2, e2, W2, V2, st2⟩ := own_lastore X1 hx hZ e1 V1_n (j := (0 : Int32)) (show 0 ≤ Int32.toInt (0 : Int32) ∧ Int32.toInt (0 : Int32) < ((3 : Nat) : Int) by decide) (x := q0) (hb hby at_9) (Ls := #[.val (.long q0), .second, .val (.long q1), .second, .val (.long q2), .second, .val (.int q3), .val (.ref a1), .unset, .unset, .unset, .unset, .unset, .unset]) (rest := [])
  have sz2 : n0 ≤ h2.size := Nat.le_trans sz1 (Keep.of_wr W2).1
  have N2 := Fr.snoc X2 N0 ge_a1
  have V2_n : own_AJ Z h2 a1 [q0, (0 : Int64), (0 : Int64)] := V2
  obtain ⟨T3, h3, X3, e3, W3, V3, st3⟩ := own_lastore X2 hx hZ e2 V2_n (j := (1 : Int32)) (show 0 ≤ Int32.toInt (1 : Int32) ∧ Int32.toInt (1 : Int32) < ((3 : Nat) : Int) by decide) (x := q1) (hb hby at_14) (Ls := #[.val (.long q0), .second, .val (.long q1), .second, .val (.long q2), .second, .val (.int q3), .val (.ref a1), .unset, .unset, .unset, .unset, .unset, .unset]) (rest := [])
  have sz3 : n0 ≤ h3.size := Nat.le_trans sz2 (Keep.of_wr W3).1
  have N3 := Fr.snoc X3 N2 ge_a1
  have V3_n : own_AJ Z h3 a1 [q0, q1, (0 : Int64)] := V3
  obtain ⟨T4, h4, X4, e4, W4, V4, st4⟩ := own_lastore X3 hx hZ e3 V3_n (j := (2 : Int32)) (show 0 ≤ Int32.toInt (2 : Int32) ∧ Int32.toInt (2 : Int32) < ((3 : Nat) : Int) by decide) (x := q2) (hb hby at_20) (Ls := #[.val (.long q0), .second, .val (.long q1), .second, .val (.long q2), .second, .val (.int q3), .val (.ref a1), .unset, .unset, .unset, .unset, .unset, .unset]) (rest := [])
  have sz4 : n0 ≤ h4.size := Nat.le_trans sz3 (Keep.of_wr W4).1
  have N4 := Fr.snoc X4 N3 ge_a1
  have V4_n : own_AJ Z h4 a1 [q0, q1, q2] := V4
  obtain ⟨T5, h5, X5, e5, E5, A5, D5, -, st5⟩ := newO X4 hx hZ hown (hw _ (List.mem_of_getElem? (i := 1) rfl)) (hw _ (List.mem_of_getElem? (i := 2) rfl)) (hw _ (List.mem_of_getElem? (i := 3) rfl)) e4 (g := (mkF m 21 #[.val (.long q0), .second, .val (.long q1), .second, .val (.long q2), .second, .val (.int q3), .val (.ref a1), .unset, .unset, .unset, .unset, .unset, .unset] [])) rfl (hb hby at_21) (by decide) (by decide)
  obtain ⟨a5, g5⟩ : ∃ z, z = h4.size := ⟨_, rfl⟩
  rw [← g5] at A5 D5 st5
  have ne_a1_a5 : a1 ≠ a5 := g5 ▸ Nat.ne_of_lt V4_n.lt
  have ge_a5 : n0 ≤ a5 := g5 ▸ sz4
  have V5_a1 : own_AJ Z h5 a1 [q0, q1, q2] := V4_n.ext E5
  have sz5 : n0 ≤ h5.size := Nat.le_trans sz4 E5.1
  have F5_n0 : Fld Z h5 a5 "com/example/mini_bloom/minibloom/BitArray" "words" "[J" .null := D5 (Or.inr (hw _ (List.mem_of_getElem? (i := 11) rfl))) (ty := (.array .long)) (by decide)
  obtain ⟨_, _, ⟨T6, L6, k6, n6⟩, -, X6, ⟨Lc6, hQ6, l6, y6, z6⟩, st6⟩ := X5.specialBack hx (y := (⟨"com/example/mini_bloom/minibloom/BitArray", "<init>", "([J)V"⟩ : MethodName)) rfl hown (mvT hZ (hw _ (List.mem_of_getElem? (i := 4) rfl))) (mvT hZ (hw _ (List.mem_of_getElem? (i := 5) rfl))) (mvT hZ (hw _ (List.mem_of_getElem? (i := 6) rfl))) (by decide) (backOf (W := 1) (rm1 l Z a0 hw [] a5 a1  h5 n0 sz5 A5 F5_n0 ge_a5 ) hZ (hw _ (List.mem_of_getElem? (i := 6) rfl)) (hw _ (List.mem_of_getElem? (i := 3) rfl)) (by decide) (by decide)) (g := (mkF m 27 #[.val (.long q0), .second, .val (.long q1), .second, .val (.long q2), .second, .val (.int q3), .val (.ref a1), .unset, .unset, .unset, .unset, .unset, .unset] [(.ref a1), (.ref a5), (.ref a5)])) rfl (by rw [hml]; rfl) (Steps.refl _) (a := a5) (argsL := [(.ref a1)]) (rest := [(.ref a5)]) (lenOf pd_4 rfl) rfl (by show 2 * 0 + _ ≤ _; exact Nat.le_of_eq rfl) (hb hby at_27) (fun _ _ => ⟨rfl, e5, (by decide : 2 + 0 ≤ _), (by decide : 4 + 0 ≤ _)⟩)
  dsimp only [Pt.U, Pt.locs, Pt.cells, Pt.slots] at X6 l6 y6 z6 st6 hQ6
  subst l6 y6 z6
  obtain ⟨rfl, N6q, K6, A6_o0, F6_o0⟩ := hQ6
  obtain ⟨h6, e6⟩ : ∃ z, T6.heap = z := ⟨_, rfl⟩
  rw [e6] at K6 A6_o0 F6_o0
  have V6_a1 : own_AJ Z h6 a1 [q0, q1, q2] := V5_a1.keep K6 (ninS ne_a1_a5 nin0)
  have A6_a5 : Exa Z h6 a5 "com/example/mini_bloom/minibloom/BitArray" := A5.keep K6
  have sz6 : n0 ≤ h6.size := Nat.le_trans sz5 K6.1
  have N6 := Fr.app N4 N6q
  obtain ⟨v7, hv7⟩ : ∃ z : Int32, z = ((q3 &&& (2147483647 : Int32)) % (192 : Int32)) := ⟨_, rfl⟩
  have pre8 : ∀ t, Steps p.tables e below (T6.setTop (mkF m 41 #[.val (.long q0), .second, .val (.long q1), .second, .val (.long q2), .second, .val (.int q3), .val (.ref a1), .val (.ref a5), .unset, .unset, .unset, .unset, .unset] [(.int v7)])) t → Steps p.tables e below (s₁.setTop (entryFrame m #[(.long q0), (.long q1), (.long q2), (.int q3)] maxLocals)) t := by
    rw [hv7]
    intro t k
    refine pre0 t ?_
    show Steps p.tables e below (s₁.setTop (mkF m 0 #[.val (.long q0), .second, .val (.long q1), .second, .val (.long q2), .second, .val (.int q3), .unset, .unset, .unset, .unset, .unset, .unset, .unset] [])) _
    refine XS.iconst X0.here hx rfl (hb hby at_0) ?_
    show Steps p.tables e below (s₁.setTop (mkF m 1 #[.val (.long q0), .second, .val (.long q1), .second, .val (.long q2), .second, .val (.int q3), .unset, .unset, .unset, .unset, .unset, .unset, .unset] [(.int (3 : Int32))])) _
    refine st1 _ ?_
    show Steps p.tables e below (T1.setTop (mkF m 3 #[.val (.long q0), .second, .val (.long q1), .second, .val (.long q2), .second, .val (.int q3), .unset, .unset, .unset, .unset, .unset, .unset, .unset] [(.ref a1)])) _
    refine XS.astore X1.here hx rfl (hb hby at_3) rfl rfl (l' := #[.val (.long q0), .second, .val (.long q1), .second, .val (.long q2), .second, .val (.int q3), .val (.ref a1), .unset, .unset, .unset, .unset, .unset, .unset]) rfl ?_
    show Steps p.tables e below (T1.setTop (mkF m 5 #[.val (.long q0), .second, .val (.long q1), .second, .val (.long q2), .second, .val (.int q3), .val (.ref a1), .unset, .unset, .unset, .unset, .unset, .unset] [])) _
    refine XS.aload X1.here hx rfl (hb hby at_5) rfl rfl ?_
    show Steps p.tables e below (T1.setTop (mkF m 7 #[.val (.long q0), .second, .val (.long q1), .second, .val (.long q2), .second, .val (.int q3), .val (.ref a1), .unset, .unset, .unset, .unset, .unset, .unset] [(.ref a1)])) _
    refine XS.iconst X1.here hx rfl (hb hby at_7) ?_
    show Steps p.tables e below (T1.setTop (mkF m 8 #[.val (.long q0), .second, .val (.long q1), .second, .val (.long q2), .second, .val (.int q3), .val (.ref a1), .unset, .unset, .unset, .unset, .unset, .unset] [(.int (0 : Int32)), (.ref a1)])) _
    refine XS.lloadN X1.here hx rfl (hb hby at_8) rfl ?_
    show Steps p.tables e below (T1.setTop (mkF m 9 #[.val (.long q0), .second, .val (.long q1), .second, .val (.long q2), .second, .val (.int q3), .val (.ref a1), .unset, .unset, .unset, .unset, .unset, .unset] [(.long q0), (.int (0 : Int32)), (.ref a1)])) _
    refine st2 _ ?_
    show Steps p.tables e below (T2.setTop (mkF m 10 #[.val (.long q0), .second, .val (.long q1), .second, .val (.long q2), .second, .val (.int q3), .val (.ref a1), .unset, .unset, .unset, .unset, .unset, .unset] [])) _
    refine XS.aload X2.here hx rfl (hb hby at_10) rfl rfl ?_
    show Steps p.tables e below (T2.setTop (mkF m 12 #[.val (.long q0), .second, .val (.long q1), .second, .val (.long q2), .second, .val (.int q3), .val (.ref a1), .unset, .unset, .unset, .unset, .unset, .unset] [(.ref a1)])) _
    refine XS.iconst X2.here hx rfl (hb hby at_12) ?_
    show Steps p.tables e below (T2.setTop (mkF m 13 #[.val (.long q0), .second, .val (.long q1), .second, .val (.long q2), .second, .val (.int q3), .val (.ref a1), .unset, .unset, .unset, .unset, .unset, .unset] [(.int (1 : Int32)), (.ref a1)])) _
    refine XS.lloadN X2.here hx rfl (hb hby at_13) rfl ?_
    show Steps p.tables e below (T2.setTop (mkF m 14 #[.val (.long q0), .second, .val (.long q1), .second, .val (.long q2), .second, .val (.int q3), .val (.ref a1), .unset, .unset, .unset, .unset, .unset, .unset] [(.long q1), (.int (1 : Int32)), (.ref a1)])) _
    refine st3 _ ?_
    show Steps p.tables e below (T3.setTop (mkF m 15 #[.val (.long q0), .second, .val (.long q1), .second, .val (.long q2), .second, .val (.int q3), .val (.ref a1), .unset, .unset, .unset, .unset, .unset, .unset] [])) _
    refine XS.aload X3.here hx rfl (hb hby at_15) rfl rfl ?_
    show Steps p.tables e below (T3.setTop (mkF m 17 #[.val (.long q0), .second, .val (.long q1), .second, .val (.long q2), .second, .val (.int q3), .val (.ref a1), .unset, .unset, .unset, .unset, .unset, .unset] [(.ref a1)])) _
    refine XS.iconst X3.here hx rfl (hb hby at_17) ?_
    show Steps p.tables e below (T3.setTop (mkF m 18 #[.val (.long q0), .second, .val (.long q1), .second, .val (.long q2), .second, .val (.int q3), .val (.ref a1), .unset, .unset, .unset, .unset, .unset, .unset] [(.int (2 : Int32)), (.ref a1)])) _
    refine XS.lload X3.here hx rfl (hb hby at_18) rfl ?_
    show Steps p.tables e below (T3.setTop (mkF m 20 #[.val (.long q0), .second, .val (.long q1), .second, .val (.long q2), .second, .val (.int q3), .val (.ref a1), .unset, .unset, .unset, .unset, .unset, .unset] [(.long q2), (.int (2 : Int32)), (.ref a1)])) _
    refine st4 _ ?_
    show Steps p.tables e below (T4.setTop (mkF m 21 #[.val (.long q0), .second, .val (.long q1), .second, .val (.long q2), .second, .val (.int q3), .val (.ref a1), .unset, .unset, .unset, .unset, .unset, .unset] [])) _
    refine st5 _ ?_
    show Steps p.tables e below (T5.setTop (mkF m 24 #[.val (.long q0), .second, .val (.long q1), .second, .val (.long q2), .second, .val (.int q3), .val (.ref a1), .unset, .unset, .unset, .unset, .unset, .unset] [(.ref a5)])) _
    refine XS.dup X5.here hx rfl (hb hby at_24) rfl rfl ?_
    show Steps p.tables e below (T5.setTop (mkF m 25 #[.val (.long q0), .second, .val (.long q1), .second, .val (.long q2), .second, .val (.int q3), .val (.ref a1), .unset, .unset, .unset, .unset, .unset, .unset] [(.ref a5), (.ref a5)])) _
    refine XS.aload X5.here hx rfl (hb hby at_25) rfl rfl ?_
    show Steps p.tables e below (T5.setTop (mkF m 27 #[.val (.long q0), .second, .val (.long q1), .second, .val (.long q2), .second, .val (.int q3), .val (.ref a1), .unset, .unset, .unset, .unset, .unset, .unset] [(.ref a1), (.ref a5), (.ref a5)])) _
    refine st6.trans ?_
    show Steps p.tables e below (T6.setTop (mkF m 30 #[.val (.long q0), .second, .val (.long q1), .second, .val (.long q2), .second, .val (.int q3), .val (.ref a1), .unset, .unset, .unset, .unset, .unset, .unset] [(.ref a5)])) _
    refine XS.astore X6.here hx rfl (hb hby at_30) rfl rfl (l' := #[.val (.long q0), .second, .val (.long q1), .second, .val (.long q2), .second, .val (.int q3), .val (.ref a1), .val (.ref a5), .unset, .unset, .unset, .unset, .unset]) rfl ?_
    show Steps p.tables e below (T6.setTop (mkF m 32 #[.val (.long q0), .second, .val (.long q1), .second, .val (.long q2), .second, .val (.int q3), .val (.ref a1), .val (.ref a5), .unset, .unset, .unset, .unset, .unset] [])) _
    refine XS.iload X6.here hx rfl (hb hby at_32) rfl ?_
    show Steps p.tables e below (T6.setTop (mkF m 34 #[.val (.long q0), .second, .val (.long q1), .second, .val (.long q2), .second, .val (.int q3), .val (.ref a1), .val (.ref a5), .unset, .unset, .unset, .unset, .unset] [(.int q3)])) _
    refine X6.ldcInt hx hown (mvT hZ (hw _ (List.mem_of_getElem? (i := 12) rfl))) (g := (mkF m 34 #[.val (.long q0), .second, .val (.long q1), .second, .val (.long q2), .second, .val (.int q3), .val (.ref a1), .val (.ref a5), .unset, .unset, .unset, .unset, .unset] [(.int q3)])) rfl (hb hby at_34) _ ?_
    show Steps p.tables e below (T6.setTop (mkF m 36 #[.val (.long q0), .second, .val (.long q1), .second, .val (.long q2), .second, .val (.int q3), .val (.ref a1), .val (.ref a5), .unset, .unset, .unset, .unset, .unset] [(.int (2147483647 : Int32)), (.int q3)])) _
    refine XS.iand X6.here hx rfl (hb hby at_36) rfl ?_
    show Steps p.tables e below (T6.setTop (mkF m 37 #[.val (.long q0), .second, .val (.long q1), .second, .val (.long q2), .second, .val (.int q3), .val (.ref a1), .val (.ref a5), .unset, .unset, .unset, .unset, .unset] [(.int (q3 &&& (2147483647 : Int32)))])) _
    refine XS.sipush X6.here hx rfl (hb hby at_37) ?_
    show Steps p.tables e below (T6.setTop (mkF m 40 #[.val (.long q0), .second, .val (.long q1), .second, .val (.long q2), .second, .val (.int q3), .val (.ref a1), .val (.ref a5), .unset, .unset, .unset, .unset, .unset] [(.int (192 : Int32)), (.int (q3 &&& (2147483647 : Int32)))])) _
    refine iremM X6 hx rfl (hb hby at_40) rfl (by decide) ?_
    exact k
  have pre9 : ∀ t, Steps p.tables e below (T6.setTop (mkF m 47 #[.val (.long q0), .second, .val (.long q1), .second, .val (.long q2), .second, .val (.int q3), .val (.ref a1), .val (.ref a5), .val (.int v7), .unset, .unset, .unset, .unset] [(.int (64 : Int32)), (.int v7)])) t → Steps p.tables e below (s₁.setTop (entryFrame m #[(.long q0), (.long q1), (.long q2), (.int q3)] maxLocals)) t := by
    intro t k
    refine pre8 t ?_
    show Steps p.tables e below (T6.setTop (mkF m 41 #[.val (.long q0), .second, .val (.long q1), .second, .val (.long q2), .second, .val (.int q3), .val (.ref a1), .val (.ref a5), .unset, .unset, .unset, .unset, .unset] [(.int v7)])) _
    refine XS.istore X6.here hx rfl (hb hby at_41) rfl (l' := #[.val (.long q0), .second, .val (.long q1), .second, .val (.long q2), .second, .val (.int q3), .val (.ref a1), .val (.ref a5), .val (.int v7), .unset, .unset, .unset, .unset]) rfl ?_
    show Steps p.tables e below (T6.setTop (mkF m 43 #[.val (.long q0), .second, .val (.long q1), .second, .val (.long q2), .second, .val (.int q3), .val (.ref a1), .val (.ref a5), .val (.int v7), .unset, .unset, .unset, .unset] [])) _
    refine XS.iload X6.here hx rfl (hb hby at_43) rfl ?_
    show Steps p.tables e below (T6.setTop (mkF m 45 #[.val (.long q0), .second, .val (.long q1), .second, .val (.long q2), .second, .val (.int q3), .val (.ref a1), .val (.ref a5), .val (.int v7), .unset, .unset, .unset, .unset] [(.int v7)])) _
    refine XS.bipush X6.here hx rfl (hb hby at_45) ?_
    exact k
  by_cases c10 : v7 < (64 : Int32)
  · obtain ⟨v11, hv11⟩ : ∃ z : Int32, z = (v7 % (64 : Int32)) := ⟨_, rfl⟩
    have pre12 : ∀ t, Steps p.tables e below (T6.setTop (mkF m 79 #[.val (.long q0), .second, .val (.long q1), .second, .val (.long q2), .second, .val (.int q3), .val (.ref a1), .val (.ref a5), .val (.int v7), .val (.long q0), .second, .unset, .unset] [(.int v11)])) t → Steps p.tables e below (s₁.setTop (entryFrame m #[(.long q0), (.long q1), (.long q2), (.int q3)] maxLocals)) t := by
      rw [hv11]
      intro t k
      refine pre9 t ?_
      show Steps p.tables e below (T6.setTop (mkF m 47 #[.val (.long q0), .second, .val (.long q1), .second, .val (.long q2), .second, .val (.int q3), .val (.ref a1), .val (.ref a5), .val (.int v7), .unset, .unset, .unset, .unset] [(.int (64 : Int32)), (.int v7)])) _
      refine XS.icmpNo X6.here hx rfl (hb hby at_47) rfl ((tlt c10).2.1) ?_
      show Steps p.tables e below (T6.setTop (mkF m 50 #[.val (.long q0), .second, .val (.long q1), .second, .val (.long q2), .second, .val (.int q3), .val (.ref a1), .val (.ref a5), .val (.int v7), .unset, .unset, .unset, .unset] [])) _
      refine XS.lloadN X6.here hx rfl (hb hby at_50) rfl ?_
      show Steps p.tables e below (T6.setTop (mkF m 51 #[.val (.long q0), .second, .val (.long q1), .second, .val (.long q2), .second, .val (.int q3), .val (.ref a1), .val (.ref a5), .val (.int v7), .unset, .unset, .unset, .unset] [(.long q0)])) _
      refine XS.lstore X6.here hx rfl (hb hby at_51) rfl (l' := #[.val (.long q0), .second, .val (.long q1), .second, .val (.long q2), .second, .val (.int q3), .val (.ref a1), .val (.ref a5), .val (.int v7), .val (.long q0), .second, .unset, .unset]) rfl ?_
      show Steps p.tables e below (T6.setTop (mkF m 53 #[.val (.long q0), .second, .val (.long q1), .second, .val (.long q2), .second, .val (.int q3), .val (.ref a1), .val (.ref a5), .val (.int v7), .val (.long q0), .second, .unset, .unset] [])) _
      refine XS.goto X6.here hx rfl (pc0 := 53) (pc' := 74) rfl (hb hby at_53) (by decide) (by decide) ?_
      show Steps p.tables e below (T6.setTop (mkF m 74 #[.val (.long q0), .second, .val (.long q1), .second, .val (.long q2), .second, .val (.int q3), .val (.ref a1), .val (.ref a5), .val (.int v7), .val (.long q0), .second, .unset, .unset] [])) _
      refine XS.iload X6.here hx rfl (hb hby at_74) rfl ?_
      show Steps p.tables e below (T6.setTop (mkF m 76 #[.val (.long q0), .second, .val (.long q1), .second, .val (.long q2), .second, .val (.int q3), .val (.ref a1), .val (.ref a5), .val (.int v7), .val (.long q0), .second, .unset, .unset] [(.int v7)])) _
      refine XS.bipush X6.here hx rfl (hb hby at_76) ?_
      show Steps p.tables e below (T6.setTop (mkF m 78 #[.val (.long q0), .second, .val (.long q1), .second, .val (.long q2), .second, .val (.int q3), .val (.ref a1), .val (.ref a5), .val (.int v7), .val (.long q0), .second, .unset, .unset] [(.int (64 : Int32)), (.int v7)])) _
      refine iremM X6 hx rfl (hb hby at_78) rfl (by decide) ?_
      exact k
    have pre13 : ∀ t, Steps p.tables e below (T6.setTop (mkF m 90 #[.val (.long q0), .second, .val (.long q1), .second, .val (.long q2), .second, .val (.int q3), .val (.ref a1), .val (.ref a5), .val (.int v7), .val (.long q0), .second, .val (.int v11), .unset] [(.int (lcmpW (((q0).toUInt64 >>> (v11 &&& 0x3f).toInt64.toUInt64).toInt64 &&& (1 : Int64)) (1 : Int64)))])) t → Steps p.tables e below (s₁.setTop (entryFrame m #[(.long q0), (.long q1), (.long q2), (.int q3)] maxLocals)) t := by
      intro t k
      refine pre12 t ?_
      show Steps p.tables e below (T6.setTop (mkF m 79 #[.val (.long q0), .second, .val (.long q1), .second, .val (.long q2), .second, .val (.int q3), .val (.ref a1), .val (.ref a5), .val (.int v7), .val (.long q0), .second, .unset, .unset] [(.int v11)])) _
      refine XS.istore X6.here hx rfl (hb hby at_79) rfl (l' := #[.val (.long q0), .second, .val (.long q1), .second, .val (.long q2), .second, .val (.int q3), .val (.ref a1), .val (.ref a5), .val (.int v7), .val (.long q0), .second, .val (.int v11), .unset]) rfl ?_
      show Steps p.tables e below (T6.setTop (mkF m 81 #[.val (.long q0), .second, .val (.long q1), .second, .val (.long q2), .second, .val (.int q3), .val (.ref a1), .val (.ref a5), .val (.int v7), .val (.long q0), .second, .val (.int v11), .unset] [])) _
      refine XS.lload X6.here hx rfl (hb hby at_81) rfl ?_
      show Steps p.tables e below (T6.setTop (mkF m 83 #[.val (.long q0), .second, .val (.long q1), .second, .val (.long q2), .second, .val (.int q3), .val (.ref a1), .val (.ref a5), .val (.int v7), .val (.long q0), .second, .val (.int v11), .unset] [(.long q0)])) _
      refine XS.iload X6.here hx rfl (hb hby at_83) rfl ?_
      show Steps p.tables e below (T6.setTop (mkF m 85 #[.val (.long q0), .second, .val (.long q1), .second, .val (.long q2), .second, .val (.int q3), .val (.ref a1), .val (.ref a5), .val (.int v7), .val (.long q0), .second, .val (.int v11), .unset] [(.int v11), (.long q0)])) _
      refine XS.lushr X6.here hx rfl (hb hby at_85) rfl ?_
      show Steps p.tables e below (T6.setTop (mkF m 86 #[.val (.long q0), .second, .val (.long q1), .second, .val (.long q2), .second, .val (.int q3), .val (.ref a1), .val (.ref a5), .val (.int v7), .val (.long q0), .second, .val (.int v11), .unset] [(.long ((q0).toUInt64 >>> (v11 &&& 0x3f).toInt64.toUInt64).toInt64)])) _
      refine XS.lconst X6.here hx rfl (hb hby at_86) ?_
      show Steps p.tables e below (T6.setTop (mkF m 87 #[.val (.long q0), .second, .val (.long q1), .second, .val (.long q2), .second, .val (.int q3), .val (.ref a1), .val (.ref a5), .val (.int v7), .val (.long q0), .second, .val (.int v11), .unset] [(.long (1 : Int64)), (.long ((q0).toUInt64 >>> (v11 &&& 0x3f).toInt64.toUInt64).toInt64)])) _
      refine XS.land X6.here hx rfl (hb hby at_87) rfl ?_
      show Steps p.tables e below (T6.setTop (mkF m 88 #[.val (.long q0), .second, .val (.long q1), .second, .val (.long q2), .second, .val (.int q3), .val (.ref a1), .val (.ref a5), .val (.int v7), .val (.long q0), .second, .val (.int v11), .unset] [(.long (((q0).toUInt64 >>> (v11 &&& 0x3f).toInt64.toUInt64).toInt64 &&& (1 : Int64)))])) _
      refine XS.lconst X6.here hx rfl (hb hby at_88) ?_
      show Steps p.tables e below (T6.setTop (mkF m 89 #[.val (.long q0), .second, .val (.long q1), .second, .val (.long q2), .second, .val (.int q3), .val (.ref a1), .val (.ref a5), .val (.int v7), .val (.long q0), .second, .val (.int v11), .unset] [(.long (1 : Int64)), (.long (((q0).toUInt64 >>> (v11 &&& 0x3f).toInt64.toUInt64).toInt64 &&& (1 : Int64)))])) _
      refine XS.lcmp X6.here hx rfl (hb hby at_89) rfl ?_
      exact k
    by_cases c14 : (((q0).toUInt64 >>> (v11 &&& 0x3f).toInt64.toUInt64).toInt64 &&& (1 : Int64)) = (1 : Int64)
    · obtain ⟨cq15, kq15, q15a, q15b, q15c⟩ := isOf hZ e6 A6_o0
      obtain ⟨_, _, ⟨T15, L15, k15, n15⟩, -, X15, ⟨Lc15, hQ15, l15, y15, z15⟩, st15⟩ := X6.virtualBack hx (y := (⟨"com/example/mini_bloom/minibloom/BitArray", "getBit", "(J)Z"⟩ : MethodName)) (z := (⟨"com/example/mini_bloom/minibloom/BitArray", "getBit", "(J)Z"⟩ : MethodName)) hown (mvT hZ (hw _ (List.mem_of_getElem? (i := 13) rfl))) (mvT hZ (hw _ (List.mem_of_getElem? (i := 14) rfl))) (notFace_of_selects (args := #[]) (mvT hZ (hw _ (List.mem_of_getElem? (i := 16) rfl)))) (mvT hZ (hw _ (List.mem_of_getElem? (i := 16) rfl))) (mvT hZ (hw _ (List.mem_of_getElem? (i := 15) rfl))) (by decide) (backOf (W := 0) (rm3 l Z a0 hw [] a5 ((v7).toInt64) a1 [q0, q1, q2] h6 n0 sz6 V6_a1 A6_o0 F6_o0 (own_wdin (own_inK (by assumption)))) hZ (hw _ (List.mem_of_getElem? (i := 17) rfl)) (hw _ (List.mem_of_getElem? (i := 3) rfl)) (by decide) (by decide)) q15a q15c (g := (mkF m 105 #[.val (.long q0), .second, .val (.long q1), .second, .val (.long q2), .second, .val (.int q3), .val (.ref a1), .val (.ref a5), .val (.int v7), .val (.long q0), .second, .val (.int v11), .val (.int (1 : Int32))] [(.long (v7).toInt64), (.ref a5)])) rfl (by rw [hml]; rfl) (Steps.refl _) (argsL := [(.long (v7).toInt64)]) (rest := []) (lenOf pd_5 rfl) rfl (by show 2 * 0 + _ ≤ _; exact Nat.le_of_eq rfl) (hb hby at_105) (fun _ _ => ⟨rfl, e6, (by decide : 2 + 0 ≤ _), (by decide : 4 + 0 ≤ _)⟩)
      dsimp only [Pt.U, Pt.locs, Pt.cells, Pt.slots] at X15 l15 y15 z15 st15 hQ15
      subst l15 y15 z15
      obtain ⟨rfl, N15q, e15⟩ := hQ15
      have N15 := Fr.app N6 N15q
      have pre16 : ∀ t, Steps p.tables e below (T15.setTop (mkF m 110 #[.val (.long q0), .second, .val (.long q1), .second, .val (.long q2), .second, .val (.int q3), .val (.ref a1), .val (.ref a5), .val (.int v7), .val (.long q0), .second, .val (.int v11), .val (.int (1 : Int32))] [(.int (1 : Int32)), (.int (own_f3 ((v7).toInt64) [q0, q1, q2]))])) t → Steps p.tables e below (s₁.setTop (entryFrame m #[(.long q0), (.long q1), (.long q2), (.int q3)] maxLocals)) t := by
        intro t k
        refine pre13 t ?_
        show Steps p.tables e below (T6.setTop (mkF m 90 #[.val (.long q0), .second, .val (.long q1), .second, .val (.long q2), .second, .val (.int q3), .val (.ref a1), .val (.ref a5), .val (.int v7), .val (.long q0), .second, .val (.int v11), .unset] [(.int (lcmpW (((q0).toUInt64 >>> (v11 &&& 0x3f).toInt64.toUInt64).toInt64 &&& (1 : Int64)) (1 : Int64)))])) _
        refine XS.ifNo X6.here hx rfl (hb hby at_90) rfl ((if0 _ _).trans (teq ((lw_eq (((q0).toUInt64 >>> (v11 &&& 0x3f).toInt64.toUInt64).toInt64 &&& (1 : Int64)) (1 : Int64)).mpr c14)).2) ?_
        show Steps p.tables e below (T6.setTop (mkF m 93 #[.val (.long q0), .second, .val (.long q1), .second, .val (.long q2), .second, .val (.int q3), .val (.ref a1), .val (.ref a5), .val (.int v7), .val (.long q0), .second, .val (.int v11), .unset] [])) _
        refine XS.iconst X6.here hx rfl (hb hby at_93) ?_
        show Steps p.tables e below (T6.setTop (mkF m 94 #[.val (.long q0), .second, .val (.long q1), .second, .val (.long q2), .second, .val (.int q3), .val (.ref a1), .val (.ref a5), .val (.int v7), .val (.long q0), .second, .val (.int v11), .unset] [(.int (1 : Int32))])) _
        refine XS.goto X6.here hx rfl (pc0 := 94) (pc' := 98) rfl (hb hby at_94) (by decide) (by decide) ?_
        show Steps p.tables e below (T6.setTop (mkF m 98 #[.val (.long q0), .second, .val (.long q1), .second, .val (.long q2), .second, .val (.int q3), .val (.ref a1), .val (.ref a5), .val (.int v7), .val (.long q0), .second, .val (.int v11), .unset] [(.int (1 : Int32))])) _
        refine XS.istore X6.here hx rfl (hb hby at_98) rfl (l' := #[.val (.long q0), .second, .val (.long q1), .second, .val (.long q2), .second, .val (.int q3), .val (.ref a1), .val (.ref a5), .val (.int v7), .val (.long q0), .second, .val (.int v11), .val (.int (1 : Int32))]) rfl ?_
        show Steps p.tables e below (T6.setTop (mkF m 100 #[.val (.long q0), .second, .val (.long q1), .second, .val (.long q2), .second, .val (.int q3), .val (.ref a1), .val (.ref a5), .val (.int v7), .val (.long q0), .second, .val (.int v11), .val (.int (1 : Int32))] [])) _
        refine XS.aload X6.here hx rfl (hb hby at_100) rfl rfl ?_
        show Steps p.tables e below (T6.setTop (mkF m 102 #[.val (.long q0), .second, .val (.long q1), .second, .val (.long q2), .second, .val (.int q3), .val (.ref a1), .val (.ref a5), .val (.int v7), .val (.long q0), .second, .val (.int v11), .val (.int (1 : Int32))] [(.ref a5)])) _
        refine XS.iload X6.here hx rfl (hb hby at_102) rfl ?_
        show Steps p.tables e below (T6.setTop (mkF m 104 #[.val (.long q0), .second, .val (.long q1), .second, .val (.long q2), .second, .val (.int q3), .val (.ref a1), .val (.ref a5), .val (.int v7), .val (.long q0), .second, .val (.int v11), .val (.int (1 : Int32))] [(.int v7), (.ref a5)])) _
        refine XS.i2l X6.here hx rfl (hb hby at_104) rfl ?_
        show Steps p.tables e below (T6.setTop (mkF m 105 #[.val (.long q0), .second, .val (.long q1), .second, .val (.long q2), .second, .val (.int q3), .val (.ref a1), .val (.ref a5), .val (.int v7), .val (.long q0), .second, .val (.int v11), .val (.int (1 : Int32))] [(.long (v7).toInt64), (.ref a5)])) _
        refine st15.trans ?_
        show Steps p.tables e below (T15.setTop (mkF m 108 #[.val (.long q0), .second, .val (.long q1), .second, .val (.long q2), .second, .val (.int q3), .val (.ref a1), .val (.ref a5), .val (.int v7), .val (.long q0), .second, .val (.int v11), .val (.int (1 : Int32))] [(.int (own_f3 ((v7).toInt64) [q0, q1, q2]))])) _
        refine XS.iload X15.here hx rfl (hb hby at_108) rfl ?_
        exact k
      by_cases c17 : (own_f3 ((v7).toInt64) [q0, q1, q2]) = (1 : Int32)
      · obtain ⟨fs, hr, hrun, hended, hW, hsame⟩ := X15.leave (v := some (.int (1 : Int32))) (fun h => by rw [Bd.returns] at h; cases h) hlk
        refine ⟨_, _, pre16 _ ?_, hrun, hended, _, _, rfl, ?_, ⟨_, rfl⟩, hW, hsame.mono (by decide) (by decide)⟩
        · show Steps p.tables e below (T15.setTop (mkF m 110 #[.val (.long q0), .second, .val (.long q1), .second, .val (.long q2), .second, .val (.int q3), .val (.ref a1), .val (.ref a5), .val (.int v7), .val (.long q0), .second, .val (.int v11), .val (.int (1 : Int32))] [(.int (1 : Int32)), (.int (own_f3 ((v7).toInt64) [q0, q1, q2]))])) _
          refine XS.icmpNo X15.here hx rfl (hb hby at_110) rfl ((teq c17).2) ?_
          show Steps p.tables e below (T15.setTop (mkF m 113 #[.val (.long q0), .second, .val (.long q1), .second, .val (.long q2), .second, .val (.int q3), .val (.ref a1), .val (.ref a5), .val (.int v7), .val (.long q0), .second, .val (.int v11), .val (.int (1 : Int32))] [])) _
          refine XS.iconst X15.here hx rfl (hb hby at_113) ?_
          show Steps p.tables e below (T15.setTop (mkF m 114 #[.val (.long q0), .second, .val (.long q1), .second, .val (.long q2), .second, .val (.int q3), .val (.ref a1), .val (.ref a5), .val (.int v7), .val (.long q0), .second, .val (.int v11), .val (.int (1 : Int32))] [(.int (1 : Int32))])) _
          refine XS.goto X15.here hx rfl (pc0 := 114) (pc' := 118) rfl (hb hby at_114) (by decide) (by decide) ?_
          show Steps p.tables e below (T15.setTop (mkF m 118 #[.val (.long q0), .second, .val (.long q1), .second, .val (.long q2), .second, .val (.int q3), .val (.ref a1), .val (.ref a5), .val (.int v7), .val (.long q0), .second, .val (.int v11), .val (.int (1 : Int32))] [(.int (1 : Int32))])) _
          exact retN X15 hx (t := .boolean) Bd.returns (by simp) (hb hby at_118) hr
        · show Q0 Z q0 q1 q2 q3 h0 n0 _ T15.heap _
          rw [e15]
          exact ⟨by have w_hv11 := hv11.symm; subst w_hv11; have w_hv7 := hv7.symm; subst w_hv7; simp only [own_f0, if_pos c10, if_pos c14, if_pos c17], N15⟩
      · obtain ⟨fs, hr, hrun, hended, hW, hsame⟩ := X15.leave (v := some (.int (0 : Int32))) (fun h => by rw [Bd.returns] at h; cases h) hlk
        refine ⟨_, _, pre16 _ ?_, hrun, hended, _, _, rfl, ?_, ⟨_, rfl⟩, hW, hsame.mono (by decide) (by decide)⟩
        · show Steps p.tables e below (T15.setTop (mkF m 110 #[.val (.long q0), .second, .val (.long q1), .second, .val (.long q2), .second, .val (.int q3), .val (.ref a1), .val (.ref a5), .val (.int v7), .val (.long q0), .second, .val (.int v11), .val (.int (1 : Int32))] [(.int (1 : Int32)), (.int (own_f3 ((v7).toInt64) [q0, q1, q2]))])) _
          refine XS.icmpYes X15.here hx rfl (pc0 := 110) (pc' := 117) rfl (hb hby at_110) rfl ((feq c17).2) (by decide) (by decide) ?_
          show Steps p.tables e below (T15.setTop (mkF m 117 #[.val (.long q0), .second, .val (.long q1), .second, .val (.long q2), .second, .val (.int q3), .val (.ref a1), .val (.ref a5), .val (.int v7), .val (.long q0), .second, .val (.int v11), .val (.int (1 : Int32))] [])) _
          refine XS.iconst X15.here hx rfl (hb hby at_117) ?_
          show Steps p.tables e below (T15.setTop (mkF m 118 #[.val (.long q0), .second, .val (.long q1), .second, .val (.long q2), .second, .val (.int q3), .val (.ref a1), .val (.ref a5), .val (.int v7), .val (.long q0), .second, .val (.int v11), .val (.int (1 : Int32))] [(.int (0 : Int32))])) _
          exact retN X15 hx (t := .boolean) Bd.returns (by simp) (hb hby at_118) hr
        · show Q0 Z q0 q1 q2 q3 h0 n0 _ T15.heap _
          rw [e15]
          exact ⟨by have w_hv11 := hv11.symm; subst w_hv11; have w_hv7 := hv7.symm; subst w_hv7; simp only [own_f0, if_pos c10, if_pos c14, if_neg c17], N15⟩
    · obtain ⟨cq18, kq18, q18a, q18b, q18c⟩ := isOf hZ e6 A6_o0
      obtain ⟨_, _, ⟨T18, L18, k18, n18⟩, -, X18, ⟨Lc18, hQ18, l18, y18, z18⟩, st18⟩ := X6.virtualBack hx (y := (⟨"com/example/mini_bloom/minibloom/BitArray", "getBit", "(J)Z"⟩ : MethodName)) (z := (⟨"com/example/mini_bloom/minibloom/BitArray", "getBit", "(J)Z"⟩ : MethodName)) hown (mvT hZ (hw _ (List.mem_of_getElem? (i := 13) rfl))) (mvT hZ (hw _ (List.mem_of_getElem? (i := 14) rfl))) (notFace_of_selects (args := #[]) (mvT hZ (hw _ (List.mem_of_getElem? (i := 16) rfl)))) (mvT hZ (hw _ (List.mem_of_getElem? (i := 16) rfl))) (mvT hZ (hw _ (List.mem_of_getElem? (i := 15) rfl))) (by decide) (backOf (W := 0) (rm3 l Z a0 hw [] a5 ((v7).toInt64) a1 [q0, q1, q2] h6 n0 sz6 V6_a1 A6_o0 F6_o0 (own_wdin (own_inK (by assumption)))) hZ (hw _ (List.mem_of_getElem? (i := 17) rfl)) (hw _ (List.mem_of_getElem? (i := 3) rfl)) (by decide) (by decide)) q18a q18c (g := (mkF m 105 #[.val (.long q0), .second, .val (.long q1), .second, .val (.long q2), .second, .val (.int q3), .val (.ref a1), .val (.ref a5), .val (.int v7), .val (.long q0), .second, .val (.int v11), .val (.int (0 : Int32))] [(.long (v7).toInt64), (.ref a5)])) rfl (by rw [hml]; rfl) (Steps.refl _) (argsL := [(.long (v7).toInt64)]) (rest := []) (lenOf pd_5 rfl) rfl (by show 2 * 0 + _ ≤ _; exact Nat.le_of_eq rfl) (hb hby at_105) (fun _ _ => ⟨rfl, e6, (by decide : 2 + 0 ≤ _), (by decide : 4 + 0 ≤ _)⟩)
      dsimp only [Pt.U, Pt.locs, Pt.cells, Pt.slots] at X18 l18 y18 z18 st18 hQ18
      subst l18 y18 z18
      obtain ⟨rfl, N18q, e18⟩ := hQ18
      have N18 := Fr.app N6 N18q
      have pre19 : ∀ t, Steps p.tables e below (T18.setTop (mkF m 110 #[.val (.long q0), .second, .val (.long q1), .second, .val (.long q2), .second, .val (.int q3), .val (.ref a1), .val (.ref a5), .val (.int v7), .val (.long q0), .second, .val (.int v11), .val (.int (0 : Int32))] [(.int (0 : Int32)), (.int (own_f3 ((v7).toInt64) [q0, q1, q2]))])) t → Steps p.tables e below (s₁.setTop (entryFrame m #[(.long q0), (.long q1), (.long q2), (.int q3)] maxLocals)) t := by
        intro t k
        refine pre13 t ?_
        show Steps p.tables e below (T6.setTop (mkF m 90 #[.val (.long q0), .second, .val (.long q1), .second, .val (.long q2), .second, .val (.int q3), .val (.ref a1), .val (.ref a5), .val (.int v7), .val (.long q0), .second, .val (.int v11), .unset] [(.int (lcmpW (((q0).toUInt64 >>> (v11 &&& 0x3f).toInt64.toUInt64).toInt64 &&& (1 : Int64)) (1 : Int64)))])) _
        refine XS.ifYes X6.here hx rfl (pc0 := 90) (pc' := 97) rfl (hb hby at_90) rfl ((if0 _ _).trans (feq (mt (lw_eq (((q0).toUInt64 >>> (v11 &&& 0x3f).toInt64.toUInt64).toInt64 &&& (1 : Int64)) (1 : Int64)).mp c14)).2) (by decide) (by decide) ?_
        show Steps p.tables e below (T6.setTop (mkF m 97 #[.val (.long q0), .second, .val (.long q1), .second, .val (.long q2), .second, .val (.int q3), .val (.ref a1), .val (.ref a5), .val (.int v7), .val (.long q0), .second, .val (.int v11), .unset] [])) _
        refine XS.iconst X6.here hx rfl (hb hby at_97) ?_
        show Steps p.tables e below (T6.setTop (mkF m 98 #[.val (.long q0), .second, .val (.long q1), .second, .val (.long q2), .second, .val (.int q3), .val (.ref a1), .val (.ref a5), .val (.int v7), .val (.long q0), .second, .val (.int v11), .unset] [(.int (0 : Int32))])) _
        refine XS.istore X6.here hx rfl (hb hby at_98) rfl (l' := #[.val (.long q0), .second, .val (.long q1), .second, .val (.long q2), .second, .val (.int q3), .val (.ref a1), .val (.ref a5), .val (.int v7), .val (.long q0), .second, .val (.int v11), .val (.int (0 : Int32))]) rfl ?_
        show Steps p.tables e below (T6.setTop (mkF m 100 #[.val (.long q0), .second, .val (.long q1), .second, .val (.long q2), .second, .val (.int q3), .val (.ref a1), .val (.ref a5), .val (.int v7), .val (.long q0), .second, .val (.int v11), .val (.int (0 : Int32))] [])) _
        refine XS.aload X6.here hx rfl (hb hby at_100) rfl rfl ?_
        show Steps p.tables e below (T6.setTop (mkF m 102 #[.val (.long q0), .second, .val (.long q1), .second, .val (.long q2), .second, .val (.int q3), .val (.ref a1), .val (.ref a5), .val (.int v7), .val (.long q0), .second, .val (.int v11), .val (.int (0 : Int32))] [(.ref a5)])) _
        refine XS.iload X6.here hx rfl (hb hby at_102) rfl ?_
        show Steps p.tables e below (T6.setTop (mkF m 104 #[.val (.long q0), .second, .val (.long q1), .second, .val (.long q2), .second, .val (.int q3), .val (.ref a1), .val (.ref a5), .val (.int v7), .val (.long q0), .second, .val (.int v11), .val (.int (0 : Int32))] [(.int v7), (.ref a5)])) _
        refine XS.i2l X6.here hx rfl (hb hby at_104) rfl ?_
        show Steps p.tables e below (T6.setTop (mkF m 105 #[.val (.long q0), .second, .val (.long q1), .second, .val (.long q2), .second, .val (.int q3), .val (.ref a1), .val (.ref a5), .val (.int v7), .val (.long q0), .second, .val (.int v11), .val (.int (0 : Int32))] [(.long (v7).toInt64), (.ref a5)])) _
        refine st18.trans ?_
        show Steps p.tables e below (T18.setTop (mkF m 108 #[.val (.long q0), .second, .val (.long q1), .second, .val (.long q2), .second, .val (.int q3), .val (.ref a1), .val (.ref a5), .val (.int v7), .val (.long q0), .second, .val (.int v11), .val (.int (0 : Int32))] [(.int (own_f3 ((v7).toInt64) [q0, q1, q2]))])) _
        refine XS.iload X18.here hx rfl (hb hby at_108) rfl ?_
        exact k
      by_cases c20 : (own_f3 ((v7).toInt64) [q0, q1, q2]) = (0 : Int32)
      · obtain ⟨fs, hr, hrun, hended, hW, hsame⟩ := X18.leave (v := some (.int (1 : Int32))) (fun h => by rw [Bd.returns] at h; cases h) hlk
        refine ⟨_, _, pre19 _ ?_, hrun, hended, _, _, rfl, ?_, ⟨_, rfl⟩, hW, hsame.mono (by decide) (by decide)⟩
        · show Steps p.tables e below (T18.setTop (mkF m 110 #[.val (.long q0), .second, .val (.long q1), .second, .val (.long q2), .second, .val (.int q3), .val (.ref a1), .val (.ref a5), .val (.int v7), .val (.long q0), .second, .val (.int v11), .val (.int (0 : Int32))] [(.int (0 : Int32)), (.int (own_f3 ((v7).toInt64) [q0, q1, q2]))])) _
          refine XS.icmpNo X18.here hx rfl (hb hby at_110) rfl ((teq c20).2) ?_
          show Steps p.tables e below (T18.setTop (mkF m 113 #[.val (.long q0), .second, .val (.long q1), .second, .val (.long q2), .second, .val (.int q3), .val (.ref a1), .val (.ref a5), .val (.int v7), .val (.long q0), .second, .val (.int v11), .val (.int (0 : Int32))] [])) _
          refine XS.iconst X18.here hx rfl (hb hby at_113) ?_
          show Steps p.tables e below (T18.setTop (mkF m 114 #[.val (.long q0), .second, .val (.long q1), .second, .val (.long q2), .second, .val (.int q3), .val (.ref a1), .val (.ref a5), .val (.int v7), .val (.long q0), .second, .val (.int v11), .val (.int (0 : Int32))] [(.int (1 : Int32))])) _
          refine XS.goto X18.here hx rfl (pc0 := 114) (pc' := 118) rfl (hb hby at_114) (by decide) (by decide) ?_
          show Steps p.tables e below (T18.setTop (mkF m 118 #[.val (.long q0), .second, .val (.long q1), .second, .val (.long q2), .second, .val (.int q3), .val (.ref a1), .val (.ref a5), .val (.int v7), .val (.long q0), .second, .val (.int v11), .val (.int (0 : Int32))] [(.int (1 : Int32))])) _
          exact retN X18 hx (t := .boolean) Bd.returns (by simp) (hb hby at_118) hr
        · show Q0 Z q0 q1 q2 q3 h0 n0 _ T18.heap _
          rw [e18]
          exact ⟨by have w_hv11 := hv11.symm; subst w_hv11; have w_hv7 := hv7.symm; subst w_hv7; simp only [own_f0, if_pos c10, if_neg c14, if_pos c20], N18⟩
      · obtain ⟨fs, hr, hrun, hended, hW, hsame⟩ := X18.leave (v := some (.int (0 : Int32))) (fun h => by rw [Bd.returns] at h; cases h) hlk
        refine ⟨_, _, pre19 _ ?_, hrun, hended, _, _, rfl, ?_, ⟨_, rfl⟩, hW, hsame.mono (by decide) (by decide)⟩
        · show Steps p.tables e below (T18.setTop (mkF m 110 #[.val (.long q0), .second, .val (.long q1), .second, .val (.long q2), .second, .val (.int q3), .val (.ref a1), .val (.ref a5), .val (.int v7), .val (.long q0), .second, .val (.int v11), .val (.int (0 : Int32))] [(.int (0 : Int32)), (.int (own_f3 ((v7).toInt64) [q0, q1, q2]))])) _
          refine XS.icmpYes X18.here hx rfl (pc0 := 110) (pc' := 117) rfl (hb hby at_110) rfl ((feq c20).2) (by decide) (by decide) ?_
          show Steps p.tables e below (T18.setTop (mkF m 117 #[.val (.long q0), .second, .val (.long q1), .second, .val (.long q2), .second, .val (.int q3), .val (.ref a1), .val (.ref a5), .val (.int v7), .val (.long q0), .second, .val (.int v11), .val (.int (0 : Int32))] [])) _
          refine XS.iconst X18.here hx rfl (hb hby at_117) ?_
          show Steps p.tables e below (T18.setTop (mkF m 118 #[.val (.long q0), .second, .val (.long q1), .second, .val (.long q2), .second, .val (.int q3), .val (.ref a1), .val (.ref a5), .val (.int v7), .val (.long q0), .second, .val (.int v11), .val (.int (0 : Int32))] [(.int (0 : Int32))])) _
          exact retN X18 hx (t := .boolean) Bd.returns (by simp) (hb hby at_118) hr
        · show Q0 Z q0 q1 q2 q3 h0 n0 _ T18.heap _
          rw [e18]
          exact ⟨by have w_hv11 := hv11.symm; subst w_hv11; have w_hv7 := hv7.symm; subst w_hv7; simp only [own_f0, if_pos c10, if_neg c14, if_neg c20], N18⟩
  · have pre21 : ∀ t, Steps p.tables e below (T6.setTop (mkF m 61 #[.val (.long q0), .second, .val (.long q1), .second, .val (.long q2), .second, .val (.int q3), .val (.ref a1), .val (.ref a5), .val (.int v7), .unset, .unset, .unset, .unset] [(.int (128 : Int32)), (.int v7)])) t → Steps p.tables e below (s₁.setTop (entryFrame m #[(.long q0), (.long q1), (.long q2), (.int q3)] maxLocals)) t := by
      intro t k
      refine pre9 t ?_
      show Steps p.tables e below (T6.setTop (mkF m 47 #[.val (.long q0), .second, .val (.long q1), .second, .val (.long q2), .second, .val (.int q3), .val (.ref a1), .val (.ref a5), .val (.int v7), .unset, .unset, .unset, .unset] [(.int (64 : Int32)), (.int v7)])) _
      refine XS.icmpYes X6.here hx rfl (pc0 := 47) (pc' := 56) rfl (hb hby at_47) rfl ((flt c10).2.1) (by decide) (by decide) ?_
      show Steps p.tables e below (T6.setTop (mkF m 56 #[.val (.long q0), .second, .val (.long q1), .second, .val (.long q2), .second, .val (.int q3), .val (.ref a1), .val (.ref a5), .val (.int v7), .unset, .unset, .unset, .unset] [])) _
      refine XS.iload X6.here hx rfl (hb hby at_56) rfl ?_
      show Steps p.tables e below (T6.setTop (mkF m 58 #[.val (.long q0), .second, .val (.long q1), .second, .val (.long q2), .second, .val (.int q3), .val (.ref a1), .val (.ref a5), .val (.int v7), .unset, .unset, .unset, .unset] [(.int v7)])) _
      refine XS.sipush X6.here hx rfl (hb hby at_58) ?_
      exact k
    by_cases c22 : v7 < (128 : Int32)
    · obtain ⟨v23, hv23⟩ : ∃ z : Int32, z = (v7 % (64 : Int32)) := ⟨_, rfl⟩
      have pre24 : ∀ t, Steps p.tables e below (T6.setTop (mkF m 79 #[.val (.long q0), .second, .val (.long q1), .second, .val (.long q2), .second, .val (.int q3), .val (.ref a1), .val (.ref a5), .val (.int v7), .val (.long q1), .second, .unset, .unset] [(.int v23)])) t → Steps p.tables e below (s₁.setTop (entryFrame m #[(.long q0), (.long q1), (.long q2), (.int q3)] maxLocals)) t := by
        rw [hv23]
        intro t k
        refine pre21 t ?_
        show Steps p.tables e below (T6.setTop (mkF m 61 #[.val (.long q0), .second, .val (.long q1), .second, .val (.long q2), .second, .val (.int q3), .val (.ref a1), .val (.ref a5), .val (.int v7), .unset, .unset, .unset, .unset] [(.int (128 : Int32)), (.int v7)])) _
        refine XS.icmpNo X6.here hx rfl (hb hby at_61) rfl ((tlt c22).2.1) ?_
        show Steps p.tables e below (T6.setTop (mkF m 64 #[.val (.long q0), .second, .val (.long q1), .second, .val (.long q2), .second, .val (.int q3), .val (.ref a1), .val (.ref a5), .val (.int v7), .unset, .unset, .unset, .unset] [])) _
        refine XS.lloadN X6.here hx rfl (hb hby at_64) rfl ?_
        show Steps p.tables e below (T6.setTop (mkF m 65 #[.val (.long q0), .second, .val (.long q1), .second, .val (.long q2), .second, .val (.int q3), .val (.ref a1), .val (.ref a5), .val (.int v7), .unset, .unset, .unset, .unset] [(.long q1)])) _
        refine XS.lstore X6.here hx rfl (hb hby at_65) rfl (l' := #[.val (.long q0), .second, .val (.long q1), .second, .val (.long q2), .second, .val (.int q3), .val (.ref a1), .val (.ref a5), .val (.int v7), .val (.long q1), .second, .unset, .unset]) rfl ?_
        show Steps p.tables e below (T6.setTop (mkF m 67 #[.val (.long q0), .second, .val (.long q1), .second, .val (.long q2), .second, .val (.int q3), .val (.ref a1), .val (.ref a5), .val (.int v7), .val (.long q1), .second, .unset, .unset] [])) _
        refine XS.goto X6.here hx rfl (pc0 := 67) (pc' := 74) rfl (hb hby at_67) (by decide) (by decide) ?_
        show Steps p.tables e below (T6.setTop (mkF m 74 #[.val (.long q0), .second, .val (.long q1), .second, .val (.long q2), .second, .val (.int q3), .val (.ref a1), .val (.ref a5), .val (.int v7), .val (.long q1), .second, .unset, .unset] [])) _
        refine XS.iload X6.here hx rfl (hb hby at_74) rfl ?_
        show Steps p.tables e below (T6.setTop (mkF m 76 #[.val (.long q0), .second, .val (.long q1), .second, .val (.long q2), .second, .val (.int q3), .val (.ref a1), .val (.ref a5), .val (.int v7), .val (.long q1), .second, .unset, .unset] [(.int v7)])) _
        refine XS.bipush X6.here hx rfl (hb hby at_76) ?_
        show Steps p.tables e below (T6.setTop (mkF m 78 #[.val (.long q0), .second, .val (.long q1), .second, .val (.long q2), .second, .val (.int q3), .val (.ref a1), .val (.ref a5), .val (.int v7), .val (.long q1), .second, .unset, .unset] [(.int (64 : Int32)), (.int v7)])) _
        refine iremM X6 hx rfl (hb hby at_78) rfl (by decide) ?_
        exact k
      have pre25 : ∀ t, Steps p.tables e below (T6.setTop (mkF m 90 #[.val (.long q0), .second, .val (.long q1), .second, .val (.long q2), .second, .val (.int q3), .val (.ref a1), .val (.ref a5), .val (.int v7), .val (.long q1), .second, .val (.int v23), .unset] [(.int (lcmpW (((q1).toUInt64 >>> (v23 &&& 0x3f).toInt64.toUInt64).toInt64 &&& (1 : Int64)) (1 : Int64)))])) t → Steps p.tables e below (s₁.setTop (entryFrame m #[(.long q0), (.long q1), (.long q2), (.int q3)] maxLocals)) t := by
        intro t k
        refine pre24 t ?_
        show Steps p.tables e below (T6.setTop (mkF m 79 #[.val (.long q0), .second, .val (.long q1), .second, .val (.long q2), .second, .val (.int q3), .val (.ref a1), .val (.ref a5), .val (.int v7), .val (.long q1), .second, .unset, .unset] [(.int v23)])) _
        refine XS.istore X6.here hx rfl (hb hby at_79) rfl (l' := #[.val (.long q0), .second, .val (.long q1), .second, .val (.long q2), .second, .val (.int q3), .val (.ref a1), .val (.ref a5), .val (.int v7), .val (.long q1), .second, .val (.int v23), .unset]) rfl ?_
        show Steps p.tables e below (T6.setTop (mkF m 81 #[.val (.long q0), .second, .val (.long q1), .second, .val (.long q2), .second, .val (.int q3), .val (.ref a1), .val (.ref a5), .val (.int v7), .val (.long q1), .second, .val (.int v23), .unset] [])) _
        refine XS.lload X6.here hx rfl (hb hby at_81) rfl ?_
        show Steps p.tables e below (T6.setTop (mkF m 83 #[.val (.long q0), .second, .val (.long q1), .second, .val (.long q2), .second, .val (.int q3), .val (.ref a1), .val (.ref a5), .val (.int v7), .val (.long q1), .second, .val (.int v23), .unset] [(.long q1)])) _
        refine XS.iload X6.here hx rfl (hb hby at_83) rfl ?_
        show Steps p.tables e below (T6.setTop (mkF m 85 #[.val (.long q0), .second, .val (.long q1), .second, .val (.long q2), .second, .val (.int q3), .val (.ref a1), .val (.ref a5), .val (.int v7), .val (.long q1), .second, .val (.int v23), .unset] [(.int v23), (.long q1)])) _
        refine XS.lushr X6.here hx rfl (hb hby at_85) rfl ?_
        show Steps p.tables e below (T6.setTop (mkF m 86 #[.val (.long q0), .second, .val (.long q1), .second, .val (.long q2), .second, .val (.int q3), .val (.ref a1), .val (.ref a5), .val (.int v7), .val (.long q1), .second, .val (.int v23), .unset] [(.long ((q1).toUInt64 >>> (v23 &&& 0x3f).toInt64.toUInt64).toInt64)])) _
        refine XS.lconst X6.here hx rfl (hb hby at_86) ?_
        show Steps p.tables e below (T6.setTop (mkF m 87 #[.val (.long q0), .second, .val (.long q1), .second, .val (.long q2), .second, .val (.int q3), .val (.ref a1), .val (.ref a5), .val (.int v7), .val (.long q1), .second, .val (.int v23), .unset] [(.long (1 : Int64)), (.long ((q1).toUInt64 >>> (v23 &&& 0x3f).toInt64.toUInt64).toInt64)])) _
        refine XS.land X6.here hx rfl (hb hby at_87) rfl ?_
        show Steps p.tables e below (T6.setTop (mkF m 88 #[.val (.long q0), .second, .val (.long q1), .second, .val (.long q2), .second, .val (.int q3), .val (.ref a1), .val (.ref a5), .val (.int v7), .val (.long q1), .second, .val (.int v23), .unset] [(.long (((q1).toUInt64 >>> (v23 &&& 0x3f).toInt64.toUInt64).toInt64 &&& (1 : Int64)))])) _
        refine XS.lconst X6.here hx rfl (hb hby at_88) ?_
        show Steps p.tables e below (T6.setTop (mkF m 89 #[.val (.long q0), .second, .val (.long q1), .second, .val (.long q2), .second, .val (.int q3), .val (.ref a1), .val (.ref a5), .val (.int v7), .val (.long q1), .second, .val (.int v23), .unset] [(.long (1 : Int64)), (.long (((q1).toUInt64 >>> (v23 &&& 0x3f).toInt64.toUInt64).toInt64 &&& (1 : Int64)))])) _
        refine XS.lcmp X6.here hx rfl (hb hby at_89) rfl ?_
        exact k
      by_cases c26 : (((q1).toUInt64 >>> (v23 &&& 0x3f).toInt64.toUInt64).toInt64 &&& (1 : Int64)) = (1 : Int64)
      · obtain ⟨cq27, kq27, q27a, q27b, q27c⟩ := isOf hZ e6 A6_o0
        obtain ⟨_, _, ⟨T27, L27, k27, n27⟩, -, X27, ⟨Lc27, hQ27, l27, y27, z27⟩, st27⟩ := X6.virtualBack hx (y := (⟨"com/example/mini_bloom/minibloom/BitArray", "getBit", "(J)Z"⟩ : MethodName)) (z := (⟨"com/example/mini_bloom/minibloom/BitArray", "getBit", "(J)Z"⟩ : MethodName)) hown (mvT hZ (hw _ (List.mem_of_getElem? (i := 13) rfl))) (mvT hZ (hw _ (List.mem_of_getElem? (i := 14) rfl))) (notFace_of_selects (args := #[]) (mvT hZ (hw _ (List.mem_of_getElem? (i := 16) rfl)))) (mvT hZ (hw _ (List.mem_of_getElem? (i := 16) rfl))) (mvT hZ (hw _ (List.mem_of_getElem? (i := 15) rfl))) (by decide) (backOf (W := 0) (rm3 l Z a0 hw [] a5 ((v7).toInt64) a1 [q0, q1, q2] h6 n0 sz6 V6_a1 A6_o0 F6_o0 (own_wdin (own_inK (by assumption)))) hZ (hw _ (List.mem_of_getElem? (i := 17) rfl)) (hw _ (List.mem_of_getElem? (i := 3) rfl)) (by decide) (by decide)) q27a q27c (g := (mkF m 105 #[.val (.long q0), .second, .val (.long q1), .second, .val (.long q2), .second, .val (.int q3), .val (.ref a1), .val (.ref a5), .val (.int v7), .val (.long q1), .second, .val (.int v23), .val (.int (1 : Int32))] [(.long (v7).toInt64), (.ref a5)])) rfl (by rw [hml]; rfl) (Steps.refl _) (argsL := [(.long (v7).toInt64)]) (rest := []) (lenOf pd_5 rfl) rfl (by show 2 * 0 + _ ≤ _; exact Nat.le_of_eq rfl) (hb hby at_105) (fun _ _ => ⟨rfl, e6, (by decide : 2 + 0 ≤ _), (by decide : 4 + 0 ≤ _)⟩)
        dsimp only [Pt.U, Pt.locs, Pt.cells, Pt.slots] at X27 l27 y27 z27 st27 hQ27
        subst l27 y27 z27
        obtain ⟨rfl, N27q, e27⟩ := hQ27
        have N27 := Fr.app N6 N27q
        have pre28 : ∀ t, Steps p.tables e below (T27.setTop (mkF m 110 #[.val (.long q0), .second, .val (.long q1), .second, .val (.long q2), .second, .val (.int q3), .val (.ref a1), .val (.ref a5), .val (.int v7), .val (.long q1), .second, .val (.int v23), .val (.int (1 : Int32))] [(.int (1 : Int32)), (.int (own_f3 ((v7).toInt64) [q0, q1, q2]))])) t → Steps p.tables e below (s₁.setTop (entryFrame m #[(.long q0), (.long q1), (.long q2), (.int q3)] maxLocals)) t := by
          intro t k
          refine pre25 t ?_
          show Steps p.tables e below (T6.setTop (mkF m 90 #[.val (.long q0), .second, .val (.long q1), .second, .val (.long q2), .second, .val (.int q3), .val (.ref a1), .val (.ref a5), .val (.int v7), .val (.long q1), .second, .val (.int v23), .unset] [(.int (lcmpW (((q1).toUInt64 >>> (v23 &&& 0x3f).toInt64.toUInt64).toInt64 &&& (1 : Int64)) (1 : Int64)))])) _
          refine XS.ifNo X6.here hx rfl (hb hby at_90) rfl ((if0 _ _).trans (teq ((lw_eq (((q1).toUInt64 >>> (v23 &&& 0x3f).toInt64.toUInt64).toInt64 &&& (1 : Int64)) (1 : Int64)).mpr c26)).2) ?_
          show Steps p.tables e below (T6.setTop (mkF m 93 #[.val (.long q0), .second, .val (.long q1), .second, .val (.long q2), .second, .val (.int q3), .val (.ref a1), .val (.ref a5), .val (.int v7), .val (.long q1), .second, .val (.int v23), .unset] [])) _
          refine XS.iconst X6.here hx rfl (hb hby at_93) ?_
          show Steps p.tables e below (T6.setTop (mkF m 94 #[.val (.long q0), .second, .val (.long q1), .second, .val (.long q2), .second, .val (.int q3), .val (.ref a1), .val (.ref a5), .val (.int v7), .val (.long q1), .second, .val (.int v23), .unset] [(.int (1 : Int32))])) _
          refine XS.goto X6.here hx rfl (pc0 := 94) (pc' := 98) rfl (hb hby at_94) (by decide) (by decide) ?_
          show Steps p.tables e below (T6.setTop (mkF m 98 #[.val (.long q0), .second, .val (.long q1), .second, .val (.long q2), .second, .val (.int q3), .val (.ref a1), .val (.ref a5), .val (.int v7), .val (.long q1), .second, .val (.int v23), .unset] [(.int (1 : Int32))])) _
          refine XS.istore X6.here hx rfl (hb hby at_98) rfl (l' := #[.val (.long q0), .second, .val (.long q1), .second, .val (.long q2), .second, .val (.int q3), .val (.ref a1), .val (.ref a5), .val (.int v7), .val (.long q1), .second, .val (.int v23), .val (.int (1 : Int32))]) rfl ?_
          show Steps p.tables e below (T6.setTop (mkF m 100 #[.val (.long q0), .second, .val (.long q1), .second, .val (.long q2), .second, .val (.int q3), .val (.ref a1), .val (.ref a5), .val (.int v7), .val (.long q1), .second, .val (.int v23), .val (.int (1 : Int32))] [])) _
          refine XS.aload X6.here hx rfl (hb hby at_100) rfl rfl ?_
          show Steps p.tables e below (T6.setTop (mkF m 102 #[.val (.long q0), .second, .val (.long q1), .second, .val (.long q2), .second, .val (.int q3), .val (.ref a1), .val (.ref a5), .val (.int v7), .val (.long q1), .second, .val (.int v23), .val (.int (1 : Int32))] [(.ref a5)])) _
          refine XS.iload X6.here hx rfl (hb hby at_102) rfl ?_
          show Steps p.tables e below (T6.setTop (mkF m 104 #[.val (.long q0), .second, .val (.long q1), .second, .val (.long q2), .second, .val (.int q3), .val (.ref a1), .val (.ref a5), .val (.int v7), .val (.long q1), .second, .val (.int v23), .val (.int (1 : Int32))] [(.int v7), (.ref a5)])) _
          refine XS.i2l X6.here hx rfl (hb hby at_104) rfl ?_
          show Steps p.tables e below (T6.setTop (mkF m 105 #[.val (.long q0), .second, .val (.long q1), .second, .val (.long q2), .second, .val (.int q3), .val (.ref a1), .val (.ref a5), .val (.int v7), .val (.long q1), .second, .val (.int v23), .val (.int (1 : Int32))] [(.long (v7).toInt64), (.ref a5)])) _
          refine st27.trans ?_
          show Steps p.tables e below (T27.setTop (mkF m 108 #[.val (.long q0), .second, .val (.long q1), .second, .val (.long q2), .second, .val (.int q3), .val (.ref a1), .val (.ref a5), .val (.int v7), .val (.long q1), .second, .val (.int v23), .val (.int (1 : Int32))] [(.int (own_f3 ((v7).toInt64) [q0, q1, q2]))])) _
          refine XS.iload X27.here hx rfl (hb hby at_108) rfl ?_
          exact k
        by_cases c29 : (own_f3 ((v7).toInt64) [q0, q1, q2]) = (1 : Int32)
        · obtain ⟨fs, hr, hrun, hended, hW, hsame⟩ := X27.leave (v := some (.int (1 : Int32))) (fun h => by rw [Bd.returns] at h; cases h) hlk
          refine ⟨_, _, pre28 _ ?_, hrun, hended, _, _, rfl, ?_, ⟨_, rfl⟩, hW, hsame.mono (by decide) (by decide)⟩
          · show Steps p.tables e below (T27.setTop (mkF m 110 #[.val (.long q0), .second, .val (.long q1), .second, .val (.long q2), .second, .val (.int q3), .val (.ref a1), .val (.ref a5), .val (.int v7), .val (.long q1), .second, .val (.int v23), .val (.int (1 : Int32))] [(.int (1 : Int32)), (.int (own_f3 ((v7).toInt64) [q0, q1, q2]))])) _
            refine XS.icmpNo X27.here hx rfl (hb hby at_110) rfl ((teq c29).2) ?_
            show Steps p.tables e below (T27.setTop (mkF m 113 #[.val (.long q0), .second, .val (.long q1), .second, .val (.long q2), .second, .val (.int q3), .val (.ref a1), .val (.ref a5), .val (.int v7), .val (.long q1), .second, .val (.int v23), .val (.int (1 : Int32))] [])) _
            refine XS.iconst X27.here hx rfl (hb hby at_113) ?_
            show Steps p.tables e below (T27.setTop (mkF m 114 #[.val (.long q0), .second, .val (.long q1), .second, .val (.long q2), .second, .val (.int q3), .val (.ref a1), .val (.ref a5), .val (.int v7), .val (.long q1), .second, .val (.int v23), .val (.int (1 : Int32))] [(.int (1 : Int32))])) _
            refine XS.goto X27.here hx rfl (pc0 := 114) (pc' := 118) rfl (hb hby at_114) (by decide) (by decide) ?_
            show Steps p.tables e below (T27.setTop (mkF m 118 #[.val (.long q0), .second, .val (.long q1), .second, .val (.long q2), .second, .val (.int q3), .val (.ref a1), .val (.ref a5), .val (.int v7), .val (.long q1), .second, .val (.int v23), .val (.int (1 : Int32))] [(.int (1 : Int32))])) _
            exact retN X27 hx (t := .boolean) Bd.returns (by simp) (hb hby at_118) hr
          · show Q0 Z q0 q1 q2 q3 h0 n0 _ T27.heap _
            rw [e27]
            exact ⟨by have w_hv23 := hv23.symm; subst w_hv23; have w_hv7 := hv7.symm; subst w_hv7; simp only [own_f0, if_neg c10, if_pos c22, if_pos c26, if_pos c29], N27⟩
        · obtain ⟨fs, hr, hrun, hended, hW, hsame⟩ := X27.leave (v := some (.int (0 : Int32))) (fun h => by rw [Bd.returns] at h; cases h) hlk
          refine ⟨_, _, pre28 _ ?_, hrun, hended, _, _, rfl, ?_, ⟨_, rfl⟩, hW, hsame.mono (by decide) (by decide)⟩
          · show Steps p.tables e below (T27.setTop (mkF m 110 #[.val (.long q0), .second, .val (.long q1), .second, .val (.long q2), .second, .val (.int q3), .val (.ref a1), .val (.ref a5), .val (.int v7), .val (.long q1), .second, .val (.int v23), .val (.int (1 : Int32))] [(.int (1 : Int32)), (.int (own_f3 ((v7).toInt64) [q0, q1, q2]))])) _
            refine XS.icmpYes X27.here hx rfl (pc0 := 110) (pc' := 117) rfl (hb hby at_110) rfl ((feq c29).2) (by decide) (by decide) ?_
            show Steps p.tables e below (T27.setTop (mkF m 117 #[.val (.long q0), .second, .val (.long q1), .second, .val (.long q2), .second, .val (.int q3), .val (.ref a1), .val (.ref a5), .val (.int v7), .val (.long q1), .second, .val (.int v23), .val (.int (1 : Int32))] [])) _
            refine XS.iconst X27.here hx rfl (hb hby at_117) ?_
            show Steps p.tables e below (T27.setTop (mkF m 118 #[.val (.long q0), .second, .val (.long q1), .second, .val (.long q2), .second, .val (.int q3), .val (.ref a1), .val (.ref a5), .val (.int v7), .val (.long q1), .second, .val (.int v23), .val (.int (1 : Int32))] [(.int (0 : Int32))])) _
            exact retN X27 hx (t := .boolean) Bd.returns (by simp) (hb hby at_118) hr
          · show Q0 Z q0 q1 q2 q3 h0 n0 _ T27.heap _
            rw [e27]
            exact ⟨by have w_hv23 := hv23.symm; subst w_hv23; have w_hv7 := hv7.symm; subst w_hv7; simp only [own_f0, if_neg c10, if_pos c22, if_pos c26, if_neg c29], N27⟩
      · obtain ⟨cq30, kq30, q30a, q30b, q30c⟩ := isOf hZ e6 A6_o0
        obtain ⟨_, _, ⟨T30, L30, k30, n30⟩, -, X30, ⟨Lc30, hQ30, l30, y30, z30⟩, st30⟩ := X6.virtualBack hx (y := (⟨"com/example/mini_bloom/minibloom/BitArray", "getBit", "(J)Z"⟩ : MethodName)) (z := (⟨"com/example/mini_bloom/minibloom/BitArray", "getBit", "(J)Z"⟩ : MethodName)) hown (mvT hZ (hw _ (List.mem_of_getElem? (i := 13) rfl))) (mvT hZ (hw _ (List.mem_of_getElem? (i := 14) rfl))) (notFace_of_selects (args := #[]) (mvT hZ (hw _ (List.mem_of_getElem? (i := 16) rfl)))) (mvT hZ (hw _ (List.mem_of_getElem? (i := 16) rfl))) (mvT hZ (hw _ (List.mem_of_getElem? (i := 15) rfl))) (by decide) (backOf (W := 0) (rm3 l Z a0 hw [] a5 ((v7).toInt64) a1 [q0, q1, q2] h6 n0 sz6 V6_a1 A6_o0 F6_o0 (own_wdin (own_inK (by assumption)))) hZ (hw _ (List.mem_of_getElem? (i := 17) rfl)) (hw _ (List.mem_of_getElem? (i := 3) rfl)) (by decide) (by decide)) q30a q30c (g := (mkF m 105 #[.val (.long q0), .second, .val (.long q1), .second, .val (.long q2), .second, .val (.int q3), .val (.ref a1), .val (.ref a5), .val (.int v7), .val (.long q1), .second, .val (.int v23), .val (.int (0 : Int32))] [(.long (v7).toInt64), (.ref a5)])) rfl (by rw [hml]; rfl) (Steps.refl _) (argsL := [(.long (v7).toInt64)]) (rest := []) (lenOf pd_5 rfl) rfl (by show 2 * 0 + _ ≤ _; exact Nat.le_of_eq rfl) (hb hby at_105) (fun _ _ => ⟨rfl, e6, (by decide : 2 + 0 ≤ _), (by decide : 4 + 0 ≤ _)⟩)
        dsimp only [Pt.U, Pt.locs, Pt.cells, Pt.slots] at X30 l30 y30 z30 st30 hQ30
        subst l30 y30 z30
        obtain ⟨rfl, N30q, e30⟩ := hQ30
        have N30 := Fr.app N6 N30q
        have pre31 : ∀ t, Steps p.tables e below (T30.setTop (mkF m 110 #[.val (.long q0), .second, .val (.long q1), .second, .val (.long q2), .second, .val (.int q3), .val (.ref a1), .val (.ref a5), .val (.int v7), .val (.long q1), .second, .val (.int v23), .val (.int (0 : Int32))] [(.int (0 : Int32)), (.int (own_f3 ((v7).toInt64) [q0, q1, q2]))])) t → Steps p.tables e below (s₁.setTop (entryFrame m #[(.long q0), (.long q1), (.long q2), (.int q3)] maxLocals)) t := by
          intro t k
          refine pre25 t ?_
          show Steps p.tables e below (T6.setTop (mkF m 90 #[.val (.long q0), .second, .val (.long q1), .second, .val (.long q2), .second, .val (.int q3), .val (.ref a1), .val (.ref a5), .val (.int v7), .val (.long q1), .second, .val (.int v23), .unset] [(.int (lcmpW (((q1).toUInt64 >>> (v23 &&& 0x3f).toInt64.toUInt64).toInt64 &&& (1 : Int64)) (1 : Int64)))])) _
          refine XS.ifYes X6.here hx rfl (pc0 := 90) (pc' := 97) rfl (hb hby at_90) rfl ((if0 _ _).trans (feq (mt (lw_eq (((q1).toUInt64 >>> (v23 &&& 0x3f).toInt64.toUInt64).toInt64 &&& (1 : Int64)) (1 : Int64)).mp c26)).2) (by decide) (by decide) ?_
          show Steps p.tables e below (T6.setTop (mkF m 97 #[.val (.long q0), .second, .val (.long q1), .second, .val (.long q2), .second, .val (.int q3), .val (.ref a1), .val (.ref a5), .val (.int v7), .val (.long q1), .second, .val (.int v23), .unset] [])) _
          refine XS.iconst X6.here hx rfl (hb hby at_97) ?_
          show Steps p.tables e below (T6.setTop (mkF m 98 #[.val (.long q0), .second, .val (.long q1), .second, .val (.long q2), .second, .val (.int q3), .val (.ref a1), .val (.ref a5), .val (.int v7), .val (.long q1), .second, .val (.int v23), .unset] [(.int (0 : Int32))])) _
          refine XS.istore X6.here hx rfl (hb hby at_98) rfl (l' := #[.val (.long q0), .second, .val (.long q1), .second, .val (.long q2), .second, .val (.int q3), .val (.ref a1), .val (.ref a5), .val (.int v7), .val (.long q1), .second, .val (.int v23), .val (.int (0 : Int32))]) rfl ?_
          show Steps p.tables e below (T6.setTop (mkF m 100 #[.val (.long q0), .second, .val (.long q1), .second, .val (.long q2), .second, .val (.int q3), .val (.ref a1), .val (.ref a5), .val (.int v7), .val (.long q1), .second, .val (.int v23), .val (.int (0 : Int32))] [])) _
          refine XS.aload X6.here hx rfl (hb hby at_100) rfl rfl ?_
          show Steps p.tables e below (T6.setTop (mkF m 102 #[.val (.long q0), .second, .val (.long q1), .second, .val (.long q2), .second, .val (.int q3), .val (.ref a1), .val (.ref a5), .val (.int v7), .val (.long q1), .second, .val (.int v23), .val (.int (0 : Int32))] [(.ref a5)])) _
          refine XS.iload X6.here hx rfl (hb hby at_102) rfl ?_
          show Steps p.tables e below (T6.setTop (mkF m 104 #[.val (.long q0), .second, .val (.long q1), .second, .val (.long q2), .second, .val (.int q3), .val (.ref a1), .val (.ref a5), .val (.int v7), .val (.long q1), .second, .val (.int v23), .val (.int (0 : Int32))] [(.int v7), (.ref a5)])) _
          refine XS.i2l X6.here hx rfl (hb hby at_104) rfl ?_
          show Steps p.tables e below (T6.setTop (mkF m 105 #[.val (.long q0), .second, .val (.long q1), .second, .val (.long q2), .second, .val (.int q3), .val (.ref a1), .val (.ref a5), .val (.int v7), .val (.long q1), .second, .val (.int v23), .val (.int (0 : Int32))] [(.long (v7).toInt64), (.ref a5)])) _
          refine st30.trans ?_
          show Steps p.tables e below (T30.setTop (mkF m 108 #[.val (.long q0), .second, .val (.long q1), .second, .val (.long q2), .second, .val (.int q3), .val (.ref a1), .val (.ref a5), .val (.int v7), .val (.long q1), .second, .val (.int v23), .val (.int (0 : Int32))] [(.int (own_f3 ((v7).toInt64) [q0, q1, q2]))])) _
          refine XS.iload X30.here hx rfl (hb hby at_108) rfl ?_
          exact k
        by_cases c32 : (own_f3 ((v7).toInt64) [q0, q1, q2]) = (0 : Int32)
        · obtain ⟨fs, hr, hrun, hended, hW, hsame⟩ := X30.leave (v := some (.int (1 : Int32))) (fun h => by rw [Bd.returns] at h; cases h) hlk
          refine ⟨_, _, pre31 _ ?_, hrun, hended, _, _, rfl, ?_, ⟨_, rfl⟩, hW, hsame.mono (by decide) (by decide)⟩
          · show Steps p.tables e below (T30.setTop (mkF m 110 #[.val (.long q0), .second, .val (.long q1), .second, .val (.long q2), .second, .val (.int q3), .val (.ref a1), .val (.ref a5), .val (.int v7), .val (.long q1), .second, .val (.int v23), .val (.int (0 : Int32))] [(.int (0 : Int32)), (.int (own_f3 ((v7).toInt64) [q0, q1, q2]))])) _
            refine XS.icmpNo X30.here hx rfl (hb hby at_110) rfl ((teq c32).2) ?_
            show Steps p.tables e below (T30.setTop (mkF m 113 #[.val (.long q0), .second, .val (.long q1), .second, .val (.long q2), .second, .val (.int q3), .val (.ref a1), .val (.ref a5), .val (.int v7), .val (.long q1), .second, .val (.int v23), .val (.int (0 : Int32))] [])) _
            refine XS.iconst X30.here hx rfl (hb hby at_113) ?_
            show Steps p.tables e below (T30.setTop (mkF m 114 #[.val (.long q0), .second, .val (.long q1), .second, .val (.long q2), .second, .val (.int q3), .val (.ref a1), .val (.ref a5), .val (.int v7), .val (.long q1), .second, .val (.int v23), .val (.int (0 : Int32))] [(.int (1 : Int32))])) _
            refine XS.goto X30.here hx rfl (pc0 := 114) (pc' := 118) rfl (hb hby at_114) (by decide) (by decide) ?_
            show Steps p.tables e below (T30.setTop (mkF m 118 #[.val (.long q0), .second, .val (.long q1), .second, .val (.long q2), .second, .val (.int q3), .val (.ref a1), .val (.ref a5), .val (.int v7), .val (.long q1), .second, .val (.int v23), .val (.int (0 : Int32))] [(.int (1 : Int32))])) _
            exact retN X30 hx (t := .boolean) Bd.returns (by simp) (hb hby at_118) hr
          · show Q0 Z q0 q1 q2 q3 h0 n0 _ T30.heap _
            rw [e30]
            exact ⟨by have w_hv23 := hv23.symm; subst w_hv23; have w_hv7 := hv7.symm; subst w_hv7; simp only [own_f0, if_neg c10, if_pos c22, if_neg c26, if_pos c32], N30⟩
        · obtain ⟨fs, hr, hrun, hended, hW, hsame⟩ := X30.leave (v := some (.int (0 : Int32))) (fun h => by rw [Bd.returns] at h; cases h) hlk
          refine ⟨_, _, pre31 _ ?_, hrun, hended, _, _, rfl, ?_, ⟨_, rfl⟩, hW, hsame.mono (by decide) (by decide)⟩
          · show Steps p.tables e below (T30.setTop (mkF m 110 #[.val (.long q0), .second, .val (.long q1), .second, .val (.long q2), .second, .val (.int q3), .val (.ref a1), .val (.ref a5), .val (.int v7), .val (.long q1), .second, .val (.int v23), .val (.int (0 : Int32))] [(.int (0 : Int32)), (.int (own_f3 ((v7).toInt64) [q0, q1, q2]))])) _
            refine XS.icmpYes X30.here hx rfl (pc0 := 110) (pc' := 117) rfl (hb hby at_110) rfl ((feq c32).2) (by decide) (by decide) ?_
            show Steps p.tables e below (T30.setTop (mkF m 117 #[.val (.long q0), .second, .val (.long q1), .second, .val (.long q2), .second, .val (.int q3), .val (.ref a1), .val (.ref a5), .val (.int v7), .val (.long q1), .second, .val (.int v23), .val (.int (0 : Int32))] [])) _
            refine XS.iconst X30.here hx rfl (hb hby at_117) ?_
            show Steps p.tables e below (T30.setTop (mkF m 118 #[.val (.long q0), .second, .val (.long q1), .second, .val (.long q2), .second, .val (.int q3), .val (.ref a1), .val (.ref a5), .val (.int v7), .val (.long q1), .second, .val (.int v23), .val (.int (0 : Int32))] [(.int (0 : Int32))])) _
            exact retN X30 hx (t := .boolean) Bd.returns (by simp) (hb hby at_118) hr
          · show Q0 Z q0 q1 q2 q3 h0 n0 _ T30.heap _
            rw [e30]
            exact ⟨by have w_hv23 := hv23.symm; subst w_hv23; have w_hv7 := hv7.symm; subst w_hv7; simp only [own_f0, if_neg c10, if_pos c22, if_neg c26, if_neg c32], N30⟩
    · obtain ⟨v33, hv33⟩ : ∃ z : Int32, z = (v7 % (64 : Int32)) := ⟨_, rfl⟩
      have pre34 : ∀ t, Steps p.tables e below (T6.setTop (mkF m 79 #[.val (.long q0), .second, .val (.long q1), .second, .val (.long q2), .second, .val (.int q3), .val (.ref a1), .val (.ref a5), .val (.int v7), .val (.long q2), .second, .unset, .unset] [(.int v33)])) t → Steps p.tables e below (s₁.setTop (entryFrame m #[(.long q0), (.long q1), (.long q2), (.int q3)] maxLocals)) t := by
        rw [hv33]
        intro t k
        refine pre21 t ?_
        show Steps p.tables e below (T6.setTop (mkF m 61 #[.val (.long q0), .second, .val (.long q1), .second, .val (.long q2), .second, .val (.int q3), .val (.ref a1), .val (.ref a5), .val (.int v7), .unset, .unset, .unset, .unset] [(.int (128 : Int32)), (.int v7)])) _
        refine XS.icmpYes X6.here hx rfl (pc0 := 61) (pc' := 70) rfl (hb hby at_61) rfl ((flt c22).2.1) (by decide) (by decide) ?_
        show Steps p.tables e below (T6.setTop (mkF m 70 #[.val (.long q0), .second, .val (.long q1), .second, .val (.long q2), .second, .val (.int q3), .val (.ref a1), .val (.ref a5), .val (.int v7), .unset, .unset, .unset, .unset] [])) _
        refine XS.lload X6.here hx rfl (hb hby at_70) rfl ?_
        show Steps p.tables e below (T6.setTop (mkF m 72 #[.val (.long q0), .second, .val (.long q1), .second, .val (.long q2), .second, .val (.int q3), .val (.ref a1), .val (.ref a5), .val (.int v7), .unset, .unset, .unset, .unset] [(.long q2)])) _
        refine XS.lstore X6.here hx rfl (hb hby at_72) rfl (l' := #[.val (.long q0), .second, .val (.long q1), .second, .val (.long q2), .second, .val (.int q3), .val (.ref a1), .val (.ref a5), .val (.int v7), .val (.long q2), .second, .unset, .unset]) rfl ?_
        show Steps p.tables e below (T6.setTop (mkF m 74 #[.val (.long q0), .second, .val (.long q1), .second, .val (.long q2), .second, .val (.int q3), .val (.ref a1), .val (.ref a5), .val (.int v7), .val (.long q2), .second, .unset, .unset] [])) _
        refine XS.iload X6.here hx rfl (hb hby at_74) rfl ?_
        show Steps p.tables e below (T6.setTop (mkF m 76 #[.val (.long q0), .second, .val (.long q1), .second, .val (.long q2), .second, .val (.int q3), .val (.ref a1), .val (.ref a5), .val (.int v7), .val (.long q2), .second, .unset, .unset] [(.int v7)])) _
        refine XS.bipush X6.here hx rfl (hb hby at_76) ?_
        show Steps p.tables e below (T6.setTop (mkF m 78 #[.val (.long q0), .second, .val (.long q1), .second, .val (.long q2), .second, .val (.int q3), .val (.ref a1), .val (.ref a5), .val (.int v7), .val (.long q2), .second, .unset, .unset] [(.int (64 : Int32)), (.int v7)])) _
        refine iremM X6 hx rfl (hb hby at_78) rfl (by decide) ?_
        exact k
      have pre35 : ∀ t, Steps p.tables e below (T6.setTop (mkF m 90 #[.val (.long q0), .second, .val (.long q1), .second, .val (.long q2), .second, .val (.int q3), .val (.ref a1), .val (.ref a5), .val (.int v7), .val (.long q2), .second, .val (.int v33), .unset] [(.int (lcmpW (((q2).toUInt64 >>> (v33 &&& 0x3f).toInt64.toUInt64).toInt64 &&& (1 : Int64)) (1 : Int64)))])) t → Steps p.tables e below (s₁.setTop (entryFrame m #[(.long q0), (.long q1), (.long q2), (.int q3)] maxLocals)) t := by
        intro t k
        refine pre34 t ?_
        show Steps p.tables e below (T6.setTop (mkF m 79 #[.val (.long q0), .second, .val (.long q1), .second, .val (.long q2), .second, .val (.int q3), .val (.ref a1), .val (.ref a5), .val (.int v7), .val (.long q2), .second, .unset, .unset] [(.int v33)])) _
        refine XS.istore X6.here hx rfl (hb hby at_79) rfl (l' := #[.val (.long q0), .second, .val (.long q1), .second, .val (.long q2), .second, .val (.int q3), .val (.ref a1), .val (.ref a5), .val (.int v7), .val (.long q2), .second, .val (.int v33), .unset]) rfl ?_
        show Steps p.tables e below (T6.setTop (mkF m 81 #[.val (.long q0), .second, .val (.long q1), .second, .val (.long q2), .second, .val (.int q3), .val (.ref a1), .val (.ref a5), .val (.int v7), .val (.long q2), .second, .val (.int v33), .unset] [])) _
        refine XS.lload X6.here hx rfl (hb hby at_81) rfl ?_
        show Steps p.tables e below (T6.setTop (mkF m 83 #[.val (.long q0), .second, .val (.long q1), .second, .val (.long q2), .second, .val (.int q3), .val (.ref a1), .val (.ref a5), .val (.int v7), .val (.long q2), .second, .val (.int v33), .unset] [(.long q2)])) _
        refine XS.iload X6.here hx rfl (hb hby at_83) rfl ?_
        show Steps p.tables e below (T6.setTop (mkF m 85 #[.val (.long q0), .second, .val (.long q1), .second, .val (.long q2), .second, .val (.int q3), .val (.ref a1), .val (.ref a5), .val (.int v7), .val (.long q2), .second, .val (.int v33), .unset] [(.int v33), (.long q2)])) _
        refine XS.lushr X6.here hx rfl (hb hby at_85) rfl ?_
        show Steps p.tables e below (T6.setTop (mkF m 86 #[.val (.long q0), .second, .val (.long q1), .second, .val (.long q2), .second, .val (.int q3), .val (.ref a1), .val (.ref a5), .val (.int v7), .val (.long q2), .second, .val (.int v33), .unset] [(.long ((q2).toUInt64 >>> (v33 &&& 0x3f).toInt64.toUInt64).toInt64)])) _
        refine XS.lconst X6.here hx rfl (hb hby at_86) ?_
        show Steps p.tables e below (T6.setTop (mkF m 87 #[.val (.long q0), .second, .val (.long q1), .second, .val (.long q2), .second, .val (.int q3), .val (.ref a1), .val (.ref a5), .val (.int v7), .val (.long q2), .second, .val (.int v33), .unset] [(.long (1 : Int64)), (.long ((q2).toUInt64 >>> (v33 &&& 0x3f).toInt64.toUInt64).toInt64)])) _
        refine XS.land X6.here hx rfl (hb hby at_87) rfl ?_
        show Steps p.tables e below (T6.setTop (mkF m 88 #[.val (.long q0), .second, .val (.long q1), .second, .val (.long q2), .second, .val (.int q3), .val (.ref a1), .val (.ref a5), .val (.int v7), .val (.long q2), .second, .val (.int v33), .unset] [(.long (((q2).toUInt64 >>> (v33 &&& 0x3f).toInt64.toUInt64).toInt64 &&& (1 : Int64)))])) _
        refine XS.lconst X6.here hx rfl (hb hby at_88) ?_
        show Steps p.tables e below (T6.setTop (mkF m 89 #[.val (.long q0), .second, .val (.long q1), .second, .val (.long q2), .second, .val (.int q3), .val (.ref a1), .val (.ref a5), .val (.int v7), .val (.long q2), .second, .val (.int v33), .unset] [(.long (1 : Int64)), (.long (((q2).toUInt64 >>> (v33 &&& 0x3f).toInt64.toUInt64).toInt64 &&& (1 : Int64)))])) _
        refine XS.lcmp X6.here hx rfl (hb hby at_89) rfl ?_
        exact k
      by_cases c36 : (((q2).toUInt64 >>> (v33 &&& 0x3f).toInt64.toUInt64).toInt64 &&& (1 : Int64)) = (1 : Int64)
      · obtain ⟨cq37, kq37, q37a, q37b, q37c⟩ := isOf hZ e6 A6_o0
        obtain ⟨_, _, ⟨T37, L37, k37, n37⟩, -, X37, ⟨Lc37, hQ37, l37, y37, z37⟩, st37⟩ := X6.virtualBack hx (y := (⟨"com/example/mini_bloom/minibloom/BitArray", "getBit", "(J)Z"⟩ : MethodName)) (z := (⟨"com/example/mini_bloom/minibloom/BitArray", "getBit", "(J)Z"⟩ : MethodName)) hown (mvT hZ (hw _ (List.mem_of_getElem? (i := 13) rfl))) (mvT hZ (hw _ (List.mem_of_getElem? (i := 14) rfl))) (notFace_of_selects (args := #[]) (mvT hZ (hw _ (List.mem_of_getElem? (i := 16) rfl)))) (mvT hZ (hw _ (List.mem_of_getElem? (i := 16) rfl))) (mvT hZ (hw _ (List.mem_of_getElem? (i := 15) rfl))) (by decide) (backOf (W := 0) (rm3 l Z a0 hw [] a5 ((v7).toInt64) a1 [q0, q1, q2] h6 n0 sz6 V6_a1 A6_o0 F6_o0 (own_wdin (own_inK (by assumption)))) hZ (hw _ (List.mem_of_getElem? (i := 17) rfl)) (hw _ (List.mem_of_getElem? (i := 3) rfl)) (by decide) (by decide)) q37a q37c (g := (mkF m 105 #[.val (.long q0), .second, .val (.long q1), .second, .val (.long q2), .second, .val (.int q3), .val (.ref a1), .val (.ref a5), .val (.int v7), .val (.long q2), .second, .val (.int v33), .val (.int (1 : Int32))] [(.long (v7).toInt64), (.ref a5)])) rfl (by rw [hml]; rfl) (Steps.refl _) (argsL := [(.long (v7).toInt64)]) (rest := []) (lenOf pd_5 rfl) rfl (by show 2 * 0 + _ ≤ _; exact Nat.le_of_eq rfl) (hb hby at_105) (fun _ _ => ⟨rfl, e6, (by decide : 2 + 0 ≤ _), (by decide : 4 + 0 ≤ _)⟩)
        dsimp only [Pt.U, Pt.locs, Pt.cells, Pt.slots] at X37 l37 y37 z37 st37 hQ37
        subst l37 y37 z37
        obtain ⟨rfl, N37q, e37⟩ := hQ37
        have N37 := Fr.app N6 N37q
        have pre38 : ∀ t, Steps p.tables e below (T37.setTop (mkF m 110 #[.val (.long q0), .second, .val (.long q1), .second, .val (.long q2), .second, .val (.int q3), .val (.ref a1), .val (.ref a5), .val (.int v7), .val (.long q2), .second, .val (.int v33), .val (.int (1 : Int32))] [(.int (1 : Int32)), (.int (own_f3 ((v7).toInt64) [q0, q1, q2]))])) t → Steps p.tables e below (s₁.setTop (entryFrame m #[(.long q0), (.long q1), (.long q2), (.int q3)] maxLocals)) t := by
          intro t k
          refine pre35 t ?_
          show Steps p.tables e below (T6.setTop (mkF m 90 #[.val (.long q0), .second, .val (.long q1), .second, .val (.long q2), .second, .val (.int q3), .val (.ref a1), .val (.ref a5), .val (.int v7), .val (.long q2), .second, .val (.int v33), .unset] [(.int (lcmpW (((q2).toUInt64 >>> (v33 &&& 0x3f).toInt64.toUInt64).toInt64 &&& (1 : Int64)) (1 : Int64)))])) _
          refine XS.ifNo X6.here hx rfl (hb hby at_90) rfl ((if0 _ _).trans (teq ((lw_eq (((q2).toUInt64 >>> (v33 &&& 0x3f).toInt64.toUInt64).toInt64 &&& (1 : Int64)) (1 : Int64)).mpr c36)).2) ?_
          show Steps p.tables e below (T6.setTop (mkF m 93 #[.val (.long q0), .second, .val (.long q1), .second, .val (.long q2), .second, .val (.int q3), .val (.ref a1), .val (.ref a5), .val (.int v7), .val (.long q2), .second, .val (.int v33), .unset] [])) _
          refine XS.iconst X6.here hx rfl (hb hby at_93) ?_
          show Steps p.tables e below (T6.setTop (mkF m 94 #[.val (.long q0), .second, .val (.long q1), .second, .val (.long q2), .second, .val (.int q3), .val (.ref a1), .val (.ref a5), .val (.int v7), .val (.long q2), .second, .val (.int v33), .unset] [(.int (1 : Int32))])) _
          refine XS.goto X6.here hx rfl (pc0 := 94) (pc' := 98) rfl (hb hby at_94) (by decide) (by decide) ?_
          show Steps p.tables e below (T6.setTop (mkF m 98 #[.val (.long q0), .second, .val (.long q1), .second, .val (.long q2), .second, .val (.int q3), .val (.ref a1), .val (.ref a5), .val (.int v7), .val (.long q2), .second, .val (.int v33), .unset] [(.int (1 : Int32))])) _
          refine XS.istore X6.here hx rfl (hb hby at_98) rfl (l' := #[.val (.long q0), .second, .val (.long q1), .second, .val (.long q2), .second, .val (.int q3), .val (.ref a1), .val (.ref a5), .val (.int v7), .val (.long q2), .second, .val (.int v33), .val (.int (1 : Int32))]) rfl ?_
          show Steps p.tables e below (T6.setTop (mkF m 100 #[.val (.long q0), .second, .val (.long q1), .second, .val (.long q2), .second, .val (.int q3), .val (.ref a1), .val (.ref a5), .val (.int v7), .val (.long q2), .second, .val (.int v33), .val (.int (1 : Int32))] [])) _
          refine XS.aload X6.here hx rfl (hb hby at_100) rfl rfl ?_
          show Steps p.tables e below (T6.setTop (mkF m 102 #[.val (.long q0), .second, .val (.long q1), .second, .val (.long q2), .second, .val (.int q3), .val (.ref a1), .val (.ref a5), .val (.int v7), .val (.long q2), .second, .val (.int v33), .val (.int (1 : Int32))] [(.ref a5)])) _
          refine XS.iload X6.here hx rfl (hb hby at_102) rfl ?_
          show Steps p.tables e below (T6.setTop (mkF m 104 #[.val (.long q0), .second, .val (.long q1), .second, .val (.long q2), .second, .val (.int q3), .val (.ref a1), .val (.ref a5), .val (.int v7), .val (.long q2), .second, .val (.int v33), .val (.int (1 : Int32))] [(.int v7), (.ref a5)])) _
          refine XS.i2l X6.here hx rfl (hb hby at_104) rfl ?_
          show Steps p.tables e below (T6.setTop (mkF m 105 #[.val (.long q0), .second, .val (.long q1), .second, .val (.long q2), .second, .val (.int q3), .val (.ref a1), .val (.ref a5), .val (.int v7), .val (.long q2), .second, .val (.int v33), .val (.int (1 : Int32))] [(.long (v7).toInt64), (.ref a5)])) _
          refine st37.trans ?_
          show Steps p.tables e below (T37.setTop (mkF m 108 #[.val (.long q0), .second, .val (.long q1), .second, .val (.long q2), .second, .val (.int q3), .val (.ref a1), .val (.ref a5), .val (.int v7), .val (.long q2), .second, .val (.int v33), .val (.int (1 : Int32))] [(.int (own_f3 ((v7).toInt64) [q0, q1, q2]))])) _
          refine XS.iload X37.here hx rfl (hb hby at_108) rfl ?_
          exact k
        by_cases c39 : (own_f3 ((v7).toInt64) [q0, q1, q2]) = (1 : Int32)
        · obtain ⟨fs, hr, hrun, hended, hW, hsame⟩ := X37.leave (v := some (.int (1 : Int32))) (fun h => by rw [Bd.returns] at h; cases h) hlk
          refine ⟨_, _, pre38 _ ?_, hrun, hended, _, _, rfl, ?_, ⟨_, rfl⟩, hW, hsame.mono (by decide) (by decide)⟩
          · show Steps p.tables e below (T37.setTop (mkF m 110 #[.val (.long q0), .second, .val (.long q1), .second, .val (.long q2), .second, .val (.int q3), .val (.ref a1), .val (.ref a5), .val (.int v7), .val (.long q2), .second, .val (.int v33), .val (.int (1 : Int32))] [(.int (1 : Int32)), (.int (own_f3 ((v7).toInt64) [q0, q1, q2]))])) _
            refine XS.icmpNo X37.here hx rfl (hb hby at_110) rfl ((teq c39).2) ?_
            show Steps p.tables e below (T37.setTop (mkF m 113 #[.val (.long q0), .second, .val (.long q1), .second, .val (.long q2), .second, .val (.int q3), .val (.ref a1), .val (.ref a5), .val (.int v7), .val (.long q2), .second, .val (.int v33), .val (.int (1 : Int32))] [])) _
            refine XS.iconst X37.here hx rfl (hb hby at_113) ?_
            show Steps p.tables e below (T37.setTop (mkF m 114 #[.val (.long q0), .second, .val (.long q1), .second, .val (.long q2), .second, .val (.int q3), .val (.ref a1), .val (.ref a5), .val (.int v7), .val (.long q2), .second, .val (.int v33), .val (.int (1 : Int32))] [(.int (1 : Int32))])) _
            refine XS.goto X37.here hx rfl (pc0 := 114) (pc' := 118) rfl (hb hby at_114) (by decide) (by decide) ?_
            show Steps p.tables e below (T37.setTop (mkF m 118 #[.val (.long q0), .second, .val (.long q1), .second, .val (.long q2), .second, .val (.int q3), .val (.ref a1), .val (.ref a5), .val (.int v7), .val (.long q2), .second, .val (.int v33), .val (.int (1 : Int32))] [(.int (1 : Int32))])) _
            exact retN X37 hx (t := .boolean) Bd.returns (by simp) (hb hby at_118) hr
          · show Q0 Z q0 q1 q2 q3 h0 n0 _ T37.heap _
            rw [e37]
            exact ⟨by have w_hv33 := hv33.symm; subst w_hv33; have w_hv7 := hv7.symm; subst w_hv7; simp only [own_f0, if_neg c10, if_neg c22, if_pos c36, if_pos c39], N37⟩
        · obtain ⟨fs, hr, hrun, hended, hW, hsame⟩ := X37.leave (v := some (.int (0 : Int32))) (fun h => by rw [Bd.returns] at h; cases h) hlk
          refine ⟨_, _, pre38 _ ?_, hrun, hended, _, _, rfl, ?_, ⟨_, rfl⟩, hW, hsame.mono (by decide) (by decide)⟩
          · show Steps p.tables e below (T37.setTop (mkF m 110 #[.val (.long q0), .second, .val (.long q1), .second, .val (.long q2), .second, .val (.int q3), .val (.ref a1), .val (.ref a5), .val (.int v7), .val (.long q2), .second, .val (.int v33), .val (.int (1 : Int32))] [(.int (1 : Int32)), (.int (own_f3 ((v7).toInt64) [q0, q1, q2]))])) _
            refine XS.icmpYes X37.here hx rfl (pc0 := 110) (pc' := 117) rfl (hb hby at_110) rfl ((feq c39).2) (by decide) (by decide) ?_
            show Steps p.tables e below (T37.setTop (mkF m 117 #[.val (.long q0), .second, .val (.long q1), .second, .val (.long q2), .second, .val (.int q3), .val (.ref a1), .val (.ref a5), .val (.int v7), .val (.long q2), .second, .val (.int v33), .val (.int (1 : Int32))] [])) _
            refine XS.iconst X37.here hx rfl (hb hby at_117) ?_
            show Steps p.tables e below (T37.setTop (mkF m 118 #[.val (.long q0), .second, .val (.long q1), .second, .val (.long q2), .second, .val (.int q3), .val (.ref a1), .val (.ref a5), .val (.int v7), .val (.long q2), .second, .val (.int v33), .val (.int (1 : Int32))] [(.int (0 : Int32))])) _
            exact retN X37 hx (t := .boolean) Bd.returns (by simp) (hb hby at_118) hr
          · show Q0 Z q0 q1 q2 q3 h0 n0 _ T37.heap _
            rw [e37]
            exact ⟨by have w_hv33 := hv33.symm; subst w_hv33; have w_hv7 := hv7.symm; subst w_hv7; simp only [own_f0, if_neg c10, if_neg c22, if_pos c36, if_neg c39], N37⟩
      · obtain ⟨cq40, kq40, q40a, q40b, q40c⟩ := isOf hZ e6 A6_o0
        obtain ⟨_, _, ⟨T40, L40, k40, n40⟩, -, X40, ⟨Lc40, hQ40, l40, y40, z40⟩, st40⟩ := X6.virtualBack hx (y := (⟨"com/example/mini_bloom/minibloom/BitArray", "getBit", "(J)Z"⟩ : MethodName)) (z := (⟨"com/example/mini_bloom/minibloom/BitArray", "getBit", "(J)Z"⟩ : MethodName)) hown (mvT hZ (hw _ (List.mem_of_getElem? (i := 13) rfl))) (mvT hZ (hw _ (List.mem_of_getElem? (i := 14) rfl))) (notFace_of_selects (args := #[]) (mvT hZ (hw _ (List.mem_of_getElem? (i := 16) rfl)))) (mvT hZ (hw _ (List.mem_of_getElem? (i := 16) rfl))) (mvT hZ (hw _ (List.mem_of_getElem? (i := 15) rfl))) (by decide) (backOf (W := 0) (rm3 l Z a0 hw [] a5 ((v7).toInt64) a1 [q0, q1, q2] h6 n0 sz6 V6_a1 A6_o0 F6_o0 (own_wdin (own_inK (by assumption)))) hZ (hw _ (List.mem_of_getElem? (i := 17) rfl)) (hw _ (List.mem_of_getElem? (i := 3) rfl)) (by decide) (by decide)) q40a q40c (g := (mkF m 105 #[.val (.long q0), .second, .val (.long q1), .second, .val (.long q2), .second, .val (.int q3), .val (.ref a1), .val (.ref a5), .val (.int v7), .val (.long q2), .second, .val (.int v33), .val (.int (0 : Int32))] [(.long (v7).toInt64), (.ref a5)])) rfl (by rw [hml]; rfl) (Steps.refl _) (argsL := [(.long (v7).toInt64)]) (rest := []) (lenOf pd_5 rfl) rfl (by show 2 * 0 + _ ≤ _; exact Nat.le_of_eq rfl) (hb hby at_105) (fun _ _ => ⟨rfl, e6, (by decide : 2 + 0 ≤ _), (by decide : 4 + 0 ≤ _)⟩)
        dsimp only [Pt.U, Pt.locs, Pt.cells, Pt.slots] at X40 l40 y40 z40 st40 hQ40
        subst l40 y40 z40
        obtain ⟨rfl, N40q, e40⟩ := hQ40
        have N40 := Fr.app N6 N40q
        have pre41 : ∀ t, Steps p.tables e below (T40.setTop (mkF m 110 #[.val (.long q0), .second, .val (.long q1), .second, .val (.long q2), .second, .val (.int q3), .val (.ref a1), .val (.ref a5), .val (.int v7), .val (.long q2), .second, .val (.int v33), .val (.int (0 : Int32))] [(.int (0 : Int32)), (.int (own_f3 ((v7).toInt64) [q0, q1, q2]))])) t → Steps p.tables e below (s₁.setTop (entryFrame m #[(.long q0), (.long q1), (.long q2), (.int q3)] maxLocals)) t := by
          intro t k
          refine pre35 t ?_
          show Steps p.tables e below (T6.setTop (mkF m 90 #[.val (.long q0), .second, .val (.long q1), .second, .val (.long q2), .second, .val (.int q3), .val (.ref a1), .val (.ref a5), .val (.int v7), .val (.long q2), .second, .val (.int v33), .unset] [(.int (lcmpW (((q2).toUInt64 >>> (v33 &&& 0x3f).toInt64.toUInt64).toInt64 &&& (1 : Int64)) (1 : Int64)))])) _
          refine XS.ifYes X6.here hx rfl (pc0 := 90) (pc' := 97) rfl (hb hby at_90) rfl ((if0 _ _).trans (feq (mt (lw_eq (((q2).toUInt64 >>> (v33 &&& 0x3f).toInt64.toUInt64).toInt64 &&& (1 : Int64)) (1 : Int64)).mp c36)).2) (by decide) (by decide) ?_
          show Steps p.tables e below (T6.setTop (mkF m 97 #[.val (.long q0), .second, .val (.long q1), .second, .val (.long q2), .second, .val (.int q3), .val (.ref a1), .val (.ref a5), .val (.int v7), .val (.long q2), .second, .val (.int v33), .unset] [])) _
          refine XS.iconst X6.here hx rfl (hb hby at_97) ?_
          show Steps p.tables e below (T6.setTop (mkF m 98 #[.val (.long q0), .second, .val (.long q1), .second, .val (.long q2), .second, .val (.int q3), .val (.ref a1), .val (.ref a5), .val (.int v7), .val (.long q2), .second, .val (.int v33), .unset] [(.int (0 : Int32))])) _
          refine XS.istore X6.here hx rfl (hb hby at_98) rfl (l' := #[.val (.long q0), .second, .val (.long q1), .second, .val (.long q2), .second, .val (.int q3), .val (.ref a1), .val (.ref a5), .val (.int v7), .val (.long q2), .second, .val (.int v33), .val (.int (0 : Int32))]) rfl ?_
          show Steps p.tables e below (T6.setTop (mkF m 100 #[.val (.long q0), .second, .val (.long q1), .second, .val (.long q2), .second, .val (.int q3), .val (.ref a1), .val (.ref a5), .val (.int v7), .val (.long q2), .second, .val (.int v33), .val (.int (0 : Int32))] [])) _
          refine XS.aload X6.here hx rfl (hb hby at_100) rfl rfl ?_
          show Steps p.tables e below (T6.setTop (mkF m 102 #[.val (.long q0), .second, .val (.long q1), .second, .val (.long q2), .second, .val (.int q3), .val (.ref a1), .val (.ref a5), .val (.int v7), .val (.long q2), .second, .val (.int v33), .val (.int (0 : Int32))] [(.ref a5)])) _
          refine XS.iload X6.here hx rfl (hb hby at_102) rfl ?_
          show Steps p.tables e below (T6.setTop (mkF m 104 #[.val (.long q0), .second, .val (.long q1), .second, .val (.long q2), .second, .val (.int q3), .val (.ref a1), .val (.ref a5), .val (.int v7), .val (.long q2), .second, .val (.int v33), .val (.int (0 : Int32))] [(.int v7), (.ref a5)])) _
          refine XS.i2l X6.here hx rfl (hb hby at_104) rfl ?_
          show Steps p.tables e below (T6.setTop (mkF m 105 #[.val (.long q0), .second, .val (.long q1), .second, .val (.long q2), .second, .val (.int q3), .val (.ref a1), .val (.ref a5), .val (.int v7), .val (.long q2), .second, .val (.int v33), .val (.int (0 : Int32))] [(.long (v7).toInt64), (.ref a5)])) _
          refine st40.trans ?_
          show Steps p.tables e below (T40.setTop (mkF m 108 #[.val (.long q0), .second, .val (.long q1), .second, .val (.long q2), .second, .val (.int q3), .val (.ref a1), .val (.ref a5), .val (.int v7), .val (.long q2), .second, .val (.int v33), .val (.int (0 : Int32))] [(.int (own_f3 ((v7).toInt64) [q0, q1, q2]))])) _
          refine XS.iload X40.here hx rfl (hb hby at_108) rfl ?_
          exact k
        by_cases c42 : (own_f3 ((v7).toInt64) [q0, q1, q2]) = (0 : Int32)
        · obtain ⟨fs, hr, hrun, hended, hW, hsame⟩ := X40.leave (v := some (.int (1 : Int32))) (fun h => by rw [Bd.returns] at h; cases h) hlk
          refine ⟨_, _, pre41 _ ?_, hrun, hended, _, _, rfl, ?_, ⟨_, rfl⟩, hW, hsame.mono (by decide) (by decide)⟩
          · show Steps p.tables e below (T40.setTop (mkF m 110 #[.val (.long q0), .second, .val (.long q1), .second, .val (.long q2), .second, .val (.int q3), .val (.ref a1), .val (.ref a5), .val (.int v7), .val (.long q2), .second, .val (.int v33), .val (.int (0 : Int32))] [(.int (0 : Int32)), (.int (own_f3 ((v7).toInt64) [q0, q1, q2]))])) _
            refine XS.icmpNo X40.here hx rfl (hb hby at_110) rfl ((teq c42).2) ?_
            show Steps p.tables e below (T40.setTop (mkF m 113 #[.val (.long q0), .second, .val (.long q1), .second, .val (.long q2), .second, .val (.int q3), .val (.ref a1), .val (.ref a5), .val (.int v7), .val (.long q2), .second, .val (.int v33), .val (.int (0 : Int32))] [])) _
            refine XS.iconst X40.here hx rfl (hb hby at_113) ?_
            show Steps p.tables e below (T40.setTop (mkF m 114 #[.val (.long q0), .second, .val (.long q1), .second, .val (.long q2), .second, .val (.int q3), .val (.ref a1), .val (.ref a5), .val (.int v7), .val (.long q2), .second, .val (.int v33), .val (.int (0 : Int32))] [(.int (1 : Int32))])) _
            refine XS.goto X40.here hx rfl (pc0 := 114) (pc' := 118) rfl (hb hby at_114) (by decide) (by decide) ?_
            show Steps p.tables e below (T40.setTop (mkF m 118 #[.val (.long q0), .second, .val (.long q1), .second, .val (.long q2), .second, .val (.int q3), .val (.ref a1), .val (.ref a5), .val (.int v7), .val (.long q2), .second, .val (.int v33), .val (.int (0 : Int32))] [(.int (1 : Int32))])) _
            exact retN X40 hx (t := .boolean) Bd.returns (by simp) (hb hby at_118) hr
          · show Q0 Z q0 q1 q2 q3 h0 n0 _ T40.heap _
            rw [e40]
            exact ⟨by have w_hv33 := hv33.symm; subst w_hv33; have w_hv7 := hv7.symm; subst w_hv7; simp only [own_f0, if_neg c10, if_neg c22, if_neg c36, if_pos c42], N40⟩
        · obtain ⟨fs, hr, hrun, hended, hW, hsame⟩ := X40.leave (v := some (.int (0 : Int32))) (fun h => by rw [Bd.returns] at h; cases h) hlk
          refine ⟨_, _, pre41 _ ?_, hrun, hended, _, _, rfl, ?_, ⟨_, rfl⟩, hW, hsame.mono (by decide) (by decide)⟩
          · show Steps p.tables e below (T40.setTop (mkF m 110 #[.val (.long q0), .second, .val (.long q1), .second, .val (.long q2), .second, .val (.int q3), .val (.ref a1), .val (.ref a5), .val (.int v7), .val (.long q2), .second, .val (.int v33), .val (.int (0 : Int32))] [(.int (0 : Int32)), (.int (own_f3 ((v7).toInt64) [q0, q1, q2]))])) _
            refine XS.icmpYes X40.here hx rfl (pc0 := 110) (pc' := 117) rfl (hb hby at_110) rfl ((feq c42).2) (by decide) (by decide) ?_
            show Steps p.tables e below (T40.setTop (mkF m 117 #[.val (.long q0), .second, .val (.long q1), .second, .val (.long q2), .second, .val (.int q3), .val (.ref a1), .val (.ref a5), .val (.int v7), .val (.long q2), .second, .val (.int v33), .val (.int (0 : Int32))] [])) _
            refine XS.iconst X40.here hx rfl (hb hby at_117) ?_
            show Steps p.tables e below (T40.setTop (mkF m 118 #[.val (.long q0), .second, .val (.long q1), .second, .val (.long q2), .second, .val (.int q3), .val (.ref a1), .val (.ref a5), .val (.int v7), .val (.long q2), .second, .val (.int v33), .val (.int (0 : Int32))] [(.int (0 : Int32))])) _
            exact retN X40 hx (t := .boolean) Bd.returns (by simp) (hb hby at_118) hr
          · show Q0 Z q0 q1 q2 q3 h0 n0 _ T40.heap _
            rw [e40]
            exact ⟨by have w_hv33 := hv33.symm; subst w_hv33; have w_hv7 := hv7.symm; subst w_hv7; simp only [own_f0, if_neg c10, if_neg c22, if_neg c36, if_neg c42], N40⟩

theorem own_shc (s : Int32) (n : Nat) (h : s.toBitVec.toNat % 64 = n) : (s &&& 0x3f).toInt64.toBitVec.toNat % 64 = n := by
  obtain ⟨h1, h2⟩ := sm64 s n h
  rw [h1, BitVec.toNat_ofNat]; omega
theorem own_one64 (s : Int32) (n : Nat) (h : s.toBitVec.toNat % 64 = n) : ((1 : Int64) <<< (s &&& 0x3f).toInt64).toBitVec = 1#64 <<< n := by
  obtain ⟨h1, h2⟩ := sm64 s n h
  have o : (1 : Int64).toBitVec = 1#64 := by decide
  rw [Int64.toBitVec_shiftLeft, h1, o, BitVec.shiftLeft_eq', smod64 n h2]
theorem own_bit (w : Int64) (s1 s2 : Int32) (n : Nat) (h1 : s1.toBitVec.toNat % 64 = n) (h2 : s2.toBitVec.toNat % 64 = n) :
    ((w.toUInt64 >>> (s1 &&& 0x3f).toInt64.toUInt64).toInt64 &&& (1 : Int64)) = 1 ↔ ¬ (w &&& ((1 : Int64) <<< (s2 &&& 0x3f).toInt64)) = 0 := by
  have hn : n < 64 := by omega
  have o : (1 : Int64).toBitVec = 1#64 := by decide
  have z : (0 : Int64).toBitVec = 0#64 := by decide
  have e1 : ((w.toUInt64 >>> (s1 &&& 0x3f).toInt64.toUInt64).toInt64).toBitVec = w.toBitVec >>> n := by rw [← own_shc s1 n h1]; simp
  have e2 := own_one64 s2 n h2
  rw [← Int64.toBitVec_inj, ← Int64.toBitVec_inj, Int64.toBitVec_and, Int64.toBitVec_and, e1, e2, o, z]
  have k1 : (w.toBitVec >>> n &&& 1#64 = 1#64) ↔ w.toBitVec.getLsbD n = true := by
    constructor
    · intro h
      have := congrArg (fun x => x.getLsbD 0) h
      simpa using this
    · intro h
      apply BitVec.eq_of_getLsbD_eq
      intro i hi
      by_cases q : i = 0
      · subst q; simp [h]
      · simp [q]
  have k2 : (w.toBitVec &&& 1#64 <<< n = 0#64) ↔ w.toBitVec.getLsbD n = false := by
    constructor
    · intro h
      have := congrArg (fun x => x.getLsbD n) h
      simpa [hn] using this
    · intro h
      apply BitVec.eq_of_getLsbD_eq
      intro i hi
      by_cases q : i = n
      · subst q; simp [h]
      · by_cases q2 : i < n
        · simp [q2]
        · have : i - n ≠ 0 := by omega
          simp [this]
  rw [k1, k2]
  simp
theorem own_natOf {x : Int32} (h : 0 ≤ x.toInt) : (x.toBitVec.toNat : Int) = x.toInt := by
  rw [← Int32.toInt_toBitVec, BitVec.toInt_eq_toNat_cond] at h ⊢
  split at h <;> rename_i q
  · rw [if_pos q]
  · have := x.toBitVec.isLt
    omega

theorem own_core (k : Int32) (h : 0 ≤ k.toInt ∧ k.toInt < 192) (w : Int64) (xs : List Int64) (hx : xs.getD ((((k.toInt64).toUInt64 >>> ((6 : Int32) &&& 0x3f).toInt64.toUInt64).toInt64).toInt32).toInt.toNat 0 = w) :
    (if (((w).toUInt64 >>> ((k % (64 : Int32)) &&& 0x3f).toInt64.toUInt64).toInt64 &&& (1 : Int64)) = (1 : Int64) then (if (own_f3 (k.toInt64) xs) = (1 : Int32) then (1 : Int32) else (0 : Int32)) else (if (own_f3 (k.toInt64) xs) = (0 : Int32) then (1 : Int32) else (0 : Int32))) = 1 := by
  have e64 : (64 : Int32).toInt = 64 := by decide
  have r := own_irem (x := k) (y := 64) h.1
  rw [e64] at r
  have a := own_natOf h.1
  have b := own_natOf (x := k % 64) (by omega)
  have c : k.toInt64.toInt32 = k := Int32.toInt_inj.mp (by rw [own_l2i (by rw [own_i2l]; omega), own_i2l])
  have q := own_bit w (k % 64) k (k.toBitVec.toNat % 64) (by omega) rfl
  rw [own_f3, hx, c]
  by_cases d : (w &&& ((1 : Int64) <<< (k &&& 0x3f).toInt64)) = 0
  · rw [if_neg (fun y => q.mp y d), if_pos d, if_pos rfl]
  · rw [if_pos (q.mpr d), if_neg d, if_pos rfl]
theorem own_plain (q0 q1 q2 : Int64) (q3 : Int32) : own_f0 q0 q1 q2 q3 = 1 := by
  have h := own_inK (x := q3) rfl
  have w := own_wd h
  have e64 : (64 : Int32).toInt = 64 := by decide
  have e128 : (128 : Int32).toInt = 128 := by decide
  simp only [own_f0]
  split
  · rename_i c
    rw [Int32.lt_iff_toInt_lt, e64] at c
    exact own_core _ h _ _ (by rw [w, show ((q3 &&& 2147483647) % 192).toInt / 64 = 0 by omega]; rfl)
  · rename_i c
    rw [Int32.lt_iff_toInt_lt, e64] at c
    split
    · rename_i d
      rw [Int32.lt_iff_toInt_lt, e128] at d
      exact own_core _ h _ _ (by rw [w, show ((q3 &&& 2147483647) % 192).toInt / 64 = 1 by omega]; rfl)
    · rename_i d
      rw [Int32.lt_iff_toInt_lt, e128] at d
      exact own_core _ h _ _ (by rw [w, show ((q3 &&& 2147483647) % 192).toInt / 64 = 2 by omega]; rfl)

set_option maxRecDepth 65536 in
set_option maxHeartbeats 40000000 in
theorem comes_1 {Post : Tables → Env → Array Value → State → Outcome → State → Prop} (hpost : ∀ tb e args s v u, (limb_1_1.after args s (.returned v) u = true ∧ limb_1_2.after args s (.returned v) u = true ∧ True) → FrameEnd s (.returned v) u (Jvm.fieldLocs frame_1_writes args s ++ Jvm.arrayLocs frame_1_arrays args s ++ Jvm.staticLocs frame_1_statics s) 16 128 → Post tb e args s (.returned v) u) :
    ArmFor flags0 classFile x code maxLocals ret World_1 tables_1 room_1 Calls_1 rest_1 Pre_1 Post := by
  intro l hfl _ _ p e ha hc hk s m args below hf hA hF happ hP
  obtain ⟨hcalls, hrest, hpre⟩ := hP
  obtain ⟨-, -, -, hnamed, -, -, -, hat⟩ := (Spec.applies_iff hf).mp happ
  obtain ⟨hg, hn⟩ := and_e (Cond.before_iff.mp (show (Jvm.Cond.and given_1 narrow_1).before args s = true from hpre))
  obtain ⟨gc, gr0⟩ := and_e hg
  obtain ⟨w0, w1, w2, w3, rfl⟩ : ∃ w0 w1 w2 w3 : Value, args = #[w0, w1, w2, w3] := by
    have hs : args.size = 4 := by simpa [Cond.value, given_1] using gc
    obtain ⟨L⟩ := args
    match L, hs with
    | [w0, w1, w2, w3], _ => exact ⟨w0, w1, w2, w3, rfl⟩
  have hw := fun d (hd : d ∈ tables_1) => atoms_spec (ws := Jvm.Cond.code x code maxLocals ret :: tables_1) hat d (List.mem_cons_of_mem _ hd)
  obtain ⟨g0, gr1⟩ := and_e gr0
  obtain ⟨i0, ei0⟩ := isL_v g0
  obtain rfl : w0 = (.long i0) := Option.some.inj ei0
  obtain ⟨g1, gr2⟩ := and_e gr1
  obtain ⟨i1, ei1⟩ := isL_v g1
  obtain rfl : w1 = (.long i1) := Option.some.inj ei1
  obtain ⟨g2, gr3⟩ := and_e gr2
  obtain ⟨i2, ei2⟩ := isL_v g2
  obtain rfl : w2 = (.long i2) := Option.some.inj ei2
  obtain ⟨i3, ei3⟩ := is_v gr3
  obtain rfl : w3 = (.int i3) := Option.some.inj ei3
  obtain ⟨n, o, h1, h2, h3, _, L, rfl, ⟨hv, N⟩, hq⟩ := rm0 l s _ hw tables_1 i0 i1 i2 i3 s.heap s.heap.size (Nat.le_refl _) p e ha hc hk s m _ below hf ((Spec.applies_iff_loose hf).mp happ).1 ⟨rfl, State.Warmed39.refl s, rfl⟩ trivial
  rw [own_plain] at hv
  subst hv
  refine ⟨n, _, h1, h2, h3, hpost _ _ _ _ _ _ ⟨Cond.after_iff.mpr rfl, Cond.after_iff.mpr (eq_i res_at (Term.int_eval (1)) rfl), trivial⟩ ⟨hq.1, hq.2.1, (hq.2.2.sift fun y hy => Or.inr (N y hy)).mono (by decide) (by decide)⟩⟩
theorem main_1_1 : Claimed_1_1 := comes_1 fun _ _ _ _ _ _ h hF => ⟨h.1, hF⟩
theorem main_1_2 : Claimed_1_2 := comes_1 fun _ _ _ _ _ _ h hF => ⟨h.2.1, hF⟩
end Jvm.Pilot.@@N@@
namespace Jvm.Pilot.@@N@@
open Jvm Jvm.ClassFile Sem Op Lib Jvm.Free Jvm.Stand Jvm.Pilot.@@N@@.Jvm.D
/-! MADE BY PROGRAM (witnessworld.py) out of the Statement's table words and the real class files: 11 classes; the members and pool entries that the words name. The judged class is class 1, her method 1. -/
namespace start1
open Jvm.ClassFile
def u (s : String) : CpInfo := .utf8 (stringToUtf16 s)
/-- a pool by its gaps: so many unusable entries, then the entry; so many at the end -/
def gap : Nat → List CpInfo → List CpInfo
  | 0, r => r
  | n + 1, r => .unusable :: gap n r
def poolList (es : List (Nat × CpInfo)) (last : Nat) : List CpInfo := es.foldr (fun e r => gap e.1 (e.2 :: r)) (gap last [])
def pool (es : List (Nat × CpInfo)) (last : Nat) : Array CpInfo := ⟨poolList es last⟩
def fileOf (pool : Array CpInfo) (this : Nat) (attrs : Array Attribute := #[]) (ms : Array MethodInfo := #[]) (fl : Nat := 33) (sup : Nat := 0) (ifs : Array Nat := #[]) (fds : Array FieldInfo := #[]) : ClassFile where
  minorVersion := 0
  majorVersion := 65
  constantPool := pool
  accessFlags := fl
  thisClass := this
  superClass := sup
  interfaces := ifs
  fields := fds
  methods := ms
  attributes := attrs
def plain (name : String) (sup : Option ClassId) : Class where
  name := name
  kind := .ordinary
  loader := none
  accessFlags := 33
  super := sup
  interfaces := #[]
  cf := none
  fields := #[]
  methods := #[]
  instanceTypes := #[]
  staticTypes := #[]
  resolved := #[]
  callSites := []
  init := .initialized
  statics := none
  mirror := none

def pool0 : Array CpInfo := pool [(5, u "<init>"), (0, u "()V"), (1, .class_ 10), (1, u "java/lang/Object")] 113

def k0c0 : Code := { maxStack := 0, maxLocals := 1, code := object_method_1_code, exceptionTable := #[], attributes := #[] }
def k0m0 : Method := { name := "<init>", desc := "()V", sig := { parameters := [], returnType := none }, accessFlags := 1, code := some k0c0 }
/-- java/lang/Object -/
def k0 : Class := { plain "java/lang/Object" none with
  accessFlags := 33
  interfaces := #[]
  cf := some (fileOf pool0 8 #[] #[{ accessFlags := 1, nameIndex := 5, descriptorIndex := 6, attributes := #[] }] 33 0 #[] #[])
  fields := #[]
  methods := #[k0m0]
  instanceTypes := #[]
  staticTypes := #[]
  resolved := Array.replicate 124 none
  statics := none }

def pool1 : Array CpInfo := pool [(2, .class_ 4), (1, u "java/lang/Object"), (0, u "<init>"), (0, u "()V"), (0, .class_ 8), (0, u "com/example/mini_bloom/minibloom/BitArray"), (0, .methodref 7 10), (0, .nameAndType 5 11), (0, u "([J)V"), (0, .integer 2147483647), (0, .methodref 7 14), (0, .nameAndType 15 16), (0, u "getBit"), (0, u "(J)Z"), (0, .class_ 18), (0, u "com/example/mini_bloom/minibloom/BitArrayGetBitPinLaw"), (2, u "law"), (0, u "(JJJI)Z")] 5

def k1m0 : Method := { name := "<init>", desc := "()V", sig := { parameters := [], returnType := none }, accessFlags := 1, code := none }
def k1c1 : Code := { maxStack := 4, maxLocals := 14, code := code, exceptionTable := #[], attributes := #[] }
def k1m1 : Method := { name := "law", desc := "(JJJI)Z", sig := { parameters := [.long, .long, .long, .int], returnType := some .boolean }, accessFlags := 9, code := some k1c1 }
/-- com/example/mini_bloom/minibloom/BitArrayGetBitPinLaw -/
def k1 : Class := { plain "com/example/mini_bloom/minibloom/BitArrayGetBitPinLaw" (some 0) with
  accessFlags := 49
  interfaces := #[]
  cf := some (fileOf pool1 17 #[] #[{ accessFlags := 1, nameIndex := 5, descriptorIndex := 6, attributes := #[] }, { accessFlags := 9, nameIndex := 21, descriptorIndex := 22, attributes := #[] }] 49 2 #[] #[])
  fields := #[]
  methods := #[k1m0, k1m1]
  instanceTypes := #[]
  staticTypes := #[]
  resolved := Array.replicate 28 none
  statics := none }

def pool2 : Array CpInfo := pool [(3, .methodref 4 5), (0, .class_ 6), (0, .nameAndType 7 8), (0, u "java/lang/Object"), (0, u "<init>"), (0, u "()V"), (1, .class_ 12), (1, u "com/example/mini_bloom/minibloom/BitArray"), (2, .fieldref 10 16), (0, .nameAndType 17 18), (0, u "words"), (0, u "[J"), (7, u "([J)V"), (23, u "MAX_BITS"), (0, u "J"), (15, u "getBit"), (0, u "(J)Z")] 13

def k2c0 : Code := { maxStack := 2, maxLocals := 2, code := prog_1_method_2_code, exceptionTable := #[], attributes := #[] }
def k2m0 : Method := { name := "<init>", desc := "([J)V", sig := { parameters := [(.array .long)], returnType := none }, accessFlags := 0, code := some k2c0 }
def k2c1 : Code := { maxStack := 6, maxLocals := 3, code := prog_1_method_9_code, exceptionTable := #[], attributes := #[] }
def k2m1 : Method := { name := "getBit", desc := "(J)Z", sig := { parameters := [.long], returnType := some .boolean }, accessFlags := 0, code := some k2c1 }
/-- com/example/mini_bloom/minibloom/BitArray -/
def k2 : Class := { plain "com/example/mini_bloom/minibloom/BitArray" (some 0) with
  accessFlags := 48
  interfaces := #[]
  cf := some (fileOf pool2 10 #[] #[{ accessFlags := 0, nameIndex := 7, descriptorIndex := 26, attributes := #[] }, { accessFlags := 0, nameIndex := 67, descriptorIndex := 68, attributes := #[] }] 48 4 #[] #[{ accessFlags := 24, nameIndex := 50, descriptorIndex := 51, attributes := #[] }, { accessFlags := 18, nameIndex := 17, descriptorIndex := 18, attributes := #[] }])
  fields := #[{ name := "MAX_BITS", type := .long, accessFlags := 24, slot := 0, constantValue := 0 }, { name := "words", type := (.array .long), accessFlags := 18, slot := 0, constantValue := 0 }]
  methods := #[k2m0, k2m1]
  instanceTypes := #[(.array .long)]
  staticTypes := #[.long]
  resolved := Array.replicate 82 none
  statics := none }

def pool3 : Array CpInfo := pool [(1, u "java/lang/Cloneable"), (0, .class_ 1), (0, u "java/lang/Object"), (0, .class_ 3)] 3

/-- java/lang/Cloneable -/
def k3 : Class := { plain "java/lang/Cloneable" (some 0) with
  accessFlags := 1537
  interfaces := #[]
  cf := some (fileOf pool3 2 #[] #[] 1537 4 #[] #[])
  fields := #[]
  methods := #[]
  instanceTypes := #[]
  staticTypes := #[]
  resolved := Array.replicate 8 none
  statics := none }

def pool4 : Array CpInfo := pool [(1, u "java/io/Serializable"), (0, .class_ 1), (0, u "java/lang/Object"), (0, .class_ 3)] 3

/-- java/io/Serializable -/
def k4 : Class := { plain "java/io/Serializable" (some 0) with
  accessFlags := 1537
  interfaces := #[]
  cf := some (fileOf pool4 2 #[] #[] 1537 4 #[] #[])
  fields := #[]
  methods := #[]
  instanceTypes := #[]
  staticTypes := #[]
  resolved := Array.replicate 8 none
  statics := none }

/-- the primitive byte -/
def k5 : Class := { plain "byte" none with kind := .primitive 'B', accessFlags := 0x411 }
/-- [B -/
def k6 : Class := { plain "[B" (some 0) with kind := .array 5 .byte, interfaces := #[3, 4], accessFlags := 1041 }

/-- the primitive int -/
def k7 : Class := { plain "int" none with kind := .primitive 'I', accessFlags := 0x411 }
/-- [I -/
def k8 : Class := { plain "[I" (some 0) with kind := .array 7 .int, interfaces := #[3, 4], accessFlags := 1041 }

/-- the primitive long -/
def k9 : Class := { plain "long" none with kind := .primitive 'J', accessFlags := 0x411 }
/-- [J -/
def k10 : Class := { plain "[J" (some 0) with kind := .array 9 .long, interfaces := #[3, 4], accessFlags := 1041 }

def heap : Heap := #[]
def classes : Array Class := #[k0, k1, k2, k3, k4, k5, k6, k7, k8, k9, k10]
def interned : List (Array UInt16 × Addr) := []
def slotsUsed : Nat := 0
def theMethod : MethodId := ⟨1, 1⟩
def args0 : Array Value := #[.long 5, .long 6, .long 7, .int 7]
def aboutOver (below : List Frame) : State where
  vm := { classes := classes, interned := interned.toArray }
  heap := heap
  slotsUsed := slotsUsed
  threads := #[{ frames := .invoking theMethod args0 :: below }]
def below0 : List Frame := [.native { method := ⟨0, 0⟩, args := #[] }]
def about1 : State := aboutOver below0
def p0 : Program := .bare "" "" ""
def e0 : Env := launch0.env 0 0 0
theorem w_frames : about1.frames = Frame.invoking theMethod args0 :: below0 := rfl
set_option maxRecDepth 65536 in
theorem w_args : argsFit about1.vm theMethod args0 = true := by decide +kernel
set_option maxRecDepth 65536 in
theorem w_heap : heapFits about1 = true := by decide +kernel
set_option maxRecDepth 65536 in
theorem w_runnable : about1.curStatus? = some .runnable := by decide +kernel
set_option maxRecDepth 65536 in
theorem w_alone : about1.alone = true := by decide +kernel
set_option maxRecDepth 65536 in
theorem w_named : about1.methodNamed? x = some theMethod := by decide +kernel
set_option maxRecDepth 65536 in
theorem w_hears : about1.hears theMethod below0 = true := by decide +kernel
set_option maxRecDepth 65536 in
theorem w_ripe : about1.ripe theMethod args0 below0 = true := by decide +kernel
theorem w_running : about1.status = .running := rfl
set_option maxRecDepth 65536 in
theorem w_room : about1.hasRoom e0.platform room_1 = true :=
  launch0.hasRoom_least _ room_1 (by decide +kernel) (by decide +kernel) (by decide +kernel) (by decide +kernel) (by decide +kernel) (by decide +kernel)
theorem allAtoms_all (ts : List Jvm.Cond) (a : Array Jvm.Value) (st : Jvm.State) : (allAtoms ts).before a st = ts.all (fun c => c.before a st) := by
  induction ts with
  | nil => rfl
  | cons c t ih =>
    show (Jvm.Cond.and c (allAtoms t)).before a st = _
    rw [Jvm.Cond.before_and, ih, List.all_cons]
def words1 : List Jvm.Cond := Jvm.Cond.code x code maxLocals ret :: tables_1
/-- a 'code' word, met by the world's own term for the bytes: nothing is compared byte by byte -/
theorem code_word {y : MethodName} {bytes : ByteArray} {mx : Nat} {rt : Option FieldType} {a : Array Value} {s : State} {m : MethodId} {meth : Method} {c : Code} (h1 : s.methodNamed? y = some m) (h2 : s.vm.method? m = some meth) (h3 : meth.code = some c) (h4 : c.code = bytes)
    (h5 : (c.maxLocals == mx && c.exceptionTable.isEmpty && decide (c.maxStack ≤ mostOperands) && decide (meth.sig.returnType = rt) && !meth.locks && decide (parseMethodDescriptor y.desc = some meth.sig)) = true) : (Jvm.Cond.code y bytes mx rt).before a s = true := by
  simp only [Bool.and_eq_true, beq_iff_eq, Bool.not_eq_true', decide_eq_true_eq] at h5
  obtain ⟨⟨⟨⟨⟨g1, g2⟩, g3⟩, g4⟩, g5⟩, g6⟩ := h5
  simp [Cond.before, Cond.holds, Cond.value, h1, h2, h3, h4, g1, g2, g3, g4, g5, g6]
def isCode : Jvm.Cond → Bool
  | .code _ _ _ _ => true
  | _ => false
theorem all_split {L : List Jvm.Cond} {P : Jvm.Cond → Bool} (h1 : L.all (fun c => isCode c || P c) = true) (h2 : ∀ c ∈ L.filter isCode, P c = true) : L.all P = true := by
  refine List.all_eq_true.mpr fun c hc => ?_
  have h := List.all_eq_true.mp h1 c hc
  rcases Bool.eq_false_or_eq_true (isCode c) with hi | hi
  · exact h2 c (List.mem_filter.mpr ⟨hc, hi⟩)
  · simpa [hi] using h
set_option maxRecDepth 65536 in
theorem w_c0 : (Jvm.Cond.code x code maxLocals ret).before args0 about1 = true := code_word (m := ⟨1, 1⟩) (meth := k1m1) (c := k1c1) (by decide +kernel) rfl rfl rfl (by decide +kernel)
set_option maxRecDepth 65536 in
theorem w_c1 : (Jvm.Cond.code ({ cls := "com/example/mini_bloom/minibloom/BitArray", name := "<init>", desc := "([J)V" } : Jvm.MethodName) prog_1_method_2_code (2 : Nat) (Option.none : Option Jvm.ClassFile.FieldType)).before args0 about1 = true := code_word (m := ⟨2, 0⟩) (meth := k2m0) (c := k2c0) (by decide +kernel) rfl rfl rfl (by decide +kernel)
set_option maxRecDepth 65536 in
theorem w_c2 : (Jvm.Cond.code ({ cls := "java/lang/Object", name := "<init>", desc := "()V" } : Jvm.MethodName) object_method_1_code (1 : Nat) (Option.none : Option Jvm.ClassFile.FieldType)).before args0 about1 = true := code_word (m := ⟨0, 0⟩) (meth := k0m0) (c := k0c0) (by decide +kernel) rfl rfl rfl (by decide +kernel)
set_option maxRecDepth 65536 in
theorem w_c3 : (Jvm.Cond.code ({ cls := "com/example/mini_bloom/minibloom/BitArray", name := "getBit", desc := "(J)Z" } : Jvm.MethodName) prog_1_method_9_code (3 : Nat) (Option.some Jvm.ClassFile.FieldType.boolean)).before args0 about1 = true := code_word (m := ⟨2, 1⟩) (meth := k2m1) (c := k2c1) (by decide +kernel) rfl rfl rfl (by decide +kernel)
def codes1 : List Jvm.Cond := [Jvm.Cond.code x code maxLocals ret, Jvm.Cond.code ({ cls := "com/example/mini_bloom/minibloom/BitArray", name := "<init>", desc := "([J)V" } : Jvm.MethodName) prog_1_method_2_code (2 : Nat) (Option.none : Option Jvm.ClassFile.FieldType), Jvm.Cond.code ({ cls := "java/lang/Object", name := "<init>", desc := "()V" } : Jvm.MethodName) object_method_1_code (1 : Nat) (Option.none : Option Jvm.ClassFile.FieldType), Jvm.Cond.code ({ cls := "com/example/mini_bloom/minibloom/BitArray", name := "getBit", desc := "(J)Z" } : Jvm.MethodName) prog_1_method_9_code (3 : Nat) (Option.some Jvm.ClassFile.FieldType.boolean)]
set_option maxRecDepth 65536 in
theorem codes_eq : words1.filter isCode = codes1 := rfl
theorem w_codes : ∀ c ∈ words1.filter isCode, c.before args0 about1 = true := by
  rw [codes_eq]
  intro c hc
  simp only [codes1, List.mem_cons, List.not_mem_nil, or_false] at hc
  rcases hc with rfl | rfl | rfl | rfl
  · exact w_c0
  · exact w_c1
  · exact w_c2
  · exact w_c3
set_option maxRecDepth 65536 in
theorem w_t1 : words1.all (fun c => isCode c || c.before args0 about1) = true := by decide +kernel
theorem w_tables : (allAtoms (Jvm.Cond.code x code maxLocals ret :: tables_1)).before args0 about1 = true := by
  rw [allAtoms_all]
  show words1.all (fun c => c.before args0 about1) = true
  refine all_split ?_ w_codes
  rw [w_t1]
set_option maxRecDepth 65536 in
theorem w_case : (Jvm.Cond.and given_1 narrow_1).before args0 about1 = true := by decide +kernel
theorem w_applies : (headSpec (Jvm.Cond.code x code maxLocals ret :: tables_1) room_1).applies x e0.platform about1 = true :=
  (Spec.applies_iff w_frames).mpr ⟨w_running, w_runnable, w_alone, w_named, w_hears, w_ripe, w_room, w_tables⟩
theorem atStart : AtStart classFile x code maxLocals ret World_1 tables_1 room_1 Calls_1 rest_1 Pre_1 launch0 p0 e0 about1 theMethod args0 below0 :=
  ⟨lists_1, trivial, launch0.admits_env _ _ _, launch0.least_env, fairChoices_fair.cas, fairChoices_fair.clock, w_frames, w_args, w_heap, w_applies, trivial, trivial, w_case⟩
end start1
theorem witness_1 : WitnessClaimed_1 := ⟨start1.p0, start1.e0, start1.about1, start1.theMethod, start1.args0, start1.below0, start1.atStart⟩
end Jvm.Pilot.@@N@@
