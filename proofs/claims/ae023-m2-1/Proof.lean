import JvmDerived
import JvmDerived.Pilot.@@N@@Statement
import JvmDerived.Pilot.@@N@@Code
set_option linter.unusedVariables false
set_option linter.unusedSimpArgs false
namespace Jvm.RoadKit
open Sem ClassFile Op Lib Jvm.Stand Jvm.Free Jvm.LawKit
section New
variable {p : Program} {l : Launch} {e : Env} {R : Room} {s : State} {m : MethodId} {args : Array Value} {below : List Frame} {meth : Method} {c : Code} {T : State} {locs : List Loc} {cells slots : Nat}
theorem retI (X : Stand p l e R s m args below meth c T locs cells slots) (hx : p.tables.exec = Jvm.exec) {pc : Nat} {Ls : Array Slot} {z : Int32} {rest : List Value} (hret : meth.sig.returnType = some .int) (hd : decode c.code pc = .ok (.ireturn, 1)) {fs : List Frame}
    (hl : ∀ (f : JFrame) (acts : List Action), f.method = m → f.locked = none → f.entered = [] → (doReturn e (T.setTop f) acts (some (.int z))).1 = T.setFrames fs) : Steps p.tables e below (T.setTop (mkF m pc Ls (.int z :: rest))) (T.setFrames fs) := by
  have hm' : T.vm.method? m = some meth := X.method'
  have hn : narrow .int (.int z) = .int z := rfl
  show Steps p.tables e below (T.setTop { method := m, pc := pc, locals := Ls, stack := _ :: rest, locked := none }) _
  jvm_step X.here [X.here.top, hx, hd, hm', hret, hn]
  first | (intro acts; rw [hl _ acts rfl rfl rfl]) | rw [hl _ _ rfl rfl rfl]
  exact Steps.refl _
end New
end Jvm.RoadKit
namespace Jvm.Pilot.@@N@@
open Jvm Jvm.ClassFile Sem Op Lib Jvm.Free Jvm.Stand Jvm.LawKit Jvm.RoadKit Bundle Jvm.Pilot.@@N@@.Jvm.D
section OwnKit
variable {p : Program} {l : Launch} {e : Env} {R : Room} {s : State} {m : MethodId} {args : Array Value} {below : List Frame} {meth : Method} {c : Code} {T : State} {locs : List Loc} {cells slots : Nat} {Z : State} {h h' : Heap}
theorem own_lremM {g : JFrame} {target : State} (X : Stand p l e R s m args below meth c T locs cells slots) (hx : p.tables.exec = Jvm.exec) (hg : g.method = m) {x y : Int64} {rest : List Value} (hd : decode c.code g.pc = .ok (.lrem, 1)) (hs : g.stack = .long y :: .long x :: rest) (hy : y ≠ 0)
    (hr : Steps p.tables e below (T.setTop { g with pc := g.pc + 1, stack := .long (x % y) :: rest }) target) : Steps p.tables e below (T.setTop g) target :=
  XS.lrem X.here hx hg hd hs hy (by rw [lrem_mod]; exact hr)
/-- an array, by the list of its values -/
def own_A (Z : State) (h : Heap) (a : Addr) (ty : FieldType) (vs : List Value) : Prop := ∃ c : Cell, Arr Z h a c ty ∧ c.slots = vs.toArray
def own_AJ (Z : State) (h : Heap) (a : Addr) (xs : List Int64) : Prop := own_A Z h a .long (xs.map .long)
def own_AI (Z : State) (h : Heap) (a : Addr) (ty : FieldType) (xs : List Int32) : Prop := own_A Z h a ty (xs.map .int)
section Facts
variable {a b : Addr} {ty : FieldType} {vs : List Value} {xs : List Int64} {ys : List Int32} {sl : Nat} {v : Value} {ws : List Addr}
theorem own_A.ext (F : own_A Z h a ty vs) (E : Ext h h') : own_A Z h' a ty vs := by obtain ⟨c, A, r⟩ := F; exact ⟨c, A.ext E, r⟩
theorem own_A.other (F : own_A Z h b ty vs) (W : Wr h h' a sl v) (q : b ≠ a) : own_A Z h' b ty vs := by obtain ⟨c, A, r⟩ := F; exact ⟨c, A.other W q, r⟩
theorem own_A.keep (F : own_A Z h a ty vs) (K : Keep h h' ws) (q : a ∉ ws) : own_A Z h' a ty vs := by obtain ⟨c, A, r⟩ := F; exact ⟨c, ⟨K.2.1 a c A.1 q, A.2⟩, r⟩
theorem own_A.lt (F : own_A Z h a ty vs) : a < h.size := by obtain ⟨c, A, -⟩ := F; exact A.lt
theorem own_AJ.ext (F : own_AJ Z h a xs) (E : Ext h h') : own_AJ Z h' a xs := own_A.ext F E
theorem own_AJ.other (F : own_AJ Z h b xs) (W : Wr h h' a sl v) (q : b ≠ a) : own_AJ Z h' b xs := own_A.other F W q
theorem own_AJ.keep (F : own_AJ Z h a xs) (K : Keep h h' ws) (q : a ∉ ws) : own_AJ Z h' a xs := own_A.keep F K q
theorem own_AJ.lt (F : own_AJ Z h a xs) : a < h.size := own_A.lt F
theorem own_AI.ext (F : own_AI Z h a ty ys) (E : Ext h h') : own_AI Z h' a ty ys := own_A.ext F E
theorem own_AI.other (F : own_AI Z h b ty ys) (W : Wr h h' a sl v) (q : b ≠ a) : own_AI Z h' b ty ys := own_A.other F W q
theorem own_AI.keep (F : own_AI Z h a ty ys) (K : Keep h h' ws) (q : a ∉ ws) : own_AI Z h' a ty ys := own_A.keep F K q
theorem own_AI.lt (F : own_AI Z h a ty ys) : a < h.size := own_A.lt F
theorem own_A.set (F : own_A Z h a ty vs) {k : Nat} (W : Wr h h' a k v) : own_A Z h' a ty (vs.set k v) := by
  obtain ⟨c, A, r⟩ := F
  refine ⟨c.setSlot k v, A.same W, ?_⟩
  simp [Cell.setSlot, r]
theorem own_A_new {cA : ClassId} {n : Int32} {k : Nat} (A : Arr Z h a (newA cA ty n) ty) (hk : n.toNatClampNeg = k) : own_A Z h a ty (List.replicate k (defaultValue ty)) := by
  subst hk
  exact ⟨_, A, by simp [newA]⟩
theorem own_AJ_new {cA : ClassId} {n : Int32} {k : Nat} (A : Arr Z h a (newA cA .long n) .long) (hk : n.toNatClampNeg = k) : own_AJ Z h a (List.replicate k 0) := by
  have q := own_A_new A hk
  rw [own_AJ, List.map_replicate]; exact q
theorem own_AIint_new {cA : ClassId} {n : Int32} {k : Nat} (A : Arr Z h a (newA cA .int n) .int) (hk : n.toNatClampNeg = k) : own_AI Z h a .int (List.replicate k 0) := by
  have q := own_A_new A hk
  rw [own_AI, List.map_replicate]; exact q
theorem own_AIbyte_new {cA : ClassId} {n : Int32} {k : Nat} (A : Arr Z h a (newA cA .byte n) .byte) (hk : n.toNatClampNeg = k) : own_AI Z h a .byte (List.replicate k 0) := by
  have q := own_A_new A hk
  rw [own_AI, List.map_replicate]; exact q
theorem own_AIboolean_new {cA : ClassId} {n : Int32} {k : Nat} (A : Arr Z h a (newA cA .boolean n) .boolean) (hk : n.toNatClampNeg = k) : own_AI Z h a .boolean (List.replicate k 0) := by
  have q := own_A_new A hk
  rw [own_AI, List.map_replicate]; exact q
theorem own_inb {cl : Cell} {j : Int32} (r : cl.slots = vs.toArray) (hj : 0 ≤ j.toInt ∧ j.toInt < (vs.length : Nat)) : ¬ (j < 0 ∨ cl.slots.size ≤ j.toNatClampNeg) ∧ j.toNatClampNeg = j.toInt.toNat := by
  have e : j.toNatClampNeg = j.toInt.toNat := rfl
  refine ⟨fun q => ?_, e⟩
  rcases q with q | q
  · rw [Int32.lt_iff_toInt_lt] at q
    have : (0 : Int32).toInt = 0 := by decide
    omega
  · rw [r, e] at q
    simp at q
    omega
end Facts
theorem own_at? {α : Type} (f : α → Value) (xs : List α) (k : Nat) (d : α) (hk : k < xs.length) : (xs.map f).toArray[k]? = some (f (xs.getD k d)) := by
  simp [List.getD, hk]
section Loads
variable {a : Addr} {xs : List Int64} {ys : List Int32} {j : Int32} {pc : Nat} {Ls : Array Slot} {rest : List Value}
theorem own_laload (X : Stand p l e R s m args below meth c T locs cells slots) (hx : p.tables.exec = Jvm.exec) (hZ : Z.Warmed39 s.vm) (eT : T.heap = h) (A : own_AJ Z h a xs) (hj : 0 ≤ j.toInt ∧ j.toInt < (xs.length : Nat)) (hd : decode c.code pc = .ok (.laload, 1)) (target : State)
    (hr : Steps p.tables e below (T.setTop (mkF m (pc + 1) Ls (.long (xs.getD j.toInt.toNat 0) :: rest))) target) : Steps p.tables e below (T.setTop (mkF m pc Ls (.int j :: .ref a :: rest))) target := by
  obtain ⟨cl, A, r⟩ := A
  obtain ⟨q1, q2⟩ := own_inb (j := j) r (by simpa using hj)
  refine X.laload hx (by rw [eT]; exact A.1) (State.isArrayOf_alike hZ.alike A.2.1) A.2.2 q1 (v := .long (xs.getD j.toInt.toNat 0)) ?_ (g := mkF m pc Ls (.int j :: .ref a :: rest)) rfl rfl hd target hr
  rw [q2, r]
  exact own_at? _ xs _ 0 (by omega)
theorem own_iaload (X : Stand p l e R s m args below meth c T locs cells slots) (hx : p.tables.exec = Jvm.exec) (hZ : Z.Warmed39 s.vm) (eT : T.heap = h) (A : own_AI Z h a .int ys) (hj : 0 ≤ j.toInt ∧ j.toInt < (ys.length : Nat)) (hd : decode c.code pc = .ok (.iaload, 1)) (target : State)
    (hr : Steps p.tables e below (T.setTop (mkF m (pc + 1) Ls (.int (ys.getD j.toInt.toNat 0) :: rest))) target) : Steps p.tables e below (T.setTop (mkF m pc Ls (.int j :: .ref a :: rest))) target := by
  obtain ⟨cl, A, r⟩ := A
  obtain ⟨q1, q2⟩ := own_inb (j := j) r (by simpa using hj)
  refine X.iaload hx (by rw [eT]; exact A.1) (State.isArrayOf_alike hZ.alike A.2.1) A.2.2 q1 (v := .int (ys.getD j.toInt.toNat 0)) ?_ (g := mkF m pc Ls (.int j :: .ref a :: rest)) rfl rfl hd target hr
  rw [q2, r]
  exact own_at? _ ys _ 0 (by omega)
theorem own_baloadB (X : Stand p l e R s m args below meth c T locs cells slots) (hx : p.tables.exec = Jvm.exec) (hZ : Z.Warmed39 s.vm) (eT : T.heap = h) (A : own_AI Z h a .byte ys) (hj : 0 ≤ j.toInt ∧ j.toInt < (ys.length : Nat)) (hd : decode c.code pc = .ok (.baload, 1)) (target : State)
    (hr : Steps p.tables e below (T.setTop (mkF m (pc + 1) Ls (.int (ys.getD j.toInt.toNat 0) :: rest))) target) : Steps p.tables e below (T.setTop (mkF m pc Ls (.int j :: .ref a :: rest))) target := by
  obtain ⟨cl, A, r⟩ := A
  obtain ⟨q1, q2⟩ := own_inb (j := j) r (by simpa using hj)
  refine X.baloadBytes hx (by rw [eT]; exact A.1) (State.isArrayOf_alike hZ.alike A.2.1) A.2.2 q1 (v := .int (ys.getD j.toInt.toNat 0)) ?_ (g := mkF m pc Ls (.int j :: .ref a :: rest)) rfl rfl hd target hr
  rw [q2, r]
  exact own_at? _ ys _ 0 (by omega)
theorem own_baloadZ (X : Stand p l e R s m args below meth c T locs cells slots) (hx : p.tables.exec = Jvm.exec) (hZ : Z.Warmed39 s.vm) (eT : T.heap = h) (A : own_AI Z h a .boolean ys) (hj : 0 ≤ j.toInt ∧ j.toInt < (ys.length : Nat)) (hd : decode c.code pc = .ok (.baload, 1)) (target : State)
    (hr : Steps p.tables e below (T.setTop (mkF m (pc + 1) Ls (.int (ys.getD j.toInt.toNat 0) :: rest))) target) : Steps p.tables e below (T.setTop (mkF m pc Ls (.int j :: .ref a :: rest))) target := by
  obtain ⟨cl, A, r⟩ := A
  obtain ⟨q1, q2⟩ := own_inb (j := j) r (by simpa using hj)
  refine X.baloadBooleans hx (by rw [eT]; exact A.1) (State.isArrayOf_alike hZ.alike A.2.1) A.2.2 q1 (v := .int (ys.getD j.toInt.toNat 0)) ?_ (g := mkF m pc Ls (.int j :: .ref a :: rest)) rfl rfl hd target hr
  rw [q2, r]
  exact own_at? _ ys _ 0 (by omega)
theorem own_alenJ (X : Stand p l e R s m args below meth c T locs cells slots) (hx : p.tables.exec = Jvm.exec) (hZ : Z.Warmed39 s.vm) (eT : T.heap = h) (A : own_AJ Z h a xs) (hd : decode c.code pc = .ok (.arraylength, 1)) (target : State)
    (hr : Steps p.tables e below (T.setTop (mkF m (pc + 1) Ls (.int xs.length.toInt32 :: rest))) target) : Steps p.tables e below (T.setTop (mkF m pc Ls (.ref a :: rest))) target := by
  obtain ⟨cl, A, r⟩ := A
  refine X.arraylength hx (by rw [eT]; exact A.1) (State.isArrayOf_alike hZ.alike A.2.1) (g := mkF m pc Ls (.ref a :: rest)) rfl rfl hd target ?_
  rw [r]
  simpa using hr
theorem own_alenI {ty : FieldType} (X : Stand p l e R s m args below meth c T locs cells slots) (hx : p.tables.exec = Jvm.exec) (hZ : Z.Warmed39 s.vm) (eT : T.heap = h) (A : own_AI Z h a ty ys) (hd : decode c.code pc = .ok (.arraylength, 1)) (target : State)
    (hr : Steps p.tables e below (T.setTop (mkF m (pc + 1) Ls (.int ys.length.toInt32 :: rest))) target) : Steps p.tables e below (T.setTop (mkF m pc Ls (.ref a :: rest))) target := by
  obtain ⟨cl, A, r⟩ := A
  refine X.arraylength hx (by rw [eT]; exact A.1) (State.isArrayOf_alike hZ.alike A.2.1) (g := mkF m pc Ls (.ref a :: rest)) rfl rfl hd target ?_
  rw [r]
  simpa using hr
theorem own_lastore (X : Stand p l e R s m args below meth c T locs cells slots) (hx : p.tables.exec = Jvm.exec) (hZ : Z.Warmed39 s.vm) (eT : T.heap = h) (A : own_AJ Z h a xs) (hj : 0 ≤ j.toInt ∧ j.toInt < (xs.length : Nat)) {x : Int64} (hd : decode c.code pc = .ok (.lastore, 1)) :
    ∃ T' h', Stand p l e R s m args below meth c T' (locs ++ [⟨a, j.toInt.toNat⟩]) cells slots ∧ T'.heap = h' ∧ Wr h h' a j.toInt.toNat (.long x) ∧ own_AJ Z h' a (xs.set j.toInt.toNat x) ∧ ∀ target, Steps p.tables e below (T'.setTop (mkF m (pc + 1) Ls rest)) target → Steps p.tables e below (T.setTop (mkF m pc Ls (.long x :: .int j :: .ref a :: rest))) target := by
  obtain ⟨cl, B, r⟩ := A
  obtain ⟨q1, q2⟩ := own_inb (j := j) r (by simpa using hj)
  obtain ⟨T', h', X', e', W', st⟩ := stJ X hx hZ eT B q1 (x := x) (g := mkF m pc Ls (.long x :: .int j :: .ref a :: rest)) rfl rfl hd
  rw [q2] at X' W'
  exact ⟨T', h', X', e', W', by have := own_A.set ⟨cl, B, r⟩ W'; rw [own_AJ, List.map_set]; exact this, st⟩
theorem own_iastore (X : Stand p l e R s m args below meth c T locs cells slots) (hx : p.tables.exec = Jvm.exec) (hZ : Z.Warmed39 s.vm) (eT : T.heap = h) (A : own_AI Z h a .int ys) (hj : 0 ≤ j.toInt ∧ j.toInt < (ys.length : Nat)) {x : Int32} (hd : decode c.code pc = .ok (.iastore, 1)) :
    ∃ T' h', Stand p l e R s m args below meth c T' (locs ++ [⟨a, j.toInt.toNat⟩]) cells slots ∧ T'.heap = h' ∧ Wr h h' a j.toInt.toNat (.int x) ∧ own_AI Z h' a .int (ys.set j.toInt.toNat x) ∧ ∀ target, Steps p.tables e below (T'.setTop (mkF m (pc + 1) Ls rest)) target → Steps p.tables e below (T.setTop (mkF m pc Ls (.int x :: .int j :: .ref a :: rest))) target := by
  obtain ⟨cl, B, r⟩ := A
  obtain ⟨q1, q2⟩ := own_inb (j := j) r (by simpa using hj)
  obtain ⟨T', h', X', e', W', st⟩ := stI X hx hZ eT B q1 (x := x) (g := mkF m pc Ls (.int x :: .int j :: .ref a :: rest)) rfl rfl hd
  rw [q2] at X' W'
  exact ⟨T', h', X', e', W', by have := own_A.set ⟨cl, B, r⟩ W'; rw [own_AI, List.map_set]; exact this, st⟩
theorem own_bastoreB (X : Stand p l e R s m args below meth c T locs cells slots) (hx : p.tables.exec = Jvm.exec) (hZ : Z.Warmed39 s.vm) (eT : T.heap = h) (A : own_AI Z h a .byte ys) (hj : 0 ≤ j.toInt ∧ j.toInt < (ys.length : Nat)) {x : Int32} (hd : decode c.code pc = .ok (.bastore, 1)) :
    ∃ T' h', Stand p l e R s m args below meth c T' (locs ++ [⟨a, j.toInt.toNat⟩]) cells slots ∧ T'.heap = h' ∧ Wr h h' a j.toInt.toNat (.int x.toInt8.toInt32) ∧ own_AI Z h' a .byte (ys.set j.toInt.toNat x.toInt8.toInt32) ∧ ∀ target, Steps p.tables e below (T'.setTop (mkF m (pc + 1) Ls rest)) target → Steps p.tables e below (T.setTop (mkF m pc Ls (.int x :: .int j :: .ref a :: rest))) target := by
  obtain ⟨cl, B, r⟩ := A
  obtain ⟨q1, q2⟩ := own_inb (j := j) r (by simpa using hj)
  obtain ⟨T', h', X', e', W', st⟩ := stB X hx hZ eT B q1 (x := x) (g := mkF m pc Ls (.int x :: .int j :: .ref a :: rest)) rfl rfl hd
  rw [q2] at X' W'
  exact ⟨T', h', X', e', W', by have := own_A.set ⟨cl, B, r⟩ W'; rw [own_AI, List.map_set]; exact this, st⟩
theorem own_bastoreZ (X : Stand p l e R s m args below meth c T locs cells slots) (hx : p.tables.exec = Jvm.exec) (hZ : Z.Warmed39 s.vm) (eT : T.heap = h) (A : own_AI Z h a .boolean ys) (hj : 0 ≤ j.toInt ∧ j.toInt < (ys.length : Nat)) {x : Int32} (hd : decode c.code pc = .ok (.bastore, 1)) :
    ∃ T' h', Stand p l e R s m args below meth c T' (locs ++ [⟨a, j.toInt.toNat⟩]) cells slots ∧ T'.heap = h' ∧ Wr h h' a j.toInt.toNat (.int (x &&& 1)) ∧ own_AI Z h' a .boolean (ys.set j.toInt.toNat (x &&& 1)) ∧ ∀ target, Steps p.tables e below (T'.setTop (mkF m (pc + 1) Ls rest)) target → Steps p.tables e below (T.setTop (mkF m pc Ls (.int x :: .int j :: .ref a :: rest))) target := by
  obtain ⟨cl, B, r⟩ := A
  obtain ⟨q1, q2⟩ := own_inb (j := j) r (by simpa using hj)
  obtain ⟨T', h', X', e', W', st⟩ := stZ X hx hZ eT B q1 (x := x) (g := mkF m pc Ls (.int x :: .int j :: .ref a :: rest)) rfl rfl hd
  rw [q2] at X' W'
  exact ⟨T', h', X', e', W', by have := own_A.set ⟨cl, B, r⟩ W'; rw [own_AI, List.map_set]; exact this, st⟩
end Loads
end OwnKit
theorem own_bm32 {x : Int} (h1 : -2147483648 ≤ x) (h2 : x < 2147483648) : x.bmod (2 ^ 32) = x := by
  rw [Int.bmod_def]; split <;> omega
theorem own_bm64 {x : Int} (h1 : -9223372036854775808 ≤ x) (h2 : x < 9223372036854775808) : x.bmod (2 ^ 64) = x := by
  rw [Int.bmod_def]; split <;> omega
theorem own_r32 (x : Int32) : -2147483648 ≤ x.toInt ∧ x.toInt < 2147483648 := ⟨x.le_toInt, x.toInt_lt⟩
theorem own_r64 (x : Int64) : -9223372036854775808 ≤ x.toInt ∧ x.toInt < 9223372036854775808 := ⟨x.le_toInt, x.toInt_lt⟩
theorem own_iadd {x y : Int32} (h : -2147483648 ≤ x.toInt + y.toInt ∧ x.toInt + y.toInt < 2147483648) : (x + y).toInt = x.toInt + y.toInt := by rw [Int32.toInt_add]; exact own_bm32 h.1 h.2
theorem own_isub {x y : Int32} (h : -2147483648 ≤ x.toInt - y.toInt ∧ x.toInt - y.toInt < 2147483648) : (x - y).toInt = x.toInt - y.toInt := by rw [Int32.toInt_sub]; exact own_bm32 h.1 h.2
theorem own_imul {x y : Int32} (h : -2147483648 ≤ x.toInt * y.toInt ∧ x.toInt * y.toInt < 2147483648) : (x * y).toInt = x.toInt * y.toInt := by rw [Int32.toInt_mul]; exact own_bm32 h.1 h.2
theorem own_ladd {x y : Int64} (h : -9223372036854775808 ≤ x.toInt + y.toInt ∧ x.toInt + y.toInt < 9223372036854775808) : (x + y).toInt = x.toInt + y.toInt := by rw [Int64.toInt_add]; exact own_bm64 h.1 h.2
theorem own_lsub {x y : Int64} (h : -9223372036854775808 ≤ x.toInt - y.toInt ∧ x.toInt - y.toInt < 9223372036854775808) : (x - y).toInt = x.toInt - y.toInt := by rw [Int64.toInt_sub]; exact own_bm64 h.1 h.2
theorem own_lmul {x y : Int64} (h : -9223372036854775808 ≤ x.toInt * y.toInt ∧ x.toInt * y.toInt < 9223372036854775808) : (x * y).toInt = x.toInt * y.toInt := by rw [Int64.toInt_mul]; exact own_bm64 h.1 h.2
theorem own_i2l (x : Int32) : x.toInt64.toInt = x.toInt := Int32.toInt_toInt64 x
theorem own_l2i {x : Int64} (h : -2147483648 ≤ x.toInt ∧ x.toInt < 2147483648) : x.toInt32.toInt = x.toInt := by rw [Int64.toInt_toInt32]; exact own_bm32 h.1 h.2
theorem own_irem {x y : Int32} (h : 0 ≤ x.toInt) : (x % y).toInt = x.toInt % y.toInt := by rw [Int32.toInt_mod]; exact Int.tmod_eq_emod_of_nonneg h
theorem own_lrem {x y : Int64} (h : 0 ≤ x.toInt) : (x % y).toInt = x.toInt % y.toInt := by rw [Int64.toInt_mod]; exact Int.tmod_eq_emod_of_nonneg h
theorem own_idiv {x y : Int32} (h : 0 ≤ x.toInt) (hy : 0 ≤ y.toInt) : (x / y).toInt = x.toInt / y.toInt := by
  rw [Int32.toInt_div_of_ne_right x y (fun q => by rw [q] at hy; revert hy; decide)]; exact Int.tdiv_eq_ediv_of_nonneg h
theorem own_ldiv {x y : Int64} (h : 0 ≤ x.toInt) (hy : 0 ≤ y.toInt) : (x / y).toInt = x.toInt / y.toInt := by
  rw [Int64.toInt_div_of_ne_right x y (fun q => by rw [q] at hy; revert hy; decide)]; exact Int.tdiv_eq_ediv_of_nonneg h
/-- a mask of k bits -/
theorem own_mask (x m : Int32) (k : Nat) (hk : k ≤ 31) (hm : m.toBitVec.toNat = 2 ^ k - 1) : (x &&& m).toInt = x.toInt % (2 ^ k : Nat) := by
  have hp : 2 ^ k ≤ 2 ^ 31 := Nat.pow_le_pow_right (by decide) hk
  have hp0 : 0 < 2 ^ k := Nat.pow_pos (by decide)
  have e : (x &&& m).toBitVec.toNat = x.toBitVec.toNat % 2 ^ k := by rw [Int32.toBitVec_and, BitVec.toNat_and, hm, Nat.and_two_pow_sub_one_eq_mod]
  have l := Nat.mod_lt x.toBitVec.toNat hp0
  rw [← Int32.toInt_toBitVec, ← Int32.toInt_toBitVec, BitVec.toInt_eq_toNat_cond, e, if_pos (by omega), BitVec.toInt_eq_toNat_cond]
  split
  · simp
  · rename_i q
    have d : (2 ^ k : Nat) ∣ 2 ^ 32 := Nat.pow_dvd_pow 2 (by omega)
    obtain ⟨c, hc⟩ := d
    have hc' : ((2 ^ 32 : Nat) : Int) = ((2 ^ k : Nat) : Int) * (c : Int) := by rw [hc]; simp
    rw [hc', Int.sub_mul_emod_self_left]; simp
theorem own_ushr (x : Int64) (y : Int32) (k : Nat) (hk : (y &&& 0x3f).toInt64.toBitVec.toNat % 64 = k) (h0 : 0 < k) : (((x).toUInt64 >>> (y &&& 0x3f).toInt64.toUInt64).toInt64).toInt = (x.toInt % 18446744073709551616) / (2 ^ k : Nat) := by
  have e : (((x).toUInt64 >>> (y &&& 0x3f).toInt64.toUInt64).toInt64).toBitVec = x.toBitVec >>> k := by rw [← hk]; simp
  have hl := x.toBitVec.isLt
  have hp0 : 0 < 2 ^ k := Nat.pow_pos (by decide)
  have h2 : 2 ^ 1 ≤ 2 ^ k := Nat.pow_le_pow_right (by decide) h0
  have hd : x.toBitVec.toNat / 2 ^ k ≤ x.toBitVec.toNat / 2 := Nat.div_le_div_left h2 (by decide)
  have t : x.toInt % 18446744073709551616 = (x.toBitVec.toNat : Int) := by
    rw [← Int64.toInt_toBitVec, BitVec.toInt_eq_toNat_cond]; split <;> omega
  rw [t, ← Int64.toInt_toBitVec, e, BitVec.toInt_eq_toNat_cond, BitVec.toNat_ushiftRight, Nat.shiftRight_eq_div_pow, if_pos (by omega)]
  simp
theorem own_shl (x : Int64) (y : Int32) (k : Nat) (hk : y.toBitVec.toNat % 64 = k) (h : -9223372036854775808 ≤ x.toInt * (2 ^ k : Nat) ∧ x.toInt * (2 ^ k : Nat) < 9223372036854775808) : (x <<< (y &&& 0x3f).toInt64).toInt = x.toInt * (2 ^ k : Nat) := by
  have q := c_lshl x y k hk
  have r := own_r64 (x <<< (y &&& 0x3f).toInt64)
  generalize x.toInt * (2 ^ k : Nat) = z at *
  omega
theorem own_nzL {x : Int32} (h : ¬ x = 0) : ¬ x.toInt64 = 0 := fun q => h (Int32.toInt_inj.mp (by rw [← own_i2l, q]; rfl))
theorem own_nzP {x : Int32} (h : 1 ≤ x.toInt) : ¬ x = 0 := fun q => by rw [q] at h; revert h; decide
theorem own_fA {t n : Int32} {k : Int} (h : t < n) (q : n.toInt - 1 = k) : t.toInt ≤ k := by rw [Int32.lt_iff_toInt_lt] at h; omega
theorem own_fB {t n : Int32} {k : Int} (h : ¬ n < t) (q : n.toInt = k) : t.toInt ≤ k := by rw [Int32.lt_iff_toInt_lt] at h; omega
theorem own_fC {t n : Int32} {k : Int} (h : n < t) (q : n.toInt + 1 = k) : k ≤ t.toInt := by rw [Int32.lt_iff_toInt_lt] at h; omega
theorem own_fD {t n : Int32} {k : Int} (h : ¬ t < n) (q : n.toInt = k) : k ≤ t.toInt := by rw [Int32.lt_iff_toInt_lt] at h; omega
theorem own_fE {t n : Int32} {k : Int} (h : t = n) (q : n.toInt = k) : t.toInt ≤ k := by rw [h]; omega
theorem own_fF {t n : Int32} {k : Int} (h : t = n) (q : n.toInt = k) : k ≤ t.toInt := by rw [h]; omega
theorem own_g1 {t m : Int32} {k : Int} (h : t.toInt ≤ k) (q : k < m.toInt) : t < m := by rw [Int32.lt_iff_toInt_lt]; omega
theorem own_g2 {t m : Int32} {k : Int} (h : t.toInt ≤ k) (q : k ≤ m.toInt) : ¬ m < t := by rw [Int32.lt_iff_toInt_lt]; omega
theorem own_g3 {t m : Int32} {k : Int} (h : t.toInt ≤ k) (q : k < m.toInt) : ¬ t = m := fun e => by rw [e] at h; omega
theorem own_g4 {t m : Int32} {k : Int} (h : k ≤ t.toInt) (q : m.toInt ≤ k) : ¬ t < m := by rw [Int32.lt_iff_toInt_lt]; omega
theorem own_g5 {t m : Int32} {k : Int} (h : k ≤ t.toInt) (q : m.toInt < k) : m < t := by rw [Int32.lt_iff_toInt_lt]; omega
theorem own_g6 {t m : Int32} {k : Int} (h : k ≤ t.toInt) (q : m.toInt < k) : ¬ t = m := fun e => by rw [e] at h; omega
theorem own_g7 {t m : Int32} {k : Int} (h : k ≤ t.toInt) (h' : t.toInt ≤ k) (q : m.toInt = k) : t = m := Int32.toInt_inj.mp (by omega)
theorem own_ne {x n : Int32} {k : Int} (h : ¬ x = n) (q : n.toInt = k) : k ≠ x.toInt := fun e => h (Int32.toInt_inj.mp (by omega))
theorem own_gs1 {α : Type} (xs : List α) (n : Nat) (v d : α) (h : n < xs.length) : (xs.set n v).getD n d = v := by simp [List.getD, h]
theorem own_gs2 {α : Type} (xs : List α) (n j : Nat) (v d : α) (h : n ≠ j) : (xs.set n v).getD j d = xs.getD j d := by simp [List.getD, List.getElem?_set, h]
theorem own_in14 {x y : Int32} (h : y = (x &&& 2147483647) % 14) : 0 ≤ y.toInt ∧ y.toInt < (14 : Nat) := by
  have a := own_mask x 2147483647 31 (by decide) (by decide)
  have e : (14 : Int32).toInt = 14 := by decide
  have b := own_irem (x := x &&& 2147483647) (y := 14) (by omega)
  rw [← h, e] at b
  omega
theorem own_inA {y : Int32} (h1 : ¬ y < 1) (h2 : ¬ 14 < y) : 0 ≤ (y - 1).toInt ∧ (y - 1).toInt < (14 : Nat) := by
  rw [Int32.lt_iff_toInt_lt] at h1 h2
  have e : (14 : Int32).toInt = 14 := by decide
  have e1 : (1 : Int32).toInt = 1 := by decide
  have a := own_isub (x := y) (y := 1) (by omega)
  omega
theorem own_inB {y : Int32} (h1 : ¬ y < 1) (h2 : ¬ 14 < y) (h3 : ¬ y = 14) : 0 ≤ y.toInt ∧ y.toInt < (14 : Nat) := by
  rw [Int32.lt_iff_toInt_lt] at h1 h2
  rw [← Int32.toInt_inj] at h3
  have e : (14 : Int32).toInt = 14 := by decide
  have e1 : (1 : Int32).toInt = 1 := by decide
  omega
theorem d1_0 : decode method_2_code 0 = .ok (.bipush 14, 2) := by decide +kernel
theorem d1_2 : decode method_2_code 2 = .ok (.newarray .long, 2) := by decide +kernel
theorem d1_4 : decode method_2_code 4 = .ok (.dup, 1) := by decide +kernel
theorem d1_5 : decode method_2_code 5 = .ok (.iconst 0, 1) := by decide +kernel
theorem d1_6 : decode method_2_code 6 = .ok (.lconst 1, 1) := by decide +kernel
theorem d1_7 : decode method_2_code 7 = .ok (.lastore, 1) := by decide +kernel
theorem d1_8 : decode method_2_code 8 = .ok (.dup, 1) := by decide +kernel
theorem d1_9 : decode method_2_code 9 = .ok (.iconst 1, 1) := by decide +kernel
theorem d1_10 : decode method_2_code 10 = .ok (.ldc2_w 7, 3) := by decide +kernel
theorem d1_13 : decode method_2_code 13 = .ok (.lastore, 1) := by decide +kernel
theorem d1_14 : decode method_2_code 14 = .ok (.dup, 1) := by decide +kernel
theorem d1_15 : decode method_2_code 15 = .ok (.iconst 2, 1) := by decide +kernel
theorem d1_16 : decode method_2_code 16 = .ok (.ldc2_w 9, 3) := by decide +kernel
theorem d1_19 : decode method_2_code 19 = .ok (.lastore, 1) := by decide +kernel
theorem d1_20 : decode method_2_code 20 = .ok (.dup, 1) := by decide +kernel
theorem d1_21 : decode method_2_code 21 = .ok (.iconst 3, 1) := by decide +kernel
theorem d1_22 : decode method_2_code 22 = .ok (.ldc2_w 11, 3) := by decide +kernel
theorem d1_25 : decode method_2_code 25 = .ok (.lastore, 1) := by decide +kernel
theorem d1_26 : decode method_2_code 26 = .ok (.dup, 1) := by decide +kernel
theorem d1_27 : decode method_2_code 27 = .ok (.iconst 4, 1) := by decide +kernel
theorem d1_28 : decode method_2_code 28 = .ok (.ldc2_w 13, 3) := by decide +kernel
theorem d1_31 : decode method_2_code 31 = .ok (.lastore, 1) := by decide +kernel
theorem d1_32 : decode method_2_code 32 = .ok (.dup, 1) := by decide +kernel
theorem d1_33 : decode method_2_code 33 = .ok (.iconst 5, 1) := by decide +kernel
theorem d1_34 : decode method_2_code 34 = .ok (.ldc2_w 15, 3) := by decide +kernel
theorem d1_37 : decode method_2_code 37 = .ok (.lastore, 1) := by decide +kernel
theorem d1_38 : decode method_2_code 38 = .ok (.dup, 1) := by decide +kernel
theorem d1_39 : decode method_2_code 39 = .ok (.bipush 6, 2) := by decide +kernel
theorem d1_41 : decode method_2_code 41 = .ok (.ldc2_w 17, 3) := by decide +kernel
theorem d1_44 : decode method_2_code 44 = .ok (.lastore, 1) := by decide +kernel
theorem d1_45 : decode method_2_code 45 = .ok (.dup, 1) := by decide +kernel
theorem d1_46 : decode method_2_code 46 = .ok (.bipush 7, 2) := by decide +kernel
theorem d1_48 : decode method_2_code 48 = .ok (.ldc2_w 19, 3) := by decide +kernel
theorem d1_51 : decode method_2_code 51 = .ok (.lastore, 1) := by decide +kernel
theorem d1_52 : decode method_2_code 52 = .ok (.dup, 1) := by decide +kernel
theorem d1_53 : decode method_2_code 53 = .ok (.bipush 8, 2) := by decide +kernel
theorem d1_55 : decode method_2_code 55 = .ok (.ldc2_w 21, 3) := by decide +kernel
theorem d1_58 : decode method_2_code 58 = .ok (.lastore, 1) := by decide +kernel
theorem d1_59 : decode method_2_code 59 = .ok (.dup, 1) := by decide +kernel
theorem d1_60 : decode method_2_code 60 = .ok (.bipush 9, 2) := by decide +kernel
theorem d1_62 : decode method_2_code 62 = .ok (.ldc2_w 23, 3) := by decide +kernel
theorem d1_65 : decode method_2_code 65 = .ok (.lastore, 1) := by decide +kernel
theorem d1_66 : decode method_2_code 66 = .ok (.dup, 1) := by decide +kernel
theorem d1_67 : decode method_2_code 67 = .ok (.bipush 10, 2) := by decide +kernel
theorem d1_69 : decode method_2_code 69 = .ok (.ldc2_w 25, 3) := by decide +kernel
theorem d1_72 : decode method_2_code 72 = .ok (.lastore, 1) := by decide +kernel
theorem d1_73 : decode method_2_code 73 = .ok (.dup, 1) := by decide +kernel
theorem d1_74 : decode method_2_code 74 = .ok (.bipush 11, 2) := by decide +kernel
theorem d1_76 : decode method_2_code 76 = .ok (.ldc2_w 27, 3) := by decide +kernel
theorem d1_79 : decode method_2_code 79 = .ok (.lastore, 1) := by decide +kernel
theorem d1_80 : decode method_2_code 80 = .ok (.dup, 1) := by decide +kernel
theorem d1_81 : decode method_2_code 81 = .ok (.bipush 12, 2) := by decide +kernel
theorem d1_83 : decode method_2_code 83 = .ok (.ldc2_w 29, 3) := by decide +kernel
theorem d1_86 : decode method_2_code 86 = .ok (.lastore, 1) := by decide +kernel
theorem d1_87 : decode method_2_code 87 = .ok (.dup, 1) := by decide +kernel
theorem d1_88 : decode method_2_code 88 = .ok (.bipush 13, 2) := by decide +kernel
theorem d1_90 : decode method_2_code 90 = .ok (.ldc2_w 31, 3) := by decide +kernel
theorem d1_93 : decode method_2_code 93 = .ok (.lastore, 1) := by decide +kernel
theorem d1_94 : decode method_2_code 94 = .ok (.astore_n 1, 1) := by decide +kernel
theorem d1_95 : decode method_2_code 95 = .ok (.aload_n 1, 1) := by decide +kernel
theorem d1_96 : decode method_2_code 96 = .ok (.iload_n 0, 1) := by decide +kernel
theorem d1_97 : decode method_2_code 97 = .ok (.laload, 1) := by decide +kernel
theorem d1_98 : decode method_2_code 98 = .ok (.lreturn, 1) := by decide +kernel
theorem pn_1 : plainName "com/example/tributary/tributary/workload/SettingIndexLettersPinLaw" = true := by first | (simp [plainName, overriddenIn]; done) | decide +kernel
theorem ef_1 (m : MethodId) (q0 : Int32) : entryFrame m #[(.int q0)] 2 = mkF m 0 #[.val (.int q0), .unset] [] := by first | (simp [entryFrame, mkF, argsToLocals, Value.category, maxLocals]; done) | rfl
def own_f1 (q0 : Int32) : Int64 := (([(1 : Int64), (26 : Int64), (676 : Int64), (17576 : Int64), (456976 : Int64), (11881376 : Int64), (308915776 : Int64), (8031810176 : Int64), (208827064576 : Int64), (5429503678976 : Int64), (141167095653376 : Int64), (3670344486987776 : Int64), (95428956661682176 : Int64), (2481152873203736576 : Int64)] : List Int64).getD (q0).toInt.toNat 0)
def Q1 (Z : State) (q0 : Int32)  (h0 : Heap) (n0 : Nat) (v : Option Value) (h : Heap) (L : List Loc) : Prop := v = some (.long (own_f1 q0)) ∧ Fr n0 L ∧ Keep h0 h []
set_option maxRecDepth 65536 in
set_option maxHeartbeats 40000000 in
theorem rm1 (l : Launch) (Z : State) (a0 : Array Value) (hw : ∀ d ∈ tables_1, d.before a0 Z = true) (ws : List Jvm.Cond) (q0 : Int32)  (h0 : Heap) (n0 : Nat) (Z0 : n0 ≤ h0.size) (hin : 0 ≤ (q0).toInt ∧ (q0).toInt < (14 : Nat)) :
    MetFree l (⟨"com/example/tributary/tributary/workload/SettingIndexLettersPinLaw", "pow26", "(I)J"⟩ : MethodName) (head1 (Jvm.Cond.code (⟨"com/example/tributary/tributary/workload/SettingIndexLettersPinLaw", "pow26", "(I)J"⟩ : MethodName) method_2_code 2 (some .long) :: ws) ({ frames := 0, cells := 1, slots := 14, locals := 0 } : Room)) (fun a U => a = #[(.int q0)] ∧ Z.Warmed39 U.vm ∧ U.heap = h0) (fun _ _ _ _ _ => True) (fun _ U o U' => ∃ v L, o = .returned v ∧ Q1 Z q0 h0 n0 v U'.heap L ∧ FrameEnd U o U' L ({ frames := 0, cells := 1, slots := 14, locals := 0 } : Room).cells ({ frames := 0, cells := 1, slots := 14, locals := 0 } : Room).slots) := by
  refine MetFree.of_bodySF (plainFor_of_name pn_1) hisR ?_
  intro p e s m args below meth c s₁ Bd hml0 hP hK
  obtain ⟨rfl, hZ, hh⟩ := hP
  have hx := Bd.exec
  have hby := Bd.bytes
  have hml : c.maxLocals = 2 := hml0
  have hown : s.vm.findClass "com/example/tributary/tributary/workload/SettingIndexLettersPinLaw" = some m.cls := findClass_of_methodNamed Bd.named
  have hnm := (name_of_methodNamed Bd.named Bd.method).1
  have X0 : Stand p l e ({ frames := 0, cells := 1, slots := 14, locals := 0 } : Room) s m #[(.int q0)] below meth c s₁ [] 0 0 := Stand.of_body Bd
  have hlk : meth.locks = false := by first | exact BodyLoose.notSynchronized (by assumption) | exact Body.notSynchronized (by assumption)
  have e0 : s₁.heap = h0 := by rw [← hh, Bd.state]; rfl
  have N0 := Fr.nil n0
  have pre0 : ∀ t, Steps p.tables e below (s₁.setTop (mkF m 0 #[.val (.int q0), .unset] [])) t → Steps p.tables e below (s₁.setTop (entryFrame m #[(.int q0)] 2)) t := fun t k => castTop (ef_1 m q0) k
  obtain ⟨T1, h1, cA1, X1, e1, E1, A1, st1⟩ := newP X0 hx hZ (aty := .long) (hw _ (List.mem_of_getElem? (i := 5) rfl)) e0 (g := (mkF m 2 #[.val (.int q0), .unset] [(.int (14 : Int32))])) rfl (hb hby d1_2) rfl (by decide) (cap := 14) (by decide) (by decide) (by decide) (by decide)
  obtain ⟨a1, g1⟩ : ∃ z, z = h0.size := ⟨_, rfl⟩
  rw [← g1] at A1 st1
  have ge_a1 : n0 ≤ a1 := g1 ▸ Z0
  have go_a1 : h0.size ≤ a1 := g1 ▸ (Keep.refl h0 []).1
  have sz1 : n0 ≤ h1.size := Nat.le_trans Z0 E1.1
  have K1 : Keep h0 h1 [] := (Keep.refl h0 []).ext E1
  have V1_n : own_AJ Z h1 a1 [(0 : Int64), (0 : Int64), (0 : Int64), (0 : Int64), (0 : Int64), (0 : Int64), (0 : Int64), (0 : Int64), (0 : Int64), (0 : Int64), (0 : Int64), (0 : Int64), (0 : Int64), (0 : Int64)] := own_AJ_new A1 (k := 14) (by decide)
  obtain ⟨T2, h2, X2, e2, W2, V2, st2⟩ := own_lastore X1 hx hZ e1 V1_n (j := (0 : Int32)) (show 0 ≤ Int32.toInt (0 : Int32) ∧ Int32.toInt (0 : Int32) < ((14 : Nat) : Int) by decide) (x := (1 : Int64)) (hb hby d1_7) (Ls := #[.val (.int q0), .unset]) (rest := [(.ref a1)])
  have sz2 : n0 ≤ h2.size := Nat.le_trans sz1 (Keep.of_wr W2).1
  have K2 : Keep h0 h2 [] := K1.wr W2 (Or.inr go_a1)
  have N2 := Fr.snoc X2 N0 ge_a1
  have V2_n : own_AJ Z h2 a1 [(1 : Int64), (0 : Int64), (0 : Int64), (0 : Int64), (0 : Int64), (0 : Int64), (0 : Int64), (0 : Int64), (0 : Int64), (0 : Int64), (0 : Int64), (0 : Int64), (0 : Int64), (0 : Int64)] := V2
  obtain ⟨T3, h3, X3, e3, W3, V3, st3⟩ := own_lastore X2 hx hZ e2 V2_n (j := (1 : Int32)) (show 0 ≤ Int32.toInt (1 : Int32) ∧ Int32.toInt (1 : Int32) < ((14 : Nat) : Int) by decide) (x := (26 : Int64)) (hb hby d1_13) (Ls := #[.val (.int q0), .unset]) (rest := [(.ref a1)])
  have sz3 : n0 ≤ h3.size := Nat.le_trans sz2 (Keep.of_wr W3).1
  have K3 : Keep h0 h3 [] := K2.wr W3 (Or.inr go_a1)
  have N3 := Fr.snoc X3 N2 ge_a1
  have V3_n : own_AJ Z h3 a1 [(1 : Int64), (26 : Int64), (0 : Int64), (0 : Int64), (0 : Int64), (0 : Int64), (0 : Int64), (0 : Int64), (0 : Int64), (0 : Int64), (0 : Int64), (0 : Int64), (0 : Int64), (0 : Int64)] := V3
  obtain ⟨T4, h4, X4, e4, W4, V4, st4⟩ := own_lastore X3 hx hZ e3 V3_n (j := (2 : Int32)) (show 0 ≤ Int32.toInt (2 : Int32) ∧ Int32.toInt (2 : Int32) < ((14 : Nat) : Int) by decide) (x := (676 : Int64)) (hb hby d1_19) (Ls := #[.val (.int q0), .unset]) (rest := [(.ref a1)])
  have sz4 : n0 ≤ h4.size := Nat.le_trans sz3 (Keep.of_wr W4).1
  have K4 : Keep h0 h4 [] := K3.wr W4 (Or.inr go_a1)
  have N4 := Fr.snoc X4 N3 ge_a1
  have V4_n : own_AJ Z h4 a1 [(1 : Int64), (26 : Int64), (676 : Int64), (0 : Int64), (0 : Int64), (0 : Int64), (0 : Int64), (0 : Int64), (0 : Int64), (0 : Int64), (0 : Int64), (0 : Int64), (0 : Int64), (0 : Int64)] := V4
  obtain ⟨T5, h5, X5, e5, W5, V5, st5⟩ := own_lastore X4 hx hZ e4 V4_n (j := (3 : Int32)) (show 0 ≤ Int32.toInt (3 : Int32) ∧ Int32.toInt (3 : Int32) < ((14 : Nat) : Int) by decide) (x := (17576 : Int64)) (hb hby d1_25) (Ls := #[.val (.int q0), .unset]) (rest := [(.ref a1)])
  have sz5 : n0 ≤ h5.size := Nat.le_trans sz4 (Keep.of_wr W5).1
  have K5 : Keep h0 h5 [] := K4.wr W5 (Or.inr go_a1)
  have N5 := Fr.snoc X5 N4 ge_a1
  have V5_n : own_AJ Z h5 a1 [(1 : Int64), (26 : Int64), (676 : Int64), (17576 : Int64), (0 : Int64), (0 : Int64), (0 : Int64), (0 : Int64), (0 : Int64), (0 : Int64), (0 : Int64), (0 : Int64), (0 : Int64), (0 : Int64)] := V5
  obtain ⟨T6, h6, X6, e6, W6, V6, st6⟩ := own_lastore X5 hx hZ e5 V5_n (j := (4 : Int32)) (show 0 ≤ Int32.toInt (4 : Int32) ∧ Int32.toInt (4 : Int32) < ((14 : Nat) : Int) by decide) (x := (456976 : Int64)) (hb hby d1_31) (Ls := #[.val (.int q0), .unset]) (rest := [(.ref a1)])
  have sz6 : n0 ≤ h6.size := Nat.le_trans sz5 (Keep.of_wr W6).1
  have K6 : Keep h0 h6 [] := K5.wr W6 (Or.inr go_a1)
  have N6 := Fr.snoc X6 N5 ge_a1
  have V6_n : own_AJ Z h6 a1 [(1 : Int64), (26 : Int64), (676 : Int64), (17576 : Int64), (456976 : Int64), (0 : Int64), (0 : Int64), (0 : Int64), (0 : Int64), (0 : Int64), (0 : Int64), (0 : Int64), (0 : Int64), (0 : Int64)] := V6
  obtain ⟨T7, h7, X7, e7, W7, V7, st7⟩ := own_lastore X6 hx hZ e6 V6_n (j := (5 : Int32)) (show 0 ≤ Int32.toInt (5 : Int32) ∧ Int32.toInt (5 : Int32) < ((14 : Nat) : Int) by decide) (x := (11881376 : Int64)) (hb hby d1_37) (Ls := #[.val (.int q0), .unset]) (rest := [(.ref a1)])
  have sz7 : n0 ≤ h7.size := Nat.le_trans sz6 (Keep.of_wr W7).1
  have K7 : Keep h0 h7 [] := K6.wr W7 (Or.inr go_a1)
  have N7 := Fr.snoc X7 N6 ge_a1
  have V7_n : own_AJ Z h7 a1 [(1 : Int64), (26 : Int64), (676 : Int64), (17576 : Int64), (456976 : Int64), (11881376 : Int64), (0 : Int64), (0 : Int64), (0 : Int64), (0 : Int64), (0 : Int64), (0 : Int64), (0 : Int64), (0 : Int64)] := V7
  obtain ⟨T8, h8, X8, e8, W8, V8, st8⟩ := own_lastore X7 hx hZ e7 V7_n (j := (6 : Int32)) (show 0 ≤ Int32.toInt (6 : Int32) ∧ Int32.toInt (6 : Int32) < ((14 : Nat) : Int) by decide) (x := (308915776 : Int64)) (hb hby d1_44) (Ls := #[.val (.int q0), .unset]) (rest := [(.ref a1)])
  have sz8 : n0 ≤ h8.size := Nat.le_trans sz7 (Keep.of_wr W8).1
  have K8 : Keep h0 h8 [] := K7.wr W8 (Or.inr go_a1)
  have N8 := Fr.snoc X8 N7 ge_a1
  have V8_n : own_AJ Z h8 a1 [(1 : Int64), (26 : Int64), (676 : Int64), (17576 : Int64), (456976 : Int64), (11881376 : Int64), (308915776 : Int64), (0 : Int64), (0 : Int64), (0 : Int64), (0 : Int64), (0 : Int64), (0 : Int64), (0 : Int64)] := V8
  obtain ⟨T9, h9, X9, e9, W9, V9, st9⟩ := own_lastore X8 hx hZ e8 V8_n (j := (7 : Int32)) (show 0 ≤ Int32.toInt (7 : Int32) ∧ Int32.toInt (7 : Int32) < ((14 : Nat) : Int) by decide) (x := (8031810176 : Int64)) (hb hby d1_51) (Ls := #[.val (.int q0), .unset]) (rest := [(.ref a1)])
  have sz9 : n0 ≤ h9.size := Nat.le_trans sz8 (Keep.of_wr W9).1
  have K9 : Keep h0 h9 [] := K8.wr W9 (Or.inr go_a1)
  have N9 := Fr.snoc X9 N8 ge_a1
  have V9_n : own_AJ Z h9 a1 [(1 : Int64), (26 : Int64), (676 : Int64), (17576 : Int64), (456976 : Int64), (11881376 : Int64), (308915776 : Int64), (8031810176 : Int64), (0 : Int64), (0 : Int64), (0 : Int64), (0 : Int64), (0 : Int64), (0 : Int64)] := V9
  obtain ⟨T10, h10, X10, e10, W10, V10, st10⟩ := own_lastore X9 hx hZ e9 V9_n (j := (8 : Int32)) (show 0 ≤ Int32.toInt (8 : Int32) ∧ Int32.toInt (8 : Int32) < ((14 : Nat) : Int) by decide) (x := (208827064576 : Int64)) (hb hby d1_58) (Ls := #[.val (.int q0), .unset]) (rest := [(.ref a1)])
  have sz10 : n0 ≤ h10.size := Nat.le_trans sz9 (Keep.of_wr W10).1
  have K10 : Keep h0 h10 [] := K9.wr W10 (Or.inr go_a1)
  have N10 := Fr.snoc X10 N9 ge_a1
  have V10_n : own_AJ Z h10 a1 [(1 : Int64), (26 : Int64), (676 : Int64), (17576 : Int64), (456976 : Int64), (11881376 : Int64), (308915776 : Int64), (8031810176 : Int64), (208827064576 : Int64), (0 : Int64), (0 : Int64), (0 : Int64), (0 : Int64), (0 : Int64)] := V10
  obtain ⟨T11, h11, X11, e11, W11, V11, st11⟩ := own_lastore X10 hx hZ e10 V10_n (j := (9 : Int32)) (show 0 ≤ Int32.toInt (9 : Int32) ∧ Int32.toInt (9 : Int32) < ((14 : Nat) : Int) by decide) (x := (5429503678976 : Int64)) (hb hby d1_65) (Ls := #[.val (.int q0), .unset]) (rest := [(.ref a1)])
  have sz11 : n0 ≤ h11.size := Nat.le_trans sz10 (Keep.of_wr W11).1
  have K11 : Keep h0 h11 [] := K10.wr W11 (Or.inr go_a1)
  have N11 := Fr.snoc X11 N10 ge_a1
  have V11_n : own_AJ Z h11 a1 [(1 : Int64), (26 : Int64), (676 : Int64), (17576 : Int64), (456976 : Int64), (11881376 : Int64), (308915776 : Int64), (8031810176 : Int64), (208827064576 : Int64), (5429503678976 : Int64), (0 : Int64), (0 : Int64), (0 : Int64), (0 : Int64)] := V11
  obtain ⟨T12, h12, X12, e12, W12, V12, st12⟩ := own_lastore X11 hx hZ e11 V11_n (j := (10 : Int32)) (show 0 ≤ Int32.toInt (10 : Int32) ∧ Int32.toInt (10 : Int32) < ((14 : Nat) : Int) by decide) (x := (141167095653376 : Int64)) (hb hby d1_72) (Ls := #[.val (.int q0), .unset]) (rest := [(.ref a1)])
  have sz12 : n0 ≤ h12.size := Nat.le_trans sz11 (Keep.of_wr W12).1
  have K12 : Keep h0 h12 [] := K11.wr W12 (Or.inr go_a1)
  have N12 := Fr.snoc X12 N11 ge_a1
  have V12_n : own_AJ Z h12 a1 [(1 : Int64), (26 : Int64), (676 : Int64), (17576 : Int64), (456976 : Int64), (11881376 : Int64), (308915776 : Int64), (8031810176 : Int64), (208827064576 : Int64), (5429503678976 : Int64), (141167095653376 : Int64), (0 : Int64), (0 : Int64), (0 : Int64)] := V12
  obtain ⟨T13, h13, X13, e13, W13, V13, st13⟩ := own_lastore X12 hx hZ e12 V12_n (j := (11 : Int32)) (show 0 ≤ Int32.toInt (11 : Int32) ∧ Int32.toInt (11 : Int32) < ((14 : Nat) : Int) by decide) (x := (3670344486987776 : Int64)) (hb hby d1_79) (Ls := #[.val (.int q0), .unset]) (rest := [(.ref a1)])
  have sz13 : n0 ≤ h13.size := Nat.le_trans sz12 (Keep.of_wr W13).1
  have K13 : Keep h0 h13 [] := K12.wr W13 (Or.inr go_a1)
  have N13 := Fr.snoc X13 N12 ge_a1
  have V13_n : own_AJ Z h13 a1 [(1 : Int64), (26 : Int64), (676 : Int64), (17576 : Int64), (456976 : Int64), (11881376 : Int64), (308915776 : Int64), (8031810176 : Int64), (208827064576 : Int64), (5429503678976 : Int64), (141167095653376 : Int64), (3670344486987776 : Int64), (0 : Int64), (0 : Int64)] := V13
  obtain ⟨T14, h14, X14, e14, W14, V14, st14⟩ := own_lastore X13 hx hZ e13 V13_n (j := (12 : Int32)) (show 0 ≤ Int32.toInt (12 : Int32) ∧ Int32.toInt (12 : Int32) < ((14 : Nat) : Int) by decide) (x := (95428956661682176 : Int64)) (hb hby d1_86) (Ls := #[.val (.int q0), .unset]) (rest := [(.ref a1)])
  have sz14 : n0 ≤ h14.size := Nat.le_trans sz13 (Keep.of_wr W14).1
  have K14 : Keep h0 h14 [] := K13.wr W14 (Or.inr go_a1)
  have N14 := Fr.snoc X14 N13 ge_a1
  have V14_n : own_AJ Z h14 a1 [(1 : Int64), (26 : Int64), (676 : Int64), (17576 : Int64), (456976 : Int64), (11881376 : Int64), (308915776 : Int64), (8031810176 : Int64), (208827064576 : Int64), (5429503678976 : Int64), (141167095653376 : Int64), (3670344486987776 : Int64), (95428956661682176 : Int64), (0 : Int64)] := V14
  obtain ⟨T15, h15, X15, e15, W15, V15, st15⟩ := own_lastore X14 hx hZ e14 V14_n (j := (13 : Int32)) (show 0 ≤ Int32.toInt (13 : Int32) ∧ Int32.toInt (13 : Int32) < ((14 : Nat) : Int) by decide) (x := (2481152873203736576 : Int64)) (hb hby d1_93) (Ls := #[.val (.int q0), .unset]) (rest := [(.ref a1)])
  have sz15 : n0 ≤ h15.size := Nat.le_trans sz14 (Keep.of_wr W15).1
  have K15 : Keep h0 h15 [] := K14.wr W15 (Or.inr go_a1)
  have N15 := Fr.snoc X15 N14 ge_a1
  have V15_n : own_AJ Z h15 a1 [(1 : Int64), (26 : Int64), (676 : Int64), (17576 : Int64), (456976 : Int64), (11881376 : Int64), (308915776 : Int64), (8031810176 : Int64), (208827064576 : Int64), (5429503678976 : Int64), (141167095653376 : Int64), (3670344486987776 : Int64), (95428956661682176 : Int64), (2481152873203736576 : Int64)] := V15
  have in_97_16 : 0 ≤ (q0).toInt ∧ (q0).toInt < (14 : Nat) := hin
  obtain ⟨fs, hr, hrun, hended, hW, hsame⟩ := X15.leave (v := some (.long (([(1 : Int64), (26 : Int64), (676 : Int64), (17576 : Int64), (456976 : Int64), (11881376 : Int64), (308915776 : Int64), (8031810176 : Int64), (208827064576 : Int64), (5429503678976 : Int64), (141167095653376 : Int64), (3670344486987776 : Int64), (95428956661682176 : Int64), (2481152873203736576 : Int64)] : List Int64).getD (q0).toInt.toNat 0))) (fun h => by rw [Bd.returns] at h; cases h) hlk
  refine ⟨_, _, pre0 _ ?_, hrun, hended, _, _, rfl, ?_, ⟨_, rfl⟩, hW, hsame.mono (by decide) (by decide)⟩
  · show Steps p.tables e below (s₁.setTop (mkF m 0 #[.val (.int q0), .unset] [])) _
    refine XS.bipush X0.here hx rfl (hb hby d1_0) ?_
    show Steps p.tables e below (s₁.setTop (mkF m 2 #[.val (.int q0), .unset] [(.int (14 : Int32))])) _
    refine st1 _ ?_
    show Steps p.tables e below (T1.setTop (mkF m 4 #[.val (.int q0), .unset] [(.ref a1)])) _
    refine XS.dup X1.here hx rfl (hb hby d1_4) rfl rfl ?_
    show Steps p.tables e below (T1.setTop (mkF m 5 #[.val (.int q0), .unset] [(.ref a1), (.ref a1)])) _
    refine XS.iconst X1.here hx rfl (hb hby d1_5) ?_
    show Steps p.tables e below (T1.setTop (mkF m 6 #[.val (.int q0), .unset] [(.int (0 : Int32)), (.ref a1), (.ref a1)])) _
    refine XS.lconst X1.here hx rfl (hb hby d1_6) ?_
    show Steps p.tables e below (T1.setTop (mkF m 7 #[.val (.int q0), .unset] [(.long (1 : Int64)), (.int (0 : Int32)), (.ref a1), (.ref a1)])) _
    refine st2 _ ?_
    show Steps p.tables e below (T2.setTop (mkF m 8 #[.val (.int q0), .unset] [(.ref a1)])) _
    refine XS.dup X2.here hx rfl (hb hby d1_8) rfl rfl ?_
    show Steps p.tables e below (T2.setTop (mkF m 9 #[.val (.int q0), .unset] [(.ref a1), (.ref a1)])) _
    refine XS.iconst X2.here hx rfl (hb hby d1_9) ?_
    show Steps p.tables e below (T2.setTop (mkF m 10 #[.val (.int q0), .unset] [(.int (1 : Int32)), (.ref a1), (.ref a1)])) _
    refine X2.ldc2Long hx hown (mvT hZ (hw _ (List.mem_of_getElem? (i := 6) rfl))) (g := (mkF m 10 #[.val (.int q0), .unset] [(.int (1 : Int32)), (.ref a1), (.ref a1)])) rfl (hb hby d1_10) _ ?_
    show Steps p.tables e below (T2.setTop (mkF m 13 #[.val (.int q0), .unset] [(.long (26 : Int64)), (.int (1 : Int32)), (.ref a1), (.ref a1)])) _
    refine st3 _ ?_
    show Steps p.tables e below (T3.setTop (mkF m 14 #[.val (.int q0), .unset] [(.ref a1)])) _
    refine XS.dup X3.here hx rfl (hb hby d1_14) rfl rfl ?_
    show Steps p.tables e below (T3.setTop (mkF m 15 #[.val (.int q0), .unset] [(.ref a1), (.ref a1)])) _
    refine XS.iconst X3.here hx rfl (hb hby d1_15) ?_
    show Steps p.tables e below (T3.setTop (mkF m 16 #[.val (.int q0), .unset] [(.int (2 : Int32)), (.ref a1), (.ref a1)])) _
    refine X3.ldc2Long hx hown (mvT hZ (hw _ (List.mem_of_getElem? (i := 7) rfl))) (g := (mkF m 16 #[.val (.int q0), .unset] [(.int (2 : Int32)), (.ref a1), (.ref a1)])) rfl (hb hby d1_16) _ ?_
    show Steps p.tables e below (T3.setTop (mkF m 19 #[.val (.int q0), .unset] [(.long (676 : Int64)), (.int (2 : Int32)), (.ref a1), (.ref a1)])) _
    refine st4 _ ?_
    show Steps p.tables e below (T4.setTop (mkF m 20 #[.val (.int q0), .unset] [(.ref a1)])) _
    refine XS.dup X4.here hx rfl (hb hby d1_20) rfl rfl ?_
    show Steps p.tables e below (T4.setTop (mkF m 21 #[.val (.int q0), .unset] [(.ref a1), (.ref a1)])) _
    refine XS.iconst X4.here hx rfl (hb hby d1_21) ?_
    show Steps p.tables e below (T4.setTop (mkF m 22 #[.val (.int q0), .unset] [(.int (3 : Int32)), (.ref a1), (.ref a1)])) _
    refine X4.ldc2Long hx hown (mvT hZ (hw _ (List.mem_of_getElem? (i := 8) rfl))) (g := (mkF m 22 #[.val (.int q0), .unset] [(.int (3 : Int32)), (.ref a1), (.ref a1)])) rfl (hb hby d1_22) _ ?_
    show Steps p.tables e below (T4.setTop (mkF m 25 #[.val (.int q0), .unset] [(.long (17576 : Int64)), (.int (3 : Int32)), (.ref a1), (.ref a1)])) _
    refine st5 _ ?_
    show Steps p.tables e below (T5.setTop (mkF m 26 #[.val (.int q0), .unset] [(.ref a1)])) _
    refine XS.dup X5.here hx rfl (hb hby d1_26) rfl rfl ?_
    show Steps p.tables e below (T5.setTop (mkF m 27 #[.val (.int q0), .unset] [(.ref a1), (.ref a1)])) _
    refine XS.iconst X5.here hx rfl (hb hby d1_27) ?_
    show Steps p.tables e below (T5.setTop (mkF m 28 #[.val (.int q0), .unset] [(.int (4 : Int32)), (.ref a1), (.ref a1)])) _
    refine X5.ldc2Long hx hown (mvT hZ (hw _ (List.mem_of_getElem? (i := 9) rfl))) (g := (mkF m 28 #[.val (.int q0), .unset] [(.int (4 : Int32)), (.ref a1), (.ref a1)])) rfl (hb hby d1_28) _ ?_
    show Steps p.tables e below (T5.setTop (mkF m 31 #[.val (.int q0), .unset] [(.long (456976 : Int64)), (.int (4 : Int32)), (.ref a1), (.ref a1)])) _
    refine st6 _ ?_
    show Steps p.tables e below (T6.setTop (mkF m 32 #[.val (.int q0), .unset] [(.ref a1)])) _
    refine XS.dup X6.here hx rfl (hb hby d1_32) rfl rfl ?_
    show Steps p.tables e below (T6.setTop (mkF m 33 #[.val (.int q0), .unset] [(.ref a1), (.ref a1)])) _
    refine XS.iconst X6.here hx rfl (hb hby d1_33) ?_
    show Steps p.tables e below (T6.setTop (mkF m 34 #[.val (.int q0), .unset] [(.int (5 : Int32)), (.ref a1), (.ref a1)])) _
    refine X6.ldc2Long hx hown (mvT hZ (hw _ (List.mem_of_getElem? (i := 10) rfl))) (g := (mkF m 34 #[.val (.int q0), .unset] [(.int (5 : Int32)), (.ref a1), (.ref a1)])) rfl (hb hby d1_34) _ ?_
    show Steps p.tables e below (T6.setTop (mkF m 37 #[.val (.int q0), .unset] [(.long (11881376 : Int64)), (.int (5 : Int32)), (.ref a1), (.ref a1)])) _
    refine st7 _ ?_
    show Steps p.tables e below (T7.setTop (mkF m 38 #[.val (.int q0), .unset] [(.ref a1)])) _
    refine XS.dup X7.here hx rfl (hb hby d1_38) rfl rfl ?_
    show Steps p.tables e below (T7.setTop (mkF m 39 #[.val (.int q0), .unset] [(.ref a1), (.ref a1)])) _
    refine XS.bipush X7.here hx rfl (hb hby d1_39) ?_
    show Steps p.tables e below (T7.setTop (mkF m 41 #[.val (.int q0), .unset] [(.int (6 : Int32)), (.ref a1), (.ref a1)])) _
    refine X7.ldc2Long hx hown (mvT hZ (hw _ (List.mem_of_getElem? (i := 11) rfl))) (g := (mkF m 41 #[.val (.int q0), .unset] [(.int (6 : Int32)), (.ref a1), (.ref a1)])) rfl (hb hby d1_41) _ ?_
    show Steps p.tables e below (T7.setTop (mkF m 44 #[.val (.int q0), .unset] [(.long (308915776 : Int64)), (.int (6 : Int32)), (.ref a1), (.ref a1)])) _
    refine st8 _ ?_
    show Steps p.tables e below (T8.setTop (mkF m 45 #[.val (.int q0), .unset] [(.ref a1)])) _
    refine XS.dup X8.here hx rfl (hb hby d1_45) rfl rfl ?_
    show Steps p.tables e below (T8.setTop (mkF m 46 #[.val (.int q0), .unset] [(.ref a1), (.ref a1)])) _
    refine XS.bipush X8.here hx rfl (hb hby d1_46) ?_
    show Steps p.tables e below (T8.setTop (mkF m 48 #[.val (.int q0), .unset] [(.int (7 : Int32)), (.ref a1), (.ref a1)])) _
    refine X8.ldc2Long hx hown (mvT hZ (hw _ (List.mem_of_getElem? (i := 12) rfl))) (g := (mkF m 48 #[.val (.int q0), .unset] [(.int (7 : Int32)), (.ref a1), (.ref a1)])) rfl (hb hby d1_48) _ ?_
    show Steps p.tables e below (T8.setTop (mkF m 51 #[.val (.int q0), .unset] [(.long (8031810176 : Int64)), (.int (7 : Int32)), (.ref a1), (.ref a1)])) _
    refine st9 _ ?_
    show Steps p.tables e below (T9.setTop (mkF m 52 #[.val (.int q0), .unset] [(.ref a1)])) _
    refine XS.dup X9.here hx rfl (hb hby d1_52) rfl rfl ?_
    show Steps p.tables e below (T9.setTop (mkF m 53 #[.val (.int q0), .unset] [(.ref a1), (.ref a1)])) _
    refine XS.bipush X9.here hx rfl (hb hby d1_53) ?_
    show Steps p.tables e below (T9.setTop (mkF m 55 #[.val (.int q0), .unset] [(.int (8 : Int32)), (.ref a1), (.ref a1)])) _
    refine X9.ldc2Long hx hown (mvT hZ (hw _ (List.mem_of_getElem? (i := 13) rfl))) (g := (mkF m 55 #[.val (.int q0), .unset] [(.int (8 : Int32)), (.ref a1), (.ref a1)])) rfl (hb hby d1_55) _ ?_
    show Steps p.tables e below (T9.setTop (mkF m 58 #[.val (.int q0), .unset] [(.long (208827064576 : Int64)), (.int (8 : Int32)), (.ref a1), (.ref a1)])) _
    refine st10 _ ?_
    show Steps p.tables e below (T10.setTop (mkF m 59 #[.val (.int q0), .unset] [(.ref a1)])) _
    refine XS.dup X10.here hx rfl (hb hby d1_59) rfl rfl ?_
    show Steps p.tables e below (T10.setTop (mkF m 60 #[.val (.int q0), .unset] [(.ref a1), (.ref a1)])) _
    refine XS.bipush X10.here hx rfl (hb hby d1_60) ?_
    show Steps p.tables e below (T10.setTop (mkF m 62 #[.val (.int q0), .unset] [(.int (9 : Int32)), (.ref a1), (.ref a1)])) _
    refine X10.ldc2Long hx hown (mvT hZ (hw _ (List.mem_of_getElem? (i := 14) rfl))) (g := (mkF m 62 #[.val (.int q0), .unset] [(.int (9 : Int32)), (.ref a1), (.ref a1)])) rfl (hb hby d1_62) _ ?_
    show Steps p.tables e below (T10.setTop (mkF m 65 #[.val (.int q0), .unset] [(.long (5429503678976 : Int64)), (.int (9 : Int32)), (.ref a1), (.ref a1)])) _
    refine st11 _ ?_
    show Steps p.tables e below (T11.setTop (mkF m 66 #[.val (.int q0), .unset] [(.ref a1)])) _
    refine XS.dup X11.here hx rfl (hb hby d1_66) rfl rfl ?_
    show Steps p.tables e below (T11.setTop (mkF m 67 #[.val (.int q0), .unset] [(.ref a1), (.ref a1)])) _
    refine XS.bipush X11.here hx rfl (hb hby d1_67) ?_
    show Steps p.tables e below (T11.setTop (mkF m 69 #[.val (.int q0), .unset] [(.int (10 : Int32)), (.ref a1), (.ref a1)])) _
    refine X11.ldc2Long hx hown (mvT hZ (hw _ (List.mem_of_getElem? (i := 15) rfl))) (g := (mkF m 69 #[.val (.int q0), .unset] [(.int (10 : Int32)), (.ref a1), (.ref a1)])) rfl (hb hby d1_69) _ ?_
    show Steps p.tables e below (T11.setTop (mkF m 72 #[.val (.int q0), .unset] [(.long (141167095653376 : Int64)), (.int (10 : Int32)), (.ref a1), (.ref a1)])) _
    refine st12 _ ?_
    show Steps p.tables e below (T12.setTop (mkF m 73 #[.val (.int q0), .unset] [(.ref a1)])) _
    refine XS.dup X12.here hx rfl (hb hby d1_73) rfl rfl ?_
    show Steps p.tables e below (T12.setTop (mkF m 74 #[.val (.int q0), .unset] [(.ref a1), (.ref a1)])) _
    refine XS.bipush X12.here hx rfl (hb hby d1_74) ?_
    show Steps p.tables e below (T12.setTop (mkF m 76 #[.val (.int q0), .unset] [(.int (11 : Int32)), (.ref a1), (.ref a1)])) _
    refine X12.ldc2Long hx hown (mvT hZ (hw _ (List.mem_of_getElem? (i := 16) rfl))) (g := (mkF m 76 #[.val (.int q0), .unset] [(.int (11 : Int32)), (.ref a1), (.ref a1)])) rfl (hb hby d1_76) _ ?_
    show Steps p.tables e below (T12.setTop (mkF m 79 #[.val (.int q0), .unset] [(.long (3670344486987776 : Int64)), (.int (11 : Int32)), (.ref a1), (.ref a1)])) _
    refine st13 _ ?_
    show Steps p.tables e below (T13.setTop (mkF m 80 #[.val (.int q0), .unset] [(.ref a1)])) _
    refine XS.dup X13.here hx rfl (hb hby d1_80) rfl rfl ?_
    show Steps p.tables e below (T13.setTop (mkF m 81 #[.val (.int q0), .unset] [(.ref a1), (.ref a1)])) _
    refine XS.bipush X13.here hx rfl (hb hby d1_81) ?_
    show Steps p.tables e below (T13.setTop (mkF m 83 #[.val (.int q0), .unset] [(.int (12 : Int32)), (.ref a1), (.ref a1)])) _
    refine X13.ldc2Long hx hown (mvT hZ (hw _ (List.mem_of_getElem? (i := 17) rfl))) (g := (mkF m 83 #[.val (.int q0), .unset] [(.int (12 : Int32)), (.ref a1), (.ref a1)])) rfl (hb hby d1_83) _ ?_
    show Steps p.tables e below (T13.setTop (mkF m 86 #[.val (.int q0), .unset] [(.long (95428956661682176 : Int64)), (.int (12 : Int32)), (.ref a1), (.ref a1)])) _
    refine st14 _ ?_
    show Steps p.tables e below (T14.setTop (mkF m 87 #[.val (.int q0), .unset] [(.ref a1)])) _
    refine XS.dup X14.here hx rfl (hb hby d1_87) rfl rfl ?_
    show Steps p.tables e below (T14.setTop (mkF m 88 #[.val (.int q0), .unset] [(.ref a1), (.ref a1)])) _
    refine XS.bipush X14.here hx rfl (hb hby d1_88) ?_
    show Steps p.tables e below (T14.setTop (mkF m 90 #[.val (.int q0), .unset] [(.int (13 : Int32)), (.ref a1), (.ref a1)])) _
    refine X14.ldc2Long hx hown (mvT hZ (hw _ (List.mem_of_getElem? (i := 18) rfl))) (g := (mkF m 90 #[.val (.int q0), .unset] [(.int (13 : Int32)), (.ref a1), (.ref a1)])) rfl (hb hby d1_90) _ ?_
    show Steps p.tables e below (T14.setTop (mkF m 93 #[.val (.int q0), .unset] [(.long (2481152873203736576 : Int64)), (.int (13 : Int32)), (.ref a1), (.ref a1)])) _
    refine st15 _ ?_
    show Steps p.tables e below (T15.setTop (mkF m 94 #[.val (.int q0), .unset] [(.ref a1)])) _
    refine XS.astoreN X15.here hx rfl (hb hby d1_94) rfl rfl (l' := #[.val (.int q0), .val (.ref a1)]) rfl ?_
    show Steps p.tables e below (T15.setTop (mkF m 95 #[.val (.int q0), .val (.ref a1)] [])) _
    refine XS.aloadN X15.here hx rfl (hb hby d1_95) rfl rfl ?_
    show Steps p.tables e below (T15.setTop (mkF m 96 #[.val (.int q0), .val (.ref a1)] [(.ref a1)])) _
    refine XS.iloadN X15.here hx rfl (hb hby d1_96) rfl ?_
    show Steps p.tables e below (T15.setTop (mkF m 97 #[.val (.int q0), .val (.ref a1)] [(.int q0), (.ref a1)])) _
    refine own_laload X15 hx hZ e15 V15_n in_97_16 (hb hby d1_97) _ ?_
    show Steps p.tables e below (T15.setTop (mkF m 98 #[.val (.int q0), .val (.ref a1)] [(.long (([(1 : Int64), (26 : Int64), (676 : Int64), (17576 : Int64), (456976 : Int64), (11881376 : Int64), (308915776 : Int64), (8031810176 : Int64), (208827064576 : Int64), (5429503678976 : Int64), (141167095653376 : Int64), (3670344486987776 : Int64), (95428956661682176 : Int64), (2481152873203736576 : Int64)] : List Int64).getD (q0).toInt.toNat 0))])) _
    exact X15.lreturnOut hx Bd.returns (hb hby d1_98) hr
  · show Q1 Z q0 h0 n0 _ T15.heap _
    rw [e15]
    exact ⟨by rfl, N15, K15⟩
theorem d2_0 : decode prog_150_method_13_code 0 = .ok (.iconst 1, 1) := by decide +kernel
theorem d2_1 : decode prog_150_method_13_code 1 = .ok (.istore_n 2, 1) := by decide +kernel
theorem d2_2 : decode prog_150_method_13_code 2 = .ok (.ldc2_w 143, 3) := by decide +kernel
theorem d2_5 : decode prog_150_method_13_code 5 = .ok (.lstore_n 3, 1) := by decide +kernel
theorem d2_6 : decode prog_150_method_13_code 6 = .ok (.lload_n 3, 1) := by decide +kernel
theorem d2_7 : decode prog_150_method_13_code 7 = .ok (.lload_n 0, 1) := by decide +kernel
theorem d2_8 : decode prog_150_method_13_code 8 = .ok (.lcmp, 1) := by decide +kernel
theorem d2_9 : decode prog_150_method_13_code 9 = .ok (.ifCond .ge 26, 3) := by decide +kernel
theorem d2_12 : decode prog_150_method_13_code 12 = .ok (.iinc 2 1, 3) := by decide +kernel
theorem d2_15 : decode prog_150_method_13_code 15 = .ok (.lload_n 3, 1) := by decide +kernel
theorem d2_16 : decode prog_150_method_13_code 16 = .ok (.ldc2_w 147, 3) := by decide +kernel
theorem d2_19 : decode prog_150_method_13_code 19 = .ok (.lcmp, 1) := by decide +kernel
theorem d2_20 : decode prog_150_method_13_code 20 = .ok (.ifCond .le 6, 3) := by decide +kernel
theorem d2_23 : decode prog_150_method_13_code 23 = .ok (.goto 12, 3) := by decide +kernel
theorem d2_26 : decode prog_150_method_13_code 26 = .ok (.lload_n 3, 1) := by decide +kernel
theorem d2_27 : decode prog_150_method_13_code 27 = .ok (.ldc2_w 143, 3) := by decide +kernel
theorem d2_30 : decode prog_150_method_13_code 30 = .ok (.lmul, 1) := by decide +kernel
theorem d2_31 : decode prog_150_method_13_code 31 = .ok (.lstore_n 3, 1) := by decide +kernel
theorem d2_32 : decode prog_150_method_13_code 32 = .ok (.goto (-26), 3) := by decide +kernel
theorem d2_35 : decode prog_150_method_13_code 35 = .ok (.iload_n 2, 1) := by decide +kernel
theorem d2_36 : decode prog_150_method_13_code 36 = .ok (.ireturn, 1) := by decide +kernel
theorem pn_3 : plainName "com/example/tributary/tributary/workload/Setting" = true := by first | (simp [plainName, overriddenIn]; done) | decide +kernel
theorem ef_2 (m : MethodId) (q0 : Int64) : entryFrame m #[(.long q0)] 5 = mkF m 0 #[.val (.long q0), .second, .unset, .unset, .unset] [] := by first | (simp [entryFrame, mkF, argsToLocals, Value.category, maxLocals]; done) | rfl
def own_f2 (q0 : Int64) : Int32 := (if (26 : Int64) < q0 then (if (676 : Int64) < q0 then (if (17576 : Int64) < q0 then (if (456976 : Int64) < q0 then (if (11881376 : Int64) < q0 then (if (308915776 : Int64) < q0 then (if (8031810176 : Int64) < q0 then (if (208827064576 : Int64) < q0 then (if (5429503678976 : Int64) < q0 then (if (141167095653376 : Int64) < q0 then (if (3670344486987776 : Int64) < q0 then (if (95428956661682176 : Int64) < q0 then (if (2481152873203736576 : Int64) < q0 then (14 : Int32) else (13 : Int32)) else (12 : Int32)) else (11 : Int32)) else (10 : Int32)) else (9 : Int32)) else (8 : Int32)) else (7 : Int32)) else (6 : Int32)) else (5 : Int32)) else (4 : Int32)) else (3 : Int32)) else (2 : Int32)) else (1 : Int32))
def Q2 (Z : State) (q0 : Int64)  (h0 : Heap) (n0 : Nat) (v : Option Value) (h : Heap) (L : List Loc) : Prop := v = some (.int (own_f2 q0)) ∧ Fr n0 L ∧ h = h0
set_option maxRecDepth 65536 in
set_option maxHeartbeats 40000000 in
theorem rm2 (l : Launch) (Z : State) (a0 : Array Value) (hw : ∀ d ∈ tables_1, d.before a0 Z = true) (ws : List Jvm.Cond) (q0 : Int64)  (h0 : Heap) (n0 : Nat) (Z0 : n0 ≤ h0.size)  :
    MetFree l (⟨"com/example/tributary/tributary/workload/Setting", "indexLetters", "(J)I"⟩ : MethodName) (head1 (Jvm.Cond.code (⟨"com/example/tributary/tributary/workload/Setting", "indexLetters", "(J)I"⟩ : MethodName) prog_150_method_13_code 5 (some .int) :: ws) ({ frames := 0, cells := 0, slots := 0, locals := 0 } : Room)) (fun a U => a = #[(.long q0)] ∧ Z.Warmed39 U.vm ∧ U.heap = h0) (fun _ _ _ _ _ => True) (fun _ U o U' => ∃ v L, o = .returned v ∧ Q2 Z q0 h0 n0 v U'.heap L ∧ FrameEnd U o U' L ({ frames := 0, cells := 0, slots := 0, locals := 0 } : Room).cells ({ frames := 0, cells := 0, slots := 0, locals := 0 } : Room).slots) := by
  refine MetFree.of_bodySF (plainFor_of_name pn_3) hisR ?_
  intro p e s m args below meth c s₁ Bd hml0 hP hK
  obtain ⟨rfl, hZ, hh⟩ := hP
  have hx := Bd.exec
  have hby := Bd.bytes
  have hml : c.maxLocals = 5 := hml0
  have hown : s.vm.findClass "com/example/tributary/tributary/workload/Setting" = some m.cls := findClass_of_methodNamed Bd.named
  have hnm := (name_of_methodNamed Bd.named Bd.method).1
  have X0 : Stand p l e ({ frames := 0, cells := 0, slots := 0, locals := 0 } : Room) s m #[(.long q0)] below meth c s₁ [] 0 0 := Stand.of_body Bd
  have hlk : meth.locks = false := by first | exact BodyLoose.notSynchronized (by assumption) | exact Body.notSynchronized (by assumption)
  have e0 : s₁.heap = h0 := by rw [← hh, Bd.state]; rfl
  have N0 := Fr.nil n0
  have pre0 : ∀ t, Steps p.tables e below (s₁.setTop (mkF m 0 #[.val (.long q0), .second, .unset, .unset, .unset] [])) t → Steps p.tables e below (s₁.setTop (entryFrame m #[(.long q0)] 5)) t := fun t k => castTop (ef_2 m q0) k
  have pre1 : ∀ t, Steps p.tables e below (s₁.setTop (mkF m 9 #[.val (.long q0), .second, .val (.int (1 : Int32)), .val (.long (26 : Int64)), .second] [(.int (lcmpW (26 : Int64) q0))])) t → Steps p.tables e below (s₁.setTop (entryFrame m #[(.long q0)] 5)) t := by
    intro t k
    refine pre0 t ?_
    show Steps p.tables e below (s₁.setTop (mkF m 0 #[.val (.long q0), .second, .unset, .unset, .unset] [])) _
    refine XS.iconst X0.here hx rfl (hb hby d2_0) ?_
    show Steps p.tables e below (s₁.setTop (mkF m 1 #[.val (.long q0), .second, .unset, .unset, .unset] [(.int (1 : Int32))])) _
    refine XS.istoreN X0.here hx rfl (hb hby d2_1) rfl (l' := #[.val (.long q0), .second, .val (.int (1 : Int32)), .unset, .unset]) rfl ?_
    show Steps p.tables e below (s₁.setTop (mkF m 2 #[.val (.long q0), .second, .val (.int (1 : Int32)), .unset, .unset] [])) _
    refine X0.ldc2Long hx hown (mvT hZ (hw _ (List.mem_of_getElem? (i := 23) rfl))) (g := (mkF m 2 #[.val (.long q0), .second, .val (.int (1 : Int32)), .unset, .unset] [])) rfl (hb hby d2_2) _ ?_
    show Steps p.tables e below (s₁.setTop (mkF m 5 #[.val (.long q0), .second, .val (.int (1 : Int32)), .unset, .unset] [(.long (26 : Int64))])) _
    refine XS.lstoreN X0.here hx rfl (hb hby d2_5) rfl (l' := #[.val (.long q0), .second, .val (.int (1 : Int32)), .val (.long (26 : Int64)), .second]) rfl ?_
    show Steps p.tables e below (s₁.setTop (mkF m 6 #[.val (.long q0), .second, .val (.int (1 : Int32)), .val (.long (26 : Int64)), .second] [])) _
    refine XS.lloadN X0.here hx rfl (hb hby d2_6) rfl ?_
    show Steps p.tables e below (s₁.setTop (mkF m 7 #[.val (.long q0), .second, .val (.int (1 : Int32)), .val (.long (26 : Int64)), .second] [(.long (26 : Int64))])) _
    refine XS.lloadN X0.here hx rfl (hb hby d2_7) rfl ?_
    show Steps p.tables e below (s₁.setTop (mkF m 8 #[.val (.long q0), .second, .val (.int (1 : Int32)), .val (.long (26 : Int64)), .second] [(.long q0), (.long (26 : Int64))])) _
    refine XS.lcmp X0.here hx rfl (hb hby d2_8) rfl ?_
    exact k
  by_cases c2 : (26 : Int64) < q0
  · have pre3 : ∀ t, Steps p.tables e below (s₁.setTop (mkF m 9 #[.val (.long q0), .second, .val (.int (2 : Int32)), .val (.long (676 : Int64)), .second] [(.int (lcmpW (676 : Int64) q0))])) t → Steps p.tables e below (s₁.setTop (entryFrame m #[(.long q0)] 5)) t := by
      intro t k
      refine pre1 t ?_
      show Steps p.tables e below (s₁.setTop (mkF m 9 #[.val (.long q0), .second, .val (.int (1 : Int32)), .val (.long (26 : Int64)), .second] [(.int (lcmpW (26 : Int64) q0))])) _
      refine XS.ifNo X0.here hx rfl (hb hby d2_9) rfl ((if0 _ _).trans (tlt ((lw_lt (26 : Int64) q0).mpr c2)).2.1) ?_
      show Steps p.tables e below (s₁.setTop (mkF m 12 #[.val (.long q0), .second, .val (.int (1 : Int32)), .val (.long (26 : Int64)), .second] [])) _
      refine XS.iinc X0.here hx rfl (hb hby d2_12) rfl (l' := #[.val (.long q0), .second, .val (.int (2 : Int32)), .val (.long (26 : Int64)), .second]) rfl ?_
      show Steps p.tables e below (s₁.setTop (mkF m 15 #[.val (.long q0), .second, .val (.int (2 : Int32)), .val (.long (26 : Int64)), .second] [])) _
      refine XS.lloadN X0.here hx rfl (hb hby d2_15) rfl ?_
      show Steps p.tables e below (s₁.setTop (mkF m 16 #[.val (.long q0), .second, .val (.int (2 : Int32)), .val (.long (26 : Int64)), .second] [(.long (26 : Int64))])) _
      refine X0.ldc2Long hx hown (mvT hZ (hw _ (List.mem_of_getElem? (i := 24) rfl))) (g := (mkF m 16 #[.val (.long q0), .second, .val (.int (2 : Int32)), .val (.long (26 : Int64)), .second] [(.long (26 : Int64))])) rfl (hb hby d2_16) _ ?_
      show Steps p.tables e below (s₁.setTop (mkF m 19 #[.val (.long q0), .second, .val (.int (2 : Int32)), .val (.long (26 : Int64)), .second] [(.long (354745078340568300 : Int64)), (.long (26 : Int64))])) _
      refine XS.lcmp X0.here hx rfl (hb hby d2_19) rfl ?_
      show Steps p.tables e below (s₁.setTop (mkF m 20 #[.val (.long q0), .second, .val (.int (2 : Int32)), .val (.long (26 : Int64)), .second] [(.int (lcmpW (26 : Int64) (354745078340568300 : Int64)))])) _
      refine XS.ifYes X0.here hx rfl (pc0 := 20) (pc' := 26) rfl (hb hby d2_20) rfl ((if0 _ _).trans (flt (mt (lw_gt (26 : Int64) (354745078340568300 : Int64)).mp (by decide))).2.2.2) (by decide) (by decide) ?_
      show Steps p.tables e below (s₁.setTop (mkF m 26 #[.val (.long q0), .second, .val (.int (2 : Int32)), .val (.long (26 : Int64)), .second] [])) _
      refine XS.lloadN X0.here hx rfl (hb hby d2_26) rfl ?_
      show Steps p.tables e below (s₁.setTop (mkF m 27 #[.val (.long q0), .second, .val (.int (2 : Int32)), .val (.long (26 : Int64)), .second] [(.long (26 : Int64))])) _
      refine X0.ldc2Long hx hown (mvT hZ (hw _ (List.mem_of_getElem? (i := 23) rfl))) (g := (mkF m 27 #[.val (.long q0), .second, .val (.int (2 : Int32)), .val (.long (26 : Int64)), .second] [(.long (26 : Int64))])) rfl (hb hby d2_27) _ ?_
      show Steps p.tables e below (s₁.setTop (mkF m 30 #[.val (.long q0), .second, .val (.int (2 : Int32)), .val (.long (26 : Int64)), .second] [(.long (26 : Int64)), (.long (26 : Int64))])) _
      refine XS.lmul X0.here hx rfl (hb hby d2_30) rfl ?_
      show Steps p.tables e below (s₁.setTop (mkF m 31 #[.val (.long q0), .second, .val (.int (2 : Int32)), .val (.long (26 : Int64)), .second] [(.long (676 : Int64))])) _
      refine XS.lstoreN X0.here hx rfl (hb hby d2_31) rfl (l' := #[.val (.long q0), .second, .val (.int (2 : Int32)), .val (.long (676 : Int64)), .second]) rfl ?_
      show Steps p.tables e below (s₁.setTop (mkF m 32 #[.val (.long q0), .second, .val (.int (2 : Int32)), .val (.long (676 : Int64)), .second] [])) _
      refine XS.goto X0.here hx rfl (pc0 := 32) (pc' := 6) rfl (hb hby d2_32) (by decide) (by decide) ?_
      show Steps p.tables e below (s₁.setTop (mkF m 6 #[.val (.long q0), .second, .val (.int (2 : Int32)), .val (.long (676 : Int64)), .second] [])) _
      refine XS.lloadN X0.here hx rfl (hb hby d2_6) rfl ?_
      show Steps p.tables e below (s₁.setTop (mkF m 7 #[.val (.long q0), .second, .val (.int (2 : Int32)), .val (.long (676 : Int64)), .second] [(.long (676 : Int64))])) _
      refine XS.lloadN X0.here hx rfl (hb hby d2_7) rfl ?_
      show Steps p.tables e below (s₁.setTop (mkF m 8 #[.val (.long q0), .second, .val (.int (2 : Int32)), .val (.long (676 : Int64)), .second] [(.long q0), (.long (676 : Int64))])) _
      refine XS.lcmp X0.here hx rfl (hb hby d2_8) rfl ?_
      exact k
    by_cases c4 : (676 : Int64) < q0
    · have pre5 : ∀ t, Steps p.tables e below (s₁.setTop (mkF m 9 #[.val (.long q0), .second, .val (.int (3 : Int32)), .val (.long (17576 : Int64)), .second] [(.int (lcmpW (17576 : Int64) q0))])) t → Steps p.tables e below (s₁.setTop (entryFrame m #[(.long q0)] 5)) t := by
        intro t k
        refine pre3 t ?_
        show Steps p.tables e below (s₁.setTop (mkF m 9 #[.val (.long q0), .second, .val (.int (2 : Int32)), .val (.long (676 : Int64)), .second] [(.int (lcmpW (676 : Int64) q0))])) _
        refine XS.ifNo X0.here hx rfl (hb hby d2_9) rfl ((if0 _ _).trans (tlt ((lw_lt (676 : Int64) q0).mpr c4)).2.1) ?_
        show Steps p.tables e below (s₁.setTop (mkF m 12 #[.val (.long q0), .second, .val (.int (2 : Int32)), .val (.long (676 : Int64)), .second] [])) _
        refine XS.iinc X0.here hx rfl (hb hby d2_12) rfl (l' := #[.val (.long q0), .second, .val (.int (3 : Int32)), .val (.long (676 : Int64)), .second]) rfl ?_
        show Steps p.tables e below (s₁.setTop (mkF m 15 #[.val (.long q0), .second, .val (.int (3 : Int32)), .val (.long (676 : Int64)), .second] [])) _
        refine XS.lloadN X0.here hx rfl (hb hby d2_15) rfl ?_
        show Steps p.tables e below (s₁.setTop (mkF m 16 #[.val (.long q0), .second, .val (.int (3 : Int32)), .val (.long (676 : Int64)), .second] [(.long (676 : Int64))])) _
        refine X0.ldc2Long hx hown (mvT hZ (hw _ (List.mem_of_getElem? (i := 24) rfl))) (g := (mkF m 16 #[.val (.long q0), .second, .val (.int (3 : Int32)), .val (.long (676 : Int64)), .second] [(.long (676 : Int64))])) rfl (hb hby d2_16) _ ?_
        show Steps p.tables e below (s₁.setTop (mkF m 19 #[.val (.long q0), .second, .val (.int (3 : Int32)), .val (.long (676 : Int64)), .second] [(.long (354745078340568300 : Int64)), (.long (676 : Int64))])) _
        refine XS.lcmp X0.here hx rfl (hb hby d2_19) rfl ?_
        show Steps p.tables e below (s₁.setTop (mkF m 20 #[.val (.long q0), .second, .val (.int (3 : Int32)), .val (.long (676 : Int64)), .second] [(.int (lcmpW (676 : Int64) (354745078340568300 : Int64)))])) _
        refine XS.ifYes X0.here hx rfl (pc0 := 20) (pc' := 26) rfl (hb hby d2_20) rfl ((if0 _ _).trans (flt (mt (lw_gt (676 : Int64) (354745078340568300 : Int64)).mp (by decide))).2.2.2) (by decide) (by decide) ?_
        show Steps p.tables e below (s₁.setTop (mkF m 26 #[.val (.long q0), .second, .val (.int (3 : Int32)), .val (.long (676 : Int64)), .second] [])) _
        refine XS.lloadN X0.here hx rfl (hb hby d2_26) rfl ?_
        show Steps p.tables e below (s₁.setTop (mkF m 27 #[.val (.long q0), .second, .val (.int (3 : Int32)), .val (.long (676 : Int64)), .second] [(.long (676 : Int64))])) _
        refine X0.ldc2Long hx hown (mvT hZ (hw _ (List.mem_of_getElem? (i := 23) rfl))) (g := (mkF m 27 #[.val (.long q0), .second, .val (.int (3 : Int32)), .val (.long (676 : Int64)), .second] [(.long (676 : Int64))])) rfl (hb hby d2_27) _ ?_
        show Steps p.tables e below (s₁.setTop (mkF m 30 #[.val (.long q0), .second, .val (.int (3 : Int32)), .val (.long (676 : Int64)), .second] [(.long (26 : Int64)), (.long (676 : Int64))])) _
        refine XS.lmul X0.here hx rfl (hb hby d2_30) rfl ?_
        show Steps p.tables e below (s₁.setTop (mkF m 31 #[.val (.long q0), .second, .val (.int (3 : Int32)), .val (.long (676 : Int64)), .second] [(.long (17576 : Int64))])) _
        refine XS.lstoreN X0.here hx rfl (hb hby d2_31) rfl (l' := #[.val (.long q0), .second, .val (.int (3 : Int32)), .val (.long (17576 : Int64)), .second]) rfl ?_
        show Steps p.tables e below (s₁.setTop (mkF m 32 #[.val (.long q0), .second, .val (.int (3 : Int32)), .val (.long (17576 : Int64)), .second] [])) _
        refine XS.goto X0.here hx rfl (pc0 := 32) (pc' := 6) rfl (hb hby d2_32) (by decide) (by decide) ?_
        show Steps p.tables e below (s₁.setTop (mkF m 6 #[.val (.long q0), .second, .val (.int (3 : Int32)), .val (.long (17576 : Int64)), .second] [])) _
        refine XS.lloadN X0.here hx rfl (hb hby d2_6) rfl ?_
        show Steps p.tables e below (s₁.setTop (mkF m 7 #[.val (.long q0), .second, .val (.int (3 : Int32)), .val (.long (17576 : Int64)), .second] [(.long (17576 : Int64))])) _
        refine XS.lloadN X0.here hx rfl (hb hby d2_7) rfl ?_
        show Steps p.tables e below (s₁.setTop (mkF m 8 #[.val (.long q0), .second, .val (.int (3 : Int32)), .val (.long (17576 : Int64)), .second] [(.long q0), (.long (17576 : Int64))])) _
        refine XS.lcmp X0.here hx rfl (hb hby d2_8) rfl ?_
        exact k
      by_cases c6 : (17576 : Int64) < q0
      · have pre7 : ∀ t, Steps p.tables e below (s₁.setTop (mkF m 9 #[.val (.long q0), .second, .val (.int (4 : Int32)), .val (.long (456976 : Int64)), .second] [(.int (lcmpW (456976 : Int64) q0))])) t → Steps p.tables e below (s₁.setTop (entryFrame m #[(.long q0)] 5)) t := by
          intro t k
          refine pre5 t ?_
          show Steps p.tables e below (s₁.setTop (mkF m 9 #[.val (.long q0), .second, .val (.int (3 : Int32)), .val (.long (17576 : Int64)), .second] [(.int (lcmpW (17576 : Int64) q0))])) _
          refine XS.ifNo X0.here hx rfl (hb hby d2_9) rfl ((if0 _ _).trans (tlt ((lw_lt (17576 : Int64) q0).mpr c6)).2.1) ?_
          show Steps p.tables e below (s₁.setTop (mkF m 12 #[.val (.long q0), .second, .val (.int (3 : Int32)), .val (.long (17576 : Int64)), .second] [])) _
          refine XS.iinc X0.here hx rfl (hb hby d2_12) rfl (l' := #[.val (.long q0), .second, .val (.int (4 : Int32)), .val (.long (17576 : Int64)), .second]) rfl ?_
          show Steps p.tables e below (s₁.setTop (mkF m 15 #[.val (.long q0), .second, .val (.int (4 : Int32)), .val (.long (17576 : Int64)), .second] [])) _
          refine XS.lloadN X0.here hx rfl (hb hby d2_15) rfl ?_
          show Steps p.tables e below (s₁.setTop (mkF m 16 #[.val (.long q0), .second, .val (.int (4 : Int32)), .val (.long (17576 : Int64)), .second] [(.long (17576 : Int64))])) _
          refine X0.ldc2Long hx hown (mvT hZ (hw _ (List.mem_of_getElem? (i := 24) rfl))) (g := (mkF m 16 #[.val (.long q0), .second, .val (.int (4 : Int32)), .val (.long (17576 : Int64)), .second] [(.long (17576 : Int64))])) rfl (hb hby d2_16) _ ?_
          show Steps p.tables e below (s₁.setTop (mkF m 19 #[.val (.long q0), .second, .val (.int (4 : Int32)), .val (.long (17576 : Int64)), .second] [(.long (354745078340568300 : Int64)), (.long (17576 : Int64))])) _
          refine XS.lcmp X0.here hx rfl (hb hby d2_19) rfl ?_
          show Steps p.tables e below (s₁.setTop (mkF m 20 #[.val (.long q0), .second, .val (.int (4 : Int32)), .val (.long (17576 : Int64)), .second] [(.int (lcmpW (17576 : Int64) (354745078340568300 : Int64)))])) _
          refine XS.ifYes X0.here hx rfl (pc0 := 20) (pc' := 26) rfl (hb hby d2_20) rfl ((if0 _ _).trans (flt (mt (lw_gt (17576 : Int64) (354745078340568300 : Int64)).mp (by decide))).2.2.2) (by decide) (by decide) ?_
          show Steps p.tables e below (s₁.setTop (mkF m 26 #[.val (.long q0), .second, .val (.int (4 : Int32)), .val (.long (17576 : Int64)), .second] [])) _
          refine XS.lloadN X0.here hx rfl (hb hby d2_26) rfl ?_
          show Steps p.tables e below (s₁.setTop (mkF m 27 #[.val (.long q0), .second, .val (.int (4 : Int32)), .val (.long (17576 : Int64)), .second] [(.long (17576 : Int64))])) _
          refine X0.ldc2Long hx hown (mvT hZ (hw _ (List.mem_of_getElem? (i := 23) rfl))) (g := (mkF m 27 #[.val (.long q0), .second, .val (.int (4 : Int32)), .val (.long (17576 : Int64)), .second] [(.long (17576 : Int64))])) rfl (hb hby d2_27) _ ?_
          show Steps p.tables e below (s₁.setTop (mkF m 30 #[.val (.long q0), .second, .val (.int (4 : Int32)), .val (.long (17576 : Int64)), .second] [(.long (26 : Int64)), (.long (17576 : Int64))])) _
          refine XS.lmul X0.here hx rfl (hb hby d2_30) rfl ?_
          show Steps p.tables e below (s₁.setTop (mkF m 31 #[.val (.long q0), .second, .val (.int (4 : Int32)), .val (.long (17576 : Int64)), .second] [(.long (456976 : Int64))])) _
          refine XS.lstoreN X0.here hx rfl (hb hby d2_31) rfl (l' := #[.val (.long q0), .second, .val (.int (4 : Int32)), .val (.long (456976 : Int64)), .second]) rfl ?_
          show Steps p.tables e below (s₁.setTop (mkF m 32 #[.val (.long q0), .second, .val (.int (4 : Int32)), .val (.long (456976 : Int64)), .second] [])) _
          refine XS.goto X0.here hx rfl (pc0 := 32) (pc' := 6) rfl (hb hby d2_32) (by decide) (by decide) ?_
          show Steps p.tables e below (s₁.setTop (mkF m 6 #[.val (.long q0), .second, .val (.int (4 : Int32)), .val (.long (456976 : Int64)), .second] [])) _
          refine XS.lloadN X0.here hx rfl (hb hby d2_6) rfl ?_
          show Steps p.tables e below (s₁.setTop (mkF m 7 #[.val (.long q0), .second, .val (.int (4 : Int32)), .val (.long (456976 : Int64)), .second] [(.long (456976 : Int64))])) _
          refine XS.lloadN X0.here hx rfl (hb hby d2_7) rfl ?_
          show Steps p.tables e below (s₁.setTop (mkF m 8 #[.val (.long q0), .second, .val (.int (4 : Int32)), .val (.long (456976 : Int64)), .second] [(.long q0), (.long (456976 : Int64))])) _
          refine XS.lcmp X0.here hx rfl (hb hby d2_8) rfl ?_
          exact k
        by_cases c8 : (456976 : Int64) < q0
        · have pre9 : ∀ t, Steps p.tables e below (s₁.setTop (mkF m 9 #[.val (.long q0), .second, .val (.int (5 : Int32)), .val (.long (11881376 : Int64)), .second] [(.int (lcmpW (11881376 : Int64) q0))])) t → Steps p.tables e below (s₁.setTop (entryFrame m #[(.long q0)] 5)) t := by
            intro t k
            refine pre7 t ?_
            show Steps p.tables e below (s₁.setTop (mkF m 9 #[.val (.long q0), .second, .val (.int (4 : Int32)), .val (.long (456976 : Int64)), .second] [(.int (lcmpW (456976 : Int64) q0))])) _
            refine XS.ifNo X0.here hx rfl (hb hby d2_9) rfl ((if0 _ _).trans (tlt ((lw_lt (456976 : Int64) q0).mpr c8)).2.1) ?_
            show Steps p.tables e below (s₁.setTop (mkF m 12 #[.val (.long q0), .second, .val (.int (4 : Int32)), .val (.long (456976 : Int64)), .second] [])) _
            refine XS.iinc X0.here hx rfl (hb hby d2_12) rfl (l' := #[.val (.long q0), .second, .val (.int (5 : Int32)), .val (.long (456976 : Int64)), .second]) rfl ?_
            show Steps p.tables e below (s₁.setTop (mkF m 15 #[.val (.long q0), .second, .val (.int (5 : Int32)), .val (.long (456976 : Int64)), .second] [])) _
            refine XS.lloadN X0.here hx rfl (hb hby d2_15) rfl ?_
            show Steps p.tables e below (s₁.setTop (mkF m 16 #[.val (.long q0), .second, .val (.int (5 : Int32)), .val (.long (456976 : Int64)), .second] [(.long (456976 : Int64))])) _
            refine X0.ldc2Long hx hown (mvT hZ (hw _ (List.mem_of_getElem? (i := 24) rfl))) (g := (mkF m 16 #[.val (.long q0), .second, .val (.int (5 : Int32)), .val (.long (456976 : Int64)), .second] [(.long (456976 : Int64))])) rfl (hb hby d2_16) _ ?_
            show Steps p.tables e below (s₁.setTop (mkF m 19 #[.val (.long q0), .second, .val (.int (5 : Int32)), .val (.long (456976 : Int64)), .second] [(.long (354745078340568300 : Int64)), (.long (456976 : Int64))])) _
            refine XS.lcmp X0.here hx rfl (hb hby d2_19) rfl ?_
            show Steps p.tables e below (s₁.setTop (mkF m 20 #[.val (.long q0), .second, .val (.int (5 : Int32)), .val (.long (456976 : Int64)), .second] [(.int (lcmpW (456976 : Int64) (354745078340568300 : Int64)))])) _
            refine XS.ifYes X0.here hx rfl (pc0 := 20) (pc' := 26) rfl (hb hby d2_20) rfl ((if0 _ _).trans (flt (mt (lw_gt (456976 : Int64) (354745078340568300 : Int64)).mp (by decide))).2.2.2) (by decide) (by decide) ?_
            show Steps p.tables e below (s₁.setTop (mkF m 26 #[.val (.long q0), .second, .val (.int (5 : Int32)), .val (.long (456976 : Int64)), .second] [])) _
            refine XS.lloadN X0.here hx rfl (hb hby d2_26) rfl ?_
            show Steps p.tables e below (s₁.setTop (mkF m 27 #[.val (.long q0), .second, .val (.int (5 : Int32)), .val (.long (456976 : Int64)), .second] [(.long (456976 : Int64))])) _
            refine X0.ldc2Long hx hown (mvT hZ (hw _ (List.mem_of_getElem? (i := 23) rfl))) (g := (mkF m 27 #[.val (.long q0), .second, .val (.int (5 : Int32)), .val (.long (456976 : Int64)), .second] [(.long (456976 : Int64))])) rfl (hb hby d2_27) _ ?_
            show Steps p.tables e below (s₁.setTop (mkF m 30 #[.val (.long q0), .second, .val (.int (5 : Int32)), .val (.long (456976 : Int64)), .second] [(.long (26 : Int64)), (.long (456976 : Int64))])) _
            refine XS.lmul X0.here hx rfl (hb hby d2_30) rfl ?_
            show Steps p.tables e below (s₁.setTop (mkF m 31 #[.val (.long q0), .second, .val (.int (5 : Int32)), .val (.long (456976 : Int64)), .second] [(.long (11881376 : Int64))])) _
            refine XS.lstoreN X0.here hx rfl (hb hby d2_31) rfl (l' := #[.val (.long q0), .second, .val (.int (5 : Int32)), .val (.long (11881376 : Int64)), .second]) rfl ?_
            show Steps p.tables e below (s₁.setTop (mkF m 32 #[.val (.long q0), .second, .val (.int (5 : Int32)), .val (.long (11881376 : Int64)), .second] [])) _
            refine XS.goto X0.here hx rfl (pc0 := 32) (pc' := 6) rfl (hb hby d2_32) (by decide) (by decide) ?_
            show Steps p.tables e below (s₁.setTop (mkF m 6 #[.val (.long q0), .second, .val (.int (5 : Int32)), .val (.long (11881376 : Int64)), .second] [])) _
            refine XS.lloadN X0.here hx rfl (hb hby d2_6) rfl ?_
            show Steps p.tables e below (s₁.setTop (mkF m 7 #[.val (.long q0), .second, .val (.int (5 : Int32)), .val (.long (11881376 : Int64)), .second] [(.long (11881376 : Int64))])) _
            refine XS.lloadN X0.here hx rfl (hb hby d2_7) rfl ?_
            show Steps p.tables e below (s₁.setTop (mkF m 8 #[.val (.long q0), .second, .val (.int (5 : Int32)), .val (.long (11881376 : Int64)), .second] [(.long q0), (.long (11881376 : Int64))])) _
            refine XS.lcmp X0.here hx rfl (hb hby d2_8) rfl ?_
            exact k
          by_cases c10 : (11881376 : Int64) < q0
          · have pre11 : ∀ t, Steps p.tables e below (s₁.setTop (mkF m 9 #[.val (.long q0), .second, .val (.int (6 : Int32)), .val (.long (308915776 : Int64)), .second] [(.int (lcmpW (308915776 : Int64) q0))])) t → Steps p.tables e below (s₁.setTop (entryFrame m #[(.long q0)] 5)) t := by
              intro t k
              refine pre9 t ?_
              show Steps p.tables e below (s₁.setTop (mkF m 9 #[.val (.long q0), .second, .val (.int (5 : Int32)), .val (.long (11881376 : Int64)), .second] [(.int (lcmpW (11881376 : Int64) q0))])) _
              refine XS.ifNo X0.here hx rfl (hb hby d2_9) rfl ((if0 _ _).trans (tlt ((lw_lt (11881376 : Int64) q0).mpr c10)).2.1) ?_
              show Steps p.tables e below (s₁.setTop (mkF m 12 #[.val (.long q0), .second, .val (.int (5 : Int32)), .val (.long (11881376 : Int64)), .second] [])) _
              refine XS.iinc X0.here hx rfl (hb hby d2_12) rfl (l' := #[.val (.long q0), .second, .val (.int (6 : Int32)), .val (.long (11881376 : Int64)), .second]) rfl ?_
              show Steps p.tables e below (s₁.setTop (mkF m 15 #[.val (.long q0), .second, .val (.int (6 : Int32)), .val (.long (11881376 : Int64)), .second] [])) _
              refine XS.lloadN X0.here hx rfl (hb hby d2_15) rfl ?_
              show Steps p.tables e below (s₁.setTop (mkF m 16 #[.val (.long q0), .second, .val (.int (6 : Int32)), .val (.long (11881376 : Int64)), .second] [(.long (11881376 : Int64))])) _
              refine X0.ldc2Long hx hown (mvT hZ (hw _ (List.mem_of_getElem? (i := 24) rfl))) (g := (mkF m 16 #[.val (.long q0), .second, .val (.int (6 : Int32)), .val (.long (11881376 : Int64)), .second] [(.long (11881376 : Int64))])) rfl (hb hby d2_16) _ ?_
              show Steps p.tables e below (s₁.setTop (mkF m 19 #[.val (.long q0), .second, .val (.int (6 : Int32)), .val (.long (11881376 : Int64)), .second] [(.long (354745078340568300 : Int64)), (.long (11881376 : Int64))])) _
              refine XS.lcmp X0.here hx rfl (hb hby d2_19) rfl ?_
              show Steps p.tables e below (s₁.setTop (mkF m 20 #[.val (.long q0), .second, .val (.int (6 : Int32)), .val (.long (11881376 : Int64)), .second] [(.int (lcmpW (11881376 : Int64) (354745078340568300 : Int64)))])) _
              refine XS.ifYes X0.here hx rfl (pc0 := 20) (pc' := 26) rfl (hb hby d2_20) rfl ((if0 _ _).trans (flt (mt (lw_gt (11881376 : Int64) (354745078340568300 : Int64)).mp (by decide))).2.2.2) (by decide) (by decide) ?_
              show Steps p.tables e below (s₁.setTop (mkF m 26 #[.val (.long q0), .second, .val (.int (6 : Int32)), .val (.long (11881376 : Int64)), .second] [])) _
              refine XS.lloadN X0.here hx rfl (hb hby d2_26) rfl ?_
              show Steps p.tables e below (s₁.setTop (mkF m 27 #[.val (.long q0), .second, .val (.int (6 : Int32)), .val (.long (11881376 : Int64)), .second] [(.long (11881376 : Int64))])) _
              refine X0.ldc2Long hx hown (mvT hZ (hw _ (List.mem_of_getElem? (i := 23) rfl))) (g := (mkF m 27 #[.val (.long q0), .second, .val (.int (6 : Int32)), .val (.long (11881376 : Int64)), .second] [(.long (11881376 : Int64))])) rfl (hb hby d2_27) _ ?_
              show Steps p.tables e below (s₁.setTop (mkF m 30 #[.val (.long q0), .second, .val (.int (6 : Int32)), .val (.long (11881376 : Int64)), .second] [(.long (26 : Int64)), (.long (11881376 : Int64))])) _
              refine XS.lmul X0.here hx rfl (hb hby d2_30) rfl ?_
              show Steps p.tables e below (s₁.setTop (mkF m 31 #[.val (.long q0), .second, .val (.int (6 : Int32)), .val (.long (11881376 : Int64)), .second] [(.long (308915776 : Int64))])) _
              refine XS.lstoreN X0.here hx rfl (hb hby d2_31) rfl (l' := #[.val (.long q0), .second, .val (.int (6 : Int32)), .val (.long (308915776 : Int64)), .second]) rfl ?_
              show Steps p.tables e below (s₁.setTop (mkF m 32 #[.val (.long q0), .second, .val (.int (6 : Int32)), .val (.long (308915776 : Int64)), .second] [])) _
              refine XS.goto X0.here hx rfl (pc0 := 32) (pc' := 6) rfl (hb hby d2_32) (by decide) (by decide) ?_
              show Steps p.tables e below (s₁.setTop (mkF m 6 #[.val (.long q0), .second, .val (.int (6 : Int32)), .val (.long (308915776 : Int64)), .second] [])) _
              refine XS.lloadN X0.here hx rfl (hb hby d2_6) rfl ?_
              show Steps p.tables e below (s₁.setTop (mkF m 7 #[.val (.long q0), .second, .val (.int (6 : Int32)), .val (.long (308915776 : Int64)), .second] [(.long (308915776 : Int64))])) _
              refine XS.lloadN X0.here hx rfl (hb hby d2_7) rfl ?_
              show Steps p.tables e below (s₁.setTop (mkF m 8 #[.val (.long q0), .second, .val (.int (6 : Int32)), .val (.long (308915776 : Int64)), .second] [(.long q0), (.long (308915776 : Int64))])) _
              refine XS.lcmp X0.here hx rfl (hb hby d2_8) rfl ?_
              exact k
            by_cases c12 : (308915776 : Int64) < q0
            · have pre13 : ∀ t, Steps p.tables e below (s₁.setTop (mkF m 9 #[.val (.long q0), .second, .val (.int (7 : Int32)), .val (.long (8031810176 : Int64)), .second] [(.int (lcmpW (8031810176 : Int64) q0))])) t → Steps p.tables e below (s₁.setTop (entryFrame m #[(.long q0)] 5)) t := by
                intro t k
                refine pre11 t ?_
                show Steps p.tables e below (s₁.setTop (mkF m 9 #[.val (.long q0), .second, .val (.int (6 : Int32)), .val (.long (308915776 : Int64)), .second] [(.int (lcmpW (308915776 : Int64) q0))])) _
                refine XS.ifNo X0.here hx rfl (hb hby d2_9) rfl ((if0 _ _).trans (tlt ((lw_lt (308915776 : Int64) q0).mpr c12)).2.1) ?_
                show Steps p.tables e below (s₁.setTop (mkF m 12 #[.val (.long q0), .second, .val (.int (6 : Int32)), .val (.long (308915776 : Int64)), .second] [])) _
                refine XS.iinc X0.here hx rfl (hb hby d2_12) rfl (l' := #[.val (.long q0), .second, .val (.int (7 : Int32)), .val (.long (308915776 : Int64)), .second]) rfl ?_
                show Steps p.tables e below (s₁.setTop (mkF m 15 #[.val (.long q0), .second, .val (.int (7 : Int32)), .val (.long (308915776 : Int64)), .second] [])) _
                refine XS.lloadN X0.here hx rfl (hb hby d2_15) rfl ?_
                show Steps p.tables e below (s₁.setTop (mkF m 16 #[.val (.long q0), .second, .val (.int (7 : Int32)), .val (.long (308915776 : Int64)), .second] [(.long (308915776 : Int64))])) _
                refine X0.ldc2Long hx hown (mvT hZ (hw _ (List.mem_of_getElem? (i := 24) rfl))) (g := (mkF m 16 #[.val (.long q0), .second, .val (.int (7 : Int32)), .val (.long (308915776 : Int64)), .second] [(.long (308915776 : Int64))])) rfl (hb hby d2_16) _ ?_
                show Steps p.tables e below (s₁.setTop (mkF m 19 #[.val (.long q0), .second, .val (.int (7 : Int32)), .val (.long (308915776 : Int64)), .second] [(.long (354745078340568300 : Int64)), (.long (308915776 : Int64))])) _
                refine XS.lcmp X0.here hx rfl (hb hby d2_19) rfl ?_
                show Steps p.tables e below (s₁.setTop (mkF m 20 #[.val (.long q0), .second, .val (.int (7 : Int32)), .val (.long (308915776 : Int64)), .second] [(.int (lcmpW (308915776 : Int64) (354745078340568300 : Int64)))])) _
                refine XS.ifYes X0.here hx rfl (pc0 := 20) (pc' := 26) rfl (hb hby d2_20) rfl ((if0 _ _).trans (flt (mt (lw_gt (308915776 : Int64) (354745078340568300 : Int64)).mp (by decide))).2.2.2) (by decide) (by decide) ?_
                show Steps p.tables e below (s₁.setTop (mkF m 26 #[.val (.long q0), .second, .val (.int (7 : Int32)), .val (.long (308915776 : Int64)), .second] [])) _
                refine XS.lloadN X0.here hx rfl (hb hby d2_26) rfl ?_
                show Steps p.tables e below (s₁.setTop (mkF m 27 #[.val (.long q0), .second, .val (.int (7 : Int32)), .val (.long (308915776 : Int64)), .second] [(.long (308915776 : Int64))])) _
                refine X0.ldc2Long hx hown (mvT hZ (hw _ (List.mem_of_getElem? (i := 23) rfl))) (g := (mkF m 27 #[.val (.long q0), .second, .val (.int (7 : Int32)), .val (.long (308915776 : Int64)), .second] [(.long (308915776 : Int64))])) rfl (hb hby d2_27) _ ?_
                show Steps p.tables e below (s₁.setTop (mkF m 30 #[.val (.long q0), .second, .val (.int (7 : Int32)), .val (.long (308915776 : Int64)), .second] [(.long (26 : Int64)), (.long (308915776 : Int64))])) _
                refine XS.lmul X0.here hx rfl (hb hby d2_30) rfl ?_
                show Steps p.tables e below (s₁.setTop (mkF m 31 #[.val (.long q0), .second, .val (.int (7 : Int32)), .val (.long (308915776 : Int64)), .second] [(.long (8031810176 : Int64))])) _
                refine XS.lstoreN X0.here hx rfl (hb hby d2_31) rfl (l' := #[.val (.long q0), .second, .val (.int (7 : Int32)), .val (.long (8031810176 : Int64)), .second]) rfl ?_
                show Steps p.tables e below (s₁.setTop (mkF m 32 #[.val (.long q0), .second, .val (.int (7 : Int32)), .val (.long (8031810176 : Int64)), .second] [])) _
                refine XS.goto X0.here hx rfl (pc0 := 32) (pc' := 6) rfl (hb hby d2_32) (by decide) (by decide) ?_
                show Steps p.tables e below (s₁.setTop (mkF m 6 #[.val (.long q0), .second, .val (.int (7 : Int32)), .val (.long (8031810176 : Int64)), .second] [])) _
                refine XS.lloadN X0.here hx rfl (hb hby d2_6) rfl ?_
                show Steps p.tables e below (s₁.setTop (mkF m 7 #[.val (.long q0), .second, .val (.int (7 : Int32)), .val (.long (8031810176 : Int64)), .second] [(.long (8031810176 : Int64))])) _
                refine XS.lloadN X0.here hx rfl (hb hby d2_7) rfl ?_
                show Steps p.tables e below (s₁.setTop (mkF m 8 #[.val (.long q0), .second, .val (.int (7 : Int32)), .val (.long (8031810176 : Int64)), .second] [(.long q0), (.long (8031810176 : Int64))])) _
                refine XS.lcmp X0.here hx rfl (hb hby d2_8) rfl ?_
                exact k
              by_cases c14 : (8031810176 : Int64) < q0
              · have pre15 : ∀ t, Steps p.tables e below (s₁.setTop (mkF m 9 #[.val (.long q0), .second, .val (.int (8 : Int32)), .val (.long (208827064576 : Int64)), .second] [(.int (lcmpW (208827064576 : Int64) q0))])) t → Steps p.tables e below (s₁.setTop (entryFrame m #[(.long q0)] 5)) t := by
                  intro t k
                  refine pre13 t ?_
                  show Steps p.tables e below (s₁.setTop (mkF m 9 #[.val (.long q0), .second, .val (.int (7 : Int32)), .val (.long (8031810176 : Int64)), .second] [(.int (lcmpW (8031810176 : Int64) q0))])) _
                  refine XS.ifNo X0.here hx rfl (hb hby d2_9) rfl ((if0 _ _).trans (tlt ((lw_lt (8031810176 : Int64) q0).mpr c14)).2.1) ?_
                  show Steps p.tables e below (s₁.setTop (mkF m 12 #[.val (.long q0), .second, .val (.int (7 : Int32)), .val (.long (8031810176 : Int64)), .second] [])) _
                  refine XS.iinc X0.here hx rfl (hb hby d2_12) rfl (l' := #[.val (.long q0), .second, .val (.int (8 : Int32)), .val (.long (8031810176 : Int64)), .second]) rfl ?_
                  show Steps p.tables e below (s₁.setTop (mkF m 15 #[.val (.long q0), .second, .val (.int (8 : Int32)), .val (.long (8031810176 : Int64)), .second] [])) _
                  refine XS.lloadN X0.here hx rfl (hb hby d2_15) rfl ?_
                  show Steps p.tables e below (s₁.setTop (mkF m 16 #[.val (.long q0), .second, .val (.int (8 : Int32)), .val (.long (8031810176 : Int64)), .second] [(.long (8031810176 : Int64))])) _
                  refine X0.ldc2Long hx hown (mvT hZ (hw _ (List.mem_of_getElem? (i := 24) rfl))) (g := (mkF m 16 #[.val (.long q0), .second, .val (.int (8 : Int32)), .val (.long (8031810176 : Int64)), .second] [(.long (8031810176 : Int64))])) rfl (hb hby d2_16) _ ?_
                  show Steps p.tables e below (s₁.setTop (mkF m 19 #[.val (.long q0), .second, .val (.int (8 : Int32)), .val (.long (8031810176 : Int64)), .second] [(.long (354745078340568300 : Int64)), (.long (8031810176 : Int64))])) _
                  refine XS.lcmp X0.here hx rfl (hb hby d2_19) rfl ?_
                  show Steps p.tables e below (s₁.setTop (mkF m 20 #[.val (.long q0), .second, .val (.int (8 : Int32)), .val (.long (8031810176 : Int64)), .second] [(.int (lcmpW (8031810176 : Int64) (354745078340568300 : Int64)))])) _
                  refine XS.ifYes X0.here hx rfl (pc0 := 20) (pc' := 26) rfl (hb hby d2_20) rfl ((if0 _ _).trans (flt (mt (lw_gt (8031810176 : Int64) (354745078340568300 : Int64)).mp (by decide))).2.2.2) (by decide) (by decide) ?_
                  show Steps p.tables e below (s₁.setTop (mkF m 26 #[.val (.long q0), .second, .val (.int (8 : Int32)), .val (.long (8031810176 : Int64)), .second] [])) _
                  refine XS.lloadN X0.here hx rfl (hb hby d2_26) rfl ?_
                  show Steps p.tables e below (s₁.setTop (mkF m 27 #[.val (.long q0), .second, .val (.int (8 : Int32)), .val (.long (8031810176 : Int64)), .second] [(.long (8031810176 : Int64))])) _
                  refine X0.ldc2Long hx hown (mvT hZ (hw _ (List.mem_of_getElem? (i := 23) rfl))) (g := (mkF m 27 #[.val (.long q0), .second, .val (.int (8 : Int32)), .val (.long (8031810176 : Int64)), .second] [(.long (8031810176 : Int64))])) rfl (hb hby d2_27) _ ?_
                  show Steps p.tables e below (s₁.setTop (mkF m 30 #[.val (.long q0), .second, .val (.int (8 : Int32)), .val (.long (8031810176 : Int64)), .second] [(.long (26 : Int64)), (.long (8031810176 : Int64))])) _
                  refine XS.lmul X0.here hx rfl (hb hby d2_30) rfl ?_
                  show Steps p.tables e below (s₁.setTop (mkF m 31 #[.val (.long q0), .second, .val (.int (8 : Int32)), .val (.long (8031810176 : Int64)), .second] [(.long (208827064576 : Int64))])) _
                  refine XS.lstoreN X0.here hx rfl (hb hby d2_31) rfl (l' := #[.val (.long q0), .second, .val (.int (8 : Int32)), .val (.long (208827064576 : Int64)), .second]) rfl ?_
                  show Steps p.tables e below (s₁.setTop (mkF m 32 #[.val (.long q0), .second, .val (.int (8 : Int32)), .val (.long (208827064576 : Int64)), .second] [])) _
                  refine XS.goto X0.here hx rfl (pc0 := 32) (pc' := 6) rfl (hb hby d2_32) (by decide) (by decide) ?_
                  show Steps p.tables e below (s₁.setTop (mkF m 6 #[.val (.long q0), .second, .val (.int (8 : Int32)), .val (.long (208827064576 : Int64)), .second] [])) _
                  refine XS.lloadN X0.here hx rfl (hb hby d2_6) rfl ?_
                  show Steps p.tables e below (s₁.setTop (mkF m 7 #[.val (.long q0), .second, .val (.int (8 : Int32)), .val (.long (208827064576 : Int64)), .second] [(.long (208827064576 : Int64))])) _
                  refine XS.lloadN X0.here hx rfl (hb hby d2_7) rfl ?_
                  show Steps p.tables e below (s₁.setTop (mkF m 8 #[.val (.long q0), .second, .val (.int (8 : Int32)), .val (.long (208827064576 : Int64)), .second] [(.long q0), (.long (208827064576 : Int64))])) _
                  refine XS.lcmp X0.here hx rfl (hb hby d2_8) rfl ?_
                  exact k
                by_cases c16 : (208827064576 : Int64) < q0
                · have pre17 : ∀ t, Steps p.tables e below (s₁.setTop (mkF m 9 #[.val (.long q0), .second, .val (.int (9 : Int32)), .val (.long (5429503678976 : Int64)), .second] [(.int (lcmpW (5429503678976 : Int64) q0))])) t → Steps p.tables e below (s₁.setTop (entryFrame m #[(.long q0)] 5)) t := by
                    intro t k
                    refine pre15 t ?_
                    show Steps p.tables e below (s₁.setTop (mkF m 9 #[.val (.long q0), .second, .val (.int (8 : Int32)), .val (.long (208827064576 : Int64)), .second] [(.int (lcmpW (208827064576 : Int64) q0))])) _
                    refine XS.ifNo X0.here hx rfl (hb hby d2_9) rfl ((if0 _ _).trans (tlt ((lw_lt (208827064576 : Int64) q0).mpr c16)).2.1) ?_
                    show Steps p.tables e below (s₁.setTop (mkF m 12 #[.val (.long q0), .second, .val (.int (8 : Int32)), .val (.long (208827064576 : Int64)), .second] [])) _
                    refine XS.iinc X0.here hx rfl (hb hby d2_12) rfl (l' := #[.val (.long q0), .second, .val (.int (9 : Int32)), .val (.long (208827064576 : Int64)), .second]) rfl ?_
                    show Steps p.tables e below (s₁.setTop (mkF m 15 #[.val (.long q0), .second, .val (.int (9 : Int32)), .val (.long (208827064576 : Int64)), .second] [])) _
                    refine XS.lloadN X0.here hx rfl (hb hby d2_15) rfl ?_
                    show Steps p.tables e below (s₁.setTop (mkF m 16 #[.val (.long q0), .second, .val (.int (9 : Int32)), .val (.long (208827064576 : Int64)), .second] [(.long (208827064576 : Int64))])) _
                    refine X0.ldc2Long hx hown (mvT hZ (hw _ (List.mem_of_getElem? (i := 24) rfl))) (g := (mkF m 16 #[.val (.long q0), .second, .val (.int (9 : Int32)), .val (.long (208827064576 : Int64)), .second] [(.long (208827064576 : Int64))])) rfl (hb hby d2_16) _ ?_
                    show Steps p.tables e below (s₁.setTop (mkF m 19 #[.val (.long q0), .second, .val (.int (9 : Int32)), .val (.long (208827064576 : Int64)), .second] [(.long (354745078340568300 : Int64)), (.long (208827064576 : Int64))])) _
                    refine XS.lcmp X0.here hx rfl (hb hby d2_19) rfl ?_
                    show Steps p.tables e below (s₁.setTop (mkF m 20 #[.val (.long q0), .second, .val (.int (9 : Int32)), .val (.long (208827064576 : Int64)), .second] [(.int (lcmpW (208827064576 : Int64) (354745078340568300 : Int64)))])) _
                    refine XS.ifYes X0.here hx rfl (pc0 := 20) (pc' := 26) rfl (hb hby d2_20) rfl ((if0 _ _).trans (flt (mt (lw_gt (208827064576 : Int64) (354745078340568300 : Int64)).mp (by decide))).2.2.2) (by decide) (by decide) ?_
                    show Steps p.tables e below (s₁.setTop (mkF m 26 #[.val (.long q0), .second, .val (.int (9 : Int32)), .val (.long (208827064576 : Int64)), .second] [])) _
                    refine XS.lloadN X0.here hx rfl (hb hby d2_26) rfl ?_
                    show Steps p.tables e below (s₁.setTop (mkF m 27 #[.val (.long q0), .second, .val (.int (9 : Int32)), .val (.long (208827064576 : Int64)), .second] [(.long (208827064576 : Int64))])) _
                    refine X0.ldc2Long hx hown (mvT hZ (hw _ (List.mem_of_getElem? (i := 23) rfl))) (g := (mkF m 27 #[.val (.long q0), .second, .val (.int (9 : Int32)), .val (.long (208827064576 : Int64)), .second] [(.long (208827064576 : Int64))])) rfl (hb hby d2_27) _ ?_
                    show Steps p.tables e below (s₁.setTop (mkF m 30 #[.val (.long q0), .second, .val (.int (9 : Int32)), .val (.long (208827064576 : Int64)), .second] [(.long (26 : Int64)), (.long (208827064576 : Int64))])) _
                    refine XS.lmul X0.here hx rfl (hb hby d2_30) rfl ?_
                    show Steps p.tables e below (s₁.setTop (mkF m 31 #[.val (.long q0), .second, .val (.int (9 : Int32)), .val (.long (208827064576 : Int64)), .second] [(.long (5429503678976 : Int64))])) _
                    refine XS.lstoreN X0.here hx rfl (hb hby d2_31) rfl (l' := #[.val (.long q0), .second, .val (.int (9 : Int32)), .val (.long (5429503678976 : Int64)), .second]) rfl ?_
                    show Steps p.tables e below (s₁.setTop (mkF m 32 #[.val (.long q0), .second, .val (.int (9 : Int32)), .val (.long (5429503678976 : Int64)), .second] [])) _
                    refine XS.goto X0.here hx rfl (pc0 := 32) (pc' := 6) rfl (hb hby d2_32) (by decide) (by decide) ?_
                    show Steps p.tables e below (s₁.setTop (mkF m 6 #[.val (.long q0), .second, .val (.int (9 : Int32)), .val (.long (5429503678976 : Int64)), .second] [])) _
                    refine XS.lloadN X0.here hx rfl (hb hby d2_6) rfl ?_
                    show Steps p.tables e below (s₁.setTop (mkF m 7 #[.val (.long q0), .second, .val (.int (9 : Int32)), .val (.long (5429503678976 : Int64)), .second] [(.long (5429503678976 : Int64))])) _
                    refine XS.lloadN X0.here hx rfl (hb hby d2_7) rfl ?_
                    show Steps p.tables e below (s₁.setTop (mkF m 8 #[.val (.long q0), .second, .val (.int (9 : Int32)), .val (.long (5429503678976 : Int64)), .second] [(.long q0), (.long (5429503678976 : Int64))])) _
                    refine XS.lcmp X0.here hx rfl (hb hby d2_8) rfl ?_
                    exact k
                  by_cases c18 : (5429503678976 : Int64) < q0
                  · have pre19 : ∀ t, Steps p.tables e below (s₁.setTop (mkF m 9 #[.val (.long q0), .second, .val (.int (10 : Int32)), .val (.long (141167095653376 : Int64)), .second] [(.int (lcmpW (141167095653376 : Int64) q0))])) t → Steps p.tables e below (s₁.setTop (entryFrame m #[(.long q0)] 5)) t := by
                      intro t k
                      refine pre17 t ?_
                      show Steps p.tables e below (s₁.setTop (mkF m 9 #[.val (.long q0), .second, .val (.int (9 : Int32)), .val (.long (5429503678976 : Int64)), .second] [(.int (lcmpW (5429503678976 : Int64) q0))])) _
                      refine XS.ifNo X0.here hx rfl (hb hby d2_9) rfl ((if0 _ _).trans (tlt ((lw_lt (5429503678976 : Int64) q0).mpr c18)).2.1) ?_
                      show Steps p.tables e below (s₁.setTop (mkF m 12 #[.val (.long q0), .second, .val (.int (9 : Int32)), .val (.long (5429503678976 : Int64)), .second] [])) _
                      refine XS.iinc X0.here hx rfl (hb hby d2_12) rfl (l' := #[.val (.long q0), .second, .val (.int (10 : Int32)), .val (.long (5429503678976 : Int64)), .second]) rfl ?_
                      show Steps p.tables e below (s₁.setTop (mkF m 15 #[.val (.long q0), .second, .val (.int (10 : Int32)), .val (.long (5429503678976 : Int64)), .second] [])) _
                      refine XS.lloadN X0.here hx rfl (hb hby d2_15) rfl ?_
                      show Steps p.tables e below (s₁.setTop (mkF m 16 #[.val (.long q0), .second, .val (.int (10 : Int32)), .val (.long (5429503678976 : Int64)), .second] [(.long (5429503678976 : Int64))])) _
                      refine X0.ldc2Long hx hown (mvT hZ (hw _ (List.mem_of_getElem? (i := 24) rfl))) (g := (mkF m 16 #[.val (.long q0), .second, .val (.int (10 : Int32)), .val (.long (5429503678976 : Int64)), .second] [(.long (5429503678976 : Int64))])) rfl (hb hby d2_16) _ ?_
                      show Steps p.tables e below (s₁.setTop (mkF m 19 #[.val (.long q0), .second, .val (.int (10 : Int32)), .val (.long (5429503678976 : Int64)), .second] [(.long (354745078340568300 : Int64)), (.long (5429503678976 : Int64))])) _
                      refine XS.lcmp X0.here hx rfl (hb hby d2_19) rfl ?_
                      show Steps p.tables e below (s₁.setTop (mkF m 20 #[.val (.long q0), .second, .val (.int (10 : Int32)), .val (.long (5429503678976 : Int64)), .second] [(.int (lcmpW (5429503678976 : Int64) (354745078340568300 : Int64)))])) _
                      refine XS.ifYes X0.here hx rfl (pc0 := 20) (pc' := 26) rfl (hb hby d2_20) rfl ((if0 _ _).trans (flt (mt (lw_gt (5429503678976 : Int64) (354745078340568300 : Int64)).mp (by decide))).2.2.2) (by decide) (by decide) ?_
                      show Steps p.tables e below (s₁.setTop (mkF m 26 #[.val (.long q0), .second, .val (.int (10 : Int32)), .val (.long (5429503678976 : Int64)), .second] [])) _
                      refine XS.lloadN X0.here hx rfl (hb hby d2_26) rfl ?_
                      show Steps p.tables e below (s₁.setTop (mkF m 27 #[.val (.long q0), .second, .val (.int (10 : Int32)), .val (.long (5429503678976 : Int64)), .second] [(.long (5429503678976 : Int64))])) _
                      refine X0.ldc2Long hx hown (mvT hZ (hw _ (List.mem_of_getElem? (i := 23) rfl))) (g := (mkF m 27 #[.val (.long q0), .second, .val (.int (10 : Int32)), .val (.long (5429503678976 : Int64)), .second] [(.long (5429503678976 : Int64))])) rfl (hb hby d2_27) _ ?_
                      show Steps p.tables e below (s₁.setTop (mkF m 30 #[.val (.long q0), .second, .val (.int (10 : Int32)), .val (.long (5429503678976 : Int64)), .second] [(.long (26 : Int64)), (.long (5429503678976 : Int64))])) _
                      refine XS.lmul X0.here hx rfl (hb hby d2_30) rfl ?_
                      show Steps p.tables e below (s₁.setTop (mkF m 31 #[.val (.long q0), .second, .val (.int (10 : Int32)), .val (.long (5429503678976 : Int64)), .second] [(.long (141167095653376 : Int64))])) _
                      refine XS.lstoreN X0.here hx rfl (hb hby d2_31) rfl (l' := #[.val (.long q0), .second, .val (.int (10 : Int32)), .val (.long (141167095653376 : Int64)), .second]) rfl ?_
                      show Steps p.tables e below (s₁.setTop (mkF m 32 #[.val (.long q0), .second, .val (.int (10 : Int32)), .val (.long (141167095653376 : Int64)), .second] [])) _
                      refine XS.goto X0.here hx rfl (pc0 := 32) (pc' := 6) rfl (hb hby d2_32) (by decide) (by decide) ?_
                      show Steps p.tables e below (s₁.setTop (mkF m 6 #[.val (.long q0), .second, .val (.int (10 : Int32)), .val (.long (141167095653376 : Int64)), .second] [])) _
                      refine XS.lloadN X0.here hx rfl (hb hby d2_6) rfl ?_
                      show Steps p.tables e below (s₁.setTop (mkF m 7 #[.val (.long q0), .second, .val (.int (10 : Int32)), .val (.long (141167095653376 : Int64)), .second] [(.long (141167095653376 : Int64))])) _
                      refine XS.lloadN X0.here hx rfl (hb hby d2_7) rfl ?_
                      show Steps p.tables e below (s₁.setTop (mkF m 8 #[.val (.long q0), .second, .val (.int (10 : Int32)), .val (.long (141167095653376 : Int64)), .second] [(.long q0), (.long (141167095653376 : Int64))])) _
                      refine XS.lcmp X0.here hx rfl (hb hby d2_8) rfl ?_
                      exact k
                    by_cases c20 : (141167095653376 : Int64) < q0
                    · have pre21 : ∀ t, Steps p.tables e below (s₁.setTop (mkF m 9 #[.val (.long q0), .second, .val (.int (11 : Int32)), .val (.long (3670344486987776 : Int64)), .second] [(.int (lcmpW (3670344486987776 : Int64) q0))])) t → Steps p.tables e below (s₁.setTop (entryFrame m #[(.long q0)] 5)) t := by
                        intro t k
                        refine pre19 t ?_
                        show Steps p.tables e below (s₁.setTop (mkF m 9 #[.val (.long q0), .second, .val (.int (10 : Int32)), .val (.long (141167095653376 : Int64)), .second] [(.int (lcmpW (141167095653376 : Int64) q0))])) _
                        refine XS.ifNo X0.here hx rfl (hb hby d2_9) rfl ((if0 _ _).trans (tlt ((lw_lt (141167095653376 : Int64) q0).mpr c20)).2.1) ?_
                        show Steps p.tables e below (s₁.setTop (mkF m 12 #[.val (.long q0), .second, .val (.int (10 : Int32)), .val (.long (141167095653376 : Int64)), .second] [])) _
                        refine XS.iinc X0.here hx rfl (hb hby d2_12) rfl (l' := #[.val (.long q0), .second, .val (.int (11 : Int32)), .val (.long (141167095653376 : Int64)), .second]) rfl ?_
                        show Steps p.tables e below (s₁.setTop (mkF m 15 #[.val (.long q0), .second, .val (.int (11 : Int32)), .val (.long (141167095653376 : Int64)), .second] [])) _
                        refine XS.lloadN X0.here hx rfl (hb hby d2_15) rfl ?_
                        show Steps p.tables e below (s₁.setTop (mkF m 16 #[.val (.long q0), .second, .val (.int (11 : Int32)), .val (.long (141167095653376 : Int64)), .second] [(.long (141167095653376 : Int64))])) _
                        refine X0.ldc2Long hx hown (mvT hZ (hw _ (List.mem_of_getElem? (i := 24) rfl))) (g := (mkF m 16 #[.val (.long q0), .second, .val (.int (11 : Int32)), .val (.long (141167095653376 : Int64)), .second] [(.long (141167095653376 : Int64))])) rfl (hb hby d2_16) _ ?_
                        show Steps p.tables e below (s₁.setTop (mkF m 19 #[.val (.long q0), .second, .val (.int (11 : Int32)), .val (.long (141167095653376 : Int64)), .second] [(.long (354745078340568300 : Int64)), (.long (141167095653376 : Int64))])) _
                        refine XS.lcmp X0.here hx rfl (hb hby d2_19) rfl ?_
                        show Steps p.tables e below (s₁.setTop (mkF m 20 #[.val (.long q0), .second, .val (.int (11 : Int32)), .val (.long (141167095653376 : Int64)), .second] [(.int (lcmpW (141167095653376 : Int64) (354745078340568300 : Int64)))])) _
                        refine XS.ifYes X0.here hx rfl (pc0 := 20) (pc' := 26) rfl (hb hby d2_20) rfl ((if0 _ _).trans (flt (mt (lw_gt (141167095653376 : Int64) (354745078340568300 : Int64)).mp (by decide))).2.2.2) (by decide) (by decide) ?_
                        show Steps p.tables e below (s₁.setTop (mkF m 26 #[.val (.long q0), .second, .val (.int (11 : Int32)), .val (.long (141167095653376 : Int64)), .second] [])) _
                        refine XS.lloadN X0.here hx rfl (hb hby d2_26) rfl ?_
                        show Steps p.tables e below (s₁.setTop (mkF m 27 #[.val (.long q0), .second, .val (.int (11 : Int32)), .val (.long (141167095653376 : Int64)), .second] [(.long (141167095653376 : Int64))])) _
                        refine X0.ldc2Long hx hown (mvT hZ (hw _ (List.mem_of_getElem? (i := 23) rfl))) (g := (mkF m 27 #[.val (.long q0), .second, .val (.int (11 : Int32)), .val (.long (141167095653376 : Int64)), .second] [(.long (141167095653376 : Int64))])) rfl (hb hby d2_27) _ ?_
                        show Steps p.tables e below (s₁.setTop (mkF m 30 #[.val (.long q0), .second, .val (.int (11 : Int32)), .val (.long (141167095653376 : Int64)), .second] [(.long (26 : Int64)), (.long (141167095653376 : Int64))])) _
                        refine XS.lmul X0.here hx rfl (hb hby d2_30) rfl ?_
                        show Steps p.tables e below (s₁.setTop (mkF m 31 #[.val (.long q0), .second, .val (.int (11 : Int32)), .val (.long (141167095653376 : Int64)), .second] [(.long (3670344486987776 : Int64))])) _
                        refine XS.lstoreN X0.here hx rfl (hb hby d2_31) rfl (l' := #[.val (.long q0), .second, .val (.int (11 : Int32)), .val (.long (3670344486987776 : Int64)), .second]) rfl ?_
                        show Steps p.tables e below (s₁.setTop (mkF m 32 #[.val (.long q0), .second, .val (.int (11 : Int32)), .val (.long (3670344486987776 : Int64)), .second] [])) _
                        refine XS.goto X0.here hx rfl (pc0 := 32) (pc' := 6) rfl (hb hby d2_32) (by decide) (by decide) ?_
                        show Steps p.tables e below (s₁.setTop (mkF m 6 #[.val (.long q0), .second, .val (.int (11 : Int32)), .val (.long (3670344486987776 : Int64)), .second] [])) _
                        refine XS.lloadN X0.here hx rfl (hb hby d2_6) rfl ?_
                        show Steps p.tables e below (s₁.setTop (mkF m 7 #[.val (.long q0), .second, .val (.int (11 : Int32)), .val (.long (3670344486987776 : Int64)), .second] [(.long (3670344486987776 : Int64))])) _
                        refine XS.lloadN X0.here hx rfl (hb hby d2_7) rfl ?_
                        show Steps p.tables e below (s₁.setTop (mkF m 8 #[.val (.long q0), .second, .val (.int (11 : Int32)), .val (.long (3670344486987776 : Int64)), .second] [(.long q0), (.long (3670344486987776 : Int64))])) _
                        refine XS.lcmp X0.here hx rfl (hb hby d2_8) rfl ?_
                        exact k
                      by_cases c22 : (3670344486987776 : Int64) < q0
                      · have pre23 : ∀ t, Steps p.tables e below (s₁.setTop (mkF m 9 #[.val (.long q0), .second, .val (.int (12 : Int32)), .val (.long (95428956661682176 : Int64)), .second] [(.int (lcmpW (95428956661682176 : Int64) q0))])) t → Steps p.tables e below (s₁.setTop (entryFrame m #[(.long q0)] 5)) t := by
                          intro t k
                          refine pre21 t ?_
                          show Steps p.tables e below (s₁.setTop (mkF m 9 #[.val (.long q0), .second, .val (.int (11 : Int32)), .val (.long (3670344486987776 : Int64)), .second] [(.int (lcmpW (3670344486987776 : Int64) q0))])) _
                          refine XS.ifNo X0.here hx rfl (hb hby d2_9) rfl ((if0 _ _).trans (tlt ((lw_lt (3670344486987776 : Int64) q0).mpr c22)).2.1) ?_
                          show Steps p.tables e below (s₁.setTop (mkF m 12 #[.val (.long q0), .second, .val (.int (11 : Int32)), .val (.long (3670344486987776 : Int64)), .second] [])) _
                          refine XS.iinc X0.here hx rfl (hb hby d2_12) rfl (l' := #[.val (.long q0), .second, .val (.int (12 : Int32)), .val (.long (3670344486987776 : Int64)), .second]) rfl ?_
                          show Steps p.tables e below (s₁.setTop (mkF m 15 #[.val (.long q0), .second, .val (.int (12 : Int32)), .val (.long (3670344486987776 : Int64)), .second] [])) _
                          refine XS.lloadN X0.here hx rfl (hb hby d2_15) rfl ?_
                          show Steps p.tables e below (s₁.setTop (mkF m 16 #[.val (.long q0), .second, .val (.int (12 : Int32)), .val (.long (3670344486987776 : Int64)), .second] [(.long (3670344486987776 : Int64))])) _
                          refine X0.ldc2Long hx hown (mvT hZ (hw _ (List.mem_of_getElem? (i := 24) rfl))) (g := (mkF m 16 #[.val (.long q0), .second, .val (.int (12 : Int32)), .val (.long (3670344486987776 : Int64)), .second] [(.long (3670344486987776 : Int64))])) rfl (hb hby d2_16) _ ?_
                          show Steps p.tables e below (s₁.setTop (mkF m 19 #[.val (.long q0), .second, .val (.int (12 : Int32)), .val (.long (3670344486987776 : Int64)), .second] [(.long (354745078340568300 : Int64)), (.long (3670344486987776 : Int64))])) _
                          refine XS.lcmp X0.here hx rfl (hb hby d2_19) rfl ?_
                          show Steps p.tables e below (s₁.setTop (mkF m 20 #[.val (.long q0), .second, .val (.int (12 : Int32)), .val (.long (3670344486987776 : Int64)), .second] [(.int (lcmpW (3670344486987776 : Int64) (354745078340568300 : Int64)))])) _
                          refine XS.ifYes X0.here hx rfl (pc0 := 20) (pc' := 26) rfl (hb hby d2_20) rfl ((if0 _ _).trans (flt (mt (lw_gt (3670344486987776 : Int64) (354745078340568300 : Int64)).mp (by decide))).2.2.2) (by decide) (by decide) ?_
                          show Steps p.tables e below (s₁.setTop (mkF m 26 #[.val (.long q0), .second, .val (.int (12 : Int32)), .val (.long (3670344486987776 : Int64)), .second] [])) _
                          refine XS.lloadN X0.here hx rfl (hb hby d2_26) rfl ?_
                          show Steps p.tables e below (s₁.setTop (mkF m 27 #[.val (.long q0), .second, .val (.int (12 : Int32)), .val (.long (3670344486987776 : Int64)), .second] [(.long (3670344486987776 : Int64))])) _
                          refine X0.ldc2Long hx hown (mvT hZ (hw _ (List.mem_of_getElem? (i := 23) rfl))) (g := (mkF m 27 #[.val (.long q0), .second, .val (.int (12 : Int32)), .val (.long (3670344486987776 : Int64)), .second] [(.long (3670344486987776 : Int64))])) rfl (hb hby d2_27) _ ?_
                          show Steps p.tables e below (s₁.setTop (mkF m 30 #[.val (.long q0), .second, .val (.int (12 : Int32)), .val (.long (3670344486987776 : Int64)), .second] [(.long (26 : Int64)), (.long (3670344486987776 : Int64))])) _
                          refine XS.lmul X0.here hx rfl (hb hby d2_30) rfl ?_
                          show Steps p.tables e below (s₁.setTop (mkF m 31 #[.val (.long q0), .second, .val (.int (12 : Int32)), .val (.long (3670344486987776 : Int64)), .second] [(.long (95428956661682176 : Int64))])) _
                          refine XS.lstoreN X0.here hx rfl (hb hby d2_31) rfl (l' := #[.val (.long q0), .second, .val (.int (12 : Int32)), .val (.long (95428956661682176 : Int64)), .second]) rfl ?_
                          show Steps p.tables e below (s₁.setTop (mkF m 32 #[.val (.long q0), .second, .val (.int (12 : Int32)), .val (.long (95428956661682176 : Int64)), .second] [])) _
                          refine XS.goto X0.here hx rfl (pc0 := 32) (pc' := 6) rfl (hb hby d2_32) (by decide) (by decide) ?_
                          show Steps p.tables e below (s₁.setTop (mkF m 6 #[.val (.long q0), .second, .val (.int (12 : Int32)), .val (.long (95428956661682176 : Int64)), .second] [])) _
                          refine XS.lloadN X0.here hx rfl (hb hby d2_6) rfl ?_
                          show Steps p.tables e below (s₁.setTop (mkF m 7 #[.val (.long q0), .second, .val (.int (12 : Int32)), .val (.long (95428956661682176 : Int64)), .second] [(.long (95428956661682176 : Int64))])) _
                          refine XS.lloadN X0.here hx rfl (hb hby d2_7) rfl ?_
                          show Steps p.tables e below (s₁.setTop (mkF m 8 #[.val (.long q0), .second, .val (.int (12 : Int32)), .val (.long (95428956661682176 : Int64)), .second] [(.long q0), (.long (95428956661682176 : Int64))])) _
                          refine XS.lcmp X0.here hx rfl (hb hby d2_8) rfl ?_
                          exact k
                        by_cases c24 : (95428956661682176 : Int64) < q0
                        · have pre25 : ∀ t, Steps p.tables e below (s₁.setTop (mkF m 9 #[.val (.long q0), .second, .val (.int (13 : Int32)), .val (.long (2481152873203736576 : Int64)), .second] [(.int (lcmpW (2481152873203736576 : Int64) q0))])) t → Steps p.tables e below (s₁.setTop (entryFrame m #[(.long q0)] 5)) t := by
                            intro t k
                            refine pre23 t ?_
                            show Steps p.tables e below (s₁.setTop (mkF m 9 #[.val (.long q0), .second, .val (.int (12 : Int32)), .val (.long (95428956661682176 : Int64)), .second] [(.int (lcmpW (95428956661682176 : Int64) q0))])) _
                            refine XS.ifNo X0.here hx rfl (hb hby d2_9) rfl ((if0 _ _).trans (tlt ((lw_lt (95428956661682176 : Int64) q0).mpr c24)).2.1) ?_
                            show Steps p.tables e below (s₁.setTop (mkF m 12 #[.val (.long q0), .second, .val (.int (12 : Int32)), .val (.long (95428956661682176 : Int64)), .second] [])) _
                            refine XS.iinc X0.here hx rfl (hb hby d2_12) rfl (l' := #[.val (.long q0), .second, .val (.int (13 : Int32)), .val (.long (95428956661682176 : Int64)), .second]) rfl ?_
                            show Steps p.tables e below (s₁.setTop (mkF m 15 #[.val (.long q0), .second, .val (.int (13 : Int32)), .val (.long (95428956661682176 : Int64)), .second] [])) _
                            refine XS.lloadN X0.here hx rfl (hb hby d2_15) rfl ?_
                            show Steps p.tables e below (s₁.setTop (mkF m 16 #[.val (.long q0), .second, .val (.int (13 : Int32)), .val (.long (95428956661682176 : Int64)), .second] [(.long (95428956661682176 : Int64))])) _
                            refine X0.ldc2Long hx hown (mvT hZ (hw _ (List.mem_of_getElem? (i := 24) rfl))) (g := (mkF m 16 #[.val (.long q0), .second, .val (.int (13 : Int32)), .val (.long (95428956661682176 : Int64)), .second] [(.long (95428956661682176 : Int64))])) rfl (hb hby d2_16) _ ?_
                            show Steps p.tables e below (s₁.setTop (mkF m 19 #[.val (.long q0), .second, .val (.int (13 : Int32)), .val (.long (95428956661682176 : Int64)), .second] [(.long (354745078340568300 : Int64)), (.long (95428956661682176 : Int64))])) _
                            refine XS.lcmp X0.here hx rfl (hb hby d2_19) rfl ?_
                            show Steps p.tables e below (s₁.setTop (mkF m 20 #[.val (.long q0), .second, .val (.int (13 : Int32)), .val (.long (95428956661682176 : Int64)), .second] [(.int (lcmpW (95428956661682176 : Int64) (354745078340568300 : Int64)))])) _
                            refine XS.ifYes X0.here hx rfl (pc0 := 20) (pc' := 26) rfl (hb hby d2_20) rfl ((if0 _ _).trans (flt (mt (lw_gt (95428956661682176 : Int64) (354745078340568300 : Int64)).mp (by decide))).2.2.2) (by decide) (by decide) ?_
                            show Steps p.tables e below (s₁.setTop (mkF m 26 #[.val (.long q0), .second, .val (.int (13 : Int32)), .val (.long (95428956661682176 : Int64)), .second] [])) _
                            refine XS.lloadN X0.here hx rfl (hb hby d2_26) rfl ?_
                            show Steps p.tables e below (s₁.setTop (mkF m 27 #[.val (.long q0), .second, .val (.int (13 : Int32)), .val (.long (95428956661682176 : Int64)), .second] [(.long (95428956661682176 : Int64))])) _
                            refine X0.ldc2Long hx hown (mvT hZ (hw _ (List.mem_of_getElem? (i := 23) rfl))) (g := (mkF m 27 #[.val (.long q0), .second, .val (.int (13 : Int32)), .val (.long (95428956661682176 : Int64)), .second] [(.long (95428956661682176 : Int64))])) rfl (hb hby d2_27) _ ?_
                            show Steps p.tables e below (s₁.setTop (mkF m 30 #[.val (.long q0), .second, .val (.int (13 : Int32)), .val (.long (95428956661682176 : Int64)), .second] [(.long (26 : Int64)), (.long (95428956661682176 : Int64))])) _
                            refine XS.lmul X0.here hx rfl (hb hby d2_30) rfl ?_
                            show Steps p.tables e below (s₁.setTop (mkF m 31 #[.val (.long q0), .second, .val (.int (13 : Int32)), .val (.long (95428956661682176 : Int64)), .second] [(.long (2481152873203736576 : Int64))])) _
                            refine XS.lstoreN X0.here hx rfl (hb hby d2_31) rfl (l' := #[.val (.long q0), .second, .val (.int (13 : Int32)), .val (.long (2481152873203736576 : Int64)), .second]) rfl ?_
                            show Steps p.tables e below (s₁.setTop (mkF m 32 #[.val (.long q0), .second, .val (.int (13 : Int32)), .val (.long (2481152873203736576 : Int64)), .second] [])) _
                            refine XS.goto X0.here hx rfl (pc0 := 32) (pc' := 6) rfl (hb hby d2_32) (by decide) (by decide) ?_
                            show Steps p.tables e below (s₁.setTop (mkF m 6 #[.val (.long q0), .second, .val (.int (13 : Int32)), .val (.long (2481152873203736576 : Int64)), .second] [])) _
                            refine XS.lloadN X0.here hx rfl (hb hby d2_6) rfl ?_
                            show Steps p.tables e below (s₁.setTop (mkF m 7 #[.val (.long q0), .second, .val (.int (13 : Int32)), .val (.long (2481152873203736576 : Int64)), .second] [(.long (2481152873203736576 : Int64))])) _
                            refine XS.lloadN X0.here hx rfl (hb hby d2_7) rfl ?_
                            show Steps p.tables e below (s₁.setTop (mkF m 8 #[.val (.long q0), .second, .val (.int (13 : Int32)), .val (.long (2481152873203736576 : Int64)), .second] [(.long q0), (.long (2481152873203736576 : Int64))])) _
                            refine XS.lcmp X0.here hx rfl (hb hby d2_8) rfl ?_
                            exact k
                          by_cases c26 : (2481152873203736576 : Int64) < q0
                          · obtain ⟨fs, hr, hrun, hended, hW, hsame⟩ := X0.leave (v := some (.int (14 : Int32))) (fun h => by rw [Bd.returns] at h; cases h) hlk
                            refine ⟨_, _, pre25 _ ?_, hrun, hended, _, _, rfl, ?_, ⟨_, rfl⟩, hW, hsame.mono (by decide) (by decide)⟩
                            · show Steps p.tables e below (s₁.setTop (mkF m 9 #[.val (.long q0), .second, .val (.int (13 : Int32)), .val (.long (2481152873203736576 : Int64)), .second] [(.int (lcmpW (2481152873203736576 : Int64) q0))])) _
                              refine XS.ifNo X0.here hx rfl (hb hby d2_9) rfl ((if0 _ _).trans (tlt ((lw_lt (2481152873203736576 : Int64) q0).mpr c26)).2.1) ?_
                              show Steps p.tables e below (s₁.setTop (mkF m 12 #[.val (.long q0), .second, .val (.int (13 : Int32)), .val (.long (2481152873203736576 : Int64)), .second] [])) _
                              refine XS.iinc X0.here hx rfl (hb hby d2_12) rfl (l' := #[.val (.long q0), .second, .val (.int (14 : Int32)), .val (.long (2481152873203736576 : Int64)), .second]) rfl ?_
                              show Steps p.tables e below (s₁.setTop (mkF m 15 #[.val (.long q0), .second, .val (.int (14 : Int32)), .val (.long (2481152873203736576 : Int64)), .second] [])) _
                              refine XS.lloadN X0.here hx rfl (hb hby d2_15) rfl ?_
                              show Steps p.tables e below (s₁.setTop (mkF m 16 #[.val (.long q0), .second, .val (.int (14 : Int32)), .val (.long (2481152873203736576 : Int64)), .second] [(.long (2481152873203736576 : Int64))])) _
                              refine X0.ldc2Long hx hown (mvT hZ (hw _ (List.mem_of_getElem? (i := 24) rfl))) (g := (mkF m 16 #[.val (.long q0), .second, .val (.int (14 : Int32)), .val (.long (2481152873203736576 : Int64)), .second] [(.long (2481152873203736576 : Int64))])) rfl (hb hby d2_16) _ ?_
                              show Steps p.tables e below (s₁.setTop (mkF m 19 #[.val (.long q0), .second, .val (.int (14 : Int32)), .val (.long (2481152873203736576 : Int64)), .second] [(.long (354745078340568300 : Int64)), (.long (2481152873203736576 : Int64))])) _
                              refine XS.lcmp X0.here hx rfl (hb hby d2_19) rfl ?_
                              show Steps p.tables e below (s₁.setTop (mkF m 20 #[.val (.long q0), .second, .val (.int (14 : Int32)), .val (.long (2481152873203736576 : Int64)), .second] [(.int (lcmpW (2481152873203736576 : Int64) (354745078340568300 : Int64)))])) _
                              refine XS.ifNo X0.here hx rfl (hb hby d2_20) rfl ((if0 _ _).trans (tlt ((lw_gt (2481152873203736576 : Int64) (354745078340568300 : Int64)).mpr (by decide))).2.2.2) ?_
                              show Steps p.tables e below (s₁.setTop (mkF m 23 #[.val (.long q0), .second, .val (.int (14 : Int32)), .val (.long (2481152873203736576 : Int64)), .second] [])) _
                              refine XS.goto X0.here hx rfl (pc0 := 23) (pc' := 35) rfl (hb hby d2_23) (by decide) (by decide) ?_
                              show Steps p.tables e below (s₁.setTop (mkF m 35 #[.val (.long q0), .second, .val (.int (14 : Int32)), .val (.long (2481152873203736576 : Int64)), .second] [])) _
                              refine XS.iloadN X0.here hx rfl (hb hby d2_35) rfl ?_
                              show Steps p.tables e below (s₁.setTop (mkF m 36 #[.val (.long q0), .second, .val (.int (14 : Int32)), .val (.long (2481152873203736576 : Int64)), .second] [(.int (14 : Int32))])) _
                              exact retI X0 hx Bd.returns (hb hby d2_36) hr
                            · show Q2 Z q0 h0 n0 _ s₁.heap _
                              rw [e0]
                              exact ⟨by simp only [own_f2, if_pos c2, if_pos c4, if_pos c6, if_pos c8, if_pos c10, if_pos c12, if_pos c14, if_pos c16, if_pos c18, if_pos c20, if_pos c22, if_pos c24, if_pos c26], N0, rfl⟩
                          · obtain ⟨fs, hr, hrun, hended, hW, hsame⟩ := X0.leave (v := some (.int (13 : Int32))) (fun h => by rw [Bd.returns] at h; cases h) hlk
                            refine ⟨_, _, pre25 _ ?_, hrun, hended, _, _, rfl, ?_, ⟨_, rfl⟩, hW, hsame.mono (by decide) (by decide)⟩
                            · show Steps p.tables e below (s₁.setTop (mkF m 9 #[.val (.long q0), .second, .val (.int (13 : Int32)), .val (.long (2481152873203736576 : Int64)), .second] [(.int (lcmpW (2481152873203736576 : Int64) q0))])) _
                              refine XS.ifYes X0.here hx rfl (pc0 := 9) (pc' := 35) rfl (hb hby d2_9) rfl ((if0 _ _).trans (flt (mt (lw_lt (2481152873203736576 : Int64) q0).mp c26)).2.1) (by decide) (by decide) ?_
                              show Steps p.tables e below (s₁.setTop (mkF m 35 #[.val (.long q0), .second, .val (.int (13 : Int32)), .val (.long (2481152873203736576 : Int64)), .second] [])) _
                              refine XS.iloadN X0.here hx rfl (hb hby d2_35) rfl ?_
                              show Steps p.tables e below (s₁.setTop (mkF m 36 #[.val (.long q0), .second, .val (.int (13 : Int32)), .val (.long (2481152873203736576 : Int64)), .second] [(.int (13 : Int32))])) _
                              exact retI X0 hx Bd.returns (hb hby d2_36) hr
                            · show Q2 Z q0 h0 n0 _ s₁.heap _
                              rw [e0]
                              exact ⟨by simp only [own_f2, if_pos c2, if_pos c4, if_pos c6, if_pos c8, if_pos c10, if_pos c12, if_pos c14, if_pos c16, if_pos c18, if_pos c20, if_pos c22, if_pos c24, if_neg c26], N0, rfl⟩
                        · obtain ⟨fs, hr, hrun, hended, hW, hsame⟩ := X0.leave (v := some (.int (12 : Int32))) (fun h => by rw [Bd.returns] at h; cases h) hlk
                          refine ⟨_, _, pre23 _ ?_, hrun, hended, _, _, rfl, ?_, ⟨_, rfl⟩, hW, hsame.mono (by decide) (by decide)⟩
                          · show Steps p.tables e below (s₁.setTop (mkF m 9 #[.val (.long q0), .second, .val (.int (12 : Int32)), .val (.long (95428956661682176 : Int64)), .second] [(.int (lcmpW (95428956661682176 : Int64) q0))])) _
                            refine XS.ifYes X0.here hx rfl (pc0 := 9) (pc' := 35) rfl (hb hby d2_9) rfl ((if0 _ _).trans (flt (mt (lw_lt (95428956661682176 : Int64) q0).mp c24)).2.1) (by decide) (by decide) ?_
                            show Steps p.tables e below (s₁.setTop (mkF m 35 #[.val (.long q0), .second, .val (.int (12 : Int32)), .val (.long (95428956661682176 : Int64)), .second] [])) _
                            refine XS.iloadN X0.here hx rfl (hb hby d2_35) rfl ?_
                            show Steps p.tables e below (s₁.setTop (mkF m 36 #[.val (.long q0), .second, .val (.int (12 : Int32)), .val (.long (95428956661682176 : Int64)), .second] [(.int (12 : Int32))])) _
                            exact retI X0 hx Bd.returns (hb hby d2_36) hr
                          · show Q2 Z q0 h0 n0 _ s₁.heap _
                            rw [e0]
                            exact ⟨by simp only [own_f2, if_pos c2, if_pos c4, if_pos c6, if_pos c8, if_pos c10, if_pos c12, if_pos c14, if_pos c16, if_pos c18, if_pos c20, if_pos c22, if_neg c24], N0, rfl⟩
                      · obtain ⟨fs, hr, hrun, hended, hW, hsame⟩ := X0.leave (v := some (.int (11 : Int32))) (fun h => by rw [Bd.returns] at h; cases h) hlk
                        refine ⟨_, _, pre21 _ ?_, hrun, hended, _, _, rfl, ?_, ⟨_, rfl⟩, hW, hsame.mono (by decide) (by decide)⟩
                        · show Steps p.tables e below (s₁.setTop (mkF m 9 #[.val (.long q0), .second, .val (.int (11 : Int32)), .val (.long (3670344486987776 : Int64)), .second] [(.int (lcmpW (3670344486987776 : Int64) q0))])) _
                          refine XS.ifYes X0.here hx rfl (pc0 := 9) (pc' := 35) rfl (hb hby d2_9) rfl ((if0 _ _).trans (flt (mt (lw_lt (3670344486987776 : Int64) q0).mp c22)).2.1) (by decide) (by decide) ?_
                          show Steps p.tables e below (s₁.setTop (mkF m 35 #[.val (.long q0), .second, .val (.int (11 : Int32)), .val (.long (3670344486987776 : Int64)), .second] [])) _
                          refine XS.iloadN X0.here hx rfl (hb hby d2_35) rfl ?_
                          show Steps p.tables e below (s₁.setTop (mkF m 36 #[.val (.long q0), .second, .val (.int (11 : Int32)), .val (.long (3670344486987776 : Int64)), .second] [(.int (11 : Int32))])) _
                          exact retI X0 hx Bd.returns (hb hby d2_36) hr
                        · show Q2 Z q0 h0 n0 _ s₁.heap _
                          rw [e0]
                          exact ⟨by simp only [own_f2, if_pos c2, if_pos c4, if_pos c6, if_pos c8, if_pos c10, if_pos c12, if_pos c14, if_pos c16, if_pos c18, if_pos c20, if_neg c22], N0, rfl⟩
                    · obtain ⟨fs, hr, hrun, hended, hW, hsame⟩ := X0.leave (v := some (.int (10 : Int32))) (fun h => by rw [Bd.returns] at h; cases h) hlk
                      refine ⟨_, _, pre19 _ ?_, hrun, hended, _, _, rfl, ?_, ⟨_, rfl⟩, hW, hsame.mono (by decide) (by decide)⟩
                      · show Steps p.tables e below (s₁.setTop (mkF m 9 #[.val (.long q0), .second, .val (.int (10 : Int32)), .val (.long (141167095653376 : Int64)), .second] [(.int (lcmpW (141167095653376 : Int64) q0))])) _
                        refine XS.ifYes X0.here hx rfl (pc0 := 9) (pc' := 35) rfl (hb hby d2_9) rfl ((if0 _ _).trans (flt (mt (lw_lt (141167095653376 : Int64) q0).mp c20)).2.1) (by decide) (by decide) ?_
                        show Steps p.tables e below (s₁.setTop (mkF m 35 #[.val (.long q0), .second, .val (.int (10 : Int32)), .val (.long (141167095653376 : Int64)), .second] [])) _
                        refine XS.iloadN X0.here hx rfl (hb hby d2_35) rfl ?_
                        show Steps p.tables e below (s₁.setTop (mkF m 36 #[.val (.long q0), .second, .val (.int (10 : Int32)), .val (.long (141167095653376 : Int64)), .second] [(.int (10 : Int32))])) _
                        exact retI X0 hx Bd.returns (hb hby d2_36) hr
                      · show Q2 Z q0 h0 n0 _ s₁.heap _
                        rw [e0]
                        exact ⟨by simp only [own_f2, if_pos c2, if_pos c4, if_pos c6, if_pos c8, if_pos c10, if_pos c12, if_pos c14, if_pos c16, if_pos c18, if_neg c20], N0, rfl⟩
                  · obtain ⟨fs, hr, hrun, hended, hW, hsame⟩ := X0.leave (v := some (.int (9 : Int32))) (fun h => by rw [Bd.returns] at h; cases h) hlk
                    refine ⟨_, _, pre17 _ ?_, hrun, hended, _, _, rfl, ?_, ⟨_, rfl⟩, hW, hsame.mono (by decide) (by decide)⟩
                    · show Steps p.tables e below (s₁.setTop (mkF m 9 #[.val (.long q0), .second, .val (.int (9 : Int32)), .val (.long (5429503678976 : Int64)), .second] [(.int (lcmpW (5429503678976 : Int64) q0))])) _
                      refine XS.ifYes X0.here hx rfl (pc0 := 9) (pc' := 35) rfl (hb hby d2_9) rfl ((if0 _ _).trans (flt (mt (lw_lt (5429503678976 : Int64) q0).mp c18)).2.1) (by decide) (by decide) ?_
                      show Steps p.tables e below (s₁.setTop (mkF m 35 #[.val (.long q0), .second, .val (.int (9 : Int32)), .val (.long (5429503678976 : Int64)), .second] [])) _
                      refine XS.iloadN X0.here hx rfl (hb hby d2_35) rfl ?_
                      show Steps p.tables e below (s₁.setTop (mkF m 36 #[.val (.long q0), .second, .val (.int (9 : Int32)), .val (.long (5429503678976 : Int64)), .second] [(.int (9 : Int32))])) _
                      exact retI X0 hx Bd.returns (hb hby d2_36) hr
                    · show Q2 Z q0 h0 n0 _ s₁.heap _
                      rw [e0]
                      exact ⟨by simp only [own_f2, if_pos c2, if_pos c4, if_pos c6, if_pos c8, if_pos c10, if_pos c12, if_pos c14, if_pos c16, if_neg c18], N0, rfl⟩
                · obtain ⟨fs, hr, hrun, hended, hW, hsame⟩ := X0.leave (v := some (.int (8 : Int32))) (fun h => by rw [Bd.returns] at h; cases h) hlk
                  refine ⟨_, _, pre15 _ ?_, hrun, hended, _, _, rfl, ?_, ⟨_, rfl⟩, hW, hsame.mono (by decide) (by decide)⟩
                  · show Steps p.tables e below (s₁.setTop (mkF m 9 #[.val (.long q0), .second, .val (.int (8 : Int32)), .val (.long (208827064576 : Int64)), .second] [(.int (lcmpW (208827064576 : Int64) q0))])) _
                    refine XS.ifYes X0.here hx rfl (pc0 := 9) (pc' := 35) rfl (hb hby d2_9) rfl ((if0 _ _).trans (flt (mt (lw_lt (208827064576 : Int64) q0).mp c16)).2.1) (by decide) (by decide) ?_
                    show Steps p.tables e below (s₁.setTop (mkF m 35 #[.val (.long q0), .second, .val (.int (8 : Int32)), .val (.long (208827064576 : Int64)), .second] [])) _
                    refine XS.iloadN X0.here hx rfl (hb hby d2_35) rfl ?_
                    show Steps p.tables e below (s₁.setTop (mkF m 36 #[.val (.long q0), .second, .val (.int (8 : Int32)), .val (.long (208827064576 : Int64)), .second] [(.int (8 : Int32))])) _
                    exact retI X0 hx Bd.returns (hb hby d2_36) hr
                  · show Q2 Z q0 h0 n0 _ s₁.heap _
                    rw [e0]
                    exact ⟨by simp only [own_f2, if_pos c2, if_pos c4, if_pos c6, if_pos c8, if_pos c10, if_pos c12, if_pos c14, if_neg c16], N0, rfl⟩
              · obtain ⟨fs, hr, hrun, hended, hW, hsame⟩ := X0.leave (v := some (.int (7 : Int32))) (fun h => by rw [Bd.returns] at h; cases h) hlk
                refine ⟨_, _, pre13 _ ?_, hrun, hended, _, _, rfl, ?_, ⟨_, rfl⟩, hW, hsame.mono (by decide) (by decide)⟩
                · show Steps p.tables e below (s₁.setTop (mkF m 9 #[.val (.long q0), .second, .val (.int (7 : Int32)), .val (.long (8031810176 : Int64)), .second] [(.int (lcmpW (8031810176 : Int64) q0))])) _
                  refine XS.ifYes X0.here hx rfl (pc0 := 9) (pc' := 35) rfl (hb hby d2_9) rfl ((if0 _ _).trans (flt (mt (lw_lt (8031810176 : Int64) q0).mp c14)).2.1) (by decide) (by decide) ?_
                  show Steps p.tables e below (s₁.setTop (mkF m 35 #[.val (.long q0), .second, .val (.int (7 : Int32)), .val (.long (8031810176 : Int64)), .second] [])) _
                  refine XS.iloadN X0.here hx rfl (hb hby d2_35) rfl ?_
                  show Steps p.tables e below (s₁.setTop (mkF m 36 #[.val (.long q0), .second, .val (.int (7 : Int32)), .val (.long (8031810176 : Int64)), .second] [(.int (7 : Int32))])) _
                  exact retI X0 hx Bd.returns (hb hby d2_36) hr
                · show Q2 Z q0 h0 n0 _ s₁.heap _
                  rw [e0]
                  exact ⟨by simp only [own_f2, if_pos c2, if_pos c4, if_pos c6, if_pos c8, if_pos c10, if_pos c12, if_neg c14], N0, rfl⟩
            · obtain ⟨fs, hr, hrun, hended, hW, hsame⟩ := X0.leave (v := some (.int (6 : Int32))) (fun h => by rw [Bd.returns] at h; cases h) hlk
              refine ⟨_, _, pre11 _ ?_, hrun, hended, _, _, rfl, ?_, ⟨_, rfl⟩, hW, hsame.mono (by decide) (by decide)⟩
              · show Steps p.tables e below (s₁.setTop (mkF m 9 #[.val (.long q0), .second, .val (.int (6 : Int32)), .val (.long (308915776 : Int64)), .second] [(.int (lcmpW (308915776 : Int64) q0))])) _
                refine XS.ifYes X0.here hx rfl (pc0 := 9) (pc' := 35) rfl (hb hby d2_9) rfl ((if0 _ _).trans (flt (mt (lw_lt (308915776 : Int64) q0).mp c12)).2.1) (by decide) (by decide) ?_
                show Steps p.tables e below (s₁.setTop (mkF m 35 #[.val (.long q0), .second, .val (.int (6 : Int32)), .val (.long (308915776 : Int64)), .second] [])) _
                refine XS.iloadN X0.here hx rfl (hb hby d2_35) rfl ?_
                show Steps p.tables e below (s₁.setTop (mkF m 36 #[.val (.long q0), .second, .val (.int (6 : Int32)), .val (.long (308915776 : Int64)), .second] [(.int (6 : Int32))])) _
                exact retI X0 hx Bd.returns (hb hby d2_36) hr
              · show Q2 Z q0 h0 n0 _ s₁.heap _
                rw [e0]
                exact ⟨by simp only [own_f2, if_pos c2, if_pos c4, if_pos c6, if_pos c8, if_pos c10, if_neg c12], N0, rfl⟩
          · obtain ⟨fs, hr, hrun, hended, hW, hsame⟩ := X0.leave (v := some (.int (5 : Int32))) (fun h => by rw [Bd.returns] at h; cases h) hlk
            refine ⟨_, _, pre9 _ ?_, hrun, hended, _, _, rfl, ?_, ⟨_, rfl⟩, hW, hsame.mono (by decide) (by decide)⟩
            · show Steps p.tables e below (s₁.setTop (mkF m 9 #[.val (.long q0), .second, .val (.int (5 : Int32)), .val (.long (11881376 : Int64)), .second] [(.int (lcmpW (11881376 : Int64) q0))])) _
              refine XS.ifYes X0.here hx rfl (pc0 := 9) (pc' := 35) rfl (hb hby d2_9) rfl ((if0 _ _).trans (flt (mt (lw_lt (11881376 : Int64) q0).mp c10)).2.1) (by decide) (by decide) ?_
              show Steps p.tables e below (s₁.setTop (mkF m 35 #[.val (.long q0), .second, .val (.int (5 : Int32)), .val (.long (11881376 : Int64)), .second] [])) _
              refine XS.iloadN X0.here hx rfl (hb hby d2_35) rfl ?_
              show Steps p.tables e below (s₁.setTop (mkF m 36 #[.val (.long q0), .second, .val (.int (5 : Int32)), .val (.long (11881376 : Int64)), .second] [(.int (5 : Int32))])) _
              exact retI X0 hx Bd.returns (hb hby d2_36) hr
            · show Q2 Z q0 h0 n0 _ s₁.heap _
              rw [e0]
              exact ⟨by simp only [own_f2, if_pos c2, if_pos c4, if_pos c6, if_pos c8, if_neg c10], N0, rfl⟩
        · obtain ⟨fs, hr, hrun, hended, hW, hsame⟩ := X0.leave (v := some (.int (4 : Int32))) (fun h => by rw [Bd.returns] at h; cases h) hlk
          refine ⟨_, _, pre7 _ ?_, hrun, hended, _, _, rfl, ?_, ⟨_, rfl⟩, hW, hsame.mono (by decide) (by decide)⟩
          · show Steps p.tables e below (s₁.setTop (mkF m 9 #[.val (.long q0), .second, .val (.int (4 : Int32)), .val (.long (456976 : Int64)), .second] [(.int (lcmpW (456976 : Int64) q0))])) _
            refine XS.ifYes X0.here hx rfl (pc0 := 9) (pc' := 35) rfl (hb hby d2_9) rfl ((if0 _ _).trans (flt (mt (lw_lt (456976 : Int64) q0).mp c8)).2.1) (by decide) (by decide) ?_
            show Steps p.tables e below (s₁.setTop (mkF m 35 #[.val (.long q0), .second, .val (.int (4 : Int32)), .val (.long (456976 : Int64)), .second] [])) _
            refine XS.iloadN X0.here hx rfl (hb hby d2_35) rfl ?_
            show Steps p.tables e below (s₁.setTop (mkF m 36 #[.val (.long q0), .second, .val (.int (4 : Int32)), .val (.long (456976 : Int64)), .second] [(.int (4 : Int32))])) _
            exact retI X0 hx Bd.returns (hb hby d2_36) hr
          · show Q2 Z q0 h0 n0 _ s₁.heap _
            rw [e0]
            exact ⟨by simp only [own_f2, if_pos c2, if_pos c4, if_pos c6, if_neg c8], N0, rfl⟩
      · obtain ⟨fs, hr, hrun, hended, hW, hsame⟩ := X0.leave (v := some (.int (3 : Int32))) (fun h => by rw [Bd.returns] at h; cases h) hlk
        refine ⟨_, _, pre5 _ ?_, hrun, hended, _, _, rfl, ?_, ⟨_, rfl⟩, hW, hsame.mono (by decide) (by decide)⟩
        · show Steps p.tables e below (s₁.setTop (mkF m 9 #[.val (.long q0), .second, .val (.int (3 : Int32)), .val (.long (17576 : Int64)), .second] [(.int (lcmpW (17576 : Int64) q0))])) _
          refine XS.ifYes X0.here hx rfl (pc0 := 9) (pc' := 35) rfl (hb hby d2_9) rfl ((if0 _ _).trans (flt (mt (lw_lt (17576 : Int64) q0).mp c6)).2.1) (by decide) (by decide) ?_
          show Steps p.tables e below (s₁.setTop (mkF m 35 #[.val (.long q0), .second, .val (.int (3 : Int32)), .val (.long (17576 : Int64)), .second] [])) _
          refine XS.iloadN X0.here hx rfl (hb hby d2_35) rfl ?_
          show Steps p.tables e below (s₁.setTop (mkF m 36 #[.val (.long q0), .second, .val (.int (3 : Int32)), .val (.long (17576 : Int64)), .second] [(.int (3 : Int32))])) _
          exact retI X0 hx Bd.returns (hb hby d2_36) hr
        · show Q2 Z q0 h0 n0 _ s₁.heap _
          rw [e0]
          exact ⟨by simp only [own_f2, if_pos c2, if_pos c4, if_neg c6], N0, rfl⟩
    · obtain ⟨fs, hr, hrun, hended, hW, hsame⟩ := X0.leave (v := some (.int (2 : Int32))) (fun h => by rw [Bd.returns] at h; cases h) hlk
      refine ⟨_, _, pre3 _ ?_, hrun, hended, _, _, rfl, ?_, ⟨_, rfl⟩, hW, hsame.mono (by decide) (by decide)⟩
      · show Steps p.tables e below (s₁.setTop (mkF m 9 #[.val (.long q0), .second, .val (.int (2 : Int32)), .val (.long (676 : Int64)), .second] [(.int (lcmpW (676 : Int64) q0))])) _
        refine XS.ifYes X0.here hx rfl (pc0 := 9) (pc' := 35) rfl (hb hby d2_9) rfl ((if0 _ _).trans (flt (mt (lw_lt (676 : Int64) q0).mp c4)).2.1) (by decide) (by decide) ?_
        show Steps p.tables e below (s₁.setTop (mkF m 35 #[.val (.long q0), .second, .val (.int (2 : Int32)), .val (.long (676 : Int64)), .second] [])) _
        refine XS.iloadN X0.here hx rfl (hb hby d2_35) rfl ?_
        show Steps p.tables e below (s₁.setTop (mkF m 36 #[.val (.long q0), .second, .val (.int (2 : Int32)), .val (.long (676 : Int64)), .second] [(.int (2 : Int32))])) _
        exact retI X0 hx Bd.returns (hb hby d2_36) hr
      · show Q2 Z q0 h0 n0 _ s₁.heap _
        rw [e0]
        exact ⟨by simp only [own_f2, if_pos c2, if_neg c4], N0, rfl⟩
  · obtain ⟨fs, hr, hrun, hended, hW, hsame⟩ := X0.leave (v := some (.int (1 : Int32))) (fun h => by rw [Bd.returns] at h; cases h) hlk
    refine ⟨_, _, pre1 _ ?_, hrun, hended, _, _, rfl, ?_, ⟨_, rfl⟩, hW, hsame.mono (by decide) (by decide)⟩
    · show Steps p.tables e below (s₁.setTop (mkF m 9 #[.val (.long q0), .second, .val (.int (1 : Int32)), .val (.long (26 : Int64)), .second] [(.int (lcmpW (26 : Int64) q0))])) _
      refine XS.ifYes X0.here hx rfl (pc0 := 9) (pc' := 35) rfl (hb hby d2_9) rfl ((if0 _ _).trans (flt (mt (lw_lt (26 : Int64) q0).mp c2)).2.1) (by decide) (by decide) ?_
      show Steps p.tables e below (s₁.setTop (mkF m 35 #[.val (.long q0), .second, .val (.int (1 : Int32)), .val (.long (26 : Int64)), .second] [])) _
      refine XS.iloadN X0.here hx rfl (hb hby d2_35) rfl ?_
      show Steps p.tables e below (s₁.setTop (mkF m 36 #[.val (.long q0), .second, .val (.int (1 : Int32)), .val (.long (26 : Int64)), .second] [(.int (1 : Int32))])) _
      exact retI X0 hx Bd.returns (hb hby d2_36) hr
    · show Q2 Z q0 h0 n0 _ s₁.heap _
      rw [e0]
      exact ⟨by simp only [own_f2, if_neg c2], N0, rfl⟩
theorem ef_0 (m : MethodId) (q0 : Int64) (q1 : Int32) (q2 : Int32) (q3 : Int32) (q4 : Int32) : entryFrame m #[(.long q0), (.int q1), (.int q2), (.int q3), (.int q4)] maxLocals = mkF m 0 #[.val (.long q0), .second, .val (.int q1), .val (.int q2), .val (.int q3), .val (.int q4), .unset, .unset, .unset, .unset, .unset] [] := by first | (simp [entryFrame, mkF, argsToLocals, Value.category, maxLocals]; done) | rfl
theorem pd_4 : parseMethodDescriptor "(J)I" = some ⟨[.long], some .int⟩ := by decide +kernel
theorem pd_5 : parseMethodDescriptor "(I)J" = some ⟨[.int], some .long⟩ := by decide +kernel
def own_f0 (q0 : Int64) (q1 : Int32) (q2 : Int32) (q3 : Int32) (q4 : Int32) : Int32 := (if (q4 &&& (1 : Int32)) = (0 : Int32) then let v3 := (q0 >>> ((q1 &&& (63 : Int32)) &&& 0x3f).toInt64)
  let v6 := (own_f2 v3)
  (if v6 < (1 : Int32) then (0 : Int32) else (if (14 : Int32) < v6 then (0 : Int32) else (if v6 = (1 : Int32) then (if (own_f1 v6) < v3 then (0 : Int32) else (1 : Int32)) else (if (own_f1 ((v6 - (1 : Int32)))) < v3 then (if v6 = (14 : Int32) then (1 : Int32) else (if (own_f1 v6) < v3 then (0 : Int32) else (1 : Int32))) else (if v6 = (14 : Int32) then (0 : Int32) else (if (own_f1 v6) < v3 then (0 : Int32) else (0 : Int32))))))) else let v31 := ((q2 &&& (2147483647 : Int32)) % (14 : Int32))
  let v34 := ((own_f1 v31) + (((q3 &&& (3 : Int32)) - (1 : Int32))).toInt64)
  let v37 := (own_f2 v34)
  (if v37 < (1 : Int32) then (0 : Int32) else (if (14 : Int32) < v37 then (0 : Int32) else (if v37 = (1 : Int32) then (if (own_f1 v37) < v34 then (0 : Int32) else (1 : Int32)) else (if (own_f1 ((v37 - (1 : Int32)))) < v34 then (if v37 = (14 : Int32) then (1 : Int32) else (if (own_f1 v37) < v34 then (0 : Int32) else (1 : Int32))) else (if v37 = (14 : Int32) then (0 : Int32) else (if (own_f1 v37) < v34 then (0 : Int32) else (0 : Int32))))))))
def Q0 (Z : State) (q0 : Int64) (q1 : Int32) (q2 : Int32) (q3 : Int32) (q4 : Int32)  (h0 : Heap) (n0 : Nat) (v : Option Value) (h : Heap) (L : List Loc) : Prop := v = some (.int (own_f0 q0 q1 q2 q3 q4)) ∧ Fr n0 L
set_option maxRecDepth 65536 in
set_option maxHeartbeats 40000000 in
theorem rm0 (l : Launch) (Z : State) (a0 : Array Value) (hw : ∀ d ∈ tables_1, d.before a0 Z = true) (ws : List Jvm.Cond) (q0 : Int64) (q1 : Int32) (q2 : Int32) (q3 : Int32) (q4 : Int32)  (h0 : Heap) (n0 : Nat) (Z0 : n0 ≤ h0.size)  :
    MetFree l x (head1 (Jvm.Cond.code x code maxLocals ret :: ws) room_1) (fun a U => a = #[(.long q0), (.int q1), (.int q2), (.int q3), (.int q4)] ∧ Z.Warmed39 U.vm ∧ U.heap = h0) (fun _ _ _ _ _ => True) (fun _ U o U' => ∃ v L, o = .returned v ∧ Q0 Z q0 q1 q2 q3 q4 h0 n0 v U'.heap L ∧ FrameEnd U o U' L room_1.cells room_1.slots) := by
  refine MetFree.of_bodySF (plainFor_of_name pn_1) hisR ?_
  intro p e s m args below meth c s₁ Bd hml0 hP hK
  obtain ⟨rfl, hZ, hh⟩ := hP
  have hx := Bd.exec
  have hby := Bd.bytes
  have hml : c.maxLocals = 11 := hml0
  have hown : s.vm.findClass "com/example/tributary/tributary/workload/SettingIndexLettersPinLaw" = some m.cls := findClass_of_methodNamed Bd.named
  have hnm := (name_of_methodNamed Bd.named Bd.method).1
  have X0 : Stand p l e room_1 s m #[(.long q0), (.int q1), (.int q2), (.int q3), (.int q4)] below meth c s₁ [] 0 0 := Stand.of_body Bd
  have hlk : meth.locks = false := by first | exact BodyLoose.notSynchronized (by assumption) | exact Body.notSynchronized (by assumption)
  have e0 : s₁.heap = h0 := by rw [← hh, Bd.state]; rfl
  have N0 := Fr.nil n0
  have pre0 : ∀ t, Steps p.tables e below (s₁.setTop (mkF m 0 #[.val (.long q0), .second, .val (.int q1), .val (.int q2), .val (.int q3), .val (.int q4), .unset, .unset, .unset, .unset, .unset] [])) t → Steps p.tables e below (s₁.setTop (entryFrame m #[(.long q0), (.int q1), (.int q2), (.int q3), (.int q4)] maxLocals)) t := fun t k => castTop (ef_0 m q0 q1 q2 q3 q4) k
  have pre1 : ∀ t, Steps p.tables e below (s₁.setTop (mkF m 4 #[.val (.long q0), .second, .val (.int q1), .val (.int q2), .val (.int q3), .val (.int q4), .unset, .unset, .unset, .unset, .unset] [(.int (q4 &&& (1 : Int32)))])) t → Steps p.tables e below (s₁.setTop (entryFrame m #[(.long q0), (.int q1), (.int q2), (.int q3), (.int q4)] maxLocals)) t := by
    intro t k
    refine pre0 t ?_
    show Steps p.tables e below (s₁.setTop (mkF m 0 #[.val (.long q0), .second, .val (.int q1), .val (.int q2), .val (.int q3), .val (.int q4), .unset, .unset, .unset, .unset, .unset] [])) _
    refine XS.iload X0.here hx rfl (hb hby at_0) rfl ?_
    show Steps p.tables e below (s₁.setTop (mkF m 2 #[.val (.long q0), .second, .val (.int q1), .val (.int q2), .val (.int q3), .val (.int q4), .unset, .unset, .unset, .unset, .unset] [(.int q4)])) _
    refine XS.iconst X0.here hx rfl (hb hby at_2) ?_
    show Steps p.tables e below (s₁.setTop (mkF m 3 #[.val (.long q0), .second, .val (.int q1), .val (.int q2), .val (.int q3), .val (.int q4), .unset, .unset, .unset, .unset, .unset] [(.int (1 : Int32)), (.int q4)])) _
    refine XS.iand X0.here hx rfl (hb hby at_3) rfl ?_
    exact k
  by_cases c2 : (q4 &&& (1 : Int32)) = (0 : Int32)
  · obtain ⟨v3, hv3⟩ : ∃ z : Int64, z = (q0 >>> ((q1 &&& (63 : Int32)) &&& 0x3f).toInt64) := ⟨_, rfl⟩
    have pre4 : ∀ t, Steps p.tables e below (s₁.setTop (mkF m 40 #[.val (.long q0), .second, .val (.int q1), .val (.int q2), .val (.int q3), .val (.int q4), .unset, .unset, .unset, .unset, .unset] [(.long v3)])) t → Steps p.tables e below (s₁.setTop (entryFrame m #[(.long q0), (.int q1), (.int q2), (.int q3), (.int q4)] maxLocals)) t := by
      rw [hv3]
      intro t k
      refine pre1 t ?_
      show Steps p.tables e below (s₁.setTop (mkF m 4 #[.val (.long q0), .second, .val (.int q1), .val (.int q2), .val (.int q3), .val (.int q4), .unset, .unset, .unset, .unset, .unset] [(.int (q4 &&& (1 : Int32)))])) _
      refine XS.ifYes X0.here hx rfl (pc0 := 4) (pc' := 34) rfl (hb hby at_4) rfl ((if0 _ _).trans (teq c2).1) (by decide) (by decide) ?_
      show Steps p.tables e below (s₁.setTop (mkF m 34 #[.val (.long q0), .second, .val (.int q1), .val (.int q2), .val (.int q3), .val (.int q4), .unset, .unset, .unset, .unset, .unset] [])) _
      refine XS.lloadN X0.here hx rfl (hb hby at_34) rfl ?_
      show Steps p.tables e below (s₁.setTop (mkF m 35 #[.val (.long q0), .second, .val (.int q1), .val (.int q2), .val (.int q3), .val (.int q4), .unset, .unset, .unset, .unset, .unset] [(.long q0)])) _
      refine XS.iloadN X0.here hx rfl (hb hby at_35) rfl ?_
      show Steps p.tables e below (s₁.setTop (mkF m 36 #[.val (.long q0), .second, .val (.int q1), .val (.int q2), .val (.int q3), .val (.int q4), .unset, .unset, .unset, .unset, .unset] [(.int q1), (.long q0)])) _
      refine XS.bipush X0.here hx rfl (hb hby at_36) ?_
      show Steps p.tables e below (s₁.setTop (mkF m 38 #[.val (.long q0), .second, .val (.int q1), .val (.int q2), .val (.int q3), .val (.int q4), .unset, .unset, .unset, .unset, .unset] [(.int (63 : Int32)), (.int q1), (.long q0)])) _
      refine XS.iand X0.here hx rfl (hb hby at_38) rfl ?_
      show Steps p.tables e below (s₁.setTop (mkF m 39 #[.val (.long q0), .second, .val (.int q1), .val (.int q2), .val (.int q3), .val (.int q4), .unset, .unset, .unset, .unset, .unset] [(.int (q1 &&& (63 : Int32))), (.long q0)])) _
      refine XS.lshr X0.here hx rfl (hb hby at_39) rfl ?_
      exact k
    obtain ⟨_, _, ⟨T5, L5, k5, n5⟩, -, X5, ⟨Lc5, hQ5, l5, y5, z5⟩, st5⟩ := Jvm.LawKit.callS X0 hx (y := (⟨"com/example/tributary/tributary/workload/Setting", "indexLetters", "(J)I"⟩ : MethodName)) hown (mvT hZ (hw _ (List.mem_of_getElem? (i := 19) rfl))) (mvT hZ (hw _ (List.mem_of_getElem? (i := 20) rfl))) (mvT hZ (hw _ (List.mem_of_getElem? (i := 21) rfl))) (mvT hZ (hw _ (List.mem_of_getElem? (i := 22) rfl))) (by decide) (backOf (W := 0) (rm2 l Z a0 hw [] v3  h0 n0 Z0 ) hZ (hw _ (List.mem_of_getElem? (i := 22) rfl)) (hw _ (List.mem_of_getElem? (i := 21) rfl)) (by decide) (by decide)) (g := (mkF m 44 #[.val (.long q0), .second, .val (.int q1), .val (.int q2), .val (.int q3), .val (.int q4), .val (.long v3), .second, .unset, .unset, .unset] [(.long v3)])) rfl (by rw [hml]; rfl) (argsL := [(.long v3)]) (rest := []) (lenOf pd_4 rfl) rfl (by show 2 * 0 + _ ≤ _; exact Nat.le_of_eq rfl) (hb hby at_44) (fun _ _ => ⟨rfl, e0, (by decide : 0 + 0 ≤ _), (by decide : 0 + 0 ≤ _)⟩)
    dsimp only [Pt.U, Pt.locs, Pt.cells, Pt.slots] at X5 l5 y5 z5 st5 hQ5
    subst l5 y5 z5
    obtain ⟨rfl, N5q, e5⟩ := hQ5
    have N5 := Fr.app N0 N5q
    obtain ⟨v6, hv6⟩ : ∃ z : Int32, z = (own_f2 v3) := ⟨_, rfl⟩
    have pre7 : ∀ t, Steps p.tables e below (T5.setTop (mkF m 47 #[.val (.long q0), .second, .val (.int q1), .val (.int q2), .val (.int q3), .val (.int q4), .val (.long v3), .second, .unset, .unset, .unset] [(.int v6)])) t → Steps p.tables e below (s₁.setTop (entryFrame m #[(.long q0), (.int q1), (.int q2), (.int q3), (.int q4)] maxLocals)) t := by
      rw [hv6]
      intro t k
      refine pre4 t ?_
      show Steps p.tables e below (s₁.setTop (mkF m 40 #[.val (.long q0), .second, .val (.int q1), .val (.int q2), .val (.int q3), .val (.int q4), .unset, .unset, .unset, .unset, .unset] [(.long v3)])) _
      refine XS.lstore X0.here hx rfl (hb hby at_40) rfl (l' := #[.val (.long q0), .second, .val (.int q1), .val (.int q2), .val (.int q3), .val (.int q4), .val (.long v3), .second, .unset, .unset, .unset]) rfl ?_
      show Steps p.tables e below (s₁.setTop (mkF m 42 #[.val (.long q0), .second, .val (.int q1), .val (.int q2), .val (.int q3), .val (.int q4), .val (.long v3), .second, .unset, .unset, .unset] [])) _
      refine XS.lload X0.here hx rfl (hb hby at_42) rfl ?_
      show Steps p.tables e below (s₁.setTop (mkF m 44 #[.val (.long q0), .second, .val (.int q1), .val (.int q2), .val (.int q3), .val (.int q4), .val (.long v3), .second, .unset, .unset, .unset] [(.long v3)])) _
      refine st5 _ ?_
      exact k
    have pre8 : ∀ t, Steps p.tables e below (T5.setTop (mkF m 52 #[.val (.long q0), .second, .val (.int q1), .val (.int q2), .val (.int q3), .val (.int q4), .val (.long v3), .second, .val (.int v6), .unset, .unset] [(.int (1 : Int32)), (.int v6)])) t → Steps p.tables e below (s₁.setTop (entryFrame m #[(.long q0), (.int q1), (.int q2), (.int q3), (.int q4)] maxLocals)) t := by
      intro t k
      refine pre7 t ?_
      show Steps p.tables e below (T5.setTop (mkF m 47 #[.val (.long q0), .second, .val (.int q1), .val (.int q2), .val (.int q3), .val (.int q4), .val (.long v3), .second, .unset, .unset, .unset] [(.int v6)])) _
      refine XS.istore X5.here hx rfl (hb hby at_47) rfl (l' := #[.val (.long q0), .second, .val (.int q1), .val (.int q2), .val (.int q3), .val (.int q4), .val (.long v3), .second, .val (.int v6), .unset, .unset]) rfl ?_
      show Steps p.tables e below (T5.setTop (mkF m 49 #[.val (.long q0), .second, .val (.int q1), .val (.int q2), .val (.int q3), .val (.int q4), .val (.long v3), .second, .val (.int v6), .unset, .unset] [])) _
      refine XS.iload X5.here hx rfl (hb hby at_49) rfl ?_
      show Steps p.tables e below (T5.setTop (mkF m 51 #[.val (.long q0), .second, .val (.int q1), .val (.int q2), .val (.int q3), .val (.int q4), .val (.long v3), .second, .val (.int v6), .unset, .unset] [(.int v6)])) _
      refine XS.iconst X5.here hx rfl (hb hby at_51) ?_
      exact k
    by_cases c9 : v6 < (1 : Int32)
    · obtain ⟨fs, hr, hrun, hended, hW, hsame⟩ := X5.leave (v := some (.int (0 : Int32))) (fun h => by rw [Bd.returns] at h; cases h) hlk
      refine ⟨_, _, pre8 _ ?_, hrun, hended, _, _, rfl, ?_, ⟨_, rfl⟩, hW, hsame.mono (by decide) (by decide)⟩
      · show Steps p.tables e below (T5.setTop (mkF m 52 #[.val (.long q0), .second, .val (.int q1), .val (.int q2), .val (.int q3), .val (.int q4), .val (.long v3), .second, .val (.int v6), .unset, .unset] [(.int (1 : Int32)), (.int v6)])) _
        refine XS.icmpYes X5.here hx rfl (pc0 := 52) (pc' := 62) rfl (hb hby at_52) rfl ((tlt c9).1) (by decide) (by decide) ?_
        show Steps p.tables e below (T5.setTop (mkF m 62 #[.val (.long q0), .second, .val (.int q1), .val (.int q2), .val (.int q3), .val (.int q4), .val (.long v3), .second, .val (.int v6), .unset, .unset] [])) _
        refine XS.iconst X5.here hx rfl (hb hby at_62) ?_
        show Steps p.tables e below (T5.setTop (mkF m 63 #[.val (.long q0), .second, .val (.int q1), .val (.int q2), .val (.int q3), .val (.int q4), .val (.long v3), .second, .val (.int v6), .unset, .unset] [(.int (0 : Int32))])) _
        exact retN X5 hx (t := .boolean) Bd.returns (by simp) (hb hby at_63) hr
      · show Q0 Z q0 q1 q2 q3 q4 h0 n0 _ T5.heap _
        rw [e5]
        exact ⟨by have w_hv6 := hv6.symm; subst w_hv6; have w_hv3 := hv3.symm; subst w_hv3; simp only [own_f0, if_pos c2, if_pos c9], N5⟩
    · have pre10 : ∀ t, Steps p.tables e below (T5.setTop (mkF m 59 #[.val (.long q0), .second, .val (.int q1), .val (.int q2), .val (.int q3), .val (.int q4), .val (.long v3), .second, .val (.int v6), .unset, .unset] [(.int (14 : Int32)), (.int v6)])) t → Steps p.tables e below (s₁.setTop (entryFrame m #[(.long q0), (.int q1), (.int q2), (.int q3), (.int q4)] maxLocals)) t := by
        intro t k
        refine pre8 t ?_
        show Steps p.tables e below (T5.setTop (mkF m 52 #[.val (.long q0), .second, .val (.int q1), .val (.int q2), .val (.int q3), .val (.int q4), .val (.long v3), .second, .val (.int v6), .unset, .unset] [(.int (1 : Int32)), (.int v6)])) _
        refine XS.icmpNo X5.here hx rfl (hb hby at_52) rfl ((flt c9).1) ?_
        show Steps p.tables e below (T5.setTop (mkF m 55 #[.val (.long q0), .second, .val (.int q1), .val (.int q2), .val (.int q3), .val (.int q4), .val (.long v3), .second, .val (.int v6), .unset, .unset] [])) _
        refine XS.iload X5.here hx rfl (hb hby at_55) rfl ?_
        show Steps p.tables e below (T5.setTop (mkF m 57 #[.val (.long q0), .second, .val (.int q1), .val (.int q2), .val (.int q3), .val (.int q4), .val (.long v3), .second, .val (.int v6), .unset, .unset] [(.int v6)])) _
        refine XS.bipush X5.here hx rfl (hb hby at_57) ?_
        exact k
      by_cases c11 : (14 : Int32) < v6
      · obtain ⟨fs, hr, hrun, hended, hW, hsame⟩ := X5.leave (v := some (.int (0 : Int32))) (fun h => by rw [Bd.returns] at h; cases h) hlk
        refine ⟨_, _, pre10 _ ?_, hrun, hended, _, _, rfl, ?_, ⟨_, rfl⟩, hW, hsame.mono (by decide) (by decide)⟩
        · show Steps p.tables e below (T5.setTop (mkF m 59 #[.val (.long q0), .second, .val (.int q1), .val (.int q2), .val (.int q3), .val (.int q4), .val (.long v3), .second, .val (.int v6), .unset, .unset] [(.int (14 : Int32)), (.int v6)])) _
          refine XS.icmpNo X5.here hx rfl (hb hby at_59) rfl ((tlt c11).2.2.2) ?_
          show Steps p.tables e below (T5.setTop (mkF m 62 #[.val (.long q0), .second, .val (.int q1), .val (.int q2), .val (.int q3), .val (.int q4), .val (.long v3), .second, .val (.int v6), .unset, .unset] [])) _
          refine XS.iconst X5.here hx rfl (hb hby at_62) ?_
          show Steps p.tables e below (T5.setTop (mkF m 63 #[.val (.long q0), .second, .val (.int q1), .val (.int q2), .val (.int q3), .val (.int q4), .val (.long v3), .second, .val (.int v6), .unset, .unset] [(.int (0 : Int32))])) _
          exact retN X5 hx (t := .boolean) Bd.returns (by simp) (hb hby at_63) hr
        · show Q0 Z q0 q1 q2 q3 q4 h0 n0 _ T5.heap _
          rw [e5]
          exact ⟨by have w_hv6 := hv6.symm; subst w_hv6; have w_hv3 := hv3.symm; subst w_hv3; simp only [own_f0, if_pos c2, if_neg c9, if_pos c11], N5⟩
      · have pre12 : ∀ t, Steps p.tables e below (T5.setTop (mkF m 67 #[.val (.long q0), .second, .val (.int q1), .val (.int q2), .val (.int q3), .val (.int q4), .val (.long v3), .second, .val (.int v6), .unset, .unset] [(.int (1 : Int32)), (.int v6)])) t → Steps p.tables e below (s₁.setTop (entryFrame m #[(.long q0), (.int q1), (.int q2), (.int q3), (.int q4)] maxLocals)) t := by
          intro t k
          refine pre10 t ?_
          show Steps p.tables e below (T5.setTop (mkF m 59 #[.val (.long q0), .second, .val (.int q1), .val (.int q2), .val (.int q3), .val (.int q4), .val (.long v3), .second, .val (.int v6), .unset, .unset] [(.int (14 : Int32)), (.int v6)])) _
          refine XS.icmpYes X5.here hx rfl (pc0 := 59) (pc' := 64) rfl (hb hby at_59) rfl ((flt c11).2.2.2) (by decide) (by decide) ?_
          show Steps p.tables e below (T5.setTop (mkF m 64 #[.val (.long q0), .second, .val (.int q1), .val (.int q2), .val (.int q3), .val (.int q4), .val (.long v3), .second, .val (.int v6), .unset, .unset] [])) _
          refine XS.iload X5.here hx rfl (hb hby at_64) rfl ?_
          show Steps p.tables e below (T5.setTop (mkF m 66 #[.val (.long q0), .second, .val (.int q1), .val (.int q2), .val (.int q3), .val (.int q4), .val (.long v3), .second, .val (.int v6), .unset, .unset] [(.int v6)])) _
          refine XS.iconst X5.here hx rfl (hb hby at_66) ?_
          exact k
        by_cases c13 : v6 = (1 : Int32)
        · have c14 : ¬ (v6 = (14 : Int32)) := own_g3 (own_fE c13 (k := 1) (by decide)) (by decide)
          obtain ⟨_, _, ⟨T15, L15, k15, n15⟩, -, X15, ⟨Lc15, hQ15, l15, y15, z15⟩, st15⟩ := Jvm.LawKit.callS X5 hx (y := (⟨"com/example/tributary/tributary/workload/SettingIndexLettersPinLaw", "pow26", "(I)J"⟩ : MethodName)) hown (mvT hZ (hw _ (List.mem_of_getElem? (i := 1) rfl))) (mvT hZ (hw _ (List.mem_of_getElem? (i := 2) rfl))) (mvT hZ (hw _ (List.mem_of_getElem? (i := 3) rfl))) (mvT hZ (hw _ (List.mem_of_getElem? (i := 4) rfl))) (by decide) (backOf (W := 2) (rm1 l Z a0 hw [] v6  h0 n0 Z0  (by first | exact own_inB (by assumption) (by assumption) (by assumption) | (rename_i hq; decide))) hZ (hw _ (List.mem_of_getElem? (i := 4) rfl)) (hw _ (List.mem_of_getElem? (i := 3) rfl)) (by decide) (by decide)) (g := (mkF m 101 #[.val (.long q0), .second, .val (.int q1), .val (.int q2), .val (.int q3), .val (.int q4), .val (.long v3), .second, .val (.int v6), .val (.int (1 : Int32)), .unset] [(.int v6), (.long v3)])) rfl (by rw [hml]; rfl) (argsL := [(.int v6)]) (rest := [(.long v3)]) (lenOf pd_5 rfl) rfl (by show 2 * 0 + _ ≤ _; exact Nat.le_of_eq rfl) (hb hby at_101) (fun _ _ => ⟨rfl, e5, (by decide : 0 + 1 ≤ _), (by decide : 0 + 14 ≤ _)⟩)
          dsimp only [Pt.U, Pt.locs, Pt.cells, Pt.slots] at X15 l15 y15 z15 st15 hQ15
          subst l15 y15 z15
          obtain ⟨rfl, N15q, K15⟩ := hQ15
          obtain ⟨h15, e15⟩ : ∃ z, T15.heap = z := ⟨_, rfl⟩
          rw [e15] at K15
          have sz15 : n0 ≤ h15.size := Nat.le_trans Z0 K15.1
          have N15 := Fr.app N5 N15q
          have pre16 : ∀ t, Steps p.tables e below (T15.setTop (mkF m 105 #[.val (.long q0), .second, .val (.int q1), .val (.int q2), .val (.int q3), .val (.int q4), .val (.long v3), .second, .val (.int v6), .val (.int (1 : Int32)), .unset] [(.int (lcmpW v3 (own_f1 v6)))])) t → Steps p.tables e below (s₁.setTop (entryFrame m #[(.long q0), (.int q1), (.int q2), (.int q3), (.int q4)] maxLocals)) t := by
            intro t k
            refine pre12 t ?_
            show Steps p.tables e below (T5.setTop (mkF m 67 #[.val (.long q0), .second, .val (.int q1), .val (.int q2), .val (.int q3), .val (.int q4), .val (.long v3), .second, .val (.int v6), .unset, .unset] [(.int (1 : Int32)), (.int v6)])) _
            refine XS.icmpYes X5.here hx rfl (pc0 := 67) (pc' := 83) rfl (hb hby at_67) rfl ((teq c13).1) (by decide) (by decide) ?_
            show Steps p.tables e below (T5.setTop (mkF m 83 #[.val (.long q0), .second, .val (.int q1), .val (.int q2), .val (.int q3), .val (.int q4), .val (.long v3), .second, .val (.int v6), .unset, .unset] [])) _
            refine XS.iconst X5.here hx rfl (hb hby at_83) ?_
            show Steps p.tables e below (T5.setTop (mkF m 84 #[.val (.long q0), .second, .val (.int q1), .val (.int q2), .val (.int q3), .val (.int q4), .val (.long v3), .second, .val (.int v6), .unset, .unset] [(.int (1 : Int32))])) _
            refine XS.goto X5.here hx rfl (pc0 := 84) (pc' := 88) rfl (hb hby at_84) (by decide) (by decide) ?_
            show Steps p.tables e below (T5.setTop (mkF m 88 #[.val (.long q0), .second, .val (.int q1), .val (.int q2), .val (.int q3), .val (.int q4), .val (.long v3), .second, .val (.int v6), .unset, .unset] [(.int (1 : Int32))])) _
            refine XS.istore X5.here hx rfl (hb hby at_88) rfl (l' := #[.val (.long q0), .second, .val (.int q1), .val (.int q2), .val (.int q3), .val (.int q4), .val (.long v3), .second, .val (.int v6), .val (.int (1 : Int32)), .unset]) rfl ?_
            show Steps p.tables e below (T5.setTop (mkF m 90 #[.val (.long q0), .second, .val (.int q1), .val (.int q2), .val (.int q3), .val (.int q4), .val (.long v3), .second, .val (.int v6), .val (.int (1 : Int32)), .unset] [])) _
            refine XS.iload X5.here hx rfl (hb hby at_90) rfl ?_
            show Steps p.tables e below (T5.setTop (mkF m 92 #[.val (.long q0), .second, .val (.int q1), .val (.int q2), .val (.int q3), .val (.int q4), .val (.long v3), .second, .val (.int v6), .val (.int (1 : Int32)), .unset] [(.int v6)])) _
            refine XS.bipush X5.here hx rfl (hb hby at_92) ?_
            show Steps p.tables e below (T5.setTop (mkF m 94 #[.val (.long q0), .second, .val (.int q1), .val (.int q2), .val (.int q3), .val (.int q4), .val (.long v3), .second, .val (.int v6), .val (.int (1 : Int32)), .unset] [(.int (14 : Int32)), (.int v6)])) _
            refine XS.icmpNo X5.here hx rfl (hb hby at_94) rfl ((feq c14).1) ?_
            show Steps p.tables e below (T5.setTop (mkF m 97 #[.val (.long q0), .second, .val (.int q1), .val (.int q2), .val (.int q3), .val (.int q4), .val (.long v3), .second, .val (.int v6), .val (.int (1 : Int32)), .unset] [])) _
            refine XS.lload X5.here hx rfl (hb hby at_97) rfl ?_
            show Steps p.tables e below (T5.setTop (mkF m 99 #[.val (.long q0), .second, .val (.int q1), .val (.int q2), .val (.int q3), .val (.int q4), .val (.long v3), .second, .val (.int v6), .val (.int (1 : Int32)), .unset] [(.long v3)])) _
            refine XS.iload X5.here hx rfl (hb hby at_99) rfl ?_
            show Steps p.tables e below (T5.setTop (mkF m 101 #[.val (.long q0), .second, .val (.int q1), .val (.int q2), .val (.int q3), .val (.int q4), .val (.long v3), .second, .val (.int v6), .val (.int (1 : Int32)), .unset] [(.int v6), (.long v3)])) _
            refine st15 _ ?_
            show Steps p.tables e below (T15.setTop (mkF m 104 #[.val (.long q0), .second, .val (.int q1), .val (.int q2), .val (.int q3), .val (.int q4), .val (.long v3), .second, .val (.int v6), .val (.int (1 : Int32)), .unset] [(.long (own_f1 v6)), (.long v3)])) _
            refine XS.lcmp X15.here hx rfl (hb hby at_104) rfl ?_
            exact k
          by_cases c17 : (own_f1 v6) < v3
          · obtain ⟨fs, hr, hrun, hended, hW, hsame⟩ := X15.leave (v := some (.int (0 : Int32))) (fun h => by rw [Bd.returns] at h; cases h) hlk
            refine ⟨_, _, pre16 _ ?_, hrun, hended, _, _, rfl, ?_, ⟨_, rfl⟩, hW, hsame.mono (by decide) (by decide)⟩
            · show Steps p.tables e below (T15.setTop (mkF m 105 #[.val (.long q0), .second, .val (.int q1), .val (.int q2), .val (.int q3), .val (.int q4), .val (.long v3), .second, .val (.int v6), .val (.int (1 : Int32)), .unset] [(.int (lcmpW v3 (own_f1 v6)))])) _
              refine XS.ifYes X15.here hx rfl (pc0 := 105) (pc' := 112) rfl (hb hby at_105) rfl ((if0 _ _).trans (tlt ((lw_gt v3 (own_f1 v6)).mpr c17)).2.2.1) (by decide) (by decide) ?_
              show Steps p.tables e below (T15.setTop (mkF m 112 #[.val (.long q0), .second, .val (.int q1), .val (.int q2), .val (.int q3), .val (.int q4), .val (.long v3), .second, .val (.int v6), .val (.int (1 : Int32)), .unset] [])) _
              refine XS.iconst X15.here hx rfl (hb hby at_112) ?_
              show Steps p.tables e below (T15.setTop (mkF m 113 #[.val (.long q0), .second, .val (.int q1), .val (.int q2), .val (.int q3), .val (.int q4), .val (.long v3), .second, .val (.int v6), .val (.int (1 : Int32)), .unset] [(.int (0 : Int32))])) _
              refine XS.istore X15.here hx rfl (hb hby at_113) rfl (l' := #[.val (.long q0), .second, .val (.int q1), .val (.int q2), .val (.int q3), .val (.int q4), .val (.long v3), .second, .val (.int v6), .val (.int (1 : Int32)), .val (.int (0 : Int32))]) rfl ?_
              show Steps p.tables e below (T15.setTop (mkF m 115 #[.val (.long q0), .second, .val (.int q1), .val (.int q2), .val (.int q3), .val (.int q4), .val (.long v3), .second, .val (.int v6), .val (.int (1 : Int32)), .val (.int (0 : Int32))] [])) _
              refine XS.iload X15.here hx rfl (hb hby at_115) rfl ?_
              show Steps p.tables e below (T15.setTop (mkF m 117 #[.val (.long q0), .second, .val (.int q1), .val (.int q2), .val (.int q3), .val (.int q4), .val (.long v3), .second, .val (.int v6), .val (.int (1 : Int32)), .val (.int (0 : Int32))] [(.int (1 : Int32))])) _
              refine XS.ifNo X15.here hx rfl (hb hby at_117) rfl (by decide) ?_
              show Steps p.tables e below (T15.setTop (mkF m 120 #[.val (.long q0), .second, .val (.int q1), .val (.int q2), .val (.int q3), .val (.int q4), .val (.long v3), .second, .val (.int v6), .val (.int (1 : Int32)), .val (.int (0 : Int32))] [])) _
              refine XS.iload X15.here hx rfl (hb hby at_120) rfl ?_
              show Steps p.tables e below (T15.setTop (mkF m 122 #[.val (.long q0), .second, .val (.int q1), .val (.int q2), .val (.int q3), .val (.int q4), .val (.long v3), .second, .val (.int v6), .val (.int (1 : Int32)), .val (.int (0 : Int32))] [(.int (0 : Int32))])) _
              refine XS.ifYes X15.here hx rfl (pc0 := 122) (pc' := 129) rfl (hb hby at_122) rfl (by decide) (by decide) (by decide) ?_
              show Steps p.tables e below (T15.setTop (mkF m 129 #[.val (.long q0), .second, .val (.int q1), .val (.int q2), .val (.int q3), .val (.int q4), .val (.long v3), .second, .val (.int v6), .val (.int (1 : Int32)), .val (.int (0 : Int32))] [])) _
              refine XS.iconst X15.here hx rfl (hb hby at_129) ?_
              show Steps p.tables e below (T15.setTop (mkF m 130 #[.val (.long q0), .second, .val (.int q1), .val (.int q2), .val (.int q3), .val (.int q4), .val (.long v3), .second, .val (.int v6), .val (.int (1 : Int32)), .val (.int (0 : Int32))] [(.int (0 : Int32))])) _
              exact retN X15 hx (t := .boolean) Bd.returns (by simp) (hb hby at_130) hr
            · show Q0 Z q0 q1 q2 q3 q4 h0 n0 _ T15.heap _
              rw [e15]
              exact ⟨by have w_hv6 := hv6.symm; subst w_hv6; have w_hv3 := hv3.symm; subst w_hv3; simp only [own_f0, if_pos c2, if_neg c9, if_neg c11, if_pos c13, if_pos c17], N15⟩
          · obtain ⟨fs, hr, hrun, hended, hW, hsame⟩ := X15.leave (v := some (.int (1 : Int32))) (fun h => by rw [Bd.returns] at h; cases h) hlk
            refine ⟨_, _, pre16 _ ?_, hrun, hended, _, _, rfl, ?_, ⟨_, rfl⟩, hW, hsame.mono (by decide) (by decide)⟩
            · show Steps p.tables e below (T15.setTop (mkF m 105 #[.val (.long q0), .second, .val (.int q1), .val (.int q2), .val (.int q3), .val (.int q4), .val (.long v3), .second, .val (.int v6), .val (.int (1 : Int32)), .unset] [(.int (lcmpW v3 (own_f1 v6)))])) _
              refine XS.ifNo X15.here hx rfl (hb hby at_105) rfl ((if0 _ _).trans (flt (mt (lw_gt v3 (own_f1 v6)).mp c17)).2.2.1) ?_
              show Steps p.tables e below (T15.setTop (mkF m 108 #[.val (.long q0), .second, .val (.int q1), .val (.int q2), .val (.int q3), .val (.int q4), .val (.long v3), .second, .val (.int v6), .val (.int (1 : Int32)), .unset] [])) _
              refine XS.iconst X15.here hx rfl (hb hby at_108) ?_
              show Steps p.tables e below (T15.setTop (mkF m 109 #[.val (.long q0), .second, .val (.int q1), .val (.int q2), .val (.int q3), .val (.int q4), .val (.long v3), .second, .val (.int v6), .val (.int (1 : Int32)), .unset] [(.int (1 : Int32))])) _
              refine XS.goto X15.here hx rfl (pc0 := 109) (pc' := 113) rfl (hb hby at_109) (by decide) (by decide) ?_
              show Steps p.tables e below (T15.setTop (mkF m 113 #[.val (.long q0), .second, .val (.int q1), .val (.int q2), .val (.int q3), .val (.int q4), .val (.long v3), .second, .val (.int v6), .val (.int (1 : Int32)), .unset] [(.int (1 : Int32))])) _
              refine XS.istore X15.here hx rfl (hb hby at_113) rfl (l' := #[.val (.long q0), .second, .val (.int q1), .val (.int q2), .val (.int q3), .val (.int q4), .val (.long v3), .second, .val (.int v6), .val (.int (1 : Int32)), .val (.int (1 : Int32))]) rfl ?_
              show Steps p.tables e below (T15.setTop (mkF m 115 #[.val (.long q0), .second, .val (.int q1), .val (.int q2), .val (.int q3), .val (.int q4), .val (.long v3), .second, .val (.int v6), .val (.int (1 : Int32)), .val (.int (1 : Int32))] [])) _
              refine XS.iload X15.here hx rfl (hb hby at_115) rfl ?_
              show Steps p.tables e below (T15.setTop (mkF m 117 #[.val (.long q0), .second, .val (.int q1), .val (.int q2), .val (.int q3), .val (.int q4), .val (.long v3), .second, .val (.int v6), .val (.int (1 : Int32)), .val (.int (1 : Int32))] [(.int (1 : Int32))])) _
              refine XS.ifNo X15.here hx rfl (hb hby at_117) rfl (by decide) ?_
              show Steps p.tables e below (T15.setTop (mkF m 120 #[.val (.long q0), .second, .val (.int q1), .val (.int q2), .val (.int q3), .val (.int q4), .val (.long v3), .second, .val (.int v6), .val (.int (1 : Int32)), .val (.int (1 : Int32))] [])) _
              refine XS.iload X15.here hx rfl (hb hby at_120) rfl ?_
              show Steps p.tables e below (T15.setTop (mkF m 122 #[.val (.long q0), .second, .val (.int q1), .val (.int q2), .val (.int q3), .val (.int q4), .val (.long v3), .second, .val (.int v6), .val (.int (1 : Int32)), .val (.int (1 : Int32))] [(.int (1 : Int32))])) _
              refine XS.ifNo X15.here hx rfl (hb hby at_122) rfl (by decide) ?_
              show Steps p.tables e below (T15.setTop (mkF m 125 #[.val (.long q0), .second, .val (.int q1), .val (.int q2), .val (.int q3), .val (.int q4), .val (.long v3), .second, .val (.int v6), .val (.int (1 : Int32)), .val (.int (1 : Int32))] [])) _
              refine XS.iconst X15.here hx rfl (hb hby at_125) ?_
              show Steps p.tables e below (T15.setTop (mkF m 126 #[.val (.long q0), .second, .val (.int q1), .val (.int q2), .val (.int q3), .val (.int q4), .val (.long v3), .second, .val (.int v6), .val (.int (1 : Int32)), .val (.int (1 : Int32))] [(.int (1 : Int32))])) _
              refine XS.goto X15.here hx rfl (pc0 := 126) (pc' := 130) rfl (hb hby at_126) (by decide) (by decide) ?_
              show Steps p.tables e below (T15.setTop (mkF m 130 #[.val (.long q0), .second, .val (.int q1), .val (.int q2), .val (.int q3), .val (.int q4), .val (.long v3), .second, .val (.int v6), .val (.int (1 : Int32)), .val (.int (1 : Int32))] [(.int (1 : Int32))])) _
              exact retN X15 hx (t := .boolean) Bd.returns (by simp) (hb hby at_130) hr
            · show Q0 Z q0 q1 q2 q3 q4 h0 n0 _ T15.heap _
              rw [e15]
              exact ⟨by have w_hv6 := hv6.symm; subst w_hv6; have w_hv3 := hv3.symm; subst w_hv3; simp only [own_f0, if_pos c2, if_neg c9, if_neg c11, if_pos c13, if_neg c17], N15⟩
        · obtain ⟨_, _, ⟨T18, L18, k18, n18⟩, -, X18, ⟨Lc18, hQ18, l18, y18, z18⟩, st18⟩ := Jvm.LawKit.callS X5 hx (y := (⟨"com/example/tributary/tributary/workload/SettingIndexLettersPinLaw", "pow26", "(I)J"⟩ : MethodName)) hown (mvT hZ (hw _ (List.mem_of_getElem? (i := 1) rfl))) (mvT hZ (hw _ (List.mem_of_getElem? (i := 2) rfl))) (mvT hZ (hw _ (List.mem_of_getElem? (i := 3) rfl))) (mvT hZ (hw _ (List.mem_of_getElem? (i := 4) rfl))) (by decide) (backOf (W := 0) (rm1 l Z a0 hw [] (v6 - (1 : Int32))  h0 n0 Z0  (own_inA (by assumption) (by assumption))) hZ (hw _ (List.mem_of_getElem? (i := 4) rfl)) (hw _ (List.mem_of_getElem? (i := 3) rfl)) (by decide) (by decide)) (g := (mkF m 74 #[.val (.long q0), .second, .val (.int q1), .val (.int q2), .val (.int q3), .val (.int q4), .val (.long v3), .second, .val (.int v6), .unset, .unset] [(.int (v6 - (1 : Int32)))])) rfl (by rw [hml]; rfl) (argsL := [(.int (v6 - (1 : Int32)))]) (rest := []) (lenOf pd_5 rfl) rfl (by show 2 * 0 + _ ≤ _; exact Nat.le_of_eq rfl) (hb hby at_74) (fun _ _ => ⟨rfl, e5, (by decide : 0 + 1 ≤ _), (by decide : 0 + 14 ≤ _)⟩)
          dsimp only [Pt.U, Pt.locs, Pt.cells, Pt.slots] at X18 l18 y18 z18 st18 hQ18
          subst l18 y18 z18
          obtain ⟨rfl, N18q, K18⟩ := hQ18
          obtain ⟨h18, e18⟩ : ∃ z, T18.heap = z := ⟨_, rfl⟩
          rw [e18] at K18
          have sz18 : n0 ≤ h18.size := Nat.le_trans Z0 K18.1
          have N18 := Fr.app N5 N18q
          have pre19 : ∀ t, Steps p.tables e below (T18.setTop (mkF m 80 #[.val (.long q0), .second, .val (.int q1), .val (.int q2), .val (.int q3), .val (.int q4), .val (.long v3), .second, .val (.int v6), .unset, .unset] [(.int (lcmpW (own_f1 ((v6 - (1 : Int32)))) v3))])) t → Steps p.tables e below (s₁.setTop (entryFrame m #[(.long q0), (.int q1), (.int q2), (.int q3), (.int q4)] maxLocals)) t := by
            intro t k
            refine pre12 t ?_
            show Steps p.tables e below (T5.setTop (mkF m 67 #[.val (.long q0), .second, .val (.int q1), .val (.int q2), .val (.int q3), .val (.int q4), .val (.long v3), .second, .val (.int v6), .unset, .unset] [(.int (1 : Int32)), (.int v6)])) _
            refine XS.icmpNo X5.here hx rfl (hb hby at_67) rfl ((feq c13).1) ?_
            show Steps p.tables e below (T5.setTop (mkF m 70 #[.val (.long q0), .second, .val (.int q1), .val (.int q2), .val (.int q3), .val (.int q4), .val (.long v3), .second, .val (.int v6), .unset, .unset] [])) _
            refine XS.iload X5.here hx rfl (hb hby at_70) rfl ?_
            show Steps p.tables e below (T5.setTop (mkF m 72 #[.val (.long q0), .second, .val (.int q1), .val (.int q2), .val (.int q3), .val (.int q4), .val (.long v3), .second, .val (.int v6), .unset, .unset] [(.int v6)])) _
            refine XS.iconst X5.here hx rfl (hb hby at_72) ?_
            show Steps p.tables e below (T5.setTop (mkF m 73 #[.val (.long q0), .second, .val (.int q1), .val (.int q2), .val (.int q3), .val (.int q4), .val (.long v3), .second, .val (.int v6), .unset, .unset] [(.int (1 : Int32)), (.int v6)])) _
            refine XS.isub X5.here hx rfl (hb hby at_73) rfl ?_
            show Steps p.tables e below (T5.setTop (mkF m 74 #[.val (.long q0), .second, .val (.int q1), .val (.int q2), .val (.int q3), .val (.int q4), .val (.long v3), .second, .val (.int v6), .unset, .unset] [(.int (v6 - (1 : Int32)))])) _
            refine st18 _ ?_
            show Steps p.tables e below (T18.setTop (mkF m 77 #[.val (.long q0), .second, .val (.int q1), .val (.int q2), .val (.int q3), .val (.int q4), .val (.long v3), .second, .val (.int v6), .unset, .unset] [(.long (own_f1 ((v6 - (1 : Int32)))))])) _
            refine XS.lload X18.here hx rfl (hb hby at_77) rfl ?_
            show Steps p.tables e below (T18.setTop (mkF m 79 #[.val (.long q0), .second, .val (.int q1), .val (.int q2), .val (.int q3), .val (.int q4), .val (.long v3), .second, .val (.int v6), .unset, .unset] [(.long v3), (.long (own_f1 ((v6 - (1 : Int32)))))])) _
            refine XS.lcmp X18.here hx rfl (hb hby at_79) rfl ?_
            exact k
          by_cases c20 : (own_f1 ((v6 - (1 : Int32)))) < v3
          · have pre21 : ∀ t, Steps p.tables e below (T18.setTop (mkF m 94 #[.val (.long q0), .second, .val (.int q1), .val (.int q2), .val (.int q3), .val (.int q4), .val (.long v3), .second, .val (.int v6), .val (.int (1 : Int32)), .unset] [(.int (14 : Int32)), (.int v6)])) t → Steps p.tables e below (s₁.setTop (entryFrame m #[(.long q0), (.int q1), (.int q2), (.int q3), (.int q4)] maxLocals)) t := by
              intro t k
              refine pre19 t ?_
              show Steps p.tables e below (T18.setTop (mkF m 80 #[.val (.long q0), .second, .val (.int q1), .val (.int q2), .val (.int q3), .val (.int q4), .val (.long v3), .second, .val (.int v6), .unset, .unset] [(.int (lcmpW (own_f1 ((v6 - (1 : Int32)))) v3))])) _
              refine XS.ifNo X18.here hx rfl (hb hby at_80) rfl ((if0 _ _).trans (tlt ((lw_lt (own_f1 ((v6 - (1 : Int32)))) v3).mpr c20)).2.1) ?_
              show Steps p.tables e below (T18.setTop (mkF m 83 #[.val (.long q0), .second, .val (.int q1), .val (.int q2), .val (.int q3), .val (.int q4), .val (.long v3), .second, .val (.int v6), .unset, .unset] [])) _
              refine XS.iconst X18.here hx rfl (hb hby at_83) ?_
              show Steps p.tables e below (T18.setTop (mkF m 84 #[.val (.long q0), .second, .val (.int q1), .val (.int q2), .val (.int q3), .val (.int q4), .val (.long v3), .second, .val (.int v6), .unset, .unset] [(.int (1 : Int32))])) _
              refine XS.goto X18.here hx rfl (pc0 := 84) (pc' := 88) rfl (hb hby at_84) (by decide) (by decide) ?_
              show Steps p.tables e below (T18.setTop (mkF m 88 #[.val (.long q0), .second, .val (.int q1), .val (.int q2), .val (.int q3), .val (.int q4), .val (.long v3), .second, .val (.int v6), .unset, .unset] [(.int (1 : Int32))])) _
              refine XS.istore X18.here hx rfl (hb hby at_88) rfl (l' := #[.val (.long q0), .second, .val (.int q1), .val (.int q2), .val (.int q3), .val (.int q4), .val (.long v3), .second, .val (.int v6), .val (.int (1 : Int32)), .unset]) rfl ?_
              show Steps p.tables e below (T18.setTop (mkF m 90 #[.val (.long q0), .second, .val (.int q1), .val (.int q2), .val (.int q3), .val (.int q4), .val (.long v3), .second, .val (.int v6), .val (.int (1 : Int32)), .unset] [])) _
              refine XS.iload X18.here hx rfl (hb hby at_90) rfl ?_
              show Steps p.tables e below (T18.setTop (mkF m 92 #[.val (.long q0), .second, .val (.int q1), .val (.int q2), .val (.int q3), .val (.int q4), .val (.long v3), .second, .val (.int v6), .val (.int (1 : Int32)), .unset] [(.int v6)])) _
              refine XS.bipush X18.here hx rfl (hb hby at_92) ?_
              exact k
            by_cases c22 : v6 = (14 : Int32)
            · obtain ⟨fs, hr, hrun, hended, hW, hsame⟩ := X18.leave (v := some (.int (1 : Int32))) (fun h => by rw [Bd.returns] at h; cases h) hlk
              refine ⟨_, _, pre21 _ ?_, hrun, hended, _, _, rfl, ?_, ⟨_, rfl⟩, hW, hsame.mono (by decide) (by decide)⟩
              · show Steps p.tables e below (T18.setTop (mkF m 94 #[.val (.long q0), .second, .val (.int q1), .val (.int q2), .val (.int q3), .val (.int q4), .val (.long v3), .second, .val (.int v6), .val (.int (1 : Int32)), .unset] [(.int (14 : Int32)), (.int v6)])) _
                refine XS.icmpYes X18.here hx rfl (pc0 := 94) (pc' := 108) rfl (hb hby at_94) rfl ((teq c22).1) (by decide) (by decide) ?_
                show Steps p.tables e below (T18.setTop (mkF m 108 #[.val (.long q0), .second, .val (.int q1), .val (.int q2), .val (.int q3), .val (.int q4), .val (.long v3), .second, .val (.int v6), .val (.int (1 : Int32)), .unset] [])) _
                refine XS.iconst X18.here hx rfl (hb hby at_108) ?_
                show Steps p.tables e below (T18.setTop (mkF m 109 #[.val (.long q0), .second, .val (.int q1), .val (.int q2), .val (.int q3), .val (.int q4), .val (.long v3), .second, .val (.int v6), .val (.int (1 : Int32)), .unset] [(.int (1 : Int32))])) _
                refine XS.goto X18.here hx rfl (pc0 := 109) (pc' := 113) rfl (hb hby at_109) (by decide) (by decide) ?_
                show Steps p.tables e below (T18.setTop (mkF m 113 #[.val (.long q0), .second, .val (.int q1), .val (.int q2), .val (.int q3), .val (.int q4), .val (.long v3), .second, .val (.int v6), .val (.int (1 : Int32)), .unset] [(.int (1 : Int32))])) _
                refine XS.istore X18.here hx rfl (hb hby at_113) rfl (l' := #[.val (.long q0), .second, .val (.int q1), .val (.int q2), .val (.int q3), .val (.int q4), .val (.long v3), .second, .val (.int v6), .val (.int (1 : Int32)), .val (.int (1 : Int32))]) rfl ?_
                show Steps p.tables e below (T18.setTop (mkF m 115 #[.val (.long q0), .second, .val (.int q1), .val (.int q2), .val (.int q3), .val (.int q4), .val (.long v3), .second, .val (.int v6), .val (.int (1 : Int32)), .val (.int (1 : Int32))] [])) _
                refine XS.iload X18.here hx rfl (hb hby at_115) rfl ?_
                show Steps p.tables e below (T18.setTop (mkF m 117 #[.val (.long q0), .second, .val (.int q1), .val (.int q2), .val (.int q3), .val (.int q4), .val (.long v3), .second, .val (.int v6), .val (.int (1 : Int32)), .val (.int (1 : Int32))] [(.int (1 : Int32))])) _
                refine XS.ifNo X18.here hx rfl (hb hby at_117) rfl (by decide) ?_
                show Steps p.tables e below (T18.setTop (mkF m 120 #[.val (.long q0), .second, .val (.int q1), .val (.int q2), .val (.int q3), .val (.int q4), .val (.long v3), .second, .val (.int v6), .val (.int (1 : Int32)), .val (.int (1 : Int32))] [])) _
                refine XS.iload X18.here hx rfl (hb hby at_120) rfl ?_
                show Steps p.tables e below (T18.setTop (mkF m 122 #[.val (.long q0), .second, .val (.int q1), .val (.int q2), .val (.int q3), .val (.int q4), .val (.long v3), .second, .val (.int v6), .val (.int (1 : Int32)), .val (.int (1 : Int32))] [(.int (1 : Int32))])) _
                refine XS.ifNo X18.here hx rfl (hb hby at_122) rfl (by decide) ?_
                show Steps p.tables e below (T18.setTop (mkF m 125 #[.val (.long q0), .second, .val (.int q1), .val (.int q2), .val (.int q3), .val (.int q4), .val (.long v3), .second, .val (.int v6), .val (.int (1 : Int32)), .val (.int (1 : Int32))] [])) _
                refine XS.iconst X18.here hx rfl (hb hby at_125) ?_
                show Steps p.tables e below (T18.setTop (mkF m 126 #[.val (.long q0), .second, .val (.int q1), .val (.int q2), .val (.int q3), .val (.int q4), .val (.long v3), .second, .val (.int v6), .val (.int (1 : Int32)), .val (.int (1 : Int32))] [(.int (1 : Int32))])) _
                refine XS.goto X18.here hx rfl (pc0 := 126) (pc' := 130) rfl (hb hby at_126) (by decide) (by decide) ?_
                show Steps p.tables e below (T18.setTop (mkF m 130 #[.val (.long q0), .second, .val (.int q1), .val (.int q2), .val (.int q3), .val (.int q4), .val (.long v3), .second, .val (.int v6), .val (.int (1 : Int32)), .val (.int (1 : Int32))] [(.int (1 : Int32))])) _
                exact retN X18 hx (t := .boolean) Bd.returns (by simp) (hb hby at_130) hr
              · show Q0 Z q0 q1 q2 q3 q4 h0 n0 _ T18.heap _
                rw [e18]
                exact ⟨by have w_hv6 := hv6.symm; subst w_hv6; have w_hv3 := hv3.symm; subst w_hv3; simp only [own_f0, if_pos c2, if_neg c9, if_neg c11, if_neg c13, if_pos c20, if_pos c22], N18⟩
            · obtain ⟨_, _, ⟨T23, L23, k23, n23⟩, -, X23, ⟨Lc23, hQ23, l23, y23, z23⟩, st23⟩ := Jvm.LawKit.callS X18 hx (y := (⟨"com/example/tributary/tributary/workload/SettingIndexLettersPinLaw", "pow26", "(I)J"⟩ : MethodName)) hown (mvT hZ (hw _ (List.mem_of_getElem? (i := 1) rfl))) (mvT hZ (hw _ (List.mem_of_getElem? (i := 2) rfl))) (mvT hZ (hw _ (List.mem_of_getElem? (i := 3) rfl))) (mvT hZ (hw _ (List.mem_of_getElem? (i := 4) rfl))) (by decide) (backOf (W := 2) (rm1 l Z a0 hw [] v6  h18 n0 sz18  (by first | exact own_inB (by assumption) (by assumption) (by assumption) | (rename_i hq; decide))) hZ (hw _ (List.mem_of_getElem? (i := 4) rfl)) (hw _ (List.mem_of_getElem? (i := 3) rfl)) (by decide) (by decide)) (g := (mkF m 101 #[.val (.long q0), .second, .val (.int q1), .val (.int q2), .val (.int q3), .val (.int q4), .val (.long v3), .second, .val (.int v6), .val (.int (1 : Int32)), .unset] [(.int v6), (.long v3)])) rfl (by rw [hml]; rfl) (argsL := [(.int v6)]) (rest := [(.long v3)]) (lenOf pd_5 rfl) rfl (by show 2 * 0 + _ ≤ _; exact Nat.le_of_eq rfl) (hb hby at_101) (fun _ _ => ⟨rfl, e18, (by decide : 1 + 1 ≤ _), (by decide : 14 + 14 ≤ _)⟩)
              dsimp only [Pt.U, Pt.locs, Pt.cells, Pt.slots] at X23 l23 y23 z23 st23 hQ23
              subst l23 y23 z23
              obtain ⟨rfl, N23q, K23⟩ := hQ23
              obtain ⟨h23, e23⟩ : ∃ z, T23.heap = z := ⟨_, rfl⟩
              rw [e23] at K23
              have sz23 : n0 ≤ h23.size := Nat.le_trans sz18 K23.1
              have N23 := Fr.app N18 N23q
              have pre24 : ∀ t, Steps p.tables e below (T23.setTop (mkF m 105 #[.val (.long q0), .second, .val (.int q1), .val (.int q2), .val (.int q3), .val (.int q4), .val (.long v3), .second, .val (.int v6), .val (.int (1 : Int32)), .unset] [(.int (lcmpW v3 (own_f1 v6)))])) t → Steps p.tables e below (s₁.setTop (entryFrame m #[(.long q0), (.int q1), (.int q2), (.int q3), (.int q4)] maxLocals)) t := by
                intro t k
                refine pre21 t ?_
                show Steps p.tables e below (T18.setTop (mkF m 94 #[.val (.long q0), .second, .val (.int q1), .val (.int q2), .val (.int q3), .val (.int q4), .val (.long v3), .second, .val (.int v6), .val (.int (1 : Int32)), .unset] [(.int (14 : Int32)), (.int v6)])) _
                refine XS.icmpNo X18.here hx rfl (hb hby at_94) rfl ((feq c22).1) ?_
                show Steps p.tables e below (T18.setTop (mkF m 97 #[.val (.long q0), .second, .val (.int q1), .val (.int q2), .val (.int q3), .val (.int q4), .val (.long v3), .second, .val (.int v6), .val (.int (1 : Int32)), .unset] [])) _
                refine XS.lload X18.here hx rfl (hb hby at_97) rfl ?_
                show Steps p.tables e below (T18.setTop (mkF m 99 #[.val (.long q0), .second, .val (.int q1), .val (.int q2), .val (.int q3), .val (.int q4), .val (.long v3), .second, .val (.int v6), .val (.int (1 : Int32)), .unset] [(.long v3)])) _
                refine XS.iload X18.here hx rfl (hb hby at_99) rfl ?_
                show Steps p.tables e below (T18.setTop (mkF m 101 #[.val (.long q0), .second, .val (.int q1), .val (.int q2), .val (.int q3), .val (.int q4), .val (.long v3), .second, .val (.int v6), .val (.int (1 : Int32)), .unset] [(.int v6), (.long v3)])) _
                refine st23 _ ?_
                show Steps p.tables e below (T23.setTop (mkF m 104 #[.val (.long q0), .second, .val (.int q1), .val (.int q2), .val (.int q3), .val (.int q4), .val (.long v3), .second, .val (.int v6), .val (.int (1 : Int32)), .unset] [(.long (own_f1 v6)), (.long v3)])) _
                refine XS.lcmp X23.here hx rfl (hb hby at_104) rfl ?_
                exact k
              by_cases c25 : (own_f1 v6) < v3
              · obtain ⟨fs, hr, hrun, hended, hW, hsame⟩ := X23.leave (v := some (.int (0 : Int32))) (fun h => by rw [Bd.returns] at h; cases h) hlk
                refine ⟨_, _, pre24 _ ?_, hrun, hended, _, _, rfl, ?_, ⟨_, rfl⟩, hW, hsame.mono (by decide) (by decide)⟩
                · show Steps p.tables e below (T23.setTop (mkF m 105 #[.val (.long q0), .second, .val (.int q1), .val (.int q2), .val (.int q3), .val (.int q4), .val (.long v3), .second, .val (.int v6), .val (.int (1 : Int32)), .unset] [(.int (lcmpW v3 (own_f1 v6)))])) _
                  refine XS.ifYes X23.here hx rfl (pc0 := 105) (pc' := 112) rfl (hb hby at_105) rfl ((if0 _ _).trans (tlt ((lw_gt v3 (own_f1 v6)).mpr c25)).2.2.1) (by decide) (by decide) ?_
                  show Steps p.tables e below (T23.setTop (mkF m 112 #[.val (.long q0), .second, .val (.int q1), .val (.int q2), .val (.int q3), .val (.int q4), .val (.long v3), .second, .val (.int v6), .val (.int (1 : Int32)), .unset] [])) _
                  refine XS.iconst X23.here hx rfl (hb hby at_112) ?_
                  show Steps p.tables e below (T23.setTop (mkF m 113 #[.val (.long q0), .second, .val (.int q1), .val (.int q2), .val (.int q3), .val (.int q4), .val (.long v3), .second, .val (.int v6), .val (.int (1 : Int32)), .unset] [(.int (0 : Int32))])) _
                  refine XS.istore X23.here hx rfl (hb hby at_113) rfl (l' := #[.val (.long q0), .second, .val (.int q1), .val (.int q2), .val (.int q3), .val (.int q4), .val (.long v3), .second, .val (.int v6), .val (.int (1 : Int32)), .val (.int (0 : Int32))]) rfl ?_
                  show Steps p.tables e below (T23.setTop (mkF m 115 #[.val (.long q0), .second, .val (.int q1), .val (.int q2), .val (.int q3), .val (.int q4), .val (.long v3), .second, .val (.int v6), .val (.int (1 : Int32)), .val (.int (0 : Int32))] [])) _
                  refine XS.iload X23.here hx rfl (hb hby at_115) rfl ?_
                  show Steps p.tables e below (T23.setTop (mkF m 117 #[.val (.long q0), .second, .val (.int q1), .val (.int q2), .val (.int q3), .val (.int q4), .val (.long v3), .second, .val (.int v6), .val (.int (1 : Int32)), .val (.int (0 : Int32))] [(.int (1 : Int32))])) _
                  refine XS.ifNo X23.here hx rfl (hb hby at_117) rfl (by decide) ?_
                  show Steps p.tables e below (T23.setTop (mkF m 120 #[.val (.long q0), .second, .val (.int q1), .val (.int q2), .val (.int q3), .val (.int q4), .val (.long v3), .second, .val (.int v6), .val (.int (1 : Int32)), .val (.int (0 : Int32))] [])) _
                  refine XS.iload X23.here hx rfl (hb hby at_120) rfl ?_
                  show Steps p.tables e below (T23.setTop (mkF m 122 #[.val (.long q0), .second, .val (.int q1), .val (.int q2), .val (.int q3), .val (.int q4), .val (.long v3), .second, .val (.int v6), .val (.int (1 : Int32)), .val (.int (0 : Int32))] [(.int (0 : Int32))])) _
                  refine XS.ifYes X23.here hx rfl (pc0 := 122) (pc' := 129) rfl (hb hby at_122) rfl (by decide) (by decide) (by decide) ?_
                  show Steps p.tables e below (T23.setTop (mkF m 129 #[.val (.long q0), .second, .val (.int q1), .val (.int q2), .val (.int q3), .val (.int q4), .val (.long v3), .second, .val (.int v6), .val (.int (1 : Int32)), .val (.int (0 : Int32))] [])) _
                  refine XS.iconst X23.here hx rfl (hb hby at_129) ?_
                  show Steps p.tables e below (T23.setTop (mkF m 130 #[.val (.long q0), .second, .val (.int q1), .val (.int q2), .val (.int q3), .val (.int q4), .val (.long v3), .second, .val (.int v6), .val (.int (1 : Int32)), .val (.int (0 : Int32))] [(.int (0 : Int32))])) _
                  exact retN X23 hx (t := .boolean) Bd.returns (by simp) (hb hby at_130) hr
                · show Q0 Z q0 q1 q2 q3 q4 h0 n0 _ T23.heap _
                  rw [e23]
                  exact ⟨by have w_hv6 := hv6.symm; subst w_hv6; have w_hv3 := hv3.symm; subst w_hv3; simp only [own_f0, if_pos c2, if_neg c9, if_neg c11, if_neg c13, if_pos c20, if_neg c22, if_pos c25], N23⟩
              · obtain ⟨fs, hr, hrun, hended, hW, hsame⟩ := X23.leave (v := some (.int (1 : Int32))) (fun h => by rw [Bd.returns] at h; cases h) hlk
                refine ⟨_, _, pre24 _ ?_, hrun, hended, _, _, rfl, ?_, ⟨_, rfl⟩, hW, hsame.mono (by decide) (by decide)⟩
                · show Steps p.tables e below (T23.setTop (mkF m 105 #[.val (.long q0), .second, .val (.int q1), .val (.int q2), .val (.int q3), .val (.int q4), .val (.long v3), .second, .val (.int v6), .val (.int (1 : Int32)), .unset] [(.int (lcmpW v3 (own_f1 v6)))])) _
                  refine XS.ifNo X23.here hx rfl (hb hby at_105) rfl ((if0 _ _).trans (flt (mt (lw_gt v3 (own_f1 v6)).mp c25)).2.2.1) ?_
                  show Steps p.tables e below (T23.setTop (mkF m 108 #[.val (.long q0), .second, .val (.int q1), .val (.int q2), .val (.int q3), .val (.int q4), .val (.long v3), .second, .val (.int v6), .val (.int (1 : Int32)), .unset] [])) _
                  refine XS.iconst X23.here hx rfl (hb hby at_108) ?_
                  show Steps p.tables e below (T23.setTop (mkF m 109 #[.val (.long q0), .second, .val (.int q1), .val (.int q2), .val (.int q3), .val (.int q4), .val (.long v3), .second, .val (.int v6), .val (.int (1 : Int32)), .unset] [(.int (1 : Int32))])) _
                  refine XS.goto X23.here hx rfl (pc0 := 109) (pc' := 113) rfl (hb hby at_109) (by decide) (by decide) ?_
                  show Steps p.tables e below (T23.setTop (mkF m 113 #[.val (.long q0), .second, .val (.int q1), .val (.int q2), .val (.int q3), .val (.int q4), .val (.long v3), .second, .val (.int v6), .val (.int (1 : Int32)), .unset] [(.int (1 : Int32))])) _
                  refine XS.istore X23.here hx rfl (hb hby at_113) rfl (l' := #[.val (.long q0), .second, .val (.int q1), .val (.int q2), .val (.int q3), .val (.int q4), .val (.long v3), .second, .val (.int v6), .val (.int (1 : Int32)), .val (.int (1 : Int32))]) rfl ?_
                  show Steps p.tables e below (T23.setTop (mkF m 115 #[.val (.long q0), .second, .val (.int q1), .val (.int q2), .val (.int q3), .val (.int q4), .val (.long v3), .second, .val (.int v6), .val (.int (1 : Int32)), .val (.int (1 : Int32))] [])) _
                  refine XS.iload X23.here hx rfl (hb hby at_115) rfl ?_
                  show Steps p.tables e below (T23.setTop (mkF m 117 #[.val (.long q0), .second, .val (.int q1), .val (.int q2), .val (.int q3), .val (.int q4), .val (.long v3), .second, .val (.int v6), .val (.int (1 : Int32)), .val (.int (1 : Int32))] [(.int (1 : Int32))])) _
                  refine XS.ifNo X23.here hx rfl (hb hby at_117) rfl (by decide) ?_
                  show Steps p.tables e below (T23.setTop (mkF m 120 #[.val (.long q0), .second, .val (.int q1), .val (.int q2), .val (.int q3), .val (.int q4), .val (.long v3), .second, .val (.int v6), .val (.int (1 : Int32)), .val (.int (1 : Int32))] [])) _
                  refine XS.iload X23.here hx rfl (hb hby at_120) rfl ?_
                  show Steps p.tables e below (T23.setTop (mkF m 122 #[.val (.long q0), .second, .val (.int q1), .val (.int q2), .val (.int q3), .val (.int q4), .val (.long v3), .second, .val (.int v6), .val (.int (1 : Int32)), .val (.int (1 : Int32))] [(.int (1 : Int32))])) _
                  refine XS.ifNo X23.here hx rfl (hb hby at_122) rfl (by decide) ?_
                  show Steps p.tables e below (T23.setTop (mkF m 125 #[.val (.long q0), .second, .val (.int q1), .val (.int q2), .val (.int q3), .val (.int q4), .val (.long v3), .second, .val (.int v6), .val (.int (1 : Int32)), .val (.int (1 : Int32))] [])) _
                  refine XS.iconst X23.here hx rfl (hb hby at_125) ?_
                  show Steps p.tables e below (T23.setTop (mkF m 126 #[.val (.long q0), .second, .val (.int q1), .val (.int q2), .val (.int q3), .val (.int q4), .val (.long v3), .second, .val (.int v6), .val (.int (1 : Int32)), .val (.int (1 : Int32))] [(.int (1 : Int32))])) _
                  refine XS.goto X23.here hx rfl (pc0 := 126) (pc' := 130) rfl (hb hby at_126) (by decide) (by decide) ?_
                  show Steps p.tables e below (T23.setTop (mkF m 130 #[.val (.long q0), .second, .val (.int q1), .val (.int q2), .val (.int q3), .val (.int q4), .val (.long v3), .second, .val (.int v6), .val (.int (1 : Int32)), .val (.int (1 : Int32))] [(.int (1 : Int32))])) _
                  exact retN X23 hx (t := .boolean) Bd.returns (by simp) (hb hby at_130) hr
                · show Q0 Z q0 q1 q2 q3 q4 h0 n0 _ T23.heap _
                  rw [e23]
                  exact ⟨by have w_hv6 := hv6.symm; subst w_hv6; have w_hv3 := hv3.symm; subst w_hv3; simp only [own_f0, if_pos c2, if_neg c9, if_neg c11, if_neg c13, if_pos c20, if_neg c22, if_neg c25], N23⟩
          · have pre26 : ∀ t, Steps p.tables e below (T18.setTop (mkF m 94 #[.val (.long q0), .second, .val (.int q1), .val (.int q2), .val (.int q3), .val (.int q4), .val (.long v3), .second, .val (.int v6), .val (.int (0 : Int32)), .unset] [(.int (14 : Int32)), (.int v6)])) t → Steps p.tables e below (s₁.setTop (entryFrame m #[(.long q0), (.int q1), (.int q2), (.int q3), (.int q4)] maxLocals)) t := by
              intro t k
              refine pre19 t ?_
              show Steps p.tables e below (T18.setTop (mkF m 80 #[.val (.long q0), .second, .val (.int q1), .val (.int q2), .val (.int q3), .val (.int q4), .val (.long v3), .second, .val (.int v6), .unset, .unset] [(.int (lcmpW (own_f1 ((v6 - (1 : Int32)))) v3))])) _
              refine XS.ifYes X18.here hx rfl (pc0 := 80) (pc' := 87) rfl (hb hby at_80) rfl ((if0 _ _).trans (flt (mt (lw_lt (own_f1 ((v6 - (1 : Int32)))) v3).mp c20)).2.1) (by decide) (by decide) ?_
              show Steps p.tables e below (T18.setTop (mkF m 87 #[.val (.long q0), .second, .val (.int q1), .val (.int q2), .val (.int q3), .val (.int q4), .val (.long v3), .second, .val (.int v6), .unset, .unset] [])) _
              refine XS.iconst X18.here hx rfl (hb hby at_87) ?_
              show Steps p.tables e below (T18.setTop (mkF m 88 #[.val (.long q0), .second, .val (.int q1), .val (.int q2), .val (.int q3), .val (.int q4), .val (.long v3), .second, .val (.int v6), .unset, .unset] [(.int (0 : Int32))])) _
              refine XS.istore X18.here hx rfl (hb hby at_88) rfl (l' := #[.val (.long q0), .second, .val (.int q1), .val (.int q2), .val (.int q3), .val (.int q4), .val (.long v3), .second, .val (.int v6), .val (.int (0 : Int32)), .unset]) rfl ?_
              show Steps p.tables e below (T18.setTop (mkF m 90 #[.val (.long q0), .second, .val (.int q1), .val (.int q2), .val (.int q3), .val (.int q4), .val (.long v3), .second, .val (.int v6), .val (.int (0 : Int32)), .unset] [])) _
              refine XS.iload X18.here hx rfl (hb hby at_90) rfl ?_
              show Steps p.tables e below (T18.setTop (mkF m 92 #[.val (.long q0), .second, .val (.int q1), .val (.int q2), .val (.int q3), .val (.int q4), .val (.long v3), .second, .val (.int v6), .val (.int (0 : Int32)), .unset] [(.int v6)])) _
              refine XS.bipush X18.here hx rfl (hb hby at_92) ?_
              exact k
            by_cases c27 : v6 = (14 : Int32)
            · obtain ⟨fs, hr, hrun, hended, hW, hsame⟩ := X18.leave (v := some (.int (0 : Int32))) (fun h => by rw [Bd.returns] at h; cases h) hlk
              refine ⟨_, _, pre26 _ ?_, hrun, hended, _, _, rfl, ?_, ⟨_, rfl⟩, hW, hsame.mono (by decide) (by decide)⟩
              · show Steps p.tables e below (T18.setTop (mkF m 94 #[.val (.long q0), .second, .val (.int q1), .val (.int q2), .val (.int q3), .val (.int q4), .val (.long v3), .second, .val (.int v6), .val (.int (0 : Int32)), .unset] [(.int (14 : Int32)), (.int v6)])) _
                refine XS.icmpYes X18.here hx rfl (pc0 := 94) (pc' := 108) rfl (hb hby at_94) rfl ((teq c27).1) (by decide) (by decide) ?_
                show Steps p.tables e below (T18.setTop (mkF m 108 #[.val (.long q0), .second, .val (.int q1), .val (.int q2), .val (.int q3), .val (.int q4), .val (.long v3), .second, .val (.int v6), .val (.int (0 : Int32)), .unset] [])) _
                refine XS.iconst X18.here hx rfl (hb hby at_108) ?_
                show Steps p.tables e below (T18.setTop (mkF m 109 #[.val (.long q0), .second, .val (.int q1), .val (.int q2), .val (.int q3), .val (.int q4), .val (.long v3), .second, .val (.int v6), .val (.int (0 : Int32)), .unset] [(.int (1 : Int32))])) _
                refine XS.goto X18.here hx rfl (pc0 := 109) (pc' := 113) rfl (hb hby at_109) (by decide) (by decide) ?_
                show Steps p.tables e below (T18.setTop (mkF m 113 #[.val (.long q0), .second, .val (.int q1), .val (.int q2), .val (.int q3), .val (.int q4), .val (.long v3), .second, .val (.int v6), .val (.int (0 : Int32)), .unset] [(.int (1 : Int32))])) _
                refine XS.istore X18.here hx rfl (hb hby at_113) rfl (l' := #[.val (.long q0), .second, .val (.int q1), .val (.int q2), .val (.int q3), .val (.int q4), .val (.long v3), .second, .val (.int v6), .val (.int (0 : Int32)), .val (.int (1 : Int32))]) rfl ?_
                show Steps p.tables e below (T18.setTop (mkF m 115 #[.val (.long q0), .second, .val (.int q1), .val (.int q2), .val (.int q3), .val (.int q4), .val (.long v3), .second, .val (.int v6), .val (.int (0 : Int32)), .val (.int (1 : Int32))] [])) _
                refine XS.iload X18.here hx rfl (hb hby at_115) rfl ?_
                show Steps p.tables e below (T18.setTop (mkF m 117 #[.val (.long q0), .second, .val (.int q1), .val (.int q2), .val (.int q3), .val (.int q4), .val (.long v3), .second, .val (.int v6), .val (.int (0 : Int32)), .val (.int (1 : Int32))] [(.int (0 : Int32))])) _
                refine XS.ifYes X18.here hx rfl (pc0 := 117) (pc' := 129) rfl (hb hby at_117) rfl (by decide) (by decide) (by decide) ?_
                show Steps p.tables e below (T18.setTop (mkF m 129 #[.val (.long q0), .second, .val (.int q1), .val (.int q2), .val (.int q3), .val (.int q4), .val (.long v3), .second, .val (.int v6), .val (.int (0 : Int32)), .val (.int (1 : Int32))] [])) _
                refine XS.iconst X18.here hx rfl (hb hby at_129) ?_
                show Steps p.tables e below (T18.setTop (mkF m 130 #[.val (.long q0), .second, .val (.int q1), .val (.int q2), .val (.int q3), .val (.int q4), .val (.long v3), .second, .val (.int v6), .val (.int (0 : Int32)), .val (.int (1 : Int32))] [(.int (0 : Int32))])) _
                exact retN X18 hx (t := .boolean) Bd.returns (by simp) (hb hby at_130) hr
              · show Q0 Z q0 q1 q2 q3 q4 h0 n0 _ T18.heap _
                rw [e18]
                exact ⟨by have w_hv6 := hv6.symm; subst w_hv6; have w_hv3 := hv3.symm; subst w_hv3; simp only [own_f0, if_pos c2, if_neg c9, if_neg c11, if_neg c13, if_neg c20, if_pos c27], N18⟩
            · obtain ⟨_, _, ⟨T28, L28, k28, n28⟩, -, X28, ⟨Lc28, hQ28, l28, y28, z28⟩, st28⟩ := Jvm.LawKit.callS X18 hx (y := (⟨"com/example/tributary/tributary/workload/SettingIndexLettersPinLaw", "pow26", "(I)J"⟩ : MethodName)) hown (mvT hZ (hw _ (List.mem_of_getElem? (i := 1) rfl))) (mvT hZ (hw _ (List.mem_of_getElem? (i := 2) rfl))) (mvT hZ (hw _ (List.mem_of_getElem? (i := 3) rfl))) (mvT hZ (hw _ (List.mem_of_getElem? (i := 4) rfl))) (by decide) (backOf (W := 2) (rm1 l Z a0 hw [] v6  h18 n0 sz18  (by first | exact own_inB (by assumption) (by assumption) (by assumption) | (rename_i hq; decide))) hZ (hw _ (List.mem_of_getElem? (i := 4) rfl)) (hw _ (List.mem_of_getElem? (i := 3) rfl)) (by decide) (by decide)) (g := (mkF m 101 #[.val (.long q0), .second, .val (.int q1), .val (.int q2), .val (.int q3), .val (.int q4), .val (.long v3), .second, .val (.int v6), .val (.int (0 : Int32)), .unset] [(.int v6), (.long v3)])) rfl (by rw [hml]; rfl) (argsL := [(.int v6)]) (rest := [(.long v3)]) (lenOf pd_5 rfl) rfl (by show 2 * 0 + _ ≤ _; exact Nat.le_of_eq rfl) (hb hby at_101) (fun _ _ => ⟨rfl, e18, (by decide : 1 + 1 ≤ _), (by decide : 14 + 14 ≤ _)⟩)
              dsimp only [Pt.U, Pt.locs, Pt.cells, Pt.slots] at X28 l28 y28 z28 st28 hQ28
              subst l28 y28 z28
              obtain ⟨rfl, N28q, K28⟩ := hQ28
              obtain ⟨h28, e28⟩ : ∃ z, T28.heap = z := ⟨_, rfl⟩
              rw [e28] at K28
              have sz28 : n0 ≤ h28.size := Nat.le_trans sz18 K28.1
              have N28 := Fr.app N18 N28q
              have pre29 : ∀ t, Steps p.tables e below (T28.setTop (mkF m 105 #[.val (.long q0), .second, .val (.int q1), .val (.int q2), .val (.int q3), .val (.int q4), .val (.long v3), .second, .val (.int v6), .val (.int (0 : Int32)), .unset] [(.int (lcmpW v3 (own_f1 v6)))])) t → Steps p.tables e below (s₁.setTop (entryFrame m #[(.long q0), (.int q1), (.int q2), (.int q3), (.int q4)] maxLocals)) t := by
                intro t k
                refine pre26 t ?_
                show Steps p.tables e below (T18.setTop (mkF m 94 #[.val (.long q0), .second, .val (.int q1), .val (.int q2), .val (.int q3), .val (.int q4), .val (.long v3), .second, .val (.int v6), .val (.int (0 : Int32)), .unset] [(.int (14 : Int32)), (.int v6)])) _
                refine XS.icmpNo X18.here hx rfl (hb hby at_94) rfl ((feq c27).1) ?_
                show Steps p.tables e below (T18.setTop (mkF m 97 #[.val (.long q0), .second, .val (.int q1), .val (.int q2), .val (.int q3), .val (.int q4), .val (.long v3), .second, .val (.int v6), .val (.int (0 : Int32)), .unset] [])) _
                refine XS.lload X18.here hx rfl (hb hby at_97) rfl ?_
                show Steps p.tables e below (T18.setTop (mkF m 99 #[.val (.long q0), .second, .val (.int q1), .val (.int q2), .val (.int q3), .val (.int q4), .val (.long v3), .second, .val (.int v6), .val (.int (0 : Int32)), .unset] [(.long v3)])) _
                refine XS.iload X18.here hx rfl (hb hby at_99) rfl ?_
                show Steps p.tables e below (T18.setTop (mkF m 101 #[.val (.long q0), .second, .val (.int q1), .val (.int q2), .val (.int q3), .val (.int q4), .val (.long v3), .second, .val (.int v6), .val (.int (0 : Int32)), .unset] [(.int v6), (.long v3)])) _
                refine st28 _ ?_
                show Steps p.tables e below (T28.setTop (mkF m 104 #[.val (.long q0), .second, .val (.int q1), .val (.int q2), .val (.int q3), .val (.int q4), .val (.long v3), .second, .val (.int v6), .val (.int (0 : Int32)), .unset] [(.long (own_f1 v6)), (.long v3)])) _
                refine XS.lcmp X28.here hx rfl (hb hby at_104) rfl ?_
                exact k
              by_cases c30 : (own_f1 v6) < v3
              · obtain ⟨fs, hr, hrun, hended, hW, hsame⟩ := X28.leave (v := some (.int (0 : Int32))) (fun h => by rw [Bd.returns] at h; cases h) hlk
                refine ⟨_, _, pre29 _ ?_, hrun, hended, _, _, rfl, ?_, ⟨_, rfl⟩, hW, hsame.mono (by decide) (by decide)⟩
                · show Steps p.tables e below (T28.setTop (mkF m 105 #[.val (.long q0), .second, .val (.int q1), .val (.int q2), .val (.int q3), .val (.int q4), .val (.long v3), .second, .val (.int v6), .val (.int (0 : Int32)), .unset] [(.int (lcmpW v3 (own_f1 v6)))])) _
                  refine XS.ifYes X28.here hx rfl (pc0 := 105) (pc' := 112) rfl (hb hby at_105) rfl ((if0 _ _).trans (tlt ((lw_gt v3 (own_f1 v6)).mpr c30)).2.2.1) (by decide) (by decide) ?_
                  show Steps p.tables e below (T28.setTop (mkF m 112 #[.val (.long q0), .second, .val (.int q1), .val (.int q2), .val (.int q3), .val (.int q4), .val (.long v3), .second, .val (.int v6), .val (.int (0 : Int32)), .unset] [])) _
                  refine XS.iconst X28.here hx rfl (hb hby at_112) ?_
                  show Steps p.tables e below (T28.setTop (mkF m 113 #[.val (.long q0), .second, .val (.int q1), .val (.int q2), .val (.int q3), .val (.int q4), .val (.long v3), .second, .val (.int v6), .val (.int (0 : Int32)), .unset] [(.int (0 : Int32))])) _
                  refine XS.istore X28.here hx rfl (hb hby at_113) rfl (l' := #[.val (.long q0), .second, .val (.int q1), .val (.int q2), .val (.int q3), .val (.int q4), .val (.long v3), .second, .val (.int v6), .val (.int (0 : Int32)), .val (.int (0 : Int32))]) rfl ?_
                  show Steps p.tables e below (T28.setTop (mkF m 115 #[.val (.long q0), .second, .val (.int q1), .val (.int q2), .val (.int q3), .val (.int q4), .val (.long v3), .second, .val (.int v6), .val (.int (0 : Int32)), .val (.int (0 : Int32))] [])) _
                  refine XS.iload X28.here hx rfl (hb hby at_115) rfl ?_
                  show Steps p.tables e below (T28.setTop (mkF m 117 #[.val (.long q0), .second, .val (.int q1), .val (.int q2), .val (.int q3), .val (.int q4), .val (.long v3), .second, .val (.int v6), .val (.int (0 : Int32)), .val (.int (0 : Int32))] [(.int (0 : Int32))])) _
                  refine XS.ifYes X28.here hx rfl (pc0 := 117) (pc' := 129) rfl (hb hby at_117) rfl (by decide) (by decide) (by decide) ?_
                  show Steps p.tables e below (T28.setTop (mkF m 129 #[.val (.long q0), .second, .val (.int q1), .val (.int q2), .val (.int q3), .val (.int q4), .val (.long v3), .second, .val (.int v6), .val (.int (0 : Int32)), .val (.int (0 : Int32))] [])) _
                  refine XS.iconst X28.here hx rfl (hb hby at_129) ?_
                  show Steps p.tables e below (T28.setTop (mkF m 130 #[.val (.long q0), .second, .val (.int q1), .val (.int q2), .val (.int q3), .val (.int q4), .val (.long v3), .second, .val (.int v6), .val (.int (0 : Int32)), .val (.int (0 : Int32))] [(.int (0 : Int32))])) _
                  exact retN X28 hx (t := .boolean) Bd.returns (by simp) (hb hby at_130) hr
                · show Q0 Z q0 q1 q2 q3 q4 h0 n0 _ T28.heap _
                  rw [e28]
                  exact ⟨by have w_hv6 := hv6.symm; subst w_hv6; have w_hv3 := hv3.symm; subst w_hv3; simp only [own_f0, if_pos c2, if_neg c9, if_neg c11, if_neg c13, if_neg c20, if_neg c27, if_pos c30], N28⟩
              · obtain ⟨fs, hr, hrun, hended, hW, hsame⟩ := X28.leave (v := some (.int (0 : Int32))) (fun h => by rw [Bd.returns] at h; cases h) hlk
                refine ⟨_, _, pre29 _ ?_, hrun, hended, _, _, rfl, ?_, ⟨_, rfl⟩, hW, hsame.mono (by decide) (by decide)⟩
                · show Steps p.tables e below (T28.setTop (mkF m 105 #[.val (.long q0), .second, .val (.int q1), .val (.int q2), .val (.int q3), .val (.int q4), .val (.long v3), .second, .val (.int v6), .val (.int (0 : Int32)), .unset] [(.int (lcmpW v3 (own_f1 v6)))])) _
                  refine XS.ifNo X28.here hx rfl (hb hby at_105) rfl ((if0 _ _).trans (flt (mt (lw_gt v3 (own_f1 v6)).mp c30)).2.2.1) ?_
                  show Steps p.tables e below (T28.setTop (mkF m 108 #[.val (.long q0), .second, .val (.int q1), .val (.int q2), .val (.int q3), .val (.int q4), .val (.long v3), .second, .val (.int v6), .val (.int (0 : Int32)), .unset] [])) _
                  refine XS.iconst X28.here hx rfl (hb hby at_108) ?_
                  show Steps p.tables e below (T28.setTop (mkF m 109 #[.val (.long q0), .second, .val (.int q1), .val (.int q2), .val (.int q3), .val (.int q4), .val (.long v3), .second, .val (.int v6), .val (.int (0 : Int32)), .unset] [(.int (1 : Int32))])) _
                  refine XS.goto X28.here hx rfl (pc0 := 109) (pc' := 113) rfl (hb hby at_109) (by decide) (by decide) ?_
                  show Steps p.tables e below (T28.setTop (mkF m 113 #[.val (.long q0), .second, .val (.int q1), .val (.int q2), .val (.int q3), .val (.int q4), .val (.long v3), .second, .val (.int v6), .val (.int (0 : Int32)), .unset] [(.int (1 : Int32))])) _
                  refine XS.istore X28.here hx rfl (hb hby at_113) rfl (l' := #[.val (.long q0), .second, .val (.int q1), .val (.int q2), .val (.int q3), .val (.int q4), .val (.long v3), .second, .val (.int v6), .val (.int (0 : Int32)), .val (.int (1 : Int32))]) rfl ?_
                  show Steps p.tables e below (T28.setTop (mkF m 115 #[.val (.long q0), .second, .val (.int q1), .val (.int q2), .val (.int q3), .val (.int q4), .val (.long v3), .second, .val (.int v6), .val (.int (0 : Int32)), .val (.int (1 : Int32))] [])) _
                  refine XS.iload X28.here hx rfl (hb hby at_115) rfl ?_
                  show Steps p.tables e below (T28.setTop (mkF m 117 #[.val (.long q0), .second, .val (.int q1), .val (.int q2), .val (.int q3), .val (.int q4), .val (.long v3), .second, .val (.int v6), .val (.int (0 : Int32)), .val (.int (1 : Int32))] [(.int (0 : Int32))])) _
                  refine XS.ifYes X28.here hx rfl (pc0 := 117) (pc' := 129) rfl (hb hby at_117) rfl (by decide) (by decide) (by decide) ?_
                  show Steps p.tables e below (T28.setTop (mkF m 129 #[.val (.long q0), .second, .val (.int q1), .val (.int q2), .val (.int q3), .val (.int q4), .val (.long v3), .second, .val (.int v6), .val (.int (0 : Int32)), .val (.int (1 : Int32))] [])) _
                  refine XS.iconst X28.here hx rfl (hb hby at_129) ?_
                  show Steps p.tables e below (T28.setTop (mkF m 130 #[.val (.long q0), .second, .val (.int q1), .val (.int q2), .val (.int q3), .val (.int q4), .val (.long v3), .second, .val (.int v6), .val (.int (0 : Int32)), .val (.int (1 : Int32))] [(.int (0 : Int32))])) _
                  exact retN X28 hx (t := .boolean) Bd.returns (by simp) (hb hby at_130) hr
                · show Q0 Z q0 q1 q2 q3 q4 h0 n0 _ T28.heap _
                  rw [e28]
                  exact ⟨by have w_hv6 := hv6.symm; subst w_hv6; have w_hv3 := hv3.symm; subst w_hv3; simp only [own_f0, if_pos c2, if_neg c9, if_neg c11, if_neg c13, if_neg c20, if_neg c27, if_neg c30], N28⟩
  · obtain ⟨v31, hv31⟩ : ∃ z : Int32, z = ((q2 &&& (2147483647 : Int32)) % (14 : Int32)) := ⟨_, rfl⟩
    have pre32 : ∀ t, Steps p.tables e below (s₁.setTop (mkF m 14 #[.val (.long q0), .second, .val (.int q1), .val (.int q2), .val (.int q3), .val (.int q4), .unset, .unset, .unset, .unset, .unset] [(.int v31)])) t → Steps p.tables e below (s₁.setTop (entryFrame m #[(.long q0), (.int q1), (.int q2), (.int q3), (.int q4)] maxLocals)) t := by
      rw [hv31]
      intro t k
      refine pre1 t ?_
      show Steps p.tables e below (s₁.setTop (mkF m 4 #[.val (.long q0), .second, .val (.int q1), .val (.int q2), .val (.int q3), .val (.int q4), .unset, .unset, .unset, .unset, .unset] [(.int (q4 &&& (1 : Int32)))])) _
      refine XS.ifNo X0.here hx rfl (hb hby at_4) rfl ((if0 _ _).trans (feq c2).1) ?_
      show Steps p.tables e below (s₁.setTop (mkF m 7 #[.val (.long q0), .second, .val (.int q1), .val (.int q2), .val (.int q3), .val (.int q4), .unset, .unset, .unset, .unset, .unset] [])) _
      refine XS.iloadN X0.here hx rfl (hb hby at_7) rfl ?_
      show Steps p.tables e below (s₁.setTop (mkF m 8 #[.val (.long q0), .second, .val (.int q1), .val (.int q2), .val (.int q3), .val (.int q4), .unset, .unset, .unset, .unset, .unset] [(.int q2)])) _
      refine X0.ldcInt hx hown (mvT hZ (hw _ (List.mem_of_getElem? (i := 0) rfl))) (g := (mkF m 8 #[.val (.long q0), .second, .val (.int q1), .val (.int q2), .val (.int q3), .val (.int q4), .unset, .unset, .unset, .unset, .unset] [(.int q2)])) rfl (hb hby at_8) _ ?_
      show Steps p.tables e below (s₁.setTop (mkF m 10 #[.val (.long q0), .second, .val (.int q1), .val (.int q2), .val (.int q3), .val (.int q4), .unset, .unset, .unset, .unset, .unset] [(.int (2147483647 : Int32)), (.int q2)])) _
      refine XS.iand X0.here hx rfl (hb hby at_10) rfl ?_
      show Steps p.tables e below (s₁.setTop (mkF m 11 #[.val (.long q0), .second, .val (.int q1), .val (.int q2), .val (.int q3), .val (.int q4), .unset, .unset, .unset, .unset, .unset] [(.int (q2 &&& (2147483647 : Int32)))])) _
      refine XS.bipush X0.here hx rfl (hb hby at_11) ?_
      show Steps p.tables e below (s₁.setTop (mkF m 13 #[.val (.long q0), .second, .val (.int q1), .val (.int q2), .val (.int q3), .val (.int q4), .unset, .unset, .unset, .unset, .unset] [(.int (14 : Int32)), (.int (q2 &&& (2147483647 : Int32)))])) _
      refine iremM X0 hx rfl (hb hby at_13) rfl (by decide) ?_
      exact k
    obtain ⟨_, _, ⟨T33, L33, k33, n33⟩, -, X33, ⟨Lc33, hQ33, l33, y33, z33⟩, st33⟩ := Jvm.LawKit.callS X0 hx (y := (⟨"com/example/tributary/tributary/workload/SettingIndexLettersPinLaw", "pow26", "(I)J"⟩ : MethodName)) hown (mvT hZ (hw _ (List.mem_of_getElem? (i := 1) rfl))) (mvT hZ (hw _ (List.mem_of_getElem? (i := 2) rfl))) (mvT hZ (hw _ (List.mem_of_getElem? (i := 3) rfl))) (mvT hZ (hw _ (List.mem_of_getElem? (i := 4) rfl))) (by decide) (backOf (W := 0) (rm1 l Z a0 hw [] v31  h0 n0 Z0  (own_in14 (by assumption))) hZ (hw _ (List.mem_of_getElem? (i := 4) rfl)) (hw _ (List.mem_of_getElem? (i := 3) rfl)) (by decide) (by decide)) (g := (mkF m 18 #[.val (.long q0), .second, .val (.int q1), .val (.int q2), .val (.int q3), .val (.int q4), .unset, .unset, .val (.int v31), .unset, .unset] [(.int v31)])) rfl (by rw [hml]; rfl) (argsL := [(.int v31)]) (rest := []) (lenOf pd_5 rfl) rfl (by show 2 * 0 + _ ≤ _; exact Nat.le_of_eq rfl) (hb hby at_18) (fun _ _ => ⟨rfl, e0, (by decide : 0 + 1 ≤ _), (by decide : 0 + 14 ≤ _)⟩)
    dsimp only [Pt.U, Pt.locs, Pt.cells, Pt.slots] at X33 l33 y33 z33 st33 hQ33
    subst l33 y33 z33
    obtain ⟨rfl, N33q, K33⟩ := hQ33
    obtain ⟨h33, e33⟩ : ∃ z, T33.heap = z := ⟨_, rfl⟩
    rw [e33] at K33
    have sz33 : n0 ≤ h33.size := Nat.le_trans Z0 K33.1
    have N33 := Fr.app N0 N33q
    obtain ⟨v34, hv34⟩ : ∃ z : Int64, z = ((own_f1 v31) + (((q3 &&& (3 : Int32)) - (1 : Int32))).toInt64) := ⟨_, rfl⟩
    have pre35 : ∀ t, Steps p.tables e below (T33.setTop (mkF m 29 #[.val (.long q0), .second, .val (.int q1), .val (.int q2), .val (.int q3), .val (.int q4), .unset, .unset, .val (.int v31), .unset, .unset] [(.long v34)])) t → Steps p.tables e below (s₁.setTop (entryFrame m #[(.long q0), (.int q1), (.int q2), (.int q3), (.int q4)] maxLocals)) t := by
      rw [hv34]
      intro t k
      refine pre32 t ?_
      show Steps p.tables e below (s₁.setTop (mkF m 14 #[.val (.long q0), .second, .val (.int q1), .val (.int q2), .val (.int q3), .val (.int q4), .unset, .unset, .unset, .unset, .unset] [(.int v31)])) _
      refine XS.istore X0.here hx rfl (hb hby at_14) rfl (l' := #[.val (.long q0), .second, .val (.int q1), .val (.int q2), .val (.int q3), .val (.int q4), .unset, .unset, .val (.int v31), .unset, .unset]) rfl ?_
      show Steps p.tables e below (s₁.setTop (mkF m 16 #[.val (.long q0), .second, .val (.int q1), .val (.int q2), .val (.int q3), .val (.int q4), .unset, .unset, .val (.int v31), .unset, .unset] [])) _
      refine XS.iload X0.here hx rfl (hb hby at_16) rfl ?_
      show Steps p.tables e below (s₁.setTop (mkF m 18 #[.val (.long q0), .second, .val (.int q1), .val (.int q2), .val (.int q3), .val (.int q4), .unset, .unset, .val (.int v31), .unset, .unset] [(.int v31)])) _
      refine st33 _ ?_
      show Steps p.tables e below (T33.setTop (mkF m 21 #[.val (.long q0), .second, .val (.int q1), .val (.int q2), .val (.int q3), .val (.int q4), .unset, .unset, .val (.int v31), .unset, .unset] [(.long (own_f1 v31))])) _
      refine XS.iload X33.here hx rfl (hb hby at_21) rfl ?_
      show Steps p.tables e below (T33.setTop (mkF m 23 #[.val (.long q0), .second, .val (.int q1), .val (.int q2), .val (.int q3), .val (.int q4), .unset, .unset, .val (.int v31), .unset, .unset] [(.int q3), (.long (own_f1 v31))])) _
      refine XS.iconst X33.here hx rfl (hb hby at_23) ?_
      show Steps p.tables e below (T33.setTop (mkF m 24 #[.val (.long q0), .second, .val (.int q1), .val (.int q2), .val (.int q3), .val (.int q4), .unset, .unset, .val (.int v31), .unset, .unset] [(.int (3 : Int32)), (.int q3), (.long (own_f1 v31))])) _
      refine XS.iand X33.here hx rfl (hb hby at_24) rfl ?_
      show Steps p.tables e below (T33.setTop (mkF m 25 #[.val (.long q0), .second, .val (.int q1), .val (.int q2), .val (.int q3), .val (.int q4), .unset, .unset, .val (.int v31), .unset, .unset] [(.int (q3 &&& (3 : Int32))), (.long (own_f1 v31))])) _
      refine XS.iconst X33.here hx rfl (hb hby at_25) ?_
      show Steps p.tables e below (T33.setTop (mkF m 26 #[.val (.long q0), .second, .val (.int q1), .val (.int q2), .val (.int q3), .val (.int q4), .unset, .unset, .val (.int v31), .unset, .unset] [(.int (1 : Int32)), (.int (q3 &&& (3 : Int32))), (.long (own_f1 v31))])) _
      refine XS.isub X33.here hx rfl (hb hby at_26) rfl ?_
      show Steps p.tables e below (T33.setTop (mkF m 27 #[.val (.long q0), .second, .val (.int q1), .val (.int q2), .val (.int q3), .val (.int q4), .unset, .unset, .val (.int v31), .unset, .unset] [(.int ((q3 &&& (3 : Int32)) - (1 : Int32))), (.long (own_f1 v31))])) _
      refine XS.i2l X33.here hx rfl (hb hby at_27) rfl ?_
      show Steps p.tables e below (T33.setTop (mkF m 28 #[.val (.long q0), .second, .val (.int q1), .val (.int q2), .val (.int q3), .val (.int q4), .unset, .unset, .val (.int v31), .unset, .unset] [(.long (((q3 &&& (3 : Int32)) - (1 : Int32))).toInt64), (.long (own_f1 v31))])) _
      refine XS.ladd X33.here hx rfl (hb hby at_28) rfl ?_
      exact k
    obtain ⟨_, _, ⟨T36, L36, k36, n36⟩, -, X36, ⟨Lc36, hQ36, l36, y36, z36⟩, st36⟩ := Jvm.LawKit.callS X33 hx (y := (⟨"com/example/tributary/tributary/workload/Setting", "indexLetters", "(J)I"⟩ : MethodName)) hown (mvT hZ (hw _ (List.mem_of_getElem? (i := 19) rfl))) (mvT hZ (hw _ (List.mem_of_getElem? (i := 20) rfl))) (mvT hZ (hw _ (List.mem_of_getElem? (i := 21) rfl))) (mvT hZ (hw _ (List.mem_of_getElem? (i := 22) rfl))) (by decide) (backOf (W := 0) (rm2 l Z a0 hw [] v34  h33 n0 sz33 ) hZ (hw _ (List.mem_of_getElem? (i := 22) rfl)) (hw _ (List.mem_of_getElem? (i := 21) rfl)) (by decide) (by decide)) (g := (mkF m 44 #[.val (.long q0), .second, .val (.int q1), .val (.int q2), .val (.int q3), .val (.int q4), .val (.long v34), .second, .val (.int v31), .unset, .unset] [(.long v34)])) rfl (by rw [hml]; rfl) (argsL := [(.long v34)]) (rest := []) (lenOf pd_4 rfl) rfl (by show 2 * 0 + _ ≤ _; exact Nat.le_of_eq rfl) (hb hby at_44) (fun _ _ => ⟨rfl, e33, (by decide : 1 + 0 ≤ _), (by decide : 14 + 0 ≤ _)⟩)
    dsimp only [Pt.U, Pt.locs, Pt.cells, Pt.slots] at X36 l36 y36 z36 st36 hQ36
    subst l36 y36 z36
    obtain ⟨rfl, N36q, e36⟩ := hQ36
    have N36 := Fr.app N33 N36q
    obtain ⟨v37, hv37⟩ : ∃ z : Int32, z = (own_f2 v34) := ⟨_, rfl⟩
    have pre38 : ∀ t, Steps p.tables e below (T36.setTop (mkF m 47 #[.val (.long q0), .second, .val (.int q1), .val (.int q2), .val (.int q3), .val (.int q4), .val (.long v34), .second, .val (.int v31), .unset, .unset] [(.int v37)])) t → Steps p.tables e below (s₁.setTop (entryFrame m #[(.long q0), (.int q1), (.int q2), (.int q3), (.int q4)] maxLocals)) t := by
      rw [hv37]
      intro t k
      refine pre35 t ?_
      show Steps p.tables e below (T33.setTop (mkF m 29 #[.val (.long q0), .second, .val (.int q1), .val (.int q2), .val (.int q3), .val (.int q4), .unset, .unset, .val (.int v31), .unset, .unset] [(.long v34)])) _
      refine XS.lstore X33.here hx rfl (hb hby at_29) rfl (l' := #[.val (.long q0), .second, .val (.int q1), .val (.int q2), .val (.int q3), .val (.int q4), .val (.long v34), .second, .val (.int v31), .unset, .unset]) rfl ?_
      show Steps p.tables e below (T33.setTop (mkF m 31 #[.val (.long q0), .second, .val (.int q1), .val (.int q2), .val (.int q3), .val (.int q4), .val (.long v34), .second, .val (.int v31), .unset, .unset] [])) _
      refine XS.goto X33.here hx rfl (pc0 := 31) (pc' := 42) rfl (hb hby at_31) (by decide) (by decide) ?_
      show Steps p.tables e below (T33.setTop (mkF m 42 #[.val (.long q0), .second, .val (.int q1), .val (.int q2), .val (.int q3), .val (.int q4), .val (.long v34), .second, .val (.int v31), .unset, .unset] [])) _
      refine XS.lload X33.here hx rfl (hb hby at_42) rfl ?_
      show Steps p.tables e below (T33.setTop (mkF m 44 #[.val (.long q0), .second, .val (.int q1), .val (.int q2), .val (.int q3), .val (.int q4), .val (.long v34), .second, .val (.int v31), .unset, .unset] [(.long v34)])) _
      refine st36 _ ?_
      exact k
    have pre39 : ∀ t, Steps p.tables e below (T36.setTop (mkF m 52 #[.val (.long q0), .second, .val (.int q1), .val (.int q2), .val (.int q3), .val (.int q4), .val (.long v34), .second, .val (.int v37), .unset, .unset] [(.int (1 : Int32)), (.int v37)])) t → Steps p.tables e below (s₁.setTop (entryFrame m #[(.long q0), (.int q1), (.int q2), (.int q3), (.int q4)] maxLocals)) t := by
      intro t k
      refine pre38 t ?_
      show Steps p.tables e below (T36.setTop (mkF m 47 #[.val (.long q0), .second, .val (.int q1), .val (.int q2), .val (.int q3), .val (.int q4), .val (.long v34), .second, .val (.int v31), .unset, .unset] [(.int v37)])) _
      refine XS.istore X36.here hx rfl (hb hby at_47) rfl (l' := #[.val (.long q0), .second, .val (.int q1), .val (.int q2), .val (.int q3), .val (.int q4), .val (.long v34), .second, .val (.int v37), .unset, .unset]) rfl ?_
      show Steps p.tables e below (T36.setTop (mkF m 49 #[.val (.long q0), .second, .val (.int q1), .val (.int q2), .val (.int q3), .val (.int q4), .val (.long v34), .second, .val (.int v37), .unset, .unset] [])) _
      refine XS.iload X36.here hx rfl (hb hby at_49) rfl ?_
      show Steps p.tables e below (T36.setTop (mkF m 51 #[.val (.long q0), .second, .val (.int q1), .val (.int q2), .val (.int q3), .val (.int q4), .val (.long v34), .second, .val (.int v37), .unset, .unset] [(.int v37)])) _
      refine XS.iconst X36.here hx rfl (hb hby at_51) ?_
      exact k
    by_cases c40 : v37 < (1 : Int32)
    · obtain ⟨fs, hr, hrun, hended, hW, hsame⟩ := X36.leave (v := some (.int (0 : Int32))) (fun h => by rw [Bd.returns] at h; cases h) hlk
      refine ⟨_, _, pre39 _ ?_, hrun, hended, _, _, rfl, ?_, ⟨_, rfl⟩, hW, hsame.mono (by decide) (by decide)⟩
      · show Steps p.tables e below (T36.setTop (mkF m 52 #[.val (.long q0), .second, .val (.int q1), .val (.int q2), .val (.int q3), .val (.int q4), .val (.long v34), .second, .val (.int v37), .unset, .unset] [(.int (1 : Int32)), (.int v37)])) _
        refine XS.icmpYes X36.here hx rfl (pc0 := 52) (pc' := 62) rfl (hb hby at_52) rfl ((tlt c40).1) (by decide) (by decide) ?_
        show Steps p.tables e below (T36.setTop (mkF m 62 #[.val (.long q0), .second, .val (.int q1), .val (.int q2), .val (.int q3), .val (.int q4), .val (.long v34), .second, .val (.int v37), .unset, .unset] [])) _
        refine XS.iconst X36.here hx rfl (hb hby at_62) ?_
        show Steps p.tables e below (T36.setTop (mkF m 63 #[.val (.long q0), .second, .val (.int q1), .val (.int q2), .val (.int q3), .val (.int q4), .val (.long v34), .second, .val (.int v37), .unset, .unset] [(.int (0 : Int32))])) _
        exact retN X36 hx (t := .boolean) Bd.returns (by simp) (hb hby at_63) hr
      · show Q0 Z q0 q1 q2 q3 q4 h0 n0 _ T36.heap _
        rw [e36]
        exact ⟨by have w_hv37 := hv37.symm; subst w_hv37; have w_hv34 := hv34.symm; subst w_hv34; have w_hv31 := hv31.symm; subst w_hv31; simp only [own_f0, if_neg c2, if_pos c40], N36⟩
    · have pre41 : ∀ t, Steps p.tables e below (T36.setTop (mkF m 59 #[.val (.long q0), .second, .val (.int q1), .val (.int q2), .val (.int q3), .val (.int q4), .val (.long v34), .second, .val (.int v37), .unset, .unset] [(.int (14 : Int32)), (.int v37)])) t → Steps p.tables e below (s₁.setTop (entryFrame m #[(.long q0), (.int q1), (.int q2), (.int q3), (.int q4)] maxLocals)) t := by
        intro t k
        refine pre39 t ?_
        show Steps p.tables e below (T36.setTop (mkF m 52 #[.val (.long q0), .second, .val (.int q1), .val (.int q2), .val (.int q3), .val (.int q4), .val (.long v34), .second, .val (.int v37), .unset, .unset] [(.int (1 : Int32)), (.int v37)])) _
        refine XS.icmpNo X36.here hx rfl (hb hby at_52) rfl ((flt c40).1) ?_
        show Steps p.tables e below (T36.setTop (mkF m 55 #[.val (.long q0), .second, .val (.int q1), .val (.int q2), .val (.int q3), .val (.int q4), .val (.long v34), .second, .val (.int v37), .unset, .unset] [])) _
        refine XS.iload X36.here hx rfl (hb hby at_55) rfl ?_
        show Steps p.tables e below (T36.setTop (mkF m 57 #[.val (.long q0), .second, .val (.int q1), .val (.int q2), .val (.int q3), .val (.int q4), .val (.long v34), .second, .val (.int v37), .unset, .unset] [(.int v37)])) _
        refine XS.bipush X36.here hx rfl (hb hby at_57) ?_
        exact k
      by_cases c42 : (14 : Int32) < v37
      · obtain ⟨fs, hr, hrun, hended, hW, hsame⟩ := X36.leave (v := some (.int (0 : Int32))) (fun h => by rw [Bd.returns] at h; cases h) hlk
        refine ⟨_, _, pre41 _ ?_, hrun, hended, _, _, rfl, ?_, ⟨_, rfl⟩, hW, hsame.mono (by decide) (by decide)⟩
        · show Steps p.tables e below (T36.setTop (mkF m 59 #[.val (.long q0), .second, .val (.int q1), .val (.int q2), .val (.int q3), .val (.int q4), .val (.long v34), .second, .val (.int v37), .unset, .unset] [(.int (14 : Int32)), (.int v37)])) _
          refine XS.icmpNo X36.here hx rfl (hb hby at_59) rfl ((tlt c42).2.2.2) ?_
          show Steps p.tables e below (T36.setTop (mkF m 62 #[.val (.long q0), .second, .val (.int q1), .val (.int q2), .val (.int q3), .val (.int q4), .val (.long v34), .second, .val (.int v37), .unset, .unset] [])) _
          refine XS.iconst X36.here hx rfl (hb hby at_62) ?_
          show Steps p.tables e below (T36.setTop (mkF m 63 #[.val (.long q0), .second, .val (.int q1), .val (.int q2), .val (.int q3), .val (.int q4), .val (.long v34), .second, .val (.int v37), .unset, .unset] [(.int (0 : Int32))])) _
          exact retN X36 hx (t := .boolean) Bd.returns (by simp) (hb hby at_63) hr
        · show Q0 Z q0 q1 q2 q3 q4 h0 n0 _ T36.heap _
          rw [e36]
          exact ⟨by have w_hv37 := hv37.symm; subst w_hv37; have w_hv34 := hv34.symm; subst w_hv34; have w_hv31 := hv31.symm; subst w_hv31; simp only [own_f0, if_neg c2, if_neg c40, if_pos c42], N36⟩
      · have pre43 : ∀ t, Steps p.tables e below (T36.setTop (mkF m 67 #[.val (.long q0), .second, .val (.int q1), .val (.int q2), .val (.int q3), .val (.int q4), .val (.long v34), .second, .val (.int v37), .unset, .unset] [(.int (1 : Int32)), (.int v37)])) t → Steps p.tables e below (s₁.setTop (entryFrame m #[(.long q0), (.int q1), (.int q2), (.int q3), (.int q4)] maxLocals)) t := by
          intro t k
          refine pre41 t ?_
          show Steps p.tables e below (T36.setTop (mkF m 59 #[.val (.long q0), .second, .val (.int q1), .val (.int q2), .val (.int q3), .val (.int q4), .val (.long v34), .second, .val (.int v37), .unset, .unset] [(.int (14 : Int32)), (.int v37)])) _
          refine XS.icmpYes X36.here hx rfl (pc0 := 59) (pc' := 64) rfl (hb hby at_59) rfl ((flt c42).2.2.2) (by decide) (by decide) ?_
          show Steps p.tables e below (T36.setTop (mkF m 64 #[.val (.long q0), .second, .val (.int q1), .val (.int q2), .val (.int q3), .val (.int q4), .val (.long v34), .second, .val (.int v37), .unset, .unset] [])) _
          refine XS.iload X36.here hx rfl (hb hby at_64) rfl ?_
          show Steps p.tables e below (T36.setTop (mkF m 66 #[.val (.long q0), .second, .val (.int q1), .val (.int q2), .val (.int q3), .val (.int q4), .val (.long v34), .second, .val (.int v37), .unset, .unset] [(.int v37)])) _
          refine XS.iconst X36.here hx rfl (hb hby at_66) ?_
          exact k
        by_cases c44 : v37 = (1 : Int32)
        · have c45 : ¬ (v37 = (14 : Int32)) := own_g3 (own_fE c44 (k := 1) (by decide)) (by decide)
          obtain ⟨_, _, ⟨T46, L46, k46, n46⟩, -, X46, ⟨Lc46, hQ46, l46, y46, z46⟩, st46⟩ := Jvm.LawKit.callS X36 hx (y := (⟨"com/example/tributary/tributary/workload/SettingIndexLettersPinLaw", "pow26", "(I)J"⟩ : MethodName)) hown (mvT hZ (hw _ (List.mem_of_getElem? (i := 1) rfl))) (mvT hZ (hw _ (List.mem_of_getElem? (i := 2) rfl))) (mvT hZ (hw _ (List.mem_of_getElem? (i := 3) rfl))) (mvT hZ (hw _ (List.mem_of_getElem? (i := 4) rfl))) (by decide) (backOf (W := 2) (rm1 l Z a0 hw [] v37  h33 n0 sz33  (by first | exact own_inB (by assumption) (by assumption) (by assumption) | (rename_i hq; decide))) hZ (hw _ (List.mem_of_getElem? (i := 4) rfl)) (hw _ (List.mem_of_getElem? (i := 3) rfl)) (by decide) (by decide)) (g := (mkF m 101 #[.val (.long q0), .second, .val (.int q1), .val (.int q2), .val (.int q3), .val (.int q4), .val (.long v34), .second, .val (.int v37), .val (.int (1 : Int32)), .unset] [(.int v37), (.long v34)])) rfl (by rw [hml]; rfl) (argsL := [(.int v37)]) (rest := [(.long v34)]) (lenOf pd_5 rfl) rfl (by show 2 * 0 + _ ≤ _; exact Nat.le_of_eq rfl) (hb hby at_101) (fun _ _ => ⟨rfl, e36, (by decide : 1 + 1 ≤ _), (by decide : 14 + 14 ≤ _)⟩)
          dsimp only [Pt.U, Pt.locs, Pt.cells, Pt.slots] at X46 l46 y46 z46 st46 hQ46
          subst l46 y46 z46
          obtain ⟨rfl, N46q, K46⟩ := hQ46
          obtain ⟨h46, e46⟩ : ∃ z, T46.heap = z := ⟨_, rfl⟩
          rw [e46] at K46
          have sz46 : n0 ≤ h46.size := Nat.le_trans sz33 K46.1
          have N46 := Fr.app N36 N46q
          have pre47 : ∀ t, Steps p.tables e below (T46.setTop (mkF m 105 #[.val (.long q0), .second, .val (.int q1), .val (.int q2), .val (.int q3), .val (.int q4), .val (.long v34), .second, .val (.int v37), .val (.int (1 : Int32)), .unset] [(.int (lcmpW v34 (own_f1 v37)))])) t → Steps p.tables e below (s₁.setTop (entryFrame m #[(.long q0), (.int q1), (.int q2), (.int q3), (.int q4)] maxLocals)) t := by
            intro t k
            refine pre43 t ?_
            show Steps p.tables e below (T36.setTop (mkF m 67 #[.val (.long q0), .second, .val (.int q1), .val (.int q2), .val (.int q3), .val (.int q4), .val (.long v34), .second, .val (.int v37), .unset, .unset] [(.int (1 : Int32)), (.int v37)])) _
            refine XS.icmpYes X36.here hx rfl (pc0 := 67) (pc' := 83) rfl (hb hby at_67) rfl ((teq c44).1) (by decide) (by decide) ?_
            show Steps p.tables e below (T36.setTop (mkF m 83 #[.val (.long q0), .second, .val (.int q1), .val (.int q2), .val (.int q3), .val (.int q4), .val (.long v34), .second, .val (.int v37), .unset, .unset] [])) _
            refine XS.iconst X36.here hx rfl (hb hby at_83) ?_
            show Steps p.tables e below (T36.setTop (mkF m 84 #[.val (.long q0), .second, .val (.int q1), .val (.int q2), .val (.int q3), .val (.int q4), .val (.long v34), .second, .val (.int v37), .unset, .unset] [(.int (1 : Int32))])) _
            refine XS.goto X36.here hx rfl (pc0 := 84) (pc' := 88) rfl (hb hby at_84) (by decide) (by decide) ?_
            show Steps p.tables e below (T36.setTop (mkF m 88 #[.val (.long q0), .second, .val (.int q1), .val (.int q2), .val (.int q3), .val (.int q4), .val (.long v34), .second, .val (.int v37), .unset, .unset] [(.int (1 : Int32))])) _
            refine XS.istore X36.here hx rfl (hb hby at_88) rfl (l' := #[.val (.long q0), .second, .val (.int q1), .val (.int q2), .val (.int q3), .val (.int q4), .val (.long v34), .second, .val (.int v37), .val (.int (1 : Int32)), .unset]) rfl ?_
            show Steps p.tables e below (T36.setTop (mkF m 90 #[.val (.long q0), .second, .val (.int q1), .val (.int q2), .val (.int q3), .val (.int q4), .val (.long v34), .second, .val (.int v37), .val (.int (1 : Int32)), .unset] [])) _
            refine XS.iload X36.here hx rfl (hb hby at_90) rfl ?_
            show Steps p.tables e below (T36.setTop (mkF m 92 #[.val (.long q0), .second, .val (.int q1), .val (.int q2), .val (.int q3), .val (.int q4), .val (.long v34), .second, .val (.int v37), .val (.int (1 : Int32)), .unset] [(.int v37)])) _
            refine XS.bipush X36.here hx rfl (hb hby at_92) ?_
            show Steps p.tables e below (T36.setTop (mkF m 94 #[.val (.long q0), .second, .val (.int q1), .val (.int q2), .val (.int q3), .val (.int q4), .val (.long v34), .second, .val (.int v37), .val (.int (1 : Int32)), .unset] [(.int (14 : Int32)), (.int v37)])) _
            refine XS.icmpNo X36.here hx rfl (hb hby at_94) rfl ((feq c45).1) ?_
            show Steps p.tables e below (T36.setTop (mkF m 97 #[.val (.long q0), .second, .val (.int q1), .val (.int q2), .val (.int q3), .val (.int q4), .val (.long v34), .second, .val (.int v37), .val (.int (1 : Int32)), .unset] [])) _
            refine XS.lload X36.here hx rfl (hb hby at_97) rfl ?_
            show Steps p.tables e below (T36.setTop (mkF m 99 #[.val (.long q0), .second, .val (.int q1), .val (.int q2), .val (.int q3), .val (.int q4), .val (.long v34), .second, .val (.int v37), .val (.int (1 : Int32)), .unset] [(.long v34)])) _
            refine XS.iload X36.here hx rfl (hb hby at_99) rfl ?_
            show Steps p.tables e below (T36.setTop (mkF m 101 #[.val (.long q0), .second, .val (.int q1), .val (.int q2), .val (.int q3), .val (.int q4), .val (.long v34), .second, .val (.int v37), .val (.int (1 : Int32)), .unset] [(.int v37), (.long v34)])) _
            refine st46 _ ?_
            show Steps p.tables e below (T46.setTop (mkF m 104 #[.val (.long q0), .second, .val (.int q1), .val (.int q2), .val (.int q3), .val (.int q4), .val (.long v34), .second, .val (.int v37), .val (.int (1 : Int32)), .unset] [(.long (own_f1 v37)), (.long v34)])) _
            refine XS.lcmp X46.here hx rfl (hb hby at_104) rfl ?_
            exact k
          by_cases c48 : (own_f1 v37) < v34
          · obtain ⟨fs, hr, hrun, hended, hW, hsame⟩ := X46.leave (v := some (.int (0 : Int32))) (fun h => by rw [Bd.returns] at h; cases h) hlk
            refine ⟨_, _, pre47 _ ?_, hrun, hended, _, _, rfl, ?_, ⟨_, rfl⟩, hW, hsame.mono (by decide) (by decide)⟩
            · show Steps p.tables e below (T46.setTop (mkF m 105 #[.val (.long q0), .second, .val (.int q1), .val (.int q2), .val (.int q3), .val (.int q4), .val (.long v34), .second, .val (.int v37), .val (.int (1 : Int32)), .unset] [(.int (lcmpW v34 (own_f1 v37)))])) _
              refine XS.ifYes X46.here hx rfl (pc0 := 105) (pc' := 112) rfl (hb hby at_105) rfl ((if0 _ _).trans (tlt ((lw_gt v34 (own_f1 v37)).mpr c48)).2.2.1) (by decide) (by decide) ?_
              show Steps p.tables e below (T46.setTop (mkF m 112 #[.val (.long q0), .second, .val (.int q1), .val (.int q2), .val (.int q3), .val (.int q4), .val (.long v34), .second, .val (.int v37), .val (.int (1 : Int32)), .unset] [])) _
              refine XS.iconst X46.here hx rfl (hb hby at_112) ?_
              show Steps p.tables e below (T46.setTop (mkF m 113 #[.val (.long q0), .second, .val (.int q1), .val (.int q2), .val (.int q3), .val (.int q4), .val (.long v34), .second, .val (.int v37), .val (.int (1 : Int32)), .unset] [(.int (0 : Int32))])) _
              refine XS.istore X46.here hx rfl (hb hby at_113) rfl (l' := #[.val (.long q0), .second, .val (.int q1), .val (.int q2), .val (.int q3), .val (.int q4), .val (.long v34), .second, .val (.int v37), .val (.int (1 : Int32)), .val (.int (0 : Int32))]) rfl ?_
              show Steps p.tables e below (T46.setTop (mkF m 115 #[.val (.long q0), .second, .val (.int q1), .val (.int q2), .val (.int q3), .val (.int q4), .val (.long v34), .second, .val (.int v37), .val (.int (1 : Int32)), .val (.int (0 : Int32))] [])) _
              refine XS.iload X46.here hx rfl (hb hby at_115) rfl ?_
              show Steps p.tables e below (T46.setTop (mkF m 117 #[.val (.long q0), .second, .val (.int q1), .val (.int q2), .val (.int q3), .val (.int q4), .val (.long v34), .second, .val (.int v37), .val (.int (1 : Int32)), .val (.int (0 : Int32))] [(.int (1 : Int32))])) _
              refine XS.ifNo X46.here hx rfl (hb hby at_117) rfl (by decide) ?_
              show Steps p.tables e below (T46.setTop (mkF m 120 #[.val (.long q0), .second, .val (.int q1), .val (.int q2), .val (.int q3), .val (.int q4), .val (.long v34), .second, .val (.int v37), .val (.int (1 : Int32)), .val (.int (0 : Int32))] [])) _
              refine XS.iload X46.here hx rfl (hb hby at_120) rfl ?_
              show Steps p.tables e below (T46.setTop (mkF m 122 #[.val (.long q0), .second, .val (.int q1), .val (.int q2), .val (.int q3), .val (.int q4), .val (.long v34), .second, .val (.int v37), .val (.int (1 : Int32)), .val (.int (0 : Int32))] [(.int (0 : Int32))])) _
              refine XS.ifYes X46.here hx rfl (pc0 := 122) (pc' := 129) rfl (hb hby at_122) rfl (by decide) (by decide) (by decide) ?_
              show Steps p.tables e below (T46.setTop (mkF m 129 #[.val (.long q0), .second, .val (.int q1), .val (.int q2), .val (.int q3), .val (.int q4), .val (.long v34), .second, .val (.int v37), .val (.int (1 : Int32)), .val (.int (0 : Int32))] [])) _
              refine XS.iconst X46.here hx rfl (hb hby at_129) ?_
              show Steps p.tables e below (T46.setTop (mkF m 130 #[.val (.long q0), .second, .val (.int q1), .val (.int q2), .val (.int q3), .val (.int q4), .val (.long v34), .second, .val (.int v37), .val (.int (1 : Int32)), .val (.int (0 : Int32))] [(.int (0 : Int32))])) _
              exact retN X46 hx (t := .boolean) Bd.returns (by simp) (hb hby at_130) hr
            · show Q0 Z q0 q1 q2 q3 q4 h0 n0 _ T46.heap _
              rw [e46]
              exact ⟨by have w_hv37 := hv37.symm; subst w_hv37; have w_hv34 := hv34.symm; subst w_hv34; have w_hv31 := hv31.symm; subst w_hv31; simp only [own_f0, if_neg c2, if_neg c40, if_neg c42, if_pos c44, if_pos c48], N46⟩
          · obtain ⟨fs, hr, hrun, hended, hW, hsame⟩ := X46.leave (v := some (.int (1 : Int32))) (fun h => by rw [Bd.returns] at h; cases h) hlk
            refine ⟨_, _, pre47 _ ?_, hrun, hended, _, _, rfl, ?_, ⟨_, rfl⟩, hW, hsame.mono (by decide) (by decide)⟩
            · show Steps p.tables e below (T46.setTop (mkF m 105 #[.val (.long q0), .second, .val (.int q1), .val (.int q2), .val (.int q3), .val (.int q4), .val (.long v34), .second, .val (.int v37), .val (.int (1 : Int32)), .unset] [(.int (lcmpW v34 (own_f1 v37)))])) _
              refine XS.ifNo X46.here hx rfl (hb hby at_105) rfl ((if0 _ _).trans (flt (mt (lw_gt v34 (own_f1 v37)).mp c48)).2.2.1) ?_
              show Steps p.tables e below (T46.setTop (mkF m 108 #[.val (.long q0), .second, .val (.int q1), .val (.int q2), .val (.int q3), .val (.int q4), .val (.long v34), .second, .val (.int v37), .val (.int (1 : Int32)), .unset] [])) _
              refine XS.iconst X46.here hx rfl (hb hby at_108) ?_
              show Steps p.tables e below (T46.setTop (mkF m 109 #[.val (.long q0), .second, .val (.int q1), .val (.int q2), .val (.int q3), .val (.int q4), .val (.long v34), .second, .val (.int v37), .val (.int (1 : Int32)), .unset] [(.int (1 : Int32))])) _
              refine XS.goto X46.here hx rfl (pc0 := 109) (pc' := 113) rfl (hb hby at_109) (by decide) (by decide) ?_
              show Steps p.tables e below (T46.setTop (mkF m 113 #[.val (.long q0), .second, .val (.int q1), .val (.int q2), .val (.int q3), .val (.int q4), .val (.long v34), .second, .val (.int v37), .val (.int (1 : Int32)), .unset] [(.int (1 : Int32))])) _
              refine XS.istore X46.here hx rfl (hb hby at_113) rfl (l' := #[.val (.long q0), .second, .val (.int q1), .val (.int q2), .val (.int q3), .val (.int q4), .val (.long v34), .second, .val (.int v37), .val (.int (1 : Int32)), .val (.int (1 : Int32))]) rfl ?_
              show Steps p.tables e below (T46.setTop (mkF m 115 #[.val (.long q0), .second, .val (.int q1), .val (.int q2), .val (.int q3), .val (.int q4), .val (.long v34), .second, .val (.int v37), .val (.int (1 : Int32)), .val (.int (1 : Int32))] [])) _
              refine XS.iload X46.here hx rfl (hb hby at_115) rfl ?_
              show Steps p.tables e below (T46.setTop (mkF m 117 #[.val (.long q0), .second, .val (.int q1), .val (.int q2), .val (.int q3), .val (.int q4), .val (.long v34), .second, .val (.int v37), .val (.int (1 : Int32)), .val (.int (1 : Int32))] [(.int (1 : Int32))])) _
              refine XS.ifNo X46.here hx rfl (hb hby at_117) rfl (by decide) ?_
              show Steps p.tables e below (T46.setTop (mkF m 120 #[.val (.long q0), .second, .val (.int q1), .val (.int q2), .val (.int q3), .val (.int q4), .val (.long v34), .second, .val (.int v37), .val (.int (1 : Int32)), .val (.int (1 : Int32))] [])) _
              refine XS.iload X46.here hx rfl (hb hby at_120) rfl ?_
              show Steps p.tables e below (T46.setTop (mkF m 122 #[.val (.long q0), .second, .val (.int q1), .val (.int q2), .val (.int q3), .val (.int q4), .val (.long v34), .second, .val (.int v37), .val (.int (1 : Int32)), .val (.int (1 : Int32))] [(.int (1 : Int32))])) _
              refine XS.ifNo X46.here hx rfl (hb hby at_122) rfl (by decide) ?_
              show Steps p.tables e below (T46.setTop (mkF m 125 #[.val (.long q0), .second, .val (.int q1), .val (.int q2), .val (.int q3), .val (.int q4), .val (.long v34), .second, .val (.int v37), .val (.int (1 : Int32)), .val (.int (1 : Int32))] [])) _
              refine XS.iconst X46.here hx rfl (hb hby at_125) ?_
              show Steps p.tables e below (T46.setTop (mkF m 126 #[.val (.long q0), .second, .val (.int q1), .val (.int q2), .val (.int q3), .val (.int q4), .val (.long v34), .second, .val (.int v37), .val (.int (1 : Int32)), .val (.int (1 : Int32))] [(.int (1 : Int32))])) _
              refine XS.goto X46.here hx rfl (pc0 := 126) (pc' := 130) rfl (hb hby at_126) (by decide) (by decide) ?_
              show Steps p.tables e below (T46.setTop (mkF m 130 #[.val (.long q0), .second, .val (.int q1), .val (.int q2), .val (.int q3), .val (.int q4), .val (.long v34), .second, .val (.int v37), .val (.int (1 : Int32)), .val (.int (1 : Int32))] [(.int (1 : Int32))])) _
              exact retN X46 hx (t := .boolean) Bd.returns (by simp) (hb hby at_130) hr
            · show Q0 Z q0 q1 q2 q3 q4 h0 n0 _ T46.heap _
              rw [e46]
              exact ⟨by have w_hv37 := hv37.symm; subst w_hv37; have w_hv34 := hv34.symm; subst w_hv34; have w_hv31 := hv31.symm; subst w_hv31; simp only [own_f0, if_neg c2, if_neg c40, if_neg c42, if_pos c44, if_neg c48], N46⟩
        · obtain ⟨_, _, ⟨T49, L49, k49, n49⟩, -, X49, ⟨Lc49, hQ49, l49, y49, z49⟩, st49⟩ := Jvm.LawKit.callS X36 hx (y := (⟨"com/example/tributary/tributary/workload/SettingIndexLettersPinLaw", "pow26", "(I)J"⟩ : MethodName)) hown (mvT hZ (hw _ (List.mem_of_getElem? (i := 1) rfl))) (mvT hZ (hw _ (List.mem_of_getElem? (i := 2) rfl))) (mvT hZ (hw _ (List.mem_of_getElem? (i := 3) rfl))) (mvT hZ (hw _ (List.mem_of_getElem? (i := 4) rfl))) (by decide) (backOf (W := 0) (rm1 l Z a0 hw [] (v37 - (1 : Int32))  h33 n0 sz33  (own_inA (by assumption) (by assumption))) hZ (hw _ (List.mem_of_getElem? (i := 4) rfl)) (hw _ (List.mem_of_getElem? (i := 3) rfl)) (by decide) (by decide)) (g := (mkF m 74 #[.val (.long q0), .second, .val (.int q1), .val (.int q2), .val (.int q3), .val (.int q4), .val (.long v34), .second, .val (.int v37), .unset, .unset] [(.int (v37 - (1 : Int32)))])) rfl (by rw [hml]; rfl) (argsL := [(.int (v37 - (1 : Int32)))]) (rest := []) (lenOf pd_5 rfl) rfl (by show 2 * 0 + _ ≤ _; exact Nat.le_of_eq rfl) (hb hby at_74) (fun _ _ => ⟨rfl, e36, (by decide : 1 + 1 ≤ _), (by decide : 14 + 14 ≤ _)⟩)
          dsimp only [Pt.U, Pt.locs, Pt.cells, Pt.slots] at X49 l49 y49 z49 st49 hQ49
          subst l49 y49 z49
          obtain ⟨rfl, N49q, K49⟩ := hQ49
          obtain ⟨h49, e49⟩ : ∃ z, T49.heap = z := ⟨_, rfl⟩
          rw [e49] at K49
          have sz49 : n0 ≤ h49.size := Nat.le_trans sz33 K49.1
          have N49 := Fr.app N36 N49q
          have pre50 : ∀ t, Steps p.tables e below (T49.setTop (mkF m 80 #[.val (.long q0), .second, .val (.int q1), .val (.int q2), .val (.int q3), .val (.int q4), .val (.long v34), .second, .val (.int v37), .unset, .unset] [(.int (lcmpW (own_f1 ((v37 - (1 : Int32)))) v34))])) t → Steps p.tables e below (s₁.setTop (entryFrame m #[(.long q0), (.int q1), (.int q2), (.int q3), (.int q4)] maxLocals)) t := by
            intro t k
            refine pre43 t ?_
            show Steps p.tables e below (T36.setTop (mkF m 67 #[.val (.long q0), .second, .val (.int q1), .val (.int q2), .val (.int q3), .val (.int q4), .val (.long v34), .second, .val (.int v37), .unset, .unset] [(.int (1 : Int32)), (.int v37)])) _
            refine XS.icmpNo X36.here hx rfl (hb hby at_67) rfl ((feq c44).1) ?_
            show Steps p.tables e below (T36.setTop (mkF m 70 #[.val (.long q0), .second, .val (.int q1), .val (.int q2), .val (.int q3), .val (.int q4), .val (.long v34), .second, .val (.int v37), .unset, .unset] [])) _
            refine XS.iload X36.here hx rfl (hb hby at_70) rfl ?_
            show Steps p.tables e below (T36.setTop (mkF m 72 #[.val (.long q0), .second, .val (.int q1), .val (.int q2), .val (.int q3), .val (.int q4), .val (.long v34), .second, .val (.int v37), .unset, .unset] [(.int v37)])) _
            refine XS.iconst X36.here hx rfl (hb hby at_72) ?_
            show Steps p.tables e below (T36.setTop (mkF m 73 #[.val (.long q0), .second, .val (.int q1), .val (.int q2), .val (.int q3), .val (.int q4), .val (.long v34), .second, .val (.int v37), .unset, .unset] [(.int (1 : Int32)), (.int v37)])) _
            refine XS.isub X36.here hx rfl (hb hby at_73) rfl ?_
            show Steps p.tables e below (T36.setTop (mkF m 74 #[.val (.long q0), .second, .val (.int q1), .val (.int q2), .val (.int q3), .val (.int q4), .val (.long v34), .second, .val (.int v37), .unset, .unset] [(.int (v37 - (1 : Int32)))])) _
            refine st49 _ ?_
            show Steps p.tables e below (T49.setTop (mkF m 77 #[.val (.long q0), .second, .val (.int q1), .val (.int q2), .val (.int q3), .val (.int q4), .val (.long v34), .second, .val (.int v37), .unset, .unset] [(.long (own_f1 ((v37 - (1 : Int32)))))])) _
            refine XS.lload X49.here hx rfl (hb hby at_77) rfl ?_
            show Steps p.tables e below (T49.setTop (mkF m 79 #[.val (.long q0), .second, .val (.int q1), .val (.int q2), .val (.int q3), .val (.int q4), .val (.long v34), .second, .val (.int v37), .unset, .unset] [(.long v34), (.long (own_f1 ((v37 - (1 : Int32)))))])) _
            refine XS.lcmp X49.here hx rfl (hb hby at_79) rfl ?_
            exact k
          by_cases c51 : (own_f1 ((v37 - (1 : Int32)))) < v34
          · have pre52 : ∀ t, Steps p.tables e below (T49.setTop (mkF m 94 #[.val (.long q0), .second, .val (.int q1), .val (.int q2), .val (.int q3), .val (.int q4), .val (.long v34), .second, .val (.int v37), .val (.int (1 : Int32)), .unset] [(.int (14 : Int32)), (.int v37)])) t → Steps p.tables e below (s₁.setTop (entryFrame m #[(.long q0), (.int q1), (.int q2), (.int q3), (.int q4)] maxLocals)) t := by
              intro t k
              refine pre50 t ?_
              show Steps p.tables e below (T49.setTop (mkF m 80 #[.val (.long q0), .second, .val (.int q1), .val (.int q2), .val (.int q3), .val (.int q4), .val (.long v34), .second, .val (.int v37), .unset, .unset] [(.int (lcmpW (own_f1 ((v37 - (1 : Int32)))) v34))])) _
              refine XS.ifNo X49.here hx rfl (hb hby at_80) rfl ((if0 _ _).trans (tlt ((lw_lt (own_f1 ((v37 - (1 : Int32)))) v34).mpr c51)).2.1) ?_
              show Steps p.tables e below (T49.setTop (mkF m 83 #[.val (.long q0), .second, .val (.int q1), .val (.int q2), .val (.int q3), .val (.int q4), .val (.long v34), .second, .val (.int v37), .unset, .unset] [])) _
              refine XS.iconst X49.here hx rfl (hb hby at_83) ?_
              show Steps p.tables e below (T49.setTop (mkF m 84 #[.val (.long q0), .second, .val (.int q1), .val (.int q2), .val (.int q3), .val (.int q4), .val (.long v34), .second, .val (.int v37), .unset, .unset] [(.int (1 : Int32))])) _
              refine XS.goto X49.here hx rfl (pc0 := 84) (pc' := 88) rfl (hb hby at_84) (by decide) (by decide) ?_
              show Steps p.tables e below (T49.setTop (mkF m 88 #[.val (.long q0), .second, .val (.int q1), .val (.int q2), .val (.int q3), .val (.int q4), .val (.long v34), .second, .val (.int v37), .unset, .unset] [(.int (1 : Int32))])) _
              refine XS.istore X49.here hx rfl (hb hby at_88) rfl (l' := #[.val (.long q0), .second, .val (.int q1), .val (.int q2), .val (.int q3), .val (.int q4), .val (.long v34), .second, .val (.int v37), .val (.int (1 : Int32)), .unset]) rfl ?_
              show Steps p.tables e below (T49.setTop (mkF m 90 #[.val (.long q0), .second, .val (.int q1), .val (.int q2), .val (.int q3), .val (.int q4), .val (.long v34), .second, .val (.int v37), .val (.int (1 : Int32)), .unset] [])) _
              refine XS.iload X49.here hx rfl (hb hby at_90) rfl ?_
              show Steps p.tables e below (T49.setTop (mkF m 92 #[.val (.long q0), .second, .val (.int q1), .val (.int q2), .val (.int q3), .val (.int q4), .val (.long v34), .second, .val (.int v37), .val (.int (1 : Int32)), .unset] [(.int v37)])) _
              refine XS.bipush X49.here hx rfl (hb hby at_92) ?_
              exact k
            by_cases c53 : v37 = (14 : Int32)
            · obtain ⟨fs, hr, hrun, hended, hW, hsame⟩ := X49.leave (v := some (.int (1 : Int32))) (fun h => by rw [Bd.returns] at h; cases h) hlk
              refine ⟨_, _, pre52 _ ?_, hrun, hended, _, _, rfl, ?_, ⟨_, rfl⟩, hW, hsame.mono (by decide) (by decide)⟩
              · show Steps p.tables e below (T49.setTop (mkF m 94 #[.val (.long q0), .second, .val (.int q1), .val (.int q2), .val (.int q3), .val (.int q4), .val (.long v34), .second, .val (.int v37), .val (.int (1 : Int32)), .unset] [(.int (14 : Int32)), (.int v37)])) _
                refine XS.icmpYes X49.here hx rfl (pc0 := 94) (pc' := 108) rfl (hb hby at_94) rfl ((teq c53).1) (by decide) (by decide) ?_
                show Steps p.tables e below (T49.setTop (mkF m 108 #[.val (.long q0), .second, .val (.int q1), .val (.int q2), .val (.int q3), .val (.int q4), .val (.long v34), .second, .val (.int v37), .val (.int (1 : Int32)), .unset] [])) _
                refine XS.iconst X49.here hx rfl (hb hby at_108) ?_
                show Steps p.tables e below (T49.setTop (mkF m 109 #[.val (.long q0), .second, .val (.int q1), .val (.int q2), .val (.int q3), .val (.int q4), .val (.long v34), .second, .val (.int v37), .val (.int (1 : Int32)), .unset] [(.int (1 : Int32))])) _
                refine XS.goto X49.here hx rfl (pc0 := 109) (pc' := 113) rfl (hb hby at_109) (by decide) (by decide) ?_
                show Steps p.tables e below (T49.setTop (mkF m 113 #[.val (.long q0), .second, .val (.int q1), .val (.int q2), .val (.int q3), .val (.int q4), .val (.long v34), .second, .val (.int v37), .val (.int (1 : Int32)), .unset] [(.int (1 : Int32))])) _
                refine XS.istore X49.here hx rfl (hb hby at_113) rfl (l' := #[.val (.long q0), .second, .val (.int q1), .val (.int q2), .val (.int q3), .val (.int q4), .val (.long v34), .second, .val (.int v37), .val (.int (1 : Int32)), .val (.int (1 : Int32))]) rfl ?_
                show Steps p.tables e below (T49.setTop (mkF m 115 #[.val (.long q0), .second, .val (.int q1), .val (.int q2), .val (.int q3), .val (.int q4), .val (.long v34), .second, .val (.int v37), .val (.int (1 : Int32)), .val (.int (1 : Int32))] [])) _
                refine XS.iload X49.here hx rfl (hb hby at_115) rfl ?_
                show Steps p.tables e below (T49.setTop (mkF m 117 #[.val (.long q0), .second, .val (.int q1), .val (.int q2), .val (.int q3), .val (.int q4), .val (.long v34), .second, .val (.int v37), .val (.int (1 : Int32)), .val (.int (1 : Int32))] [(.int (1 : Int32))])) _
                refine XS.ifNo X49.here hx rfl (hb hby at_117) rfl (by decide) ?_
                show Steps p.tables e below (T49.setTop (mkF m 120 #[.val (.long q0), .second, .val (.int q1), .val (.int q2), .val (.int q3), .val (.int q4), .val (.long v34), .second, .val (.int v37), .val (.int (1 : Int32)), .val (.int (1 : Int32))] [])) _
                refine XS.iload X49.here hx rfl (hb hby at_120) rfl ?_
                show Steps p.tables e below (T49.setTop (mkF m 122 #[.val (.long q0), .second, .val (.int q1), .val (.int q2), .val (.int q3), .val (.int q4), .val (.long v34), .second, .val (.int v37), .val (.int (1 : Int32)), .val (.int (1 : Int32))] [(.int (1 : Int32))])) _
                refine XS.ifNo X49.here hx rfl (hb hby at_122) rfl (by decide) ?_
                show Steps p.tables e below (T49.setTop (mkF m 125 #[.val (.long q0), .second, .val (.int q1), .val (.int q2), .val (.int q3), .val (.int q4), .val (.long v34), .second, .val (.int v37), .val (.int (1 : Int32)), .val (.int (1 : Int32))] [])) _
                refine XS.iconst X49.here hx rfl (hb hby at_125) ?_
                show Steps p.tables e below (T49.setTop (mkF m 126 #[.val (.long q0), .second, .val (.int q1), .val (.int q2), .val (.int q3), .val (.int q4), .val (.long v34), .second, .val (.int v37), .val (.int (1 : Int32)), .val (.int (1 : Int32))] [(.int (1 : Int32))])) _
                refine XS.goto X49.here hx rfl (pc0 := 126) (pc' := 130) rfl (hb hby at_126) (by decide) (by decide) ?_
                show Steps p.tables e below (T49.setTop (mkF m 130 #[.val (.long q0), .second, .val (.int q1), .val (.int q2), .val (.int q3), .val (.int q4), .val (.long v34), .second, .val (.int v37), .val (.int (1 : Int32)), .val (.int (1 : Int32))] [(.int (1 : Int32))])) _
                exact retN X49 hx (t := .boolean) Bd.returns (by simp) (hb hby at_130) hr
              · show Q0 Z q0 q1 q2 q3 q4 h0 n0 _ T49.heap _
                rw [e49]
                exact ⟨by have w_hv37 := hv37.symm; subst w_hv37; have w_hv34 := hv34.symm; subst w_hv34; have w_hv31 := hv31.symm; subst w_hv31; simp only [own_f0, if_neg c2, if_neg c40, if_neg c42, if_neg c44, if_pos c51, if_pos c53], N49⟩
            · obtain ⟨_, _, ⟨T54, L54, k54, n54⟩, -, X54, ⟨Lc54, hQ54, l54, y54, z54⟩, st54⟩ := Jvm.LawKit.callS X49 hx (y := (⟨"com/example/tributary/tributary/workload/SettingIndexLettersPinLaw", "pow26", "(I)J"⟩ : MethodName)) hown (mvT hZ (hw _ (List.mem_of_getElem? (i := 1) rfl))) (mvT hZ (hw _ (List.mem_of_getElem? (i := 2) rfl))) (mvT hZ (hw _ (List.mem_of_getElem? (i := 3) rfl))) (mvT hZ (hw _ (List.mem_of_getElem? (i := 4) rfl))) (by decide) (backOf (W := 2) (rm1 l Z a0 hw [] v37  h49 n0 sz49  (by first | exact own_inB (by assumption) (by assumption) (by assumption) | (rename_i hq; decide))) hZ (hw _ (List.mem_of_getElem? (i := 4) rfl)) (hw _ (List.mem_of_getElem? (i := 3) rfl)) (by decide) (by decide)) (g := (mkF m 101 #[.val (.long q0), .second, .val (.int q1), .val (.int q2), .val (.int q3), .val (.int q4), .val (.long v34), .second, .val (.int v37), .val (.int (1 : Int32)), .unset] [(.int v37), (.long v34)])) rfl (by rw [hml]; rfl) (argsL := [(.int v37)]) (rest := [(.long v34)]) (lenOf pd_5 rfl) rfl (by show 2 * 0 + _ ≤ _; exact Nat.le_of_eq rfl) (hb hby at_101) (fun _ _ => ⟨rfl, e49, (by decide : 2 + 1 ≤ _), (by decide : 28 + 14 ≤ _)⟩)
              dsimp only [Pt.U, Pt.locs, Pt.cells, Pt.slots] at X54 l54 y54 z54 st54 hQ54
              subst l54 y54 z54
              obtain ⟨rfl, N54q, K54⟩ := hQ54
              obtain ⟨h54, e54⟩ : ∃ z, T54.heap = z := ⟨_, rfl⟩
              rw [e54] at K54
              have sz54 : n0 ≤ h54.size := Nat.le_trans sz49 K54.1
              have N54 := Fr.app N49 N54q
              have pre55 : ∀ t, Steps p.tables e below (T54.setTop (mkF m 105 #[.val (.long q0), .second, .val (.int q1), .val (.int q2), .val (.int q3), .val (.int q4), .val (.long v34), .second, .val (.int v37), .val (.int (1 : Int32)), .unset] [(.int (lcmpW v34 (own_f1 v37)))])) t → Steps p.tables e below (s₁.setTop (entryFrame m #[(.long q0), (.int q1), (.int q2), (.int q3), (.int q4)] maxLocals)) t := by
                intro t k
                refine pre52 t ?_
                show Steps p.tables e below (T49.setTop (mkF m 94 #[.val (.long q0), .second, .val (.int q1), .val (.int q2), .val (.int q3), .val (.int q4), .val (.long v34), .second, .val (.int v37), .val (.int (1 : Int32)), .unset] [(.int (14 : Int32)), (.int v37)])) _
                refine XS.icmpNo X49.here hx rfl (hb hby at_94) rfl ((feq c53).1) ?_
                show Steps p.tables e below (T49.setTop (mkF m 97 #[.val (.long q0), .second, .val (.int q1), .val (.int q2), .val (.int q3), .val (.int q4), .val (.long v34), .second, .val (.int v37), .val (.int (1 : Int32)), .unset] [])) _
                refine XS.lload X49.here hx rfl (hb hby at_97) rfl ?_
                show Steps p.tables e below (T49.setTop (mkF m 99 #[.val (.long q0), .second, .val (.int q1), .val (.int q2), .val (.int q3), .val (.int q4), .val (.long v34), .second, .val (.int v37), .val (.int (1 : Int32)), .unset] [(.long v34)])) _
                refine XS.iload X49.here hx rfl (hb hby at_99) rfl ?_
                show Steps p.tables e below (T49.setTop (mkF m 101 #[.val (.long q0), .second, .val (.int q1), .val (.int q2), .val (.int q3), .val (.int q4), .val (.long v34), .second, .val (.int v37), .val (.int (1 : Int32)), .unset] [(.int v37), (.long v34)])) _
                refine st54 _ ?_
                show Steps p.tables e below (T54.setTop (mkF m 104 #[.val (.long q0), .second, .val (.int q1), .val (.int q2), .val (.int q3), .val (.int q4), .val (.long v34), .second, .val (.int v37), .val (.int (1 : Int32)), .unset] [(.long (own_f1 v37)), (.long v34)])) _
                refine XS.lcmp X54.here hx rfl (hb hby at_104) rfl ?_
                exact k
              by_cases c56 : (own_f1 v37) < v34
              · obtain ⟨fs, hr, hrun, hended, hW, hsame⟩ := X54.leave (v := some (.int (0 : Int32))) (fun h => by rw [Bd.returns] at h; cases h) hlk
                refine ⟨_, _, pre55 _ ?_, hrun, hended, _, _, rfl, ?_, ⟨_, rfl⟩, hW, hsame.mono (by decide) (by decide)⟩
                · show Steps p.tables e below (T54.setTop (mkF m 105 #[.val (.long q0), .second, .val (.int q1), .val (.int q2), .val (.int q3), .val (.int q4), .val (.long v34), .second, .val (.int v37), .val (.int (1 : Int32)), .unset] [(.int (lcmpW v34 (own_f1 v37)))])) _
                  refine XS.ifYes X54.here hx rfl (pc0 := 105) (pc' := 112) rfl (hb hby at_105) rfl ((if0 _ _).trans (tlt ((lw_gt v34 (own_f1 v37)).mpr c56)).2.2.1) (by decide) (by decide) ?_
                  show Steps p.tables e below (T54.setTop (mkF m 112 #[.val (.long q0), .second, .val (.int q1), .val (.int q2), .val (.int q3), .val (.int q4), .val (.long v34), .second, .val (.int v37), .val (.int (1 : Int32)), .unset] [])) _
                  refine XS.iconst X54.here hx rfl (hb hby at_112) ?_
                  show Steps p.tables e below (T54.setTop (mkF m 113 #[.val (.long q0), .second, .val (.int q1), .val (.int q2), .val (.int q3), .val (.int q4), .val (.long v34), .second, .val (.int v37), .val (.int (1 : Int32)), .unset] [(.int (0 : Int32))])) _
                  refine XS.istore X54.here hx rfl (hb hby at_113) rfl (l' := #[.val (.long q0), .second, .val (.int q1), .val (.int q2), .val (.int q3), .val (.int q4), .val (.long v34), .second, .val (.int v37), .val (.int (1 : Int32)), .val (.int (0 : Int32))]) rfl ?_
                  show Steps p.tables e below (T54.setTop (mkF m 115 #[.val (.long q0), .second, .val (.int q1), .val (.int q2), .val (.int q3), .val (.int q4), .val (.long v34), .second, .val (.int v37), .val (.int (1 : Int32)), .val (.int (0 : Int32))] [])) _
                  refine XS.iload X54.here hx rfl (hb hby at_115) rfl ?_
                  show Steps p.tables e below (T54.setTop (mkF m 117 #[.val (.long q0), .second, .val (.int q1), .val (.int q2), .val (.int q3), .val (.int q4), .val (.long v34), .second, .val (.int v37), .val (.int (1 : Int32)), .val (.int (0 : Int32))] [(.int (1 : Int32))])) _
                  refine XS.ifNo X54.here hx rfl (hb hby at_117) rfl (by decide) ?_
                  show Steps p.tables e below (T54.setTop (mkF m 120 #[.val (.long q0), .second, .val (.int q1), .val (.int q2), .val (.int q3), .val (.int q4), .val (.long v34), .second, .val (.int v37), .val (.int (1 : Int32)), .val (.int (0 : Int32))] [])) _
                  refine XS.iload X54.here hx rfl (hb hby at_120) rfl ?_
                  show Steps p.tables e below (T54.setTop (mkF m 122 #[.val (.long q0), .second, .val (.int q1), .val (.int q2), .val (.int q3), .val (.int q4), .val (.long v34), .second, .val (.int v37), .val (.int (1 : Int32)), .val (.int (0 : Int32))] [(.int (0 : Int32))])) _
                  refine XS.ifYes X54.here hx rfl (pc0 := 122) (pc' := 129) rfl (hb hby at_122) rfl (by decide) (by decide) (by decide) ?_
                  show Steps p.tables e below (T54.setTop (mkF m 129 #[.val (.long q0), .second, .val (.int q1), .val (.int q2), .val (.int q3), .val (.int q4), .val (.long v34), .second, .val (.int v37), .val (.int (1 : Int32)), .val (.int (0 : Int32))] [])) _
                  refine XS.iconst X54.here hx rfl (hb hby at_129) ?_
                  show Steps p.tables e below (T54.setTop (mkF m 130 #[.val (.long q0), .second, .val (.int q1), .val (.int q2), .val (.int q3), .val (.int q4), .val (.long v34), .second, .val (.int v37), .val (.int (1 : Int32)), .val (.int (0 : Int32))] [(.int (0 : Int32))])) _
                  exact retN X54 hx (t := .boolean) Bd.returns (by simp) (hb hby at_130) hr
                · show Q0 Z q0 q1 q2 q3 q4 h0 n0 _ T54.heap _
                  rw [e54]
                  exact ⟨by have w_hv37 := hv37.symm; subst w_hv37; have w_hv34 := hv34.symm; subst w_hv34; have w_hv31 := hv31.symm; subst w_hv31; simp only [own_f0, if_neg c2, if_neg c40, if_neg c42, if_neg c44, if_pos c51, if_neg c53, if_pos c56], N54⟩
              · obtain ⟨fs, hr, hrun, hended, hW, hsame⟩ := X54.leave (v := some (.int (1 : Int32))) (fun h => by rw [Bd.returns] at h; cases h) hlk
                refine ⟨_, _, pre55 _ ?_, hrun, hended, _, _, rfl, ?_, ⟨_, rfl⟩, hW, hsame.mono (by decide) (by decide)⟩
                · show Steps p.tables e below (T54.setTop (mkF m 105 #[.val (.long q0), .second, .val (.int q1), .val (.int q2), .val (.int q3), .val (.int q4), .val (.long v34), .second, .val (.int v37), .val (.int (1 : Int32)), .unset] [(.int (lcmpW v34 (own_f1 v37)))])) _
                  refine XS.ifNo X54.here hx rfl (hb hby at_105) rfl ((if0 _ _).trans (flt (mt (lw_gt v34 (own_f1 v37)).mp c56)).2.2.1) ?_
                  show Steps p.tables e below (T54.setTop (mkF m 108 #[.val (.long q0), .second, .val (.int q1), .val (.int q2), .val (.int q3), .val (.int q4), .val (.long v34), .second, .val (.int v37), .val (.int (1 : Int32)), .unset] [])) _
                  refine XS.iconst X54.here hx rfl (hb hby at_108) ?_
                  show Steps p.tables e below (T54.setTop (mkF m 109 #[.val (.long q0), .second, .val (.int q1), .val (.int q2), .val (.int q3), .val (.int q4), .val (.long v34), .second, .val (.int v37), .val (.int (1 : Int32)), .unset] [(.int (1 : Int32))])) _
                  refine XS.goto X54.here hx rfl (pc0 := 109) (pc' := 113) rfl (hb hby at_109) (by decide) (by decide) ?_
                  show Steps p.tables e below (T54.setTop (mkF m 113 #[.val (.long q0), .second, .val (.int q1), .val (.int q2), .val (.int q3), .val (.int q4), .val (.long v34), .second, .val (.int v37), .val (.int (1 : Int32)), .unset] [(.int (1 : Int32))])) _
                  refine XS.istore X54.here hx rfl (hb hby at_113) rfl (l' := #[.val (.long q0), .second, .val (.int q1), .val (.int q2), .val (.int q3), .val (.int q4), .val (.long v34), .second, .val (.int v37), .val (.int (1 : Int32)), .val (.int (1 : Int32))]) rfl ?_
                  show Steps p.tables e below (T54.setTop (mkF m 115 #[.val (.long q0), .second, .val (.int q1), .val (.int q2), .val (.int q3), .val (.int q4), .val (.long v34), .second, .val (.int v37), .val (.int (1 : Int32)), .val (.int (1 : Int32))] [])) _
                  refine XS.iload X54.here hx rfl (hb hby at_115) rfl ?_
                  show Steps p.tables e below (T54.setTop (mkF m 117 #[.val (.long q0), .second, .val (.int q1), .val (.int q2), .val (.int q3), .val (.int q4), .val (.long v34), .second, .val (.int v37), .val (.int (1 : Int32)), .val (.int (1 : Int32))] [(.int (1 : Int32))])) _
                  refine XS.ifNo X54.here hx rfl (hb hby at_117) rfl (by decide) ?_
                  show Steps p.tables e below (T54.setTop (mkF m 120 #[.val (.long q0), .second, .val (.int q1), .val (.int q2), .val (.int q3), .val (.int q4), .val (.long v34), .second, .val (.int v37), .val (.int (1 : Int32)), .val (.int (1 : Int32))] [])) _
                  refine XS.iload X54.here hx rfl (hb hby at_120) rfl ?_
                  show Steps p.tables e below (T54.setTop (mkF m 122 #[.val (.long q0), .second, .val (.int q1), .val (.int q2), .val (.int q3), .val (.int q4), .val (.long v34), .second, .val (.int v37), .val (.int (1 : Int32)), .val (.int (1 : Int32))] [(.int (1 : Int32))])) _
                  refine XS.ifNo X54.here hx rfl (hb hby at_122) rfl (by decide) ?_
                  show Steps p.tables e below (T54.setTop (mkF m 125 #[.val (.long q0), .second, .val (.int q1), .val (.int q2), .val (.int q3), .val (.int q4), .val (.long v34), .second, .val (.int v37), .val (.int (1 : Int32)), .val (.int (1 : Int32))] [])) _
                  refine XS.iconst X54.here hx rfl (hb hby at_125) ?_
                  show Steps p.tables e below (T54.setTop (mkF m 126 #[.val (.long q0), .second, .val (.int q1), .val (.int q2), .val (.int q3), .val (.int q4), .val (.long v34), .second, .val (.int v37), .val (.int (1 : Int32)), .val (.int (1 : Int32))] [(.int (1 : Int32))])) _
                  refine XS.goto X54.here hx rfl (pc0 := 126) (pc' := 130) rfl (hb hby at_126) (by decide) (by decide) ?_
                  show Steps p.tables e below (T54.setTop (mkF m 130 #[.val (.long q0), .second, .val (.int q1), .val (.int q2), .val (.int q3), .val (.int q4), .val (.long v34), .second, .val (.int v37), .val (.int (1 : Int32)), .val (.int (1 : Int32))] [(.int (1 : Int32))])) _
                  exact retN X54 hx (t := .boolean) Bd.returns (by simp) (hb hby at_130) hr
                · show Q0 Z q0 q1 q2 q3 q4 h0 n0 _ T54.heap _
                  rw [e54]
                  exact ⟨by have w_hv37 := hv37.symm; subst w_hv37; have w_hv34 := hv34.symm; subst w_hv34; have w_hv31 := hv31.symm; subst w_hv31; simp only [own_f0, if_neg c2, if_neg c40, if_neg c42, if_neg c44, if_pos c51, if_neg c53, if_neg c56], N54⟩
          · have pre57 : ∀ t, Steps p.tables e below (T49.setTop (mkF m 94 #[.val (.long q0), .second, .val (.int q1), .val (.int q2), .val (.int q3), .val (.int q4), .val (.long v34), .second, .val (.int v37), .val (.int (0 : Int32)), .unset] [(.int (14 : Int32)), (.int v37)])) t → Steps p.tables e below (s₁.setTop (entryFrame m #[(.long q0), (.int q1), (.int q2), (.int q3), (.int q4)] maxLocals)) t := by
              intro t k
              refine pre50 t ?_
              show Steps p.tables e below (T49.setTop (mkF m 80 #[.val (.long q0), .second, .val (.int q1), .val (.int q2), .val (.int q3), .val (.int q4), .val (.long v34), .second, .val (.int v37), .unset, .unset] [(.int (lcmpW (own_f1 ((v37 - (1 : Int32)))) v34))])) _
              refine XS.ifYes X49.here hx rfl (pc0 := 80) (pc' := 87) rfl (hb hby at_80) rfl ((if0 _ _).trans (flt (mt (lw_lt (own_f1 ((v37 - (1 : Int32)))) v34).mp c51)).2.1) (by decide) (by decide) ?_
              show Steps p.tables e below (T49.setTop (mkF m 87 #[.val (.long q0), .second, .val (.int q1), .val (.int q2), .val (.int q3), .val (.int q4), .val (.long v34), .second, .val (.int v37), .unset, .unset] [])) _
              refine XS.iconst X49.here hx rfl (hb hby at_87) ?_
              show Steps p.tables e below (T49.setTop (mkF m 88 #[.val (.long q0), .second, .val (.int q1), .val (.int q2), .val (.int q3), .val (.int q4), .val (.long v34), .second, .val (.int v37), .unset, .unset] [(.int (0 : Int32))])) _
              refine XS.istore X49.here hx rfl (hb hby at_88) rfl (l' := #[.val (.long q0), .second, .val (.int q1), .val (.int q2), .val (.int q3), .val (.int q4), .val (.long v34), .second, .val (.int v37), .val (.int (0 : Int32)), .unset]) rfl ?_
              show Steps p.tables e below (T49.setTop (mkF m 90 #[.val (.long q0), .second, .val (.int q1), .val (.int q2), .val (.int q3), .val (.int q4), .val (.long v34), .second, .val (.int v37), .val (.int (0 : Int32)), .unset] [])) _
              refine XS.iload X49.here hx rfl (hb hby at_90) rfl ?_
              show Steps p.tables e below (T49.setTop (mkF m 92 #[.val (.long q0), .second, .val (.int q1), .val (.int q2), .val (.int q3), .val (.int q4), .val (.long v34), .second, .val (.int v37), .val (.int (0 : Int32)), .unset] [(.int v37)])) _
              refine XS.bipush X49.here hx rfl (hb hby at_92) ?_
              exact k
            by_cases c58 : v37 = (14 : Int32)
            · obtain ⟨fs, hr, hrun, hended, hW, hsame⟩ := X49.leave (v := some (.int (0 : Int32))) (fun h => by rw [Bd.returns] at h; cases h) hlk
              refine ⟨_, _, pre57 _ ?_, hrun, hended, _, _, rfl, ?_, ⟨_, rfl⟩, hW, hsame.mono (by decide) (by decide)⟩
              · show Steps p.tables e below (T49.setTop (mkF m 94 #[.val (.long q0), .second, .val (.int q1), .val (.int q2), .val (.int q3), .val (.int q4), .val (.long v34), .second, .val (.int v37), .val (.int (0 : Int32)), .unset] [(.int (14 : Int32)), (.int v37)])) _
                refine XS.icmpYes X49.here hx rfl (pc0 := 94) (pc' := 108) rfl (hb hby at_94) rfl ((teq c58).1) (by decide) (by decide) ?_
                show Steps p.tables e below (T49.setTop (mkF m 108 #[.val (.long q0), .second, .val (.int q1), .val (.int q2), .val (.int q3), .val (.int q4), .val (.long v34), .second, .val (.int v37), .val (.int (0 : Int32)), .unset] [])) _
                refine XS.iconst X49.here hx rfl (hb hby at_108) ?_
                show Steps p.tables e below (T49.setTop (mkF m 109 #[.val (.long q0), .second, .val (.int q1), .val (.int q2), .val (.int q3), .val (.int q4), .val (.long v34), .second, .val (.int v37), .val (.int (0 : Int32)), .unset] [(.int (1 : Int32))])) _
                refine XS.goto X49.here hx rfl (pc0 := 109) (pc' := 113) rfl (hb hby at_109) (by decide) (by decide) ?_
                show Steps p.tables e below (T49.setTop (mkF m 113 #[.val (.long q0), .second, .val (.int q1), .val (.int q2), .val (.int q3), .val (.int q4), .val (.long v34), .second, .val (.int v37), .val (.int (0 : Int32)), .unset] [(.int (1 : Int32))])) _
                refine XS.istore X49.here hx rfl (hb hby at_113) rfl (l' := #[.val (.long q0), .second, .val (.int q1), .val (.int q2), .val (.int q3), .val (.int q4), .val (.long v34), .second, .val (.int v37), .val (.int (0 : Int32)), .val (.int (1 : Int32))]) rfl ?_
                show Steps p.tables e below (T49.setTop (mkF m 115 #[.val (.long q0), .second, .val (.int q1), .val (.int q2), .val (.int q3), .val (.int q4), .val (.long v34), .second, .val (.int v37), .val (.int (0 : Int32)), .val (.int (1 : Int32))] [])) _
                refine XS.iload X49.here hx rfl (hb hby at_115) rfl ?_
                show Steps p.tables e below (T49.setTop (mkF m 117 #[.val (.long q0), .second, .val (.int q1), .val (.int q2), .val (.int q3), .val (.int q4), .val (.long v34), .second, .val (.int v37), .val (.int (0 : Int32)), .val (.int (1 : Int32))] [(.int (0 : Int32))])) _
                refine XS.ifYes X49.here hx rfl (pc0 := 117) (pc' := 129) rfl (hb hby at_117) rfl (by decide) (by decide) (by decide) ?_
                show Steps p.tables e below (T49.setTop (mkF m 129 #[.val (.long q0), .second, .val (.int q1), .val (.int q2), .val (.int q3), .val (.int q4), .val (.long v34), .second, .val (.int v37), .val (.int (0 : Int32)), .val (.int (1 : Int32))] [])) _
                refine XS.iconst X49.here hx rfl (hb hby at_129) ?_
                show Steps p.tables e below (T49.setTop (mkF m 130 #[.val (.long q0), .second, .val (.int q1), .val (.int q2), .val (.int q3), .val (.int q4), .val (.long v34), .second, .val (.int v37), .val (.int (0 : Int32)), .val (.int (1 : Int32))] [(.int (0 : Int32))])) _
                exact retN X49 hx (t := .boolean) Bd.returns (by simp) (hb hby at_130) hr
              · show Q0 Z q0 q1 q2 q3 q4 h0 n0 _ T49.heap _
                rw [e49]
                exact ⟨by have w_hv37 := hv37.symm; subst w_hv37; have w_hv34 := hv34.symm; subst w_hv34; have w_hv31 := hv31.symm; subst w_hv31; simp only [own_f0, if_neg c2, if_neg c40, if_neg c42, if_neg c44, if_neg c51, if_pos c58], N49⟩
            · obtain ⟨_, _, ⟨T59, L59, k59, n59⟩, -, X59, ⟨Lc59, hQ59, l59, y59, z59⟩, st59⟩ := Jvm.LawKit.callS X49 hx (y := (⟨"com/example/tributary/tributary/workload/SettingIndexLettersPinLaw", "pow26", "(I)J"⟩ : MethodName)) hown (mvT hZ (hw _ (List.mem_of_getElem? (i := 1) rfl))) (mvT hZ (hw _ (List.mem_of_getElem? (i := 2) rfl))) (mvT hZ (hw _ (List.mem_of_getElem? (i := 3) rfl))) (mvT hZ (hw _ (List.mem_of_getElem? (i := 4) rfl))) (by decide) (backOf (W := 2) (rm1 l Z a0 hw [] v37  h49 n0 sz49  (by first | exact own_inB (by assumption) (by assumption) (by assumption) | (rename_i hq; decide))) hZ (hw _ (List.mem_of_getElem? (i := 4) rfl)) (hw _ (List.mem_of_getElem? (i := 3) rfl)) (by decide) (by decide)) (g := (mkF m 101 #[.val (.long q0), .second, .val (.int q1), .val (.int q2), .val (.int q3), .val (.int q4), .val (.long v34), .second, .val (.int v37), .val (.int (0 : Int32)), .unset] [(.int v37), (.long v34)])) rfl (by rw [hml]; rfl) (argsL := [(.int v37)]) (rest := [(.long v34)]) (lenOf pd_5 rfl) rfl (by show 2 * 0 + _ ≤ _; exact Nat.le_of_eq rfl) (hb hby at_101) (fun _ _ => ⟨rfl, e49, (by decide : 2 + 1 ≤ _), (by decide : 28 + 14 ≤ _)⟩)
              dsimp only [Pt.U, Pt.locs, Pt.cells, Pt.slots] at X59 l59 y59 z59 st59 hQ59
              subst l59 y59 z59
              obtain ⟨rfl, N59q, K59⟩ := hQ59
              obtain ⟨h59, e59⟩ : ∃ z, T59.heap = z := ⟨_, rfl⟩
              rw [e59] at K59
              have sz59 : n0 ≤ h59.size := Nat.le_trans sz49 K59.1
              have N59 := Fr.app N49 N59q
              have pre60 : ∀ t, Steps p.tables e below (T59.setTop (mkF m 105 #[.val (.long q0), .second, .val (.int q1), .val (.int q2), .val (.int q3), .val (.int q4), .val (.long v34), .second, .val (.int v37), .val (.int (0 : Int32)), .unset] [(.int (lcmpW v34 (own_f1 v37)))])) t → Steps p.tables e below (s₁.setTop (entryFrame m #[(.long q0), (.int q1), (.int q2), (.int q3), (.int q4)] maxLocals)) t := by
                intro t k
                refine pre57 t ?_
                show Steps p.tables e below (T49.setTop (mkF m 94 #[.val (.long q0), .second, .val (.int q1), .val (.int q2), .val (.int q3), .val (.int q4), .val (.long v34), .second, .val (.int v37), .val (.int (0 : Int32)), .unset] [(.int (14 : Int32)), (.int v37)])) _
                refine XS.icmpNo X49.here hx rfl (hb hby at_94) rfl ((feq c58).1) ?_
                show Steps p.tables e below (T49.setTop (mkF m 97 #[.val (.long q0), .second, .val (.int q1), .val (.int q2), .val (.int q3), .val (.int q4), .val (.long v34), .second, .val (.int v37), .val (.int (0 : Int32)), .unset] [])) _
                refine XS.lload X49.here hx rfl (hb hby at_97) rfl ?_
                show Steps p.tables e below (T49.setTop (mkF m 99 #[.val (.long q0), .second, .val (.int q1), .val (.int q2), .val (.int q3), .val (.int q4), .val (.long v34), .second, .val (.int v37), .val (.int (0 : Int32)), .unset] [(.long v34)])) _
                refine XS.iload X49.here hx rfl (hb hby at_99) rfl ?_
                show Steps p.tables e below (T49.setTop (mkF m 101 #[.val (.long q0), .second, .val (.int q1), .val (.int q2), .val (.int q3), .val (.int q4), .val (.long v34), .second, .val (.int v37), .val (.int (0 : Int32)), .unset] [(.int v37), (.long v34)])) _
                refine st59 _ ?_
                show Steps p.tables e below (T59.setTop (mkF m 104 #[.val (.long q0), .second, .val (.int q1), .val (.int q2), .val (.int q3), .val (.int q4), .val (.long v34), .second, .val (.int v37), .val (.int (0 : Int32)), .unset] [(.long (own_f1 v37)), (.long v34)])) _
                refine XS.lcmp X59.here hx rfl (hb hby at_104) rfl ?_
                exact k
              by_cases c61 : (own_f1 v37) < v34
              · obtain ⟨fs, hr, hrun, hended, hW, hsame⟩ := X59.leave (v := some (.int (0 : Int32))) (fun h => by rw [Bd.returns] at h; cases h) hlk
                refine ⟨_, _, pre60 _ ?_, hrun, hended, _, _, rfl, ?_, ⟨_, rfl⟩, hW, hsame.mono (by decide) (by decide)⟩
                · show Steps p.tables e below (T59.setTop (mkF m 105 #[.val (.long q0), .second, .val (.int q1), .val (.int q2), .val (.int q3), .val (.int q4), .val (.long v34), .second, .val (.int v37), .val (.int (0 : Int32)), .unset] [(.int (lcmpW v34 (own_f1 v37)))])) _
                  refine XS.ifYes X59.here hx rfl (pc0 := 105) (pc' := 112) rfl (hb hby at_105) rfl ((if0 _ _).trans (tlt ((lw_gt v34 (own_f1 v37)).mpr c61)).2.2.1) (by decide) (by decide) ?_
                  show Steps p.tables e below (T59.setTop (mkF m 112 #[.val (.long q0), .second, .val (.int q1), .val (.int q2), .val (.int q3), .val (.int q4), .val (.long v34), .second, .val (.int v37), .val (.int (0 : Int32)), .unset] [])) _
                  refine XS.iconst X59.here hx rfl (hb hby at_112) ?_
                  show Steps p.tables e below (T59.setTop (mkF m 113 #[.val (.long q0), .second, .val (.int q1), .val (.int q2), .val (.int q3), .val (.int q4), .val (.long v34), .second, .val (.int v37), .val (.int (0 : Int32)), .unset] [(.int (0 : Int32))])) _
                  refine XS.istore X59.here hx rfl (hb hby at_113) rfl (l' := #[.val (.long q0), .second, .val (.int q1), .val (.int q2), .val (.int q3), .val (.int q4), .val (.long v34), .second, .val (.int v37), .val (.int (0 : Int32)), .val (.int (0 : Int32))]) rfl ?_
                  show Steps p.tables e below (T59.setTop (mkF m 115 #[.val (.long q0), .second, .val (.int q1), .val (.int q2), .val (.int q3), .val (.int q4), .val (.long v34), .second, .val (.int v37), .val (.int (0 : Int32)), .val (.int (0 : Int32))] [])) _
                  refine XS.iload X59.here hx rfl (hb hby at_115) rfl ?_
                  show Steps p.tables e below (T59.setTop (mkF m 117 #[.val (.long q0), .second, .val (.int q1), .val (.int q2), .val (.int q3), .val (.int q4), .val (.long v34), .second, .val (.int v37), .val (.int (0 : Int32)), .val (.int (0 : Int32))] [(.int (0 : Int32))])) _
                  refine XS.ifYes X59.here hx rfl (pc0 := 117) (pc' := 129) rfl (hb hby at_117) rfl (by decide) (by decide) (by decide) ?_
                  show Steps p.tables e below (T59.setTop (mkF m 129 #[.val (.long q0), .second, .val (.int q1), .val (.int q2), .val (.int q3), .val (.int q4), .val (.long v34), .second, .val (.int v37), .val (.int (0 : Int32)), .val (.int (0 : Int32))] [])) _
                  refine XS.iconst X59.here hx rfl (hb hby at_129) ?_
                  show Steps p.tables e below (T59.setTop (mkF m 130 #[.val (.long q0), .second, .val (.int q1), .val (.int q2), .val (.int q3), .val (.int q4), .val (.long v34), .second, .val (.int v37), .val (.int (0 : Int32)), .val (.int (0 : Int32))] [(.int (0 : Int32))])) _
                  exact retN X59 hx (t := .boolean) Bd.returns (by simp) (hb hby at_130) hr
                · show Q0 Z q0 q1 q2 q3 q4 h0 n0 _ T59.heap _
                  rw [e59]
                  exact ⟨by have w_hv37 := hv37.symm; subst w_hv37; have w_hv34 := hv34.symm; subst w_hv34; have w_hv31 := hv31.symm; subst w_hv31; simp only [own_f0, if_neg c2, if_neg c40, if_neg c42, if_neg c44, if_neg c51, if_neg c58, if_pos c61], N59⟩
              · obtain ⟨fs, hr, hrun, hended, hW, hsame⟩ := X59.leave (v := some (.int (0 : Int32))) (fun h => by rw [Bd.returns] at h; cases h) hlk
                refine ⟨_, _, pre60 _ ?_, hrun, hended, _, _, rfl, ?_, ⟨_, rfl⟩, hW, hsame.mono (by decide) (by decide)⟩
                · show Steps p.tables e below (T59.setTop (mkF m 105 #[.val (.long q0), .second, .val (.int q1), .val (.int q2), .val (.int q3), .val (.int q4), .val (.long v34), .second, .val (.int v37), .val (.int (0 : Int32)), .unset] [(.int (lcmpW v34 (own_f1 v37)))])) _
                  refine XS.ifNo X59.here hx rfl (hb hby at_105) rfl ((if0 _ _).trans (flt (mt (lw_gt v34 (own_f1 v37)).mp c61)).2.2.1) ?_
                  show Steps p.tables e below (T59.setTop (mkF m 108 #[.val (.long q0), .second, .val (.int q1), .val (.int q2), .val (.int q3), .val (.int q4), .val (.long v34), .second, .val (.int v37), .val (.int (0 : Int32)), .unset] [])) _
                  refine XS.iconst X59.here hx rfl (hb hby at_108) ?_
                  show Steps p.tables e below (T59.setTop (mkF m 109 #[.val (.long q0), .second, .val (.int q1), .val (.int q2), .val (.int q3), .val (.int q4), .val (.long v34), .second, .val (.int v37), .val (.int (0 : Int32)), .unset] [(.int (1 : Int32))])) _
                  refine XS.goto X59.here hx rfl (pc0 := 109) (pc' := 113) rfl (hb hby at_109) (by decide) (by decide) ?_
                  show Steps p.tables e below (T59.setTop (mkF m 113 #[.val (.long q0), .second, .val (.int q1), .val (.int q2), .val (.int q3), .val (.int q4), .val (.long v34), .second, .val (.int v37), .val (.int (0 : Int32)), .unset] [(.int (1 : Int32))])) _
                  refine XS.istore X59.here hx rfl (hb hby at_113) rfl (l' := #[.val (.long q0), .second, .val (.int q1), .val (.int q2), .val (.int q3), .val (.int q4), .val (.long v34), .second, .val (.int v37), .val (.int (0 : Int32)), .val (.int (1 : Int32))]) rfl ?_
                  show Steps p.tables e below (T59.setTop (mkF m 115 #[.val (.long q0), .second, .val (.int q1), .val (.int q2), .val (.int q3), .val (.int q4), .val (.long v34), .second, .val (.int v37), .val (.int (0 : Int32)), .val (.int (1 : Int32))] [])) _
                  refine XS.iload X59.here hx rfl (hb hby at_115) rfl ?_
                  show Steps p.tables e below (T59.setTop (mkF m 117 #[.val (.long q0), .second, .val (.int q1), .val (.int q2), .val (.int q3), .val (.int q4), .val (.long v34), .second, .val (.int v37), .val (.int (0 : Int32)), .val (.int (1 : Int32))] [(.int (0 : Int32))])) _
                  refine XS.ifYes X59.here hx rfl (pc0 := 117) (pc' := 129) rfl (hb hby at_117) rfl (by decide) (by decide) (by decide) ?_
                  show Steps p.tables e below (T59.setTop (mkF m 129 #[.val (.long q0), .second, .val (.int q1), .val (.int q2), .val (.int q3), .val (.int q4), .val (.long v34), .second, .val (.int v37), .val (.int (0 : Int32)), .val (.int (1 : Int32))] [])) _
                  refine XS.iconst X59.here hx rfl (hb hby at_129) ?_
                  show Steps p.tables e below (T59.setTop (mkF m 130 #[.val (.long q0), .second, .val (.int q1), .val (.int q2), .val (.int q3), .val (.int q4), .val (.long v34), .second, .val (.int v37), .val (.int (0 : Int32)), .val (.int (1 : Int32))] [(.int (0 : Int32))])) _
                  exact retN X59 hx (t := .boolean) Bd.returns (by simp) (hb hby at_130) hr
                · show Q0 Z q0 q1 q2 q3 q4 h0 n0 _ T59.heap _
                  rw [e59]
                  exact ⟨by have w_hv37 := hv37.symm; subst w_hv37; have w_hv34 := hv34.symm; subst w_hv34; have w_hv31 := hv31.symm; subst w_hv31; simp only [own_f0, if_neg c2, if_neg c40, if_neg c42, if_neg c44, if_neg c51, if_neg c58, if_neg c61], N59⟩
theorem own_core (e : Int64) (k : Int32) (hk : k = own_f2 e) : (if k < (1 : Int32) then (0 : Int32) else (if (14 : Int32) < k then (0 : Int32) else (if k = (1 : Int32) then (if (own_f1 k) < e then (0 : Int32) else (1 : Int32)) else (if (own_f1 ((k - (1 : Int32)))) < e then (if k = (14 : Int32) then (1 : Int32) else (if (own_f1 k) < e then (0 : Int32) else (1 : Int32))) else (if k = (14 : Int32) then (0 : Int32) else (if (own_f1 k) < e then (0 : Int32) else (0 : Int32))))))) = 1 := by
  have f0 : own_f1 0 = 1 := by decide +kernel
  have f1 : own_f1 1 = 26 := by decide +kernel
  have f2 : own_f1 2 = 676 := by decide +kernel
  have f3 : own_f1 3 = 17576 := by decide +kernel
  have f4 : own_f1 4 = 456976 := by decide +kernel
  have f5 : own_f1 5 = 11881376 := by decide +kernel
  have f6 : own_f1 6 = 308915776 := by decide +kernel
  have f7 : own_f1 7 = 8031810176 := by decide +kernel
  have f8 : own_f1 8 = 208827064576 := by decide +kernel
  have f9 : own_f1 9 = 5429503678976 := by decide +kernel
  have f10 : own_f1 10 = 141167095653376 := by decide +kernel
  have f11 : own_f1 11 = 3670344486987776 := by decide +kernel
  have f12 : own_f1 12 = 95428956661682176 := by decide +kernel
  have f13 : own_f1 13 = 2481152873203736576 := by decide +kernel
  have g2 : own_f1 ((2 : Int32) - (1 : Int32)) = 26 := by decide +kernel
  have g3 : own_f1 ((3 : Int32) - (1 : Int32)) = 676 := by decide +kernel
  have g4 : own_f1 ((4 : Int32) - (1 : Int32)) = 17576 := by decide +kernel
  have g5 : own_f1 ((5 : Int32) - (1 : Int32)) = 456976 := by decide +kernel
  have g6 : own_f1 ((6 : Int32) - (1 : Int32)) = 11881376 := by decide +kernel
  have g7 : own_f1 ((7 : Int32) - (1 : Int32)) = 308915776 := by decide +kernel
  have g8 : own_f1 ((8 : Int32) - (1 : Int32)) = 8031810176 := by decide +kernel
  have g9 : own_f1 ((9 : Int32) - (1 : Int32)) = 208827064576 := by decide +kernel
  have g10 : own_f1 ((10 : Int32) - (1 : Int32)) = 5429503678976 := by decide +kernel
  have g11 : own_f1 ((11 : Int32) - (1 : Int32)) = 141167095653376 := by decide +kernel
  have g12 : own_f1 ((12 : Int32) - (1 : Int32)) = 3670344486987776 := by decide +kernel
  have g13 : own_f1 ((13 : Int32) - (1 : Int32)) = 95428956661682176 := by decide +kernel
  have g14 : own_f1 ((14 : Int32) - (1 : Int32)) = 2481152873203736576 := by decide +kernel
  by_cases h1 : (26 : Int64) < e
  rotate_left
  · have q : own_f2 e = 1 := by simp only [own_f2, if_neg h1]
    rw [q] at hk
    subst hk
    rw [if_neg (by decide), if_neg (by decide), if_pos rfl, f1, if_neg h1]
  by_cases h2 : (676 : Int64) < e
  rotate_left
  · have q : own_f2 e = 2 := by simp only [own_f2, if_pos h1, if_neg h2]
    rw [q] at hk
    subst hk
    rw [if_neg (by decide), if_neg (by decide), if_neg (by decide), g2, if_pos h1, if_neg (by decide), f2, if_neg h2]
  by_cases h3 : (17576 : Int64) < e
  rotate_left
  · have q : own_f2 e = 3 := by simp only [own_f2, if_pos h1, if_pos h2, if_neg h3]
    rw [q] at hk
    subst hk
    rw [if_neg (by decide), if_neg (by decide), if_neg (by decide), g3, if_pos h2, if_neg (by decide), f3, if_neg h3]
  by_cases h4 : (456976 : Int64) < e
  rotate_left
  · have q : own_f2 e = 4 := by simp only [own_f2, if_pos h1, if_pos h2, if_pos h3, if_neg h4]
    rw [q] at hk
    subst hk
    rw [if_neg (by decide), if_neg (by decide), if_neg (by decide), g4, if_pos h3, if_neg (by decide), f4, if_neg h4]
  by_cases h5 : (11881376 : Int64) < e
  rotate_left
  · have q : own_f2 e = 5 := by simp only [own_f2, if_pos h1, if_pos h2, if_pos h3, if_pos h4, if_neg h5]
    rw [q] at hk
    subst hk
    rw [if_neg (by decide), if_neg (by decide), if_neg (by decide), g5, if_pos h4, if_neg (by decide), f5, if_neg h5]
  by_cases h6 : (308915776 : Int64) < e
  rotate_left
  · have q : own_f2 e = 6 := by simp only [own_f2, if_pos h1, if_pos h2, if_pos h3, if_pos h4, if_pos h5, if_neg h6]
    rw [q] at hk
    subst hk
    rw [if_neg (by decide), if_neg (by decide), if_neg (by decide), g6, if_pos h5, if_neg (by decide), f6, if_neg h6]
  by_cases h7 : (8031810176 : Int64) < e
  rotate_left
  · have q : own_f2 e = 7 := by simp only [own_f2, if_pos h1, if_pos h2, if_pos h3, if_pos h4, if_pos h5, if_pos h6, if_neg h7]
    rw [q] at hk
    subst hk
    rw [if_neg (by decide), if_neg (by decide), if_neg (by decide), g7, if_pos h6, if_neg (by decide), f7, if_neg h7]
  by_cases h8 : (208827064576 : Int64) < e
  rotate_left
  · have q : own_f2 e = 8 := by simp only [own_f2, if_pos h1, if_pos h2, if_pos h3, if_pos h4, if_pos h5, if_pos h6, if_pos h7, if_neg h8]
    rw [q] at hk
    subst hk
    rw [if_neg (by decide), if_neg (by decide), if_neg (by decide), g8, if_pos h7, if_neg (by decide), f8, if_neg h8]
  by_cases h9 : (5429503678976 : Int64) < e
  rotate_left
  · have q : own_f2 e = 9 := by simp only [own_f2, if_pos h1, if_pos h2, if_pos h3, if_pos h4, if_pos h5, if_pos h6, if_pos h7, if_pos h8, if_neg h9]
    rw [q] at hk
    subst hk
    rw [if_neg (by decide), if_neg (by decide), if_neg (by decide), g9, if_pos h8, if_neg (by decide), f9, if_neg h9]
  by_cases h10 : (141167095653376 : Int64) < e
  rotate_left
  · have q : own_f2 e = 10 := by simp only [own_f2, if_pos h1, if_pos h2, if_pos h3, if_pos h4, if_pos h5, if_pos h6, if_pos h7, if_pos h8, if_pos h9, if_neg h10]
    rw [q] at hk
    subst hk
    rw [if_neg (by decide), if_neg (by decide), if_neg (by decide), g10, if_pos h9, if_neg (by decide), f10, if_neg h10]
  by_cases h11 : (3670344486987776 : Int64) < e
  rotate_left
  · have q : own_f2 e = 11 := by simp only [own_f2, if_pos h1, if_pos h2, if_pos h3, if_pos h4, if_pos h5, if_pos h6, if_pos h7, if_pos h8, if_pos h9, if_pos h10, if_neg h11]
    rw [q] at hk
    subst hk
    rw [if_neg (by decide), if_neg (by decide), if_neg (by decide), g11, if_pos h10, if_neg (by decide), f11, if_neg h11]
  by_cases h12 : (95428956661682176 : Int64) < e
  rotate_left
  · have q : own_f2 e = 12 := by simp only [own_f2, if_pos h1, if_pos h2, if_pos h3, if_pos h4, if_pos h5, if_pos h6, if_pos h7, if_pos h8, if_pos h9, if_pos h10, if_pos h11, if_neg h12]
    rw [q] at hk
    subst hk
    rw [if_neg (by decide), if_neg (by decide), if_neg (by decide), g12, if_pos h11, if_neg (by decide), f12, if_neg h12]
  by_cases h13 : (2481152873203736576 : Int64) < e
  rotate_left
  · have q : own_f2 e = 13 := by simp only [own_f2, if_pos h1, if_pos h2, if_pos h3, if_pos h4, if_pos h5, if_pos h6, if_pos h7, if_pos h8, if_pos h9, if_pos h10, if_pos h11, if_pos h12, if_neg h13]
    rw [q] at hk
    subst hk
    rw [if_neg (by decide), if_neg (by decide), if_neg (by decide), g13, if_pos h12, if_neg (by decide), f13, if_neg h13]
  have q : own_f2 e = 14 := by simp only [own_f2, if_pos h1, if_pos h2, if_pos h3, if_pos h4, if_pos h5, if_pos h6, if_pos h7, if_pos h8, if_pos h9, if_pos h10, if_pos h11, if_pos h12, if_pos h13]
  rw [q] at hk
  subst hk
  rw [if_neg (by decide), if_neg (by decide), if_neg (by decide), g14, if_pos h13, if_pos rfl]
theorem own_plain (q0 : Int64) (q1 q2 q3 q4 : Int32) : own_f0 q0 q1 q2 q3 q4 = 1 := by
  simp only [own_f0]
  split
  · exact own_core _ _ rfl
  · exact own_core _ _ rfl

set_option maxRecDepth 65536 in
set_option maxHeartbeats 40000000 in
theorem comes_1 {Post : Tables → Env → Array Value → State → Outcome → State → Prop} (hpost : ∀ tb e args s v u, (limb_1_1.after args s (.returned v) u = true ∧ limb_1_2.after args s (.returned v) u = true ∧ True) → FrameEnd s (.returned v) u (Jvm.fieldLocs frame_1_writes args s ++ Jvm.arrayLocs frame_1_arrays args s ++ Jvm.staticLocs frame_1_statics s) 16 192 → Post tb e args s (.returned v) u) :
    ArmFor flags0 classFile x code maxLocals ret World_1 tables_1 room_1 Calls_1 rest_1 Pre_1 Post := by
  intro l hfl _ _ p e ha hc hk s m args below hf hA hF happ hP
  obtain ⟨hcalls, hrest, hpre⟩ := hP
  obtain ⟨-, -, -, hnamed, -, -, -, hat⟩ := (Spec.applies_iff hf).mp happ
  obtain ⟨hg, hn⟩ := and_e (Cond.before_iff.mp (show (Jvm.Cond.and given_1 narrow_1).before args s = true from hpre))
  obtain ⟨gc, gr0⟩ := and_e hg
  obtain ⟨w0, w1, w2, w3, w4, rfl⟩ : ∃ w0 w1 w2 w3 w4 : Value, args = #[w0, w1, w2, w3, w4] := by
    have hs : args.size = 5 := by simpa [Cond.value, given_1] using gc
    obtain ⟨L⟩ := args
    match L, hs with
    | [w0, w1, w2, w3, w4], _ => exact ⟨w0, w1, w2, w3, w4, rfl⟩
  have hw := fun d (hd : d ∈ tables_1) => atoms_spec (ws := Jvm.Cond.code x code maxLocals ret :: tables_1) hat d (List.mem_cons_of_mem _ hd)
  obtain ⟨g0, gr1⟩ := and_e gr0
  obtain ⟨i0, ei0⟩ := isL_v g0
  obtain rfl : w0 = (.long i0) := Option.some.inj ei0
  obtain ⟨g1, gr2⟩ := and_e gr1
  obtain ⟨i1, ei1⟩ := is_v g1
  obtain rfl : w1 = (.int i1) := Option.some.inj ei1
  obtain ⟨g2, gr3⟩ := and_e gr2
  obtain ⟨i2, ei2⟩ := is_v g2
  obtain rfl : w2 = (.int i2) := Option.some.inj ei2
  obtain ⟨g3, gr4⟩ := and_e gr3
  obtain ⟨i3, ei3⟩ := is_v g3
  obtain rfl : w3 = (.int i3) := Option.some.inj ei3
  obtain ⟨i4, ei4⟩ := is_v gr4
  obtain rfl : w4 = (.int i4) := Option.some.inj ei4
  obtain ⟨n, o, h1, h2, h3, _, L, rfl, ⟨hv, N⟩, hq⟩ := rm0 l s _ hw tables_1 i0 i1 i2 i3 i4 s.heap s.heap.size (Nat.le_refl _) p e ha hc hk s m _ below hf ((Spec.applies_iff_loose hf).mp happ).1 ⟨rfl, State.Warmed39.refl s, rfl⟩ trivial
  rw [own_plain] at hv
  subst hv
  refine ⟨n, _, h1, h2, h3, hpost _ _ _ _ _ _ ⟨Cond.after_iff.mpr rfl, Cond.after_iff.mpr (eq_i res_at (Term.int_eval (1)) rfl), trivial⟩ ⟨hq.1, hq.2.1, (hq.2.2.sift fun y hy => Or.inr (N y hy)).mono (by decide) (by decide)⟩⟩
theorem main_1_1 : Claimed_1_1 := comes_1 fun _ _ _ _ _ _ h hF => ⟨h.1, hF⟩
theorem main_1_2 : Claimed_1_2 := comes_1 fun _ _ _ _ _ _ h hF => ⟨h.2.1, hF⟩
end Jvm.Pilot.@@N@@
namespace Jvm.Pilot.@@N@@
open Jvm Jvm.ClassFile Sem Op Lib Jvm.Free Jvm.Stand Jvm.Pilot.@@N@@.Jvm.D
/-! MADE BY PROGRAM (witnessworld.py) out of the Statement's table words and the real class files: 12 classes; the members and pool entries that the words name. The judged class is class 1, her method 2. -/
namespace start1
open Jvm.ClassFile
def u (s : String) : CpInfo := .utf8 (stringToUtf16 s)
/-- a pool by its gaps: so many unusable entries, then the entry; so many at the end -/
def gap : Nat → List CpInfo → List CpInfo
  | 0, r => r
  | n + 1, r => .unusable :: gap n r
def poolList (es : List (Nat × CpInfo)) (last : Nat) : List CpInfo := es.foldr (fun e r => gap e.1 (e.2 :: r)) (gap last [])
def pool (es : List (Nat × CpInfo)) (last : Nat) : Array CpInfo := ⟨poolList es last⟩
def fileOf (pool : Array CpInfo) (this : Nat) (attrs : Array Attribute := #[]) (ms : Array MethodInfo := #[]) (fl : Nat := 33) (sup : Nat := 0) (ifs : Array Nat := #[]) (fds : Array FieldInfo := #[]) : ClassFile where
  minorVersion := 0
  majorVersion := 65
  constantPool := pool
  accessFlags := fl
  thisClass := this
  superClass := sup
  interfaces := ifs
  fields := fds
  methods := ms
  attributes := attrs
def plain (name : String) (sup : Option ClassId) : Class where
  name := name
  kind := .ordinary
  loader := none
  accessFlags := 33
  super := sup
  interfaces := #[]
  cf := none
  fields := #[]
  methods := #[]
  instanceTypes := #[]
  staticTypes := #[]
  resolved := #[]
  callSites := []
  init := .initialized
  statics := none
  mirror := none

def pool0 : Array CpInfo := pool [(5, u "<init>"), (0, u "()V"), (1, .class_ 10), (1, u "java/lang/Object")] 113

def k0m0 : Method := { name := "<init>", desc := "()V", sig := { parameters := [], returnType := none }, accessFlags := 1, code := none }
/-- java/lang/Object -/
def k0 : Class := { plain "java/lang/Object" none with
  accessFlags := 33
  interfaces := #[]
  cf := some (fileOf pool0 8 #[] #[{ accessFlags := 1, nameIndex := 5, descriptorIndex := 6, attributes := #[] }] 33 0 #[] #[])
  fields := #[]
  methods := #[k0m0]
  instanceTypes := #[]
  staticTypes := #[]
  resolved := Array.replicate 124 none
  statics := none }

def pool1 : Array CpInfo := pool [(2, .class_ 4), (1, u "java/lang/Object"), (0, u "<init>"), (0, u "()V"), (0, .long 26), (1, .long 676), (1, .long 17576), (1, .long 456976), (1, .long 11881376), (1, .long 308915776), (1, .long 8031810176), (1, .long 208827064576), (1, .long 5429503678976), (1, .long 141167095653376), (1, .long 3670344486987776), (1, .long 95428956661682176), (1, .long 2481152873203736576), (1, .integer 2147483647), (0, .methodref 35 36), (0, .class_ 37), (0, .nameAndType 38 39), (0, u "com/example/tributary/tributary/workload/SettingIndexLettersPinLaw"), (0, u "pow26"), (0, u "(I)J"), (0, .methodref 41 42), (0, .class_ 43), (0, .nameAndType 44 45), (0, u "com/example/tributary/tributary/workload/Setting"), (0, u "indexLetters"), (0, u "(J)I"), (2, u "law"), (0, u "(JIIII)Z")] 3

def k1m0 : Method := { name := "<init>", desc := "()V", sig := { parameters := [], returnType := none }, accessFlags := 1, code := none }
def k1c1 : Code := { maxStack := 5, maxLocals := 2, code := method_2_code, exceptionTable := #[], attributes := #[] }
def k1m1 : Method := { name := "pow26", desc := "(I)J", sig := { parameters := [.int], returnType := some .long }, accessFlags := 10, code := some k1c1 }
def k1c2 : Code := { maxStack := 4, maxLocals := 11, code := code, exceptionTable := #[], attributes := #[] }
def k1m2 : Method := { name := "law", desc := "(JIIII)Z", sig := { parameters := [.long, .int, .int, .int, .int], returnType := some .boolean }, accessFlags := 9, code := some k1c2 }
/-- com/example/tributary/tributary/workload/SettingIndexLettersPinLaw -/
def k1 : Class := { plain "com/example/tributary/tributary/workload/SettingIndexLettersPinLaw" (some 0) with
  accessFlags := 49
  interfaces := #[]
  cf := some (fileOf pool1 35 #[] #[{ accessFlags := 1, nameIndex := 5, descriptorIndex := 6, attributes := #[] }, { accessFlags := 10, nameIndex := 38, descriptorIndex := 39, attributes := #[] }, { accessFlags := 9, nameIndex := 48, descriptorIndex := 49, attributes := #[] }] 49 2 #[] #[])
  fields := #[]
  methods := #[k1m0, k1m1, k1m2]
  instanceTypes := #[]
  staticTypes := #[]
  resolved := Array.replicate 53 none
  statics := none }

def pool2 : Array CpInfo := pool [(2, .class_ 4), (1, u "java/lang/Object"), (0, u "<init>"), (0, u "()V"), (0, .class_ 8), (0, u "java/lang/Record")] 13

def k2m0 : Method := { name := "<init>", desc := "()V", sig := { parameters := [], returnType := none }, accessFlags := 4, code := none }
/-- java/lang/Record -/
def k2 : Class := { plain "java/lang/Record" (some 0) with
  accessFlags := 1057
  interfaces := #[]
  cf := some (fileOf pool2 7 #[] #[{ accessFlags := 4, nameIndex := 5, descriptorIndex := 6, attributes := #[] }] 1057 2 #[] #[])
  fields := #[]
  methods := #[k2m0]
  instanceTypes := #[]
  staticTypes := #[]
  resolved := Array.replicate 22 none
  statics := none }

def pool3 : Array CpInfo := pool [(4, .class_ 6), (1, u "java/lang/Record"), (7, .class_ 16), (1, u "com/example/tributary/tributary/workload/Setting"), (16, u "indexLetters"), (0, u "(J)I"), (35, u "events"), (0, u "J"), (2, u "maxGap"), (2, u "active"), (0, u "D"), (2, u "disorder"), (2, u "adjusts"), (2, u "stables"), (2, u "payloadBytes"), (52, .long 26), (3, .long 354745078340568300), (18, u "DEFAULT_MAX_GAP"), (1, u "DEFAULT_ACTIVE"), (0, u "DEFAULT_DISORDER"), (0, u "DEFAULT_ADJUSTS"), (2, u "DEFAULT_STABLES"), (0, u "DEFAULT_PAYLOAD_BYTES"), (0, u "I"), (1, u "MAX_PAYLOAD_BYTES"), (1, u "MAX_HELD_EVENTS"), (2, u "MISS_CHANCE"), (0, u "MAX_PAYLOAD_NUMBER"), (1, u "LIMIT")] 61

def k3c0 : Code := { maxStack := 4, maxLocals := 5, code := prog_150_method_13_code, exceptionTable := #[], attributes := #[] }
def k3m0 : Method := { name := "indexLetters", desc := "(J)I", sig := { parameters := [.long], returnType := some .int }, accessFlags := 8, code := some k3c0 }
/-- com/example/tributary/tributary/workload/Setting -/
def k3 : Class := { plain "com/example/tributary/tributary/workload/Setting" (some 2) with
  accessFlags := 49
  interfaces := #[]
  cf := some (fileOf pool3 14 #[] #[{ accessFlags := 8, nameIndex := 33, descriptorIndex := 34, attributes := #[] }] 49 4 #[] #[{ accessFlags := 18, nameIndex := 70, descriptorIndex := 71, attributes := #[] }, { accessFlags := 18, nameIndex := 74, descriptorIndex := 71, attributes := #[] }, { accessFlags := 18, nameIndex := 77, descriptorIndex := 78, attributes := #[] }, { accessFlags := 18, nameIndex := 81, descriptorIndex := 78, attributes := #[] }, { accessFlags := 18, nameIndex := 84, descriptorIndex := 78, attributes := #[] }, { accessFlags := 18, nameIndex := 87, descriptorIndex := 78, attributes := #[] }, { accessFlags := 18, nameIndex := 90, descriptorIndex := 71, attributes := #[] }, { accessFlags := 25, nameIndex := 166, descriptorIndex := 71, attributes := #[] }, { accessFlags := 25, nameIndex := 168, descriptorIndex := 78, attributes := #[] }, { accessFlags := 25, nameIndex := 169, descriptorIndex := 78, attributes := #[] }, { accessFlags := 25, nameIndex := 170, descriptorIndex := 78, attributes := #[] }, { accessFlags := 25, nameIndex := 173, descriptorIndex := 78, attributes := #[] }, { accessFlags := 25, nameIndex := 174, descriptorIndex := 175, attributes := #[] }, { accessFlags := 25, nameIndex := 177, descriptorIndex := 175, attributes := #[] }, { accessFlags := 25, nameIndex := 179, descriptorIndex := 71, attributes := #[] }, { accessFlags := 26, nameIndex := 182, descriptorIndex := 78, attributes := #[] }, { accessFlags := 24, nameIndex := 183, descriptorIndex := 175, attributes := #[] }, { accessFlags := 26, nameIndex := 185, descriptorIndex := 78, attributes := #[] }])
  fields := #[{ name := "events", type := .long, accessFlags := 18, slot := 0, constantValue := 0 }, { name := "maxGap", type := .long, accessFlags := 18, slot := 1, constantValue := 0 }, { name := "active", type := .double, accessFlags := 18, slot := 2, constantValue := 0 }, { name := "disorder", type := .double, accessFlags := 18, slot := 3, constantValue := 0 }, { name := "adjusts", type := .double, accessFlags := 18, slot := 4, constantValue := 0 }, { name := "stables", type := .double, accessFlags := 18, slot := 5, constantValue := 0 }, { name := "payloadBytes", type := .long, accessFlags := 18, slot := 6, constantValue := 0 }, { name := "DEFAULT_MAX_GAP", type := .long, accessFlags := 25, slot := 0, constantValue := 0 }, { name := "DEFAULT_ACTIVE", type := .double, accessFlags := 25, slot := 1, constantValue := 0 }, { name := "DEFAULT_DISORDER", type := .double, accessFlags := 25, slot := 2, constantValue := 0 }, { name := "DEFAULT_ADJUSTS", type := .double, accessFlags := 25, slot := 3, constantValue := 0 }, { name := "DEFAULT_STABLES", type := .double, accessFlags := 25, slot := 4, constantValue := 0 }, { name := "DEFAULT_PAYLOAD_BYTES", type := .int, accessFlags := 25, slot := 5, constantValue := 0 }, { name := "MAX_PAYLOAD_BYTES", type := .int, accessFlags := 25, slot := 6, constantValue := 0 }, { name := "MAX_HELD_EVENTS", type := .long, accessFlags := 25, slot := 7, constantValue := 0 }, { name := "MISS_CHANCE", type := .double, accessFlags := 26, slot := 8, constantValue := 0 }, { name := "MAX_PAYLOAD_NUMBER", type := .int, accessFlags := 24, slot := 9, constantValue := 0 }, { name := "LIMIT", type := .double, accessFlags := 26, slot := 10, constantValue := 0 }]
  methods := #[k3m0]
  instanceTypes := #[.long, .long, .double, .double, .double, .double, .long]
  staticTypes := #[.long, .double, .double, .double, .double, .int, .int, .long, .double, .int, .double]
  resolved := Array.replicate 247 none
  statics := none }

def pool4 : Array CpInfo := pool [(1, u "java/lang/Cloneable"), (0, .class_ 1), (0, u "java/lang/Object"), (0, .class_ 3)] 3

/-- java/lang/Cloneable -/
def k4 : Class := { plain "java/lang/Cloneable" (some 0) with
  accessFlags := 1537
  interfaces := #[]
  cf := some (fileOf pool4 2 #[] #[] 1537 4 #[] #[])
  fields := #[]
  methods := #[]
  instanceTypes := #[]
  staticTypes := #[]
  resolved := Array.replicate 8 none
  statics := none }

def pool5 : Array CpInfo := pool [(1, u "java/io/Serializable"), (0, .class_ 1), (0, u "java/lang/Object"), (0, .class_ 3)] 3

/-- java/io/Serializable -/
def k5 : Class := { plain "java/io/Serializable" (some 0) with
  accessFlags := 1537
  interfaces := #[]
  cf := some (fileOf pool5 2 #[] #[] 1537 4 #[] #[])
  fields := #[]
  methods := #[]
  instanceTypes := #[]
  staticTypes := #[]
  resolved := Array.replicate 8 none
  statics := none }

/-- the primitive byte -/
def k6 : Class := { plain "byte" none with kind := .primitive 'B', accessFlags := 0x411 }
/-- [B -/
def k7 : Class := { plain "[B" (some 0) with kind := .array 6 .byte, interfaces := #[4, 5], accessFlags := 1041 }

/-- the primitive int -/
def k8 : Class := { plain "int" none with kind := .primitive 'I', accessFlags := 0x411 }
/-- [I -/
def k9 : Class := { plain "[I" (some 0) with kind := .array 8 .int, interfaces := #[4, 5], accessFlags := 1041 }

/-- the primitive long -/
def k10 : Class := { plain "long" none with kind := .primitive 'J', accessFlags := 0x411 }
/-- [J -/
def k11 : Class := { plain "[J" (some 0) with kind := .array 10 .long, interfaces := #[4, 5], accessFlags := 1041 }

def heap : Heap := #[]
def classes : Array Class := #[k0, k1, k2, k3, k4, k5, k6, k7, k8, k9, k10, k11]
def interned : List (Array UInt16 × Addr) := []
def slotsUsed : Nat := 0
def theMethod : MethodId := ⟨1, 2⟩
def args0 : Array Value := #[.long 5, .int 7, .int 7, .int 7, .int 7]
def aboutOver (below : List Frame) : State where
  vm := { classes := classes, interned := interned.toArray }
  heap := heap
  slotsUsed := slotsUsed
  threads := #[{ frames := .invoking theMethod args0 :: below }]
def below0 : List Frame := [.native { method := ⟨0, 0⟩, args := #[] }]
def about1 : State := aboutOver below0
def p0 : Program := .bare "" "" ""
def e0 : Env := launch0.env 0 0 0
theorem w_frames : about1.frames = Frame.invoking theMethod args0 :: below0 := rfl
set_option maxRecDepth 65536 in
theorem w_args : argsFit about1.vm theMethod args0 = true := by decide +kernel
set_option maxRecDepth 65536 in
theorem w_heap : heapFits about1 = true := by decide +kernel
set_option maxRecDepth 65536 in
theorem w_runnable : about1.curStatus? = some .runnable := by decide +kernel
set_option maxRecDepth 65536 in
theorem w_alone : about1.alone = true := by decide +kernel
set_option maxRecDepth 65536 in
theorem w_named : about1.methodNamed? x = some theMethod := by decide +kernel
set_option maxRecDepth 65536 in
theorem w_hears : about1.hears theMethod below0 = true := by decide +kernel
set_option maxRecDepth 65536 in
theorem w_ripe : about1.ripe theMethod args0 below0 = true := by decide +kernel
theorem w_running : about1.status = .running := rfl
set_option maxRecDepth 65536 in
theorem w_room : about1.hasRoom e0.platform room_1 = true :=
  launch0.hasRoom_least _ room_1 (by decide +kernel) (by decide +kernel) (by decide +kernel) (by decide +kernel) (by decide +kernel) (by decide +kernel)
theorem allAtoms_all (ts : List Jvm.Cond) (a : Array Jvm.Value) (st : Jvm.State) : (allAtoms ts).before a st = ts.all (fun c => c.before a st) := by
  induction ts with
  | nil => rfl
  | cons c t ih =>
    show (Jvm.Cond.and c (allAtoms t)).before a st = _
    rw [Jvm.Cond.before_and, ih, List.all_cons]
def words1 : List Jvm.Cond := Jvm.Cond.code x code maxLocals ret :: tables_1
/-- a 'code' word, met by the world's own term for the bytes: nothing is compared byte by byte -/
theorem code_word {y : MethodName} {bytes : ByteArray} {mx : Nat} {rt : Option FieldType} {a : Array Value} {s : State} {m : MethodId} {meth : Method} {c : Code} (h1 : s.methodNamed? y = some m) (h2 : s.vm.method? m = some meth) (h3 : meth.code = some c) (h4 : c.code = bytes)
    (h5 : (c.maxLocals == mx && c.exceptionTable.isEmpty && decide (c.maxStack ≤ mostOperands) && decide (meth.sig.returnType = rt) && !meth.locks && decide (parseMethodDescriptor y.desc = some meth.sig)) = true) : (Jvm.Cond.code y bytes mx rt).before a s = true := by
  simp only [Bool.and_eq_true, beq_iff_eq, Bool.not_eq_true', decide_eq_true_eq] at h5
  obtain ⟨⟨⟨⟨⟨g1, g2⟩, g3⟩, g4⟩, g5⟩, g6⟩ := h5
  simp [Cond.before, Cond.holds, Cond.value, h1, h2, h3, h4, g1, g2, g3, g4, g5, g6]
def isCode : Jvm.Cond → Bool
  | .code _ _ _ _ => true
  | _ => false
theorem all_split {L : List Jvm.Cond} {P : Jvm.Cond → Bool} (h1 : L.all (fun c => isCode c || P c) = true) (h2 : ∀ c ∈ L.filter isCode, P c = true) : L.all P = true := by
  refine List.all_eq_true.mpr fun c hc => ?_
  have h := List.all_eq_true.mp h1 c hc
  rcases Bool.eq_false_or_eq_true (isCode c) with hi | hi
  · exact h2 c (List.mem_filter.mpr ⟨hc, hi⟩)
  · simpa [hi] using h
set_option maxRecDepth 65536 in
theorem w_c0 : (Jvm.Cond.code x code maxLocals ret).before args0 about1 = true := code_word (m := ⟨1, 2⟩) (meth := k1m2) (c := k1c2) (by decide +kernel) rfl rfl rfl (by decide +kernel)
set_option maxRecDepth 65536 in
theorem w_c1 : (Jvm.Cond.code ({ cls := "com/example/tributary/tributary/workload/SettingIndexLettersPinLaw", name := "pow26", desc := "(I)J" } : Jvm.MethodName) method_2_code (2 : Nat) (Option.some Jvm.ClassFile.FieldType.long)).before args0 about1 = true := code_word (m := ⟨1, 1⟩) (meth := k1m1) (c := k1c1) (by decide +kernel) rfl rfl rfl (by decide +kernel)
set_option maxRecDepth 65536 in
theorem w_c2 : (Jvm.Cond.code ({ cls := "com/example/tributary/tributary/workload/Setting", name := "indexLetters", desc := "(J)I" } : Jvm.MethodName) prog_150_method_13_code (5 : Nat) (Option.some Jvm.ClassFile.FieldType.int)).before args0 about1 = true := code_word (m := ⟨3, 0⟩) (meth := k3m0) (c := k3c0) (by decide +kernel) rfl rfl rfl (by decide +kernel)
def codes1 : List Jvm.Cond := [Jvm.Cond.code x code maxLocals ret, Jvm.Cond.code ({ cls := "com/example/tributary/tributary/workload/SettingIndexLettersPinLaw", name := "pow26", desc := "(I)J" } : Jvm.MethodName) method_2_code (2 : Nat) (Option.some Jvm.ClassFile.FieldType.long), Jvm.Cond.code ({ cls := "com/example/tributary/tributary/workload/Setting", name := "indexLetters", desc := "(J)I" } : Jvm.MethodName) prog_150_method_13_code (5 : Nat) (Option.some Jvm.ClassFile.FieldType.int)]
set_option maxRecDepth 65536 in
theorem codes_eq : words1.filter isCode = codes1 := rfl
theorem w_codes : ∀ c ∈ words1.filter isCode, c.before args0 about1 = true := by
  rw [codes_eq]
  intro c hc
  simp only [codes1, List.mem_cons, List.not_mem_nil, or_false] at hc
  rcases hc with rfl | rfl | rfl
  · exact w_c0
  · exact w_c1
  · exact w_c2
set_option maxRecDepth 65536 in
theorem w_t1 : (words1.take 24).all (fun c => isCode c || c.before args0 about1) = true := by decide +kernel
set_option maxRecDepth 65536 in
theorem w_t2 : (words1.drop 24).all (fun c => isCode c || c.before args0 about1) = true := by decide +kernel
theorem w_tables : (allAtoms (Jvm.Cond.code x code maxLocals ret :: tables_1)).before args0 about1 = true := by
  rw [allAtoms_all]
  show words1.all (fun c => c.before args0 about1) = true
  refine all_split ?_ w_codes
  rw [← List.take_append_drop 24 words1, List.all_append, w_t1, w_t2]
  rfl
set_option maxRecDepth 65536 in
theorem w_case : (Jvm.Cond.and given_1 narrow_1).before args0 about1 = true := by decide +kernel
theorem w_applies : (headSpec (Jvm.Cond.code x code maxLocals ret :: tables_1) room_1).applies x e0.platform about1 = true :=
  (Spec.applies_iff w_frames).mpr ⟨w_running, w_runnable, w_alone, w_named, w_hears, w_ripe, w_room, w_tables⟩
theorem atStart : AtStart classFile x code maxLocals ret World_1 tables_1 room_1 Calls_1 rest_1 Pre_1 launch0 p0 e0 about1 theMethod args0 below0 :=
  ⟨lists_1, trivial, launch0.admits_env _ _ _, launch0.least_env, fairChoices_fair.cas, fairChoices_fair.clock, w_frames, w_args, w_heap, w_applies, trivial, trivial, w_case⟩
end start1
theorem witness_1 : WitnessClaimed_1 := ⟨start1.p0, start1.e0, start1.about1, start1.theMethod, start1.args0, start1.below0, start1.atStart⟩
end Jvm.Pilot.@@N@@
