import JvmDerived
import JvmDerived.Pilot.@@N@@Statement
import JvmDerived.Pilot.@@N@@Code
set_option linter.unusedVariables false
set_option linter.unusedSimpArgs false
namespace Jvm.RoadKit
open Sem ClassFile Op Lib Jvm.Stand Jvm.Free Jvm.LawKit
section New
variable {p : Program} {l : Launch} {e : Env} {R : Room} {s : State} {m : MethodId} {args : Array Value} {below : List Frame} {meth : Method} {c : Code} {T : State} {locs : List Loc} {cells slots : Nat}
theorem retI (X : Stand p l e R s m args below meth c T locs cells slots) (hx : p.tables.exec = Jvm.exec) {pc : Nat} {Ls : Array Slot} {z : Int32} {rest : List Value} (hret : meth.sig.returnType = some .int) (hd : decode c.code pc = .ok (.ireturn, 1)) {fs : List Frame}
    (hl : ∀ (f : JFrame) (acts : List Action), f.method = m → f.locked = none → f.entered = [] → (doReturn e (T.setTop f) acts (some (.int z))).1 = T.setFrames fs) : Steps p.tables e below (T.setTop (mkF m pc Ls (.int z :: rest))) (T.setFrames fs) := by
  have hm' : T.vm.method? m = some meth := X.method'
  have hn : narrow .int (.int z) = .int z := rfl
  show Steps p.tables e below (T.setTop { method := m, pc := pc, locals := Ls, stack := _ :: rest, locked := none }) _
  jvm_step X.here [X.here.top, hx, hd, hm', hret, hn]
  first | (intro acts; rw [hl _ acts rfl rfl rfl]) | rw [hl _ _ rfl rfl rfl]
  exact Steps.refl _
end New
end Jvm.RoadKit
namespace Jvm.Pilot.@@N@@
open Jvm Jvm.ClassFile Sem Op Lib Jvm.Free Jvm.Stand Jvm.LawKit Jvm.RoadKit Bundle Jvm.Pilot.@@N@@.Jvm.D
section OwnKit
variable {p : Program} {l : Launch} {e : Env} {R : Room} {s : State} {m : MethodId} {args : Array Value} {below : List Frame} {meth : Method} {c : Code} {T : State} {locs : List Loc} {cells slots : Nat} {Z : State} {h h' : Heap}
theorem own_lremM {g : JFrame} {target : State} (X : Stand p l e R s m args below meth c T locs cells slots) (hx : p.tables.exec = Jvm.exec) (hg : g.method = m) {x y : Int64} {rest : List Value} (hd : decode c.code g.pc = .ok (.lrem, 1)) (hs : g.stack = .long y :: .long x :: rest) (hy : y ≠ 0)
    (hr : Steps p.tables e below (T.setTop { g with pc := g.pc + 1, stack := .long (x % y) :: rest }) target) : Steps p.tables e below (T.setTop g) target :=
  XS.lrem X.here hx hg hd hs hy (by rw [lrem_mod]; exact hr)
/-- an array, by the list of its values -/
def own_A (Z : State) (h : Heap) (a : Addr) (ty : FieldType) (vs : List Value) : Prop := ∃ c : Cell, Arr Z h a c ty ∧ c.slots = vs.toArray
def own_AJ (Z : State) (h : Heap) (a : Addr) (xs : List Int64) : Prop := own_A Z h a .long (xs.map .long)
def own_AI (Z : State) (h : Heap) (a : Addr) (ty : FieldType) (xs : List Int32) : Prop := own_A Z h a ty (xs.map .int)
section Facts
variable {a b : Addr} {ty : FieldType} {vs : List Value} {xs : List Int64} {ys : List Int32} {sl : Nat} {v : Value} {ws : List Addr}
theorem own_A.ext (F : own_A Z h a ty vs) (E : Ext h h') : own_A Z h' a ty vs := by obtain ⟨c, A, r⟩ := F; exact ⟨c, A.ext E, r⟩
theorem own_A.other (F : own_A Z h b ty vs) (W : Wr h h' a sl v) (q : b ≠ a) : own_A Z h' b ty vs := by obtain ⟨c, A, r⟩ := F; exact ⟨c, A.other W q, r⟩
theorem own_A.keep (F : own_A Z h a ty vs) (K : Keep h h' ws) (q : a ∉ ws) : own_A Z h' a ty vs := by obtain ⟨c, A, r⟩ := F; exact ⟨c, ⟨K.2.1 a c A.1 q, A.2⟩, r⟩
theorem own_A.lt (F : own_A Z h a ty vs) : a < h.size := by obtain ⟨c, A, -⟩ := F; exact A.lt
theorem own_AJ.ext (F : own_AJ Z h a xs) (E : Ext h h') : own_AJ Z h' a xs := own_A.ext F E
theorem own_AJ.other (F : own_AJ Z h b xs) (W : Wr h h' a sl v) (q : b ≠ a) : own_AJ Z h' b xs := own_A.other F W q
theorem own_AJ.keep (F : own_AJ Z h a xs) (K : Keep h h' ws) (q : a ∉ ws) : own_AJ Z h' a xs := own_A.keep F K q
theorem own_AJ.lt (F : own_AJ Z h a xs) : a < h.size := own_A.lt F
theorem own_AI.ext (F : own_AI Z h a ty ys) (E : Ext h h') : own_AI Z h' a ty ys := own_A.ext F E
theorem own_AI.other (F : own_AI Z h b ty ys) (W : Wr h h' a sl v) (q : b ≠ a) : own_AI Z h' b ty ys := own_A.other F W q
theorem own_AI.keep (F : own_AI Z h a ty ys) (K : Keep h h' ws) (q : a ∉ ws) : own_AI Z h' a ty ys := own_A.keep F K q
theorem own_AI.lt (F : own_AI Z h a ty ys) : a < h.size := own_A.lt F
theorem own_A.set (F : own_A Z h a ty vs) {k : Nat} (W : Wr h h' a k v) : own_A Z h' a ty (vs.set k v) := by
  obtain ⟨c, A, r⟩ := F
  refine ⟨c.setSlot k v, A.same W, ?_⟩
  simp [Cell.setSlot, r]
theorem own_A_new {cA : ClassId} {n : Int32} {k : Nat} (A : Arr Z h a (newA cA ty n) ty) (hk : n.toNatClampNeg = k) : own_A Z h a ty (List.replicate k (defaultValue ty)) := by
  subst hk
  exact ⟨_, A, by simp [newA]⟩
theorem own_AJ_new {cA : ClassId} {n : Int32} {k : Nat} (A : Arr Z h a (newA cA .long n) .long) (hk : n.toNatClampNeg = k) : own_AJ Z h a (List.replicate k 0) := by
  have q := own_A_new A hk
  rw [own_AJ, List.map_replicate]; exact q
theorem own_AIint_new {cA : ClassId} {n : Int32} {k : Nat} (A : Arr Z h a (newA cA .int n) .int) (hk : n.toNatClampNeg = k) : own_AI Z h a .int (List.replicate k 0) := by
  have q := own_A_new A hk
  rw [own_AI, List.map_replicate]; exact q
theorem own_AIbyte_new {cA : ClassId} {n : Int32} {k : Nat} (A : Arr Z h a (newA cA .byte n) .byte) (hk : n.toNatClampNeg = k) : own_AI Z h a .byte (List.replicate k 0) := by
  have q := own_A_new A hk
  rw [own_AI, List.map_replicate]; exact q
theorem own_AIboolean_new {cA : ClassId} {n : Int32} {k : Nat} (A : Arr Z h a (newA cA .boolean n) .boolean) (hk : n.toNatClampNeg = k) : own_AI Z h a .boolean (List.replicate k 0) := by
  have q := own_A_new A hk
  rw [own_AI, List.map_replicate]; exact q
theorem own_inb {cl : Cell} {j : Int32} (r : cl.slots = vs.toArray) (hj : 0 ≤ j.toInt ∧ j.toInt < (vs.length : Nat)) : ¬ (j < 0 ∨ cl.slots.size ≤ j.toNatClampNeg) ∧ j.toNatClampNeg = j.toInt.toNat := by
  have e : j.toNatClampNeg = j.toInt.toNat := rfl
  refine ⟨fun q => ?_, e⟩
  rcases q with q | q
  · rw [Int32.lt_iff_toInt_lt] at q
    have : (0 : Int32).toInt = 0 := by decide
    omega
  · rw [r, e] at q
    simp at q
    omega
end Facts
theorem own_at? {α : Type} (f : α → Value) (xs : List α) (k : Nat) (d : α) (hk : k < xs.length) : (xs.map f).toArray[k]? = some (f (xs.getD k d)) := by
  simp [List.getD, hk]
section Loads
variable {a : Addr} {xs : List Int64} {ys : List Int32} {j : Int32} {pc : Nat} {Ls : Array Slot} {rest : List Value}
theorem own_laload (X : Stand p l e R s m args below meth c T locs cells slots) (hx : p.tables.exec = Jvm.exec) (hZ : Z.Warmed39 s.vm) (eT : T.heap = h) (A : own_AJ Z h a xs) (hj : 0 ≤ j.toInt ∧ j.toInt < (xs.length : Nat)) (hd : decode c.code pc = .ok (.laload, 1)) (target : State)
    (hr : Steps p.tables e below (T.setTop (mkF m (pc + 1) Ls (.long (xs.getD j.toInt.toNat 0) :: rest))) target) : Steps p.tables e below (T.setTop (mkF m pc Ls (.int j :: .ref a :: rest))) target := by
  obtain ⟨cl, A, r⟩ := A
  obtain ⟨q1, q2⟩ := own_inb (j := j) r (by simpa using hj)
  refine X.laload hx (by rw [eT]; exact A.1) (State.isArrayOf_alike hZ.alike A.2.1) A.2.2 q1 (v := .long (xs.getD j.toInt.toNat 0)) ?_ (g := mkF m pc Ls (.int j :: .ref a :: rest)) rfl rfl hd target hr
  rw [q2, r]
  exact own_at? _ xs _ 0 (by omega)
theorem own_iaload (X : Stand p l e R s m args below meth c T locs cells slots) (hx : p.tables.exec = Jvm.exec) (hZ : Z.Warmed39 s.vm) (eT : T.heap = h) (A : own_AI Z h a .int ys) (hj : 0 ≤ j.toInt ∧ j.toInt < (ys.length : Nat)) (hd : decode c.code pc = .ok (.iaload, 1)) (target : State)
    (hr : Steps p.tables e below (T.setTop (mkF m (pc + 1) Ls (.int (ys.getD j.toInt.toNat 0) :: rest))) target) : Steps p.tables e below (T.setTop (mkF m pc Ls (.int j :: .ref a :: rest))) target := by
  obtain ⟨cl, A, r⟩ := A
  obtain ⟨q1, q2⟩ := own_inb (j := j) r (by simpa using hj)
  refine X.iaload hx (by rw [eT]; exact A.1) (State.isArrayOf_alike hZ.alike A.2.1) A.2.2 q1 (v := .int (ys.getD j.toInt.toNat 0)) ?_ (g := mkF m pc Ls (.int j :: .ref a :: rest)) rfl rfl hd target hr
  rw [q2, r]
  exact own_at? _ ys _ 0 (by omega)
theorem own_baloadB (X : Stand p l e R s m args below meth c T locs cells slots) (hx : p.tables.exec = Jvm.exec) (hZ : Z.Warmed39 s.vm) (eT : T.heap = h) (A : own_AI Z h a .byte ys) (hj : 0 ≤ j.toInt ∧ j.toInt < (ys.length : Nat)) (hd : decode c.code pc = .ok (.baload, 1)) (target : State)
    (hr : Steps p.tables e below (T.setTop (mkF m (pc + 1) Ls (.int (ys.getD j.toInt.toNat 0) :: rest))) target) : Steps p.tables e below (T.setTop (mkF m pc Ls (.int j :: .ref a :: rest))) target := by
  obtain ⟨cl, A, r⟩ := A
  obtain ⟨q1, q2⟩ := own_inb (j := j) r (by simpa using hj)
  refine X.baloadBytes hx (by rw [eT]; exact A.1) (State.isArrayOf_alike hZ.alike A.2.1) A.2.2 q1 (v := .int (ys.getD j.toInt.toNat 0)) ?_ (g := mkF m pc Ls (.int j :: .ref a :: rest)) rfl rfl hd target hr
  rw [q2, r]
  exact own_at? _ ys _ 0 (by omega)
theorem own_baloadZ (X : Stand p l e R s m args below meth c T locs cells slots) (hx : p.tables.exec = Jvm.exec) (hZ : Z.Warmed39 s.vm) (eT : T.heap = h) (A : own_AI Z h a .boolean ys) (hj : 0 ≤ j.toInt ∧ j.toInt < (ys.length : Nat)) (hd : decode c.code pc = .ok (.baload, 1)) (target : State)
    (hr : Steps p.tables e below (T.setTop (mkF m (pc + 1) Ls (.int (ys.getD j.toInt.toNat 0) :: rest))) target) : Steps p.tables e below (T.setTop (mkF m pc Ls (.int j :: .ref a :: rest))) target := by
  obtain ⟨cl, A, r⟩ := A
  obtain ⟨q1, q2⟩ := own_inb (j := j) r (by simpa using hj)
  refine X.baloadBooleans hx (by rw [eT]; exact A.1) (State.isArrayOf_alike hZ.alike A.2.1) A.2.2 q1 (v := .int (ys.getD j.toInt.toNat 0)) ?_ (g := mkF m pc Ls (.int j :: .ref a :: rest)) rfl rfl hd target hr
  rw [q2, r]
  exact own_at? _ ys _ 0 (by omega)
theorem own_alenJ (X : Stand p l e R s m args below meth c T locs cells slots) (hx : p.tables.exec = Jvm.exec) (hZ : Z.Warmed39 s.vm) (eT : T.heap = h) (A : own_AJ Z h a xs) (hd : decode c.code pc = .ok (.arraylength, 1)) (target : State)
    (hr : Steps p.tables e below (T.setTop (mkF m (pc + 1) Ls (.int xs.length.toInt32 :: rest))) target) : Steps p.tables e below (T.setTop (mkF m pc Ls (.ref a :: rest))) target := by
  obtain ⟨cl, A, r⟩ := A
  refine X.arraylength hx (by rw [eT]; exact A.1) (State.isArrayOf_alike hZ.alike A.2.1) (g := mkF m pc Ls (.ref a :: rest)) rfl rfl hd target ?_
  rw [r]
  simpa using hr
theorem own_alenI {ty : FieldType} (X : Stand p l e R s m args below meth c T locs cells slots) (hx : p.tables.exec = Jvm.exec) (hZ : Z.Warmed39 s.vm) (eT : T.heap = h) (A : own_AI Z h a ty ys) (hd : decode c.code pc = .ok (.arraylength, 1)) (target : State)
    (hr : Steps p.tables e below (T.setTop (mkF m (pc + 1) Ls (.int ys.length.toInt32 :: rest))) target) : Steps p.tables e below (T.setTop (mkF m pc Ls (.ref a :: rest))) target := by
  obtain ⟨cl, A, r⟩ := A
  refine X.arraylength hx (by rw [eT]; exact A.1) (State.isArrayOf_alike hZ.alike A.2.1) (g := mkF m pc Ls (.ref a :: rest)) rfl rfl hd target ?_
  rw [r]
  simpa using hr
theorem own_lastore (X : Stand p l e R s m args below meth c T locs cells slots) (hx : p.tables.exec = Jvm.exec) (hZ : Z.Warmed39 s.vm) (eT : T.heap = h) (A : own_AJ Z h a xs) (hj : 0 ≤ j.toInt ∧ j.toInt < (xs.length : Nat)) {x : Int64} (hd : decode c.code pc = .ok (.lastore, 1)) :
    ∃ T' h', Stand p l e R s m args below meth c T' (locs ++ [⟨a, j.toInt.toNat⟩]) cells slots ∧ T'.heap = h' ∧ Wr h h' a j.toInt.toNat (.long x) ∧ own_AJ Z h' a (xs.set j.toInt.toNat x) ∧ ∀ target, Steps p.tables e below (T'.setTop (mkF m (pc + 1) Ls rest)) target → Steps p.tables e below (T.setTop (mkF m pc Ls (.long x :: .int j :: .ref a :: rest))) target := by
  obtain ⟨cl, B, r⟩ := A
  obtain ⟨q1, q2⟩ := own_inb (j := j) r (by simpa using hj)
  obtain ⟨T', h', X', e', W', st⟩ := stJ X hx hZ eT B q1 (x := x) (g := mkF m pc Ls (.long x :: .int j :: .ref a :: rest)) rfl rfl hd
  rw [q2] at X' W'
  exact ⟨T', h', X', e', W', by have := own_A.set ⟨cl, B, r⟩ W'; rw [own_AJ, List.map_set]; exact this, st⟩
theorem own_iastore (X : Stand p l e R s m args below meth c T locs cells slots) (hx : p.tables.exec = Jvm.exec) (hZ : Z.Warmed39 s.vm) (eT : T.heap = h) (A : own_AI Z h a .int ys) (hj : 0 ≤ j.toInt ∧ j.toInt < (ys.length : Nat)) {x : Int32} (hd : decode c.code pc = .ok (.iastore, 1)) :
    ∃ T' h', Stand p l e R s m args below meth c T' (locs ++ [⟨a, j.toInt.toNat⟩]) cells slots ∧ T'.heap = h' ∧ Wr h h' a j.toInt.toNat (.int x) ∧ own_AI Z h' a .int (ys.set j.toInt.toNat x) ∧ ∀ target, Steps p.tables e below (T'.setTop (mkF m (pc + 1) Ls rest)) target → Steps p.tables e below (T.setTop (mkF m pc Ls (.int x :: .int j :: .ref a :: rest))) target := by
  obtain ⟨cl, B, r⟩ := A
  obtain ⟨q1, q2⟩ := own_inb (j := j) r (by simpa using hj)
  obtain ⟨T', h', X', e', W', st⟩ := stI X hx hZ eT B q1 (x := x) (g := mkF m pc Ls (.int x :: .int j :: .ref a :: rest)) rfl rfl hd
  rw [q2] at X' W'
  exact ⟨T', h', X', e', W', by have := own_A.set ⟨cl, B, r⟩ W'; rw [own_AI, List.map_set]; exact this, st⟩
theorem own_bastoreB (X : Stand p l e R s m args below meth c T locs cells slots) (hx : p.tables.exec = Jvm.exec) (hZ : Z.Warmed39 s.vm) (eT : T.heap = h) (A : own_AI Z h a .byte ys) (hj : 0 ≤ j.toInt ∧ j.toInt < (ys.length : Nat)) {x : Int32} (hd : decode c.code pc = .ok (.bastore, 1)) :
    ∃ T' h', Stand p l e R s m args below meth c T' (locs ++ [⟨a, j.toInt.toNat⟩]) cells slots ∧ T'.heap = h' ∧ Wr h h' a j.toInt.toNat (.int x.toInt8.toInt32) ∧ own_AI Z h' a .byte (ys.set j.toInt.toNat x.toInt8.toInt32) ∧ ∀ target, Steps p.tables e below (T'.setTop (mkF m (pc + 1) Ls rest)) target → Steps p.tables e below (T.setTop (mkF m pc Ls (.int x :: .int j :: .ref a :: rest))) target := by
  obtain ⟨cl, B, r⟩ := A
  obtain ⟨q1, q2⟩ := own_inb (j := j) r (by simpa using hj)
  obtain ⟨T', h', X', e', W', st⟩ := stB X hx hZ eT B q1 (x := x) (g := mkF m pc Ls (.int x :: .int j :: .ref a :: rest)) rfl rfl hd
  rw [q2] at X' W'
  exact ⟨T', h', X', e', W', by have := own_A.set ⟨cl, B, r⟩ W'; rw [own_AI, List.map_set]; exact this, st⟩
theorem own_bastoreZ (X : Stand p l e R s m args below meth c T locs cells slots) (hx : p.tables.exec = Jvm.exec) (hZ : Z.Warmed39 s.vm) (eT : T.heap = h) (A : own_AI Z h a .boolean ys) (hj : 0 ≤ j.toInt ∧ j.toInt < (ys.length : Nat)) {x : Int32} (hd : decode c.code pc = .ok (.bastore, 1)) :
    ∃ T' h', Stand p l e R s m args below meth c T' (locs ++ [⟨a, j.toInt.toNat⟩]) cells slots ∧ T'.heap = h' ∧ Wr h h' a j.toInt.toNat (.int (x &&& 1)) ∧ own_AI Z h' a .boolean (ys.set j.toInt.toNat (x &&& 1)) ∧ ∀ target, Steps p.tables e below (T'.setTop (mkF m (pc + 1) Ls rest)) target → Steps p.tables e below (T.setTop (mkF m pc Ls (.int x :: .int j :: .ref a :: rest))) target := by
  obtain ⟨cl, B, r⟩ := A
  obtain ⟨q1, q2⟩ := own_inb (j := j) r (by simpa using hj)
  obtain ⟨T', h', X', e', W', st⟩ := stZ X hx hZ eT B q1 (x := x) (g := mkF m pc Ls (.int x :: .int j :: .ref a :: rest)) rfl rfl hd
  rw [q2] at X' W'
  exact ⟨T', h', X', e', W', by have := own_A.set ⟨cl, B, r⟩ W'; rw [own_AI, List.map_set]; exact this, st⟩
end Loads
end OwnKit
theorem own_bm32 {x : Int} (h1 : -2147483648 ≤ x) (h2 : x < 2147483648) : x.bmod (2 ^ 32) = x := by
  rw [Int.bmod_def]; split <;> omega
theorem own_bm64 {x : Int} (h1 : -9223372036854775808 ≤ x) (h2 : x < 9223372036854775808) : x.bmod (2 ^ 64) = x := by
  rw [Int.bmod_def]; split <;> omega
theorem own_r32 (x : Int32) : -2147483648 ≤ x.toInt ∧ x.toInt < 2147483648 := ⟨x.le_toInt, x.toInt_lt⟩
theorem own_r64 (x : Int64) : -9223372036854775808 ≤ x.toInt ∧ x.toInt < 9223372036854775808 := ⟨x.le_toInt, x.toInt_lt⟩
theorem own_iadd {x y : Int32} (h : -2147483648 ≤ x.toInt + y.toInt ∧ x.toInt + y.toInt < 2147483648) : (x + y).toInt = x.toInt + y.toInt := by rw [Int32.toInt_add]; exact own_bm32 h.1 h.2
theorem own_isub {x y : Int32} (h : -2147483648 ≤ x.toInt - y.toInt ∧ x.toInt - y.toInt < 2147483648) : (x - y).toInt = x.toInt - y.toInt := by rw [Int32.toInt_sub]; exact own_bm32 h.1 h.2
theorem own_imul {x y : Int32} (h : -2147483648 ≤ x.toInt * y.toInt ∧ x.toInt * y.toInt < 2147483648) : (x * y).toInt = x.toInt * y.toInt := by rw [Int32.toInt_mul]; exact own_bm32 h.1 h.2
theorem own_ladd {x y : Int64} (h : -9223372036854775808 ≤ x.toInt + y.toInt ∧ x.toInt + y.toInt < 9223372036854775808) : (x + y).toInt = x.toInt + y.toInt := by rw [Int64.toInt_add]; exact own_bm64 h.1 h.2
theorem own_lsub {x y : Int64} (h : -9223372036854775808 ≤ x.toInt - y.toInt ∧ x.toInt - y.toInt < 9223372036854775808) : (x - y).toInt = x.toInt - y.toInt := by rw [Int64.toInt_sub]; exact own_bm64 h.1 h.2
theorem own_lmul {x y : Int64} (h : -9223372036854775808 ≤ x.toInt * y.toInt ∧ x.toInt * y.toInt < 9223372036854775808) : (x * y).toInt = x.toInt * y.toInt := by rw [Int64.toInt_mul]; exact own_bm64 h.1 h.2
theorem own_i2l (x : Int32) : x.toInt64.toInt = x.toInt := Int32.toInt_toInt64 x
theorem own_l2i {x : Int64} (h : -2147483648 ≤ x.toInt ∧ x.toInt < 2147483648) : x.toInt32.toInt = x.toInt := by rw [Int64.toInt_toInt32]; exact own_bm32 h.1 h.2
theorem own_irem {x y : Int32} (h : 0 ≤ x.toInt) : (x % y).toInt = x.toInt % y.toInt := by rw [Int32.toInt_mod]; exact Int.tmod_eq_emod_of_nonneg h
theorem own_lrem {x y : Int64} (h : 0 ≤ x.toInt) : (x % y).toInt = x.toInt % y.toInt := by rw [Int64.toInt_mod]; exact Int.tmod_eq_emod_of_nonneg h
theorem own_idiv {x y : Int32} (h : 0 ≤ x.toInt) (hy : 0 ≤ y.toInt) : (x / y).toInt = x.toInt / y.toInt := by
  rw [Int32.toInt_div_of_ne_right x y (fun q => by rw [q] at hy; revert hy; decide)]; exact Int.tdiv_eq_ediv_of_nonneg h
theorem own_ldiv {x y : Int64} (h : 0 ≤ x.toInt) (hy : 0 ≤ y.toInt) : (x / y).toInt = x.toInt / y.toInt := by
  rw [Int64.toInt_div_of_ne_right x y (fun q => by rw [q] at hy; revert hy; decide)]; exact Int.tdiv_eq_ediv_of_nonneg h
/-- a mask of k bits -/
theorem own_mask (x m : Int32) (k : Nat) (hk : k ≤ 31) (hm : m.toBitVec.toNat = 2 ^ k - 1) : (x &&& m).toInt = x.toInt % (2 ^ k : Nat) := by
  have hp : 2 ^ k ≤ 2 ^ 31 := Nat.pow_le_pow_right (by decide) hk
  have hp0 : 0 < 2 ^ k := Nat.pow_pos (by decide)
  have e : (x &&& m).toBitVec.toNat = x.toBitVec.toNat % 2 ^ k := by rw [Int32.toBitVec_and, BitVec.toNat_and, hm, Nat.and_two_pow_sub_one_eq_mod]
  have l := Nat.mod_lt x.toBitVec.toNat hp0
  rw [← Int32.toInt_toBitVec, ← Int32.toInt_toBitVec, BitVec.toInt_eq_toNat_cond, e, if_pos (by omega), BitVec.toInt_eq_toNat_cond]
  split
  · simp
  · rename_i q
    have d : (2 ^ k : Nat) ∣ 2 ^ 32 := Nat.pow_dvd_pow 2 (by omega)
    obtain ⟨c, hc⟩ := d
    have hc' : ((2 ^ 32 : Nat) : Int) = ((2 ^ k : Nat) : Int) * (c : Int) := by rw [hc]; simp
    rw [hc', Int.sub_mul_emod_self_left]; simp
theorem own_ushr (x : Int64) (y : Int32) (k : Nat) (hk : (y &&& 0x3f).toInt64.toBitVec.toNat % 64 = k) (h0 : 0 < k) : (((x).toUInt64 >>> (y &&& 0x3f).toInt64.toUInt64).toInt64).toInt = (x.toInt % 18446744073709551616) / (2 ^ k : Nat) := by
  have e : (((x).toUInt64 >>> (y &&& 0x3f).toInt64.toUInt64).toInt64).toBitVec = x.toBitVec >>> k := by rw [← hk]; simp
  have hl := x.toBitVec.isLt
  have hp0 : 0 < 2 ^ k := Nat.pow_pos (by decide)
  have h2 : 2 ^ 1 ≤ 2 ^ k := Nat.pow_le_pow_right (by decide) h0
  have hd : x.toBitVec.toNat / 2 ^ k ≤ x.toBitVec.toNat / 2 := Nat.div_le_div_left h2 (by decide)
  have t : x.toInt % 18446744073709551616 = (x.toBitVec.toNat : Int) := by
    rw [← Int64.toInt_toBitVec, BitVec.toInt_eq_toNat_cond]; split <;> omega
  rw [t, ← Int64.toInt_toBitVec, e, BitVec.toInt_eq_toNat_cond, BitVec.toNat_ushiftRight, Nat.shiftRight_eq_div_pow, if_pos (by omega)]
  simp
theorem own_shl (x : Int64) (y : Int32) (k : Nat) (hk : y.toBitVec.toNat % 64 = k) (h : -9223372036854775808 ≤ x.toInt * (2 ^ k : Nat) ∧ x.toInt * (2 ^ k : Nat) < 9223372036854775808) : (x <<< (y &&& 0x3f).toInt64).toInt = x.toInt * (2 ^ k : Nat) := by
  have q := c_lshl x y k hk
  have r := own_r64 (x <<< (y &&& 0x3f).toInt64)
  generalize x.toInt * (2 ^ k : Nat) = z at *
  omega
theorem own_nzL {x : Int32} (h : ¬ x = 0) : ¬ x.toInt64 = 0 := fun q => h (Int32.toInt_inj.mp (by rw [← own_i2l, q]; rfl))
theorem own_nzP {x : Int32} (h : 1 ≤ x.toInt) : ¬ x = 0 := fun q => by rw [q] at h; revert h; decide
theorem own_fA {t n : Int32} {k : Int} (h : t < n) (q : n.toInt - 1 = k) : t.toInt ≤ k := by rw [Int32.lt_iff_toInt_lt] at h; omega
theorem own_fB {t n : Int32} {k : Int} (h : ¬ n < t) (q : n.toInt = k) : t.toInt ≤ k := by rw [Int32.lt_iff_toInt_lt] at h; omega
theorem own_fC {t n : Int32} {k : Int} (h : n < t) (q : n.toInt + 1 = k) : k ≤ t.toInt := by rw [Int32.lt_iff_toInt_lt] at h; omega
theorem own_fD {t n : Int32} {k : Int} (h : ¬ t < n) (q : n.toInt = k) : k ≤ t.toInt := by rw [Int32.lt_iff_toInt_lt] at h; omega
theorem own_fE {t n : Int32} {k : Int} (h : t = n) (q : n.toInt = k) : t.toInt ≤ k := by rw [h]; omega
theorem own_fF {t n : Int32} {k : Int} (h : t = n) (q : n.toInt = k) : k ≤ t.toInt := by rw [h]; omega
theorem own_g1 {t m : Int32} {k : Int} (h : t.toInt ≤ k) (q : k < m.toInt) : t < m := by rw [Int32.lt_iff_toInt_lt]; omega
theorem own_g2 {t m : Int32} {k : Int} (h : t.toInt ≤ k) (q : k ≤ m.toInt) : ¬ m < t := by rw [Int32.lt_iff_toInt_lt]; omega
theorem own_g3 {t m : Int32} {k : Int} (h : t.toInt ≤ k) (q : k < m.toInt) : ¬ t = m := fun e => by rw [e] at h; omega
theorem own_g4 {t m : Int32} {k : Int} (h : k ≤ t.toInt) (q : m.toInt ≤ k) : ¬ t < m := by rw [Int32.lt_iff_toInt_lt]; omega
theorem own_g5 {t m : Int32} {k : Int} (h : k ≤ t.toInt) (q : m.toInt < k) : m < t := by rw [Int32.lt_iff_toInt_lt]; omega
theorem own_g6 {t m : Int32} {k : Int} (h : k ≤ t.toInt) (q : m.toInt < k) : ¬ t = m := fun e => by rw [e] at h; omega
theorem own_g7 {t m : Int32} {k : Int} (h : k ≤ t.toInt) (h' : t.toInt ≤ k) (q : m.toInt = k) : t = m := Int32.toInt_inj.mp (by omega)
theorem own_ne {x n : Int32} {k : Int} (h : ¬ x = n) (q : n.toInt = k) : k ≠ x.toInt := fun e => h (Int32.toInt_inj.mp (by omega))
theorem own_gs1 {α : Type} (xs : List α) (n : Nat) (v d : α) (h : n < xs.length) : (xs.set n v).getD n d = v := by simp [List.getD, h]
theorem own_gs2 {α : Type} (xs : List α) (n j : Nat) (v d : α) (h : n ≠ j) : (xs.set n v).getD j d = xs.getD j d := by simp [List.getD, List.getElem?_set, h]
theorem own_four {x k : Int32} (h : k = x &&& 3) : k = 0 ∨ k = 1 ∨ k = 2 ∨ k = 3 := by
  have a := own_mask x 3 2 (by decide) (by decide)
  rw [← h] at a
  simp only [← Int32.toInt_inj]
  have e0 : (0 : Int32).toInt = 0 := by decide
  have e1 : (1 : Int32).toInt = 1 := by decide
  have e2 : (2 : Int32).toInt = 2 := by decide
  have e3 : (3 : Int32).toInt = 3 := by decide
  omega
theorem own_off {x y n : Int32} {k len : Int} {L : Nat} (h : y = (x &&& 2147483647) % n) (hn : n.toInt = k) (hk : 1 ≤ k ∧ k + len ≤ L + 1) : 0 ≤ y.toInt ∧ y.toInt + len ≤ (L : Nat) := by
  have a := own_mask x 2147483647 31 (by decide) (by decide)
  have b := own_irem (x := x &&& 2147483647) (y := n) (by omega)
  have c := Int.emod_lt_of_pos (x &&& 2147483647).toInt (show 0 < n.toInt by omega)
  have d := Int.emod_nonneg (x &&& 2147483647).toInt (show n.toInt ≠ 0 by omega)
  rw [← h] at b
  omega
theorem own_hs {q : Int32} {k : Int} {n : Nat} (h : 0 ≤ q.toInt ∧ q.toInt + k ≤ (n : Nat)) (hk : 0 ≤ k) (hn : n ≤ 100) : (q + 0).toInt = q.toInt ∧ (q + 1).toInt = q.toInt + 1 ∧ (q + 2).toInt = q.toInt + 2 ∧ (q + 3).toInt = q.toInt + 3 ∧ (q + 1 + 1).toInt = q.toInt + 2 ∧ (q + 1 + 1 + 1).toInt = q.toInt + 3 := by
  have e0 : (0 : Int32).toInt = 0 := by decide
  have e1 : (1 : Int32).toInt = 1 := by decide
  have e2 : (2 : Int32).toInt = 2 := by decide
  have e3 : (3 : Int32).toInt = 3 := by decide
  have a0 := own_iadd (x := q) (y := 0) (by omega)
  have a1 := own_iadd (x := q) (y := 1) (by omega)
  have a2 := own_iadd (x := q) (y := 2) (by omega)
  have a3 := own_iadd (x := q) (y := 3) (by omega)
  have b1 := own_iadd (x := q + 1) (y := 1) (by omega)
  have b2 := own_iadd (x := q + 1 + 1) (y := 1) (by omega)
  omega
theorem d1_0 : decode method_3_code 0 = .ok (.iload_n 2, 1) := by decide +kernel
theorem d1_1 : decode method_3_code 1 = .ok (.iconst 1, 1) := by decide +kernel
theorem d1_2 : decode method_3_code 2 = .ok (.if_icmp .lt 7, 3) := by decide +kernel
theorem d1_5 : decode method_3_code 5 = .ok (.aload_n 0, 1) := by decide +kernel
theorem d1_6 : decode method_3_code 6 = .ok (.iload_n 1, 1) := by decide +kernel
theorem d1_7 : decode method_3_code 7 = .ok (.lload_n 3, 1) := by decide +kernel
theorem d1_8 : decode method_3_code 8 = .ok (.lastore, 1) := by decide +kernel
theorem d1_9 : decode method_3_code 9 = .ok (.iload_n 2, 1) := by decide +kernel
theorem d1_10 : decode method_3_code 10 = .ok (.iconst 2, 1) := by decide +kernel
theorem d1_11 : decode method_3_code 11 = .ok (.if_icmp .lt 10, 3) := by decide +kernel
theorem d1_14 : decode method_3_code 14 = .ok (.aload_n 0, 1) := by decide +kernel
theorem d1_15 : decode method_3_code 15 = .ok (.iload_n 1, 1) := by decide +kernel
theorem d1_16 : decode method_3_code 16 = .ok (.iconst 1, 1) := by decide +kernel
theorem d1_17 : decode method_3_code 17 = .ok (.iadd, 1) := by decide +kernel
theorem d1_18 : decode method_3_code 18 = .ok (.lload 5, 2) := by decide +kernel
theorem d1_20 : decode method_3_code 20 = .ok (.lastore, 1) := by decide +kernel
theorem d1_21 : decode method_3_code 21 = .ok (.iload_n 2, 1) := by decide +kernel
theorem d1_22 : decode method_3_code 22 = .ok (.iconst 3, 1) := by decide +kernel
theorem d1_23 : decode method_3_code 23 = .ok (.if_icmp .lt 10, 3) := by decide +kernel
theorem d1_26 : decode method_3_code 26 = .ok (.aload_n 0, 1) := by decide +kernel
theorem d1_27 : decode method_3_code 27 = .ok (.iload_n 1, 1) := by decide +kernel
theorem d1_28 : decode method_3_code 28 = .ok (.iconst 2, 1) := by decide +kernel
theorem d1_29 : decode method_3_code 29 = .ok (.iadd, 1) := by decide +kernel
theorem d1_30 : decode method_3_code 30 = .ok (.lload 7, 2) := by decide +kernel
theorem d1_32 : decode method_3_code 32 = .ok (.lastore, 1) := by decide +kernel
theorem d1_33 : decode method_3_code 33 = .ok (.return_, 1) := by decide +kernel
theorem pn_1 : plainName "com/example/cubeshare/cubeshare/model/TuplesHashPinLaw" = true := by first | (simp [plainName, overriddenIn]; done) | decide +kernel
theorem ef_1_0 (m : MethodId) (rb : Addr) (q1 : Int32) (q3 : Int64) (q4 : Int64) (q5 : Int64) : entryFrame m #[(.ref rb), (.int q1), (.int (0 : Int32)), (.long q3), (.long q4), (.long q5)] 9 = mkF m 0 #[.val (.ref rb), .val (.int q1), .val (.int (0 : Int32)), .val (.long q3), .second, .val (.long q4), .second, .val (.long q5), .second] [] := by first | (simp [entryFrame, mkF, argsToLocals, Value.category, maxLocals]; done) | rfl
def Q1_0 (Z : State) (rb : Addr) (q1 : Int32) (q3 : Int64) (q4 : Int64) (q5 : Int64) (xs : List Int64) (h0 : Heap) (n0 : Nat) (v : Option Value) (h : Heap) (L : List Loc) : Prop := v = none ∧ Fr n0 L ∧ Keep h0 h [rb] ∧ own_AJ Z h rb xs
set_option maxRecDepth 65536 in
set_option maxHeartbeats 40000000 in
theorem rm1_0 (l : Launch) (Z : State) (a0 : Array Value) (hw : ∀ d ∈ tables_1, d.before a0 Z = true) (ws : List Jvm.Cond) (rb : Addr) (q1 : Int32) (q3 : Int64) (q4 : Int64) (q5 : Int64) (xs : List Int64) (h0 : Heap) (n0 : Nat) (Z0 : n0 ≤ h0.size) (PA0 : own_AJ Z h0 rb xs) (PG0 : n0 ≤ rb) (hin : 0 ≤ (q1).toInt ∧ (q1).toInt + 0 ≤ (xs.length : Nat)) (hl : xs.length ≤ 100) :
    MetFree l (⟨"com/example/cubeshare/cubeshare/model/TuplesHashPinLaw", "put", "([JIIJJJ)V"⟩ : MethodName) (head1 (Jvm.Cond.code (⟨"com/example/cubeshare/cubeshare/model/TuplesHashPinLaw", "put", "([JIIJJJ)V"⟩ : MethodName) method_3_code 9 none :: ws) ({ frames := 0, cells := 0, slots := 0, locals := 0 } : Room)) (fun a U => a = #[(.ref rb), (.int q1), (.int (0 : Int32)), (.long q3), (.long q4), (.long q5)] ∧ Z.Warmed39 U.vm ∧ U.heap = h0) (fun _ _ _ _ _ => True) (fun _ U o U' => ∃ v L, o = .returned v ∧ Q1_0 Z rb q1 q3 q4 q5 xs h0 n0 v U'.heap L ∧ FrameEnd U o U' L ({ frames := 0, cells := 0, slots := 0, locals := 0 } : Room).cells ({ frames := 0, cells := 0, slots := 0, locals := 0 } : Room).slots) := by
  refine MetFree.of_bodySF (plainFor_of_name pn_1) hisR ?_
  intro p e s m args below meth c s₁ Bd hml0 hP hK
  obtain ⟨rfl, hZ, hh⟩ := hP
  have hx := Bd.exec
  have hby := Bd.bytes
  have hml : c.maxLocals = 9 := hml0
  have hown : s.vm.findClass "com/example/cubeshare/cubeshare/model/TuplesHashPinLaw" = some m.cls := findClass_of_methodNamed Bd.named
  have hnm := (name_of_methodNamed Bd.named Bd.method).1
  have X0 : Stand p l e ({ frames := 0, cells := 0, slots := 0, locals := 0 } : Room) s m #[(.ref rb), (.int q1), (.int (0 : Int32)), (.long q3), (.long q4), (.long q5)] below meth c s₁ [] 0 0 := Stand.of_body Bd
  have hlk : meth.locks = false := by first | exact BodyLoose.notSynchronized (by assumption) | exact Body.notSynchronized (by assumption)
  have e0 : s₁.heap = h0 := by rw [← hh, Bd.state]; rfl
  have N0 := Fr.nil n0
  have pre0 : ∀ t, Steps p.tables e below (s₁.setTop (mkF m 0 #[.val (.ref rb), .val (.int q1), .val (.int (0 : Int32)), .val (.long q3), .second, .val (.long q4), .second, .val (.long q5), .second] [])) t → Steps p.tables e below (s₁.setTop (entryFrame m #[(.ref rb), (.int q1), (.int (0 : Int32)), (.long q3), (.long q4), (.long q5)] 9)) t := fun t k => castTop (ef_1_0 m rb q1 q3 q4 q5) k
  obtain ⟨fs, hr, hrun, hended, hW, hsame⟩ := X0.leave (v := none) (fun _ => rfl) hlk
  refine ⟨_, _, pre0 _ ?_, hrun, hended, _, _, rfl, ?_, ⟨_, rfl⟩, hW, hsame.mono (by decide) (by decide)⟩
  · show Steps p.tables e below (s₁.setTop (mkF m 0 #[.val (.ref rb), .val (.int q1), .val (.int (0 : Int32)), .val (.long q3), .second, .val (.long q4), .second, .val (.long q5), .second] [])) _
    refine XS.iloadN X0.here hx rfl (hb hby d1_0) rfl ?_
    show Steps p.tables e below (s₁.setTop (mkF m 1 #[.val (.ref rb), .val (.int q1), .val (.int (0 : Int32)), .val (.long q3), .second, .val (.long q4), .second, .val (.long q5), .second] [(.int (0 : Int32))])) _
    refine XS.iconst X0.here hx rfl (hb hby d1_1) ?_
    show Steps p.tables e below (s₁.setTop (mkF m 2 #[.val (.ref rb), .val (.int q1), .val (.int (0 : Int32)), .val (.long q3), .second, .val (.long q4), .second, .val (.long q5), .second] [(.int (1 : Int32)), (.int (0 : Int32))])) _
    refine XS.icmpYes X0.here hx rfl (pc0 := 2) (pc' := 9) rfl (hb hby d1_2) rfl (by decide) (by decide) (by decide) ?_
    show Steps p.tables e below (s₁.setTop (mkF m 9 #[.val (.ref rb), .val (.int q1), .val (.int (0 : Int32)), .val (.long q3), .second, .val (.long q4), .second, .val (.long q5), .second] [])) _
    refine XS.iloadN X0.here hx rfl (hb hby d1_9) rfl ?_
    show Steps p.tables e below (s₁.setTop (mkF m 10 #[.val (.ref rb), .val (.int q1), .val (.int (0 : Int32)), .val (.long q3), .second, .val (.long q4), .second, .val (.long q5), .second] [(.int (0 : Int32))])) _
    refine XS.iconst X0.here hx rfl (hb hby d1_10) ?_
    show Steps p.tables e below (s₁.setTop (mkF m 11 #[.val (.ref rb), .val (.int q1), .val (.int (0 : Int32)), .val (.long q3), .second, .val (.long q4), .second, .val (.long q5), .second] [(.int (2 : Int32)), (.int (0 : Int32))])) _
    refine XS.icmpYes X0.here hx rfl (pc0 := 11) (pc' := 21) rfl (hb hby d1_11) rfl (by decide) (by decide) (by decide) ?_
    show Steps p.tables e below (s₁.setTop (mkF m 21 #[.val (.ref rb), .val (.int q1), .val (.int (0 : Int32)), .val (.long q3), .second, .val (.long q4), .second, .val (.long q5), .second] [])) _
    refine XS.iloadN X0.here hx rfl (hb hby d1_21) rfl ?_
    show Steps p.tables e below (s₁.setTop (mkF m 22 #[.val (.ref rb), .val (.int q1), .val (.int (0 : Int32)), .val (.long q3), .second, .val (.long q4), .second, .val (.long q5), .second] [(.int (0 : Int32))])) _
    refine XS.iconst X0.here hx rfl (hb hby d1_22) ?_
    show Steps p.tables e below (s₁.setTop (mkF m 23 #[.val (.ref rb), .val (.int q1), .val (.int (0 : Int32)), .val (.long q3), .second, .val (.long q4), .second, .val (.long q5), .second] [(.int (3 : Int32)), (.int (0 : Int32))])) _
    refine XS.icmpYes X0.here hx rfl (pc0 := 23) (pc' := 33) rfl (hb hby d1_23) rfl (by decide) (by decide) (by decide) ?_
    show Steps p.tables e below (s₁.setTop (mkF m 33 #[.val (.ref rb), .val (.int q1), .val (.int (0 : Int32)), .val (.long q3), .second, .val (.long q4), .second, .val (.long q5), .second] [])) _
    exact X0.returnOut hx Bd.returns (hb hby d1_33) hr
  · show Q1_0 Z rb q1 q3 q4 q5 xs h0 n0 _ s₁.heap _
    rw [e0]
    exact ⟨rfl, N0, (Keep.refl h0 [rb]), PA0⟩
theorem d2_0 : decode prog_93_method_2_code 0 = .ok (.iload_n 2, 1) := by decide +kernel
theorem d2_1 : decode prog_93_method_2_code 1 = .ok (.i2l, 1) := by decide +kernel
theorem d2_2 : decode prog_93_method_2_code 2 = .ok (.lstore_n 3, 1) := by decide +kernel
theorem d2_3 : decode prog_93_method_2_code 3 = .ok (.iload_n 1, 1) := by decide +kernel
theorem d2_4 : decode prog_93_method_2_code 4 = .ok (.istore 5, 2) := by decide +kernel
theorem d2_6 : decode prog_93_method_2_code 6 = .ok (.iload 5, 2) := by decide +kernel
theorem d2_8 : decode prog_93_method_2_code 8 = .ok (.iload_n 1, 1) := by decide +kernel
theorem d2_9 : decode prog_93_method_2_code 9 = .ok (.iload_n 2, 1) := by decide +kernel
theorem d2_10 : decode prog_93_method_2_code 10 = .ok (.iadd, 1) := by decide +kernel
theorem d2_11 : decode prog_93_method_2_code 11 = .ok (.if_icmp .ge 27, 3) := by decide +kernel
theorem d2_14 : decode prog_93_method_2_code 14 = .ok (.lload_n 3, 1) := by decide +kernel
theorem d2_15 : decode prog_93_method_2_code 15 = .ok (.aload_n 0, 1) := by decide +kernel
theorem d2_16 : decode prog_93_method_2_code 16 = .ok (.iload 5, 2) := by decide +kernel
theorem d2_18 : decode prog_93_method_2_code 18 = .ok (.laload, 1) := by decide +kernel
theorem d2_19 : decode prog_93_method_2_code 19 = .ok (.lxor, 1) := by decide +kernel
theorem d2_20 : decode prog_93_method_2_code 20 = .ok (.ldc2_w 7, 3) := by decide +kernel
theorem d2_23 : decode prog_93_method_2_code 23 = .ok (.lmul, 1) := by decide +kernel
theorem d2_24 : decode prog_93_method_2_code 24 = .ok (.lstore_n 3, 1) := by decide +kernel
theorem d2_25 : decode prog_93_method_2_code 25 = .ok (.lload_n 3, 1) := by decide +kernel
theorem d2_26 : decode prog_93_method_2_code 26 = .ok (.lload_n 3, 1) := by decide +kernel
theorem d2_27 : decode prog_93_method_2_code 27 = .ok (.bipush 31, 2) := by decide +kernel
theorem d2_29 : decode prog_93_method_2_code 29 = .ok (.lushr, 1) := by decide +kernel
theorem d2_30 : decode prog_93_method_2_code 30 = .ok (.lxor, 1) := by decide +kernel
theorem d2_31 : decode prog_93_method_2_code 31 = .ok (.lstore_n 3, 1) := by decide +kernel
theorem d2_32 : decode prog_93_method_2_code 32 = .ok (.iinc 5 1, 3) := by decide +kernel
theorem d2_35 : decode prog_93_method_2_code 35 = .ok (.goto (-29), 3) := by decide +kernel
theorem d2_38 : decode prog_93_method_2_code 38 = .ok (.lload_n 3, 1) := by decide +kernel
theorem d2_39 : decode prog_93_method_2_code 39 = .ok (.lload_n 3, 1) := by decide +kernel
theorem d2_40 : decode prog_93_method_2_code 40 = .ok (.bipush 29, 2) := by decide +kernel
theorem d2_42 : decode prog_93_method_2_code 42 = .ok (.lushr, 1) := by decide +kernel
theorem d2_43 : decode prog_93_method_2_code 43 = .ok (.lxor, 1) := by decide +kernel
theorem d2_44 : decode prog_93_method_2_code 44 = .ok (.ldc2_w 9, 3) := by decide +kernel
theorem d2_47 : decode prog_93_method_2_code 47 = .ok (.lmul, 1) := by decide +kernel
theorem d2_48 : decode prog_93_method_2_code 48 = .ok (.lstore_n 3, 1) := by decide +kernel
theorem d2_49 : decode prog_93_method_2_code 49 = .ok (.lload_n 3, 1) := by decide +kernel
theorem d2_50 : decode prog_93_method_2_code 50 = .ok (.lload_n 3, 1) := by decide +kernel
theorem d2_51 : decode prog_93_method_2_code 51 = .ok (.bipush 32, 2) := by decide +kernel
theorem d2_53 : decode prog_93_method_2_code 53 = .ok (.lushr, 1) := by decide +kernel
theorem d2_54 : decode prog_93_method_2_code 54 = .ok (.lxor, 1) := by decide +kernel
theorem d2_55 : decode prog_93_method_2_code 55 = .ok (.l2i, 1) := by decide +kernel
theorem d2_56 : decode prog_93_method_2_code 56 = .ok (.ireturn, 1) := by decide +kernel
theorem pn_3 : plainName "com/example/cubeshare/cubeshare/model/Tuples" = true := by first | (simp [plainName, overriddenIn]; done) | decide +kernel
theorem ef_2_0 (m : MethodId) (rb : Addr) (q1 : Int32) : entryFrame m #[(.ref rb), (.int q1), (.int (0 : Int32))] 6 = mkF m 0 #[.val (.ref rb), .val (.int q1), .val (.int (0 : Int32)), .unset, .unset, .unset] [] := by first | (simp [entryFrame, mkF, argsToLocals, Value.category, maxLocals]; done) | rfl
def own_f2_0 (q1 : Int32) (xs : List Int64) : Int32 := let v2 := (((0 : Int64) ^^^ (((0 : Int64)).toUInt64 >>> ((29 : Int32) &&& 0x3f).toInt64.toUInt64).toInt64) * (-7723592293110705685 : Int64))
  ((v2 ^^^ ((v2).toUInt64 >>> ((32 : Int32) &&& 0x3f).toInt64.toUInt64).toInt64)).toInt32
def Q2_0 (Z : State) (rb : Addr) (q1 : Int32) (xs : List Int64) (h0 : Heap) (n0 : Nat) (v : Option Value) (h : Heap) (L : List Loc) : Prop := v = some (.int (own_f2_0 q1 xs)) ∧ Fr n0 L ∧ h = h0
set_option maxRecDepth 65536 in
set_option maxHeartbeats 40000000 in
theorem rm2_0 (l : Launch) (Z : State) (a0 : Array Value) (hw : ∀ d ∈ tables_1, d.before a0 Z = true) (ws : List Jvm.Cond) (rb : Addr) (q1 : Int32) (xs : List Int64) (h0 : Heap) (n0 : Nat) (Z0 : n0 ≤ h0.size) (PA0 : own_AJ Z h0 rb xs) (hin : 0 ≤ (q1).toInt ∧ (q1).toInt + 0 ≤ (xs.length : Nat)) (hl : xs.length ≤ 100) :
    MetFree l (⟨"com/example/cubeshare/cubeshare/model/Tuples", "hash", "([JII)I"⟩ : MethodName) (head1 (Jvm.Cond.code (⟨"com/example/cubeshare/cubeshare/model/Tuples", "hash", "([JII)I"⟩ : MethodName) prog_93_method_2_code 6 (some .int) :: ws) ({ frames := 0, cells := 0, slots := 0, locals := 0 } : Room)) (fun a U => a = #[(.ref rb), (.int q1), (.int (0 : Int32))] ∧ Z.Warmed39 U.vm ∧ U.heap = h0) (fun _ _ _ _ _ => True) (fun _ U o U' => ∃ v L, o = .returned v ∧ Q2_0 Z rb q1 xs h0 n0 v U'.heap L ∧ FrameEnd U o U' L ({ frames := 0, cells := 0, slots := 0, locals := 0 } : Room).cells ({ frames := 0, cells := 0, slots := 0, locals := 0 } : Room).slots) := by
  refine MetFree.of_bodySF (plainFor_of_name pn_3) hisR ?_
  intro p e s m args below meth c s₁ Bd hml0 hP hK
  obtain ⟨rfl, hZ, hh⟩ := hP
  have hx := Bd.exec
  have hby := Bd.bytes
  have hml : c.maxLocals = 6 := hml0
  have hown : s.vm.findClass "com/example/cubeshare/cubeshare/model/Tuples" = some m.cls := findClass_of_methodNamed Bd.named
  have hnm := (name_of_methodNamed Bd.named Bd.method).1
  have X0 : Stand p l e ({ frames := 0, cells := 0, slots := 0, locals := 0 } : Room) s m #[(.ref rb), (.int q1), (.int (0 : Int32))] below meth c s₁ [] 0 0 := Stand.of_body Bd
  have hlk : meth.locks = false := by first | exact BodyLoose.notSynchronized (by assumption) | exact Body.notSynchronized (by assumption)
  have e0 : s₁.heap = h0 := by rw [← hh, Bd.state]; rfl
  have N0 := Fr.nil n0
  have pre0 : ∀ t, Steps p.tables e below (s₁.setTop (mkF m 0 #[.val (.ref rb), .val (.int q1), .val (.int (0 : Int32)), .unset, .unset, .unset] [])) t → Steps p.tables e below (s₁.setTop (entryFrame m #[(.ref rb), (.int q1), (.int (0 : Int32))] 6)) t := fun t k => castTop (ef_2_0 m rb q1) k
  have c1 : ¬ (q1 < (q1 + (0 : Int32))) := (by rw [Int32.lt_iff_toInt_lt]; have := own_hs hin (by decide) hl; omega)
  obtain ⟨v2, hv2⟩ : ∃ z : Int64, z = (((0 : Int64) ^^^ (((0 : Int64)).toUInt64 >>> ((29 : Int32) &&& 0x3f).toInt64.toUInt64).toInt64) * (-7723592293110705685 : Int64)) := ⟨_, rfl⟩
  have pre3 : ∀ t, Steps p.tables e below (s₁.setTop (mkF m 48 #[.val (.ref rb), .val (.int q1), .val (.int (0 : Int32)), .val (.long (0 : Int64)), .second, .val (.int q1)] [(.long v2)])) t → Steps p.tables e below (s₁.setTop (entryFrame m #[(.ref rb), (.int q1), (.int (0 : Int32))] 6)) t := by
    rw [hv2]
    intro t k
    refine pre0 t ?_
    show Steps p.tables e below (s₁.setTop (mkF m 0 #[.val (.ref rb), .val (.int q1), .val (.int (0 : Int32)), .unset, .unset, .unset] [])) _
    refine XS.iloadN X0.here hx rfl (hb hby d2_0) rfl ?_
    show Steps p.tables e below (s₁.setTop (mkF m 1 #[.val (.ref rb), .val (.int q1), .val (.int (0 : Int32)), .unset, .unset, .unset] [(.int (0 : Int32))])) _
    refine XS.i2l X0.here hx rfl (hb hby d2_1) rfl ?_
    show Steps p.tables e below (s₁.setTop (mkF m 2 #[.val (.ref rb), .val (.int q1), .val (.int (0 : Int32)), .unset, .unset, .unset] [(.long (0 : Int64))])) _
    refine XS.lstoreN X0.here hx rfl (hb hby d2_2) rfl (l' := #[.val (.ref rb), .val (.int q1), .val (.int (0 : Int32)), .val (.long (0 : Int64)), .second, .unset]) rfl ?_
    show Steps p.tables e below (s₁.setTop (mkF m 3 #[.val (.ref rb), .val (.int q1), .val (.int (0 : Int32)), .val (.long (0 : Int64)), .second, .unset] [])) _
    refine XS.iloadN X0.here hx rfl (hb hby d2_3) rfl ?_
    show Steps p.tables e below (s₁.setTop (mkF m 4 #[.val (.ref rb), .val (.int q1), .val (.int (0 : Int32)), .val (.long (0 : Int64)), .second, .unset] [(.int q1)])) _
    refine XS.istore X0.here hx rfl (hb hby d2_4) rfl (l' := #[.val (.ref rb), .val (.int q1), .val (.int (0 : Int32)), .val (.long (0 : Int64)), .second, .val (.int q1)]) rfl ?_
    show Steps p.tables e below (s₁.setTop (mkF m 6 #[.val (.ref rb), .val (.int q1), .val (.int (0 : Int32)), .val (.long (0 : Int64)), .second, .val (.int q1)] [])) _
    refine XS.iload X0.here hx rfl (hb hby d2_6) rfl ?_
    show Steps p.tables e below (s₁.setTop (mkF m 8 #[.val (.ref rb), .val (.int q1), .val (.int (0 : Int32)), .val (.long (0 : Int64)), .second, .val (.int q1)] [(.int q1)])) _
    refine XS.iloadN X0.here hx rfl (hb hby d2_8) rfl ?_
    show Steps p.tables e below (s₁.setTop (mkF m 9 #[.val (.ref rb), .val (.int q1), .val (.int (0 : Int32)), .val (.long (0 : Int64)), .second, .val (.int q1)] [(.int q1), (.int q1)])) _
    refine XS.iloadN X0.here hx rfl (hb hby d2_9) rfl ?_
    show Steps p.tables e below (s₁.setTop (mkF m 10 #[.val (.ref rb), .val (.int q1), .val (.int (0 : Int32)), .val (.long (0 : Int64)), .second, .val (.int q1)] [(.int (0 : Int32)), (.int q1), (.int q1)])) _
    refine XS.iadd X0.here hx rfl (hb hby d2_10) rfl ?_
    show Steps p.tables e below (s₁.setTop (mkF m 11 #[.val (.ref rb), .val (.int q1), .val (.int (0 : Int32)), .val (.long (0 : Int64)), .second, .val (.int q1)] [(.int (q1 + (0 : Int32))), (.int q1)])) _
    refine XS.icmpYes X0.here hx rfl (pc0 := 11) (pc' := 38) rfl (hb hby d2_11) rfl ((flt c1).2.1) (by decide) (by decide) ?_
    show Steps p.tables e below (s₁.setTop (mkF m 38 #[.val (.ref rb), .val (.int q1), .val (.int (0 : Int32)), .val (.long (0 : Int64)), .second, .val (.int q1)] [])) _
    refine XS.lloadN X0.here hx rfl (hb hby d2_38) rfl ?_
    show Steps p.tables e below (s₁.setTop (mkF m 39 #[.val (.ref rb), .val (.int q1), .val (.int (0 : Int32)), .val (.long (0 : Int64)), .second, .val (.int q1)] [(.long (0 : Int64))])) _
    refine XS.lloadN X0.here hx rfl (hb hby d2_39) rfl ?_
    show Steps p.tables e below (s₁.setTop (mkF m 40 #[.val (.ref rb), .val (.int q1), .val (.int (0 : Int32)), .val (.long (0 : Int64)), .second, .val (.int q1)] [(.long (0 : Int64)), (.long (0 : Int64))])) _
    refine XS.bipush X0.here hx rfl (hb hby d2_40) ?_
    show Steps p.tables e below (s₁.setTop (mkF m 42 #[.val (.ref rb), .val (.int q1), .val (.int (0 : Int32)), .val (.long (0 : Int64)), .second, .val (.int q1)] [(.int (29 : Int32)), (.long (0 : Int64)), (.long (0 : Int64))])) _
    refine XS.lushr X0.here hx rfl (hb hby d2_42) rfl ?_
    show Steps p.tables e below (s₁.setTop (mkF m 43 #[.val (.ref rb), .val (.int q1), .val (.int (0 : Int32)), .val (.long (0 : Int64)), .second, .val (.int q1)] [(.long (((0 : Int64)).toUInt64 >>> ((29 : Int32) &&& 0x3f).toInt64.toUInt64).toInt64), (.long (0 : Int64))])) _
    refine XS.lxor X0.here hx rfl (hb hby d2_43) rfl ?_
    show Steps p.tables e below (s₁.setTop (mkF m 44 #[.val (.ref rb), .val (.int q1), .val (.int (0 : Int32)), .val (.long (0 : Int64)), .second, .val (.int q1)] [(.long ((0 : Int64) ^^^ (((0 : Int64)).toUInt64 >>> ((29 : Int32) &&& 0x3f).toInt64.toUInt64).toInt64))])) _
    refine X0.ldc2Long hx hown (mvT hZ (hw _ (List.mem_of_getElem? (i := 11) rfl))) (g := (mkF m 44 #[.val (.ref rb), .val (.int q1), .val (.int (0 : Int32)), .val (.long (0 : Int64)), .second, .val (.int q1)] [(.long ((0 : Int64) ^^^ (((0 : Int64)).toUInt64 >>> ((29 : Int32) &&& 0x3f).toInt64.toUInt64).toInt64))])) rfl (hb hby d2_44) _ ?_
    show Steps p.tables e below (s₁.setTop (mkF m 47 #[.val (.ref rb), .val (.int q1), .val (.int (0 : Int32)), .val (.long (0 : Int64)), .second, .val (.int q1)] [(.long (-7723592293110705685 : Int64)), (.long ((0 : Int64) ^^^ (((0 : Int64)).toUInt64 >>> ((29 : Int32) &&& 0x3f).toInt64.toUInt64).toInt64))])) _
    refine XS.lmul X0.here hx rfl (hb hby d2_47) rfl ?_
    exact k
  obtain ⟨fs, hr, hrun, hended, hW, hsame⟩ := X0.leave (v := some (.int ((v2 ^^^ ((v2).toUInt64 >>> ((32 : Int32) &&& 0x3f).toInt64.toUInt64).toInt64)).toInt32)) (fun h => by rw [Bd.returns] at h; cases h) hlk
  refine ⟨_, _, pre3 _ ?_, hrun, hended, _, _, rfl, ?_, ⟨_, rfl⟩, hW, hsame.mono (by decide) (by decide)⟩
  · show Steps p.tables e below (s₁.setTop (mkF m 48 #[.val (.ref rb), .val (.int q1), .val (.int (0 : Int32)), .val (.long (0 : Int64)), .second, .val (.int q1)] [(.long v2)])) _
    refine XS.lstoreN X0.here hx rfl (hb hby d2_48) rfl (l' := #[.val (.ref rb), .val (.int q1), .val (.int (0 : Int32)), .val (.long v2), .second, .val (.int q1)]) rfl ?_
    show Steps p.tables e below (s₁.setTop (mkF m 49 #[.val (.ref rb), .val (.int q1), .val (.int (0 : Int32)), .val (.long v2), .second, .val (.int q1)] [])) _
    refine XS.lloadN X0.here hx rfl (hb hby d2_49) rfl ?_
    show Steps p.tables e below (s₁.setTop (mkF m 50 #[.val (.ref rb), .val (.int q1), .val (.int (0 : Int32)), .val (.long v2), .second, .val (.int q1)] [(.long v2)])) _
    refine XS.lloadN X0.here hx rfl (hb hby d2_50) rfl ?_
    show Steps p.tables e below (s₁.setTop (mkF m 51 #[.val (.ref rb), .val (.int q1), .val (.int (0 : Int32)), .val (.long v2), .second, .val (.int q1)] [(.long v2), (.long v2)])) _
    refine XS.bipush X0.here hx rfl (hb hby d2_51) ?_
    show Steps p.tables e below (s₁.setTop (mkF m 53 #[.val (.ref rb), .val (.int q1), .val (.int (0 : Int32)), .val (.long v2), .second, .val (.int q1)] [(.int (32 : Int32)), (.long v2), (.long v2)])) _
    refine XS.lushr X0.here hx rfl (hb hby d2_53) rfl ?_
    show Steps p.tables e below (s₁.setTop (mkF m 54 #[.val (.ref rb), .val (.int q1), .val (.int (0 : Int32)), .val (.long v2), .second, .val (.int q1)] [(.long ((v2).toUInt64 >>> ((32 : Int32) &&& 0x3f).toInt64.toUInt64).toInt64), (.long v2)])) _
    refine XS.lxor X0.here hx rfl (hb hby d2_54) rfl ?_
    show Steps p.tables e below (s₁.setTop (mkF m 55 #[.val (.ref rb), .val (.int q1), .val (.int (0 : Int32)), .val (.long v2), .second, .val (.int q1)] [(.long (v2 ^^^ ((v2).toUInt64 >>> ((32 : Int32) &&& 0x3f).toInt64.toUInt64).toInt64))])) _
    refine XS.l2i X0.here hx rfl (hb hby d2_55) rfl ?_
    show Steps p.tables e below (s₁.setTop (mkF m 56 #[.val (.ref rb), .val (.int q1), .val (.int (0 : Int32)), .val (.long v2), .second, .val (.int q1)] [(.int ((v2 ^^^ ((v2).toUInt64 >>> ((32 : Int32) &&& 0x3f).toInt64.toUInt64).toInt64)).toInt32)])) _
    exact retI X0 hx Bd.returns (hb hby d2_56) hr
  · show Q2_0 Z rb q1 xs h0 n0 _ s₁.heap _
    rw [e0]
    exact ⟨by have w_hv2 := hv2.symm; subst w_hv2; rfl, N0, rfl⟩
theorem ef_1_1 (m : MethodId) (rb : Addr) (q1 : Int32) (q3 : Int64) (q4 : Int64) (q5 : Int64) : entryFrame m #[(.ref rb), (.int q1), (.int (1 : Int32)), (.long q3), (.long q4), (.long q5)] 9 = mkF m 0 #[.val (.ref rb), .val (.int q1), .val (.int (1 : Int32)), .val (.long q3), .second, .val (.long q4), .second, .val (.long q5), .second] [] := by first | (simp [entryFrame, mkF, argsToLocals, Value.category, maxLocals]; done) | rfl
def Q1_1 (Z : State) (rb : Addr) (q1 : Int32) (q3 : Int64) (q4 : Int64) (q5 : Int64) (xs : List Int64) (h0 : Heap) (n0 : Nat) (v : Option Value) (h : Heap) (L : List Loc) : Prop := v = none ∧ Fr n0 L ∧ Keep h0 h [rb] ∧ own_AJ Z h rb (xs.set (q1).toInt.toNat q3)
set_option maxRecDepth 65536 in
set_option maxHeartbeats 40000000 in
theorem rm1_1 (l : Launch) (Z : State) (a0 : Array Value) (hw : ∀ d ∈ tables_1, d.before a0 Z = true) (ws : List Jvm.Cond) (rb : Addr) (q1 : Int32) (q3 : Int64) (q4 : Int64) (q5 : Int64) (xs : List Int64) (h0 : Heap) (n0 : Nat) (Z0 : n0 ≤ h0.size) (PA0 : own_AJ Z h0 rb xs) (PG0 : n0 ≤ rb) (hin : 0 ≤ (q1).toInt ∧ (q1).toInt + 1 ≤ (xs.length : Nat)) (hl : xs.length ≤ 100) :
    MetFree l (⟨"com/example/cubeshare/cubeshare/model/TuplesHashPinLaw", "put", "([JIIJJJ)V"⟩ : MethodName) (head1 (Jvm.Cond.code (⟨"com/example/cubeshare/cubeshare/model/TuplesHashPinLaw", "put", "([JIIJJJ)V"⟩ : MethodName) method_3_code 9 none :: ws) ({ frames := 0, cells := 0, slots := 0, locals := 0 } : Room)) (fun a U => a = #[(.ref rb), (.int q1), (.int (1 : Int32)), (.long q3), (.long q4), (.long q5)] ∧ Z.Warmed39 U.vm ∧ U.heap = h0) (fun _ _ _ _ _ => True) (fun _ U o U' => ∃ v L, o = .returned v ∧ Q1_1 Z rb q1 q3 q4 q5 xs h0 n0 v U'.heap L ∧ FrameEnd U o U' L ({ frames := 0, cells := 0, slots := 0, locals := 0 } : Room).cells ({ frames := 0, cells := 0, slots := 0, locals := 0 } : Room).slots) := by
  refine MetFree.of_bodySF (plainFor_of_name pn_1) hisR ?_
  intro p e s m args below meth c s₁ Bd hml0 hP hK
  obtain ⟨rfl, hZ, hh⟩ := hP
  have hx := Bd.exec
  have hby := Bd.bytes
  have hml : c.maxLocals = 9 := hml0
  have hown : s.vm.findClass "com/example/cubeshare/cubeshare/model/TuplesHashPinLaw" = some m.cls := findClass_of_methodNamed Bd.named
  have hnm := (name_of_methodNamed Bd.named Bd.method).1
  have X0 : Stand p l e ({ frames := 0, cells := 0, slots := 0, locals := 0 } : Room) s m #[(.ref rb), (.int q1), (.int (1 : Int32)), (.long q3), (.long q4), (.long q5)] below meth c s₁ [] 0 0 := Stand.of_body Bd
  have hlk : meth.locks = false := by first | exact BodyLoose.notSynchronized (by assumption) | exact Body.notSynchronized (by assumption)
  have e0 : s₁.heap = h0 := by rw [← hh, Bd.state]; rfl
  have N0 := Fr.nil n0
  have pre0 : ∀ t, Steps p.tables e below (s₁.setTop (mkF m 0 #[.val (.ref rb), .val (.int q1), .val (.int (1 : Int32)), .val (.long q3), .second, .val (.long q4), .second, .val (.long q5), .second] [])) t → Steps p.tables e below (s₁.setTop (entryFrame m #[(.ref rb), (.int q1), (.int (1 : Int32)), (.long q3), (.long q4), (.long q5)] 9)) t := fun t k => castTop (ef_1_1 m rb q1 q3 q4 q5) k
  have in_8_2 : 0 ≤ (q1).toInt ∧ (q1).toInt < (xs.length : Nat) := (by (try simp only [List.length_set]); have := own_hs hin (by decide) hl; omega)
  obtain ⟨T1, h1, X1, e1, W1, V1, st1⟩ := own_lastore X0 hx hZ e0 PA0 (j := q1) in_8_2 (x := q3) (hb hby d1_8) (Ls := #[.val (.ref rb), .val (.int q1), .val (.int (1 : Int32)), .val (.long q3), .second, .val (.long q4), .second, .val (.long q5), .second]) (rest := [])
  have sz1 : n0 ≤ h1.size := Nat.le_trans Z0 (Keep.of_wr W1).1
  have K1 : Keep h0 h1 [rb] := (Keep.refl h0 [rb]).wr W1 (Or.inl (by simp))
  have N1 := Fr.snoc X1 N0 PG0
  have V1_n : own_AJ Z h1 rb (xs.set (q1).toInt.toNat q3) := V1
  obtain ⟨fs, hr, hrun, hended, hW, hsame⟩ := X1.leave (v := none) (fun _ => rfl) hlk
  refine ⟨_, _, pre0 _ ?_, hrun, hended, _, _, rfl, ?_, ⟨_, rfl⟩, hW, hsame.mono (by decide) (by decide)⟩
  · show Steps p.tables e below (s₁.setTop (mkF m 0 #[.val (.ref rb), .val (.int q1), .val (.int (1 : Int32)), .val (.long q3), .second, .val (.long q4), .second, .val (.long q5), .second] [])) _
    refine XS.iloadN X0.here hx rfl (hb hby d1_0) rfl ?_
    show Steps p.tables e below (s₁.setTop (mkF m 1 #[.val (.ref rb), .val (.int q1), .val (.int (1 : Int32)), .val (.long q3), .second, .val (.long q4), .second, .val (.long q5), .second] [(.int (1 : Int32))])) _
    refine XS.iconst X0.here hx rfl (hb hby d1_1) ?_
    show Steps p.tables e below (s₁.setTop (mkF m 2 #[.val (.ref rb), .val (.int q1), .val (.int (1 : Int32)), .val (.long q3), .second, .val (.long q4), .second, .val (.long q5), .second] [(.int (1 : Int32)), (.int (1 : Int32))])) _
    refine XS.icmpNo X0.here hx rfl (hb hby d1_2) rfl (by decide) ?_
    show Steps p.tables e below (s₁.setTop (mkF m 5 #[.val (.ref rb), .val (.int q1), .val (.int (1 : Int32)), .val (.long q3), .second, .val (.long q4), .second, .val (.long q5), .second] [])) _
    refine XS.aloadN X0.here hx rfl (hb hby d1_5) rfl rfl ?_
    show Steps p.tables e below (s₁.setTop (mkF m 6 #[.val (.ref rb), .val (.int q1), .val (.int (1 : Int32)), .val (.long q3), .second, .val (.long q4), .second, .val (.long q5), .second] [(.ref rb)])) _
    refine XS.iloadN X0.here hx rfl (hb hby d1_6) rfl ?_
    show Steps p.tables e below (s₁.setTop (mkF m 7 #[.val (.ref rb), .val (.int q1), .val (.int (1 : Int32)), .val (.long q3), .second, .val (.long q4), .second, .val (.long q5), .second] [(.int q1), (.ref rb)])) _
    refine XS.lloadN X0.here hx rfl (hb hby d1_7) rfl ?_
    show Steps p.tables e below (s₁.setTop (mkF m 8 #[.val (.ref rb), .val (.int q1), .val (.int (1 : Int32)), .val (.long q3), .second, .val (.long q4), .second, .val (.long q5), .second] [(.long q3), (.int q1), (.ref rb)])) _
    refine st1 _ ?_
    show Steps p.tables e below (T1.setTop (mkF m 9 #[.val (.ref rb), .val (.int q1), .val (.int (1 : Int32)), .val (.long q3), .second, .val (.long q4), .second, .val (.long q5), .second] [])) _
    refine XS.iloadN X1.here hx rfl (hb hby d1_9) rfl ?_
    show Steps p.tables e below (T1.setTop (mkF m 10 #[.val (.ref rb), .val (.int q1), .val (.int (1 : Int32)), .val (.long q3), .second, .val (.long q4), .second, .val (.long q5), .second] [(.int (1 : Int32))])) _
    refine XS.iconst X1.here hx rfl (hb hby d1_10) ?_
    show Steps p.tables e below (T1.setTop (mkF m 11 #[.val (.ref rb), .val (.int q1), .val (.int (1 : Int32)), .val (.long q3), .second, .val (.long q4), .second, .val (.long q5), .second] [(.int (2 : Int32)), (.int (1 : Int32))])) _
    refine XS.icmpYes X1.here hx rfl (pc0 := 11) (pc' := 21) rfl (hb hby d1_11) rfl (by decide) (by decide) (by decide) ?_
    show Steps p.tables e below (T1.setTop (mkF m 21 #[.val (.ref rb), .val (.int q1), .val (.int (1 : Int32)), .val (.long q3), .second, .val (.long q4), .second, .val (.long q5), .second] [])) _
    refine XS.iloadN X1.here hx rfl (hb hby d1_21) rfl ?_
    show Steps p.tables e below (T1.setTop (mkF m 22 #[.val (.ref rb), .val (.int q1), .val (.int (1 : Int32)), .val (.long q3), .second, .val (.long q4), .second, .val (.long q5), .second] [(.int (1 : Int32))])) _
    refine XS.iconst X1.here hx rfl (hb hby d1_22) ?_
    show Steps p.tables e below (T1.setTop (mkF m 23 #[.val (.ref rb), .val (.int q1), .val (.int (1 : Int32)), .val (.long q3), .second, .val (.long q4), .second, .val (.long q5), .second] [(.int (3 : Int32)), (.int (1 : Int32))])) _
    refine XS.icmpYes X1.here hx rfl (pc0 := 23) (pc' := 33) rfl (hb hby d1_23) rfl (by decide) (by decide) (by decide) ?_
    show Steps p.tables e below (T1.setTop (mkF m 33 #[.val (.ref rb), .val (.int q1), .val (.int (1 : Int32)), .val (.long q3), .second, .val (.long q4), .second, .val (.long q5), .second] [])) _
    exact X1.returnOut hx Bd.returns (hb hby d1_33) hr
  · show Q1_1 Z rb q1 q3 q4 q5 xs h0 n0 _ T1.heap _
    rw [e1]
    exact ⟨rfl, N1, K1, V1_n⟩
theorem ef_2_1 (m : MethodId) (rb : Addr) (q1 : Int32) : entryFrame m #[(.ref rb), (.int q1), (.int (1 : Int32))] 6 = mkF m 0 #[.val (.ref rb), .val (.int q1), .val (.int (1 : Int32)), .unset, .unset, .unset] [] := by first | (simp [entryFrame, mkF, argsToLocals, Value.category, maxLocals]; done) | rfl
def own_f2_1 (q1 : Int32) (xs : List Int64) : Int32 := let v3 := (((1 : Int64) ^^^ (xs.getD (q1).toInt.toNat 0)) * (-4658895280553007687 : Int64))
  let v5 := (v3 ^^^ ((v3).toUInt64 >>> ((31 : Int32) &&& 0x3f).toInt64.toUInt64).toInt64)
  let v8 := ((v5 ^^^ ((v5).toUInt64 >>> ((29 : Int32) &&& 0x3f).toInt64.toUInt64).toInt64) * (-7723592293110705685 : Int64))
  ((v8 ^^^ ((v8).toUInt64 >>> ((32 : Int32) &&& 0x3f).toInt64.toUInt64).toInt64)).toInt32
def Q2_1 (Z : State) (rb : Addr) (q1 : Int32) (xs : List Int64) (h0 : Heap) (n0 : Nat) (v : Option Value) (h : Heap) (L : List Loc) : Prop := v = some (.int (own_f2_1 q1 xs)) ∧ Fr n0 L ∧ h = h0
set_option maxRecDepth 65536 in
set_option maxHeartbeats 40000000 in
theorem rm2_1 (l : Launch) (Z : State) (a0 : Array Value) (hw : ∀ d ∈ tables_1, d.before a0 Z = true) (ws : List Jvm.Cond) (rb : Addr) (q1 : Int32) (xs : List Int64) (h0 : Heap) (n0 : Nat) (Z0 : n0 ≤ h0.size) (PA0 : own_AJ Z h0 rb xs) (hin : 0 ≤ (q1).toInt ∧ (q1).toInt + 1 ≤ (xs.length : Nat)) (hl : xs.length ≤ 100) :
    MetFree l (⟨"com/example/cubeshare/cubeshare/model/Tuples", "hash", "([JII)I"⟩ : MethodName) (head1 (Jvm.Cond.code (⟨"com/example/cubeshare/cubeshare/model/Tuples", "hash", "([JII)I"⟩ : MethodName) prog_93_method_2_code 6 (some .int) :: ws) ({ frames := 0, cells := 0, slots := 0, locals := 0 } : Room)) (fun a U => a = #[(.ref rb), (.int q1), (.int (1 : Int32))] ∧ Z.Warmed39 U.vm ∧ U.heap = h0) (fun _ _ _ _ _ => True) (fun _ U o U' => ∃ v L, o = .returned v ∧ Q2_1 Z rb q1 xs h0 n0 v U'.heap L ∧ FrameEnd U o U' L ({ frames := 0, cells := 0, slots := 0, locals := 0 } : Room).cells ({ frames := 0, cells := 0, slots := 0, locals := 0 } : Room).slots) := by
  refine MetFree.of_bodySF (plainFor_of_name pn_3) hisR ?_
  intro p e s m args below meth c s₁ Bd hml0 hP hK
  obtain ⟨rfl, hZ, hh⟩ := hP
  have hx := Bd.exec
  have hby := Bd.bytes
  have hml : c.maxLocals = 6 := hml0
  have hown : s.vm.findClass "com/example/cubeshare/cubeshare/model/Tuples" = some m.cls := findClass_of_methodNamed Bd.named
  have hnm := (name_of_methodNamed Bd.named Bd.method).1
  have X0 : Stand p l e ({ frames := 0, cells := 0, slots := 0, locals := 0 } : Room) s m #[(.ref rb), (.int q1), (.int (1 : Int32))] below meth c s₁ [] 0 0 := Stand.of_body Bd
  have hlk : meth.locks = false := by first | exact BodyLoose.notSynchronized (by assumption) | exact Body.notSynchronized (by assumption)
  have e0 : s₁.heap = h0 := by rw [← hh, Bd.state]; rfl
  have N0 := Fr.nil n0
  have pre0 : ∀ t, Steps p.tables e below (s₁.setTop (mkF m 0 #[.val (.ref rb), .val (.int q1), .val (.int (1 : Int32)), .unset, .unset, .unset] [])) t → Steps p.tables e below (s₁.setTop (entryFrame m #[(.ref rb), (.int q1), (.int (1 : Int32))] 6)) t := fun t k => castTop (ef_2_1 m rb q1) k
  have c1 : q1 < (q1 + (1 : Int32)) := (by rw [Int32.lt_iff_toInt_lt]; have := own_hs hin (by decide) hl; omega)
  have in_18_2 : 0 ≤ (q1).toInt ∧ (q1).toInt < (xs.length : Nat) := (by (try simp only [List.length_set]); have := own_hs hin (by decide) hl; omega)
  obtain ⟨v3, hv3⟩ : ∃ z : Int64, z = (((1 : Int64) ^^^ (xs.getD (q1).toInt.toNat 0)) * (-4658895280553007687 : Int64)) := ⟨_, rfl⟩
  have pre4 : ∀ t, Steps p.tables e below (s₁.setTop (mkF m 24 #[.val (.ref rb), .val (.int q1), .val (.int (1 : Int32)), .val (.long (1 : Int64)), .second, .val (.int q1)] [(.long v3)])) t → Steps p.tables e below (s₁.setTop (entryFrame m #[(.ref rb), (.int q1), (.int (1 : Int32))] 6)) t := by
    rw [hv3]
    intro t k
    refine pre0 t ?_
    show Steps p.tables e below (s₁.setTop (mkF m 0 #[.val (.ref rb), .val (.int q1), .val (.int (1 : Int32)), .unset, .unset, .unset] [])) _
    refine XS.iloadN X0.here hx rfl (hb hby d2_0) rfl ?_
    show Steps p.tables e below (s₁.setTop (mkF m 1 #[.val (.ref rb), .val (.int q1), .val (.int (1 : Int32)), .unset, .unset, .unset] [(.int (1 : Int32))])) _
    refine XS.i2l X0.here hx rfl (hb hby d2_1) rfl ?_
    show Steps p.tables e below (s₁.setTop (mkF m 2 #[.val (.ref rb), .val (.int q1), .val (.int (1 : Int32)), .unset, .unset, .unset] [(.long (1 : Int64))])) _
    refine XS.lstoreN X0.here hx rfl (hb hby d2_2) rfl (l' := #[.val (.ref rb), .val (.int q1), .val (.int (1 : Int32)), .val (.long (1 : Int64)), .second, .unset]) rfl ?_
    show Steps p.tables e below (s₁.setTop (mkF m 3 #[.val (.ref rb), .val (.int q1), .val (.int (1 : Int32)), .val (.long (1 : Int64)), .second, .unset] [])) _
    refine XS.iloadN X0.here hx rfl (hb hby d2_3) rfl ?_
    show Steps p.tables e below (s₁.setTop (mkF m 4 #[.val (.ref rb), .val (.int q1), .val (.int (1 : Int32)), .val (.long (1 : Int64)), .second, .unset] [(.int q1)])) _
    refine XS.istore X0.here hx rfl (hb hby d2_4) rfl (l' := #[.val (.ref rb), .val (.int q1), .val (.int (1 : Int32)), .val (.long (1 : Int64)), .second, .val (.int q1)]) rfl ?_
    show Steps p.tables e below (s₁.setTop (mkF m 6 #[.val (.ref rb), .val (.int q1), .val (.int (1 : Int32)), .val (.long (1 : Int64)), .second, .val (.int q1)] [])) _
    refine XS.iload X0.here hx rfl (hb hby d2_6) rfl ?_
    show Steps p.tables e below (s₁.setTop (mkF m 8 #[.val (.ref rb), .val (.int q1), .val (.int (1 : Int32)), .val (.long (1 : Int64)), .second, .val (.int q1)] [(.int q1)])) _
    refine XS.iloadN X0.here hx rfl (hb hby d2_8) rfl ?_
    show Steps p.tables e below (s₁.setTop (mkF m 9 #[.val (.ref rb), .val (.int q1), .val (.int (1 : Int32)), .val (.long (1 : Int64)), .second, .val (.int q1)] [(.int q1), (.int q1)])) _
    refine XS.iloadN X0.here hx rfl (hb hby d2_9) rfl ?_
    show Steps p.tables e below (s₁.setTop (mkF m 10 #[.val (.ref rb), .val (.int q1), .val (.int (1 : Int32)), .val (.long (1 : Int64)), .second, .val (.int q1)] [(.int (1 : Int32)), (.int q1), (.int q1)])) _
    refine XS.iadd X0.here hx rfl (hb hby d2_10) rfl ?_
    show Steps p.tables e below (s₁.setTop (mkF m 11 #[.val (.ref rb), .val (.int q1), .val (.int (1 : Int32)), .val (.long (1 : Int64)), .second, .val (.int q1)] [(.int (q1 + (1 : Int32))), (.int q1)])) _
    refine XS.icmpNo X0.here hx rfl (hb hby d2_11) rfl ((tlt c1).2.1) ?_
    show Steps p.tables e below (s₁.setTop (mkF m 14 #[.val (.ref rb), .val (.int q1), .val (.int (1 : Int32)), .val (.long (1 : Int64)), .second, .val (.int q1)] [])) _
    refine XS.lloadN X0.here hx rfl (hb hby d2_14) rfl ?_
    show Steps p.tables e below (s₁.setTop (mkF m 15 #[.val (.ref rb), .val (.int q1), .val (.int (1 : Int32)), .val (.long (1 : Int64)), .second, .val (.int q1)] [(.long (1 : Int64))])) _
    refine XS.aloadN X0.here hx rfl (hb hby d2_15) rfl rfl ?_
    show Steps p.tables e below (s₁.setTop (mkF m 16 #[.val (.ref rb), .val (.int q1), .val (.int (1 : Int32)), .val (.long (1 : Int64)), .second, .val (.int q1)] [(.ref rb), (.long (1 : Int64))])) _
    refine XS.iload X0.here hx rfl (hb hby d2_16) rfl ?_
    show Steps p.tables e below (s₁.setTop (mkF m 18 #[.val (.ref rb), .val (.int q1), .val (.int (1 : Int32)), .val (.long (1 : Int64)), .second, .val (.int q1)] [(.int q1), (.ref rb), (.long (1 : Int64))])) _
    refine own_laload X0 hx hZ e0 PA0 in_18_2 (hb hby d2_18) _ ?_
    show Steps p.tables e below (s₁.setTop (mkF m 19 #[.val (.ref rb), .val (.int q1), .val (.int (1 : Int32)), .val (.long (1 : Int64)), .second, .val (.int q1)] [(.long (xs.getD (q1).toInt.toNat 0)), (.long (1 : Int64))])) _
    refine XS.lxor X0.here hx rfl (hb hby d2_19) rfl ?_
    show Steps p.tables e below (s₁.setTop (mkF m 20 #[.val (.ref rb), .val (.int q1), .val (.int (1 : Int32)), .val (.long (1 : Int64)), .second, .val (.int q1)] [(.long ((1 : Int64) ^^^ (xs.getD (q1).toInt.toNat 0)))])) _
    refine X0.ldc2Long hx hown (mvT hZ (hw _ (List.mem_of_getElem? (i := 10) rfl))) (g := (mkF m 20 #[.val (.ref rb), .val (.int q1), .val (.int (1 : Int32)), .val (.long (1 : Int64)), .second, .val (.int q1)] [(.long ((1 : Int64) ^^^ (xs.getD (q1).toInt.toNat 0)))])) rfl (hb hby d2_20) _ ?_
    show Steps p.tables e below (s₁.setTop (mkF m 23 #[.val (.ref rb), .val (.int q1), .val (.int (1 : Int32)), .val (.long (1 : Int64)), .second, .val (.int q1)] [(.long (-4658895280553007687 : Int64)), (.long ((1 : Int64) ^^^ (xs.getD (q1).toInt.toNat 0)))])) _
    refine XS.lmul X0.here hx rfl (hb hby d2_23) rfl ?_
    exact k
  obtain ⟨v5, hv5⟩ : ∃ z : Int64, z = (v3 ^^^ ((v3).toUInt64 >>> ((31 : Int32) &&& 0x3f).toInt64.toUInt64).toInt64) := ⟨_, rfl⟩
  have pre6 : ∀ t, Steps p.tables e below (s₁.setTop (mkF m 31 #[.val (.ref rb), .val (.int q1), .val (.int (1 : Int32)), .val (.long v3), .second, .val (.int q1)] [(.long v5)])) t → Steps p.tables e below (s₁.setTop (entryFrame m #[(.ref rb), (.int q1), (.int (1 : Int32))] 6)) t := by
    rw [hv5]
    intro t k
    refine pre4 t ?_
    show Steps p.tables e below (s₁.setTop (mkF m 24 #[.val (.ref rb), .val (.int q1), .val (.int (1 : Int32)), .val (.long (1 : Int64)), .second, .val (.int q1)] [(.long v3)])) _
    refine XS.lstoreN X0.here hx rfl (hb hby d2_24) rfl (l' := #[.val (.ref rb), .val (.int q1), .val (.int (1 : Int32)), .val (.long v3), .second, .val (.int q1)]) rfl ?_
    show Steps p.tables e below (s₁.setTop (mkF m 25 #[.val (.ref rb), .val (.int q1), .val (.int (1 : Int32)), .val (.long v3), .second, .val (.int q1)] [])) _
    refine XS.lloadN X0.here hx rfl (hb hby d2_25) rfl ?_
    show Steps p.tables e below (s₁.setTop (mkF m 26 #[.val (.ref rb), .val (.int q1), .val (.int (1 : Int32)), .val (.long v3), .second, .val (.int q1)] [(.long v3)])) _
    refine XS.lloadN X0.here hx rfl (hb hby d2_26) rfl ?_
    show Steps p.tables e below (s₁.setTop (mkF m 27 #[.val (.ref rb), .val (.int q1), .val (.int (1 : Int32)), .val (.long v3), .second, .val (.int q1)] [(.long v3), (.long v3)])) _
    refine XS.bipush X0.here hx rfl (hb hby d2_27) ?_
    show Steps p.tables e below (s₁.setTop (mkF m 29 #[.val (.ref rb), .val (.int q1), .val (.int (1 : Int32)), .val (.long v3), .second, .val (.int q1)] [(.int (31 : Int32)), (.long v3), (.long v3)])) _
    refine XS.lushr X0.here hx rfl (hb hby d2_29) rfl ?_
    show Steps p.tables e below (s₁.setTop (mkF m 30 #[.val (.ref rb), .val (.int q1), .val (.int (1 : Int32)), .val (.long v3), .second, .val (.int q1)] [(.long ((v3).toUInt64 >>> ((31 : Int32) &&& 0x3f).toInt64.toUInt64).toInt64), (.long v3)])) _
    refine XS.lxor X0.here hx rfl (hb hby d2_30) rfl ?_
    exact k
  have c7 : ¬ ((q1 + (1 : Int32)) < (q1 + (1 : Int32))) := (by rw [Int32.lt_iff_toInt_lt]; have := own_hs hin (by decide) hl; omega)
  obtain ⟨v8, hv8⟩ : ∃ z : Int64, z = ((v5 ^^^ ((v5).toUInt64 >>> ((29 : Int32) &&& 0x3f).toInt64.toUInt64).toInt64) * (-7723592293110705685 : Int64)) := ⟨_, rfl⟩
  have pre9 : ∀ t, Steps p.tables e below (s₁.setTop (mkF m 48 #[.val (.ref rb), .val (.int q1), .val (.int (1 : Int32)), .val (.long v5), .second, .val (.int (q1 + (1 : Int32)))] [(.long v8)])) t → Steps p.tables e below (s₁.setTop (entryFrame m #[(.ref rb), (.int q1), (.int (1 : Int32))] 6)) t := by
    rw [hv8]
    intro t k
    refine pre6 t ?_
    show Steps p.tables e below (s₁.setTop (mkF m 31 #[.val (.ref rb), .val (.int q1), .val (.int (1 : Int32)), .val (.long v3), .second, .val (.int q1)] [(.long v5)])) _
    refine XS.lstoreN X0.here hx rfl (hb hby d2_31) rfl (l' := #[.val (.ref rb), .val (.int q1), .val (.int (1 : Int32)), .val (.long v5), .second, .val (.int q1)]) rfl ?_
    show Steps p.tables e below (s₁.setTop (mkF m 32 #[.val (.ref rb), .val (.int q1), .val (.int (1 : Int32)), .val (.long v5), .second, .val (.int q1)] [])) _
    refine XS.iinc X0.here hx rfl (hb hby d2_32) rfl (l' := #[.val (.ref rb), .val (.int q1), .val (.int (1 : Int32)), .val (.long v5), .second, .val (.int (q1 + (1 : Int32)))]) rfl ?_
    show Steps p.tables e below (s₁.setTop (mkF m 35 #[.val (.ref rb), .val (.int q1), .val (.int (1 : Int32)), .val (.long v5), .second, .val (.int (q1 + (1 : Int32)))] [])) _
    refine XS.goto X0.here hx rfl (pc0 := 35) (pc' := 6) rfl (hb hby d2_35) (by decide) (by decide) ?_
    show Steps p.tables e below (s₁.setTop (mkF m 6 #[.val (.ref rb), .val (.int q1), .val (.int (1 : Int32)), .val (.long v5), .second, .val (.int (q1 + (1 : Int32)))] [])) _
    refine XS.iload X0.here hx rfl (hb hby d2_6) rfl ?_
    show Steps p.tables e below (s₁.setTop (mkF m 8 #[.val (.ref rb), .val (.int q1), .val (.int (1 : Int32)), .val (.long v5), .second, .val (.int (q1 + (1 : Int32)))] [(.int (q1 + (1 : Int32)))])) _
    refine XS.iloadN X0.here hx rfl (hb hby d2_8) rfl ?_
    show Steps p.tables e below (s₁.setTop (mkF m 9 #[.val (.ref rb), .val (.int q1), .val (.int (1 : Int32)), .val (.long v5), .second, .val (.int (q1 + (1 : Int32)))] [(.int q1), (.int (q1 + (1 : Int32)))])) _
    refine XS.iloadN X0.here hx rfl (hb hby d2_9) rfl ?_
    show Steps p.tables e below (s₁.setTop (mkF m 10 #[.val (.ref rb), .val (.int q1), .val (.int (1 : Int32)), .val (.long v5), .second, .val (.int (q1 + (1 : Int32)))] [(.int (1 : Int32)), (.int q1), (.int (q1 + (1 : Int32)))])) _
    refine XS.iadd X0.here hx rfl (hb hby d2_10) rfl ?_
    show Steps p.tables e below (s₁.setTop (mkF m 11 #[.val (.ref rb), .val (.int q1), .val (.int (1 : Int32)), .val (.long v5), .second, .val (.int (q1 + (1 : Int32)))] [(.int (q1 + (1 : Int32))), (.int (q1 + (1 : Int32)))])) _
    refine XS.icmpYes X0.here hx rfl (pc0 := 11) (pc' := 38) rfl (hb hby d2_11) rfl ((flt c7).2.1) (by decide) (by decide) ?_
    show Steps p.tables e below (s₁.setTop (mkF m 38 #[.val (.ref rb), .val (.int q1), .val (.int (1 : Int32)), .val (.long v5), .second, .val (.int (q1 + (1 : Int32)))] [])) _
    refine XS.lloadN X0.here hx rfl (hb hby d2_38) rfl ?_
    show Steps p.tables e below (s₁.setTop (mkF m 39 #[.val (.ref rb), .val (.int q1), .val (.int (1 : Int32)), .val (.long v5), .second, .val (.int (q1 + (1 : Int32)))] [(.long v5)])) _
    refine XS.lloadN X0.here hx rfl (hb hby d2_39) rfl ?_
    show Steps p.tables e below (s₁.setTop (mkF m 40 #[.val (.ref rb), .val (.int q1), .val (.int (1 : Int32)), .val (.long v5), .second, .val (.int (q1 + (1 : Int32)))] [(.long v5), (.long v5)])) _
    refine XS.bipush X0.here hx rfl (hb hby d2_40) ?_
    show Steps p.tables e below (s₁.setTop (mkF m 42 #[.val (.ref rb), .val (.int q1), .val (.int (1 : Int32)), .val (.long v5), .second, .val (.int (q1 + (1 : Int32)))] [(.int (29 : Int32)), (.long v5), (.long v5)])) _
    refine XS.lushr X0.here hx rfl (hb hby d2_42) rfl ?_
    show Steps p.tables e below (s₁.setTop (mkF m 43 #[.val (.ref rb), .val (.int q1), .val (.int (1 : Int32)), .val (.long v5), .second, .val (.int (q1 + (1 : Int32)))] [(.long ((v5).toUInt64 >>> ((29 : Int32) &&& 0x3f).toInt64.toUInt64).toInt64), (.long v5)])) _
    refine XS.lxor X0.here hx rfl (hb hby d2_43) rfl ?_
    show Steps p.tables e below (s₁.setTop (mkF m 44 #[.val (.ref rb), .val (.int q1), .val (.int (1 : Int32)), .val (.long v5), .second, .val (.int (q1 + (1 : Int32)))] [(.long (v5 ^^^ ((v5).toUInt64 >>> ((29 : Int32) &&& 0x3f).toInt64.toUInt64).toInt64))])) _
    refine X0.ldc2Long hx hown (mvT hZ (hw _ (List.mem_of_getElem? (i := 11) rfl))) (g := (mkF m 44 #[.val (.ref rb), .val (.int q1), .val (.int (1 : Int32)), .val (.long v5), .second, .val (.int (q1 + (1 : Int32)))] [(.long (v5 ^^^ ((v5).toUInt64 >>> ((29 : Int32) &&& 0x3f).toInt64.toUInt64).toInt64))])) rfl (hb hby d2_44) _ ?_
    show Steps p.tables e below (s₁.setTop (mkF m 47 #[.val (.ref rb), .val (.int q1), .val (.int (1 : Int32)), .val (.long v5), .second, .val (.int (q1 + (1 : Int32)))] [(.long (-7723592293110705685 : Int64)), (.long (v5 ^^^ ((v5).toUInt64 >>> ((29 : Int32) &&& 0x3f).toInt64.toUInt64).toInt64))])) _
    refine XS.lmul X0.here hx rfl (hb hby d2_47) rfl ?_
    exact k
  obtain ⟨fs, hr, hrun, hended, hW, hsame⟩ := X0.leave (v := some (.int ((v8 ^^^ ((v8).toUInt64 >>> ((32 : Int32) &&& 0x3f).toInt64.toUInt64).toInt64)).toInt32)) (fun h => by rw [Bd.returns] at h; cases h) hlk
  refine ⟨_, _, pre9 _ ?_, hrun, hended, _, _, rfl, ?_, ⟨_, rfl⟩, hW, hsame.mono (by decide) (by decide)⟩
  · show Steps p.tables e below (s₁.setTop (mkF m 48 #[.val (.ref rb), .val (.int q1), .val (.int (1 : Int32)), .val (.long v5), .second, .val (.int (q1 + (1 : Int32)))] [(.long v8)])) _
    refine XS.lstoreN X0.here hx rfl (hb hby d2_48) rfl (l' := #[.val (.ref rb), .val (.int q1), .val (.int (1 : Int32)), .val (.long v8), .second, .val (.int (q1 + (1 : Int32)))]) rfl ?_
    show Steps p.tables e below (s₁.setTop (mkF m 49 #[.val (.ref rb), .val (.int q1), .val (.int (1 : Int32)), .val (.long v8), .second, .val (.int (q1 + (1 : Int32)))] [])) _
    refine XS.lloadN X0.here hx rfl (hb hby d2_49) rfl ?_
    show Steps p.tables e below (s₁.setTop (mkF m 50 #[.val (.ref rb), .val (.int q1), .val (.int (1 : Int32)), .val (.long v8), .second, .val (.int (q1 + (1 : Int32)))] [(.long v8)])) _
    refine XS.lloadN X0.here hx rfl (hb hby d2_50) rfl ?_
    show Steps p.tables e below (s₁.setTop (mkF m 51 #[.val (.ref rb), .val (.int q1), .val (.int (1 : Int32)), .val (.long v8), .second, .val (.int (q1 + (1 : Int32)))] [(.long v8), (.long v8)])) _
    refine XS.bipush X0.here hx rfl (hb hby d2_51) ?_
    show Steps p.tables e below (s₁.setTop (mkF m 53 #[.val (.ref rb), .val (.int q1), .val (.int (1 : Int32)), .val (.long v8), .second, .val (.int (q1 + (1 : Int32)))] [(.int (32 : Int32)), (.long v8), (.long v8)])) _
    refine XS.lushr X0.here hx rfl (hb hby d2_53) rfl ?_
    show Steps p.tables e below (s₁.setTop (mkF m 54 #[.val (.ref rb), .val (.int q1), .val (.int (1 : Int32)), .val (.long v8), .second, .val (.int (q1 + (1 : Int32)))] [(.long ((v8).toUInt64 >>> ((32 : Int32) &&& 0x3f).toInt64.toUInt64).toInt64), (.long v8)])) _
    refine XS.lxor X0.here hx rfl (hb hby d2_54) rfl ?_
    show Steps p.tables e below (s₁.setTop (mkF m 55 #[.val (.ref rb), .val (.int q1), .val (.int (1 : Int32)), .val (.long v8), .second, .val (.int (q1 + (1 : Int32)))] [(.long (v8 ^^^ ((v8).toUInt64 >>> ((32 : Int32) &&& 0x3f).toInt64.toUInt64).toInt64))])) _
    refine XS.l2i X0.here hx rfl (hb hby d2_55) rfl ?_
    show Steps p.tables e below (s₁.setTop (mkF m 56 #[.val (.ref rb), .val (.int q1), .val (.int (1 : Int32)), .val (.long v8), .second, .val (.int (q1 + (1 : Int32)))] [(.int ((v8 ^^^ ((v8).toUInt64 >>> ((32 : Int32) &&& 0x3f).toInt64.toUInt64).toInt64)).toInt32)])) _
    exact retI X0 hx Bd.returns (hb hby d2_56) hr
  · show Q2_1 Z rb q1 xs h0 n0 _ s₁.heap _
    rw [e0]
    exact ⟨by have w_hv8 := hv8.symm; subst w_hv8; have w_hv5 := hv5.symm; subst w_hv5; have w_hv3 := hv3.symm; subst w_hv3; rfl, N0, rfl⟩
theorem ef_1_2 (m : MethodId) (rb : Addr) (q1 : Int32) (q3 : Int64) (q4 : Int64) (q5 : Int64) : entryFrame m #[(.ref rb), (.int q1), (.int (2 : Int32)), (.long q3), (.long q4), (.long q5)] 9 = mkF m 0 #[.val (.ref rb), .val (.int q1), .val (.int (2 : Int32)), .val (.long q3), .second, .val (.long q4), .second, .val (.long q5), .second] [] := by first | (simp [entryFrame, mkF, argsToLocals, Value.category, maxLocals]; done) | rfl
def Q1_2 (Z : State) (rb : Addr) (q1 : Int32) (q3 : Int64) (q4 : Int64) (q5 : Int64) (xs : List Int64) (h0 : Heap) (n0 : Nat) (v : Option Value) (h : Heap) (L : List Loc) : Prop := v = none ∧ Fr n0 L ∧ Keep h0 h [rb] ∧ own_AJ Z h rb ((xs.set (q1).toInt.toNat q3).set ((q1 + (1 : Int32))).toInt.toNat q4)
set_option maxRecDepth 65536 in
set_option maxHeartbeats 40000000 in
theorem rm1_2 (l : Launch) (Z : State) (a0 : Array Value) (hw : ∀ d ∈ tables_1, d.before a0 Z = true) (ws : List Jvm.Cond) (rb : Addr) (q1 : Int32) (q3 : Int64) (q4 : Int64) (q5 : Int64) (xs : List Int64) (h0 : Heap) (n0 : Nat) (Z0 : n0 ≤ h0.size) (PA0 : own_AJ Z h0 rb xs) (PG0 : n0 ≤ rb) (hin : 0 ≤ (q1).toInt ∧ (q1).toInt + 2 ≤ (xs.length : Nat)) (hl : xs.length ≤ 100) :
    MetFree l (⟨"com/example/cubeshare/cubeshare/model/TuplesHashPinLaw", "put", "([JIIJJJ)V"⟩ : MethodName) (head1 (Jvm.Cond.code (⟨"com/example/cubeshare/cubeshare/model/TuplesHashPinLaw", "put", "([JIIJJJ)V"⟩ : MethodName) method_3_code 9 none :: ws) ({ frames := 0, cells := 0, slots := 0, locals := 0 } : Room)) (fun a U => a = #[(.ref rb), (.int q1), (.int (2 : Int32)), (.long q3), (.long q4), (.long q5)] ∧ Z.Warmed39 U.vm ∧ U.heap = h0) (fun _ _ _ _ _ => True) (fun _ U o U' => ∃ v L, o = .returned v ∧ Q1_2 Z rb q1 q3 q4 q5 xs h0 n0 v U'.heap L ∧ FrameEnd U o U' L ({ frames := 0, cells := 0, slots := 0, locals := 0 } : Room).cells ({ frames := 0, cells := 0, slots := 0, locals := 0 } : Room).slots) := by
  refine MetFree.of_bodySF (plainFor_of_name pn_1) hisR ?_
  intro p e s m args below meth c s₁ Bd hml0 hP hK
  obtain ⟨rfl, hZ, hh⟩ := hP
  have hx := Bd.exec
  have hby := Bd.bytes
  have hml : c.maxLocals = 9 := hml0
  have hown : s.vm.findClass "com/example/cubeshare/cubeshare/model/TuplesHashPinLaw" = some m.cls := findClass_of_methodNamed Bd.named
  have hnm := (name_of_methodNamed Bd.named Bd.method).1
  have X0 : Stand p l e ({ frames := 0, cells := 0, slots := 0, locals := 0 } : Room) s m #[(.ref rb), (.int q1), (.int (2 : Int32)), (.long q3), (.long q4), (.long q5)] below meth c s₁ [] 0 0 := Stand.of_body Bd
  have hlk : meth.locks = false := by first | exact BodyLoose.notSynchronized (by assumption) | exact Body.notSynchronized (by assumption)
  have e0 : s₁.heap = h0 := by rw [← hh, Bd.state]; rfl
  have N0 := Fr.nil n0
  have pre0 : ∀ t, Steps p.tables e below (s₁.setTop (mkF m 0 #[.val (.ref rb), .val (.int q1), .val (.int (2 : Int32)), .val (.long q3), .second, .val (.long q4), .second, .val (.long q5), .second] [])) t → Steps p.tables e below (s₁.setTop (entryFrame m #[(.ref rb), (.int q1), (.int (2 : Int32)), (.long q3), (.long q4), (.long q5)] 9)) t := fun t k => castTop (ef_1_2 m rb q1 q3 q4 q5) k
  have in_8_2 : 0 ≤ (q1).toInt ∧ (q1).toInt < (xs.length : Nat) := (by (try simp only [List.length_set]); have := own_hs hin (by decide) hl; omega)
  obtain ⟨T1, h1, X1, e1, W1, V1, st1⟩ := own_lastore X0 hx hZ e0 PA0 (j := q1) in_8_2 (x := q3) (hb hby d1_8) (Ls := #[.val (.ref rb), .val (.int q1), .val (.int (2 : Int32)), .val (.long q3), .second, .val (.long q4), .second, .val (.long q5), .second]) (rest := [])
  have sz1 : n0 ≤ h1.size := Nat.le_trans Z0 (Keep.of_wr W1).1
  have K1 : Keep h0 h1 [rb] := (Keep.refl h0 [rb]).wr W1 (Or.inl (by simp))
  have N1 := Fr.snoc X1 N0 PG0
  have V1_n : own_AJ Z h1 rb (xs.set (q1).toInt.toNat q3) := V1
  have in_20_4 : 0 ≤ ((q1 + (1 : Int32))).toInt ∧ ((q1 + (1 : Int32))).toInt < ((xs.set (q1).toInt.toNat q3).length : Nat) := (by (try simp only [List.length_set]); have := own_hs hin (by decide) hl; omega)
  obtain ⟨T3, h3, X3, e3, W3, V3, st3⟩ := own_lastore X1 hx hZ e1 V1_n (j := (q1 + (1 : Int32))) in_20_4 (x := q4) (hb hby d1_20) (Ls := #[.val (.ref rb), .val (.int q1), .val (.int (2 : Int32)), .val (.long q3), .second, .val (.long q4), .second, .val (.long q5), .second]) (rest := [])
  have sz3 : n0 ≤ h3.size := Nat.le_trans sz1 (Keep.of_wr W3).1
  have K3 : Keep h0 h3 [rb] := K1.wr W3 (Or.inl (by simp))
  have N3 := Fr.snoc X3 N1 PG0
  have V3_n : own_AJ Z h3 rb ((xs.set (q1).toInt.toNat q3).set ((q1 + (1 : Int32))).toInt.toNat q4) := V3
  obtain ⟨fs, hr, hrun, hended, hW, hsame⟩ := X3.leave (v := none) (fun _ => rfl) hlk
  refine ⟨_, _, pre0 _ ?_, hrun, hended, _, _, rfl, ?_, ⟨_, rfl⟩, hW, hsame.mono (by decide) (by decide)⟩
  · show Steps p.tables e below (s₁.setTop (mkF m 0 #[.val (.ref rb), .val (.int q1), .val (.int (2 : Int32)), .val (.long q3), .second, .val (.long q4), .second, .val (.long q5), .second] [])) _
    refine XS.iloadN X0.here hx rfl (hb hby d1_0) rfl ?_
    show Steps p.tables e below (s₁.setTop (mkF m 1 #[.val (.ref rb), .val (.int q1), .val (.int (2 : Int32)), .val (.long q3), .second, .val (.long q4), .second, .val (.long q5), .second] [(.int (2 : Int32))])) _
    refine XS.iconst X0.here hx rfl (hb hby d1_1) ?_
    show Steps p.tables e below (s₁.setTop (mkF m 2 #[.val (.ref rb), .val (.int q1), .val (.int (2 : Int32)), .val (.long q3), .second, .val (.long q4), .second, .val (.long q5), .second] [(.int (1 : Int32)), (.int (2 : Int32))])) _
    refine XS.icmpNo X0.here hx rfl (hb hby d1_2) rfl (by decide) ?_
    show Steps p.tables e below (s₁.setTop (mkF m 5 #[.val (.ref rb), .val (.int q1), .val (.int (2 : Int32)), .val (.long q3), .second, .val (.long q4), .second, .val (.long q5), .second] [])) _
    refine XS.aloadN X0.here hx rfl (hb hby d1_5) rfl rfl ?_
    show Steps p.tables e below (s₁.setTop (mkF m 6 #[.val (.ref rb), .val (.int q1), .val (.int (2 : Int32)), .val (.long q3), .second, .val (.long q4), .second, .val (.long q5), .second] [(.ref rb)])) _
    refine XS.iloadN X0.here hx rfl (hb hby d1_6) rfl ?_
    show Steps p.tables e below (s₁.setTop (mkF m 7 #[.val (.ref rb), .val (.int q1), .val (.int (2 : Int32)), .val (.long q3), .second, .val (.long q4), .second, .val (.long q5), .second] [(.int q1), (.ref rb)])) _
    refine XS.lloadN X0.here hx rfl (hb hby d1_7) rfl ?_
    show Steps p.tables e below (s₁.setTop (mkF m 8 #[.val (.ref rb), .val (.int q1), .val (.int (2 : Int32)), .val (.long q3), .second, .val (.long q4), .second, .val (.long q5), .second] [(.long q3), (.int q1), (.ref rb)])) _
    refine st1 _ ?_
    show Steps p.tables e below (T1.setTop (mkF m 9 #[.val (.ref rb), .val (.int q1), .val (.int (2 : Int32)), .val (.long q3), .second, .val (.long q4), .second, .val (.long q5), .second] [])) _
    refine XS.iloadN X1.here hx rfl (hb hby d1_9) rfl ?_
    show Steps p.tables e below (T1.setTop (mkF m 10 #[.val (.ref rb), .val (.int q1), .val (.int (2 : Int32)), .val (.long q3), .second, .val (.long q4), .second, .val (.long q5), .second] [(.int (2 : Int32))])) _
    refine XS.iconst X1.here hx rfl (hb hby d1_10) ?_
    show Steps p.tables e below (T1.setTop (mkF m 11 #[.val (.ref rb), .val (.int q1), .val (.int (2 : Int32)), .val (.long q3), .second, .val (.long q4), .second, .val (.long q5), .second] [(.int (2 : Int32)), (.int (2 : Int32))])) _
    refine XS.icmpNo X1.here hx rfl (hb hby d1_11) rfl (by decide) ?_
    show Steps p.tables e below (T1.setTop (mkF m 14 #[.val (.ref rb), .val (.int q1), .val (.int (2 : Int32)), .val (.long q3), .second, .val (.long q4), .second, .val (.long q5), .second] [])) _
    refine XS.aloadN X1.here hx rfl (hb hby d1_14) rfl rfl ?_
    show Steps p.tables e below (T1.setTop (mkF m 15 #[.val (.ref rb), .val (.int q1), .val (.int (2 : Int32)), .val (.long q3), .second, .val (.long q4), .second, .val (.long q5), .second] [(.ref rb)])) _
    refine XS.iloadN X1.here hx rfl (hb hby d1_15) rfl ?_
    show Steps p.tables e below (T1.setTop (mkF m 16 #[.val (.ref rb), .val (.int q1), .val (.int (2 : Int32)), .val (.long q3), .second, .val (.long q4), .second, .val (.long q5), .second] [(.int q1), (.ref rb)])) _
    refine XS.iconst X1.here hx rfl (hb hby d1_16) ?_
    show Steps p.tables e below (T1.setTop (mkF m 17 #[.val (.ref rb), .val (.int q1), .val (.int (2 : Int32)), .val (.long q3), .second, .val (.long q4), .second, .val (.long q5), .second] [(.int (1 : Int32)), (.int q1), (.ref rb)])) _
    refine XS.iadd X1.here hx rfl (hb hby d1_17) rfl ?_
    show Steps p.tables e below (T1.setTop (mkF m 18 #[.val (.ref rb), .val (.int q1), .val (.int (2 : Int32)), .val (.long q3), .second, .val (.long q4), .second, .val (.long q5), .second] [(.int (q1 + (1 : Int32))), (.ref rb)])) _
    refine XS.lload X1.here hx rfl (hb hby d1_18) rfl ?_
    show Steps p.tables e below (T1.setTop (mkF m 20 #[.val (.ref rb), .val (.int q1), .val (.int (2 : Int32)), .val (.long q3), .second, .val (.long q4), .second, .val (.long q5), .second] [(.long q4), (.int (q1 + (1 : Int32))), (.ref rb)])) _
    refine st3 _ ?_
    show Steps p.tables e below (T3.setTop (mkF m 21 #[.val (.ref rb), .val (.int q1), .val (.int (2 : Int32)), .val (.long q3), .second, .val (.long q4), .second, .val (.long q5), .second] [])) _
    refine XS.iloadN X3.here hx rfl (hb hby d1_21) rfl ?_
    show Steps p.tables e below (T3.setTop (mkF m 22 #[.val (.ref rb), .val (.int q1), .val (.int (2 : Int32)), .val (.long q3), .second, .val (.long q4), .second, .val (.long q5), .second] [(.int (2 : Int32))])) _
    refine XS.iconst X3.here hx rfl (hb hby d1_22) ?_
    show Steps p.tables e below (T3.setTop (mkF m 23 #[.val (.ref rb), .val (.int q1), .val (.int (2 : Int32)), .val (.long q3), .second, .val (.long q4), .second, .val (.long q5), .second] [(.int (3 : Int32)), (.int (2 : Int32))])) _
    refine XS.icmpYes X3.here hx rfl (pc0 := 23) (pc' := 33) rfl (hb hby d1_23) rfl (by decide) (by decide) (by decide) ?_
    show Steps p.tables e below (T3.setTop (mkF m 33 #[.val (.ref rb), .val (.int q1), .val (.int (2 : Int32)), .val (.long q3), .second, .val (.long q4), .second, .val (.long q5), .second] [])) _
    exact X3.returnOut hx Bd.returns (hb hby d1_33) hr
  · show Q1_2 Z rb q1 q3 q4 q5 xs h0 n0 _ T3.heap _
    rw [e3]
    exact ⟨rfl, N3, K3, V3_n⟩
theorem ef_2_2 (m : MethodId) (rb : Addr) (q1 : Int32) : entryFrame m #[(.ref rb), (.int q1), (.int (2 : Int32))] 6 = mkF m 0 #[.val (.ref rb), .val (.int q1), .val (.int (2 : Int32)), .unset, .unset, .unset] [] := by first | (simp [entryFrame, mkF, argsToLocals, Value.category, maxLocals]; done) | rfl
def own_f2_2 (q1 : Int32) (xs : List Int64) : Int32 := let v3 := (((2 : Int64) ^^^ (xs.getD (q1).toInt.toNat 0)) * (-4658895280553007687 : Int64))
  let v5 := (v3 ^^^ ((v3).toUInt64 >>> ((31 : Int32) &&& 0x3f).toInt64.toUInt64).toInt64)
  let v9 := ((v5 ^^^ (xs.getD ((q1 + (1 : Int32))).toInt.toNat 0)) * (-4658895280553007687 : Int64))
  let v11 := (v9 ^^^ ((v9).toUInt64 >>> ((31 : Int32) &&& 0x3f).toInt64.toUInt64).toInt64)
  let v14 := ((v11 ^^^ ((v11).toUInt64 >>> ((29 : Int32) &&& 0x3f).toInt64.toUInt64).toInt64) * (-7723592293110705685 : Int64))
  ((v14 ^^^ ((v14).toUInt64 >>> ((32 : Int32) &&& 0x3f).toInt64.toUInt64).toInt64)).toInt32
def Q2_2 (Z : State) (rb : Addr) (q1 : Int32) (xs : List Int64) (h0 : Heap) (n0 : Nat) (v : Option Value) (h : Heap) (L : List Loc) : Prop := v = some (.int (own_f2_2 q1 xs)) ∧ Fr n0 L ∧ h = h0
set_option maxRecDepth 65536 in
set_option maxHeartbeats 40000000 in
theorem rm2_2 (l : Launch) (Z : State) (a0 : Array Value) (hw : ∀ d ∈ tables_1, d.before a0 Z = true) (ws : List Jvm.Cond) (rb : Addr) (q1 : Int32) (xs : List Int64) (h0 : Heap) (n0 : Nat) (Z0 : n0 ≤ h0.size) (PA0 : own_AJ Z h0 rb xs) (hin : 0 ≤ (q1).toInt ∧ (q1).toInt + 2 ≤ (xs.length : Nat)) (hl : xs.length ≤ 100) :
    MetFree l (⟨"com/example/cubeshare/cubeshare/model/Tuples", "hash", "([JII)I"⟩ : MethodName) (head1 (Jvm.Cond.code (⟨"com/example/cubeshare/cubeshare/model/Tuples", "hash", "([JII)I"⟩ : MethodName) prog_93_method_2_code 6 (some .int) :: ws) ({ frames := 0, cells := 0, slots := 0, locals := 0 } : Room)) (fun a U => a = #[(.ref rb), (.int q1), (.int (2 : Int32))] ∧ Z.Warmed39 U.vm ∧ U.heap = h0) (fun _ _ _ _ _ => True) (fun _ U o U' => ∃ v L, o = .returned v ∧ Q2_2 Z rb q1 xs h0 n0 v U'.heap L ∧ FrameEnd U o U' L ({ frames := 0, cells := 0, slots := 0, locals := 0 } : Room).cells ({ frames := 0, cells := 0, slots := 0, locals := 0 } : Room).slots) := by
  refine MetFree.of_bodySF (plainFor_of_name pn_3) hisR ?_
  intro p e s m args below meth c s₁ Bd hml0 hP hK
  obtain ⟨rfl, hZ, hh⟩ := hP
  have hx := Bd.exec
  have hby := Bd.bytes
  have hml : c.maxLocals = 6 := hml0
  have hown : s.vm.findClass "com/example/cubeshare/cubeshare/model/Tuples" = some m.cls := findClass_of_methodNamed Bd.named
  have hnm := (name_of_methodNamed Bd.named Bd.method).1
  have X0 : Stand p l e ({ frames := 0, cells := 0, slots := 0, locals := 0 } : Room) s m #[(.ref rb), (.int q1), (.int (2 : Int32))] below meth c s₁ [] 0 0 := Stand.of_body Bd
  have hlk : meth.locks = false := by first | exact BodyLoose.notSynchronized (by assumption) | exact Body.notSynchronized (by assumption)
  have e0 : s₁.heap = h0 := by rw [← hh, Bd.state]; rfl
  have N0 := Fr.nil n0
  have pre0 : ∀ t, Steps p.tables e below (s₁.setTop (mkF m 0 #[.val (.ref rb), .val (.int q1), .val (.int (2 : Int32)), .unset, .unset, .unset] [])) t → Steps p.tables e below (s₁.setTop (entryFrame m #[(.ref rb), (.int q1), (.int (2 : Int32))] 6)) t := fun t k => castTop (ef_2_2 m rb q1) k
  have c1 : q1 < (q1 + (2 : Int32)) := (by rw [Int32.lt_iff_toInt_lt]; have := own_hs hin (by decide) hl; omega)
  have in_18_2 : 0 ≤ (q1).toInt ∧ (q1).toInt < (xs.length : Nat) := (by (try simp only [List.length_set]); have := own_hs hin (by decide) hl; omega)
  obtain ⟨v3, hv3⟩ : ∃ z : Int64, z = (((2 : Int64) ^^^ (xs.getD (q1).toInt.toNat 0)) * (-4658895280553007687 : Int64)) := ⟨_, rfl⟩
  have pre4 : ∀ t, Steps p.tables e below (s₁.setTop (mkF m 24 #[.val (.ref rb), .val (.int q1), .val (.int (2 : Int32)), .val (.long (2 : Int64)), .second, .val (.int q1)] [(.long v3)])) t → Steps p.tables e below (s₁.setTop (entryFrame m #[(.ref rb), (.int q1), (.int (2 : Int32))] 6)) t := by
    rw [hv3]
    intro t k
    refine pre0 t ?_
    show Steps p.tables e below (s₁.setTop (mkF m 0 #[.val (.ref rb), .val (.int q1), .val (.int (2 : Int32)), .unset, .unset, .unset] [])) _
    refine XS.iloadN X0.here hx rfl (hb hby d2_0) rfl ?_
    show Steps p.tables e below (s₁.setTop (mkF m 1 #[.val (.ref rb), .val (.int q1), .val (.int (2 : Int32)), .unset, .unset, .unset] [(.int (2 : Int32))])) _
    refine XS.i2l X0.here hx rfl (hb hby d2_1) rfl ?_
    show Steps p.tables e below (s₁.setTop (mkF m 2 #[.val (.ref rb), .val (.int q1), .val (.int (2 : Int32)), .unset, .unset, .unset] [(.long (2 : Int64))])) _
    refine XS.lstoreN X0.here hx rfl (hb hby d2_2) rfl (l' := #[.val (.ref rb), .val (.int q1), .val (.int (2 : Int32)), .val (.long (2 : Int64)), .second, .unset]) rfl ?_
    show Steps p.tables e below (s₁.setTop (mkF m 3 #[.val (.ref rb), .val (.int q1), .val (.int (2 : Int32)), .val (.long (2 : Int64)), .second, .unset] [])) _
    refine XS.iloadN X0.here hx rfl (hb hby d2_3) rfl ?_
    show Steps p.tables e below (s₁.setTop (mkF m 4 #[.val (.ref rb), .val (.int q1), .val (.int (2 : Int32)), .val (.long (2 : Int64)), .second, .unset] [(.int q1)])) _
    refine XS.istore X0.here hx rfl (hb hby d2_4) rfl (l' := #[.val (.ref rb), .val (.int q1), .val (.int (2 : Int32)), .val (.long (2 : Int64)), .second, .val (.int q1)]) rfl ?_
    show Steps p.tables e below (s₁.setTop (mkF m 6 #[.val (.ref rb), .val (.int q1), .val (.int (2 : Int32)), .val (.long (2 : Int64)), .second, .val (.int q1)] [])) _
    refine XS.iload X0.here hx rfl (hb hby d2_6) rfl ?_
    show Steps p.tables e below (s₁.setTop (mkF m 8 #[.val (.ref rb), .val (.int q1), .val (.int (2 : Int32)), .val (.long (2 : Int64)), .second, .val (.int q1)] [(.int q1)])) _
    refine XS.iloadN X0.here hx rfl (hb hby d2_8) rfl ?_
    show Steps p.tables e below (s₁.setTop (mkF m 9 #[.val (.ref rb), .val (.int q1), .val (.int (2 : Int32)), .val (.long (2 : Int64)), .second, .val (.int q1)] [(.int q1), (.int q1)])) _
    refine XS.iloadN X0.here hx rfl (hb hby d2_9) rfl ?_
    show Steps p.tables e below (s₁.setTop (mkF m 10 #[.val (.ref rb), .val (.int q1), .val (.int (2 : Int32)), .val (.long (2 : Int64)), .second, .val (.int q1)] [(.int (2 : Int32)), (.int q1), (.int q1)])) _
    refine XS.iadd X0.here hx rfl (hb hby d2_10) rfl ?_
    show Steps p.tables e below (s₁.setTop (mkF m 11 #[.val (.ref rb), .val (.int q1), .val (.int (2 : Int32)), .val (.long (2 : Int64)), .second, .val (.int q1)] [(.int (q1 + (2 : Int32))), (.int q1)])) _
    refine XS.icmpNo X0.here hx rfl (hb hby d2_11) rfl ((tlt c1).2.1) ?_
    show Steps p.tables e below (s₁.setTop (mkF m 14 #[.val (.ref rb), .val (.int q1), .val (.int (2 : Int32)), .val (.long (2 : Int64)), .second, .val (.int q1)] [])) _
    refine XS.lloadN X0.here hx rfl (hb hby d2_14) rfl ?_
    show Steps p.tables e below (s₁.setTop (mkF m 15 #[.val (.ref rb), .val (.int q1), .val (.int (2 : Int32)), .val (.long (2 : Int64)), .second, .val (.int q1)] [(.long (2 : Int64))])) _
    refine XS.aloadN X0.here hx rfl (hb hby d2_15) rfl rfl ?_
    show Steps p.tables e below (s₁.setTop (mkF m 16 #[.val (.ref rb), .val (.int q1), .val (.int (2 : Int32)), .val (.long (2 : Int64)), .second, .val (.int q1)] [(.ref rb), (.long (2 : Int64))])) _
    refine XS.iload X0.here hx rfl (hb hby d2_16) rfl ?_
    show Steps p.tables e below (s₁.setTop (mkF m 18 #[.val (.ref rb), .val (.int q1), .val (.int (2 : Int32)), .val (.long (2 : Int64)), .second, .val (.int q1)] [(.int q1), (.ref rb), (.long (2 : Int64))])) _
    refine own_laload X0 hx hZ e0 PA0 in_18_2 (hb hby d2_18) _ ?_
    show Steps p.tables e below (s₁.setTop (mkF m 19 #[.val (.ref rb), .val (.int q1), .val (.int (2 : Int32)), .val (.long (2 : Int64)), .second, .val (.int q1)] [(.long (xs.getD (q1).toInt.toNat 0)), (.long (2 : Int64))])) _
    refine XS.lxor X0.here hx rfl (hb hby d2_19) rfl ?_
    show Steps p.tables e below (s₁.setTop (mkF m 20 #[.val (.ref rb), .val (.int q1), .val (.int (2 : Int32)), .val (.long (2 : Int64)), .second, .val (.int q1)] [(.long ((2 : Int64) ^^^ (xs.getD (q1).toInt.toNat 0)))])) _
    refine X0.ldc2Long hx hown (mvT hZ (hw _ (List.mem_of_getElem? (i := 10) rfl))) (g := (mkF m 20 #[.val (.ref rb), .val (.int q1), .val (.int (2 : Int32)), .val (.long (2 : Int64)), .second, .val (.int q1)] [(.long ((2 : Int64) ^^^ (xs.getD (q1).toInt.toNat 0)))])) rfl (hb hby d2_20) _ ?_
    show Steps p.tables e below (s₁.setTop (mkF m 23 #[.val (.ref rb), .val (.int q1), .val (.int (2 : Int32)), .val (.long (2 : Int64)), .second, .val (.int q1)] [(.long (-4658895280553007687 : Int64)), (.long ((2 : Int64) ^^^ (xs.getD (q1).toInt.toNat 0)))])) _
    refine XS.lmul X0.here hx rfl (hb hby d2_23) rfl ?_
    exact k
  obtain ⟨v5, hv5⟩ : ∃ z : Int64, z = (v3 ^^^ ((v3).toUInt64 >>> ((31 : Int32) &&& 0x3f).toInt64.toUInt64).toInt64) := ⟨_, rfl⟩
  have pre6 : ∀ t, Steps p.tables e below (s₁.setTop (mkF m 31 #[.val (.ref rb), .val (.int q1), .val (.int (2 : Int32)), .val (.long v3), .second, .val (.int q1)] [(.long v5)])) t → Steps p.tables e below (s₁.setTop (entryFrame m #[(.ref rb), (.int q1), (.int (2 : Int32))] 6)) t := by
    rw [hv5]
    intro t k
    refine pre4 t ?_
    show Steps p.tables e below (s₁.setTop (mkF m 24 #[.val (.ref rb), .val (.int q1), .val (.int (2 : Int32)), .val (.long (2 : Int64)), .second, .val (.int q1)] [(.long v3)])) _
    refine XS.lstoreN X0.here hx rfl (hb hby d2_24) rfl (l' := #[.val (.ref rb), .val (.int q1), .val (.int (2 : Int32)), .val (.long v3), .second, .val (.int q1)]) rfl ?_
    show Steps p.tables e below (s₁.setTop (mkF m 25 #[.val (.ref rb), .val (.int q1), .val (.int (2 : Int32)), .val (.long v3), .second, .val (.int q1)] [])) _
    refine XS.lloadN X0.here hx rfl (hb hby d2_25) rfl ?_
    show Steps p.tables e below (s₁.setTop (mkF m 26 #[.val (.ref rb), .val (.int q1), .val (.int (2 : Int32)), .val (.long v3), .second, .val (.int q1)] [(.long v3)])) _
    refine XS.lloadN X0.here hx rfl (hb hby d2_26) rfl ?_
    show Steps p.tables e below (s₁.setTop (mkF m 27 #[.val (.ref rb), .val (.int q1), .val (.int (2 : Int32)), .val (.long v3), .second, .val (.int q1)] [(.long v3), (.long v3)])) _
    refine XS.bipush X0.here hx rfl (hb hby d2_27) ?_
    show Steps p.tables e below (s₁.setTop (mkF m 29 #[.val (.ref rb), .val (.int q1), .val (.int (2 : Int32)), .val (.long v3), .second, .val (.int q1)] [(.int (31 : Int32)), (.long v3), (.long v3)])) _
    refine XS.lushr X0.here hx rfl (hb hby d2_29) rfl ?_
    show Steps p.tables e below (s₁.setTop (mkF m 30 #[.val (.ref rb), .val (.int q1), .val (.int (2 : Int32)), .val (.long v3), .second, .val (.int q1)] [(.long ((v3).toUInt64 >>> ((31 : Int32) &&& 0x3f).toInt64.toUInt64).toInt64), (.long v3)])) _
    refine XS.lxor X0.here hx rfl (hb hby d2_30) rfl ?_
    exact k
  have c7 : (q1 + (1 : Int32)) < (q1 + (2 : Int32)) := (by rw [Int32.lt_iff_toInt_lt]; have := own_hs hin (by decide) hl; omega)
  have in_18_8 : 0 ≤ ((q1 + (1 : Int32))).toInt ∧ ((q1 + (1 : Int32))).toInt < (xs.length : Nat) := (by (try simp only [List.length_set]); have := own_hs hin (by decide) hl; omega)
  obtain ⟨v9, hv9⟩ : ∃ z : Int64, z = ((v5 ^^^ (xs.getD ((q1 + (1 : Int32))).toInt.toNat 0)) * (-4658895280553007687 : Int64)) := ⟨_, rfl⟩
  have pre10 : ∀ t, Steps p.tables e below (s₁.setTop (mkF m 24 #[.val (.ref rb), .val (.int q1), .val (.int (2 : Int32)), .val (.long v5), .second, .val (.int (q1 + (1 : Int32)))] [(.long v9)])) t → Steps p.tables e below (s₁.setTop (entryFrame m #[(.ref rb), (.int q1), (.int (2 : Int32))] 6)) t := by
    rw [hv9]
    intro t k
    refine pre6 t ?_
    show Steps p.tables e below (s₁.setTop (mkF m 31 #[.val (.ref rb), .val (.int q1), .val (.int (2 : Int32)), .val (.long v3), .second, .val (.int q1)] [(.long v5)])) _
    refine XS.lstoreN X0.here hx rfl (hb hby d2_31) rfl (l' := #[.val (.ref rb), .val (.int q1), .val (.int (2 : Int32)), .val (.long v5), .second, .val (.int q1)]) rfl ?_
    show Steps p.tables e below (s₁.setTop (mkF m 32 #[.val (.ref rb), .val (.int q1), .val (.int (2 : Int32)), .val (.long v5), .second, .val (.int q1)] [])) _
    refine XS.iinc X0.here hx rfl (hb hby d2_32) rfl (l' := #[.val (.ref rb), .val (.int q1), .val (.int (2 : Int32)), .val (.long v5), .second, .val (.int (q1 + (1 : Int32)))]) rfl ?_
    show Steps p.tables e below (s₁.setTop (mkF m 35 #[.val (.ref rb), .val (.int q1), .val (.int (2 : Int32)), .val (.long v5), .second, .val (.int (q1 + (1 : Int32)))] [])) _
    refine XS.goto X0.here hx rfl (pc0 := 35) (pc' := 6) rfl (hb hby d2_35) (by decide) (by decide) ?_
    show Steps p.tables e below (s₁.setTop (mkF m 6 #[.val (.ref rb), .val (.int q1), .val (.int (2 : Int32)), .val (.long v5), .second, .val (.int (q1 + (1 : Int32)))] [])) _
    refine XS.iload X0.here hx rfl (hb hby d2_6) rfl ?_
    show Steps p.tables e below (s₁.setTop (mkF m 8 #[.val (.ref rb), .val (.int q1), .val (.int (2 : Int32)), .val (.long v5), .second, .val (.int (q1 + (1 : Int32)))] [(.int (q1 + (1 : Int32)))])) _
    refine XS.iloadN X0.here hx rfl (hb hby d2_8) rfl ?_
    show Steps p.tables e below (s₁.setTop (mkF m 9 #[.val (.ref rb), .val (.int q1), .val (.int (2 : Int32)), .val (.long v5), .second, .val (.int (q1 + (1 : Int32)))] [(.int q1), (.int (q1 + (1 : Int32)))])) _
    refine XS.iloadN X0.here hx rfl (hb hby d2_9) rfl ?_
    show Steps p.tables e below (s₁.setTop (mkF m 10 #[.val (.ref rb), .val (.int q1), .val (.int (2 : Int32)), .val (.long v5), .second, .val (.int (q1 + (1 : Int32)))] [(.int (2 : Int32)), (.int q1), (.int (q1 + (1 : Int32)))])) _
    refine XS.iadd X0.here hx rfl (hb hby d2_10) rfl ?_
    show Steps p.tables e below (s₁.setTop (mkF m 11 #[.val (.ref rb), .val (.int q1), .val (.int (2 : Int32)), .val (.long v5), .second, .val (.int (q1 + (1 : Int32)))] [(.int (q1 + (2 : Int32))), (.int (q1 + (1 : Int32)))])) _
    refine XS.icmpNo X0.here hx rfl (hb hby d2_11) rfl ((tlt c7).2.1) ?_
    show Steps p.tables e below (s₁.setTop (mkF m 14 #[.val (.ref rb), .val (.int q1), .val (.int (2 : Int32)), .val (.long v5), .second, .val (.int (q1 + (1 : Int32)))] [])) _
    refine XS.lloadN X0.here hx rfl (hb hby d2_14) rfl ?_
    show Steps p.tables e below (s₁.setTop (mkF m 15 #[.val (.ref rb), .val (.int q1), .val (.int (2 : Int32)), .val (.long v5), .second, .val (.int (q1 + (1 : Int32)))] [(.long v5)])) _
    refine XS.aloadN X0.here hx rfl (hb hby d2_15) rfl rfl ?_
    show Steps p.tables e below (s₁.setTop (mkF m 16 #[.val (.ref rb), .val (.int q1), .val (.int (2 : Int32)), .val (.long v5), .second, .val (.int (q1 + (1 : Int32)))] [(.ref rb), (.long v5)])) _
    refine XS.iload X0.here hx rfl (hb hby d2_16) rfl ?_
    show Steps p.tables e below (s₁.setTop (mkF m 18 #[.val (.ref rb), .val (.int q1), .val (.int (2 : Int32)), .val (.long v5), .second, .val (.int (q1 + (1 : Int32)))] [(.int (q1 + (1 : Int32))), (.ref rb), (.long v5)])) _
    refine own_laload X0 hx hZ e0 PA0 in_18_8 (hb hby d2_18) _ ?_
    show Steps p.tables e below (s₁.setTop (mkF m 19 #[.val (.ref rb), .val (.int q1), .val (.int (2 : Int32)), .val (.long v5), .second, .val (.int (q1 + (1 : Int32)))] [(.long (xs.getD ((q1 + (1 : Int32))).toInt.toNat 0)), (.long v5)])) _
    refine XS.lxor X0.here hx rfl (hb hby d2_19) rfl ?_
    show Steps p.tables e below (s₁.setTop (mkF m 20 #[.val (.ref rb), .val (.int q1), .val (.int (2 : Int32)), .val (.long v5), .second, .val (.int (q1 + (1 : Int32)))] [(.long (v5 ^^^ (xs.getD ((q1 + (1 : Int32))).toInt.toNat 0)))])) _
    refine X0.ldc2Long hx hown (mvT hZ (hw _ (List.mem_of_getElem? (i := 10) rfl))) (g := (mkF m 20 #[.val (.ref rb), .val (.int q1), .val (.int (2 : Int32)), .val (.long v5), .second, .val (.int (q1 + (1 : Int32)))] [(.long (v5 ^^^ (xs.getD ((q1 + (1 : Int32))).toInt.toNat 0)))])) rfl (hb hby d2_20) _ ?_
    show Steps p.tables e below (s₁.setTop (mkF m 23 #[.val (.ref rb), .val (.int q1), .val (.int (2 : Int32)), .val (.long v5), .second, .val (.int (q1 + (1 : Int32)))] [(.long (-4658895280553007687 : Int64)), (.long (v5 ^^^ (xs.getD ((q1 + (1 : Int32))).toInt.toNat 0)))])) _
    refine XS.lmul X0.here hx rfl (hb hby d2_23) rfl ?_
    exact k
  obtain ⟨v11, hv11⟩ : ∃ z : Int64, z = (v9 ^^^ ((v9).toUInt64 >>> ((31 : Int32) &&& 0x3f).toInt64.toUInt64).toInt64) := ⟨_, rfl⟩
  have pre12 : ∀ t, Steps p.tables e below (s₁.setTop (mkF m 31 #[.val (.ref rb), .val (.int q1), .val (.int (2 : Int32)), .val (.long v9), .second, .val (.int (q1 + (1 : Int32)))] [(.long v11)])) t → Steps p.tables e below (s₁.setTop (entryFrame m #[(.ref rb), (.int q1), (.int (2 : Int32))] 6)) t := by
    rw [hv11]
    intro t k
    refine pre10 t ?_
    show Steps p.tables e below (s₁.setTop (mkF m 24 #[.val (.ref rb), .val (.int q1), .val (.int (2 : Int32)), .val (.long v5), .second, .val (.int (q1 + (1 : Int32)))] [(.long v9)])) _
    refine XS.lstoreN X0.here hx rfl (hb hby d2_24) rfl (l' := #[.val (.ref rb), .val (.int q1), .val (.int (2 : Int32)), .val (.long v9), .second, .val (.int (q1 + (1 : Int32)))]) rfl ?_
    show Steps p.tables e below (s₁.setTop (mkF m 25 #[.val (.ref rb), .val (.int q1), .val (.int (2 : Int32)), .val (.long v9), .second, .val (.int (q1 + (1 : Int32)))] [])) _
    refine XS.lloadN X0.here hx rfl (hb hby d2_25) rfl ?_
    show Steps p.tables e below (s₁.setTop (mkF m 26 #[.val (.ref rb), .val (.int q1), .val (.int (2 : Int32)), .val (.long v9), .second, .val (.int (q1 + (1 : Int32)))] [(.long v9)])) _
    refine XS.lloadN X0.here hx rfl (hb hby d2_26) rfl ?_
    show Steps p.tables e below (s₁.setTop (mkF m 27 #[.val (.ref rb), .val (.int q1), .val (.int (2 : Int32)), .val (.long v9), .second, .val (.int (q1 + (1 : Int32)))] [(.long v9), (.long v9)])) _
    refine XS.bipush X0.here hx rfl (hb hby d2_27) ?_
    show Steps p.tables e below (s₁.setTop (mkF m 29 #[.val (.ref rb), .val (.int q1), .val (.int (2 : Int32)), .val (.long v9), .second, .val (.int (q1 + (1 : Int32)))] [(.int (31 : Int32)), (.long v9), (.long v9)])) _
    refine XS.lushr X0.here hx rfl (hb hby d2_29) rfl ?_
    show Steps p.tables e below (s₁.setTop (mkF m 30 #[.val (.ref rb), .val (.int q1), .val (.int (2 : Int32)), .val (.long v9), .second, .val (.int (q1 + (1 : Int32)))] [(.long ((v9).toUInt64 >>> ((31 : Int32) &&& 0x3f).toInt64.toUInt64).toInt64), (.long v9)])) _
    refine XS.lxor X0.here hx rfl (hb hby d2_30) rfl ?_
    exact k
  have c13 : ¬ (((q1 + (1 : Int32)) + (1 : Int32)) < (q1 + (2 : Int32))) := (by rw [Int32.lt_iff_toInt_lt]; have := own_hs hin (by decide) hl; omega)
  obtain ⟨v14, hv14⟩ : ∃ z : Int64, z = ((v11 ^^^ ((v11).toUInt64 >>> ((29 : Int32) &&& 0x3f).toInt64.toUInt64).toInt64) * (-7723592293110705685 : Int64)) := ⟨_, rfl⟩
  have pre15 : ∀ t, Steps p.tables e below (s₁.setTop (mkF m 48 #[.val (.ref rb), .val (.int q1), .val (.int (2 : Int32)), .val (.long v11), .second, .val (.int ((q1 + (1 : Int32)) + (1 : Int32)))] [(.long v14)])) t → Steps p.tables e below (s₁.setTop (entryFrame m #[(.ref rb), (.int q1), (.int (2 : Int32))] 6)) t := by
    rw [hv14]
    intro t k
    refine pre12 t ?_
    show Steps p.tables e below (s₁.setTop (mkF m 31 #[.val (.ref rb), .val (.int q1), .val (.int (2 : Int32)), .val (.long v9), .second, .val (.int (q1 + (1 : Int32)))] [(.long v11)])) _
    refine XS.lstoreN X0.here hx rfl (hb hby d2_31) rfl (l' := #[.val (.ref rb), .val (.int q1), .val (.int (2 : Int32)), .val (.long v11), .second, .val (.int (q1 + (1 : Int32)))]) rfl ?_
    show Steps p.tables e below (s₁.setTop (mkF m 32 #[.val (.ref rb), .val (.int q1), .val (.int (2 : Int32)), .val (.long v11), .second, .val (.int (q1 + (1 : Int32)))] [])) _
    refine XS.iinc X0.here hx rfl (hb hby d2_32) rfl (l' := #[.val (.ref rb), .val (.int q1), .val (.int (2 : Int32)), .val (.long v11), .second, .val (.int ((q1 + (1 : Int32)) + (1 : Int32)))]) rfl ?_
    show Steps p.tables e below (s₁.setTop (mkF m 35 #[.val (.ref rb), .val (.int q1), .val (.int (2 : Int32)), .val (.long v11), .second, .val (.int ((q1 + (1 : Int32)) + (1 : Int32)))] [])) _
    refine XS.goto X0.here hx rfl (pc0 := 35) (pc' := 6) rfl (hb hby d2_35) (by decide) (by decide) ?_
    show Steps p.tables e below (s₁.setTop (mkF m 6 #[.val (.ref rb), .val (.int q1), .val (.int (2 : Int32)), .val (.long v11), .second, .val (.int ((q1 + (1 : Int32)) + (1 : Int32)))] [])) _
    refine XS.iload X0.here hx rfl (hb hby d2_6) rfl ?_
    show Steps p.tables e below (s₁.setTop (mkF m 8 #[.val (.ref rb), .val (.int q1), .val (.int (2 : Int32)), .val (.long v11), .second, .val (.int ((q1 + (1 : Int32)) + (1 : Int32)))] [(.int ((q1 + (1 : Int32)) + (1 : Int32)))])) _
    refine XS.iloadN X0.here hx rfl (hb hby d2_8) rfl ?_
    show Steps p.tables e below (s₁.setTop (mkF m 9 #[.val (.ref rb), .val (.int q1), .val (.int (2 : Int32)), .val (.long v11), .second, .val (.int ((q1 + (1 : Int32)) + (1 : Int32)))] [(.int q1), (.int ((q1 + (1 : Int32)) + (1 : Int32)))])) _
    refine XS.iloadN X0.here hx rfl (hb hby d2_9) rfl ?_
    show Steps p.tables e below (s₁.setTop (mkF m 10 #[.val (.ref rb), .val (.int q1), .val (.int (2 : Int32)), .val (.long v11), .second, .val (.int ((q1 + (1 : Int32)) + (1 : Int32)))] [(.int (2 : Int32)), (.int q1), (.int ((q1 + (1 : Int32)) + (1 : Int32)))])) _
    refine XS.iadd X0.here hx rfl (hb hby d2_10) rfl ?_
    show Steps p.tables e below (s₁.setTop (mkF m 11 #[.val (.ref rb), .val (.int q1), .val (.int (2 : Int32)), .val (.long v11), .second, .val (.int ((q1 + (1 : Int32)) + (1 : Int32)))] [(.int (q1 + (2 : Int32))), (.int ((q1 + (1 : Int32)) + (1 : Int32)))])) _
    refine XS.icmpYes X0.here hx rfl (pc0 := 11) (pc' := 38) rfl (hb hby d2_11) rfl ((flt c13).2.1) (by decide) (by decide) ?_
    show Steps p.tables e below (s₁.setTop (mkF m 38 #[.val (.ref rb), .val (.int q1), .val (.int (2 : Int32)), .val (.long v11), .second, .val (.int ((q1 + (1 : Int32)) + (1 : Int32)))] [])) _
    refine XS.lloadN X0.here hx rfl (hb hby d2_38) rfl ?_
    show Steps p.tables e below (s₁.setTop (mkF m 39 #[.val (.ref rb), .val (.int q1), .val (.int (2 : Int32)), .val (.long v11), .second, .val (.int ((q1 + (1 : Int32)) + (1 : Int32)))] [(.long v11)])) _
    refine XS.lloadN X0.here hx rfl (hb hby d2_39) rfl ?_
    show Steps p.tables e below (s₁.setTop (mkF m 40 #[.val (.ref rb), .val (.int q1), .val (.int (2 : Int32)), .val (.long v11), .second, .val (.int ((q1 + (1 : Int32)) + (1 : Int32)))] [(.long v11), (.long v11)])) _
    refine XS.bipush X0.here hx rfl (hb hby d2_40) ?_
    show Steps p.tables e below (s₁.setTop (mkF m 42 #[.val (.ref rb), .val (.int q1), .val (.int (2 : Int32)), .val (.long v11), .second, .val (.int ((q1 + (1 : Int32)) + (1 : Int32)))] [(.int (29 : Int32)), (.long v11), (.long v11)])) _
    refine XS.lushr X0.here hx rfl (hb hby d2_42) rfl ?_
    show Steps p.tables e below (s₁.setTop (mkF m 43 #[.val (.ref rb), .val (.int q1), .val (.int (2 : Int32)), .val (.long v11), .second, .val (.int ((q1 + (1 : Int32)) + (1 : Int32)))] [(.long ((v11).toUInt64 >>> ((29 : Int32) &&& 0x3f).toInt64.toUInt64).toInt64), (.long v11)])) _
    refine XS.lxor X0.here hx rfl (hb hby d2_43) rfl ?_
    show Steps p.tables e below (s₁.setTop (mkF m 44 #[.val (.ref rb), .val (.int q1), .val (.int (2 : Int32)), .val (.long v11), .second, .val (.int ((q1 + (1 : Int32)) + (1 : Int32)))] [(.long (v11 ^^^ ((v11).toUInt64 >>> ((29 : Int32) &&& 0x3f).toInt64.toUInt64).toInt64))])) _
    refine X0.ldc2Long hx hown (mvT hZ (hw _ (List.mem_of_getElem? (i := 11) rfl))) (g := (mkF m 44 #[.val (.ref rb), .val (.int q1), .val (.int (2 : Int32)), .val (.long v11), .second, .val (.int ((q1 + (1 : Int32)) + (1 : Int32)))] [(.long (v11 ^^^ ((v11).toUInt64 >>> ((29 : Int32) &&& 0x3f).toInt64.toUInt64).toInt64))])) rfl (hb hby d2_44) _ ?_
    show Steps p.tables e below (s₁.setTop (mkF m 47 #[.val (.ref rb), .val (.int q1), .val (.int (2 : Int32)), .val (.long v11), .second, .val (.int ((q1 + (1 : Int32)) + (1 : Int32)))] [(.long (-7723592293110705685 : Int64)), (.long (v11 ^^^ ((v11).toUInt64 >>> ((29 : Int32) &&& 0x3f).toInt64.toUInt64).toInt64))])) _
    refine XS.lmul X0.here hx rfl (hb hby d2_47) rfl ?_
    exact k
  obtain ⟨fs, hr, hrun, hended, hW, hsame⟩ := X0.leave (v := some (.int ((v14 ^^^ ((v14).toUInt64 >>> ((32 : Int32) &&& 0x3f).toInt64.toUInt64).toInt64)).toInt32)) (fun h => by rw [Bd.returns] at h; cases h) hlk
  refine ⟨_, _, pre15 _ ?_, hrun, hended, _, _, rfl, ?_, ⟨_, rfl⟩, hW, hsame.mono (by decide) (by decide)⟩
  · show Steps p.tables e below (s₁.setTop (mkF m 48 #[.val (.ref rb), .val (.int q1), .val (.int (2 : Int32)), .val (.long v11), .second, .val (.int ((q1 + (1 : Int32)) + (1 : Int32)))] [(.long v14)])) _
    refine XS.lstoreN X0.here hx rfl (hb hby d2_48) rfl (l' := #[.val (.ref rb), .val (.int q1), .val (.int (2 : Int32)), .val (.long v14), .second, .val (.int ((q1 + (1 : Int32)) + (1 : Int32)))]) rfl ?_
    show Steps p.tables e below (s₁.setTop (mkF m 49 #[.val (.ref rb), .val (.int q1), .val (.int (2 : Int32)), .val (.long v14), .second, .val (.int ((q1 + (1 : Int32)) + (1 : Int32)))] [])) _
    refine XS.lloadN X0.here hx rfl (hb hby d2_49) rfl ?_
    show Steps p.tables e below (s₁.setTop (mkF m 50 #[.val (.ref rb), .val (.int q1), .val (.int (2 : Int32)), .val (.long v14), .second, .val (.int ((q1 + (1 : Int32)) + (1 : Int32)))] [(.long v14)])) _
    refine XS.lloadN X0.here hx rfl (hb hby d2_50) rfl ?_
    show Steps p.tables e below (s₁.setTop (mkF m 51 #[.val (.ref rb), .val (.int q1), .val (.int (2 : Int32)), .val (.long v14), .second, .val (.int ((q1 + (1 : Int32)) + (1 : Int32)))] [(.long v14), (.long v14)])) _
    refine XS.bipush X0.here hx rfl (hb hby d2_51) ?_
    show Steps p.tables e below (s₁.setTop (mkF m 53 #[.val (.ref rb), .val (.int q1), .val (.int (2 : Int32)), .val (.long v14), .second, .val (.int ((q1 + (1 : Int32)) + (1 : Int32)))] [(.int (32 : Int32)), (.long v14), (.long v14)])) _
    refine XS.lushr X0.here hx rfl (hb hby d2_53) rfl ?_
    show Steps p.tables e below (s₁.setTop (mkF m 54 #[.val (.ref rb), .val (.int q1), .val (.int (2 : Int32)), .val (.long v14), .second, .val (.int ((q1 + (1 : Int32)) + (1 : Int32)))] [(.long ((v14).toUInt64 >>> ((32 : Int32) &&& 0x3f).toInt64.toUInt64).toInt64), (.long v14)])) _
    refine XS.lxor X0.here hx rfl (hb hby d2_54) rfl ?_
    show Steps p.tables e below (s₁.setTop (mkF m 55 #[.val (.ref rb), .val (.int q1), .val (.int (2 : Int32)), .val (.long v14), .second, .val (.int ((q1 + (1 : Int32)) + (1 : Int32)))] [(.long (v14 ^^^ ((v14).toUInt64 >>> ((32 : Int32) &&& 0x3f).toInt64.toUInt64).toInt64))])) _
    refine XS.l2i X0.here hx rfl (hb hby d2_55) rfl ?_
    show Steps p.tables e below (s₁.setTop (mkF m 56 #[.val (.ref rb), .val (.int q1), .val (.int (2 : Int32)), .val (.long v14), .second, .val (.int ((q1 + (1 : Int32)) + (1 : Int32)))] [(.int ((v14 ^^^ ((v14).toUInt64 >>> ((32 : Int32) &&& 0x3f).toInt64.toUInt64).toInt64)).toInt32)])) _
    exact retI X0 hx Bd.returns (hb hby d2_56) hr
  · show Q2_2 Z rb q1 xs h0 n0 _ s₁.heap _
    rw [e0]
    exact ⟨by have w_hv14 := hv14.symm; subst w_hv14; have w_hv11 := hv11.symm; subst w_hv11; have w_hv9 := hv9.symm; subst w_hv9; have w_hv5 := hv5.symm; subst w_hv5; have w_hv3 := hv3.symm; subst w_hv3; rfl, N0, rfl⟩
theorem ef_1_3 (m : MethodId) (rb : Addr) (q1 : Int32) (q3 : Int64) (q4 : Int64) (q5 : Int64) : entryFrame m #[(.ref rb), (.int q1), (.int (3 : Int32)), (.long q3), (.long q4), (.long q5)] 9 = mkF m 0 #[.val (.ref rb), .val (.int q1), .val (.int (3 : Int32)), .val (.long q3), .second, .val (.long q4), .second, .val (.long q5), .second] [] := by first | (simp [entryFrame, mkF, argsToLocals, Value.category, maxLocals]; done) | rfl
def Q1_3 (Z : State) (rb : Addr) (q1 : Int32) (q3 : Int64) (q4 : Int64) (q5 : Int64) (xs : List Int64) (h0 : Heap) (n0 : Nat) (v : Option Value) (h : Heap) (L : List Loc) : Prop := v = none ∧ Fr n0 L ∧ Keep h0 h [rb] ∧ own_AJ Z h rb (((xs.set (q1).toInt.toNat q3).set ((q1 + (1 : Int32))).toInt.toNat q4).set ((q1 + (2 : Int32))).toInt.toNat q5)
set_option maxRecDepth 65536 in
set_option maxHeartbeats 40000000 in
theorem rm1_3 (l : Launch) (Z : State) (a0 : Array Value) (hw : ∀ d ∈ tables_1, d.before a0 Z = true) (ws : List Jvm.Cond) (rb : Addr) (q1 : Int32) (q3 : Int64) (q4 : Int64) (q5 : Int64) (xs : List Int64) (h0 : Heap) (n0 : Nat) (Z0 : n0 ≤ h0.size) (PA0 : own_AJ Z h0 rb xs) (PG0 : n0 ≤ rb) (hin : 0 ≤ (q1).toInt ∧ (q1).toInt + 3 ≤ (xs.length : Nat)) (hl : xs.length ≤ 100) :
    MetFree l (⟨"com/example/cubeshare/cubeshare/model/TuplesHashPinLaw", "put", "([JIIJJJ)V"⟩ : MethodName) (head1 (Jvm.Cond.code (⟨"com/example/cubeshare/cubeshare/model/TuplesHashPinLaw", "put", "([JIIJJJ)V"⟩ : MethodName) method_3_code 9 none :: ws) ({ frames := 0, cells := 0, slots := 0, locals := 0 } : Room)) (fun a U => a = #[(.ref rb), (.int q1), (.int (3 : Int32)), (.long q3), (.long q4), (.long q5)] ∧ Z.Warmed39 U.vm ∧ U.heap = h0) (fun _ _ _ _ _ => True) (fun _ U o U' => ∃ v L, o = .returned v ∧ Q1_3 Z rb q1 q3 q4 q5 xs h0 n0 v U'.heap L ∧ FrameEnd U o U' L ({ frames := 0, cells := 0, slots := 0, locals := 0 } : Room).cells ({ frames := 0, cells := 0, slots := 0, locals := 0 } : Room).slots) := by
  refine MetFree.of_bodySF (plainFor_of_name pn_1) hisR ?_
  intro p e s m args below meth c s₁ Bd hml0 hP hK
  obtain ⟨rfl, hZ, hh⟩ := hP
  have hx := Bd.exec
  have hby := Bd.bytes
  have hml : c.maxLocals = 9 := hml0
  have hown : s.vm.findClass "com/example/cubeshare/cubeshare/model/TuplesHashPinLaw" = some m.cls := findClass_of_methodNamed Bd.named
  have hnm := (name_of_methodNamed Bd.named Bd.method).1
  have X0 : Stand p l e ({ frames := 0, cells := 0, slots := 0, locals := 0 } : Room) s m #[(.ref rb), (.int q1), (.int (3 : Int32)), (.long q3), (.long q4), (.long q5)] below meth c s₁ [] 0 0 := Stand.of_body Bd
  have hlk : meth.locks = false := by first | exact BodyLoose.notSynchronized (by assumption) | exact Body.notSynchronized (by assumption)
  have e0 : s₁.heap = h0 := by rw [← hh, Bd.state]; rfl
  have N0 := Fr.nil n0
  have pre0 : ∀ t, Steps p.tables e below (s₁.setTop (mkF m 0 #[.val (.ref rb), .val (.int q1), .val (.int (3 : Int32)), .val (.long q3), .second, .val (.long q4), .second, .val (.long q5), .second] [])) t → Steps p.tables e below (s₁.setTop (entryFrame m #[(.ref rb), (.int q1), (.int (3 : Int32)), (.long q3), (.long q4), (.long q5)] 9)) t := fun t k => castTop (ef_1_3 m rb q1 q3 q4 q5) k
  have in_8_2 : 0 ≤ (q1).toInt ∧ (q1).toInt < (xs.length : Nat) := (by (try simp only [List.length_set]); have := own_hs hin (by decide) hl; omega)
  obtain ⟨T1, h1, X1, e1, W1, V1, st1⟩ := own_lastore X0 hx hZ e0 PA0 (j := q1) in_8_2 (x := q3) (hb hby d1_8) (Ls := #[.val (.ref rb), .val (.int q1), .val (.int (3 : Int32)), .val (.long q3), .second, .val (.long q4), .second, .val (.long q5), .second]) (rest := [])
  have sz1 : n0 ≤ h1.size := Nat.le_trans Z0 (Keep.of_wr W1).1
  have K1 : Keep h0 h1 [rb] := (Keep.refl h0 [rb]).wr W1 (Or.inl (by simp))
  have N1 := Fr.snoc X1 N0 PG0
  have V1_n : own_AJ Z h1 rb (xs.set (q1).toInt.toNat q3) := V1
  have in_20_4 : 0 ≤ ((q1 + (1 : Int32))).toInt ∧ ((q1 + (1 : Int32))).toInt < ((xs.set (q1).toInt.toNat q3).length : Nat) := (by (try simp only [List.length_set]); have := own_hs hin (by decide) hl; omega)
  obtain ⟨T3, h3, X3, e3, W3, V3, st3⟩ := own_lastore X1 hx hZ e1 V1_n (j := (q1 + (1 : Int32))) in_20_4 (x := q4) (hb hby d1_20) (Ls := #[.val (.ref rb), .val (.int q1), .val (.int (3 : Int32)), .val (.long q3), .second, .val (.long q4), .second, .val (.long q5), .second]) (rest := [])
  have sz3 : n0 ≤ h3.size := Nat.le_trans sz1 (Keep.of_wr W3).1
  have K3 : Keep h0 h3 [rb] := K1.wr W3 (Or.inl (by simp))
  have N3 := Fr.snoc X3 N1 PG0
  have V3_n : own_AJ Z h3 rb ((xs.set (q1).toInt.toNat q3).set ((q1 + (1 : Int32))).toInt.toNat q4) := V3
  have in_32_6 : 0 ≤ ((q1 + (2 : Int32))).toInt ∧ ((q1 + (2 : Int32))).toInt < (((xs.set (q1).toInt.toNat q3).set ((q1 + (1 : Int32))).toInt.toNat q4).length : Nat) := (by (try simp only [List.length_set]); have := own_hs hin (by decide) hl; omega)
  obtain ⟨T5, h5, X5, e5, W5, V5, st5⟩ := own_lastore X3 hx hZ e3 V3_n (j := (q1 + (2 : Int32))) in_32_6 (x := q5) (hb hby d1_32) (Ls := #[.val (.ref rb), .val (.int q1), .val (.int (3 : Int32)), .val (.long q3), .second, .val (.long q4), .second, .val (.long q5), .second]) (rest := [])
  have sz5 : n0 ≤ h5.size := Nat.le_trans sz3 (Keep.of_wr W5).1
  have K5 : Keep h0 h5 [rb] := K3.wr W5 (Or.inl (by simp))
  have N5 := Fr.snoc X5 N3 PG0
  have V5_n : own_AJ Z h5 rb (((xs.set (q1).toInt.toNat q3).set ((q1 + (1 : Int32))).toInt.toNat q4).set ((q1 + (2 : Int32))).toInt.toNat q5) := V5
  obtain ⟨fs, hr, hrun, hended, hW, hsame⟩ := X5.leave (v := none) (fun _ => rfl) hlk
  refine ⟨_, _, pre0 _ ?_, hrun, hended, _, _, rfl, ?_, ⟨_, rfl⟩, hW, hsame.mono (by decide) (by decide)⟩
  · show Steps p.tables e below (s₁.setTop (mkF m 0 #[.val (.ref rb), .val (.int q1), .val (.int (3 : Int32)), .val (.long q3), .second, .val (.long q4), .second, .val (.long q5), .second] [])) _
    refine XS.iloadN X0.here hx rfl (hb hby d1_0) rfl ?_
    show Steps p.tables e below (s₁.setTop (mkF m 1 #[.val (.ref rb), .val (.int q1), .val (.int (3 : Int32)), .val (.long q3), .second, .val (.long q4), .second, .val (.long q5), .second] [(.int (3 : Int32))])) _
    refine XS.iconst X0.here hx rfl (hb hby d1_1) ?_
    show Steps p.tables e below (s₁.setTop (mkF m 2 #[.val (.ref rb), .val (.int q1), .val (.int (3 : Int32)), .val (.long q3), .second, .val (.long q4), .second, .val (.long q5), .second] [(.int (1 : Int32)), (.int (3 : Int32))])) _
    refine XS.icmpNo X0.here hx rfl (hb hby d1_2) rfl (by decide) ?_
    show Steps p.tables e below (s₁.setTop (mkF m 5 #[.val (.ref rb), .val (.int q1), .val (.int (3 : Int32)), .val (.long q3), .second, .val (.long q4), .second, .val (.long q5), .second] [])) _
    refine XS.aloadN X0.here hx rfl (hb hby d1_5) rfl rfl ?_
    show Steps p.tables e below (s₁.setTop (mkF m 6 #[.val (.ref rb), .val (.int q1), .val (.int (3 : Int32)), .val (.long q3), .second, .val (.long q4), .second, .val (.long q5), .second] [(.ref rb)])) _
    refine XS.iloadN X0.here hx rfl (hb hby d1_6) rfl ?_
    show Steps p.tables e below (s₁.setTop (mkF m 7 #[.val (.ref rb), .val (.int q1), .val (.int (3 : Int32)), .val (.long q3), .second, .val (.long q4), .second, .val (.long q5), .second] [(.int q1), (.ref rb)])) _
    refine XS.lloadN X0.here hx rfl (hb hby d1_7) rfl ?_
    show Steps p.tables e below (s₁.setTop (mkF m 8 #[.val (.ref rb), .val (.int q1), .val (.int (3 : Int32)), .val (.long q3), .second, .val (.long q4), .second, .val (.long q5), .second] [(.long q3), (.int q1), (.ref rb)])) _
    refine st1 _ ?_
    show Steps p.tables e below (T1.setTop (mkF m 9 #[.val (.ref rb), .val (.int q1), .val (.int (3 : Int32)), .val (.long q3), .second, .val (.long q4), .second, .val (.long q5), .second] [])) _
    refine XS.iloadN X1.here hx rfl (hb hby d1_9) rfl ?_
    show Steps p.tables e below (T1.setTop (mkF m 10 #[.val (.ref rb), .val (.int q1), .val (.int (3 : Int32)), .val (.long q3), .second, .val (.long q4), .second, .val (.long q5), .second] [(.int (3 : Int32))])) _
    refine XS.iconst X1.here hx rfl (hb hby d1_10) ?_
    show Steps p.tables e below (T1.setTop (mkF m 11 #[.val (.ref rb), .val (.int q1), .val (.int (3 : Int32)), .val (.long q3), .second, .val (.long q4), .second, .val (.long q5), .second] [(.int (2 : Int32)), (.int (3 : Int32))])) _
    refine XS.icmpNo X1.here hx rfl (hb hby d1_11) rfl (by decide) ?_
    show Steps p.tables e below (T1.setTop (mkF m 14 #[.val (.ref rb), .val (.int q1), .val (.int (3 : Int32)), .val (.long q3), .second, .val (.long q4), .second, .val (.long q5), .second] [])) _
    refine XS.aloadN X1.here hx rfl (hb hby d1_14) rfl rfl ?_
    show Steps p.tables e below (T1.setTop (mkF m 15 #[.val (.ref rb), .val (.int q1), .val (.int (3 : Int32)), .val (.long q3), .second, .val (.long q4), .second, .val (.long q5), .second] [(.ref rb)])) _
    refine XS.iloadN X1.here hx rfl (hb hby d1_15) rfl ?_
    show Steps p.tables e below (T1.setTop (mkF m 16 #[.val (.ref rb), .val (.int q1), .val (.int (3 : Int32)), .val (.long q3), .second, .val (.long q4), .second, .val (.long q5), .second] [(.int q1), (.ref rb)])) _
    refine XS.iconst X1.here hx rfl (hb hby d1_16) ?_
    show Steps p.tables e below (T1.setTop (mkF m 17 #[.val (.ref rb), .val (.int q1), .val (.int (3 : Int32)), .val (.long q3), .second, .val (.long q4), .second, .val (.long q5), .second] [(.int (1 : Int32)), (.int q1), (.ref rb)])) _
    refine XS.iadd X1.here hx rfl (hb hby d1_17) rfl ?_
    show Steps p.tables e below (T1.setTop (mkF m 18 #[.val (.ref rb), .val (.int q1), .val (.int (3 : Int32)), .val (.long q3), .second, .val (.long q4), .second, .val (.long q5), .second] [(.int (q1 + (1 : Int32))), (.ref rb)])) _
    refine XS.lload X1.here hx rfl (hb hby d1_18) rfl ?_
    show Steps p.tables e below (T1.setTop (mkF m 20 #[.val (.ref rb), .val (.int q1), .val (.int (3 : Int32)), .val (.long q3), .second, .val (.long q4), .second, .val (.long q5), .second] [(.long q4), (.int (q1 + (1 : Int32))), (.ref rb)])) _
    refine st3 _ ?_
    show Steps p.tables e below (T3.setTop (mkF m 21 #[.val (.ref rb), .val (.int q1), .val (.int (3 : Int32)), .val (.long q3), .second, .val (.long q4), .second, .val (.long q5), .second] [])) _
    refine XS.iloadN X3.here hx rfl (hb hby d1_21) rfl ?_
    show Steps p.tables e below (T3.setTop (mkF m 22 #[.val (.ref rb), .val (.int q1), .val (.int (3 : Int32)), .val (.long q3), .second, .val (.long q4), .second, .val (.long q5), .second] [(.int (3 : Int32))])) _
    refine XS.iconst X3.here hx rfl (hb hby d1_22) ?_
    show Steps p.tables e below (T3.setTop (mkF m 23 #[.val (.ref rb), .val (.int q1), .val (.int (3 : Int32)), .val (.long q3), .second, .val (.long q4), .second, .val (.long q5), .second] [(.int (3 : Int32)), (.int (3 : Int32))])) _
    refine XS.icmpNo X3.here hx rfl (hb hby d1_23) rfl (by decide) ?_
    show Steps p.tables e below (T3.setTop (mkF m 26 #[.val (.ref rb), .val (.int q1), .val (.int (3 : Int32)), .val (.long q3), .second, .val (.long q4), .second, .val (.long q5), .second] [])) _
    refine XS.aloadN X3.here hx rfl (hb hby d1_26) rfl rfl ?_
    show Steps p.tables e below (T3.setTop (mkF m 27 #[.val (.ref rb), .val (.int q1), .val (.int (3 : Int32)), .val (.long q3), .second, .val (.long q4), .second, .val (.long q5), .second] [(.ref rb)])) _
    refine XS.iloadN X3.here hx rfl (hb hby d1_27) rfl ?_
    show Steps p.tables e below (T3.setTop (mkF m 28 #[.val (.ref rb), .val (.int q1), .val (.int (3 : Int32)), .val (.long q3), .second, .val (.long q4), .second, .val (.long q5), .second] [(.int q1), (.ref rb)])) _
    refine XS.iconst X3.here hx rfl (hb hby d1_28) ?_
    show Steps p.tables e below (T3.setTop (mkF m 29 #[.val (.ref rb), .val (.int q1), .val (.int (3 : Int32)), .val (.long q3), .second, .val (.long q4), .second, .val (.long q5), .second] [(.int (2 : Int32)), (.int q1), (.ref rb)])) _
    refine XS.iadd X3.here hx rfl (hb hby d1_29) rfl ?_
    show Steps p.tables e below (T3.setTop (mkF m 30 #[.val (.ref rb), .val (.int q1), .val (.int (3 : Int32)), .val (.long q3), .second, .val (.long q4), .second, .val (.long q5), .second] [(.int (q1 + (2 : Int32))), (.ref rb)])) _
    refine XS.lload X3.here hx rfl (hb hby d1_30) rfl ?_
    show Steps p.tables e below (T3.setTop (mkF m 32 #[.val (.ref rb), .val (.int q1), .val (.int (3 : Int32)), .val (.long q3), .second, .val (.long q4), .second, .val (.long q5), .second] [(.long q5), (.int (q1 + (2 : Int32))), (.ref rb)])) _
    refine st5 _ ?_
    show Steps p.tables e below (T5.setTop (mkF m 33 #[.val (.ref rb), .val (.int q1), .val (.int (3 : Int32)), .val (.long q3), .second, .val (.long q4), .second, .val (.long q5), .second] [])) _
    exact X5.returnOut hx Bd.returns (hb hby d1_33) hr
  · show Q1_3 Z rb q1 q3 q4 q5 xs h0 n0 _ T5.heap _
    rw [e5]
    exact ⟨rfl, N5, K5, V5_n⟩
theorem ef_2_3 (m : MethodId) (rb : Addr) (q1 : Int32) : entryFrame m #[(.ref rb), (.int q1), (.int (3 : Int32))] 6 = mkF m 0 #[.val (.ref rb), .val (.int q1), .val (.int (3 : Int32)), .unset, .unset, .unset] [] := by first | (simp [entryFrame, mkF, argsToLocals, Value.category, maxLocals]; done) | rfl
def own_f2_3 (q1 : Int32) (xs : List Int64) : Int32 := let v3 := (((3 : Int64) ^^^ (xs.getD (q1).toInt.toNat 0)) * (-4658895280553007687 : Int64))
  let v5 := (v3 ^^^ ((v3).toUInt64 >>> ((31 : Int32) &&& 0x3f).toInt64.toUInt64).toInt64)
  let v9 := ((v5 ^^^ (xs.getD ((q1 + (1 : Int32))).toInt.toNat 0)) * (-4658895280553007687 : Int64))
  let v11 := (v9 ^^^ ((v9).toUInt64 >>> ((31 : Int32) &&& 0x3f).toInt64.toUInt64).toInt64)
  let v15 := ((v11 ^^^ (xs.getD (((q1 + (1 : Int32)) + (1 : Int32))).toInt.toNat 0)) * (-4658895280553007687 : Int64))
  let v17 := (v15 ^^^ ((v15).toUInt64 >>> ((31 : Int32) &&& 0x3f).toInt64.toUInt64).toInt64)
  let v20 := ((v17 ^^^ ((v17).toUInt64 >>> ((29 : Int32) &&& 0x3f).toInt64.toUInt64).toInt64) * (-7723592293110705685 : Int64))
  ((v20 ^^^ ((v20).toUInt64 >>> ((32 : Int32) &&& 0x3f).toInt64.toUInt64).toInt64)).toInt32
def Q2_3 (Z : State) (rb : Addr) (q1 : Int32) (xs : List Int64) (h0 : Heap) (n0 : Nat) (v : Option Value) (h : Heap) (L : List Loc) : Prop := v = some (.int (own_f2_3 q1 xs)) ∧ Fr n0 L ∧ h = h0
set_option maxRecDepth 65536 in
set_option maxHeartbeats 40000000 in
theorem rm2_3 (l : Launch) (Z : State) (a0 : Array Value) (hw : ∀ d ∈ tables_1, d.before a0 Z = true) (ws : List Jvm.Cond) (rb : Addr) (q1 : Int32) (xs : List Int64) (h0 : Heap) (n0 : Nat) (Z0 : n0 ≤ h0.size) (PA0 : own_AJ Z h0 rb xs) (hin : 0 ≤ (q1).toInt ∧ (q1).toInt + 3 ≤ (xs.length : Nat)) (hl : xs.length ≤ 100) :
    MetFree l (⟨"com/example/cubeshare/cubeshare/model/Tuples", "hash", "([JII)I"⟩ : MethodName) (head1 (Jvm.Cond.code (⟨"com/example/cubeshare/cubeshare/model/Tuples", "hash", "([JII)I"⟩ : MethodName) prog_93_method_2_code 6 (some .int) :: ws) ({ frames := 0, cells := 0, slots := 0, locals := 0 } : Room)) (fun a U => a = #[(.ref rb), (.int q1), (.int (3 : Int32))] ∧ Z.Warmed39 U.vm ∧ U.heap = h0) (fun _ _ _ _ _ => True) (fun _ U o U' => ∃ v L, o = .returned v ∧ Q2_3 Z rb q1 xs h0 n0 v U'.heap L ∧ FrameEnd U o U' L ({ frames := 0, cells := 0, slots := 0, locals := 0 } : Room).cells ({ frames := 0, cells := 0, slots := 0, locals := 0 } : Room).slots) := by
  refine MetFree.of_bodySF (plainFor_of_name pn_3) hisR ?_
  intro p e s m args below meth c s₁ Bd hml0 hP hK
  obtain ⟨rfl, hZ, hh⟩ := hP
  have hx := Bd.exec
  have hby := Bd.bytes
  have hml : c.maxLocals = 6 := hml0
  have hown : s.vm.findClass "com/example/cubeshare/cubeshare/model/Tuples" = some m.cls := findClass_of_methodNamed Bd.named
  have hnm := (name_of_methodNamed Bd.named Bd.method).1
  have X0 : Stand p l e ({ frames := 0, cells := 0, slots := 0, locals := 0 } : Room) s m #[(.ref rb), (.int q1), (.int (3 : Int32))] below meth c s₁ [] 0 0 := Stand.of_body Bd
  have hlk : meth.locks = false := by first | exact BodyLoose.notSynchronized (by assumption) | exact Body.notSynchronized (by assumption)
  have e0 : s₁.heap = h0 := by rw [← hh, Bd.state]; rfl
  have N0 := Fr.nil n0
  have pre0 : ∀ t, Steps p.tables e below (s₁.setTop (mkF m 0 #[.val (.ref rb), .val (.int q1), .val (.int (3 : Int32)), .unset, .unset, .unset] [])) t → Steps p.tables e below (s₁.setTop (entryFrame m #[(.ref rb), (.int q1), (.int (3 : Int32))] 6)) t := fun t k => castTop (ef_2_3 m rb q1) k
  have c1 : q1 < (q1 + (3 : Int32)) := (by rw [Int32.lt_iff_toInt_lt]; have := own_hs hin (by decide) hl; omega)
  have in_18_2 : 0 ≤ (q1).toInt ∧ (q1).toInt < (xs.length : Nat) := (by (try simp only [List.length_set]); have := own_hs hin (by decide) hl; omega)
  obtain ⟨v3, hv3⟩ : ∃ z : Int64, z = (((3 : Int64) ^^^ (xs.getD (q1).toInt.toNat 0)) * (-4658895280553007687 : Int64)) := ⟨_, rfl⟩
  have pre4 : ∀ t, Steps p.tables e below (s₁.setTop (mkF m 24 #[.val (.ref rb), .val (.int q1), .val (.int (3 : Int32)), .val (.long (3 : Int64)), .second, .val (.int q1)] [(.long v3)])) t → Steps p.tables e below (s₁.setTop (entryFrame m #[(.ref rb), (.int q1), (.int (3 : Int32))] 6)) t := by
    rw [hv3]
    intro t k
    refine pre0 t ?_
    show Steps p.tables e below (s₁.setTop (mkF m 0 #[.val (.ref rb), .val (.int q1), .val (.int (3 : Int32)), .unset, .unset, .unset] [])) _
    refine XS.iloadN X0.here hx rfl (hb hby d2_0) rfl ?_
    show Steps p.tables e below (s₁.setTop (mkF m 1 #[.val (.ref rb), .val (.int q1), .val (.int (3 : Int32)), .unset, .unset, .unset] [(.int (3 : Int32))])) _
    refine XS.i2l X0.here hx rfl (hb hby d2_1) rfl ?_
    show Steps p.tables e below (s₁.setTop (mkF m 2 #[.val (.ref rb), .val (.int q1), .val (.int (3 : Int32)), .unset, .unset, .unset] [(.long (3 : Int64))])) _
    refine XS.lstoreN X0.here hx rfl (hb hby d2_2) rfl (l' := #[.val (.ref rb), .val (.int q1), .val (.int (3 : Int32)), .val (.long (3 : Int64)), .second, .unset]) rfl ?_
    show Steps p.tables e below (s₁.setTop (mkF m 3 #[.val (.ref rb), .val (.int q1), .val (.int (3 : Int32)), .val (.long (3 : Int64)), .second, .unset] [])) _
    refine XS.iloadN X0.here hx rfl (hb hby d2_3) rfl ?_
    show Steps p.tables e below (s₁.setTop (mkF m 4 #[.val (.ref rb), .val (.int q1), .val (.int (3 : Int32)), .val (.long (3 : Int64)), .second, .unset] [(.int q1)])) _
    refine XS.istore X0.here hx rfl (hb hby d2_4) rfl (l' := #[.val (.ref rb), .val (.int q1), .val (.int (3 : Int32)), .val (.long (3 : Int64)), .second, .val (.int q1)]) rfl ?_
    show Steps p.tables e below (s₁.setTop (mkF m 6 #[.val (.ref rb), .val (.int q1), .val (.int (3 : Int32)), .val (.long (3 : Int64)), .second, .val (.int q1)] [])) _
    refine XS.iload X0.here hx rfl (hb hby d2_6) rfl ?_
    show Steps p.tables e below (s₁.setTop (mkF m 8 #[.val (.ref rb), .val (.int q1), .val (.int (3 : Int32)), .val (.long (3 : Int64)), .second, .val (.int q1)] [(.int q1)])) _
    refine XS.iloadN X0.here hx rfl (hb hby d2_8) rfl ?_
    show Steps p.tables e below (s₁.setTop (mkF m 9 #[.val (.ref rb), .val (.int q1), .val (.int (3 : Int32)), .val (.long (3 : Int64)), .second, .val (.int q1)] [(.int q1), (.int q1)])) _
    refine XS.iloadN X0.here hx rfl (hb hby d2_9) rfl ?_
    show Steps p.tables e below (s₁.setTop (mkF m 10 #[.val (.ref rb), .val (.int q1), .val (.int (3 : Int32)), .val (.long (3 : Int64)), .second, .val (.int q1)] [(.int (3 : Int32)), (.int q1), (.int q1)])) _
    refine XS.iadd X0.here hx rfl (hb hby d2_10) rfl ?_
    show Steps p.tables e below (s₁.setTop (mkF m 11 #[.val (.ref rb), .val (.int q1), .val (.int (3 : Int32)), .val (.long (3 : Int64)), .second, .val (.int q1)] [(.int (q1 + (3 : Int32))), (.int q1)])) _
    refine XS.icmpNo X0.here hx rfl (hb hby d2_11) rfl ((tlt c1).2.1) ?_
    show Steps p.tables e below (s₁.setTop (mkF m 14 #[.val (.ref rb), .val (.int q1), .val (.int (3 : Int32)), .val (.long (3 : Int64)), .second, .val (.int q1)] [])) _
    refine XS.lloadN X0.here hx rfl (hb hby d2_14) rfl ?_
    show Steps p.tables e below (s₁.setTop (mkF m 15 #[.val (.ref rb), .val (.int q1), .val (.int (3 : Int32)), .val (.long (3 : Int64)), .second, .val (.int q1)] [(.long (3 : Int64))])) _
    refine XS.aloadN X0.here hx rfl (hb hby d2_15) rfl rfl ?_
    show Steps p.tables e below (s₁.setTop (mkF m 16 #[.val (.ref rb), .val (.int q1), .val (.int (3 : Int32)), .val (.long (3 : Int64)), .second, .val (.int q1)] [(.ref rb), (.long (3 : Int64))])) _
    refine XS.iload X0.here hx rfl (hb hby d2_16) rfl ?_
    show Steps p.tables e below (s₁.setTop (mkF m 18 #[.val (.ref rb), .val (.int q1), .val (.int (3 : Int32)), .val (.long (3 : Int64)), .second, .val (.int q1)] [(.int q1), (.ref rb), (.long (3 : Int64))])) _
    refine own_laload X0 hx hZ e0 PA0 in_18_2 (hb hby d2_18) _ ?_
    show Steps p.tables e below (s₁.setTop (mkF m 19 #[.val (.ref rb), .val (.int q1), .val (.int (3 : Int32)), .val (.long (3 : Int64)), .second, .val (.int q1)] [(.long (xs.getD (q1).toInt.toNat 0)), (.long (3 : Int64))])) _
    refine XS.lxor X0.here hx rfl (hb hby d2_19) rfl ?_
    show Steps p.tables e below (s₁.setTop (mkF m 20 #[.val (.ref rb), .val (.int q1), .val (.int (3 : Int32)), .val (.long (3 : Int64)), .second, .val (.int q1)] [(.long ((3 : Int64) ^^^ (xs.getD (q1).toInt.toNat 0)))])) _
    refine X0.ldc2Long hx hown (mvT hZ (hw _ (List.mem_of_getElem? (i := 10) rfl))) (g := (mkF m 20 #[.val (.ref rb), .val (.int q1), .val (.int (3 : Int32)), .val (.long (3 : Int64)), .second, .val (.int q1)] [(.long ((3 : Int64) ^^^ (xs.getD (q1).toInt.toNat 0)))])) rfl (hb hby d2_20) _ ?_
    show Steps p.tables e below (s₁.setTop (mkF m 23 #[.val (.ref rb), .val (.int q1), .val (.int (3 : Int32)), .val (.long (3 : Int64)), .second, .val (.int q1)] [(.long (-4658895280553007687 : Int64)), (.long ((3 : Int64) ^^^ (xs.getD (q1).toInt.toNat 0)))])) _
    refine XS.lmul X0.here hx rfl (hb hby d2_23) rfl ?_
    exact k
  obtain ⟨v5, hv5⟩ : ∃ z : Int64, z = (v3 ^^^ ((v3).toUInt64 >>> ((31 : Int32) &&& 0x3f).toInt64.toUInt64).toInt64) := ⟨_, rfl⟩
  have pre6 : ∀ t, Steps p.tables e below (s₁.setTop (mkF m 31 #[.val (.ref rb), .val (.int q1), .val (.int (3 : Int32)), .val (.long v3), .second, .val (.int q1)] [(.long v5)])) t → Steps p.tables e below (s₁.setTop (entryFrame m #[(.ref rb), (.int q1), (.int (3 : Int32))] 6)) t := by
    rw [hv5]
    intro t k
    refine pre4 t ?_
    show Steps p.tables e below (s₁.setTop (mkF m 24 #[.val (.ref rb), .val (.int q1), .val (.int (3 : Int32)), .val (.long (3 : Int64)), .second, .val (.int q1)] [(.long v3)])) _
    refine XS.lstoreN X0.here hx rfl (hb hby d2_24) rfl (l' := #[.val (.ref rb), .val (.int q1), .val (.int (3 : Int32)), .val (.long v3), .second, .val (.int q1)]) rfl ?_
    show Steps p.tables e below (s₁.setTop (mkF m 25 #[.val (.ref rb), .val (.int q1), .val (.int (3 : Int32)), .val (.long v3), .second, .val (.int q1)] [])) _
    refine XS.lloadN X0.here hx rfl (hb hby d2_25) rfl ?_
    show Steps p.tables e below (s₁.setTop (mkF m 26 #[.val (.ref rb), .val (.int q1), .val (.int (3 : Int32)), .val (.long v3), .second, .val (.int q1)] [(.long v3)])) _
    refine XS.lloadN X0.here hx rfl (hb hby d2_26) rfl ?_
    show Steps p.tables e below (s₁.setTop (mkF m 27 #[.val (.ref rb), .val (.int q1), .val (.int (3 : Int32)), .val (.long v3), .second, .val (.int q1)] [(.long v3), (.long v3)])) _
    refine XS.bipush X0.here hx rfl (hb hby d2_27) ?_
    show Steps p.tables e below (s₁.setTop (mkF m 29 #[.val (.ref rb), .val (.int q1), .val (.int (3 : Int32)), .val (.long v3), .second, .val (.int q1)] [(.int (31 : Int32)), (.long v3), (.long v3)])) _
    refine XS.lushr X0.here hx rfl (hb hby d2_29) rfl ?_
    show Steps p.tables e below (s₁.setTop (mkF m 30 #[.val (.ref rb), .val (.int q1), .val (.int (3 : Int32)), .val (.long v3), .second, .val (.int q1)] [(.long ((v3).toUInt64 >>> ((31 : Int32) &&& 0x3f).toInt64.toUInt64).toInt64), (.long v3)])) _
    refine XS.lxor X0.here hx rfl (hb hby d2_30) rfl ?_
    exact k
  have c7 : (q1 + (1 : Int32)) < (q1 + (3 : Int32)) := (by rw [Int32.lt_iff_toInt_lt]; have := own_hs hin (by decide) hl; omega)
  have in_18_8 : 0 ≤ ((q1 + (1 : Int32))).toInt ∧ ((q1 + (1 : Int32))).toInt < (xs.length : Nat) := (by (try simp only [List.length_set]); have := own_hs hin (by decide) hl; omega)
  obtain ⟨v9, hv9⟩ : ∃ z : Int64, z = ((v5 ^^^ (xs.getD ((q1 + (1 : Int32))).toInt.toNat 0)) * (-4658895280553007687 : Int64)) := ⟨_, rfl⟩
  have pre10 : ∀ t, Steps p.tables e below (s₁.setTop (mkF m 24 #[.val (.ref rb), .val (.int q1), .val (.int (3 : Int32)), .val (.long v5), .second, .val (.int (q1 + (1 : Int32)))] [(.long v9)])) t → Steps p.tables e below (s₁.setTop (entryFrame m #[(.ref rb), (.int q1), (.int (3 : Int32))] 6)) t := by
    rw [hv9]
    intro t k
    refine pre6 t ?_
    show Steps p.tables e below (s₁.setTop (mkF m 31 #[.val (.ref rb), .val (.int q1), .val (.int (3 : Int32)), .val (.long v3), .second, .val (.int q1)] [(.long v5)])) _
    refine XS.lstoreN X0.here hx rfl (hb hby d2_31) rfl (l' := #[.val (.ref rb), .val (.int q1), .val (.int (3 : Int32)), .val (.long v5), .second, .val (.int q1)]) rfl ?_
    show Steps p.tables e below (s₁.setTop (mkF m 32 #[.val (.ref rb), .val (.int q1), .val (.int (3 : Int32)), .val (.long v5), .second, .val (.int q1)] [])) _
    refine XS.iinc X0.here hx rfl (hb hby d2_32) rfl (l' := #[.val (.ref rb), .val (.int q1), .val (.int (3 : Int32)), .val (.long v5), .second, .val (.int (q1 + (1 : Int32)))]) rfl ?_
    show Steps p.tables e below (s₁.setTop (mkF m 35 #[.val (.ref rb), .val (.int q1), .val (.int (3 : Int32)), .val (.long v5), .second, .val (.int (q1 + (1 : Int32)))] [])) _
    refine XS.goto X0.here hx rfl (pc0 := 35) (pc' := 6) rfl (hb hby d2_35) (by decide) (by decide) ?_
    show Steps p.tables e below (s₁.setTop (mkF m 6 #[.val (.ref rb), .val (.int q1), .val (.int (3 : Int32)), .val (.long v5), .second, .val (.int (q1 + (1 : Int32)))] [])) _
    refine XS.iload X0.here hx rfl (hb hby d2_6) rfl ?_
    show Steps p.tables e below (s₁.setTop (mkF m 8 #[.val (.ref rb), .val (.int q1), .val (.int (3 : Int32)), .val (.long v5), .second, .val (.int (q1 + (1 : Int32)))] [(.int (q1 + (1 : Int32)))])) _
    refine XS.iloadN X0.here hx rfl (hb hby d2_8) rfl ?_
    show Steps p.tables e below (s₁.setTop (mkF m 9 #[.val (.ref rb), .val (.int q1), .val (.int (3 : Int32)), .val (.long v5), .second, .val (.int (q1 + (1 : Int32)))] [(.int q1), (.int (q1 + (1 : Int32)))])) _
    refine XS.iloadN X0.here hx rfl (hb hby d2_9) rfl ?_
    show Steps p.tables e below (s₁.setTop (mkF m 10 #[.val (.ref rb), .val (.int q1), .val (.int (3 : Int32)), .val (.long v5), .second, .val (.int (q1 + (1 : Int32)))] [(.int (3 : Int32)), (.int q1), (.int (q1 + (1 : Int32)))])) _
    refine XS.iadd X0.here hx rfl (hb hby d2_10) rfl ?_
    show Steps p.tables e below (s₁.setTop (mkF m 11 #[.val (.ref rb), .val (.int q1), .val (.int (3 : Int32)), .val (.long v5), .second, .val (.int (q1 + (1 : Int32)))] [(.int (q1 + (3 : Int32))), (.int (q1 + (1 : Int32)))])) _
    refine XS.icmpNo X0.here hx rfl (hb hby d2_11) rfl ((tlt c7).2.1) ?_
    show Steps p.tables e below (s₁.setTop (mkF m 14 #[.val (.ref rb), .val (.int q1), .val (.int (3 : Int32)), .val (.long v5), .second, .val (.int (q1 + (1 : Int32)))] [])) _
    refine XS.lloadN X0.here hx rfl (hb hby d2_14) rfl ?_
    show Steps p.tables e below (s₁.setTop (mkF m 15 #[.val (.ref rb), .val (.int q1), .val (.int (3 : Int32)), .val (.long v5), .second, .val (.int (q1 + (1 : Int32)))] [(.long v5)])) _
    refine XS.aloadN X0.here hx rfl (hb hby d2_15) rfl rfl ?_
    show Steps p.tables e below (s₁.setTop (mkF m 16 #[.val (.ref rb), .val (.int q1), .val (.int (3 : Int32)), .val (.long v5), .second, .val (.int (q1 + (1 : Int32)))] [(.ref rb), (.long v5)])) _
    refine XS.iload X0.here hx rfl (hb hby d2_16) rfl ?_
    show Steps p.tables e below (s₁.setTop (mkF m 18 #[.val (.ref rb), .val (.int q1), .val (.int (3 : Int32)), .val (.long v5), .second, .val (.int (q1 + (1 : Int32)))] [(.int (q1 + (1 : Int32))), (.ref rb), (.long v5)])) _
    refine own_laload X0 hx hZ e0 PA0 in_18_8 (hb hby d2_18) _ ?_
    show Steps p.tables e below (s₁.setTop (mkF m 19 #[.val (.ref rb), .val (.int q1), .val (.int (3 : Int32)), .val (.long v5), .second, .val (.int (q1 + (1 : Int32)))] [(.long (xs.getD ((q1 + (1 : Int32))).toInt.toNat 0)), (.long v5)])) _
    refine XS.lxor X0.here hx rfl (hb hby d2_19) rfl ?_
    show Steps p.tables e below (s₁.setTop (mkF m 20 #[.val (.ref rb), .val (.int q1), .val (.int (3 : Int32)), .val (.long v5), .second, .val (.int (q1 + (1 : Int32)))] [(.long (v5 ^^^ (xs.getD ((q1 + (1 : Int32))).toInt.toNat 0)))])) _
    refine X0.ldc2Long hx hown (mvT hZ (hw _ (List.mem_of_getElem? (i := 10) rfl))) (g := (mkF m 20 #[.val (.ref rb), .val (.int q1), .val (.int (3 : Int32)), .val (.long v5), .second, .val (.int (q1 + (1 : Int32)))] [(.long (v5 ^^^ (xs.getD ((q1 + (1 : Int32))).toInt.toNat 0)))])) rfl (hb hby d2_20) _ ?_
    show Steps p.tables e below (s₁.setTop (mkF m 23 #[.val (.ref rb), .val (.int q1), .val (.int (3 : Int32)), .val (.long v5), .second, .val (.int (q1 + (1 : Int32)))] [(.long (-4658895280553007687 : Int64)), (.long (v5 ^^^ (xs.getD ((q1 + (1 : Int32))).toInt.toNat 0)))])) _
    refine XS.lmul X0.here hx rfl (hb hby d2_23) rfl ?_
    exact k
  obtain ⟨v11, hv11⟩ : ∃ z : Int64, z = (v9 ^^^ ((v9).toUInt64 >>> ((31 : Int32) &&& 0x3f).toInt64.toUInt64).toInt64) := ⟨_, rfl⟩
  have pre12 : ∀ t, Steps p.tables e below (s₁.setTop (mkF m 31 #[.val (.ref rb), .val (.int q1), .val (.int (3 : Int32)), .val (.long v9), .second, .val (.int (q1 + (1 : Int32)))] [(.long v11)])) t → Steps p.tables e below (s₁.setTop (entryFrame m #[(.ref rb), (.int q1), (.int (3 : Int32))] 6)) t := by
    rw [hv11]
    intro t k
    refine pre10 t ?_
    show Steps p.tables e below (s₁.setTop (mkF m 24 #[.val (.ref rb), .val (.int q1), .val (.int (3 : Int32)), .val (.long v5), .second, .val (.int (q1 + (1 : Int32)))] [(.long v9)])) _
    refine XS.lstoreN X0.here hx rfl (hb hby d2_24) rfl (l' := #[.val (.ref rb), .val (.int q1), .val (.int (3 : Int32)), .val (.long v9), .second, .val (.int (q1 + (1 : Int32)))]) rfl ?_
    show Steps p.tables e below (s₁.setTop (mkF m 25 #[.val (.ref rb), .val (.int q1), .val (.int (3 : Int32)), .val (.long v9), .second, .val (.int (q1 + (1 : Int32)))] [])) _
    refine XS.lloadN X0.here hx rfl (hb hby d2_25) rfl ?_
    show Steps p.tables e below (s₁.setTop (mkF m 26 #[.val (.ref rb), .val (.int q1), .val (.int (3 : Int32)), .val (.long v9), .second, .val (.int (q1 + (1 : Int32)))] [(.long v9)])) _
    refine XS.lloadN X0.here hx rfl (hb hby d2_26) rfl ?_
    show Steps p.tables e below (s₁.setTop (mkF m 27 #[.val (.ref rb), .val (.int q1), .val (.int (3 : Int32)), .val (.long v9), .second, .val (.int (q1 + (1 : Int32)))] [(.long v9), (.long v9)])) _
    refine XS.bipush X0.here hx rfl (hb hby d2_27) ?_
    show Steps p.tables e below (s₁.setTop (mkF m 29 #[.val (.ref rb), .val (.int q1), .val (.int (3 : Int32)), .val (.long v9), .second, .val (.int (q1 + (1 : Int32)))] [(.int (31 : Int32)), (.long v9), (.long v9)])) _
    refine XS.lushr X0.here hx rfl (hb hby d2_29) rfl ?_
    show Steps p.tables e below (s₁.setTop (mkF m 30 #[.val (.ref rb), .val (.int q1), .val (.int (3 : Int32)), .val (.long v9), .second, .val (.int (q1 + (1 : Int32)))] [(.long ((v9).toUInt64 >>> ((31 : Int32) &&& 0x3f).toInt64.toUInt64).toInt64), (.long v9)])) _
    refine XS.lxor X0.here hx rfl (hb hby d2_30) rfl ?_
    exact k
  have c13 : ((q1 + (1 : Int32)) + (1 : Int32)) < (q1 + (3 : Int32)) := (by rw [Int32.lt_iff_toInt_lt]; have := own_hs hin (by decide) hl; omega)
  have in_18_14 : 0 ≤ (((q1 + (1 : Int32)) + (1 : Int32))).toInt ∧ (((q1 + (1 : Int32)) + (1 : Int32))).toInt < (xs.length : Nat) := (by (try simp only [List.length_set]); have := own_hs hin (by decide) hl; omega)
  obtain ⟨v15, hv15⟩ : ∃ z : Int64, z = ((v11 ^^^ (xs.getD (((q1 + (1 : Int32)) + (1 : Int32))).toInt.toNat 0)) * (-4658895280553007687 : Int64)) := ⟨_, rfl⟩
  have pre16 : ∀ t, Steps p.tables e below (s₁.setTop (mkF m 24 #[.val (.ref rb), .val (.int q1), .val (.int (3 : Int32)), .val (.long v11), .second, .val (.int ((q1 + (1 : Int32)) + (1 : Int32)))] [(.long v15)])) t → Steps p.tables e below (s₁.setTop (entryFrame m #[(.ref rb), (.int q1), (.int (3 : Int32))] 6)) t := by
    rw [hv15]
    intro t k
    refine pre12 t ?_
    show Steps p.tables e below (s₁.setTop (mkF m 31 #[.val (.ref rb), .val (.int q1), .val (.int (3 : Int32)), .val (.long v9), .second, .val (.int (q1 + (1 : Int32)))] [(.long v11)])) _
    refine XS.lstoreN X0.here hx rfl (hb hby d2_31) rfl (l' := #[.val (.ref rb), .val (.int q1), .val (.int (3 : Int32)), .val (.long v11), .second, .val (.int (q1 + (1 : Int32)))]) rfl ?_
    show Steps p.tables e below (s₁.setTop (mkF m 32 #[.val (.ref rb), .val (.int q1), .val (.int (3 : Int32)), .val (.long v11), .second, .val (.int (q1 + (1 : Int32)))] [])) _
    refine XS.iinc X0.here hx rfl (hb hby d2_32) rfl (l' := #[.val (.ref rb), .val (.int q1), .val (.int (3 : Int32)), .val (.long v11), .second, .val (.int ((q1 + (1 : Int32)) + (1 : Int32)))]) rfl ?_
    show Steps p.tables e below (s₁.setTop (mkF m 35 #[.val (.ref rb), .val (.int q1), .val (.int (3 : Int32)), .val (.long v11), .second, .val (.int ((q1 + (1 : Int32)) + (1 : Int32)))] [])) _
    refine XS.goto X0.here hx rfl (pc0 := 35) (pc' := 6) rfl (hb hby d2_35) (by decide) (by decide) ?_
    show Steps p.tables e below (s₁.setTop (mkF m 6 #[.val (.ref rb), .val (.int q1), .val (.int (3 : Int32)), .val (.long v11), .second, .val (.int ((q1 + (1 : Int32)) + (1 : Int32)))] [])) _
    refine XS.iload X0.here hx rfl (hb hby d2_6) rfl ?_
    show Steps p.tables e below (s₁.setTop (mkF m 8 #[.val (.ref rb), .val (.int q1), .val (.int (3 : Int32)), .val (.long v11), .second, .val (.int ((q1 + (1 : Int32)) + (1 : Int32)))] [(.int ((q1 + (1 : Int32)) + (1 : Int32)))])) _
    refine XS.iloadN X0.here hx rfl (hb hby d2_8) rfl ?_
    show Steps p.tables e below (s₁.setTop (mkF m 9 #[.val (.ref rb), .val (.int q1), .val (.int (3 : Int32)), .val (.long v11), .second, .val (.int ((q1 + (1 : Int32)) + (1 : Int32)))] [(.int q1), (.int ((q1 + (1 : Int32)) + (1 : Int32)))])) _
    refine XS.iloadN X0.here hx rfl (hb hby d2_9) rfl ?_
    show Steps p.tables e below (s₁.setTop (mkF m 10 #[.val (.ref rb), .val (.int q1), .val (.int (3 : Int32)), .val (.long v11), .second, .val (.int ((q1 + (1 : Int32)) + (1 : Int32)))] [(.int (3 : Int32)), (.int q1), (.int ((q1 + (1 : Int32)) + (1 : Int32)))])) _
    refine XS.iadd X0.here hx rfl (hb hby d2_10) rfl ?_
    show Steps p.tables e below (s₁.setTop (mkF m 11 #[.val (.ref rb), .val (.int q1), .val (.int (3 : Int32)), .val (.long v11), .second, .val (.int ((q1 + (1 : Int32)) + (1 : Int32)))] [(.int (q1 + (3 : Int32))), (.int ((q1 + (1 : Int32)) + (1 : Int32)))])) _
    refine XS.icmpNo X0.here hx rfl (hb hby d2_11) rfl ((tlt c13).2.1) ?_
    show Steps p.tables e below (s₁.setTop (mkF m 14 #[.val (.ref rb), .val (.int q1), .val (.int (3 : Int32)), .val (.long v11), .second, .val (.int ((q1 + (1 : Int32)) + (1 : Int32)))] [])) _
    refine XS.lloadN X0.here hx rfl (hb hby d2_14) rfl ?_
    show Steps p.tables e below (s₁.setTop (mkF m 15 #[.val (.ref rb), .val (.int q1), .val (.int (3 : Int32)), .val (.long v11), .second, .val (.int ((q1 + (1 : Int32)) + (1 : Int32)))] [(.long v11)])) _
    refine XS.aloadN X0.here hx rfl (hb hby d2_15) rfl rfl ?_
    show Steps p.tables e below (s₁.setTop (mkF m 16 #[.val (.ref rb), .val (.int q1), .val (.int (3 : Int32)), .val (.long v11), .second, .val (.int ((q1 + (1 : Int32)) + (1 : Int32)))] [(.ref rb), (.long v11)])) _
    refine XS.iload X0.here hx rfl (hb hby d2_16) rfl ?_
    show Steps p.tables e below (s₁.setTop (mkF m 18 #[.val (.ref rb), .val (.int q1), .val (.int (3 : Int32)), .val (.long v11), .second, .val (.int ((q1 + (1 : Int32)) + (1 : Int32)))] [(.int ((q1 + (1 : Int32)) + (1 : Int32))), (.ref rb), (.long v11)])) _
    refine own_laload X0 hx hZ e0 PA0 in_18_14 (hb hby d2_18) _ ?_
    show Steps p.tables e below (s₁.setTop (mkF m 19 #[.val (.ref rb), .val (.int q1), .val (.int (3 : Int32)), .val (.long v11), .second, .val (.int ((q1 + (1 : Int32)) + (1 : Int32)))] [(.long (xs.getD (((q1 + (1 : Int32)) + (1 : Int32))).toInt.toNat 0)), (.long v11)])) _
    refine XS.lxor X0.here hx rfl (hb hby d2_19) rfl ?_
    show Steps p.tables e below (s₁.setTop (mkF m 20 #[.val (.ref rb), .val (.int q1), .val (.int (3 : Int32)), .val (.long v11), .second, .val (.int ((q1 + (1 : Int32)) + (1 : Int32)))] [(.long (v11 ^^^ (xs.getD (((q1 + (1 : Int32)) + (1 : Int32))).toInt.toNat 0)))])) _
    refine X0.ldc2Long hx hown (mvT hZ (hw _ (List.mem_of_getElem? (i := 10) rfl))) (g := (mkF m 20 #[.val (.ref rb), .val (.int q1), .val (.int (3 : Int32)), .val (.long v11), .second, .val (.int ((q1 + (1 : Int32)) + (1 : Int32)))] [(.long (v11 ^^^ (xs.getD (((q1 + (1 : Int32)) + (1 : Int32))).toInt.toNat 0)))])) rfl (hb hby d2_20) _ ?_
    show Steps p.tables e below (s₁.setTop (mkF m 23 #[.val (.ref rb), .val (.int q1), .val (.int (3 : Int32)), .val (.long v11), .second, .val (.int ((q1 + (1 : Int32)) + (1 : Int32)))] [(.long (-4658895280553007687 : Int64)), (.long (v11 ^^^ (xs.getD (((q1 + (1 : Int32)) + (1 : Int32))).toInt.toNat 0)))])) _
    refine XS.lmul X0.here hx rfl (hb hby d2_23) rfl ?_
    exact k
  obtain ⟨v17, hv17⟩ : ∃ z : Int64, z = (v15 ^^^ ((v15).toUInt64 >>> ((31 : Int32) &&& 0x3f).toInt64.toUInt64).toInt64) := ⟨_, rfl⟩
  have pre18 : ∀ t, Steps p.tables e below (s₁.setTop (mkF m 31 #[.val (.ref rb), .val (.int q1), .val (.int (3 : Int32)), .val (.long v15), .second, .val (.int ((q1 + (1 : Int32)) + (1 : Int32)))] [(.long v17)])) t → Steps p.tables e below (s₁.setTop (entryFrame m #[(.ref rb), (.int q1), (.int (3 : Int32))] 6)) t := by
    rw [hv17]
    intro t k
    refine pre16 t ?_
    show Steps p.tables e below (s₁.setTop (mkF m 24 #[.val (.ref rb), .val (.int q1), .val (.int (3 : Int32)), .val (.long v11), .second, .val (.int ((q1 + (1 : Int32)) + (1 : Int32)))] [(.long v15)])) _
    refine XS.lstoreN X0.here hx rfl (hb hby d2_24) rfl (l' := #[.val (.ref rb), .val (.int q1), .val (.int (3 : Int32)), .val (.long v15), .second, .val (.int ((q1 + (1 : Int32)) + (1 : Int32)))]) rfl ?_
    show Steps p.tables e below (s₁.setTop (mkF m 25 #[.val (.ref rb), .val (.int q1), .val (.int (3 : Int32)), .val (.long v15), .second, .val (.int ((q1 + (1 : Int32)) + (1 : Int32)))] [])) _
    refine XS.lloadN X0.here hx rfl (hb hby d2_25) rfl ?_
    show Steps p.tables e below (s₁.setTop (mkF m 26 #[.val (.ref rb), .val (.int q1), .val (.int (3 : Int32)), .val (.long v15), .second, .val (.int ((q1 + (1 : Int32)) + (1 : Int32)))] [(.long v15)])) _
    refine XS.lloadN X0.here hx rfl (hb hby d2_26) rfl ?_
    show Steps p.tables e below (s₁.setTop (mkF m 27 #[.val (.ref rb), .val (.int q1), .val (.int (3 : Int32)), .val (.long v15), .second, .val (.int ((q1 + (1 : Int32)) + (1 : Int32)))] [(.long v15), (.long v15)])) _
    refine XS.bipush X0.here hx rfl (hb hby d2_27) ?_
    show Steps p.tables e below (s₁.setTop (mkF m 29 #[.val (.ref rb), .val (.int q1), .val (.int (3 : Int32)), .val (.long v15), .second, .val (.int ((q1 + (1 : Int32)) + (1 : Int32)))] [(.int (31 : Int32)), (.long v15), (.long v15)])) _
    refine XS.lushr X0.here hx rfl (hb hby d2_29) rfl ?_
    show Steps p.tables e below (s₁.setTop (mkF m 30 #[.val (.ref rb), .val (.int q1), .val (.int (3 : Int32)), .val (.long v15), .second, .val (.int ((q1 + (1 : Int32)) + (1 : Int32)))] [(.long ((v15).toUInt64 >>> ((31 : Int32) &&& 0x3f).toInt64.toUInt64).toInt64), (.long v15)])) _
    refine XS.lxor X0.here hx rfl (hb hby d2_30) rfl ?_
    exact k
  have c19 : ¬ ((((q1 + (1 : Int32)) + (1 : Int32)) + (1 : Int32)) < (q1 + (3 : Int32))) := (by rw [Int32.lt_iff_toInt_lt]; have := own_hs hin (by decide) hl; omega)
  obtain ⟨v20, hv20⟩ : ∃ z : Int64, z = ((v17 ^^^ ((v17).toUInt64 >>> ((29 : Int32) &&& 0x3f).toInt64.toUInt64).toInt64) * (-7723592293110705685 : Int64)) := ⟨_, rfl⟩
  have pre21 : ∀ t, Steps p.tables e below (s₁.setTop (mkF m 48 #[.val (.ref rb), .val (.int q1), .val (.int (3 : Int32)), .val (.long v17), .second, .val (.int (((q1 + (1 : Int32)) + (1 : Int32)) + (1 : Int32)))] [(.long v20)])) t → Steps p.tables e below (s₁.setTop (entryFrame m #[(.ref rb), (.int q1), (.int (3 : Int32))] 6)) t := by
    rw [hv20]
    intro t k
    refine pre18 t ?_
    show Steps p.tables e below (s₁.setTop (mkF m 31 #[.val (.ref rb), .val (.int q1), .val (.int (3 : Int32)), .val (.long v15), .second, .val (.int ((q1 + (1 : Int32)) + (1 : Int32)))] [(.long v17)])) _
    refine XS.lstoreN X0.here hx rfl (hb hby d2_31) rfl (l' := #[.val (.ref rb), .val (.int q1), .val (.int (3 : Int32)), .val (.long v17), .second, .val (.int ((q1 + (1 : Int32)) + (1 : Int32)))]) rfl ?_
    show Steps p.tables e below (s₁.setTop (mkF m 32 #[.val (.ref rb), .val (.int q1), .val (.int (3 : Int32)), .val (.long v17), .second, .val (.int ((q1 + (1 : Int32)) + (1 : Int32)))] [])) _
    refine XS.iinc X0.here hx rfl (hb hby d2_32) rfl (l' := #[.val (.ref rb), .val (.int q1), .val (.int (3 : Int32)), .val (.long v17), .second, .val (.int (((q1 + (1 : Int32)) + (1 : Int32)) + (1 : Int32)))]) rfl ?_
    show Steps p.tables e below (s₁.setTop (mkF m 35 #[.val (.ref rb), .val (.int q1), .val (.int (3 : Int32)), .val (.long v17), .second, .val (.int (((q1 + (1 : Int32)) + (1 : Int32)) + (1 : Int32)))] [])) _
    refine XS.goto X0.here hx rfl (pc0 := 35) (pc' := 6) rfl (hb hby d2_35) (by decide) (by decide) ?_
    show Steps p.tables e below (s₁.setTop (mkF m 6 #[.val (.ref rb), .val (.int q1), .val (.int (3 : Int32)), .val (.long v17), .second, .val (.int (((q1 + (1 : Int32)) + (1 : Int32)) + (1 : Int32)))] [])) _
    refine XS.iload X0.here hx rfl (hb hby d2_6) rfl ?_
    show Steps p.tables e below (s₁.setTop (mkF m 8 #[.val (.ref rb), .val (.int q1), .val (.int (3 : Int32)), .val (.long v17), .second, .val (.int (((q1 + (1 : Int32)) + (1 : Int32)) + (1 : Int32)))] [(.int (((q1 + (1 : Int32)) + (1 : Int32)) + (1 : Int32)))])) _
    refine XS.iloadN X0.here hx rfl (hb hby d2_8) rfl ?_
    show Steps p.tables e below (s₁.setTop (mkF m 9 #[.val (.ref rb), .val (.int q1), .val (.int (3 : Int32)), .val (.long v17), .second, .val (.int (((q1 + (1 : Int32)) + (1 : Int32)) + (1 : Int32)))] [(.int q1), (.int (((q1 + (1 : Int32)) + (1 : Int32)) + (1 : Int32)))])) _
    refine XS.iloadN X0.here hx rfl (hb hby d2_9) rfl ?_
    show Steps p.tables e below (s₁.setTop (mkF m 10 #[.val (.ref rb), .val (.int q1), .val (.int (3 : Int32)), .val (.long v17), .second, .val (.int (((q1 + (1 : Int32)) + (1 : Int32)) + (1 : Int32)))] [(.int (3 : Int32)), (.int q1), (.int (((q1 + (1 : Int32)) + (1 : Int32)) + (1 : Int32)))])) _
    refine XS.iadd X0.here hx rfl (hb hby d2_10) rfl ?_
    show Steps p.tables e below (s₁.setTop (mkF m 11 #[.val (.ref rb), .val (.int q1), .val (.int (3 : Int32)), .val (.long v17), .second, .val (.int (((q1 + (1 : Int32)) + (1 : Int32)) + (1 : Int32)))] [(.int (q1 + (3 : Int32))), (.int (((q1 + (1 : Int32)) + (1 : Int32)) + (1 : Int32)))])) _
    refine XS.icmpYes X0.here hx rfl (pc0 := 11) (pc' := 38) rfl (hb hby d2_11) rfl ((flt c19).2.1) (by decide) (by decide) ?_
    show Steps p.tables e below (s₁.setTop (mkF m 38 #[.val (.ref rb), .val (.int q1), .val (.int (3 : Int32)), .val (.long v17), .second, .val (.int (((q1 + (1 : Int32)) + (1 : Int32)) + (1 : Int32)))] [])) _
    refine XS.lloadN X0.here hx rfl (hb hby d2_38) rfl ?_
    show Steps p.tables e below (s₁.setTop (mkF m 39 #[.val (.ref rb), .val (.int q1), .val (.int (3 : Int32)), .val (.long v17), .second, .val (.int (((q1 + (1 : Int32)) + (1 : Int32)) + (1 : Int32)))] [(.long v17)])) _
    refine XS.lloadN X0.here hx rfl (hb hby d2_39) rfl ?_
    show Steps p.tables e below (s₁.setTop (mkF m 40 #[.val (.ref rb), .val (.int q1), .val (.int (3 : Int32)), .val (.long v17), .second, .val (.int (((q1 + (1 : Int32)) + (1 : Int32)) + (1 : Int32)))] [(.long v17), (.long v17)])) _
    refine XS.bipush X0.here hx rfl (hb hby d2_40) ?_
    show Steps p.tables e below (s₁.setTop (mkF m 42 #[.val (.ref rb), .val (.int q1), .val (.int (3 : Int32)), .val (.long v17), .second, .val (.int (((q1 + (1 : Int32)) + (1 : Int32)) + (1 : Int32)))] [(.int (29 : Int32)), (.long v17), (.long v17)])) _
    refine XS.lushr X0.here hx rfl (hb hby d2_42) rfl ?_
    show Steps p.tables e below (s₁.setTop (mkF m 43 #[.val (.ref rb), .val (.int q1), .val (.int (3 : Int32)), .val (.long v17), .second, .val (.int (((q1 + (1 : Int32)) + (1 : Int32)) + (1 : Int32)))] [(.long ((v17).toUInt64 >>> ((29 : Int32) &&& 0x3f).toInt64.toUInt64).toInt64), (.long v17)])) _
    refine XS.lxor X0.here hx rfl (hb hby d2_43) rfl ?_
    show Steps p.tables e below (s₁.setTop (mkF m 44 #[.val (.ref rb), .val (.int q1), .val (.int (3 : Int32)), .val (.long v17), .second, .val (.int (((q1 + (1 : Int32)) + (1 : Int32)) + (1 : Int32)))] [(.long (v17 ^^^ ((v17).toUInt64 >>> ((29 : Int32) &&& 0x3f).toInt64.toUInt64).toInt64))])) _
    refine X0.ldc2Long hx hown (mvT hZ (hw _ (List.mem_of_getElem? (i := 11) rfl))) (g := (mkF m 44 #[.val (.ref rb), .val (.int q1), .val (.int (3 : Int32)), .val (.long v17), .second, .val (.int (((q1 + (1 : Int32)) + (1 : Int32)) + (1 : Int32)))] [(.long (v17 ^^^ ((v17).toUInt64 >>> ((29 : Int32) &&& 0x3f).toInt64.toUInt64).toInt64))])) rfl (hb hby d2_44) _ ?_
    show Steps p.tables e below (s₁.setTop (mkF m 47 #[.val (.ref rb), .val (.int q1), .val (.int (3 : Int32)), .val (.long v17), .second, .val (.int (((q1 + (1 : Int32)) + (1 : Int32)) + (1 : Int32)))] [(.long (-7723592293110705685 : Int64)), (.long (v17 ^^^ ((v17).toUInt64 >>> ((29 : Int32) &&& 0x3f).toInt64.toUInt64).toInt64))])) _
    refine XS.lmul X0.here hx rfl (hb hby d2_47) rfl ?_
    exact k
  obtain ⟨fs, hr, hrun, hended, hW, hsame⟩ := X0.leave (v := some (.int ((v20 ^^^ ((v20).toUInt64 >>> ((32 : Int32) &&& 0x3f).toInt64.toUInt64).toInt64)).toInt32)) (fun h => by rw [Bd.returns] at h; cases h) hlk
  refine ⟨_, _, pre21 _ ?_, hrun, hended, _, _, rfl, ?_, ⟨_, rfl⟩, hW, hsame.mono (by decide) (by decide)⟩
  · show Steps p.tables e below (s₁.setTop (mkF m 48 #[.val (.ref rb), .val (.int q1), .val (.int (3 : Int32)), .val (.long v17), .second, .val (.int (((q1 + (1 : Int32)) + (1 : Int32)) + (1 : Int32)))] [(.long v20)])) _
    refine XS.lstoreN X0.here hx rfl (hb hby d2_48) rfl (l' := #[.val (.ref rb), .val (.int q1), .val (.int (3 : Int32)), .val (.long v20), .second, .val (.int (((q1 + (1 : Int32)) + (1 : Int32)) + (1 : Int32)))]) rfl ?_
    show Steps p.tables e below (s₁.setTop (mkF m 49 #[.val (.ref rb), .val (.int q1), .val (.int (3 : Int32)), .val (.long v20), .second, .val (.int (((q1 + (1 : Int32)) + (1 : Int32)) + (1 : Int32)))] [])) _
    refine XS.lloadN X0.here hx rfl (hb hby d2_49) rfl ?_
    show Steps p.tables e below (s₁.setTop (mkF m 50 #[.val (.ref rb), .val (.int q1), .val (.int (3 : Int32)), .val (.long v20), .second, .val (.int (((q1 + (1 : Int32)) + (1 : Int32)) + (1 : Int32)))] [(.long v20)])) _
    refine XS.lloadN X0.here hx rfl (hb hby d2_50) rfl ?_
    show Steps p.tables e below (s₁.setTop (mkF m 51 #[.val (.ref rb), .val (.int q1), .val (.int (3 : Int32)), .val (.long v20), .second, .val (.int (((q1 + (1 : Int32)) + (1 : Int32)) + (1 : Int32)))] [(.long v20), (.long v20)])) _
    refine XS.bipush X0.here hx rfl (hb hby d2_51) ?_
    show Steps p.tables e below (s₁.setTop (mkF m 53 #[.val (.ref rb), .val (.int q1), .val (.int (3 : Int32)), .val (.long v20), .second, .val (.int (((q1 + (1 : Int32)) + (1 : Int32)) + (1 : Int32)))] [(.int (32 : Int32)), (.long v20), (.long v20)])) _
    refine XS.lushr X0.here hx rfl (hb hby d2_53) rfl ?_
    show Steps p.tables e below (s₁.setTop (mkF m 54 #[.val (.ref rb), .val (.int q1), .val (.int (3 : Int32)), .val (.long v20), .second, .val (.int (((q1 + (1 : Int32)) + (1 : Int32)) + (1 : Int32)))] [(.long ((v20).toUInt64 >>> ((32 : Int32) &&& 0x3f).toInt64.toUInt64).toInt64), (.long v20)])) _
    refine XS.lxor X0.here hx rfl (hb hby d2_54) rfl ?_
    show Steps p.tables e below (s₁.setTop (mkF m 55 #[.val (.ref rb), .val (.int q1), .val (.int (3 : Int32)), .val (.long v20), .second, .val (.int (((q1 + (1 : Int32)) + (1 : Int32)) + (1 : Int32)))] [(.long (v20 ^^^ ((v20).toUInt64 >>> ((32 : Int32) &&& 0x3f).toInt64.toUInt64).toInt64))])) _
    refine XS.l2i X0.here hx rfl (hb hby d2_55) rfl ?_
    show Steps p.tables e below (s₁.setTop (mkF m 56 #[.val (.ref rb), .val (.int q1), .val (.int (3 : Int32)), .val (.long v20), .second, .val (.int (((q1 + (1 : Int32)) + (1 : Int32)) + (1 : Int32)))] [(.int ((v20 ^^^ ((v20).toUInt64 >>> ((32 : Int32) &&& 0x3f).toInt64.toUInt64).toInt64)).toInt32)])) _
    exact retI X0 hx Bd.returns (hb hby d2_56) hr
  · show Q2_3 Z rb q1 xs h0 n0 _ s₁.heap _
    rw [e0]
    exact ⟨by have w_hv20 := hv20.symm; subst w_hv20; have w_hv17 := hv17.symm; subst w_hv17; have w_hv15 := hv15.symm; subst w_hv15; have w_hv11 := hv11.symm; subst w_hv11; have w_hv9 := hv9.symm; subst w_hv9; have w_hv5 := hv5.symm; subst w_hv5; have w_hv3 := hv3.symm; subst w_hv3; rfl, N0, rfl⟩
theorem ef_0 (m : MethodId) (q0 : Int64) (q1 : Int64) (q2 : Int64) (q3 : Int64) (q4 : Int64) (q5 : Int32) : entryFrame m #[(.long q0), (.long q1), (.long q2), (.long q3), (.long q4), (.int q5)] maxLocals = mkF m 0 #[.val (.long q0), .second, .val (.long q1), .second, .val (.long q2), .second, .val (.long q3), .second, .val (.long q4), .second, .val (.int q5), .unset, .unset, .unset, .unset, .unset, .unset] [] := by first | (simp [entryFrame, mkF, argsToLocals, Value.category, maxLocals]; done) | rfl
theorem pd_4 : parseMethodDescriptor "([JIIJJJ)V" = some ⟨[(.array .long), .int, .int, .long, .long, .long], none⟩ := by decide +kernel
theorem pd_5 : parseMethodDescriptor "([JII)I" = some ⟨[(.array .long), .int, .int], some .int⟩ := by decide +kernel
def own_f0 (q0 : Int64) (q1 : Int64) (q2 : Int64) (q3 : Int64) (q4 : Int64) (q5 : Int32) : Int32 := let v1 := (q5 &&& (3 : Int32))
  (if v1 = (0 : Int32) then let v3 := ((((q5).toUInt32 >>> ((2 : Int32) &&& 31).toUInt32).toInt32 &&& (2147483647 : Int32)) % (7 : Int32))
  let v5 := ((((q5).toUInt32 >>> ((8 : Int32) &&& 31).toUInt32).toInt32 &&& (2147483647 : Int32)) % (7 : Int32))
  (if (own_f2_0 v3 (([q3, q3, q3, q3, q3, q3]))) = (own_f2_0 v5 (([q4, q4, q4, q4, q4, q4]))) then (1 : Int32) else (0 : Int32)) else (if v1 = (1 : Int32) then let v27 := ((((q5).toUInt32 >>> ((2 : Int32) &&& 31).toUInt32).toInt32 &&& (2147483647 : Int32)) % (6 : Int32))
  let v29 := ((((q5).toUInt32 >>> ((8 : Int32) &&& 31).toUInt32).toInt32 &&& (2147483647 : Int32)) % (6 : Int32))
  (if (own_f2_1 v27 ((([q3, q3, q3, q3, q3, q3]).set (v27).toInt.toNat q0))) = (own_f2_1 v29 ((([q4, q4, q4, q4, q4, q4]).set (v29).toInt.toNat q0))) then (1 : Int32) else (0 : Int32)) else (if v1 = (2 : Int32) then let v51 := ((((q5).toUInt32 >>> ((2 : Int32) &&& 31).toUInt32).toInt32 &&& (2147483647 : Int32)) % (5 : Int32))
  let v53 := ((((q5).toUInt32 >>> ((8 : Int32) &&& 31).toUInt32).toInt32 &&& (2147483647 : Int32)) % (5 : Int32))
  (if (own_f2_2 v51 (((([q3, q3, q3, q3, q3, q3]).set (v51).toInt.toNat q0).set ((v51 + (1 : Int32))).toInt.toNat q1))) = (own_f2_2 v53 (((([q4, q4, q4, q4, q4, q4]).set (v53).toInt.toNat q0).set ((v53 + (1 : Int32))).toInt.toNat q1))) then (1 : Int32) else (0 : Int32)) else let v75 := ((((q5).toUInt32 >>> ((2 : Int32) &&& 31).toUInt32).toInt32 &&& (2147483647 : Int32)) % (4 : Int32))
  let v77 := ((((q5).toUInt32 >>> ((8 : Int32) &&& 31).toUInt32).toInt32 &&& (2147483647 : Int32)) % (4 : Int32))
  (if (own_f2_3 v75 ((((([q3, q3, q3, q3, q3, q3]).set (v75).toInt.toNat q0).set ((v75 + (1 : Int32))).toInt.toNat q1).set ((v75 + (2 : Int32))).toInt.toNat q2))) = (own_f2_3 v77 ((((([q4, q4, q4, q4, q4, q4]).set (v77).toInt.toNat q0).set ((v77 + (1 : Int32))).toInt.toNat q1).set ((v77 + (2 : Int32))).toInt.toNat q2))) then (1 : Int32) else (0 : Int32)))))
def Q0 (Z : State) (q0 : Int64) (q1 : Int64) (q2 : Int64) (q3 : Int64) (q4 : Int64) (q5 : Int32)  (h0 : Heap) (n0 : Nat) (v : Option Value) (h : Heap) (L : List Loc) : Prop := v = some (.int (own_f0 q0 q1 q2 q3 q4 q5)) ∧ Fr n0 L
set_option maxRecDepth 65536 in
set_option maxHeartbeats 40000000 in
theorem rm0 (l : Launch) (Z : State) (a0 : Array Value) (hw : ∀ d ∈ tables_1, d.before a0 Z = true) (ws : List Jvm.Cond) (q0 : Int64) (q1 : Int64) (q2 : Int64) (q3 : Int64) (q4 : Int64) (q5 : Int32)  (h0 : Heap) (n0 : Nat) (Z0 : n0 ≤ h0.size)  :
    MetFree l x (head1 (Jvm.Cond.code x code maxLocals ret :: ws) room_1) (fun a U => a = #[(.long q0), (.long q1), (.long q2), (.long q3), (.long q4), (.int q5)] ∧ Z.Warmed39 U.vm ∧ U.heap = h0) (fun _ _ _ _ _ => True) (fun _ U o U' => ∃ v L, o = .returned v ∧ Q0 Z q0 q1 q2 q3 q4 q5 h0 n0 v U'.heap L ∧ FrameEnd U o U' L room_1.cells room_1.slots) := by
  refine MetFree.of_bodySF (plainFor_of_name pn_1) hisR ?_
  intro p e s m args below meth c s₁ Bd hml0 hP hK
  obtain ⟨rfl, hZ, hh⟩ := hP
  have hx := Bd.exec
  have hby := Bd.bytes
  have hml : c.maxLocals = 17 := hml0
  have hown : s.vm.findClass "com/example/cubeshare/cubeshare/model/TuplesHashPinLaw" = some m.cls := findClass_of_methodNamed Bd.named
  have hnm := (name_of_methodNamed Bd.named Bd.method).1
  have X0 : Stand p l e room_1 s m #[(.long q0), (.long q1), (.long q2), (.long q3), (.long q4), (.int q5)] below meth c s₁ [] 0 0 := Stand.of_body Bd
  have hlk : meth.locks = false := by first | exact BodyLoose.notSynchronized (by assumption) | exact Body.notSynchronized (by assumption)
  have e0 : s₁.heap = h0 := by rw [← hh, Bd.state]; rfl
  have N0 := Fr.nil n0
  have pre0 : ∀ t, Steps p.tables e below (s₁.setTop (mkF m 0 #[.val (.long q0), .second, .val (.long q1), .second, .val (.long q2), .second, .val (.long q3), .second, .val (.long q4), .second, .val (.int q5), .unset, .unset, .unset, .unset, .unset, .unset] [])) t → Steps p.tables e below (s₁.setTop (entryFrame m #[(.long q0), (.long q1), (.long q2), (.long q3), (.long q4), (.int q5)] maxLocals)) t := fun t k => castTop (ef_0 m q0 q1 q2 q3 q4 q5) k
  obtain ⟨v1, hv1⟩ : ∃ z : Int32, z = (q5 &&& (3 : Int32)) := ⟨_, rfl⟩
  have pre2 : ∀ t, Steps p.tables e below (s₁.setTop (mkF m 4 #[.val (.long q0), .second, .val (.long q1), .second, .val (.long q2), .second, .val (.long q3), .second, .val (.long q4), .second, .val (.int q5), .unset, .unset, .unset, .unset, .unset, .unset] [(.int v1)])) t → Steps p.tables e below (s₁.setTop (entryFrame m #[(.long q0), (.long q1), (.long q2), (.long q3), (.long q4), (.int q5)] maxLocals)) t := by
    rw [hv1]
    intro t k
    refine pre0 t ?_
    show Steps p.tables e below (s₁.setTop (mkF m 0 #[.val (.long q0), .second, .val (.long q1), .second, .val (.long q2), .second, .val (.long q3), .second, .val (.long q4), .second, .val (.int q5), .unset, .unset, .unset, .unset, .unset, .unset] [])) _
    refine XS.iload X0.here hx rfl (hb hby at_0) rfl ?_
    show Steps p.tables e below (s₁.setTop (mkF m 2 #[.val (.long q0), .second, .val (.long q1), .second, .val (.long q2), .second, .val (.long q3), .second, .val (.long q4), .second, .val (.int q5), .unset, .unset, .unset, .unset, .unset, .unset] [(.int q5)])) _
    refine XS.iconst X0.here hx rfl (hb hby at_2) ?_
    show Steps p.tables e below (s₁.setTop (mkF m 3 #[.val (.long q0), .second, .val (.long q1), .second, .val (.long q2), .second, .val (.long q3), .second, .val (.long q4), .second, .val (.int q5), .unset, .unset, .unset, .unset, .unset, .unset] [(.int (3 : Int32)), (.int q5)])) _
    refine XS.iand X0.here hx rfl (hb hby at_3) rfl ?_
    exact k
  rcases own_four hv1 with rfl | rfl | rfl | rfl
  · obtain ⟨v3, hv3⟩ : ∃ z : Int32, z = ((((q5).toUInt32 >>> ((2 : Int32) &&& 31).toUInt32).toInt32 &&& (2147483647 : Int32)) % (7 : Int32)) := ⟨_, rfl⟩
    have pre4 : ∀ t, Steps p.tables e below (s₁.setTop (mkF m 23 #[.val (.long q0), .second, .val (.long q1), .second, .val (.long q2), .second, .val (.long q3), .second, .val (.long q4), .second, .val (.int q5), .val (.int (0 : Int32)), .val (.int (7 : Int32)), .unset, .unset, .unset, .unset] [(.int v3)])) t → Steps p.tables e below (s₁.setTop (entryFrame m #[(.long q0), (.long q1), (.long q2), (.long q3), (.long q4), (.int q5)] maxLocals)) t := by
      rw [hv3]
      intro t k
      refine pre2 t ?_
      show Steps p.tables e below (s₁.setTop (mkF m 4 #[.val (.long q0), .second, .val (.long q1), .second, .val (.long q2), .second, .val (.long q3), .second, .val (.long q4), .second, .val (.int q5), .unset, .unset, .unset, .unset, .unset, .unset] [(.int (0 : Int32))])) _
      refine XS.istore X0.here hx rfl (hb hby at_4) rfl (l' := #[.val (.long q0), .second, .val (.long q1), .second, .val (.long q2), .second, .val (.long q3), .second, .val (.long q4), .second, .val (.int q5), .val (.int (0 : Int32)), .unset, .unset, .unset, .unset, .unset]) rfl ?_
      show Steps p.tables e below (s₁.setTop (mkF m 6 #[.val (.long q0), .second, .val (.long q1), .second, .val (.long q2), .second, .val (.long q3), .second, .val (.long q4), .second, .val (.int q5), .val (.int (0 : Int32)), .unset, .unset, .unset, .unset, .unset] [])) _
      refine XS.bipush X0.here hx rfl (hb hby at_6) ?_
      show Steps p.tables e below (s₁.setTop (mkF m 8 #[.val (.long q0), .second, .val (.long q1), .second, .val (.long q2), .second, .val (.long q3), .second, .val (.long q4), .second, .val (.int q5), .val (.int (0 : Int32)), .unset, .unset, .unset, .unset, .unset] [(.int (7 : Int32))])) _
      refine XS.iload X0.here hx rfl (hb hby at_8) rfl ?_
      show Steps p.tables e below (s₁.setTop (mkF m 10 #[.val (.long q0), .second, .val (.long q1), .second, .val (.long q2), .second, .val (.long q3), .second, .val (.long q4), .second, .val (.int q5), .val (.int (0 : Int32)), .unset, .unset, .unset, .unset, .unset] [(.int (0 : Int32)), (.int (7 : Int32))])) _
      refine XS.isub X0.here hx rfl (hb hby at_10) rfl ?_
      show Steps p.tables e below (s₁.setTop (mkF m 11 #[.val (.long q0), .second, .val (.long q1), .second, .val (.long q2), .second, .val (.long q3), .second, .val (.long q4), .second, .val (.int q5), .val (.int (0 : Int32)), .unset, .unset, .unset, .unset, .unset] [(.int (7 : Int32))])) _
      refine XS.istore X0.here hx rfl (hb hby at_11) rfl (l' := #[.val (.long q0), .second, .val (.long q1), .second, .val (.long q2), .second, .val (.long q3), .second, .val (.long q4), .second, .val (.int q5), .val (.int (0 : Int32)), .val (.int (7 : Int32)), .unset, .unset, .unset, .unset]) rfl ?_
      show Steps p.tables e below (s₁.setTop (mkF m 13 #[.val (.long q0), .second, .val (.long q1), .second, .val (.long q2), .second, .val (.long q3), .second, .val (.long q4), .second, .val (.int q5), .val (.int (0 : Int32)), .val (.int (7 : Int32)), .unset, .unset, .unset, .unset] [])) _
      refine XS.iload X0.here hx rfl (hb hby at_13) rfl ?_
      show Steps p.tables e below (s₁.setTop (mkF m 15 #[.val (.long q0), .second, .val (.long q1), .second, .val (.long q2), .second, .val (.long q3), .second, .val (.long q4), .second, .val (.int q5), .val (.int (0 : Int32)), .val (.int (7 : Int32)), .unset, .unset, .unset, .unset] [(.int q5)])) _
      refine XS.iconst X0.here hx rfl (hb hby at_15) ?_
      show Steps p.tables e below (s₁.setTop (mkF m 16 #[.val (.long q0), .second, .val (.long q1), .second, .val (.long q2), .second, .val (.long q3), .second, .val (.long q4), .second, .val (.int q5), .val (.int (0 : Int32)), .val (.int (7 : Int32)), .unset, .unset, .unset, .unset] [(.int (2 : Int32)), (.int q5)])) _
      refine XS.iushr X0.here hx rfl (hb hby at_16) rfl ?_
      show Steps p.tables e below (s₁.setTop (mkF m 17 #[.val (.long q0), .second, .val (.long q1), .second, .val (.long q2), .second, .val (.long q3), .second, .val (.long q4), .second, .val (.int q5), .val (.int (0 : Int32)), .val (.int (7 : Int32)), .unset, .unset, .unset, .unset] [(.int ((q5).toUInt32 >>> ((2 : Int32) &&& 31).toUInt32).toInt32)])) _
      refine X0.ldcInt hx hown (mvT hZ (hw _ (List.mem_of_getElem? (i := 0) rfl))) (g := (mkF m 17 #[.val (.long q0), .second, .val (.long q1), .second, .val (.long q2), .second, .val (.long q3), .second, .val (.long q4), .second, .val (.int q5), .val (.int (0 : Int32)), .val (.int (7 : Int32)), .unset, .unset, .unset, .unset] [(.int ((q5).toUInt32 >>> ((2 : Int32) &&& 31).toUInt32).toInt32)])) rfl (hb hby at_17) _ ?_
      show Steps p.tables e below (s₁.setTop (mkF m 19 #[.val (.long q0), .second, .val (.long q1), .second, .val (.long q2), .second, .val (.long q3), .second, .val (.long q4), .second, .val (.int q5), .val (.int (0 : Int32)), .val (.int (7 : Int32)), .unset, .unset, .unset, .unset] [(.int (2147483647 : Int32)), (.int ((q5).toUInt32 >>> ((2 : Int32) &&& 31).toUInt32).toInt32)])) _
      refine XS.iand X0.here hx rfl (hb hby at_19) rfl ?_
      show Steps p.tables e below (s₁.setTop (mkF m 20 #[.val (.long q0), .second, .val (.long q1), .second, .val (.long q2), .second, .val (.long q3), .second, .val (.long q4), .second, .val (.int q5), .val (.int (0 : Int32)), .val (.int (7 : Int32)), .unset, .unset, .unset, .unset] [(.int (((q5).toUInt32 >>> ((2 : Int32) &&& 31).toUInt32).toInt32 &&& (2147483647 : Int32)))])) _
      refine XS.iload X0.here hx rfl (hb hby at_20) rfl ?_
      show Steps p.tables e below (s₁.setTop (mkF m 22 #[.val (.long q0), .second, .val (.long q1), .second, .val (.long q2), .second, .val (.long q3), .second, .val (.long q4), .second, .val (.int q5), .val (.int (0 : Int32)), .val (.int (7 : Int32)), .unset, .unset, .unset, .unset] [(.int (7 : Int32)), (.int (((q5).toUInt32 >>> ((2 : Int32) &&& 31).toUInt32).toInt32 &&& (2147483647 : Int32)))])) _
      refine iremM X0 hx rfl (hb hby at_22) rfl (by decide) ?_
      exact k
    obtain ⟨v5, hv5⟩ : ∃ z : Int32, z = ((((q5).toUInt32 >>> ((8 : Int32) &&& 31).toUInt32).toInt32 &&& (2147483647 : Int32)) % (7 : Int32)) := ⟨_, rfl⟩
    have pre6 : ∀ t, Steps p.tables e below (s₁.setTop (mkF m 36 #[.val (.long q0), .second, .val (.long q1), .second, .val (.long q2), .second, .val (.long q3), .second, .val (.long q4), .second, .val (.int q5), .val (.int (0 : Int32)), .val (.int (7 : Int32)), .val (.int v3), .unset, .unset, .unset] [(.int v5)])) t → Steps p.tables e below (s₁.setTop (entryFrame m #[(.long q0), (.long q1), (.long q2), (.long q3), (.long q4), (.int q5)] maxLocals)) t := by
      rw [hv5]
      intro t k
      refine pre4 t ?_
      show Steps p.tables e below (s₁.setTop (mkF m 23 #[.val (.long q0), .second, .val (.long q1), .second, .val (.long q2), .second, .val (.long q3), .second, .val (.long q4), .second, .val (.int q5), .val (.int (0 : Int32)), .val (.int (7 : Int32)), .unset, .unset, .unset, .unset] [(.int v3)])) _
      refine XS.istore X0.here hx rfl (hb hby at_23) rfl (l' := #[.val (.long q0), .second, .val (.long q1), .second, .val (.long q2), .second, .val (.long q3), .second, .val (.long q4), .second, .val (.int q5), .val (.int (0 : Int32)), .val (.int (7 : Int32)), .val (.int v3), .unset, .unset, .unset]) rfl ?_
      show Steps p.tables e below (s₁.setTop (mkF m 25 #[.val (.long q0), .second, .val (.long q1), .second, .val (.long q2), .second, .val (.long q3), .second, .val (.long q4), .second, .val (.int q5), .val (.int (0 : Int32)), .val (.int (7 : Int32)), .val (.int v3), .unset, .unset, .unset] [])) _
      refine XS.iload X0.here hx rfl (hb hby at_25) rfl ?_
      show Steps p.tables e below (s₁.setTop (mkF m 27 #[.val (.long q0), .second, .val (.long q1), .second, .val (.long q2), .second, .val (.long q3), .second, .val (.long q4), .second, .val (.int q5), .val (.int (0 : Int32)), .val (.int (7 : Int32)), .val (.int v3), .unset, .unset, .unset] [(.int q5)])) _
      refine XS.bipush X0.here hx rfl (hb hby at_27) ?_
      show Steps p.tables e below (s₁.setTop (mkF m 29 #[.val (.long q0), .second, .val (.long q1), .second, .val (.long q2), .second, .val (.long q3), .second, .val (.long q4), .second, .val (.int q5), .val (.int (0 : Int32)), .val (.int (7 : Int32)), .val (.int v3), .unset, .unset, .unset] [(.int (8 : Int32)), (.int q5)])) _
      refine XS.iushr X0.here hx rfl (hb hby at_29) rfl ?_
      show Steps p.tables e below (s₁.setTop (mkF m 30 #[.val (.long q0), .second, .val (.long q1), .second, .val (.long q2), .second, .val (.long q3), .second, .val (.long q4), .second, .val (.int q5), .val (.int (0 : Int32)), .val (.int (7 : Int32)), .val (.int v3), .unset, .unset, .unset] [(.int ((q5).toUInt32 >>> ((8 : Int32) &&& 31).toUInt32).toInt32)])) _
      refine X0.ldcInt hx hown (mvT hZ (hw _ (List.mem_of_getElem? (i := 0) rfl))) (g := (mkF m 30 #[.val (.long q0), .second, .val (.long q1), .second, .val (.long q2), .second, .val (.long q3), .second, .val (.long q4), .second, .val (.int q5), .val (.int (0 : Int32)), .val (.int (7 : Int32)), .val (.int v3), .unset, .unset, .unset] [(.int ((q5).toUInt32 >>> ((8 : Int32) &&& 31).toUInt32).toInt32)])) rfl (hb hby at_30) _ ?_
      show Steps p.tables e below (s₁.setTop (mkF m 32 #[.val (.long q0), .second, .val (.long q1), .second, .val (.long q2), .second, .val (.long q3), .second, .val (.long q4), .second, .val (.int q5), .val (.int (0 : Int32)), .val (.int (7 : Int32)), .val (.int v3), .unset, .unset, .unset] [(.int (2147483647 : Int32)), (.int ((q5).toUInt32 >>> ((8 : Int32) &&& 31).toUInt32).toInt32)])) _
      refine XS.iand X0.here hx rfl (hb hby at_32) rfl ?_
      show Steps p.tables e below (s₁.setTop (mkF m 33 #[.val (.long q0), .second, .val (.long q1), .second, .val (.long q2), .second, .val (.long q3), .second, .val (.long q4), .second, .val (.int q5), .val (.int (0 : Int32)), .val (.int (7 : Int32)), .val (.int v3), .unset, .unset, .unset] [(.int (((q5).toUInt32 >>> ((8 : Int32) &&& 31).toUInt32).toInt32 &&& (2147483647 : Int32)))])) _
      refine XS.iload X0.here hx rfl (hb hby at_33) rfl ?_
      show Steps p.tables e below (s₁.setTop (mkF m 35 #[.val (.long q0), .second, .val (.long q1), .second, .val (.long q2), .second, .val (.long q3), .second, .val (.long q4), .second, .val (.int q5), .val (.int (0 : Int32)), .val (.int (7 : Int32)), .val (.int v3), .unset, .unset, .unset] [(.int (7 : Int32)), (.int (((q5).toUInt32 >>> ((8 : Int32) &&& 31).toUInt32).toInt32 &&& (2147483647 : Int32)))])) _
      refine iremM X0 hx rfl (hb hby at_35) rfl (by decide) ?_
      exact k
    obtain ⟨T7, h7, cA7, X7, e7, E7, A7, st7⟩ := newP X0 hx hZ (aty := .long) (hw _ (List.mem_of_getElem? (i := 1) rfl)) e0 (g := (mkF m 40 #[.val (.long q0), .second, .val (.long q1), .second, .val (.long q2), .second, .val (.long q3), .second, .val (.long q4), .second, .val (.int q5), .val (.int (0 : Int32)), .val (.int (7 : Int32)), .val (.int v3), .val (.int v5), .unset, .unset] [(.int (6 : Int32))])) rfl (hb hby at_40) rfl (by decide) (cap := 6) (by decide) (by decide) (by decide) (by decide)
    obtain ⟨a7, g7⟩ : ∃ z, z = h0.size := ⟨_, rfl⟩
    rw [← g7] at A7 st7
    have ge_a7 : n0 ≤ a7 := g7 ▸ Z0
    have sz7 : n0 ≤ h7.size := Nat.le_trans Z0 E7.1
    have V7_n : own_AJ Z h7 a7 [(0 : Int64), (0 : Int64), (0 : Int64), (0 : Int64), (0 : Int64), (0 : Int64)] := own_AJ_new A7 (k := 6) (by decide)
    obtain ⟨T8, h8, X8, e8, W8, V8, st8⟩ := own_lastore X7 hx hZ e7 V7_n (j := (0 : Int32)) (show 0 ≤ Int32.toInt (0 : Int32) ∧ Int32.toInt (0 : Int32) < ((6 : Nat) : Int) by decide) (x := q3) (hb hby at_46) (Ls := #[.val (.long q0), .second, .val (.long q1), .second, .val (.long q2), .second, .val (.long q3), .second, .val (.long q4), .second, .val (.int q5), .val (.int (0 : Int32)), .val (.int (7 : Int32)), .val (.int v3), .val (.int v5), .unset, .unset]) (rest := [(.ref a7)])
    have sz8 : n0 ≤ h8.size := Nat.le_trans sz7 (Keep.of_wr W8).1
    have N8 := Fr.snoc X8 N0 ge_a7
    have V8_n : own_AJ Z h8 a7 [q3, (0 : Int64), (0 : Int64), (0 : Int64), (0 : Int64), (0 : Int64)] := V8
    obtain ⟨T9, h9, X9, e9, W9, V9, st9⟩ := own_lastore X8 hx hZ e8 V8_n (j := (1 : Int32)) (show 0 ≤ Int32.toInt (1 : Int32) ∧ Int32.toInt (1 : Int32) < ((6 : Nat) : Int) by decide) (x := q3) (hb hby at_51) (Ls := #[.val (.long q0), .second, .val (.long q1), .second, .val (.long q2), .second, .val (.long q3), .second, .val (.long q4), .second, .val (.int q5), .val (.int (0 : Int32)), .val (.int (7 : Int32)), .val (.int v3), .val (.int v5), .unset, .unset]) (rest := [(.ref a7)])
    have sz9 : n0 ≤ h9.size := Nat.le_trans sz8 (Keep.of_wr W9).1
    have N9 := Fr.snoc X9 N8 ge_a7
    have V9_n : own_AJ Z h9 a7 [q3, q3, (0 : Int64), (0 : Int64), (0 : Int64), (0 : Int64)] := V9
    obtain ⟨T10, h10, X10, e10, W10, V10, st10⟩ := own_lastore X9 hx hZ e9 V9_n (j := (2 : Int32)) (show 0 ≤ Int32.toInt (2 : Int32) ∧ Int32.toInt (2 : Int32) < ((6 : Nat) : Int) by decide) (x := q3) (hb hby at_56) (Ls := #[.val (.long q0), .second, .val (.long q1), .second, .val (.long q2), .second, .val (.long q3), .second, .val (.long q4), .second, .val (.int q5), .val (.int (0 : Int32)), .val (.int (7 : Int32)), .val (.int v3), .val (.int v5), .unset, .unset]) (rest := [(.ref a7)])
    have sz10 : n0 ≤ h10.size := Nat.le_trans sz9 (Keep.of_wr W10).1
    have N10 := Fr.snoc X10 N9 ge_a7
    have V10_n : own_AJ Z h10 a7 [q3, q3, q3, (0 : Int64), (0 : Int64), (0 : Int64)] := V10
    obtain ⟨T11, h11, X11, e11, W11, V11, st11⟩ := own_lastore X10 hx hZ e10 V10_n (j := (3 : Int32)) (show 0 ≤ Int32.toInt (3 : Int32) ∧ Int32.toInt (3 : Int32) < ((6 : Nat) : Int) by decide) (x := q3) (hb hby at_61) (Ls := #[.val (.long q0), .second, .val (.long q1), .second, .val (.long q2), .second, .val (.long q3), .second, .val (.long q4), .second, .val (.int q5), .val (.int (0 : Int32)), .val (.int (7 : Int32)), .val (.int v3), .val (.int v5), .unset, .unset]) (rest := [(.ref a7)])
    have sz11 : n0 ≤ h11.size := Nat.le_trans sz10 (Keep.of_wr W11).1
    have N11 := Fr.snoc X11 N10 ge_a7
    have V11_n : own_AJ Z h11 a7 [q3, q3, q3, q3, (0 : Int64), (0 : Int64)] := V11
    obtain ⟨T12, h12, X12, e12, W12, V12, st12⟩ := own_lastore X11 hx hZ e11 V11_n (j := (4 : Int32)) (show 0 ≤ Int32.toInt (4 : Int32) ∧ Int32.toInt (4 : Int32) < ((6 : Nat) : Int) by decide) (x := q3) (hb hby at_66) (Ls := #[.val (.long q0), .second, .val (.long q1), .second, .val (.long q2), .second, .val (.long q3), .second, .val (.long q4), .second, .val (.int q5), .val (.int (0 : Int32)), .val (.int (7 : Int32)), .val (.int v3), .val (.int v5), .unset, .unset]) (rest := [(.ref a7)])
    have sz12 : n0 ≤ h12.size := Nat.le_trans sz11 (Keep.of_wr W12).1
    have N12 := Fr.snoc X12 N11 ge_a7
    have V12_n : own_AJ Z h12 a7 [q3, q3, q3, q3, q3, (0 : Int64)] := V12
    obtain ⟨T13, h13, X13, e13, W13, V13, st13⟩ := own_lastore X12 hx hZ e12 V12_n (j := (5 : Int32)) (show 0 ≤ Int32.toInt (5 : Int32) ∧ Int32.toInt (5 : Int32) < ((6 : Nat) : Int) by decide) (x := q3) (hb hby at_71) (Ls := #[.val (.long q0), .second, .val (.long q1), .second, .val (.long q2), .second, .val (.long q3), .second, .val (.long q4), .second, .val (.int q5), .val (.int (0 : Int32)), .val (.int (7 : Int32)), .val (.int v3), .val (.int v5), .unset, .unset]) (rest := [(.ref a7)])
    have sz13 : n0 ≤ h13.size := Nat.le_trans sz12 (Keep.of_wr W13).1
    have N13 := Fr.snoc X13 N12 ge_a7
    have V13_n : own_AJ Z h13 a7 [q3, q3, q3, q3, q3, q3] := V13
    obtain ⟨T14, h14, cA14, X14, e14, E14, A14, st14⟩ := newP X13 hx hZ (aty := .long) (hw _ (List.mem_of_getElem? (i := 1) rfl)) e13 (g := (mkF m 76 #[.val (.long q0), .second, .val (.long q1), .second, .val (.long q2), .second, .val (.long q3), .second, .val (.long q4), .second, .val (.int q5), .val (.int (0 : Int32)), .val (.int (7 : Int32)), .val (.int v3), .val (.int v5), .val (.ref a7), .unset] [(.int (6 : Int32))])) rfl (hb hby at_76) rfl (by decide) (cap := 6) (by decide) (by decide) (by decide) (by decide)
    obtain ⟨a14, g14⟩ : ∃ z, z = h13.size := ⟨_, rfl⟩
    rw [← g14] at A14 st14
    have ne_a7_a14 : a7 ≠ a14 := g14 ▸ Nat.ne_of_lt V13_n.lt
    have ge_a14 : n0 ≤ a14 := g14 ▸ sz13
    have V14_a7 : own_AJ Z h14 a7 [q3, q3, q3, q3, q3, q3] := V13_n.ext E14
    have sz14 : n0 ≤ h14.size := Nat.le_trans sz13 E14.1
    have V14_n : own_AJ Z h14 a14 [(0 : Int64), (0 : Int64), (0 : Int64), (0 : Int64), (0 : Int64), (0 : Int64)] := own_AJ_new A14 (k := 6) (by decide)
    obtain ⟨T15, h15, X15, e15, W15, V15, st15⟩ := own_lastore X14 hx hZ e14 V14_n (j := (0 : Int32)) (show 0 ≤ Int32.toInt (0 : Int32) ∧ Int32.toInt (0 : Int32) < ((6 : Nat) : Int) by decide) (x := q4) (hb hby at_82) (Ls := #[.val (.long q0), .second, .val (.long q1), .second, .val (.long q2), .second, .val (.long q3), .second, .val (.long q4), .second, .val (.int q5), .val (.int (0 : Int32)), .val (.int (7 : Int32)), .val (.int v3), .val (.int v5), .val (.ref a7), .unset]) (rest := [(.ref a14)])
    have V15_a7 : own_AJ Z h15 a7 [q3, q3, q3, q3, q3, q3] := V14_a7.other W15 ne_a7_a14
    have sz15 : n0 ≤ h15.size := Nat.le_trans sz14 (Keep.of_wr W15).1
    have N15 := Fr.snoc X15 N13 ge_a14
    have V15_n : own_AJ Z h15 a14 [q4, (0 : Int64), (0 : Int64), (0 : Int64), (0 : Int64), (0 : Int64)] := V15
    obtain ⟨T16, h16, X16, e16, W16, V16, st16⟩ := own_lastore X15 hx hZ e15 V15_n (j := (1 : Int32)) (show 0 ≤ Int32.toInt (1 : Int32) ∧ Int32.toInt (1 : Int32) < ((6 : Nat) : Int) by decide) (x := q4) (hb hby at_87) (Ls := #[.val (.long q0), .second, .val (.long q1), .second, .val (.long q2), .second, .val (.long q3), .second, .val (.long q4), .second, .val (.int q5), .val (.int (0 : Int32)), .val (.int (7 : Int32)), .val (.int v3), .val (.int v5), .val (.ref a7), .unset]) (rest := [(.ref a14)])
    have V16_a7 : own_AJ Z h16 a7 [q3, q3, q3, q3, q3, q3] := V15_a7.other W16 ne_a7_a14
    have sz16 : n0 ≤ h16.size := Nat.le_trans sz15 (Keep.of_wr W16).1
    have N16 := Fr.snoc X16 N15 ge_a14
    have V16_n : own_AJ Z h16 a14 [q4, q4, (0 : Int64), (0 : Int64), (0 : Int64), (0 : Int64)] := V16
    obtain ⟨T17, h17, X17, e17, W17, V17, st17⟩ := own_lastore X16 hx hZ e16 V16_n (j := (2 : Int32)) (show 0 ≤ Int32.toInt (2 : Int32) ∧ Int32.toInt (2 : Int32) < ((6 : Nat) : Int) by decide) (x := q4) (hb hby at_92) (Ls := #[.val (.long q0), .second, .val (.long q1), .second, .val (.long q2), .second, .val (.long q3), .second, .val (.long q4), .second, .val (.int q5), .val (.int (0 : Int32)), .val (.int (7 : Int32)), .val (.int v3), .val (.int v5), .val (.ref a7), .unset]) (rest := [(.ref a14)])
    have V17_a7 : own_AJ Z h17 a7 [q3, q3, q3, q3, q3, q3] := V16_a7.other W17 ne_a7_a14
    have sz17 : n0 ≤ h17.size := Nat.le_trans sz16 (Keep.of_wr W17).1
    have N17 := Fr.snoc X17 N16 ge_a14
    have V17_n : own_AJ Z h17 a14 [q4, q4, q4, (0 : Int64), (0 : Int64), (0 : Int64)] := V17
    obtain ⟨T18, h18, X18, e18, W18, V18, st18⟩ := own_lastore X17 hx hZ e17 V17_n (j := (3 : Int32)) (show 0 ≤ Int32.toInt (3 : Int32) ∧ Int32.toInt (3 : Int32) < ((6 : Nat) : Int) by decide) (x := q4) (hb hby at_97) (Ls := #[.val (.long q0), .second, .val (.long q1), .second, .val (.long q2), .second, .val (.long q3), .second, .val (.long q4), .second, .val (.int q5), .val (.int (0 : Int32)), .val (.int (7 : Int32)), .val (.int v3), .val (.int v5), .val (.ref a7), .unset]) (rest := [(.ref a14)])
    have V18_a7 : own_AJ Z h18 a7 [q3, q3, q3, q3, q3, q3] := V17_a7.other W18 ne_a7_a14
    have sz18 : n0 ≤ h18.size := Nat.le_trans sz17 (Keep.of_wr W18).1
    have N18 := Fr.snoc X18 N17 ge_a14
    have V18_n : own_AJ Z h18 a14 [q4, q4, q4, q4, (0 : Int64), (0 : Int64)] := V18
    obtain ⟨T19, h19, X19, e19, W19, V19, st19⟩ := own_lastore X18 hx hZ e18 V18_n (j := (4 : Int32)) (show 0 ≤ Int32.toInt (4 : Int32) ∧ Int32.toInt (4 : Int32) < ((6 : Nat) : Int) by decide) (x := q4) (hb hby at_102) (Ls := #[.val (.long q0), .second, .val (.long q1), .second, .val (.long q2), .second, .val (.long q3), .second, .val (.long q4), .second, .val (.int q5), .val (.int (0 : Int32)), .val (.int (7 : Int32)), .val (.int v3), .val (.int v5), .val (.ref a7), .unset]) (rest := [(.ref a14)])
    have V19_a7 : own_AJ Z h19 a7 [q3, q3, q3, q3, q3, q3] := V18_a7.other W19 ne_a7_a14
    have sz19 : n0 ≤ h19.size := Nat.le_trans sz18 (Keep.of_wr W19).1
    have N19 := Fr.snoc X19 N18 ge_a14
    have V19_n : own_AJ Z h19 a14 [q4, q4, q4, q4, q4, (0 : Int64)] := V19
    obtain ⟨T20, h20, X20, e20, W20, V20, st20⟩ := own_lastore X19 hx hZ e19 V19_n (j := (5 : Int32)) (show 0 ≤ Int32.toInt (5 : Int32) ∧ Int32.toInt (5 : Int32) < ((6 : Nat) : Int) by decide) (x := q4) (hb hby at_107) (Ls := #[.val (.long q0), .second, .val (.long q1), .second, .val (.long q2), .second, .val (.long q3), .second, .val (.long q4), .second, .val (.int q5), .val (.int (0 : Int32)), .val (.int (7 : Int32)), .val (.int v3), .val (.int v5), .val (.ref a7), .unset]) (rest := [(.ref a14)])
    have V20_a7 : own_AJ Z h20 a7 [q3, q3, q3, q3, q3, q3] := V19_a7.other W20 ne_a7_a14
    have sz20 : n0 ≤ h20.size := Nat.le_trans sz19 (Keep.of_wr W20).1
    have N20 := Fr.snoc X20 N19 ge_a14
    have V20_n : own_AJ Z h20 a14 [q4, q4, q4, q4, q4, q4] := V20
    obtain ⟨_, _, ⟨T21, L21, k21, n21⟩, -, X21, ⟨Lc21, hQ21, l21, y21, z21⟩, st21⟩ := Jvm.LawKit.callS X20 hx (y := (⟨"com/example/cubeshare/cubeshare/model/TuplesHashPinLaw", "put", "([JIIJJJ)V"⟩ : MethodName)) hown (mvT hZ (hw _ (List.mem_of_getElem? (i := 2) rfl))) (mvT hZ (hw _ (List.mem_of_getElem? (i := 3) rfl))) (mvT hZ (hw _ (List.mem_of_getElem? (i := 4) rfl))) (mvT hZ (hw _ (List.mem_of_getElem? (i := 5) rfl))) (by decide) (backOf (W := 0) (rm1_0 l Z a0 hw [] a7 v3 q0 q1 q2 [q3, q3, q3, q3, q3, q3] h20 n0 sz20 V20_a7 ge_a7 (by (try simp only [List.length_set]); exact own_off (len := 0) (L := 6) (by assumption) (k := 7) (by decide) (by decide)) (by (try simp only [List.length_set]); exact (by decide : 6 ≤ 100))) hZ (hw _ (List.mem_of_getElem? (i := 5) rfl)) (hw _ (List.mem_of_getElem? (i := 4) rfl)) (by decide) (by decide)) (g := (mkF m 120 #[.val (.long q0), .second, .val (.long q1), .second, .val (.long q2), .second, .val (.long q3), .second, .val (.long q4), .second, .val (.int q5), .val (.int (0 : Int32)), .val (.int (7 : Int32)), .val (.int v3), .val (.int v5), .val (.ref a7), .val (.ref a14)] [(.long q2), (.long q1), (.long q0), (.int (0 : Int32)), (.int v3), (.ref a7)])) rfl (by rw [hml]; rfl) (argsL := [(.ref a7), (.int v3), (.int (0 : Int32)), (.long q0), (.long q1), (.long q2)]) (rest := []) (lenOf pd_4 rfl) rfl (by show 2 * 0 + _ ≤ _; exact Nat.le_of_eq rfl) (hb hby at_120) (fun _ _ => ⟨rfl, e20, (by decide : 2 + 0 ≤ _), (by decide : 12 + 0 ≤ _)⟩)
    dsimp only [Pt.U, Pt.locs, Pt.cells, Pt.slots] at X21 l21 y21 z21 st21 hQ21
    subst l21 y21 z21
    obtain ⟨rfl, N21q, K21, V21_o0⟩ := hQ21
    obtain ⟨h21, e21⟩ : ∃ z, T21.heap = z := ⟨_, rfl⟩
    rw [e21] at K21 V21_o0
    have V21_a14 : own_AJ Z h21 a14 [q4, q4, q4, q4, q4, q4] := V20_n.keep K21 (ninS (Ne.symm ne_a7_a14) nin0)
    have sz21 : n0 ≤ h21.size := Nat.le_trans sz20 K21.1
    have N21 := Fr.app N20 N21q
    obtain ⟨_, _, ⟨T22, L22, k22, n22⟩, -, X22, ⟨Lc22, hQ22, l22, y22, z22⟩, st22⟩ := Jvm.LawKit.callS X21 hx (y := (⟨"com/example/cubeshare/cubeshare/model/TuplesHashPinLaw", "put", "([JIIJJJ)V"⟩ : MethodName)) hown (mvT hZ (hw _ (List.mem_of_getElem? (i := 2) rfl))) (mvT hZ (hw _ (List.mem_of_getElem? (i := 3) rfl))) (mvT hZ (hw _ (List.mem_of_getElem? (i := 4) rfl))) (mvT hZ (hw _ (List.mem_of_getElem? (i := 5) rfl))) (by decide) (backOf (W := 0) (rm1_0 l Z a0 hw [] a14 v5 q0 q1 q2 [q4, q4, q4, q4, q4, q4] h21 n0 sz21 V21_a14 ge_a14 (by (try simp only [List.length_set]); exact own_off (len := 0) (L := 6) (by assumption) (k := 7) (by decide) (by decide)) (by (try simp only [List.length_set]); exact (by decide : 6 ≤ 100))) hZ (hw _ (List.mem_of_getElem? (i := 5) rfl)) (hw _ (List.mem_of_getElem? (i := 4) rfl)) (by decide) (by decide)) (g := (mkF m 133 #[.val (.long q0), .second, .val (.long q1), .second, .val (.long q2), .second, .val (.long q3), .second, .val (.long q4), .second, .val (.int q5), .val (.int (0 : Int32)), .val (.int (7 : Int32)), .val (.int v3), .val (.int v5), .val (.ref a7), .val (.ref a14)] [(.long q2), (.long q1), (.long q0), (.int (0 : Int32)), (.int v5), (.ref a14)])) rfl (by rw [hml]; rfl) (argsL := [(.ref a14), (.int v5), (.int (0 : Int32)), (.long q0), (.long q1), (.long q2)]) (rest := []) (lenOf pd_4 rfl) rfl (by show 2 * 0 + _ ≤ _; exact Nat.le_of_eq rfl) (hb hby at_133) (fun _ _ => ⟨rfl, e21, (by decide : 2 + 0 ≤ _), (by decide : 12 + 0 ≤ _)⟩)
    dsimp only [Pt.U, Pt.locs, Pt.cells, Pt.slots] at X22 l22 y22 z22 st22 hQ22
    subst l22 y22 z22
    obtain ⟨rfl, N22q, K22, V22_o0⟩ := hQ22
    obtain ⟨h22, e22⟩ : ∃ z, T22.heap = z := ⟨_, rfl⟩
    rw [e22] at K22 V22_o0
    have V22_a7 : own_AJ Z h22 a7 ([q3, q3, q3, q3, q3, q3]) := V21_o0.keep K22 (ninS ne_a7_a14 nin0)
    have sz22 : n0 ≤ h22.size := Nat.le_trans sz21 K22.1
    have N22 := Fr.app N21 N22q
    obtain ⟨_, _, ⟨T23, L23, k23, n23⟩, -, X23, ⟨Lc23, hQ23, l23, y23, z23⟩, st23⟩ := Jvm.LawKit.callS X22 hx (y := (⟨"com/example/cubeshare/cubeshare/model/Tuples", "hash", "([JII)I"⟩ : MethodName)) hown (mvT hZ (hw _ (List.mem_of_getElem? (i := 6) rfl))) (mvT hZ (hw _ (List.mem_of_getElem? (i := 7) rfl))) (mvT hZ (hw _ (List.mem_of_getElem? (i := 8) rfl))) (mvT hZ (hw _ (List.mem_of_getElem? (i := 9) rfl))) (by decide) (backOf (W := 0) (rm2_0 l Z a0 hw [] a7 v3 (([q3, q3, q3, q3, q3, q3])) h22 n0 sz22 V22_a7 (by (try simp only [List.length_set]); exact own_off (len := 0) (L := 6) (by assumption) (k := 7) (by decide) (by decide)) (by (try simp only [List.length_set]); exact (by decide : 6 ≤ 100))) hZ (hw _ (List.mem_of_getElem? (i := 9) rfl)) (hw _ (List.mem_of_getElem? (i := 8) rfl)) (by decide) (by decide)) (g := (mkF m 142 #[.val (.long q0), .second, .val (.long q1), .second, .val (.long q2), .second, .val (.long q3), .second, .val (.long q4), .second, .val (.int q5), .val (.int (0 : Int32)), .val (.int (7 : Int32)), .val (.int v3), .val (.int v5), .val (.ref a7), .val (.ref a14)] [(.int (0 : Int32)), (.int v3), (.ref a7)])) rfl (by rw [hml]; rfl) (argsL := [(.ref a7), (.int v3), (.int (0 : Int32))]) (rest := []) (lenOf pd_5 rfl) rfl (by show 2 * 0 + _ ≤ _; exact Nat.le_of_eq rfl) (hb hby at_142) (fun _ _ => ⟨rfl, e22, (by decide : 2 + 0 ≤ _), (by decide : 12 + 0 ≤ _)⟩)
    dsimp only [Pt.U, Pt.locs, Pt.cells, Pt.slots] at X23 l23 y23 z23 st23 hQ23
    subst l23 y23 z23
    obtain ⟨rfl, N23q, e23⟩ := hQ23
    have N23 := Fr.app N22 N23q
    obtain ⟨_, _, ⟨T24, L24, k24, n24⟩, -, X24, ⟨Lc24, hQ24, l24, y24, z24⟩, st24⟩ := Jvm.LawKit.callS X23 hx (y := (⟨"com/example/cubeshare/cubeshare/model/Tuples", "hash", "([JII)I"⟩ : MethodName)) hown (mvT hZ (hw _ (List.mem_of_getElem? (i := 6) rfl))) (mvT hZ (hw _ (List.mem_of_getElem? (i := 7) rfl))) (mvT hZ (hw _ (List.mem_of_getElem? (i := 8) rfl))) (mvT hZ (hw _ (List.mem_of_getElem? (i := 9) rfl))) (by decide) (backOf (W := 1) (rm2_0 l Z a0 hw [] a14 v5 (([q4, q4, q4, q4, q4, q4])) h22 n0 sz22 V22_o0 (by (try simp only [List.length_set]); exact own_off (len := 0) (L := 6) (by assumption) (k := 7) (by decide) (by decide)) (by (try simp only [List.length_set]); exact (by decide : 6 ≤ 100))) hZ (hw _ (List.mem_of_getElem? (i := 9) rfl)) (hw _ (List.mem_of_getElem? (i := 8) rfl)) (by decide) (by decide)) (g := (mkF m 151 #[.val (.long q0), .second, .val (.long q1), .second, .val (.long q2), .second, .val (.long q3), .second, .val (.long q4), .second, .val (.int q5), .val (.int (0 : Int32)), .val (.int (7 : Int32)), .val (.int v3), .val (.int v5), .val (.ref a7), .val (.ref a14)] [(.int (0 : Int32)), (.int v5), (.ref a14), (.int (own_f2_0 v3 (([q3, q3, q3, q3, q3, q3]))))])) rfl (by rw [hml]; rfl) (argsL := [(.ref a14), (.int v5), (.int (0 : Int32))]) (rest := [(.int (own_f2_0 v3 (([q3, q3, q3, q3, q3, q3]))))]) (lenOf pd_5 rfl) rfl (by show 2 * 0 + _ ≤ _; exact Nat.le_of_eq rfl) (hb hby at_151) (fun _ _ => ⟨rfl, e23, (by decide : 2 + 0 ≤ _), (by decide : 12 + 0 ≤ _)⟩)
    dsimp only [Pt.U, Pt.locs, Pt.cells, Pt.slots] at X24 l24 y24 z24 st24 hQ24
    subst l24 y24 z24
    obtain ⟨rfl, N24q, e24⟩ := hQ24
    have N24 := Fr.app N23 N24q
    have pre25 : ∀ t, Steps p.tables e below (T24.setTop (mkF m 154 #[.val (.long q0), .second, .val (.long q1), .second, .val (.long q2), .second, .val (.long q3), .second, .val (.long q4), .second, .val (.int q5), .val (.int (0 : Int32)), .val (.int (7 : Int32)), .val (.int v3), .val (.int v5), .val (.ref a7), .val (.ref a14)] [(.int (own_f2_0 v5 (([q4, q4, q4, q4, q4, q4])))), (.int (own_f2_0 v3 (([q3, q3, q3, q3, q3, q3]))))])) t → Steps p.tables e below (s₁.setTop (entryFrame m #[(.long q0), (.long q1), (.long q2), (.long q3), (.long q4), (.int q5)] maxLocals)) t := by
      intro t k
      refine pre6 t ?_
      show Steps p.tables e below (s₁.setTop (mkF m 36 #[.val (.long q0), .second, .val (.long q1), .second, .val (.long q2), .second, .val (.long q3), .second, .val (.long q4), .second, .val (.int q5), .val (.int (0 : Int32)), .val (.int (7 : Int32)), .val (.int v3), .unset, .unset, .unset] [(.int v5)])) _
      refine XS.istore X0.here hx rfl (hb hby at_36) rfl (l' := #[.val (.long q0), .second, .val (.long q1), .second, .val (.long q2), .second, .val (.long q3), .second, .val (.long q4), .second, .val (.int q5), .val (.int (0 : Int32)), .val (.int (7 : Int32)), .val (.int v3), .val (.int v5), .unset, .unset]) rfl ?_
      show Steps p.tables e below (s₁.setTop (mkF m 38 #[.val (.long q0), .second, .val (.long q1), .second, .val (.long q2), .second, .val (.long q3), .second, .val (.long q4), .second, .val (.int q5), .val (.int (0 : Int32)), .val (.int (7 : Int32)), .val (.int v3), .val (.int v5), .unset, .unset] [])) _
      refine XS.bipush X0.here hx rfl (hb hby at_38) ?_
      show Steps p.tables e below (s₁.setTop (mkF m 40 #[.val (.long q0), .second, .val (.long q1), .second, .val (.long q2), .second, .val (.long q3), .second, .val (.long q4), .second, .val (.int q5), .val (.int (0 : Int32)), .val (.int (7 : Int32)), .val (.int v3), .val (.int v5), .unset, .unset] [(.int (6 : Int32))])) _
      refine st7 _ ?_
      show Steps p.tables e below (T7.setTop (mkF m 42 #[.val (.long q0), .second, .val (.long q1), .second, .val (.long q2), .second, .val (.long q3), .second, .val (.long q4), .second, .val (.int q5), .val (.int (0 : Int32)), .val (.int (7 : Int32)), .val (.int v3), .val (.int v5), .unset, .unset] [(.ref a7)])) _
      refine XS.dup X7.here hx rfl (hb hby at_42) rfl rfl ?_
      show Steps p.tables e below (T7.setTop (mkF m 43 #[.val (.long q0), .second, .val (.long q1), .second, .val (.long q2), .second, .val (.long q3), .second, .val (.long q4), .second, .val (.int q5), .val (.int (0 : Int32)), .val (.int (7 : Int32)), .val (.int v3), .val (.int v5), .unset, .unset] [(.ref a7), (.ref a7)])) _
      refine XS.iconst X7.here hx rfl (hb hby at_43) ?_
      show Steps p.tables e below (T7.setTop (mkF m 44 #[.val (.long q0), .second, .val (.long q1), .second, .val (.long q2), .second, .val (.long q3), .second, .val (.long q4), .second, .val (.int q5), .val (.int (0 : Int32)), .val (.int (7 : Int32)), .val (.int v3), .val (.int v5), .unset, .unset] [(.int (0 : Int32)), (.ref a7), (.ref a7)])) _
      refine XS.lload X7.here hx rfl (hb hby at_44) rfl ?_
      show Steps p.tables e below (T7.setTop (mkF m 46 #[.val (.long q0), .second, .val (.long q1), .second, .val (.long q2), .second, .val (.long q3), .second, .val (.long q4), .second, .val (.int q5), .val (.int (0 : Int32)), .val (.int (7 : Int32)), .val (.int v3), .val (.int v5), .unset, .unset] [(.long q3), (.int (0 : Int32)), (.ref a7), (.ref a7)])) _
      refine st8 _ ?_
      show Steps p.tables e below (T8.setTop (mkF m 47 #[.val (.long q0), .second, .val (.long q1), .second, .val (.long q2), .second, .val (.long q3), .second, .val (.long q4), .second, .val (.int q5), .val (.int (0 : Int32)), .val (.int (7 : Int32)), .val (.int v3), .val (.int v5), .unset, .unset] [(.ref a7)])) _
      refine XS.dup X8.here hx rfl (hb hby at_47) rfl rfl ?_
      show Steps p.tables e below (T8.setTop (mkF m 48 #[.val (.long q0), .second, .val (.long q1), .second, .val (.long q2), .second, .val (.long q3), .second, .val (.long q4), .second, .val (.int q5), .val (.int (0 : Int32)), .val (.int (7 : Int32)), .val (.int v3), .val (.int v5), .unset, .unset] [(.ref a7), (.ref a7)])) _
      refine XS.iconst X8.here hx rfl (hb hby at_48) ?_
      show Steps p.tables e below (T8.setTop (mkF m 49 #[.val (.long q0), .second, .val (.long q1), .second, .val (.long q2), .second, .val (.long q3), .second, .val (.long q4), .second, .val (.int q5), .val (.int (0 : Int32)), .val (.int (7 : Int32)), .val (.int v3), .val (.int v5), .unset, .unset] [(.int (1 : Int32)), (.ref a7), (.ref a7)])) _
      refine XS.lload X8.here hx rfl (hb hby at_49) rfl ?_
      show Steps p.tables e below (T8.setTop (mkF m 51 #[.val (.long q0), .second, .val (.long q1), .second, .val (.long q2), .second, .val (.long q3), .second, .val (.long q4), .second, .val (.int q5), .val (.int (0 : Int32)), .val (.int (7 : Int32)), .val (.int v3), .val (.int v5), .unset, .unset] [(.long q3), (.int (1 : Int32)), (.ref a7), (.ref a7)])) _
      refine st9 _ ?_
      show Steps p.tables e below (T9.setTop (mkF m 52 #[.val (.long q0), .second, .val (.long q1), .second, .val (.long q2), .second, .val (.long q3), .second, .val (.long q4), .second, .val (.int q5), .val (.int (0 : Int32)), .val (.int (7 : Int32)), .val (.int v3), .val (.int v5), .unset, .unset] [(.ref a7)])) _
      refine XS.dup X9.here hx rfl (hb hby at_52) rfl rfl ?_
      show Steps p.tables e below (T9.setTop (mkF m 53 #[.val (.long q0), .second, .val (.long q1), .second, .val (.long q2), .second, .val (.long q3), .second, .val (.long q4), .second, .val (.int q5), .val (.int (0 : Int32)), .val (.int (7 : Int32)), .val (.int v3), .val (.int v5), .unset, .unset] [(.ref a7), (.ref a7)])) _
      refine XS.iconst X9.here hx rfl (hb hby at_53) ?_
      show Steps p.tables e below (T9.setTop (mkF m 54 #[.val (.long q0), .second, .val (.long q1), .second, .val (.long q2), .second, .val (.long q3), .second, .val (.long q4), .second, .val (.int q5), .val (.int (0 : Int32)), .val (.int (7 : Int32)), .val (.int v3), .val (.int v5), .unset, .unset] [(.int (2 : Int32)), (.ref a7), (.ref a7)])) _
      refine XS.lload X9.here hx rfl (hb hby at_54) rfl ?_
      show Steps p.tables e below (T9.setTop (mkF m 56 #[.val (.long q0), .second, .val (.long q1), .second, .val (.long q2), .second, .val (.long q3), .second, .val (.long q4), .second, .val (.int q5), .val (.int (0 : Int32)), .val (.int (7 : Int32)), .val (.int v3), .val (.int v5), .unset, .unset] [(.long q3), (.int (2 : Int32)), (.ref a7), (.ref a7)])) _
      refine st10 _ ?_
      show Steps p.tables e below (T10.setTop (mkF m 57 #[.val (.long q0), .second, .val (.long q1), .second, .val (.long q2), .second, .val (.long q3), .second, .val (.long q4), .second, .val (.int q5), .val (.int (0 : Int32)), .val (.int (7 : Int32)), .val (.int v3), .val (.int v5), .unset, .unset] [(.ref a7)])) _
      refine XS.dup X10.here hx rfl (hb hby at_57) rfl rfl ?_
      show Steps p.tables e below (T10.setTop (mkF m 58 #[.val (.long q0), .second, .val (.long q1), .second, .val (.long q2), .second, .val (.long q3), .second, .val (.long q4), .second, .val (.int q5), .val (.int (0 : Int32)), .val (.int (7 : Int32)), .val (.int v3), .val (.int v5), .unset, .unset] [(.ref a7), (.ref a7)])) _
      refine XS.iconst X10.here hx rfl (hb hby at_58) ?_
      show Steps p.tables e below (T10.setTop (mkF m 59 #[.val (.long q0), .second, .val (.long q1), .second, .val (.long q2), .second, .val (.long q3), .second, .val (.long q4), .second, .val (.int q5), .val (.int (0 : Int32)), .val (.int (7 : Int32)), .val (.int v3), .val (.int v5), .unset, .unset] [(.int (3 : Int32)), (.ref a7), (.ref a7)])) _
      refine XS.lload X10.here hx rfl (hb hby at_59) rfl ?_
      show Steps p.tables e below (T10.setTop (mkF m 61 #[.val (.long q0), .second, .val (.long q1), .second, .val (.long q2), .second, .val (.long q3), .second, .val (.long q4), .second, .val (.int q5), .val (.int (0 : Int32)), .val (.int (7 : Int32)), .val (.int v3), .val (.int v5), .unset, .unset] [(.long q3), (.int (3 : Int32)), (.ref a7), (.ref a7)])) _
      refine st11 _ ?_
      show Steps p.tables e below (T11.setTop (mkF m 62 #[.val (.long q0), .second, .val (.long q1), .second, .val (.long q2), .second, .val (.long q3), .second, .val (.long q4), .second, .val (.int q5), .val (.int (0 : Int32)), .val (.int (7 : Int32)), .val (.int v3), .val (.int v5), .unset, .unset] [(.ref a7)])) _
      refine XS.dup X11.here hx rfl (hb hby at_62) rfl rfl ?_
      show Steps p.tables e below (T11.setTop (mkF m 63 #[.val (.long q0), .second, .val (.long q1), .second, .val (.long q2), .second, .val (.long q3), .second, .val (.long q4), .second, .val (.int q5), .val (.int (0 : Int32)), .val (.int (7 : Int32)), .val (.int v3), .val (.int v5), .unset, .unset] [(.ref a7), (.ref a7)])) _
      refine XS.iconst X11.here hx rfl (hb hby at_63) ?_
      show Steps p.tables e below (T11.setTop (mkF m 64 #[.val (.long q0), .second, .val (.long q1), .second, .val (.long q2), .second, .val (.long q3), .second, .val (.long q4), .second, .val (.int q5), .val (.int (0 : Int32)), .val (.int (7 : Int32)), .val (.int v3), .val (.int v5), .unset, .unset] [(.int (4 : Int32)), (.ref a7), (.ref a7)])) _
      refine XS.lload X11.here hx rfl (hb hby at_64) rfl ?_
      show Steps p.tables e below (T11.setTop (mkF m 66 #[.val (.long q0), .second, .val (.long q1), .second, .val (.long q2), .second, .val (.long q3), .second, .val (.long q4), .second, .val (.int q5), .val (.int (0 : Int32)), .val (.int (7 : Int32)), .val (.int v3), .val (.int v5), .unset, .unset] [(.long q3), (.int (4 : Int32)), (.ref a7), (.ref a7)])) _
      refine st12 _ ?_
      show Steps p.tables e below (T12.setTop (mkF m 67 #[.val (.long q0), .second, .val (.long q1), .second, .val (.long q2), .second, .val (.long q3), .second, .val (.long q4), .second, .val (.int q5), .val (.int (0 : Int32)), .val (.int (7 : Int32)), .val (.int v3), .val (.int v5), .unset, .unset] [(.ref a7)])) _
      refine XS.dup X12.here hx rfl (hb hby at_67) rfl rfl ?_
      show Steps p.tables e below (T12.setTop (mkF m 68 #[.val (.long q0), .second, .val (.long q1), .second, .val (.long q2), .second, .val (.long q3), .second, .val (.long q4), .second, .val (.int q5), .val (.int (0 : Int32)), .val (.int (7 : Int32)), .val (.int v3), .val (.int v5), .unset, .unset] [(.ref a7), (.ref a7)])) _
      refine XS.iconst X12.here hx rfl (hb hby at_68) ?_
      show Steps p.tables e below (T12.setTop (mkF m 69 #[.val (.long q0), .second, .val (.long q1), .second, .val (.long q2), .second, .val (.long q3), .second, .val (.long q4), .second, .val (.int q5), .val (.int (0 : Int32)), .val (.int (7 : Int32)), .val (.int v3), .val (.int v5), .unset, .unset] [(.int (5 : Int32)), (.ref a7), (.ref a7)])) _
      refine XS.lload X12.here hx rfl (hb hby at_69) rfl ?_
      show Steps p.tables e below (T12.setTop (mkF m 71 #[.val (.long q0), .second, .val (.long q1), .second, .val (.long q2), .second, .val (.long q3), .second, .val (.long q4), .second, .val (.int q5), .val (.int (0 : Int32)), .val (.int (7 : Int32)), .val (.int v3), .val (.int v5), .unset, .unset] [(.long q3), (.int (5 : Int32)), (.ref a7), (.ref a7)])) _
      refine st13 _ ?_
      show Steps p.tables e below (T13.setTop (mkF m 72 #[.val (.long q0), .second, .val (.long q1), .second, .val (.long q2), .second, .val (.long q3), .second, .val (.long q4), .second, .val (.int q5), .val (.int (0 : Int32)), .val (.int (7 : Int32)), .val (.int v3), .val (.int v5), .unset, .unset] [(.ref a7)])) _
      refine XS.astore X13.here hx rfl (hb hby at_72) rfl rfl (l' := #[.val (.long q0), .second, .val (.long q1), .second, .val (.long q2), .second, .val (.long q3), .second, .val (.long q4), .second, .val (.int q5), .val (.int (0 : Int32)), .val (.int (7 : Int32)), .val (.int v3), .val (.int v5), .val (.ref a7), .unset]) rfl ?_
      show Steps p.tables e below (T13.setTop (mkF m 74 #[.val (.long q0), .second, .val (.long q1), .second, .val (.long q2), .second, .val (.long q3), .second, .val (.long q4), .second, .val (.int q5), .val (.int (0 : Int32)), .val (.int (7 : Int32)), .val (.int v3), .val (.int v5), .val (.ref a7), .unset] [])) _
      refine XS.bipush X13.here hx rfl (hb hby at_74) ?_
      show Steps p.tables e below (T13.setTop (mkF m 76 #[.val (.long q0), .second, .val (.long q1), .second, .val (.long q2), .second, .val (.long q3), .second, .val (.long q4), .second, .val (.int q5), .val (.int (0 : Int32)), .val (.int (7 : Int32)), .val (.int v3), .val (.int v5), .val (.ref a7), .unset] [(.int (6 : Int32))])) _
      refine st14 _ ?_
      show Steps p.tables e below (T14.setTop (mkF m 78 #[.val (.long q0), .second, .val (.long q1), .second, .val (.long q2), .second, .val (.long q3), .second, .val (.long q4), .second, .val (.int q5), .val (.int (0 : Int32)), .val (.int (7 : Int32)), .val (.int v3), .val (.int v5), .val (.ref a7), .unset] [(.ref a14)])) _
      refine XS.dup X14.here hx rfl (hb hby at_78) rfl rfl ?_
      show Steps p.tables e below (T14.setTop (mkF m 79 #[.val (.long q0), .second, .val (.long q1), .second, .val (.long q2), .second, .val (.long q3), .second, .val (.long q4), .second, .val (.int q5), .val (.int (0 : Int32)), .val (.int (7 : Int32)), .val (.int v3), .val (.int v5), .val (.ref a7), .unset] [(.ref a14), (.ref a14)])) _
      refine XS.iconst X14.here hx rfl (hb hby at_79) ?_
      show Steps p.tables e below (T14.setTop (mkF m 80 #[.val (.long q0), .second, .val (.long q1), .second, .val (.long q2), .second, .val (.long q3), .second, .val (.long q4), .second, .val (.int q5), .val (.int (0 : Int32)), .val (.int (7 : Int32)), .val (.int v3), .val (.int v5), .val (.ref a7), .unset] [(.int (0 : Int32)), (.ref a14), (.ref a14)])) _
      refine XS.lload X14.here hx rfl (hb hby at_80) rfl ?_
      show Steps p.tables e below (T14.setTop (mkF m 82 #[.val (.long q0), .second, .val (.long q1), .second, .val (.long q2), .second, .val (.long q3), .second, .val (.long q4), .second, .val (.int q5), .val (.int (0 : Int32)), .val (.int (7 : Int32)), .val (.int v3), .val (.int v5), .val (.ref a7), .unset] [(.long q4), (.int (0 : Int32)), (.ref a14), (.ref a14)])) _
      refine st15 _ ?_
      show Steps p.tables e below (T15.setTop (mkF m 83 #[.val (.long q0), .second, .val (.long q1), .second, .val (.long q2), .second, .val (.long q3), .second, .val (.long q4), .second, .val (.int q5), .val (.int (0 : Int32)), .val (.int (7 : Int32)), .val (.int v3), .val (.int v5), .val (.ref a7), .unset] [(.ref a14)])) _
      refine XS.dup X15.here hx rfl (hb hby at_83) rfl rfl ?_
      show Steps p.tables e below (T15.setTop (mkF m 84 #[.val (.long q0), .second, .val (.long q1), .second, .val (.long q2), .second, .val (.long q3), .second, .val (.long q4), .second, .val (.int q5), .val (.int (0 : Int32)), .val (.int (7 : Int32)), .val (.int v3), .val (.int v5), .val (.ref a7), .unset] [(.ref a14), (.ref a14)])) _
      refine XS.iconst X15.here hx rfl (hb hby at_84) ?_
      show Steps p.tables e below (T15.setTop (mkF m 85 #[.val (.long q0), .second, .val (.long q1), .second, .val (.long q2), .second, .val (.long q3), .second, .val (.long q4), .second, .val (.int q5), .val (.int (0 : Int32)), .val (.int (7 : Int32)), .val (.int v3), .val (.int v5), .val (.ref a7), .unset] [(.int (1 : Int32)), (.ref a14), (.ref a14)])) _
      refine XS.lload X15.here hx rfl (hb hby at_85) rfl ?_
      show Steps p.tables e below (T15.setTop (mkF m 87 #[.val (.long q0), .second, .val (.long q1), .second, .val (.long q2), .second, .val (.long q3), .second, .val (.long q4), .second, .val (.int q5), .val (.int (0 : Int32)), .val (.int (7 : Int32)), .val (.int v3), .val (.int v5), .val (.ref a7), .unset] [(.long q4), (.int (1 : Int32)), (.ref a14), (.ref a14)])) _
      refine st16 _ ?_
      show Steps p.tables e below (T16.setTop (mkF m 88 #[.val (.long q0), .second, .val (.long q1), .second, .val (.long q2), .second, .val (.long q3), .second, .val (.long q4), .second, .val (.int q5), .val (.int (0 : Int32)), .val (.int (7 : Int32)), .val (.int v3), .val (.int v5), .val (.ref a7), .unset] [(.ref a14)])) _
      refine XS.dup X16.here hx rfl (hb hby at_88) rfl rfl ?_
      show Steps p.tables e below (T16.setTop (mkF m 89 #[.val (.long q0), .second, .val (.long q1), .second, .val (.long q2), .second, .val (.long q3), .second, .val (.long q4), .second, .val (.int q5), .val (.int (0 : Int32)), .val (.int (7 : Int32)), .val (.int v3), .val (.int v5), .val (.ref a7), .unset] [(.ref a14), (.ref a14)])) _
      refine XS.iconst X16.here hx rfl (hb hby at_89) ?_
      show Steps p.tables e below (T16.setTop (mkF m 90 #[.val (.long q0), .second, .val (.long q1), .second, .val (.long q2), .second, .val (.long q3), .second, .val (.long q4), .second, .val (.int q5), .val (.int (0 : Int32)), .val (.int (7 : Int32)), .val (.int v3), .val (.int v5), .val (.ref a7), .unset] [(.int (2 : Int32)), (.ref a14), (.ref a14)])) _
      refine XS.lload X16.here hx rfl (hb hby at_90) rfl ?_
      show Steps p.tables e below (T16.setTop (mkF m 92 #[.val (.long q0), .second, .val (.long q1), .second, .val (.long q2), .second, .val (.long q3), .second, .val (.long q4), .second, .val (.int q5), .val (.int (0 : Int32)), .val (.int (7 : Int32)), .val (.int v3), .val (.int v5), .val (.ref a7), .unset] [(.long q4), (.int (2 : Int32)), (.ref a14), (.ref a14)])) _
      refine st17 _ ?_
      show Steps p.tables e below (T17.setTop (mkF m 93 #[.val (.long q0), .second, .val (.long q1), .second, .val (.long q2), .second, .val (.long q3), .second, .val (.long q4), .second, .val (.int q5), .val (.int (0 : Int32)), .val (.int (7 : Int32)), .val (.int v3), .val (.int v5), .val (.ref a7), .unset] [(.ref a14)])) _
      refine XS.dup X17.here hx rfl (hb hby at_93) rfl rfl ?_
      show Steps p.tables e below (T17.setTop (mkF m 94 #[.val (.long q0), .second, .val (.long q1), .second, .val (.long q2), .second, .val (.long q3), .second, .val (.long q4), .second, .val (.int q5), .val (.int (0 : Int32)), .val (.int (7 : Int32)), .val (.int v3), .val (.int v5), .val (.ref a7), .unset] [(.ref a14), (.ref a14)])) _
      refine XS.iconst X17.here hx rfl (hb hby at_94) ?_
      show Steps p.tables e below (T17.setTop (mkF m 95 #[.val (.long q0), .second, .val (.long q1), .second, .val (.long q2), .second, .val (.long q3), .second, .val (.long q4), .second, .val (.int q5), .val (.int (0 : Int32)), .val (.int (7 : Int32)), .val (.int v3), .val (.int v5), .val (.ref a7), .unset] [(.int (3 : Int32)), (.ref a14), (.ref a14)])) _
      refine XS.lload X17.here hx rfl (hb hby at_95) rfl ?_
      show Steps p.tables e below (T17.setTop (mkF m 97 #[.val (.long q0), .second, .val (.long q1), .second, .val (.long q2), .second, .val (.long q3), .second, .val (.long q4), .second, .val (.int q5), .val (.int (0 : Int32)), .val (.int (7 : Int32)), .val (.int v3), .val (.int v5), .val (.ref a7), .unset] [(.long q4), (.int (3 : Int32)), (.ref a14), (.ref a14)])) _
      refine st18 _ ?_
      show Steps p.tables e below (T18.setTop (mkF m 98 #[.val (.long q0), .second, .val (.long q1), .second, .val (.long q2), .second, .val (.long q3), .second, .val (.long q4), .second, .val (.int q5), .val (.int (0 : Int32)), .val (.int (7 : Int32)), .val (.int v3), .val (.int v5), .val (.ref a7), .unset] [(.ref a14)])) _
      refine XS.dup X18.here hx rfl (hb hby at_98) rfl rfl ?_
      show Steps p.tables e below (T18.setTop (mkF m 99 #[.val (.long q0), .second, .val (.long q1), .second, .val (.long q2), .second, .val (.long q3), .second, .val (.long q4), .second, .val (.int q5), .val (.int (0 : Int32)), .val (.int (7 : Int32)), .val (.int v3), .val (.int v5), .val (.ref a7), .unset] [(.ref a14), (.ref a14)])) _
      refine XS.iconst X18.here hx rfl (hb hby at_99) ?_
      show Steps p.tables e below (T18.setTop (mkF m 100 #[.val (.long q0), .second, .val (.long q1), .second, .val (.long q2), .second, .val (.long q3), .second, .val (.long q4), .second, .val (.int q5), .val (.int (0 : Int32)), .val (.int (7 : Int32)), .val (.int v3), .val (.int v5), .val (.ref a7), .unset] [(.int (4 : Int32)), (.ref a14), (.ref a14)])) _
      refine XS.lload X18.here hx rfl (hb hby at_100) rfl ?_
      show Steps p.tables e below (T18.setTop (mkF m 102 #[.val (.long q0), .second, .val (.long q1), .second, .val (.long q2), .second, .val (.long q3), .second, .val (.long q4), .second, .val (.int q5), .val (.int (0 : Int32)), .val (.int (7 : Int32)), .val (.int v3), .val (.int v5), .val (.ref a7), .unset] [(.long q4), (.int (4 : Int32)), (.ref a14), (.ref a14)])) _
      refine st19 _ ?_
      show Steps p.tables e below (T19.setTop (mkF m 103 #[.val (.long q0), .second, .val (.long q1), .second, .val (.long q2), .second, .val (.long q3), .second, .val (.long q4), .second, .val (.int q5), .val (.int (0 : Int32)), .val (.int (7 : Int32)), .val (.int v3), .val (.int v5), .val (.ref a7), .unset] [(.ref a14)])) _
      refine XS.dup X19.here hx rfl (hb hby at_103) rfl rfl ?_
      show Steps p.tables e below (T19.setTop (mkF m 104 #[.val (.long q0), .second, .val (.long q1), .second, .val (.long q2), .second, .val (.long q3), .second, .val (.long q4), .second, .val (.int q5), .val (.int (0 : Int32)), .val (.int (7 : Int32)), .val (.int v3), .val (.int v5), .val (.ref a7), .unset] [(.ref a14), (.ref a14)])) _
      refine XS.iconst X19.here hx rfl (hb hby at_104) ?_
      show Steps p.tables e below (T19.setTop (mkF m 105 #[.val (.long q0), .second, .val (.long q1), .second, .val (.long q2), .second, .val (.long q3), .second, .val (.long q4), .second, .val (.int q5), .val (.int (0 : Int32)), .val (.int (7 : Int32)), .val (.int v3), .val (.int v5), .val (.ref a7), .unset] [(.int (5 : Int32)), (.ref a14), (.ref a14)])) _
      refine XS.lload X19.here hx rfl (hb hby at_105) rfl ?_
      show Steps p.tables e below (T19.setTop (mkF m 107 #[.val (.long q0), .second, .val (.long q1), .second, .val (.long q2), .second, .val (.long q3), .second, .val (.long q4), .second, .val (.int q5), .val (.int (0 : Int32)), .val (.int (7 : Int32)), .val (.int v3), .val (.int v5), .val (.ref a7), .unset] [(.long q4), (.int (5 : Int32)), (.ref a14), (.ref a14)])) _
      refine st20 _ ?_
      show Steps p.tables e below (T20.setTop (mkF m 108 #[.val (.long q0), .second, .val (.long q1), .second, .val (.long q2), .second, .val (.long q3), .second, .val (.long q4), .second, .val (.int q5), .val (.int (0 : Int32)), .val (.int (7 : Int32)), .val (.int v3), .val (.int v5), .val (.ref a7), .unset] [(.ref a14)])) _
      refine XS.astore X20.here hx rfl (hb hby at_108) rfl rfl (l' := #[.val (.long q0), .second, .val (.long q1), .second, .val (.long q2), .second, .val (.long q3), .second, .val (.long q4), .second, .val (.int q5), .val (.int (0 : Int32)), .val (.int (7 : Int32)), .val (.int v3), .val (.int v5), .val (.ref a7), .val (.ref a14)]) rfl ?_
      show Steps p.tables e below (T20.setTop (mkF m 110 #[.val (.long q0), .second, .val (.long q1), .second, .val (.long q2), .second, .val (.long q3), .second, .val (.long q4), .second, .val (.int q5), .val (.int (0 : Int32)), .val (.int (7 : Int32)), .val (.int v3), .val (.int v5), .val (.ref a7), .val (.ref a14)] [])) _
      refine XS.aload X20.here hx rfl (hb hby at_110) rfl rfl ?_
      show Steps p.tables e below (T20.setTop (mkF m 112 #[.val (.long q0), .second, .val (.long q1), .second, .val (.long q2), .second, .val (.long q3), .second, .val (.long q4), .second, .val (.int q5), .val (.int (0 : Int32)), .val (.int (7 : Int32)), .val (.int v3), .val (.int v5), .val (.ref a7), .val (.ref a14)] [(.ref a7)])) _
      refine XS.iload X20.here hx rfl (hb hby at_112) rfl ?_
      show Steps p.tables e below (T20.setTop (mkF m 114 #[.val (.long q0), .second, .val (.long q1), .second, .val (.long q2), .second, .val (.long q3), .second, .val (.long q4), .second, .val (.int q5), .val (.int (0 : Int32)), .val (.int (7 : Int32)), .val (.int v3), .val (.int v5), .val (.ref a7), .val (.ref a14)] [(.int v3), (.ref a7)])) _
      refine XS.iload X20.here hx rfl (hb hby at_114) rfl ?_
      show Steps p.tables e below (T20.setTop (mkF m 116 #[.val (.long q0), .second, .val (.long q1), .second, .val (.long q2), .second, .val (.long q3), .second, .val (.long q4), .second, .val (.int q5), .val (.int (0 : Int32)), .val (.int (7 : Int32)), .val (.int v3), .val (.int v5), .val (.ref a7), .val (.ref a14)] [(.int (0 : Int32)), (.int v3), (.ref a7)])) _
      refine XS.lloadN X20.here hx rfl (hb hby at_116) rfl ?_
      show Steps p.tables e below (T20.setTop (mkF m 117 #[.val (.long q0), .second, .val (.long q1), .second, .val (.long q2), .second, .val (.long q3), .second, .val (.long q4), .second, .val (.int q5), .val (.int (0 : Int32)), .val (.int (7 : Int32)), .val (.int v3), .val (.int v5), .val (.ref a7), .val (.ref a14)] [(.long q0), (.int (0 : Int32)), (.int v3), (.ref a7)])) _
      refine XS.lloadN X20.here hx rfl (hb hby at_117) rfl ?_
      show Steps p.tables e below (T20.setTop (mkF m 118 #[.val (.long q0), .second, .val (.long q1), .second, .val (.long q2), .second, .val (.long q3), .second, .val (.long q4), .second, .val (.int q5), .val (.int (0 : Int32)), .val (.int (7 : Int32)), .val (.int v3), .val (.int v5), .val (.ref a7), .val (.ref a14)] [(.long q1), (.long q0), (.int (0 : Int32)), (.int v3), (.ref a7)])) _
      refine XS.lload X20.here hx rfl (hb hby at_118) rfl ?_
      show Steps p.tables e below (T20.setTop (mkF m 120 #[.val (.long q0), .second, .val (.long q1), .second, .val (.long q2), .second, .val (.long q3), .second, .val (.long q4), .second, .val (.int q5), .val (.int (0 : Int32)), .val (.int (7 : Int32)), .val (.int v3), .val (.int v5), .val (.ref a7), .val (.ref a14)] [(.long q2), (.long q1), (.long q0), (.int (0 : Int32)), (.int v3), (.ref a7)])) _
      refine st21 _ ?_
      show Steps p.tables e below (T21.setTop (mkF m 123 #[.val (.long q0), .second, .val (.long q1), .second, .val (.long q2), .second, .val (.long q3), .second, .val (.long q4), .second, .val (.int q5), .val (.int (0 : Int32)), .val (.int (7 : Int32)), .val (.int v3), .val (.int v5), .val (.ref a7), .val (.ref a14)] [])) _
      refine XS.aload X21.here hx rfl (hb hby at_123) rfl rfl ?_
      show Steps p.tables e below (T21.setTop (mkF m 125 #[.val (.long q0), .second, .val (.long q1), .second, .val (.long q2), .second, .val (.long q3), .second, .val (.long q4), .second, .val (.int q5), .val (.int (0 : Int32)), .val (.int (7 : Int32)), .val (.int v3), .val (.int v5), .val (.ref a7), .val (.ref a14)] [(.ref a14)])) _
      refine XS.iload X21.here hx rfl (hb hby at_125) rfl ?_
      show Steps p.tables e below (T21.setTop (mkF m 127 #[.val (.long q0), .second, .val (.long q1), .second, .val (.long q2), .second, .val (.long q3), .second, .val (.long q4), .second, .val (.int q5), .val (.int (0 : Int32)), .val (.int (7 : Int32)), .val (.int v3), .val (.int v5), .val (.ref a7), .val (.ref a14)] [(.int v5), (.ref a14)])) _
      refine XS.iload X21.here hx rfl (hb hby at_127) rfl ?_
      show Steps p.tables e below (T21.setTop (mkF m 129 #[.val (.long q0), .second, .val (.long q1), .second, .val (.long q2), .second, .val (.long q3), .second, .val (.long q4), .second, .val (.int q5), .val (.int (0 : Int32)), .val (.int (7 : Int32)), .val (.int v3), .val (.int v5), .val (.ref a7), .val (.ref a14)] [(.int (0 : Int32)), (.int v5), (.ref a14)])) _
      refine XS.lloadN X21.here hx rfl (hb hby at_129) rfl ?_
      show Steps p.tables e below (T21.setTop (mkF m 130 #[.val (.long q0), .second, .val (.long q1), .second, .val (.long q2), .second, .val (.long q3), .second, .val (.long q4), .second, .val (.int q5), .val (.int (0 : Int32)), .val (.int (7 : Int32)), .val (.int v3), .val (.int v5), .val (.ref a7), .val (.ref a14)] [(.long q0), (.int (0 : Int32)), (.int v5), (.ref a14)])) _
      refine XS.lloadN X21.here hx rfl (hb hby at_130) rfl ?_
      show Steps p.tables e below (T21.setTop (mkF m 131 #[.val (.long q0), .second, .val (.long q1), .second, .val (.long q2), .second, .val (.long q3), .second, .val (.long q4), .second, .val (.int q5), .val (.int (0 : Int32)), .val (.int (7 : Int32)), .val (.int v3), .val (.int v5), .val (.ref a7), .val (.ref a14)] [(.long q1), (.long q0), (.int (0 : Int32)), (.int v5), (.ref a14)])) _
      refine XS.lload X21.here hx rfl (hb hby at_131) rfl ?_
      show Steps p.tables e below (T21.setTop (mkF m 133 #[.val (.long q0), .second, .val (.long q1), .second, .val (.long q2), .second, .val (.long q3), .second, .val (.long q4), .second, .val (.int q5), .val (.int (0 : Int32)), .val (.int (7 : Int32)), .val (.int v3), .val (.int v5), .val (.ref a7), .val (.ref a14)] [(.long q2), (.long q1), (.long q0), (.int (0 : Int32)), (.int v5), (.ref a14)])) _
      refine st22 _ ?_
      show Steps p.tables e below (T22.setTop (mkF m 136 #[.val (.long q0), .second, .val (.long q1), .second, .val (.long q2), .second, .val (.long q3), .second, .val (.long q4), .second, .val (.int q5), .val (.int (0 : Int32)), .val (.int (7 : Int32)), .val (.int v3), .val (.int v5), .val (.ref a7), .val (.ref a14)] [])) _
      refine XS.aload X22.here hx rfl (hb hby at_136) rfl rfl ?_
      show Steps p.tables e below (T22.setTop (mkF m 138 #[.val (.long q0), .second, .val (.long q1), .second, .val (.long q2), .second, .val (.long q3), .second, .val (.long q4), .second, .val (.int q5), .val (.int (0 : Int32)), .val (.int (7 : Int32)), .val (.int v3), .val (.int v5), .val (.ref a7), .val (.ref a14)] [(.ref a7)])) _
      refine XS.iload X22.here hx rfl (hb hby at_138) rfl ?_
      show Steps p.tables e below (T22.setTop (mkF m 140 #[.val (.long q0), .second, .val (.long q1), .second, .val (.long q2), .second, .val (.long q3), .second, .val (.long q4), .second, .val (.int q5), .val (.int (0 : Int32)), .val (.int (7 : Int32)), .val (.int v3), .val (.int v5), .val (.ref a7), .val (.ref a14)] [(.int v3), (.ref a7)])) _
      refine XS.iload X22.here hx rfl (hb hby at_140) rfl ?_
      show Steps p.tables e below (T22.setTop (mkF m 142 #[.val (.long q0), .second, .val (.long q1), .second, .val (.long q2), .second, .val (.long q3), .second, .val (.long q4), .second, .val (.int q5), .val (.int (0 : Int32)), .val (.int (7 : Int32)), .val (.int v3), .val (.int v5), .val (.ref a7), .val (.ref a14)] [(.int (0 : Int32)), (.int v3), (.ref a7)])) _
      refine st23 _ ?_
      show Steps p.tables e below (T23.setTop (mkF m 145 #[.val (.long q0), .second, .val (.long q1), .second, .val (.long q2), .second, .val (.long q3), .second, .val (.long q4), .second, .val (.int q5), .val (.int (0 : Int32)), .val (.int (7 : Int32)), .val (.int v3), .val (.int v5), .val (.ref a7), .val (.ref a14)] [(.int (own_f2_0 v3 (([q3, q3, q3, q3, q3, q3]))))])) _
      refine XS.aload X23.here hx rfl (hb hby at_145) rfl rfl ?_
      show Steps p.tables e below (T23.setTop (mkF m 147 #[.val (.long q0), .second, .val (.long q1), .second, .val (.long q2), .second, .val (.long q3), .second, .val (.long q4), .second, .val (.int q5), .val (.int (0 : Int32)), .val (.int (7 : Int32)), .val (.int v3), .val (.int v5), .val (.ref a7), .val (.ref a14)] [(.ref a14), (.int (own_f2_0 v3 (([q3, q3, q3, q3, q3, q3]))))])) _
      refine XS.iload X23.here hx rfl (hb hby at_147) rfl ?_
      show Steps p.tables e below (T23.setTop (mkF m 149 #[.val (.long q0), .second, .val (.long q1), .second, .val (.long q2), .second, .val (.long q3), .second, .val (.long q4), .second, .val (.int q5), .val (.int (0 : Int32)), .val (.int (7 : Int32)), .val (.int v3), .val (.int v5), .val (.ref a7), .val (.ref a14)] [(.int v5), (.ref a14), (.int (own_f2_0 v3 (([q3, q3, q3, q3, q3, q3]))))])) _
      refine XS.iload X23.here hx rfl (hb hby at_149) rfl ?_
      show Steps p.tables e below (T23.setTop (mkF m 151 #[.val (.long q0), .second, .val (.long q1), .second, .val (.long q2), .second, .val (.long q3), .second, .val (.long q4), .second, .val (.int q5), .val (.int (0 : Int32)), .val (.int (7 : Int32)), .val (.int v3), .val (.int v5), .val (.ref a7), .val (.ref a14)] [(.int (0 : Int32)), (.int v5), (.ref a14), (.int (own_f2_0 v3 (([q3, q3, q3, q3, q3, q3]))))])) _
      refine st24 _ ?_
      exact k
    by_cases c26 : (own_f2_0 v3 (([q3, q3, q3, q3, q3, q3]))) = (own_f2_0 v5 (([q4, q4, q4, q4, q4, q4])))
    · obtain ⟨fs, hr, hrun, hended, hW, hsame⟩ := X24.leave (v := some (.int (1 : Int32))) (fun h => by rw [Bd.returns] at h; cases h) hlk
      refine ⟨_, _, pre25 _ ?_, hrun, hended, _, _, rfl, ?_, ⟨_, rfl⟩, hW, hsame.mono (by decide) (by decide)⟩
      · show Steps p.tables e below (T24.setTop (mkF m 154 #[.val (.long q0), .second, .val (.long q1), .second, .val (.long q2), .second, .val (.long q3), .second, .val (.long q4), .second, .val (.int q5), .val (.int (0 : Int32)), .val (.int (7 : Int32)), .val (.int v3), .val (.int v5), .val (.ref a7), .val (.ref a14)] [(.int (own_f2_0 v5 (([q4, q4, q4, q4, q4, q4])))), (.int (own_f2_0 v3 (([q3, q3, q3, q3, q3, q3]))))])) _
        refine XS.icmpNo X24.here hx rfl (hb hby at_154) rfl ((teq c26).2) ?_
        show Steps p.tables e below (T24.setTop (mkF m 157 #[.val (.long q0), .second, .val (.long q1), .second, .val (.long q2), .second, .val (.long q3), .second, .val (.long q4), .second, .val (.int q5), .val (.int (0 : Int32)), .val (.int (7 : Int32)), .val (.int v3), .val (.int v5), .val (.ref a7), .val (.ref a14)] [])) _
        refine XS.iconst X24.here hx rfl (hb hby at_157) ?_
        show Steps p.tables e below (T24.setTop (mkF m 158 #[.val (.long q0), .second, .val (.long q1), .second, .val (.long q2), .second, .val (.long q3), .second, .val (.long q4), .second, .val (.int q5), .val (.int (0 : Int32)), .val (.int (7 : Int32)), .val (.int v3), .val (.int v5), .val (.ref a7), .val (.ref a14)] [(.int (1 : Int32))])) _
        refine XS.goto X24.here hx rfl (pc0 := 158) (pc' := 162) rfl (hb hby at_158) (by decide) (by decide) ?_
        show Steps p.tables e below (T24.setTop (mkF m 162 #[.val (.long q0), .second, .val (.long q1), .second, .val (.long q2), .second, .val (.long q3), .second, .val (.long q4), .second, .val (.int q5), .val (.int (0 : Int32)), .val (.int (7 : Int32)), .val (.int v3), .val (.int v5), .val (.ref a7), .val (.ref a14)] [(.int (1 : Int32))])) _
        exact retN X24 hx (t := .boolean) Bd.returns (by simp) (hb hby at_162) hr
      · show Q0 Z q0 q1 q2 q3 q4 q5 h0 n0 _ T24.heap _
        rw [e24]
        exact ⟨by have w_hv5 := hv5.symm; subst w_hv5; have w_hv3 := hv3.symm; subst w_hv3; simp only [own_f0, ← hv1, if_pos (rfl : (0 : Int32) = (0 : Int32)), if_pos c26, if_true, if_false], N24⟩
    · obtain ⟨fs, hr, hrun, hended, hW, hsame⟩ := X24.leave (v := some (.int (0 : Int32))) (fun h => by rw [Bd.returns] at h; cases h) hlk
      refine ⟨_, _, pre25 _ ?_, hrun, hended, _, _, rfl, ?_, ⟨_, rfl⟩, hW, hsame.mono (by decide) (by decide)⟩
      · show Steps p.tables e below (T24.setTop (mkF m 154 #[.val (.long q0), .second, .val (.long q1), .second, .val (.long q2), .second, .val (.long q3), .second, .val (.long q4), .second, .val (.int q5), .val (.int (0 : Int32)), .val (.int (7 : Int32)), .val (.int v3), .val (.int v5), .val (.ref a7), .val (.ref a14)] [(.int (own_f2_0 v5 (([q4, q4, q4, q4, q4, q4])))), (.int (own_f2_0 v3 (([q3, q3, q3, q3, q3, q3]))))])) _
        refine XS.icmpYes X24.here hx rfl (pc0 := 154) (pc' := 161) rfl (hb hby at_154) rfl ((feq c26).2) (by decide) (by decide) ?_
        show Steps p.tables e below (T24.setTop (mkF m 161 #[.val (.long q0), .second, .val (.long q1), .second, .val (.long q2), .second, .val (.long q3), .second, .val (.long q4), .second, .val (.int q5), .val (.int (0 : Int32)), .val (.int (7 : Int32)), .val (.int v3), .val (.int v5), .val (.ref a7), .val (.ref a14)] [])) _
        refine XS.iconst X24.here hx rfl (hb hby at_161) ?_
        show Steps p.tables e below (T24.setTop (mkF m 162 #[.val (.long q0), .second, .val (.long q1), .second, .val (.long q2), .second, .val (.long q3), .second, .val (.long q4), .second, .val (.int q5), .val (.int (0 : Int32)), .val (.int (7 : Int32)), .val (.int v3), .val (.int v5), .val (.ref a7), .val (.ref a14)] [(.int (0 : Int32))])) _
        exact retN X24 hx (t := .boolean) Bd.returns (by simp) (hb hby at_162) hr
      · show Q0 Z q0 q1 q2 q3 q4 q5 h0 n0 _ T24.heap _
        rw [e24]
        exact ⟨by have w_hv5 := hv5.symm; subst w_hv5; have w_hv3 := hv3.symm; subst w_hv3; simp only [own_f0, ← hv1, if_pos (rfl : (0 : Int32) = (0 : Int32)), if_neg c26, if_true, if_false], N24⟩
  · obtain ⟨v27, hv27⟩ : ∃ z : Int32, z = ((((q5).toUInt32 >>> ((2 : Int32) &&& 31).toUInt32).toInt32 &&& (2147483647 : Int32)) % (6 : Int32)) := ⟨_, rfl⟩
    have pre28 : ∀ t, Steps p.tables e below (s₁.setTop (mkF m 23 #[.val (.long q0), .second, .val (.long q1), .second, .val (.long q2), .second, .val (.long q3), .second, .val (.long q4), .second, .val (.int q5), .val (.int (1 : Int32)), .val (.int (6 : Int32)), .unset, .unset, .unset, .unset] [(.int v27)])) t → Steps p.tables e below (s₁.setTop (entryFrame m #[(.long q0), (.long q1), (.long q2), (.long q3), (.long q4), (.int q5)] maxLocals)) t := by
      rw [hv27]
      intro t k
      refine pre2 t ?_
      show Steps p.tables e below (s₁.setTop (mkF m 4 #[.val (.long q0), .second, .val (.long q1), .second, .val (.long q2), .second, .val (.long q3), .second, .val (.long q4), .second, .val (.int q5), .unset, .unset, .unset, .unset, .unset, .unset] [(.int (1 : Int32))])) _
      refine XS.istore X0.here hx rfl (hb hby at_4) rfl (l' := #[.val (.long q0), .second, .val (.long q1), .second, .val (.long q2), .second, .val (.long q3), .second, .val (.long q4), .second, .val (.int q5), .val (.int (1 : Int32)), .unset, .unset, .unset, .unset, .unset]) rfl ?_
      show Steps p.tables e below (s₁.setTop (mkF m 6 #[.val (.long q0), .second, .val (.long q1), .second, .val (.long q2), .second, .val (.long q3), .second, .val (.long q4), .second, .val (.int q5), .val (.int (1 : Int32)), .unset, .unset, .unset, .unset, .unset] [])) _
      refine XS.bipush X0.here hx rfl (hb hby at_6) ?_
      show Steps p.tables e below (s₁.setTop (mkF m 8 #[.val (.long q0), .second, .val (.long q1), .second, .val (.long q2), .second, .val (.long q3), .second, .val (.long q4), .second, .val (.int q5), .val (.int (1 : Int32)), .unset, .unset, .unset, .unset, .unset] [(.int (7 : Int32))])) _
      refine XS.iload X0.here hx rfl (hb hby at_8) rfl ?_
      show Steps p.tables e below (s₁.setTop (mkF m 10 #[.val (.long q0), .second, .val (.long q1), .second, .val (.long q2), .second, .val (.long q3), .second, .val (.long q4), .second, .val (.int q5), .val (.int (1 : Int32)), .unset, .unset, .unset, .unset, .unset] [(.int (1 : Int32)), (.int (7 : Int32))])) _
      refine XS.isub X0.here hx rfl (hb hby at_10) rfl ?_
      show Steps p.tables e below (s₁.setTop (mkF m 11 #[.val (.long q0), .second, .val (.long q1), .second, .val (.long q2), .second, .val (.long q3), .second, .val (.long q4), .second, .val (.int q5), .val (.int (1 : Int32)), .unset, .unset, .unset, .unset, .unset] [(.int (6 : Int32))])) _
      refine XS.istore X0.here hx rfl (hb hby at_11) rfl (l' := #[.val (.long q0), .second, .val (.long q1), .second, .val (.long q2), .second, .val (.long q3), .second, .val (.long q4), .second, .val (.int q5), .val (.int (1 : Int32)), .val (.int (6 : Int32)), .unset, .unset, .unset, .unset]) rfl ?_
      show Steps p.tables e below (s₁.setTop (mkF m 13 #[.val (.long q0), .second, .val (.long q1), .second, .val (.long q2), .second, .val (.long q3), .second, .val (.long q4), .second, .val (.int q5), .val (.int (1 : Int32)), .val (.int (6 : Int32)), .unset, .unset, .unset, .unset] [])) _
      refine XS.iload X0.here hx rfl (hb hby at_13) rfl ?_
      show Steps p.tables e below (s₁.setTop (mkF m 15 #[.val (.long q0), .second, .val (.long q1), .second, .val (.long q2), .second, .val (.long q3), .second, .val (.long q4), .second, .val (.int q5), .val (.int (1 : Int32)), .val (.int (6 : Int32)), .unset, .unset, .unset, .unset] [(.int q5)])) _
      refine XS.iconst X0.here hx rfl (hb hby at_15) ?_
      show Steps p.tables e below (s₁.setTop (mkF m 16 #[.val (.long q0), .second, .val (.long q1), .second, .val (.long q2), .second, .val (.long q3), .second, .val (.long q4), .second, .val (.int q5), .val (.int (1 : Int32)), .val (.int (6 : Int32)), .unset, .unset, .unset, .unset] [(.int (2 : Int32)), (.int q5)])) _
      refine XS.iushr X0.here hx rfl (hb hby at_16) rfl ?_
      show Steps p.tables e below (s₁.setTop (mkF m 17 #[.val (.long q0), .second, .val (.long q1), .second, .val (.long q2), .second, .val (.long q3), .second, .val (.long q4), .second, .val (.int q5), .val (.int (1 : Int32)), .val (.int (6 : Int32)), .unset, .unset, .unset, .unset] [(.int ((q5).toUInt32 >>> ((2 : Int32) &&& 31).toUInt32).toInt32)])) _
      refine X0.ldcInt hx hown (mvT hZ (hw _ (List.mem_of_getElem? (i := 0) rfl))) (g := (mkF m 17 #[.val (.long q0), .second, .val (.long q1), .second, .val (.long q2), .second, .val (.long q3), .second, .val (.long q4), .second, .val (.int q5), .val (.int (1 : Int32)), .val (.int (6 : Int32)), .unset, .unset, .unset, .unset] [(.int ((q5).toUInt32 >>> ((2 : Int32) &&& 31).toUInt32).toInt32)])) rfl (hb hby at_17) _ ?_
      show Steps p.tables e below (s₁.setTop (mkF m 19 #[.val (.long q0), .second, .val (.long q1), .second, .val (.long q2), .second, .val (.long q3), .second, .val (.long q4), .second, .val (.int q5), .val (.int (1 : Int32)), .val (.int (6 : Int32)), .unset, .unset, .unset, .unset] [(.int (2147483647 : Int32)), (.int ((q5).toUInt32 >>> ((2 : Int32) &&& 31).toUInt32).toInt32)])) _
      refine XS.iand X0.here hx rfl (hb hby at_19) rfl ?_
      show Steps p.tables e below (s₁.setTop (mkF m 20 #[.val (.long q0), .second, .val (.long q1), .second, .val (.long q2), .second, .val (.long q3), .second, .val (.long q4), .second, .val (.int q5), .val (.int (1 : Int32)), .val (.int (6 : Int32)), .unset, .unset, .unset, .unset] [(.int (((q5).toUInt32 >>> ((2 : Int32) &&& 31).toUInt32).toInt32 &&& (2147483647 : Int32)))])) _
      refine XS.iload X0.here hx rfl (hb hby at_20) rfl ?_
      show Steps p.tables e below (s₁.setTop (mkF m 22 #[.val (.long q0), .second, .val (.long q1), .second, .val (.long q2), .second, .val (.long q3), .second, .val (.long q4), .second, .val (.int q5), .val (.int (1 : Int32)), .val (.int (6 : Int32)), .unset, .unset, .unset, .unset] [(.int (6 : Int32)), (.int (((q5).toUInt32 >>> ((2 : Int32) &&& 31).toUInt32).toInt32 &&& (2147483647 : Int32)))])) _
      refine iremM X0 hx rfl (hb hby at_22) rfl (by decide) ?_
      exact k
    obtain ⟨v29, hv29⟩ : ∃ z : Int32, z = ((((q5).toUInt32 >>> ((8 : Int32) &&& 31).toUInt32).toInt32 &&& (2147483647 : Int32)) % (6 : Int32)) := ⟨_, rfl⟩
    have pre30 : ∀ t, Steps p.tables e below (s₁.setTop (mkF m 36 #[.val (.long q0), .second, .val (.long q1), .second, .val (.long q2), .second, .val (.long q3), .second, .val (.long q4), .second, .val (.int q5), .val (.int (1 : Int32)), .val (.int (6 : Int32)), .val (.int v27), .unset, .unset, .unset] [(.int v29)])) t → Steps p.tables e below (s₁.setTop (entryFrame m #[(.long q0), (.long q1), (.long q2), (.long q3), (.long q4), (.int q5)] maxLocals)) t := by
      rw [hv29]
      intro t k
      refine pre28 t ?_
      show Steps p.tables e below (s₁.setTop (mkF m 23 #[.val (.long q0), .second, .val (.long q1), .second, .val (.long q2), .second, .val (.long q3), .second, .val (.long q4), .second, .val (.int q5), .val (.int (1 : Int32)), .val (.int (6 : Int32)), .unset, .unset, .unset, .unset] [(.int v27)])) _
      refine XS.istore X0.here hx rfl (hb hby at_23) rfl (l' := #[.val (.long q0), .second, .val (.long q1), .second, .val (.long q2), .second, .val (.long q3), .second, .val (.long q4), .second, .val (.int q5), .val (.int (1 : Int32)), .val (.int (6 : Int32)), .val (.int v27), .unset, .unset, .unset]) rfl ?_
      show Steps p.tables e below (s₁.setTop (mkF m 25 #[.val (.long q0), .second, .val (.long q1), .second, .val (.long q2), .second, .val (.long q3), .second, .val (.long q4), .second, .val (.int q5), .val (.int (1 : Int32)), .val (.int (6 : Int32)), .val (.int v27), .unset, .unset, .unset] [])) _
      refine XS.iload X0.here hx rfl (hb hby at_25) rfl ?_
      show Steps p.tables e below (s₁.setTop (mkF m 27 #[.val (.long q0), .second, .val (.long q1), .second, .val (.long q2), .second, .val (.long q3), .second, .val (.long q4), .second, .val (.int q5), .val (.int (1 : Int32)), .val (.int (6 : Int32)), .val (.int v27), .unset, .unset, .unset] [(.int q5)])) _
      refine XS.bipush X0.here hx rfl (hb hby at_27) ?_
      show Steps p.tables e below (s₁.setTop (mkF m 29 #[.val (.long q0), .second, .val (.long q1), .second, .val (.long q2), .second, .val (.long q3), .second, .val (.long q4), .second, .val (.int q5), .val (.int (1 : Int32)), .val (.int (6 : Int32)), .val (.int v27), .unset, .unset, .unset] [(.int (8 : Int32)), (.int q5)])) _
      refine XS.iushr X0.here hx rfl (hb hby at_29) rfl ?_
      show Steps p.tables e below (s₁.setTop (mkF m 30 #[.val (.long q0), .second, .val (.long q1), .second, .val (.long q2), .second, .val (.long q3), .second, .val (.long q4), .second, .val (.int q5), .val (.int (1 : Int32)), .val (.int (6 : Int32)), .val (.int v27), .unset, .unset, .unset] [(.int ((q5).toUInt32 >>> ((8 : Int32) &&& 31).toUInt32).toInt32)])) _
      refine X0.ldcInt hx hown (mvT hZ (hw _ (List.mem_of_getElem? (i := 0) rfl))) (g := (mkF m 30 #[.val (.long q0), .second, .val (.long q1), .second, .val (.long q2), .second, .val (.long q3), .second, .val (.long q4), .second, .val (.int q5), .val (.int (1 : Int32)), .val (.int (6 : Int32)), .val (.int v27), .unset, .unset, .unset] [(.int ((q5).toUInt32 >>> ((8 : Int32) &&& 31).toUInt32).toInt32)])) rfl (hb hby at_30) _ ?_
      show Steps p.tables e below (s₁.setTop (mkF m 32 #[.val (.long q0), .second, .val (.long q1), .second, .val (.long q2), .second, .val (.long q3), .second, .val (.long q4), .second, .val (.int q5), .val (.int (1 : Int32)), .val (.int (6 : Int32)), .val (.int v27), .unset, .unset, .unset] [(.int (2147483647 : Int32)), (.int ((q5).toUInt32 >>> ((8 : Int32) &&& 31).toUInt32).toInt32)])) _
      refine XS.iand X0.here hx rfl (hb hby at_32) rfl ?_
      show Steps p.tables e below (s₁.setTop (mkF m 33 #[.val (.long q0), .second, .val (.long q1), .second, .val (.long q2), .second, .val (.long q3), .second, .val (.long q4), .second, .val (.int q5), .val (.int (1 : Int32)), .val (.int (6 : Int32)), .val (.int v27), .unset, .unset, .unset] [(.int (((q5).toUInt32 >>> ((8 : Int32) &&& 31).toUInt32).toInt32 &&& (2147483647 : Int32)))])) _
      refine XS.iload X0.here hx rfl (hb hby at_33) rfl ?_
      show Steps p.tables e below (s₁.setTop (mkF m 35 #[.val (.long q0), .second, .val (.long q1), .second, .val (.long q2), .second, .val (.long q3), .second, .val (.long q4), .second, .val (.int q5), .val (.int (1 : Int32)), .val (.int (6 : Int32)), .val (.int v27), .unset, .unset, .unset] [(.int (6 : Int32)), (.int (((q5).toUInt32 >>> ((8 : Int32) &&& 31).toUInt32).toInt32 &&& (2147483647 : Int32)))])) _
      refine iremM X0 hx rfl (hb hby at_35) rfl (by decide) ?_
      exact k
    obtain ⟨T31, h31, cA31, X31, e31, E31, A31, st31⟩ := newP X0 hx hZ (aty := .long) (hw _ (List.mem_of_getElem? (i := 1) rfl)) e0 (g := (mkF m 40 #[.val (.long q0), .second, .val (.long q1), .second, .val (.long q2), .second, .val (.long q3), .second, .val (.long q4), .second, .val (.int q5), .val (.int (1 : Int32)), .val (.int (6 : Int32)), .val (.int v27), .val (.int v29), .unset, .unset] [(.int (6 : Int32))])) rfl (hb hby at_40) rfl (by decide) (cap := 6) (by decide) (by decide) (by decide) (by decide)
    obtain ⟨a31, g31⟩ : ∃ z, z = h0.size := ⟨_, rfl⟩
    rw [← g31] at A31 st31
    have ge_a31 : n0 ≤ a31 := g31 ▸ Z0
    have sz31 : n0 ≤ h31.size := Nat.le_trans Z0 E31.1
    have V31_n : own_AJ Z h31 a31 [(0 : Int64), (0 : Int64), (0 : Int64), (0 : Int64), (0 : Int64), (0 : Int64)] := own_AJ_new A31 (k := 6) (by decide)
    obtain ⟨T32, h32, X32, e32, W32, V32, st32⟩ := own_lastore X31 hx hZ e31 V31_n (j := (0 : Int32)) (show 0 ≤ Int32.toInt (0 : Int32) ∧ Int32.toInt (0 : Int32) < ((6 : Nat) : Int) by decide) (x := q3) (hb hby at_46) (Ls := #[.val (.long q0), .second, .val (.long q1), .second, .val (.long q2), .second, .val (.long q3), .second, .val (.long q4), .second, .val (.int q5), .val (.int (1 : Int32)), .val (.int (6 : Int32)), .val (.int v27), .val (.int v29), .unset, .unset]) (rest := [(.ref a31)])
    have sz32 : n0 ≤ h32.size := Nat.le_trans sz31 (Keep.of_wr W32).1
    have N32 := Fr.snoc X32 N0 ge_a31
    have V32_n : own_AJ Z h32 a31 [q3, (0 : Int64), (0 : Int64), (0 : Int64), (0 : Int64), (0 : Int64)] := V32
    obtain ⟨T33, h33, X33, e33, W33, V33, st33⟩ := own_lastore X32 hx hZ e32 V32_n (j := (1 : Int32)) (show 0 ≤ Int32.toInt (1 : Int32) ∧ Int32.toInt (1 : Int32) < ((6 : Nat) : Int) by decide) (x := q3) (hb hby at_51) (Ls := #[.val (.long q0), .second, .val (.long q1), .second, .val (.long q2), .second, .val (.long q3), .second, .val (.long q4), .second, .val (.int q5), .val (.int (1 : Int32)), .val (.int (6 : Int32)), .val (.int v27), .val (.int v29), .unset, .unset]) (rest := [(.ref a31)])
    have sz33 : n0 ≤ h33.size := Nat.le_trans sz32 (Keep.of_wr W33).1
    have N33 := Fr.snoc X33 N32 ge_a31
    have V33_n : own_AJ Z h33 a31 [q3, q3, (0 : Int64), (0 : Int64), (0 : Int64), (0 : Int64)] := V33
    obtain ⟨T34, h34, X34, e34, W34, V34, st34⟩ := own_lastore X33 hx hZ e33 V33_n (j := (2 : Int32)) (show 0 ≤ Int32.toInt (2 : Int32) ∧ Int32.toInt (2 : Int32) < ((6 : Nat) : Int) by decide) (x := q3) (hb hby at_56) (Ls := #[.val (.long q0), .second, .val (.long q1), .second, .val (.long q2), .second, .val (.long q3), .second, .val (.long q4), .second, .val (.int q5), .val (.int (1 : Int32)), .val (.int (6 : Int32)), .val (.int v27), .val (.int v29), .unset, .unset]) (rest := [(.ref a31)])
    have sz34 : n0 ≤ h34.size := Nat.le_trans sz33 (Keep.of_wr W34).1
    have N34 := Fr.snoc X34 N33 ge_a31
    have V34_n : own_AJ Z h34 a31 [q3, q3, q3, (0 : Int64), (0 : Int64), (0 : Int64)] := V34
    obtain ⟨T35, h35, X35, e35, W35, V35, st35⟩ := own_lastore X34 hx hZ e34 V34_n (j := (3 : Int32)) (show 0 ≤ Int32.toInt (3 : Int32) ∧ Int32.toInt (3 : Int32) < ((6 : Nat) : Int) by decide) (x := q3) (hb hby at_61) (Ls := #[.val (.long q0), .second, .val (.long q1), .second, .val (.long q2), .second, .val (.long q3), .second, .val (.long q4), .second, .val (.int q5), .val (.int (1 : Int32)), .val (.int (6 : Int32)), .val (.int v27), .val (.int v29), .unset, .unset]) (rest := [(.ref a31)])
    have sz35 : n0 ≤ h35.size := Nat.le_trans sz34 (Keep.of_wr W35).1
    have N35 := Fr.snoc X35 N34 ge_a31
    have V35_n : own_AJ Z h35 a31 [q3, q3, q3, q3, (0 : Int64), (0 : Int64)] := V35
    obtain ⟨T36, h36, X36, e36, W36, V36, st36⟩ := own_lastore X35 hx hZ e35 V35_n (j := (4 : Int32)) (show 0 ≤ Int32.toInt (4 : Int32) ∧ Int32.toInt (4 : Int32) < ((6 : Nat) : Int) by decide) (x := q3) (hb hby at_66) (Ls := #[.val (.long q0), .second, .val (.long q1), .second, .val (.long q2), .second, .val (.long q3), .second, .val (.long q4), .second, .val (.int q5), .val (.int (1 : Int32)), .val (.int (6 : Int32)), .val (.int v27), .val (.int v29), .unset, .unset]) (rest := [(.ref a31)])
    have sz36 : n0 ≤ h36.size := Nat.le_trans sz35 (Keep.of_wr W36).1
    have N36 := Fr.snoc X36 N35 ge_a31
    have V36_n : own_AJ Z h36 a31 [q3, q3, q3, q3, q3, (0 : Int64)] := V36
    obtain ⟨T37, h37, X37, e37, W37, V37, st37⟩ := own_lastore X36 hx hZ e36 V36_n (j := (5 : Int32)) (show 0 ≤ Int32.toInt (5 : Int32) ∧ Int32.toInt (5 : Int32) < ((6 : Nat) : Int) by decide) (x := q3) (hb hby at_71) (Ls := #[.val (.long q0), .second, .val (.long q1), .second, .val (.long q2), .second, .val (.long q3), .second, .val (.long q4), .second, .val (.int q5), .val (.int (1 : Int32)), .val (.int (6 : Int32)), .val (.int v27), .val (.int v29), .unset, .unset]) (rest := [(.ref a31)])
    have sz37 : n0 ≤ h37.size := Nat.le_trans sz36 (Keep.of_wr W37).1
    have N37 := Fr.snoc X37 N36 ge_a31
    have V37_n : own_AJ Z h37 a31 [q3, q3, q3, q3, q3, q3] := V37
    obtain ⟨T38, h38, cA38, X38, e38, E38, A38, st38⟩ := newP X37 hx hZ (aty := .long) (hw _ (List.mem_of_getElem? (i := 1) rfl)) e37 (g := (mkF m 76 #[.val (.long q0), .second, .val (.long q1), .second, .val (.long q2), .second, .val (.long q3), .second, .val (.long q4), .second, .val (.int q5), .val (.int (1 : Int32)), .val (.int (6 : Int32)), .val (.int v27), .val (.int v29), .val (.ref a31), .unset] [(.int (6 : Int32))])) rfl (hb hby at_76) rfl (by decide) (cap := 6) (by decide) (by decide) (by decide) (by decide)
    obtain ⟨a38, g38⟩ : ∃ z, z = h37.size := ⟨_, rfl⟩
    rw [← g38] at A38 st38
    have ne_a31_a38 : a31 ≠ a38 := g38 ▸ Nat.ne_of_lt V37_n.lt
    have ge_a38 : n0 ≤ a38 := g38 ▸ sz37
    have V38_a31 : own_AJ Z h38 a31 [q3, q3, q3, q3, q3, q3] := V37_n.ext E38
    have sz38 : n0 ≤ h38.size := Nat.le_trans sz37 E38.1
    have V38_n : own_AJ Z h38 a38 [(0 : Int64), (0 : Int64), (0 : Int64), (0 : Int64), (0 : Int64), (0 : Int64)] := own_AJ_new A38 (k := 6) (by decide)
    obtain ⟨T39, h39, X39, e39, W39, V39, st39⟩ := own_lastore X38 hx hZ e38 V38_n (j := (0 : Int32)) (show 0 ≤ Int32.toInt (0 : Int32) ∧ Int32.toInt (0 : Int32) < ((6 : Nat) : Int) by decide) (x := q4) (hb hby at_82) (Ls := #[.val (.long q0), .second, .val (.long q1), .second, .val (.long q2), .second, .val (.long q3), .second, .val (.long q4), .second, .val (.int q5), .val (.int (1 : Int32)), .val (.int (6 : Int32)), .val (.int v27), .val (.int v29), .val (.ref a31), .unset]) (rest := [(.ref a38)])
    have V39_a31 : own_AJ Z h39 a31 [q3, q3, q3, q3, q3, q3] := V38_a31.other W39 ne_a31_a38
    have sz39 : n0 ≤ h39.size := Nat.le_trans sz38 (Keep.of_wr W39).1
    have N39 := Fr.snoc X39 N37 ge_a38
    have V39_n : own_AJ Z h39 a38 [q4, (0 : Int64), (0 : Int64), (0 : Int64), (0 : Int64), (0 : Int64)] := V39
    obtain ⟨T40, h40, X40, e40, W40, V40, st40⟩ := own_lastore X39 hx hZ e39 V39_n (j := (1 : Int32)) (show 0 ≤ Int32.toInt (1 : Int32) ∧ Int32.toInt (1 : Int32) < ((6 : Nat) : Int) by decide) (x := q4) (hb hby at_87) (Ls := #[.val (.long q0), .second, .val (.long q1), .second, .val (.long q2), .second, .val (.long q3), .second, .val (.long q4), .second, .val (.int q5), .val (.int (1 : Int32)), .val (.int (6 : Int32)), .val (.int v27), .val (.int v29), .val (.ref a31), .unset]) (rest := [(.ref a38)])
    have V40_a31 : own_AJ Z h40 a31 [q3, q3, q3, q3, q3, q3] := V39_a31.other W40 ne_a31_a38
    have sz40 : n0 ≤ h40.size := Nat.le_trans sz39 (Keep.of_wr W40).1
    have N40 := Fr.snoc X40 N39 ge_a38
    have V40_n : own_AJ Z h40 a38 [q4, q4, (0 : Int64), (0 : Int64), (0 : Int64), (0 : Int64)] := V40
    obtain ⟨T41, h41, X41, e41, W41, V41, st41⟩ := own_lastore X40 hx hZ e40 V40_n (j := (2 : Int32)) (show 0 ≤ Int32.toInt (2 : Int32) ∧ Int32.toInt (2 : Int32) < ((6 : Nat) : Int) by decide) (x := q4) (hb hby at_92) (Ls := #[.val (.long q0), .second, .val (.long q1), .second, .val (.long q2), .second, .val (.long q3), .second, .val (.long q4), .second, .val (.int q5), .val (.int (1 : Int32)), .val (.int (6 : Int32)), .val (.int v27), .val (.int v29), .val (.ref a31), .unset]) (rest := [(.ref a38)])
    have V41_a31 : own_AJ Z h41 a31 [q3, q3, q3, q3, q3, q3] := V40_a31.other W41 ne_a31_a38
    have sz41 : n0 ≤ h41.size := Nat.le_trans sz40 (Keep.of_wr W41).1
    have N41 := Fr.snoc X41 N40 ge_a38
    have V41_n : own_AJ Z h41 a38 [q4, q4, q4, (0 : Int64), (0 : Int64), (0 : Int64)] := V41
    obtain ⟨T42, h42, X42, e42, W42, V42, st42⟩ := own_lastore X41 hx hZ e41 V41_n (j := (3 : Int32)) (show 0 ≤ Int32.toInt (3 : Int32) ∧ Int32.toInt (3 : Int32) < ((6 : Nat) : Int) by decide) (x := q4) (hb hby at_97) (Ls := #[.val (.long q0), .second, .val (.long q1), .second, .val (.long q2), .second, .val (.long q3), .second, .val (.long q4), .second, .val (.int q5), .val (.int (1 : Int32)), .val (.int (6 : Int32)), .val (.int v27), .val (.int v29), .val (.ref a31), .unset]) (rest := [(.ref a38)])
    have V42_a31 : own_AJ Z h42 a31 [q3, q3, q3, q3, q3, q3] := V41_a31.other W42 ne_a31_a38
    have sz42 : n0 ≤ h42.size := Nat.le_trans sz41 (Keep.of_wr W42).1
    have N42 := Fr.snoc X42 N41 ge_a38
    have V42_n : own_AJ Z h42 a38 [q4, q4, q4, q4, (0 : Int64), (0 : Int64)] := V42
    obtain ⟨T43, h43, X43, e43, W43, V43, st43⟩ := own_lastore X42 hx hZ e42 V42_n (j := (4 : Int32)) (show 0 ≤ Int32.toInt (4 : Int32) ∧ Int32.toInt (4 : Int32) < ((6 : Nat) : Int) by decide) (x := q4) (hb hby at_102) (Ls := #[.val (.long q0), .second, .val (.long q1), .second, .val (.long q2), .second, .val (.long q3), .second, .val (.long q4), .second, .val (.int q5), .val (.int (1 : Int32)), .val (.int (6 : Int32)), .val (.int v27), .val (.int v29), .val (.ref a31), .unset]) (rest := [(.ref a38)])
    have V43_a31 : own_AJ Z h43 a31 [q3, q3, q3, q3, q3, q3] := V42_a31.other W43 ne_a31_a38
    have sz43 : n0 ≤ h43.size := Nat.le_trans sz42 (Keep.of_wr W43).1
    have N43 := Fr.snoc X43 N42 ge_a38
    have V43_n : own_AJ Z h43 a38 [q4, q4, q4, q4, q4, (0 : Int64)] := V43
    obtain ⟨T44, h44, X44, e44, W44, V44, st44⟩ := own_lastore X43 hx hZ e43 V43_n (j := (5 : Int32)) (show 0 ≤ Int32.toInt (5 : Int32) ∧ Int32.toInt (5 : Int32) < ((6 : Nat) : Int) by decide) (x := q4) (hb hby at_107) (Ls := #[.val (.long q0), .second, .val (.long q1), .second, .val (.long q2), .second, .val (.long q3), .second, .val (.long q4), .second, .val (.int q5), .val (.int (1 : Int32)), .val (.int (6 : Int32)), .val (.int v27), .val (.int v29), .val (.ref a31), .unset]) (rest := [(.ref a38)])
    have V44_a31 : own_AJ Z h44 a31 [q3, q3, q3, q3, q3, q3] := V43_a31.other W44 ne_a31_a38
    have sz44 : n0 ≤ h44.size := Nat.le_trans sz43 (Keep.of_wr W44).1
    have N44 := Fr.snoc X44 N43 ge_a38
    have V44_n : own_AJ Z h44 a38 [q4, q4, q4, q4, q4, q4] := V44
    obtain ⟨_, _, ⟨T45, L45, k45, n45⟩, -, X45, ⟨Lc45, hQ45, l45, y45, z45⟩, st45⟩ := Jvm.LawKit.callS X44 hx (y := (⟨"com/example/cubeshare/cubeshare/model/TuplesHashPinLaw", "put", "([JIIJJJ)V"⟩ : MethodName)) hown (mvT hZ (hw _ (List.mem_of_getElem? (i := 2) rfl))) (mvT hZ (hw _ (List.mem_of_getElem? (i := 3) rfl))) (mvT hZ (hw _ (List.mem_of_getElem? (i := 4) rfl))) (mvT hZ (hw _ (List.mem_of_getElem? (i := 5) rfl))) (by decide) (backOf (W := 0) (rm1_1 l Z a0 hw [] a31 v27 q0 q1 q2 [q3, q3, q3, q3, q3, q3] h44 n0 sz44 V44_a31 ge_a31 (by (try simp only [List.length_set]); exact own_off (len := 1) (L := 6) (by assumption) (k := 6) (by decide) (by decide)) (by (try simp only [List.length_set]); exact (by decide : 6 ≤ 100))) hZ (hw _ (List.mem_of_getElem? (i := 5) rfl)) (hw _ (List.mem_of_getElem? (i := 4) rfl)) (by decide) (by decide)) (g := (mkF m 120 #[.val (.long q0), .second, .val (.long q1), .second, .val (.long q2), .second, .val (.long q3), .second, .val (.long q4), .second, .val (.int q5), .val (.int (1 : Int32)), .val (.int (6 : Int32)), .val (.int v27), .val (.int v29), .val (.ref a31), .val (.ref a38)] [(.long q2), (.long q1), (.long q0), (.int (1 : Int32)), (.int v27), (.ref a31)])) rfl (by rw [hml]; rfl) (argsL := [(.ref a31), (.int v27), (.int (1 : Int32)), (.long q0), (.long q1), (.long q2)]) (rest := []) (lenOf pd_4 rfl) rfl (by show 2 * 0 + _ ≤ _; exact Nat.le_of_eq rfl) (hb hby at_120) (fun _ _ => ⟨rfl, e44, (by decide : 2 + 0 ≤ _), (by decide : 12 + 0 ≤ _)⟩)
    dsimp only [Pt.U, Pt.locs, Pt.cells, Pt.slots] at X45 l45 y45 z45 st45 hQ45
    subst l45 y45 z45
    obtain ⟨rfl, N45q, K45, V45_o0⟩ := hQ45
    obtain ⟨h45, e45⟩ : ∃ z, T45.heap = z := ⟨_, rfl⟩
    rw [e45] at K45 V45_o0
    have V45_a38 : own_AJ Z h45 a38 [q4, q4, q4, q4, q4, q4] := V44_n.keep K45 (ninS (Ne.symm ne_a31_a38) nin0)
    have sz45 : n0 ≤ h45.size := Nat.le_trans sz44 K45.1
    have N45 := Fr.app N44 N45q
    obtain ⟨_, _, ⟨T46, L46, k46, n46⟩, -, X46, ⟨Lc46, hQ46, l46, y46, z46⟩, st46⟩ := Jvm.LawKit.callS X45 hx (y := (⟨"com/example/cubeshare/cubeshare/model/TuplesHashPinLaw", "put", "([JIIJJJ)V"⟩ : MethodName)) hown (mvT hZ (hw _ (List.mem_of_getElem? (i := 2) rfl))) (mvT hZ (hw _ (List.mem_of_getElem? (i := 3) rfl))) (mvT hZ (hw _ (List.mem_of_getElem? (i := 4) rfl))) (mvT hZ (hw _ (List.mem_of_getElem? (i := 5) rfl))) (by decide) (backOf (W := 0) (rm1_1 l Z a0 hw [] a38 v29 q0 q1 q2 [q4, q4, q4, q4, q4, q4] h45 n0 sz45 V45_a38 ge_a38 (by (try simp only [List.length_set]); exact own_off (len := 1) (L := 6) (by assumption) (k := 6) (by decide) (by decide)) (by (try simp only [List.length_set]); exact (by decide : 6 ≤ 100))) hZ (hw _ (List.mem_of_getElem? (i := 5) rfl)) (hw _ (List.mem_of_getElem? (i := 4) rfl)) (by decide) (by decide)) (g := (mkF m 133 #[.val (.long q0), .second, .val (.long q1), .second, .val (.long q2), .second, .val (.long q3), .second, .val (.long q4), .second, .val (.int q5), .val (.int (1 : Int32)), .val (.int (6 : Int32)), .val (.int v27), .val (.int v29), .val (.ref a31), .val (.ref a38)] [(.long q2), (.long q1), (.long q0), (.int (1 : Int32)), (.int v29), (.ref a38)])) rfl (by rw [hml]; rfl) (argsL := [(.ref a38), (.int v29), (.int (1 : Int32)), (.long q0), (.long q1), (.long q2)]) (rest := []) (lenOf pd_4 rfl) rfl (by show 2 * 0 + _ ≤ _; exact Nat.le_of_eq rfl) (hb hby at_133) (fun _ _ => ⟨rfl, e45, (by decide : 2 + 0 ≤ _), (by decide : 12 + 0 ≤ _)⟩)
    dsimp only [Pt.U, Pt.locs, Pt.cells, Pt.slots] at X46 l46 y46 z46 st46 hQ46
    subst l46 y46 z46
    obtain ⟨rfl, N46q, K46, V46_o0⟩ := hQ46
    obtain ⟨h46, e46⟩ : ∃ z, T46.heap = z := ⟨_, rfl⟩
    rw [e46] at K46 V46_o0
    have V46_a31 : own_AJ Z h46 a31 (([q3, q3, q3, q3, q3, q3]).set (v27).toInt.toNat q0) := V45_o0.keep K46 (ninS ne_a31_a38 nin0)
    have sz46 : n0 ≤ h46.size := Nat.le_trans sz45 K46.1
    have N46 := Fr.app N45 N46q
    obtain ⟨_, _, ⟨T47, L47, k47, n47⟩, -, X47, ⟨Lc47, hQ47, l47, y47, z47⟩, st47⟩ := Jvm.LawKit.callS X46 hx (y := (⟨"com/example/cubeshare/cubeshare/model/Tuples", "hash", "([JII)I"⟩ : MethodName)) hown (mvT hZ (hw _ (List.mem_of_getElem? (i := 6) rfl))) (mvT hZ (hw _ (List.mem_of_getElem? (i := 7) rfl))) (mvT hZ (hw _ (List.mem_of_getElem? (i := 8) rfl))) (mvT hZ (hw _ (List.mem_of_getElem? (i := 9) rfl))) (by decide) (backOf (W := 0) (rm2_1 l Z a0 hw [] a31 v27 ((([q3, q3, q3, q3, q3, q3]).set (v27).toInt.toNat q0)) h46 n0 sz46 V46_a31 (by (try simp only [List.length_set]); exact own_off (len := 1) (L := 6) (by assumption) (k := 6) (by decide) (by decide)) (by (try simp only [List.length_set]); exact (by decide : 6 ≤ 100))) hZ (hw _ (List.mem_of_getElem? (i := 9) rfl)) (hw _ (List.mem_of_getElem? (i := 8) rfl)) (by decide) (by decide)) (g := (mkF m 142 #[.val (.long q0), .second, .val (.long q1), .second, .val (.long q2), .second, .val (.long q3), .second, .val (.long q4), .second, .val (.int q5), .val (.int (1 : Int32)), .val (.int (6 : Int32)), .val (.int v27), .val (.int v29), .val (.ref a31), .val (.ref a38)] [(.int (1 : Int32)), (.int v27), (.ref a31)])) rfl (by rw [hml]; rfl) (argsL := [(.ref a31), (.int v27), (.int (1 : Int32))]) (rest := []) (lenOf pd_5 rfl) rfl (by show 2 * 0 + _ ≤ _; exact Nat.le_of_eq rfl) (hb hby at_142) (fun _ _ => ⟨rfl, e46, (by decide : 2 + 0 ≤ _), (by decide : 12 + 0 ≤ _)⟩)
    dsimp only [Pt.U, Pt.locs, Pt.cells, Pt.slots] at X47 l47 y47 z47 st47 hQ47
    subst l47 y47 z47
    obtain ⟨rfl, N47q, e47⟩ := hQ47
    have N47 := Fr.app N46 N47q
    obtain ⟨_, _, ⟨T48, L48, k48, n48⟩, -, X48, ⟨Lc48, hQ48, l48, y48, z48⟩, st48⟩ := Jvm.LawKit.callS X47 hx (y := (⟨"com/example/cubeshare/cubeshare/model/Tuples", "hash", "([JII)I"⟩ : MethodName)) hown (mvT hZ (hw _ (List.mem_of_getElem? (i := 6) rfl))) (mvT hZ (hw _ (List.mem_of_getElem? (i := 7) rfl))) (mvT hZ (hw _ (List.mem_of_getElem? (i := 8) rfl))) (mvT hZ (hw _ (List.mem_of_getElem? (i := 9) rfl))) (by decide) (backOf (W := 1) (rm2_1 l Z a0 hw [] a38 v29 ((([q4, q4, q4, q4, q4, q4]).set (v29).toInt.toNat q0)) h46 n0 sz46 V46_o0 (by (try simp only [List.length_set]); exact own_off (len := 1) (L := 6) (by assumption) (k := 6) (by decide) (by decide)) (by (try simp only [List.length_set]); exact (by decide : 6 ≤ 100))) hZ (hw _ (List.mem_of_getElem? (i := 9) rfl)) (hw _ (List.mem_of_getElem? (i := 8) rfl)) (by decide) (by decide)) (g := (mkF m 151 #[.val (.long q0), .second, .val (.long q1), .second, .val (.long q2), .second, .val (.long q3), .second, .val (.long q4), .second, .val (.int q5), .val (.int (1 : Int32)), .val (.int (6 : Int32)), .val (.int v27), .val (.int v29), .val (.ref a31), .val (.ref a38)] [(.int (1 : Int32)), (.int v29), (.ref a38), (.int (own_f2_1 v27 ((([q3, q3, q3, q3, q3, q3]).set (v27).toInt.toNat q0))))])) rfl (by rw [hml]; rfl) (argsL := [(.ref a38), (.int v29), (.int (1 : Int32))]) (rest := [(.int (own_f2_1 v27 ((([q3, q3, q3, q3, q3, q3]).set (v27).toInt.toNat q0))))]) (lenOf pd_5 rfl) rfl (by show 2 * 0 + _ ≤ _; exact Nat.le_of_eq rfl) (hb hby at_151) (fun _ _ => ⟨rfl, e47, (by decide : 2 + 0 ≤ _), (by decide : 12 + 0 ≤ _)⟩)
    dsimp only [Pt.U, Pt.locs, Pt.cells, Pt.slots] at X48 l48 y48 z48 st48 hQ48
    subst l48 y48 z48
    obtain ⟨rfl, N48q, e48⟩ := hQ48
    have N48 := Fr.app N47 N48q
    have pre49 : ∀ t, Steps p.tables e below (T48.setTop (mkF m 154 #[.val (.long q0), .second, .val (.long q1), .second, .val (.long q2), .second, .val (.long q3), .second, .val (.long q4), .second, .val (.int q5), .val (.int (1 : Int32)), .val (.int (6 : Int32)), .val (.int v27), .val (.int v29), .val (.ref a31), .val (.ref a38)] [(.int (own_f2_1 v29 ((([q4, q4, q4, q4, q4, q4]).set (v29).toInt.toNat q0)))), (.int (own_f2_1 v27 ((([q3, q3, q3, q3, q3, q3]).set (v27).toInt.toNat q0))))])) t → Steps p.tables e below (s₁.setTop (entryFrame m #[(.long q0), (.long q1), (.long q2), (.long q3), (.long q4), (.int q5)] maxLocals)) t := by
      intro t k
      refine pre30 t ?_
      show Steps p.tables e below (s₁.setTop (mkF m 36 #[.val (.long q0), .second, .val (.long q1), .second, .val (.long q2), .second, .val (.long q3), .second, .val (.long q4), .second, .val (.int q5), .val (.int (1 : Int32)), .val (.int (6 : Int32)), .val (.int v27), .unset, .unset, .unset] [(.int v29)])) _
      refine XS.istore X0.here hx rfl (hb hby at_36) rfl (l' := #[.val (.long q0), .second, .val (.long q1), .second, .val (.long q2), .second, .val (.long q3), .second, .val (.long q4), .second, .val (.int q5), .val (.int (1 : Int32)), .val (.int (6 : Int32)), .val (.int v27), .val (.int v29), .unset, .unset]) rfl ?_
      show Steps p.tables e below (s₁.setTop (mkF m 38 #[.val (.long q0), .second, .val (.long q1), .second, .val (.long q2), .second, .val (.long q3), .second, .val (.long q4), .second, .val (.int q5), .val (.int (1 : Int32)), .val (.int (6 : Int32)), .val (.int v27), .val (.int v29), .unset, .unset] [])) _
      refine XS.bipush X0.here hx rfl (hb hby at_38) ?_
      show Steps p.tables e below (s₁.setTop (mkF m 40 #[.val (.long q0), .second, .val (.long q1), .second, .val (.long q2), .second, .val (.long q3), .second, .val (.long q4), .second, .val (.int q5), .val (.int (1 : Int32)), .val (.int (6 : Int32)), .val (.int v27), .val (.int v29), .unset, .unset] [(.int (6 : Int32))])) _
      refine st31 _ ?_
      show Steps p.tables e below (T31.setTop (mkF m 42 #[.val (.long q0), .second, .val (.long q1), .second, .val (.long q2), .second, .val (.long q3), .second, .val (.long q4), .second, .val (.int q5), .val (.int (1 : Int32)), .val (.int (6 : Int32)), .val (.int v27), .val (.int v29), .unset, .unset] [(.ref a31)])) _
      refine XS.dup X31.here hx rfl (hb hby at_42) rfl rfl ?_
      show Steps p.tables e below (T31.setTop (mkF m 43 #[.val (.long q0), .second, .val (.long q1), .second, .val (.long q2), .second, .val (.long q3), .second, .val (.long q4), .second, .val (.int q5), .val (.int (1 : Int32)), .val (.int (6 : Int32)), .val (.int v27), .val (.int v29), .unset, .unset] [(.ref a31), (.ref a31)])) _
      refine XS.iconst X31.here hx rfl (hb hby at_43) ?_
      show Steps p.tables e below (T31.setTop (mkF m 44 #[.val (.long q0), .second, .val (.long q1), .second, .val (.long q2), .second, .val (.long q3), .second, .val (.long q4), .second, .val (.int q5), .val (.int (1 : Int32)), .val (.int (6 : Int32)), .val (.int v27), .val (.int v29), .unset, .unset] [(.int (0 : Int32)), (.ref a31), (.ref a31)])) _
      refine XS.lload X31.here hx rfl (hb hby at_44) rfl ?_
      show Steps p.tables e below (T31.setTop (mkF m 46 #[.val (.long q0), .second, .val (.long q1), .second, .val (.long q2), .second, .val (.long q3), .second, .val (.long q4), .second, .val (.int q5), .val (.int (1 : Int32)), .val (.int (6 : Int32)), .val (.int v27), .val (.int v29), .unset, .unset] [(.long q3), (.int (0 : Int32)), (.ref a31), (.ref a31)])) _
      refine st32 _ ?_
      show Steps p.tables e below (T32.setTop (mkF m 47 #[.val (.long q0), .second, .val (.long q1), .second, .val (.long q2), .second, .val (.long q3), .second, .val (.long q4), .second, .val (.int q5), .val (.int (1 : Int32)), .val (.int (6 : Int32)), .val (.int v27), .val (.int v29), .unset, .unset] [(.ref a31)])) _
      refine XS.dup X32.here hx rfl (hb hby at_47) rfl rfl ?_
      show Steps p.tables e below (T32.setTop (mkF m 48 #[.val (.long q0), .second, .val (.long q1), .second, .val (.long q2), .second, .val (.long q3), .second, .val (.long q4), .second, .val (.int q5), .val (.int (1 : Int32)), .val (.int (6 : Int32)), .val (.int v27), .val (.int v29), .unset, .unset] [(.ref a31), (.ref a31)])) _
      refine XS.iconst X32.here hx rfl (hb hby at_48) ?_
      show Steps p.tables e below (T32.setTop (mkF m 49 #[.val (.long q0), .second, .val (.long q1), .second, .val (.long q2), .second, .val (.long q3), .second, .val (.long q4), .second, .val (.int q5), .val (.int (1 : Int32)), .val (.int (6 : Int32)), .val (.int v27), .val (.int v29), .unset, .unset] [(.int (1 : Int32)), (.ref a31), (.ref a31)])) _
      refine XS.lload X32.here hx rfl (hb hby at_49) rfl ?_
      show Steps p.tables e below (T32.setTop (mkF m 51 #[.val (.long q0), .second, .val (.long q1), .second, .val (.long q2), .second, .val (.long q3), .second, .val (.long q4), .second, .val (.int q5), .val (.int (1 : Int32)), .val (.int (6 : Int32)), .val (.int v27), .val (.int v29), .unset, .unset] [(.long q3), (.int (1 : Int32)), (.ref a31), (.ref a31)])) _
      refine st33 _ ?_
      show Steps p.tables e below (T33.setTop (mkF m 52 #[.val (.long q0), .second, .val (.long q1), .second, .val (.long q2), .second, .val (.long q3), .second, .val (.long q4), .second, .val (.int q5), .val (.int (1 : Int32)), .val (.int (6 : Int32)), .val (.int v27), .val (.int v29), .unset, .unset] [(.ref a31)])) _
      refine XS.dup X33.here hx rfl (hb hby at_52) rfl rfl ?_
      show Steps p.tables e below (T33.setTop (mkF m 53 #[.val (.long q0), .second, .val (.long q1), .second, .val (.long q2), .second, .val (.long q3), .second, .val (.long q4), .second, .val (.int q5), .val (.int (1 : Int32)), .val (.int (6 : Int32)), .val (.int v27), .val (.int v29), .unset, .unset] [(.ref a31), (.ref a31)])) _
      refine XS.iconst X33.here hx rfl (hb hby at_53) ?_
      show Steps p.tables e below (T33.setTop (mkF m 54 #[.val (.long q0), .second, .val (.long q1), .second, .val (.long q2), .second, .val (.long q3), .second, .val (.long q4), .second, .val (.int q5), .val (.int (1 : Int32)), .val (.int (6 : Int32)), .val (.int v27), .val (.int v29), .unset, .unset] [(.int (2 : Int32)), (.ref a31), (.ref a31)])) _
      refine XS.lload X33.here hx rfl (hb hby at_54) rfl ?_
      show Steps p.tables e below (T33.setTop (mkF m 56 #[.val (.long q0), .second, .val (.long q1), .second, .val (.long q2), .second, .val (.long q3), .second, .val (.long q4), .second, .val (.int q5), .val (.int (1 : Int32)), .val (.int (6 : Int32)), .val (.int v27), .val (.int v29), .unset, .unset] [(.long q3), (.int (2 : Int32)), (.ref a31), (.ref a31)])) _
      refine st34 _ ?_
      show Steps p.tables e below (T34.setTop (mkF m 57 #[.val (.long q0), .second, .val (.long q1), .second, .val (.long q2), .second, .val (.long q3), .second, .val (.long q4), .second, .val (.int q5), .val (.int (1 : Int32)), .val (.int (6 : Int32)), .val (.int v27), .val (.int v29), .unset, .unset] [(.ref a31)])) _
      refine XS.dup X34.here hx rfl (hb hby at_57) rfl rfl ?_
      show Steps p.tables e below (T34.setTop (mkF m 58 #[.val (.long q0), .second, .val (.long q1), .second, .val (.long q2), .second, .val (.long q3), .second, .val (.long q4), .second, .val (.int q5), .val (.int (1 : Int32)), .val (.int (6 : Int32)), .val (.int v27), .val (.int v29), .unset, .unset] [(.ref a31), (.ref a31)])) _
      refine XS.iconst X34.here hx rfl (hb hby at_58) ?_
      show Steps p.tables e below (T34.setTop (mkF m 59 #[.val (.long q0), .second, .val (.long q1), .second, .val (.long q2), .second, .val (.long q3), .second, .val (.long q4), .second, .val (.int q5), .val (.int (1 : Int32)), .val (.int (6 : Int32)), .val (.int v27), .val (.int v29), .unset, .unset] [(.int (3 : Int32)), (.ref a31), (.ref a31)])) _
      refine XS.lload X34.here hx rfl (hb hby at_59) rfl ?_
      show Steps p.tables e below (T34.setTop (mkF m 61 #[.val (.long q0), .second, .val (.long q1), .second, .val (.long q2), .second, .val (.long q3), .second, .val (.long q4), .second, .val (.int q5), .val (.int (1 : Int32)), .val (.int (6 : Int32)), .val (.int v27), .val (.int v29), .unset, .unset] [(.long q3), (.int (3 : Int32)), (.ref a31), (.ref a31)])) _
      refine st35 _ ?_
      show Steps p.tables e below (T35.setTop (mkF m 62 #[.val (.long q0), .second, .val (.long q1), .second, .val (.long q2), .second, .val (.long q3), .second, .val (.long q4), .second, .val (.int q5), .val (.int (1 : Int32)), .val (.int (6 : Int32)), .val (.int v27), .val (.int v29), .unset, .unset] [(.ref a31)])) _
      refine XS.dup X35.here hx rfl (hb hby at_62) rfl rfl ?_
      show Steps p.tables e below (T35.setTop (mkF m 63 #[.val (.long q0), .second, .val (.long q1), .second, .val (.long q2), .second, .val (.long q3), .second, .val (.long q4), .second, .val (.int q5), .val (.int (1 : Int32)), .val (.int (6 : Int32)), .val (.int v27), .val (.int v29), .unset, .unset] [(.ref a31), (.ref a31)])) _
      refine XS.iconst X35.here hx rfl (hb hby at_63) ?_
      show Steps p.tables e below (T35.setTop (mkF m 64 #[.val (.long q0), .second, .val (.long q1), .second, .val (.long q2), .second, .val (.long q3), .second, .val (.long q4), .second, .val (.int q5), .val (.int (1 : Int32)), .val (.int (6 : Int32)), .val (.int v27), .val (.int v29), .unset, .unset] [(.int (4 : Int32)), (.ref a31), (.ref a31)])) _
      refine XS.lload X35.here hx rfl (hb hby at_64) rfl ?_
      show Steps p.tables e below (T35.setTop (mkF m 66 #[.val (.long q0), .second, .val (.long q1), .second, .val (.long q2), .second, .val (.long q3), .second, .val (.long q4), .second, .val (.int q5), .val (.int (1 : Int32)), .val (.int (6 : Int32)), .val (.int v27), .val (.int v29), .unset, .unset] [(.long q3), (.int (4 : Int32)), (.ref a31), (.ref a31)])) _
      refine st36 _ ?_
      show Steps p.tables e below (T36.setTop (mkF m 67 #[.val (.long q0), .second, .val (.long q1), .second, .val (.long q2), .second, .val (.long q3), .second, .val (.long q4), .second, .val (.int q5), .val (.int (1 : Int32)), .val (.int (6 : Int32)), .val (.int v27), .val (.int v29), .unset, .unset] [(.ref a31)])) _
      refine XS.dup X36.here hx rfl (hb hby at_67) rfl rfl ?_
      show Steps p.tables e below (T36.setTop (mkF m 68 #[.val (.long q0), .second, .val (.long q1), .second, .val (.long q2), .second, .val (.long q3), .second, .val (.long q4), .second, .val (.int q5), .val (.int (1 : Int32)), .val (.int (6 : Int32)), .val (.int v27), .val (.int v29), .unset, .unset] [(.ref a31), (.ref a31)])) _
      refine XS.iconst X36.here hx rfl (hb hby at_68) ?_
      show Steps p.tables e below (T36.setTop (mkF m 69 #[.val (.long q0), .second, .val (.long q1), .second, .val (.long q2), .second, .val (.long q3), .second, .val (.long q4), .second, .val (.int q5), .val (.int (1 : Int32)), .val (.int (6 : Int32)), .val (.int v27), .val (.int v29), .unset, .unset] [(.int (5 : Int32)), (.ref a31), (.ref a31)])) _
      refine XS.lload X36.here hx rfl (hb hby at_69) rfl ?_
      show Steps p.tables e below (T36.setTop (mkF m 71 #[.val (.long q0), .second, .val (.long q1), .second, .val (.long q2), .second, .val (.long q3), .second, .val (.long q4), .second, .val (.int q5), .val (.int (1 : Int32)), .val (.int (6 : Int32)), .val (.int v27), .val (.int v29), .unset, .unset] [(.long q3), (.int (5 : Int32)), (.ref a31), (.ref a31)])) _
      refine st37 _ ?_
      show Steps p.tables e below (T37.setTop (mkF m 72 #[.val (.long q0), .second, .val (.long q1), .second, .val (.long q2), .second, .val (.long q3), .second, .val (.long q4), .second, .val (.int q5), .val (.int (1 : Int32)), .val (.int (6 : Int32)), .val (.int v27), .val (.int v29), .unset, .unset] [(.ref a31)])) _
      refine XS.astore X37.here hx rfl (hb hby at_72) rfl rfl (l' := #[.val (.long q0), .second, .val (.long q1), .second, .val (.long q2), .second, .val (.long q3), .second, .val (.long q4), .second, .val (.int q5), .val (.int (1 : Int32)), .val (.int (6 : Int32)), .val (.int v27), .val (.int v29), .val (.ref a31), .unset]) rfl ?_
      show Steps p.tables e below (T37.setTop (mkF m 74 #[.val (.long q0), .second, .val (.long q1), .second, .val (.long q2), .second, .val (.long q3), .second, .val (.long q4), .second, .val (.int q5), .val (.int (1 : Int32)), .val (.int (6 : Int32)), .val (.int v27), .val (.int v29), .val (.ref a31), .unset] [])) _
      refine XS.bipush X37.here hx rfl (hb hby at_74) ?_
      show Steps p.tables e below (T37.setTop (mkF m 76 #[.val (.long q0), .second, .val (.long q1), .second, .val (.long q2), .second, .val (.long q3), .second, .val (.long q4), .second, .val (.int q5), .val (.int (1 : Int32)), .val (.int (6 : Int32)), .val (.int v27), .val (.int v29), .val (.ref a31), .unset] [(.int (6 : Int32))])) _
      refine st38 _ ?_
      show Steps p.tables e below (T38.setTop (mkF m 78 #[.val (.long q0), .second, .val (.long q1), .second, .val (.long q2), .second, .val (.long q3), .second, .val (.long q4), .second, .val (.int q5), .val (.int (1 : Int32)), .val (.int (6 : Int32)), .val (.int v27), .val (.int v29), .val (.ref a31), .unset] [(.ref a38)])) _
      refine XS.dup X38.here hx rfl (hb hby at_78) rfl rfl ?_
      show Steps p.tables e below (T38.setTop (mkF m 79 #[.val (.long q0), .second, .val (.long q1), .second, .val (.long q2), .second, .val (.long q3), .second, .val (.long q4), .second, .val (.int q5), .val (.int (1 : Int32)), .val (.int (6 : Int32)), .val (.int v27), .val (.int v29), .val (.ref a31), .unset] [(.ref a38), (.ref a38)])) _
      refine XS.iconst X38.here hx rfl (hb hby at_79) ?_
      show Steps p.tables e below (T38.setTop (mkF m 80 #[.val (.long q0), .second, .val (.long q1), .second, .val (.long q2), .second, .val (.long q3), .second, .val (.long q4), .second, .val (.int q5), .val (.int (1 : Int32)), .val (.int (6 : Int32)), .val (.int v27), .val (.int v29), .val (.ref a31), .unset] [(.int (0 : Int32)), (.ref a38), (.ref a38)])) _
      refine XS.lload X38.here hx rfl (hb hby at_80) rfl ?_
      show Steps p.tables e below (T38.setTop (mkF m 82 #[.val (.long q0), .second, .val (.long q1), .second, .val (.long q2), .second, .val (.long q3), .second, .val (.long q4), .second, .val (.int q5), .val (.int (1 : Int32)), .val (.int (6 : Int32)), .val (.int v27), .val (.int v29), .val (.ref a31), .unset] [(.long q4), (.int (0 : Int32)), (.ref a38), (.ref a38)])) _
      refine st39 _ ?_
      show Steps p.tables e below (T39.setTop (mkF m 83 #[.val (.long q0), .second, .val (.long q1), .second, .val (.long q2), .second, .val (.long q3), .second, .val (.long q4), .second, .val (.int q5), .val (.int (1 : Int32)), .val (.int (6 : Int32)), .val (.int v27), .val (.int v29), .val (.ref a31), .unset] [(.ref a38)])) _
      refine XS.dup X39.here hx rfl (hb hby at_83) rfl rfl ?_
      show Steps p.tables e below (T39.setTop (mkF m 84 #[.val (.long q0), .second, .val (.long q1), .second, .val (.long q2), .second, .val (.long q3), .second, .val (.long q4), .second, .val (.int q5), .val (.int (1 : Int32)), .val (.int (6 : Int32)), .val (.int v27), .val (.int v29), .val (.ref a31), .unset] [(.ref a38), (.ref a38)])) _
      refine XS.iconst X39.here hx rfl (hb hby at_84) ?_
      show Steps p.tables e below (T39.setTop (mkF m 85 #[.val (.long q0), .second, .val (.long q1), .second, .val (.long q2), .second, .val (.long q3), .second, .val (.long q4), .second, .val (.int q5), .val (.int (1 : Int32)), .val (.int (6 : Int32)), .val (.int v27), .val (.int v29), .val (.ref a31), .unset] [(.int (1 : Int32)), (.ref a38), (.ref a38)])) _
      refine XS.lload X39.here hx rfl (hb hby at_85) rfl ?_
      show Steps p.tables e below (T39.setTop (mkF m 87 #[.val (.long q0), .second, .val (.long q1), .second, .val (.long q2), .second, .val (.long q3), .second, .val (.long q4), .second, .val (.int q5), .val (.int (1 : Int32)), .val (.int (6 : Int32)), .val (.int v27), .val (.int v29), .val (.ref a31), .unset] [(.long q4), (.int (1 : Int32)), (.ref a38), (.ref a38)])) _
      refine st40 _ ?_
      show Steps p.tables e below (T40.setTop (mkF m 88 #[.val (.long q0), .second, .val (.long q1), .second, .val (.long q2), .second, .val (.long q3), .second, .val (.long q4), .second, .val (.int q5), .val (.int (1 : Int32)), .val (.int (6 : Int32)), .val (.int v27), .val (.int v29), .val (.ref a31), .unset] [(.ref a38)])) _
      refine XS.dup X40.here hx rfl (hb hby at_88) rfl rfl ?_
      show Steps p.tables e below (T40.setTop (mkF m 89 #[.val (.long q0), .second, .val (.long q1), .second, .val (.long q2), .second, .val (.long q3), .second, .val (.long q4), .second, .val (.int q5), .val (.int (1 : Int32)), .val (.int (6 : Int32)), .val (.int v27), .val (.int v29), .val (.ref a31), .unset] [(.ref a38), (.ref a38)])) _
      refine XS.iconst X40.here hx rfl (hb hby at_89) ?_
      show Steps p.tables e below (T40.setTop (mkF m 90 #[.val (.long q0), .second, .val (.long q1), .second, .val (.long q2), .second, .val (.long q3), .second, .val (.long q4), .second, .val (.int q5), .val (.int (1 : Int32)), .val (.int (6 : Int32)), .val (.int v27), .val (.int v29), .val (.ref a31), .unset] [(.int (2 : Int32)), (.ref a38), (.ref a38)])) _
      refine XS.lload X40.here hx rfl (hb hby at_90) rfl ?_
      show Steps p.tables e below (T40.setTop (mkF m 92 #[.val (.long q0), .second, .val (.long q1), .second, .val (.long q2), .second, .val (.long q3), .second, .val (.long q4), .second, .val (.int q5), .val (.int (1 : Int32)), .val (.int (6 : Int32)), .val (.int v27), .val (.int v29), .val (.ref a31), .unset] [(.long q4), (.int (2 : Int32)), (.ref a38), (.ref a38)])) _
      refine st41 _ ?_
      show Steps p.tables e below (T41.setTop (mkF m 93 #[.val (.long q0), .second, .val (.long q1), .second, .val (.long q2), .second, .val (.long q3), .second, .val (.long q4), .second, .val (.int q5), .val (.int (1 : Int32)), .val (.int (6 : Int32)), .val (.int v27), .val (.int v29), .val (.ref a31), .unset] [(.ref a38)])) _
      refine XS.dup X41.here hx rfl (hb hby at_93) rfl rfl ?_
      show Steps p.tables e below (T41.setTop (mkF m 94 #[.val (.long q0), .second, .val (.long q1), .second, .val (.long q2), .second, .val (.long q3), .second, .val (.long q4), .second, .val (.int q5), .val (.int (1 : Int32)), .val (.int (6 : Int32)), .val (.int v27), .val (.int v29), .val (.ref a31), .unset] [(.ref a38), (.ref a38)])) _
      refine XS.iconst X41.here hx rfl (hb hby at_94) ?_
      show Steps p.tables e below (T41.setTop (mkF m 95 #[.val (.long q0), .second, .val (.long q1), .second, .val (.long q2), .second, .val (.long q3), .second, .val (.long q4), .second, .val (.int q5), .val (.int (1 : Int32)), .val (.int (6 : Int32)), .val (.int v27), .val (.int v29), .val (.ref a31), .unset] [(.int (3 : Int32)), (.ref a38), (.ref a38)])) _
      refine XS.lload X41.here hx rfl (hb hby at_95) rfl ?_
      show Steps p.tables e below (T41.setTop (mkF m 97 #[.val (.long q0), .second, .val (.long q1), .second, .val (.long q2), .second, .val (.long q3), .second, .val (.long q4), .second, .val (.int q5), .val (.int (1 : Int32)), .val (.int (6 : Int32)), .val (.int v27), .val (.int v29), .val (.ref a31), .unset] [(.long q4), (.int (3 : Int32)), (.ref a38), (.ref a38)])) _
      refine st42 _ ?_
      show Steps p.tables e below (T42.setTop (mkF m 98 #[.val (.long q0), .second, .val (.long q1), .second, .val (.long q2), .second, .val (.long q3), .second, .val (.long q4), .second, .val (.int q5), .val (.int (1 : Int32)), .val (.int (6 : Int32)), .val (.int v27), .val (.int v29), .val (.ref a31), .unset] [(.ref a38)])) _
      refine XS.dup X42.here hx rfl (hb hby at_98) rfl rfl ?_
      show Steps p.tables e below (T42.setTop (mkF m 99 #[.val (.long q0), .second, .val (.long q1), .second, .val (.long q2), .second, .val (.long q3), .second, .val (.long q4), .second, .val (.int q5), .val (.int (1 : Int32)), .val (.int (6 : Int32)), .val (.int v27), .val (.int v29), .val (.ref a31), .unset] [(.ref a38), (.ref a38)])) _
      refine XS.iconst X42.here hx rfl (hb hby at_99) ?_
      show Steps p.tables e below (T42.setTop (mkF m 100 #[.val (.long q0), .second, .val (.long q1), .second, .val (.long q2), .second, .val (.long q3), .second, .val (.long q4), .second, .val (.int q5), .val (.int (1 : Int32)), .val (.int (6 : Int32)), .val (.int v27), .val (.int v29), .val (.ref a31), .unset] [(.int (4 : Int32)), (.ref a38), (.ref a38)])) _
      refine XS.lload X42.here hx rfl (hb hby at_100) rfl ?_
      show Steps p.tables e below (T42.setTop (mkF m 102 #[.val (.long q0), .second, .val (.long q1), .second, .val (.long q2), .second, .val (.long q3), .second, .val (.long q4), .second, .val (.int q5), .val (.int (1 : Int32)), .val (.int (6 : Int32)), .val (.int v27), .val (.int v29), .val (.ref a31), .unset] [(.long q4), (.int (4 : Int32)), (.ref a38), (.ref a38)])) _
      refine st43 _ ?_
      show Steps p.tables e below (T43.setTop (mkF m 103 #[.val (.long q0), .second, .val (.long q1), .second, .val (.long q2), .second, .val (.long q3), .second, .val (.long q4), .second, .val (.int q5), .val (.int (1 : Int32)), .val (.int (6 : Int32)), .val (.int v27), .val (.int v29), .val (.ref a31), .unset] [(.ref a38)])) _
      refine XS.dup X43.here hx rfl (hb hby at_103) rfl rfl ?_
      show Steps p.tables e below (T43.setTop (mkF m 104 #[.val (.long q0), .second, .val (.long q1), .second, .val (.long q2), .second, .val (.long q3), .second, .val (.long q4), .second, .val (.int q5), .val (.int (1 : Int32)), .val (.int (6 : Int32)), .val (.int v27), .val (.int v29), .val (.ref a31), .unset] [(.ref a38), (.ref a38)])) _
      refine XS.iconst X43.here hx rfl (hb hby at_104) ?_
      show Steps p.tables e below (T43.setTop (mkF m 105 #[.val (.long q0), .second, .val (.long q1), .second, .val (.long q2), .second, .val (.long q3), .second, .val (.long q4), .second, .val (.int q5), .val (.int (1 : Int32)), .val (.int (6 : Int32)), .val (.int v27), .val (.int v29), .val (.ref a31), .unset] [(.int (5 : Int32)), (.ref a38), (.ref a38)])) _
      refine XS.lload X43.here hx rfl (hb hby at_105) rfl ?_
      show Steps p.tables e below (T43.setTop (mkF m 107 #[.val (.long q0), .second, .val (.long q1), .second, .val (.long q2), .second, .val (.long q3), .second, .val (.long q4), .second, .val (.int q5), .val (.int (1 : Int32)), .val (.int (6 : Int32)), .val (.int v27), .val (.int v29), .val (.ref a31), .unset] [(.long q4), (.int (5 : Int32)), (.ref a38), (.ref a38)])) _
      refine st44 _ ?_
      show Steps p.tables e below (T44.setTop (mkF m 108 #[.val (.long q0), .second, .val (.long q1), .second, .val (.long q2), .second, .val (.long q3), .second, .val (.long q4), .second, .val (.int q5), .val (.int (1 : Int32)), .val (.int (6 : Int32)), .val (.int v27), .val (.int v29), .val (.ref a31), .unset] [(.ref a38)])) _
      refine XS.astore X44.here hx rfl (hb hby at_108) rfl rfl (l' := #[.val (.long q0), .second, .val (.long q1), .second, .val (.long q2), .second, .val (.long q3), .second, .val (.long q4), .second, .val (.int q5), .val (.int (1 : Int32)), .val (.int (6 : Int32)), .val (.int v27), .val (.int v29), .val (.ref a31), .val (.ref a38)]) rfl ?_
      show Steps p.tables e below (T44.setTop (mkF m 110 #[.val (.long q0), .second, .val (.long q1), .second, .val (.long q2), .second, .val (.long q3), .second, .val (.long q4), .second, .val (.int q5), .val (.int (1 : Int32)), .val (.int (6 : Int32)), .val (.int v27), .val (.int v29), .val (.ref a31), .val (.ref a38)] [])) _
      refine XS.aload X44.here hx rfl (hb hby at_110) rfl rfl ?_
      show Steps p.tables e below (T44.setTop (mkF m 112 #[.val (.long q0), .second, .val (.long q1), .second, .val (.long q2), .second, .val (.long q3), .second, .val (.long q4), .second, .val (.int q5), .val (.int (1 : Int32)), .val (.int (6 : Int32)), .val (.int v27), .val (.int v29), .val (.ref a31), .val (.ref a38)] [(.ref a31)])) _
      refine XS.iload X44.here hx rfl (hb hby at_112) rfl ?_
      show Steps p.tables e below (T44.setTop (mkF m 114 #[.val (.long q0), .second, .val (.long q1), .second, .val (.long q2), .second, .val (.long q3), .second, .val (.long q4), .second, .val (.int q5), .val (.int (1 : Int32)), .val (.int (6 : Int32)), .val (.int v27), .val (.int v29), .val (.ref a31), .val (.ref a38)] [(.int v27), (.ref a31)])) _
      refine XS.iload X44.here hx rfl (hb hby at_114) rfl ?_
      show Steps p.tables e below (T44.setTop (mkF m 116 #[.val (.long q0), .second, .val (.long q1), .second, .val (.long q2), .second, .val (.long q3), .second, .val (.long q4), .second, .val (.int q5), .val (.int (1 : Int32)), .val (.int (6 : Int32)), .val (.int v27), .val (.int v29), .val (.ref a31), .val (.ref a38)] [(.int (1 : Int32)), (.int v27), (.ref a31)])) _
      refine XS.lloadN X44.here hx rfl (hb hby at_116) rfl ?_
      show Steps p.tables e below (T44.setTop (mkF m 117 #[.val (.long q0), .second, .val (.long q1), .second, .val (.long q2), .second, .val (.long q3), .second, .val (.long q4), .second, .val (.int q5), .val (.int (1 : Int32)), .val (.int (6 : Int32)), .val (.int v27), .val (.int v29), .val (.ref a31), .val (.ref a38)] [(.long q0), (.int (1 : Int32)), (.int v27), (.ref a31)])) _
      refine XS.lloadN X44.here hx rfl (hb hby at_117) rfl ?_
      show Steps p.tables e below (T44.setTop (mkF m 118 #[.val (.long q0), .second, .val (.long q1), .second, .val (.long q2), .second, .val (.long q3), .second, .val (.long q4), .second, .val (.int q5), .val (.int (1 : Int32)), .val (.int (6 : Int32)), .val (.int v27), .val (.int v29), .val (.ref a31), .val (.ref a38)] [(.long q1), (.long q0), (.int (1 : Int32)), (.int v27), (.ref a31)])) _
      refine XS.lload X44.here hx rfl (hb hby at_118) rfl ?_
      show Steps p.tables e below (T44.setTop (mkF m 120 #[.val (.long q0), .second, .val (.long q1), .second, .val (.long q2), .second, .val (.long q3), .second, .val (.long q4), .second, .val (.int q5), .val (.int (1 : Int32)), .val (.int (6 : Int32)), .val (.int v27), .val (.int v29), .val (.ref a31), .val (.ref a38)] [(.long q2), (.long q1), (.long q0), (.int (1 : Int32)), (.int v27), (.ref a31)])) _
      refine st45 _ ?_
      show Steps p.tables e below (T45.setTop (mkF m 123 #[.val (.long q0), .second, .val (.long q1), .second, .val (.long q2), .second, .val (.long q3), .second, .val (.long q4), .second, .val (.int q5), .val (.int (1 : Int32)), .val (.int (6 : Int32)), .val (.int v27), .val (.int v29), .val (.ref a31), .val (.ref a38)] [])) _
      refine XS.aload X45.here hx rfl (hb hby at_123) rfl rfl ?_
      show Steps p.tables e below (T45.setTop (mkF m 125 #[.val (.long q0), .second, .val (.long q1), .second, .val (.long q2), .second, .val (.long q3), .second, .val (.long q4), .second, .val (.int q5), .val (.int (1 : Int32)), .val (.int (6 : Int32)), .val (.int v27), .val (.int v29), .val (.ref a31), .val (.ref a38)] [(.ref a38)])) _
      refine XS.iload X45.here hx rfl (hb hby at_125) rfl ?_
      show Steps p.tables e below (T45.setTop (mkF m 127 #[.val (.long q0), .second, .val (.long q1), .second, .val (.long q2), .second, .val (.long q3), .second, .val (.long q4), .second, .val (.int q5), .val (.int (1 : Int32)), .val (.int (6 : Int32)), .val (.int v27), .val (.int v29), .val (.ref a31), .val (.ref a38)] [(.int v29), (.ref a38)])) _
      refine XS.iload X45.here hx rfl (hb hby at_127) rfl ?_
      show Steps p.tables e below (T45.setTop (mkF m 129 #[.val (.long q0), .second, .val (.long q1), .second, .val (.long q2), .second, .val (.long q3), .second, .val (.long q4), .second, .val (.int q5), .val (.int (1 : Int32)), .val (.int (6 : Int32)), .val (.int v27), .val (.int v29), .val (.ref a31), .val (.ref a38)] [(.int (1 : Int32)), (.int v29), (.ref a38)])) _
      refine XS.lloadN X45.here hx rfl (hb hby at_129) rfl ?_
      show Steps p.tables e below (T45.setTop (mkF m 130 #[.val (.long q0), .second, .val (.long q1), .second, .val (.long q2), .second, .val (.long q3), .second, .val (.long q4), .second, .val (.int q5), .val (.int (1 : Int32)), .val (.int (6 : Int32)), .val (.int v27), .val (.int v29), .val (.ref a31), .val (.ref a38)] [(.long q0), (.int (1 : Int32)), (.int v29), (.ref a38)])) _
      refine XS.lloadN X45.here hx rfl (hb hby at_130) rfl ?_
      show Steps p.tables e below (T45.setTop (mkF m 131 #[.val (.long q0), .second, .val (.long q1), .second, .val (.long q2), .second, .val (.long q3), .second, .val (.long q4), .second, .val (.int q5), .val (.int (1 : Int32)), .val (.int (6 : Int32)), .val (.int v27), .val (.int v29), .val (.ref a31), .val (.ref a38)] [(.long q1), (.long q0), (.int (1 : Int32)), (.int v29), (.ref a38)])) _
      refine XS.lload X45.here hx rfl (hb hby at_131) rfl ?_
      show Steps p.tables e below (T45.setTop (mkF m 133 #[.val (.long q0), .second, .val (.long q1), .second, .val (.long q2), .second, .val (.long q3), .second, .val (.long q4), .second, .val (.int q5), .val (.int (1 : Int32)), .val (.int (6 : Int32)), .val (.int v27), .val (.int v29), .val (.ref a31), .val (.ref a38)] [(.long q2), (.long q1), (.long q0), (.int (1 : Int32)), (.int v29), (.ref a38)])) _
      refine st46 _ ?_
      show Steps p.tables e below (T46.setTop (mkF m 136 #[.val (.long q0), .second, .val (.long q1), .second, .val (.long q2), .second, .val (.long q3), .second, .val (.long q4), .second, .val (.int q5), .val (.int (1 : Int32)), .val (.int (6 : Int32)), .val (.int v27), .val (.int v29), .val (.ref a31), .val (.ref a38)] [])) _
      refine XS.aload X46.here hx rfl (hb hby at_136) rfl rfl ?_
      show Steps p.tables e below (T46.setTop (mkF m 138 #[.val (.long q0), .second, .val (.long q1), .second, .val (.long q2), .second, .val (.long q3), .second, .val (.long q4), .second, .val (.int q5), .val (.int (1 : Int32)), .val (.int (6 : Int32)), .val (.int v27), .val (.int v29), .val (.ref a31), .val (.ref a38)] [(.ref a31)])) _
      refine XS.iload X46.here hx rfl (hb hby at_138) rfl ?_
      show Steps p.tables e below (T46.setTop (mkF m 140 #[.val (.long q0), .second, .val (.long q1), .second, .val (.long q2), .second, .val (.long q3), .second, .val (.long q4), .second, .val (.int q5), .val (.int (1 : Int32)), .val (.int (6 : Int32)), .val (.int v27), .val (.int v29), .val (.ref a31), .val (.ref a38)] [(.int v27), (.ref a31)])) _
      refine XS.iload X46.here hx rfl (hb hby at_140) rfl ?_
      show Steps p.tables e below (T46.setTop (mkF m 142 #[.val (.long q0), .second, .val (.long q1), .second, .val (.long q2), .second, .val (.long q3), .second, .val (.long q4), .second, .val (.int q5), .val (.int (1 : Int32)), .val (.int (6 : Int32)), .val (.int v27), .val (.int v29), .val (.ref a31), .val (.ref a38)] [(.int (1 : Int32)), (.int v27), (.ref a31)])) _
      refine st47 _ ?_
      show Steps p.tables e below (T47.setTop (mkF m 145 #[.val (.long q0), .second, .val (.long q1), .second, .val (.long q2), .second, .val (.long q3), .second, .val (.long q4), .second, .val (.int q5), .val (.int (1 : Int32)), .val (.int (6 : Int32)), .val (.int v27), .val (.int v29), .val (.ref a31), .val (.ref a38)] [(.int (own_f2_1 v27 ((([q3, q3, q3, q3, q3, q3]).set (v27).toInt.toNat q0))))])) _
      refine XS.aload X47.here hx rfl (hb hby at_145) rfl rfl ?_
      show Steps p.tables e below (T47.setTop (mkF m 147 #[.val (.long q0), .second, .val (.long q1), .second, .val (.long q2), .second, .val (.long q3), .second, .val (.long q4), .second, .val (.int q5), .val (.int (1 : Int32)), .val (.int (6 : Int32)), .val (.int v27), .val (.int v29), .val (.ref a31), .val (.ref a38)] [(.ref a38), (.int (own_f2_1 v27 ((([q3, q3, q3, q3, q3, q3]).set (v27).toInt.toNat q0))))])) _
      refine XS.iload X47.here hx rfl (hb hby at_147) rfl ?_
      show Steps p.tables e below (T47.setTop (mkF m 149 #[.val (.long q0), .second, .val (.long q1), .second, .val (.long q2), .second, .val (.long q3), .second, .val (.long q4), .second, .val (.int q5), .val (.int (1 : Int32)), .val (.int (6 : Int32)), .val (.int v27), .val (.int v29), .val (.ref a31), .val (.ref a38)] [(.int v29), (.ref a38), (.int (own_f2_1 v27 ((([q3, q3, q3, q3, q3, q3]).set (v27).toInt.toNat q0))))])) _
      refine XS.iload X47.here hx rfl (hb hby at_149) rfl ?_
      show Steps p.tables e below (T47.setTop (mkF m 151 #[.val (.long q0), .second, .val (.long q1), .second, .val (.long q2), .second, .val (.long q3), .second, .val (.long q4), .second, .val (.int q5), .val (.int (1 : Int32)), .val (.int (6 : Int32)), .val (.int v27), .val (.int v29), .val (.ref a31), .val (.ref a38)] [(.int (1 : Int32)), (.int v29), (.ref a38), (.int (own_f2_1 v27 ((([q3, q3, q3, q3, q3, q3]).set (v27).toInt.toNat q0))))])) _
      refine st48 _ ?_
      exact k
    by_cases c50 : (own_f2_1 v27 ((([q3, q3, q3, q3, q3, q3]).set (v27).toInt.toNat q0))) = (own_f2_1 v29 ((([q4, q4, q4, q4, q4, q4]).set (v29).toInt.toNat q0)))
    · obtain ⟨fs, hr, hrun, hended, hW, hsame⟩ := X48.leave (v := some (.int (1 : Int32))) (fun h => by rw [Bd.returns] at h; cases h) hlk
      refine ⟨_, _, pre49 _ ?_, hrun, hended, _, _, rfl, ?_, ⟨_, rfl⟩, hW, hsame.mono (by decide) (by decide)⟩
      · show Steps p.tables e below (T48.setTop (mkF m 154 #[.val (.long q0), .second, .val (.long q1), .second, .val (.long q2), .second, .val (.long q3), .second, .val (.long q4), .second, .val (.int q5), .val (.int (1 : Int32)), .val (.int (6 : Int32)), .val (.int v27), .val (.int v29), .val (.ref a31), .val (.ref a38)] [(.int (own_f2_1 v29 ((([q4, q4, q4, q4, q4, q4]).set (v29).toInt.toNat q0)))), (.int (own_f2_1 v27 ((([q3, q3, q3, q3, q3, q3]).set (v27).toInt.toNat q0))))])) _
        refine XS.icmpNo X48.here hx rfl (hb hby at_154) rfl ((teq c50).2) ?_
        show Steps p.tables e below (T48.setTop (mkF m 157 #[.val (.long q0), .second, .val (.long q1), .second, .val (.long q2), .second, .val (.long q3), .second, .val (.long q4), .second, .val (.int q5), .val (.int (1 : Int32)), .val (.int (6 : Int32)), .val (.int v27), .val (.int v29), .val (.ref a31), .val (.ref a38)] [])) _
        refine XS.iconst X48.here hx rfl (hb hby at_157) ?_
        show Steps p.tables e below (T48.setTop (mkF m 158 #[.val (.long q0), .second, .val (.long q1), .second, .val (.long q2), .second, .val (.long q3), .second, .val (.long q4), .second, .val (.int q5), .val (.int (1 : Int32)), .val (.int (6 : Int32)), .val (.int v27), .val (.int v29), .val (.ref a31), .val (.ref a38)] [(.int (1 : Int32))])) _
        refine XS.goto X48.here hx rfl (pc0 := 158) (pc' := 162) rfl (hb hby at_158) (by decide) (by decide) ?_
        show Steps p.tables e below (T48.setTop (mkF m 162 #[.val (.long q0), .second, .val (.long q1), .second, .val (.long q2), .second, .val (.long q3), .second, .val (.long q4), .second, .val (.int q5), .val (.int (1 : Int32)), .val (.int (6 : Int32)), .val (.int v27), .val (.int v29), .val (.ref a31), .val (.ref a38)] [(.int (1 : Int32))])) _
        exact retN X48 hx (t := .boolean) Bd.returns (by simp) (hb hby at_162) hr
      · show Q0 Z q0 q1 q2 q3 q4 q5 h0 n0 _ T48.heap _
        rw [e48]
        exact ⟨by have w_hv29 := hv29.symm; subst w_hv29; have w_hv27 := hv27.symm; subst w_hv27; simp only [own_f0, ← hv1, if_neg (by decide : ¬ ((1 : Int32) = (0 : Int32))), if_pos (rfl : (1 : Int32) = (1 : Int32)), if_pos c50, if_true, if_false], N48⟩
    · obtain ⟨fs, hr, hrun, hended, hW, hsame⟩ := X48.leave (v := some (.int (0 : Int32))) (fun h => by rw [Bd.returns] at h; cases h) hlk
      refine ⟨_, _, pre49 _ ?_, hrun, hended, _, _, rfl, ?_, ⟨_, rfl⟩, hW, hsame.mono (by decide) (by decide)⟩
      · show Steps p.tables e below (T48.setTop (mkF m 154 #[.val (.long q0), .second, .val (.long q1), .second, .val (.long q2), .second, .val (.long q3), .second, .val (.long q4), .second, .val (.int q5), .val (.int (1 : Int32)), .val (.int (6 : Int32)), .val (.int v27), .val (.int v29), .val (.ref a31), .val (.ref a38)] [(.int (own_f2_1 v29 ((([q4, q4, q4, q4, q4, q4]).set (v29).toInt.toNat q0)))), (.int (own_f2_1 v27 ((([q3, q3, q3, q3, q3, q3]).set (v27).toInt.toNat q0))))])) _
        refine XS.icmpYes X48.here hx rfl (pc0 := 154) (pc' := 161) rfl (hb hby at_154) rfl ((feq c50).2) (by decide) (by decide) ?_
        show Steps p.tables e below (T48.setTop (mkF m 161 #[.val (.long q0), .second, .val (.long q1), .second, .val (.long q2), .second, .val (.long q3), .second, .val (.long q4), .second, .val (.int q5), .val (.int (1 : Int32)), .val (.int (6 : Int32)), .val (.int v27), .val (.int v29), .val (.ref a31), .val (.ref a38)] [])) _
        refine XS.iconst X48.here hx rfl (hb hby at_161) ?_
        show Steps p.tables e below (T48.setTop (mkF m 162 #[.val (.long q0), .second, .val (.long q1), .second, .val (.long q2), .second, .val (.long q3), .second, .val (.long q4), .second, .val (.int q5), .val (.int (1 : Int32)), .val (.int (6 : Int32)), .val (.int v27), .val (.int v29), .val (.ref a31), .val (.ref a38)] [(.int (0 : Int32))])) _
        exact retN X48 hx (t := .boolean) Bd.returns (by simp) (hb hby at_162) hr
      · show Q0 Z q0 q1 q2 q3 q4 q5 h0 n0 _ T48.heap _
        rw [e48]
        exact ⟨by have w_hv29 := hv29.symm; subst w_hv29; have w_hv27 := hv27.symm; subst w_hv27; simp only [own_f0, ← hv1, if_neg (by decide : ¬ ((1 : Int32) = (0 : Int32))), if_pos (rfl : (1 : Int32) = (1 : Int32)), if_neg c50, if_true, if_false], N48⟩
  · obtain ⟨v51, hv51⟩ : ∃ z : Int32, z = ((((q5).toUInt32 >>> ((2 : Int32) &&& 31).toUInt32).toInt32 &&& (2147483647 : Int32)) % (5 : Int32)) := ⟨_, rfl⟩
    have pre52 : ∀ t, Steps p.tables e below (s₁.setTop (mkF m 23 #[.val (.long q0), .second, .val (.long q1), .second, .val (.long q2), .second, .val (.long q3), .second, .val (.long q4), .second, .val (.int q5), .val (.int (2 : Int32)), .val (.int (5 : Int32)), .unset, .unset, .unset, .unset] [(.int v51)])) t → Steps p.tables e below (s₁.setTop (entryFrame m #[(.long q0), (.long q1), (.long q2), (.long q3), (.long q4), (.int q5)] maxLocals)) t := by
      rw [hv51]
      intro t k
      refine pre2 t ?_
      show Steps p.tables e below (s₁.setTop (mkF m 4 #[.val (.long q0), .second, .val (.long q1), .second, .val (.long q2), .second, .val (.long q3), .second, .val (.long q4), .second, .val (.int q5), .unset, .unset, .unset, .unset, .unset, .unset] [(.int (2 : Int32))])) _
      refine XS.istore X0.here hx rfl (hb hby at_4) rfl (l' := #[.val (.long q0), .second, .val (.long q1), .second, .val (.long q2), .second, .val (.long q3), .second, .val (.long q4), .second, .val (.int q5), .val (.int (2 : Int32)), .unset, .unset, .unset, .unset, .unset]) rfl ?_
      show Steps p.tables e below (s₁.setTop (mkF m 6 #[.val (.long q0), .second, .val (.long q1), .second, .val (.long q2), .second, .val (.long q3), .second, .val (.long q4), .second, .val (.int q5), .val (.int (2 : Int32)), .unset, .unset, .unset, .unset, .unset] [])) _
      refine XS.bipush X0.here hx rfl (hb hby at_6) ?_
      show Steps p.tables e below (s₁.setTop (mkF m 8 #[.val (.long q0), .second, .val (.long q1), .second, .val (.long q2), .second, .val (.long q3), .second, .val (.long q4), .second, .val (.int q5), .val (.int (2 : Int32)), .unset, .unset, .unset, .unset, .unset] [(.int (7 : Int32))])) _
      refine XS.iload X0.here hx rfl (hb hby at_8) rfl ?_
      show Steps p.tables e below (s₁.setTop (mkF m 10 #[.val (.long q0), .second, .val (.long q1), .second, .val (.long q2), .second, .val (.long q3), .second, .val (.long q4), .second, .val (.int q5), .val (.int (2 : Int32)), .unset, .unset, .unset, .unset, .unset] [(.int (2 : Int32)), (.int (7 : Int32))])) _
      refine XS.isub X0.here hx rfl (hb hby at_10) rfl ?_
      show Steps p.tables e below (s₁.setTop (mkF m 11 #[.val (.long q0), .second, .val (.long q1), .second, .val (.long q2), .second, .val (.long q3), .second, .val (.long q4), .second, .val (.int q5), .val (.int (2 : Int32)), .unset, .unset, .unset, .unset, .unset] [(.int (5 : Int32))])) _
      refine XS.istore X0.here hx rfl (hb hby at_11) rfl (l' := #[.val (.long q0), .second, .val (.long q1), .second, .val (.long q2), .second, .val (.long q3), .second, .val (.long q4), .second, .val (.int q5), .val (.int (2 : Int32)), .val (.int (5 : Int32)), .unset, .unset, .unset, .unset]) rfl ?_
      show Steps p.tables e below (s₁.setTop (mkF m 13 #[.val (.long q0), .second, .val (.long q1), .second, .val (.long q2), .second, .val (.long q3), .second, .val (.long q4), .second, .val (.int q5), .val (.int (2 : Int32)), .val (.int (5 : Int32)), .unset, .unset, .unset, .unset] [])) _
      refine XS.iload X0.here hx rfl (hb hby at_13) rfl ?_
      show Steps p.tables e below (s₁.setTop (mkF m 15 #[.val (.long q0), .second, .val (.long q1), .second, .val (.long q2), .second, .val (.long q3), .second, .val (.long q4), .second, .val (.int q5), .val (.int (2 : Int32)), .val (.int (5 : Int32)), .unset, .unset, .unset, .unset] [(.int q5)])) _
      refine XS.iconst X0.here hx rfl (hb hby at_15) ?_
      show Steps p.tables e below (s₁.setTop (mkF m 16 #[.val (.long q0), .second, .val (.long q1), .second, .val (.long q2), .second, .val (.long q3), .second, .val (.long q4), .second, .val (.int q5), .val (.int (2 : Int32)), .val (.int (5 : Int32)), .unset, .unset, .unset, .unset] [(.int (2 : Int32)), (.int q5)])) _
      refine XS.iushr X0.here hx rfl (hb hby at_16) rfl ?_
      show Steps p.tables e below (s₁.setTop (mkF m 17 #[.val (.long q0), .second, .val (.long q1), .second, .val (.long q2), .second, .val (.long q3), .second, .val (.long q4), .second, .val (.int q5), .val (.int (2 : Int32)), .val (.int (5 : Int32)), .unset, .unset, .unset, .unset] [(.int ((q5).toUInt32 >>> ((2 : Int32) &&& 31).toUInt32).toInt32)])) _
      refine X0.ldcInt hx hown (mvT hZ (hw _ (List.mem_of_getElem? (i := 0) rfl))) (g := (mkF m 17 #[.val (.long q0), .second, .val (.long q1), .second, .val (.long q2), .second, .val (.long q3), .second, .val (.long q4), .second, .val (.int q5), .val (.int (2 : Int32)), .val (.int (5 : Int32)), .unset, .unset, .unset, .unset] [(.int ((q5).toUInt32 >>> ((2 : Int32) &&& 31).toUInt32).toInt32)])) rfl (hb hby at_17) _ ?_
      show Steps p.tables e below (s₁.setTop (mkF m 19 #[.val (.long q0), .second, .val (.long q1), .second, .val (.long q2), .second, .val (.long q3), .second, .val (.long q4), .second, .val (.int q5), .val (.int (2 : Int32)), .val (.int (5 : Int32)), .unset, .unset, .unset, .unset] [(.int (2147483647 : Int32)), (.int ((q5).toUInt32 >>> ((2 : Int32) &&& 31).toUInt32).toInt32)])) _
      refine XS.iand X0.here hx rfl (hb hby at_19) rfl ?_
      show Steps p.tables e below (s₁.setTop (mkF m 20 #[.val (.long q0), .second, .val (.long q1), .second, .val (.long q2), .second, .val (.long q3), .second, .val (.long q4), .second, .val (.int q5), .val (.int (2 : Int32)), .val (.int (5 : Int32)), .unset, .unset, .unset, .unset] [(.int (((q5).toUInt32 >>> ((2 : Int32) &&& 31).toUInt32).toInt32 &&& (2147483647 : Int32)))])) _
      refine XS.iload X0.here hx rfl (hb hby at_20) rfl ?_
      show Steps p.tables e below (s₁.setTop (mkF m 22 #[.val (.long q0), .second, .val (.long q1), .second, .val (.long q2), .second, .val (.long q3), .second, .val (.long q4), .second, .val (.int q5), .val (.int (2 : Int32)), .val (.int (5 : Int32)), .unset, .unset, .unset, .unset] [(.int (5 : Int32)), (.int (((q5).toUInt32 >>> ((2 : Int32) &&& 31).toUInt32).toInt32 &&& (2147483647 : Int32)))])) _
      refine iremM X0 hx rfl (hb hby at_22) rfl (by decide) ?_
      exact k
    obtain ⟨v53, hv53⟩ : ∃ z : Int32, z = ((((q5).toUInt32 >>> ((8 : Int32) &&& 31).toUInt32).toInt32 &&& (2147483647 : Int32)) % (5 : Int32)) := ⟨_, rfl⟩
    have pre54 : ∀ t, Steps p.tables e below (s₁.setTop (mkF m 36 #[.val (.long q0), .second, .val (.long q1), .second, .val (.long q2), .second, .val (.long q3), .second, .val (.long q4), .second, .val (.int q5), .val (.int (2 : Int32)), .val (.int (5 : Int32)), .val (.int v51), .unset, .unset, .unset] [(.int v53)])) t → Steps p.tables e below (s₁.setTop (entryFrame m #[(.long q0), (.long q1), (.long q2), (.long q3), (.long q4), (.int q5)] maxLocals)) t := by
      rw [hv53]
      intro t k
      refine pre52 t ?_
      show Steps p.tables e below (s₁.setTop (mkF m 23 #[.val (.long q0), .second, .val (.long q1), .second, .val (.long q2), .second, .val (.long q3), .second, .val (.long q4), .second, .val (.int q5), .val (.int (2 : Int32)), .val (.int (5 : Int32)), .unset, .unset, .unset, .unset] [(.int v51)])) _
      refine XS.istore X0.here hx rfl (hb hby at_23) rfl (l' := #[.val (.long q0), .second, .val (.long q1), .second, .val (.long q2), .second, .val (.long q3), .second, .val (.long q4), .second, .val (.int q5), .val (.int (2 : Int32)), .val (.int (5 : Int32)), .val (.int v51), .unset, .unset, .unset]) rfl ?_
      show Steps p.tables e below (s₁.setTop (mkF m 25 #[.val (.long q0), .second, .val (.long q1), .second, .val (.long q2), .second, .val (.long q3), .second, .val (.long q4), .second, .val (.int q5), .val (.int (2 : Int32)), .val (.int (5 : Int32)), .val (.int v51), .unset, .unset, .unset] [])) _
      refine XS.iload X0.here hx rfl (hb hby at_25) rfl ?_
      show Steps p.tables e below (s₁.setTop (mkF m 27 #[.val (.long q0), .second, .val (.long q1), .second, .val (.long q2), .second, .val (.long q3), .second, .val (.long q4), .second, .val (.int q5), .val (.int (2 : Int32)), .val (.int (5 : Int32)), .val (.int v51), .unset, .unset, .unset] [(.int q5)])) _
      refine XS.bipush X0.here hx rfl (hb hby at_27) ?_
      show Steps p.tables e below (s₁.setTop (mkF m 29 #[.val (.long q0), .second, .val (.long q1), .second, .val (.long q2), .second, .val (.long q3), .second, .val (.long q4), .second, .val (.int q5), .val (.int (2 : Int32)), .val (.int (5 : Int32)), .val (.int v51), .unset, .unset, .unset] [(.int (8 : Int32)), (.int q5)])) _
      refine XS.iushr X0.here hx rfl (hb hby at_29) rfl ?_
      show Steps p.tables e below (s₁.setTop (mkF m 30 #[.val (.long q0), .second, .val (.long q1), .second, .val (.long q2), .second, .val (.long q3), .second, .val (.long q4), .second, .val (.int q5), .val (.int (2 : Int32)), .val (.int (5 : Int32)), .val (.int v51), .unset, .unset, .unset] [(.int ((q5).toUInt32 >>> ((8 : Int32) &&& 31).toUInt32).toInt32)])) _
      refine X0.ldcInt hx hown (mvT hZ (hw _ (List.mem_of_getElem? (i := 0) rfl))) (g := (mkF m 30 #[.val (.long q0), .second, .val (.long q1), .second, .val (.long q2), .second, .val (.long q3), .second, .val (.long q4), .second, .val (.int q5), .val (.int (2 : Int32)), .val (.int (5 : Int32)), .val (.int v51), .unset, .unset, .unset] [(.int ((q5).toUInt32 >>> ((8 : Int32) &&& 31).toUInt32).toInt32)])) rfl (hb hby at_30) _ ?_
      show Steps p.tables e below (s₁.setTop (mkF m 32 #[.val (.long q0), .second, .val (.long q1), .second, .val (.long q2), .second, .val (.long q3), .second, .val (.long q4), .second, .val (.int q5), .val (.int (2 : Int32)), .val (.int (5 : Int32)), .val (.int v51), .unset, .unset, .unset] [(.int (2147483647 : Int32)), (.int ((q5).toUInt32 >>> ((8 : Int32) &&& 31).toUInt32).toInt32)])) _
      refine XS.iand X0.here hx rfl (hb hby at_32) rfl ?_
      show Steps p.tables e below (s₁.setTop (mkF m 33 #[.val (.long q0), .second, .val (.long q1), .second, .val (.long q2), .second, .val (.long q3), .second, .val (.long q4), .second, .val (.int q5), .val (.int (2 : Int32)), .val (.int (5 : Int32)), .val (.int v51), .unset, .unset, .unset] [(.int (((q5).toUInt32 >>> ((8 : Int32) &&& 31).toUInt32).toInt32 &&& (2147483647 : Int32)))])) _
      refine XS.iload X0.here hx rfl (hb hby at_33) rfl ?_
      show Steps p.tables e below (s₁.setTop (mkF m 35 #[.val (.long q0), .second, .val (.long q1), .second, .val (.long q2), .second, .val (.long q3), .second, .val (.long q4), .second, .val (.int q5), .val (.int (2 : Int32)), .val (.int (5 : Int32)), .val (.int v51), .unset, .unset, .unset] [(.int (5 : Int32)), (.int (((q5).toUInt32 >>> ((8 : Int32) &&& 31).toUInt32).toInt32 &&& (2147483647 : Int32)))])) _
      refine iremM X0 hx rfl (hb hby at_35) rfl (by decide) ?_
      exact k
    obtain ⟨T55, h55, cA55, X55, e55, E55, A55, st55⟩ := newP X0 hx hZ (aty := .long) (hw _ (List.mem_of_getElem? (i := 1) rfl)) e0 (g := (mkF m 40 #[.val (.long q0), .second, .val (.long q1), .second, .val (.long q2), .second, .val (.long q3), .second, .val (.long q4), .second, .val (.int q5), .val (.int (2 : Int32)), .val (.int (5 : Int32)), .val (.int v51), .val (.int v53), .unset, .unset] [(.int (6 : Int32))])) rfl (hb hby at_40) rfl (by decide) (cap := 6) (by decide) (by decide) (by decide) (by decide)
    obtain ⟨a55, g55⟩ : ∃ z, z = h0.size := ⟨_, rfl⟩
    rw [← g55] at A55 st55
    have ge_a55 : n0 ≤ a55 := g55 ▸ Z0
    have sz55 : n0 ≤ h55.size := Nat.le_trans Z0 E55.1
    have V55_n : own_AJ Z h55 a55 [(0 : Int64), (0 : Int64), (0 : Int64), (0 : Int64), (0 : Int64), (0 : Int64)] := own_AJ_new A55 (k := 6) (by decide)
    obtain ⟨T56, h56, X56, e56, W56, V56, st56⟩ := own_lastore X55 hx hZ e55 V55_n (j := (0 : Int32)) (show 0 ≤ Int32.toInt (0 : Int32) ∧ Int32.toInt (0 : Int32) < ((6 : Nat) : Int) by decide) (x := q3) (hb hby at_46) (Ls := #[.val (.long q0), .second, .val (.long q1), .second, .val (.long q2), .second, .val (.long q3), .second, .val (.long q4), .second, .val (.int q5), .val (.int (2 : Int32)), .val (.int (5 : Int32)), .val (.int v51), .val (.int v53), .unset, .unset]) (rest := [(.ref a55)])
    have sz56 : n0 ≤ h56.size := Nat.le_trans sz55 (Keep.of_wr W56).1
    have N56 := Fr.snoc X56 N0 ge_a55
    have V56_n : own_AJ Z h56 a55 [q3, (0 : Int64), (0 : Int64), (0 : Int64), (0 : Int64), (0 : Int64)] := V56
    obtain ⟨T57, h57, X57, e57, W57, V57, st57⟩ := own_lastore X56 hx hZ e56 V56_n (j := (1 : Int32)) (show 0 ≤ Int32.toInt (1 : Int32) ∧ Int32.toInt (1 : Int32) < ((6 : Nat) : Int) by decide) (x := q3) (hb hby at_51) (Ls := #[.val (.long q0), .second, .val (.long q1), .second, .val (.long q2), .second, .val (.long q3), .second, .val (.long q4), .second, .val (.int q5), .val (.int (2 : Int32)), .val (.int (5 : Int32)), .val (.int v51), .val (.int v53), .unset, .unset]) (rest := [(.ref a55)])
    have sz57 : n0 ≤ h57.size := Nat.le_trans sz56 (Keep.of_wr W57).1
    have N57 := Fr.snoc X57 N56 ge_a55
    have V57_n : own_AJ Z h57 a55 [q3, q3, (0 : Int64), (0 : Int64), (0 : Int64), (0 : Int64)] := V57
    obtain ⟨T58, h58, X58, e58, W58, V58, st58⟩ := own_lastore X57 hx hZ e57 V57_n (j := (2 : Int32)) (show 0 ≤ Int32.toInt (2 : Int32) ∧ Int32.toInt (2 : Int32) < ((6 : Nat) : Int) by decide) (x := q3) (hb hby at_56) (Ls := #[.val (.long q0), .second, .val (.long q1), .second, .val (.long q2), .second, .val (.long q3), .second, .val (.long q4), .second, .val (.int q5), .val (.int (2 : Int32)), .val (.int (5 : Int32)), .val (.int v51), .val (.int v53), .unset, .unset]) (rest := [(.ref a55)])
    have sz58 : n0 ≤ h58.size := Nat.le_trans sz57 (Keep.of_wr W58).1
    have N58 := Fr.snoc X58 N57 ge_a55
    have V58_n : own_AJ Z h58 a55 [q3, q3, q3, (0 : Int64), (0 : Int64), (0 : Int64)] := V58
    obtain ⟨T59, h59, X59, e59, W59, V59, st59⟩ := own_lastore X58 hx hZ e58 V58_n (j := (3 : Int32)) (show 0 ≤ Int32.toInt (3 : Int32) ∧ Int32.toInt (3 : Int32) < ((6 : Nat) : Int) by decide) (x := q3) (hb hby at_61) (Ls := #[.val (.long q0), .second, .val (.long q1), .second, .val (.long q2), .second, .val (.long q3), .second, .val (.long q4), .second, .val (.int q5), .val (.int (2 : Int32)), .val (.int (5 : Int32)), .val (.int v51), .val (.int v53), .unset, .unset]) (rest := [(.ref a55)])
    have sz59 : n0 ≤ h59.size := Nat.le_trans sz58 (Keep.of_wr W59).1
    have N59 := Fr.snoc X59 N58 ge_a55
    have V59_n : own_AJ Z h59 a55 [q3, q3, q3, q3, (0 : Int64), (0 : Int64)] := V59
    obtain ⟨T60, h60, X60, e60, W60, V60, st60⟩ := own_lastore X59 hx hZ e59 V59_n (j := (4 : Int32)) (show 0 ≤ Int32.toInt (4 : Int32) ∧ Int32.toInt (4 : Int32) < ((6 : Nat) : Int) by decide) (x := q3) (hb hby at_66) (Ls := #[.val (.long q0), .second, .val (.long q1), .second, .val (.long q2), .second, .val (.long q3), .second, .val (.long q4), .second, .val (.int q5), .val (.int (2 : Int32)), .val (.int (5 : Int32)), .val (.int v51), .val (.int v53), .unset, .unset]) (rest := [(.ref a55)])
    have sz60 : n0 ≤ h60.size := Nat.le_trans sz59 (Keep.of_wr W60).1
    have N60 := Fr.snoc X60 N59 ge_a55
    have V60_n : own_AJ Z h60 a55 [q3, q3, q3, q3, q3, (0 : Int64)] := V60
    obtain ⟨T61, h61, X61, e61, W61, V61, st61⟩ := own_lastore X60 hx hZ e60 V60_n (j := (5 : Int32)) (show 0 ≤ Int32.toInt (5 : Int32) ∧ Int32.toInt (5 : Int32) < ((6 : Nat) : Int) by decide) (x := q3) (hb hby at_71) (Ls := #[.val (.long q0), .second, .val (.long q1), .second, .val (.long q2), .second, .val (.long q3), .second, .val (.long q4), .second, .val (.int q5), .val (.int (2 : Int32)), .val (.int (5 : Int32)), .val (.int v51), .val (.int v53), .unset, .unset]) (rest := [(.ref a55)])
    have sz61 : n0 ≤ h61.size := Nat.le_trans sz60 (Keep.of_wr W61).1
    have N61 := Fr.snoc X61 N60 ge_a55
    have V61_n : own_AJ Z h61 a55 [q3, q3, q3, q3, q3, q3] := V61
    obtain ⟨T62, h62, cA62, X62, e62, E62, A62, st62⟩ := newP X61 hx hZ (aty := .long) (hw _ (List.mem_of_getElem? (i := 1) rfl)) e61 (g := (mkF m 76 #[.val (.long q0), .second, .val (.long q1), .second, .val (.long q2), .second, .val (.long q3), .second, .val (.long q4), .second, .val (.int q5), .val (.int (2 : Int32)), .val (.int (5 : Int32)), .val (.int v51), .val (.int v53), .val (.ref a55), .unset] [(.int (6 : Int32))])) rfl (hb hby at_76) rfl (by decide) (cap := 6) (by decide) (by decide) (by decide) (by decide)
    obtain ⟨a62, g62⟩ : ∃ z, z = h61.size := ⟨_, rfl⟩
    rw [← g62] at A62 st62
    have ne_a55_a62 : a55 ≠ a62 := g62 ▸ Nat.ne_of_lt V61_n.lt
    have ge_a62 : n0 ≤ a62 := g62 ▸ sz61
    have V62_a55 : own_AJ Z h62 a55 [q3, q3, q3, q3, q3, q3] := V61_n.ext E62
    have sz62 : n0 ≤ h62.size := Nat.le_trans sz61 E62.1
    have V62_n : own_AJ Z h62 a62 [(0 : Int64), (0 : Int64), (0 : Int64), (0 : Int64), (0 : Int64), (0 : Int64)] := own_AJ_new A62 (k := 6) (by decide)
    obtain ⟨T63, h63, X63, e63, W63, V63, st63⟩ := own_lastore X62 hx hZ e62 V62_n (j := (0 : Int32)) (show 0 ≤ Int32.toInt (0 : Int32) ∧ Int32.toInt (0 : Int32) < ((6 : Nat) : Int) by decide) (x := q4) (hb hby at_82) (Ls := #[.val (.long q0), .second, .val (.long q1), .second, .val (.long q2), .second, .val (.long q3), .second, .val (.long q4), .second, .val (.int q5), .val (.int (2 : Int32)), .val (.int (5 : Int32)), .val (.int v51), .val (.int v53), .val (.ref a55), .unset]) (rest := [(.ref a62)])
    have V63_a55 : own_AJ Z h63 a55 [q3, q3, q3, q3, q3, q3] := V62_a55.other W63 ne_a55_a62
    have sz63 : n0 ≤ h63.size := Nat.le_trans sz62 (Keep.of_wr W63).1
    have N63 := Fr.snoc X63 N61 ge_a62
    have V63_n : own_AJ Z h63 a62 [q4, (0 : Int64), (0 : Int64), (0 : Int64), (0 : Int64), (0 : Int64)] := V63
    obtain ⟨T64, h64, X64, e64, W64, V64, st64⟩ := own_lastore X63 hx hZ e63 V63_n (j := (1 : Int32)) (show 0 ≤ Int32.toInt (1 : Int32) ∧ Int32.toInt (1 : Int32) < ((6 : Nat) : Int) by decide) (x := q4) (hb hby at_87) (Ls := #[.val (.long q0), .second, .val (.long q1), .second, .val (.long q2), .second, .val (.long q3), .second, .val (.long q4), .second, .val (.int q5), .val (.int (2 : Int32)), .val (.int (5 : Int32)), .val (.int v51), .val (.int v53), .val (.ref a55), .unset]) (rest := [(.ref a62)])
    have V64_a55 : own_AJ Z h64 a55 [q3, q3, q3, q3, q3, q3] := V63_a55.other W64 ne_a55_a62
    have sz64 : n0 ≤ h64.size := Nat.le_trans sz63 (Keep.of_wr W64).1
    have N64 := Fr.snoc X64 N63 ge_a62
    have V64_n : own_AJ Z h64 a62 [q4, q4, (0 : Int64), (0 : Int64), (0 : Int64), (0 : Int64)] := V64
    obtain ⟨T65, h65, X65, e65, W65, V65, st65⟩ := own_lastore X64 hx hZ e64 V64_n (j := (2 : Int32)) (show 0 ≤ Int32.toInt (2 : Int32) ∧ Int32.toInt (2 : Int32) < ((6 : Nat) : Int) by decide) (x := q4) (hb hby at_92) (Ls := #[.val (.long q0), .second, .val (.long q1), .second, .val (.long q2), .second, .val (.long q3), .second, .val (.long q4), .second, .val (.int q5), .val (.int (2 : Int32)), .val (.int (5 : Int32)), .val (.int v51), .val (.int v53), .val (.ref a55), .unset]) (rest := [(.ref a62)])
    have V65_a55 : own_AJ Z h65 a55 [q3, q3, q3, q3, q3, q3] := V64_a55.other W65 ne_a55_a62
    have sz65 : n0 ≤ h65.size := Nat.le_trans sz64 (Keep.of_wr W65).1
    have N65 := Fr.snoc X65 N64 ge_a62
    have V65_n : own_AJ Z h65 a62 [q4, q4, q4, (0 : Int64), (0 : Int64), (0 : Int64)] := V65
    obtain ⟨T66, h66, X66, e66, W66, V66, st66⟩ := own_lastore X65 hx hZ e65 V65_n (j := (3 : Int32)) (show 0 ≤ Int32.toInt (3 : Int32) ∧ Int32.toInt (3 : Int32) < ((6 : Nat) : Int) by decide) (x := q4) (hb hby at_97) (Ls := #[.val (.long q0), .second, .val (.long q1), .second, .val (.long q2), .second, .val (.long q3), .second, .val (.long q4), .second, .val (.int q5), .val (.int (2 : Int32)), .val (.int (5 : Int32)), .val (.int v51), .val (.int v53), .val (.ref a55), .unset]) (rest := [(.ref a62)])
    have V66_a55 : own_AJ Z h66 a55 [q3, q3, q3, q3, q3, q3] := V65_a55.other W66 ne_a55_a62
    have sz66 : n0 ≤ h66.size := Nat.le_trans sz65 (Keep.of_wr W66).1
    have N66 := Fr.snoc X66 N65 ge_a62
    have V66_n : own_AJ Z h66 a62 [q4, q4, q4, q4, (0 : Int64), (0 : Int64)] := V66
    obtain ⟨T67, h67, X67, e67, W67, V67, st67⟩ := own_lastore X66 hx hZ e66 V66_n (j := (4 : Int32)) (show 0 ≤ Int32.toInt (4 : Int32) ∧ Int32.toInt (4 : Int32) < ((6 : Nat) : Int) by decide) (x := q4) (hb hby at_102) (Ls := #[.val (.long q0), .second, .val (.long q1), .second, .val (.long q2), .second, .val (.long q3), .second, .val (.long q4), .second, .val (.int q5), .val (.int (2 : Int32)), .val (.int (5 : Int32)), .val (.int v51), .val (.int v53), .val (.ref a55), .unset]) (rest := [(.ref a62)])
    have V67_a55 : own_AJ Z h67 a55 [q3, q3, q3, q3, q3, q3] := V66_a55.other W67 ne_a55_a62
    have sz67 : n0 ≤ h67.size := Nat.le_trans sz66 (Keep.of_wr W67).1
    have N67 := Fr.snoc X67 N66 ge_a62
    have V67_n : own_AJ Z h67 a62 [q4, q4, q4, q4, q4, (0 : Int64)] := V67
    obtain ⟨T68, h68, X68, e68, W68, V68, st68⟩ := own_lastore X67 hx hZ e67 V67_n (j := (5 : Int32)) (show 0 ≤ Int32.toInt (5 : Int32) ∧ Int32.toInt (5 : Int32) < ((6 : Nat) : Int) by decide) (x := q4) (hb hby at_107) (Ls := #[.val (.long q0), .second, .val (.long q1), .second, .val (.long q2), .second, .val (.long q3), .second, .val (.long q4), .second, .val (.int q5), .val (.int (2 : Int32)), .val (.int (5 : Int32)), .val (.int v51), .val (.int v53), .val (.ref a55), .unset]) (rest := [(.ref a62)])
    have V68_a55 : own_AJ Z h68 a55 [q3, q3, q3, q3, q3, q3] := V67_a55.other W68 ne_a55_a62
    have sz68 : n0 ≤ h68.size := Nat.le_trans sz67 (Keep.of_wr W68).1
    have N68 := Fr.snoc X68 N67 ge_a62
    have V68_n : own_AJ Z h68 a62 [q4, q4, q4, q4, q4, q4] := V68
    obtain ⟨_, _, ⟨T69, L69, k69, n69⟩, -, X69, ⟨Lc69, hQ69, l69, y69, z69⟩, st69⟩ := Jvm.LawKit.callS X68 hx (y := (⟨"com/example/cubeshare/cubeshare/model/TuplesHashPinLaw", "put", "([JIIJJJ)V"⟩ : MethodName)) hown (mvT hZ (hw _ (List.mem_of_getElem? (i := 2) rfl))) (mvT hZ (hw _ (List.mem_of_getElem? (i := 3) rfl))) (mvT hZ (hw _ (List.mem_of_getElem? (i := 4) rfl))) (mvT hZ (hw _ (List.mem_of_getElem? (i := 5) rfl))) (by decide) (backOf (W := 0) (rm1_2 l Z a0 hw [] a55 v51 q0 q1 q2 [q3, q3, q3, q3, q3, q3] h68 n0 sz68 V68_a55 ge_a55 (by (try simp only [List.length_set]); exact own_off (len := 2) (L := 6) (by assumption) (k := 5) (by decide) (by decide)) (by (try simp only [List.length_set]); exact (by decide : 6 ≤ 100))) hZ (hw _ (List.mem_of_getElem? (i := 5) rfl)) (hw _ (List.mem_of_getElem? (i := 4) rfl)) (by decide) (by decide)) (g := (mkF m 120 #[.val (.long q0), .second, .val (.long q1), .second, .val (.long q2), .second, .val (.long q3), .second, .val (.long q4), .second, .val (.int q5), .val (.int (2 : Int32)), .val (.int (5 : Int32)), .val (.int v51), .val (.int v53), .val (.ref a55), .val (.ref a62)] [(.long q2), (.long q1), (.long q0), (.int (2 : Int32)), (.int v51), (.ref a55)])) rfl (by rw [hml]; rfl) (argsL := [(.ref a55), (.int v51), (.int (2 : Int32)), (.long q0), (.long q1), (.long q2)]) (rest := []) (lenOf pd_4 rfl) rfl (by show 2 * 0 + _ ≤ _; exact Nat.le_of_eq rfl) (hb hby at_120) (fun _ _ => ⟨rfl, e68, (by decide : 2 + 0 ≤ _), (by decide : 12 + 0 ≤ _)⟩)
    dsimp only [Pt.U, Pt.locs, Pt.cells, Pt.slots] at X69 l69 y69 z69 st69 hQ69
    subst l69 y69 z69
    obtain ⟨rfl, N69q, K69, V69_o0⟩ := hQ69
    obtain ⟨h69, e69⟩ : ∃ z, T69.heap = z := ⟨_, rfl⟩
    rw [e69] at K69 V69_o0
    have V69_a62 : own_AJ Z h69 a62 [q4, q4, q4, q4, q4, q4] := V68_n.keep K69 (ninS (Ne.symm ne_a55_a62) nin0)
    have sz69 : n0 ≤ h69.size := Nat.le_trans sz68 K69.1
    have N69 := Fr.app N68 N69q
    obtain ⟨_, _, ⟨T70, L70, k70, n70⟩, -, X70, ⟨Lc70, hQ70, l70, y70, z70⟩, st70⟩ := Jvm.LawKit.callS X69 hx (y := (⟨"com/example/cubeshare/cubeshare/model/TuplesHashPinLaw", "put", "([JIIJJJ)V"⟩ : MethodName)) hown (mvT hZ (hw _ (List.mem_of_getElem? (i := 2) rfl))) (mvT hZ (hw _ (List.mem_of_getElem? (i := 3) rfl))) (mvT hZ (hw _ (List.mem_of_getElem? (i := 4) rfl))) (mvT hZ (hw _ (List.mem_of_getElem? (i := 5) rfl))) (by decide) (backOf (W := 0) (rm1_2 l Z a0 hw [] a62 v53 q0 q1 q2 [q4, q4, q4, q4, q4, q4] h69 n0 sz69 V69_a62 ge_a62 (by (try simp only [List.length_set]); exact own_off (len := 2) (L := 6) (by assumption) (k := 5) (by decide) (by decide)) (by (try simp only [List.length_set]); exact (by decide : 6 ≤ 100))) hZ (hw _ (List.mem_of_getElem? (i := 5) rfl)) (hw _ (List.mem_of_getElem? (i := 4) rfl)) (by decide) (by decide)) (g := (mkF m 133 #[.val (.long q0), .second, .val (.long q1), .second, .val (.long q2), .second, .val (.long q3), .second, .val (.long q4), .second, .val (.int q5), .val (.int (2 : Int32)), .val (.int (5 : Int32)), .val (.int v51), .val (.int v53), .val (.ref a55), .val (.ref a62)] [(.long q2), (.long q1), (.long q0), (.int (2 : Int32)), (.int v53), (.ref a62)])) rfl (by rw [hml]; rfl) (argsL := [(.ref a62), (.int v53), (.int (2 : Int32)), (.long q0), (.long q1), (.long q2)]) (rest := []) (lenOf pd_4 rfl) rfl (by show 2 * 0 + _ ≤ _; exact Nat.le_of_eq rfl) (hb hby at_133) (fun _ _ => ⟨rfl, e69, (by decide : 2 + 0 ≤ _), (by decide : 12 + 0 ≤ _)⟩)
    dsimp only [Pt.U, Pt.locs, Pt.cells, Pt.slots] at X70 l70 y70 z70 st70 hQ70
    subst l70 y70 z70
    obtain ⟨rfl, N70q, K70, V70_o0⟩ := hQ70
    obtain ⟨h70, e70⟩ : ∃ z, T70.heap = z := ⟨_, rfl⟩
    rw [e70] at K70 V70_o0
    have V70_a55 : own_AJ Z h70 a55 ((([q3, q3, q3, q3, q3, q3]).set (v51).toInt.toNat q0).set ((v51 + (1 : Int32))).toInt.toNat q1) := V69_o0.keep K70 (ninS ne_a55_a62 nin0)
    have sz70 : n0 ≤ h70.size := Nat.le_trans sz69 K70.1
    have N70 := Fr.app N69 N70q
    obtain ⟨_, _, ⟨T71, L71, k71, n71⟩, -, X71, ⟨Lc71, hQ71, l71, y71, z71⟩, st71⟩ := Jvm.LawKit.callS X70 hx (y := (⟨"com/example/cubeshare/cubeshare/model/Tuples", "hash", "([JII)I"⟩ : MethodName)) hown (mvT hZ (hw _ (List.mem_of_getElem? (i := 6) rfl))) (mvT hZ (hw _ (List.mem_of_getElem? (i := 7) rfl))) (mvT hZ (hw _ (List.mem_of_getElem? (i := 8) rfl))) (mvT hZ (hw _ (List.mem_of_getElem? (i := 9) rfl))) (by decide) (backOf (W := 0) (rm2_2 l Z a0 hw [] a55 v51 (((([q3, q3, q3, q3, q3, q3]).set (v51).toInt.toNat q0).set ((v51 + (1 : Int32))).toInt.toNat q1)) h70 n0 sz70 V70_a55 (by (try simp only [List.length_set]); exact own_off (len := 2) (L := 6) (by assumption) (k := 5) (by decide) (by decide)) (by (try simp only [List.length_set]); exact (by decide : 6 ≤ 100))) hZ (hw _ (List.mem_of_getElem? (i := 9) rfl)) (hw _ (List.mem_of_getElem? (i := 8) rfl)) (by decide) (by decide)) (g := (mkF m 142 #[.val (.long q0), .second, .val (.long q1), .second, .val (.long q2), .second, .val (.long q3), .second, .val (.long q4), .second, .val (.int q5), .val (.int (2 : Int32)), .val (.int (5 : Int32)), .val (.int v51), .val (.int v53), .val (.ref a55), .val (.ref a62)] [(.int (2 : Int32)), (.int v51), (.ref a55)])) rfl (by rw [hml]; rfl) (argsL := [(.ref a55), (.int v51), (.int (2 : Int32))]) (rest := []) (lenOf pd_5 rfl) rfl (by show 2 * 0 + _ ≤ _; exact Nat.le_of_eq rfl) (hb hby at_142) (fun _ _ => ⟨rfl, e70, (by decide : 2 + 0 ≤ _), (by decide : 12 + 0 ≤ _)⟩)
    dsimp only [Pt.U, Pt.locs, Pt.cells, Pt.slots] at X71 l71 y71 z71 st71 hQ71
    subst l71 y71 z71
    obtain ⟨rfl, N71q, e71⟩ := hQ71
    have N71 := Fr.app N70 N71q
    obtain ⟨_, _, ⟨T72, L72, k72, n72⟩, -, X72, ⟨Lc72, hQ72, l72, y72, z72⟩, st72⟩ := Jvm.LawKit.callS X71 hx (y := (⟨"com/example/cubeshare/cubeshare/model/Tuples", "hash", "([JII)I"⟩ : MethodName)) hown (mvT hZ (hw _ (List.mem_of_getElem? (i := 6) rfl))) (mvT hZ (hw _ (List.mem_of_getElem? (i := 7) rfl))) (mvT hZ (hw _ (List.mem_of_getElem? (i := 8) rfl))) (mvT hZ (hw _ (List.mem_of_getElem? (i := 9) rfl))) (by decide) (backOf (W := 1) (rm2_2 l Z a0 hw [] a62 v53 (((([q4, q4, q4, q4, q4, q4]).set (v53).toInt.toNat q0).set ((v53 + (1 : Int32))).toInt.toNat q1)) h70 n0 sz70 V70_o0 (by (try simp only [List.length_set]); exact own_off (len := 2) (L := 6) (by assumption) (k := 5) (by decide) (by decide)) (by (try simp only [List.length_set]); exact (by decide : 6 ≤ 100))) hZ (hw _ (List.mem_of_getElem? (i := 9) rfl)) (hw _ (List.mem_of_getElem? (i := 8) rfl)) (by decide) (by decide)) (g := (mkF m 151 #[.val (.long q0), .second, .val (.long q1), .second, .val (.long q2), .second, .val (.long q3), .second, .val (.long q4), .second, .val (.int q5), .val (.int (2 : Int32)), .val (.int (5 : Int32)), .val (.int v51), .val (.int v53), .val (.ref a55), .val (.ref a62)] [(.int (2 : Int32)), (.int v53), (.ref a62), (.int (own_f2_2 v51 (((([q3, q3, q3, q3, q3, q3]).set (v51).toInt.toNat q0).set ((v51 + (1 : Int32))).toInt.toNat q1))))])) rfl (by rw [hml]; rfl) (argsL := [(.ref a62), (.int v53), (.int (2 : Int32))]) (rest := [(.int (own_f2_2 v51 (((([q3, q3, q3, q3, q3, q3]).set (v51).toInt.toNat q0).set ((v51 + (1 : Int32))).toInt.toNat q1))))]) (lenOf pd_5 rfl) rfl (by show 2 * 0 + _ ≤ _; exact Nat.le_of_eq rfl) (hb hby at_151) (fun _ _ => ⟨rfl, e71, (by decide : 2 + 0 ≤ _), (by decide : 12 + 0 ≤ _)⟩)
    dsimp only [Pt.U, Pt.locs, Pt.cells, Pt.slots] at X72 l72 y72 z72 st72 hQ72
    subst l72 y72 z72
    obtain ⟨rfl, N72q, e72⟩ := hQ72
    have N72 := Fr.app N71 N72q
    have pre73 : ∀ t, Steps p.tables e below (T72.setTop (mkF m 154 #[.val (.long q0), .second, .val (.long q1), .second, .val (.long q2), .second, .val (.long q3), .second, .val (.long q4), .second, .val (.int q5), .val (.int (2 : Int32)), .val (.int (5 : Int32)), .val (.int v51), .val (.int v53), .val (.ref a55), .val (.ref a62)] [(.int (own_f2_2 v53 (((([q4, q4, q4, q4, q4, q4]).set (v53).toInt.toNat q0).set ((v53 + (1 : Int32))).toInt.toNat q1)))), (.int (own_f2_2 v51 (((([q3, q3, q3, q3, q3, q3]).set (v51).toInt.toNat q0).set ((v51 + (1 : Int32))).toInt.toNat q1))))])) t → Steps p.tables e below (s₁.setTop (entryFrame m #[(.long q0), (.long q1), (.long q2), (.long q3), (.long q4), (.int q5)] maxLocals)) t := by
      intro t k
      refine pre54 t ?_
      show Steps p.tables e below (s₁.setTop (mkF m 36 #[.val (.long q0), .second, .val (.long q1), .second, .val (.long q2), .second, .val (.long q3), .second, .val (.long q4), .second, .val (.int q5), .val (.int (2 : Int32)), .val (.int (5 : Int32)), .val (.int v51), .unset, .unset, .unset] [(.int v53)])) _
      refine XS.istore X0.here hx rfl (hb hby at_36) rfl (l' := #[.val (.long q0), .second, .val (.long q1), .second, .val (.long q2), .second, .val (.long q3), .second, .val (.long q4), .second, .val (.int q5), .val (.int (2 : Int32)), .val (.int (5 : Int32)), .val (.int v51), .val (.int v53), .unset, .unset]) rfl ?_
      show Steps p.tables e below (s₁.setTop (mkF m 38 #[.val (.long q0), .second, .val (.long q1), .second, .val (.long q2), .second, .val (.long q3), .second, .val (.long q4), .second, .val (.int q5), .val (.int (2 : Int32)), .val (.int (5 : Int32)), .val (.int v51), .val (.int v53), .unset, .unset] [])) _
      refine XS.bipush X0.here hx rfl (hb hby at_38) ?_
      show Steps p.tables e below (s₁.setTop (mkF m 40 #[.val (.long q0), .second, .val (.long q1), .second, .val (.long q2), .second, .val (.long q3), .second, .val (.long q4), .second, .val (.int q5), .val (.int (2 : Int32)), .val (.int (5 : Int32)), .val (.int v51), .val (.int v53), .unset, .unset] [(.int (6 : Int32))])) _
      refine st55 _ ?_
      show Steps p.tables e below (T55.setTop (mkF m 42 #[.val (.long q0), .second, .val (.long q1), .second, .val (.long q2), .second, .val (.long q3), .second, .val (.long q4), .second, .val (.int q5), .val (.int (2 : Int32)), .val (.int (5 : Int32)), .val (.int v51), .val (.int v53), .unset, .unset] [(.ref a55)])) _
      refine XS.dup X55.here hx rfl (hb hby at_42) rfl rfl ?_
      show Steps p.tables e below (T55.setTop (mkF m 43 #[.val (.long q0), .second, .val (.long q1), .second, .val (.long q2), .second, .val (.long q3), .second, .val (.long q4), .second, .val (.int q5), .val (.int (2 : Int32)), .val (.int (5 : Int32)), .val (.int v51), .val (.int v53), .unset, .unset] [(.ref a55), (.ref a55)])) _
      refine XS.iconst X55.here hx rfl (hb hby at_43) ?_
      show Steps p.tables e below (T55.setTop (mkF m 44 #[.val (.long q0), .second, .val (.long q1), .second, .val (.long q2), .second, .val (.long q3), .second, .val (.long q4), .second, .val (.int q5), .val (.int (2 : Int32)), .val (.int (5 : Int32)), .val (.int v51), .val (.int v53), .unset, .unset] [(.int (0 : Int32)), (.ref a55), (.ref a55)])) _
      refine XS.lload X55.here hx rfl (hb hby at_44) rfl ?_
      show Steps p.tables e below (T55.setTop (mkF m 46 #[.val (.long q0), .second, .val (.long q1), .second, .val (.long q2), .second, .val (.long q3), .second, .val (.long q4), .second, .val (.int q5), .val (.int (2 : Int32)), .val (.int (5 : Int32)), .val (.int v51), .val (.int v53), .unset, .unset] [(.long q3), (.int (0 : Int32)), (.ref a55), (.ref a55)])) _
      refine st56 _ ?_
      show Steps p.tables e below (T56.setTop (mkF m 47 #[.val (.long q0), .second, .val (.long q1), .second, .val (.long q2), .second, .val (.long q3), .second, .val (.long q4), .second, .val (.int q5), .val (.int (2 : Int32)), .val (.int (5 : Int32)), .val (.int v51), .val (.int v53), .unset, .unset] [(.ref a55)])) _
      refine XS.dup X56.here hx rfl (hb hby at_47) rfl rfl ?_
      show Steps p.tables e below (T56.setTop (mkF m 48 #[.val (.long q0), .second, .val (.long q1), .second, .val (.long q2), .second, .val (.long q3), .second, .val (.long q4), .second, .val (.int q5), .val (.int (2 : Int32)), .val (.int (5 : Int32)), .val (.int v51), .val (.int v53), .unset, .unset] [(.ref a55), (.ref a55)])) _
      refine XS.iconst X56.here hx rfl (hb hby at_48) ?_
      show Steps p.tables e below (T56.setTop (mkF m 49 #[.val (.long q0), .second, .val (.long q1), .second, .val (.long q2), .second, .val (.long q3), .second, .val (.long q4), .second, .val (.int q5), .val (.int (2 : Int32)), .val (.int (5 : Int32)), .val (.int v51), .val (.int v53), .unset, .unset] [(.int (1 : Int32)), (.ref a55), (.ref a55)])) _
      refine XS.lload X56.here hx rfl (hb hby at_49) rfl ?_
      show Steps p.tables e below (T56.setTop (mkF m 51 #[.val (.long q0), .second, .val (.long q1), .second, .val (.long q2), .second, .val (.long q3), .second, .val (.long q4), .second, .val (.int q5), .val (.int (2 : Int32)), .val (.int (5 : Int32)), .val (.int v51), .val (.int v53), .unset, .unset] [(.long q3), (.int (1 : Int32)), (.ref a55), (.ref a55)])) _
      refine st57 _ ?_
      show Steps p.tables e below (T57.setTop (mkF m 52 #[.val (.long q0), .second, .val (.long q1), .second, .val (.long q2), .second, .val (.long q3), .second, .val (.long q4), .second, .val (.int q5), .val (.int (2 : Int32)), .val (.int (5 : Int32)), .val (.int v51), .val (.int v53), .unset, .unset] [(.ref a55)])) _
      refine XS.dup X57.here hx rfl (hb hby at_52) rfl rfl ?_
      show Steps p.tables e below (T57.setTop (mkF m 53 #[.val (.long q0), .second, .val (.long q1), .second, .val (.long q2), .second, .val (.long q3), .second, .val (.long q4), .second, .val (.int q5), .val (.int (2 : Int32)), .val (.int (5 : Int32)), .val (.int v51), .val (.int v53), .unset, .unset] [(.ref a55), (.ref a55)])) _
      refine XS.iconst X57.here hx rfl (hb hby at_53) ?_
      show Steps p.tables e below (T57.setTop (mkF m 54 #[.val (.long q0), .second, .val (.long q1), .second, .val (.long q2), .second, .val (.long q3), .second, .val (.long q4), .second, .val (.int q5), .val (.int (2 : Int32)), .val (.int (5 : Int32)), .val (.int v51), .val (.int v53), .unset, .unset] [(.int (2 : Int32)), (.ref a55), (.ref a55)])) _
      refine XS.lload X57.here hx rfl (hb hby at_54) rfl ?_
      show Steps p.tables e below (T57.setTop (mkF m 56 #[.val (.long q0), .second, .val (.long q1), .second, .val (.long q2), .second, .val (.long q3), .second, .val (.long q4), .second, .val (.int q5), .val (.int (2 : Int32)), .val (.int (5 : Int32)), .val (.int v51), .val (.int v53), .unset, .unset] [(.long q3), (.int (2 : Int32)), (.ref a55), (.ref a55)])) _
      refine st58 _ ?_
      show Steps p.tables e below (T58.setTop (mkF m 57 #[.val (.long q0), .second, .val (.long q1), .second, .val (.long q2), .second, .val (.long q3), .second, .val (.long q4), .second, .val (.int q5), .val (.int (2 : Int32)), .val (.int (5 : Int32)), .val (.int v51), .val (.int v53), .unset, .unset] [(.ref a55)])) _
      refine XS.dup X58.here hx rfl (hb hby at_57) rfl rfl ?_
      show Steps p.tables e below (T58.setTop (mkF m 58 #[.val (.long q0), .second, .val (.long q1), .second, .val (.long q2), .second, .val (.long q3), .second, .val (.long q4), .second, .val (.int q5), .val (.int (2 : Int32)), .val (.int (5 : Int32)), .val (.int v51), .val (.int v53), .unset, .unset] [(.ref a55), (.ref a55)])) _
      refine XS.iconst X58.here hx rfl (hb hby at_58) ?_
      show Steps p.tables e below (T58.setTop (mkF m 59 #[.val (.long q0), .second, .val (.long q1), .second, .val (.long q2), .second, .val (.long q3), .second, .val (.long q4), .second, .val (.int q5), .val (.int (2 : Int32)), .val (.int (5 : Int32)), .val (.int v51), .val (.int v53), .unset, .unset] [(.int (3 : Int32)), (.ref a55), (.ref a55)])) _
      refine XS.lload X58.here hx rfl (hb hby at_59) rfl ?_
      show Steps p.tables e below (T58.setTop (mkF m 61 #[.val (.long q0), .second, .val (.long q1), .second, .val (.long q2), .second, .val (.long q3), .second, .val (.long q4), .second, .val (.int q5), .val (.int (2 : Int32)), .val (.int (5 : Int32)), .val (.int v51), .val (.int v53), .unset, .unset] [(.long q3), (.int (3 : Int32)), (.ref a55), (.ref a55)])) _
      refine st59 _ ?_
      show Steps p.tables e below (T59.setTop (mkF m 62 #[.val (.long q0), .second, .val (.long q1), .second, .val (.long q2), .second, .val (.long q3), .second, .val (.long q4), .second, .val (.int q5), .val (.int (2 : Int32)), .val (.int (5 : Int32)), .val (.int v51), .val (.int v53), .unset, .unset] [(.ref a55)])) _
      refine XS.dup X59.here hx rfl (hb hby at_62) rfl rfl ?_
      show Steps p.tables e below (T59.setTop (mkF m 63 #[.val (.long q0), .second, .val (.long q1), .second, .val (.long q2), .second, .val (.long q3), .second, .val (.long q4), .second, .val (.int q5), .val (.int (2 : Int32)), .val (.int (5 : Int32)), .val (.int v51), .val (.int v53), .unset, .unset] [(.ref a55), (.ref a55)])) _
      refine XS.iconst X59.here hx rfl (hb hby at_63) ?_
      show Steps p.tables e below (T59.setTop (mkF m 64 #[.val (.long q0), .second, .val (.long q1), .second, .val (.long q2), .second, .val (.long q3), .second, .val (.long q4), .second, .val (.int q5), .val (.int (2 : Int32)), .val (.int (5 : Int32)), .val (.int v51), .val (.int v53), .unset, .unset] [(.int (4 : Int32)), (.ref a55), (.ref a55)])) _
      refine XS.lload X59.here hx rfl (hb hby at_64) rfl ?_
      show Steps p.tables e below (T59.setTop (mkF m 66 #[.val (.long q0), .second, .val (.long q1), .second, .val (.long q2), .second, .val (.long q3), .second, .val (.long q4), .second, .val (.int q5), .val (.int (2 : Int32)), .val (.int (5 : Int32)), .val (.int v51), .val (.int v53), .unset, .unset] [(.long q3), (.int (4 : Int32)), (.ref a55), (.ref a55)])) _
      refine st60 _ ?_
      show Steps p.tables e below (T60.setTop (mkF m 67 #[.val (.long q0), .second, .val (.long q1), .second, .val (.long q2), .second, .val (.long q3), .second, .val (.long q4), .second, .val (.int q5), .val (.int (2 : Int32)), .val (.int (5 : Int32)), .val (.int v51), .val (.int v53), .unset, .unset] [(.ref a55)])) _
      refine XS.dup X60.here hx rfl (hb hby at_67) rfl rfl ?_
      show Steps p.tables e below (T60.setTop (mkF m 68 #[.val (.long q0), .second, .val (.long q1), .second, .val (.long q2), .second, .val (.long q3), .second, .val (.long q4), .second, .val (.int q5), .val (.int (2 : Int32)), .val (.int (5 : Int32)), .val (.int v51), .val (.int v53), .unset, .unset] [(.ref a55), (.ref a55)])) _
      refine XS.iconst X60.here hx rfl (hb hby at_68) ?_
      show Steps p.tables e below (T60.setTop (mkF m 69 #[.val (.long q0), .second, .val (.long q1), .second, .val (.long q2), .second, .val (.long q3), .second, .val (.long q4), .second, .val (.int q5), .val (.int (2 : Int32)), .val (.int (5 : Int32)), .val (.int v51), .val (.int v53), .unset, .unset] [(.int (5 : Int32)), (.ref a55), (.ref a55)])) _
      refine XS.lload X60.here hx rfl (hb hby at_69) rfl ?_
      show Steps p.tables e below (T60.setTop (mkF m 71 #[.val (.long q0), .second, .val (.long q1), .second, .val (.long q2), .second, .val (.long q3), .second, .val (.long q4), .second, .val (.int q5), .val (.int (2 : Int32)), .val (.int (5 : Int32)), .val (.int v51), .val (.int v53), .unset, .unset] [(.long q3), (.int (5 : Int32)), (.ref a55), (.ref a55)])) _
      refine st61 _ ?_
      show Steps p.tables e below (T61.setTop (mkF m 72 #[.val (.long q0), .second, .val (.long q1), .second, .val (.long q2), .second, .val (.long q3), .second, .val (.long q4), .second, .val (.int q5), .val (.int (2 : Int32)), .val (.int (5 : Int32)), .val (.int v51), .val (.int v53), .unset, .unset] [(.ref a55)])) _
      refine XS.astore X61.here hx rfl (hb hby at_72) rfl rfl (l' := #[.val (.long q0), .second, .val (.long q1), .second, .val (.long q2), .second, .val (.long q3), .second, .val (.long q4), .second, .val (.int q5), .val (.int (2 : Int32)), .val (.int (5 : Int32)), .val (.int v51), .val (.int v53), .val (.ref a55), .unset]) rfl ?_
      show Steps p.tables e below (T61.setTop (mkF m 74 #[.val (.long q0), .second, .val (.long q1), .second, .val (.long q2), .second, .val (.long q3), .second, .val (.long q4), .second, .val (.int q5), .val (.int (2 : Int32)), .val (.int (5 : Int32)), .val (.int v51), .val (.int v53), .val (.ref a55), .unset] [])) _
      refine XS.bipush X61.here hx rfl (hb hby at_74) ?_
      show Steps p.tables e below (T61.setTop (mkF m 76 #[.val (.long q0), .second, .val (.long q1), .second, .val (.long q2), .second, .val (.long q3), .second, .val (.long q4), .second, .val (.int q5), .val (.int (2 : Int32)), .val (.int (5 : Int32)), .val (.int v51), .val (.int v53), .val (.ref a55), .unset] [(.int (6 : Int32))])) _
      refine st62 _ ?_
      show Steps p.tables e below (T62.setTop (mkF m 78 #[.val (.long q0), .second, .val (.long q1), .second, .val (.long q2), .second, .val (.long q3), .second, .val (.long q4), .second, .val (.int q5), .val (.int (2 : Int32)), .val (.int (5 : Int32)), .val (.int v51), .val (.int v53), .val (.ref a55), .unset] [(.ref a62)])) _
      refine XS.dup X62.here hx rfl (hb hby at_78) rfl rfl ?_
      show Steps p.tables e below (T62.setTop (mkF m 79 #[.val (.long q0), .second, .val (.long q1), .second, .val (.long q2), .second, .val (.long q3), .second, .val (.long q4), .second, .val (.int q5), .val (.int (2 : Int32)), .val (.int (5 : Int32)), .val (.int v51), .val (.int v53), .val (.ref a55), .unset] [(.ref a62), (.ref a62)])) _
      refine XS.iconst X62.here hx rfl (hb hby at_79) ?_
      show Steps p.tables e below (T62.setTop (mkF m 80 #[.val (.long q0), .second, .val (.long q1), .second, .val (.long q2), .second, .val (.long q3), .second, .val (.long q4), .second, .val (.int q5), .val (.int (2 : Int32)), .val (.int (5 : Int32)), .val (.int v51), .val (.int v53), .val (.ref a55), .unset] [(.int (0 : Int32)), (.ref a62), (.ref a62)])) _
      refine XS.lload X62.here hx rfl (hb hby at_80) rfl ?_
      show Steps p.tables e below (T62.setTop (mkF m 82 #[.val (.long q0), .second, .val (.long q1), .second, .val (.long q2), .second, .val (.long q3), .second, .val (.long q4), .second, .val (.int q5), .val (.int (2 : Int32)), .val (.int (5 : Int32)), .val (.int v51), .val (.int v53), .val (.ref a55), .unset] [(.long q4), (.int (0 : Int32)), (.ref a62), (.ref a62)])) _
      refine st63 _ ?_
      show Steps p.tables e below (T63.setTop (mkF m 83 #[.val (.long q0), .second, .val (.long q1), .second, .val (.long q2), .second, .val (.long q3), .second, .val (.long q4), .second, .val (.int q5), .val (.int (2 : Int32)), .val (.int (5 : Int32)), .val (.int v51), .val (.int v53), .val (.ref a55), .unset] [(.ref a62)])) _
      refine XS.dup X63.here hx rfl (hb hby at_83) rfl rfl ?_
      show Steps p.tables e below (T63.setTop (mkF m 84 #[.val (.long q0), .second, .val (.long q1), .second, .val (.long q2), .second, .val (.long q3), .second, .val (.long q4), .second, .val (.int q5), .val (.int (2 : Int32)), .val (.int (5 : Int32)), .val (.int v51), .val (.int v53), .val (.ref a55), .unset] [(.ref a62), (.ref a62)])) _
      refine XS.iconst X63.here hx rfl (hb hby at_84) ?_
      show Steps p.tables e below (T63.setTop (mkF m 85 #[.val (.long q0), .second, .val (.long q1), .second, .val (.long q2), .second, .val (.long q3), .second, .val (.long q4), .second, .val (.int q5), .val (.int (2 : Int32)), .val (.int (5 : Int32)), .val (.int v51), .val (.int v53), .val (.ref a55), .unset] [(.int (1 : Int32)), (.ref a62), (.ref a62)])) _
      refine XS.lload X63.here hx rfl (hb hby at_85) rfl ?_
      show Steps p.tables e below (T63.setTop (mkF m 87 #[.val (.long q0), .second, .val (.long q1), .second, .val (.long q2), .second, .val (.long q3), .second, .val (.long q4), .second, .val (.int q5), .val (.int (2 : Int32)), .val (.int (5 : Int32)), .val (.int v51), .val (.int v53), .val (.ref a55), .unset] [(.long q4), (.int (1 : Int32)), (.ref a62), (.ref a62)])) _
      refine st64 _ ?_
      show Steps p.tables e below (T64.setTop (mkF m 88 #[.val (.long q0), .second, .val (.long q1), .second, .val (.long q2), .second, .val (.long q3), .second, .val (.long q4), .second, .val (.int q5), .val (.int (2 : Int32)), .val (.int (5 : Int32)), .val (.int v51), .val (.int v53), .val (.ref a55), .unset] [(.ref a62)])) _
      refine XS.dup X64.here hx rfl (hb hby at_88) rfl rfl ?_
      show Steps p.tables e below (T64.setTop (mkF m 89 #[.val (.long q0), .second, .val (.long q1), .second, .val (.long q2), .second, .val (.long q3), .second, .val (.long q4), .second, .val (.int q5), .val (.int (2 : Int32)), .val (.int (5 : Int32)), .val (.int v51), .val (.int v53), .val (.ref a55), .unset] [(.ref a62), (.ref a62)])) _
      refine XS.iconst X64.here hx rfl (hb hby at_89) ?_
      show Steps p.tables e below (T64.setTop (mkF m 90 #[.val (.long q0), .second, .val (.long q1), .second, .val (.long q2), .second, .val (.long q3), .second, .val (.long q4), .second, .val (.int q5), .val (.int (2 : Int32)), .val (.int (5 : Int32)), .val (.int v51), .val (.int v53), .val (.ref a55), .unset] [(.int (2 : Int32)), (.ref a62), (.ref a62)])) _
      refine XS.lload X64.here hx rfl (hb hby at_90) rfl ?_
      show Steps p.tables e below (T64.setTop (mkF m 92 #[.val (.long q0), .second, .val (.long q1), .second, .val (.long q2), .second, .val (.long q3), .second, .val (.long q4), .second, .val (.int q5), .val (.int (2 : Int32)), .val (.int (5 : Int32)), .val (.int v51), .val (.int v53), .val (.ref a55), .unset] [(.long q4), (.int (2 : Int32)), (.ref a62), (.ref a62)])) _
      refine st65 _ ?_
      show Steps p.tables e below (T65.setTop (mkF m 93 #[.val (.long q0), .second, .val (.long q1), .second, .val (.long q2), .second, .val (.long q3), .second, .val (.long q4), .second, .val (.int q5), .val (.int (2 : Int32)), .val (.int (5 : Int32)), .val (.int v51), .val (.int v53), .val (.ref a55), .unset] [(.ref a62)])) _
      refine XS.dup X65.here hx rfl (hb hby at_93) rfl rfl ?_
      show Steps p.tables e below (T65.setTop (mkF m 94 #[.val (.long q0), .second, .val (.long q1), .second, .val (.long q2), .second, .val (.long q3), .second, .val (.long q4), .second, .val (.int q5), .val (.int (2 : Int32)), .val (.int (5 : Int32)), .val (.int v51), .val (.int v53), .val (.ref a55), .unset] [(.ref a62), (.ref a62)])) _
      refine XS.iconst X65.here hx rfl (hb hby at_94) ?_
      show Steps p.tables e below (T65.setTop (mkF m 95 #[.val (.long q0), .second, .val (.long q1), .second, .val (.long q2), .second, .val (.long q3), .second, .val (.long q4), .second, .val (.int q5), .val (.int (2 : Int32)), .val (.int (5 : Int32)), .val (.int v51), .val (.int v53), .val (.ref a55), .unset] [(.int (3 : Int32)), (.ref a62), (.ref a62)])) _
      refine XS.lload X65.here hx rfl (hb hby at_95) rfl ?_
      show Steps p.tables e below (T65.setTop (mkF m 97 #[.val (.long q0), .second, .val (.long q1), .second, .val (.long q2), .second, .val (.long q3), .second, .val (.long q4), .second, .val (.int q5), .val (.int (2 : Int32)), .val (.int (5 : Int32)), .val (.int v51), .val (.int v53), .val (.ref a55), .unset] [(.long q4), (.int (3 : Int32)), (.ref a62), (.ref a62)])) _
      refine st66 _ ?_
      show Steps p.tables e below (T66.setTop (mkF m 98 #[.val (.long q0), .second, .val (.long q1), .second, .val (.long q2), .second, .val (.long q3), .second, .val (.long q4), .second, .val (.int q5), .val (.int (2 : Int32)), .val (.int (5 : Int32)), .val (.int v51), .val (.int v53), .val (.ref a55), .unset] [(.ref a62)])) _
      refine XS.dup X66.here hx rfl (hb hby at_98) rfl rfl ?_
      show Steps p.tables e below (T66.setTop (mkF m 99 #[.val (.long q0), .second, .val (.long q1), .second, .val (.long q2), .second, .val (.long q3), .second, .val (.long q4), .second, .val (.int q5), .val (.int (2 : Int32)), .val (.int (5 : Int32)), .val (.int v51), .val (.int v53), .val (.ref a55), .unset] [(.ref a62), (.ref a62)])) _
      refine XS.iconst X66.here hx rfl (hb hby at_99) ?_
      show Steps p.tables e below (T66.setTop (mkF m 100 #[.val (.long q0), .second, .val (.long q1), .second, .val (.long q2), .second, .val (.long q3), .second, .val (.long q4), .second, .val (.int q5), .val (.int (2 : Int32)), .val (.int (5 : Int32)), .val (.int v51), .val (.int v53), .val (.ref a55), .unset] [(.int (4 : Int32)), (.ref a62), (.ref a62)])) _
      refine XS.lload X66.here hx rfl (hb hby at_100) rfl ?_
      show Steps p.tables e below (T66.setTop (mkF m 102 #[.val (.long q0), .second, .val (.long q1), .second, .val (.long q2), .second, .val (.long q3), .second, .val (.long q4), .second, .val (.int q5), .val (.int (2 : Int32)), .val (.int (5 : Int32)), .val (.int v51), .val (.int v53), .val (.ref a55), .unset] [(.long q4), (.int (4 : Int32)), (.ref a62), (.ref a62)])) _
      refine st67 _ ?_
      show Steps p.tables e below (T67.setTop (mkF m 103 #[.val (.long q0), .second, .val (.long q1), .second, .val (.long q2), .second, .val (.long q3), .second, .val (.long q4), .second, .val (.int q5), .val (.int (2 : Int32)), .val (.int (5 : Int32)), .val (.int v51), .val (.int v53), .val (.ref a55), .unset] [(.ref a62)])) _
      refine XS.dup X67.here hx rfl (hb hby at_103) rfl rfl ?_
      show Steps p.tables e below (T67.setTop (mkF m 104 #[.val (.long q0), .second, .val (.long q1), .second, .val (.long q2), .second, .val (.long q3), .second, .val (.long q4), .second, .val (.int q5), .val (.int (2 : Int32)), .val (.int (5 : Int32)), .val (.int v51), .val (.int v53), .val (.ref a55), .unset] [(.ref a62), (.ref a62)])) _
      refine XS.iconst X67.here hx rfl (hb hby at_104) ?_
      show Steps p.tables e below (T67.setTop (mkF m 105 #[.val (.long q0), .second, .val (.long q1), .second, .val (.long q2), .second, .val (.long q3), .second, .val (.long q4), .second, .val (.int q5), .val (.int (2 : Int32)), .val (.int (5 : Int32)), .val (.int v51), .val (.int v53), .val (.ref a55), .unset] [(.int (5 : Int32)), (.ref a62), (.ref a62)])) _
      refine XS.lload X67.here hx rfl (hb hby at_105) rfl ?_
      show Steps p.tables e below (T67.setTop (mkF m 107 #[.val (.long q0), .second, .val (.long q1), .second, .val (.long q2), .second, .val (.long q3), .second, .val (.long q4), .second, .val (.int q5), .val (.int (2 : Int32)), .val (.int (5 : Int32)), .val (.int v51), .val (.int v53), .val (.ref a55), .unset] [(.long q4), (.int (5 : Int32)), (.ref a62), (.ref a62)])) _
      refine st68 _ ?_
      show Steps p.tables e below (T68.setTop (mkF m 108 #[.val (.long q0), .second, .val (.long q1), .second, .val (.long q2), .second, .val (.long q3), .second, .val (.long q4), .second, .val (.int q5), .val (.int (2 : Int32)), .val (.int (5 : Int32)), .val (.int v51), .val (.int v53), .val (.ref a55), .unset] [(.ref a62)])) _
      refine XS.astore X68.here hx rfl (hb hby at_108) rfl rfl (l' := #[.val (.long q0), .second, .val (.long q1), .second, .val (.long q2), .second, .val (.long q3), .second, .val (.long q4), .second, .val (.int q5), .val (.int (2 : Int32)), .val (.int (5 : Int32)), .val (.int v51), .val (.int v53), .val (.ref a55), .val (.ref a62)]) rfl ?_
      show Steps p.tables e below (T68.setTop (mkF m 110 #[.val (.long q0), .second, .val (.long q1), .second, .val (.long q2), .second, .val (.long q3), .second, .val (.long q4), .second, .val (.int q5), .val (.int (2 : Int32)), .val (.int (5 : Int32)), .val (.int v51), .val (.int v53), .val (.ref a55), .val (.ref a62)] [])) _
      refine XS.aload X68.here hx rfl (hb hby at_110) rfl rfl ?_
      show Steps p.tables e below (T68.setTop (mkF m 112 #[.val (.long q0), .second, .val (.long q1), .second, .val (.long q2), .second, .val (.long q3), .second, .val (.long q4), .second, .val (.int q5), .val (.int (2 : Int32)), .val (.int (5 : Int32)), .val (.int v51), .val (.int v53), .val (.ref a55), .val (.ref a62)] [(.ref a55)])) _
      refine XS.iload X68.here hx rfl (hb hby at_112) rfl ?_
      show Steps p.tables e below (T68.setTop (mkF m 114 #[.val (.long q0), .second, .val (.long q1), .second, .val (.long q2), .second, .val (.long q3), .second, .val (.long q4), .second, .val (.int q5), .val (.int (2 : Int32)), .val (.int (5 : Int32)), .val (.int v51), .val (.int v53), .val (.ref a55), .val (.ref a62)] [(.int v51), (.ref a55)])) _
      refine XS.iload X68.here hx rfl (hb hby at_114) rfl ?_
      show Steps p.tables e below (T68.setTop (mkF m 116 #[.val (.long q0), .second, .val (.long q1), .second, .val (.long q2), .second, .val (.long q3), .second, .val (.long q4), .second, .val (.int q5), .val (.int (2 : Int32)), .val (.int (5 : Int32)), .val (.int v51), .val (.int v53), .val (.ref a55), .val (.ref a62)] [(.int (2 : Int32)), (.int v51), (.ref a55)])) _
      refine XS.lloadN X68.here hx rfl (hb hby at_116) rfl ?_
      show Steps p.tables e below (T68.setTop (mkF m 117 #[.val (.long q0), .second, .val (.long q1), .second, .val (.long q2), .second, .val (.long q3), .second, .val (.long q4), .second, .val (.int q5), .val (.int (2 : Int32)), .val (.int (5 : Int32)), .val (.int v51), .val (.int v53), .val (.ref a55), .val (.ref a62)] [(.long q0), (.int (2 : Int32)), (.int v51), (.ref a55)])) _
      refine XS.lloadN X68.here hx rfl (hb hby at_117) rfl ?_
      show Steps p.tables e below (T68.setTop (mkF m 118 #[.val (.long q0), .second, .val (.long q1), .second, .val (.long q2), .second, .val (.long q3), .second, .val (.long q4), .second, .val (.int q5), .val (.int (2 : Int32)), .val (.int (5 : Int32)), .val (.int v51), .val (.int v53), .val (.ref a55), .val (.ref a62)] [(.long q1), (.long q0), (.int (2 : Int32)), (.int v51), (.ref a55)])) _
      refine XS.lload X68.here hx rfl (hb hby at_118) rfl ?_
      show Steps p.tables e below (T68.setTop (mkF m 120 #[.val (.long q0), .second, .val (.long q1), .second, .val (.long q2), .second, .val (.long q3), .second, .val (.long q4), .second, .val (.int q5), .val (.int (2 : Int32)), .val (.int (5 : Int32)), .val (.int v51), .val (.int v53), .val (.ref a55), .val (.ref a62)] [(.long q2), (.long q1), (.long q0), (.int (2 : Int32)), (.int v51), (.ref a55)])) _
      refine st69 _ ?_
      show Steps p.tables e below (T69.setTop (mkF m 123 #[.val (.long q0), .second, .val (.long q1), .second, .val (.long q2), .second, .val (.long q3), .second, .val (.long q4), .second, .val (.int q5), .val (.int (2 : Int32)), .val (.int (5 : Int32)), .val (.int v51), .val (.int v53), .val (.ref a55), .val (.ref a62)] [])) _
      refine XS.aload X69.here hx rfl (hb hby at_123) rfl rfl ?_
      show Steps p.tables e below (T69.setTop (mkF m 125 #[.val (.long q0), .second, .val (.long q1), .second, .val (.long q2), .second, .val (.long q3), .second, .val (.long q4), .second, .val (.int q5), .val (.int (2 : Int32)), .val (.int (5 : Int32)), .val (.int v51), .val (.int v53), .val (.ref a55), .val (.ref a62)] [(.ref a62)])) _
      refine XS.iload X69.here hx rfl (hb hby at_125) rfl ?_
      show Steps p.tables e below (T69.setTop (mkF m 127 #[.val (.long q0), .second, .val (.long q1), .second, .val (.long q2), .second, .val (.long q3), .second, .val (.long q4), .second, .val (.int q5), .val (.int (2 : Int32)), .val (.int (5 : Int32)), .val (.int v51), .val (.int v53), .val (.ref a55), .val (.ref a62)] [(.int v53), (.ref a62)])) _
      refine XS.iload X69.here hx rfl (hb hby at_127) rfl ?_
      show Steps p.tables e below (T69.setTop (mkF m 129 #[.val (.long q0), .second, .val (.long q1), .second, .val (.long q2), .second, .val (.long q3), .second, .val (.long q4), .second, .val (.int q5), .val (.int (2 : Int32)), .val (.int (5 : Int32)), .val (.int v51), .val (.int v53), .val (.ref a55), .val (.ref a62)] [(.int (2 : Int32)), (.int v53), (.ref a62)])) _
      refine XS.lloadN X69.here hx rfl (hb hby at_129) rfl ?_
      show Steps p.tables e below (T69.setTop (mkF m 130 #[.val (.long q0), .second, .val (.long q1), .second, .val (.long q2), .second, .val (.long q3), .second, .val (.long q4), .second, .val (.int q5), .val (.int (2 : Int32)), .val (.int (5 : Int32)), .val (.int v51), .val (.int v53), .val (.ref a55), .val (.ref a62)] [(.long q0), (.int (2 : Int32)), (.int v53), (.ref a62)])) _
      refine XS.lloadN X69.here hx rfl (hb hby at_130) rfl ?_
      show Steps p.tables e below (T69.setTop (mkF m 131 #[.val (.long q0), .second, .val (.long q1), .second, .val (.long q2), .second, .val (.long q3), .second, .val (.long q4), .second, .val (.int q5), .val (.int (2 : Int32)), .val (.int (5 : Int32)), .val (.int v51), .val (.int v53), .val (.ref a55), .val (.ref a62)] [(.long q1), (.long q0), (.int (2 : Int32)), (.int v53), (.ref a62)])) _
      refine XS.lload X69.here hx rfl (hb hby at_131) rfl ?_
      show Steps p.tables e below (T69.setTop (mkF m 133 #[.val (.long q0), .second, .val (.long q1), .second, .val (.long q2), .second, .val (.long q3), .second, .val (.long q4), .second, .val (.int q5), .val (.int (2 : Int32)), .val (.int (5 : Int32)), .val (.int v51), .val (.int v53), .val (.ref a55), .val (.ref a62)] [(.long q2), (.long q1), (.long q0), (.int (2 : Int32)), (.int v53), (.ref a62)])) _
      refine st70 _ ?_
      show Steps p.tables e below (T70.setTop (mkF m 136 #[.val (.long q0), .second, .val (.long q1), .second, .val (.long q2), .second, .val (.long q3), .second, .val (.long q4), .second, .val (.int q5), .val (.int (2 : Int32)), .val (.int (5 : Int32)), .val (.int v51), .val (.int v53), .val (.ref a55), .val (.ref a62)] [])) _
      refine XS.aload X70.here hx rfl (hb hby at_136) rfl rfl ?_
      show Steps p.tables e below (T70.setTop (mkF m 138 #[.val (.long q0), .second, .val (.long q1), .second, .val (.long q2), .second, .val (.long q3), .second, .val (.long q4), .second, .val (.int q5), .val (.int (2 : Int32)), .val (.int (5 : Int32)), .val (.int v51), .val (.int v53), .val (.ref a55), .val (.ref a62)] [(.ref a55)])) _
      refine XS.iload X70.here hx rfl (hb hby at_138) rfl ?_
      show Steps p.tables e below (T70.setTop (mkF m 140 #[.val (.long q0), .second, .val (.long q1), .second, .val (.long q2), .second, .val (.long q3), .second, .val (.long q4), .second, .val (.int q5), .val (.int (2 : Int32)), .val (.int (5 : Int32)), .val (.int v51), .val (.int v53), .val (.ref a55), .val (.ref a62)] [(.int v51), (.ref a55)])) _
      refine XS.iload X70.here hx rfl (hb hby at_140) rfl ?_
      show Steps p.tables e below (T70.setTop (mkF m 142 #[.val (.long q0), .second, .val (.long q1), .second, .val (.long q2), .second, .val (.long q3), .second, .val (.long q4), .second, .val (.int q5), .val (.int (2 : Int32)), .val (.int (5 : Int32)), .val (.int v51), .val (.int v53), .val (.ref a55), .val (.ref a62)] [(.int (2 : Int32)), (.int v51), (.ref a55)])) _
      refine st71 _ ?_
      show Steps p.tables e below (T71.setTop (mkF m 145 #[.val (.long q0), .second, .val (.long q1), .second, .val (.long q2), .second, .val (.long q3), .second, .val (.long q4), .second, .val (.int q5), .val (.int (2 : Int32)), .val (.int (5 : Int32)), .val (.int v51), .val (.int v53), .val (.ref a55), .val (.ref a62)] [(.int (own_f2_2 v51 (((([q3, q3, q3, q3, q3, q3]).set (v51).toInt.toNat q0).set ((v51 + (1 : Int32))).toInt.toNat q1))))])) _
      refine XS.aload X71.here hx rfl (hb hby at_145) rfl rfl ?_
      show Steps p.tables e below (T71.setTop (mkF m 147 #[.val (.long q0), .second, .val (.long q1), .second, .val (.long q2), .second, .val (.long q3), .second, .val (.long q4), .second, .val (.int q5), .val (.int (2 : Int32)), .val (.int (5 : Int32)), .val (.int v51), .val (.int v53), .val (.ref a55), .val (.ref a62)] [(.ref a62), (.int (own_f2_2 v51 (((([q3, q3, q3, q3, q3, q3]).set (v51).toInt.toNat q0).set ((v51 + (1 : Int32))).toInt.toNat q1))))])) _
      refine XS.iload X71.here hx rfl (hb hby at_147) rfl ?_
      show Steps p.tables e below (T71.setTop (mkF m 149 #[.val (.long q0), .second, .val (.long q1), .second, .val (.long q2), .second, .val (.long q3), .second, .val (.long q4), .second, .val (.int q5), .val (.int (2 : Int32)), .val (.int (5 : Int32)), .val (.int v51), .val (.int v53), .val (.ref a55), .val (.ref a62)] [(.int v53), (.ref a62), (.int (own_f2_2 v51 (((([q3, q3, q3, q3, q3, q3]).set (v51).toInt.toNat q0).set ((v51 + (1 : Int32))).toInt.toNat q1))))])) _
      refine XS.iload X71.here hx rfl (hb hby at_149) rfl ?_
      show Steps p.tables e below (T71.setTop (mkF m 151 #[.val (.long q0), .second, .val (.long q1), .second, .val (.long q2), .second, .val (.long q3), .second, .val (.long q4), .second, .val (.int q5), .val (.int (2 : Int32)), .val (.int (5 : Int32)), .val (.int v51), .val (.int v53), .val (.ref a55), .val (.ref a62)] [(.int (2 : Int32)), (.int v53), (.ref a62), (.int (own_f2_2 v51 (((([q3, q3, q3, q3, q3, q3]).set (v51).toInt.toNat q0).set ((v51 + (1 : Int32))).toInt.toNat q1))))])) _
      refine st72 _ ?_
      exact k
    by_cases c74 : (own_f2_2 v51 (((([q3, q3, q3, q3, q3, q3]).set (v51).toInt.toNat q0).set ((v51 + (1 : Int32))).toInt.toNat q1))) = (own_f2_2 v53 (((([q4, q4, q4, q4, q4, q4]).set (v53).toInt.toNat q0).set ((v53 + (1 : Int32))).toInt.toNat q1)))
    · obtain ⟨fs, hr, hrun, hended, hW, hsame⟩ := X72.leave (v := some (.int (1 : Int32))) (fun h => by rw [Bd.returns] at h; cases h) hlk
      refine ⟨_, _, pre73 _ ?_, hrun, hended, _, _, rfl, ?_, ⟨_, rfl⟩, hW, hsame.mono (by decide) (by decide)⟩
      · show Steps p.tables e below (T72.setTop (mkF m 154 #[.val (.long q0), .second, .val (.long q1), .second, .val (.long q2), .second, .val (.long q3), .second, .val (.long q4), .second, .val (.int q5), .val (.int (2 : Int32)), .val (.int (5 : Int32)), .val (.int v51), .val (.int v53), .val (.ref a55), .val (.ref a62)] [(.int (own_f2_2 v53 (((([q4, q4, q4, q4, q4, q4]).set (v53).toInt.toNat q0).set ((v53 + (1 : Int32))).toInt.toNat q1)))), (.int (own_f2_2 v51 (((([q3, q3, q3, q3, q3, q3]).set (v51).toInt.toNat q0).set ((v51 + (1 : Int32))).toInt.toNat q1))))])) _
        refine XS.icmpNo X72.here hx rfl (hb hby at_154) rfl ((teq c74).2) ?_
        show Steps p.tables e below (T72.setTop (mkF m 157 #[.val (.long q0), .second, .val (.long q1), .second, .val (.long q2), .second, .val (.long q3), .second, .val (.long q4), .second, .val (.int q5), .val (.int (2 : Int32)), .val (.int (5 : Int32)), .val (.int v51), .val (.int v53), .val (.ref a55), .val (.ref a62)] [])) _
        refine XS.iconst X72.here hx rfl (hb hby at_157) ?_
        show Steps p.tables e below (T72.setTop (mkF m 158 #[.val (.long q0), .second, .val (.long q1), .second, .val (.long q2), .second, .val (.long q3), .second, .val (.long q4), .second, .val (.int q5), .val (.int (2 : Int32)), .val (.int (5 : Int32)), .val (.int v51), .val (.int v53), .val (.ref a55), .val (.ref a62)] [(.int (1 : Int32))])) _
        refine XS.goto X72.here hx rfl (pc0 := 158) (pc' := 162) rfl (hb hby at_158) (by decide) (by decide) ?_
        show Steps p.tables e below (T72.setTop (mkF m 162 #[.val (.long q0), .second, .val (.long q1), .second, .val (.long q2), .second, .val (.long q3), .second, .val (.long q4), .second, .val (.int q5), .val (.int (2 : Int32)), .val (.int (5 : Int32)), .val (.int v51), .val (.int v53), .val (.ref a55), .val (.ref a62)] [(.int (1 : Int32))])) _
        exact retN X72 hx (t := .boolean) Bd.returns (by simp) (hb hby at_162) hr
      · show Q0 Z q0 q1 q2 q3 q4 q5 h0 n0 _ T72.heap _
        rw [e72]
        exact ⟨by have w_hv53 := hv53.symm; subst w_hv53; have w_hv51 := hv51.symm; subst w_hv51; simp only [own_f0, ← hv1, if_neg (by decide : ¬ ((2 : Int32) = (0 : Int32))), if_neg (by decide : ¬ ((2 : Int32) = (1 : Int32))), if_pos (rfl : (2 : Int32) = (2 : Int32)), if_pos c74, if_true, if_false], N72⟩
    · obtain ⟨fs, hr, hrun, hended, hW, hsame⟩ := X72.leave (v := some (.int (0 : Int32))) (fun h => by rw [Bd.returns] at h; cases h) hlk
      refine ⟨_, _, pre73 _ ?_, hrun, hended, _, _, rfl, ?_, ⟨_, rfl⟩, hW, hsame.mono (by decide) (by decide)⟩
      · show Steps p.tables e below (T72.setTop (mkF m 154 #[.val (.long q0), .second, .val (.long q1), .second, .val (.long q2), .second, .val (.long q3), .second, .val (.long q4), .second, .val (.int q5), .val (.int (2 : Int32)), .val (.int (5 : Int32)), .val (.int v51), .val (.int v53), .val (.ref a55), .val (.ref a62)] [(.int (own_f2_2 v53 (((([q4, q4, q4, q4, q4, q4]).set (v53).toInt.toNat q0).set ((v53 + (1 : Int32))).toInt.toNat q1)))), (.int (own_f2_2 v51 (((([q3, q3, q3, q3, q3, q3]).set (v51).toInt.toNat q0).set ((v51 + (1 : Int32))).toInt.toNat q1))))])) _
        refine XS.icmpYes X72.here hx rfl (pc0 := 154) (pc' := 161) rfl (hb hby at_154) rfl ((feq c74).2) (by decide) (by decide) ?_
        show Steps p.tables e below (T72.setTop (mkF m 161 #[.val (.long q0), .second, .val (.long q1), .second, .val (.long q2), .second, .val (.long q3), .second, .val (.long q4), .second, .val (.int q5), .val (.int (2 : Int32)), .val (.int (5 : Int32)), .val (.int v51), .val (.int v53), .val (.ref a55), .val (.ref a62)] [])) _
        refine XS.iconst X72.here hx rfl (hb hby at_161) ?_
        show Steps p.tables e below (T72.setTop (mkF m 162 #[.val (.long q0), .second, .val (.long q1), .second, .val (.long q2), .second, .val (.long q3), .second, .val (.long q4), .second, .val (.int q5), .val (.int (2 : Int32)), .val (.int (5 : Int32)), .val (.int v51), .val (.int v53), .val (.ref a55), .val (.ref a62)] [(.int (0 : Int32))])) _
        exact retN X72 hx (t := .boolean) Bd.returns (by simp) (hb hby at_162) hr
      · show Q0 Z q0 q1 q2 q3 q4 q5 h0 n0 _ T72.heap _
        rw [e72]
        exact ⟨by have w_hv53 := hv53.symm; subst w_hv53; have w_hv51 := hv51.symm; subst w_hv51; simp only [own_f0, ← hv1, if_neg (by decide : ¬ ((2 : Int32) = (0 : Int32))), if_neg (by decide : ¬ ((2 : Int32) = (1 : Int32))), if_pos (rfl : (2 : Int32) = (2 : Int32)), if_neg c74, if_true, if_false], N72⟩
  · obtain ⟨v75, hv75⟩ : ∃ z : Int32, z = ((((q5).toUInt32 >>> ((2 : Int32) &&& 31).toUInt32).toInt32 &&& (2147483647 : Int32)) % (4 : Int32)) := ⟨_, rfl⟩
    have pre76 : ∀ t, Steps p.tables e below (s₁.setTop (mkF m 23 #[.val (.long q0), .second, .val (.long q1), .second, .val (.long q2), .second, .val (.long q3), .second, .val (.long q4), .second, .val (.int q5), .val (.int (3 : Int32)), .val (.int (4 : Int32)), .unset, .unset, .unset, .unset] [(.int v75)])) t → Steps p.tables e below (s₁.setTop (entryFrame m #[(.long q0), (.long q1), (.long q2), (.long q3), (.long q4), (.int q5)] maxLocals)) t := by
      rw [hv75]
      intro t k
      refine pre2 t ?_
      show Steps p.tables e below (s₁.setTop (mkF m 4 #[.val (.long q0), .second, .val (.long q1), .second, .val (.long q2), .second, .val (.long q3), .second, .val (.long q4), .second, .val (.int q5), .unset, .unset, .unset, .unset, .unset, .unset] [(.int (3 : Int32))])) _
      refine XS.istore X0.here hx rfl (hb hby at_4) rfl (l' := #[.val (.long q0), .second, .val (.long q1), .second, .val (.long q2), .second, .val (.long q3), .second, .val (.long q4), .second, .val (.int q5), .val (.int (3 : Int32)), .unset, .unset, .unset, .unset, .unset]) rfl ?_
      show Steps p.tables e below (s₁.setTop (mkF m 6 #[.val (.long q0), .second, .val (.long q1), .second, .val (.long q2), .second, .val (.long q3), .second, .val (.long q4), .second, .val (.int q5), .val (.int (3 : Int32)), .unset, .unset, .unset, .unset, .unset] [])) _
      refine XS.bipush X0.here hx rfl (hb hby at_6) ?_
      show Steps p.tables e below (s₁.setTop (mkF m 8 #[.val (.long q0), .second, .val (.long q1), .second, .val (.long q2), .second, .val (.long q3), .second, .val (.long q4), .second, .val (.int q5), .val (.int (3 : Int32)), .unset, .unset, .unset, .unset, .unset] [(.int (7 : Int32))])) _
      refine XS.iload X0.here hx rfl (hb hby at_8) rfl ?_
      show Steps p.tables e below (s₁.setTop (mkF m 10 #[.val (.long q0), .second, .val (.long q1), .second, .val (.long q2), .second, .val (.long q3), .second, .val (.long q4), .second, .val (.int q5), .val (.int (3 : Int32)), .unset, .unset, .unset, .unset, .unset] [(.int (3 : Int32)), (.int (7 : Int32))])) _
      refine XS.isub X0.here hx rfl (hb hby at_10) rfl ?_
      show Steps p.tables e below (s₁.setTop (mkF m 11 #[.val (.long q0), .second, .val (.long q1), .second, .val (.long q2), .second, .val (.long q3), .second, .val (.long q4), .second, .val (.int q5), .val (.int (3 : Int32)), .unset, .unset, .unset, .unset, .unset] [(.int (4 : Int32))])) _
      refine XS.istore X0.here hx rfl (hb hby at_11) rfl (l' := #[.val (.long q0), .second, .val (.long q1), .second, .val (.long q2), .second, .val (.long q3), .second, .val (.long q4), .second, .val (.int q5), .val (.int (3 : Int32)), .val (.int (4 : Int32)), .unset, .unset, .unset, .unset]) rfl ?_
      show Steps p.tables e below (s₁.setTop (mkF m 13 #[.val (.long q0), .second, .val (.long q1), .second, .val (.long q2), .second, .val (.long q3), .second, .val (.long q4), .second, .val (.int q5), .val (.int (3 : Int32)), .val (.int (4 : Int32)), .unset, .unset, .unset, .unset] [])) _
      refine XS.iload X0.here hx rfl (hb hby at_13) rfl ?_
      show Steps p.tables e below (s₁.setTop (mkF m 15 #[.val (.long q0), .second, .val (.long q1), .second, .val (.long q2), .second, .val (.long q3), .second, .val (.long q4), .second, .val (.int q5), .val (.int (3 : Int32)), .val (.int (4 : Int32)), .unset, .unset, .unset, .unset] [(.int q5)])) _
      refine XS.iconst X0.here hx rfl (hb hby at_15) ?_
      show Steps p.tables e below (s₁.setTop (mkF m 16 #[.val (.long q0), .second, .val (.long q1), .second, .val (.long q2), .second, .val (.long q3), .second, .val (.long q4), .second, .val (.int q5), .val (.int (3 : Int32)), .val (.int (4 : Int32)), .unset, .unset, .unset, .unset] [(.int (2 : Int32)), (.int q5)])) _
      refine XS.iushr X0.here hx rfl (hb hby at_16) rfl ?_
      show Steps p.tables e below (s₁.setTop (mkF m 17 #[.val (.long q0), .second, .val (.long q1), .second, .val (.long q2), .second, .val (.long q3), .second, .val (.long q4), .second, .val (.int q5), .val (.int (3 : Int32)), .val (.int (4 : Int32)), .unset, .unset, .unset, .unset] [(.int ((q5).toUInt32 >>> ((2 : Int32) &&& 31).toUInt32).toInt32)])) _
      refine X0.ldcInt hx hown (mvT hZ (hw _ (List.mem_of_getElem? (i := 0) rfl))) (g := (mkF m 17 #[.val (.long q0), .second, .val (.long q1), .second, .val (.long q2), .second, .val (.long q3), .second, .val (.long q4), .second, .val (.int q5), .val (.int (3 : Int32)), .val (.int (4 : Int32)), .unset, .unset, .unset, .unset] [(.int ((q5).toUInt32 >>> ((2 : Int32) &&& 31).toUInt32).toInt32)])) rfl (hb hby at_17) _ ?_
      show Steps p.tables e below (s₁.setTop (mkF m 19 #[.val (.long q0), .second, .val (.long q1), .second, .val (.long q2), .second, .val (.long q3), .second, .val (.long q4), .second, .val (.int q5), .val (.int (3 : Int32)), .val (.int (4 : Int32)), .unset, .unset, .unset, .unset] [(.int (2147483647 : Int32)), (.int ((q5).toUInt32 >>> ((2 : Int32) &&& 31).toUInt32).toInt32)])) _
      refine XS.iand X0.here hx rfl (hb hby at_19) rfl ?_
      show Steps p.tables e below (s₁.setTop (mkF m 20 #[.val (.long q0), .second, .val (.long q1), .second, .val (.long q2), .second, .val (.long q3), .second, .val (.long q4), .second, .val (.int q5), .val (.int (3 : Int32)), .val (.int (4 : Int32)), .unset, .unset, .unset, .unset] [(.int (((q5).toUInt32 >>> ((2 : Int32) &&& 31).toUInt32).toInt32 &&& (2147483647 : Int32)))])) _
      refine XS.iload X0.here hx rfl (hb hby at_20) rfl ?_
      show Steps p.tables e below (s₁.setTop (mkF m 22 #[.val (.long q0), .second, .val (.long q1), .second, .val (.long q2), .second, .val (.long q3), .second, .val (.long q4), .second, .val (.int q5), .val (.int (3 : Int32)), .val (.int (4 : Int32)), .unset, .unset, .unset, .unset] [(.int (4 : Int32)), (.int (((q5).toUInt32 >>> ((2 : Int32) &&& 31).toUInt32).toInt32 &&& (2147483647 : Int32)))])) _
      refine iremM X0 hx rfl (hb hby at_22) rfl (by decide) ?_
      exact k
    obtain ⟨v77, hv77⟩ : ∃ z : Int32, z = ((((q5).toUInt32 >>> ((8 : Int32) &&& 31).toUInt32).toInt32 &&& (2147483647 : Int32)) % (4 : Int32)) := ⟨_, rfl⟩
    have pre78 : ∀ t, Steps p.tables e below (s₁.setTop (mkF m 36 #[.val (.long q0), .second, .val (.long q1), .second, .val (.long q2), .second, .val (.long q3), .second, .val (.long q4), .second, .val (.int q5), .val (.int (3 : Int32)), .val (.int (4 : Int32)), .val (.int v75), .unset, .unset, .unset] [(.int v77)])) t → Steps p.tables e below (s₁.setTop (entryFrame m #[(.long q0), (.long q1), (.long q2), (.long q3), (.long q4), (.int q5)] maxLocals)) t := by
      rw [hv77]
      intro t k
      refine pre76 t ?_
      show Steps p.tables e below (s₁.setTop (mkF m 23 #[.val (.long q0), .second, .val (.long q1), .second, .val (.long q2), .second, .val (.long q3), .second, .val (.long q4), .second, .val (.int q5), .val (.int (3 : Int32)), .val (.int (4 : Int32)), .unset, .unset, .unset, .unset] [(.int v75)])) _
      refine XS.istore X0.here hx rfl (hb hby at_23) rfl (l' := #[.val (.long q0), .second, .val (.long q1), .second, .val (.long q2), .second, .val (.long q3), .second, .val (.long q4), .second, .val (.int q5), .val (.int (3 : Int32)), .val (.int (4 : Int32)), .val (.int v75), .unset, .unset, .unset]) rfl ?_
      show Steps p.tables e below (s₁.setTop (mkF m 25 #[.val (.long q0), .second, .val (.long q1), .second, .val (.long q2), .second, .val (.long q3), .second, .val (.long q4), .second, .val (.int q5), .val (.int (3 : Int32)), .val (.int (4 : Int32)), .val (.int v75), .unset, .unset, .unset] [])) _
      refine XS.iload X0.here hx rfl (hb hby at_25) rfl ?_
      show Steps p.tables e below (s₁.setTop (mkF m 27 #[.val (.long q0), .second, .val (.long q1), .second, .val (.long q2), .second, .val (.long q3), .second, .val (.long q4), .second, .val (.int q5), .val (.int (3 : Int32)), .val (.int (4 : Int32)), .val (.int v75), .unset, .unset, .unset] [(.int q5)])) _
      refine XS.bipush X0.here hx rfl (hb hby at_27) ?_
      show Steps p.tables e below (s₁.setTop (mkF m 29 #[.val (.long q0), .second, .val (.long q1), .second, .val (.long q2), .second, .val (.long q3), .second, .val (.long q4), .second, .val (.int q5), .val (.int (3 : Int32)), .val (.int (4 : Int32)), .val (.int v75), .unset, .unset, .unset] [(.int (8 : Int32)), (.int q5)])) _
      refine XS.iushr X0.here hx rfl (hb hby at_29) rfl ?_
      show Steps p.tables e below (s₁.setTop (mkF m 30 #[.val (.long q0), .second, .val (.long q1), .second, .val (.long q2), .second, .val (.long q3), .second, .val (.long q4), .second, .val (.int q5), .val (.int (3 : Int32)), .val (.int (4 : Int32)), .val (.int v75), .unset, .unset, .unset] [(.int ((q5).toUInt32 >>> ((8 : Int32) &&& 31).toUInt32).toInt32)])) _
      refine X0.ldcInt hx hown (mvT hZ (hw _ (List.mem_of_getElem? (i := 0) rfl))) (g := (mkF m 30 #[.val (.long q0), .second, .val (.long q1), .second, .val (.long q2), .second, .val (.long q3), .second, .val (.long q4), .second, .val (.int q5), .val (.int (3 : Int32)), .val (.int (4 : Int32)), .val (.int v75), .unset, .unset, .unset] [(.int ((q5).toUInt32 >>> ((8 : Int32) &&& 31).toUInt32).toInt32)])) rfl (hb hby at_30) _ ?_
      show Steps p.tables e below (s₁.setTop (mkF m 32 #[.val (.long q0), .second, .val (.long q1), .second, .val (.long q2), .second, .val (.long q3), .second, .val (.long q4), .second, .val (.int q5), .val (.int (3 : Int32)), .val (.int (4 : Int32)), .val (.int v75), .unset, .unset, .unset] [(.int (2147483647 : Int32)), (.int ((q5).toUInt32 >>> ((8 : Int32) &&& 31).toUInt32).toInt32)])) _
      refine XS.iand X0.here hx rfl (hb hby at_32) rfl ?_
      show Steps p.tables e below (s₁.setTop (mkF m 33 #[.val (.long q0), .second, .val (.long q1), .second, .val (.long q2), .second, .val (.long q3), .second, .val (.long q4), .second, .val (.int q5), .val (.int (3 : Int32)), .val (.int (4 : Int32)), .val (.int v75), .unset, .unset, .unset] [(.int (((q5).toUInt32 >>> ((8 : Int32) &&& 31).toUInt32).toInt32 &&& (2147483647 : Int32)))])) _
      refine XS.iload X0.here hx rfl (hb hby at_33) rfl ?_
      show Steps p.tables e below (s₁.setTop (mkF m 35 #[.val (.long q0), .second, .val (.long q1), .second, .val (.long q2), .second, .val (.long q3), .second, .val (.long q4), .second, .val (.int q5), .val (.int (3 : Int32)), .val (.int (4 : Int32)), .val (.int v75), .unset, .unset, .unset] [(.int (4 : Int32)), (.int (((q5).toUInt32 >>> ((8 : Int32) &&& 31).toUInt32).toInt32 &&& (2147483647 : Int32)))])) _
      refine iremM X0 hx rfl (hb hby at_35) rfl (by decide) ?_
      exact k
    obtain ⟨T79, h79, cA79, X79, e79, E79, A79, st79⟩ := newP X0 hx hZ (aty := .long) (hw _ (List.mem_of_getElem? (i := 1) rfl)) e0 (g := (mkF m 40 #[.val (.long q0), .second, .val (.long q1), .second, .val (.long q2), .second, .val (.long q3), .second, .val (.long q4), .second, .val (.int q5), .val (.int (3 : Int32)), .val (.int (4 : Int32)), .val (.int v75), .val (.int v77), .unset, .unset] [(.int (6 : Int32))])) rfl (hb hby at_40) rfl (by decide) (cap := 6) (by decide) (by decide) (by decide) (by decide)
    obtain ⟨a79, g79⟩ : ∃ z, z = h0.size := ⟨_, rfl⟩
    rw [← g79] at A79 st79
    have ge_a79 : n0 ≤ a79 := g79 ▸ Z0
    have sz79 : n0 ≤ h79.size := Nat.le_trans Z0 E79.1
    have V79_n : own_AJ Z h79 a79 [(0 : Int64), (0 : Int64), (0 : Int64), (0 : Int64), (0 : Int64), (0 : Int64)] := own_AJ_new A79 (k := 6) (by decide)
    obtain ⟨T80, h80, X80, e80, W80, V80, st80⟩ := own_lastore X79 hx hZ e79 V79_n (j := (0 : Int32)) (show 0 ≤ Int32.toInt (0 : Int32) ∧ Int32.toInt (0 : Int32) < ((6 : Nat) : Int) by decide) (x := q3) (hb hby at_46) (Ls := #[.val (.long q0), .second, .val (.long q1), .second, .val (.long q2), .second, .val (.long q3), .second, .val (.long q4), .second, .val (.int q5), .val (.int (3 : Int32)), .val (.int (4 : Int32)), .val (.int v75), .val (.int v77), .unset, .unset]) (rest := [(.ref a79)])
    have sz80 : n0 ≤ h80.size := Nat.le_trans sz79 (Keep.of_wr W80).1
    have N80 := Fr.snoc X80 N0 ge_a79
    have V80_n : own_AJ Z h80 a79 [q3, (0 : Int64), (0 : Int64), (0 : Int64), (0 : Int64), (0 : Int64)] := V80
    obtain ⟨T81, h81, X81, e81, W81, V81, st81⟩ := own_lastore X80 hx hZ e80 V80_n (j := (1 : Int32)) (show 0 ≤ Int32.toInt (1 : Int32) ∧ Int32.toInt (1 : Int32) < ((6 : Nat) : Int) by decide) (x := q3) (hb hby at_51) (Ls := #[.val (.long q0), .second, .val (.long q1), .second, .val (.long q2), .second, .val (.long q3), .second, .val (.long q4), .second, .val (.int q5), .val (.int (3 : Int32)), .val (.int (4 : Int32)), .val (.int v75), .val (.int v77), .unset, .unset]) (rest := [(.ref a79)])
    have sz81 : n0 ≤ h81.size := Nat.le_trans sz80 (Keep.of_wr W81).1
    have N81 := Fr.snoc X81 N80 ge_a79
    have V81_n : own_AJ Z h81 a79 [q3, q3, (0 : Int64), (0 : Int64), (0 : Int64), (0 : Int64)] := V81
    obtain ⟨T82, h82, X82, e82, W82, V82, st82⟩ := own_lastore X81 hx hZ e81 V81_n (j := (2 : Int32)) (show 0 ≤ Int32.toInt (2 : Int32) ∧ Int32.toInt (2 : Int32) < ((6 : Nat) : Int) by decide) (x := q3) (hb hby at_56) (Ls := #[.val (.long q0), .second, .val (.long q1), .second, .val (.long q2), .second, .val (.long q3), .second, .val (.long q4), .second, .val (.int q5), .val (.int (3 : Int32)), .val (.int (4 : Int32)), .val (.int v75), .val (.int v77), .unset, .unset]) (rest := [(.ref a79)])
    have sz82 : n0 ≤ h82.size := Nat.le_trans sz81 (Keep.of_wr W82).1
    have N82 := Fr.snoc X82 N81 ge_a79
    have V82_n : own_AJ Z h82 a79 [q3, q3, q3, (0 : Int64), (0 : Int64), (0 : Int64)] := V82
    obtain ⟨T83, h83, X83, e83, W83, V83, st83⟩ := own_lastore X82 hx hZ e82 V82_n (j := (3 : Int32)) (show 0 ≤ Int32.toInt (3 : Int32) ∧ Int32.toInt (3 : Int32) < ((6 : Nat) : Int) by decide) (x := q3) (hb hby at_61) (Ls := #[.val (.long q0), .second, .val (.long q1), .second, .val (.long q2), .second, .val (.long q3), .second, .val (.long q4), .second, .val (.int q5), .val (.int (3 : Int32)), .val (.int (4 : Int32)), .val (.int v75), .val (.int v77), .unset, .unset]) (rest := [(.ref a79)])
    have sz83 : n0 ≤ h83.size := Nat.le_trans sz82 (Keep.of_wr W83).1
    have N83 := Fr.snoc X83 N82 ge_a79
    have V83_n : own_AJ Z h83 a79 [q3, q3, q3, q3, (0 : Int64), (0 : Int64)] := V83
    obtain ⟨T84, h84, X84, e84, W84, V84, st84⟩ := own_lastore X83 hx hZ e83 V83_n (j := (4 : Int32)) (show 0 ≤ Int32.toInt (4 : Int32) ∧ Int32.toInt (4 : Int32) < ((6 : Nat) : Int) by decide) (x := q3) (hb hby at_66) (Ls := #[.val (.long q0), .second, .val (.long q1), .second, .val (.long q2), .second, .val (.long q3), .second, .val (.long q4), .second, .val (.int q5), .val (.int (3 : Int32)), .val (.int (4 : Int32)), .val (.int v75), .val (.int v77), .unset, .unset]) (rest := [(.ref a79)])
    have sz84 : n0 ≤ h84.size := Nat.le_trans sz83 (Keep.of_wr W84).1
    have N84 := Fr.snoc X84 N83 ge_a79
    have V84_n : own_AJ Z h84 a79 [q3, q3, q3, q3, q3, (0 : Int64)] := V84
    obtain ⟨T85, h85, X85, e85, W85, V85, st85⟩ := own_lastore X84 hx hZ e84 V84_n (j := (5 : Int32)) (show 0 ≤ Int32.toInt (5 : Int32) ∧ Int32.toInt (5 : Int32) < ((6 : Nat) : Int) by decide) (x := q3) (hb hby at_71) (Ls := #[.val (.long q0), .second, .val (.long q1), .second, .val (.long q2), .second, .val (.long q3), .second, .val (.long q4), .second, .val (.int q5), .val (.int (3 : Int32)), .val (.int (4 : Int32)), .val (.int v75), .val (.int v77), .unset, .unset]) (rest := [(.ref a79)])
    have sz85 : n0 ≤ h85.size := Nat.le_trans sz84 (Keep.of_wr W85).1
    have N85 := Fr.snoc X85 N84 ge_a79
    have V85_n : own_AJ Z h85 a79 [q3, q3, q3, q3, q3, q3] := V85
    obtain ⟨T86, h86, cA86, X86, e86, E86, A86, st86⟩ := newP X85 hx hZ (aty := .long) (hw _ (List.mem_of_getElem? (i := 1) rfl)) e85 (g := (mkF m 76 #[.val (.long q0), .second, .val (.long q1), .second, .val (.long q2), .second, .val (.long q3), .second, .val (.long q4), .second, .val (.int q5), .val (.int (3 : Int32)), .val (.int (4 : Int32)), .val (.int v75), .val (.int v77), .val (.ref a79), .unset] [(.int (6 : Int32))])) rfl (hb hby at_76) rfl (by decide) (cap := 6) (by decide) (by decide) (by decide) (by decide)
    obtain ⟨a86, g86⟩ : ∃ z, z = h85.size := ⟨_, rfl⟩
    rw [← g86] at A86 st86
    have ne_a79_a86 : a79 ≠ a86 := g86 ▸ Nat.ne_of_lt V85_n.lt
    have ge_a86 : n0 ≤ a86 := g86 ▸ sz85
    have V86_a79 : own_AJ Z h86 a79 [q3, q3, q3, q3, q3, q3] := V85_n.ext E86
    have sz86 : n0 ≤ h86.size := Nat.le_trans sz85 E86.1
    have V86_n : own_AJ Z h86 a86 [(0 : Int64), (0 : Int64), (0 : Int64), (0 : Int64), (0 : Int64), (0 : Int64)] := own_AJ_new A86 (k := 6) (by decide)
    obtain ⟨T87, h87, X87, e87, W87, V87, st87⟩ := own_lastore X86 hx hZ e86 V86_n (j := (0 : Int32)) (show 0 ≤ Int32.toInt (0 : Int32) ∧ Int32.toInt (0 : Int32) < ((6 : Nat) : Int) by decide) (x := q4) (hb hby at_82) (Ls := #[.val (.long q0), .second, .val (.long q1), .second, .val (.long q2), .second, .val (.long q3), .second, .val (.long q4), .second, .val (.int q5), .val (.int (3 : Int32)), .val (.int (4 : Int32)), .val (.int v75), .val (.int v77), .val (.ref a79), .unset]) (rest := [(.ref a86)])
    have V87_a79 : own_AJ Z h87 a79 [q3, q3, q3, q3, q3, q3] := V86_a79.other W87 ne_a79_a86
    have sz87 : n0 ≤ h87.size := Nat.le_trans sz86 (Keep.of_wr W87).1
    have N87 := Fr.snoc X87 N85 ge_a86
    have V87_n : own_AJ Z h87 a86 [q4, (0 : Int64), (0 : Int64), (0 : Int64), (0 : Int64), (0 : Int64)] := V87
    obtain ⟨T88, h88, X88, e88, W88, V88, st88⟩ := own_lastore X87 hx hZ e87 V87_n (j := (1 : Int32)) (show 0 ≤ Int32.toInt (1 : Int32) ∧ Int32.toInt (1 : Int32) < ((6 : Nat) : Int) by decide) (x := q4) (hb hby at_87) (Ls := #[.val (.long q0), .second, .val (.long q1), .second, .val (.long q2), .second, .val (.long q3), .second, .val (.long q4), .second, .val (.int q5), .val (.int (3 : Int32)), .val (.int (4 : Int32)), .val (.int v75), .val (.int v77), .val (.ref a79), .unset]) (rest := [(.ref a86)])
    have V88_a79 : own_AJ Z h88 a79 [q3, q3, q3, q3, q3, q3] := V87_a79.other W88 ne_a79_a86
    have sz88 : n0 ≤ h88.size := Nat.le_trans sz87 (Keep.of_wr W88).1
    have N88 := Fr.snoc X88 N87 ge_a86
    have V88_n : own_AJ Z h88 a86 [q4, q4, (0 : Int64), (0 : Int64), (0 : Int64), (0 : Int64)] := V88
    obtain ⟨T89, h89, X89, e89, W89, V89, st89⟩ := own_lastore X88 hx hZ e88 V88_n (j := (2 : Int32)) (show 0 ≤ Int32.toInt (2 : Int32) ∧ Int32.toInt (2 : Int32) < ((6 : Nat) : Int) by decide) (x := q4) (hb hby at_92) (Ls := #[.val (.long q0), .second, .val (.long q1), .second, .val (.long q2), .second, .val (.long q3), .second, .val (.long q4), .second, .val (.int q5), .val (.int (3 : Int32)), .val (.int (4 : Int32)), .val (.int v75), .val (.int v77), .val (.ref a79), .unset]) (rest := [(.ref a86)])
    have V89_a79 : own_AJ Z h89 a79 [q3, q3, q3, q3, q3, q3] := V88_a79.other W89 ne_a79_a86
    have sz89 : n0 ≤ h89.size := Nat.le_trans sz88 (Keep.of_wr W89).1
    have N89 := Fr.snoc X89 N88 ge_a86
    have V89_n : own_AJ Z h89 a86 [q4, q4, q4, (0 : Int64), (0 : Int64), (0 : Int64)] := V89
    obtain ⟨T90, h90, X90, e90, W90, V90, st90⟩ := own_lastore X89 hx hZ e89 V89_n (j := (3 : Int32)) (show 0 ≤ Int32.toInt (3 : Int32) ∧ Int32.toInt (3 : Int32) < ((6 : Nat) : Int) by decide) (x := q4) (hb hby at_97) (Ls := #[.val (.long q0), .second, .val (.long q1), .second, .val (.long q2), .second, .val (.long q3), .second, .val (.long q4), .second, .val (.int q5), .val (.int (3 : Int32)), .val (.int (4 : Int32)), .val (.int v75), .val (.int v77), .val (.ref a79), .unset]) (rest := [(.ref a86)])
    have V90_a79 : own_AJ Z h90 a79 [q3, q3, q3, q3, q3, q3] := V89_a79.other W90 ne_a79_a86
    have sz90 : n0 ≤ h90.size := Nat.le_trans sz89 (Keep.of_wr W90).1
    have N90 := Fr.snoc X90 N89 ge_a86
    have V90_n : own_AJ Z h90 a86 [q4, q4, q4, q4, (0 : Int64), (0 : Int64)] := V90
    obtain ⟨T91, h91, X91, e91, W91, V91, st91⟩ := own_lastore X90 hx hZ e90 V90_n (j := (4 : Int32)) (show 0 ≤ Int32.toInt (4 : Int32) ∧ Int32.toInt (4 : Int32) < ((6 : Nat) : Int) by decide) (x := q4) (hb hby at_102) (Ls := #[.val (.long q0), .second, .val (.long q1), .second, .val (.long q2), .second, .val (.long q3), .second, .val (.long q4), .second, .val (.int q5), .val (.int (3 : Int32)), .val (.int (4 : Int32)), .val (.int v75), .val (.int v77), .val (.ref a79), .unset]) (rest := [(.ref a86)])
    have V91_a79 : own_AJ Z h91 a79 [q3, q3, q3, q3, q3, q3] := V90_a79.other W91 ne_a79_a86
    have sz91 : n0 ≤ h91.size := Nat.le_trans sz90 (Keep.of_wr W91).1
    have N91 := Fr.snoc X91 N90 ge_a86
    have V91_n : own_AJ Z h91 a86 [q4, q4, q4, q4, q4, (0 : Int64)] := V91
    obtain ⟨T92, h92, X92, e92, W92, V92, st92⟩ := own_lastore X91 hx hZ e91 V91_n (j := (5 : Int32)) (show 0 ≤ Int32.toInt (5 : Int32) ∧ Int32.toInt (5 : Int32) < ((6 : Nat) : Int) by decide) (x := q4) (hb hby at_107) (Ls := #[.val (.long q0), .second, .val (.long q1), .second, .val (.long q2), .second, .val (.long q3), .second, .val (.long q4), .second, .val (.int q5), .val (.int (3 : Int32)), .val (.int (4 : Int32)), .val (.int v75), .val (.int v77), .val (.ref a79), .unset]) (rest := [(.ref a86)])
    have V92_a79 : own_AJ Z h92 a79 [q3, q3, q3, q3, q3, q3] := V91_a79.other W92 ne_a79_a86
    have sz92 : n0 ≤ h92.size := Nat.le_trans sz91 (Keep.of_wr W92).1
    have N92 := Fr.snoc X92 N91 ge_a86
    have V92_n : own_AJ Z h92 a86 [q4, q4, q4, q4, q4, q4] := V92
    obtain ⟨_, _, ⟨T93, L93, k93, n93⟩, -, X93, ⟨Lc93, hQ93, l93, y93, z93⟩, st93⟩ := Jvm.LawKit.callS X92 hx (y := (⟨"com/example/cubeshare/cubeshare/model/TuplesHashPinLaw", "put", "([JIIJJJ)V"⟩ : MethodName)) hown (mvT hZ (hw _ (List.mem_of_getElem? (i := 2) rfl))) (mvT hZ (hw _ (List.mem_of_getElem? (i := 3) rfl))) (mvT hZ (hw _ (List.mem_of_getElem? (i := 4) rfl))) (mvT hZ (hw _ (List.mem_of_getElem? (i := 5) rfl))) (by decide) (backOf (W := 0) (rm1_3 l Z a0 hw [] a79 v75 q0 q1 q2 [q3, q3, q3, q3, q3, q3] h92 n0 sz92 V92_a79 ge_a79 (by (try simp only [List.length_set]); exact own_off (len := 3) (L := 6) (by assumption) (k := 4) (by decide) (by decide)) (by (try simp only [List.length_set]); exact (by decide : 6 ≤ 100))) hZ (hw _ (List.mem_of_getElem? (i := 5) rfl)) (hw _ (List.mem_of_getElem? (i := 4) rfl)) (by decide) (by decide)) (g := (mkF m 120 #[.val (.long q0), .second, .val (.long q1), .second, .val (.long q2), .second, .val (.long q3), .second, .val (.long q4), .second, .val (.int q5), .val (.int (3 : Int32)), .val (.int (4 : Int32)), .val (.int v75), .val (.int v77), .val (.ref a79), .val (.ref a86)] [(.long q2), (.long q1), (.long q0), (.int (3 : Int32)), (.int v75), (.ref a79)])) rfl (by rw [hml]; rfl) (argsL := [(.ref a79), (.int v75), (.int (3 : Int32)), (.long q0), (.long q1), (.long q2)]) (rest := []) (lenOf pd_4 rfl) rfl (by show 2 * 0 + _ ≤ _; exact Nat.le_of_eq rfl) (hb hby at_120) (fun _ _ => ⟨rfl, e92, (by decide : 2 + 0 ≤ _), (by decide : 12 + 0 ≤ _)⟩)
    dsimp only [Pt.U, Pt.locs, Pt.cells, Pt.slots] at X93 l93 y93 z93 st93 hQ93
    subst l93 y93 z93
    obtain ⟨rfl, N93q, K93, V93_o0⟩ := hQ93
    obtain ⟨h93, e93⟩ : ∃ z, T93.heap = z := ⟨_, rfl⟩
    rw [e93] at K93 V93_o0
    have V93_a86 : own_AJ Z h93 a86 [q4, q4, q4, q4, q4, q4] := V92_n.keep K93 (ninS (Ne.symm ne_a79_a86) nin0)
    have sz93 : n0 ≤ h93.size := Nat.le_trans sz92 K93.1
    have N93 := Fr.app N92 N93q
    obtain ⟨_, _, ⟨T94, L94, k94, n94⟩, -, X94, ⟨Lc94, hQ94, l94, y94, z94⟩, st94⟩ := Jvm.LawKit.callS X93 hx (y := (⟨"com/example/cubeshare/cubeshare/model/TuplesHashPinLaw", "put", "([JIIJJJ)V"⟩ : MethodName)) hown (mvT hZ (hw _ (List.mem_of_getElem? (i := 2) rfl))) (mvT hZ (hw _ (List.mem_of_getElem? (i := 3) rfl))) (mvT hZ (hw _ (List.mem_of_getElem? (i := 4) rfl))) (mvT hZ (hw _ (List.mem_of_getElem? (i := 5) rfl))) (by decide) (backOf (W := 0) (rm1_3 l Z a0 hw [] a86 v77 q0 q1 q2 [q4, q4, q4, q4, q4, q4] h93 n0 sz93 V93_a86 ge_a86 (by (try simp only [List.length_set]); exact own_off (len := 3) (L := 6) (by assumption) (k := 4) (by decide) (by decide)) (by (try simp only [List.length_set]); exact (by decide : 6 ≤ 100))) hZ (hw _ (List.mem_of_getElem? (i := 5) rfl)) (hw _ (List.mem_of_getElem? (i := 4) rfl)) (by decide) (by decide)) (g := (mkF m 133 #[.val (.long q0), .second, .val (.long q1), .second, .val (.long q2), .second, .val (.long q3), .second, .val (.long q4), .second, .val (.int q5), .val (.int (3 : Int32)), .val (.int (4 : Int32)), .val (.int v75), .val (.int v77), .val (.ref a79), .val (.ref a86)] [(.long q2), (.long q1), (.long q0), (.int (3 : Int32)), (.int v77), (.ref a86)])) rfl (by rw [hml]; rfl) (argsL := [(.ref a86), (.int v77), (.int (3 : Int32)), (.long q0), (.long q1), (.long q2)]) (rest := []) (lenOf pd_4 rfl) rfl (by show 2 * 0 + _ ≤ _; exact Nat.le_of_eq rfl) (hb hby at_133) (fun _ _ => ⟨rfl, e93, (by decide : 2 + 0 ≤ _), (by decide : 12 + 0 ≤ _)⟩)
    dsimp only [Pt.U, Pt.locs, Pt.cells, Pt.slots] at X94 l94 y94 z94 st94 hQ94
    subst l94 y94 z94
    obtain ⟨rfl, N94q, K94, V94_o0⟩ := hQ94
    obtain ⟨h94, e94⟩ : ∃ z, T94.heap = z := ⟨_, rfl⟩
    rw [e94] at K94 V94_o0
    have V94_a79 : own_AJ Z h94 a79 (((([q3, q3, q3, q3, q3, q3]).set (v75).toInt.toNat q0).set ((v75 + (1 : Int32))).toInt.toNat q1).set ((v75 + (2 : Int32))).toInt.toNat q2) := V93_o0.keep K94 (ninS ne_a79_a86 nin0)
    have sz94 : n0 ≤ h94.size := Nat.le_trans sz93 K94.1
    have N94 := Fr.app N93 N94q
    obtain ⟨_, _, ⟨T95, L95, k95, n95⟩, -, X95, ⟨Lc95, hQ95, l95, y95, z95⟩, st95⟩ := Jvm.LawKit.callS X94 hx (y := (⟨"com/example/cubeshare/cubeshare/model/Tuples", "hash", "([JII)I"⟩ : MethodName)) hown (mvT hZ (hw _ (List.mem_of_getElem? (i := 6) rfl))) (mvT hZ (hw _ (List.mem_of_getElem? (i := 7) rfl))) (mvT hZ (hw _ (List.mem_of_getElem? (i := 8) rfl))) (mvT hZ (hw _ (List.mem_of_getElem? (i := 9) rfl))) (by decide) (backOf (W := 0) (rm2_3 l Z a0 hw [] a79 v75 ((((([q3, q3, q3, q3, q3, q3]).set (v75).toInt.toNat q0).set ((v75 + (1 : Int32))).toInt.toNat q1).set ((v75 + (2 : Int32))).toInt.toNat q2)) h94 n0 sz94 V94_a79 (by (try simp only [List.length_set]); exact own_off (len := 3) (L := 6) (by assumption) (k := 4) (by decide) (by decide)) (by (try simp only [List.length_set]); exact (by decide : 6 ≤ 100))) hZ (hw _ (List.mem_of_getElem? (i := 9) rfl)) (hw _ (List.mem_of_getElem? (i := 8) rfl)) (by decide) (by decide)) (g := (mkF m 142 #[.val (.long q0), .second, .val (.long q1), .second, .val (.long q2), .second, .val (.long q3), .second, .val (.long q4), .second, .val (.int q5), .val (.int (3 : Int32)), .val (.int (4 : Int32)), .val (.int v75), .val (.int v77), .val (.ref a79), .val (.ref a86)] [(.int (3 : Int32)), (.int v75), (.ref a79)])) rfl (by rw [hml]; rfl) (argsL := [(.ref a79), (.int v75), (.int (3 : Int32))]) (rest := []) (lenOf pd_5 rfl) rfl (by show 2 * 0 + _ ≤ _; exact Nat.le_of_eq rfl) (hb hby at_142) (fun _ _ => ⟨rfl, e94, (by decide : 2 + 0 ≤ _), (by decide : 12 + 0 ≤ _)⟩)
    dsimp only [Pt.U, Pt.locs, Pt.cells, Pt.slots] at X95 l95 y95 z95 st95 hQ95
    subst l95 y95 z95
    obtain ⟨rfl, N95q, e95⟩ := hQ95
    have N95 := Fr.app N94 N95q
    obtain ⟨_, _, ⟨T96, L96, k96, n96⟩, -, X96, ⟨Lc96, hQ96, l96, y96, z96⟩, st96⟩ := Jvm.LawKit.callS X95 hx (y := (⟨"com/example/cubeshare/cubeshare/model/Tuples", "hash", "([JII)I"⟩ : MethodName)) hown (mvT hZ (hw _ (List.mem_of_getElem? (i := 6) rfl))) (mvT hZ (hw _ (List.mem_of_getElem? (i := 7) rfl))) (mvT hZ (hw _ (List.mem_of_getElem? (i := 8) rfl))) (mvT hZ (hw _ (List.mem_of_getElem? (i := 9) rfl))) (by decide) (backOf (W := 1) (rm2_3 l Z a0 hw [] a86 v77 ((((([q4, q4, q4, q4, q4, q4]).set (v77).toInt.toNat q0).set ((v77 + (1 : Int32))).toInt.toNat q1).set ((v77 + (2 : Int32))).toInt.toNat q2)) h94 n0 sz94 V94_o0 (by (try simp only [List.length_set]); exact own_off (len := 3) (L := 6) (by assumption) (k := 4) (by decide) (by decide)) (by (try simp only [List.length_set]); exact (by decide : 6 ≤ 100))) hZ (hw _ (List.mem_of_getElem? (i := 9) rfl)) (hw _ (List.mem_of_getElem? (i := 8) rfl)) (by decide) (by decide)) (g := (mkF m 151 #[.val (.long q0), .second, .val (.long q1), .second, .val (.long q2), .second, .val (.long q3), .second, .val (.long q4), .second, .val (.int q5), .val (.int (3 : Int32)), .val (.int (4 : Int32)), .val (.int v75), .val (.int v77), .val (.ref a79), .val (.ref a86)] [(.int (3 : Int32)), (.int v77), (.ref a86), (.int (own_f2_3 v75 ((((([q3, q3, q3, q3, q3, q3]).set (v75).toInt.toNat q0).set ((v75 + (1 : Int32))).toInt.toNat q1).set ((v75 + (2 : Int32))).toInt.toNat q2))))])) rfl (by rw [hml]; rfl) (argsL := [(.ref a86), (.int v77), (.int (3 : Int32))]) (rest := [(.int (own_f2_3 v75 ((((([q3, q3, q3, q3, q3, q3]).set (v75).toInt.toNat q0).set ((v75 + (1 : Int32))).toInt.toNat q1).set ((v75 + (2 : Int32))).toInt.toNat q2))))]) (lenOf pd_5 rfl) rfl (by show 2 * 0 + _ ≤ _; exact Nat.le_of_eq rfl) (hb hby at_151) (fun _ _ => ⟨rfl, e95, (by decide : 2 + 0 ≤ _), (by decide : 12 + 0 ≤ _)⟩)
    dsimp only [Pt.U, Pt.locs, Pt.cells, Pt.slots] at X96 l96 y96 z96 st96 hQ96
    subst l96 y96 z96
    obtain ⟨rfl, N96q, e96⟩ := hQ96
    have N96 := Fr.app N95 N96q
    have pre97 : ∀ t, Steps p.tables e below (T96.setTop (mkF m 154 #[.val (.long q0), .second, .val (.long q1), .second, .val (.long q2), .second, .val (.long q3), .second, .val (.long q4), .second, .val (.int q5), .val (.int (3 : Int32)), .val (.int (4 : Int32)), .val (.int v75), .val (.int v77), .val (.ref a79), .val (.ref a86)] [(.int (own_f2_3 v77 ((((([q4, q4, q4, q4, q4, q4]).set (v77).toInt.toNat q0).set ((v77 + (1 : Int32))).toInt.toNat q1).set ((v77 + (2 : Int32))).toInt.toNat q2)))), (.int (own_f2_3 v75 ((((([q3, q3, q3, q3, q3, q3]).set (v75).toInt.toNat q0).set ((v75 + (1 : Int32))).toInt.toNat q1).set ((v75 + (2 : Int32))).toInt.toNat q2))))])) t → Steps p.tables e below (s₁.setTop (entryFrame m #[(.long q0), (.long q1), (.long q2), (.long q3), (.long q4), (.int q5)] maxLocals)) t := by
      intro t k
      refine pre78 t ?_
      show Steps p.tables e below (s₁.setTop (mkF m 36 #[.val (.long q0), .second, .val (.long q1), .second, .val (.long q2), .second, .val (.long q3), .second, .val (.long q4), .second, .val (.int q5), .val (.int (3 : Int32)), .val (.int (4 : Int32)), .val (.int v75), .unset, .unset, .unset] [(.int v77)])) _
      refine XS.istore X0.here hx rfl (hb hby at_36) rfl (l' := #[.val (.long q0), .second, .val (.long q1), .second, .val (.long q2), .second, .val (.long q3), .second, .val (.long q4), .second, .val (.int q5), .val (.int (3 : Int32)), .val (.int (4 : Int32)), .val (.int v75), .val (.int v77), .unset, .unset]) rfl ?_
      show Steps p.tables e below (s₁.setTop (mkF m 38 #[.val (.long q0), .second, .val (.long q1), .second, .val (.long q2), .second, .val (.long q3), .second, .val (.long q4), .second, .val (.int q5), .val (.int (3 : Int32)), .val (.int (4 : Int32)), .val (.int v75), .val (.int v77), .unset, .unset] [])) _
      refine XS.bipush X0.here hx rfl (hb hby at_38) ?_
      show Steps p.tables e below (s₁.setTop (mkF m 40 #[.val (.long q0), .second, .val (.long q1), .second, .val (.long q2), .second, .val (.long q3), .second, .val (.long q4), .second, .val (.int q5), .val (.int (3 : Int32)), .val (.int (4 : Int32)), .val (.int v75), .val (.int v77), .unset, .unset] [(.int (6 : Int32))])) _
      refine st79 _ ?_
      show Steps p.tables e below (T79.setTop (mkF m 42 #[.val (.long q0), .second, .val (.long q1), .second, .val (.long q2), .second, .val (.long q3), .second, .val (.long q4), .second, .val (.int q5), .val (.int (3 : Int32)), .val (.int (4 : Int32)), .val (.int v75), .val (.int v77), .unset, .unset] [(.ref a79)])) _
      refine XS.dup X79.here hx rfl (hb hby at_42) rfl rfl ?_
      show Steps p.tables e below (T79.setTop (mkF m 43 #[.val (.long q0), .second, .val (.long q1), .second, .val (.long q2), .second, .val (.long q3), .second, .val (.long q4), .second, .val (.int q5), .val (.int (3 : Int32)), .val (.int (4 : Int32)), .val (.int v75), .val (.int v77), .unset, .unset] [(.ref a79), (.ref a79)])) _
      refine XS.iconst X79.here hx rfl (hb hby at_43) ?_
      show Steps p.tables e below (T79.setTop (mkF m 44 #[.val (.long q0), .second, .val (.long q1), .second, .val (.long q2), .second, .val (.long q3), .second, .val (.long q4), .second, .val (.int q5), .val (.int (3 : Int32)), .val (.int (4 : Int32)), .val (.int v75), .val (.int v77), .unset, .unset] [(.int (0 : Int32)), (.ref a79), (.ref a79)])) _
      refine XS.lload X79.here hx rfl (hb hby at_44) rfl ?_
      show Steps p.tables e below (T79.setTop (mkF m 46 #[.val (.long q0), .second, .val (.long q1), .second, .val (.long q2), .second, .val (.long q3), .second, .val (.long q4), .second, .val (.int q5), .val (.int (3 : Int32)), .val (.int (4 : Int32)), .val (.int v75), .val (.int v77), .unset, .unset] [(.long q3), (.int (0 : Int32)), (.ref a79), (.ref a79)])) _
      refine st80 _ ?_
      show Steps p.tables e below (T80.setTop (mkF m 47 #[.val (.long q0), .second, .val (.long q1), .second, .val (.long q2), .second, .val (.long q3), .second, .val (.long q4), .second, .val (.int q5), .val (.int (3 : Int32)), .val (.int (4 : Int32)), .val (.int v75), .val (.int v77), .unset, .unset] [(.ref a79)])) _
      refine XS.dup X80.here hx rfl (hb hby at_47) rfl rfl ?_
      show Steps p.tables e below (T80.setTop (mkF m 48 #[.val (.long q0), .second, .val (.long q1), .second, .val (.long q2), .second, .val (.long q3), .second, .val (.long q4), .second, .val (.int q5), .val (.int (3 : Int32)), .val (.int (4 : Int32)), .val (.int v75), .val (.int v77), .unset, .unset] [(.ref a79), (.ref a79)])) _
      refine XS.iconst X80.here hx rfl (hb hby at_48) ?_
      show Steps p.tables e below (T80.setTop (mkF m 49 #[.val (.long q0), .second, .val (.long q1), .second, .val (.long q2), .second, .val (.long q3), .second, .val (.long q4), .second, .val (.int q5), .val (.int (3 : Int32)), .val (.int (4 : Int32)), .val (.int v75), .val (.int v77), .unset, .unset] [(.int (1 : Int32)), (.ref a79), (.ref a79)])) _
      refine XS.lload X80.here hx rfl (hb hby at_49) rfl ?_
      show Steps p.tables e below (T80.setTop (mkF m 51 #[.val (.long q0), .second, .val (.long q1), .second, .val (.long q2), .second, .val (.long q3), .second, .val (.long q4), .second, .val (.int q5), .val (.int (3 : Int32)), .val (.int (4 : Int32)), .val (.int v75), .val (.int v77), .unset, .unset] [(.long q3), (.int (1 : Int32)), (.ref a79), (.ref a79)])) _
      refine st81 _ ?_
      show Steps p.tables e below (T81.setTop (mkF m 52 #[.val (.long q0), .second, .val (.long q1), .second, .val (.long q2), .second, .val (.long q3), .second, .val (.long q4), .second, .val (.int q5), .val (.int (3 : Int32)), .val (.int (4 : Int32)), .val (.int v75), .val (.int v77), .unset, .unset] [(.ref a79)])) _
      refine XS.dup X81.here hx rfl (hb hby at_52) rfl rfl ?_
      show Steps p.tables e below (T81.setTop (mkF m 53 #[.val (.long q0), .second, .val (.long q1), .second, .val (.long q2), .second, .val (.long q3), .second, .val (.long q4), .second, .val (.int q5), .val (.int (3 : Int32)), .val (.int (4 : Int32)), .val (.int v75), .val (.int v77), .unset, .unset] [(.ref a79), (.ref a79)])) _
      refine XS.iconst X81.here hx rfl (hb hby at_53) ?_
      show Steps p.tables e below (T81.setTop (mkF m 54 #[.val (.long q0), .second, .val (.long q1), .second, .val (.long q2), .second, .val (.long q3), .second, .val (.long q4), .second, .val (.int q5), .val (.int (3 : Int32)), .val (.int (4 : Int32)), .val (.int v75), .val (.int v77), .unset, .unset] [(.int (2 : Int32)), (.ref a79), (.ref a79)])) _
      refine XS.lload X81.here hx rfl (hb hby at_54) rfl ?_
      show Steps p.tables e below (T81.setTop (mkF m 56 #[.val (.long q0), .second, .val (.long q1), .second, .val (.long q2), .second, .val (.long q3), .second, .val (.long q4), .second, .val (.int q5), .val (.int (3 : Int32)), .val (.int (4 : Int32)), .val (.int v75), .val (.int v77), .unset, .unset] [(.long q3), (.int (2 : Int32)), (.ref a79), (.ref a79)])) _
      refine st82 _ ?_
      show Steps p.tables e below (T82.setTop (mkF m 57 #[.val (.long q0), .second, .val (.long q1), .second, .val (.long q2), .second, .val (.long q3), .second, .val (.long q4), .second, .val (.int q5), .val (.int (3 : Int32)), .val (.int (4 : Int32)), .val (.int v75), .val (.int v77), .unset, .unset] [(.ref a79)])) _
      refine XS.dup X82.here hx rfl (hb hby at_57) rfl rfl ?_
      show Steps p.tables e below (T82.setTop (mkF m 58 #[.val (.long q0), .second, .val (.long q1), .second, .val (.long q2), .second, .val (.long q3), .second, .val (.long q4), .second, .val (.int q5), .val (.int (3 : Int32)), .val (.int (4 : Int32)), .val (.int v75), .val (.int v77), .unset, .unset] [(.ref a79), (.ref a79)])) _
      refine XS.iconst X82.here hx rfl (hb hby at_58) ?_
      show Steps p.tables e below (T82.setTop (mkF m 59 #[.val (.long q0), .second, .val (.long q1), .second, .val (.long q2), .second, .val (.long q3), .second, .val (.long q4), .second, .val (.int q5), .val (.int (3 : Int32)), .val (.int (4 : Int32)), .val (.int v75), .val (.int v77), .unset, .unset] [(.int (3 : Int32)), (.ref a79), (.ref a79)])) _
      refine XS.lload X82.here hx rfl (hb hby at_59) rfl ?_
      show Steps p.tables e below (T82.setTop (mkF m 61 #[.val (.long q0), .second, .val (.long q1), .second, .val (.long q2), .second, .val (.long q3), .second, .val (.long q4), .second, .val (.int q5), .val (.int (3 : Int32)), .val (.int (4 : Int32)), .val (.int v75), .val (.int v77), .unset, .unset] [(.long q3), (.int (3 : Int32)), (.ref a79), (.ref a79)])) _
      refine st83 _ ?_
      show Steps p.tables e below (T83.setTop (mkF m 62 #[.val (.long q0), .second, .val (.long q1), .second, .val (.long q2), .second, .val (.long q3), .second, .val (.long q4), .second, .val (.int q5), .val (.int (3 : Int32)), .val (.int (4 : Int32)), .val (.int v75), .val (.int v77), .unset, .unset] [(.ref a79)])) _
      refine XS.dup X83.here hx rfl (hb hby at_62) rfl rfl ?_
      show Steps p.tables e below (T83.setTop (mkF m 63 #[.val (.long q0), .second, .val (.long q1), .second, .val (.long q2), .second, .val (.long q3), .second, .val (.long q4), .second, .val (.int q5), .val (.int (3 : Int32)), .val (.int (4 : Int32)), .val (.int v75), .val (.int v77), .unset, .unset] [(.ref a79), (.ref a79)])) _
      refine XS.iconst X83.here hx rfl (hb hby at_63) ?_
      show Steps p.tables e below (T83.setTop (mkF m 64 #[.val (.long q0), .second, .val (.long q1), .second, .val (.long q2), .second, .val (.long q3), .second, .val (.long q4), .second, .val (.int q5), .val (.int (3 : Int32)), .val (.int (4 : Int32)), .val (.int v75), .val (.int v77), .unset, .unset] [(.int (4 : Int32)), (.ref a79), (.ref a79)])) _
      refine XS.lload X83.here hx rfl (hb hby at_64) rfl ?_
      show Steps p.tables e below (T83.setTop (mkF m 66 #[.val (.long q0), .second, .val (.long q1), .second, .val (.long q2), .second, .val (.long q3), .second, .val (.long q4), .second, .val (.int q5), .val (.int (3 : Int32)), .val (.int (4 : Int32)), .val (.int v75), .val (.int v77), .unset, .unset] [(.long q3), (.int (4 : Int32)), (.ref a79), (.ref a79)])) _
      refine st84 _ ?_
      show Steps p.tables e below (T84.setTop (mkF m 67 #[.val (.long q0), .second, .val (.long q1), .second, .val (.long q2), .second, .val (.long q3), .second, .val (.long q4), .second, .val (.int q5), .val (.int (3 : Int32)), .val (.int (4 : Int32)), .val (.int v75), .val (.int v77), .unset, .unset] [(.ref a79)])) _
      refine XS.dup X84.here hx rfl (hb hby at_67) rfl rfl ?_
      show Steps p.tables e below (T84.setTop (mkF m 68 #[.val (.long q0), .second, .val (.long q1), .second, .val (.long q2), .second, .val (.long q3), .second, .val (.long q4), .second, .val (.int q5), .val (.int (3 : Int32)), .val (.int (4 : Int32)), .val (.int v75), .val (.int v77), .unset, .unset] [(.ref a79), (.ref a79)])) _
      refine XS.iconst X84.here hx rfl (hb hby at_68) ?_
      show Steps p.tables e below (T84.setTop (mkF m 69 #[.val (.long q0), .second, .val (.long q1), .second, .val (.long q2), .second, .val (.long q3), .second, .val (.long q4), .second, .val (.int q5), .val (.int (3 : Int32)), .val (.int (4 : Int32)), .val (.int v75), .val (.int v77), .unset, .unset] [(.int (5 : Int32)), (.ref a79), (.ref a79)])) _
      refine XS.lload X84.here hx rfl (hb hby at_69) rfl ?_
      show Steps p.tables e below (T84.setTop (mkF m 71 #[.val (.long q0), .second, .val (.long q1), .second, .val (.long q2), .second, .val (.long q3), .second, .val (.long q4), .second, .val (.int q5), .val (.int (3 : Int32)), .val (.int (4 : Int32)), .val (.int v75), .val (.int v77), .unset, .unset] [(.long q3), (.int (5 : Int32)), (.ref a79), (.ref a79)])) _
      refine st85 _ ?_
      show Steps p.tables e below (T85.setTop (mkF m 72 #[.val (.long q0), .second, .val (.long q1), .second, .val (.long q2), .second, .val (.long q3), .second, .val (.long q4), .second, .val (.int q5), .val (.int (3 : Int32)), .val (.int (4 : Int32)), .val (.int v75), .val (.int v77), .unset, .unset] [(.ref a79)])) _
      refine XS.astore X85.here hx rfl (hb hby at_72) rfl rfl (l' := #[.val (.long q0), .second, .val (.long q1), .second, .val (.long q2), .second, .val (.long q3), .second, .val (.long q4), .second, .val (.int q5), .val (.int (3 : Int32)), .val (.int (4 : Int32)), .val (.int v75), .val (.int v77), .val (.ref a79), .unset]) rfl ?_
      show Steps p.tables e below (T85.setTop (mkF m 74 #[.val (.long q0), .second, .val (.long q1), .second, .val (.long q2), .second, .val (.long q3), .second, .val (.long q4), .second, .val (.int q5), .val (.int (3 : Int32)), .val (.int (4 : Int32)), .val (.int v75), .val (.int v77), .val (.ref a79), .unset] [])) _
      refine XS.bipush X85.here hx rfl (hb hby at_74) ?_
      show Steps p.tables e below (T85.setTop (mkF m 76 #[.val (.long q0), .second, .val (.long q1), .second, .val (.long q2), .second, .val (.long q3), .second, .val (.long q4), .second, .val (.int q5), .val (.int (3 : Int32)), .val (.int (4 : Int32)), .val (.int v75), .val (.int v77), .val (.ref a79), .unset] [(.int (6 : Int32))])) _
      refine st86 _ ?_
      show Steps p.tables e below (T86.setTop (mkF m 78 #[.val (.long q0), .second, .val (.long q1), .second, .val (.long q2), .second, .val (.long q3), .second, .val (.long q4), .second, .val (.int q5), .val (.int (3 : Int32)), .val (.int (4 : Int32)), .val (.int v75), .val (.int v77), .val (.ref a79), .unset] [(.ref a86)])) _
      refine XS.dup X86.here hx rfl (hb hby at_78) rfl rfl ?_
      show Steps p.tables e below (T86.setTop (mkF m 79 #[.val (.long q0), .second, .val (.long q1), .second, .val (.long q2), .second, .val (.long q3), .second, .val (.long q4), .second, .val (.int q5), .val (.int (3 : Int32)), .val (.int (4 : Int32)), .val (.int v75), .val (.int v77), .val (.ref a79), .unset] [(.ref a86), (.ref a86)])) _
      refine XS.iconst X86.here hx rfl (hb hby at_79) ?_
      show Steps p.tables e below (T86.setTop (mkF m 80 #[.val (.long q0), .second, .val (.long q1), .second, .val (.long q2), .second, .val (.long q3), .second, .val (.long q4), .second, .val (.int q5), .val (.int (3 : Int32)), .val (.int (4 : Int32)), .val (.int v75), .val (.int v77), .val (.ref a79), .unset] [(.int (0 : Int32)), (.ref a86), (.ref a86)])) _
      refine XS.lload X86.here hx rfl (hb hby at_80) rfl ?_
      show Steps p.tables e below (T86.setTop (mkF m 82 #[.val (.long q0), .second, .val (.long q1), .second, .val (.long q2), .second, .val (.long q3), .second, .val (.long q4), .second, .val (.int q5), .val (.int (3 : Int32)), .val (.int (4 : Int32)), .val (.int v75), .val (.int v77), .val (.ref a79), .unset] [(.long q4), (.int (0 : Int32)), (.ref a86), (.ref a86)])) _
      refine st87 _ ?_
      show Steps p.tables e below (T87.setTop (mkF m 83 #[.val (.long q0), .second, .val (.long q1), .second, .val (.long q2), .second, .val (.long q3), .second, .val (.long q4), .second, .val (.int q5), .val (.int (3 : Int32)), .val (.int (4 : Int32)), .val (.int v75), .val (.int v77), .val (.ref a79), .unset] [(.ref a86)])) _
      refine XS.dup X87.here hx rfl (hb hby at_83) rfl rfl ?_
      show Steps p.tables e below (T87.setTop (mkF m 84 #[.val (.long q0), .second, .val (.long q1), .second, .val (.long q2), .second, .val (.long q3), .second, .val (.long q4), .second, .val (.int q5), .val (.int (3 : Int32)), .val (.int (4 : Int32)), .val (.int v75), .val (.int v77), .val (.ref a79), .unset] [(.ref a86), (.ref a86)])) _
      refine XS.iconst X87.here hx rfl (hb hby at_84) ?_
      show Steps p.tables e below (T87.setTop (mkF m 85 #[.val (.long q0), .second, .val (.long q1), .second, .val (.long q2), .second, .val (.long q3), .second, .val (.long q4), .second, .val (.int q5), .val (.int (3 : Int32)), .val (.int (4 : Int32)), .val (.int v75), .val (.int v77), .val (.ref a79), .unset] [(.int (1 : Int32)), (.ref a86), (.ref a86)])) _
      refine XS.lload X87.here hx rfl (hb hby at_85) rfl ?_
      show Steps p.tables e below (T87.setTop (mkF m 87 #[.val (.long q0), .second, .val (.long q1), .second, .val (.long q2), .second, .val (.long q3), .second, .val (.long q4), .second, .val (.int q5), .val (.int (3 : Int32)), .val (.int (4 : Int32)), .val (.int v75), .val (.int v77), .val (.ref a79), .unset] [(.long q4), (.int (1 : Int32)), (.ref a86), (.ref a86)])) _
      refine st88 _ ?_
      show Steps p.tables e below (T88.setTop (mkF m 88 #[.val (.long q0), .second, .val (.long q1), .second, .val (.long q2), .second, .val (.long q3), .second, .val (.long q4), .second, .val (.int q5), .val (.int (3 : Int32)), .val (.int (4 : Int32)), .val (.int v75), .val (.int v77), .val (.ref a79), .unset] [(.ref a86)])) _
      refine XS.dup X88.here hx rfl (hb hby at_88) rfl rfl ?_
      show Steps p.tables e below (T88.setTop (mkF m 89 #[.val (.long q0), .second, .val (.long q1), .second, .val (.long q2), .second, .val (.long q3), .second, .val (.long q4), .second, .val (.int q5), .val (.int (3 : Int32)), .val (.int (4 : Int32)), .val (.int v75), .val (.int v77), .val (.ref a79), .unset] [(.ref a86), (.ref a86)])) _
      refine XS.iconst X88.here hx rfl (hb hby at_89) ?_
      show Steps p.tables e below (T88.setTop (mkF m 90 #[.val (.long q0), .second, .val (.long q1), .second, .val (.long q2), .second, .val (.long q3), .second, .val (.long q4), .second, .val (.int q5), .val (.int (3 : Int32)), .val (.int (4 : Int32)), .val (.int v75), .val (.int v77), .val (.ref a79), .unset] [(.int (2 : Int32)), (.ref a86), (.ref a86)])) _
      refine XS.lload X88.here hx rfl (hb hby at_90) rfl ?_
      show Steps p.tables e below (T88.setTop (mkF m 92 #[.val (.long q0), .second, .val (.long q1), .second, .val (.long q2), .second, .val (.long q3), .second, .val (.long q4), .second, .val (.int q5), .val (.int (3 : Int32)), .val (.int (4 : Int32)), .val (.int v75), .val (.int v77), .val (.ref a79), .unset] [(.long q4), (.int (2 : Int32)), (.ref a86), (.ref a86)])) _
      refine st89 _ ?_
      show Steps p.tables e below (T89.setTop (mkF m 93 #[.val (.long q0), .second, .val (.long q1), .second, .val (.long q2), .second, .val (.long q3), .second, .val (.long q4), .second, .val (.int q5), .val (.int (3 : Int32)), .val (.int (4 : Int32)), .val (.int v75), .val (.int v77), .val (.ref a79), .unset] [(.ref a86)])) _
      refine XS.dup X89.here hx rfl (hb hby at_93) rfl rfl ?_
      show Steps p.tables e below (T89.setTop (mkF m 94 #[.val (.long q0), .second, .val (.long q1), .second, .val (.long q2), .second, .val (.long q3), .second, .val (.long q4), .second, .val (.int q5), .val (.int (3 : Int32)), .val (.int (4 : Int32)), .val (.int v75), .val (.int v77), .val (.ref a79), .unset] [(.ref a86), (.ref a86)])) _
      refine XS.iconst X89.here hx rfl (hb hby at_94) ?_
      show Steps p.tables e below (T89.setTop (mkF m 95 #[.val (.long q0), .second, .val (.long q1), .second, .val (.long q2), .second, .val (.long q3), .second, .val (.long q4), .second, .val (.int q5), .val (.int (3 : Int32)), .val (.int (4 : Int32)), .val (.int v75), .val (.int v77), .val (.ref a79), .unset] [(.int (3 : Int32)), (.ref a86), (.ref a86)])) _
      refine XS.lload X89.here hx rfl (hb hby at_95) rfl ?_
      show Steps p.tables e below (T89.setTop (mkF m 97 #[.val (.long q0), .second, .val (.long q1), .second, .val (.long q2), .second, .val (.long q3), .second, .val (.long q4), .second, .val (.int q5), .val (.int (3 : Int32)), .val (.int (4 : Int32)), .val (.int v75), .val (.int v77), .val (.ref a79), .unset] [(.long q4), (.int (3 : Int32)), (.ref a86), (.ref a86)])) _
      refine st90 _ ?_
      show Steps p.tables e below (T90.setTop (mkF m 98 #[.val (.long q0), .second, .val (.long q1), .second, .val (.long q2), .second, .val (.long q3), .second, .val (.long q4), .second, .val (.int q5), .val (.int (3 : Int32)), .val (.int (4 : Int32)), .val (.int v75), .val (.int v77), .val (.ref a79), .unset] [(.ref a86)])) _
      refine XS.dup X90.here hx rfl (hb hby at_98) rfl rfl ?_
      show Steps p.tables e below (T90.setTop (mkF m 99 #[.val (.long q0), .second, .val (.long q1), .second, .val (.long q2), .second, .val (.long q3), .second, .val (.long q4), .second, .val (.int q5), .val (.int (3 : Int32)), .val (.int (4 : Int32)), .val (.int v75), .val (.int v77), .val (.ref a79), .unset] [(.ref a86), (.ref a86)])) _
      refine XS.iconst X90.here hx rfl (hb hby at_99) ?_
      show Steps p.tables e below (T90.setTop (mkF m 100 #[.val (.long q0), .second, .val (.long q1), .second, .val (.long q2), .second, .val (.long q3), .second, .val (.long q4), .second, .val (.int q5), .val (.int (3 : Int32)), .val (.int (4 : Int32)), .val (.int v75), .val (.int v77), .val (.ref a79), .unset] [(.int (4 : Int32)), (.ref a86), (.ref a86)])) _
      refine XS.lload X90.here hx rfl (hb hby at_100) rfl ?_
      show Steps p.tables e below (T90.setTop (mkF m 102 #[.val (.long q0), .second, .val (.long q1), .second, .val (.long q2), .second, .val (.long q3), .second, .val (.long q4), .second, .val (.int q5), .val (.int (3 : Int32)), .val (.int (4 : Int32)), .val (.int v75), .val (.int v77), .val (.ref a79), .unset] [(.long q4), (.int (4 : Int32)), (.ref a86), (.ref a86)])) _
      refine st91 _ ?_
      show Steps p.tables e below (T91.setTop (mkF m 103 #[.val (.long q0), .second, .val (.long q1), .second, .val (.long q2), .second, .val (.long q3), .second, .val (.long q4), .second, .val (.int q5), .val (.int (3 : Int32)), .val (.int (4 : Int32)), .val (.int v75), .val (.int v77), .val (.ref a79), .unset] [(.ref a86)])) _
      refine XS.dup X91.here hx rfl (hb hby at_103) rfl rfl ?_
      show Steps p.tables e below (T91.setTop (mkF m 104 #[.val (.long q0), .second, .val (.long q1), .second, .val (.long q2), .second, .val (.long q3), .second, .val (.long q4), .second, .val (.int q5), .val (.int (3 : Int32)), .val (.int (4 : Int32)), .val (.int v75), .val (.int v77), .val (.ref a79), .unset] [(.ref a86), (.ref a86)])) _
      refine XS.iconst X91.here hx rfl (hb hby at_104) ?_
      show Steps p.tables e below (T91.setTop (mkF m 105 #[.val (.long q0), .second, .val (.long q1), .second, .val (.long q2), .second, .val (.long q3), .second, .val (.long q4), .second, .val (.int q5), .val (.int (3 : Int32)), .val (.int (4 : Int32)), .val (.int v75), .val (.int v77), .val (.ref a79), .unset] [(.int (5 : Int32)), (.ref a86), (.ref a86)])) _
      refine XS.lload X91.here hx rfl (hb hby at_105) rfl ?_
      show Steps p.tables e below (T91.setTop (mkF m 107 #[.val (.long q0), .second, .val (.long q1), .second, .val (.long q2), .second, .val (.long q3), .second, .val (.long q4), .second, .val (.int q5), .val (.int (3 : Int32)), .val (.int (4 : Int32)), .val (.int v75), .val (.int v77), .val (.ref a79), .unset] [(.long q4), (.int (5 : Int32)), (.ref a86), (.ref a86)])) _
      refine st92 _ ?_
      show Steps p.tables e below (T92.setTop (mkF m 108 #[.val (.long q0), .second, .val (.long q1), .second, .val (.long q2), .second, .val (.long q3), .second, .val (.long q4), .second, .val (.int q5), .val (.int (3 : Int32)), .val (.int (4 : Int32)), .val (.int v75), .val (.int v77), .val (.ref a79), .unset] [(.ref a86)])) _
      refine XS.astore X92.here hx rfl (hb hby at_108) rfl rfl (l' := #[.val (.long q0), .second, .val (.long q1), .second, .val (.long q2), .second, .val (.long q3), .second, .val (.long q4), .second, .val (.int q5), .val (.int (3 : Int32)), .val (.int (4 : Int32)), .val (.int v75), .val (.int v77), .val (.ref a79), .val (.ref a86)]) rfl ?_
      show Steps p.tables e below (T92.setTop (mkF m 110 #[.val (.long q0), .second, .val (.long q1), .second, .val (.long q2), .second, .val (.long q3), .second, .val (.long q4), .second, .val (.int q5), .val (.int (3 : Int32)), .val (.int (4 : Int32)), .val (.int v75), .val (.int v77), .val (.ref a79), .val (.ref a86)] [])) _
      refine XS.aload X92.here hx rfl (hb hby at_110) rfl rfl ?_
      show Steps p.tables e below (T92.setTop (mkF m 112 #[.val (.long q0), .second, .val (.long q1), .second, .val (.long q2), .second, .val (.long q3), .second, .val (.long q4), .second, .val (.int q5), .val (.int (3 : Int32)), .val (.int (4 : Int32)), .val (.int v75), .val (.int v77), .val (.ref a79), .val (.ref a86)] [(.ref a79)])) _
      refine XS.iload X92.here hx rfl (hb hby at_112) rfl ?_
      show Steps p.tables e below (T92.setTop (mkF m 114 #[.val (.long q0), .second, .val (.long q1), .second, .val (.long q2), .second, .val (.long q3), .second, .val (.long q4), .second, .val (.int q5), .val (.int (3 : Int32)), .val (.int (4 : Int32)), .val (.int v75), .val (.int v77), .val (.ref a79), .val (.ref a86)] [(.int v75), (.ref a79)])) _
      refine XS.iload X92.here hx rfl (hb hby at_114) rfl ?_
      show Steps p.tables e below (T92.setTop (mkF m 116 #[.val (.long q0), .second, .val (.long q1), .second, .val (.long q2), .second, .val (.long q3), .second, .val (.long q4), .second, .val (.int q5), .val (.int (3 : Int32)), .val (.int (4 : Int32)), .val (.int v75), .val (.int v77), .val (.ref a79), .val (.ref a86)] [(.int (3 : Int32)), (.int v75), (.ref a79)])) _
      refine XS.lloadN X92.here hx rfl (hb hby at_116) rfl ?_
      show Steps p.tables e below (T92.setTop (mkF m 117 #[.val (.long q0), .second, .val (.long q1), .second, .val (.long q2), .second, .val (.long q3), .second, .val (.long q4), .second, .val (.int q5), .val (.int (3 : Int32)), .val (.int (4 : Int32)), .val (.int v75), .val (.int v77), .val (.ref a79), .val (.ref a86)] [(.long q0), (.int (3 : Int32)), (.int v75), (.ref a79)])) _
      refine XS.lloadN X92.here hx rfl (hb hby at_117) rfl ?_
      show Steps p.tables e below (T92.setTop (mkF m 118 #[.val (.long q0), .second, .val (.long q1), .second, .val (.long q2), .second, .val (.long q3), .second, .val (.long q4), .second, .val (.int q5), .val (.int (3 : Int32)), .val (.int (4 : Int32)), .val (.int v75), .val (.int v77), .val (.ref a79), .val (.ref a86)] [(.long q1), (.long q0), (.int (3 : Int32)), (.int v75), (.ref a79)])) _
      refine XS.lload X92.here hx rfl (hb hby at_118) rfl ?_
      show Steps p.tables e below (T92.setTop (mkF m 120 #[.val (.long q0), .second, .val (.long q1), .second, .val (.long q2), .second, .val (.long q3), .second, .val (.long q4), .second, .val (.int q5), .val (.int (3 : Int32)), .val (.int (4 : Int32)), .val (.int v75), .val (.int v77), .val (.ref a79), .val (.ref a86)] [(.long q2), (.long q1), (.long q0), (.int (3 : Int32)), (.int v75), (.ref a79)])) _
      refine st93 _ ?_
      show Steps p.tables e below (T93.setTop (mkF m 123 #[.val (.long q0), .second, .val (.long q1), .second, .val (.long q2), .second, .val (.long q3), .second, .val (.long q4), .second, .val (.int q5), .val (.int (3 : Int32)), .val (.int (4 : Int32)), .val (.int v75), .val (.int v77), .val (.ref a79), .val (.ref a86)] [])) _
      refine XS.aload X93.here hx rfl (hb hby at_123) rfl rfl ?_
      show Steps p.tables e below (T93.setTop (mkF m 125 #[.val (.long q0), .second, .val (.long q1), .second, .val (.long q2), .second, .val (.long q3), .second, .val (.long q4), .second, .val (.int q5), .val (.int (3 : Int32)), .val (.int (4 : Int32)), .val (.int v75), .val (.int v77), .val (.ref a79), .val (.ref a86)] [(.ref a86)])) _
      refine XS.iload X93.here hx rfl (hb hby at_125) rfl ?_
      show Steps p.tables e below (T93.setTop (mkF m 127 #[.val (.long q0), .second, .val (.long q1), .second, .val (.long q2), .second, .val (.long q3), .second, .val (.long q4), .second, .val (.int q5), .val (.int (3 : Int32)), .val (.int (4 : Int32)), .val (.int v75), .val (.int v77), .val (.ref a79), .val (.ref a86)] [(.int v77), (.ref a86)])) _
      refine XS.iload X93.here hx rfl (hb hby at_127) rfl ?_
      show Steps p.tables e below (T93.setTop (mkF m 129 #[.val (.long q0), .second, .val (.long q1), .second, .val (.long q2), .second, .val (.long q3), .second, .val (.long q4), .second, .val (.int q5), .val (.int (3 : Int32)), .val (.int (4 : Int32)), .val (.int v75), .val (.int v77), .val (.ref a79), .val (.ref a86)] [(.int (3 : Int32)), (.int v77), (.ref a86)])) _
      refine XS.lloadN X93.here hx rfl (hb hby at_129) rfl ?_
      show Steps p.tables e below (T93.setTop (mkF m 130 #[.val (.long q0), .second, .val (.long q1), .second, .val (.long q2), .second, .val (.long q3), .second, .val (.long q4), .second, .val (.int q5), .val (.int (3 : Int32)), .val (.int (4 : Int32)), .val (.int v75), .val (.int v77), .val (.ref a79), .val (.ref a86)] [(.long q0), (.int (3 : Int32)), (.int v77), (.ref a86)])) _
      refine XS.lloadN X93.here hx rfl (hb hby at_130) rfl ?_
      show Steps p.tables e below (T93.setTop (mkF m 131 #[.val (.long q0), .second, .val (.long q1), .second, .val (.long q2), .second, .val (.long q3), .second, .val (.long q4), .second, .val (.int q5), .val (.int (3 : Int32)), .val (.int (4 : Int32)), .val (.int v75), .val (.int v77), .val (.ref a79), .val (.ref a86)] [(.long q1), (.long q0), (.int (3 : Int32)), (.int v77), (.ref a86)])) _
      refine XS.lload X93.here hx rfl (hb hby at_131) rfl ?_
      show Steps p.tables e below (T93.setTop (mkF m 133 #[.val (.long q0), .second, .val (.long q1), .second, .val (.long q2), .second, .val (.long q3), .second, .val (.long q4), .second, .val (.int q5), .val (.int (3 : Int32)), .val (.int (4 : Int32)), .val (.int v75), .val (.int v77), .val (.ref a79), .val (.ref a86)] [(.long q2), (.long q1), (.long q0), (.int (3 : Int32)), (.int v77), (.ref a86)])) _
      refine st94 _ ?_
      show Steps p.tables e below (T94.setTop (mkF m 136 #[.val (.long q0), .second, .val (.long q1), .second, .val (.long q2), .second, .val (.long q3), .second, .val (.long q4), .second, .val (.int q5), .val (.int (3 : Int32)), .val (.int (4 : Int32)), .val (.int v75), .val (.int v77), .val (.ref a79), .val (.ref a86)] [])) _
      refine XS.aload X94.here hx rfl (hb hby at_136) rfl rfl ?_
      show Steps p.tables e below (T94.setTop (mkF m 138 #[.val (.long q0), .second, .val (.long q1), .second, .val (.long q2), .second, .val (.long q3), .second, .val (.long q4), .second, .val (.int q5), .val (.int (3 : Int32)), .val (.int (4 : Int32)), .val (.int v75), .val (.int v77), .val (.ref a79), .val (.ref a86)] [(.ref a79)])) _
      refine XS.iload X94.here hx rfl (hb hby at_138) rfl ?_
      show Steps p.tables e below (T94.setTop (mkF m 140 #[.val (.long q0), .second, .val (.long q1), .second, .val (.long q2), .second, .val (.long q3), .second, .val (.long q4), .second, .val (.int q5), .val (.int (3 : Int32)), .val (.int (4 : Int32)), .val (.int v75), .val (.int v77), .val (.ref a79), .val (.ref a86)] [(.int v75), (.ref a79)])) _
      refine XS.iload X94.here hx rfl (hb hby at_140) rfl ?_
      show Steps p.tables e below (T94.setTop (mkF m 142 #[.val (.long q0), .second, .val (.long q1), .second, .val (.long q2), .second, .val (.long q3), .second, .val (.long q4), .second, .val (.int q5), .val (.int (3 : Int32)), .val (.int (4 : Int32)), .val (.int v75), .val (.int v77), .val (.ref a79), .val (.ref a86)] [(.int (3 : Int32)), (.int v75), (.ref a79)])) _
      refine st95 _ ?_
      show Steps p.tables e below (T95.setTop (mkF m 145 #[.val (.long q0), .second, .val (.long q1), .second, .val (.long q2), .second, .val (.long q3), .second, .val (.long q4), .second, .val (.int q5), .val (.int (3 : Int32)), .val (.int (4 : Int32)), .val (.int v75), .val (.int v77), .val (.ref a79), .val (.ref a86)] [(.int (own_f2_3 v75 ((((([q3, q3, q3, q3, q3, q3]).set (v75).toInt.toNat q0).set ((v75 + (1 : Int32))).toInt.toNat q1).set ((v75 + (2 : Int32))).toInt.toNat q2))))])) _
      refine XS.aload X95.here hx rfl (hb hby at_145) rfl rfl ?_
      show Steps p.tables e below (T95.setTop (mkF m 147 #[.val (.long q0), .second, .val (.long q1), .second, .val (.long q2), .second, .val (.long q3), .second, .val (.long q4), .second, .val (.int q5), .val (.int (3 : Int32)), .val (.int (4 : Int32)), .val (.int v75), .val (.int v77), .val (.ref a79), .val (.ref a86)] [(.ref a86), (.int (own_f2_3 v75 ((((([q3, q3, q3, q3, q3, q3]).set (v75).toInt.toNat q0).set ((v75 + (1 : Int32))).toInt.toNat q1).set ((v75 + (2 : Int32))).toInt.toNat q2))))])) _
      refine XS.iload X95.here hx rfl (hb hby at_147) rfl ?_
      show Steps p.tables e below (T95.setTop (mkF m 149 #[.val (.long q0), .second, .val (.long q1), .second, .val (.long q2), .second, .val (.long q3), .second, .val (.long q4), .second, .val (.int q5), .val (.int (3 : Int32)), .val (.int (4 : Int32)), .val (.int v75), .val (.int v77), .val (.ref a79), .val (.ref a86)] [(.int v77), (.ref a86), (.int (own_f2_3 v75 ((((([q3, q3, q3, q3, q3, q3]).set (v75).toInt.toNat q0).set ((v75 + (1 : Int32))).toInt.toNat q1).set ((v75 + (2 : Int32))).toInt.toNat q2))))])) _
      refine XS.iload X95.here hx rfl (hb hby at_149) rfl ?_
      show Steps p.tables e below (T95.setTop (mkF m 151 #[.val (.long q0), .second, .val (.long q1), .second, .val (.long q2), .second, .val (.long q3), .second, .val (.long q4), .second, .val (.int q5), .val (.int (3 : Int32)), .val (.int (4 : Int32)), .val (.int v75), .val (.int v77), .val (.ref a79), .val (.ref a86)] [(.int (3 : Int32)), (.int v77), (.ref a86), (.int (own_f2_3 v75 ((((([q3, q3, q3, q3, q3, q3]).set (v75).toInt.toNat q0).set ((v75 + (1 : Int32))).toInt.toNat q1).set ((v75 + (2 : Int32))).toInt.toNat q2))))])) _
      refine st96 _ ?_
      exact k
    by_cases c98 : (own_f2_3 v75 ((((([q3, q3, q3, q3, q3, q3]).set (v75).toInt.toNat q0).set ((v75 + (1 : Int32))).toInt.toNat q1).set ((v75 + (2 : Int32))).toInt.toNat q2))) = (own_f2_3 v77 ((((([q4, q4, q4, q4, q4, q4]).set (v77).toInt.toNat q0).set ((v77 + (1 : Int32))).toInt.toNat q1).set ((v77 + (2 : Int32))).toInt.toNat q2)))
    · obtain ⟨fs, hr, hrun, hended, hW, hsame⟩ := X96.leave (v := some (.int (1 : Int32))) (fun h => by rw [Bd.returns] at h; cases h) hlk
      refine ⟨_, _, pre97 _ ?_, hrun, hended, _, _, rfl, ?_, ⟨_, rfl⟩, hW, hsame.mono (by decide) (by decide)⟩
      · show Steps p.tables e below (T96.setTop (mkF m 154 #[.val (.long q0), .second, .val (.long q1), .second, .val (.long q2), .second, .val (.long q3), .second, .val (.long q4), .second, .val (.int q5), .val (.int (3 : Int32)), .val (.int (4 : Int32)), .val (.int v75), .val (.int v77), .val (.ref a79), .val (.ref a86)] [(.int (own_f2_3 v77 ((((([q4, q4, q4, q4, q4, q4]).set (v77).toInt.toNat q0).set ((v77 + (1 : Int32))).toInt.toNat q1).set ((v77 + (2 : Int32))).toInt.toNat q2)))), (.int (own_f2_3 v75 ((((([q3, q3, q3, q3, q3, q3]).set (v75).toInt.toNat q0).set ((v75 + (1 : Int32))).toInt.toNat q1).set ((v75 + (2 : Int32))).toInt.toNat q2))))])) _
        refine XS.icmpNo X96.here hx rfl (hb hby at_154) rfl ((teq c98).2) ?_
        show Steps p.tables e below (T96.setTop (mkF m 157 #[.val (.long q0), .second, .val (.long q1), .second, .val (.long q2), .second, .val (.long q3), .second, .val (.long q4), .second, .val (.int q5), .val (.int (3 : Int32)), .val (.int (4 : Int32)), .val (.int v75), .val (.int v77), .val (.ref a79), .val (.ref a86)] [])) _
        refine XS.iconst X96.here hx rfl (hb hby at_157) ?_
        show Steps p.tables e below (T96.setTop (mkF m 158 #[.val (.long q0), .second, .val (.long q1), .second, .val (.long q2), .second, .val (.long q3), .second, .val (.long q4), .second, .val (.int q5), .val (.int (3 : Int32)), .val (.int (4 : Int32)), .val (.int v75), .val (.int v77), .val (.ref a79), .val (.ref a86)] [(.int (1 : Int32))])) _
        refine XS.goto X96.here hx rfl (pc0 := 158) (pc' := 162) rfl (hb hby at_158) (by decide) (by decide) ?_
        show Steps p.tables e below (T96.setTop (mkF m 162 #[.val (.long q0), .second, .val (.long q1), .second, .val (.long q2), .second, .val (.long q3), .second, .val (.long q4), .second, .val (.int q5), .val (.int (3 : Int32)), .val (.int (4 : Int32)), .val (.int v75), .val (.int v77), .val (.ref a79), .val (.ref a86)] [(.int (1 : Int32))])) _
        exact retN X96 hx (t := .boolean) Bd.returns (by simp) (hb hby at_162) hr
      · show Q0 Z q0 q1 q2 q3 q4 q5 h0 n0 _ T96.heap _
        rw [e96]
        exact ⟨by have w_hv77 := hv77.symm; subst w_hv77; have w_hv75 := hv75.symm; subst w_hv75; simp only [own_f0, ← hv1, if_neg (by decide : ¬ ((3 : Int32) = (0 : Int32))), if_neg (by decide : ¬ ((3 : Int32) = (1 : Int32))), if_neg (by decide : ¬ ((3 : Int32) = (2 : Int32))), if_pos c98, if_true, if_false], N96⟩
    · obtain ⟨fs, hr, hrun, hended, hW, hsame⟩ := X96.leave (v := some (.int (0 : Int32))) (fun h => by rw [Bd.returns] at h; cases h) hlk
      refine ⟨_, _, pre97 _ ?_, hrun, hended, _, _, rfl, ?_, ⟨_, rfl⟩, hW, hsame.mono (by decide) (by decide)⟩
      · show Steps p.tables e below (T96.setTop (mkF m 154 #[.val (.long q0), .second, .val (.long q1), .second, .val (.long q2), .second, .val (.long q3), .second, .val (.long q4), .second, .val (.int q5), .val (.int (3 : Int32)), .val (.int (4 : Int32)), .val (.int v75), .val (.int v77), .val (.ref a79), .val (.ref a86)] [(.int (own_f2_3 v77 ((((([q4, q4, q4, q4, q4, q4]).set (v77).toInt.toNat q0).set ((v77 + (1 : Int32))).toInt.toNat q1).set ((v77 + (2 : Int32))).toInt.toNat q2)))), (.int (own_f2_3 v75 ((((([q3, q3, q3, q3, q3, q3]).set (v75).toInt.toNat q0).set ((v75 + (1 : Int32))).toInt.toNat q1).set ((v75 + (2 : Int32))).toInt.toNat q2))))])) _
        refine XS.icmpYes X96.here hx rfl (pc0 := 154) (pc' := 161) rfl (hb hby at_154) rfl ((feq c98).2) (by decide) (by decide) ?_
        show Steps p.tables e below (T96.setTop (mkF m 161 #[.val (.long q0), .second, .val (.long q1), .second, .val (.long q2), .second, .val (.long q3), .second, .val (.long q4), .second, .val (.int q5), .val (.int (3 : Int32)), .val (.int (4 : Int32)), .val (.int v75), .val (.int v77), .val (.ref a79), .val (.ref a86)] [])) _
        refine XS.iconst X96.here hx rfl (hb hby at_161) ?_
        show Steps p.tables e below (T96.setTop (mkF m 162 #[.val (.long q0), .second, .val (.long q1), .second, .val (.long q2), .second, .val (.long q3), .second, .val (.long q4), .second, .val (.int q5), .val (.int (3 : Int32)), .val (.int (4 : Int32)), .val (.int v75), .val (.int v77), .val (.ref a79), .val (.ref a86)] [(.int (0 : Int32))])) _
        exact retN X96 hx (t := .boolean) Bd.returns (by simp) (hb hby at_162) hr
      · show Q0 Z q0 q1 q2 q3 q4 q5 h0 n0 _ T96.heap _
        rw [e96]
        exact ⟨by have w_hv77 := hv77.symm; subst w_hv77; have w_hv75 := hv75.symm; subst w_hv75; simp only [own_f0, ← hv1, if_neg (by decide : ¬ ((3 : Int32) = (0 : Int32))), if_neg (by decide : ¬ ((3 : Int32) = (1 : Int32))), if_neg (by decide : ¬ ((3 : Int32) = (2 : Int32))), if_neg c98, if_true, if_false], N96⟩

theorem own_h1 (q : Int32) (xs : List Int64) (x : Int64) (hq : 0 ≤ q.toInt ∧ q.toInt + 1 ≤ (6 : Nat)) (hl : xs.length = 6) : own_f2_1 q (xs.set q.toInt.toNat x) = own_f2_1 0 [x] := by
  rw [own_f2_1, own_gs1 _ _ _ _ (by omega)]; rfl
theorem own_h2 (q : Int32) (xs : List Int64) (x y : Int64) (hq : 0 ≤ q.toInt ∧ q.toInt + 2 ≤ (6 : Nat)) (hl : xs.length = 6) : own_f2_2 q ((xs.set q.toInt.toNat x).set (q + 1).toInt.toNat y) = own_f2_2 0 [x, y] := by
  have s := own_hs hq (by decide) (by decide)
  rw [own_f2_2, own_gs2 _ _ _ _ _ (by omega), own_gs1 _ _ _ _ (by omega), own_gs1 _ _ _ _ (by rw [List.length_set]; omega)]; rfl
theorem own_h3 (q : Int32) (xs : List Int64) (x y z : Int64) (hq : 0 ≤ q.toInt ∧ q.toInt + 3 ≤ (6 : Nat)) (hl : xs.length = 6) : own_f2_3 q (((xs.set q.toInt.toNat x).set (q + 1).toInt.toNat y).set (q + 2).toInt.toNat z) = own_f2_3 0 [x, y, z] := by
  have s := own_hs hq (by decide) (by decide)
  have e : (q + 1 + 1).toInt.toNat = (q + 2).toInt.toNat := by omega
  rw [own_f2_3, e, own_gs2 _ _ _ _ _ (by omega), own_gs2 _ _ _ _ _ (by omega), own_gs1 _ _ _ _ (by omega), own_gs2 _ _ _ _ _ (by omega), own_gs1 _ _ _ _ (by rw [List.length_set]; omega), own_gs1 _ _ _ _ (by rw [List.length_set, List.length_set]; omega)]; rfl
theorem own_plain (q0 q1 q2 q3 q4 : Int64) (q5 : Int32) : own_f0 q0 q1 q2 q3 q4 q5 = 1 := by
  simp only [own_f0]
  split
  · exact if_pos rfl
  · split
    · rw [own_h1 _ _ _ (own_off (len := 1) (L := 6) rfl (k := 6) (by decide) (by decide)) rfl, own_h1 _ _ _ (own_off (len := 1) (L := 6) rfl (k := 6) (by decide) (by decide)) rfl, if_pos rfl]
    · split
      · rw [own_h2 _ _ _ _ (own_off (len := 2) (L := 6) rfl (k := 5) (by decide) (by decide)) rfl, own_h2 _ _ _ _ (own_off (len := 2) (L := 6) rfl (k := 5) (by decide) (by decide)) rfl, if_pos rfl]
      · rw [own_h3 _ _ _ _ _ (own_off (len := 3) (L := 6) rfl (k := 4) (by decide) (by decide)) rfl, own_h3 _ _ _ _ _ (own_off (len := 3) (L := 6) rfl (k := 4) (by decide) (by decide)) rfl, if_pos rfl]

set_option maxRecDepth 65536 in
set_option maxHeartbeats 40000000 in
theorem comes_1 {Post : Tables → Env → Array Value → State → Outcome → State → Prop} (hpost : ∀ tb e args s v u, (limb_1_1.after args s (.returned v) u = true ∧ limb_1_2.after args s (.returned v) u = true ∧ True) → FrameEnd s (.returned v) u (Jvm.fieldLocs frame_1_writes args s ++ Jvm.arrayLocs frame_1_arrays args s ++ Jvm.staticLocs frame_1_statics s) 16 128 → Post tb e args s (.returned v) u) :
    ArmFor flags0 classFile x code maxLocals ret World_1 tables_1 room_1 Calls_1 rest_1 Pre_1 Post := by
  intro l hfl _ _ p e ha hc hk s m args below hf hA hF happ hP
  obtain ⟨hcalls, hrest, hpre⟩ := hP
  obtain ⟨-, -, -, hnamed, -, -, -, hat⟩ := (Spec.applies_iff hf).mp happ
  obtain ⟨hg, hn⟩ := and_e (Cond.before_iff.mp (show (Jvm.Cond.and given_1 narrow_1).before args s = true from hpre))
  obtain ⟨gc, gr0⟩ := and_e hg
  obtain ⟨w0, w1, w2, w3, w4, w5, rfl⟩ : ∃ w0 w1 w2 w3 w4 w5 : Value, args = #[w0, w1, w2, w3, w4, w5] := by
    have hs : args.size = 6 := by simpa [Cond.value, given_1] using gc
    obtain ⟨L⟩ := args
    match L, hs with
    | [w0, w1, w2, w3, w4, w5], _ => exact ⟨w0, w1, w2, w3, w4, w5, rfl⟩
  have hw := fun d (hd : d ∈ tables_1) => atoms_spec (ws := Jvm.Cond.code x code maxLocals ret :: tables_1) hat d (List.mem_cons_of_mem _ hd)
  obtain ⟨g0, gr1⟩ := and_e gr0
  obtain ⟨i0, ei0⟩ := isL_v g0
  obtain rfl : w0 = (.long i0) := Option.some.inj ei0
  obtain ⟨g1, gr2⟩ := and_e gr1
  obtain ⟨i1, ei1⟩ := isL_v g1
  obtain rfl : w1 = (.long i1) := Option.some.inj ei1
  obtain ⟨g2, gr3⟩ := and_e gr2
  obtain ⟨i2, ei2⟩ := isL_v g2
  obtain rfl : w2 = (.long i2) := Option.some.inj ei2
  obtain ⟨g3, gr4⟩ := and_e gr3
  obtain ⟨i3, ei3⟩ := isL_v g3
  obtain rfl : w3 = (.long i3) := Option.some.inj ei3
  obtain ⟨g4, gr5⟩ := and_e gr4
  obtain ⟨i4, ei4⟩ := isL_v g4
  obtain rfl : w4 = (.long i4) := Option.some.inj ei4
  obtain ⟨i5, ei5⟩ := is_v gr5
  obtain rfl : w5 = (.int i5) := Option.some.inj ei5
  obtain ⟨n, o, h1, h2, h3, _, L, rfl, ⟨hv, N⟩, hq⟩ := rm0 l s _ hw tables_1 i0 i1 i2 i3 i4 i5 s.heap s.heap.size (Nat.le_refl _) p e ha hc hk s m _ below hf ((Spec.applies_iff_loose hf).mp happ).1 ⟨rfl, State.Warmed39.refl s, rfl⟩ trivial
  rw [own_plain] at hv
  subst hv
  refine ⟨n, _, h1, h2, h3, hpost _ _ _ _ _ _ ⟨Cond.after_iff.mpr rfl, Cond.after_iff.mpr (eq_i res_at (Term.int_eval (1)) rfl), trivial⟩ ⟨hq.1, hq.2.1, (hq.2.2.sift fun y hy => Or.inr (N y hy)).mono (by decide) (by decide)⟩⟩
theorem main_1_1 : Claimed_1_1 := comes_1 fun _ _ _ _ _ _ h hF => ⟨h.1, hF⟩
theorem main_1_2 : Claimed_1_2 := comes_1 fun _ _ _ _ _ _ h hF => ⟨h.2.1, hF⟩
end Jvm.Pilot.@@N@@
namespace Jvm.Pilot.@@N@@
open Jvm Jvm.ClassFile Sem Op Lib Jvm.Free Jvm.Stand Jvm.Pilot.@@N@@.Jvm.D
/-! MADE BY PROGRAM (witnessworld.py) out of the Statement's table words and the real class files: 11 classes; the members and pool entries that the words name. The judged class is class 1, her method 1. -/
namespace start1
open Jvm.ClassFile
def u (s : String) : CpInfo := .utf8 (stringToUtf16 s)
/-- a pool by its gaps: so many unusable entries, then the entry; so many at the end -/
def gap : Nat → List CpInfo → List CpInfo
  | 0, r => r
  | n + 1, r => .unusable :: gap n r
def poolList (es : List (Nat × CpInfo)) (last : Nat) : List CpInfo := es.foldr (fun e r => gap e.1 (e.2 :: r)) (gap last [])
def pool (es : List (Nat × CpInfo)) (last : Nat) : Array CpInfo := ⟨poolList es last⟩
def fileOf (pool : Array CpInfo) (this : Nat) (attrs : Array Attribute := #[]) (ms : Array MethodInfo := #[]) (fl : Nat := 33) (sup : Nat := 0) (ifs : Array Nat := #[]) (fds : Array FieldInfo := #[]) : ClassFile where
  minorVersion := 0
  majorVersion := 65
  constantPool := pool
  accessFlags := fl
  thisClass := this
  superClass := sup
  interfaces := ifs
  fields := fds
  methods := ms
  attributes := attrs
def plain (name : String) (sup : Option ClassId) : Class where
  name := name
  kind := .ordinary
  loader := none
  accessFlags := 33
  super := sup
  interfaces := #[]
  cf := none
  fields := #[]
  methods := #[]
  instanceTypes := #[]
  staticTypes := #[]
  resolved := #[]
  callSites := []
  init := .initialized
  statics := none
  mirror := none

def pool0 : Array CpInfo := pool [(5, u "<init>"), (0, u "()V"), (1, .class_ 10), (1, u "java/lang/Object")] 113

def k0m0 : Method := { name := "<init>", desc := "()V", sig := { parameters := [], returnType := none }, accessFlags := 1, code := none }
/-- java/lang/Object -/
def k0 : Class := { plain "java/lang/Object" none with
  accessFlags := 33
  interfaces := #[]
  cf := some (fileOf pool0 8 #[] #[{ accessFlags := 1, nameIndex := 5, descriptorIndex := 6, attributes := #[] }] 33 0 #[] #[])
  fields := #[]
  methods := #[k0m0]
  instanceTypes := #[]
  staticTypes := #[]
  resolved := Array.replicate 124 none
  statics := none }

def pool1 : Array CpInfo := pool [(2, .class_ 4), (1, u "java/lang/Object"), (0, u "<init>"), (0, u "()V"), (0, .integer 2147483647), (0, .methodref 9 10), (0, .class_ 11), (0, .nameAndType 12 13), (0, u "com/example/cubeshare/cubeshare/model/TuplesHashPinLaw"), (0, u "put"), (0, u "([JIIJJJ)V"), (0, .methodref 15 16), (0, .class_ 17), (0, .nameAndType 18 19), (0, u "com/example/cubeshare/cubeshare/model/Tuples"), (0, u "hash"), (0, u "([JII)I"), (2, u "law"), (0, u "(JJJJJI)Z")] 5

def k1m0 : Method := { name := "<init>", desc := "()V", sig := { parameters := [], returnType := none }, accessFlags := 1, code := none }
def k1c1 : Code := { maxStack := 9, maxLocals := 17, code := code, exceptionTable := #[], attributes := #[] }
def k1m1 : Method := { name := "law", desc := "(JJJJJI)Z", sig := { parameters := [.long, .long, .long, .long, .long, .int], returnType := some .boolean }, accessFlags := 9, code := some k1c1 }
def k1c2 : Code := { maxStack := 4, maxLocals := 9, code := method_3_code, exceptionTable := #[], attributes := #[] }
def k1m2 : Method := { name := "put", desc := "([JIIJJJ)V", sig := { parameters := [(.array .long), .int, .int, .long, .long, .long], returnType := none }, accessFlags := 10, code := some k1c2 }
/-- com/example/cubeshare/cubeshare/model/TuplesHashPinLaw -/
def k1 : Class := { plain "com/example/cubeshare/cubeshare/model/TuplesHashPinLaw" (some 0) with
  accessFlags := 49
  interfaces := #[]
  cf := some (fileOf pool1 9 #[] #[{ accessFlags := 1, nameIndex := 5, descriptorIndex := 6, attributes := #[] }, { accessFlags := 9, nameIndex := 22, descriptorIndex := 23, attributes := #[] }, { accessFlags := 10, nameIndex := 12, descriptorIndex := 13, attributes := #[] }] 49 2 #[] #[])
  fields := #[]
  methods := #[k1m0, k1m1, k1m2]
  instanceTypes := #[]
  staticTypes := #[]
  resolved := Array.replicate 29 none
  statics := none }

def pool2 : Array CpInfo := pool [(2, .class_ 4), (1, u "java/lang/Object"), (0, u "<init>"), (0, u "()V"), (0, .long 13787848793156543929), (1, .long 10723151780598845931), (1, .class_ 12), (0, u "com/example/cubeshare/cubeshare/model/Tuples"), (2, u "hash"), (0, u "([JII)I")] 3

def k2m0 : Method := { name := "<init>", desc := "()V", sig := { parameters := [], returnType := none }, accessFlags := 2, code := none }
def k2c1 : Code := { maxStack := 5, maxLocals := 6, code := prog_93_method_2_code, exceptionTable := #[], attributes := #[] }
def k2m1 : Method := { name := "hash", desc := "([JII)I", sig := { parameters := [(.array .long), .int, .int], returnType := some .int }, accessFlags := 9, code := some k2c1 }
/-- com/example/cubeshare/cubeshare/model/Tuples -/
def k2 : Class := { plain "com/example/cubeshare/cubeshare/model/Tuples" (some 0) with
  accessFlags := 49
  interfaces := #[]
  cf := some (fileOf pool2 11 #[] #[{ accessFlags := 2, nameIndex := 5, descriptorIndex := 6, attributes := #[] }, { accessFlags := 9, nameIndex := 15, descriptorIndex := 16, attributes := #[] }] 49 2 #[] #[])
  fields := #[]
  methods := #[k2m0, k2m1]
  instanceTypes := #[]
  staticTypes := #[]
  resolved := Array.replicate 20 none
  statics := none }

def pool3 : Array CpInfo := pool [(1, u "java/lang/Cloneable"), (0, .class_ 1), (0, u "java/lang/Object"), (0, .class_ 3)] 3

/-- java/lang/Cloneable -/
def k3 : Class := { plain "java/lang/Cloneable" (some 0) with
  accessFlags := 1537
  interfaces := #[]
  cf := some (fileOf pool3 2 #[] #[] 1537 4 #[] #[])
  fields := #[]
  methods := #[]
  instanceTypes := #[]
  staticTypes := #[]
  resolved := Array.replicate 8 none
  statics := none }

def pool4 : Array CpInfo := pool [(1, u "java/io/Serializable"), (0, .class_ 1), (0, u "java/lang/Object"), (0, .class_ 3)] 3

/-- java/io/Serializable -/
def k4 : Class := { plain "java/io/Serializable" (some 0) with
  accessFlags := 1537
  interfaces := #[]
  cf := some (fileOf pool4 2 #[] #[] 1537 4 #[] #[])
  fields := #[]
  methods := #[]
  instanceTypes := #[]
  staticTypes := #[]
  resolved := Array.replicate 8 none
  statics := none }

/-- the primitive byte -/
def k5 : Class := { plain "byte" none with kind := .primitive 'B', accessFlags := 0x411 }
/-- [B -/
def k6 : Class := { plain "[B" (some 0) with kind := .array 5 .byte, interfaces := #[3, 4], accessFlags := 1041 }

/-- the primitive int -/
def k7 : Class := { plain "int" none with kind := .primitive 'I', accessFlags := 0x411 }
/-- [I -/
def k8 : Class := { plain "[I" (some 0) with kind := .array 7 .int, interfaces := #[3, 4], accessFlags := 1041 }

/-- the primitive long -/
def k9 : Class := { plain "long" none with kind := .primitive 'J', accessFlags := 0x411 }
/-- [J -/
def k10 : Class := { plain "[J" (some 0) with kind := .array 9 .long, interfaces := #[3, 4], accessFlags := 1041 }

def heap : Heap := #[]
def classes : Array Class := #[k0, k1, k2, k3, k4, k5, k6, k7, k8, k9, k10]
def interned : List (Array UInt16 × Addr) := []
def slotsUsed : Nat := 0
def theMethod : MethodId := ⟨1, 1⟩
def args0 : Array Value := #[.long 5, .long 6, .long 7, .long 8, .long 9, .int 7]
def aboutOver (below : List Frame) : State where
  vm := { classes := classes, interned := interned.toArray }
  heap := heap
  slotsUsed := slotsUsed
  threads := #[{ frames := .invoking theMethod args0 :: below }]
def below0 : List Frame := [.native { method := ⟨0, 0⟩, args := #[] }]
def about1 : State := aboutOver below0
def p0 : Program := .bare "" "" ""
def e0 : Env := launch0.env 0 0 0
theorem w_frames : about1.frames = Frame.invoking theMethod args0 :: below0 := rfl
set_option maxRecDepth 65536 in
theorem w_args : argsFit about1.vm theMethod args0 = true := by decide +kernel
set_option maxRecDepth 65536 in
theorem w_heap : heapFits about1 = true := by decide +kernel
set_option maxRecDepth 65536 in
theorem w_runnable : about1.curStatus? = some .runnable := by decide +kernel
set_option maxRecDepth 65536 in
theorem w_alone : about1.alone = true := by decide +kernel
set_option maxRecDepth 65536 in
theorem w_named : about1.methodNamed? x = some theMethod := by decide +kernel
set_option maxRecDepth 65536 in
theorem w_hears : about1.hears theMethod below0 = true := by decide +kernel
set_option maxRecDepth 65536 in
theorem w_ripe : about1.ripe theMethod args0 below0 = true := by decide +kernel
theorem w_running : about1.status = .running := rfl
set_option maxRecDepth 65536 in
theorem w_room : about1.hasRoom e0.platform room_1 = true :=
  launch0.hasRoom_least _ room_1 (by decide +kernel) (by decide +kernel) (by decide +kernel) (by decide +kernel) (by decide +kernel) (by decide +kernel)
theorem allAtoms_all (ts : List Jvm.Cond) (a : Array Jvm.Value) (st : Jvm.State) : (allAtoms ts).before a st = ts.all (fun c => c.before a st) := by
  induction ts with
  | nil => rfl
  | cons c t ih =>
    show (Jvm.Cond.and c (allAtoms t)).before a st = _
    rw [Jvm.Cond.before_and, ih, List.all_cons]
def words1 : List Jvm.Cond := Jvm.Cond.code x code maxLocals ret :: tables_1
/-- a 'code' word, met by the world's own term for the bytes: nothing is compared byte by byte -/
theorem code_word {y : MethodName} {bytes : ByteArray} {mx : Nat} {rt : Option FieldType} {a : Array Value} {s : State} {m : MethodId} {meth : Method} {c : Code} (h1 : s.methodNamed? y = some m) (h2 : s.vm.method? m = some meth) (h3 : meth.code = some c) (h4 : c.code = bytes)
    (h5 : (c.maxLocals == mx && c.exceptionTable.isEmpty && decide (c.maxStack ≤ mostOperands) && decide (meth.sig.returnType = rt) && !meth.locks && decide (parseMethodDescriptor y.desc = some meth.sig)) = true) : (Jvm.Cond.code y bytes mx rt).before a s = true := by
  simp only [Bool.and_eq_true, beq_iff_eq, Bool.not_eq_true', decide_eq_true_eq] at h5
  obtain ⟨⟨⟨⟨⟨g1, g2⟩, g3⟩, g4⟩, g5⟩, g6⟩ := h5
  simp [Cond.before, Cond.holds, Cond.value, h1, h2, h3, h4, g1, g2, g3, g4, g5, g6]
def isCode : Jvm.Cond → Bool
  | .code _ _ _ _ => true
  | _ => false
theorem all_split {L : List Jvm.Cond} {P : Jvm.Cond → Bool} (h1 : L.all (fun c => isCode c || P c) = true) (h2 : ∀ c ∈ L.filter isCode, P c = true) : L.all P = true := by
  refine List.all_eq_true.mpr fun c hc => ?_
  have h := List.all_eq_true.mp h1 c hc
  rcases Bool.eq_false_or_eq_true (isCode c) with hi | hi
  · exact h2 c (List.mem_filter.mpr ⟨hc, hi⟩)
  · simpa [hi] using h
set_option maxRecDepth 65536 in
theorem w_c0 : (Jvm.Cond.code x code maxLocals ret).before args0 about1 = true := code_word (m := ⟨1, 1⟩) (meth := k1m1) (c := k1c1) (by decide +kernel) rfl rfl rfl (by decide +kernel)
set_option maxRecDepth 65536 in
theorem w_c1 : (Jvm.Cond.code ({ cls := "com/example/cubeshare/cubeshare/model/TuplesHashPinLaw", name := "put", desc := "([JIIJJJ)V" } : Jvm.MethodName) method_3_code (9 : Nat) (Option.none : Option Jvm.ClassFile.FieldType)).before args0 about1 = true := code_word (m := ⟨1, 2⟩) (meth := k1m2) (c := k1c2) (by decide +kernel) rfl rfl rfl (by decide +kernel)
set_option maxRecDepth 65536 in
theorem w_c2 : (Jvm.Cond.code ({ cls := "com/example/cubeshare/cubeshare/model/Tuples", name := "hash", desc := "([JII)I" } : Jvm.MethodName) prog_93_method_2_code (6 : Nat) (Option.some Jvm.ClassFile.FieldType.int)).before args0 about1 = true := code_word (m := ⟨2, 1⟩) (meth := k2m1) (c := k2c1) (by decide +kernel) rfl rfl rfl (by decide +kernel)
def codes1 : List Jvm.Cond := [Jvm.Cond.code x code maxLocals ret, Jvm.Cond.code ({ cls := "com/example/cubeshare/cubeshare/model/TuplesHashPinLaw", name := "put", desc := "([JIIJJJ)V" } : Jvm.MethodName) method_3_code (9 : Nat) (Option.none : Option Jvm.ClassFile.FieldType), Jvm.Cond.code ({ cls := "com/example/cubeshare/cubeshare/model/Tuples", name := "hash", desc := "([JII)I" } : Jvm.MethodName) prog_93_method_2_code (6 : Nat) (Option.some Jvm.ClassFile.FieldType.int)]
set_option maxRecDepth 65536 in
theorem codes_eq : words1.filter isCode = codes1 := rfl
theorem w_codes : ∀ c ∈ words1.filter isCode, c.before args0 about1 = true := by
  rw [codes_eq]
  intro c hc
  simp only [codes1, List.mem_cons, List.not_mem_nil, or_false] at hc
  rcases hc with rfl | rfl | rfl
  · exact w_c0
  · exact w_c1
  · exact w_c2
set_option maxRecDepth 65536 in
theorem w_t1 : words1.all (fun c => isCode c || c.before args0 about1) = true := by decide +kernel
theorem w_tables : (allAtoms (Jvm.Cond.code x code maxLocals ret :: tables_1)).before args0 about1 = true := by
  rw [allAtoms_all]
  show words1.all (fun c => c.before args0 about1) = true
  refine all_split ?_ w_codes
  rw [w_t1]
set_option maxRecDepth 65536 in
theorem w_case : (Jvm.Cond.and given_1 narrow_1).before args0 about1 = true := by decide +kernel
theorem w_applies : (headSpec (Jvm.Cond.code x code maxLocals ret :: tables_1) room_1).applies x e0.platform about1 = true :=
  (Spec.applies_iff w_frames).mpr ⟨w_running, w_runnable, w_alone, w_named, w_hears, w_ripe, w_room, w_tables⟩
theorem atStart : AtStart classFile x code maxLocals ret World_1 tables_1 room_1 Calls_1 rest_1 Pre_1 launch0 p0 e0 about1 theMethod args0 below0 :=
  ⟨lists_1, trivial, launch0.admits_env _ _ _, launch0.least_env, fairChoices_fair.cas, fairChoices_fair.clock, w_frames, w_args, w_heap, w_applies, trivial, trivial, w_case⟩
end start1
theorem witness_1 : WitnessClaimed_1 := ⟨start1.p0, start1.e0, start1.about1, start1.theMethod, start1.args0, start1.below0, start1.atStart⟩
end Jvm.Pilot.@@N@@
