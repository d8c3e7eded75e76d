import JvmDerived
import JvmDerived.Pilot.@@N@@Statement
import JvmDerived.Pilot.@@N@@Code
set_option linter.unusedVariables false
set_option linter.unusedSimpArgs false
namespace Jvm.RoadKit
open Sem ClassFile Op Lib Jvm.Stand Jvm.Free Jvm.LawKit
section New
variable {p : Program} {l : Launch} {e : Env} {R : Room} {s : State} {m : MethodId} {args : Array Value} {below : List Frame} {meth : Method} {c : Code} {T : State} {locs : List Loc} {cells slots : Nat}
theorem retI (X : Stand p l e R s m args below meth c T locs cells slots) (hx : p.tables.exec = Jvm.exec) {pc : Nat} {Ls : Array Slot} {z : Int32} {rest : List Value} (hret : meth.sig.returnType = some .int) (hd : decode c.code pc = .ok (.ireturn, 1)) {fs : List Frame}
    (hl : ∀ (f : JFrame) (acts : List Action), f.method = m → f.locked = none → f.entered = [] → (doReturn e (T.setTop f) acts (some (.int z))).1 = T.setFrames fs) : Steps p.tables e below (T.setTop (mkF m pc Ls (.int z :: rest))) (T.setFrames fs) := by
  have hm' : T.vm.method? m = some meth := X.method'
  have hn : narrow .int (.int z) = .int z := rfl
  show Steps p.tables e below (T.setTop { method := m, pc := pc, locals := Ls, stack := _ :: rest, locked := none }) _
  jvm_step X.here [X.here.top, hx, hd, hm', hret, hn]
  first | (intro acts; rw [hl _ acts rfl rfl rfl]) | rw [hl _ _ rfl rfl rfl]
  exact Steps.refl _
end New
end Jvm.RoadKit
namespace Jvm.Pilot.@@N@@
open Jvm Jvm.ClassFile Sem Op Lib Jvm.Free Jvm.Stand Jvm.LawKit Jvm.RoadKit Bundle Jvm.Pilot.@@N@@.Jvm.D
section OwnKit
variable {p : Program} {l : Launch} {e : Env} {R : Room} {s : State} {m : MethodId} {args : Array Value} {below : List Frame} {meth : Method} {c : Code} {T : State} {locs : List Loc} {cells slots : Nat} {Z : State} {h h' : Heap}
theorem own_lremM {g : JFrame} {target : State} (X : Stand p l e R s m args below meth c T locs cells slots) (hx : p.tables.exec = Jvm.exec) (hg : g.method = m) {x y : Int64} {rest : List Value} (hd : decode c.code g.pc = .ok (.lrem, 1)) (hs : g.stack = .long y :: .long x :: rest) (hy : y ≠ 0)
    (hr : Steps p.tables e below (T.setTop { g with pc := g.pc + 1, stack := .long (x % y) :: rest }) target) : Steps p.tables e below (T.setTop g) target :=
  XS.lrem X.here hx hg hd hs hy (by rw [lrem_mod]; exact hr)
/-- an array, by the list of its values -/
def own_A (Z : State) (h : Heap) (a : Addr) (ty : FieldType) (vs : List Value) : Prop := ∃ c : Cell, Arr Z h a c ty ∧ c.slots = vs.toArray
def own_AJ (Z : State) (h : Heap) (a : Addr) (xs : List Int64) : Prop := own_A Z h a .long (xs.map .long)
def own_AI (Z : State) (h : Heap) (a : Addr) (ty : FieldType) (xs : List Int32) : Prop := own_A Z h a ty (xs.map .int)
section Facts
variable {a b : Addr} {ty : FieldType} {vs : List Value} {xs : List Int64} {ys : List Int32} {sl : Nat} {v : Value} {ws : List Addr}
theorem own_A.ext (F : own_A Z h a ty vs) (E : Ext h h') : own_A Z h' a ty vs := by obtain ⟨c, A, r⟩ := F; exact ⟨c, A.ext E, r⟩
theorem own_A.other (F : own_A Z h b ty vs) (W : Wr h h' a sl v) (q : b ≠ a) : own_A Z h' b ty vs := by obtain ⟨c, A, r⟩ := F; exact ⟨c, A.other W q, r⟩
theorem own_A.keep (F : own_A Z h a ty vs) (K : Keep h h' ws) (q : a ∉ ws) : own_A Z h' a ty vs := by obtain ⟨c, A, r⟩ := F; exact ⟨c, ⟨K.2.1 a c A.1 q, A.2⟩, r⟩
theorem own_A.lt (F : own_A Z h a ty vs) : a < h.size := by obtain ⟨c, A, -⟩ := F; exact A.lt
theorem own_AJ.ext (F : own_AJ Z h a xs) (E : Ext h h') : own_AJ Z h' a xs := own_A.ext F E
theorem own_AJ.other (F : own_AJ Z h b xs) (W : Wr h h' a sl v) (q : b ≠ a) : own_AJ Z h' b xs := own_A.other F W q
theorem own_AJ.keep (F : own_AJ Z h a xs) (K : Keep h h' ws) (q : a ∉ ws) : own_AJ Z h' a xs := own_A.keep F K q
theorem own_AJ.lt (F : own_AJ Z h a xs) : a < h.size := own_A.lt F
theorem own_AI.ext (F : own_AI Z h a ty ys) (E : Ext h h') : own_AI Z h' a ty ys := own_A.ext F E
theorem own_AI.other (F : own_AI Z h b ty ys) (W : Wr h h' a sl v) (q : b ≠ a) : own_AI Z h' b ty ys := own_A.other F W q
theorem own_AI.keep (F : own_AI Z h a ty ys) (K : Keep h h' ws) (q : a ∉ ws) : own_AI Z h' a ty ys := own_A.keep F K q
theorem own_AI.lt (F : own_AI Z h a ty ys) : a < h.size := own_A.lt F
theorem own_A.set (F : own_A Z h a ty vs) {k : Nat} (W : Wr h h' a k v) : own_A Z h' a ty (vs.set k v) := by
  obtain ⟨c, A, r⟩ := F
  refine ⟨c.setSlot k v, A.same W, ?_⟩
  simp [Cell.setSlot, r]
theorem own_A_new {cA : ClassId} {n : Int32} {k : Nat} (A : Arr Z h a (newA cA ty n) ty) (hk : n.toNatClampNeg = k) : own_A Z h a ty (List.replicate k (defaultValue ty)) := by
  subst hk
  exact ⟨_, A, by simp [newA]⟩
theorem own_AJ_new {cA : ClassId} {n : Int32} {k : Nat} (A : Arr Z h a (newA cA .long n) .long) (hk : n.toNatClampNeg = k) : own_AJ Z h a (List.replicate k 0) := by
  have q := own_A_new A hk
  rw [own_AJ, List.map_replicate]; exact q
theorem own_AIint_new {cA : ClassId} {n : Int32} {k : Nat} (A : Arr Z h a (newA cA .int n) .int) (hk : n.toNatClampNeg = k) : own_AI Z h a .int (List.replicate k 0) := by
  have q := own_A_new A hk
  rw [own_AI, List.map_replicate]; exact q
theorem own_AIbyte_new {cA : ClassId} {n : Int32} {k : Nat} (A : Arr Z h a (newA cA .byte n) .byte) (hk : n.toNatClampNeg = k) : own_AI Z h a .byte (List.replicate k 0) := by
  have q := own_A_new A hk
  rw [own_AI, List.map_replicate]; exact q
theorem own_AIboolean_new {cA : ClassId} {n : Int32} {k : Nat} (A : Arr Z h a (newA cA .boolean n) .boolean) (hk : n.toNatClampNeg = k) : own_AI Z h a .boolean (List.replicate k 0) := by
  have q := own_A_new A hk
  rw [own_AI, List.map_replicate]; exact q
theorem own_inb {cl : Cell} {j : Int32} (r : cl.slots = vs.toArray) (hj : 0 ≤ j.toInt ∧ j.toInt < (vs.length : Nat)) : ¬ (j < 0 ∨ cl.slots.size ≤ j.toNatClampNeg) ∧ j.toNatClampNeg = j.toInt.toNat := by
  have e : j.toNatClampNeg = j.toInt.toNat := rfl
  refine ⟨fun q => ?_, e⟩
  rcases q with q | q
  · rw [Int32.lt_iff_toInt_lt] at q
    have : (0 : Int32).toInt = 0 := by decide
    omega
  · rw [r, e] at q
    simp at q
    omega
end Facts
theorem own_at? {α : Type} (f : α → Value) (xs : List α) (k : Nat) (d : α) (hk : k < xs.length) : (xs.map f).toArray[k]? = some (f (xs.getD k d)) := by
  simp [List.getD, hk]
section Loads
variable {a : Addr} {xs : List Int64} {ys : List Int32} {j : Int32} {pc : Nat} {Ls : Array Slot} {rest : List Value}
theorem own_laload (X : Stand p l e R s m args below meth c T locs cells slots) (hx : p.tables.exec = Jvm.exec) (hZ : Z.Warmed39 s.vm) (eT : T.heap = h) (A : own_AJ Z h a xs) (hj : 0 ≤ j.toInt ∧ j.toInt < (xs.length : Nat)) (hd : decode c.code pc = .ok (.laload, 1)) (target : State)
    (hr : Steps p.tables e below (T.setTop (mkF m (pc + 1) Ls (.long (xs.getD j.toInt.toNat 0) :: rest))) target) : Steps p.tables e below (T.setTop (mkF m pc Ls (.int j :: .ref a :: rest))) target := by
  obtain ⟨cl, A, r⟩ := A
  obtain ⟨q1, q2⟩ := own_inb (j := j) r (by simpa using hj)
  refine X.laload hx (by rw [eT]; exact A.1) (State.isArrayOf_alike hZ.alike A.2.1) A.2.2 q1 (v := .long (xs.getD j.toInt.toNat 0)) ?_ (g := mkF m pc Ls (.int j :: .ref a :: rest)) rfl rfl hd target hr
  rw [q2, r]
  exact own_at? _ xs _ 0 (by omega)
theorem own_iaload (X : Stand p l e R s m args below meth c T locs cells slots) (hx : p.tables.exec = Jvm.exec) (hZ : Z.Warmed39 s.vm) (eT : T.heap = h) (A : own_AI Z h a .int ys) (hj : 0 ≤ j.toInt ∧ j.toInt < (ys.length : Nat)) (hd : decode c.code pc = .ok (.iaload, 1)) (target : State)
    (hr : Steps p.tables e below (T.setTop (mkF m (pc + 1) Ls (.int (ys.getD j.toInt.toNat 0) :: rest))) target) : Steps p.tables e below (T.setTop (mkF m pc Ls (.int j :: .ref a :: rest))) target := by
  obtain ⟨cl, A, r⟩ := A
  obtain ⟨q1, q2⟩ := own_inb (j := j) r (by simpa using hj)
  refine X.iaload hx (by rw [eT]; exact A.1) (State.isArrayOf_alike hZ.alike A.2.1) A.2.2 q1 (v := .int (ys.getD j.toInt.toNat 0)) ?_ (g := mkF m pc Ls (.int j :: .ref a :: rest)) rfl rfl hd target hr
  rw [q2, r]
  exact own_at? _ ys _ 0 (by omega)
theorem own_baloadB (X : Stand p l e R s m args below meth c T locs cells slots) (hx : p.tables.exec = Jvm.exec) (hZ : Z.Warmed39 s.vm) (eT : T.heap = h) (A : own_AI Z h a .byte ys) (hj : 0 ≤ j.toInt ∧ j.toInt < (ys.length : Nat)) (hd : decode c.code pc = .ok (.baload, 1)) (target : State)
    (hr : Steps p.tables e below (T.setTop (mkF m (pc + 1) Ls (.int (ys.getD j.toInt.toNat 0) :: rest))) target) : Steps p.tables e below (T.setTop (mkF m pc Ls (.int j :: .ref a :: rest))) target := by
  obtain ⟨cl, A, r⟩ := A
  obtain ⟨q1, q2⟩ := own_inb (j := j) r (by simpa using hj)
  refine X.baloadBytes hx (by rw [eT]; exact A.1) (State.isArrayOf_alike hZ.alike A.2.1) A.2.2 q1 (v := .int (ys.getD j.toInt.toNat 0)) ?_ (g := mkF m pc Ls (.int j :: .ref a :: rest)) rfl rfl hd target hr
  rw [q2, r]
  exact own_at? _ ys _ 0 (by omega)
theorem own_baloadZ (X : Stand p l e R s m args below meth c T locs cells slots) (hx : p.tables.exec = Jvm.exec) (hZ : Z.Warmed39 s.vm) (eT : T.heap = h) (A : own_AI Z h a .boolean ys) (hj : 0 ≤ j.toInt ∧ j.toInt < (ys.length : Nat)) (hd : decode c.code pc = .ok (.baload, 1)) (target : State)
    (hr : Steps p.tables e below (T.setTop (mkF m (pc + 1) Ls (.int (ys.getD j.toInt.toNat 0) :: rest))) target) : Steps p.tables e below (T.setTop (mkF m pc Ls (.int j :: .ref a :: rest))) target := by
  obtain ⟨cl, A, r⟩ := A
  obtain ⟨q1, q2⟩ := own_inb (j := j) r (by simpa using hj)
  refine X.baloadBooleans hx (by rw [eT]; exact A.1) (State.isArrayOf_alike hZ.alike A.2.1) A.2.2 q1 (v := .int (ys.getD j.toInt.toNat 0)) ?_ (g := mkF m pc Ls (.int j :: .ref a :: rest)) rfl rfl hd target hr
  rw [q2, r]
  exact own_at? _ ys _ 0 (by omega)
theorem own_alenJ (X : Stand p l e R s m args below meth c T locs cells slots) (hx : p.tables.exec = Jvm.exec) (hZ : Z.Warmed39 s.vm) (eT : T.heap = h) (A : own_AJ Z h a xs) (hd : decode c.code pc = .ok (.arraylength, 1)) (target : State)
    (hr : Steps p.tables e below (T.setTop (mkF m (pc + 1) Ls (.int xs.length.toInt32 :: rest))) target) : Steps p.tables e below (T.setTop (mkF m pc Ls (.ref a :: rest))) target := by
  obtain ⟨cl, A, r⟩ := A
  refine X.arraylength hx (by rw [eT]; exact A.1) (State.isArrayOf_alike hZ.alike A.2.1) (g := mkF m pc Ls (.ref a :: rest)) rfl rfl hd target ?_
  rw [r]
  simpa using hr
theorem own_alenI {ty : FieldType} (X : Stand p l e R s m args below meth c T locs cells slots) (hx : p.tables.exec = Jvm.exec) (hZ : Z.Warmed39 s.vm) (eT : T.heap = h) (A : own_AI Z h a ty ys) (hd : decode c.code pc = .ok (.arraylength, 1)) (target : State)
    (hr : Steps p.tables e below (T.setTop (mkF m (pc + 1) Ls (.int ys.length.toInt32 :: rest))) target) : Steps p.tables e below (T.setTop (mkF m pc Ls (.ref a :: rest))) target := by
  obtain ⟨cl, A, r⟩ := A
  refine X.arraylength hx (by rw [eT]; exact A.1) (State.isArrayOf_alike hZ.alike A.2.1) (g := mkF m pc Ls (.ref a :: rest)) rfl rfl hd target ?_
  rw [r]
  simpa using hr
theorem own_lastore (X : Stand p l e R s m args below meth c T locs cells slots) (hx : p.tables.exec = Jvm.exec) (hZ : Z.Warmed39 s.vm) (eT : T.heap = h) (A : own_AJ Z h a xs) (hj : 0 ≤ j.toInt ∧ j.toInt < (xs.length : Nat)) {x : Int64} (hd : decode c.code pc = .ok (.lastore, 1)) :
    ∃ T' h', Stand p l e R s m args below meth c T' (locs ++ [⟨a, j.toInt.toNat⟩]) cells slots ∧ T'.heap = h' ∧ Wr h h' a j.toInt.toNat (.long x) ∧ own_AJ Z h' a (xs.set j.toInt.toNat x) ∧ ∀ target, Steps p.tables e below (T'.setTop (mkF m (pc + 1) Ls rest)) target → Steps p.tables e below (T.setTop (mkF m pc Ls (.long x :: .int j :: .ref a :: rest))) target := by
  obtain ⟨cl, B, r⟩ := A
  obtain ⟨q1, q2⟩ := own_inb (j := j) r (by simpa using hj)
  obtain ⟨T', h', X', e', W', st⟩ := stJ X hx hZ eT B q1 (x := x) (g := mkF m pc Ls (.long x :: .int j :: .ref a :: rest)) rfl rfl hd
  rw [q2] at X' W'
  exact ⟨T', h', X', e', W', by have := own_A.set ⟨cl, B, r⟩ W'; rw [own_AJ, List.map_set]; exact this, st⟩
theorem own_iastore (X : Stand p l e R s m args below meth c T locs cells slots) (hx : p.tables.exec = Jvm.exec) (hZ : Z.Warmed39 s.vm) (eT : T.heap = h) (A : own_AI Z h a .int ys) (hj : 0 ≤ j.toInt ∧ j.toInt < (ys.length : Nat)) {x : Int32} (hd : decode c.code pc = .ok (.iastore, 1)) :
    ∃ T' h', Stand p l e R s m args below meth c T' (locs ++ [⟨a, j.toInt.toNat⟩]) cells slots ∧ T'.heap = h' ∧ Wr h h' a j.toInt.toNat (.int x) ∧ own_AI Z h' a .int (ys.set j.toInt.toNat x) ∧ ∀ target, Steps p.tables e below (T'.setTop (mkF m (pc + 1) Ls rest)) target → Steps p.tables e below (T.setTop (mkF m pc Ls (.int x :: .int j :: .ref a :: rest))) target := by
  obtain ⟨cl, B, r⟩ := A
  obtain ⟨q1, q2⟩ := own_inb (j := j) r (by simpa using hj)
  obtain ⟨T', h', X', e', W', st⟩ := stI X hx hZ eT B q1 (x := x) (g := mkF m pc Ls (.int x :: .int j :: .ref a :: rest)) rfl rfl hd
  rw [q2] at X' W'
  exact ⟨T', h', X', e', W', by have := own_A.set ⟨cl, B, r⟩ W'; rw [own_AI, List.map_set]; exact this, st⟩
theorem own_bastoreB (X : Stand p l e R s m args below meth c T locs cells slots) (hx : p.tables.exec = Jvm.exec) (hZ : Z.Warmed39 s.vm) (eT : T.heap = h) (A : own_AI Z h a .byte ys) (hj : 0 ≤ j.toInt ∧ j.toInt < (ys.length : Nat)) {x : Int32} (hd : decode c.code pc = .ok (.bastore, 1)) :
    ∃ T' h', Stand p l e R s m args below meth c T' (locs ++ [⟨a, j.toInt.toNat⟩]) cells slots ∧ T'.heap = h' ∧ Wr h h' a j.toInt.toNat (.int x.toInt8.toInt32) ∧ own_AI Z h' a .byte (ys.set j.toInt.toNat x.toInt8.toInt32) ∧ ∀ target, Steps p.tables e below (T'.setTop (mkF m (pc + 1) Ls rest)) target → Steps p.tables e below (T.setTop (mkF m pc Ls (.int x :: .int j :: .ref a :: rest))) target := by
  obtain ⟨cl, B, r⟩ := A
  obtain ⟨q1, q2⟩ := own_inb (j := j) r (by simpa using hj)
  obtain ⟨T', h', X', e', W', st⟩ := stB X hx hZ eT B q1 (x := x) (g := mkF m pc Ls (.int x :: .int j :: .ref a :: rest)) rfl rfl hd
  rw [q2] at X' W'
  exact ⟨T', h', X', e', W', by have := own_A.set ⟨cl, B, r⟩ W'; rw [own_AI, List.map_set]; exact this, st⟩
theorem own_bastoreZ (X : Stand p l e R s m args below meth c T locs cells slots) (hx : p.tables.exec = Jvm.exec) (hZ : Z.Warmed39 s.vm) (eT : T.heap = h) (A : own_AI Z h a .boolean ys) (hj : 0 ≤ j.toInt ∧ j.toInt < (ys.length : Nat)) {x : Int32} (hd : decode c.code pc = .ok (.bastore, 1)) :
    ∃ T' h', Stand p l e R s m args below meth c T' (locs ++ [⟨a, j.toInt.toNat⟩]) cells slots ∧ T'.heap = h' ∧ Wr h h' a j.toInt.toNat (.int (x &&& 1)) ∧ own_AI Z h' a .boolean (ys.set j.toInt.toNat (x &&& 1)) ∧ ∀ target, Steps p.tables e below (T'.setTop (mkF m (pc + 1) Ls rest)) target → Steps p.tables e below (T.setTop (mkF m pc Ls (.int x :: .int j :: .ref a :: rest))) target := by
  obtain ⟨cl, B, r⟩ := A
  obtain ⟨q1, q2⟩ := own_inb (j := j) r (by simpa using hj)
  obtain ⟨T', h', X', e', W', st⟩ := stZ X hx hZ eT B q1 (x := x) (g := mkF m pc Ls (.int x :: .int j :: .ref a :: rest)) rfl rfl hd
  rw [q2] at X' W'
  exact ⟨T', h', X', e', W', by have := own_A.set ⟨cl, B, r⟩ W'; rw [own_AI, List.map_set]; exact this, st⟩
end Loads
end OwnKit
theorem own_bm32 {x : Int} (h1 : -2147483648 ≤ x) (h2 : x < 2147483648) : x.bmod (2 ^ 32) = x := by
  rw [Int.bmod_def]; split <;> omega
theorem own_bm64 {x : Int} (h1 : -9223372036854775808 ≤ x) (h2 : x < 9223372036854775808) : x.bmod (2 ^ 64) = x := by
  rw [Int.bmod_def]; split <;> omega
theorem own_r32 (x : Int32) : -2147483648 ≤ x.toInt ∧ x.toInt < 2147483648 := ⟨x.le_toInt, x.toInt_lt⟩
theorem own_r64 (x : Int64) : -9223372036854775808 ≤ x.toInt ∧ x.toInt < 9223372036854775808 := ⟨x.le_toInt, x.toInt_lt⟩
theorem own_iadd {x y : Int32} (h : -2147483648 ≤ x.toInt + y.toInt ∧ x.toInt + y.toInt < 2147483648) : (x + y).toInt = x.toInt + y.toInt := by rw [Int32.toInt_add]; exact own_bm32 h.1 h.2
theorem own_isub {x y : Int32} (h : -2147483648 ≤ x.toInt - y.toInt ∧ x.toInt - y.toInt < 2147483648) : (x - y).toInt = x.toInt - y.toInt := by rw [Int32.toInt_sub]; exact own_bm32 h.1 h.2
theorem own_imul {x y : Int32} (h : -2147483648 ≤ x.toInt * y.toInt ∧ x.toInt * y.toInt < 2147483648) : (x * y).toInt = x.toInt * y.toInt := by rw [Int32.toInt_mul]; exact own_bm32 h.1 h.2
theorem own_ladd {x y : Int64} (h : -9223372036854775808 ≤ x.toInt + y.toInt ∧ x.toInt + y.toInt < 9223372036854775808) : (x + y).toInt = x.toInt + y.toInt := by rw [Int64.toInt_add]; exact own_bm64 h.1 h.2
theorem own_lsub {x y : Int64} (h : -9223372036854775808 ≤ x.toInt - y.toInt ∧ x.toInt - y.toInt < 9223372036854775808) : (x - y).toInt = x.toInt - y.toInt := by rw [Int64.toInt_sub]; exact own_bm64 h.1 h.2
theorem own_lmul {x y : Int64} (h : -9223372036854775808 ≤ x.toInt * y.toInt ∧ x.toInt * y.toInt < 9223372036854775808) : (x * y).toInt = x.toInt * y.toInt := by rw [Int64.toInt_mul]; exact own_bm64 h.1 h.2
theorem own_i2l (x : Int32) : x.toInt64.toInt = x.toInt := Int32.toInt_toInt64 x
theorem own_l2i {x : Int64} (h : -2147483648 ≤ x.toInt ∧ x.toInt < 2147483648) : x.toInt32.toInt = x.toInt := by rw [Int64.toInt_toInt32]; exact own_bm32 h.1 h.2
theorem own_irem {x y : Int32} (h : 0 ≤ x.toInt) : (x % y).toInt = x.toInt % y.toInt := by rw [Int32.toInt_mod]; exact Int.tmod_eq_emod_of_nonneg h
theorem own_lrem {x y : Int64} (h : 0 ≤ x.toInt) : (x % y).toInt = x.toInt % y.toInt := by rw [Int64.toInt_mod]; exact Int.tmod_eq_emod_of_nonneg h
theorem own_idiv {x y : Int32} (h : 0 ≤ x.toInt) (hy : 0 ≤ y.toInt) : (x / y).toInt = x.toInt / y.toInt := by
  rw [Int32.toInt_div_of_ne_right x y (fun q => by rw [q] at hy; revert hy; decide)]; exact Int.tdiv_eq_ediv_of_nonneg h
theorem own_ldiv {x y : Int64} (h : 0 ≤ x.toInt) (hy : 0 ≤ y.toInt) : (x / y).toInt = x.toInt / y.toInt := by
  rw [Int64.toInt_div_of_ne_right x y (fun q => by rw [q] at hy; revert hy; decide)]; exact Int.tdiv_eq_ediv_of_nonneg h
/-- a mask of k bits -/
theorem own_mask (x m : Int32) (k : Nat) (hk : k ≤ 31) (hm : m.toBitVec.toNat = 2 ^ k - 1) : (x &&& m).toInt = x.toInt % (2 ^ k : Nat) := by
  have hp : 2 ^ k ≤ 2 ^ 31 := Nat.pow_le_pow_right (by decide) hk
  have hp0 : 0 < 2 ^ k := Nat.pow_pos (by decide)
  have e : (x &&& m).toBitVec.toNat = x.toBitVec.toNat % 2 ^ k := by rw [Int32.toBitVec_and, BitVec.toNat_and, hm, Nat.and_two_pow_sub_one_eq_mod]
  have l := Nat.mod_lt x.toBitVec.toNat hp0
  rw [← Int32.toInt_toBitVec, ← Int32.toInt_toBitVec, BitVec.toInt_eq_toNat_cond, e, if_pos (by omega), BitVec.toInt_eq_toNat_cond]
  split
  · simp
  · rename_i q
    have d : (2 ^ k : Nat) ∣ 2 ^ 32 := Nat.pow_dvd_pow 2 (by omega)
    obtain ⟨c, hc⟩ := d
    have hc' : ((2 ^ 32 : Nat) : Int) = ((2 ^ k : Nat) : Int) * (c : Int) := by rw [hc]; simp
    rw [hc', Int.sub_mul_emod_self_left]; simp
theorem own_ushr (x : Int64) (y : Int32) (k : Nat) (hk : (y &&& 0x3f).toInt64.toBitVec.toNat % 64 = k) (h0 : 0 < k) : (((x).toUInt64 >>> (y &&& 0x3f).toInt64.toUInt64).toInt64).toInt = (x.toInt % 18446744073709551616) / (2 ^ k : Nat) := by
  have e : (((x).toUInt64 >>> (y &&& 0x3f).toInt64.toUInt64).toInt64).toBitVec = x.toBitVec >>> k := by rw [← hk]; simp
  have hl := x.toBitVec.isLt
  have hp0 : 0 < 2 ^ k := Nat.pow_pos (by decide)
  have h2 : 2 ^ 1 ≤ 2 ^ k := Nat.pow_le_pow_right (by decide) h0
  have hd : x.toBitVec.toNat / 2 ^ k ≤ x.toBitVec.toNat / 2 := Nat.div_le_div_left h2 (by decide)
  have t : x.toInt % 18446744073709551616 = (x.toBitVec.toNat : Int) := by
    rw [← Int64.toInt_toBitVec, BitVec.toInt_eq_toNat_cond]; split <;> omega
  rw [t, ← Int64.toInt_toBitVec, e, BitVec.toInt_eq_toNat_cond, BitVec.toNat_ushiftRight, Nat.shiftRight_eq_div_pow, if_pos (by omega)]
  simp
theorem own_shl (x : Int64) (y : Int32) (k : Nat) (hk : y.toBitVec.toNat % 64 = k) (h : -9223372036854775808 ≤ x.toInt * (2 ^ k : Nat) ∧ x.toInt * (2 ^ k : Nat) < 9223372036854775808) : (x <<< (y &&& 0x3f).toInt64).toInt = x.toInt * (2 ^ k : Nat) := by
  have q := c_lshl x y k hk
  have r := own_r64 (x <<< (y &&& 0x3f).toInt64)
  generalize x.toInt * (2 ^ k : Nat) = z at *
  omega
theorem own_nzL {x : Int32} (h : ¬ x = 0) : ¬ x.toInt64 = 0 := fun q => h (Int32.toInt_inj.mp (by rw [← own_i2l, q]; rfl))
theorem own_nzP {x : Int32} (h : 1 ≤ x.toInt) : ¬ x = 0 := fun q => by rw [q] at h; revert h; decide
theorem own_fA {t n : Int32} {k : Int} (h : t < n) (q : n.toInt - 1 = k) : t.toInt ≤ k := by rw [Int32.lt_iff_toInt_lt] at h; omega
theorem own_fB {t n : Int32} {k : Int} (h : ¬ n < t) (q : n.toInt = k) : t.toInt ≤ k := by rw [Int32.lt_iff_toInt_lt] at h; omega
theorem own_fC {t n : Int32} {k : Int} (h : n < t) (q : n.toInt + 1 = k) : k ≤ t.toInt := by rw [Int32.lt_iff_toInt_lt] at h; omega
theorem own_fD {t n : Int32} {k : Int} (h : ¬ t < n) (q : n.toInt = k) : k ≤ t.toInt := by rw [Int32.lt_iff_toInt_lt] at h; omega
theorem own_fE {t n : Int32} {k : Int} (h : t = n) (q : n.toInt = k) : t.toInt ≤ k := by rw [h]; omega
theorem own_fF {t n : Int32} {k : Int} (h : t = n) (q : n.toInt = k) : k ≤ t.toInt := by rw [h]; omega
theorem own_g1 {t m : Int32} {k : Int} (h : t.toInt ≤ k) (q : k < m.toInt) : t < m := by rw [Int32.lt_iff_toInt_lt]; omega
theorem own_g2 {t m : Int32} {k : Int} (h : t.toInt ≤ k) (q : k ≤ m.toInt) : ¬ m < t := by rw [Int32.lt_iff_toInt_lt]; omega
theorem own_g3 {t m : Int32} {k : Int} (h : t.toInt ≤ k) (q : k < m.toInt) : ¬ t = m := fun e => by rw [e] at h; omega
theorem own_g4 {t m : Int32} {k : Int} (h : k ≤ t.toInt) (q : m.toInt ≤ k) : ¬ t < m := by rw [Int32.lt_iff_toInt_lt]; omega
theorem own_g5 {t m : Int32} {k : Int} (h : k ≤ t.toInt) (q : m.toInt < k) : m < t := by rw [Int32.lt_iff_toInt_lt]; omega
theorem own_g6 {t m : Int32} {k : Int} (h : k ≤ t.toInt) (q : m.toInt < k) : ¬ t = m := fun e => by rw [e] at h; omega
theorem own_g7 {t m : Int32} {k : Int} (h : k ≤ t.toInt) (h' : t.toInt ≤ k) (q : m.toInt = k) : t = m := Int32.toInt_inj.mp (by omega)
theorem own_ne {x n : Int32} {k : Int} (h : ¬ x = n) (q : n.toInt = k) : k ≠ x.toInt := fun e => h (Int32.toInt_inj.mp (by omega))
theorem own_gs1 {α : Type} (xs : List α) (n : Nat) (v d : α) (h : n < xs.length) : (xs.set n v).getD n d = v := by simp [List.getD, h]
theorem own_gs2 {α : Type} (xs : List α) (n j : Nat) (v d : α) (h : n ≠ j) : (xs.set n v).getD j d = xs.getD j d := by simp [List.getD, List.getElem?_set, h]
theorem own_pin {q d : Int32} {n : Nat} (h : 0 ≤ q.toInt ∧ q.toInt + 3 < (n : Nat)) (hn : n ≤ 1000) (hd : 0 ≤ d.toInt ∧ d.toInt ≤ 3) : 0 ≤ (q + d).toInt ∧ (q + d).toInt < (n : Nat) := by
  have a := own_iadd (x := q) (y := d) (by omega)
  omega
theorem own_p0 {q : Int32} {n : Nat} (h : 0 ≤ q.toInt ∧ q.toInt + 3 < (n : Nat)) : 0 ≤ q.toInt ∧ q.toInt < (n : Nat) := by omega
def own_put (ys : List Int32) (q1 q2 : Int32) : List Int32 := ((((ys.set (q1).toInt.toNat (((q2).toUInt32 >>> ((24 : Int32) &&& 31).toUInt32).toInt32).toInt8.toInt32.toInt8.toInt32).set ((q1 + (1 : Int32))).toInt.toNat (((q2).toUInt32 >>> ((16 : Int32) &&& 31).toUInt32).toInt32).toInt8.toInt32.toInt8.toInt32).set ((q1 + (2 : Int32))).toInt.toNat (((q2).toUInt32 >>> ((8 : Int32) &&& 31).toUInt32).toInt32).toInt8.toInt32.toInt8.toInt32).set ((q1 + (3 : Int32))).toInt.toNat (q2).toInt8.toInt32.toInt8.toInt32)
theorem own_putlen (ys : List Int32) (q1 q2 : Int32) : (own_put ys q1 q2).length = ys.length := by simp [own_put]
theorem own_nz33 {z : Int32} (h : z = 33 ∨ z = 129) : ¬ z = 0 := by rcases h with rfl | rfl <;> decide
theorem d1_0 : decode prog_39_method_1_code 0 = .ok (.aload_n 0, 1) := by decide +kernel
theorem d1_1 : decode prog_39_method_1_code 1 = .ok (.invokespecial 1, 3) := by decide +kernel
theorem d1_4 : decode prog_39_method_1_code 4 = .ok (.aload_n 0, 1) := by decide +kernel
theorem d1_5 : decode prog_39_method_1_code 5 = .ok (.aload_n 1, 1) := by decide +kernel
theorem d1_6 : decode prog_39_method_1_code 6 = .ok (.putfield 7, 3) := by decide +kernel
theorem d1_9 : decode prog_39_method_1_code 9 = .ok (.aload_n 0, 1) := by decide +kernel
theorem d1_10 : decode prog_39_method_1_code 10 = .ok (.iload_n 2, 1) := by decide +kernel
theorem d1_11 : decode prog_39_method_1_code 11 = .ok (.putfield 13, 3) := by decide +kernel
theorem d1_14 : decode prog_39_method_1_code 14 = .ok (.return_, 1) := by decide +kernel
theorem pn_1 : plainName "com/example/stillframe/stillframe/ccr/IpPrefix" = true := by first | (simp [plainName, overriddenIn]; done) | decide +kernel
theorem ef_1 (m : MethodId) (ra : Addr) (rb : Addr) (q2 : Int32) : entryFrame m #[(.ref ra), (.ref rb), (.int q2)] 3 = mkF m 0 #[.val (.ref ra), .val (.ref rb), .val (.int q2)] [] := by first | (simp [entryFrame, mkF, argsToLocals, Value.category, maxLocals]; done) | rfl
def Q1 (Z : State) (ra : Addr) (rb : Addr) (q2 : Int32)  (h0 : Heap) (n0 : Nat) (v : Option Value) (h : Heap) (L : List Loc) : Prop := v = none ∧ Fr n0 L ∧ Keep h0 h [ra] ∧ Exa Z h ra "com/example/stillframe/stillframe/ccr/IpPrefix" ∧ Fld Z h ra "com/example/stillframe/stillframe/ccr/IpPrefix" "address" "[B" (.ref rb) ∧ Fld Z h ra "com/example/stillframe/stillframe/ccr/IpPrefix" "length" "I" (.int q2)
set_option maxRecDepth 65536 in
set_option maxHeartbeats 40000000 in
theorem rm1 (l : Launch) (Z : State) (a0 : Array Value) (hw : ∀ d ∈ tables_1, d.before a0 Z = true) (ws : List Jvm.Cond) (ra : Addr) (rb : Addr) (q2 : Int32)  (h0 : Heap) (n0 : Nat) (Z0 : n0 ≤ h0.size) (PE0 : Exa Z h0 ra "com/example/stillframe/stillframe/ccr/IpPrefix") (PF0 : Fld Z h0 ra "com/example/stillframe/stillframe/ccr/IpPrefix" "address" "[B" .null) (PF1 : Fld Z h0 ra "com/example/stillframe/stillframe/ccr/IpPrefix" "length" "I" (.int (0 : Int32))) (PG0 : n0 ≤ ra) :
    MetFree l (⟨"com/example/stillframe/stillframe/ccr/IpPrefix", "<init>", "([BI)V"⟩ : MethodName) (head1 (Jvm.Cond.code (⟨"com/example/stillframe/stillframe/ccr/IpPrefix", "<init>", "([BI)V"⟩ : MethodName) prog_39_method_1_code 3 none :: ws) ({ frames := 1, cells := 0, slots := 0, locals := 12 } : Room)) (fun a U => a = #[(.ref ra), (.ref rb), (.int q2)] ∧ Z.Warmed39 U.vm ∧ U.heap = h0) (fun _ _ _ _ _ => True) (fun _ U o U' => ∃ v L, o = .returned v ∧ Q1 Z ra rb q2 h0 n0 v U'.heap L ∧ FrameEnd U o U' L ({ frames := 1, cells := 0, slots := 0, locals := 12 } : Room).cells ({ frames := 1, cells := 0, slots := 0, locals := 12 } : Room).slots) := by
  refine MetFree.of_bodySF (plainFor_of_name pn_1) hisR ?_
  intro p e s m args below meth c s₁ Bd hml0 hP hK
  obtain ⟨rfl, hZ, hh⟩ := hP
  have hx := Bd.exec
  have hby := Bd.bytes
  have hml : c.maxLocals = 3 := hml0
  have hown : s.vm.findClass "com/example/stillframe/stillframe/ccr/IpPrefix" = some m.cls := findClass_of_methodNamed Bd.named
  have hnm := (name_of_methodNamed Bd.named Bd.method).1
  have X0 : Stand p l e ({ frames := 1, cells := 0, slots := 0, locals := 12 } : Room) s m #[(.ref ra), (.ref rb), (.int q2)] below meth c s₁ [] 0 0 := Stand.of_body Bd
  have hlk : meth.locks = false := by first | exact BodyLoose.notSynchronized (by assumption) | exact Body.notSynchronized (by assumption)
  have e0 : s₁.heap = h0 := by rw [← hh, Bd.state]; rfl
  have N0 := Fr.nil n0
  have pre0 : ∀ t, Steps p.tables e below (s₁.setTop (mkF m 0 #[.val (.ref ra), .val (.ref rb), .val (.int q2)] [])) t → Steps p.tables e below (s₁.setTop (entryFrame m #[(.ref ra), (.ref rb), (.int q2)] 3)) t := fun t k => castTop (ef_1 m ra rb q2) k
  obtain ⟨T1, X1, e1, st1⟩ := initO X0 hx hZ hown (hw _ (List.mem_of_getElem? (i := 8) rfl)) (hw _ (List.mem_of_getElem? (i := 9) rfl)) (hw _ (List.mem_of_getElem? (i := 10) rfl)) e0 (g := (mkF m 1 #[.val (.ref ra), .val (.ref rb), .val (.int q2)] [(.ref ra)])) rfl (by rw [hml]; rfl) rfl (hb hby d1_1) (by decide) (W := 0) (by show 2 * 0 + _ ≤ _; exact Nat.le_of_eq rfl) (by decide)
  obtain ⟨T2, h2, X2, e2, W2, st2⟩ := putF X1 hx hZ hown (host := "") (Or.inl (hw _ (List.mem_of_getElem? (i := 11) rfl))) Via.refl e1 PF0 PE0 (Or.inr ⟨(hw _ (List.mem_of_getElem? (i := 12) rfl)), rfl, hnm⟩) (hw _ (List.mem_of_getElem? (i := 3) rfl)) (ty := (.array .byte)) (by decide) rfl rfl (g := (mkF m 6 #[.val (.ref ra), .val (.ref rb), .val (.int q2)] [(.ref rb), (.ref ra)])) rfl rfl (hb hby d1_6)
  have A2_ra : Exa Z h2 ra "com/example/stillframe/stillframe/ccr/IpPrefix" := PE0.wr W2
  have F2_ra_1 : Fld Z h2 ra "com/example/stillframe/stillframe/ccr/IpPrefix" "length" "I" (.int (0 : Int32)) := PF1.other W2 (Or.inr (slot_ne (a0 := a0) (C := "com/example/stillframe/stillframe/ccr/IpPrefix") (Or.inr (hw _ (List.mem_of_getElem? (i := 14) rfl))) (Or.inr (hw _ (List.mem_of_getElem? (i := 12) rfl))) (by decide) (t := .int) (t' := (.array .byte)) (by decide) (by decide)))
  have sz2 : n0 ≤ h2.size := Nat.le_trans Z0 (Keep.of_wr W2).1
  have K2 : Keep h0 h2 [ra] := (Keep.refl h0 [ra]).wr W2 (Or.inl (by simp))
  have N2 := Fr.snoc X2 N0 PG0
  have F2_s : Fld Z h2 ra "com/example/stillframe/stillframe/ccr/IpPrefix" "address" "[B" (.ref rb) := PF0.same W2
  obtain ⟨T3, h3, X3, e3, W3, st3⟩ := putF X2 hx hZ hown (host := "") (Or.inl (hw _ (List.mem_of_getElem? (i := 13) rfl))) Via.refl e2 F2_ra_1 A2_ra (Or.inr ⟨(hw _ (List.mem_of_getElem? (i := 14) rfl)), rfl, hnm⟩) (hw _ (List.mem_of_getElem? (i := 3) rfl)) (ty := .int) (by decide) rfl rfl (g := (mkF m 11 #[.val (.ref ra), .val (.ref rb), .val (.int q2)] [(.int q2), (.ref ra)])) rfl rfl (hb hby d1_11)
  have A3_ra : Exa Z h3 ra "com/example/stillframe/stillframe/ccr/IpPrefix" := A2_ra.wr W3
  have F3_ra_0 : Fld Z h3 ra "com/example/stillframe/stillframe/ccr/IpPrefix" "address" "[B" (.ref rb) := F2_s.other W3 (Or.inr (slot_ne (a0 := a0) (C := "com/example/stillframe/stillframe/ccr/IpPrefix") (Or.inr (hw _ (List.mem_of_getElem? (i := 12) rfl))) (Or.inr (hw _ (List.mem_of_getElem? (i := 14) rfl))) (by decide) (t := (.array .byte)) (t' := .int) (by decide) (by decide)))
  have sz3 : n0 ≤ h3.size := Nat.le_trans sz2 (Keep.of_wr W3).1
  have K3 : Keep h0 h3 [ra] := K2.wr W3 (Or.inl (by simp))
  have N3 := Fr.snoc X3 N2 PG0
  have F3_s : Fld Z h3 ra "com/example/stillframe/stillframe/ccr/IpPrefix" "length" "I" (.int q2) := F2_ra_1.same W3
  obtain ⟨fs, hr, hrun, hended, hW, hsame⟩ := X3.leave (v := none) (fun _ => rfl) hlk
  refine ⟨_, _, pre0 _ ?_, hrun, hended, _, _, rfl, ?_, ⟨_, rfl⟩, hW, hsame.mono (by decide) (by decide)⟩
  · show Steps p.tables e below (s₁.setTop (mkF m 0 #[.val (.ref ra), .val (.ref rb), .val (.int q2)] [])) _
    refine XS.aloadN X0.here hx rfl (hb hby d1_0) rfl rfl ?_
    show Steps p.tables e below (s₁.setTop (mkF m 1 #[.val (.ref ra), .val (.ref rb), .val (.int q2)] [(.ref ra)])) _
    refine st1 _ ?_
    show Steps p.tables e below (T1.setTop (mkF m 4 #[.val (.ref ra), .val (.ref rb), .val (.int q2)] [])) _
    refine XS.aloadN X1.here hx rfl (hb hby d1_4) rfl rfl ?_
    show Steps p.tables e below (T1.setTop (mkF m 5 #[.val (.ref ra), .val (.ref rb), .val (.int q2)] [(.ref ra)])) _
    refine XS.aloadN X1.here hx rfl (hb hby d1_5) rfl rfl ?_
    show Steps p.tables e below (T1.setTop (mkF m 6 #[.val (.ref ra), .val (.ref rb), .val (.int q2)] [(.ref rb), (.ref ra)])) _
    refine st2 _ ?_
    show Steps p.tables e below (T2.setTop (mkF m 9 #[.val (.ref ra), .val (.ref rb), .val (.int q2)] [])) _
    refine XS.aloadN X2.here hx rfl (hb hby d1_9) rfl rfl ?_
    show Steps p.tables e below (T2.setTop (mkF m 10 #[.val (.ref ra), .val (.ref rb), .val (.int q2)] [(.ref ra)])) _
    refine XS.iloadN X2.here hx rfl (hb hby d1_10) rfl ?_
    show Steps p.tables e below (T2.setTop (mkF m 11 #[.val (.ref ra), .val (.ref rb), .val (.int q2)] [(.int q2), (.ref ra)])) _
    refine st3 _ ?_
    show Steps p.tables e below (T3.setTop (mkF m 14 #[.val (.ref ra), .val (.ref rb), .val (.int q2)] [])) _
    exact X3.returnOut hx Bd.returns (hb hby d1_14) hr
  · show Q1 Z ra rb q2 h0 n0 _ T3.heap _
    rw [e3]
    exact ⟨rfl, N3, K3, A3_ra, F3_ra_0, F3_s⟩
theorem d3_0 : decode prog_39_method_6_code 0 = .ok (.aload_n 0, 1) := by decide +kernel
theorem d3_1 : decode prog_39_method_6_code 1 = .ok (.getfield 7, 3) := by decide +kernel
theorem d3_4 : decode prog_39_method_6_code 4 = .ok (.arraylength, 1) := by decide +kernel
theorem d3_5 : decode prog_39_method_6_code 5 = .ok (.iconst 4, 1) := by decide +kernel
theorem d3_6 : decode prog_39_method_6_code 6 = .ok (.if_icmp .ne 7, 3) := by decide +kernel
theorem d3_9 : decode prog_39_method_6_code 9 = .ok (.iconst 1, 1) := by decide +kernel
theorem d3_10 : decode prog_39_method_6_code 10 = .ok (.goto 4, 3) := by decide +kernel
theorem d3_13 : decode prog_39_method_6_code 13 = .ok (.iconst 0, 1) := by decide +kernel
theorem d3_14 : decode prog_39_method_6_code 14 = .ok (.ireturn, 1) := by decide +kernel
theorem ef_3 (m : MethodId) (ra : Addr) : entryFrame m #[(.ref ra)] 1 = mkF m 0 #[.val (.ref ra)] [] := by first | (simp [entryFrame, mkF, argsToLocals, Value.category, maxLocals]; done) | rfl
def own_f3  (ys : List Int32) : Int32 := (if (ys.length).toInt32 = (4 : Int32) then (1 : Int32) else (0 : Int32))
def Q3 (Z : State) (ra : Addr) (rb : Addr) (ys : List Int32) (h0 : Heap) (n0 : Nat) (v : Option Value) (h : Heap) (L : List Loc) : Prop := v = some (.int (own_f3 ys)) ∧ Fr n0 L ∧ h = h0
set_option maxRecDepth 65536 in
set_option maxHeartbeats 40000000 in
theorem rm3 (l : Launch) (Z : State) (a0 : Array Value) (hw : ∀ d ∈ tables_1, d.before a0 Z = true) (ws : List Jvm.Cond) (ra : Addr) (rb : Addr) (ys : List Int32) (h0 : Heap) (n0 : Nat) (Z0 : n0 ≤ h0.size) (PA0 : own_AI Z h0 rb .byte ys) (PE0 : Exa Z h0 ra "com/example/stillframe/stillframe/ccr/IpPrefix") (PF0 : Fld Z h0 ra "com/example/stillframe/stillframe/ccr/IpPrefix" "address" "[B" (.ref rb)) :
    MetFree l (⟨"com/example/stillframe/stillframe/ccr/IpPrefix", "isIpv4", "()Z"⟩ : MethodName) (head1 (Jvm.Cond.code (⟨"com/example/stillframe/stillframe/ccr/IpPrefix", "isIpv4", "()Z"⟩ : MethodName) prog_39_method_6_code 1 (some .boolean) :: ws) ({ frames := 0, cells := 0, slots := 0, locals := 0 } : Room)) (fun a U => a = #[(.ref ra)] ∧ Z.Warmed39 U.vm ∧ U.heap = h0) (fun _ _ _ _ _ => True) (fun _ U o U' => ∃ v L, o = .returned v ∧ Q3 Z ra rb ys h0 n0 v U'.heap L ∧ FrameEnd U o U' L ({ frames := 0, cells := 0, slots := 0, locals := 0 } : Room).cells ({ frames := 0, cells := 0, slots := 0, locals := 0 } : Room).slots) := by
  refine MetFree.of_bodySF (plainFor_of_name pn_1) hisR ?_
  intro p e s m args below meth c s₁ Bd hml0 hP hK
  obtain ⟨rfl, hZ, hh⟩ := hP
  have hx := Bd.exec
  have hby := Bd.bytes
  have hml : c.maxLocals = 1 := hml0
  have hown : s.vm.findClass "com/example/stillframe/stillframe/ccr/IpPrefix" = some m.cls := findClass_of_methodNamed Bd.named
  have hnm := (name_of_methodNamed Bd.named Bd.method).1
  have X0 : Stand p l e ({ frames := 0, cells := 0, slots := 0, locals := 0 } : Room) s m #[(.ref ra)] below meth c s₁ [] 0 0 := Stand.of_body Bd
  have hlk : meth.locks = false := by first | exact BodyLoose.notSynchronized (by assumption) | exact Body.notSynchronized (by assumption)
  have e0 : s₁.heap = h0 := by rw [← hh, Bd.state]; rfl
  have N0 := Fr.nil n0
  have pre0 : ∀ t, Steps p.tables e below (s₁.setTop (mkF m 0 #[.val (.ref ra)] [])) t → Steps p.tables e below (s₁.setTop (entryFrame m #[(.ref ra)] 1)) t := fun t k => castTop (ef_3 m ra) k
  obtain ⟨T1, X1, e1, st1⟩ := getF X0 hx hZ hown (host := "") (Or.inl (hw _ (List.mem_of_getElem? (i := 11) rfl))) Via.refl e0 PF0 (g := (mkF m 1 #[.val (.ref ra)] [(.ref ra)])) rfl rfl (hb hby d3_1)
  have pre2 : ∀ t, Steps p.tables e below (T1.setTop (mkF m 6 #[.val (.ref ra)] [(.int (4 : Int32)), (.int (ys.length).toInt32)])) t → Steps p.tables e below (s₁.setTop (entryFrame m #[(.ref ra)] 1)) t := by
    intro t k
    refine pre0 t ?_
    show Steps p.tables e below (s₁.setTop (mkF m 0 #[.val (.ref ra)] [])) _
    refine XS.aloadN X0.here hx rfl (hb hby d3_0) rfl rfl ?_
    show Steps p.tables e below (s₁.setTop (mkF m 1 #[.val (.ref ra)] [(.ref ra)])) _
    refine st1 _ ?_
    show Steps p.tables e below (T1.setTop (mkF m 4 #[.val (.ref ra)] [(.ref rb)])) _
    refine own_alenI X1 hx hZ e1 PA0 (hb hby d3_4) _ ?_
    show Steps p.tables e below (T1.setTop (mkF m 5 #[.val (.ref ra)] [(.int (ys.length).toInt32)])) _
    refine XS.iconst X1.here hx rfl (hb hby d3_5) ?_
    exact k
  by_cases c3 : (ys.length).toInt32 = (4 : Int32)
  · obtain ⟨fs, hr, hrun, hended, hW, hsame⟩ := X1.leave (v := some (.int (1 : Int32))) (fun h => by rw [Bd.returns] at h; cases h) hlk
    refine ⟨_, _, pre2 _ ?_, hrun, hended, _, _, rfl, ?_, ⟨_, rfl⟩, hW, hsame.mono (by decide) (by decide)⟩
    · show Steps p.tables e below (T1.setTop (mkF m 6 #[.val (.ref ra)] [(.int (4 : Int32)), (.int (ys.length).toInt32)])) _
      refine XS.icmpNo X1.here hx rfl (hb hby d3_6) rfl ((teq c3).2) ?_
      show Steps p.tables e below (T1.setTop (mkF m 9 #[.val (.ref ra)] [])) _
      refine XS.iconst X1.here hx rfl (hb hby d3_9) ?_
      show Steps p.tables e below (T1.setTop (mkF m 10 #[.val (.ref ra)] [(.int (1 : Int32))])) _
      refine XS.goto X1.here hx rfl (pc0 := 10) (pc' := 14) rfl (hb hby d3_10) (by decide) (by decide) ?_
      show Steps p.tables e below (T1.setTop (mkF m 14 #[.val (.ref ra)] [(.int (1 : Int32))])) _
      exact retN X1 hx (t := .boolean) Bd.returns (by simp) (hb hby d3_14) hr
    · show Q3 Z ra rb ys h0 n0 _ T1.heap _
      rw [e1]
      exact ⟨by simp only [own_f3, if_pos c3], N0, rfl⟩
  · obtain ⟨fs, hr, hrun, hended, hW, hsame⟩ := X1.leave (v := some (.int (0 : Int32))) (fun h => by rw [Bd.returns] at h; cases h) hlk
    refine ⟨_, _, pre2 _ ?_, hrun, hended, _, _, rfl, ?_, ⟨_, rfl⟩, hW, hsame.mono (by decide) (by decide)⟩
    · show Steps p.tables e below (T1.setTop (mkF m 6 #[.val (.ref ra)] [(.int (4 : Int32)), (.int (ys.length).toInt32)])) _
      refine XS.icmpYes X1.here hx rfl (pc0 := 6) (pc' := 13) rfl (hb hby d3_6) rfl ((feq c3).2) (by decide) (by decide) ?_
      show Steps p.tables e below (T1.setTop (mkF m 13 #[.val (.ref ra)] [])) _
      refine XS.iconst X1.here hx rfl (hb hby d3_13) ?_
      show Steps p.tables e below (T1.setTop (mkF m 14 #[.val (.ref ra)] [(.int (0 : Int32))])) _
      exact retN X1 hx (t := .boolean) Bd.returns (by simp) (hb hby d3_14) hr
    · show Q3 Z ra rb ys h0 n0 _ T1.heap _
      rw [e1]
      exact ⟨by simp only [own_f3, if_neg c3], N0, rfl⟩
theorem d4_0 : decode method_3_code 0 = .ok (.aload_n 0, 1) := by decide +kernel
theorem d4_1 : decode method_3_code 1 = .ok (.iload_n 1, 1) := by decide +kernel
theorem d4_2 : decode method_3_code 2 = .ok (.iload_n 2, 1) := by decide +kernel
theorem d4_3 : decode method_3_code 3 = .ok (.bipush 24, 2) := by decide +kernel
theorem d4_5 : decode method_3_code 5 = .ok (.iushr, 1) := by decide +kernel
theorem d4_6 : decode method_3_code 6 = .ok (.i2b, 1) := by decide +kernel
theorem d4_7 : decode method_3_code 7 = .ok (.bastore, 1) := by decide +kernel
theorem d4_8 : decode method_3_code 8 = .ok (.aload_n 0, 1) := by decide +kernel
theorem d4_9 : decode method_3_code 9 = .ok (.iload_n 1, 1) := by decide +kernel
theorem d4_10 : decode method_3_code 10 = .ok (.iconst 1, 1) := by decide +kernel
theorem d4_11 : decode method_3_code 11 = .ok (.iadd, 1) := by decide +kernel
theorem d4_12 : decode method_3_code 12 = .ok (.iload_n 2, 1) := by decide +kernel
theorem d4_13 : decode method_3_code 13 = .ok (.bipush 16, 2) := by decide +kernel
theorem d4_15 : decode method_3_code 15 = .ok (.iushr, 1) := by decide +kernel
theorem d4_16 : decode method_3_code 16 = .ok (.i2b, 1) := by decide +kernel
theorem d4_17 : decode method_3_code 17 = .ok (.bastore, 1) := by decide +kernel
theorem d4_18 : decode method_3_code 18 = .ok (.aload_n 0, 1) := by decide +kernel
theorem d4_19 : decode method_3_code 19 = .ok (.iload_n 1, 1) := by decide +kernel
theorem d4_20 : decode method_3_code 20 = .ok (.iconst 2, 1) := by decide +kernel
theorem d4_21 : decode method_3_code 21 = .ok (.iadd, 1) := by decide +kernel
theorem d4_22 : decode method_3_code 22 = .ok (.iload_n 2, 1) := by decide +kernel
theorem d4_23 : decode method_3_code 23 = .ok (.bipush 8, 2) := by decide +kernel
theorem d4_25 : decode method_3_code 25 = .ok (.iushr, 1) := by decide +kernel
theorem d4_26 : decode method_3_code 26 = .ok (.i2b, 1) := by decide +kernel
theorem d4_27 : decode method_3_code 27 = .ok (.bastore, 1) := by decide +kernel
theorem d4_28 : decode method_3_code 28 = .ok (.aload_n 0, 1) := by decide +kernel
theorem d4_29 : decode method_3_code 29 = .ok (.iload_n 1, 1) := by decide +kernel
theorem d4_30 : decode method_3_code 30 = .ok (.iconst 3, 1) := by decide +kernel
theorem d4_31 : decode method_3_code 31 = .ok (.iadd, 1) := by decide +kernel
theorem d4_32 : decode method_3_code 32 = .ok (.iload_n 2, 1) := by decide +kernel
theorem d4_33 : decode method_3_code 33 = .ok (.i2b, 1) := by decide +kernel
theorem d4_34 : decode method_3_code 34 = .ok (.bastore, 1) := by decide +kernel
theorem d4_35 : decode method_3_code 35 = .ok (.return_, 1) := by decide +kernel
theorem pn_4 : plainName "com/example/stillframe/stillframe/ccr/IpPrefixIsIpv4PinLaw" = true := by first | (simp [plainName, overriddenIn]; done) | decide +kernel
theorem ef_4 (m : MethodId) (rb : Addr) (q1 : Int32) (q2 : Int32) : entryFrame m #[(.ref rb), (.int q1), (.int q2)] 3 = mkF m 0 #[.val (.ref rb), .val (.int q1), .val (.int q2)] [] := by first | (simp [entryFrame, mkF, argsToLocals, Value.category, maxLocals]; done) | rfl
def Q4 (Z : State) (rb : Addr) (q1 : Int32) (q2 : Int32) (ys : List Int32) (h0 : Heap) (n0 : Nat) (v : Option Value) (h : Heap) (L : List Loc) : Prop := v = none ∧ Fr n0 L ∧ Keep h0 h [rb] ∧ own_AI Z h rb .byte (own_put ys q1 q2)
set_option maxRecDepth 65536 in
set_option maxHeartbeats 40000000 in
theorem rm4 (l : Launch) (Z : State) (a0 : Array Value) (hw : ∀ d ∈ tables_1, d.before a0 Z = true) (ws : List Jvm.Cond) (rb : Addr) (q1 : Int32) (q2 : Int32) (ys : List Int32) (h0 : Heap) (n0 : Nat) (Z0 : n0 ≤ h0.size) (PA0 : own_AI Z h0 rb .byte ys) (PG0 : n0 ≤ rb) (hin : 0 ≤ (q1).toInt ∧ (q1).toInt + 3 < (ys.length : Nat)) (hn : ys.length ≤ 1000) :
    MetFree l (⟨"com/example/stillframe/stillframe/ccr/IpPrefixIsIpv4PinLaw", "put", "([BII)V"⟩ : MethodName) (head1 (Jvm.Cond.code (⟨"com/example/stillframe/stillframe/ccr/IpPrefixIsIpv4PinLaw", "put", "([BII)V"⟩ : MethodName) method_3_code 3 none :: ws) ({ frames := 0, cells := 0, slots := 0, locals := 0 } : Room)) (fun a U => a = #[(.ref rb), (.int q1), (.int q2)] ∧ Z.Warmed39 U.vm ∧ U.heap = h0) (fun _ _ _ _ _ => True) (fun _ U o U' => ∃ v L, o = .returned v ∧ Q4 Z rb q1 q2 ys h0 n0 v U'.heap L ∧ FrameEnd U o U' L ({ frames := 0, cells := 0, slots := 0, locals := 0 } : Room).cells ({ frames := 0, cells := 0, slots := 0, locals := 0 } : Room).slots) := by
  refine MetFree.of_bodySF (plainFor_of_name pn_4) hisR ?_
  intro p e s m args below meth c s₁ Bd hml0 hP hK
  obtain ⟨rfl, hZ, hh⟩ := hP
  have hx := Bd.exec
  have hby := Bd.bytes
  have hml : c.maxLocals = 3 := hml0
  have hown : s.vm.findClass "com/example/stillframe/stillframe/ccr/IpPrefixIsIpv4PinLaw" = some m.cls := findClass_of_methodNamed Bd.named
  have hnm := (name_of_methodNamed Bd.named Bd.method).1
  have X0 : Stand p l e ({ frames := 0, cells := 0, slots := 0, locals := 0 } : Room) s m #[(.ref rb), (.int q1), (.int q2)] below meth c s₁ [] 0 0 := Stand.of_body Bd
  have hlk : meth.locks = false := by first | exact BodyLoose.notSynchronized (by assumption) | exact Body.notSynchronized (by assumption)
  have e0 : s₁.heap = h0 := by rw [← hh, Bd.state]; rfl
  have N0 := Fr.nil n0
  have pre0 : ∀ t, Steps p.tables e below (s₁.setTop (mkF m 0 #[.val (.ref rb), .val (.int q1), .val (.int q2)] [])) t → Steps p.tables e below (s₁.setTop (entryFrame m #[(.ref rb), (.int q1), (.int q2)] 3)) t := fun t k => castTop (ef_4 m rb q1 q2) k
  have in_7_2 : 0 ≤ (q1).toInt ∧ (q1).toInt < (ys.length : Nat) := (own_p0 hin)
  obtain ⟨T1, h1, X1, e1, W1, V1, st1⟩ := own_bastoreB X0 hx hZ e0 PA0 (j := q1) in_7_2 (x := (((q2).toUInt32 >>> ((24 : Int32) &&& 31).toUInt32).toInt32).toInt8.toInt32) (hb hby d4_7) (Ls := #[.val (.ref rb), .val (.int q1), .val (.int q2)]) (rest := [])
  have sz1 : n0 ≤ h1.size := Nat.le_trans Z0 (Keep.of_wr W1).1
  have K1 : Keep h0 h1 [rb] := (Keep.refl h0 [rb]).wr W1 (Or.inl (by simp))
  have N1 := Fr.snoc X1 N0 PG0
  have V1_n : own_AI Z h1 rb .byte (ys.set (q1).toInt.toNat ((((q2).toUInt32 >>> ((24 : Int32) &&& 31).toUInt32).toInt32).toInt8.toInt32).toInt8.toInt32) := V1
  have in_17_4 : 0 ≤ ((q1 + (1 : Int32))).toInt ∧ ((q1 + (1 : Int32))).toInt < ((ys.set (q1).toInt.toNat ((((q2).toUInt32 >>> ((24 : Int32) &&& 31).toUInt32).toInt32).toInt8.toInt32).toInt8.toInt32).length : Nat) := (by simp only [List.length_set]; exact own_pin hin hn (by decide))
  obtain ⟨T3, h3, X3, e3, W3, V3, st3⟩ := own_bastoreB X1 hx hZ e1 V1_n (j := (q1 + (1 : Int32))) in_17_4 (x := (((q2).toUInt32 >>> ((16 : Int32) &&& 31).toUInt32).toInt32).toInt8.toInt32) (hb hby d4_17) (Ls := #[.val (.ref rb), .val (.int q1), .val (.int q2)]) (rest := [])
  have sz3 : n0 ≤ h3.size := Nat.le_trans sz1 (Keep.of_wr W3).1
  have K3 : Keep h0 h3 [rb] := K1.wr W3 (Or.inl (by simp))
  have N3 := Fr.snoc X3 N1 PG0
  have V3_n : own_AI Z h3 rb .byte ((ys.set (q1).toInt.toNat ((((q2).toUInt32 >>> ((24 : Int32) &&& 31).toUInt32).toInt32).toInt8.toInt32).toInt8.toInt32).set ((q1 + (1 : Int32))).toInt.toNat ((((q2).toUInt32 >>> ((16 : Int32) &&& 31).toUInt32).toInt32).toInt8.toInt32).toInt8.toInt32) := V3
  have in_27_6 : 0 ≤ ((q1 + (2 : Int32))).toInt ∧ ((q1 + (2 : Int32))).toInt < (((ys.set (q1).toInt.toNat ((((q2).toUInt32 >>> ((24 : Int32) &&& 31).toUInt32).toInt32).toInt8.toInt32).toInt8.toInt32).set ((q1 + (1 : Int32))).toInt.toNat ((((q2).toUInt32 >>> ((16 : Int32) &&& 31).toUInt32).toInt32).toInt8.toInt32).toInt8.toInt32).length : Nat) := (by simp only [List.length_set]; exact own_pin hin hn (by decide))
  obtain ⟨T5, h5, X5, e5, W5, V5, st5⟩ := own_bastoreB X3 hx hZ e3 V3_n (j := (q1 + (2 : Int32))) in_27_6 (x := (((q2).toUInt32 >>> ((8 : Int32) &&& 31).toUInt32).toInt32).toInt8.toInt32) (hb hby d4_27) (Ls := #[.val (.ref rb), .val (.int q1), .val (.int q2)]) (rest := [])
  have sz5 : n0 ≤ h5.size := Nat.le_trans sz3 (Keep.of_wr W5).1
  have K5 : Keep h0 h5 [rb] := K3.wr W5 (Or.inl (by simp))
  have N5 := Fr.snoc X5 N3 PG0
  have V5_n : own_AI Z h5 rb .byte (((ys.set (q1).toInt.toNat ((((q2).toUInt32 >>> ((24 : Int32) &&& 31).toUInt32).toInt32).toInt8.toInt32).toInt8.toInt32).set ((q1 + (1 : Int32))).toInt.toNat ((((q2).toUInt32 >>> ((16 : Int32) &&& 31).toUInt32).toInt32).toInt8.toInt32).toInt8.toInt32).set ((q1 + (2 : Int32))).toInt.toNat ((((q2).toUInt32 >>> ((8 : Int32) &&& 31).toUInt32).toInt32).toInt8.toInt32).toInt8.toInt32) := V5
  have in_34_8 : 0 ≤ ((q1 + (3 : Int32))).toInt ∧ ((q1 + (3 : Int32))).toInt < ((((ys.set (q1).toInt.toNat ((((q2).toUInt32 >>> ((24 : Int32) &&& 31).toUInt32).toInt32).toInt8.toInt32).toInt8.toInt32).set ((q1 + (1 : Int32))).toInt.toNat ((((q2).toUInt32 >>> ((16 : Int32) &&& 31).toUInt32).toInt32).toInt8.toInt32).toInt8.toInt32).set ((q1 + (2 : Int32))).toInt.toNat ((((q2).toUInt32 >>> ((8 : Int32) &&& 31).toUInt32).toInt32).toInt8.toInt32).toInt8.toInt32).length : Nat) := (by simp only [List.length_set]; exact own_pin hin hn (by decide))
  obtain ⟨T7, h7, X7, e7, W7, V7, st7⟩ := own_bastoreB X5 hx hZ e5 V5_n (j := (q1 + (3 : Int32))) in_34_8 (x := (q2).toInt8.toInt32) (hb hby d4_34) (Ls := #[.val (.ref rb), .val (.int q1), .val (.int q2)]) (rest := [])
  have sz7 : n0 ≤ h7.size := Nat.le_trans sz5 (Keep.of_wr W7).1
  have K7 : Keep h0 h7 [rb] := K5.wr W7 (Or.inl (by simp))
  have N7 := Fr.snoc X7 N5 PG0
  have V7_n : own_AI Z h7 rb .byte ((((ys.set (q1).toInt.toNat ((((q2).toUInt32 >>> ((24 : Int32) &&& 31).toUInt32).toInt32).toInt8.toInt32).toInt8.toInt32).set ((q1 + (1 : Int32))).toInt.toNat ((((q2).toUInt32 >>> ((16 : Int32) &&& 31).toUInt32).toInt32).toInt8.toInt32).toInt8.toInt32).set ((q1 + (2 : Int32))).toInt.toNat ((((q2).toUInt32 >>> ((8 : Int32) &&& 31).toUInt32).toInt32).toInt8.toInt32).toInt8.toInt32).set ((q1 + (3 : Int32))).toInt.toNat ((q2).toInt8.toInt32).toInt8.toInt32) := V7
  obtain ⟨fs, hr, hrun, hended, hW, hsame⟩ := X7.leave (v := none) (fun _ => rfl) hlk
  refine ⟨_, _, pre0 _ ?_, hrun, hended, _, _, rfl, ?_, ⟨_, rfl⟩, hW, hsame.mono (by decide) (by decide)⟩
  · show Steps p.tables e below (s₁.setTop (mkF m 0 #[.val (.ref rb), .val (.int q1), .val (.int q2)] [])) _
    refine XS.aloadN X0.here hx rfl (hb hby d4_0) rfl rfl ?_
    show Steps p.tables e below (s₁.setTop (mkF m 1 #[.val (.ref rb), .val (.int q1), .val (.int q2)] [(.ref rb)])) _
    refine XS.iloadN X0.here hx rfl (hb hby d4_1) rfl ?_
    show Steps p.tables e below (s₁.setTop (mkF m 2 #[.val (.ref rb), .val (.int q1), .val (.int q2)] [(.int q1), (.ref rb)])) _
    refine XS.iloadN X0.here hx rfl (hb hby d4_2) rfl ?_
    show Steps p.tables e below (s₁.setTop (mkF m 3 #[.val (.ref rb), .val (.int q1), .val (.int q2)] [(.int q2), (.int q1), (.ref rb)])) _
    refine XS.bipush X0.here hx rfl (hb hby d4_3) ?_
    show Steps p.tables e below (s₁.setTop (mkF m 5 #[.val (.ref rb), .val (.int q1), .val (.int q2)] [(.int (24 : Int32)), (.int q2), (.int q1), (.ref rb)])) _
    refine XS.iushr X0.here hx rfl (hb hby d4_5) rfl ?_
    show Steps p.tables e below (s₁.setTop (mkF m 6 #[.val (.ref rb), .val (.int q1), .val (.int q2)] [(.int ((q2).toUInt32 >>> ((24 : Int32) &&& 31).toUInt32).toInt32), (.int q1), (.ref rb)])) _
    refine XS.i2b X0.here hx rfl (hb hby d4_6) rfl ?_
    show Steps p.tables e below (s₁.setTop (mkF m 7 #[.val (.ref rb), .val (.int q1), .val (.int q2)] [(.int (((q2).toUInt32 >>> ((24 : Int32) &&& 31).toUInt32).toInt32).toInt8.toInt32), (.int q1), (.ref rb)])) _
    refine st1 _ ?_
    show Steps p.tables e below (T1.setTop (mkF m 8 #[.val (.ref rb), .val (.int q1), .val (.int q2)] [])) _
    refine XS.aloadN X1.here hx rfl (hb hby d4_8) rfl rfl ?_
    show Steps p.tables e below (T1.setTop (mkF m 9 #[.val (.ref rb), .val (.int q1), .val (.int q2)] [(.ref rb)])) _
    refine XS.iloadN X1.here hx rfl (hb hby d4_9) rfl ?_
    show Steps p.tables e below (T1.setTop (mkF m 10 #[.val (.ref rb), .val (.int q1), .val (.int q2)] [(.int q1), (.ref rb)])) _
    refine XS.iconst X1.here hx rfl (hb hby d4_10) ?_
    show Steps p.tables e below (T1.setTop (mkF m 11 #[.val (.ref rb), .val (.int q1), .val (.int q2)] [(.int (1 : Int32)), (.int q1), (.ref rb)])) _
    refine XS.iadd X1.here hx rfl (hb hby d4_11) rfl ?_
    show Steps p.tables e below (T1.setTop (mkF m 12 #[.val (.ref rb), .val (.int q1), .val (.int q2)] [(.int (q1 + (1 : Int32))), (.ref rb)])) _
    refine XS.iloadN X1.here hx rfl (hb hby d4_12) rfl ?_
    show Steps p.tables e below (T1.setTop (mkF m 13 #[.val (.ref rb), .val (.int q1), .val (.int q2)] [(.int q2), (.int (q1 + (1 : Int32))), (.ref rb)])) _
    refine XS.bipush X1.here hx rfl (hb hby d4_13) ?_
    show Steps p.tables e below (T1.setTop (mkF m 15 #[.val (.ref rb), .val (.int q1), .val (.int q2)] [(.int (16 : Int32)), (.int q2), (.int (q1 + (1 : Int32))), (.ref rb)])) _
    refine XS.iushr X1.here hx rfl (hb hby d4_15) rfl ?_
    show Steps p.tables e below (T1.setTop (mkF m 16 #[.val (.ref rb), .val (.int q1), .val (.int q2)] [(.int ((q2).toUInt32 >>> ((16 : Int32) &&& 31).toUInt32).toInt32), (.int (q1 + (1 : Int32))), (.ref rb)])) _
    refine XS.i2b X1.here hx rfl (hb hby d4_16) rfl ?_
    show Steps p.tables e below (T1.setTop (mkF m 17 #[.val (.ref rb), .val (.int q1), .val (.int q2)] [(.int (((q2).toUInt32 >>> ((16 : Int32) &&& 31).toUInt32).toInt32).toInt8.toInt32), (.int (q1 + (1 : Int32))), (.ref rb)])) _
    refine st3 _ ?_
    show Steps p.tables e below (T3.setTop (mkF m 18 #[.val (.ref rb), .val (.int q1), .val (.int q2)] [])) _
    refine XS.aloadN X3.here hx rfl (hb hby d4_18) rfl rfl ?_
    show Steps p.tables e below (T3.setTop (mkF m 19 #[.val (.ref rb), .val (.int q1), .val (.int q2)] [(.ref rb)])) _
    refine XS.iloadN X3.here hx rfl (hb hby d4_19) rfl ?_
    show Steps p.tables e below (T3.setTop (mkF m 20 #[.val (.ref rb), .val (.int q1), .val (.int q2)] [(.int q1), (.ref rb)])) _
    refine XS.iconst X3.here hx rfl (hb hby d4_20) ?_
    show Steps p.tables e below (T3.setTop (mkF m 21 #[.val (.ref rb), .val (.int q1), .val (.int q2)] [(.int (2 : Int32)), (.int q1), (.ref rb)])) _
    refine XS.iadd X3.here hx rfl (hb hby d4_21) rfl ?_
    show Steps p.tables e below (T3.setTop (mkF m 22 #[.val (.ref rb), .val (.int q1), .val (.int q2)] [(.int (q1 + (2 : Int32))), (.ref rb)])) _
    refine XS.iloadN X3.here hx rfl (hb hby d4_22) rfl ?_
    show Steps p.tables e below (T3.setTop (mkF m 23 #[.val (.ref rb), .val (.int q1), .val (.int q2)] [(.int q2), (.int (q1 + (2 : Int32))), (.ref rb)])) _
    refine XS.bipush X3.here hx rfl (hb hby d4_23) ?_
    show Steps p.tables e below (T3.setTop (mkF m 25 #[.val (.ref rb), .val (.int q1), .val (.int q2)] [(.int (8 : Int32)), (.int q2), (.int (q1 + (2 : Int32))), (.ref rb)])) _
    refine XS.iushr X3.here hx rfl (hb hby d4_25) rfl ?_
    show Steps p.tables e below (T3.setTop (mkF m 26 #[.val (.ref rb), .val (.int q1), .val (.int q2)] [(.int ((q2).toUInt32 >>> ((8 : Int32) &&& 31).toUInt32).toInt32), (.int (q1 + (2 : Int32))), (.ref rb)])) _
    refine XS.i2b X3.here hx rfl (hb hby d4_26) rfl ?_
    show Steps p.tables e below (T3.setTop (mkF m 27 #[.val (.ref rb), .val (.int q1), .val (.int q2)] [(.int (((q2).toUInt32 >>> ((8 : Int32) &&& 31).toUInt32).toInt32).toInt8.toInt32), (.int (q1 + (2 : Int32))), (.ref rb)])) _
    refine st5 _ ?_
    show Steps p.tables e below (T5.setTop (mkF m 28 #[.val (.ref rb), .val (.int q1), .val (.int q2)] [])) _
    refine XS.aloadN X5.here hx rfl (hb hby d4_28) rfl rfl ?_
    show Steps p.tables e below (T5.setTop (mkF m 29 #[.val (.ref rb), .val (.int q1), .val (.int q2)] [(.ref rb)])) _
    refine XS.iloadN X5.here hx rfl (hb hby d4_29) rfl ?_
    show Steps p.tables e below (T5.setTop (mkF m 30 #[.val (.ref rb), .val (.int q1), .val (.int q2)] [(.int q1), (.ref rb)])) _
    refine XS.iconst X5.here hx rfl (hb hby d4_30) ?_
    show Steps p.tables e below (T5.setTop (mkF m 31 #[.val (.ref rb), .val (.int q1), .val (.int q2)] [(.int (3 : Int32)), (.int q1), (.ref rb)])) _
    refine XS.iadd X5.here hx rfl (hb hby d4_31) rfl ?_
    show Steps p.tables e below (T5.setTop (mkF m 32 #[.val (.ref rb), .val (.int q1), .val (.int q2)] [(.int (q1 + (3 : Int32))), (.ref rb)])) _
    refine XS.iloadN X5.here hx rfl (hb hby d4_32) rfl ?_
    show Steps p.tables e below (T5.setTop (mkF m 33 #[.val (.ref rb), .val (.int q1), .val (.int q2)] [(.int q2), (.int (q1 + (3 : Int32))), (.ref rb)])) _
    refine XS.i2b X5.here hx rfl (hb hby d4_33) rfl ?_
    show Steps p.tables e below (T5.setTop (mkF m 34 #[.val (.ref rb), .val (.int q1), .val (.int q2)] [(.int (q2).toInt8.toInt32), (.int (q1 + (3 : Int32))), (.ref rb)])) _
    refine st7 _ ?_
    show Steps p.tables e below (T7.setTop (mkF m 35 #[.val (.ref rb), .val (.int q1), .val (.int q2)] [])) _
    exact X7.returnOut hx Bd.returns (hb hby d4_35) hr
  · show Q4 Z rb q1 q2 ys h0 n0 _ T7.heap _
    rw [e7]
    exact ⟨rfl, N7, K7, V7_n⟩
theorem ef_0 (m : MethodId) (q0 : Int32) (q1 : Int32) (q2 : Int32) (q3 : Int32) (q4 : Int32) (q5 : Int32) : entryFrame m #[(.int q0), (.int q1), (.int q2), (.int q3), (.int q4), (.int q5)] maxLocals = mkF m 0 #[.val (.int q0), .val (.int q1), .val (.int q2), .val (.int q3), .val (.int q4), .val (.int q5), .unset, .unset, .unset, .unset, .unset, .unset, .unset, .unset] [] := by first | (simp [entryFrame, mkF, argsToLocals, Value.category, maxLocals]; done) | rfl
theorem pd_5 : parseMethodDescriptor "([BI)V" = some ⟨[(.array .byte), .int], none⟩ := by decide +kernel
theorem pd_6 : parseMethodDescriptor "()Z" = some ⟨[], some .boolean⟩ := by decide +kernel
theorem pd_7 : parseMethodDescriptor "([BII)V" = some ⟨[(.array .byte), .int, .int], none⟩ := by decide +kernel
def own_f0 (q0 : Int32) (q1 : Int32) (q2 : Int32) (q3 : Int32) (q4 : Int32) (q5 : Int32) : Int32 := (if (q0 &&& (1 : Int32)) = (0 : Int32) then (if (q0 &&& (2 : Int32)) = (0 : Int32) then let v7 := ((q5 &&& (2147483647 : Int32)) % (33 : Int32))
  (if (own_f3  [(0 : Int32), (0 : Int32), (0 : Int32), (0 : Int32)]) = (1 : Int32) then (1 : Int32) else (0 : Int32)) else (if (own_f3  ((own_put ([(0 : Int32), (0 : Int32), (0 : Int32), (0 : Int32)]) ((0 : Int32)) q1))) = (1 : Int32) then (1 : Int32) else (0 : Int32))) else (if (q0 &&& (2 : Int32)) = (0 : Int32) then let v26 := ((q5 &&& (2147483647 : Int32)) % (129 : Int32))
  (if (own_f3  [(0 : Int32), (0 : Int32), (0 : Int32), (0 : Int32), (0 : Int32), (0 : Int32), (0 : Int32), (0 : Int32), (0 : Int32), (0 : Int32), (0 : Int32), (0 : Int32), (0 : Int32), (0 : Int32), (0 : Int32), (0 : Int32)]) = (0 : Int32) then (1 : Int32) else (0 : Int32)) else (if (own_f3  ((own_put ((own_put ((own_put ((own_put ([(0 : Int32), (0 : Int32), (0 : Int32), (0 : Int32), (0 : Int32), (0 : Int32), (0 : Int32), (0 : Int32), (0 : Int32), (0 : Int32), (0 : Int32), (0 : Int32), (0 : Int32), (0 : Int32), (0 : Int32), (0 : Int32)]) ((0 : Int32)) q1)) ((4 : Int32)) q2)) ((8 : Int32)) q3)) ((12 : Int32)) q4))) = (0 : Int32) then (1 : Int32) else (0 : Int32))))
def Q0 (Z : State) (q0 : Int32) (q1 : Int32) (q2 : Int32) (q3 : Int32) (q4 : Int32) (q5 : Int32)  (h0 : Heap) (n0 : Nat) (v : Option Value) (h : Heap) (L : List Loc) : Prop := v = some (.int (own_f0 q0 q1 q2 q3 q4 q5)) ∧ Fr n0 L
set_option maxRecDepth 65536 in
set_option maxHeartbeats 40000000 in
theorem rm0 (l : Launch) (Z : State) (a0 : Array Value) (hw : ∀ d ∈ tables_1, d.before a0 Z = true) (ws : List Jvm.Cond) (q0 : Int32) (q1 : Int32) (q2 : Int32) (q3 : Int32) (q4 : Int32) (q5 : Int32)  (h0 : Heap) (n0 : Nat) (Z0 : n0 ≤ h0.size)  :
    MetFree l x (head1 (Jvm.Cond.code x code maxLocals ret :: ws) room_1) (fun a U => a = #[(.int q0), (.int q1), (.int q2), (.int q3), (.int q4), (.int q5)] ∧ Z.Warmed39 U.vm ∧ U.heap = h0) (fun _ _ _ _ _ => True) (fun _ U o U' => ∃ v L, o = .returned v ∧ Q0 Z q0 q1 q2 q3 q4 q5 h0 n0 v U'.heap L ∧ FrameEnd U o U' L room_1.cells room_1.slots) := by
  refine MetFree.of_bodySF (plainFor_of_name pn_4) hisR ?_
  intro p e s m args below meth c s₁ Bd hml0 hP hK
  obtain ⟨rfl, hZ, hh⟩ := hP
  have hx := Bd.exec
  have hby := Bd.bytes
  have hml : c.maxLocals = 14 := hml0
  have hown : s.vm.findClass "com/example/stillframe/stillframe/ccr/IpPrefixIsIpv4PinLaw" = some m.cls := findClass_of_methodNamed Bd.named
  have hnm := (name_of_methodNamed Bd.named Bd.method).1
  have X0 : Stand p l e room_1 s m #[(.int q0), (.int q1), (.int q2), (.int q3), (.int q4), (.int q5)] below meth c s₁ [] 0 0 := Stand.of_body Bd
  have hlk : meth.locks = false := by first | exact BodyLoose.notSynchronized (by assumption) | exact Body.notSynchronized (by assumption)
  have e0 : s₁.heap = h0 := by rw [← hh, Bd.state]; rfl
  have N0 := Fr.nil n0
  have pre0 : ∀ t, Steps p.tables e below (s₁.setTop (mkF m 0 #[.val (.int q0), .val (.int q1), .val (.int q2), .val (.int q3), .val (.int q4), .val (.int q5), .unset, .unset, .unset, .unset, .unset, .unset, .unset, .unset] [])) t → Steps p.tables e below (s₁.setTop (entryFrame m #[(.int q0), (.int q1), (.int q2), (.int q3), (.int q4), (.int q5)] maxLocals)) t := fun t k => castTop (ef_0 m q0 q1 q2 q3 q4 q5) k
  have pre1 : ∀ t, Steps p.tables e below (s₁.setTop (mkF m 3 #[.val (.int q0), .val (.int q1), .val (.int q2), .val (.int q3), .val (.int q4), .val (.int q5), .unset, .unset, .unset, .unset, .unset, .unset, .unset, .unset] [(.int (q0 &&& (1 : Int32)))])) t → Steps p.tables e below (s₁.setTop (entryFrame m #[(.int q0), (.int q1), (.int q2), (.int q3), (.int q4), (.int q5)] maxLocals)) t := by
    intro t k
    refine pre0 t ?_
    show Steps p.tables e below (s₁.setTop (mkF m 0 #[.val (.int q0), .val (.int q1), .val (.int q2), .val (.int q3), .val (.int q4), .val (.int q5), .unset, .unset, .unset, .unset, .unset, .unset, .unset, .unset] [])) _
    refine XS.iloadN X0.here hx rfl (hb hby at_0) rfl ?_
    show Steps p.tables e below (s₁.setTop (mkF m 1 #[.val (.int q0), .val (.int q1), .val (.int q2), .val (.int q3), .val (.int q4), .val (.int q5), .unset, .unset, .unset, .unset, .unset, .unset, .unset, .unset] [(.int q0)])) _
    refine XS.iconst X0.here hx rfl (hb hby at_1) ?_
    show Steps p.tables e below (s₁.setTop (mkF m 2 #[.val (.int q0), .val (.int q1), .val (.int q2), .val (.int q3), .val (.int q4), .val (.int q5), .unset, .unset, .unset, .unset, .unset, .unset, .unset, .unset] [(.int (1 : Int32)), (.int q0)])) _
    refine XS.iand X0.here hx rfl (hb hby at_2) rfl ?_
    exact k
  by_cases c2 : (q0 &&& (1 : Int32)) = (0 : Int32)
  · have pre3 : ∀ t, Steps p.tables e below (s₁.setTop (mkF m 16 #[.val (.int q0), .val (.int q1), .val (.int q2), .val (.int q3), .val (.int q4), .val (.int q5), .val (.int (1 : Int32)), .unset, .unset, .unset, .unset, .unset, .unset, .unset] [(.int (q0 &&& (2 : Int32)))])) t → Steps p.tables e below (s₁.setTop (entryFrame m #[(.int q0), (.int q1), (.int q2), (.int q3), (.int q4), (.int q5)] maxLocals)) t := by
      intro t k
      refine pre1 t ?_
      show Steps p.tables e below (s₁.setTop (mkF m 3 #[.val (.int q0), .val (.int q1), .val (.int q2), .val (.int q3), .val (.int q4), .val (.int q5), .unset, .unset, .unset, .unset, .unset, .unset, .unset, .unset] [(.int (q0 &&& (1 : Int32)))])) _
      refine XS.ifNo X0.here hx rfl (hb hby at_3) rfl ((if0 _ _).trans (teq c2).2) ?_
      show Steps p.tables e below (s₁.setTop (mkF m 6 #[.val (.int q0), .val (.int q1), .val (.int q2), .val (.int q3), .val (.int q4), .val (.int q5), .unset, .unset, .unset, .unset, .unset, .unset, .unset, .unset] [])) _
      refine XS.iconst X0.here hx rfl (hb hby at_6) ?_
      show Steps p.tables e below (s₁.setTop (mkF m 7 #[.val (.int q0), .val (.int q1), .val (.int q2), .val (.int q3), .val (.int q4), .val (.int q5), .unset, .unset, .unset, .unset, .unset, .unset, .unset, .unset] [(.int (1 : Int32))])) _
      refine XS.goto X0.here hx rfl (pc0 := 7) (pc' := 11) rfl (hb hby at_7) (by decide) (by decide) ?_
      show Steps p.tables e below (s₁.setTop (mkF m 11 #[.val (.int q0), .val (.int q1), .val (.int q2), .val (.int q3), .val (.int q4), .val (.int q5), .unset, .unset, .unset, .unset, .unset, .unset, .unset, .unset] [(.int (1 : Int32))])) _
      refine XS.istore X0.here hx rfl (hb hby at_11) rfl (l' := #[.val (.int q0), .val (.int q1), .val (.int q2), .val (.int q3), .val (.int q4), .val (.int q5), .val (.int (1 : Int32)), .unset, .unset, .unset, .unset, .unset, .unset, .unset]) rfl ?_
      show Steps p.tables e below (s₁.setTop (mkF m 13 #[.val (.int q0), .val (.int q1), .val (.int q2), .val (.int q3), .val (.int q4), .val (.int q5), .val (.int (1 : Int32)), .unset, .unset, .unset, .unset, .unset, .unset, .unset] [])) _
      refine XS.iloadN X0.here hx rfl (hb hby at_13) rfl ?_
      show Steps p.tables e below (s₁.setTop (mkF m 14 #[.val (.int q0), .val (.int q1), .val (.int q2), .val (.int q3), .val (.int q4), .val (.int q5), .val (.int (1 : Int32)), .unset, .unset, .unset, .unset, .unset, .unset, .unset] [(.int q0)])) _
      refine XS.iconst X0.here hx rfl (hb hby at_14) ?_
      show Steps p.tables e below (s₁.setTop (mkF m 15 #[.val (.int q0), .val (.int q1), .val (.int q2), .val (.int q3), .val (.int q4), .val (.int q5), .val (.int (1 : Int32)), .unset, .unset, .unset, .unset, .unset, .unset, .unset] [(.int (2 : Int32)), (.int q0)])) _
      refine XS.iand X0.here hx rfl (hb hby at_15) rfl ?_
      exact k
    by_cases c4 : (q0 &&& (2 : Int32)) = (0 : Int32)
    · obtain ⟨T5, h5, cA5, X5, e5, E5, A5, st5⟩ := newP X0 hx hZ (aty := .byte) (hw _ (List.mem_of_getElem? (i := 0) rfl)) e0 (g := (mkF m 27 #[.val (.int q0), .val (.int q1), .val (.int q2), .val (.int q3), .val (.int q4), .val (.int q5), .val (.int (1 : Int32)), .val (.int (0 : Int32)), .unset, .unset, .unset, .unset, .unset, .unset] [(.int (4 : Int32))])) rfl (hb hby at_27) rfl (by decide) (cap := 4) (by decide) (by decide) (by decide) (by decide)
      obtain ⟨a5, g5⟩ : ∃ z, z = h0.size := ⟨_, rfl⟩
      rw [← g5] at A5 st5
      have ge_a5 : n0 ≤ a5 := g5 ▸ Z0
      have sz5 : n0 ≤ h5.size := Nat.le_trans Z0 E5.1
      have V5_n : own_AI Z h5 a5 .byte [(0 : Int32), (0 : Int32), (0 : Int32), (0 : Int32)] := own_AIbyte_new A5 (k := 4) (by decide)
      obtain ⟨T6, h6, cA6, X6, e6, E6, A6, st6⟩ := newP X5 hx hZ (aty := .byte) (hw _ (List.mem_of_getElem? (i := 0) rfl)) e5 (g := (mkF m 33 #[.val (.int q0), .val (.int q1), .val (.int q2), .val (.int q3), .val (.int q4), .val (.int q5), .val (.int (1 : Int32)), .val (.int (0 : Int32)), .val (.ref a5), .unset, .unset, .unset, .unset, .unset] [(.int (16 : Int32))])) rfl (hb hby at_33) rfl (by decide) (cap := 16) (by decide) (by decide) (by decide) (by decide)
      obtain ⟨a6, g6⟩ : ∃ z, z = h5.size := ⟨_, rfl⟩
      rw [← g6] at A6 st6
      have ne_a5_a6 : a5 ≠ a6 := g6 ▸ Nat.ne_of_lt V5_n.lt
      have ge_a6 : n0 ≤ a6 := g6 ▸ sz5
      have V6_a5 : own_AI Z h6 a5 .byte [(0 : Int32), (0 : Int32), (0 : Int32), (0 : Int32)] := V5_n.ext E6
      have sz6 : n0 ≤ h6.size := Nat.le_trans sz5 E6.1
      have V6_n : own_AI Z h6 a6 .byte [(0 : Int32), (0 : Int32), (0 : Int32), (0 : Int32), (0 : Int32), (0 : Int32), (0 : Int32), (0 : Int32), (0 : Int32), (0 : Int32), (0 : Int32), (0 : Int32), (0 : Int32), (0 : Int32), (0 : Int32), (0 : Int32)] := own_AIbyte_new A6 (k := 16) (by decide)
      obtain ⟨v7, hv7⟩ : ∃ z : Int32, z = ((q5 &&& (2147483647 : Int32)) % (33 : Int32)) := ⟨_, rfl⟩
      have pre8 : ∀ t, Steps p.tables e below (T6.setTop (mkF m 124 #[.val (.int q0), .val (.int q1), .val (.int q2), .val (.int q3), .val (.int q4), .val (.int q5), .val (.int (1 : Int32)), .val (.int (0 : Int32)), .val (.ref a5), .val (.ref a6), .val (.ref a5), .val (.int (32 : Int32)), .unset, .unset] [(.int v7)])) t → Steps p.tables e below (s₁.setTop (entryFrame m #[(.int q0), (.int q1), (.int q2), (.int q3), (.int q4), (.int q5)] maxLocals)) t := by
        rw [hv7]
        intro t k
        refine pre3 t ?_
        show Steps p.tables e below (s₁.setTop (mkF m 16 #[.val (.int q0), .val (.int q1), .val (.int q2), .val (.int q3), .val (.int q4), .val (.int q5), .val (.int (1 : Int32)), .unset, .unset, .unset, .unset, .unset, .unset, .unset] [(.int (q0 &&& (2 : Int32)))])) _
        refine XS.ifYes X0.here hx rfl (pc0 := 16) (pc' := 23) rfl (hb hby at_16) rfl ((if0 _ _).trans (teq c4).1) (by decide) (by decide) ?_
        show Steps p.tables e below (s₁.setTop (mkF m 23 #[.val (.int q0), .val (.int q1), .val (.int q2), .val (.int q3), .val (.int q4), .val (.int q5), .val (.int (1 : Int32)), .unset, .unset, .unset, .unset, .unset, .unset, .unset] [])) _
        refine XS.iconst X0.here hx rfl (hb hby at_23) ?_
        show Steps p.tables e below (s₁.setTop (mkF m 24 #[.val (.int q0), .val (.int q1), .val (.int q2), .val (.int q3), .val (.int q4), .val (.int q5), .val (.int (1 : Int32)), .unset, .unset, .unset, .unset, .unset, .unset, .unset] [(.int (0 : Int32))])) _
        refine XS.istore X0.here hx rfl (hb hby at_24) rfl (l' := #[.val (.int q0), .val (.int q1), .val (.int q2), .val (.int q3), .val (.int q4), .val (.int q5), .val (.int (1 : Int32)), .val (.int (0 : Int32)), .unset, .unset, .unset, .unset, .unset, .unset]) rfl ?_
        show Steps p.tables e below (s₁.setTop (mkF m 26 #[.val (.int q0), .val (.int q1), .val (.int q2), .val (.int q3), .val (.int q4), .val (.int q5), .val (.int (1 : Int32)), .val (.int (0 : Int32)), .unset, .unset, .unset, .unset, .unset, .unset] [])) _
        refine XS.iconst X0.here hx rfl (hb hby at_26) ?_
        show Steps p.tables e below (s₁.setTop (mkF m 27 #[.val (.int q0), .val (.int q1), .val (.int q2), .val (.int q3), .val (.int q4), .val (.int q5), .val (.int (1 : Int32)), .val (.int (0 : Int32)), .unset, .unset, .unset, .unset, .unset, .unset] [(.int (4 : Int32))])) _
        refine st5 _ ?_
        show Steps p.tables e below (T5.setTop (mkF m 29 #[.val (.int q0), .val (.int q1), .val (.int q2), .val (.int q3), .val (.int q4), .val (.int q5), .val (.int (1 : Int32)), .val (.int (0 : Int32)), .unset, .unset, .unset, .unset, .unset, .unset] [(.ref a5)])) _
        refine XS.astore X5.here hx rfl (hb hby at_29) rfl rfl (l' := #[.val (.int q0), .val (.int q1), .val (.int q2), .val (.int q3), .val (.int q4), .val (.int q5), .val (.int (1 : Int32)), .val (.int (0 : Int32)), .val (.ref a5), .unset, .unset, .unset, .unset, .unset]) rfl ?_
        show Steps p.tables e below (T5.setTop (mkF m 31 #[.val (.int q0), .val (.int q1), .val (.int q2), .val (.int q3), .val (.int q4), .val (.int q5), .val (.int (1 : Int32)), .val (.int (0 : Int32)), .val (.ref a5), .unset, .unset, .unset, .unset, .unset] [])) _
        refine XS.bipush X5.here hx rfl (hb hby at_31) ?_
        show Steps p.tables e below (T5.setTop (mkF m 33 #[.val (.int q0), .val (.int q1), .val (.int q2), .val (.int q3), .val (.int q4), .val (.int q5), .val (.int (1 : Int32)), .val (.int (0 : Int32)), .val (.ref a5), .unset, .unset, .unset, .unset, .unset] [(.int (16 : Int32))])) _
        refine st6 _ ?_
        show Steps p.tables e below (T6.setTop (mkF m 35 #[.val (.int q0), .val (.int q1), .val (.int q2), .val (.int q3), .val (.int q4), .val (.int q5), .val (.int (1 : Int32)), .val (.int (0 : Int32)), .val (.ref a5), .unset, .unset, .unset, .unset, .unset] [(.ref a6)])) _
        refine XS.astore X6.here hx rfl (hb hby at_35) rfl rfl (l' := #[.val (.int q0), .val (.int q1), .val (.int q2), .val (.int q3), .val (.int q4), .val (.int q5), .val (.int (1 : Int32)), .val (.int (0 : Int32)), .val (.ref a5), .val (.ref a6), .unset, .unset, .unset, .unset]) rfl ?_
        show Steps p.tables e below (T6.setTop (mkF m 37 #[.val (.int q0), .val (.int q1), .val (.int q2), .val (.int q3), .val (.int q4), .val (.int q5), .val (.int (1 : Int32)), .val (.int (0 : Int32)), .val (.ref a5), .val (.ref a6), .unset, .unset, .unset, .unset] [])) _
        refine XS.iload X6.here hx rfl (hb hby at_37) rfl ?_
        show Steps p.tables e below (T6.setTop (mkF m 39 #[.val (.int q0), .val (.int q1), .val (.int q2), .val (.int q3), .val (.int q4), .val (.int q5), .val (.int (1 : Int32)), .val (.int (0 : Int32)), .val (.ref a5), .val (.ref a6), .unset, .unset, .unset, .unset] [(.int (1 : Int32))])) _
        refine XS.ifNo X6.here hx rfl (hb hby at_39) rfl (by decide) ?_
        show Steps p.tables e below (T6.setTop (mkF m 42 #[.val (.int q0), .val (.int q1), .val (.int q2), .val (.int q3), .val (.int q4), .val (.int q5), .val (.int (1 : Int32)), .val (.int (0 : Int32)), .val (.ref a5), .val (.ref a6), .unset, .unset, .unset, .unset] [])) _
        refine XS.aload X6.here hx rfl (hb hby at_42) rfl rfl ?_
        show Steps p.tables e below (T6.setTop (mkF m 44 #[.val (.int q0), .val (.int q1), .val (.int q2), .val (.int q3), .val (.int q4), .val (.int q5), .val (.int (1 : Int32)), .val (.int (0 : Int32)), .val (.ref a5), .val (.ref a6), .unset, .unset, .unset, .unset] [(.ref a5)])) _
        refine XS.goto X6.here hx rfl (pc0 := 44) (pc' := 49) rfl (hb hby at_44) (by decide) (by decide) ?_
        show Steps p.tables e below (T6.setTop (mkF m 49 #[.val (.int q0), .val (.int q1), .val (.int q2), .val (.int q3), .val (.int q4), .val (.int q5), .val (.int (1 : Int32)), .val (.int (0 : Int32)), .val (.ref a5), .val (.ref a6), .unset, .unset, .unset, .unset] [(.ref a5)])) _
        refine XS.astore X6.here hx rfl (hb hby at_49) rfl rfl (l' := #[.val (.int q0), .val (.int q1), .val (.int q2), .val (.int q3), .val (.int q4), .val (.int q5), .val (.int (1 : Int32)), .val (.int (0 : Int32)), .val (.ref a5), .val (.ref a6), .val (.ref a5), .unset, .unset, .unset]) rfl ?_
        show Steps p.tables e below (T6.setTop (mkF m 51 #[.val (.int q0), .val (.int q1), .val (.int q2), .val (.int q3), .val (.int q4), .val (.int q5), .val (.int (1 : Int32)), .val (.int (0 : Int32)), .val (.ref a5), .val (.ref a6), .val (.ref a5), .unset, .unset, .unset] [])) _
        refine XS.iload X6.here hx rfl (hb hby at_51) rfl ?_
        show Steps p.tables e below (T6.setTop (mkF m 53 #[.val (.int q0), .val (.int q1), .val (.int q2), .val (.int q3), .val (.int q4), .val (.int q5), .val (.int (1 : Int32)), .val (.int (0 : Int32)), .val (.ref a5), .val (.ref a6), .val (.ref a5), .unset, .unset, .unset] [(.int (1 : Int32))])) _
        refine XS.ifNo X6.here hx rfl (hb hby at_53) rfl (by decide) ?_
        show Steps p.tables e below (T6.setTop (mkF m 56 #[.val (.int q0), .val (.int q1), .val (.int q2), .val (.int q3), .val (.int q4), .val (.int q5), .val (.int (1 : Int32)), .val (.int (0 : Int32)), .val (.ref a5), .val (.ref a6), .val (.ref a5), .unset, .unset, .unset] [])) _
        refine XS.bipush X6.here hx rfl (hb hby at_56) ?_
        show Steps p.tables e below (T6.setTop (mkF m 58 #[.val (.int q0), .val (.int q1), .val (.int q2), .val (.int q3), .val (.int q4), .val (.int q5), .val (.int (1 : Int32)), .val (.int (0 : Int32)), .val (.ref a5), .val (.ref a6), .val (.ref a5), .unset, .unset, .unset] [(.int (32 : Int32))])) _
        refine XS.goto X6.here hx rfl (pc0 := 58) (pc' := 64) rfl (hb hby at_58) (by decide) (by decide) ?_
        show Steps p.tables e below (T6.setTop (mkF m 64 #[.val (.int q0), .val (.int q1), .val (.int q2), .val (.int q3), .val (.int q4), .val (.int q5), .val (.int (1 : Int32)), .val (.int (0 : Int32)), .val (.ref a5), .val (.ref a6), .val (.ref a5), .unset, .unset, .unset] [(.int (32 : Int32))])) _
        refine XS.istore X6.here hx rfl (hb hby at_64) rfl (l' := #[.val (.int q0), .val (.int q1), .val (.int q2), .val (.int q3), .val (.int q4), .val (.int q5), .val (.int (1 : Int32)), .val (.int (0 : Int32)), .val (.ref a5), .val (.ref a6), .val (.ref a5), .val (.int (32 : Int32)), .unset, .unset]) rfl ?_
        show Steps p.tables e below (T6.setTop (mkF m 66 #[.val (.int q0), .val (.int q1), .val (.int q2), .val (.int q3), .val (.int q4), .val (.int q5), .val (.int (1 : Int32)), .val (.int (0 : Int32)), .val (.ref a5), .val (.ref a6), .val (.ref a5), .val (.int (32 : Int32)), .unset, .unset] [])) _
        refine XS.iload X6.here hx rfl (hb hby at_66) rfl ?_
        show Steps p.tables e below (T6.setTop (mkF m 68 #[.val (.int q0), .val (.int q1), .val (.int q2), .val (.int q3), .val (.int q4), .val (.int q5), .val (.int (1 : Int32)), .val (.int (0 : Int32)), .val (.ref a5), .val (.ref a6), .val (.ref a5), .val (.int (32 : Int32)), .unset, .unset] [(.int (0 : Int32))])) _
        refine XS.ifYes X6.here hx rfl (pc0 := 68) (pc' := 114) rfl (hb hby at_68) rfl (by decide) (by decide) (by decide) ?_
        show Steps p.tables e below (T6.setTop (mkF m 114 #[.val (.int q0), .val (.int q1), .val (.int q2), .val (.int q3), .val (.int q4), .val (.int q5), .val (.int (1 : Int32)), .val (.int (0 : Int32)), .val (.ref a5), .val (.ref a6), .val (.ref a5), .val (.int (32 : Int32)), .unset, .unset] [])) _
        refine XS.iload X6.here hx rfl (hb hby at_114) rfl ?_
        show Steps p.tables e below (T6.setTop (mkF m 116 #[.val (.int q0), .val (.int q1), .val (.int q2), .val (.int q3), .val (.int q4), .val (.int q5), .val (.int (1 : Int32)), .val (.int (0 : Int32)), .val (.ref a5), .val (.ref a6), .val (.ref a5), .val (.int (32 : Int32)), .unset, .unset] [(.int q5)])) _
        refine X6.ldcInt hx hown (mvT hZ (hw _ (List.mem_of_getElem? (i := 1) rfl))) (g := (mkF m 116 #[.val (.int q0), .val (.int q1), .val (.int q2), .val (.int q3), .val (.int q4), .val (.int q5), .val (.int (1 : Int32)), .val (.int (0 : Int32)), .val (.ref a5), .val (.ref a6), .val (.ref a5), .val (.int (32 : Int32)), .unset, .unset] [(.int q5)])) rfl (hb hby at_116) _ ?_
        show Steps p.tables e below (T6.setTop (mkF m 118 #[.val (.int q0), .val (.int q1), .val (.int q2), .val (.int q3), .val (.int q4), .val (.int q5), .val (.int (1 : Int32)), .val (.int (0 : Int32)), .val (.ref a5), .val (.ref a6), .val (.ref a5), .val (.int (32 : Int32)), .unset, .unset] [(.int (2147483647 : Int32)), (.int q5)])) _
        refine XS.iand X6.here hx rfl (hb hby at_118) rfl ?_
        show Steps p.tables e below (T6.setTop (mkF m 119 #[.val (.int q0), .val (.int q1), .val (.int q2), .val (.int q3), .val (.int q4), .val (.int q5), .val (.int (1 : Int32)), .val (.int (0 : Int32)), .val (.ref a5), .val (.ref a6), .val (.ref a5), .val (.int (32 : Int32)), .unset, .unset] [(.int (q5 &&& (2147483647 : Int32)))])) _
        refine XS.iload X6.here hx rfl (hb hby at_119) rfl ?_
        show Steps p.tables e below (T6.setTop (mkF m 121 #[.val (.int q0), .val (.int q1), .val (.int q2), .val (.int q3), .val (.int q4), .val (.int q5), .val (.int (1 : Int32)), .val (.int (0 : Int32)), .val (.ref a5), .val (.ref a6), .val (.ref a5), .val (.int (32 : Int32)), .unset, .unset] [(.int (32 : Int32)), (.int (q5 &&& (2147483647 : Int32)))])) _
        refine XS.iconst X6.here hx rfl (hb hby at_121) ?_
        show Steps p.tables e below (T6.setTop (mkF m 122 #[.val (.int q0), .val (.int q1), .val (.int q2), .val (.int q3), .val (.int q4), .val (.int q5), .val (.int (1 : Int32)), .val (.int (0 : Int32)), .val (.ref a5), .val (.ref a6), .val (.ref a5), .val (.int (32 : Int32)), .unset, .unset] [(.int (1 : Int32)), (.int (32 : Int32)), (.int (q5 &&& (2147483647 : Int32)))])) _
        refine XS.iadd X6.here hx rfl (hb hby at_122) rfl ?_
        show Steps p.tables e below (T6.setTop (mkF m 123 #[.val (.int q0), .val (.int q1), .val (.int q2), .val (.int q3), .val (.int q4), .val (.int q5), .val (.int (1 : Int32)), .val (.int (0 : Int32)), .val (.ref a5), .val (.ref a6), .val (.ref a5), .val (.int (32 : Int32)), .unset, .unset] [(.int (33 : Int32)), (.int (q5 &&& (2147483647 : Int32)))])) _
        refine iremM X6 hx rfl (hb hby at_123) rfl (by decide) ?_
        exact k
      obtain ⟨T9, h9, X9, e9, E9, A9, D9, -, st9⟩ := newO X6 hx hZ hown (hw _ (List.mem_of_getElem? (i := 2) rfl)) (hw _ (List.mem_of_getElem? (i := 3) rfl)) (hw _ (List.mem_of_getElem? (i := 4) rfl)) e6 (g := (mkF m 126 #[.val (.int q0), .val (.int q1), .val (.int q2), .val (.int q3), .val (.int q4), .val (.int q5), .val (.int (1 : Int32)), .val (.int (0 : Int32)), .val (.ref a5), .val (.ref a6), .val (.ref a5), .val (.int (32 : Int32)), .val (.int v7), .unset] [])) rfl (hb hby at_126) (by decide) (by decide)
      obtain ⟨a9, g9⟩ : ∃ z, z = h6.size := ⟨_, rfl⟩
      rw [← g9] at A9 D9 st9
      have ne_a5_a9 : a5 ≠ a9 := g9 ▸ Nat.ne_of_lt V6_a5.lt
      have ne_a6_a9 : a6 ≠ a9 := g9 ▸ Nat.ne_of_lt V6_n.lt
      have ge_a9 : n0 ≤ a9 := g9 ▸ sz6
      have V9_a5 : own_AI Z h9 a5 .byte [(0 : Int32), (0 : Int32), (0 : Int32), (0 : Int32)] := V6_a5.ext E9
      have V9_a6 : own_AI Z h9 a6 .byte [(0 : Int32), (0 : Int32), (0 : Int32), (0 : Int32), (0 : Int32), (0 : Int32), (0 : Int32), (0 : Int32), (0 : Int32), (0 : Int32), (0 : Int32), (0 : Int32), (0 : Int32), (0 : Int32), (0 : Int32), (0 : Int32)] := V6_n.ext E9
      have sz9 : n0 ≤ h9.size := Nat.le_trans sz6 E9.1
      have F9_n0 : Fld Z h9 a9 "com/example/stillframe/stillframe/ccr/IpPrefix" "address" "[B" .null := D9 (Or.inr (hw _ (List.mem_of_getElem? (i := 12) rfl))) (ty := (.array .byte)) (by decide)
      have F9_n1 : Fld Z h9 a9 "com/example/stillframe/stillframe/ccr/IpPrefix" "length" "I" (.int (0 : Int32)) := D9 (Or.inr (hw _ (List.mem_of_getElem? (i := 14) rfl))) (ty := .int) (by decide)
      obtain ⟨_, _, ⟨T10, L10, k10, n10⟩, -, X10, ⟨Lc10, hQ10, l10, y10, z10⟩, st10⟩ := X9.specialBack hx (y := (⟨"com/example/stillframe/stillframe/ccr/IpPrefix", "<init>", "([BI)V"⟩ : MethodName)) rfl hown (mvT hZ (hw _ (List.mem_of_getElem? (i := 5) rfl))) (mvT hZ (hw _ (List.mem_of_getElem? (i := 6) rfl))) (mvT hZ (hw _ (List.mem_of_getElem? (i := 7) rfl))) (by decide) (backOf (W := 1) (rm1 l Z a0 hw [] a9 a5 v7  h9 n0 sz9 A9 F9_n0 F9_n1 ge_a9 ) hZ (hw _ (List.mem_of_getElem? (i := 7) rfl)) (hw _ (List.mem_of_getElem? (i := 4) rfl)) (by decide) (by decide)) (g := (mkF m 134 #[.val (.int q0), .val (.int q1), .val (.int q2), .val (.int q3), .val (.int q4), .val (.int q5), .val (.int (1 : Int32)), .val (.int (0 : Int32)), .val (.ref a5), .val (.ref a6), .val (.ref a5), .val (.int (32 : Int32)), .val (.int v7), .unset] [(.int v7), (.ref a5), (.ref a9), (.ref a9)])) rfl (by rw [hml]; rfl) (Steps.refl _) (a := a9) (argsL := [(.ref a5), (.int v7)]) (rest := [(.ref a9)]) (lenOf pd_5 rfl) rfl (by show 2 * 0 + _ ≤ _; exact Nat.le_of_eq rfl) (hb hby at_134) (fun _ _ => ⟨rfl, e9, (by decide : 3 + 0 ≤ _), (by decide : 22 + 0 ≤ _)⟩)
      dsimp only [Pt.U, Pt.locs, Pt.cells, Pt.slots] at X10 l10 y10 z10 st10 hQ10
      subst l10 y10 z10
      obtain ⟨rfl, N10q, K10, A10_o0, F10_o0, F10_o1⟩ := hQ10
      obtain ⟨h10, e10⟩ : ∃ z, T10.heap = z := ⟨_, rfl⟩
      rw [e10] at K10 A10_o0 F10_o0 F10_o1
      have V10_a5 : own_AI Z h10 a5 .byte [(0 : Int32), (0 : Int32), (0 : Int32), (0 : Int32)] := V9_a5.keep K10 (ninS ne_a5_a9 nin0)
      have V10_a6 : own_AI Z h10 a6 .byte [(0 : Int32), (0 : Int32), (0 : Int32), (0 : Int32), (0 : Int32), (0 : Int32), (0 : Int32), (0 : Int32), (0 : Int32), (0 : Int32), (0 : Int32), (0 : Int32), (0 : Int32), (0 : Int32), (0 : Int32), (0 : Int32)] := V9_a6.keep K10 (ninS ne_a6_a9 nin0)
      have A10_a9 : Exa Z h10 a9 "com/example/stillframe/stillframe/ccr/IpPrefix" := A9.keep K10
      have sz10 : n0 ≤ h10.size := Nat.le_trans sz9 K10.1
      have N10 := Fr.app N0 N10q
      obtain ⟨cq11, kq11, q11a, q11b, q11c⟩ := isOf hZ e10 A10_o0
      obtain ⟨_, _, ⟨T11, L11, k11, n11⟩, -, X11, ⟨Lc11, hQ11, l11, y11, z11⟩, st11⟩ := X10.virtualBack hx (y := (⟨"com/example/stillframe/stillframe/ccr/IpPrefix", "isIpv4", "()Z"⟩ : MethodName)) (z := (⟨"com/example/stillframe/stillframe/ccr/IpPrefix", "isIpv4", "()Z"⟩ : MethodName)) hown (mvT hZ (hw _ (List.mem_of_getElem? (i := 15) rfl))) (mvT hZ (hw _ (List.mem_of_getElem? (i := 16) rfl))) (notFace_of_selects (args := #[]) (mvT hZ (hw _ (List.mem_of_getElem? (i := 18) rfl)))) (mvT hZ (hw _ (List.mem_of_getElem? (i := 18) rfl))) (mvT hZ (hw _ (List.mem_of_getElem? (i := 17) rfl))) (by decide) (backOf (W := 0) (rm3 l Z a0 hw [] a9 a5 [(0 : Int32), (0 : Int32), (0 : Int32), (0 : Int32)] h10 n0 sz10 V10_a5 A10_o0 F10_o0 ) hZ (hw _ (List.mem_of_getElem? (i := 19) rfl)) (hw _ (List.mem_of_getElem? (i := 4) rfl)) (by decide) (by decide)) q11a q11c (g := (mkF m 141 #[.val (.int q0), .val (.int q1), .val (.int q2), .val (.int q3), .val (.int q4), .val (.int q5), .val (.int (1 : Int32)), .val (.int (0 : Int32)), .val (.ref a5), .val (.ref a6), .val (.ref a5), .val (.int (32 : Int32)), .val (.int v7), .val (.ref a9)] [(.ref a9)])) rfl (by rw [hml]; rfl) (Steps.refl _) (argsL := []) (rest := []) (lenOf pd_6 rfl) rfl (by show 2 * 0 + _ ≤ _; exact Nat.le_of_eq rfl) (hb hby at_141) (fun _ _ => ⟨rfl, e10, (by decide : 3 + 0 ≤ _), (by decide : 22 + 0 ≤ _)⟩)
      dsimp only [Pt.U, Pt.locs, Pt.cells, Pt.slots] at X11 l11 y11 z11 st11 hQ11
      subst l11 y11 z11
      obtain ⟨rfl, N11q, e11⟩ := hQ11
      have N11 := Fr.app N10 N11q
      have pre12 : ∀ t, Steps p.tables e below (T11.setTop (mkF m 146 #[.val (.int q0), .val (.int q1), .val (.int q2), .val (.int q3), .val (.int q4), .val (.int q5), .val (.int (1 : Int32)), .val (.int (0 : Int32)), .val (.ref a5), .val (.ref a6), .val (.ref a5), .val (.int (32 : Int32)), .val (.int v7), .val (.ref a9)] [(.int (1 : Int32)), (.int (own_f3  [(0 : Int32), (0 : Int32), (0 : Int32), (0 : Int32)]))])) t → Steps p.tables e below (s₁.setTop (entryFrame m #[(.int q0), (.int q1), (.int q2), (.int q3), (.int q4), (.int q5)] maxLocals)) t := by
        intro t k
        refine pre8 t ?_
        show Steps p.tables e below (T6.setTop (mkF m 124 #[.val (.int q0), .val (.int q1), .val (.int q2), .val (.int q3), .val (.int q4), .val (.int q5), .val (.int (1 : Int32)), .val (.int (0 : Int32)), .val (.ref a5), .val (.ref a6), .val (.ref a5), .val (.int (32 : Int32)), .unset, .unset] [(.int v7)])) _
        refine XS.istore X6.here hx rfl (hb hby at_124) rfl (l' := #[.val (.int q0), .val (.int q1), .val (.int q2), .val (.int q3), .val (.int q4), .val (.int q5), .val (.int (1 : Int32)), .val (.int (0 : Int32)), .val (.ref a5), .val (.ref a6), .val (.ref a5), .val (.int (32 : Int32)), .val (.int v7), .unset]) rfl ?_
        show Steps p.tables e below (T6.setTop (mkF m 126 #[.val (.int q0), .val (.int q1), .val (.int q2), .val (.int q3), .val (.int q4), .val (.int q5), .val (.int (1 : Int32)), .val (.int (0 : Int32)), .val (.ref a5), .val (.ref a6), .val (.ref a5), .val (.int (32 : Int32)), .val (.int v7), .unset] [])) _
        refine st9 _ ?_
        show Steps p.tables e below (T9.setTop (mkF m 129 #[.val (.int q0), .val (.int q1), .val (.int q2), .val (.int q3), .val (.int q4), .val (.int q5), .val (.int (1 : Int32)), .val (.int (0 : Int32)), .val (.ref a5), .val (.ref a6), .val (.ref a5), .val (.int (32 : Int32)), .val (.int v7), .unset] [(.ref a9)])) _
        refine XS.dup X9.here hx rfl (hb hby at_129) rfl rfl ?_
        show Steps p.tables e below (T9.setTop (mkF m 130 #[.val (.int q0), .val (.int q1), .val (.int q2), .val (.int q3), .val (.int q4), .val (.int q5), .val (.int (1 : Int32)), .val (.int (0 : Int32)), .val (.ref a5), .val (.ref a6), .val (.ref a5), .val (.int (32 : Int32)), .val (.int v7), .unset] [(.ref a9), (.ref a9)])) _
        refine XS.aload X9.here hx rfl (hb hby at_130) rfl rfl ?_
        show Steps p.tables e below (T9.setTop (mkF m 132 #[.val (.int q0), .val (.int q1), .val (.int q2), .val (.int q3), .val (.int q4), .val (.int q5), .val (.int (1 : Int32)), .val (.int (0 : Int32)), .val (.ref a5), .val (.ref a6), .val (.ref a5), .val (.int (32 : Int32)), .val (.int v7), .unset] [(.ref a5), (.ref a9), (.ref a9)])) _
        refine XS.iload X9.here hx rfl (hb hby at_132) rfl ?_
        show Steps p.tables e below (T9.setTop (mkF m 134 #[.val (.int q0), .val (.int q1), .val (.int q2), .val (.int q3), .val (.int q4), .val (.int q5), .val (.int (1 : Int32)), .val (.int (0 : Int32)), .val (.ref a5), .val (.ref a6), .val (.ref a5), .val (.int (32 : Int32)), .val (.int v7), .unset] [(.int v7), (.ref a5), (.ref a9), (.ref a9)])) _
        refine st10.trans ?_
        show Steps p.tables e below (T10.setTop (mkF m 137 #[.val (.int q0), .val (.int q1), .val (.int q2), .val (.int q3), .val (.int q4), .val (.int q5), .val (.int (1 : Int32)), .val (.int (0 : Int32)), .val (.ref a5), .val (.ref a6), .val (.ref a5), .val (.int (32 : Int32)), .val (.int v7), .unset] [(.ref a9)])) _
        refine XS.astore X10.here hx rfl (hb hby at_137) rfl rfl (l' := #[.val (.int q0), .val (.int q1), .val (.int q2), .val (.int q3), .val (.int q4), .val (.int q5), .val (.int (1 : Int32)), .val (.int (0 : Int32)), .val (.ref a5), .val (.ref a6), .val (.ref a5), .val (.int (32 : Int32)), .val (.int v7), .val (.ref a9)]) rfl ?_
        show Steps p.tables e below (T10.setTop (mkF m 139 #[.val (.int q0), .val (.int q1), .val (.int q2), .val (.int q3), .val (.int q4), .val (.int q5), .val (.int (1 : Int32)), .val (.int (0 : Int32)), .val (.ref a5), .val (.ref a6), .val (.ref a5), .val (.int (32 : Int32)), .val (.int v7), .val (.ref a9)] [])) _
        refine XS.aload X10.here hx rfl (hb hby at_139) rfl rfl ?_
        show Steps p.tables e below (T10.setTop (mkF m 141 #[.val (.int q0), .val (.int q1), .val (.int q2), .val (.int q3), .val (.int q4), .val (.int q5), .val (.int (1 : Int32)), .val (.int (0 : Int32)), .val (.ref a5), .val (.ref a6), .val (.ref a5), .val (.int (32 : Int32)), .val (.int v7), .val (.ref a9)] [(.ref a9)])) _
        refine st11.trans ?_
        show Steps p.tables e below (T11.setTop (mkF m 144 #[.val (.int q0), .val (.int q1), .val (.int q2), .val (.int q3), .val (.int q4), .val (.int q5), .val (.int (1 : Int32)), .val (.int (0 : Int32)), .val (.ref a5), .val (.ref a6), .val (.ref a5), .val (.int (32 : Int32)), .val (.int v7), .val (.ref a9)] [(.int (own_f3  [(0 : Int32), (0 : Int32), (0 : Int32), (0 : Int32)]))])) _
        refine XS.iload X11.here hx rfl (hb hby at_144) rfl ?_
        exact k
      by_cases c13 : (own_f3  [(0 : Int32), (0 : Int32), (0 : Int32), (0 : Int32)]) = (1 : Int32)
      · obtain ⟨fs, hr, hrun, hended, hW, hsame⟩ := X11.leave (v := some (.int (1 : Int32))) (fun h => by rw [Bd.returns] at h; cases h) hlk
        refine ⟨_, _, pre12 _ ?_, hrun, hended, _, _, rfl, ?_, ⟨_, rfl⟩, hW, hsame.mono (by decide) (by decide)⟩
        · show Steps p.tables e below (T11.setTop (mkF m 146 #[.val (.int q0), .val (.int q1), .val (.int q2), .val (.int q3), .val (.int q4), .val (.int q5), .val (.int (1 : Int32)), .val (.int (0 : Int32)), .val (.ref a5), .val (.ref a6), .val (.ref a5), .val (.int (32 : Int32)), .val (.int v7), .val (.ref a9)] [(.int (1 : Int32)), (.int (own_f3  [(0 : Int32), (0 : Int32), (0 : Int32), (0 : Int32)]))])) _
          refine XS.icmpNo X11.here hx rfl (hb hby at_146) rfl ((teq c13).2) ?_
          show Steps p.tables e below (T11.setTop (mkF m 149 #[.val (.int q0), .val (.int q1), .val (.int q2), .val (.int q3), .val (.int q4), .val (.int q5), .val (.int (1 : Int32)), .val (.int (0 : Int32)), .val (.ref a5), .val (.ref a6), .val (.ref a5), .val (.int (32 : Int32)), .val (.int v7), .val (.ref a9)] [])) _
          refine XS.iconst X11.here hx rfl (hb hby at_149) ?_
          show Steps p.tables e below (T11.setTop (mkF m 150 #[.val (.int q0), .val (.int q1), .val (.int q2), .val (.int q3), .val (.int q4), .val (.int q5), .val (.int (1 : Int32)), .val (.int (0 : Int32)), .val (.ref a5), .val (.ref a6), .val (.ref a5), .val (.int (32 : Int32)), .val (.int v7), .val (.ref a9)] [(.int (1 : Int32))])) _
          refine XS.goto X11.here hx rfl (pc0 := 150) (pc' := 154) rfl (hb hby at_150) (by decide) (by decide) ?_
          show Steps p.tables e below (T11.setTop (mkF m 154 #[.val (.int q0), .val (.int q1), .val (.int q2), .val (.int q3), .val (.int q4), .val (.int q5), .val (.int (1 : Int32)), .val (.int (0 : Int32)), .val (.ref a5), .val (.ref a6), .val (.ref a5), .val (.int (32 : Int32)), .val (.int v7), .val (.ref a9)] [(.int (1 : Int32))])) _
          exact retN X11 hx (t := .boolean) Bd.returns (by simp) (hb hby at_154) hr
        · show Q0 Z q0 q1 q2 q3 q4 q5 h0 n0 _ T11.heap _
          rw [e11]
          exact ⟨by have w_hv7 := hv7.symm; subst w_hv7; simp only [own_f0, if_pos c2, if_pos c4, if_pos c13], N11⟩
      · obtain ⟨fs, hr, hrun, hended, hW, hsame⟩ := X11.leave (v := some (.int (0 : Int32))) (fun h => by rw [Bd.returns] at h; cases h) hlk
        refine ⟨_, _, pre12 _ ?_, hrun, hended, _, _, rfl, ?_, ⟨_, rfl⟩, hW, hsame.mono (by decide) (by decide)⟩
        · show Steps p.tables e below (T11.setTop (mkF m 146 #[.val (.int q0), .val (.int q1), .val (.int q2), .val (.int q3), .val (.int q4), .val (.int q5), .val (.int (1 : Int32)), .val (.int (0 : Int32)), .val (.ref a5), .val (.ref a6), .val (.ref a5), .val (.int (32 : Int32)), .val (.int v7), .val (.ref a9)] [(.int (1 : Int32)), (.int (own_f3  [(0 : Int32), (0 : Int32), (0 : Int32), (0 : Int32)]))])) _
          refine XS.icmpYes X11.here hx rfl (pc0 := 146) (pc' := 153) rfl (hb hby at_146) rfl ((feq c13).2) (by decide) (by decide) ?_
          show Steps p.tables e below (T11.setTop (mkF m 153 #[.val (.int q0), .val (.int q1), .val (.int q2), .val (.int q3), .val (.int q4), .val (.int q5), .val (.int (1 : Int32)), .val (.int (0 : Int32)), .val (.ref a5), .val (.ref a6), .val (.ref a5), .val (.int (32 : Int32)), .val (.int v7), .val (.ref a9)] [])) _
          refine XS.iconst X11.here hx rfl (hb hby at_153) ?_
          show Steps p.tables e below (T11.setTop (mkF m 154 #[.val (.int q0), .val (.int q1), .val (.int q2), .val (.int q3), .val (.int q4), .val (.int q5), .val (.int (1 : Int32)), .val (.int (0 : Int32)), .val (.ref a5), .val (.ref a6), .val (.ref a5), .val (.int (32 : Int32)), .val (.int v7), .val (.ref a9)] [(.int (0 : Int32))])) _
          exact retN X11 hx (t := .boolean) Bd.returns (by simp) (hb hby at_154) hr
        · show Q0 Z q0 q1 q2 q3 q4 q5 h0 n0 _ T11.heap _
          rw [e11]
          exact ⟨by have w_hv7 := hv7.symm; subst w_hv7; simp only [own_f0, if_pos c2, if_pos c4, if_neg c13], N11⟩
    · obtain ⟨T14, h14, cA14, X14, e14, E14, A14, st14⟩ := newP X0 hx hZ (aty := .byte) (hw _ (List.mem_of_getElem? (i := 0) rfl)) e0 (g := (mkF m 27 #[.val (.int q0), .val (.int q1), .val (.int q2), .val (.int q3), .val (.int q4), .val (.int q5), .val (.int (1 : Int32)), .val (.int (1 : Int32)), .unset, .unset, .unset, .unset, .unset, .unset] [(.int (4 : Int32))])) rfl (hb hby at_27) rfl (by decide) (cap := 4) (by decide) (by decide) (by decide) (by decide)
      obtain ⟨a14, g14⟩ : ∃ z, z = h0.size := ⟨_, rfl⟩
      rw [← g14] at A14 st14
      have ge_a14 : n0 ≤ a14 := g14 ▸ Z0
      have sz14 : n0 ≤ h14.size := Nat.le_trans Z0 E14.1
      have V14_n : own_AI Z h14 a14 .byte [(0 : Int32), (0 : Int32), (0 : Int32), (0 : Int32)] := own_AIbyte_new A14 (k := 4) (by decide)
      obtain ⟨T15, h15, cA15, X15, e15, E15, A15, st15⟩ := newP X14 hx hZ (aty := .byte) (hw _ (List.mem_of_getElem? (i := 0) rfl)) e14 (g := (mkF m 33 #[.val (.int q0), .val (.int q1), .val (.int q2), .val (.int q3), .val (.int q4), .val (.int q5), .val (.int (1 : Int32)), .val (.int (1 : Int32)), .val (.ref a14), .unset, .unset, .unset, .unset, .unset] [(.int (16 : Int32))])) rfl (hb hby at_33) rfl (by decide) (cap := 16) (by decide) (by decide) (by decide) (by decide)
      obtain ⟨a15, g15⟩ : ∃ z, z = h14.size := ⟨_, rfl⟩
      rw [← g15] at A15 st15
      have ne_a14_a15 : a14 ≠ a15 := g15 ▸ Nat.ne_of_lt V14_n.lt
      have ge_a15 : n0 ≤ a15 := g15 ▸ sz14
      have V15_a14 : own_AI Z h15 a14 .byte [(0 : Int32), (0 : Int32), (0 : Int32), (0 : Int32)] := V14_n.ext E15
      have sz15 : n0 ≤ h15.size := Nat.le_trans sz14 E15.1
      have V15_n : own_AI Z h15 a15 .byte [(0 : Int32), (0 : Int32), (0 : Int32), (0 : Int32), (0 : Int32), (0 : Int32), (0 : Int32), (0 : Int32), (0 : Int32), (0 : Int32), (0 : Int32), (0 : Int32), (0 : Int32), (0 : Int32), (0 : Int32), (0 : Int32)] := own_AIbyte_new A15 (k := 16) (by decide)
      obtain ⟨_, _, ⟨T16, L16, k16, n16⟩, -, X16, ⟨Lc16, hQ16, l16, y16, z16⟩, st16⟩ := Jvm.LawKit.callS X15 hx (y := (⟨"com/example/stillframe/stillframe/ccr/IpPrefixIsIpv4PinLaw", "put", "([BII)V"⟩ : MethodName)) hown (mvT hZ (hw _ (List.mem_of_getElem? (i := 20) rfl))) (mvT hZ (hw _ (List.mem_of_getElem? (i := 21) rfl))) (mvT hZ (hw _ (List.mem_of_getElem? (i := 22) rfl))) (mvT hZ (hw _ (List.mem_of_getElem? (i := 23) rfl))) (by decide) (backOf (W := 0) (rm4 l Z a0 hw [] a14 (0 : Int32) q1 [(0 : Int32), (0 : Int32), (0 : Int32), (0 : Int32)] h15 n0 sz15 V15_a14 ge_a14 (by (try simp only [own_putlen]); decide) (by (try simp only [own_putlen]); decide)) hZ (hw _ (List.mem_of_getElem? (i := 23) rfl)) (hw _ (List.mem_of_getElem? (i := 22) rfl)) (by decide) (by decide)) (g := (mkF m 75 #[.val (.int q0), .val (.int q1), .val (.int q2), .val (.int q3), .val (.int q4), .val (.int q5), .val (.int (1 : Int32)), .val (.int (1 : Int32)), .val (.ref a14), .val (.ref a15), .val (.ref a14), .val (.int (32 : Int32)), .unset, .unset] [(.int q1), (.int (0 : Int32)), (.ref a14)])) rfl (by rw [hml]; rfl) (argsL := [(.ref a14), (.int (0 : Int32)), (.int q1)]) (rest := []) (lenOf pd_7 rfl) rfl (by show 2 * 0 + _ ≤ _; exact Nat.le_of_eq rfl) (hb hby at_75) (fun _ _ => ⟨rfl, e15, (by decide : 2 + 0 ≤ _), (by decide : 20 + 0 ≤ _)⟩)
      dsimp only [Pt.U, Pt.locs, Pt.cells, Pt.slots] at X16 l16 y16 z16 st16 hQ16
      subst l16 y16 z16
      obtain ⟨rfl, N16q, K16, V16_o0⟩ := hQ16
      obtain ⟨h16, e16⟩ : ∃ z, T16.heap = z := ⟨_, rfl⟩
      rw [e16] at K16 V16_o0
      have V16_a15 : own_AI Z h16 a15 .byte [(0 : Int32), (0 : Int32), (0 : Int32), (0 : Int32), (0 : Int32), (0 : Int32), (0 : Int32), (0 : Int32), (0 : Int32), (0 : Int32), (0 : Int32), (0 : Int32), (0 : Int32), (0 : Int32), (0 : Int32), (0 : Int32)] := V15_n.keep K16 (ninS (Ne.symm ne_a14_a15) nin0)
      have sz16 : n0 ≤ h16.size := Nat.le_trans sz15 K16.1
      have N16 := Fr.app N0 N16q
      obtain ⟨T17, h17, X17, e17, E17, A17, D17, -, st17⟩ := newO X16 hx hZ hown (hw _ (List.mem_of_getElem? (i := 2) rfl)) (hw _ (List.mem_of_getElem? (i := 3) rfl)) (hw _ (List.mem_of_getElem? (i := 4) rfl)) e16 (g := (mkF m 126 #[.val (.int q0), .val (.int q1), .val (.int q2), .val (.int q3), .val (.int q4), .val (.int q5), .val (.int (1 : Int32)), .val (.int (1 : Int32)), .val (.ref a14), .val (.ref a15), .val (.ref a14), .val (.int (32 : Int32)), .val (.int (32 : Int32)), .unset] [])) rfl (hb hby at_126) (by decide) (by decide)
      obtain ⟨a17, g17⟩ : ∃ z, z = h16.size := ⟨_, rfl⟩
      rw [← g17] at A17 D17 st17
      have ne_a14_a17 : a14 ≠ a17 := g17 ▸ Nat.ne_of_lt V16_o0.lt
      have ne_a15_a17 : a15 ≠ a17 := g17 ▸ Nat.ne_of_lt V16_a15.lt
      have ge_a17 : n0 ≤ a17 := g17 ▸ sz16
      have V17_a14 : own_AI Z h17 a14 .byte (own_put ([(0 : Int32), (0 : Int32), (0 : Int32), (0 : Int32)]) ((0 : Int32)) q1) := V16_o0.ext E17
      have V17_a15 : own_AI Z h17 a15 .byte [(0 : Int32), (0 : Int32), (0 : Int32), (0 : Int32), (0 : Int32), (0 : Int32), (0 : Int32), (0 : Int32), (0 : Int32), (0 : Int32), (0 : Int32), (0 : Int32), (0 : Int32), (0 : Int32), (0 : Int32), (0 : Int32)] := V16_a15.ext E17
      have sz17 : n0 ≤ h17.size := Nat.le_trans sz16 E17.1
      have F17_n0 : Fld Z h17 a17 "com/example/stillframe/stillframe/ccr/IpPrefix" "address" "[B" .null := D17 (Or.inr (hw _ (List.mem_of_getElem? (i := 12) rfl))) (ty := (.array .byte)) (by decide)
      have F17_n1 : Fld Z h17 a17 "com/example/stillframe/stillframe/ccr/IpPrefix" "length" "I" (.int (0 : Int32)) := D17 (Or.inr (hw _ (List.mem_of_getElem? (i := 14) rfl))) (ty := .int) (by decide)
      obtain ⟨_, _, ⟨T18, L18, k18, n18⟩, -, X18, ⟨Lc18, hQ18, l18, y18, z18⟩, st18⟩ := X17.specialBack hx (y := (⟨"com/example/stillframe/stillframe/ccr/IpPrefix", "<init>", "([BI)V"⟩ : MethodName)) rfl hown (mvT hZ (hw _ (List.mem_of_getElem? (i := 5) rfl))) (mvT hZ (hw _ (List.mem_of_getElem? (i := 6) rfl))) (mvT hZ (hw _ (List.mem_of_getElem? (i := 7) rfl))) (by decide) (backOf (W := 1) (rm1 l Z a0 hw [] a17 a14 (32 : Int32)  h17 n0 sz17 A17 F17_n0 F17_n1 ge_a17 ) hZ (hw _ (List.mem_of_getElem? (i := 7) rfl)) (hw _ (List.mem_of_getElem? (i := 4) rfl)) (by decide) (by decide)) (g := (mkF m 134 #[.val (.int q0), .val (.int q1), .val (.int q2), .val (.int q3), .val (.int q4), .val (.int q5), .val (.int (1 : Int32)), .val (.int (1 : Int32)), .val (.ref a14), .val (.ref a15), .val (.ref a14), .val (.int (32 : Int32)), .val (.int (32 : Int32)), .unset] [(.int (32 : Int32)), (.ref a14), (.ref a17), (.ref a17)])) rfl (by rw [hml]; rfl) (Steps.refl _) (a := a17) (argsL := [(.ref a14), (.int (32 : Int32))]) (rest := [(.ref a17)]) (lenOf pd_5 rfl) rfl (by show 2 * 0 + _ ≤ _; exact Nat.le_of_eq rfl) (hb hby at_134) (fun _ _ => ⟨rfl, e17, (by decide : 3 + 0 ≤ _), (by decide : 22 + 0 ≤ _)⟩)
      dsimp only [Pt.U, Pt.locs, Pt.cells, Pt.slots] at X18 l18 y18 z18 st18 hQ18
      subst l18 y18 z18
      obtain ⟨rfl, N18q, K18, A18_o0, F18_o0, F18_o1⟩ := hQ18
      obtain ⟨h18, e18⟩ : ∃ z, T18.heap = z := ⟨_, rfl⟩
      rw [e18] at K18 A18_o0 F18_o0 F18_o1
      have V18_a14 : own_AI Z h18 a14 .byte (own_put ([(0 : Int32), (0 : Int32), (0 : Int32), (0 : Int32)]) ((0 : Int32)) q1) := V17_a14.keep K18 (ninS ne_a14_a17 nin0)
      have V18_a15 : own_AI Z h18 a15 .byte [(0 : Int32), (0 : Int32), (0 : Int32), (0 : Int32), (0 : Int32), (0 : Int32), (0 : Int32), (0 : Int32), (0 : Int32), (0 : Int32), (0 : Int32), (0 : Int32), (0 : Int32), (0 : Int32), (0 : Int32), (0 : Int32)] := V17_a15.keep K18 (ninS ne_a15_a17 nin0)
      have A18_a17 : Exa Z h18 a17 "com/example/stillframe/stillframe/ccr/IpPrefix" := A17.keep K18
      have sz18 : n0 ≤ h18.size := Nat.le_trans sz17 K18.1
      have N18 := Fr.app N16 N18q
      obtain ⟨cq19, kq19, q19a, q19b, q19c⟩ := isOf hZ e18 A18_o0
      obtain ⟨_, _, ⟨T19, L19, k19, n19⟩, -, X19, ⟨Lc19, hQ19, l19, y19, z19⟩, st19⟩ := X18.virtualBack hx (y := (⟨"com/example/stillframe/stillframe/ccr/IpPrefix", "isIpv4", "()Z"⟩ : MethodName)) (z := (⟨"com/example/stillframe/stillframe/ccr/IpPrefix", "isIpv4", "()Z"⟩ : MethodName)) hown (mvT hZ (hw _ (List.mem_of_getElem? (i := 15) rfl))) (mvT hZ (hw _ (List.mem_of_getElem? (i := 16) rfl))) (notFace_of_selects (args := #[]) (mvT hZ (hw _ (List.mem_of_getElem? (i := 18) rfl)))) (mvT hZ (hw _ (List.mem_of_getElem? (i := 18) rfl))) (mvT hZ (hw _ (List.mem_of_getElem? (i := 17) rfl))) (by decide) (backOf (W := 0) (rm3 l Z a0 hw [] a17 a14 ((own_put ([(0 : Int32), (0 : Int32), (0 : Int32), (0 : Int32)]) ((0 : Int32)) q1)) h18 n0 sz18 V18_a14 A18_o0 F18_o0 ) hZ (hw _ (List.mem_of_getElem? (i := 19) rfl)) (hw _ (List.mem_of_getElem? (i := 4) rfl)) (by decide) (by decide)) q19a q19c (g := (mkF m 141 #[.val (.int q0), .val (.int q1), .val (.int q2), .val (.int q3), .val (.int q4), .val (.int q5), .val (.int (1 : Int32)), .val (.int (1 : Int32)), .val (.ref a14), .val (.ref a15), .val (.ref a14), .val (.int (32 : Int32)), .val (.int (32 : Int32)), .val (.ref a17)] [(.ref a17)])) rfl (by rw [hml]; rfl) (Steps.refl _) (argsL := []) (rest := []) (lenOf pd_6 rfl) rfl (by show 2 * 0 + _ ≤ _; exact Nat.le_of_eq rfl) (hb hby at_141) (fun _ _ => ⟨rfl, e18, (by decide : 3 + 0 ≤ _), (by decide : 22 + 0 ≤ _)⟩)
      dsimp only [Pt.U, Pt.locs, Pt.cells, Pt.slots] at X19 l19 y19 z19 st19 hQ19
      subst l19 y19 z19
      obtain ⟨rfl, N19q, e19⟩ := hQ19
      have N19 := Fr.app N18 N19q
      have pre20 : ∀ t, Steps p.tables e below (T19.setTop (mkF m 146 #[.val (.int q0), .val (.int q1), .val (.int q2), .val (.int q3), .val (.int q4), .val (.int q5), .val (.int (1 : Int32)), .val (.int (1 : Int32)), .val (.ref a14), .val (.ref a15), .val (.ref a14), .val (.int (32 : Int32)), .val (.int (32 : Int32)), .val (.ref a17)] [(.int (1 : Int32)), (.int (own_f3  ((own_put ([(0 : Int32), (0 : Int32), (0 : Int32), (0 : Int32)]) ((0 : Int32)) q1))))])) t → Steps p.tables e below (s₁.setTop (entryFrame m #[(.int q0), (.int q1), (.int q2), (.int q3), (.int q4), (.int q5)] maxLocals)) t := by
        intro t k
        refine pre3 t ?_
        show Steps p.tables e below (s₁.setTop (mkF m 16 #[.val (.int q0), .val (.int q1), .val (.int q2), .val (.int q3), .val (.int q4), .val (.int q5), .val (.int (1 : Int32)), .unset, .unset, .unset, .unset, .unset, .unset, .unset] [(.int (q0 &&& (2 : Int32)))])) _
        refine XS.ifNo X0.here hx rfl (hb hby at_16) rfl ((if0 _ _).trans (feq c4).1) ?_
        show Steps p.tables e below (s₁.setTop (mkF m 19 #[.val (.int q0), .val (.int q1), .val (.int q2), .val (.int q3), .val (.int q4), .val (.int q5), .val (.int (1 : Int32)), .unset, .unset, .unset, .unset, .unset, .unset, .unset] [])) _
        refine XS.iconst X0.here hx rfl (hb hby at_19) ?_
        show Steps p.tables e below (s₁.setTop (mkF m 20 #[.val (.int q0), .val (.int q1), .val (.int q2), .val (.int q3), .val (.int q4), .val (.int q5), .val (.int (1 : Int32)), .unset, .unset, .unset, .unset, .unset, .unset, .unset] [(.int (1 : Int32))])) _
        refine XS.goto X0.here hx rfl (pc0 := 20) (pc' := 24) rfl (hb hby at_20) (by decide) (by decide) ?_
        show Steps p.tables e below (s₁.setTop (mkF m 24 #[.val (.int q0), .val (.int q1), .val (.int q2), .val (.int q3), .val (.int q4), .val (.int q5), .val (.int (1 : Int32)), .unset, .unset, .unset, .unset, .unset, .unset, .unset] [(.int (1 : Int32))])) _
        refine XS.istore X0.here hx rfl (hb hby at_24) rfl (l' := #[.val (.int q0), .val (.int q1), .val (.int q2), .val (.int q3), .val (.int q4), .val (.int q5), .val (.int (1 : Int32)), .val (.int (1 : Int32)), .unset, .unset, .unset, .unset, .unset, .unset]) rfl ?_
        show Steps p.tables e below (s₁.setTop (mkF m 26 #[.val (.int q0), .val (.int q1), .val (.int q2), .val (.int q3), .val (.int q4), .val (.int q5), .val (.int (1 : Int32)), .val (.int (1 : Int32)), .unset, .unset, .unset, .unset, .unset, .unset] [])) _
        refine XS.iconst X0.here hx rfl (hb hby at_26) ?_
        show Steps p.tables e below (s₁.setTop (mkF m 27 #[.val (.int q0), .val (.int q1), .val (.int q2), .val (.int q3), .val (.int q4), .val (.int q5), .val (.int (1 : Int32)), .val (.int (1 : Int32)), .unset, .unset, .unset, .unset, .unset, .unset] [(.int (4 : Int32))])) _
        refine st14 _ ?_
        show Steps p.tables e below (T14.setTop (mkF m 29 #[.val (.int q0), .val (.int q1), .val (.int q2), .val (.int q3), .val (.int q4), .val (.int q5), .val (.int (1 : Int32)), .val (.int (1 : Int32)), .unset, .unset, .unset, .unset, .unset, .unset] [(.ref a14)])) _
        refine XS.astore X14.here hx rfl (hb hby at_29) rfl rfl (l' := #[.val (.int q0), .val (.int q1), .val (.int q2), .val (.int q3), .val (.int q4), .val (.int q5), .val (.int (1 : Int32)), .val (.int (1 : Int32)), .val (.ref a14), .unset, .unset, .unset, .unset, .unset]) rfl ?_
        show Steps p.tables e below (T14.setTop (mkF m 31 #[.val (.int q0), .val (.int q1), .val (.int q2), .val (.int q3), .val (.int q4), .val (.int q5), .val (.int (1 : Int32)), .val (.int (1 : Int32)), .val (.ref a14), .unset, .unset, .unset, .unset, .unset] [])) _
        refine XS.bipush X14.here hx rfl (hb hby at_31) ?_
        show Steps p.tables e below (T14.setTop (mkF m 33 #[.val (.int q0), .val (.int q1), .val (.int q2), .val (.int q3), .val (.int q4), .val (.int q5), .val (.int (1 : Int32)), .val (.int (1 : Int32)), .val (.ref a14), .unset, .unset, .unset, .unset, .unset] [(.int (16 : Int32))])) _
        refine st15 _ ?_
        show Steps p.tables e below (T15.setTop (mkF m 35 #[.val (.int q0), .val (.int q1), .val (.int q2), .val (.int q3), .val (.int q4), .val (.int q5), .val (.int (1 : Int32)), .val (.int (1 : Int32)), .val (.ref a14), .unset, .unset, .unset, .unset, .unset] [(.ref a15)])) _
        refine XS.astore X15.here hx rfl (hb hby at_35) rfl rfl (l' := #[.val (.int q0), .val (.int q1), .val (.int q2), .val (.int q3), .val (.int q4), .val (.int q5), .val (.int (1 : Int32)), .val (.int (1 : Int32)), .val (.ref a14), .val (.ref a15), .unset, .unset, .unset, .unset]) rfl ?_
        show Steps p.tables e below (T15.setTop (mkF m 37 #[.val (.int q0), .val (.int q1), .val (.int q2), .val (.int q3), .val (.int q4), .val (.int q5), .val (.int (1 : Int32)), .val (.int (1 : Int32)), .val (.ref a14), .val (.ref a15), .unset, .unset, .unset, .unset] [])) _
        refine XS.iload X15.here hx rfl (hb hby at_37) rfl ?_
        show Steps p.tables e below (T15.setTop (mkF m 39 #[.val (.int q0), .val (.int q1), .val (.int q2), .val (.int q3), .val (.int q4), .val (.int q5), .val (.int (1 : Int32)), .val (.int (1 : Int32)), .val (.ref a14), .val (.ref a15), .unset, .unset, .unset, .unset] [(.int (1 : Int32))])) _
        refine XS.ifNo X15.here hx rfl (hb hby at_39) rfl (by decide) ?_
        show Steps p.tables e below (T15.setTop (mkF m 42 #[.val (.int q0), .val (.int q1), .val (.int q2), .val (.int q3), .val (.int q4), .val (.int q5), .val (.int (1 : Int32)), .val (.int (1 : Int32)), .val (.ref a14), .val (.ref a15), .unset, .unset, .unset, .unset] [])) _
        refine XS.aload X15.here hx rfl (hb hby at_42) rfl rfl ?_
        show Steps p.tables e below (T15.setTop (mkF m 44 #[.val (.int q0), .val (.int q1), .val (.int q2), .val (.int q3), .val (.int q4), .val (.int q5), .val (.int (1 : Int32)), .val (.int (1 : Int32)), .val (.ref a14), .val (.ref a15), .unset, .unset, .unset, .unset] [(.ref a14)])) _
        refine XS.goto X15.here hx rfl (pc0 := 44) (pc' := 49) rfl (hb hby at_44) (by decide) (by decide) ?_
        show Steps p.tables e below (T15.setTop (mkF m 49 #[.val (.int q0), .val (.int q1), .val (.int q2), .val (.int q3), .val (.int q4), .val (.int q5), .val (.int (1 : Int32)), .val (.int (1 : Int32)), .val (.ref a14), .val (.ref a15), .unset, .unset, .unset, .unset] [(.ref a14)])) _
        refine XS.astore X15.here hx rfl (hb hby at_49) rfl rfl (l' := #[.val (.int q0), .val (.int q1), .val (.int q2), .val (.int q3), .val (.int q4), .val (.int q5), .val (.int (1 : Int32)), .val (.int (1 : Int32)), .val (.ref a14), .val (.ref a15), .val (.ref a14), .unset, .unset, .unset]) rfl ?_
        show Steps p.tables e below (T15.setTop (mkF m 51 #[.val (.int q0), .val (.int q1), .val (.int q2), .val (.int q3), .val (.int q4), .val (.int q5), .val (.int (1 : Int32)), .val (.int (1 : Int32)), .val (.ref a14), .val (.ref a15), .val (.ref a14), .unset, .unset, .unset] [])) _
        refine XS.iload X15.here hx rfl (hb hby at_51) rfl ?_
        show Steps p.tables e below (T15.setTop (mkF m 53 #[.val (.int q0), .val (.int q1), .val (.int q2), .val (.int q3), .val (.int q4), .val (.int q5), .val (.int (1 : Int32)), .val (.int (1 : Int32)), .val (.ref a14), .val (.ref a15), .val (.ref a14), .unset, .unset, .unset] [(.int (1 : Int32))])) _
        refine XS.ifNo X15.here hx rfl (hb hby at_53) rfl (by decide) ?_
        show Steps p.tables e below (T15.setTop (mkF m 56 #[.val (.int q0), .val (.int q1), .val (.int q2), .val (.int q3), .val (.int q4), .val (.int q5), .val (.int (1 : Int32)), .val (.int (1 : Int32)), .val (.ref a14), .val (.ref a15), .val (.ref a14), .unset, .unset, .unset] [])) _
        refine XS.bipush X15.here hx rfl (hb hby at_56) ?_
        show Steps p.tables e below (T15.setTop (mkF m 58 #[.val (.int q0), .val (.int q1), .val (.int q2), .val (.int q3), .val (.int q4), .val (.int q5), .val (.int (1 : Int32)), .val (.int (1 : Int32)), .val (.ref a14), .val (.ref a15), .val (.ref a14), .unset, .unset, .unset] [(.int (32 : Int32))])) _
        refine XS.goto X15.here hx rfl (pc0 := 58) (pc' := 64) rfl (hb hby at_58) (by decide) (by decide) ?_
        show Steps p.tables e below (T15.setTop (mkF m 64 #[.val (.int q0), .val (.int q1), .val (.int q2), .val (.int q3), .val (.int q4), .val (.int q5), .val (.int (1 : Int32)), .val (.int (1 : Int32)), .val (.ref a14), .val (.ref a15), .val (.ref a14), .unset, .unset, .unset] [(.int (32 : Int32))])) _
        refine XS.istore X15.here hx rfl (hb hby at_64) rfl (l' := #[.val (.int q0), .val (.int q1), .val (.int q2), .val (.int q3), .val (.int q4), .val (.int q5), .val (.int (1 : Int32)), .val (.int (1 : Int32)), .val (.ref a14), .val (.ref a15), .val (.ref a14), .val (.int (32 : Int32)), .unset, .unset]) rfl ?_
        show Steps p.tables e below (T15.setTop (mkF m 66 #[.val (.int q0), .val (.int q1), .val (.int q2), .val (.int q3), .val (.int q4), .val (.int q5), .val (.int (1 : Int32)), .val (.int (1 : Int32)), .val (.ref a14), .val (.ref a15), .val (.ref a14), .val (.int (32 : Int32)), .unset, .unset] [])) _
        refine XS.iload X15.here hx rfl (hb hby at_66) rfl ?_
        show Steps p.tables e below (T15.setTop (mkF m 68 #[.val (.int q0), .val (.int q1), .val (.int q2), .val (.int q3), .val (.int q4), .val (.int q5), .val (.int (1 : Int32)), .val (.int (1 : Int32)), .val (.ref a14), .val (.ref a15), .val (.ref a14), .val (.int (32 : Int32)), .unset, .unset] [(.int (1 : Int32))])) _
        refine XS.ifNo X15.here hx rfl (hb hby at_68) rfl (by decide) ?_
        show Steps p.tables e below (T15.setTop (mkF m 71 #[.val (.int q0), .val (.int q1), .val (.int q2), .val (.int q3), .val (.int q4), .val (.int q5), .val (.int (1 : Int32)), .val (.int (1 : Int32)), .val (.ref a14), .val (.ref a15), .val (.ref a14), .val (.int (32 : Int32)), .unset, .unset] [])) _
        refine XS.aload X15.here hx rfl (hb hby at_71) rfl rfl ?_
        show Steps p.tables e below (T15.setTop (mkF m 73 #[.val (.int q0), .val (.int q1), .val (.int q2), .val (.int q3), .val (.int q4), .val (.int q5), .val (.int (1 : Int32)), .val (.int (1 : Int32)), .val (.ref a14), .val (.ref a15), .val (.ref a14), .val (.int (32 : Int32)), .unset, .unset] [(.ref a14)])) _
        refine XS.iconst X15.here hx rfl (hb hby at_73) ?_
        show Steps p.tables e below (T15.setTop (mkF m 74 #[.val (.int q0), .val (.int q1), .val (.int q2), .val (.int q3), .val (.int q4), .val (.int q5), .val (.int (1 : Int32)), .val (.int (1 : Int32)), .val (.ref a14), .val (.ref a15), .val (.ref a14), .val (.int (32 : Int32)), .unset, .unset] [(.int (0 : Int32)), (.ref a14)])) _
        refine XS.iloadN X15.here hx rfl (hb hby at_74) rfl ?_
        show Steps p.tables e below (T15.setTop (mkF m 75 #[.val (.int q0), .val (.int q1), .val (.int q2), .val (.int q3), .val (.int q4), .val (.int q5), .val (.int (1 : Int32)), .val (.int (1 : Int32)), .val (.ref a14), .val (.ref a15), .val (.ref a14), .val (.int (32 : Int32)), .unset, .unset] [(.int q1), (.int (0 : Int32)), (.ref a14)])) _
        refine st16 _ ?_
        show Steps p.tables e below (T16.setTop (mkF m 78 #[.val (.int q0), .val (.int q1), .val (.int q2), .val (.int q3), .val (.int q4), .val (.int q5), .val (.int (1 : Int32)), .val (.int (1 : Int32)), .val (.ref a14), .val (.ref a15), .val (.ref a14), .val (.int (32 : Int32)), .unset, .unset] [])) _
        refine XS.iload X16.here hx rfl (hb hby at_78) rfl ?_
        show Steps p.tables e below (T16.setTop (mkF m 80 #[.val (.int q0), .val (.int q1), .val (.int q2), .val (.int q3), .val (.int q4), .val (.int q5), .val (.int (1 : Int32)), .val (.int (1 : Int32)), .val (.ref a14), .val (.ref a15), .val (.ref a14), .val (.int (32 : Int32)), .unset, .unset] [(.int (1 : Int32))])) _
        refine XS.ifYes X16.here hx rfl (pc0 := 80) (pc' := 107) rfl (hb hby at_80) rfl (by decide) (by decide) (by decide) ?_
        show Steps p.tables e below (T16.setTop (mkF m 107 #[.val (.int q0), .val (.int q1), .val (.int q2), .val (.int q3), .val (.int q4), .val (.int q5), .val (.int (1 : Int32)), .val (.int (1 : Int32)), .val (.ref a14), .val (.ref a15), .val (.ref a14), .val (.int (32 : Int32)), .unset, .unset] [])) _
        refine XS.iload X16.here hx rfl (hb hby at_107) rfl ?_
        show Steps p.tables e below (T16.setTop (mkF m 109 #[.val (.int q0), .val (.int q1), .val (.int q2), .val (.int q3), .val (.int q4), .val (.int q5), .val (.int (1 : Int32)), .val (.int (1 : Int32)), .val (.ref a14), .val (.ref a15), .val (.ref a14), .val (.int (32 : Int32)), .unset, .unset] [(.int (32 : Int32))])) _
        refine XS.istore X16.here hx rfl (hb hby at_109) rfl (l' := #[.val (.int q0), .val (.int q1), .val (.int q2), .val (.int q3), .val (.int q4), .val (.int q5), .val (.int (1 : Int32)), .val (.int (1 : Int32)), .val (.ref a14), .val (.ref a15), .val (.ref a14), .val (.int (32 : Int32)), .val (.int (32 : Int32)), .unset]) rfl ?_
        show Steps p.tables e below (T16.setTop (mkF m 111 #[.val (.int q0), .val (.int q1), .val (.int q2), .val (.int q3), .val (.int q4), .val (.int q5), .val (.int (1 : Int32)), .val (.int (1 : Int32)), .val (.ref a14), .val (.ref a15), .val (.ref a14), .val (.int (32 : Int32)), .val (.int (32 : Int32)), .unset] [])) _
        refine XS.goto X16.here hx rfl (pc0 := 111) (pc' := 126) rfl (hb hby at_111) (by decide) (by decide) ?_
        show Steps p.tables e below (T16.setTop (mkF m 126 #[.val (.int q0), .val (.int q1), .val (.int q2), .val (.int q3), .val (.int q4), .val (.int q5), .val (.int (1 : Int32)), .val (.int (1 : Int32)), .val (.ref a14), .val (.ref a15), .val (.ref a14), .val (.int (32 : Int32)), .val (.int (32 : Int32)), .unset] [])) _
        refine st17 _ ?_
        show Steps p.tables e below (T17.setTop (mkF m 129 #[.val (.int q0), .val (.int q1), .val (.int q2), .val (.int q3), .val (.int q4), .val (.int q5), .val (.int (1 : Int32)), .val (.int (1 : Int32)), .val (.ref a14), .val (.ref a15), .val (.ref a14), .val (.int (32 : Int32)), .val (.int (32 : Int32)), .unset] [(.ref a17)])) _
        refine XS.dup X17.here hx rfl (hb hby at_129) rfl rfl ?_
        show Steps p.tables e below (T17.setTop (mkF m 130 #[.val (.int q0), .val (.int q1), .val (.int q2), .val (.int q3), .val (.int q4), .val (.int q5), .val (.int (1 : Int32)), .val (.int (1 : Int32)), .val (.ref a14), .val (.ref a15), .val (.ref a14), .val (.int (32 : Int32)), .val (.int (32 : Int32)), .unset] [(.ref a17), (.ref a17)])) _
        refine XS.aload X17.here hx rfl (hb hby at_130) rfl rfl ?_
        show Steps p.tables e below (T17.setTop (mkF m 132 #[.val (.int q0), .val (.int q1), .val (.int q2), .val (.int q3), .val (.int q4), .val (.int q5), .val (.int (1 : Int32)), .val (.int (1 : Int32)), .val (.ref a14), .val (.ref a15), .val (.ref a14), .val (.int (32 : Int32)), .val (.int (32 : Int32)), .unset] [(.ref a14), (.ref a17), (.ref a17)])) _
        refine XS.iload X17.here hx rfl (hb hby at_132) rfl ?_
        show Steps p.tables e below (T17.setTop (mkF m 134 #[.val (.int q0), .val (.int q1), .val (.int q2), .val (.int q3), .val (.int q4), .val (.int q5), .val (.int (1 : Int32)), .val (.int (1 : Int32)), .val (.ref a14), .val (.ref a15), .val (.ref a14), .val (.int (32 : Int32)), .val (.int (32 : Int32)), .unset] [(.int (32 : Int32)), (.ref a14), (.ref a17), (.ref a17)])) _
        refine st18.trans ?_
        show Steps p.tables e below (T18.setTop (mkF m 137 #[.val (.int q0), .val (.int q1), .val (.int q2), .val (.int q3), .val (.int q4), .val (.int q5), .val (.int (1 : Int32)), .val (.int (1 : Int32)), .val (.ref a14), .val (.ref a15), .val (.ref a14), .val (.int (32 : Int32)), .val (.int (32 : Int32)), .unset] [(.ref a17)])) _
        refine XS.astore X18.here hx rfl (hb hby at_137) rfl rfl (l' := #[.val (.int q0), .val (.int q1), .val (.int q2), .val (.int q3), .val (.int q4), .val (.int q5), .val (.int (1 : Int32)), .val (.int (1 : Int32)), .val (.ref a14), .val (.ref a15), .val (.ref a14), .val (.int (32 : Int32)), .val (.int (32 : Int32)), .val (.ref a17)]) rfl ?_
        show Steps p.tables e below (T18.setTop (mkF m 139 #[.val (.int q0), .val (.int q1), .val (.int q2), .val (.int q3), .val (.int q4), .val (.int q5), .val (.int (1 : Int32)), .val (.int (1 : Int32)), .val (.ref a14), .val (.ref a15), .val (.ref a14), .val (.int (32 : Int32)), .val (.int (32 : Int32)), .val (.ref a17)] [])) _
        refine XS.aload X18.here hx rfl (hb hby at_139) rfl rfl ?_
        show Steps p.tables e below (T18.setTop (mkF m 141 #[.val (.int q0), .val (.int q1), .val (.int q2), .val (.int q3), .val (.int q4), .val (.int q5), .val (.int (1 : Int32)), .val (.int (1 : Int32)), .val (.ref a14), .val (.ref a15), .val (.ref a14), .val (.int (32 : Int32)), .val (.int (32 : Int32)), .val (.ref a17)] [(.ref a17)])) _
        refine st19.trans ?_
        show Steps p.tables e below (T19.setTop (mkF m 144 #[.val (.int q0), .val (.int q1), .val (.int q2), .val (.int q3), .val (.int q4), .val (.int q5), .val (.int (1 : Int32)), .val (.int (1 : Int32)), .val (.ref a14), .val (.ref a15), .val (.ref a14), .val (.int (32 : Int32)), .val (.int (32 : Int32)), .val (.ref a17)] [(.int (own_f3  ((own_put ([(0 : Int32), (0 : Int32), (0 : Int32), (0 : Int32)]) ((0 : Int32)) q1))))])) _
        refine XS.iload X19.here hx rfl (hb hby at_144) rfl ?_
        exact k
      by_cases c21 : (own_f3  ((own_put ([(0 : Int32), (0 : Int32), (0 : Int32), (0 : Int32)]) ((0 : Int32)) q1))) = (1 : Int32)
      · obtain ⟨fs, hr, hrun, hended, hW, hsame⟩ := X19.leave (v := some (.int (1 : Int32))) (fun h => by rw [Bd.returns] at h; cases h) hlk
        refine ⟨_, _, pre20 _ ?_, hrun, hended, _, _, rfl, ?_, ⟨_, rfl⟩, hW, hsame.mono (by decide) (by decide)⟩
        · show Steps p.tables e below (T19.setTop (mkF m 146 #[.val (.int q0), .val (.int q1), .val (.int q2), .val (.int q3), .val (.int q4), .val (.int q5), .val (.int (1 : Int32)), .val (.int (1 : Int32)), .val (.ref a14), .val (.ref a15), .val (.ref a14), .val (.int (32 : Int32)), .val (.int (32 : Int32)), .val (.ref a17)] [(.int (1 : Int32)), (.int (own_f3  ((own_put ([(0 : Int32), (0 : Int32), (0 : Int32), (0 : Int32)]) ((0 : Int32)) q1))))])) _
          refine XS.icmpNo X19.here hx rfl (hb hby at_146) rfl ((teq c21).2) ?_
          show Steps p.tables e below (T19.setTop (mkF m 149 #[.val (.int q0), .val (.int q1), .val (.int q2), .val (.int q3), .val (.int q4), .val (.int q5), .val (.int (1 : Int32)), .val (.int (1 : Int32)), .val (.ref a14), .val (.ref a15), .val (.ref a14), .val (.int (32 : Int32)), .val (.int (32 : Int32)), .val (.ref a17)] [])) _
          refine XS.iconst X19.here hx rfl (hb hby at_149) ?_
          show Steps p.tables e below (T19.setTop (mkF m 150 #[.val (.int q0), .val (.int q1), .val (.int q2), .val (.int q3), .val (.int q4), .val (.int q5), .val (.int (1 : Int32)), .val (.int (1 : Int32)), .val (.ref a14), .val (.ref a15), .val (.ref a14), .val (.int (32 : Int32)), .val (.int (32 : Int32)), .val (.ref a17)] [(.int (1 : Int32))])) _
          refine XS.goto X19.here hx rfl (pc0 := 150) (pc' := 154) rfl (hb hby at_150) (by decide) (by decide) ?_
          show Steps p.tables e below (T19.setTop (mkF m 154 #[.val (.int q0), .val (.int q1), .val (.int q2), .val (.int q3), .val (.int q4), .val (.int q5), .val (.int (1 : Int32)), .val (.int (1 : Int32)), .val (.ref a14), .val (.ref a15), .val (.ref a14), .val (.int (32 : Int32)), .val (.int (32 : Int32)), .val (.ref a17)] [(.int (1 : Int32))])) _
          exact retN X19 hx (t := .boolean) Bd.returns (by simp) (hb hby at_154) hr
        · show Q0 Z q0 q1 q2 q3 q4 q5 h0 n0 _ T19.heap _
          rw [e19]
          exact ⟨by simp only [own_f0, if_pos c2, if_neg c4, if_pos c21], N19⟩
      · obtain ⟨fs, hr, hrun, hended, hW, hsame⟩ := X19.leave (v := some (.int (0 : Int32))) (fun h => by rw [Bd.returns] at h; cases h) hlk
        refine ⟨_, _, pre20 _ ?_, hrun, hended, _, _, rfl, ?_, ⟨_, rfl⟩, hW, hsame.mono (by decide) (by decide)⟩
        · show Steps p.tables e below (T19.setTop (mkF m 146 #[.val (.int q0), .val (.int q1), .val (.int q2), .val (.int q3), .val (.int q4), .val (.int q5), .val (.int (1 : Int32)), .val (.int (1 : Int32)), .val (.ref a14), .val (.ref a15), .val (.ref a14), .val (.int (32 : Int32)), .val (.int (32 : Int32)), .val (.ref a17)] [(.int (1 : Int32)), (.int (own_f3  ((own_put ([(0 : Int32), (0 : Int32), (0 : Int32), (0 : Int32)]) ((0 : Int32)) q1))))])) _
          refine XS.icmpYes X19.here hx rfl (pc0 := 146) (pc' := 153) rfl (hb hby at_146) rfl ((feq c21).2) (by decide) (by decide) ?_
          show Steps p.tables e below (T19.setTop (mkF m 153 #[.val (.int q0), .val (.int q1), .val (.int q2), .val (.int q3), .val (.int q4), .val (.int q5), .val (.int (1 : Int32)), .val (.int (1 : Int32)), .val (.ref a14), .val (.ref a15), .val (.ref a14), .val (.int (32 : Int32)), .val (.int (32 : Int32)), .val (.ref a17)] [])) _
          refine XS.iconst X19.here hx rfl (hb hby at_153) ?_
          show Steps p.tables e below (T19.setTop (mkF m 154 #[.val (.int q0), .val (.int q1), .val (.int q2), .val (.int q3), .val (.int q4), .val (.int q5), .val (.int (1 : Int32)), .val (.int (1 : Int32)), .val (.ref a14), .val (.ref a15), .val (.ref a14), .val (.int (32 : Int32)), .val (.int (32 : Int32)), .val (.ref a17)] [(.int (0 : Int32))])) _
          exact retN X19 hx (t := .boolean) Bd.returns (by simp) (hb hby at_154) hr
        · show Q0 Z q0 q1 q2 q3 q4 q5 h0 n0 _ T19.heap _
          rw [e19]
          exact ⟨by simp only [own_f0, if_pos c2, if_neg c4, if_neg c21], N19⟩
  · have pre22 : ∀ t, Steps p.tables e below (s₁.setTop (mkF m 16 #[.val (.int q0), .val (.int q1), .val (.int q2), .val (.int q3), .val (.int q4), .val (.int q5), .val (.int (0 : Int32)), .unset, .unset, .unset, .unset, .unset, .unset, .unset] [(.int (q0 &&& (2 : Int32)))])) t → Steps p.tables e below (s₁.setTop (entryFrame m #[(.int q0), (.int q1), (.int q2), (.int q3), (.int q4), (.int q5)] maxLocals)) t := by
      intro t k
      refine pre1 t ?_
      show Steps p.tables e below (s₁.setTop (mkF m 3 #[.val (.int q0), .val (.int q1), .val (.int q2), .val (.int q3), .val (.int q4), .val (.int q5), .unset, .unset, .unset, .unset, .unset, .unset, .unset, .unset] [(.int (q0 &&& (1 : Int32)))])) _
      refine XS.ifYes X0.here hx rfl (pc0 := 3) (pc' := 10) rfl (hb hby at_3) rfl ((if0 _ _).trans (feq c2).2) (by decide) (by decide) ?_
      show Steps p.tables e below (s₁.setTop (mkF m 10 #[.val (.int q0), .val (.int q1), .val (.int q2), .val (.int q3), .val (.int q4), .val (.int q5), .unset, .unset, .unset, .unset, .unset, .unset, .unset, .unset] [])) _
      refine XS.iconst X0.here hx rfl (hb hby at_10) ?_
      show Steps p.tables e below (s₁.setTop (mkF m 11 #[.val (.int q0), .val (.int q1), .val (.int q2), .val (.int q3), .val (.int q4), .val (.int q5), .unset, .unset, .unset, .unset, .unset, .unset, .unset, .unset] [(.int (0 : Int32))])) _
      refine XS.istore X0.here hx rfl (hb hby at_11) rfl (l' := #[.val (.int q0), .val (.int q1), .val (.int q2), .val (.int q3), .val (.int q4), .val (.int q5), .val (.int (0 : Int32)), .unset, .unset, .unset, .unset, .unset, .unset, .unset]) rfl ?_
      show Steps p.tables e below (s₁.setTop (mkF m 13 #[.val (.int q0), .val (.int q1), .val (.int q2), .val (.int q3), .val (.int q4), .val (.int q5), .val (.int (0 : Int32)), .unset, .unset, .unset, .unset, .unset, .unset, .unset] [])) _
      refine XS.iloadN X0.here hx rfl (hb hby at_13) rfl ?_
      show Steps p.tables e below (s₁.setTop (mkF m 14 #[.val (.int q0), .val (.int q1), .val (.int q2), .val (.int q3), .val (.int q4), .val (.int q5), .val (.int (0 : Int32)), .unset, .unset, .unset, .unset, .unset, .unset, .unset] [(.int q0)])) _
      refine XS.iconst X0.here hx rfl (hb hby at_14) ?_
      show Steps p.tables e below (s₁.setTop (mkF m 15 #[.val (.int q0), .val (.int q1), .val (.int q2), .val (.int q3), .val (.int q4), .val (.int q5), .val (.int (0 : Int32)), .unset, .unset, .unset, .unset, .unset, .unset, .unset] [(.int (2 : Int32)), (.int q0)])) _
      refine XS.iand X0.here hx rfl (hb hby at_15) rfl ?_
      exact k
    by_cases c23 : (q0 &&& (2 : Int32)) = (0 : Int32)
    · obtain ⟨T24, h24, cA24, X24, e24, E24, A24, st24⟩ := newP X0 hx hZ (aty := .byte) (hw _ (List.mem_of_getElem? (i := 0) rfl)) e0 (g := (mkF m 27 #[.val (.int q0), .val (.int q1), .val (.int q2), .val (.int q3), .val (.int q4), .val (.int q5), .val (.int (0 : Int32)), .val (.int (0 : Int32)), .unset, .unset, .unset, .unset, .unset, .unset] [(.int (4 : Int32))])) rfl (hb hby at_27) rfl (by decide) (cap := 4) (by decide) (by decide) (by decide) (by decide)
      obtain ⟨a24, g24⟩ : ∃ z, z = h0.size := ⟨_, rfl⟩
      rw [← g24] at A24 st24
      have ge_a24 : n0 ≤ a24 := g24 ▸ Z0
      have sz24 : n0 ≤ h24.size := Nat.le_trans Z0 E24.1
      have V24_n : own_AI Z h24 a24 .byte [(0 : Int32), (0 : Int32), (0 : Int32), (0 : Int32)] := own_AIbyte_new A24 (k := 4) (by decide)
      obtain ⟨T25, h25, cA25, X25, e25, E25, A25, st25⟩ := newP X24 hx hZ (aty := .byte) (hw _ (List.mem_of_getElem? (i := 0) rfl)) e24 (g := (mkF m 33 #[.val (.int q0), .val (.int q1), .val (.int q2), .val (.int q3), .val (.int q4), .val (.int q5), .val (.int (0 : Int32)), .val (.int (0 : Int32)), .val (.ref a24), .unset, .unset, .unset, .unset, .unset] [(.int (16 : Int32))])) rfl (hb hby at_33) rfl (by decide) (cap := 16) (by decide) (by decide) (by decide) (by decide)
      obtain ⟨a25, g25⟩ : ∃ z, z = h24.size := ⟨_, rfl⟩
      rw [← g25] at A25 st25
      have ne_a24_a25 : a24 ≠ a25 := g25 ▸ Nat.ne_of_lt V24_n.lt
      have ge_a25 : n0 ≤ a25 := g25 ▸ sz24
      have V25_a24 : own_AI Z h25 a24 .byte [(0 : Int32), (0 : Int32), (0 : Int32), (0 : Int32)] := V24_n.ext E25
      have sz25 : n0 ≤ h25.size := Nat.le_trans sz24 E25.1
      have V25_n : own_AI Z h25 a25 .byte [(0 : Int32), (0 : Int32), (0 : Int32), (0 : Int32), (0 : Int32), (0 : Int32), (0 : Int32), (0 : Int32), (0 : Int32), (0 : Int32), (0 : Int32), (0 : Int32), (0 : Int32), (0 : Int32), (0 : Int32), (0 : Int32)] := own_AIbyte_new A25 (k := 16) (by decide)
      obtain ⟨v26, hv26⟩ : ∃ z : Int32, z = ((q5 &&& (2147483647 : Int32)) % (129 : Int32)) := ⟨_, rfl⟩
      have pre27 : ∀ t, Steps p.tables e below (T25.setTop (mkF m 124 #[.val (.int q0), .val (.int q1), .val (.int q2), .val (.int q3), .val (.int q4), .val (.int q5), .val (.int (0 : Int32)), .val (.int (0 : Int32)), .val (.ref a24), .val (.ref a25), .val (.ref a25), .val (.int (128 : Int32)), .unset, .unset] [(.int v26)])) t → Steps p.tables e below (s₁.setTop (entryFrame m #[(.int q0), (.int q1), (.int q2), (.int q3), (.int q4), (.int q5)] maxLocals)) t := by
        rw [hv26]
        intro t k
        refine pre22 t ?_
        show Steps p.tables e below (s₁.setTop (mkF m 16 #[.val (.int q0), .val (.int q1), .val (.int q2), .val (.int q3), .val (.int q4), .val (.int q5), .val (.int (0 : Int32)), .unset, .unset, .unset, .unset, .unset, .unset, .unset] [(.int (q0 &&& (2 : Int32)))])) _
        refine XS.ifYes X0.here hx rfl (pc0 := 16) (pc' := 23) rfl (hb hby at_16) rfl ((if0 _ _).trans (teq c23).1) (by decide) (by decide) ?_
        show Steps p.tables e below (s₁.setTop (mkF m 23 #[.val (.int q0), .val (.int q1), .val (.int q2), .val (.int q3), .val (.int q4), .val (.int q5), .val (.int (0 : Int32)), .unset, .unset, .unset, .unset, .unset, .unset, .unset] [])) _
        refine XS.iconst X0.here hx rfl (hb hby at_23) ?_
        show Steps p.tables e below (s₁.setTop (mkF m 24 #[.val (.int q0), .val (.int q1), .val (.int q2), .val (.int q3), .val (.int q4), .val (.int q5), .val (.int (0 : Int32)), .unset, .unset, .unset, .unset, .unset, .unset, .unset] [(.int (0 : Int32))])) _
        refine XS.istore X0.here hx rfl (hb hby at_24) rfl (l' := #[.val (.int q0), .val (.int q1), .val (.int q2), .val (.int q3), .val (.int q4), .val (.int q5), .val (.int (0 : Int32)), .val (.int (0 : Int32)), .unset, .unset, .unset, .unset, .unset, .unset]) rfl ?_
        show Steps p.tables e below (s₁.setTop (mkF m 26 #[.val (.int q0), .val (.int q1), .val (.int q2), .val (.int q3), .val (.int q4), .val (.int q5), .val (.int (0 : Int32)), .val (.int (0 : Int32)), .unset, .unset, .unset, .unset, .unset, .unset] [])) _
        refine XS.iconst X0.here hx rfl (hb hby at_26) ?_
        show Steps p.tables e below (s₁.setTop (mkF m 27 #[.val (.int q0), .val (.int q1), .val (.int q2), .val (.int q3), .val (.int q4), .val (.int q5), .val (.int (0 : Int32)), .val (.int (0 : Int32)), .unset, .unset, .unset, .unset, .unset, .unset] [(.int (4 : Int32))])) _
        refine st24 _ ?_
        show Steps p.tables e below (T24.setTop (mkF m 29 #[.val (.int q0), .val (.int q1), .val (.int q2), .val (.int q3), .val (.int q4), .val (.int q5), .val (.int (0 : Int32)), .val (.int (0 : Int32)), .unset, .unset, .unset, .unset, .unset, .unset] [(.ref a24)])) _
        refine XS.astore X24.here hx rfl (hb hby at_29) rfl rfl (l' := #[.val (.int q0), .val (.int q1), .val (.int q2), .val (.int q3), .val (.int q4), .val (.int q5), .val (.int (0 : Int32)), .val (.int (0 : Int32)), .val (.ref a24), .unset, .unset, .unset, .unset, .unset]) rfl ?_
        show Steps p.tables e below (T24.setTop (mkF m 31 #[.val (.int q0), .val (.int q1), .val (.int q2), .val (.int q3), .val (.int q4), .val (.int q5), .val (.int (0 : Int32)), .val (.int (0 : Int32)), .val (.ref a24), .unset, .unset, .unset, .unset, .unset] [])) _
        refine XS.bipush X24.here hx rfl (hb hby at_31) ?_
        show Steps p.tables e below (T24.setTop (mkF m 33 #[.val (.int q0), .val (.int q1), .val (.int q2), .val (.int q3), .val (.int q4), .val (.int q5), .val (.int (0 : Int32)), .val (.int (0 : Int32)), .val (.ref a24), .unset, .unset, .unset, .unset, .unset] [(.int (16 : Int32))])) _
        refine st25 _ ?_
        show Steps p.tables e below (T25.setTop (mkF m 35 #[.val (.int q0), .val (.int q1), .val (.int q2), .val (.int q3), .val (.int q4), .val (.int q5), .val (.int (0 : Int32)), .val (.int (0 : Int32)), .val (.ref a24), .unset, .unset, .unset, .unset, .unset] [(.ref a25)])) _
        refine XS.astore X25.here hx rfl (hb hby at_35) rfl rfl (l' := #[.val (.int q0), .val (.int q1), .val (.int q2), .val (.int q3), .val (.int q4), .val (.int q5), .val (.int (0 : Int32)), .val (.int (0 : Int32)), .val (.ref a24), .val (.ref a25), .unset, .unset, .unset, .unset]) rfl ?_
        show Steps p.tables e below (T25.setTop (mkF m 37 #[.val (.int q0), .val (.int q1), .val (.int q2), .val (.int q3), .val (.int q4), .val (.int q5), .val (.int (0 : Int32)), .val (.int (0 : Int32)), .val (.ref a24), .val (.ref a25), .unset, .unset, .unset, .unset] [])) _
        refine XS.iload X25.here hx rfl (hb hby at_37) rfl ?_
        show Steps p.tables e below (T25.setTop (mkF m 39 #[.val (.int q0), .val (.int q1), .val (.int q2), .val (.int q3), .val (.int q4), .val (.int q5), .val (.int (0 : Int32)), .val (.int (0 : Int32)), .val (.ref a24), .val (.ref a25), .unset, .unset, .unset, .unset] [(.int (0 : Int32))])) _
        refine XS.ifYes X25.here hx rfl (pc0 := 39) (pc' := 47) rfl (hb hby at_39) rfl (by decide) (by decide) (by decide) ?_
        show Steps p.tables e below (T25.setTop (mkF m 47 #[.val (.int q0), .val (.int q1), .val (.int q2), .val (.int q3), .val (.int q4), .val (.int q5), .val (.int (0 : Int32)), .val (.int (0 : Int32)), .val (.ref a24), .val (.ref a25), .unset, .unset, .unset, .unset] [])) _
        refine XS.aload X25.here hx rfl (hb hby at_47) rfl rfl ?_
        show Steps p.tables e below (T25.setTop (mkF m 49 #[.val (.int q0), .val (.int q1), .val (.int q2), .val (.int q3), .val (.int q4), .val (.int q5), .val (.int (0 : Int32)), .val (.int (0 : Int32)), .val (.ref a24), .val (.ref a25), .unset, .unset, .unset, .unset] [(.ref a25)])) _
        refine XS.astore X25.here hx rfl (hb hby at_49) rfl rfl (l' := #[.val (.int q0), .val (.int q1), .val (.int q2), .val (.int q3), .val (.int q4), .val (.int q5), .val (.int (0 : Int32)), .val (.int (0 : Int32)), .val (.ref a24), .val (.ref a25), .val (.ref a25), .unset, .unset, .unset]) rfl ?_
        show Steps p.tables e below (T25.setTop (mkF m 51 #[.val (.int q0), .val (.int q1), .val (.int q2), .val (.int q3), .val (.int q4), .val (.int q5), .val (.int (0 : Int32)), .val (.int (0 : Int32)), .val (.ref a24), .val (.ref a25), .val (.ref a25), .unset, .unset, .unset] [])) _
        refine XS.iload X25.here hx rfl (hb hby at_51) rfl ?_
        show Steps p.tables e below (T25.setTop (mkF m 53 #[.val (.int q0), .val (.int q1), .val (.int q2), .val (.int q3), .val (.int q4), .val (.int q5), .val (.int (0 : Int32)), .val (.int (0 : Int32)), .val (.ref a24), .val (.ref a25), .val (.ref a25), .unset, .unset, .unset] [(.int (0 : Int32))])) _
        refine XS.ifYes X25.here hx rfl (pc0 := 53) (pc' := 61) rfl (hb hby at_53) rfl (by decide) (by decide) (by decide) ?_
        show Steps p.tables e below (T25.setTop (mkF m 61 #[.val (.int q0), .val (.int q1), .val (.int q2), .val (.int q3), .val (.int q4), .val (.int q5), .val (.int (0 : Int32)), .val (.int (0 : Int32)), .val (.ref a24), .val (.ref a25), .val (.ref a25), .unset, .unset, .unset] [])) _
        refine XS.sipush X25.here hx rfl (hb hby at_61) ?_
        show Steps p.tables e below (T25.setTop (mkF m 64 #[.val (.int q0), .val (.int q1), .val (.int q2), .val (.int q3), .val (.int q4), .val (.int q5), .val (.int (0 : Int32)), .val (.int (0 : Int32)), .val (.ref a24), .val (.ref a25), .val (.ref a25), .unset, .unset, .unset] [(.int (128 : Int32))])) _
        refine XS.istore X25.here hx rfl (hb hby at_64) rfl (l' := #[.val (.int q0), .val (.int q1), .val (.int q2), .val (.int q3), .val (.int q4), .val (.int q5), .val (.int (0 : Int32)), .val (.int (0 : Int32)), .val (.ref a24), .val (.ref a25), .val (.ref a25), .val (.int (128 : Int32)), .unset, .unset]) rfl ?_
        show Steps p.tables e below (T25.setTop (mkF m 66 #[.val (.int q0), .val (.int q1), .val (.int q2), .val (.int q3), .val (.int q4), .val (.int q5), .val (.int (0 : Int32)), .val (.int (0 : Int32)), .val (.ref a24), .val (.ref a25), .val (.ref a25), .val (.int (128 : Int32)), .unset, .unset] [])) _
        refine XS.iload X25.here hx rfl (hb hby at_66) rfl ?_
        show Steps p.tables e below (T25.setTop (mkF m 68 #[.val (.int q0), .val (.int q1), .val (.int q2), .val (.int q3), .val (.int q4), .val (.int q5), .val (.int (0 : Int32)), .val (.int (0 : Int32)), .val (.ref a24), .val (.ref a25), .val (.ref a25), .val (.int (128 : Int32)), .unset, .unset] [(.int (0 : Int32))])) _
        refine XS.ifYes X25.here hx rfl (pc0 := 68) (pc' := 114) rfl (hb hby at_68) rfl (by decide) (by decide) (by decide) ?_
        show Steps p.tables e below (T25.setTop (mkF m 114 #[.val (.int q0), .val (.int q1), .val (.int q2), .val (.int q3), .val (.int q4), .val (.int q5), .val (.int (0 : Int32)), .val (.int (0 : Int32)), .val (.ref a24), .val (.ref a25), .val (.ref a25), .val (.int (128 : Int32)), .unset, .unset] [])) _
        refine XS.iload X25.here hx rfl (hb hby at_114) rfl ?_
        show Steps p.tables e below (T25.setTop (mkF m 116 #[.val (.int q0), .val (.int q1), .val (.int q2), .val (.int q3), .val (.int q4), .val (.int q5), .val (.int (0 : Int32)), .val (.int (0 : Int32)), .val (.ref a24), .val (.ref a25), .val (.ref a25), .val (.int (128 : Int32)), .unset, .unset] [(.int q5)])) _
        refine X25.ldcInt hx hown (mvT hZ (hw _ (List.mem_of_getElem? (i := 1) rfl))) (g := (mkF m 116 #[.val (.int q0), .val (.int q1), .val (.int q2), .val (.int q3), .val (.int q4), .val (.int q5), .val (.int (0 : Int32)), .val (.int (0 : Int32)), .val (.ref a24), .val (.ref a25), .val (.ref a25), .val (.int (128 : Int32)), .unset, .unset] [(.int q5)])) rfl (hb hby at_116) _ ?_
        show Steps p.tables e below (T25.setTop (mkF m 118 #[.val (.int q0), .val (.int q1), .val (.int q2), .val (.int q3), .val (.int q4), .val (.int q5), .val (.int (0 : Int32)), .val (.int (0 : Int32)), .val (.ref a24), .val (.ref a25), .val (.ref a25), .val (.int (128 : Int32)), .unset, .unset] [(.int (2147483647 : Int32)), (.int q5)])) _
        refine XS.iand X25.here hx rfl (hb hby at_118) rfl ?_
        show Steps p.tables e below (T25.setTop (mkF m 119 #[.val (.int q0), .val (.int q1), .val (.int q2), .val (.int q3), .val (.int q4), .val (.int q5), .val (.int (0 : Int32)), .val (.int (0 : Int32)), .val (.ref a24), .val (.ref a25), .val (.ref a25), .val (.int (128 : Int32)), .unset, .unset] [(.int (q5 &&& (2147483647 : Int32)))])) _
        refine XS.iload X25.here hx rfl (hb hby at_119) rfl ?_
        show Steps p.tables e below (T25.setTop (mkF m 121 #[.val (.int q0), .val (.int q1), .val (.int q2), .val (.int q3), .val (.int q4), .val (.int q5), .val (.int (0 : Int32)), .val (.int (0 : Int32)), .val (.ref a24), .val (.ref a25), .val (.ref a25), .val (.int (128 : Int32)), .unset, .unset] [(.int (128 : Int32)), (.int (q5 &&& (2147483647 : Int32)))])) _
        refine XS.iconst X25.here hx rfl (hb hby at_121) ?_
        show Steps p.tables e below (T25.setTop (mkF m 122 #[.val (.int q0), .val (.int q1), .val (.int q2), .val (.int q3), .val (.int q4), .val (.int q5), .val (.int (0 : Int32)), .val (.int (0 : Int32)), .val (.ref a24), .val (.ref a25), .val (.ref a25), .val (.int (128 : Int32)), .unset, .unset] [(.int (1 : Int32)), (.int (128 : Int32)), (.int (q5 &&& (2147483647 : Int32)))])) _
        refine XS.iadd X25.here hx rfl (hb hby at_122) rfl ?_
        show Steps p.tables e below (T25.setTop (mkF m 123 #[.val (.int q0), .val (.int q1), .val (.int q2), .val (.int q3), .val (.int q4), .val (.int q5), .val (.int (0 : Int32)), .val (.int (0 : Int32)), .val (.ref a24), .val (.ref a25), .val (.ref a25), .val (.int (128 : Int32)), .unset, .unset] [(.int (129 : Int32)), (.int (q5 &&& (2147483647 : Int32)))])) _
        refine iremM X25 hx rfl (hb hby at_123) rfl (by decide) ?_
        exact k
      obtain ⟨T28, h28, X28, e28, E28, A28, D28, -, st28⟩ := newO X25 hx hZ hown (hw _ (List.mem_of_getElem? (i := 2) rfl)) (hw _ (List.mem_of_getElem? (i := 3) rfl)) (hw _ (List.mem_of_getElem? (i := 4) rfl)) e25 (g := (mkF m 126 #[.val (.int q0), .val (.int q1), .val (.int q2), .val (.int q3), .val (.int q4), .val (.int q5), .val (.int (0 : Int32)), .val (.int (0 : Int32)), .val (.ref a24), .val (.ref a25), .val (.ref a25), .val (.int (128 : Int32)), .val (.int v26), .unset] [])) rfl (hb hby at_126) (by decide) (by decide)
      obtain ⟨a28, g28⟩ : ∃ z, z = h25.size := ⟨_, rfl⟩
      rw [← g28] at A28 D28 st28
      have ne_a24_a28 : a24 ≠ a28 := g28 ▸ Nat.ne_of_lt V25_a24.lt
      have ne_a25_a28 : a25 ≠ a28 := g28 ▸ Nat.ne_of_lt V25_n.lt
      have ge_a28 : n0 ≤ a28 := g28 ▸ sz25
      have V28_a24 : own_AI Z h28 a24 .byte [(0 : Int32), (0 : Int32), (0 : Int32), (0 : Int32)] := V25_a24.ext E28
      have V28_a25 : own_AI Z h28 a25 .byte [(0 : Int32), (0 : Int32), (0 : Int32), (0 : Int32), (0 : Int32), (0 : Int32), (0 : Int32), (0 : Int32), (0 : Int32), (0 : Int32), (0 : Int32), (0 : Int32), (0 : Int32), (0 : Int32), (0 : Int32), (0 : Int32)] := V25_n.ext E28
      have sz28 : n0 ≤ h28.size := Nat.le_trans sz25 E28.1
      have F28_n0 : Fld Z h28 a28 "com/example/stillframe/stillframe/ccr/IpPrefix" "address" "[B" .null := D28 (Or.inr (hw _ (List.mem_of_getElem? (i := 12) rfl))) (ty := (.array .byte)) (by decide)
      have F28_n1 : Fld Z h28 a28 "com/example/stillframe/stillframe/ccr/IpPrefix" "length" "I" (.int (0 : Int32)) := D28 (Or.inr (hw _ (List.mem_of_getElem? (i := 14) rfl))) (ty := .int) (by decide)
      obtain ⟨_, _, ⟨T29, L29, k29, n29⟩, -, X29, ⟨Lc29, hQ29, l29, y29, z29⟩, st29⟩ := X28.specialBack hx (y := (⟨"com/example/stillframe/stillframe/ccr/IpPrefix", "<init>", "([BI)V"⟩ : MethodName)) rfl hown (mvT hZ (hw _ (List.mem_of_getElem? (i := 5) rfl))) (mvT hZ (hw _ (List.mem_of_getElem? (i := 6) rfl))) (mvT hZ (hw _ (List.mem_of_getElem? (i := 7) rfl))) (by decide) (backOf (W := 1) (rm1 l Z a0 hw [] a28 a25 v26  h28 n0 sz28 A28 F28_n0 F28_n1 ge_a28 ) hZ (hw _ (List.mem_of_getElem? (i := 7) rfl)) (hw _ (List.mem_of_getElem? (i := 4) rfl)) (by decide) (by decide)) (g := (mkF m 134 #[.val (.int q0), .val (.int q1), .val (.int q2), .val (.int q3), .val (.int q4), .val (.int q5), .val (.int (0 : Int32)), .val (.int (0 : Int32)), .val (.ref a24), .val (.ref a25), .val (.ref a25), .val (.int (128 : Int32)), .val (.int v26), .unset] [(.int v26), (.ref a25), (.ref a28), (.ref a28)])) rfl (by rw [hml]; rfl) (Steps.refl _) (a := a28) (argsL := [(.ref a25), (.int v26)]) (rest := [(.ref a28)]) (lenOf pd_5 rfl) rfl (by show 2 * 0 + _ ≤ _; exact Nat.le_of_eq rfl) (hb hby at_134) (fun _ _ => ⟨rfl, e28, (by decide : 3 + 0 ≤ _), (by decide : 22 + 0 ≤ _)⟩)
      dsimp only [Pt.U, Pt.locs, Pt.cells, Pt.slots] at X29 l29 y29 z29 st29 hQ29
      subst l29 y29 z29
      obtain ⟨rfl, N29q, K29, A29_o0, F29_o0, F29_o1⟩ := hQ29
      obtain ⟨h29, e29⟩ : ∃ z, T29.heap = z := ⟨_, rfl⟩
      rw [e29] at K29 A29_o0 F29_o0 F29_o1
      have V29_a24 : own_AI Z h29 a24 .byte [(0 : Int32), (0 : Int32), (0 : Int32), (0 : Int32)] := V28_a24.keep K29 (ninS ne_a24_a28 nin0)
      have V29_a25 : own_AI Z h29 a25 .byte [(0 : Int32), (0 : Int32), (0 : Int32), (0 : Int32), (0 : Int32), (0 : Int32), (0 : Int32), (0 : Int32), (0 : Int32), (0 : Int32), (0 : Int32), (0 : Int32), (0 : Int32), (0 : Int32), (0 : Int32), (0 : Int32)] := V28_a25.keep K29 (ninS ne_a25_a28 nin0)
      have A29_a28 : Exa Z h29 a28 "com/example/stillframe/stillframe/ccr/IpPrefix" := A28.keep K29
      have sz29 : n0 ≤ h29.size := Nat.le_trans sz28 K29.1
      have N29 := Fr.app N0 N29q
      obtain ⟨cq30, kq30, q30a, q30b, q30c⟩ := isOf hZ e29 A29_o0
      obtain ⟨_, _, ⟨T30, L30, k30, n30⟩, -, X30, ⟨Lc30, hQ30, l30, y30, z30⟩, st30⟩ := X29.virtualBack hx (y := (⟨"com/example/stillframe/stillframe/ccr/IpPrefix", "isIpv4", "()Z"⟩ : MethodName)) (z := (⟨"com/example/stillframe/stillframe/ccr/IpPrefix", "isIpv4", "()Z"⟩ : MethodName)) hown (mvT hZ (hw _ (List.mem_of_getElem? (i := 15) rfl))) (mvT hZ (hw _ (List.mem_of_getElem? (i := 16) rfl))) (notFace_of_selects (args := #[]) (mvT hZ (hw _ (List.mem_of_getElem? (i := 18) rfl)))) (mvT hZ (hw _ (List.mem_of_getElem? (i := 18) rfl))) (mvT hZ (hw _ (List.mem_of_getElem? (i := 17) rfl))) (by decide) (backOf (W := 0) (rm3 l Z a0 hw [] a28 a25 [(0 : Int32), (0 : Int32), (0 : Int32), (0 : Int32), (0 : Int32), (0 : Int32), (0 : Int32), (0 : Int32), (0 : Int32), (0 : Int32), (0 : Int32), (0 : Int32), (0 : Int32), (0 : Int32), (0 : Int32), (0 : Int32)] h29 n0 sz29 V29_a25 A29_o0 F29_o0 ) hZ (hw _ (List.mem_of_getElem? (i := 19) rfl)) (hw _ (List.mem_of_getElem? (i := 4) rfl)) (by decide) (by decide)) q30a q30c (g := (mkF m 141 #[.val (.int q0), .val (.int q1), .val (.int q2), .val (.int q3), .val (.int q4), .val (.int q5), .val (.int (0 : Int32)), .val (.int (0 : Int32)), .val (.ref a24), .val (.ref a25), .val (.ref a25), .val (.int (128 : Int32)), .val (.int v26), .val (.ref a28)] [(.ref a28)])) rfl (by rw [hml]; rfl) (Steps.refl _) (argsL := []) (rest := []) (lenOf pd_6 rfl) rfl (by show 2 * 0 + _ ≤ _; exact Nat.le_of_eq rfl) (hb hby at_141) (fun _ _ => ⟨rfl, e29, (by decide : 3 + 0 ≤ _), (by decide : 22 + 0 ≤ _)⟩)
      dsimp only [Pt.U, Pt.locs, Pt.cells, Pt.slots] at X30 l30 y30 z30 st30 hQ30
      subst l30 y30 z30
      obtain ⟨rfl, N30q, e30⟩ := hQ30
      have N30 := Fr.app N29 N30q
      have pre31 : ∀ t, Steps p.tables e below (T30.setTop (mkF m 146 #[.val (.int q0), .val (.int q1), .val (.int q2), .val (.int q3), .val (.int q4), .val (.int q5), .val (.int (0 : Int32)), .val (.int (0 : Int32)), .val (.ref a24), .val (.ref a25), .val (.ref a25), .val (.int (128 : Int32)), .val (.int v26), .val (.ref a28)] [(.int (0 : Int32)), (.int (own_f3  [(0 : Int32), (0 : Int32), (0 : Int32), (0 : Int32), (0 : Int32), (0 : Int32), (0 : Int32), (0 : Int32), (0 : Int32), (0 : Int32), (0 : Int32), (0 : Int32), (0 : Int32), (0 : Int32), (0 : Int32), (0 : Int32)]))])) t → Steps p.tables e below (s₁.setTop (entryFrame m #[(.int q0), (.int q1), (.int q2), (.int q3), (.int q4), (.int q5)] maxLocals)) t := by
        intro t k
        refine pre27 t ?_
        show Steps p.tables e below (T25.setTop (mkF m 124 #[.val (.int q0), .val (.int q1), .val (.int q2), .val (.int q3), .val (.int q4), .val (.int q5), .val (.int (0 : Int32)), .val (.int (0 : Int32)), .val (.ref a24), .val (.ref a25), .val (.ref a25), .val (.int (128 : Int32)), .unset, .unset] [(.int v26)])) _
        refine XS.istore X25.here hx rfl (hb hby at_124) rfl (l' := #[.val (.int q0), .val (.int q1), .val (.int q2), .val (.int q3), .val (.int q4), .val (.int q5), .val (.int (0 : Int32)), .val (.int (0 : Int32)), .val (.ref a24), .val (.ref a25), .val (.ref a25), .val (.int (128 : Int32)), .val (.int v26), .unset]) rfl ?_
        show Steps p.tables e below (T25.setTop (mkF m 126 #[.val (.int q0), .val (.int q1), .val (.int q2), .val (.int q3), .val (.int q4), .val (.int q5), .val (.int (0 : Int32)), .val (.int (0 : Int32)), .val (.ref a24), .val (.ref a25), .val (.ref a25), .val (.int (128 : Int32)), .val (.int v26), .unset] [])) _
        refine st28 _ ?_
        show Steps p.tables e below (T28.setTop (mkF m 129 #[.val (.int q0), .val (.int q1), .val (.int q2), .val (.int q3), .val (.int q4), .val (.int q5), .val (.int (0 : Int32)), .val (.int (0 : Int32)), .val (.ref a24), .val (.ref a25), .val (.ref a25), .val (.int (128 : Int32)), .val (.int v26), .unset] [(.ref a28)])) _
        refine XS.dup X28.here hx rfl (hb hby at_129) rfl rfl ?_
        show Steps p.tables e below (T28.setTop (mkF m 130 #[.val (.int q0), .val (.int q1), .val (.int q2), .val (.int q3), .val (.int q4), .val (.int q5), .val (.int (0 : Int32)), .val (.int (0 : Int32)), .val (.ref a24), .val (.ref a25), .val (.ref a25), .val (.int (128 : Int32)), .val (.int v26), .unset] [(.ref a28), (.ref a28)])) _
        refine XS.aload X28.here hx rfl (hb hby at_130) rfl rfl ?_
        show Steps p.tables e below (T28.setTop (mkF m 132 #[.val (.int q0), .val (.int q1), .val (.int q2), .val (.int q3), .val (.int q4), .val (.int q5), .val (.int (0 : Int32)), .val (.int (0 : Int32)), .val (.ref a24), .val (.ref a25), .val (.ref a25), .val (.int (128 : Int32)), .val (.int v26), .unset] [(.ref a25), (.ref a28), (.ref a28)])) _
        refine XS.iload X28.here hx rfl (hb hby at_132) rfl ?_
        show Steps p.tables e below (T28.setTop (mkF m 134 #[.val (.int q0), .val (.int q1), .val (.int q2), .val (.int q3), .val (.int q4), .val (.int q5), .val (.int (0 : Int32)), .val (.int (0 : Int32)), .val (.ref a24), .val (.ref a25), .val (.ref a25), .val (.int (128 : Int32)), .val (.int v26), .unset] [(.int v26), (.ref a25), (.ref a28), (.ref a28)])) _
        refine st29.trans ?_
        show Steps p.tables e below (T29.setTop (mkF m 137 #[.val (.int q0), .val (.int q1), .val (.int q2), .val (.int q3), .val (.int q4), .val (.int q5), .val (.int (0 : Int32)), .val (.int (0 : Int32)), .val (.ref a24), .val (.ref a25), .val (.ref a25), .val (.int (128 : Int32)), .val (.int v26), .unset] [(.ref a28)])) _
        refine XS.astore X29.here hx rfl (hb hby at_137) rfl rfl (l' := #[.val (.int q0), .val (.int q1), .val (.int q2), .val (.int q3), .val (.int q4), .val (.int q5), .val (.int (0 : Int32)), .val (.int (0 : Int32)), .val (.ref a24), .val (.ref a25), .val (.ref a25), .val (.int (128 : Int32)), .val (.int v26), .val (.ref a28)]) rfl ?_
        show Steps p.tables e below (T29.setTop (mkF m 139 #[.val (.int q0), .val (.int q1), .val (.int q2), .val (.int q3), .val (.int q4), .val (.int q5), .val (.int (0 : Int32)), .val (.int (0 : Int32)), .val (.ref a24), .val (.ref a25), .val (.ref a25), .val (.int (128 : Int32)), .val (.int v26), .val (.ref a28)] [])) _
        refine XS.aload X29.here hx rfl (hb hby at_139) rfl rfl ?_
        show Steps p.tables e below (T29.setTop (mkF m 141 #[.val (.int q0), .val (.int q1), .val (.int q2), .val (.int q3), .val (.int q4), .val (.int q5), .val (.int (0 : Int32)), .val (.int (0 : Int32)), .val (.ref a24), .val (.ref a25), .val (.ref a25), .val (.int (128 : Int32)), .val (.int v26), .val (.ref a28)] [(.ref a28)])) _
        refine st30.trans ?_
        show Steps p.tables e below (T30.setTop (mkF m 144 #[.val (.int q0), .val (.int q1), .val (.int q2), .val (.int q3), .val (.int q4), .val (.int q5), .val (.int (0 : Int32)), .val (.int (0 : Int32)), .val (.ref a24), .val (.ref a25), .val (.ref a25), .val (.int (128 : Int32)), .val (.int v26), .val (.ref a28)] [(.int (own_f3  [(0 : Int32), (0 : Int32), (0 : Int32), (0 : Int32), (0 : Int32), (0 : Int32), (0 : Int32), (0 : Int32), (0 : Int32), (0 : Int32), (0 : Int32), (0 : Int32), (0 : Int32), (0 : Int32), (0 : Int32), (0 : Int32)]))])) _
        refine XS.iload X30.here hx rfl (hb hby at_144) rfl ?_
        exact k
      by_cases c32 : (own_f3  [(0 : Int32), (0 : Int32), (0 : Int32), (0 : Int32), (0 : Int32), (0 : Int32), (0 : Int32), (0 : Int32), (0 : Int32), (0 : Int32), (0 : Int32), (0 : Int32), (0 : Int32), (0 : Int32), (0 : Int32), (0 : Int32)]) = (0 : Int32)
      · obtain ⟨fs, hr, hrun, hended, hW, hsame⟩ := X30.leave (v := some (.int (1 : Int32))) (fun h => by rw [Bd.returns] at h; cases h) hlk
        refine ⟨_, _, pre31 _ ?_, hrun, hended, _, _, rfl, ?_, ⟨_, rfl⟩, hW, hsame.mono (by decide) (by decide)⟩
        · show Steps p.tables e below (T30.setTop (mkF m 146 #[.val (.int q0), .val (.int q1), .val (.int q2), .val (.int q3), .val (.int q4), .val (.int q5), .val (.int (0 : Int32)), .val (.int (0 : Int32)), .val (.ref a24), .val (.ref a25), .val (.ref a25), .val (.int (128 : Int32)), .val (.int v26), .val (.ref a28)] [(.int (0 : Int32)), (.int (own_f3  [(0 : Int32), (0 : Int32), (0 : Int32), (0 : Int32), (0 : Int32), (0 : Int32), (0 : Int32), (0 : Int32), (0 : Int32), (0 : Int32), (0 : Int32), (0 : Int32), (0 : Int32), (0 : Int32), (0 : Int32), (0 : Int32)]))])) _
          refine XS.icmpNo X30.here hx rfl (hb hby at_146) rfl ((teq c32).2) ?_
          show Steps p.tables e below (T30.setTop (mkF m 149 #[.val (.int q0), .val (.int q1), .val (.int q2), .val (.int q3), .val (.int q4), .val (.int q5), .val (.int (0 : Int32)), .val (.int (0 : Int32)), .val (.ref a24), .val (.ref a25), .val (.ref a25), .val (.int (128 : Int32)), .val (.int v26), .val (.ref a28)] [])) _
          refine XS.iconst X30.here hx rfl (hb hby at_149) ?_
          show Steps p.tables e below (T30.setTop (mkF m 150 #[.val (.int q0), .val (.int q1), .val (.int q2), .val (.int q3), .val (.int q4), .val (.int q5), .val (.int (0 : Int32)), .val (.int (0 : Int32)), .val (.ref a24), .val (.ref a25), .val (.ref a25), .val (.int (128 : Int32)), .val (.int v26), .val (.ref a28)] [(.int (1 : Int32))])) _
          refine XS.goto X30.here hx rfl (pc0 := 150) (pc' := 154) rfl (hb hby at_150) (by decide) (by decide) ?_
          show Steps p.tables e below (T30.setTop (mkF m 154 #[.val (.int q0), .val (.int q1), .val (.int q2), .val (.int q3), .val (.int q4), .val (.int q5), .val (.int (0 : Int32)), .val (.int (0 : Int32)), .val (.ref a24), .val (.ref a25), .val (.ref a25), .val (.int (128 : Int32)), .val (.int v26), .val (.ref a28)] [(.int (1 : Int32))])) _
          exact retN X30 hx (t := .boolean) Bd.returns (by simp) (hb hby at_154) hr
        · show Q0 Z q0 q1 q2 q3 q4 q5 h0 n0 _ T30.heap _
          rw [e30]
          exact ⟨by have w_hv26 := hv26.symm; subst w_hv26; simp only [own_f0, if_neg c2, if_pos c23, if_pos c32], N30⟩
      · obtain ⟨fs, hr, hrun, hended, hW, hsame⟩ := X30.leave (v := some (.int (0 : Int32))) (fun h => by rw [Bd.returns] at h; cases h) hlk
        refine ⟨_, _, pre31 _ ?_, hrun, hended, _, _, rfl, ?_, ⟨_, rfl⟩, hW, hsame.mono (by decide) (by decide)⟩
        · show Steps p.tables e below (T30.setTop (mkF m 146 #[.val (.int q0), .val (.int q1), .val (.int q2), .val (.int q3), .val (.int q4), .val (.int q5), .val (.int (0 : Int32)), .val (.int (0 : Int32)), .val (.ref a24), .val (.ref a25), .val (.ref a25), .val (.int (128 : Int32)), .val (.int v26), .val (.ref a28)] [(.int (0 : Int32)), (.int (own_f3  [(0 : Int32), (0 : Int32), (0 : Int32), (0 : Int32), (0 : Int32), (0 : Int32), (0 : Int32), (0 : Int32), (0 : Int32), (0 : Int32), (0 : Int32), (0 : Int32), (0 : Int32), (0 : Int32), (0 : Int32), (0 : Int32)]))])) _
          refine XS.icmpYes X30.here hx rfl (pc0 := 146) (pc' := 153) rfl (hb hby at_146) rfl ((feq c32).2) (by decide) (by decide) ?_
          show Steps p.tables e below (T30.setTop (mkF m 153 #[.val (.int q0), .val (.int q1), .val (.int q2), .val (.int q3), .val (.int q4), .val (.int q5), .val (.int (0 : Int32)), .val (.int (0 : Int32)), .val (.ref a24), .val (.ref a25), .val (.ref a25), .val (.int (128 : Int32)), .val (.int v26), .val (.ref a28)] [])) _
          refine XS.iconst X30.here hx rfl (hb hby at_153) ?_
          show Steps p.tables e below (T30.setTop (mkF m 154 #[.val (.int q0), .val (.int q1), .val (.int q2), .val (.int q3), .val (.int q4), .val (.int q5), .val (.int (0 : Int32)), .val (.int (0 : Int32)), .val (.ref a24), .val (.ref a25), .val (.ref a25), .val (.int (128 : Int32)), .val (.int v26), .val (.ref a28)] [(.int (0 : Int32))])) _
          exact retN X30 hx (t := .boolean) Bd.returns (by simp) (hb hby at_154) hr
        · show Q0 Z q0 q1 q2 q3 q4 q5 h0 n0 _ T30.heap _
          rw [e30]
          exact ⟨by have w_hv26 := hv26.symm; subst w_hv26; simp only [own_f0, if_neg c2, if_pos c23, if_neg c32], N30⟩
    · obtain ⟨T33, h33, cA33, X33, e33, E33, A33, st33⟩ := newP X0 hx hZ (aty := .byte) (hw _ (List.mem_of_getElem? (i := 0) rfl)) e0 (g := (mkF m 27 #[.val (.int q0), .val (.int q1), .val (.int q2), .val (.int q3), .val (.int q4), .val (.int q5), .val (.int (0 : Int32)), .val (.int (1 : Int32)), .unset, .unset, .unset, .unset, .unset, .unset] [(.int (4 : Int32))])) rfl (hb hby at_27) rfl (by decide) (cap := 4) (by decide) (by decide) (by decide) (by decide)
      obtain ⟨a33, g33⟩ : ∃ z, z = h0.size := ⟨_, rfl⟩
      rw [← g33] at A33 st33
      have ge_a33 : n0 ≤ a33 := g33 ▸ Z0
      have sz33 : n0 ≤ h33.size := Nat.le_trans Z0 E33.1
      have V33_n : own_AI Z h33 a33 .byte [(0 : Int32), (0 : Int32), (0 : Int32), (0 : Int32)] := own_AIbyte_new A33 (k := 4) (by decide)
      obtain ⟨T34, h34, cA34, X34, e34, E34, A34, st34⟩ := newP X33 hx hZ (aty := .byte) (hw _ (List.mem_of_getElem? (i := 0) rfl)) e33 (g := (mkF m 33 #[.val (.int q0), .val (.int q1), .val (.int q2), .val (.int q3), .val (.int q4), .val (.int q5), .val (.int (0 : Int32)), .val (.int (1 : Int32)), .val (.ref a33), .unset, .unset, .unset, .unset, .unset] [(.int (16 : Int32))])) rfl (hb hby at_33) rfl (by decide) (cap := 16) (by decide) (by decide) (by decide) (by decide)
      obtain ⟨a34, g34⟩ : ∃ z, z = h33.size := ⟨_, rfl⟩
      rw [← g34] at A34 st34
      have ne_a33_a34 : a33 ≠ a34 := g34 ▸ Nat.ne_of_lt V33_n.lt
      have ge_a34 : n0 ≤ a34 := g34 ▸ sz33
      have V34_a33 : own_AI Z h34 a33 .byte [(0 : Int32), (0 : Int32), (0 : Int32), (0 : Int32)] := V33_n.ext E34
      have sz34 : n0 ≤ h34.size := Nat.le_trans sz33 E34.1
      have V34_n : own_AI Z h34 a34 .byte [(0 : Int32), (0 : Int32), (0 : Int32), (0 : Int32), (0 : Int32), (0 : Int32), (0 : Int32), (0 : Int32), (0 : Int32), (0 : Int32), (0 : Int32), (0 : Int32), (0 : Int32), (0 : Int32), (0 : Int32), (0 : Int32)] := own_AIbyte_new A34 (k := 16) (by decide)
      obtain ⟨_, _, ⟨T35, L35, k35, n35⟩, -, X35, ⟨Lc35, hQ35, l35, y35, z35⟩, st35⟩ := Jvm.LawKit.callS X34 hx (y := (⟨"com/example/stillframe/stillframe/ccr/IpPrefixIsIpv4PinLaw", "put", "([BII)V"⟩ : MethodName)) hown (mvT hZ (hw _ (List.mem_of_getElem? (i := 20) rfl))) (mvT hZ (hw _ (List.mem_of_getElem? (i := 21) rfl))) (mvT hZ (hw _ (List.mem_of_getElem? (i := 22) rfl))) (mvT hZ (hw _ (List.mem_of_getElem? (i := 23) rfl))) (by decide) (backOf (W := 0) (rm4 l Z a0 hw [] a34 (0 : Int32) q1 [(0 : Int32), (0 : Int32), (0 : Int32), (0 : Int32), (0 : Int32), (0 : Int32), (0 : Int32), (0 : Int32), (0 : Int32), (0 : Int32), (0 : Int32), (0 : Int32), (0 : Int32), (0 : Int32), (0 : Int32), (0 : Int32)] h34 n0 sz34 V34_n ge_a34 (by (try simp only [own_putlen]); decide) (by (try simp only [own_putlen]); decide)) hZ (hw _ (List.mem_of_getElem? (i := 23) rfl)) (hw _ (List.mem_of_getElem? (i := 22) rfl)) (by decide) (by decide)) (g := (mkF m 75 #[.val (.int q0), .val (.int q1), .val (.int q2), .val (.int q3), .val (.int q4), .val (.int q5), .val (.int (0 : Int32)), .val (.int (1 : Int32)), .val (.ref a33), .val (.ref a34), .val (.ref a34), .val (.int (128 : Int32)), .unset, .unset] [(.int q1), (.int (0 : Int32)), (.ref a34)])) rfl (by rw [hml]; rfl) (argsL := [(.ref a34), (.int (0 : Int32)), (.int q1)]) (rest := []) (lenOf pd_7 rfl) rfl (by show 2 * 0 + _ ≤ _; exact Nat.le_of_eq rfl) (hb hby at_75) (fun _ _ => ⟨rfl, e34, (by decide : 2 + 0 ≤ _), (by decide : 20 + 0 ≤ _)⟩)
      dsimp only [Pt.U, Pt.locs, Pt.cells, Pt.slots] at X35 l35 y35 z35 st35 hQ35
      subst l35 y35 z35
      obtain ⟨rfl, N35q, K35, V35_o0⟩ := hQ35
      obtain ⟨h35, e35⟩ : ∃ z, T35.heap = z := ⟨_, rfl⟩
      rw [e35] at K35 V35_o0
      have V35_a33 : own_AI Z h35 a33 .byte [(0 : Int32), (0 : Int32), (0 : Int32), (0 : Int32)] := V34_a33.keep K35 (ninS ne_a33_a34 nin0)
      have sz35 : n0 ≤ h35.size := Nat.le_trans sz34 K35.1
      have N35 := Fr.app N0 N35q
      obtain ⟨_, _, ⟨T36, L36, k36, n36⟩, -, X36, ⟨Lc36, hQ36, l36, y36, z36⟩, st36⟩ := Jvm.LawKit.callS X35 hx (y := (⟨"com/example/stillframe/stillframe/ccr/IpPrefixIsIpv4PinLaw", "put", "([BII)V"⟩ : MethodName)) hown (mvT hZ (hw _ (List.mem_of_getElem? (i := 20) rfl))) (mvT hZ (hw _ (List.mem_of_getElem? (i := 21) rfl))) (mvT hZ (hw _ (List.mem_of_getElem? (i := 22) rfl))) (mvT hZ (hw _ (List.mem_of_getElem? (i := 23) rfl))) (by decide) (backOf (W := 0) (rm4 l Z a0 hw [] a34 (4 : Int32) q2 ((own_put ([(0 : Int32), (0 : Int32), (0 : Int32), (0 : Int32), (0 : Int32), (0 : Int32), (0 : Int32), (0 : Int32), (0 : Int32), (0 : Int32), (0 : Int32), (0 : Int32), (0 : Int32), (0 : Int32), (0 : Int32), (0 : Int32)]) ((0 : Int32)) q1)) h35 n0 sz35 V35_o0 ge_a34 (by (try simp only [own_putlen]); decide) (by (try simp only [own_putlen]); decide)) hZ (hw _ (List.mem_of_getElem? (i := 23) rfl)) (hw _ (List.mem_of_getElem? (i := 22) rfl)) (by decide) (by decide)) (g := (mkF m 87 #[.val (.int q0), .val (.int q1), .val (.int q2), .val (.int q3), .val (.int q4), .val (.int q5), .val (.int (0 : Int32)), .val (.int (1 : Int32)), .val (.ref a33), .val (.ref a34), .val (.ref a34), .val (.int (128 : Int32)), .unset, .unset] [(.int q2), (.int (4 : Int32)), (.ref a34)])) rfl (by rw [hml]; rfl) (argsL := [(.ref a34), (.int (4 : Int32)), (.int q2)]) (rest := []) (lenOf pd_7 rfl) rfl (by show 2 * 0 + _ ≤ _; exact Nat.le_of_eq rfl) (hb hby at_87) (fun _ _ => ⟨rfl, e35, (by decide : 2 + 0 ≤ _), (by decide : 20 + 0 ≤ _)⟩)
      dsimp only [Pt.U, Pt.locs, Pt.cells, Pt.slots] at X36 l36 y36 z36 st36 hQ36
      subst l36 y36 z36
      obtain ⟨rfl, N36q, K36, V36_o0⟩ := hQ36
      obtain ⟨h36, e36⟩ : ∃ z, T36.heap = z := ⟨_, rfl⟩
      rw [e36] at K36 V36_o0
      have V36_a33 : own_AI Z h36 a33 .byte [(0 : Int32), (0 : Int32), (0 : Int32), (0 : Int32)] := V35_a33.keep K36 (ninS ne_a33_a34 nin0)
      have sz36 : n0 ≤ h36.size := Nat.le_trans sz35 K36.1
      have N36 := Fr.app N35 N36q
      obtain ⟨_, _, ⟨T37, L37, k37, n37⟩, -, X37, ⟨Lc37, hQ37, l37, y37, z37⟩, st37⟩ := Jvm.LawKit.callS X36 hx (y := (⟨"com/example/stillframe/stillframe/ccr/IpPrefixIsIpv4PinLaw", "put", "([BII)V"⟩ : MethodName)) hown (mvT hZ (hw _ (List.mem_of_getElem? (i := 20) rfl))) (mvT hZ (hw _ (List.mem_of_getElem? (i := 21) rfl))) (mvT hZ (hw _ (List.mem_of_getElem? (i := 22) rfl))) (mvT hZ (hw _ (List.mem_of_getElem? (i := 23) rfl))) (by decide) (backOf (W := 0) (rm4 l Z a0 hw [] a34 (8 : Int32) q3 ((own_put ((own_put ([(0 : Int32), (0 : Int32), (0 : Int32), (0 : Int32), (0 : Int32), (0 : Int32), (0 : Int32), (0 : Int32), (0 : Int32), (0 : Int32), (0 : Int32), (0 : Int32), (0 : Int32), (0 : Int32), (0 : Int32), (0 : Int32)]) ((0 : Int32)) q1)) ((4 : Int32)) q2)) h36 n0 sz36 V36_o0 ge_a34 (by (try simp only [own_putlen]); decide) (by (try simp only [own_putlen]); decide)) hZ (hw _ (List.mem_of_getElem? (i := 23) rfl)) (hw _ (List.mem_of_getElem? (i := 22) rfl)) (by decide) (by decide)) (g := (mkF m 95 #[.val (.int q0), .val (.int q1), .val (.int q2), .val (.int q3), .val (.int q4), .val (.int q5), .val (.int (0 : Int32)), .val (.int (1 : Int32)), .val (.ref a33), .val (.ref a34), .val (.ref a34), .val (.int (128 : Int32)), .unset, .unset] [(.int q3), (.int (8 : Int32)), (.ref a34)])) rfl (by rw [hml]; rfl) (argsL := [(.ref a34), (.int (8 : Int32)), (.int q3)]) (rest := []) (lenOf pd_7 rfl) rfl (by show 2 * 0 + _ ≤ _; exact Nat.le_of_eq rfl) (hb hby at_95) (fun _ _ => ⟨rfl, e36, (by decide : 2 + 0 ≤ _), (by decide : 20 + 0 ≤ _)⟩)
      dsimp only [Pt.U, Pt.locs, Pt.cells, Pt.slots] at X37 l37 y37 z37 st37 hQ37
      subst l37 y37 z37
      obtain ⟨rfl, N37q, K37, V37_o0⟩ := hQ37
      obtain ⟨h37, e37⟩ : ∃ z, T37.heap = z := ⟨_, rfl⟩
      rw [e37] at K37 V37_o0
      have V37_a33 : own_AI Z h37 a33 .byte [(0 : Int32), (0 : Int32), (0 : Int32), (0 : Int32)] := V36_a33.keep K37 (ninS ne_a33_a34 nin0)
      have sz37 : n0 ≤ h37.size := Nat.le_trans sz36 K37.1
      have N37 := Fr.app N36 N37q
      obtain ⟨_, _, ⟨T38, L38, k38, n38⟩, -, X38, ⟨Lc38, hQ38, l38, y38, z38⟩, st38⟩ := Jvm.LawKit.callS X37 hx (y := (⟨"com/example/stillframe/stillframe/ccr/IpPrefixIsIpv4PinLaw", "put", "([BII)V"⟩ : MethodName)) hown (mvT hZ (hw _ (List.mem_of_getElem? (i := 20) rfl))) (mvT hZ (hw _ (List.mem_of_getElem? (i := 21) rfl))) (mvT hZ (hw _ (List.mem_of_getElem? (i := 22) rfl))) (mvT hZ (hw _ (List.mem_of_getElem? (i := 23) rfl))) (by decide) (backOf (W := 0) (rm4 l Z a0 hw [] a34 (12 : Int32) q4 ((own_put ((own_put ((own_put ([(0 : Int32), (0 : Int32), (0 : Int32), (0 : Int32), (0 : Int32), (0 : Int32), (0 : Int32), (0 : Int32), (0 : Int32), (0 : Int32), (0 : Int32), (0 : Int32), (0 : Int32), (0 : Int32), (0 : Int32), (0 : Int32)]) ((0 : Int32)) q1)) ((4 : Int32)) q2)) ((8 : Int32)) q3)) h37 n0 sz37 V37_o0 ge_a34 (by (try simp only [own_putlen]); decide) (by (try simp only [own_putlen]); decide)) hZ (hw _ (List.mem_of_getElem? (i := 23) rfl)) (hw _ (List.mem_of_getElem? (i := 22) rfl)) (by decide) (by decide)) (g := (mkF m 104 #[.val (.int q0), .val (.int q1), .val (.int q2), .val (.int q3), .val (.int q4), .val (.int q5), .val (.int (0 : Int32)), .val (.int (1 : Int32)), .val (.ref a33), .val (.ref a34), .val (.ref a34), .val (.int (128 : Int32)), .unset, .unset] [(.int q4), (.int (12 : Int32)), (.ref a34)])) rfl (by rw [hml]; rfl) (argsL := [(.ref a34), (.int (12 : Int32)), (.int q4)]) (rest := []) (lenOf pd_7 rfl) rfl (by show 2 * 0 + _ ≤ _; exact Nat.le_of_eq rfl) (hb hby at_104) (fun _ _ => ⟨rfl, e37, (by decide : 2 + 0 ≤ _), (by decide : 20 + 0 ≤ _)⟩)
      dsimp only [Pt.U, Pt.locs, Pt.cells, Pt.slots] at X38 l38 y38 z38 st38 hQ38
      subst l38 y38 z38
      obtain ⟨rfl, N38q, K38, V38_o0⟩ := hQ38
      obtain ⟨h38, e38⟩ : ∃ z, T38.heap = z := ⟨_, rfl⟩
      rw [e38] at K38 V38_o0
      have V38_a33 : own_AI Z h38 a33 .byte [(0 : Int32), (0 : Int32), (0 : Int32), (0 : Int32)] := V37_a33.keep K38 (ninS ne_a33_a34 nin0)
      have sz38 : n0 ≤ h38.size := Nat.le_trans sz37 K38.1
      have N38 := Fr.app N37 N38q
      obtain ⟨T39, h39, X39, e39, E39, A39, D39, -, st39⟩ := newO X38 hx hZ hown (hw _ (List.mem_of_getElem? (i := 2) rfl)) (hw _ (List.mem_of_getElem? (i := 3) rfl)) (hw _ (List.mem_of_getElem? (i := 4) rfl)) e38 (g := (mkF m 126 #[.val (.int q0), .val (.int q1), .val (.int q2), .val (.int q3), .val (.int q4), .val (.int q5), .val (.int (0 : Int32)), .val (.int (1 : Int32)), .val (.ref a33), .val (.ref a34), .val (.ref a34), .val (.int (128 : Int32)), .val (.int (128 : Int32)), .unset] [])) rfl (hb hby at_126) (by decide) (by decide)
      obtain ⟨a39, g39⟩ : ∃ z, z = h38.size := ⟨_, rfl⟩
      rw [← g39] at A39 D39 st39
      have ne_a33_a39 : a33 ≠ a39 := g39 ▸ Nat.ne_of_lt V38_a33.lt
      have ne_a34_a39 : a34 ≠ a39 := g39 ▸ Nat.ne_of_lt V38_o0.lt
      have ge_a39 : n0 ≤ a39 := g39 ▸ sz38
      have V39_a33 : own_AI Z h39 a33 .byte [(0 : Int32), (0 : Int32), (0 : Int32), (0 : Int32)] := V38_a33.ext E39
      have V39_a34 : own_AI Z h39 a34 .byte (own_put ((own_put ((own_put ((own_put ([(0 : Int32), (0 : Int32), (0 : Int32), (0 : Int32), (0 : Int32), (0 : Int32), (0 : Int32), (0 : Int32), (0 : Int32), (0 : Int32), (0 : Int32), (0 : Int32), (0 : Int32), (0 : Int32), (0 : Int32), (0 : Int32)]) ((0 : Int32)) q1)) ((4 : Int32)) q2)) ((8 : Int32)) q3)) ((12 : Int32)) q4) := V38_o0.ext E39
      have sz39 : n0 ≤ h39.size := Nat.le_trans sz38 E39.1
      have F39_n0 : Fld Z h39 a39 "com/example/stillframe/stillframe/ccr/IpPrefix" "address" "[B" .null := D39 (Or.inr (hw _ (List.mem_of_getElem? (i := 12) rfl))) (ty := (.array .byte)) (by decide)
      have F39_n1 : Fld Z h39 a39 "com/example/stillframe/stillframe/ccr/IpPrefix" "length" "I" (.int (0 : Int32)) := D39 (Or.inr (hw _ (List.mem_of_getElem? (i := 14) rfl))) (ty := .int) (by decide)
      obtain ⟨_, _, ⟨T40, L40, k40, n40⟩, -, X40, ⟨Lc40, hQ40, l40, y40, z40⟩, st40⟩ := X39.specialBack hx (y := (⟨"com/example/stillframe/stillframe/ccr/IpPrefix", "<init>", "([BI)V"⟩ : MethodName)) rfl hown (mvT hZ (hw _ (List.mem_of_getElem? (i := 5) rfl))) (mvT hZ (hw _ (List.mem_of_getElem? (i := 6) rfl))) (mvT hZ (hw _ (List.mem_of_getElem? (i := 7) rfl))) (by decide) (backOf (W := 1) (rm1 l Z a0 hw [] a39 a34 (128 : Int32)  h39 n0 sz39 A39 F39_n0 F39_n1 ge_a39 ) hZ (hw _ (List.mem_of_getElem? (i := 7) rfl)) (hw _ (List.mem_of_getElem? (i := 4) rfl)) (by decide) (by decide)) (g := (mkF m 134 #[.val (.int q0), .val (.int q1), .val (.int q2), .val (.int q3), .val (.int q4), .val (.int q5), .val (.int (0 : Int32)), .val (.int (1 : Int32)), .val (.ref a33), .val (.ref a34), .val (.ref a34), .val (.int (128 : Int32)), .val (.int (128 : Int32)), .unset] [(.int (128 : Int32)), (.ref a34), (.ref a39), (.ref a39)])) rfl (by rw [hml]; rfl) (Steps.refl _) (a := a39) (argsL := [(.ref a34), (.int (128 : Int32))]) (rest := [(.ref a39)]) (lenOf pd_5 rfl) rfl (by show 2 * 0 + _ ≤ _; exact Nat.le_of_eq rfl) (hb hby at_134) (fun _ _ => ⟨rfl, e39, (by decide : 3 + 0 ≤ _), (by decide : 22 + 0 ≤ _)⟩)
      dsimp only [Pt.U, Pt.locs, Pt.cells, Pt.slots] at X40 l40 y40 z40 st40 hQ40
      subst l40 y40 z40
      obtain ⟨rfl, N40q, K40, A40_o0, F40_o0, F40_o1⟩ := hQ40
      obtain ⟨h40, e40⟩ : ∃ z, T40.heap = z := ⟨_, rfl⟩
      rw [e40] at K40 A40_o0 F40_o0 F40_o1
      have V40_a33 : own_AI Z h40 a33 .byte [(0 : Int32), (0 : Int32), (0 : Int32), (0 : Int32)] := V39_a33.keep K40 (ninS ne_a33_a39 nin0)
      have V40_a34 : own_AI Z h40 a34 .byte (own_put ((own_put ((own_put ((own_put ([(0 : Int32), (0 : Int32), (0 : Int32), (0 : Int32), (0 : Int32), (0 : Int32), (0 : Int32), (0 : Int32), (0 : Int32), (0 : Int32), (0 : Int32), (0 : Int32), (0 : Int32), (0 : Int32), (0 : Int32), (0 : Int32)]) ((0 : Int32)) q1)) ((4 : Int32)) q2)) ((8 : Int32)) q3)) ((12 : Int32)) q4) := V39_a34.keep K40 (ninS ne_a34_a39 nin0)
      have A40_a39 : Exa Z h40 a39 "com/example/stillframe/stillframe/ccr/IpPrefix" := A39.keep K40
      have sz40 : n0 ≤ h40.size := Nat.le_trans sz39 K40.1
      have N40 := Fr.app N38 N40q
      obtain ⟨cq41, kq41, q41a, q41b, q41c⟩ := isOf hZ e40 A40_o0
      obtain ⟨_, _, ⟨T41, L41, k41, n41⟩, -, X41, ⟨Lc41, hQ41, l41, y41, z41⟩, st41⟩ := X40.virtualBack hx (y := (⟨"com/example/stillframe/stillframe/ccr/IpPrefix", "isIpv4", "()Z"⟩ : MethodName)) (z := (⟨"com/example/stillframe/stillframe/ccr/IpPrefix", "isIpv4", "()Z"⟩ : MethodName)) hown (mvT hZ (hw _ (List.mem_of_getElem? (i := 15) rfl))) (mvT hZ (hw _ (List.mem_of_getElem? (i := 16) rfl))) (notFace_of_selects (args := #[]) (mvT hZ (hw _ (List.mem_of_getElem? (i := 18) rfl)))) (mvT hZ (hw _ (List.mem_of_getElem? (i := 18) rfl))) (mvT hZ (hw _ (List.mem_of_getElem? (i := 17) rfl))) (by decide) (backOf (W := 0) (rm3 l Z a0 hw [] a39 a34 ((own_put ((own_put ((own_put ((own_put ([(0 : Int32), (0 : Int32), (0 : Int32), (0 : Int32), (0 : Int32), (0 : Int32), (0 : Int32), (0 : Int32), (0 : Int32), (0 : Int32), (0 : Int32), (0 : Int32), (0 : Int32), (0 : Int32), (0 : Int32), (0 : Int32)]) ((0 : Int32)) q1)) ((4 : Int32)) q2)) ((8 : Int32)) q3)) ((12 : Int32)) q4)) h40 n0 sz40 V40_a34 A40_o0 F40_o0 ) hZ (hw _ (List.mem_of_getElem? (i := 19) rfl)) (hw _ (List.mem_of_getElem? (i := 4) rfl)) (by decide) (by decide)) q41a q41c (g := (mkF m 141 #[.val (.int q0), .val (.int q1), .val (.int q2), .val (.int q3), .val (.int q4), .val (.int q5), .val (.int (0 : Int32)), .val (.int (1 : Int32)), .val (.ref a33), .val (.ref a34), .val (.ref a34), .val (.int (128 : Int32)), .val (.int (128 : Int32)), .val (.ref a39)] [(.ref a39)])) rfl (by rw [hml]; rfl) (Steps.refl _) (argsL := []) (rest := []) (lenOf pd_6 rfl) rfl (by show 2 * 0 + _ ≤ _; exact Nat.le_of_eq rfl) (hb hby at_141) (fun _ _ => ⟨rfl, e40, (by decide : 3 + 0 ≤ _), (by decide : 22 + 0 ≤ _)⟩)
      dsimp only [Pt.U, Pt.locs, Pt.cells, Pt.slots] at X41 l41 y41 z41 st41 hQ41
      subst l41 y41 z41
      obtain ⟨rfl, N41q, e41⟩ := hQ41
      have N41 := Fr.app N40 N41q
      have pre42 : ∀ t, Steps p.tables e below (T41.setTop (mkF m 146 #[.val (.int q0), .val (.int q1), .val (.int q2), .val (.int q3), .val (.int q4), .val (.int q5), .val (.int (0 : Int32)), .val (.int (1 : Int32)), .val (.ref a33), .val (.ref a34), .val (.ref a34), .val (.int (128 : Int32)), .val (.int (128 : Int32)), .val (.ref a39)] [(.int (0 : Int32)), (.int (own_f3  ((own_put ((own_put ((own_put ((own_put ([(0 : Int32), (0 : Int32), (0 : Int32), (0 : Int32), (0 : Int32), (0 : Int32), (0 : Int32), (0 : Int32), (0 : Int32), (0 : Int32), (0 : Int32), (0 : Int32), (0 : Int32), (0 : Int32), (0 : Int32), (0 : Int32)]) ((0 : Int32)) q1)) ((4 : Int32)) q2)) ((8 : Int32)) q3)) ((12 : Int32)) q4))))])) t → Steps p.tables e below (s₁.setTop (entryFrame m #[(.int q0), (.int q1), (.int q2), (.int q3), (.int q4), (.int q5)] maxLocals)) t := by
        intro t k
        refine pre22 t ?_
        show Steps p.tables e below (s₁.setTop (mkF m 16 #[.val (.int q0), .val (.int q1), .val (.int q2), .val (.int q3), .val (.int q4), .val (.int q5), .val (.int (0 : Int32)), .unset, .unset, .unset, .unset, .unset, .unset, .unset] [(.int (q0 &&& (2 : Int32)))])) _
        refine XS.ifNo X0.here hx rfl (hb hby at_16) rfl ((if0 _ _).trans (feq c23).1) ?_
        show Steps p.tables e below (s₁.setTop (mkF m 19 #[.val (.int q0), .val (.int q1), .val (.int q2), .val (.int q3), .val (.int q4), .val (.int q5), .val (.int (0 : Int32)), .unset, .unset, .unset, .unset, .unset, .unset, .unset] [])) _
        refine XS.iconst X0.here hx rfl (hb hby at_19) ?_
        show Steps p.tables e below (s₁.setTop (mkF m 20 #[.val (.int q0), .val (.int q1), .val (.int q2), .val (.int q3), .val (.int q4), .val (.int q5), .val (.int (0 : Int32)), .unset, .unset, .unset, .unset, .unset, .unset, .unset] [(.int (1 : Int32))])) _
        refine XS.goto X0.here hx rfl (pc0 := 20) (pc' := 24) rfl (hb hby at_20) (by decide) (by decide) ?_
        show Steps p.tables e below (s₁.setTop (mkF m 24 #[.val (.int q0), .val (.int q1), .val (.int q2), .val (.int q3), .val (.int q4), .val (.int q5), .val (.int (0 : Int32)), .unset, .unset, .unset, .unset, .unset, .unset, .unset] [(.int (1 : Int32))])) _
        refine XS.istore X0.here hx rfl (hb hby at_24) rfl (l' := #[.val (.int q0), .val (.int q1), .val (.int q2), .val (.int q3), .val (.int q4), .val (.int q5), .val (.int (0 : Int32)), .val (.int (1 : Int32)), .unset, .unset, .unset, .unset, .unset, .unset]) rfl ?_
        show Steps p.tables e below (s₁.setTop (mkF m 26 #[.val (.int q0), .val (.int q1), .val (.int q2), .val (.int q3), .val (.int q4), .val (.int q5), .val (.int (0 : Int32)), .val (.int (1 : Int32)), .unset, .unset, .unset, .unset, .unset, .unset] [])) _
        refine XS.iconst X0.here hx rfl (hb hby at_26) ?_
        show Steps p.tables e below (s₁.setTop (mkF m 27 #[.val (.int q0), .val (.int q1), .val (.int q2), .val (.int q3), .val (.int q4), .val (.int q5), .val (.int (0 : Int32)), .val (.int (1 : Int32)), .unset, .unset, .unset, .unset, .unset, .unset] [(.int (4 : Int32))])) _
        refine st33 _ ?_
        show Steps p.tables e below (T33.setTop (mkF m 29 #[.val (.int q0), .val (.int q1), .val (.int q2), .val (.int q3), .val (.int q4), .val (.int q5), .val (.int (0 : Int32)), .val (.int (1 : Int32)), .unset, .unset, .unset, .unset, .unset, .unset] [(.ref a33)])) _
        refine XS.astore X33.here hx rfl (hb hby at_29) rfl rfl (l' := #[.val (.int q0), .val (.int q1), .val (.int q2), .val (.int q3), .val (.int q4), .val (.int q5), .val (.int (0 : Int32)), .val (.int (1 : Int32)), .val (.ref a33), .unset, .unset, .unset, .unset, .unset]) rfl ?_
        show Steps p.tables e below (T33.setTop (mkF m 31 #[.val (.int q0), .val (.int q1), .val (.int q2), .val (.int q3), .val (.int q4), .val (.int q5), .val (.int (0 : Int32)), .val (.int (1 : Int32)), .val (.ref a33), .unset, .unset, .unset, .unset, .unset] [])) _
        refine XS.bipush X33.here hx rfl (hb hby at_31) ?_
        show Steps p.tables e below (T33.setTop (mkF m 33 #[.val (.int q0), .val (.int q1), .val (.int q2), .val (.int q3), .val (.int q4), .val (.int q5), .val (.int (0 : Int32)), .val (.int (1 : Int32)), .val (.ref a33), .unset, .unset, .unset, .unset, .unset] [(.int (16 : Int32))])) _
        refine st34 _ ?_
        show Steps p.tables e below (T34.setTop (mkF m 35 #[.val (.int q0), .val (.int q1), .val (.int q2), .val (.int q3), .val (.int q4), .val (.int q5), .val (.int (0 : Int32)), .val (.int (1 : Int32)), .val (.ref a33), .unset, .unset, .unset, .unset, .unset] [(.ref a34)])) _
        refine XS.astore X34.here hx rfl (hb hby at_35) rfl rfl (l' := #[.val (.int q0), .val (.int q1), .val (.int q2), .val (.int q3), .val (.int q4), .val (.int q5), .val (.int (0 : Int32)), .val (.int (1 : Int32)), .val (.ref a33), .val (.ref a34), .unset, .unset, .unset, .unset]) rfl ?_
        show Steps p.tables e below (T34.setTop (mkF m 37 #[.val (.int q0), .val (.int q1), .val (.int q2), .val (.int q3), .val (.int q4), .val (.int q5), .val (.int (0 : Int32)), .val (.int (1 : Int32)), .val (.ref a33), .val (.ref a34), .unset, .unset, .unset, .unset] [])) _
        refine XS.iload X34.here hx rfl (hb hby at_37) rfl ?_
        show Steps p.tables e below (T34.setTop (mkF m 39 #[.val (.int q0), .val (.int q1), .val (.int q2), .val (.int q3), .val (.int q4), .val (.int q5), .val (.int (0 : Int32)), .val (.int (1 : Int32)), .val (.ref a33), .val (.ref a34), .unset, .unset, .unset, .unset] [(.int (0 : Int32))])) _
        refine XS.ifYes X34.here hx rfl (pc0 := 39) (pc' := 47) rfl (hb hby at_39) rfl (by decide) (by decide) (by decide) ?_
        show Steps p.tables e below (T34.setTop (mkF m 47 #[.val (.int q0), .val (.int q1), .val (.int q2), .val (.int q3), .val (.int q4), .val (.int q5), .val (.int (0 : Int32)), .val (.int (1 : Int32)), .val (.ref a33), .val (.ref a34), .unset, .unset, .unset, .unset] [])) _
        refine XS.aload X34.here hx rfl (hb hby at_47) rfl rfl ?_
        show Steps p.tables e below (T34.setTop (mkF m 49 #[.val (.int q0), .val (.int q1), .val (.int q2), .val (.int q3), .val (.int q4), .val (.int q5), .val (.int (0 : Int32)), .val (.int (1 : Int32)), .val (.ref a33), .val (.ref a34), .unset, .unset, .unset, .unset] [(.ref a34)])) _
        refine XS.astore X34.here hx rfl (hb hby at_49) rfl rfl (l' := #[.val (.int q0), .val (.int q1), .val (.int q2), .val (.int q3), .val (.int q4), .val (.int q5), .val (.int (0 : Int32)), .val (.int (1 : Int32)), .val (.ref a33), .val (.ref a34), .val (.ref a34), .unset, .unset, .unset]) rfl ?_
        show Steps p.tables e below (T34.setTop (mkF m 51 #[.val (.int q0), .val (.int q1), .val (.int q2), .val (.int q3), .val (.int q4), .val (.int q5), .val (.int (0 : Int32)), .val (.int (1 : Int32)), .val (.ref a33), .val (.ref a34), .val (.ref a34), .unset, .unset, .unset] [])) _
        refine XS.iload X34.here hx rfl (hb hby at_51) rfl ?_
        show Steps p.tables e below (T34.setTop (mkF m 53 #[.val (.int q0), .val (.int q1), .val (.int q2), .val (.int q3), .val (.int q4), .val (.int q5), .val (.int (0 : Int32)), .val (.int (1 : Int32)), .val (.ref a33), .val (.ref a34), .val (.ref a34), .unset, .unset, .unset] [(.int (0 : Int32))])) _
        refine XS.ifYes X34.here hx rfl (pc0 := 53) (pc' := 61) rfl (hb hby at_53) rfl (by decide) (by decide) (by decide) ?_
        show Steps p.tables e below (T34.setTop (mkF m 61 #[.val (.int q0), .val (.int q1), .val (.int q2), .val (.int q3), .val (.int q4), .val (.int q5), .val (.int (0 : Int32)), .val (.int (1 : Int32)), .val (.ref a33), .val (.ref a34), .val (.ref a34), .unset, .unset, .unset] [])) _
        refine XS.sipush X34.here hx rfl (hb hby at_61) ?_
        show Steps p.tables e below (T34.setTop (mkF m 64 #[.val (.int q0), .val (.int q1), .val (.int q2), .val (.int q3), .val (.int q4), .val (.int q5), .val (.int (0 : Int32)), .val (.int (1 : Int32)), .val (.ref a33), .val (.ref a34), .val (.ref a34), .unset, .unset, .unset] [(.int (128 : Int32))])) _
        refine XS.istore X34.here hx rfl (hb hby at_64) rfl (l' := #[.val (.int q0), .val (.int q1), .val (.int q2), .val (.int q3), .val (.int q4), .val (.int q5), .val (.int (0 : Int32)), .val (.int (1 : Int32)), .val (.ref a33), .val (.ref a34), .val (.ref a34), .val (.int (128 : Int32)), .unset, .unset]) rfl ?_
        show Steps p.tables e below (T34.setTop (mkF m 66 #[.val (.int q0), .val (.int q1), .val (.int q2), .val (.int q3), .val (.int q4), .val (.int q5), .val (.int (0 : Int32)), .val (.int (1 : Int32)), .val (.ref a33), .val (.ref a34), .val (.ref a34), .val (.int (128 : Int32)), .unset, .unset] [])) _
        refine XS.iload X34.here hx rfl (hb hby at_66) rfl ?_
        show Steps p.tables e below (T34.setTop (mkF m 68 #[.val (.int q0), .val (.int q1), .val (.int q2), .val (.int q3), .val (.int q4), .val (.int q5), .val (.int (0 : Int32)), .val (.int (1 : Int32)), .val (.ref a33), .val (.ref a34), .val (.ref a34), .val (.int (128 : Int32)), .unset, .unset] [(.int (1 : Int32))])) _
        refine XS.ifNo X34.here hx rfl (hb hby at_68) rfl (by decide) ?_
        show Steps p.tables e below (T34.setTop (mkF m 71 #[.val (.int q0), .val (.int q1), .val (.int q2), .val (.int q3), .val (.int q4), .val (.int q5), .val (.int (0 : Int32)), .val (.int (1 : Int32)), .val (.ref a33), .val (.ref a34), .val (.ref a34), .val (.int (128 : Int32)), .unset, .unset] [])) _
        refine XS.aload X34.here hx rfl (hb hby at_71) rfl rfl ?_
        show Steps p.tables e below (T34.setTop (mkF m 73 #[.val (.int q0), .val (.int q1), .val (.int q2), .val (.int q3), .val (.int q4), .val (.int q5), .val (.int (0 : Int32)), .val (.int (1 : Int32)), .val (.ref a33), .val (.ref a34), .val (.ref a34), .val (.int (128 : Int32)), .unset, .unset] [(.ref a34)])) _
        refine XS.iconst X34.here hx rfl (hb hby at_73) ?_
        show Steps p.tables e below (T34.setTop (mkF m 74 #[.val (.int q0), .val (.int q1), .val (.int q2), .val (.int q3), .val (.int q4), .val (.int q5), .val (.int (0 : Int32)), .val (.int (1 : Int32)), .val (.ref a33), .val (.ref a34), .val (.ref a34), .val (.int (128 : Int32)), .unset, .unset] [(.int (0 : Int32)), (.ref a34)])) _
        refine XS.iloadN X34.here hx rfl (hb hby at_74) rfl ?_
        show Steps p.tables e below (T34.setTop (mkF m 75 #[.val (.int q0), .val (.int q1), .val (.int q2), .val (.int q3), .val (.int q4), .val (.int q5), .val (.int (0 : Int32)), .val (.int (1 : Int32)), .val (.ref a33), .val (.ref a34), .val (.ref a34), .val (.int (128 : Int32)), .unset, .unset] [(.int q1), (.int (0 : Int32)), (.ref a34)])) _
        refine st35 _ ?_
        show Steps p.tables e below (T35.setTop (mkF m 78 #[.val (.int q0), .val (.int q1), .val (.int q2), .val (.int q3), .val (.int q4), .val (.int q5), .val (.int (0 : Int32)), .val (.int (1 : Int32)), .val (.ref a33), .val (.ref a34), .val (.ref a34), .val (.int (128 : Int32)), .unset, .unset] [])) _
        refine XS.iload X35.here hx rfl (hb hby at_78) rfl ?_
        show Steps p.tables e below (T35.setTop (mkF m 80 #[.val (.int q0), .val (.int q1), .val (.int q2), .val (.int q3), .val (.int q4), .val (.int q5), .val (.int (0 : Int32)), .val (.int (1 : Int32)), .val (.ref a33), .val (.ref a34), .val (.ref a34), .val (.int (128 : Int32)), .unset, .unset] [(.int (0 : Int32))])) _
        refine XS.ifNo X35.here hx rfl (hb hby at_80) rfl (by decide) ?_
        show Steps p.tables e below (T35.setTop (mkF m 83 #[.val (.int q0), .val (.int q1), .val (.int q2), .val (.int q3), .val (.int q4), .val (.int q5), .val (.int (0 : Int32)), .val (.int (1 : Int32)), .val (.ref a33), .val (.ref a34), .val (.ref a34), .val (.int (128 : Int32)), .unset, .unset] [])) _
        refine XS.aload X35.here hx rfl (hb hby at_83) rfl rfl ?_
        show Steps p.tables e below (T35.setTop (mkF m 85 #[.val (.int q0), .val (.int q1), .val (.int q2), .val (.int q3), .val (.int q4), .val (.int q5), .val (.int (0 : Int32)), .val (.int (1 : Int32)), .val (.ref a33), .val (.ref a34), .val (.ref a34), .val (.int (128 : Int32)), .unset, .unset] [(.ref a34)])) _
        refine XS.iconst X35.here hx rfl (hb hby at_85) ?_
        show Steps p.tables e below (T35.setTop (mkF m 86 #[.val (.int q0), .val (.int q1), .val (.int q2), .val (.int q3), .val (.int q4), .val (.int q5), .val (.int (0 : Int32)), .val (.int (1 : Int32)), .val (.ref a33), .val (.ref a34), .val (.ref a34), .val (.int (128 : Int32)), .unset, .unset] [(.int (4 : Int32)), (.ref a34)])) _
        refine XS.iloadN X35.here hx rfl (hb hby at_86) rfl ?_
        show Steps p.tables e below (T35.setTop (mkF m 87 #[.val (.int q0), .val (.int q1), .val (.int q2), .val (.int q3), .val (.int q4), .val (.int q5), .val (.int (0 : Int32)), .val (.int (1 : Int32)), .val (.ref a33), .val (.ref a34), .val (.ref a34), .val (.int (128 : Int32)), .unset, .unset] [(.int q2), (.int (4 : Int32)), (.ref a34)])) _
        refine st36 _ ?_
        show Steps p.tables e below (T36.setTop (mkF m 90 #[.val (.int q0), .val (.int q1), .val (.int q2), .val (.int q3), .val (.int q4), .val (.int q5), .val (.int (0 : Int32)), .val (.int (1 : Int32)), .val (.ref a33), .val (.ref a34), .val (.ref a34), .val (.int (128 : Int32)), .unset, .unset] [])) _
        refine XS.aload X36.here hx rfl (hb hby at_90) rfl rfl ?_
        show Steps p.tables e below (T36.setTop (mkF m 92 #[.val (.int q0), .val (.int q1), .val (.int q2), .val (.int q3), .val (.int q4), .val (.int q5), .val (.int (0 : Int32)), .val (.int (1 : Int32)), .val (.ref a33), .val (.ref a34), .val (.ref a34), .val (.int (128 : Int32)), .unset, .unset] [(.ref a34)])) _
        refine XS.bipush X36.here hx rfl (hb hby at_92) ?_
        show Steps p.tables e below (T36.setTop (mkF m 94 #[.val (.int q0), .val (.int q1), .val (.int q2), .val (.int q3), .val (.int q4), .val (.int q5), .val (.int (0 : Int32)), .val (.int (1 : Int32)), .val (.ref a33), .val (.ref a34), .val (.ref a34), .val (.int (128 : Int32)), .unset, .unset] [(.int (8 : Int32)), (.ref a34)])) _
        refine XS.iloadN X36.here hx rfl (hb hby at_94) rfl ?_
        show Steps p.tables e below (T36.setTop (mkF m 95 #[.val (.int q0), .val (.int q1), .val (.int q2), .val (.int q3), .val (.int q4), .val (.int q5), .val (.int (0 : Int32)), .val (.int (1 : Int32)), .val (.ref a33), .val (.ref a34), .val (.ref a34), .val (.int (128 : Int32)), .unset, .unset] [(.int q3), (.int (8 : Int32)), (.ref a34)])) _
        refine st37 _ ?_
        show Steps p.tables e below (T37.setTop (mkF m 98 #[.val (.int q0), .val (.int q1), .val (.int q2), .val (.int q3), .val (.int q4), .val (.int q5), .val (.int (0 : Int32)), .val (.int (1 : Int32)), .val (.ref a33), .val (.ref a34), .val (.ref a34), .val (.int (128 : Int32)), .unset, .unset] [])) _
        refine XS.aload X37.here hx rfl (hb hby at_98) rfl rfl ?_
        show Steps p.tables e below (T37.setTop (mkF m 100 #[.val (.int q0), .val (.int q1), .val (.int q2), .val (.int q3), .val (.int q4), .val (.int q5), .val (.int (0 : Int32)), .val (.int (1 : Int32)), .val (.ref a33), .val (.ref a34), .val (.ref a34), .val (.int (128 : Int32)), .unset, .unset] [(.ref a34)])) _
        refine XS.bipush X37.here hx rfl (hb hby at_100) ?_
        show Steps p.tables e below (T37.setTop (mkF m 102 #[.val (.int q0), .val (.int q1), .val (.int q2), .val (.int q3), .val (.int q4), .val (.int q5), .val (.int (0 : Int32)), .val (.int (1 : Int32)), .val (.ref a33), .val (.ref a34), .val (.ref a34), .val (.int (128 : Int32)), .unset, .unset] [(.int (12 : Int32)), (.ref a34)])) _
        refine XS.iload X37.here hx rfl (hb hby at_102) rfl ?_
        show Steps p.tables e below (T37.setTop (mkF m 104 #[.val (.int q0), .val (.int q1), .val (.int q2), .val (.int q3), .val (.int q4), .val (.int q5), .val (.int (0 : Int32)), .val (.int (1 : Int32)), .val (.ref a33), .val (.ref a34), .val (.ref a34), .val (.int (128 : Int32)), .unset, .unset] [(.int q4), (.int (12 : Int32)), (.ref a34)])) _
        refine st38 _ ?_
        show Steps p.tables e below (T38.setTop (mkF m 107 #[.val (.int q0), .val (.int q1), .val (.int q2), .val (.int q3), .val (.int q4), .val (.int q5), .val (.int (0 : Int32)), .val (.int (1 : Int32)), .val (.ref a33), .val (.ref a34), .val (.ref a34), .val (.int (128 : Int32)), .unset, .unset] [])) _
        refine XS.iload X38.here hx rfl (hb hby at_107) rfl ?_
        show Steps p.tables e below (T38.setTop (mkF m 109 #[.val (.int q0), .val (.int q1), .val (.int q2), .val (.int q3), .val (.int q4), .val (.int q5), .val (.int (0 : Int32)), .val (.int (1 : Int32)), .val (.ref a33), .val (.ref a34), .val (.ref a34), .val (.int (128 : Int32)), .unset, .unset] [(.int (128 : Int32))])) _
        refine XS.istore X38.here hx rfl (hb hby at_109) rfl (l' := #[.val (.int q0), .val (.int q1), .val (.int q2), .val (.int q3), .val (.int q4), .val (.int q5), .val (.int (0 : Int32)), .val (.int (1 : Int32)), .val (.ref a33), .val (.ref a34), .val (.ref a34), .val (.int (128 : Int32)), .val (.int (128 : Int32)), .unset]) rfl ?_
        show Steps p.tables e below (T38.setTop (mkF m 111 #[.val (.int q0), .val (.int q1), .val (.int q2), .val (.int q3), .val (.int q4), .val (.int q5), .val (.int (0 : Int32)), .val (.int (1 : Int32)), .val (.ref a33), .val (.ref a34), .val (.ref a34), .val (.int (128 : Int32)), .val (.int (128 : Int32)), .unset] [])) _
        refine XS.goto X38.here hx rfl (pc0 := 111) (pc' := 126) rfl (hb hby at_111) (by decide) (by decide) ?_
        show Steps p.tables e below (T38.setTop (mkF m 126 #[.val (.int q0), .val (.int q1), .val (.int q2), .val (.int q3), .val (.int q4), .val (.int q5), .val (.int (0 : Int32)), .val (.int (1 : Int32)), .val (.ref a33), .val (.ref a34), .val (.ref a34), .val (.int (128 : Int32)), .val (.int (128 : Int32)), .unset] [])) _
        refine st39 _ ?_
        show Steps p.tables e below (T39.setTop (mkF m 129 #[.val (.int q0), .val (.int q1), .val (.int q2), .val (.int q3), .val (.int q4), .val (.int q5), .val (.int (0 : Int32)), .val (.int (1 : Int32)), .val (.ref a33), .val (.ref a34), .val (.ref a34), .val (.int (128 : Int32)), .val (.int (128 : Int32)), .unset] [(.ref a39)])) _
        refine XS.dup X39.here hx rfl (hb hby at_129) rfl rfl ?_
        show Steps p.tables e below (T39.setTop (mkF m 130 #[.val (.int q0), .val (.int q1), .val (.int q2), .val (.int q3), .val (.int q4), .val (.int q5), .val (.int (0 : Int32)), .val (.int (1 : Int32)), .val (.ref a33), .val (.ref a34), .val (.ref a34), .val (.int (128 : Int32)), .val (.int (128 : Int32)), .unset] [(.ref a39), (.ref a39)])) _
        refine XS.aload X39.here hx rfl (hb hby at_130) rfl rfl ?_
        show Steps p.tables e below (T39.setTop (mkF m 132 #[.val (.int q0), .val (.int q1), .val (.int q2), .val (.int q3), .val (.int q4), .val (.int q5), .val (.int (0 : Int32)), .val (.int (1 : Int32)), .val (.ref a33), .val (.ref a34), .val (.ref a34), .val (.int (128 : Int32)), .val (.int (128 : Int32)), .unset] [(.ref a34), (.ref a39), (.ref a39)])) _
        refine XS.iload X39.here hx rfl (hb hby at_132) rfl ?_
        show Steps p.tables e below (T39.setTop (mkF m 134 #[.val (.int q0), .val (.int q1), .val (.int q2), .val (.int q3), .val (.int q4), .val (.int q5), .val (.int (0 : Int32)), .val (.int (1 : Int32)), .val (.ref a33), .val (.ref a34), .val (.ref a34), .val (.int (128 : Int32)), .val (.int (128 : Int32)), .unset] [(.int (128 : Int32)), (.ref a34), (.ref a39), (.ref a39)])) _
        refine st40.trans ?_
        show Steps p.tables e below (T40.setTop (mkF m 137 #[.val (.int q0), .val (.int q1), .val (.int q2), .val (.int q3), .val (.int q4), .val (.int q5), .val (.int (0 : Int32)), .val (.int (1 : Int32)), .val (.ref a33), .val (.ref a34), .val (.ref a34), .val (.int (128 : Int32)), .val (.int (128 : Int32)), .unset] [(.ref a39)])) _
        refine XS.astore X40.here hx rfl (hb hby at_137) rfl rfl (l' := #[.val (.int q0), .val (.int q1), .val (.int q2), .val (.int q3), .val (.int q4), .val (.int q5), .val (.int (0 : Int32)), .val (.int (1 : Int32)), .val (.ref a33), .val (.ref a34), .val (.ref a34), .val (.int (128 : Int32)), .val (.int (128 : Int32)), .val (.ref a39)]) rfl ?_
        show Steps p.tables e below (T40.setTop (mkF m 139 #[.val (.int q0), .val (.int q1), .val (.int q2), .val (.int q3), .val (.int q4), .val (.int q5), .val (.int (0 : Int32)), .val (.int (1 : Int32)), .val (.ref a33), .val (.ref a34), .val (.ref a34), .val (.int (128 : Int32)), .val (.int (128 : Int32)), .val (.ref a39)] [])) _
        refine XS.aload X40.here hx rfl (hb hby at_139) rfl rfl ?_
        show Steps p.tables e below (T40.setTop (mkF m 141 #[.val (.int q0), .val (.int q1), .val (.int q2), .val (.int q3), .val (.int q4), .val (.int q5), .val (.int (0 : Int32)), .val (.int (1 : Int32)), .val (.ref a33), .val (.ref a34), .val (.ref a34), .val (.int (128 : Int32)), .val (.int (128 : Int32)), .val (.ref a39)] [(.ref a39)])) _
        refine st41.trans ?_
        show Steps p.tables e below (T41.setTop (mkF m 144 #[.val (.int q0), .val (.int q1), .val (.int q2), .val (.int q3), .val (.int q4), .val (.int q5), .val (.int (0 : Int32)), .val (.int (1 : Int32)), .val (.ref a33), .val (.ref a34), .val (.ref a34), .val (.int (128 : Int32)), .val (.int (128 : Int32)), .val (.ref a39)] [(.int (own_f3  ((own_put ((own_put ((own_put ((own_put ([(0 : Int32), (0 : Int32), (0 : Int32), (0 : Int32), (0 : Int32), (0 : Int32), (0 : Int32), (0 : Int32), (0 : Int32), (0 : Int32), (0 : Int32), (0 : Int32), (0 : Int32), (0 : Int32), (0 : Int32), (0 : Int32)]) ((0 : Int32)) q1)) ((4 : Int32)) q2)) ((8 : Int32)) q3)) ((12 : Int32)) q4))))])) _
        refine XS.iload X41.here hx rfl (hb hby at_144) rfl ?_
        exact k
      by_cases c43 : (own_f3  ((own_put ((own_put ((own_put ((own_put ([(0 : Int32), (0 : Int32), (0 : Int32), (0 : Int32), (0 : Int32), (0 : Int32), (0 : Int32), (0 : Int32), (0 : Int32), (0 : Int32), (0 : Int32), (0 : Int32), (0 : Int32), (0 : Int32), (0 : Int32), (0 : Int32)]) ((0 : Int32)) q1)) ((4 : Int32)) q2)) ((8 : Int32)) q3)) ((12 : Int32)) q4))) = (0 : Int32)
      · obtain ⟨fs, hr, hrun, hended, hW, hsame⟩ := X41.leave (v := some (.int (1 : Int32))) (fun h => by rw [Bd.returns] at h; cases h) hlk
        refine ⟨_, _, pre42 _ ?_, hrun, hended, _, _, rfl, ?_, ⟨_, rfl⟩, hW, hsame.mono (by decide) (by decide)⟩
        · show Steps p.tables e below (T41.setTop (mkF m 146 #[.val (.int q0), .val (.int q1), .val (.int q2), .val (.int q3), .val (.int q4), .val (.int q5), .val (.int (0 : Int32)), .val (.int (1 : Int32)), .val (.ref a33), .val (.ref a34), .val (.ref a34), .val (.int (128 : Int32)), .val (.int (128 : Int32)), .val (.ref a39)] [(.int (0 : Int32)), (.int (own_f3  ((own_put ((own_put ((own_put ((own_put ([(0 : Int32), (0 : Int32), (0 : Int32), (0 : Int32), (0 : Int32), (0 : Int32), (0 : Int32), (0 : Int32), (0 : Int32), (0 : Int32), (0 : Int32), (0 : Int32), (0 : Int32), (0 : Int32), (0 : Int32), (0 : Int32)]) ((0 : Int32)) q1)) ((4 : Int32)) q2)) ((8 : Int32)) q3)) ((12 : Int32)) q4))))])) _
          refine XS.icmpNo X41.here hx rfl (hb hby at_146) rfl ((teq c43).2) ?_
          show Steps p.tables e below (T41.setTop (mkF m 149 #[.val (.int q0), .val (.int q1), .val (.int q2), .val (.int q3), .val (.int q4), .val (.int q5), .val (.int (0 : Int32)), .val (.int (1 : Int32)), .val (.ref a33), .val (.ref a34), .val (.ref a34), .val (.int (128 : Int32)), .val (.int (128 : Int32)), .val (.ref a39)] [])) _
          refine XS.iconst X41.here hx rfl (hb hby at_149) ?_
          show Steps p.tables e below (T41.setTop (mkF m 150 #[.val (.int q0), .val (.int q1), .val (.int q2), .val (.int q3), .val (.int q4), .val (.int q5), .val (.int (0 : Int32)), .val (.int (1 : Int32)), .val (.ref a33), .val (.ref a34), .val (.ref a34), .val (.int (128 : Int32)), .val (.int (128 : Int32)), .val (.ref a39)] [(.int (1 : Int32))])) _
          refine XS.goto X41.here hx rfl (pc0 := 150) (pc' := 154) rfl (hb hby at_150) (by decide) (by decide) ?_
          show Steps p.tables e below (T41.setTop (mkF m 154 #[.val (.int q0), .val (.int q1), .val (.int q2), .val (.int q3), .val (.int q4), .val (.int q5), .val (.int (0 : Int32)), .val (.int (1 : Int32)), .val (.ref a33), .val (.ref a34), .val (.ref a34), .val (.int (128 : Int32)), .val (.int (128 : Int32)), .val (.ref a39)] [(.int (1 : Int32))])) _
          exact retN X41 hx (t := .boolean) Bd.returns (by simp) (hb hby at_154) hr
        · show Q0 Z q0 q1 q2 q3 q4 q5 h0 n0 _ T41.heap _
          rw [e41]
          exact ⟨by simp only [own_f0, if_neg c2, if_neg c23, if_pos c43], N41⟩
      · obtain ⟨fs, hr, hrun, hended, hW, hsame⟩ := X41.leave (v := some (.int (0 : Int32))) (fun h => by rw [Bd.returns] at h; cases h) hlk
        refine ⟨_, _, pre42 _ ?_, hrun, hended, _, _, rfl, ?_, ⟨_, rfl⟩, hW, hsame.mono (by decide) (by decide)⟩
        · show Steps p.tables e below (T41.setTop (mkF m 146 #[.val (.int q0), .val (.int q1), .val (.int q2), .val (.int q3), .val (.int q4), .val (.int q5), .val (.int (0 : Int32)), .val (.int (1 : Int32)), .val (.ref a33), .val (.ref a34), .val (.ref a34), .val (.int (128 : Int32)), .val (.int (128 : Int32)), .val (.ref a39)] [(.int (0 : Int32)), (.int (own_f3  ((own_put ((own_put ((own_put ((own_put ([(0 : Int32), (0 : Int32), (0 : Int32), (0 : Int32), (0 : Int32), (0 : Int32), (0 : Int32), (0 : Int32), (0 : Int32), (0 : Int32), (0 : Int32), (0 : Int32), (0 : Int32), (0 : Int32), (0 : Int32), (0 : Int32)]) ((0 : Int32)) q1)) ((4 : Int32)) q2)) ((8 : Int32)) q3)) ((12 : Int32)) q4))))])) _
          refine XS.icmpYes X41.here hx rfl (pc0 := 146) (pc' := 153) rfl (hb hby at_146) rfl ((feq c43).2) (by decide) (by decide) ?_
          show Steps p.tables e below (T41.setTop (mkF m 153 #[.val (.int q0), .val (.int q1), .val (.int q2), .val (.int q3), .val (.int q4), .val (.int q5), .val (.int (0 : Int32)), .val (.int (1 : Int32)), .val (.ref a33), .val (.ref a34), .val (.ref a34), .val (.int (128 : Int32)), .val (.int (128 : Int32)), .val (.ref a39)] [])) _
          refine XS.iconst X41.here hx rfl (hb hby at_153) ?_
          show Steps p.tables e below (T41.setTop (mkF m 154 #[.val (.int q0), .val (.int q1), .val (.int q2), .val (.int q3), .val (.int q4), .val (.int q5), .val (.int (0 : Int32)), .val (.int (1 : Int32)), .val (.ref a33), .val (.ref a34), .val (.ref a34), .val (.int (128 : Int32)), .val (.int (128 : Int32)), .val (.ref a39)] [(.int (0 : Int32))])) _
          exact retN X41 hx (t := .boolean) Bd.returns (by simp) (hb hby at_154) hr
        · show Q0 Z q0 q1 q2 q3 q4 q5 h0 n0 _ T41.heap _
          rw [e41]
          exact ⟨by simp only [own_f0, if_neg c2, if_neg c23, if_neg c43], N41⟩

theorem own_l4 (ys : List Int32) (h : ys.length = 4) : own_f3 ys = 1 := by rw [own_f3, h]; rfl
theorem own_l16 (ys : List Int32) (h : ys.length = 16) : own_f3 ys = 0 := by rw [own_f3, h]; rfl
theorem own_plain (q0 q1 q2 q3 q4 q5 : Int32) : own_f0 q0 q1 q2 q3 q4 q5 = 1 := by
  have a := own_l4 [(0 : Int32), (0 : Int32), (0 : Int32), (0 : Int32)] rfl
  have b := own_l4 (own_put [(0 : Int32), (0 : Int32), (0 : Int32), (0 : Int32)] 0 q1) (by rw [own_putlen]; rfl)
  have c := own_l16 [(0 : Int32), (0 : Int32), (0 : Int32), (0 : Int32), (0 : Int32), (0 : Int32), (0 : Int32), (0 : Int32), (0 : Int32), (0 : Int32), (0 : Int32), (0 : Int32), (0 : Int32), (0 : Int32), (0 : Int32), (0 : Int32)] rfl
  have d := own_l16 (own_put (own_put (own_put (own_put [(0 : Int32), (0 : Int32), (0 : Int32), (0 : Int32), (0 : Int32), (0 : Int32), (0 : Int32), (0 : Int32), (0 : Int32), (0 : Int32), (0 : Int32), (0 : Int32), (0 : Int32), (0 : Int32), (0 : Int32), (0 : Int32)] 0 q1) 4 q2) 8 q3) 12 q4) (by rw [own_putlen, own_putlen, own_putlen, own_putlen]; rfl)
  simp only [own_f0, a, b, c, d, if_true, ite_self]

set_option maxRecDepth 65536 in
set_option maxHeartbeats 40000000 in
theorem comes_1 {Post : Tables → Env → Array Value → State → Outcome → State → Prop} (hpost : ∀ tb e args s v u, (limb_1_1.after args s (.returned v) u = true ∧ limb_1_2.after args s (.returned v) u = true ∧ True) → FrameEnd s (.returned v) u (Jvm.fieldLocs frame_1_writes args s ++ Jvm.arrayLocs frame_1_arrays args s ++ Jvm.staticLocs frame_1_statics s) 16 128 → Post tb e args s (.returned v) u) :
    ArmFor flags0 classFile x code maxLocals ret World_1 tables_1 room_1 Calls_1 rest_1 Pre_1 Post := by
  intro l hfl _ _ p e ha hc hk s m args below hf hA hF happ hP
  obtain ⟨hcalls, hrest, hpre⟩ := hP
  obtain ⟨-, -, -, hnamed, -, -, -, hat⟩ := (Spec.applies_iff hf).mp happ
  obtain ⟨hg, hn⟩ := and_e (Cond.before_iff.mp (show (Jvm.Cond.and given_1 narrow_1).before args s = true from hpre))
  obtain ⟨gc, gr0⟩ := and_e hg
  obtain ⟨w0, w1, w2, w3, w4, w5, rfl⟩ : ∃ w0 w1 w2 w3 w4 w5 : Value, args = #[w0, w1, w2, w3, w4, w5] := by
    have hs : args.size = 6 := by simpa [Cond.value, given_1] using gc
    obtain ⟨L⟩ := args
    match L, hs with
    | [w0, w1, w2, w3, w4, w5], _ => exact ⟨w0, w1, w2, w3, w4, w5, rfl⟩
  have hw := fun d (hd : d ∈ tables_1) => atoms_spec (ws := Jvm.Cond.code x code maxLocals ret :: tables_1) hat d (List.mem_cons_of_mem _ hd)
  obtain ⟨g0, gr1⟩ := and_e gr0
  obtain ⟨i0, ei0⟩ := is_v g0
  obtain rfl : w0 = (.int i0) := Option.some.inj ei0
  obtain ⟨g1, gr2⟩ := and_e gr1
  obtain ⟨i1, ei1⟩ := is_v g1
  obtain rfl : w1 = (.int i1) := Option.some.inj ei1
  obtain ⟨g2, gr3⟩ := and_e gr2
  obtain ⟨i2, ei2⟩ := is_v g2
  obtain rfl : w2 = (.int i2) := Option.some.inj ei2
  obtain ⟨g3, gr4⟩ := and_e gr3
  obtain ⟨i3, ei3⟩ := is_v g3
  obtain rfl : w3 = (.int i3) := Option.some.inj ei3
  obtain ⟨g4, gr5⟩ := and_e gr4
  obtain ⟨i4, ei4⟩ := is_v g4
  obtain rfl : w4 = (.int i4) := Option.some.inj ei4
  obtain ⟨i5, ei5⟩ := is_v gr5
  obtain rfl : w5 = (.int i5) := Option.some.inj ei5
  obtain ⟨n, o, h1, h2, h3, _, L, rfl, ⟨hv, N⟩, hq⟩ := rm0 l s _ hw tables_1 i0 i1 i2 i3 i4 i5 s.heap s.heap.size (Nat.le_refl _) p e ha hc hk s m _ below hf ((Spec.applies_iff_loose hf).mp happ).1 ⟨rfl, State.Warmed39.refl s, rfl⟩ trivial
  rw [own_plain] at hv
  subst hv
  refine ⟨n, _, h1, h2, h3, hpost _ _ _ _ _ _ ⟨Cond.after_iff.mpr rfl, Cond.after_iff.mpr (eq_i res_at (Term.int_eval (1)) rfl), trivial⟩ ⟨hq.1, hq.2.1, (hq.2.2.sift fun y hy => Or.inr (N y hy)).mono (by decide) (by decide)⟩⟩
theorem main_1_1 : Claimed_1_1 := comes_1 fun _ _ _ _ _ _ h hF => ⟨h.1, hF⟩
theorem main_1_2 : Claimed_1_2 := comes_1 fun _ _ _ _ _ _ h hF => ⟨h.2.1, hF⟩
end Jvm.Pilot.@@N@@
namespace Jvm.Pilot.@@N@@
open Jvm Jvm.ClassFile Sem Op Lib Jvm.Free Jvm.Stand Jvm.Pilot.@@N@@.Jvm.D
/-! MADE BY PROGRAM (witnessworld.py) out of the Statement's table words and the real class files: 9 classes; the members and pool entries that the words name. The judged class is class 1, her method 1. -/
namespace start1
open Jvm.ClassFile
def u (s : String) : CpInfo := .utf8 (stringToUtf16 s)
/-- a pool by its gaps: so many unusable entries, then the entry; so many at the end -/
def gap : Nat → List CpInfo → List CpInfo
  | 0, r => r
  | n + 1, r => .unusable :: gap n r
def poolList (es : List (Nat × CpInfo)) (last : Nat) : List CpInfo := es.foldr (fun e r => gap e.1 (e.2 :: r)) (gap last [])
def pool (es : List (Nat × CpInfo)) (last : Nat) : Array CpInfo := ⟨poolList es last⟩
def fileOf (pool : Array CpInfo) (this : Nat) (attrs : Array Attribute := #[]) (ms : Array MethodInfo := #[]) (fl : Nat := 33) (sup : Nat := 0) (ifs : Array Nat := #[]) (fds : Array FieldInfo := #[]) : ClassFile where
  minorVersion := 0
  majorVersion := 65
  constantPool := pool
  accessFlags := fl
  thisClass := this
  superClass := sup
  interfaces := ifs
  fields := fds
  methods := ms
  attributes := attrs
def plain (name : String) (sup : Option ClassId) : Class where
  name := name
  kind := .ordinary
  loader := none
  accessFlags := 33
  super := sup
  interfaces := #[]
  cf := none
  fields := #[]
  methods := #[]
  instanceTypes := #[]
  staticTypes := #[]
  resolved := #[]
  callSites := []
  init := .initialized
  statics := none
  mirror := none

def pool0 : Array CpInfo := pool [(5, u "<init>"), (0, u "()V"), (1, .class_ 10), (1, u "java/lang/Object")] 113

def k0c0 : Code := { maxStack := 0, maxLocals := 1, code := object_method_1_code, exceptionTable := #[], attributes := #[] }
def k0m0 : Method := { name := "<init>", desc := "()V", sig := { parameters := [], returnType := none }, accessFlags := 1, code := some k0c0 }
/-- java/lang/Object -/
def k0 : Class := { plain "java/lang/Object" none with
  accessFlags := 33
  interfaces := #[]
  cf := some (fileOf pool0 8 #[] #[{ accessFlags := 1, nameIndex := 5, descriptorIndex := 6, attributes := #[] }] 33 0 #[] #[])
  fields := #[]
  methods := #[k0m0]
  instanceTypes := #[]
  staticTypes := #[]
  resolved := Array.replicate 124 none
  statics := none }

def pool1 : Array CpInfo := pool [(2, .class_ 4), (1, u "java/lang/Object"), (0, u "<init>"), (0, u "()V"), (0, .methodref 8 9), (0, .class_ 10), (0, .nameAndType 11 12), (0, u "com/example/stillframe/stillframe/ccr/IpPrefixIsIpv4PinLaw"), (0, u "put"), (0, u "([BII)V"), (0, .integer 2147483647), (0, .class_ 15), (0, u "com/example/stillframe/stillframe/ccr/IpPrefix"), (0, .methodref 14 17), (0, .nameAndType 5 18), (0, u "([BI)V"), (0, .methodref 14 20), (0, .nameAndType 21 22), (0, u "isIpv4"), (0, u "()Z"), (2, u "law"), (0, u "(IIIIII)Z")] 5

def k1m0 : Method := { name := "<init>", desc := "()V", sig := { parameters := [], returnType := none }, accessFlags := 1, code := none }
def k1c1 : Code := { maxStack := 4, maxLocals := 14, code := code, exceptionTable := #[], attributes := #[] }
def k1m1 : Method := { name := "law", desc := "(IIIIII)Z", sig := { parameters := [.int, .int, .int, .int, .int, .int], returnType := some .boolean }, accessFlags := 9, code := some k1c1 }
def k1c2 : Code := { maxStack := 4, maxLocals := 3, code := method_3_code, exceptionTable := #[], attributes := #[] }
def k1m2 : Method := { name := "put", desc := "([BII)V", sig := { parameters := [(.array .byte), .int, .int], returnType := none }, accessFlags := 10, code := some k1c2 }
/-- com/example/stillframe/stillframe/ccr/IpPrefixIsIpv4PinLaw -/
def k1 : Class := { plain "com/example/stillframe/stillframe/ccr/IpPrefixIsIpv4PinLaw" (some 0) with
  accessFlags := 49
  interfaces := #[]
  cf := some (fileOf pool1 8 #[] #[{ accessFlags := 1, nameIndex := 5, descriptorIndex := 6, attributes := #[] }, { accessFlags := 9, nameIndex := 25, descriptorIndex := 26, attributes := #[] }, { accessFlags := 10, nameIndex := 11, descriptorIndex := 12, attributes := #[] }] 49 2 #[] #[])
  fields := #[]
  methods := #[k1m0, k1m1, k1m2]
  instanceTypes := #[]
  staticTypes := #[]
  resolved := Array.replicate 32 none
  statics := none }

def pool2 : Array CpInfo := pool [(1, .methodref 2 3), (0, .class_ 4), (0, .nameAndType 5 6), (0, u "java/lang/Object"), (0, u "<init>"), (0, u "()V"), (0, .fieldref 8 9), (0, .class_ 10), (0, .nameAndType 11 12), (0, u "com/example/stillframe/stillframe/ccr/IpPrefix"), (0, u "address"), (0, u "[B"), (0, .fieldref 8 14), (0, .nameAndType 15 16), (0, u "length"), (0, u "I"), (11, u "([BI)V"), (71, u "isIpv4"), (0, u "()Z"), (83, u "IPV4_OCTETS"), (2, u "IPV6_GROUPS")] 37

def k2c0 : Code := { maxStack := 2, maxLocals := 3, code := prog_39_method_1_code, exceptionTable := #[], attributes := #[] }
def k2m0 : Method := { name := "<init>", desc := "([BI)V", sig := { parameters := [(.array .byte), .int], returnType := none }, accessFlags := 0, code := some k2c0 }
def k2c1 : Code := { maxStack := 2, maxLocals := 1, code := prog_39_method_6_code, exceptionTable := #[], attributes := #[] }
def k2m1 : Method := { name := "isIpv4", desc := "()Z", sig := { parameters := [], returnType := some .boolean }, accessFlags := 1, code := some k2c1 }
/-- com/example/stillframe/stillframe/ccr/IpPrefix -/
def k2 : Class := { plain "com/example/stillframe/stillframe/ccr/IpPrefix" (some 0) with
  accessFlags := 49
  interfaces := #[]
  cf := some (fileOf pool2 8 #[] #[{ accessFlags := 0, nameIndex := 5, descriptorIndex := 28, attributes := #[] }, { accessFlags := 1, nameIndex := 100, descriptorIndex := 101, attributes := #[] }] 49 2 #[] #[{ accessFlags := 26, nameIndex := 185, descriptorIndex := 16, attributes := #[] }, { accessFlags := 26, nameIndex := 188, descriptorIndex := 16, attributes := #[] }, { accessFlags := 18, nameIndex := 11, descriptorIndex := 12, attributes := #[] }, { accessFlags := 18, nameIndex := 15, descriptorIndex := 16, attributes := #[] }])
  fields := #[{ name := "IPV4_OCTETS", type := .int, accessFlags := 26, slot := 0, constantValue := 0 }, { name := "IPV6_GROUPS", type := .int, accessFlags := 26, slot := 1, constantValue := 0 }, { name := "address", type := (.array .byte), accessFlags := 18, slot := 0, constantValue := 0 }, { name := "length", type := .int, accessFlags := 18, slot := 1, constantValue := 0 }]
  methods := #[k2m0, k2m1]
  instanceTypes := #[(.array .byte), .int]
  staticTypes := #[.int, .int]
  resolved := Array.replicate 226 none
  statics := none }

def pool3 : Array CpInfo := pool [(1, u "java/lang/Cloneable"), (0, .class_ 1), (0, u "java/lang/Object"), (0, .class_ 3)] 3

/-- java/lang/Cloneable -/
def k3 : Class := { plain "java/lang/Cloneable" (some 0) with
  accessFlags := 1537
  interfaces := #[]
  cf := some (fileOf pool3 2 #[] #[] 1537 4 #[] #[])
  fields := #[]
  methods := #[]
  instanceTypes := #[]
  staticTypes := #[]
  resolved := Array.replicate 8 none
  statics := none }

def pool4 : Array CpInfo := pool [(1, u "java/io/Serializable"), (0, .class_ 1), (0, u "java/lang/Object"), (0, .class_ 3)] 3

/-- java/io/Serializable -/
def k4 : Class := { plain "java/io/Serializable" (some 0) with
  accessFlags := 1537
  interfaces := #[]
  cf := some (fileOf pool4 2 #[] #[] 1537 4 #[] #[])
  fields := #[]
  methods := #[]
  instanceTypes := #[]
  staticTypes := #[]
  resolved := Array.replicate 8 none
  statics := none }

/-- the primitive byte -/
def k5 : Class := { plain "byte" none with kind := .primitive 'B', accessFlags := 0x411 }
/-- [B -/
def k6 : Class := { plain "[B" (some 0) with kind := .array 5 .byte, interfaces := #[3, 4], accessFlags := 1041 }

/-- the primitive int -/
def k7 : Class := { plain "int" none with kind := .primitive 'I', accessFlags := 0x411 }
/-- [I -/
def k8 : Class := { plain "[I" (some 0) with kind := .array 7 .int, interfaces := #[3, 4], accessFlags := 1041 }

def heap : Heap := #[]
def classes : Array Class := #[k0, k1, k2, k3, k4, k5, k6, k7, k8]
def interned : List (Array UInt16 × Addr) := []
def slotsUsed : Nat := 0
def theMethod : MethodId := ⟨1, 1⟩
def args0 : Array Value := #[.int 1, .int 1, .int 1, .int 1, .int 1, .int 1]
def aboutOver (below : List Frame) : State where
  vm := { classes := classes, interned := interned.toArray }
  heap := heap
  slotsUsed := slotsUsed
  threads := #[{ frames := .invoking theMethod args0 :: below }]
def below0 : List Frame := [.native { method := ⟨0, 0⟩, args := #[] }]
def about1 : State := aboutOver below0
def p0 : Program := .bare "" "" ""
def e0 : Env := launch0.env 0 0 0
theorem w_frames : about1.frames = Frame.invoking theMethod args0 :: below0 := rfl
set_option maxRecDepth 65536 in
theorem w_args : argsFit about1.vm theMethod args0 = true := by decide +kernel
set_option maxRecDepth 65536 in
theorem w_heap : heapFits about1 = true := by decide +kernel
set_option maxRecDepth 65536 in
theorem w_runnable : about1.curStatus? = some .runnable := by decide +kernel
set_option maxRecDepth 65536 in
theorem w_alone : about1.alone = true := by decide +kernel
set_option maxRecDepth 65536 in
theorem w_named : about1.methodNamed? x = some theMethod := by decide +kernel
set_option maxRecDepth 65536 in
theorem w_hears : about1.hears theMethod below0 = true := by decide +kernel
set_option maxRecDepth 65536 in
theorem w_ripe : about1.ripe theMethod args0 below0 = true := by decide +kernel
theorem w_running : about1.status = .running := rfl
set_option maxRecDepth 65536 in
theorem w_room : about1.hasRoom e0.platform room_1 = true :=
  launch0.hasRoom_least _ room_1 (by decide +kernel) (by decide +kernel) (by decide +kernel) (by decide +kernel) (by decide +kernel) (by decide +kernel)
theorem allAtoms_all (ts : List Jvm.Cond) (a : Array Jvm.Value) (st : Jvm.State) : (allAtoms ts).before a st = ts.all (fun c => c.before a st) := by
  induction ts with
  | nil => rfl
  | cons c t ih =>
    show (Jvm.Cond.and c (allAtoms t)).before a st = _
    rw [Jvm.Cond.before_and, ih, List.all_cons]
def words1 : List Jvm.Cond := Jvm.Cond.code x code maxLocals ret :: tables_1
/-- a 'code' word, met by the world's own term for the bytes: nothing is compared byte by byte -/
theorem code_word {y : MethodName} {bytes : ByteArray} {mx : Nat} {rt : Option FieldType} {a : Array Value} {s : State} {m : MethodId} {meth : Method} {c : Code} (h1 : s.methodNamed? y = some m) (h2 : s.vm.method? m = some meth) (h3 : meth.code = some c) (h4 : c.code = bytes)
    (h5 : (c.maxLocals == mx && c.exceptionTable.isEmpty && decide (c.maxStack ≤ mostOperands) && decide (meth.sig.returnType = rt) && !meth.locks && decide (parseMethodDescriptor y.desc = some meth.sig)) = true) : (Jvm.Cond.code y bytes mx rt).before a s = true := by
  simp only [Bool.and_eq_true, beq_iff_eq, Bool.not_eq_true', decide_eq_true_eq] at h5
  obtain ⟨⟨⟨⟨⟨g1, g2⟩, g3⟩, g4⟩, g5⟩, g6⟩ := h5
  simp [Cond.before, Cond.holds, Cond.value, h1, h2, h3, h4, g1, g2, g3, g4, g5, g6]
def isCode : Jvm.Cond → Bool
  | .code _ _ _ _ => true
  | _ => false
theorem all_split {L : List Jvm.Cond} {P : Jvm.Cond → Bool} (h1 : L.all (fun c => isCode c || P c) = true) (h2 : ∀ c ∈ L.filter isCode, P c = true) : L.all P = true := by
  refine List.all_eq_true.mpr fun c hc => ?_
  have h := List.all_eq_true.mp h1 c hc
  rcases Bool.eq_false_or_eq_true (isCode c) with hi | hi
  · exact h2 c (List.mem_filter.mpr ⟨hc, hi⟩)
  · simpa [hi] using h
set_option maxRecDepth 65536 in
theorem w_c0 : (Jvm.Cond.code x code maxLocals ret).before args0 about1 = true := code_word (m := ⟨1, 1⟩) (meth := k1m1) (c := k1c1) (by decide +kernel) rfl rfl rfl (by decide +kernel)
set_option maxRecDepth 65536 in
theorem w_c1 : (Jvm.Cond.code ({ cls := "com/example/stillframe/stillframe/ccr/IpPrefix", name := "<init>", desc := "([BI)V" } : Jvm.MethodName) prog_39_method_1_code (3 : Nat) (Option.none : Option Jvm.ClassFile.FieldType)).before args0 about1 = true := code_word (m := ⟨2, 0⟩) (meth := k2m0) (c := k2c0) (by decide +kernel) rfl rfl rfl (by decide +kernel)
set_option maxRecDepth 65536 in
theorem w_c2 : (Jvm.Cond.code ({ cls := "java/lang/Object", name := "<init>", desc := "()V" } : Jvm.MethodName) object_method_1_code (1 : Nat) (Option.none : Option Jvm.ClassFile.FieldType)).before args0 about1 = true := code_word (m := ⟨0, 0⟩) (meth := k0m0) (c := k0c0) (by decide +kernel) rfl rfl rfl (by decide +kernel)
set_option maxRecDepth 65536 in
theorem w_c3 : (Jvm.Cond.code ({ cls := "com/example/stillframe/stillframe/ccr/IpPrefix", name := "isIpv4", desc := "()Z" } : Jvm.MethodName) prog_39_method_6_code (1 : Nat) (Option.some Jvm.ClassFile.FieldType.boolean)).before args0 about1 = true := code_word (m := ⟨2, 1⟩) (meth := k2m1) (c := k2c1) (by decide +kernel) rfl rfl rfl (by decide +kernel)
set_option maxRecDepth 65536 in
theorem w_c4 : (Jvm.Cond.code ({ cls := "com/example/stillframe/stillframe/ccr/IpPrefixIsIpv4PinLaw", name := "put", desc := "([BII)V" } : Jvm.MethodName) method_3_code (3 : Nat) (Option.none : Option Jvm.ClassFile.FieldType)).before args0 about1 = true := code_word (m := ⟨1, 2⟩) (meth := k1m2) (c := k1c2) (by decide +kernel) rfl rfl rfl (by decide +kernel)
def codes1 : List Jvm.Cond := [Jvm.Cond.code x code maxLocals ret, Jvm.Cond.code ({ cls := "com/example/stillframe/stillframe/ccr/IpPrefix", name := "<init>", desc := "([BI)V" } : Jvm.MethodName) prog_39_method_1_code (3 : Nat) (Option.none : Option Jvm.ClassFile.FieldType), Jvm.Cond.code ({ cls := "java/lang/Object", name := "<init>", desc := "()V" } : Jvm.MethodName) object_method_1_code (1 : Nat) (Option.none : Option Jvm.ClassFile.FieldType), Jvm.Cond.code ({ cls := "com/example/stillframe/stillframe/ccr/IpPrefix", name := "isIpv4", desc := "()Z" } : Jvm.MethodName) prog_39_method_6_code (1 : Nat) (Option.some Jvm.ClassFile.FieldType.boolean), Jvm.Cond.code ({ cls := "com/example/stillframe/stillframe/ccr/IpPrefixIsIpv4PinLaw", name := "put", desc := "([BII)V" } : Jvm.MethodName) method_3_code (3 : Nat) (Option.none : Option Jvm.ClassFile.FieldType)]
set_option maxRecDepth 65536 in
theorem codes_eq : words1.filter isCode = codes1 := rfl
theorem w_codes : ∀ c ∈ words1.filter isCode, c.before args0 about1 = true := by
  rw [codes_eq]
  intro c hc
  simp only [codes1, List.mem_cons, List.not_mem_nil, or_false] at hc
  rcases hc with rfl | rfl | rfl | rfl | rfl
  · exact w_c0
  · exact w_c1
  · exact w_c2
  · exact w_c3
  · exact w_c4
set_option maxRecDepth 65536 in
theorem w_t1 : (words1.take 24).all (fun c => isCode c || c.before args0 about1) = true := by decide +kernel
set_option maxRecDepth 65536 in
theorem w_t2 : (words1.drop 24).all (fun c => isCode c || c.before args0 about1) = true := by decide +kernel
theorem w_tables : (allAtoms (Jvm.Cond.code x code maxLocals ret :: tables_1)).before args0 about1 = true := by
  rw [allAtoms_all]
  show words1.all (fun c => c.before args0 about1) = true
  refine all_split ?_ w_codes
  rw [← List.take_append_drop 24 words1, List.all_append, w_t1, w_t2]
  rfl
set_option maxRecDepth 65536 in
theorem w_case : (Jvm.Cond.and given_1 narrow_1).before args0 about1 = true := by decide +kernel
theorem w_applies : (headSpec (Jvm.Cond.code x code maxLocals ret :: tables_1) room_1).applies x e0.platform about1 = true :=
  (Spec.applies_iff w_frames).mpr ⟨w_running, w_runnable, w_alone, w_named, w_hears, w_ripe, w_room, w_tables⟩
theorem atStart : AtStart classFile x code maxLocals ret World_1 tables_1 room_1 Calls_1 rest_1 Pre_1 launch0 p0 e0 about1 theMethod args0 below0 :=
  ⟨lists_1, trivial, launch0.admits_env _ _ _, launch0.least_env, fairChoices_fair.cas, fairChoices_fair.clock, w_frames, w_args, w_heap, w_applies, trivial, trivial, w_case⟩
end start1
theorem witness_1 : WitnessClaimed_1 := ⟨start1.p0, start1.e0, start1.about1, start1.theMethod, start1.args0, start1.below0, start1.atStart⟩
end Jvm.Pilot.@@N@@
