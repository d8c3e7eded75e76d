import JvmDerived
import JvmDerived.Pilot.@@N@@Statement
import JvmDerived.Pilot.@@N@@Code
set_option linter.unusedVariables false
set_option linter.unusedSimpArgs false
namespace Jvm.RoadKit
open Sem ClassFile Op Lib Jvm.Stand Jvm.Free Jvm.LawKit
section New
variable {p : Program} {l : Launch} {e : Env} {R : Room} {s : State} {m : MethodId} {args : Array Value} {below : List Frame} {meth : Method} {c : Code} {T : State} {locs : List Loc} {cells slots : Nat}
theorem retI (X : Stand p l e R s m args below meth c T locs cells slots) (hx : p.tables.exec = Jvm.exec) {pc : Nat} {Ls : Array Slot} {z : Int32} {rest : List Value} (hret : meth.sig.returnType = some .int) (hd : decode c.code pc = .ok (.ireturn, 1)) {fs : List Frame}
    (hl : ∀ (f : JFrame) (acts : List Action), f.method = m → f.locked = none → f.entered = [] → (doReturn e (T.setTop f) acts (some (.int z))).1 = T.setFrames fs) : Steps p.tables e below (T.setTop (mkF m pc Ls (.int z :: rest))) (T.setFrames fs) := by
  have hm' : T.vm.method? m = some meth := X.method'
  have hn : narrow .int (.int z) = .int z := rfl
  show Steps p.tables e below (T.setTop { method := m, pc := pc, locals := Ls, stack := _ :: rest, locked := none }) _
  jvm_step X.here [X.here.top, hx, hd, hm', hret, hn]
  first | (intro acts; rw [hl _ acts rfl rfl rfl]) | rw [hl _ _ rfl rfl rfl]
  exact Steps.refl _
end New
end Jvm.RoadKit
namespace Jvm.Pilot.@@N@@
open Jvm Jvm.ClassFile Sem Op Lib Jvm.Free Jvm.Stand Jvm.LawKit Jvm.RoadKit Bundle Jvm.Pilot.@@N@@.Jvm.D
section OwnKit
variable {p : Program} {l : Launch} {e : Env} {R : Room} {s : State} {m : MethodId} {args : Array Value} {below : List Frame} {meth : Method} {c : Code} {T : State} {locs : List Loc} {cells slots : Nat} {Z : State} {h h' : Heap}
theorem own_lremM {g : JFrame} {target : State} (X : Stand p l e R s m args below meth c T locs cells slots) (hx : p.tables.exec = Jvm.exec) (hg : g.method = m) {x y : Int64} {rest : List Value} (hd : decode c.code g.pc = .ok (.lrem, 1)) (hs : g.stack = .long y :: .long x :: rest) (hy : y ≠ 0)
    (hr : Steps p.tables e below (T.setTop { g with pc := g.pc + 1, stack := .long (x % y) :: rest }) target) : Steps p.tables e below (T.setTop g) target :=
  XS.lrem X.here hx hg hd hs hy (by rw [lrem_mod]; exact hr)
/-- an array, by the list of its values -/
def own_A (Z : State) (h : Heap) (a : Addr) (ty : FieldType) (vs : List Value) : Prop := ∃ c : Cell, Arr Z h a c ty ∧ c.slots = vs.toArray
def own_AJ (Z : State) (h : Heap) (a : Addr) (xs : List Int64) : Prop := own_A Z h a .long (xs.map .long)
def own_AI (Z : State) (h : Heap) (a : Addr) (ty : FieldType) (xs : List Int32) : Prop := own_A Z h a ty (xs.map .int)
section Facts
variable {a b : Addr} {ty : FieldType} {vs : List Value} {xs : List Int64} {ys : List Int32} {sl : Nat} {v : Value} {ws : List Addr}
theorem own_A.ext (F : own_A Z h a ty vs) (E : Ext h h') : own_A Z h' a ty vs := by obtain ⟨c, A, r⟩ := F; exact ⟨c, A.ext E, r⟩
theorem own_A.other (F : own_A Z h b ty vs) (W : Wr h h' a sl v) (q : b ≠ a) : own_A Z h' b ty vs := by obtain ⟨c, A, r⟩ := F; exact ⟨c, A.other W q, r⟩
theorem own_A.keep (F : own_A Z h a ty vs) (K : Keep h h' ws) (q : a ∉ ws) : own_A Z h' a ty vs := by obtain ⟨c, A, r⟩ := F; exact ⟨c, ⟨K.2.1 a c A.1 q, A.2⟩, r⟩
theorem own_A.lt (F : own_A Z h a ty vs) : a < h.size := by obtain ⟨c, A, -⟩ := F; exact A.lt
theorem own_AJ.ext (F : own_AJ Z h a xs) (E : Ext h h') : own_AJ Z h' a xs := own_A.ext F E
theorem own_AJ.other (F : own_AJ Z h b xs) (W : Wr h h' a sl v) (q : b ≠ a) : own_AJ Z h' b xs := own_A.other F W q
theorem own_AJ.keep (F : own_AJ Z h a xs) (K : Keep h h' ws) (q : a ∉ ws) : own_AJ Z h' a xs := own_A.keep F K q
theorem own_AJ.lt (F : own_AJ Z h a xs) : a < h.size := own_A.lt F
theorem own_AI.ext (F : own_AI Z h a ty ys) (E : Ext h h') : own_AI Z h' a ty ys := own_A.ext F E
theorem own_AI.other (F : own_AI Z h b ty ys) (W : Wr h h' a sl v) (q : b ≠ a) : own_AI Z h' b ty ys := own_A.other F W q
theorem own_AI.keep (F : own_AI Z h a ty ys) (K : Keep h h' ws) (q : a ∉ ws) : own_AI Z h' a ty ys := own_A.keep F K q
theorem own_AI.lt (F : own_AI Z h a ty ys) : a < h.size := own_A.lt F
theorem own_A.set (F : own_A Z h a ty vs) {k : Nat} (W : Wr h h' a k v) : own_A Z h' a ty (vs.set k v) := by
  obtain ⟨c, A, r⟩ := F
  refine ⟨c.setSlot k v, A.same W, ?_⟩
  simp [Cell.setSlot, r]
theorem own_A_new {cA : ClassId} {n : Int32} {k : Nat} (A : Arr Z h a (newA cA ty n) ty) (hk : n.toNatClampNeg = k) : own_A Z h a ty (List.replicate k (defaultValue ty)) := by
  subst hk
  exact ⟨_, A, by simp [newA]⟩
theorem own_AJ_new {cA : ClassId} {n : Int32} {k : Nat} (A : Arr Z h a (newA cA .long n) .long) (hk : n.toNatClampNeg = k) : own_AJ Z h a (List.replicate k 0) := by
  have q := own_A_new A hk
  rw [own_AJ, List.map_replicate]; exact q
theorem own_AIint_new {cA : ClassId} {n : Int32} {k : Nat} (A : Arr Z h a (newA cA .int n) .int) (hk : n.toNatClampNeg = k) : own_AI Z h a .int (List.replicate k 0) := by
  have q := own_A_new A hk
  rw [own_AI, List.map_replicate]; exact q
theorem own_AIbyte_new {cA : ClassId} {n : Int32} {k : Nat} (A : Arr Z h a (newA cA .byte n) .byte) (hk : n.toNatClampNeg = k) : own_AI Z h a .byte (List.replicate k 0) := by
  have q := own_A_new A hk
  rw [own_AI, List.map_replicate]; exact q
theorem own_AIboolean_new {cA : ClassId} {n : Int32} {k : Nat} (A : Arr Z h a (newA cA .boolean n) .boolean) (hk : n.toNatClampNeg = k) : own_AI Z h a .boolean (List.replicate k 0) := by
  have q := own_A_new A hk
  rw [own_AI, List.map_replicate]; exact q
theorem own_inb {cl : Cell} {j : Int32} (r : cl.slots = vs.toArray) (hj : 0 ≤ j.toInt ∧ j.toInt < (vs.length : Nat)) : ¬ (j < 0 ∨ cl.slots.size ≤ j.toNatClampNeg) ∧ j.toNatClampNeg = j.toInt.toNat := by
  have e : j.toNatClampNeg = j.toInt.toNat := rfl
  refine ⟨fun q => ?_, e⟩
  rcases q with q | q
  · rw [Int32.lt_iff_toInt_lt] at q
    have : (0 : Int32).toInt = 0 := by decide
    omega
  · rw [r, e] at q
    simp at q
    omega
end Facts
theorem own_at? {α : Type} (f : α → Value) (xs : List α) (k : Nat) (d : α) (hk : k < xs.length) : (xs.map f).toArray[k]? = some (f (xs.getD k d)) := by
  simp [List.getD, hk]
section Loads
variable {a : Addr} {xs : List Int64} {ys : List Int32} {j : Int32} {pc : Nat} {Ls : Array Slot} {rest : List Value}
theorem own_laload (X : Stand p l e R s m args below meth c T locs cells slots) (hx : p.tables.exec = Jvm.exec) (hZ : Z.Warmed39 s.vm) (eT : T.heap = h) (A : own_AJ Z h a xs) (hj : 0 ≤ j.toInt ∧ j.toInt < (xs.length : Nat)) (hd : decode c.code pc = .ok (.laload, 1)) (target : State)
    (hr : Steps p.tables e below (T.setTop (mkF m (pc + 1) Ls (.long (xs.getD j.toInt.toNat 0) :: rest))) target) : Steps p.tables e below (T.setTop (mkF m pc Ls (.int j :: .ref a :: rest))) target := by
  obtain ⟨cl, A, r⟩ := A
  obtain ⟨q1, q2⟩ := own_inb (j := j) r (by simpa using hj)
  refine X.laload hx (by rw [eT]; exact A.1) (State.isArrayOf_alike hZ.alike A.2.1) A.2.2 q1 (v := .long (xs.getD j.toInt.toNat 0)) ?_ (g := mkF m pc Ls (.int j :: .ref a :: rest)) rfl rfl hd target hr
  rw [q2, r]
  exact own_at? _ xs _ 0 (by omega)
theorem own_iaload (X : Stand p l e R s m args below meth c T locs cells slots) (hx : p.tables.exec = Jvm.exec) (hZ : Z.Warmed39 s.vm) (eT : T.heap = h) (A : own_AI Z h a .int ys) (hj : 0 ≤ j.toInt ∧ j.toInt < (ys.length : Nat)) (hd : decode c.code pc = .ok (.iaload, 1)) (target : State)
    (hr : Steps p.tables e below (T.setTop (mkF m (pc + 1) Ls (.int (ys.getD j.toInt.toNat 0) :: rest))) target) : Steps p.tables e below (T.setTop (mkF m pc Ls (.int j :: .ref a :: rest))) target := by
  obtain ⟨cl, A, r⟩ := A
  obtain ⟨q1, q2⟩ := own_inb (j := j) r (by simpa using hj)
  refine X.iaload hx (by rw [eT]; exact A.1) (State.isArrayOf_alike hZ.alike A.2.1) A.2.2 q1 (v := .int (ys.getD j.toInt.toNat 0)) ?_ (g := mkF m pc Ls (.int j :: .ref a :: rest)) rfl rfl hd target hr
  rw [q2, r]
  exact own_at? _ ys _ 0 (by omega)
theorem own_baloadB (X : Stand p l e R s m args below meth c T locs cells slots) (hx : p.tables.exec = Jvm.exec) (hZ : Z.Warmed39 s.vm) (eT : T.heap = h) (A : own_AI Z h a .byte ys) (hj : 0 ≤ j.toInt ∧ j.toInt < (ys.length : Nat)) (hd : decode c.code pc = .ok (.baload, 1)) (target : State)
    (hr : Steps p.tables e below (T.setTop (mkF m (pc + 1) Ls (.int (ys.getD j.toInt.toNat 0) :: rest))) target) : Steps p.tables e below (T.setTop (mkF m pc Ls (.int j :: .ref a :: rest))) target := by
  obtain ⟨cl, A, r⟩ := A
  obtain ⟨q1, q2⟩ := own_inb (j := j) r (by simpa using hj)
  refine X.baloadBytes hx (by rw [eT]; exact A.1) (State.isArrayOf_alike hZ.alike A.2.1) A.2.2 q1 (v := .int (ys.getD j.toInt.toNat 0)) ?_ (g := mkF m pc Ls (.int j :: .ref a :: rest)) rfl rfl hd target hr
  rw [q2, r]
  exact own_at? _ ys _ 0 (by omega)
theorem own_baloadZ (X : Stand p l e R s m args below meth c T locs cells slots) (hx : p.tables.exec = Jvm.exec) (hZ : Z.Warmed39 s.vm) (eT : T.heap = h) (A : own_AI Z h a .boolean ys) (hj : 0 ≤ j.toInt ∧ j.toInt < (ys.length : Nat)) (hd : decode c.code pc = .ok (.baload, 1)) (target : State)
    (hr : Steps p.tables e below (T.setTop (mkF m (pc + 1) Ls (.int (ys.getD j.toInt.toNat 0) :: rest))) target) : Steps p.tables e below (T.setTop (mkF m pc Ls (.int j :: .ref a :: rest))) target := by
  obtain ⟨cl, A, r⟩ := A
  obtain ⟨q1, q2⟩ := own_inb (j := j) r (by simpa using hj)
  refine X.baloadBooleans hx (by rw [eT]; exact A.1) (State.isArrayOf_alike hZ.alike A.2.1) A.2.2 q1 (v := .int (ys.getD j.toInt.toNat 0)) ?_ (g := mkF m pc Ls (.int j :: .ref a :: rest)) rfl rfl hd target hr
  rw [q2, r]
  exact own_at? _ ys _ 0 (by omega)
theorem own_alenJ (X : Stand p l e R s m args below meth c T locs cells slots) (hx : p.tables.exec = Jvm.exec) (hZ : Z.Warmed39 s.vm) (eT : T.heap = h) (A : own_AJ Z h a xs) (hd : decode c.code pc = .ok (.arraylength, 1)) (target : State)
    (hr : Steps p.tables e below (T.setTop (mkF m (pc + 1) Ls (.int xs.length.toInt32 :: rest))) target) : Steps p.tables e below (T.setTop (mkF m pc Ls (.ref a :: rest))) target := by
  obtain ⟨cl, A, r⟩ := A
  refine X.arraylength hx (by rw [eT]; exact A.1) (State.isArrayOf_alike hZ.alike A.2.1) (g := mkF m pc Ls (.ref a :: rest)) rfl rfl hd target ?_
  rw [r]
  simpa using hr
theorem own_alenI {ty : FieldType} (X : Stand p l e R s m args below meth c T locs cells slots) (hx : p.tables.exec = Jvm.exec) (hZ : Z.Warmed39 s.vm) (eT : T.heap = h) (A : own_AI Z h a ty ys) (hd : decode c.code pc = .ok (.arraylength, 1)) (target : State)
    (hr : Steps p.tables e below (T.setTop (mkF m (pc + 1) Ls (.int ys.length.toInt32 :: rest))) target) : Steps p.tables e below (T.setTop (mkF m pc Ls (.ref a :: rest))) target := by
  obtain ⟨cl, A, r⟩ := A
  refine X.arraylength hx (by rw [eT]; exact A.1) (State.isArrayOf_alike hZ.alike A.2.1) (g := mkF m pc Ls (.ref a :: rest)) rfl rfl hd target ?_
  rw [r]
  simpa using hr
theorem own_lastore (X : Stand p l e R s m args below meth c T locs cells slots) (hx : p.tables.exec = Jvm.exec) (hZ : Z.Warmed39 s.vm) (eT : T.heap = h) (A : own_AJ Z h a xs) (hj : 0 ≤ j.toInt ∧ j.toInt < (xs.length : Nat)) {x : Int64} (hd : decode c.code pc = .ok (.lastore, 1)) :
    ∃ T' h', Stand p l e R s m args below meth c T' (locs ++ [⟨a, j.toInt.toNat⟩]) cells slots ∧ T'.heap = h' ∧ Wr h h' a j.toInt.toNat (.long x) ∧ own_AJ Z h' a (xs.set j.toInt.toNat x) ∧ ∀ target, Steps p.tables e below (T'.setTop (mkF m (pc + 1) Ls rest)) target → Steps p.tables e below (T.setTop (mkF m pc Ls (.long x :: .int j :: .ref a :: rest))) target := by
  obtain ⟨cl, B, r⟩ := A
  obtain ⟨q1, q2⟩ := own_inb (j := j) r (by simpa using hj)
  obtain ⟨T', h', X', e', W', st⟩ := stJ X hx hZ eT B q1 (x := x) (g := mkF m pc Ls (.long x :: .int j :: .ref a :: rest)) rfl rfl hd
  rw [q2] at X' W'
  exact ⟨T', h', X', e', W', by have := own_A.set ⟨cl, B, r⟩ W'; rw [own_AJ, List.map_set]; exact this, st⟩
theorem own_iastore (X : Stand p l e R s m args below meth c T locs cells slots) (hx : p.tables.exec = Jvm.exec) (hZ : Z.Warmed39 s.vm) (eT : T.heap = h) (A : own_AI Z h a .int ys) (hj : 0 ≤ j.toInt ∧ j.toInt < (ys.length : Nat)) {x : Int32} (hd : decode c.code pc = .ok (.iastore, 1)) :
    ∃ T' h', Stand p l e R s m args below meth c T' (locs ++ [⟨a, j.toInt.toNat⟩]) cells slots ∧ T'.heap = h' ∧ Wr h h' a j.toInt.toNat (.int x) ∧ own_AI Z h' a .int (ys.set j.toInt.toNat x) ∧ ∀ target, Steps p.tables e below (T'.setTop (mkF m (pc + 1) Ls rest)) target → Steps p.tables e below (T.setTop (mkF m pc Ls (.int x :: .int j :: .ref a :: rest))) target := by
  obtain ⟨cl, B, r⟩ := A
  obtain ⟨q1, q2⟩ := own_inb (j := j) r (by simpa using hj)
  obtain ⟨T', h', X', e', W', st⟩ := stI X hx hZ eT B q1 (x := x) (g := mkF m pc Ls (.int x :: .int j :: .ref a :: rest)) rfl rfl hd
  rw [q2] at X' W'
  exact ⟨T', h', X', e', W', by have := own_A.set ⟨cl, B, r⟩ W'; rw [own_AI, List.map_set]; exact this, st⟩
theorem own_bastoreB (X : Stand p l e R s m args below meth c T locs cells slots) (hx : p.tables.exec = Jvm.exec) (hZ : Z.Warmed39 s.vm) (eT : T.heap = h) (A : own_AI Z h a .byte ys) (hj : 0 ≤ j.toInt ∧ j.toInt < (ys.length : Nat)) {x : Int32} (hd : decode c.code pc = .ok (.bastore, 1)) :
    ∃ T' h', Stand p l e R s m args below meth c T' (locs ++ [⟨a, j.toInt.toNat⟩]) cells slots ∧ T'.heap = h' ∧ Wr h h' a j.toInt.toNat (.int x.toInt8.toInt32) ∧ own_AI Z h' a .byte (ys.set j.toInt.toNat x.toInt8.toInt32) ∧ ∀ target, Steps p.tables e below (T'.setTop (mkF m (pc + 1) Ls rest)) target → Steps p.tables e below (T.setTop (mkF m pc Ls (.int x :: .int j :: .ref a :: rest))) target := by
  obtain ⟨cl, B, r⟩ := A
  obtain ⟨q1, q2⟩ := own_inb (j := j) r (by simpa using hj)
  obtain ⟨T', h', X', e', W', st⟩ := stB X hx hZ eT B q1 (x := x) (g := mkF m pc Ls (.int x :: .int j :: .ref a :: rest)) rfl rfl hd
  rw [q2] at X' W'
  exact ⟨T', h', X', e', W', by have := own_A.set ⟨cl, B, r⟩ W'; rw [own_AI, List.map_set]; exact this, st⟩
theorem own_bastoreZ (X : Stand p l e R s m args below meth c T locs cells slots) (hx : p.tables.exec = Jvm.exec) (hZ : Z.Warmed39 s.vm) (eT : T.heap = h) (A : own_AI Z h a .boolean ys) (hj : 0 ≤ j.toInt ∧ j.toInt < (ys.length : Nat)) {x : Int32} (hd : decode c.code pc = .ok (.bastore, 1)) :
    ∃ T' h', Stand p l e R s m args below meth c T' (locs ++ [⟨a, j.toInt.toNat⟩]) cells slots ∧ T'.heap = h' ∧ Wr h h' a j.toInt.toNat (.int (x &&& 1)) ∧ own_AI Z h' a .boolean (ys.set j.toInt.toNat (x &&& 1)) ∧ ∀ target, Steps p.tables e below (T'.setTop (mkF m (pc + 1) Ls rest)) target → Steps p.tables e below (T.setTop (mkF m pc Ls (.int x :: .int j :: .ref a :: rest))) target := by
  obtain ⟨cl, B, r⟩ := A
  obtain ⟨q1, q2⟩ := own_inb (j := j) r (by simpa using hj)
  obtain ⟨T', h', X', e', W', st⟩ := stZ X hx hZ eT B q1 (x := x) (g := mkF m pc Ls (.int x :: .int j :: .ref a :: rest)) rfl rfl hd
  rw [q2] at X' W'
  exact ⟨T', h', X', e', W', by have := own_A.set ⟨cl, B, r⟩ W'; rw [own_AI, List.map_set]; exact this, st⟩
end Loads
end OwnKit
theorem own_bm32 {x : Int} (h1 : -2147483648 ≤ x) (h2 : x < 2147483648) : x.bmod (2 ^ 32) = x := by
  rw [Int.bmod_def]; split <;> omega
theorem own_bm64 {x : Int} (h1 : -9223372036854775808 ≤ x) (h2 : x < 9223372036854775808) : x.bmod (2 ^ 64) = x := by
  rw [Int.bmod_def]; split <;> omega
theorem own_r32 (x : Int32) : -2147483648 ≤ x.toInt ∧ x.toInt < 2147483648 := ⟨x.le_toInt, x.toInt_lt⟩
theorem own_r64 (x : Int64) : -9223372036854775808 ≤ x.toInt ∧ x.toInt < 9223372036854775808 := ⟨x.le_toInt, x.toInt_lt⟩
theorem own_iadd {x y : Int32} (h : -2147483648 ≤ x.toInt + y.toInt ∧ x.toInt + y.toInt < 2147483648) : (x + y).toInt = x.toInt + y.toInt := by rw [Int32.toInt_add]; exact own_bm32 h.1 h.2
theorem own_isub {x y : Int32} (h : -2147483648 ≤ x.toInt - y.toInt ∧ x.toInt - y.toInt < 2147483648) : (x - y).toInt = x.toInt - y.toInt := by rw [Int32.toInt_sub]; exact own_bm32 h.1 h.2
theorem own_imul {x y : Int32} (h : -2147483648 ≤ x.toInt * y.toInt ∧ x.toInt * y.toInt < 2147483648) : (x * y).toInt = x.toInt * y.toInt := by rw [Int32.toInt_mul]; exact own_bm32 h.1 h.2
theorem own_ladd {x y : Int64} (h : -9223372036854775808 ≤ x.toInt + y.toInt ∧ x.toInt + y.toInt < 9223372036854775808) : (x + y).toInt = x.toInt + y.toInt := by rw [Int64.toInt_add]; exact own_bm64 h.1 h.2
theorem own_lsub {x y : Int64} (h : -9223372036854775808 ≤ x.toInt - y.toInt ∧ x.toInt - y.toInt < 9223372036854775808) : (x - y).toInt = x.toInt - y.toInt := by rw [Int64.toInt_sub]; exact own_bm64 h.1 h.2
theorem own_lmul {x y : Int64} (h : -9223372036854775808 ≤ x.toInt * y.toInt ∧ x.toInt * y.toInt < 9223372036854775808) : (x * y).toInt = x.toInt * y.toInt := by rw [Int64.toInt_mul]; exact own_bm64 h.1 h.2
theorem own_i2l (x : Int32) : x.toInt64.toInt = x.toInt := Int32.toInt_toInt64 x
theorem own_l2i {x : Int64} (h : -2147483648 ≤ x.toInt ∧ x.toInt < 2147483648) : x.toInt32.toInt = x.toInt := by rw [Int64.toInt_toInt32]; exact own_bm32 h.1 h.2
theorem own_irem {x y : Int32} (h : 0 ≤ x.toInt) : (x % y).toInt = x.toInt % y.toInt := by rw [Int32.toInt_mod]; exact Int.tmod_eq_emod_of_nonneg h
theorem own_lrem {x y : Int64} (h : 0 ≤ x.toInt) : (x % y).toInt = x.toInt % y.toInt := by rw [Int64.toInt_mod]; exact Int.tmod_eq_emod_of_nonneg h
theorem own_idiv {x y : Int32} (h : 0 ≤ x.toInt) (hy : 0 ≤ y.toInt) : (x / y).toInt = x.toInt / y.toInt := by
  rw [Int32.toInt_div_of_ne_right x y (fun q => by rw [q] at hy; revert hy; decide)]; exact Int.tdiv_eq_ediv_of_nonneg h
theorem own_ldiv {x y : Int64} (h : 0 ≤ x.toInt) (hy : 0 ≤ y.toInt) : (x / y).toInt = x.toInt / y.toInt := by
  rw [Int64.toInt_div_of_ne_right x y (fun q => by rw [q] at hy; revert hy; decide)]; exact Int.tdiv_eq_ediv_of_nonneg h
/-- a mask of k bits -/
theorem own_mask (x m : Int32) (k : Nat) (hk : k ≤ 31) (hm : m.toBitVec.toNat = 2 ^ k - 1) : (x &&& m).toInt = x.toInt % (2 ^ k : Nat) := by
  have hp : 2 ^ k ≤ 2 ^ 31 := Nat.pow_le_pow_right (by decide) hk
  have hp0 : 0 < 2 ^ k := Nat.pow_pos (by decide)
  have e : (x &&& m).toBitVec.toNat = x.toBitVec.toNat % 2 ^ k := by rw [Int32.toBitVec_and, BitVec.toNat_and, hm, Nat.and_two_pow_sub_one_eq_mod]
  have l := Nat.mod_lt x.toBitVec.toNat hp0
  rw [← Int32.toInt_toBitVec, ← Int32.toInt_toBitVec, BitVec.toInt_eq_toNat_cond, e, if_pos (by omega), BitVec.toInt_eq_toNat_cond]
  split
  · simp
  · rename_i q
    have d : (2 ^ k : Nat) ∣ 2 ^ 32 := Nat.pow_dvd_pow 2 (by omega)
    obtain ⟨c, hc⟩ := d
    have hc' : ((2 ^ 32 : Nat) : Int) = ((2 ^ k : Nat) : Int) * (c : Int) := by rw [hc]; simp
    rw [hc', Int.sub_mul_emod_self_left]; simp
theorem own_ushr (x : Int64) (y : Int32) (k : Nat) (hk : (y &&& 0x3f).toInt64.toBitVec.toNat % 64 = k) (h0 : 0 < k) : (((x).toUInt64 >>> (y &&& 0x3f).toInt64.toUInt64).toInt64).toInt = (x.toInt % 18446744073709551616) / (2 ^ k : Nat) := by
  have e : (((x).toUInt64 >>> (y &&& 0x3f).toInt64.toUInt64).toInt64).toBitVec = x.toBitVec >>> k := by rw [← hk]; simp
  have hl := x.toBitVec.isLt
  have hp0 : 0 < 2 ^ k := Nat.pow_pos (by decide)
  have h2 : 2 ^ 1 ≤ 2 ^ k := Nat.pow_le_pow_right (by decide) h0
  have hd : x.toBitVec.toNat / 2 ^ k ≤ x.toBitVec.toNat / 2 := Nat.div_le_div_left h2 (by decide)
  have t : x.toInt % 18446744073709551616 = (x.toBitVec.toNat : Int) := by
    rw [← Int64.toInt_toBitVec, BitVec.toInt_eq_toNat_cond]; split <;> omega
  rw [t, ← Int64.toInt_toBitVec, e, BitVec.toInt_eq_toNat_cond, BitVec.toNat_ushiftRight, Nat.shiftRight_eq_div_pow, if_pos (by omega)]
  simp
theorem own_shl (x : Int64) (y : Int32) (k : Nat) (hk : y.toBitVec.toNat % 64 = k) (h : -9223372036854775808 ≤ x.toInt * (2 ^ k : Nat) ∧ x.toInt * (2 ^ k : Nat) < 9223372036854775808) : (x <<< (y &&& 0x3f).toInt64).toInt = x.toInt * (2 ^ k : Nat) := by
  have q := c_lshl x y k hk
  have r := own_r64 (x <<< (y &&& 0x3f).toInt64)
  generalize x.toInt * (2 ^ k : Nat) = z at *
  omega
theorem own_nzL {x : Int32} (h : ¬ x = 0) : ¬ x.toInt64 = 0 := fun q => h (Int32.toInt_inj.mp (by rw [← own_i2l, q]; rfl))
theorem own_nzP {x : Int32} (h : 1 ≤ x.toInt) : ¬ x = 0 := fun q => by rw [q] at h; revert h; decide
theorem own_fA {t n : Int32} {k : Int} (h : t < n) (q : n.toInt - 1 = k) : t.toInt ≤ k := by rw [Int32.lt_iff_toInt_lt] at h; omega
theorem own_fB {t n : Int32} {k : Int} (h : ¬ n < t) (q : n.toInt = k) : t.toInt ≤ k := by rw [Int32.lt_iff_toInt_lt] at h; omega
theorem own_fC {t n : Int32} {k : Int} (h : n < t) (q : n.toInt + 1 = k) : k ≤ t.toInt := by rw [Int32.lt_iff_toInt_lt] at h; omega
theorem own_fD {t n : Int32} {k : Int} (h : ¬ t < n) (q : n.toInt = k) : k ≤ t.toInt := by rw [Int32.lt_iff_toInt_lt] at h; omega
theorem own_fE {t n : Int32} {k : Int} (h : t = n) (q : n.toInt = k) : t.toInt ≤ k := by rw [h]; omega
theorem own_fF {t n : Int32} {k : Int} (h : t = n) (q : n.toInt = k) : k ≤ t.toInt := by rw [h]; omega
theorem own_g1 {t m : Int32} {k : Int} (h : t.toInt ≤ k) (q : k < m.toInt) : t < m := by rw [Int32.lt_iff_toInt_lt]; omega
theorem own_g2 {t m : Int32} {k : Int} (h : t.toInt ≤ k) (q : k ≤ m.toInt) : ¬ m < t := by rw [Int32.lt_iff_toInt_lt]; omega
theorem own_g3 {t m : Int32} {k : Int} (h : t.toInt ≤ k) (q : k < m.toInt) : ¬ t = m := fun e => by rw [e] at h; omega
theorem own_g4 {t m : Int32} {k : Int} (h : k ≤ t.toInt) (q : m.toInt ≤ k) : ¬ t < m := by rw [Int32.lt_iff_toInt_lt]; omega
theorem own_g5 {t m : Int32} {k : Int} (h : k ≤ t.toInt) (q : m.toInt < k) : m < t := by rw [Int32.lt_iff_toInt_lt]; omega
theorem own_g6 {t m : Int32} {k : Int} (h : k ≤ t.toInt) (q : m.toInt < k) : ¬ t = m := fun e => by rw [e] at h; omega
theorem own_g7 {t m : Int32} {k : Int} (h : k ≤ t.toInt) (h' : t.toInt ≤ k) (q : m.toInt = k) : t = m := Int32.toInt_inj.mp (by omega)
theorem own_ne {x n : Int32} {k : Int} (h : ¬ x = n) (q : n.toInt = k) : k ≠ x.toInt := fun e => h (Int32.toInt_inj.mp (by omega))
theorem own_gs1 {α : Type} (xs : List α) (n : Nat) (v d : α) (h : n < xs.length) : (xs.set n v).getD n d = v := by simp [List.getD, h]
theorem own_gs2 {α : Type} (xs : List α) (n j : Nat) (v d : α) (h : n ≠ j) : (xs.set n v).getD j d = xs.getD j d := by simp [List.getD, List.getElem?_set, h]
theorem own_nzR {x y n : Int32} {k : Int} (h : y = (x &&& 2147483647) % n) (hn : n.toInt = k) (hk : 1 ≤ k ∧ k ≤ 1000) : 0 ≤ y.toInt ∧ y.toInt < k := by
  have a := own_mask x 2147483647 31 (by decide) (by decide)
  have b := own_irem (x := x &&& 2147483647) (y := n) (by omega)
  have c := Int.emod_lt_of_pos (x &&& 2147483647).toInt (show 0 < n.toInt by omega)
  have d := Int.emod_nonneg (x &&& 2147483647).toInt (show n.toInt ≠ 0 by omega)
  rw [← h] at b
  omega
theorem own_nzS {x y n m : Int32} {k : Int} (h : y = (x &&& 2147483647) % n) (hn : n.toInt = k) (hm : m.toInt = k - 1) (hk : 1 ≤ k ∧ k ≤ 1000) : 1 ≤ (m - y + 1).toInt ∧ (m - y + 1).toInt = k - y.toInt := by
  have r := own_nzR h hn hk
  have e : (1 : Int32).toInt = 1 := by decide
  have a := own_isub (x := m) (y := y) (by omega)
  have b := own_iadd (x := m - y) (y := 1) (by omega)
  omega
theorem own_nzT {x y n m : Int32} (h : y = (x &&& 2147483647) % n) (hc : (n = 33 ∧ m = 32) ∨ (n = 129 ∧ m = 128)) : ¬ (m - y + 1) = 0 := by
  rcases hc with ⟨rfl, rfl⟩ | ⟨rfl, rfl⟩
  · exact own_nzP (own_nzS h (k := 33) (by decide) (by decide) (by decide)).1
  · exact own_nzP (own_nzS h (k := 129) (by decide) (by decide) (by decide)).1
theorem d1_0 : decode prog_39_method_1_code 0 = .ok (.aload_n 0, 1) := by decide +kernel
theorem d1_1 : decode prog_39_method_1_code 1 = .ok (.invokespecial 1, 3) := by decide +kernel
theorem d1_4 : decode prog_39_method_1_code 4 = .ok (.aload_n 0, 1) := by decide +kernel
theorem d1_5 : decode prog_39_method_1_code 5 = .ok (.aload_n 1, 1) := by decide +kernel
theorem d1_6 : decode prog_39_method_1_code 6 = .ok (.putfield 7, 3) := by decide +kernel
theorem d1_9 : decode prog_39_method_1_code 9 = .ok (.aload_n 0, 1) := by decide +kernel
theorem d1_10 : decode prog_39_method_1_code 10 = .ok (.iload_n 2, 1) := by decide +kernel
theorem d1_11 : decode prog_39_method_1_code 11 = .ok (.putfield 13, 3) := by decide +kernel
theorem d1_14 : decode prog_39_method_1_code 14 = .ok (.return_, 1) := by decide +kernel
theorem pn_1 : plainName "com/example/stillframe/stillframe/ccr/IpPrefix" = true := by first | (simp [plainName, overriddenIn]; done) | decide +kernel
theorem ef_1 (m : MethodId) (ra : Addr) (rb : Addr) (q2 : Int32) : entryFrame m #[(.ref ra), (.ref rb), (.int q2)] 3 = mkF m 0 #[.val (.ref ra), .val (.ref rb), .val (.int q2)] [] := by first | (simp [entryFrame, mkF, argsToLocals, Value.category, maxLocals]; done) | rfl
def Q1 (Z : State) (ra : Addr) (rb : Addr) (q2 : Int32)  (h0 : Heap) (n0 : Nat) (v : Option Value) (h : Heap) (L : List Loc) : Prop := v = none ∧ Fr n0 L ∧ Keep h0 h [ra] ∧ Exa Z h ra "com/example/stillframe/stillframe/ccr/IpPrefix" ∧ Fld Z h ra "com/example/stillframe/stillframe/ccr/IpPrefix" "address" "[B" (.ref rb) ∧ Fld Z h ra "com/example/stillframe/stillframe/ccr/IpPrefix" "length" "I" (.int q2)
set_option maxRecDepth 65536 in
set_option maxHeartbeats 40000000 in
theorem rm1 (l : Launch) (Z : State) (a0 : Array Value) (hw : ∀ d ∈ tables_1, d.before a0 Z = true) (ws : List Jvm.Cond) (ra : Addr) (rb : Addr) (q2 : Int32)  (h0 : Heap) (n0 : Nat) (Z0 : n0 ≤ h0.size) (PE0 : Exa Z h0 ra "com/example/stillframe/stillframe/ccr/IpPrefix") (PF0 : Fld Z h0 ra "com/example/stillframe/stillframe/ccr/IpPrefix" "address" "[B" .null) (PF1 : Fld Z h0 ra "com/example/stillframe/stillframe/ccr/IpPrefix" "length" "I" (.int (0 : Int32))) (PG0 : n0 ≤ ra) :
    MetFree l (⟨"com/example/stillframe/stillframe/ccr/IpPrefix", "<init>", "([BI)V"⟩ : MethodName) (head1 (Jvm.Cond.code (⟨"com/example/stillframe/stillframe/ccr/IpPrefix", "<init>", "([BI)V"⟩ : MethodName) prog_39_method_1_code 3 none :: ws) ({ frames := 1, cells := 0, slots := 0, locals := 12 } : Room)) (fun a U => a = #[(.ref ra), (.ref rb), (.int q2)] ∧ Z.Warmed39 U.vm ∧ U.heap = h0) (fun _ _ _ _ _ => True) (fun _ U o U' => ∃ v L, o = .returned v ∧ Q1 Z ra rb q2 h0 n0 v U'.heap L ∧ FrameEnd U o U' L ({ frames := 1, cells := 0, slots := 0, locals := 12 } : Room).cells ({ frames := 1, cells := 0, slots := 0, locals := 12 } : Room).slots) := by
  refine MetFree.of_bodySF (plainFor_of_name pn_1) hisR ?_
  intro p e s m args below meth c s₁ Bd hml0 hP hK
  obtain ⟨rfl, hZ, hh⟩ := hP
  have hx := Bd.exec
  have hby := Bd.bytes
  have hml : c.maxLocals = 3 := hml0
  have hown : s.vm.findClass "com/example/stillframe/stillframe/ccr/IpPrefix" = some m.cls := findClass_of_methodNamed Bd.named
  have hnm := (name_of_methodNamed Bd.named Bd.method).1
  have X0 : Stand p l e ({ frames := 1, cells := 0, slots := 0, locals := 12 } : Room) s m #[(.ref ra), (.ref rb), (.int q2)] below meth c s₁ [] 0 0 := Stand.of_body Bd
  have hlk : meth.locks = false := by first | exact BodyLoose.notSynchronized (by assumption) | exact Body.notSynchronized (by assumption)
  have e0 : s₁.heap = h0 := by rw [← hh, Bd.state]; rfl
  have N0 := Fr.nil n0
  have pre0 : ∀ t, Steps p.tables e below (s₁.setTop (mkF m 0 #[.val (.ref ra), .val (.ref rb), .val (.int q2)] [])) t → Steps p.tables e below (s₁.setTop (entryFrame m #[(.ref ra), (.ref rb), (.int q2)] 3)) t := fun t k => castTop (ef_1 m ra rb q2) k
  obtain ⟨T1, X1, e1, st1⟩ := initO X0 hx hZ hown (hw _ (List.mem_of_getElem? (i := 8) rfl)) (hw _ (List.mem_of_getElem? (i := 9) rfl)) (hw _ (List.mem_of_getElem? (i := 10) rfl)) e0 (g := (mkF m 1 #[.val (.ref ra), .val (.ref rb), .val (.int q2)] [(.ref ra)])) rfl (by rw [hml]; rfl) rfl (hb hby d1_1) (by decide) (W := 0) (by show 2 * 0 + _ ≤ _; exact Nat.le_of_eq rfl) (by decide)
  obtain ⟨T2, h2, X2, e2, W2, st2⟩ := putF X1 hx hZ hown (host := "") (Or.inl (hw _ (List.mem_of_getElem? (i := 11) rfl))) Via.refl e1 PF0 PE0 (Or.inr ⟨(hw _ (List.mem_of_getElem? (i := 12) rfl)), rfl, hnm⟩) (hw _ (List.mem_of_getElem? (i := 3) rfl)) (ty := (.array .byte)) (by decide) rfl rfl (g := (mkF m 6 #[.val (.ref ra), .val (.ref rb), .val (.int q2)] [(.ref rb), (.ref ra)])) rfl rfl (hb hby d1_6)
  have A2_ra : Exa Z h2 ra "com/example/stillframe/stillframe/ccr/IpPrefix" := PE0.wr W2
  have F2_ra_1 : Fld Z h2 ra "com/example/stillframe/stillframe/ccr/IpPrefix" "length" "I" (.int (0 : Int32)) := PF1.other W2 (Or.inr (slot_ne (a0 := a0) (C := "com/example/stillframe/stillframe/ccr/IpPrefix") (Or.inr (hw _ (List.mem_of_getElem? (i := 14) rfl))) (Or.inr (hw _ (List.mem_of_getElem? (i := 12) rfl))) (by decide) (t := .int) (t' := (.array .byte)) (by decide) (by decide)))
  have sz2 : n0 ≤ h2.size := Nat.le_trans Z0 (Keep.of_wr W2).1
  have K2 : Keep h0 h2 [ra] := (Keep.refl h0 [ra]).wr W2 (Or.inl (by simp))
  have N2 := Fr.snoc X2 N0 PG0
  have F2_s : Fld Z h2 ra "com/example/stillframe/stillframe/ccr/IpPrefix" "address" "[B" (.ref rb) := PF0.same W2
  obtain ⟨T3, h3, X3, e3, W3, st3⟩ := putF X2 hx hZ hown (host := "") (Or.inl (hw _ (List.mem_of_getElem? (i := 13) rfl))) Via.refl e2 F2_ra_1 A2_ra (Or.inr ⟨(hw _ (List.mem_of_getElem? (i := 14) rfl)), rfl, hnm⟩) (hw _ (List.mem_of_getElem? (i := 3) rfl)) (ty := .int) (by decide) rfl rfl (g := (mkF m 11 #[.val (.ref ra), .val (.ref rb), .val (.int q2)] [(.int q2), (.ref ra)])) rfl rfl (hb hby d1_11)
  have A3_ra : Exa Z h3 ra "com/example/stillframe/stillframe/ccr/IpPrefix" := A2_ra.wr W3
  have F3_ra_0 : Fld Z h3 ra "com/example/stillframe/stillframe/ccr/IpPrefix" "address" "[B" (.ref rb) := F2_s.other W3 (Or.inr (slot_ne (a0 := a0) (C := "com/example/stillframe/stillframe/ccr/IpPrefix") (Or.inr (hw _ (List.mem_of_getElem? (i := 12) rfl))) (Or.inr (hw _ (List.mem_of_getElem? (i := 14) rfl))) (by decide) (t := (.array .byte)) (t' := .int) (by decide) (by decide)))
  have sz3 : n0 ≤ h3.size := Nat.le_trans sz2 (Keep.of_wr W3).1
  have K3 : Keep h0 h3 [ra] := K2.wr W3 (Or.inl (by simp))
  have N3 := Fr.snoc X3 N2 PG0
  have F3_s : Fld Z h3 ra "com/example/stillframe/stillframe/ccr/IpPrefix" "length" "I" (.int q2) := F2_ra_1.same W3
  obtain ⟨fs, hr, hrun, hended, hW, hsame⟩ := X3.leave (v := none) (fun _ => rfl) hlk
  refine ⟨_, _, pre0 _ ?_, hrun, hended, _, _, rfl, ?_, ⟨_, rfl⟩, hW, hsame.mono (by decide) (by decide)⟩
  · show Steps p.tables e below (s₁.setTop (mkF m 0 #[.val (.ref ra), .val (.ref rb), .val (.int q2)] [])) _
    refine XS.aloadN X0.here hx rfl (hb hby d1_0) rfl rfl ?_
    show Steps p.tables e below (s₁.setTop (mkF m 1 #[.val (.ref ra), .val (.ref rb), .val (.int q2)] [(.ref ra)])) _
    refine st1 _ ?_
    show Steps p.tables e below (T1.setTop (mkF m 4 #[.val (.ref ra), .val (.ref rb), .val (.int q2)] [])) _
    refine XS.aloadN X1.here hx rfl (hb hby d1_4) rfl rfl ?_
    show Steps p.tables e below (T1.setTop (mkF m 5 #[.val (.ref ra), .val (.ref rb), .val (.int q2)] [(.ref ra)])) _
    refine XS.aloadN X1.here hx rfl (hb hby d1_5) rfl rfl ?_
    show Steps p.tables e below (T1.setTop (mkF m 6 #[.val (.ref ra), .val (.ref rb), .val (.int q2)] [(.ref rb), (.ref ra)])) _
    refine st2 _ ?_
    show Steps p.tables e below (T2.setTop (mkF m 9 #[.val (.ref ra), .val (.ref rb), .val (.int q2)] [])) _
    refine XS.aloadN X2.here hx rfl (hb hby d1_9) rfl rfl ?_
    show Steps p.tables e below (T2.setTop (mkF m 10 #[.val (.ref ra), .val (.ref rb), .val (.int q2)] [(.ref ra)])) _
    refine XS.iloadN X2.here hx rfl (hb hby d1_10) rfl ?_
    show Steps p.tables e below (T2.setTop (mkF m 11 #[.val (.ref ra), .val (.ref rb), .val (.int q2)] [(.int q2), (.ref ra)])) _
    refine st3 _ ?_
    show Steps p.tables e below (T3.setTop (mkF m 14 #[.val (.ref ra), .val (.ref rb), .val (.int q2)] [])) _
    exact X3.returnOut hx Bd.returns (hb hby d1_14) hr
  · show Q1 Z ra rb q2 h0 n0 _ T3.heap _
    rw [e3]
    exact ⟨rfl, N3, K3, A3_ra, F3_ra_0, F3_s⟩
theorem d3_0 : decode prog_42_method_1_code 0 = .ok (.aload_n 0, 1) := by decide +kernel
theorem d3_1 : decode prog_42_method_1_code 1 = .ok (.invokespecial 1, 3) := by decide +kernel
theorem d3_4 : decode prog_42_method_1_code 4 = .ok (.aload_n 0, 1) := by decide +kernel
theorem d3_5 : decode prog_42_method_1_code 5 = .ok (.lload_n 1, 1) := by decide +kernel
theorem d3_6 : decode prog_42_method_1_code 6 = .ok (.putfield 7, 3) := by decide +kernel
theorem d3_9 : decode prog_42_method_1_code 9 = .ok (.aload_n 0, 1) := by decide +kernel
theorem d3_10 : decode prog_42_method_1_code 10 = .ok (.aload_n 3, 1) := by decide +kernel
theorem d3_11 : decode prog_42_method_1_code 11 = .ok (.putfield 13, 3) := by decide +kernel
theorem d3_14 : decode prog_42_method_1_code 14 = .ok (.aload_n 0, 1) := by decide +kernel
theorem d3_15 : decode prog_42_method_1_code 15 = .ok (.iload 4, 2) := by decide +kernel
theorem d3_17 : decode prog_42_method_1_code 17 = .ok (.putfield 17, 3) := by decide +kernel
theorem d3_20 : decode prog_42_method_1_code 20 = .ok (.return_, 1) := by decide +kernel
theorem pn_3 : plainName "com/example/stillframe/stillframe/ccr/RoaPayload" = true := by first | (simp [plainName, overriddenIn]; done) | decide +kernel
theorem ef_3 (m : MethodId) (ra : Addr) (q1 : Int64) (rb : Addr) (q3 : Int32) : entryFrame m #[(.ref ra), (.long q1), (.ref rb), (.int q3)] 5 = mkF m 0 #[.val (.ref ra), .val (.long q1), .second, .val (.ref rb), .val (.int q3)] [] := by first | (simp [entryFrame, mkF, argsToLocals, Value.category, maxLocals]; done) | rfl
def Q3 (Z : State) (ra : Addr) (q1 : Int64) (rb : Addr) (q3 : Int32)  (h0 : Heap) (n0 : Nat) (v : Option Value) (h : Heap) (L : List Loc) : Prop := v = none ∧ Fr n0 L ∧ Keep h0 h [ra] ∧ Exa Z h ra "com/example/stillframe/stillframe/ccr/RoaPayload" ∧ Fld Z h ra "com/example/stillframe/stillframe/ccr/RoaPayload" "asn" "J" (.long q1) ∧ Fld Z h ra "com/example/stillframe/stillframe/ccr/RoaPayload" "prefix" "Lcom/example/stillframe/stillframe/ccr/IpPrefix;" (.ref rb) ∧ Fld Z h ra "com/example/stillframe/stillframe/ccr/RoaPayload" "maxLength" "I" (.int q3)
set_option maxRecDepth 65536 in
set_option maxHeartbeats 40000000 in
theorem rm3 (l : Launch) (Z : State) (a0 : Array Value) (hw : ∀ d ∈ tables_1, d.before a0 Z = true) (ws : List Jvm.Cond) (ra : Addr) (q1 : Int64) (rb : Addr) (q3 : Int32)  (h0 : Heap) (n0 : Nat) (Z0 : n0 ≤ h0.size) (PE0 : Exa Z h0 ra "com/example/stillframe/stillframe/ccr/RoaPayload") (PF0 : Fld Z h0 ra "com/example/stillframe/stillframe/ccr/RoaPayload" "asn" "J" (.long (0 : Int64))) (PF1 : Fld Z h0 ra "com/example/stillframe/stillframe/ccr/RoaPayload" "prefix" "Lcom/example/stillframe/stillframe/ccr/IpPrefix;" .null) (PF2 : Fld Z h0 ra "com/example/stillframe/stillframe/ccr/RoaPayload" "maxLength" "I" (.int (0 : Int32))) (PG0 : n0 ≤ ra) :
    MetFree l (⟨"com/example/stillframe/stillframe/ccr/RoaPayload", "<init>", "(JLcom/example/stillframe/stillframe/ccr/IpPrefix;I)V"⟩ : MethodName) (head1 (Jvm.Cond.code (⟨"com/example/stillframe/stillframe/ccr/RoaPayload", "<init>", "(JLcom/example/stillframe/stillframe/ccr/IpPrefix;I)V"⟩ : MethodName) prog_42_method_1_code 5 none :: ws) ({ frames := 1, cells := 0, slots := 0, locals := 12 } : Room)) (fun a U => a = #[(.ref ra), (.long q1), (.ref rb), (.int q3)] ∧ Z.Warmed39 U.vm ∧ U.heap = h0) (fun _ _ _ _ _ => True) (fun _ U o U' => ∃ v L, o = .returned v ∧ Q3 Z ra q1 rb q3 h0 n0 v U'.heap L ∧ FrameEnd U o U' L ({ frames := 1, cells := 0, slots := 0, locals := 12 } : Room).cells ({ frames := 1, cells := 0, slots := 0, locals := 12 } : Room).slots) := by
  refine MetFree.of_bodySF (plainFor_of_name pn_3) hisR ?_
  intro p e s m args below meth c s₁ Bd hml0 hP hK
  obtain ⟨rfl, hZ, hh⟩ := hP
  have hx := Bd.exec
  have hby := Bd.bytes
  have hml : c.maxLocals = 5 := hml0
  have hown : s.vm.findClass "com/example/stillframe/stillframe/ccr/RoaPayload" = some m.cls := findClass_of_methodNamed Bd.named
  have hnm := (name_of_methodNamed Bd.named Bd.method).1
  have X0 : Stand p l e ({ frames := 1, cells := 0, slots := 0, locals := 12 } : Room) s m #[(.ref ra), (.long q1), (.ref rb), (.int q3)] below meth c s₁ [] 0 0 := Stand.of_body Bd
  have hlk : meth.locks = false := by first | exact BodyLoose.notSynchronized (by assumption) | exact Body.notSynchronized (by assumption)
  have e0 : s₁.heap = h0 := by rw [← hh, Bd.state]; rfl
  have N0 := Fr.nil n0
  have pre0 : ∀ t, Steps p.tables e below (s₁.setTop (mkF m 0 #[.val (.ref ra), .val (.long q1), .second, .val (.ref rb), .val (.int q3)] [])) t → Steps p.tables e below (s₁.setTop (entryFrame m #[(.ref ra), (.long q1), (.ref rb), (.int q3)] 5)) t := fun t k => castTop (ef_3 m ra q1 rb q3) k
  obtain ⟨T1, X1, e1, st1⟩ := initO X0 hx hZ hown (hw _ (List.mem_of_getElem? (i := 22) rfl)) (hw _ (List.mem_of_getElem? (i := 9) rfl)) (hw _ (List.mem_of_getElem? (i := 10) rfl)) e0 (g := (mkF m 1 #[.val (.ref ra), .val (.long q1), .second, .val (.ref rb), .val (.int q3)] [(.ref ra)])) rfl (by rw [hml]; rfl) rfl (hb hby d3_1) (by decide) (W := 0) (by show 2 * 0 + _ ≤ _; exact Nat.le_of_eq rfl) (by decide)
  obtain ⟨T2, h2, X2, e2, W2, st2⟩ := putF X1 hx hZ hown (host := "") (Or.inl (hw _ (List.mem_of_getElem? (i := 23) rfl))) Via.refl e1 PF0 PE0 (Or.inr ⟨(hw _ (List.mem_of_getElem? (i := 24) rfl)), rfl, hnm⟩) (hw _ (List.mem_of_getElem? (i := 16) rfl)) (ty := .long) (by decide) rfl rfl (g := (mkF m 6 #[.val (.ref ra), .val (.long q1), .second, .val (.ref rb), .val (.int q3)] [(.long q1), (.ref ra)])) rfl rfl (hb hby d3_6)
  have A2_ra : Exa Z h2 ra "com/example/stillframe/stillframe/ccr/RoaPayload" := PE0.wr W2
  have F2_ra_1 : Fld Z h2 ra "com/example/stillframe/stillframe/ccr/RoaPayload" "prefix" "Lcom/example/stillframe/stillframe/ccr/IpPrefix;" .null := PF1.other W2 (Or.inr (slot_ne (a0 := a0) (C := "com/example/stillframe/stillframe/ccr/RoaPayload") (Or.inr (hw _ (List.mem_of_getElem? (i := 26) rfl))) (Or.inr (hw _ (List.mem_of_getElem? (i := 24) rfl))) (by decide) (t := (.object "com/example/stillframe/stillframe/ccr/IpPrefix")) (t' := .long) (by decide) (by decide)))
  have F2_ra_2 : Fld Z h2 ra "com/example/stillframe/stillframe/ccr/RoaPayload" "maxLength" "I" (.int (0 : Int32)) := PF2.other W2 (Or.inr (slot_ne (a0 := a0) (C := "com/example/stillframe/stillframe/ccr/RoaPayload") (Or.inr (hw _ (List.mem_of_getElem? (i := 28) rfl))) (Or.inr (hw _ (List.mem_of_getElem? (i := 24) rfl))) (by decide) (t := .int) (t' := .long) (by decide) (by decide)))
  have sz2 : n0 ≤ h2.size := Nat.le_trans Z0 (Keep.of_wr W2).1
  have K2 : Keep h0 h2 [ra] := (Keep.refl h0 [ra]).wr W2 (Or.inl (by simp))
  have N2 := Fr.snoc X2 N0 PG0
  have F2_s : Fld Z h2 ra "com/example/stillframe/stillframe/ccr/RoaPayload" "asn" "J" (.long q1) := PF0.same W2
  obtain ⟨T3, h3, X3, e3, W3, st3⟩ := putF X2 hx hZ hown (host := "") (Or.inl (hw _ (List.mem_of_getElem? (i := 25) rfl))) Via.refl e2 F2_ra_1 A2_ra (Or.inr ⟨(hw _ (List.mem_of_getElem? (i := 26) rfl)), rfl, hnm⟩) (hw _ (List.mem_of_getElem? (i := 16) rfl)) (ty := (.object "com/example/stillframe/stillframe/ccr/IpPrefix")) (by decide) rfl rfl (g := (mkF m 11 #[.val (.ref ra), .val (.long q1), .second, .val (.ref rb), .val (.int q3)] [(.ref rb), (.ref ra)])) rfl rfl (hb hby d3_11)
  have A3_ra : Exa Z h3 ra "com/example/stillframe/stillframe/ccr/RoaPayload" := A2_ra.wr W3
  have F3_ra_0 : Fld Z h3 ra "com/example/stillframe/stillframe/ccr/RoaPayload" "asn" "J" (.long q1) := F2_s.other W3 (Or.inr (slot_ne (a0 := a0) (C := "com/example/stillframe/stillframe/ccr/RoaPayload") (Or.inr (hw _ (List.mem_of_getElem? (i := 24) rfl))) (Or.inr (hw _ (List.mem_of_getElem? (i := 26) rfl))) (by decide) (t := .long) (t' := (.object "com/example/stillframe/stillframe/ccr/IpPrefix")) (by decide) (by decide)))
  have F3_ra_2 : Fld Z h3 ra "com/example/stillframe/stillframe/ccr/RoaPayload" "maxLength" "I" (.int (0 : Int32)) := F2_ra_2.other W3 (Or.inr (slot_ne (a0 := a0) (C := "com/example/stillframe/stillframe/ccr/RoaPayload") (Or.inr (hw _ (List.mem_of_getElem? (i := 28) rfl))) (Or.inr (hw _ (List.mem_of_getElem? (i := 26) rfl))) (by decide) (t := .int) (t' := (.object "com/example/stillframe/stillframe/ccr/IpPrefix")) (by decide) (by decide)))
  have sz3 : n0 ≤ h3.size := Nat.le_trans sz2 (Keep.of_wr W3).1
  have K3 : Keep h0 h3 [ra] := K2.wr W3 (Or.inl (by simp))
  have N3 := Fr.snoc X3 N2 PG0
  have F3_s : Fld Z h3 ra "com/example/stillframe/stillframe/ccr/RoaPayload" "prefix" "Lcom/example/stillframe/stillframe/ccr/IpPrefix;" (.ref rb) := F2_ra_1.same W3
  obtain ⟨T4, h4, X4, e4, W4, st4⟩ := putF X3 hx hZ hown (host := "") (Or.inl (hw _ (List.mem_of_getElem? (i := 27) rfl))) Via.refl e3 F3_ra_2 A3_ra (Or.inr ⟨(hw _ (List.mem_of_getElem? (i := 28) rfl)), rfl, hnm⟩) (hw _ (List.mem_of_getElem? (i := 16) rfl)) (ty := .int) (by decide) rfl rfl (g := (mkF m 17 #[.val (.ref ra), .val (.long q1), .second, .val (.ref rb), .val (.int q3)] [(.int q3), (.ref ra)])) rfl rfl (hb hby d3_17)
  have A4_ra : Exa Z h4 ra "com/example/stillframe/stillframe/ccr/RoaPayload" := A3_ra.wr W4
  have F4_ra_0 : Fld Z h4 ra "com/example/stillframe/stillframe/ccr/RoaPayload" "asn" "J" (.long q1) := F3_ra_0.other W4 (Or.inr (slot_ne (a0 := a0) (C := "com/example/stillframe/stillframe/ccr/RoaPayload") (Or.inr (hw _ (List.mem_of_getElem? (i := 24) rfl))) (Or.inr (hw _ (List.mem_of_getElem? (i := 28) rfl))) (by decide) (t := .long) (t' := .int) (by decide) (by decide)))
  have F4_ra_1 : Fld Z h4 ra "com/example/stillframe/stillframe/ccr/RoaPayload" "prefix" "Lcom/example/stillframe/stillframe/ccr/IpPrefix;" (.ref rb) := F3_s.other W4 (Or.inr (slot_ne (a0 := a0) (C := "com/example/stillframe/stillframe/ccr/RoaPayload") (Or.inr (hw _ (List.mem_of_getElem? (i := 26) rfl))) (Or.inr (hw _ (List.mem_of_getElem? (i := 28) rfl))) (by decide) (t := (.object "com/example/stillframe/stillframe/ccr/IpPrefix")) (t' := .int) (by decide) (by decide)))
  have sz4 : n0 ≤ h4.size := Nat.le_trans sz3 (Keep.of_wr W4).1
  have K4 : Keep h0 h4 [ra] := K3.wr W4 (Or.inl (by simp))
  have N4 := Fr.snoc X4 N3 PG0
  have F4_s : Fld Z h4 ra "com/example/stillframe/stillframe/ccr/RoaPayload" "maxLength" "I" (.int q3) := F3_ra_2.same W4
  obtain ⟨fs, hr, hrun, hended, hW, hsame⟩ := X4.leave (v := none) (fun _ => rfl) hlk
  refine ⟨_, _, pre0 _ ?_, hrun, hended, _, _, rfl, ?_, ⟨_, rfl⟩, hW, hsame.mono (by decide) (by decide)⟩
  · show Steps p.tables e below (s₁.setTop (mkF m 0 #[.val (.ref ra), .val (.long q1), .second, .val (.ref rb), .val (.int q3)] [])) _
    refine XS.aloadN X0.here hx rfl (hb hby d3_0) rfl rfl ?_
    show Steps p.tables e below (s₁.setTop (mkF m 1 #[.val (.ref ra), .val (.long q1), .second, .val (.ref rb), .val (.int q3)] [(.ref ra)])) _
    refine st1 _ ?_
    show Steps p.tables e below (T1.setTop (mkF m 4 #[.val (.ref ra), .val (.long q1), .second, .val (.ref rb), .val (.int q3)] [])) _
    refine XS.aloadN X1.here hx rfl (hb hby d3_4) rfl rfl ?_
    show Steps p.tables e below (T1.setTop (mkF m 5 #[.val (.ref ra), .val (.long q1), .second, .val (.ref rb), .val (.int q3)] [(.ref ra)])) _
    refine XS.lloadN X1.here hx rfl (hb hby d3_5) rfl ?_
    show Steps p.tables e below (T1.setTop (mkF m 6 #[.val (.ref ra), .val (.long q1), .second, .val (.ref rb), .val (.int q3)] [(.long q1), (.ref ra)])) _
    refine st2 _ ?_
    show Steps p.tables e below (T2.setTop (mkF m 9 #[.val (.ref ra), .val (.long q1), .second, .val (.ref rb), .val (.int q3)] [])) _
    refine XS.aloadN X2.here hx rfl (hb hby d3_9) rfl rfl ?_
    show Steps p.tables e below (T2.setTop (mkF m 10 #[.val (.ref ra), .val (.long q1), .second, .val (.ref rb), .val (.int q3)] [(.ref ra)])) _
    refine XS.aloadN X2.here hx rfl (hb hby d3_10) rfl rfl ?_
    show Steps p.tables e below (T2.setTop (mkF m 11 #[.val (.ref ra), .val (.long q1), .second, .val (.ref rb), .val (.int q3)] [(.ref rb), (.ref ra)])) _
    refine st3 _ ?_
    show Steps p.tables e below (T3.setTop (mkF m 14 #[.val (.ref ra), .val (.long q1), .second, .val (.ref rb), .val (.int q3)] [])) _
    refine XS.aloadN X3.here hx rfl (hb hby d3_14) rfl rfl ?_
    show Steps p.tables e below (T3.setTop (mkF m 15 #[.val (.ref ra), .val (.long q1), .second, .val (.ref rb), .val (.int q3)] [(.ref ra)])) _
    refine XS.iload X3.here hx rfl (hb hby d3_15) rfl ?_
    show Steps p.tables e below (T3.setTop (mkF m 17 #[.val (.ref ra), .val (.long q1), .second, .val (.ref rb), .val (.int q3)] [(.int q3), (.ref ra)])) _
    refine st4 _ ?_
    show Steps p.tables e below (T4.setTop (mkF m 20 #[.val (.ref ra), .val (.long q1), .second, .val (.ref rb), .val (.int q3)] [])) _
    exact X4.returnOut hx Bd.returns (hb hby d3_20) hr
  · show Q3 Z ra q1 rb q3 h0 n0 _ T4.heap _
    rw [e4]
    exact ⟨rfl, N4, K4, A4_ra, F4_ra_0, F4_ra_1, F4_s⟩
theorem d5_0 : decode prog_39_method_8_code 0 = .ok (.aload_n 0, 1) := by decide +kernel
theorem d5_1 : decode prog_39_method_8_code 1 = .ok (.getfield 13, 3) := by decide +kernel
theorem d5_4 : decode prog_39_method_8_code 4 = .ok (.ireturn, 1) := by decide +kernel
theorem ef_5 (m : MethodId) (rb : Addr) : entryFrame m #[(.ref rb)] 1 = mkF m 0 #[.val (.ref rb)] [] := by first | (simp [entryFrame, mkF, argsToLocals, Value.category, maxLocals]; done) | rfl
def own_f5  (w : Int32) : Int32 := w
def Q5 (Z : State) (rb : Addr) (w : Int32) (h0 : Heap) (n0 : Nat) (v : Option Value) (h : Heap) (L : List Loc) : Prop := v = some (.int (own_f5 w)) ∧ Fr n0 L ∧ h = h0
set_option maxRecDepth 65536 in
set_option maxHeartbeats 40000000 in
theorem rm5 (l : Launch) (Z : State) (a0 : Array Value) (hw : ∀ d ∈ tables_1, d.before a0 Z = true) (ws : List Jvm.Cond) (rb : Addr) (w : Int32) (h0 : Heap) (n0 : Nat) (Z0 : n0 ≤ h0.size) (PE0 : Exa Z h0 rb "com/example/stillframe/stillframe/ccr/IpPrefix") (PF0 : Fld Z h0 rb "com/example/stillframe/stillframe/ccr/IpPrefix" "length" "I" (.int w)) :
    MetFree l (⟨"com/example/stillframe/stillframe/ccr/IpPrefix", "length", "()I"⟩ : MethodName) (head1 (Jvm.Cond.code (⟨"com/example/stillframe/stillframe/ccr/IpPrefix", "length", "()I"⟩ : MethodName) prog_39_method_8_code 1 (some .int) :: ws) ({ frames := 0, cells := 0, slots := 0, locals := 0 } : Room)) (fun a U => a = #[(.ref rb)] ∧ Z.Warmed39 U.vm ∧ U.heap = h0) (fun _ _ _ _ _ => True) (fun _ U o U' => ∃ v L, o = .returned v ∧ Q5 Z rb w h0 n0 v U'.heap L ∧ FrameEnd U o U' L ({ frames := 0, cells := 0, slots := 0, locals := 0 } : Room).cells ({ frames := 0, cells := 0, slots := 0, locals := 0 } : Room).slots) := by
  refine MetFree.of_bodySF (plainFor_of_name pn_1) hisR ?_
  intro p e s m args below meth c s₁ Bd hml0 hP hK
  obtain ⟨rfl, hZ, hh⟩ := hP
  have hx := Bd.exec
  have hby := Bd.bytes
  have hml : c.maxLocals = 1 := hml0
  have hown : s.vm.findClass "com/example/stillframe/stillframe/ccr/IpPrefix" = some m.cls := findClass_of_methodNamed Bd.named
  have hnm := (name_of_methodNamed Bd.named Bd.method).1
  have X0 : Stand p l e ({ frames := 0, cells := 0, slots := 0, locals := 0 } : Room) s m #[(.ref rb)] below meth c s₁ [] 0 0 := Stand.of_body Bd
  have hlk : meth.locks = false := by first | exact BodyLoose.notSynchronized (by assumption) | exact Body.notSynchronized (by assumption)
  have e0 : s₁.heap = h0 := by rw [← hh, Bd.state]; rfl
  have N0 := Fr.nil n0
  have pre0 : ∀ t, Steps p.tables e below (s₁.setTop (mkF m 0 #[.val (.ref rb)] [])) t → Steps p.tables e below (s₁.setTop (entryFrame m #[(.ref rb)] 1)) t := fun t k => castTop (ef_5 m rb) k
  obtain ⟨T1, X1, e1, st1⟩ := getF X0 hx hZ hown (host := "") (Or.inl (hw _ (List.mem_of_getElem? (i := 13) rfl))) Via.refl e0 PF0 (g := (mkF m 1 #[.val (.ref rb)] [(.ref rb)])) rfl rfl (hb hby d5_1)
  obtain ⟨fs, hr, hrun, hended, hW, hsame⟩ := X1.leave (v := some (.int w)) (fun h => by rw [Bd.returns] at h; cases h) hlk
  refine ⟨_, _, pre0 _ ?_, hrun, hended, _, _, rfl, ?_, ⟨_, rfl⟩, hW, hsame.mono (by decide) (by decide)⟩
  · show Steps p.tables e below (s₁.setTop (mkF m 0 #[.val (.ref rb)] [])) _
    refine XS.aloadN X0.here hx rfl (hb hby d5_0) rfl rfl ?_
    show Steps p.tables e below (s₁.setTop (mkF m 1 #[.val (.ref rb)] [(.ref rb)])) _
    refine st1 _ ?_
    show Steps p.tables e below (T1.setTop (mkF m 4 #[.val (.ref rb)] [(.int w)])) _
    exact retI X1 hx Bd.returns (hb hby d5_4) hr
  · show Q5 Z rb w h0 n0 _ T1.heap _
    rw [e1]
    exact ⟨by rfl, N0, rfl⟩
theorem d4_0 : decode prog_42_method_7_code 0 = .ok (.aload_n 0, 1) := by decide +kernel
theorem d4_1 : decode prog_42_method_7_code 1 = .ok (.getfield 17, 3) := by decide +kernel
theorem d4_4 : decode prog_42_method_7_code 4 = .ok (.iconst (-1), 1) := by decide +kernel
theorem d4_5 : decode prog_42_method_7_code 5 = .ok (.if_icmp .ne 13, 3) := by decide +kernel
theorem d4_8 : decode prog_42_method_7_code 8 = .ok (.aload_n 0, 1) := by decide +kernel
theorem d4_9 : decode prog_42_method_7_code 9 = .ok (.getfield 13, 3) := by decide +kernel
theorem d4_12 : decode prog_42_method_7_code 12 = .ok (.invokevirtual 33, 3) := by decide +kernel
theorem d4_15 : decode prog_42_method_7_code 15 = .ok (.goto 7, 3) := by decide +kernel
theorem d4_18 : decode prog_42_method_7_code 18 = .ok (.aload_n 0, 1) := by decide +kernel
theorem d4_19 : decode prog_42_method_7_code 19 = .ok (.getfield 17, 3) := by decide +kernel
theorem d4_22 : decode prog_42_method_7_code 22 = .ok (.ireturn, 1) := by decide +kernel
theorem ef_4 (m : MethodId) (ra : Addr) : entryFrame m #[(.ref ra)] 1 = mkF m 0 #[.val (.ref ra)] [] := by first | (simp [entryFrame, mkF, argsToLocals, Value.category, maxLocals]; done) | rfl
theorem pd_6 : parseMethodDescriptor "()I" = some ⟨[], some .int⟩ := by decide +kernel
def own_f4  (mx : Int32) (w : Int32) : Int32 := (if mx = (-1 : Int32) then (own_f5  w) else mx)
def Q4 (Z : State) (ra : Addr) (rb : Addr) (mx : Int32) (w : Int32) (h0 : Heap) (n0 : Nat) (v : Option Value) (h : Heap) (L : List Loc) : Prop := v = some (.int (own_f4 mx w)) ∧ Fr n0 L ∧ h = h0
set_option maxRecDepth 65536 in
set_option maxHeartbeats 40000000 in
theorem rm4 (l : Launch) (Z : State) (a0 : Array Value) (hw : ∀ d ∈ tables_1, d.before a0 Z = true) (ws : List Jvm.Cond) (ra : Addr) (rb : Addr) (mx : Int32) (w : Int32) (h0 : Heap) (n0 : Nat) (Z0 : n0 ≤ h0.size) (PE0 : Exa Z h0 ra "com/example/stillframe/stillframe/ccr/RoaPayload") (PE1 : Exa Z h0 rb "com/example/stillframe/stillframe/ccr/IpPrefix") (PF0 : Fld Z h0 ra "com/example/stillframe/stillframe/ccr/RoaPayload" "prefix" "Lcom/example/stillframe/stillframe/ccr/IpPrefix;" (.ref rb)) (PF1 : Fld Z h0 ra "com/example/stillframe/stillframe/ccr/RoaPayload" "maxLength" "I" (.int mx)) (PF2 : Fld Z h0 rb "com/example/stillframe/stillframe/ccr/IpPrefix" "length" "I" (.int w)) :
    MetFree l (⟨"com/example/stillframe/stillframe/ccr/RoaPayload", "longestLength", "()I"⟩ : MethodName) (head1 (Jvm.Cond.code (⟨"com/example/stillframe/stillframe/ccr/RoaPayload", "longestLength", "()I"⟩ : MethodName) prog_42_method_7_code 1 (some .int) :: ws) ({ frames := 1, cells := 0, slots := 0, locals := 12 } : Room)) (fun a U => a = #[(.ref ra)] ∧ Z.Warmed39 U.vm ∧ U.heap = h0) (fun _ _ _ _ _ => True) (fun _ U o U' => ∃ v L, o = .returned v ∧ Q4 Z ra rb mx w h0 n0 v U'.heap L ∧ FrameEnd U o U' L ({ frames := 1, cells := 0, slots := 0, locals := 12 } : Room).cells ({ frames := 1, cells := 0, slots := 0, locals := 12 } : Room).slots) := by
  refine MetFree.of_bodySF (plainFor_of_name pn_3) hisR ?_
  intro p e s m args below meth c s₁ Bd hml0 hP hK
  obtain ⟨rfl, hZ, hh⟩ := hP
  have hx := Bd.exec
  have hby := Bd.bytes
  have hml : c.maxLocals = 1 := hml0
  have hown : s.vm.findClass "com/example/stillframe/stillframe/ccr/RoaPayload" = some m.cls := findClass_of_methodNamed Bd.named
  have hnm := (name_of_methodNamed Bd.named Bd.method).1
  have X0 : Stand p l e ({ frames := 1, cells := 0, slots := 0, locals := 12 } : Room) s m #[(.ref ra)] below meth c s₁ [] 0 0 := Stand.of_body Bd
  have hlk : meth.locks = false := by first | exact BodyLoose.notSynchronized (by assumption) | exact Body.notSynchronized (by assumption)
  have e0 : s₁.heap = h0 := by rw [← hh, Bd.state]; rfl
  have N0 := Fr.nil n0
  have pre0 : ∀ t, Steps p.tables e below (s₁.setTop (mkF m 0 #[.val (.ref ra)] [])) t → Steps p.tables e below (s₁.setTop (entryFrame m #[(.ref ra)] 1)) t := fun t k => castTop (ef_4 m ra) k
  obtain ⟨T1, X1, e1, st1⟩ := getF X0 hx hZ hown (host := "") (Or.inl (hw _ (List.mem_of_getElem? (i := 27) rfl))) Via.refl e0 PF1 (g := (mkF m 1 #[.val (.ref ra)] [(.ref ra)])) rfl rfl (hb hby d4_1)
  have pre2 : ∀ t, Steps p.tables e below (T1.setTop (mkF m 5 #[.val (.ref ra)] [(.int (-1 : Int32)), (.int mx)])) t → Steps p.tables e below (s₁.setTop (entryFrame m #[(.ref ra)] 1)) t := by
    intro t k
    refine pre0 t ?_
    show Steps p.tables e below (s₁.setTop (mkF m 0 #[.val (.ref ra)] [])) _
    refine XS.aloadN X0.here hx rfl (hb hby d4_0) rfl rfl ?_
    show Steps p.tables e below (s₁.setTop (mkF m 1 #[.val (.ref ra)] [(.ref ra)])) _
    refine st1 _ ?_
    show Steps p.tables e below (T1.setTop (mkF m 4 #[.val (.ref ra)] [(.int mx)])) _
    refine XS.iconst X1.here hx rfl (hb hby d4_4) ?_
    exact k
  by_cases c3 : mx = (-1 : Int32)
  · obtain ⟨T4, X4, e4, st4⟩ := getF X1 hx hZ hown (host := "") (Or.inl (hw _ (List.mem_of_getElem? (i := 25) rfl))) Via.refl e1 PF0 (g := (mkF m 9 #[.val (.ref ra)] [(.ref ra)])) rfl rfl (hb hby d4_9)
    obtain ⟨cq5, kq5, q5a, q5b, q5c⟩ := isOf hZ e4 PE1
    obtain ⟨_, _, ⟨T5, L5, k5, n5⟩, -, X5, ⟨Lc5, hQ5, l5, y5, z5⟩, st5⟩ := X4.virtualBack hx (y := (⟨"com/example/stillframe/stillframe/ccr/IpPrefix", "length", "()I"⟩ : MethodName)) (z := (⟨"com/example/stillframe/stillframe/ccr/IpPrefix", "length", "()I"⟩ : MethodName)) hown (mvT hZ (hw _ (List.mem_of_getElem? (i := 34) rfl))) (mvT hZ (hw _ (List.mem_of_getElem? (i := 35) rfl))) (notFace_of_selects (args := #[]) (mvT hZ (hw _ (List.mem_of_getElem? (i := 37) rfl)))) (mvT hZ (hw _ (List.mem_of_getElem? (i := 37) rfl))) (mvT hZ (hw _ (List.mem_of_getElem? (i := 36) rfl))) (by decide) (backOf (W := 0) (rm5 l Z a0 hw [] rb w h0 n0 Z0 PE1 PF2 ) hZ (hw _ (List.mem_of_getElem? (i := 38) rfl)) (hw _ (List.mem_of_getElem? (i := 4) rfl)) (by decide) (by decide)) q5a q5c (g := (mkF m 12 #[.val (.ref ra)] [(.ref rb)])) rfl (by rw [hml]; rfl) (Steps.refl _) (argsL := []) (rest := []) (lenOf pd_6 rfl) rfl (by show 2 * 0 + _ ≤ _; exact Nat.le_of_eq rfl) (hb hby d4_12) (fun _ _ => ⟨rfl, e4, (by decide : 0 + 0 ≤ _), (by decide : 0 + 0 ≤ _)⟩)
    dsimp only [Pt.U, Pt.locs, Pt.cells, Pt.slots] at X5 l5 y5 z5 st5 hQ5
    subst l5 y5 z5
    obtain ⟨rfl, N5q, e5⟩ := hQ5
    have N5 := Fr.app N0 N5q
    obtain ⟨fs, hr, hrun, hended, hW, hsame⟩ := X5.leave (v := some (.int (own_f5  w))) (fun h => by rw [Bd.returns] at h; cases h) hlk
    refine ⟨_, _, pre2 _ ?_, hrun, hended, _, _, rfl, ?_, ⟨_, rfl⟩, hW, hsame.mono (by decide) (by decide)⟩
    · show Steps p.tables e below (T1.setTop (mkF m 5 #[.val (.ref ra)] [(.int (-1 : Int32)), (.int mx)])) _
      refine XS.icmpNo X1.here hx rfl (hb hby d4_5) rfl ((teq c3).2) ?_
      show Steps p.tables e below (T1.setTop (mkF m 8 #[.val (.ref ra)] [])) _
      refine XS.aloadN X1.here hx rfl (hb hby d4_8) rfl rfl ?_
      show Steps p.tables e below (T1.setTop (mkF m 9 #[.val (.ref ra)] [(.ref ra)])) _
      refine st4 _ ?_
      show Steps p.tables e below (T4.setTop (mkF m 12 #[.val (.ref ra)] [(.ref rb)])) _
      refine st5.trans ?_
      show Steps p.tables e below (T5.setTop (mkF m 15 #[.val (.ref ra)] [(.int (own_f5  w))])) _
      refine XS.goto X5.here hx rfl (pc0 := 15) (pc' := 22) rfl (hb hby d4_15) (by decide) (by decide) ?_
      show Steps p.tables e below (T5.setTop (mkF m 22 #[.val (.ref ra)] [(.int (own_f5  w))])) _
      exact retI X5 hx Bd.returns (hb hby d4_22) hr
    · show Q4 Z ra rb mx w h0 n0 _ T5.heap _
      rw [e5]
      exact ⟨by simp only [own_f4, if_pos c3], N5, rfl⟩
  · obtain ⟨T6, X6, e6, st6⟩ := getF X1 hx hZ hown (host := "") (Or.inl (hw _ (List.mem_of_getElem? (i := 27) rfl))) Via.refl e1 PF1 (g := (mkF m 19 #[.val (.ref ra)] [(.ref ra)])) rfl rfl (hb hby d4_19)
    obtain ⟨fs, hr, hrun, hended, hW, hsame⟩ := X6.leave (v := some (.int mx)) (fun h => by rw [Bd.returns] at h; cases h) hlk
    refine ⟨_, _, pre2 _ ?_, hrun, hended, _, _, rfl, ?_, ⟨_, rfl⟩, hW, hsame.mono (by decide) (by decide)⟩
    · show Steps p.tables e below (T1.setTop (mkF m 5 #[.val (.ref ra)] [(.int (-1 : Int32)), (.int mx)])) _
      refine XS.icmpYes X1.here hx rfl (pc0 := 5) (pc' := 18) rfl (hb hby d4_5) rfl ((feq c3).2) (by decide) (by decide) ?_
      show Steps p.tables e below (T1.setTop (mkF m 18 #[.val (.ref ra)] [])) _
      refine XS.aloadN X1.here hx rfl (hb hby d4_18) rfl rfl ?_
      show Steps p.tables e below (T1.setTop (mkF m 19 #[.val (.ref ra)] [(.ref ra)])) _
      refine st6 _ ?_
      show Steps p.tables e below (T6.setTop (mkF m 22 #[.val (.ref ra)] [(.int mx)])) _
      exact retI X6 hx Bd.returns (hb hby d4_22) hr
    · show Q4 Z ra rb mx w h0 n0 _ T6.heap _
      rw [e6]
      exact ⟨by simp only [own_f4, if_neg c3], N0, rfl⟩
theorem pn_7 : plainName "com/example/stillframe/stillframe/ccr/RoaPayloadLongestLengthPinLaw" = true := by first | (simp [plainName, overriddenIn]; done) | decide +kernel
theorem ef_0 (m : MethodId) (q0 : Int32) (q1 : Int32) (q2 : Int32) (q3 : Int64) : entryFrame m #[(.int q0), (.int q1), (.int q2), (.long q3)] maxLocals = mkF m 0 #[.val (.int q0), .val (.int q1), .val (.int q2), .val (.long q3), .second, .unset, .unset, .unset, .unset, .unset, .unset, .unset, .unset, .unset] [] := by first | (simp [entryFrame, mkF, argsToLocals, Value.category, maxLocals]; done) | rfl
theorem pd_8 : parseMethodDescriptor "([BI)V" = some ⟨[(.array .byte), .int], none⟩ := by decide +kernel
theorem pd_9 : parseMethodDescriptor "(JLcom/example/stillframe/stillframe/ccr/IpPrefix;I)V" = some ⟨[.long, (.object "com/example/stillframe/stillframe/ccr/IpPrefix"), .int], none⟩ := by decide +kernel
def own_f0 (q0 : Int32) (q1 : Int32) (q2 : Int32) (q3 : Int64) : Int32 := (if (q0 &&& (1 : Int32)) = (0 : Int32) then (if (q0 &&& (2 : Int32)) = (0 : Int32) then let v6 := ((q1 &&& (2147483647 : Int32)) % (33 : Int32))
  let v9 := (v6 + ((q2 &&& (2147483647 : Int32)) % (((32 : Int32) - v6) + (1 : Int32))))
  (if (own_f4  ((-1 : Int32)) v6) = v6 then (1 : Int32) else (0 : Int32)) else let v19 := ((q1 &&& (2147483647 : Int32)) % (33 : Int32))
  let v22 := (v19 + ((q2 &&& (2147483647 : Int32)) % (((32 : Int32) - v19) + (1 : Int32))))
  (if (own_f4  v22 v19) = v22 then (1 : Int32) else (0 : Int32))) else (if (q0 &&& (2 : Int32)) = (0 : Int32) then let v34 := ((q1 &&& (2147483647 : Int32)) % (129 : Int32))
  let v37 := (v34 + ((q2 &&& (2147483647 : Int32)) % (((128 : Int32) - v34) + (1 : Int32))))
  (if (own_f4  ((-1 : Int32)) v34) = v34 then (1 : Int32) else (0 : Int32)) else let v47 := ((q1 &&& (2147483647 : Int32)) % (129 : Int32))
  let v50 := (v47 + ((q2 &&& (2147483647 : Int32)) % (((128 : Int32) - v47) + (1 : Int32))))
  (if (own_f4  v50 v47) = v50 then (1 : Int32) else (0 : Int32))))
def Q0 (Z : State) (q0 : Int32) (q1 : Int32) (q2 : Int32) (q3 : Int64)  (h0 : Heap) (n0 : Nat) (v : Option Value) (h : Heap) (L : List Loc) : Prop := v = some (.int (own_f0 q0 q1 q2 q3)) ∧ Fr n0 L
set_option maxRecDepth 65536 in
set_option maxHeartbeats 40000000 in
theorem rm0 (l : Launch) (Z : State) (a0 : Array Value) (hw : ∀ d ∈ tables_1, d.before a0 Z = true) (ws : List Jvm.Cond) (q0 : Int32) (q1 : Int32) (q2 : Int32) (q3 : Int64)  (h0 : Heap) (n0 : Nat) (Z0 : n0 ≤ h0.size)  :
    MetFree l x (head1 (Jvm.Cond.code x code maxLocals ret :: ws) room_1) (fun a U => a = #[(.int q0), (.int q1), (.int q2), (.long q3)] ∧ Z.Warmed39 U.vm ∧ U.heap = h0) (fun _ _ _ _ _ => True) (fun _ U o U' => ∃ v L, o = .returned v ∧ Q0 Z q0 q1 q2 q3 h0 n0 v U'.heap L ∧ FrameEnd U o U' L room_1.cells room_1.slots) := by
  refine MetFree.of_bodySF (plainFor_of_name pn_7) hisR ?_
  intro p e s m args below meth c s₁ Bd hml0 hP hK
  obtain ⟨rfl, hZ, hh⟩ := hP
  have hx := Bd.exec
  have hby := Bd.bytes
  have hml : c.maxLocals = 14 := hml0
  have hown : s.vm.findClass "com/example/stillframe/stillframe/ccr/RoaPayloadLongestLengthPinLaw" = some m.cls := findClass_of_methodNamed Bd.named
  have hnm := (name_of_methodNamed Bd.named Bd.method).1
  have X0 : Stand p l e room_1 s m #[(.int q0), (.int q1), (.int q2), (.long q3)] below meth c s₁ [] 0 0 := Stand.of_body Bd
  have hlk : meth.locks = false := by first | exact BodyLoose.notSynchronized (by assumption) | exact Body.notSynchronized (by assumption)
  have e0 : s₁.heap = h0 := by rw [← hh, Bd.state]; rfl
  have N0 := Fr.nil n0
  have pre0 : ∀ t, Steps p.tables e below (s₁.setTop (mkF m 0 #[.val (.int q0), .val (.int q1), .val (.int q2), .val (.long q3), .second, .unset, .unset, .unset, .unset, .unset, .unset, .unset, .unset, .unset] [])) t → Steps p.tables e below (s₁.setTop (entryFrame m #[(.int q0), (.int q1), (.int q2), (.long q3)] maxLocals)) t := fun t k => castTop (ef_0 m q0 q1 q2 q3) k
  have pre1 : ∀ t, Steps p.tables e below (s₁.setTop (mkF m 3 #[.val (.int q0), .val (.int q1), .val (.int q2), .val (.long q3), .second, .unset, .unset, .unset, .unset, .unset, .unset, .unset, .unset, .unset] [(.int (q0 &&& (1 : Int32)))])) t → Steps p.tables e below (s₁.setTop (entryFrame m #[(.int q0), (.int q1), (.int q2), (.long q3)] maxLocals)) t := by
    intro t k
    refine pre0 t ?_
    show Steps p.tables e below (s₁.setTop (mkF m 0 #[.val (.int q0), .val (.int q1), .val (.int q2), .val (.long q3), .second, .unset, .unset, .unset, .unset, .unset, .unset, .unset, .unset, .unset] [])) _
    refine XS.iloadN X0.here hx rfl (hb hby at_0) rfl ?_
    show Steps p.tables e below (s₁.setTop (mkF m 1 #[.val (.int q0), .val (.int q1), .val (.int q2), .val (.long q3), .second, .unset, .unset, .unset, .unset, .unset, .unset, .unset, .unset, .unset] [(.int q0)])) _
    refine XS.iconst X0.here hx rfl (hb hby at_1) ?_
    show Steps p.tables e below (s₁.setTop (mkF m 2 #[.val (.int q0), .val (.int q1), .val (.int q2), .val (.long q3), .second, .unset, .unset, .unset, .unset, .unset, .unset, .unset, .unset, .unset] [(.int (1 : Int32)), (.int q0)])) _
    refine XS.iand X0.here hx rfl (hb hby at_2) rfl ?_
    exact k
  by_cases c2 : (q0 &&& (1 : Int32)) = (0 : Int32)
  · have pre3 : ∀ t, Steps p.tables e below (s₁.setTop (mkF m 16 #[.val (.int q0), .val (.int q1), .val (.int q2), .val (.long q3), .second, .val (.int (0 : Int32)), .unset, .unset, .unset, .unset, .unset, .unset, .unset, .unset] [(.int (q0 &&& (2 : Int32)))])) t → Steps p.tables e below (s₁.setTop (entryFrame m #[(.int q0), (.int q1), (.int q2), (.long q3)] maxLocals)) t := by
      intro t k
      refine pre1 t ?_
      show Steps p.tables e below (s₁.setTop (mkF m 3 #[.val (.int q0), .val (.int q1), .val (.int q2), .val (.long q3), .second, .unset, .unset, .unset, .unset, .unset, .unset, .unset, .unset, .unset] [(.int (q0 &&& (1 : Int32)))])) _
      refine XS.ifYes X0.here hx rfl (pc0 := 3) (pc' := 10) rfl (hb hby at_3) rfl ((if0 _ _).trans (teq c2).1) (by decide) (by decide) ?_
      show Steps p.tables e below (s₁.setTop (mkF m 10 #[.val (.int q0), .val (.int q1), .val (.int q2), .val (.long q3), .second, .unset, .unset, .unset, .unset, .unset, .unset, .unset, .unset, .unset] [])) _
      refine XS.iconst X0.here hx rfl (hb hby at_10) ?_
      show Steps p.tables e below (s₁.setTop (mkF m 11 #[.val (.int q0), .val (.int q1), .val (.int q2), .val (.long q3), .second, .unset, .unset, .unset, .unset, .unset, .unset, .unset, .unset, .unset] [(.int (0 : Int32))])) _
      refine XS.istore X0.here hx rfl (hb hby at_11) rfl (l' := #[.val (.int q0), .val (.int q1), .val (.int q2), .val (.long q3), .second, .val (.int (0 : Int32)), .unset, .unset, .unset, .unset, .unset, .unset, .unset, .unset]) rfl ?_
      show Steps p.tables e below (s₁.setTop (mkF m 13 #[.val (.int q0), .val (.int q1), .val (.int q2), .val (.long q3), .second, .val (.int (0 : Int32)), .unset, .unset, .unset, .unset, .unset, .unset, .unset, .unset] [])) _
      refine XS.iloadN X0.here hx rfl (hb hby at_13) rfl ?_
      show Steps p.tables e below (s₁.setTop (mkF m 14 #[.val (.int q0), .val (.int q1), .val (.int q2), .val (.long q3), .second, .val (.int (0 : Int32)), .unset, .unset, .unset, .unset, .unset, .unset, .unset, .unset] [(.int q0)])) _
      refine XS.iconst X0.here hx rfl (hb hby at_14) ?_
      show Steps p.tables e below (s₁.setTop (mkF m 15 #[.val (.int q0), .val (.int q1), .val (.int q2), .val (.long q3), .second, .val (.int (0 : Int32)), .unset, .unset, .unset, .unset, .unset, .unset, .unset, .unset] [(.int (2 : Int32)), (.int q0)])) _
      refine XS.iand X0.here hx rfl (hb hby at_15) rfl ?_
      exact k
    by_cases c4 : (q0 &&& (2 : Int32)) = (0 : Int32)
    · obtain ⟨T5, h5, cA5, X5, e5, E5, A5, st5⟩ := newP X0 hx hZ (aty := .byte) (hw _ (List.mem_of_getElem? (i := 0) rfl)) e0 (g := (mkF m 52 #[.val (.int q0), .val (.int q1), .val (.int q2), .val (.long q3), .second, .val (.int (0 : Int32)), .val (.int (0 : Int32)), .val (.int (32 : Int32)), .unset, .unset, .unset, .unset, .unset, .unset] [(.int (4 : Int32))])) rfl (hb hby at_52) rfl (by decide) (cap := 4) (by decide) (by decide) (by decide) (by decide)
      obtain ⟨a5, g5⟩ : ∃ z, z = h0.size := ⟨_, rfl⟩
      rw [← g5] at A5 st5
      have ge_a5 : n0 ≤ a5 := g5 ▸ Z0
      have sz5 : n0 ≤ h5.size := Nat.le_trans Z0 E5.1
      have V5_n : own_AI Z h5 a5 .byte [(0 : Int32), (0 : Int32), (0 : Int32), (0 : Int32)] := own_AIbyte_new A5 (k := 4) (by decide)
      obtain ⟨v6, hv6⟩ : ∃ z : Int32, z = ((q1 &&& (2147483647 : Int32)) % (33 : Int32)) := ⟨_, rfl⟩
      have pre7 : ∀ t, Steps p.tables e below (T5.setTop (mkF m 65 #[.val (.int q0), .val (.int q1), .val (.int q2), .val (.long q3), .second, .val (.int (0 : Int32)), .val (.int (0 : Int32)), .val (.int (32 : Int32)), .val (.ref a5), .unset, .unset, .unset, .unset, .unset] [(.int v6)])) t → Steps p.tables e below (s₁.setTop (entryFrame m #[(.int q0), (.int q1), (.int q2), (.long q3)] maxLocals)) t := by
        rw [hv6]
        intro t k
        refine pre3 t ?_
        show Steps p.tables e below (s₁.setTop (mkF m 16 #[.val (.int q0), .val (.int q1), .val (.int q2), .val (.long q3), .second, .val (.int (0 : Int32)), .unset, .unset, .unset, .unset, .unset, .unset, .unset, .unset] [(.int (q0 &&& (2 : Int32)))])) _
        refine XS.ifYes X0.here hx rfl (pc0 := 16) (pc' := 23) rfl (hb hby at_16) rfl ((if0 _ _).trans (teq c4).1) (by decide) (by decide) ?_
        show Steps p.tables e below (s₁.setTop (mkF m 23 #[.val (.int q0), .val (.int q1), .val (.int q2), .val (.long q3), .second, .val (.int (0 : Int32)), .unset, .unset, .unset, .unset, .unset, .unset, .unset, .unset] [])) _
        refine XS.iconst X0.here hx rfl (hb hby at_23) ?_
        show Steps p.tables e below (s₁.setTop (mkF m 24 #[.val (.int q0), .val (.int q1), .val (.int q2), .val (.long q3), .second, .val (.int (0 : Int32)), .unset, .unset, .unset, .unset, .unset, .unset, .unset, .unset] [(.int (0 : Int32))])) _
        refine XS.istore X0.here hx rfl (hb hby at_24) rfl (l' := #[.val (.int q0), .val (.int q1), .val (.int q2), .val (.long q3), .second, .val (.int (0 : Int32)), .val (.int (0 : Int32)), .unset, .unset, .unset, .unset, .unset, .unset, .unset]) rfl ?_
        show Steps p.tables e below (s₁.setTop (mkF m 26 #[.val (.int q0), .val (.int q1), .val (.int q2), .val (.long q3), .second, .val (.int (0 : Int32)), .val (.int (0 : Int32)), .unset, .unset, .unset, .unset, .unset, .unset, .unset] [])) _
        refine XS.iload X0.here hx rfl (hb hby at_26) rfl ?_
        show Steps p.tables e below (s₁.setTop (mkF m 28 #[.val (.int q0), .val (.int q1), .val (.int q2), .val (.long q3), .second, .val (.int (0 : Int32)), .val (.int (0 : Int32)), .unset, .unset, .unset, .unset, .unset, .unset, .unset] [(.int (0 : Int32))])) _
        refine XS.ifYes X0.here hx rfl (pc0 := 28) (pc' := 37) rfl (hb hby at_28) rfl (by decide) (by decide) (by decide) ?_
        show Steps p.tables e below (s₁.setTop (mkF m 37 #[.val (.int q0), .val (.int q1), .val (.int q2), .val (.long q3), .second, .val (.int (0 : Int32)), .val (.int (0 : Int32)), .unset, .unset, .unset, .unset, .unset, .unset, .unset] [])) _
        refine XS.bipush X0.here hx rfl (hb hby at_37) ?_
        show Steps p.tables e below (s₁.setTop (mkF m 39 #[.val (.int q0), .val (.int q1), .val (.int q2), .val (.long q3), .second, .val (.int (0 : Int32)), .val (.int (0 : Int32)), .unset, .unset, .unset, .unset, .unset, .unset, .unset] [(.int (32 : Int32))])) _
        refine XS.istore X0.here hx rfl (hb hby at_39) rfl (l' := #[.val (.int q0), .val (.int q1), .val (.int q2), .val (.long q3), .second, .val (.int (0 : Int32)), .val (.int (0 : Int32)), .val (.int (32 : Int32)), .unset, .unset, .unset, .unset, .unset, .unset]) rfl ?_
        show Steps p.tables e below (s₁.setTop (mkF m 41 #[.val (.int q0), .val (.int q1), .val (.int q2), .val (.long q3), .second, .val (.int (0 : Int32)), .val (.int (0 : Int32)), .val (.int (32 : Int32)), .unset, .unset, .unset, .unset, .unset, .unset] [])) _
        refine XS.iload X0.here hx rfl (hb hby at_41) rfl ?_
        show Steps p.tables e below (s₁.setTop (mkF m 43 #[.val (.int q0), .val (.int q1), .val (.int q2), .val (.long q3), .second, .val (.int (0 : Int32)), .val (.int (0 : Int32)), .val (.int (32 : Int32)), .unset, .unset, .unset, .unset, .unset, .unset] [(.int (0 : Int32))])) _
        refine XS.ifYes X0.here hx rfl (pc0 := 43) (pc' := 51) rfl (hb hby at_43) rfl (by decide) (by decide) (by decide) ?_
        show Steps p.tables e below (s₁.setTop (mkF m 51 #[.val (.int q0), .val (.int q1), .val (.int q2), .val (.long q3), .second, .val (.int (0 : Int32)), .val (.int (0 : Int32)), .val (.int (32 : Int32)), .unset, .unset, .unset, .unset, .unset, .unset] [])) _
        refine XS.iconst X0.here hx rfl (hb hby at_51) ?_
        show Steps p.tables e below (s₁.setTop (mkF m 52 #[.val (.int q0), .val (.int q1), .val (.int q2), .val (.long q3), .second, .val (.int (0 : Int32)), .val (.int (0 : Int32)), .val (.int (32 : Int32)), .unset, .unset, .unset, .unset, .unset, .unset] [(.int (4 : Int32))])) _
        refine st5 _ ?_
        show Steps p.tables e below (T5.setTop (mkF m 54 #[.val (.int q0), .val (.int q1), .val (.int q2), .val (.long q3), .second, .val (.int (0 : Int32)), .val (.int (0 : Int32)), .val (.int (32 : Int32)), .unset, .unset, .unset, .unset, .unset, .unset] [(.ref a5)])) _
        refine XS.astore X5.here hx rfl (hb hby at_54) rfl rfl (l' := #[.val (.int q0), .val (.int q1), .val (.int q2), .val (.long q3), .second, .val (.int (0 : Int32)), .val (.int (0 : Int32)), .val (.int (32 : Int32)), .val (.ref a5), .unset, .unset, .unset, .unset, .unset]) rfl ?_
        show Steps p.tables e below (T5.setTop (mkF m 56 #[.val (.int q0), .val (.int q1), .val (.int q2), .val (.long q3), .second, .val (.int (0 : Int32)), .val (.int (0 : Int32)), .val (.int (32 : Int32)), .val (.ref a5), .unset, .unset, .unset, .unset, .unset] [])) _
        refine XS.iloadN X5.here hx rfl (hb hby at_56) rfl ?_
        show Steps p.tables e below (T5.setTop (mkF m 57 #[.val (.int q0), .val (.int q1), .val (.int q2), .val (.long q3), .second, .val (.int (0 : Int32)), .val (.int (0 : Int32)), .val (.int (32 : Int32)), .val (.ref a5), .unset, .unset, .unset, .unset, .unset] [(.int q1)])) _
        refine X5.ldcInt hx hown (mvT hZ (hw _ (List.mem_of_getElem? (i := 1) rfl))) (g := (mkF m 57 #[.val (.int q0), .val (.int q1), .val (.int q2), .val (.long q3), .second, .val (.int (0 : Int32)), .val (.int (0 : Int32)), .val (.int (32 : Int32)), .val (.ref a5), .unset, .unset, .unset, .unset, .unset] [(.int q1)])) rfl (hb hby at_57) _ ?_
        show Steps p.tables e below (T5.setTop (mkF m 59 #[.val (.int q0), .val (.int q1), .val (.int q2), .val (.long q3), .second, .val (.int (0 : Int32)), .val (.int (0 : Int32)), .val (.int (32 : Int32)), .val (.ref a5), .unset, .unset, .unset, .unset, .unset] [(.int (2147483647 : Int32)), (.int q1)])) _
        refine XS.iand X5.here hx rfl (hb hby at_59) rfl ?_
        show Steps p.tables e below (T5.setTop (mkF m 60 #[.val (.int q0), .val (.int q1), .val (.int q2), .val (.long q3), .second, .val (.int (0 : Int32)), .val (.int (0 : Int32)), .val (.int (32 : Int32)), .val (.ref a5), .unset, .unset, .unset, .unset, .unset] [(.int (q1 &&& (2147483647 : Int32)))])) _
        refine XS.iload X5.here hx rfl (hb hby at_60) rfl ?_
        show Steps p.tables e below (T5.setTop (mkF m 62 #[.val (.int q0), .val (.int q1), .val (.int q2), .val (.long q3), .second, .val (.int (0 : Int32)), .val (.int (0 : Int32)), .val (.int (32 : Int32)), .val (.ref a5), .unset, .unset, .unset, .unset, .unset] [(.int (32 : Int32)), (.int (q1 &&& (2147483647 : Int32)))])) _
        refine XS.iconst X5.here hx rfl (hb hby at_62) ?_
        show Steps p.tables e below (T5.setTop (mkF m 63 #[.val (.int q0), .val (.int q1), .val (.int q2), .val (.long q3), .second, .val (.int (0 : Int32)), .val (.int (0 : Int32)), .val (.int (32 : Int32)), .val (.ref a5), .unset, .unset, .unset, .unset, .unset] [(.int (1 : Int32)), (.int (32 : Int32)), (.int (q1 &&& (2147483647 : Int32)))])) _
        refine XS.iadd X5.here hx rfl (hb hby at_63) rfl ?_
        show Steps p.tables e below (T5.setTop (mkF m 64 #[.val (.int q0), .val (.int q1), .val (.int q2), .val (.long q3), .second, .val (.int (0 : Int32)), .val (.int (0 : Int32)), .val (.int (32 : Int32)), .val (.ref a5), .unset, .unset, .unset, .unset, .unset] [(.int (33 : Int32)), (.int (q1 &&& (2147483647 : Int32)))])) _
        refine iremM X5 hx rfl (hb hby at_64) rfl (by decide) ?_
        exact k
      have nz_80_8 : ¬ ((((32 : Int32) - v6) + (1 : Int32)) = (0 : Int32)) := (own_nzT (by assumption) (by decide))
      obtain ⟨v9, hv9⟩ : ∃ z : Int32, z = (v6 + ((q2 &&& (2147483647 : Int32)) % (((32 : Int32) - v6) + (1 : Int32)))) := ⟨_, rfl⟩
      have pre10 : ∀ t, Steps p.tables e below (T5.setTop (mkF m 82 #[.val (.int q0), .val (.int q1), .val (.int q2), .val (.long q3), .second, .val (.int (0 : Int32)), .val (.int (0 : Int32)), .val (.int (32 : Int32)), .val (.ref a5), .val (.int v6), .unset, .unset, .unset, .unset] [(.int v9)])) t → Steps p.tables e below (s₁.setTop (entryFrame m #[(.int q0), (.int q1), (.int q2), (.long q3)] maxLocals)) t := by
        rw [hv9]
        intro t k
        refine pre7 t ?_
        show Steps p.tables e below (T5.setTop (mkF m 65 #[.val (.int q0), .val (.int q1), .val (.int q2), .val (.long q3), .second, .val (.int (0 : Int32)), .val (.int (0 : Int32)), .val (.int (32 : Int32)), .val (.ref a5), .unset, .unset, .unset, .unset, .unset] [(.int v6)])) _
        refine XS.istore X5.here hx rfl (hb hby at_65) rfl (l' := #[.val (.int q0), .val (.int q1), .val (.int q2), .val (.long q3), .second, .val (.int (0 : Int32)), .val (.int (0 : Int32)), .val (.int (32 : Int32)), .val (.ref a5), .val (.int v6), .unset, .unset, .unset, .unset]) rfl ?_
        show Steps p.tables e below (T5.setTop (mkF m 67 #[.val (.int q0), .val (.int q1), .val (.int q2), .val (.long q3), .second, .val (.int (0 : Int32)), .val (.int (0 : Int32)), .val (.int (32 : Int32)), .val (.ref a5), .val (.int v6), .unset, .unset, .unset, .unset] [])) _
        refine XS.iload X5.here hx rfl (hb hby at_67) rfl ?_
        show Steps p.tables e below (T5.setTop (mkF m 69 #[.val (.int q0), .val (.int q1), .val (.int q2), .val (.long q3), .second, .val (.int (0 : Int32)), .val (.int (0 : Int32)), .val (.int (32 : Int32)), .val (.ref a5), .val (.int v6), .unset, .unset, .unset, .unset] [(.int v6)])) _
        refine XS.iloadN X5.here hx rfl (hb hby at_69) rfl ?_
        show Steps p.tables e below (T5.setTop (mkF m 70 #[.val (.int q0), .val (.int q1), .val (.int q2), .val (.long q3), .second, .val (.int (0 : Int32)), .val (.int (0 : Int32)), .val (.int (32 : Int32)), .val (.ref a5), .val (.int v6), .unset, .unset, .unset, .unset] [(.int q2), (.int v6)])) _
        refine X5.ldcInt hx hown (mvT hZ (hw _ (List.mem_of_getElem? (i := 1) rfl))) (g := (mkF m 70 #[.val (.int q0), .val (.int q1), .val (.int q2), .val (.long q3), .second, .val (.int (0 : Int32)), .val (.int (0 : Int32)), .val (.int (32 : Int32)), .val (.ref a5), .val (.int v6), .unset, .unset, .unset, .unset] [(.int q2), (.int v6)])) rfl (hb hby at_70) _ ?_
        show Steps p.tables e below (T5.setTop (mkF m 72 #[.val (.int q0), .val (.int q1), .val (.int q2), .val (.long q3), .second, .val (.int (0 : Int32)), .val (.int (0 : Int32)), .val (.int (32 : Int32)), .val (.ref a5), .val (.int v6), .unset, .unset, .unset, .unset] [(.int (2147483647 : Int32)), (.int q2), (.int v6)])) _
        refine XS.iand X5.here hx rfl (hb hby at_72) rfl ?_
        show Steps p.tables e below (T5.setTop (mkF m 73 #[.val (.int q0), .val (.int q1), .val (.int q2), .val (.long q3), .second, .val (.int (0 : Int32)), .val (.int (0 : Int32)), .val (.int (32 : Int32)), .val (.ref a5), .val (.int v6), .unset, .unset, .unset, .unset] [(.int (q2 &&& (2147483647 : Int32))), (.int v6)])) _
        refine XS.iload X5.here hx rfl (hb hby at_73) rfl ?_
        show Steps p.tables e below (T5.setTop (mkF m 75 #[.val (.int q0), .val (.int q1), .val (.int q2), .val (.long q3), .second, .val (.int (0 : Int32)), .val (.int (0 : Int32)), .val (.int (32 : Int32)), .val (.ref a5), .val (.int v6), .unset, .unset, .unset, .unset] [(.int (32 : Int32)), (.int (q2 &&& (2147483647 : Int32))), (.int v6)])) _
        refine XS.iload X5.here hx rfl (hb hby at_75) rfl ?_
        show Steps p.tables e below (T5.setTop (mkF m 77 #[.val (.int q0), .val (.int q1), .val (.int q2), .val (.long q3), .second, .val (.int (0 : Int32)), .val (.int (0 : Int32)), .val (.int (32 : Int32)), .val (.ref a5), .val (.int v6), .unset, .unset, .unset, .unset] [(.int v6), (.int (32 : Int32)), (.int (q2 &&& (2147483647 : Int32))), (.int v6)])) _
        refine XS.isub X5.here hx rfl (hb hby at_77) rfl ?_
        show Steps p.tables e below (T5.setTop (mkF m 78 #[.val (.int q0), .val (.int q1), .val (.int q2), .val (.long q3), .second, .val (.int (0 : Int32)), .val (.int (0 : Int32)), .val (.int (32 : Int32)), .val (.ref a5), .val (.int v6), .unset, .unset, .unset, .unset] [(.int ((32 : Int32) - v6)), (.int (q2 &&& (2147483647 : Int32))), (.int v6)])) _
        refine XS.iconst X5.here hx rfl (hb hby at_78) ?_
        show Steps p.tables e below (T5.setTop (mkF m 79 #[.val (.int q0), .val (.int q1), .val (.int q2), .val (.long q3), .second, .val (.int (0 : Int32)), .val (.int (0 : Int32)), .val (.int (32 : Int32)), .val (.ref a5), .val (.int v6), .unset, .unset, .unset, .unset] [(.int (1 : Int32)), (.int ((32 : Int32) - v6)), (.int (q2 &&& (2147483647 : Int32))), (.int v6)])) _
        refine XS.iadd X5.here hx rfl (hb hby at_79) rfl ?_
        show Steps p.tables e below (T5.setTop (mkF m 80 #[.val (.int q0), .val (.int q1), .val (.int q2), .val (.long q3), .second, .val (.int (0 : Int32)), .val (.int (0 : Int32)), .val (.int (32 : Int32)), .val (.ref a5), .val (.int v6), .unset, .unset, .unset, .unset] [(.int (((32 : Int32) - v6) + (1 : Int32))), (.int (q2 &&& (2147483647 : Int32))), (.int v6)])) _
        refine iremM X5 hx rfl (hb hby at_80) rfl nz_80_8 ?_
        show Steps p.tables e below (T5.setTop (mkF m 81 #[.val (.int q0), .val (.int q1), .val (.int q2), .val (.long q3), .second, .val (.int (0 : Int32)), .val (.int (0 : Int32)), .val (.int (32 : Int32)), .val (.ref a5), .val (.int v6), .unset, .unset, .unset, .unset] [(.int ((q2 &&& (2147483647 : Int32)) % (((32 : Int32) - v6) + (1 : Int32)))), (.int v6)])) _
        refine XS.iadd X5.here hx rfl (hb hby at_81) rfl ?_
        exact k
      obtain ⟨T11, h11, X11, e11, E11, A11, D11, -, st11⟩ := newO X5 hx hZ hown (hw _ (List.mem_of_getElem? (i := 2) rfl)) (hw _ (List.mem_of_getElem? (i := 3) rfl)) (hw _ (List.mem_of_getElem? (i := 4) rfl)) e5 (g := (mkF m 84 #[.val (.int q0), .val (.int q1), .val (.int q2), .val (.long q3), .second, .val (.int (0 : Int32)), .val (.int (0 : Int32)), .val (.int (32 : Int32)), .val (.ref a5), .val (.int v6), .val (.int v9), .unset, .unset, .unset] [])) rfl (hb hby at_84) (by decide) (by decide)
      obtain ⟨a11, g11⟩ : ∃ z, z = h5.size := ⟨_, rfl⟩
      rw [← g11] at A11 D11 st11
      have ne_a5_a11 : a5 ≠ a11 := g11 ▸ Nat.ne_of_lt V5_n.lt
      have ge_a11 : n0 ≤ a11 := g11 ▸ sz5
      have V11_a5 : own_AI Z h11 a5 .byte [(0 : Int32), (0 : Int32), (0 : Int32), (0 : Int32)] := V5_n.ext E11
      have sz11 : n0 ≤ h11.size := Nat.le_trans sz5 E11.1
      have F11_n0 : Fld Z h11 a11 "com/example/stillframe/stillframe/ccr/IpPrefix" "address" "[B" .null := D11 (Or.inr (hw _ (List.mem_of_getElem? (i := 12) rfl))) (ty := (.array .byte)) (by decide)
      have F11_n1 : Fld Z h11 a11 "com/example/stillframe/stillframe/ccr/IpPrefix" "length" "I" (.int (0 : Int32)) := D11 (Or.inr (hw _ (List.mem_of_getElem? (i := 14) rfl))) (ty := .int) (by decide)
      obtain ⟨_, _, ⟨T12, L12, k12, n12⟩, -, X12, ⟨Lc12, hQ12, l12, y12, z12⟩, st12⟩ := X11.specialBack hx (y := (⟨"com/example/stillframe/stillframe/ccr/IpPrefix", "<init>", "([BI)V"⟩ : MethodName)) rfl hown (mvT hZ (hw _ (List.mem_of_getElem? (i := 5) rfl))) (mvT hZ (hw _ (List.mem_of_getElem? (i := 6) rfl))) (mvT hZ (hw _ (List.mem_of_getElem? (i := 7) rfl))) (by decide) (backOf (W := 1) (rm1 l Z a0 hw [] a11 a5 v6  h11 n0 sz11 A11 F11_n0 F11_n1 ge_a11 ) hZ (hw _ (List.mem_of_getElem? (i := 7) rfl)) (hw _ (List.mem_of_getElem? (i := 4) rfl)) (by decide) (by decide)) (g := (mkF m 92 #[.val (.int q0), .val (.int q1), .val (.int q2), .val (.long q3), .second, .val (.int (0 : Int32)), .val (.int (0 : Int32)), .val (.int (32 : Int32)), .val (.ref a5), .val (.int v6), .val (.int v9), .unset, .unset, .unset] [(.int v6), (.ref a5), (.ref a11), (.ref a11)])) rfl (by rw [hml]; rfl) (Steps.refl _) (a := a11) (argsL := [(.ref a5), (.int v6)]) (rest := [(.ref a11)]) (lenOf pd_8 rfl) rfl (by show 2 * 0 + _ ≤ _; exact Nat.le_of_eq rfl) (hb hby at_92) (fun _ _ => ⟨rfl, e11, (by decide : 2 + 0 ≤ _), (by decide : 6 + 0 ≤ _)⟩)
      dsimp only [Pt.U, Pt.locs, Pt.cells, Pt.slots] at X12 l12 y12 z12 st12 hQ12
      subst l12 y12 z12
      obtain ⟨rfl, N12q, K12, A12_o0, F12_o0, F12_o1⟩ := hQ12
      obtain ⟨h12, e12⟩ : ∃ z, T12.heap = z := ⟨_, rfl⟩
      rw [e12] at K12 A12_o0 F12_o0 F12_o1
      have V12_a5 : own_AI Z h12 a5 .byte [(0 : Int32), (0 : Int32), (0 : Int32), (0 : Int32)] := V11_a5.keep K12 (ninS ne_a5_a11 nin0)
      have A12_a11 : Exa Z h12 a11 "com/example/stillframe/stillframe/ccr/IpPrefix" := A11.keep K12
      have sz12 : n0 ≤ h12.size := Nat.le_trans sz11 K12.1
      have N12 := Fr.app N0 N12q
      obtain ⟨T13, h13, X13, e13, E13, A13, D13, -, st13⟩ := newO X12 hx hZ hown (hw _ (List.mem_of_getElem? (i := 15) rfl)) (hw _ (List.mem_of_getElem? (i := 16) rfl)) (hw _ (List.mem_of_getElem? (i := 17) rfl)) e12 (g := (mkF m 97 #[.val (.int q0), .val (.int q1), .val (.int q2), .val (.long q3), .second, .val (.int (0 : Int32)), .val (.int (0 : Int32)), .val (.int (32 : Int32)), .val (.ref a5), .val (.int v6), .val (.int v9), .val (.ref a11), .unset, .unset] [])) rfl (hb hby at_97) (by decide) (by decide)
      obtain ⟨a13, g13⟩ : ∃ z, z = h12.size := ⟨_, rfl⟩
      rw [← g13] at A13 D13 st13
      have ne_a5_a13 : a5 ≠ a13 := g13 ▸ Nat.ne_of_lt V12_a5.lt
      have ne_a11_a13 : a11 ≠ a13 := g13 ▸ Nat.ne_of_lt A12_o0.lt
      have ge_a13 : n0 ≤ a13 := g13 ▸ sz12
      have V13_a5 : own_AI Z h13 a5 .byte [(0 : Int32), (0 : Int32), (0 : Int32), (0 : Int32)] := V12_a5.ext E13
      have A13_a11 : Exa Z h13 a11 "com/example/stillframe/stillframe/ccr/IpPrefix" := A12_o0.ext E13
      have F13_a11_0 : Fld Z h13 a11 "com/example/stillframe/stillframe/ccr/IpPrefix" "address" "[B" (.ref a5) := F12_o0.ext E13
      have F13_a11_1 : Fld Z h13 a11 "com/example/stillframe/stillframe/ccr/IpPrefix" "length" "I" (.int v6) := F12_o1.ext E13
      have sz13 : n0 ≤ h13.size := Nat.le_trans sz12 E13.1
      have F13_n0 : Fld Z h13 a13 "com/example/stillframe/stillframe/ccr/RoaPayload" "asn" "J" (.long (0 : Int64)) := D13 (Or.inr (hw _ (List.mem_of_getElem? (i := 24) rfl))) (ty := .long) (by decide)
      have F13_n1 : Fld Z h13 a13 "com/example/stillframe/stillframe/ccr/RoaPayload" "prefix" "Lcom/example/stillframe/stillframe/ccr/IpPrefix;" .null := D13 (Or.inr (hw _ (List.mem_of_getElem? (i := 26) rfl))) (ty := (.object "com/example/stillframe/stillframe/ccr/IpPrefix")) (by decide)
      have F13_n2 : Fld Z h13 a13 "com/example/stillframe/stillframe/ccr/RoaPayload" "maxLength" "I" (.int (0 : Int32)) := D13 (Or.inr (hw _ (List.mem_of_getElem? (i := 28) rfl))) (ty := .int) (by decide)
      obtain ⟨_, _, ⟨T14, L14, k14, n14⟩, -, X14, ⟨Lc14, hQ14, l14, y14, z14⟩, st14⟩ := X13.specialBack hx (y := (⟨"com/example/stillframe/stillframe/ccr/RoaPayload", "<init>", "(JLcom/example/stillframe/stillframe/ccr/IpPrefix;I)V"⟩ : MethodName)) rfl hown (mvT hZ (hw _ (List.mem_of_getElem? (i := 19) rfl))) (mvT hZ (hw _ (List.mem_of_getElem? (i := 20) rfl))) (mvT hZ (hw _ (List.mem_of_getElem? (i := 21) rfl))) (by decide) (backOf (W := 1) (rm3 l Z a0 hw [] a13 (q3 &&& (4294967295 : Int64)) a11 (-1 : Int32)  h13 n0 sz13 A13 F13_n0 F13_n1 F13_n2 ge_a13 ) hZ (hw _ (List.mem_of_getElem? (i := 21) rfl)) (hw _ (List.mem_of_getElem? (i := 17) rfl)) (by decide) (by decide)) (g := (mkF m 119 #[.val (.int q0), .val (.int q1), .val (.int q2), .val (.long q3), .second, .val (.int (0 : Int32)), .val (.int (0 : Int32)), .val (.int (32 : Int32)), .val (.ref a5), .val (.int v6), .val (.int v9), .val (.ref a11), .unset, .unset] [(.int (-1 : Int32)), (.ref a11), (.long (q3 &&& (4294967295 : Int64))), (.ref a13), (.ref a13)])) rfl (by rw [hml]; rfl) (Steps.refl _) (a := a13) (argsL := [(.long (q3 &&& (4294967295 : Int64))), (.ref a11), (.int (-1 : Int32))]) (rest := [(.ref a13)]) (lenOf pd_9 rfl) rfl (by show 2 * 0 + _ ≤ _; exact Nat.le_of_eq rfl) (hb hby at_119) (fun _ _ => ⟨rfl, e13, (by decide : 3 + 0 ≤ _), (by decide : 9 + 0 ≤ _)⟩)
      dsimp only [Pt.U, Pt.locs, Pt.cells, Pt.slots] at X14 l14 y14 z14 st14 hQ14
      subst l14 y14 z14
      obtain ⟨rfl, N14q, K14, A14_o0, F14_o0, F14_o1, F14_o2⟩ := hQ14
      obtain ⟨h14, e14⟩ : ∃ z, T14.heap = z := ⟨_, rfl⟩
      rw [e14] at K14 A14_o0 F14_o0 F14_o1 F14_o2
      have V14_a5 : own_AI Z h14 a5 .byte [(0 : Int32), (0 : Int32), (0 : Int32), (0 : Int32)] := V13_a5.keep K14 (ninS ne_a5_a13 nin0)
      have A14_a11 : Exa Z h14 a11 "com/example/stillframe/stillframe/ccr/IpPrefix" := A13_a11.keep K14
      have F14_a11_0 : Fld Z h14 a11 "com/example/stillframe/stillframe/ccr/IpPrefix" "address" "[B" (.ref a5) := F13_a11_0.keep K14 (ninS ne_a11_a13 nin0)
      have F14_a11_1 : Fld Z h14 a11 "com/example/stillframe/stillframe/ccr/IpPrefix" "length" "I" (.int v6) := F13_a11_1.keep K14 (ninS ne_a11_a13 nin0)
      have A14_a13 : Exa Z h14 a13 "com/example/stillframe/stillframe/ccr/RoaPayload" := A13.keep K14
      have sz14 : n0 ≤ h14.size := Nat.le_trans sz13 K14.1
      have N14 := Fr.app N12 N14q
      obtain ⟨cq15, kq15, q15a, q15b, q15c⟩ := isOf hZ e14 A14_o0
      obtain ⟨_, _, ⟨T15, L15, k15, n15⟩, -, X15, ⟨Lc15, hQ15, l15, y15, z15⟩, st15⟩ := X14.virtualBack hx (y := (⟨"com/example/stillframe/stillframe/ccr/RoaPayload", "longestLength", "()I"⟩ : MethodName)) (z := (⟨"com/example/stillframe/stillframe/ccr/RoaPayload", "longestLength", "()I"⟩ : MethodName)) hown (mvT hZ (hw _ (List.mem_of_getElem? (i := 29) rfl))) (mvT hZ (hw _ (List.mem_of_getElem? (i := 30) rfl))) (notFace_of_selects (args := #[]) (mvT hZ (hw _ (List.mem_of_getElem? (i := 32) rfl)))) (mvT hZ (hw _ (List.mem_of_getElem? (i := 32) rfl))) (mvT hZ (hw _ (List.mem_of_getElem? (i := 31) rfl))) (by decide) (backOf (W := 0) (rm4 l Z a0 hw [] a13 a11 ((-1 : Int32)) v6 h14 n0 sz14 A14_o0 A14_a11 F14_o1 F14_o2 F14_a11_1 ) hZ (hw _ (List.mem_of_getElem? (i := 33) rfl)) (hw _ (List.mem_of_getElem? (i := 17) rfl)) (by decide) (by decide)) q15a q15c (g := (mkF m 140 #[.val (.int q0), .val (.int q1), .val (.int q2), .val (.long q3), .second, .val (.int (0 : Int32)), .val (.int (0 : Int32)), .val (.int (32 : Int32)), .val (.ref a5), .val (.int v6), .val (.int v9), .val (.ref a11), .val (.ref a13), .val (.int v6)] [(.ref a13)])) rfl (by rw [hml]; rfl) (Steps.refl _) (argsL := []) (rest := []) (lenOf pd_6 rfl) rfl (by show 2 * 0 + _ ≤ _; exact Nat.le_of_eq rfl) (hb hby at_140) (fun _ _ => ⟨rfl, e14, (by decide : 3 + 0 ≤ _), (by decide : 9 + 0 ≤ _)⟩)
      dsimp only [Pt.U, Pt.locs, Pt.cells, Pt.slots] at X15 l15 y15 z15 st15 hQ15
      subst l15 y15 z15
      obtain ⟨rfl, N15q, e15⟩ := hQ15
      have N15 := Fr.app N14 N15q
      have pre16 : ∀ t, Steps p.tables e below (T15.setTop (mkF m 145 #[.val (.int q0), .val (.int q1), .val (.int q2), .val (.long q3), .second, .val (.int (0 : Int32)), .val (.int (0 : Int32)), .val (.int (32 : Int32)), .val (.ref a5), .val (.int v6), .val (.int v9), .val (.ref a11), .val (.ref a13), .val (.int v6)] [(.int v6), (.int (own_f4  ((-1 : Int32)) v6))])) t → Steps p.tables e below (s₁.setTop (entryFrame m #[(.int q0), (.int q1), (.int q2), (.long q3)] maxLocals)) t := by
        intro t k
        refine pre10 t ?_
        show Steps p.tables e below (T5.setTop (mkF m 82 #[.val (.int q0), .val (.int q1), .val (.int q2), .val (.long q3), .second, .val (.int (0 : Int32)), .val (.int (0 : Int32)), .val (.int (32 : Int32)), .val (.ref a5), .val (.int v6), .unset, .unset, .unset, .unset] [(.int v9)])) _
        refine XS.istore X5.here hx rfl (hb hby at_82) rfl (l' := #[.val (.int q0), .val (.int q1), .val (.int q2), .val (.long q3), .second, .val (.int (0 : Int32)), .val (.int (0 : Int32)), .val (.int (32 : Int32)), .val (.ref a5), .val (.int v6), .val (.int v9), .unset, .unset, .unset]) rfl ?_
        show Steps p.tables e below (T5.setTop (mkF m 84 #[.val (.int q0), .val (.int q1), .val (.int q2), .val (.long q3), .second, .val (.int (0 : Int32)), .val (.int (0 : Int32)), .val (.int (32 : Int32)), .val (.ref a5), .val (.int v6), .val (.int v9), .unset, .unset, .unset] [])) _
        refine st11 _ ?_
        show Steps p.tables e below (T11.setTop (mkF m 87 #[.val (.int q0), .val (.int q1), .val (.int q2), .val (.long q3), .second, .val (.int (0 : Int32)), .val (.int (0 : Int32)), .val (.int (32 : Int32)), .val (.ref a5), .val (.int v6), .val (.int v9), .unset, .unset, .unset] [(.ref a11)])) _
        refine XS.dup X11.here hx rfl (hb hby at_87) rfl rfl ?_
        show Steps p.tables e below (T11.setTop (mkF m 88 #[.val (.int q0), .val (.int q1), .val (.int q2), .val (.long q3), .second, .val (.int (0 : Int32)), .val (.int (0 : Int32)), .val (.int (32 : Int32)), .val (.ref a5), .val (.int v6), .val (.int v9), .unset, .unset, .unset] [(.ref a11), (.ref a11)])) _
        refine XS.aload X11.here hx rfl (hb hby at_88) rfl rfl ?_
        show Steps p.tables e below (T11.setTop (mkF m 90 #[.val (.int q0), .val (.int q1), .val (.int q2), .val (.long q3), .second, .val (.int (0 : Int32)), .val (.int (0 : Int32)), .val (.int (32 : Int32)), .val (.ref a5), .val (.int v6), .val (.int v9), .unset, .unset, .unset] [(.ref a5), (.ref a11), (.ref a11)])) _
        refine XS.iload X11.here hx rfl (hb hby at_90) rfl ?_
        show Steps p.tables e below (T11.setTop (mkF m 92 #[.val (.int q0), .val (.int q1), .val (.int q2), .val (.long q3), .second, .val (.int (0 : Int32)), .val (.int (0 : Int32)), .val (.int (32 : Int32)), .val (.ref a5), .val (.int v6), .val (.int v9), .unset, .unset, .unset] [(.int v6), (.ref a5), (.ref a11), (.ref a11)])) _
        refine st12.trans ?_
        show Steps p.tables e below (T12.setTop (mkF m 95 #[.val (.int q0), .val (.int q1), .val (.int q2), .val (.long q3), .second, .val (.int (0 : Int32)), .val (.int (0 : Int32)), .val (.int (32 : Int32)), .val (.ref a5), .val (.int v6), .val (.int v9), .unset, .unset, .unset] [(.ref a11)])) _
        refine XS.astore X12.here hx rfl (hb hby at_95) rfl rfl (l' := #[.val (.int q0), .val (.int q1), .val (.int q2), .val (.long q3), .second, .val (.int (0 : Int32)), .val (.int (0 : Int32)), .val (.int (32 : Int32)), .val (.ref a5), .val (.int v6), .val (.int v9), .val (.ref a11), .unset, .unset]) rfl ?_
        show Steps p.tables e below (T12.setTop (mkF m 97 #[.val (.int q0), .val (.int q1), .val (.int q2), .val (.long q3), .second, .val (.int (0 : Int32)), .val (.int (0 : Int32)), .val (.int (32 : Int32)), .val (.ref a5), .val (.int v6), .val (.int v9), .val (.ref a11), .unset, .unset] [])) _
        refine st13 _ ?_
        show Steps p.tables e below (T13.setTop (mkF m 100 #[.val (.int q0), .val (.int q1), .val (.int q2), .val (.long q3), .second, .val (.int (0 : Int32)), .val (.int (0 : Int32)), .val (.int (32 : Int32)), .val (.ref a5), .val (.int v6), .val (.int v9), .val (.ref a11), .unset, .unset] [(.ref a13)])) _
        refine XS.dup X13.here hx rfl (hb hby at_100) rfl rfl ?_
        show Steps p.tables e below (T13.setTop (mkF m 101 #[.val (.int q0), .val (.int q1), .val (.int q2), .val (.long q3), .second, .val (.int (0 : Int32)), .val (.int (0 : Int32)), .val (.int (32 : Int32)), .val (.ref a5), .val (.int v6), .val (.int v9), .val (.ref a11), .unset, .unset] [(.ref a13), (.ref a13)])) _
        refine XS.lloadN X13.here hx rfl (hb hby at_101) rfl ?_
        show Steps p.tables e below (T13.setTop (mkF m 102 #[.val (.int q0), .val (.int q1), .val (.int q2), .val (.long q3), .second, .val (.int (0 : Int32)), .val (.int (0 : Int32)), .val (.int (32 : Int32)), .val (.ref a5), .val (.int v6), .val (.int v9), .val (.ref a11), .unset, .unset] [(.long q3), (.ref a13), (.ref a13)])) _
        refine X13.ldc2Long hx hown (mvT hZ (hw _ (List.mem_of_getElem? (i := 18) rfl))) (g := (mkF m 102 #[.val (.int q0), .val (.int q1), .val (.int q2), .val (.long q3), .second, .val (.int (0 : Int32)), .val (.int (0 : Int32)), .val (.int (32 : Int32)), .val (.ref a5), .val (.int v6), .val (.int v9), .val (.ref a11), .unset, .unset] [(.long q3), (.ref a13), (.ref a13)])) rfl (hb hby at_102) _ ?_
        show Steps p.tables e below (T13.setTop (mkF m 105 #[.val (.int q0), .val (.int q1), .val (.int q2), .val (.long q3), .second, .val (.int (0 : Int32)), .val (.int (0 : Int32)), .val (.int (32 : Int32)), .val (.ref a5), .val (.int v6), .val (.int v9), .val (.ref a11), .unset, .unset] [(.long (4294967295 : Int64)), (.long q3), (.ref a13), (.ref a13)])) _
        refine XS.land X13.here hx rfl (hb hby at_105) rfl ?_
        show Steps p.tables e below (T13.setTop (mkF m 106 #[.val (.int q0), .val (.int q1), .val (.int q2), .val (.long q3), .second, .val (.int (0 : Int32)), .val (.int (0 : Int32)), .val (.int (32 : Int32)), .val (.ref a5), .val (.int v6), .val (.int v9), .val (.ref a11), .unset, .unset] [(.long (q3 &&& (4294967295 : Int64))), (.ref a13), (.ref a13)])) _
        refine XS.aload X13.here hx rfl (hb hby at_106) rfl rfl ?_
        show Steps p.tables e below (T13.setTop (mkF m 108 #[.val (.int q0), .val (.int q1), .val (.int q2), .val (.long q3), .second, .val (.int (0 : Int32)), .val (.int (0 : Int32)), .val (.int (32 : Int32)), .val (.ref a5), .val (.int v6), .val (.int v9), .val (.ref a11), .unset, .unset] [(.ref a11), (.long (q3 &&& (4294967295 : Int64))), (.ref a13), (.ref a13)])) _
        refine XS.iload X13.here hx rfl (hb hby at_108) rfl ?_
        show Steps p.tables e below (T13.setTop (mkF m 110 #[.val (.int q0), .val (.int q1), .val (.int q2), .val (.long q3), .second, .val (.int (0 : Int32)), .val (.int (0 : Int32)), .val (.int (32 : Int32)), .val (.ref a5), .val (.int v6), .val (.int v9), .val (.ref a11), .unset, .unset] [(.int (0 : Int32)), (.ref a11), (.long (q3 &&& (4294967295 : Int64))), (.ref a13), (.ref a13)])) _
        refine XS.ifYes X13.here hx rfl (pc0 := 110) (pc' := 118) rfl (hb hby at_110) rfl (by decide) (by decide) (by decide) ?_
        show Steps p.tables e below (T13.setTop (mkF m 118 #[.val (.int q0), .val (.int q1), .val (.int q2), .val (.long q3), .second, .val (.int (0 : Int32)), .val (.int (0 : Int32)), .val (.int (32 : Int32)), .val (.ref a5), .val (.int v6), .val (.int v9), .val (.ref a11), .unset, .unset] [(.ref a11), (.long (q3 &&& (4294967295 : Int64))), (.ref a13), (.ref a13)])) _
        refine XS.iconst X13.here hx rfl (hb hby at_118) ?_
        show Steps p.tables e below (T13.setTop (mkF m 119 #[.val (.int q0), .val (.int q1), .val (.int q2), .val (.long q3), .second, .val (.int (0 : Int32)), .val (.int (0 : Int32)), .val (.int (32 : Int32)), .val (.ref a5), .val (.int v6), .val (.int v9), .val (.ref a11), .unset, .unset] [(.int (-1 : Int32)), (.ref a11), (.long (q3 &&& (4294967295 : Int64))), (.ref a13), (.ref a13)])) _
        refine st14.trans ?_
        show Steps p.tables e below (T14.setTop (mkF m 122 #[.val (.int q0), .val (.int q1), .val (.int q2), .val (.long q3), .second, .val (.int (0 : Int32)), .val (.int (0 : Int32)), .val (.int (32 : Int32)), .val (.ref a5), .val (.int v6), .val (.int v9), .val (.ref a11), .unset, .unset] [(.ref a13)])) _
        refine XS.astore X14.here hx rfl (hb hby at_122) rfl rfl (l' := #[.val (.int q0), .val (.int q1), .val (.int q2), .val (.long q3), .second, .val (.int (0 : Int32)), .val (.int (0 : Int32)), .val (.int (32 : Int32)), .val (.ref a5), .val (.int v6), .val (.int v9), .val (.ref a11), .val (.ref a13), .unset]) rfl ?_
        show Steps p.tables e below (T14.setTop (mkF m 124 #[.val (.int q0), .val (.int q1), .val (.int q2), .val (.long q3), .second, .val (.int (0 : Int32)), .val (.int (0 : Int32)), .val (.int (32 : Int32)), .val (.ref a5), .val (.int v6), .val (.int v9), .val (.ref a11), .val (.ref a13), .unset] [])) _
        refine XS.iload X14.here hx rfl (hb hby at_124) rfl ?_
        show Steps p.tables e below (T14.setTop (mkF m 126 #[.val (.int q0), .val (.int q1), .val (.int q2), .val (.long q3), .second, .val (.int (0 : Int32)), .val (.int (0 : Int32)), .val (.int (32 : Int32)), .val (.ref a5), .val (.int v6), .val (.int v9), .val (.ref a11), .val (.ref a13), .unset] [(.int (0 : Int32))])) _
        refine XS.ifYes X14.here hx rfl (pc0 := 126) (pc' := 134) rfl (hb hby at_126) rfl (by decide) (by decide) (by decide) ?_
        show Steps p.tables e below (T14.setTop (mkF m 134 #[.val (.int q0), .val (.int q1), .val (.int q2), .val (.long q3), .second, .val (.int (0 : Int32)), .val (.int (0 : Int32)), .val (.int (32 : Int32)), .val (.ref a5), .val (.int v6), .val (.int v9), .val (.ref a11), .val (.ref a13), .unset] [])) _
        refine XS.iload X14.here hx rfl (hb hby at_134) rfl ?_
        show Steps p.tables e below (T14.setTop (mkF m 136 #[.val (.int q0), .val (.int q1), .val (.int q2), .val (.long q3), .second, .val (.int (0 : Int32)), .val (.int (0 : Int32)), .val (.int (32 : Int32)), .val (.ref a5), .val (.int v6), .val (.int v9), .val (.ref a11), .val (.ref a13), .unset] [(.int v6)])) _
        refine XS.istore X14.here hx rfl (hb hby at_136) rfl (l' := #[.val (.int q0), .val (.int q1), .val (.int q2), .val (.long q3), .second, .val (.int (0 : Int32)), .val (.int (0 : Int32)), .val (.int (32 : Int32)), .val (.ref a5), .val (.int v6), .val (.int v9), .val (.ref a11), .val (.ref a13), .val (.int v6)]) rfl ?_
        show Steps p.tables e below (T14.setTop (mkF m 138 #[.val (.int q0), .val (.int q1), .val (.int q2), .val (.long q3), .second, .val (.int (0 : Int32)), .val (.int (0 : Int32)), .val (.int (32 : Int32)), .val (.ref a5), .val (.int v6), .val (.int v9), .val (.ref a11), .val (.ref a13), .val (.int v6)] [])) _
        refine XS.aload X14.here hx rfl (hb hby at_138) rfl rfl ?_
        show Steps p.tables e below (T14.setTop (mkF m 140 #[.val (.int q0), .val (.int q1), .val (.int q2), .val (.long q3), .second, .val (.int (0 : Int32)), .val (.int (0 : Int32)), .val (.int (32 : Int32)), .val (.ref a5), .val (.int v6), .val (.int v9), .val (.ref a11), .val (.ref a13), .val (.int v6)] [(.ref a13)])) _
        refine st15.trans ?_
        show Steps p.tables e below (T15.setTop (mkF m 143 #[.val (.int q0), .val (.int q1), .val (.int q2), .val (.long q3), .second, .val (.int (0 : Int32)), .val (.int (0 : Int32)), .val (.int (32 : Int32)), .val (.ref a5), .val (.int v6), .val (.int v9), .val (.ref a11), .val (.ref a13), .val (.int v6)] [(.int (own_f4  ((-1 : Int32)) v6))])) _
        refine XS.iload X15.here hx rfl (hb hby at_143) rfl ?_
        exact k
      by_cases c17 : (own_f4  ((-1 : Int32)) v6) = v6
      · obtain ⟨fs, hr, hrun, hended, hW, hsame⟩ := X15.leave (v := some (.int (1 : Int32))) (fun h => by rw [Bd.returns] at h; cases h) hlk
        refine ⟨_, _, pre16 _ ?_, hrun, hended, _, _, rfl, ?_, ⟨_, rfl⟩, hW, hsame.mono (by decide) (by decide)⟩
        · show Steps p.tables e below (T15.setTop (mkF m 145 #[.val (.int q0), .val (.int q1), .val (.int q2), .val (.long q3), .second, .val (.int (0 : Int32)), .val (.int (0 : Int32)), .val (.int (32 : Int32)), .val (.ref a5), .val (.int v6), .val (.int v9), .val (.ref a11), .val (.ref a13), .val (.int v6)] [(.int v6), (.int (own_f4  ((-1 : Int32)) v6))])) _
          refine XS.icmpNo X15.here hx rfl (hb hby at_145) rfl ((teq c17).2) ?_
          show Steps p.tables e below (T15.setTop (mkF m 148 #[.val (.int q0), .val (.int q1), .val (.int q2), .val (.long q3), .second, .val (.int (0 : Int32)), .val (.int (0 : Int32)), .val (.int (32 : Int32)), .val (.ref a5), .val (.int v6), .val (.int v9), .val (.ref a11), .val (.ref a13), .val (.int v6)] [])) _
          refine XS.iconst X15.here hx rfl (hb hby at_148) ?_
          show Steps p.tables e below (T15.setTop (mkF m 149 #[.val (.int q0), .val (.int q1), .val (.int q2), .val (.long q3), .second, .val (.int (0 : Int32)), .val (.int (0 : Int32)), .val (.int (32 : Int32)), .val (.ref a5), .val (.int v6), .val (.int v9), .val (.ref a11), .val (.ref a13), .val (.int v6)] [(.int (1 : Int32))])) _
          refine XS.goto X15.here hx rfl (pc0 := 149) (pc' := 153) rfl (hb hby at_149) (by decide) (by decide) ?_
          show Steps p.tables e below (T15.setTop (mkF m 153 #[.val (.int q0), .val (.int q1), .val (.int q2), .val (.long q3), .second, .val (.int (0 : Int32)), .val (.int (0 : Int32)), .val (.int (32 : Int32)), .val (.ref a5), .val (.int v6), .val (.int v9), .val (.ref a11), .val (.ref a13), .val (.int v6)] [(.int (1 : Int32))])) _
          exact retN X15 hx (t := .boolean) Bd.returns (by simp) (hb hby at_153) hr
        · show Q0 Z q0 q1 q2 q3 h0 n0 _ T15.heap _
          rw [e15]
          exact ⟨by have w_hv9 := hv9.symm; subst w_hv9; have w_hv6 := hv6.symm; subst w_hv6; simp only [own_f0, if_pos c2, if_pos c4, if_pos c17], N15⟩
      · obtain ⟨fs, hr, hrun, hended, hW, hsame⟩ := X15.leave (v := some (.int (0 : Int32))) (fun h => by rw [Bd.returns] at h; cases h) hlk
        refine ⟨_, _, pre16 _ ?_, hrun, hended, _, _, rfl, ?_, ⟨_, rfl⟩, hW, hsame.mono (by decide) (by decide)⟩
        · show Steps p.tables e below (T15.setTop (mkF m 145 #[.val (.int q0), .val (.int q1), .val (.int q2), .val (.long q3), .second, .val (.int (0 : Int32)), .val (.int (0 : Int32)), .val (.int (32 : Int32)), .val (.ref a5), .val (.int v6), .val (.int v9), .val (.ref a11), .val (.ref a13), .val (.int v6)] [(.int v6), (.int (own_f4  ((-1 : Int32)) v6))])) _
          refine XS.icmpYes X15.here hx rfl (pc0 := 145) (pc' := 152) rfl (hb hby at_145) rfl ((feq c17).2) (by decide) (by decide) ?_
          show Steps p.tables e below (T15.setTop (mkF m 152 #[.val (.int q0), .val (.int q1), .val (.int q2), .val (.long q3), .second, .val (.int (0 : Int32)), .val (.int (0 : Int32)), .val (.int (32 : Int32)), .val (.ref a5), .val (.int v6), .val (.int v9), .val (.ref a11), .val (.ref a13), .val (.int v6)] [])) _
          refine XS.iconst X15.here hx rfl (hb hby at_152) ?_
          show Steps p.tables e below (T15.setTop (mkF m 153 #[.val (.int q0), .val (.int q1), .val (.int q2), .val (.long q3), .second, .val (.int (0 : Int32)), .val (.int (0 : Int32)), .val (.int (32 : Int32)), .val (.ref a5), .val (.int v6), .val (.int v9), .val (.ref a11), .val (.ref a13), .val (.int v6)] [(.int (0 : Int32))])) _
          exact retN X15 hx (t := .boolean) Bd.returns (by simp) (hb hby at_153) hr
        · show Q0 Z q0 q1 q2 q3 h0 n0 _ T15.heap _
          rw [e15]
          exact ⟨by have w_hv9 := hv9.symm; subst w_hv9; have w_hv6 := hv6.symm; subst w_hv6; simp only [own_f0, if_pos c2, if_pos c4, if_neg c17], N15⟩
    · obtain ⟨T18, h18, cA18, X18, e18, E18, A18, st18⟩ := newP X0 hx hZ (aty := .byte) (hw _ (List.mem_of_getElem? (i := 0) rfl)) e0 (g := (mkF m 52 #[.val (.int q0), .val (.int q1), .val (.int q2), .val (.long q3), .second, .val (.int (0 : Int32)), .val (.int (1 : Int32)), .val (.int (32 : Int32)), .unset, .unset, .unset, .unset, .unset, .unset] [(.int (4 : Int32))])) rfl (hb hby at_52) rfl (by decide) (cap := 4) (by decide) (by decide) (by decide) (by decide)
      obtain ⟨a18, g18⟩ : ∃ z, z = h0.size := ⟨_, rfl⟩
      rw [← g18] at A18 st18
      have ge_a18 : n0 ≤ a18 := g18 ▸ Z0
      have sz18 : n0 ≤ h18.size := Nat.le_trans Z0 E18.1
      have V18_n : own_AI Z h18 a18 .byte [(0 : Int32), (0 : Int32), (0 : Int32), (0 : Int32)] := own_AIbyte_new A18 (k := 4) (by decide)
      obtain ⟨v19, hv19⟩ : ∃ z : Int32, z = ((q1 &&& (2147483647 : Int32)) % (33 : Int32)) := ⟨_, rfl⟩
      have pre20 : ∀ t, Steps p.tables e below (T18.setTop (mkF m 65 #[.val (.int q0), .val (.int q1), .val (.int q2), .val (.long q3), .second, .val (.int (0 : Int32)), .val (.int (1 : Int32)), .val (.int (32 : Int32)), .val (.ref a18), .unset, .unset, .unset, .unset, .unset] [(.int v19)])) t → Steps p.tables e below (s₁.setTop (entryFrame m #[(.int q0), (.int q1), (.int q2), (.long q3)] maxLocals)) t := by
        rw [hv19]
        intro t k
        refine pre3 t ?_
        show Steps p.tables e below (s₁.setTop (mkF m 16 #[.val (.int q0), .val (.int q1), .val (.int q2), .val (.long q3), .second, .val (.int (0 : Int32)), .unset, .unset, .unset, .unset, .unset, .unset, .unset, .unset] [(.int (q0 &&& (2 : Int32)))])) _
        refine XS.ifNo X0.here hx rfl (hb hby at_16) rfl ((if0 _ _).trans (feq c4).1) ?_
        show Steps p.tables e below (s₁.setTop (mkF m 19 #[.val (.int q0), .val (.int q1), .val (.int q2), .val (.long q3), .second, .val (.int (0 : Int32)), .unset, .unset, .unset, .unset, .unset, .unset, .unset, .unset] [])) _
        refine XS.iconst X0.here hx rfl (hb hby at_19) ?_
        show Steps p.tables e below (s₁.setTop (mkF m 20 #[.val (.int q0), .val (.int q1), .val (.int q2), .val (.long q3), .second, .val (.int (0 : Int32)), .unset, .unset, .unset, .unset, .unset, .unset, .unset, .unset] [(.int (1 : Int32))])) _
        refine XS.goto X0.here hx rfl (pc0 := 20) (pc' := 24) rfl (hb hby at_20) (by decide) (by decide) ?_
        show Steps p.tables e below (s₁.setTop (mkF m 24 #[.val (.int q0), .val (.int q1), .val (.int q2), .val (.long q3), .second, .val (.int (0 : Int32)), .unset, .unset, .unset, .unset, .unset, .unset, .unset, .unset] [(.int (1 : Int32))])) _
        refine XS.istore X0.here hx rfl (hb hby at_24) rfl (l' := #[.val (.int q0), .val (.int q1), .val (.int q2), .val (.long q3), .second, .val (.int (0 : Int32)), .val (.int (1 : Int32)), .unset, .unset, .unset, .unset, .unset, .unset, .unset]) rfl ?_
        show Steps p.tables e below (s₁.setTop (mkF m 26 #[.val (.int q0), .val (.int q1), .val (.int q2), .val (.long q3), .second, .val (.int (0 : Int32)), .val (.int (1 : Int32)), .unset, .unset, .unset, .unset, .unset, .unset, .unset] [])) _
        refine XS.iload X0.here hx rfl (hb hby at_26) rfl ?_
        show Steps p.tables e below (s₁.setTop (mkF m 28 #[.val (.int q0), .val (.int q1), .val (.int q2), .val (.long q3), .second, .val (.int (0 : Int32)), .val (.int (1 : Int32)), .unset, .unset, .unset, .unset, .unset, .unset, .unset] [(.int (0 : Int32))])) _
        refine XS.ifYes X0.here hx rfl (pc0 := 28) (pc' := 37) rfl (hb hby at_28) rfl (by decide) (by decide) (by decide) ?_
        show Steps p.tables e below (s₁.setTop (mkF m 37 #[.val (.int q0), .val (.int q1), .val (.int q2), .val (.long q3), .second, .val (.int (0 : Int32)), .val (.int (1 : Int32)), .unset, .unset, .unset, .unset, .unset, .unset, .unset] [])) _
        refine XS.bipush X0.here hx rfl (hb hby at_37) ?_
        show Steps p.tables e below (s₁.setTop (mkF m 39 #[.val (.int q0), .val (.int q1), .val (.int q2), .val (.long q3), .second, .val (.int (0 : Int32)), .val (.int (1 : Int32)), .unset, .unset, .unset, .unset, .unset, .unset, .unset] [(.int (32 : Int32))])) _
        refine XS.istore X0.here hx rfl (hb hby at_39) rfl (l' := #[.val (.int q0), .val (.int q1), .val (.int q2), .val (.long q3), .second, .val (.int (0 : Int32)), .val (.int (1 : Int32)), .val (.int (32 : Int32)), .unset, .unset, .unset, .unset, .unset, .unset]) rfl ?_
        show Steps p.tables e below (s₁.setTop (mkF m 41 #[.val (.int q0), .val (.int q1), .val (.int q2), .val (.long q3), .second, .val (.int (0 : Int32)), .val (.int (1 : Int32)), .val (.int (32 : Int32)), .unset, .unset, .unset, .unset, .unset, .unset] [])) _
        refine XS.iload X0.here hx rfl (hb hby at_41) rfl ?_
        show Steps p.tables e below (s₁.setTop (mkF m 43 #[.val (.int q0), .val (.int q1), .val (.int q2), .val (.long q3), .second, .val (.int (0 : Int32)), .val (.int (1 : Int32)), .val (.int (32 : Int32)), .unset, .unset, .unset, .unset, .unset, .unset] [(.int (0 : Int32))])) _
        refine XS.ifYes X0.here hx rfl (pc0 := 43) (pc' := 51) rfl (hb hby at_43) rfl (by decide) (by decide) (by decide) ?_
        show Steps p.tables e below (s₁.setTop (mkF m 51 #[.val (.int q0), .val (.int q1), .val (.int q2), .val (.long q3), .second, .val (.int (0 : Int32)), .val (.int (1 : Int32)), .val (.int (32 : Int32)), .unset, .unset, .unset, .unset, .unset, .unset] [])) _
        refine XS.iconst X0.here hx rfl (hb hby at_51) ?_
        show Steps p.tables e below (s₁.setTop (mkF m 52 #[.val (.int q0), .val (.int q1), .val (.int q2), .val (.long q3), .second, .val (.int (0 : Int32)), .val (.int (1 : Int32)), .val (.int (32 : Int32)), .unset, .unset, .unset, .unset, .unset, .unset] [(.int (4 : Int32))])) _
        refine st18 _ ?_
        show Steps p.tables e below (T18.setTop (mkF m 54 #[.val (.int q0), .val (.int q1), .val (.int q2), .val (.long q3), .second, .val (.int (0 : Int32)), .val (.int (1 : Int32)), .val (.int (32 : Int32)), .unset, .unset, .unset, .unset, .unset, .unset] [(.ref a18)])) _
        refine XS.astore X18.here hx rfl (hb hby at_54) rfl rfl (l' := #[.val (.int q0), .val (.int q1), .val (.int q2), .val (.long q3), .second, .val (.int (0 : Int32)), .val (.int (1 : Int32)), .val (.int (32 : Int32)), .val (.ref a18), .unset, .unset, .unset, .unset, .unset]) rfl ?_
        show Steps p.tables e below (T18.setTop (mkF m 56 #[.val (.int q0), .val (.int q1), .val (.int q2), .val (.long q3), .second, .val (.int (0 : Int32)), .val (.int (1 : Int32)), .val (.int (32 : Int32)), .val (.ref a18), .unset, .unset, .unset, .unset, .unset] [])) _
        refine XS.iloadN X18.here hx rfl (hb hby at_56) rfl ?_
        show Steps p.tables e below (T18.setTop (mkF m 57 #[.val (.int q0), .val (.int q1), .val (.int q2), .val (.long q3), .second, .val (.int (0 : Int32)), .val (.int (1 : Int32)), .val (.int (32 : Int32)), .val (.ref a18), .unset, .unset, .unset, .unset, .unset] [(.int q1)])) _
        refine X18.ldcInt hx hown (mvT hZ (hw _ (List.mem_of_getElem? (i := 1) rfl))) (g := (mkF m 57 #[.val (.int q0), .val (.int q1), .val (.int q2), .val (.long q3), .second, .val (.int (0 : Int32)), .val (.int (1 : Int32)), .val (.int (32 : Int32)), .val (.ref a18), .unset, .unset, .unset, .unset, .unset] [(.int q1)])) rfl (hb hby at_57) _ ?_
        show Steps p.tables e below (T18.setTop (mkF m 59 #[.val (.int q0), .val (.int q1), .val (.int q2), .val (.long q3), .second, .val (.int (0 : Int32)), .val (.int (1 : Int32)), .val (.int (32 : Int32)), .val (.ref a18), .unset, .unset, .unset, .unset, .unset] [(.int (2147483647 : Int32)), (.int q1)])) _
        refine XS.iand X18.here hx rfl (hb hby at_59) rfl ?_
        show Steps p.tables e below (T18.setTop (mkF m 60 #[.val (.int q0), .val (.int q1), .val (.int q2), .val (.long q3), .second, .val (.int (0 : Int32)), .val (.int (1 : Int32)), .val (.int (32 : Int32)), .val (.ref a18), .unset, .unset, .unset, .unset, .unset] [(.int (q1 &&& (2147483647 : Int32)))])) _
        refine XS.iload X18.here hx rfl (hb hby at_60) rfl ?_
        show Steps p.tables e below (T18.setTop (mkF m 62 #[.val (.int q0), .val (.int q1), .val (.int q2), .val (.long q3), .second, .val (.int (0 : Int32)), .val (.int (1 : Int32)), .val (.int (32 : Int32)), .val (.ref a18), .unset, .unset, .unset, .unset, .unset] [(.int (32 : Int32)), (.int (q1 &&& (2147483647 : Int32)))])) _
        refine XS.iconst X18.here hx rfl (hb hby at_62) ?_
        show Steps p.tables e below (T18.setTop (mkF m 63 #[.val (.int q0), .val (.int q1), .val (.int q2), .val (.long q3), .second, .val (.int (0 : Int32)), .val (.int (1 : Int32)), .val (.int (32 : Int32)), .val (.ref a18), .unset, .unset, .unset, .unset, .unset] [(.int (1 : Int32)), (.int (32 : Int32)), (.int (q1 &&& (2147483647 : Int32)))])) _
        refine XS.iadd X18.here hx rfl (hb hby at_63) rfl ?_
        show Steps p.tables e below (T18.setTop (mkF m 64 #[.val (.int q0), .val (.int q1), .val (.int q2), .val (.long q3), .second, .val (.int (0 : Int32)), .val (.int (1 : Int32)), .val (.int (32 : Int32)), .val (.ref a18), .unset, .unset, .unset, .unset, .unset] [(.int (33 : Int32)), (.int (q1 &&& (2147483647 : Int32)))])) _
        refine iremM X18 hx rfl (hb hby at_64) rfl (by decide) ?_
        exact k
      have nz_80_21 : ¬ ((((32 : Int32) - v19) + (1 : Int32)) = (0 : Int32)) := (own_nzT (by assumption) (by decide))
      obtain ⟨v22, hv22⟩ : ∃ z : Int32, z = (v19 + ((q2 &&& (2147483647 : Int32)) % (((32 : Int32) - v19) + (1 : Int32)))) := ⟨_, rfl⟩
      have pre23 : ∀ t, Steps p.tables e below (T18.setTop (mkF m 82 #[.val (.int q0), .val (.int q1), .val (.int q2), .val (.long q3), .second, .val (.int (0 : Int32)), .val (.int (1 : Int32)), .val (.int (32 : Int32)), .val (.ref a18), .val (.int v19), .unset, .unset, .unset, .unset] [(.int v22)])) t → Steps p.tables e below (s₁.setTop (entryFrame m #[(.int q0), (.int q1), (.int q2), (.long q3)] maxLocals)) t := by
        rw [hv22]
        intro t k
        refine pre20 t ?_
        show Steps p.tables e below (T18.setTop (mkF m 65 #[.val (.int q0), .val (.int q1), .val (.int q2), .val (.long q3), .second, .val (.int (0 : Int32)), .val (.int (1 : Int32)), .val (.int (32 : Int32)), .val (.ref a18), .unset, .unset, .unset, .unset, .unset] [(.int v19)])) _
        refine XS.istore X18.here hx rfl (hb hby at_65) rfl (l' := #[.val (.int q0), .val (.int q1), .val (.int q2), .val (.long q3), .second, .val (.int (0 : Int32)), .val (.int (1 : Int32)), .val (.int (32 : Int32)), .val (.ref a18), .val (.int v19), .unset, .unset, .unset, .unset]) rfl ?_
        show Steps p.tables e below (T18.setTop (mkF m 67 #[.val (.int q0), .val (.int q1), .val (.int q2), .val (.long q3), .second, .val (.int (0 : Int32)), .val (.int (1 : Int32)), .val (.int (32 : Int32)), .val (.ref a18), .val (.int v19), .unset, .unset, .unset, .unset] [])) _
        refine XS.iload X18.here hx rfl (hb hby at_67) rfl ?_
        show Steps p.tables e below (T18.setTop (mkF m 69 #[.val (.int q0), .val (.int q1), .val (.int q2), .val (.long q3), .second, .val (.int (0 : Int32)), .val (.int (1 : Int32)), .val (.int (32 : Int32)), .val (.ref a18), .val (.int v19), .unset, .unset, .unset, .unset] [(.int v19)])) _
        refine XS.iloadN X18.here hx rfl (hb hby at_69) rfl ?_
        show Steps p.tables e below (T18.setTop (mkF m 70 #[.val (.int q0), .val (.int q1), .val (.int q2), .val (.long q3), .second, .val (.int (0 : Int32)), .val (.int (1 : Int32)), .val (.int (32 : Int32)), .val (.ref a18), .val (.int v19), .unset, .unset, .unset, .unset] [(.int q2), (.int v19)])) _
        refine X18.ldcInt hx hown (mvT hZ (hw _ (List.mem_of_getElem? (i := 1) rfl))) (g := (mkF m 70 #[.val (.int q0), .val (.int q1), .val (.int q2), .val (.long q3), .second, .val (.int (0 : Int32)), .val (.int (1 : Int32)), .val (.int (32 : Int32)), .val (.ref a18), .val (.int v19), .unset, .unset, .unset, .unset] [(.int q2), (.int v19)])) rfl (hb hby at_70) _ ?_
        show Steps p.tables e below (T18.setTop (mkF m 72 #[.val (.int q0), .val (.int q1), .val (.int q2), .val (.long q3), .second, .val (.int (0 : Int32)), .val (.int (1 : Int32)), .val (.int (32 : Int32)), .val (.ref a18), .val (.int v19), .unset, .unset, .unset, .unset] [(.int (2147483647 : Int32)), (.int q2), (.int v19)])) _
        refine XS.iand X18.here hx rfl (hb hby at_72) rfl ?_
        show Steps p.tables e below (T18.setTop (mkF m 73 #[.val (.int q0), .val (.int q1), .val (.int q2), .val (.long q3), .second, .val (.int (0 : Int32)), .val (.int (1 : Int32)), .val (.int (32 : Int32)), .val (.ref a18), .val (.int v19), .unset, .unset, .unset, .unset] [(.int (q2 &&& (2147483647 : Int32))), (.int v19)])) _
        refine XS.iload X18.here hx rfl (hb hby at_73) rfl ?_
        show Steps p.tables e below (T18.setTop (mkF m 75 #[.val (.int q0), .val (.int q1), .val (.int q2), .val (.long q3), .second, .val (.int (0 : Int32)), .val (.int (1 : Int32)), .val (.int (32 : Int32)), .val (.ref a18), .val (.int v19), .unset, .unset, .unset, .unset] [(.int (32 : Int32)), (.int (q2 &&& (2147483647 : Int32))), (.int v19)])) _
        refine XS.iload X18.here hx rfl (hb hby at_75) rfl ?_
        show Steps p.tables e below (T18.setTop (mkF m 77 #[.val (.int q0), .val (.int q1), .val (.int q2), .val (.long q3), .second, .val (.int (0 : Int32)), .val (.int (1 : Int32)), .val (.int (32 : Int32)), .val (.ref a18), .val (.int v19), .unset, .unset, .unset, .unset] [(.int v19), (.int (32 : Int32)), (.int (q2 &&& (2147483647 : Int32))), (.int v19)])) _
        refine XS.isub X18.here hx rfl (hb hby at_77) rfl ?_
        show Steps p.tables e below (T18.setTop (mkF m 78 #[.val (.int q0), .val (.int q1), .val (.int q2), .val (.long q3), .second, .val (.int (0 : Int32)), .val (.int (1 : Int32)), .val (.int (32 : Int32)), .val (.ref a18), .val (.int v19), .unset, .unset, .unset, .unset] [(.int ((32 : Int32) - v19)), (.int (q2 &&& (2147483647 : Int32))), (.int v19)])) _
        refine XS.iconst X18.here hx rfl (hb hby at_78) ?_
        show Steps p.tables e below (T18.setTop (mkF m 79 #[.val (.int q0), .val (.int q1), .val (.int q2), .val (.long q3), .second, .val (.int (0 : Int32)), .val (.int (1 : Int32)), .val (.int (32 : Int32)), .val (.ref a18), .val (.int v19), .unset, .unset, .unset, .unset] [(.int (1 : Int32)), (.int ((32 : Int32) - v19)), (.int (q2 &&& (2147483647 : Int32))), (.int v19)])) _
        refine XS.iadd X18.here hx rfl (hb hby at_79) rfl ?_
        show Steps p.tables e below (T18.setTop (mkF m 80 #[.val (.int q0), .val (.int q1), .val (.int q2), .val (.long q3), .second, .val (.int (0 : Int32)), .val (.int (1 : Int32)), .val (.int (32 : Int32)), .val (.ref a18), .val (.int v19), .unset, .unset, .unset, .unset] [(.int (((32 : Int32) - v19) + (1 : Int32))), (.int (q2 &&& (2147483647 : Int32))), (.int v19)])) _
        refine iremM X18 hx rfl (hb hby at_80) rfl nz_80_21 ?_
        show Steps p.tables e below (T18.setTop (mkF m 81 #[.val (.int q0), .val (.int q1), .val (.int q2), .val (.long q3), .second, .val (.int (0 : Int32)), .val (.int (1 : Int32)), .val (.int (32 : Int32)), .val (.ref a18), .val (.int v19), .unset, .unset, .unset, .unset] [(.int ((q2 &&& (2147483647 : Int32)) % (((32 : Int32) - v19) + (1 : Int32)))), (.int v19)])) _
        refine XS.iadd X18.here hx rfl (hb hby at_81) rfl ?_
        exact k
      obtain ⟨T24, h24, X24, e24, E24, A24, D24, -, st24⟩ := newO X18 hx hZ hown (hw _ (List.mem_of_getElem? (i := 2) rfl)) (hw _ (List.mem_of_getElem? (i := 3) rfl)) (hw _ (List.mem_of_getElem? (i := 4) rfl)) e18 (g := (mkF m 84 #[.val (.int q0), .val (.int q1), .val (.int q2), .val (.long q3), .second, .val (.int (0 : Int32)), .val (.int (1 : Int32)), .val (.int (32 : Int32)), .val (.ref a18), .val (.int v19), .val (.int v22), .unset, .unset, .unset] [])) rfl (hb hby at_84) (by decide) (by decide)
      obtain ⟨a24, g24⟩ : ∃ z, z = h18.size := ⟨_, rfl⟩
      rw [← g24] at A24 D24 st24
      have ne_a18_a24 : a18 ≠ a24 := g24 ▸ Nat.ne_of_lt V18_n.lt
      have ge_a24 : n0 ≤ a24 := g24 ▸ sz18
      have V24_a18 : own_AI Z h24 a18 .byte [(0 : Int32), (0 : Int32), (0 : Int32), (0 : Int32)] := V18_n.ext E24
      have sz24 : n0 ≤ h24.size := Nat.le_trans sz18 E24.1
      have F24_n0 : Fld Z h24 a24 "com/example/stillframe/stillframe/ccr/IpPrefix" "address" "[B" .null := D24 (Or.inr (hw _ (List.mem_of_getElem? (i := 12) rfl))) (ty := (.array .byte)) (by decide)
      have F24_n1 : Fld Z h24 a24 "com/example/stillframe/stillframe/ccr/IpPrefix" "length" "I" (.int (0 : Int32)) := D24 (Or.inr (hw _ (List.mem_of_getElem? (i := 14) rfl))) (ty := .int) (by decide)
      obtain ⟨_, _, ⟨T25, L25, k25, n25⟩, -, X25, ⟨Lc25, hQ25, l25, y25, z25⟩, st25⟩ := X24.specialBack hx (y := (⟨"com/example/stillframe/stillframe/ccr/IpPrefix", "<init>", "([BI)V"⟩ : MethodName)) rfl hown (mvT hZ (hw _ (List.mem_of_getElem? (i := 5) rfl))) (mvT hZ (hw _ (List.mem_of_getElem? (i := 6) rfl))) (mvT hZ (hw _ (List.mem_of_getElem? (i := 7) rfl))) (by decide) (backOf (W := 1) (rm1 l Z a0 hw [] a24 a18 v19  h24 n0 sz24 A24 F24_n0 F24_n1 ge_a24 ) hZ (hw _ (List.mem_of_getElem? (i := 7) rfl)) (hw _ (List.mem_of_getElem? (i := 4) rfl)) (by decide) (by decide)) (g := (mkF m 92 #[.val (.int q0), .val (.int q1), .val (.int q2), .val (.long q3), .second, .val (.int (0 : Int32)), .val (.int (1 : Int32)), .val (.int (32 : Int32)), .val (.ref a18), .val (.int v19), .val (.int v22), .unset, .unset, .unset] [(.int v19), (.ref a18), (.ref a24), (.ref a24)])) rfl (by rw [hml]; rfl) (Steps.refl _) (a := a24) (argsL := [(.ref a18), (.int v19)]) (rest := [(.ref a24)]) (lenOf pd_8 rfl) rfl (by show 2 * 0 + _ ≤ _; exact Nat.le_of_eq rfl) (hb hby at_92) (fun _ _ => ⟨rfl, e24, (by decide : 2 + 0 ≤ _), (by decide : 6 + 0 ≤ _)⟩)
      dsimp only [Pt.U, Pt.locs, Pt.cells, Pt.slots] at X25 l25 y25 z25 st25 hQ25
      subst l25 y25 z25
      obtain ⟨rfl, N25q, K25, A25_o0, F25_o0, F25_o1⟩ := hQ25
      obtain ⟨h25, e25⟩ : ∃ z, T25.heap = z := ⟨_, rfl⟩
      rw [e25] at K25 A25_o0 F25_o0 F25_o1
      have V25_a18 : own_AI Z h25 a18 .byte [(0 : Int32), (0 : Int32), (0 : Int32), (0 : Int32)] := V24_a18.keep K25 (ninS ne_a18_a24 nin0)
      have A25_a24 : Exa Z h25 a24 "com/example/stillframe/stillframe/ccr/IpPrefix" := A24.keep K25
      have sz25 : n0 ≤ h25.size := Nat.le_trans sz24 K25.1
      have N25 := Fr.app N0 N25q
      obtain ⟨T26, h26, X26, e26, E26, A26, D26, -, st26⟩ := newO X25 hx hZ hown (hw _ (List.mem_of_getElem? (i := 15) rfl)) (hw _ (List.mem_of_getElem? (i := 16) rfl)) (hw _ (List.mem_of_getElem? (i := 17) rfl)) e25 (g := (mkF m 97 #[.val (.int q0), .val (.int q1), .val (.int q2), .val (.long q3), .second, .val (.int (0 : Int32)), .val (.int (1 : Int32)), .val (.int (32 : Int32)), .val (.ref a18), .val (.int v19), .val (.int v22), .val (.ref a24), .unset, .unset] [])) rfl (hb hby at_97) (by decide) (by decide)
      obtain ⟨a26, g26⟩ : ∃ z, z = h25.size := ⟨_, rfl⟩
      rw [← g26] at A26 D26 st26
      have ne_a18_a26 : a18 ≠ a26 := g26 ▸ Nat.ne_of_lt V25_a18.lt
      have ne_a24_a26 : a24 ≠ a26 := g26 ▸ Nat.ne_of_lt A25_o0.lt
      have ge_a26 : n0 ≤ a26 := g26 ▸ sz25
      have V26_a18 : own_AI Z h26 a18 .byte [(0 : Int32), (0 : Int32), (0 : Int32), (0 : Int32)] := V25_a18.ext E26
      have A26_a24 : Exa Z h26 a24 "com/example/stillframe/stillframe/ccr/IpPrefix" := A25_o0.ext E26
      have F26_a24_0 : Fld Z h26 a24 "com/example/stillframe/stillframe/ccr/IpPrefix" "address" "[B" (.ref a18) := F25_o0.ext E26
      have F26_a24_1 : Fld Z h26 a24 "com/example/stillframe/stillframe/ccr/IpPrefix" "length" "I" (.int v19) := F25_o1.ext E26
      have sz26 : n0 ≤ h26.size := Nat.le_trans sz25 E26.1
      have F26_n0 : Fld Z h26 a26 "com/example/stillframe/stillframe/ccr/RoaPayload" "asn" "J" (.long (0 : Int64)) := D26 (Or.inr (hw _ (List.mem_of_getElem? (i := 24) rfl))) (ty := .long) (by decide)
      have F26_n1 : Fld Z h26 a26 "com/example/stillframe/stillframe/ccr/RoaPayload" "prefix" "Lcom/example/stillframe/stillframe/ccr/IpPrefix;" .null := D26 (Or.inr (hw _ (List.mem_of_getElem? (i := 26) rfl))) (ty := (.object "com/example/stillframe/stillframe/ccr/IpPrefix")) (by decide)
      have F26_n2 : Fld Z h26 a26 "com/example/stillframe/stillframe/ccr/RoaPayload" "maxLength" "I" (.int (0 : Int32)) := D26 (Or.inr (hw _ (List.mem_of_getElem? (i := 28) rfl))) (ty := .int) (by decide)
      obtain ⟨_, _, ⟨T27, L27, k27, n27⟩, -, X27, ⟨Lc27, hQ27, l27, y27, z27⟩, st27⟩ := X26.specialBack hx (y := (⟨"com/example/stillframe/stillframe/ccr/RoaPayload", "<init>", "(JLcom/example/stillframe/stillframe/ccr/IpPrefix;I)V"⟩ : MethodName)) rfl hown (mvT hZ (hw _ (List.mem_of_getElem? (i := 19) rfl))) (mvT hZ (hw _ (List.mem_of_getElem? (i := 20) rfl))) (mvT hZ (hw _ (List.mem_of_getElem? (i := 21) rfl))) (by decide) (backOf (W := 1) (rm3 l Z a0 hw [] a26 (q3 &&& (4294967295 : Int64)) a24 v22  h26 n0 sz26 A26 F26_n0 F26_n1 F26_n2 ge_a26 ) hZ (hw _ (List.mem_of_getElem? (i := 21) rfl)) (hw _ (List.mem_of_getElem? (i := 17) rfl)) (by decide) (by decide)) (g := (mkF m 119 #[.val (.int q0), .val (.int q1), .val (.int q2), .val (.long q3), .second, .val (.int (0 : Int32)), .val (.int (1 : Int32)), .val (.int (32 : Int32)), .val (.ref a18), .val (.int v19), .val (.int v22), .val (.ref a24), .unset, .unset] [(.int v22), (.ref a24), (.long (q3 &&& (4294967295 : Int64))), (.ref a26), (.ref a26)])) rfl (by rw [hml]; rfl) (Steps.refl _) (a := a26) (argsL := [(.long (q3 &&& (4294967295 : Int64))), (.ref a24), (.int v22)]) (rest := [(.ref a26)]) (lenOf pd_9 rfl) rfl (by show 2 * 0 + _ ≤ _; exact Nat.le_of_eq rfl) (hb hby at_119) (fun _ _ => ⟨rfl, e26, (by decide : 3 + 0 ≤ _), (by decide : 9 + 0 ≤ _)⟩)
      dsimp only [Pt.U, Pt.locs, Pt.cells, Pt.slots] at X27 l27 y27 z27 st27 hQ27
      subst l27 y27 z27
      obtain ⟨rfl, N27q, K27, A27_o0, F27_o0, F27_o1, F27_o2⟩ := hQ27
      obtain ⟨h27, e27⟩ : ∃ z, T27.heap = z := ⟨_, rfl⟩
      rw [e27] at K27 A27_o0 F27_o0 F27_o1 F27_o2
      have V27_a18 : own_AI Z h27 a18 .byte [(0 : Int32), (0 : Int32), (0 : Int32), (0 : Int32)] := V26_a18.keep K27 (ninS ne_a18_a26 nin0)
      have A27_a24 : Exa Z h27 a24 "com/example/stillframe/stillframe/ccr/IpPrefix" := A26_a24.keep K27
      have F27_a24_0 : Fld Z h27 a24 "com/example/stillframe/stillframe/ccr/IpPrefix" "address" "[B" (.ref a18) := F26_a24_0.keep K27 (ninS ne_a24_a26 nin0)
      have F27_a24_1 : Fld Z h27 a24 "com/example/stillframe/stillframe/ccr/IpPrefix" "length" "I" (.int v19) := F26_a24_1.keep K27 (ninS ne_a24_a26 nin0)
      have A27_a26 : Exa Z h27 a26 "com/example/stillframe/stillframe/ccr/RoaPayload" := A26.keep K27
      have sz27 : n0 ≤ h27.size := Nat.le_trans sz26 K27.1
      have N27 := Fr.app N25 N27q
      obtain ⟨cq28, kq28, q28a, q28b, q28c⟩ := isOf hZ e27 A27_o0
      obtain ⟨_, _, ⟨T28, L28, k28, n28⟩, -, X28, ⟨Lc28, hQ28, l28, y28, z28⟩, st28⟩ := X27.virtualBack hx (y := (⟨"com/example/stillframe/stillframe/ccr/RoaPayload", "longestLength", "()I"⟩ : MethodName)) (z := (⟨"com/example/stillframe/stillframe/ccr/RoaPayload", "longestLength", "()I"⟩ : MethodName)) hown (mvT hZ (hw _ (List.mem_of_getElem? (i := 29) rfl))) (mvT hZ (hw _ (List.mem_of_getElem? (i := 30) rfl))) (notFace_of_selects (args := #[]) (mvT hZ (hw _ (List.mem_of_getElem? (i := 32) rfl)))) (mvT hZ (hw _ (List.mem_of_getElem? (i := 32) rfl))) (mvT hZ (hw _ (List.mem_of_getElem? (i := 31) rfl))) (by decide) (backOf (W := 0) (rm4 l Z a0 hw [] a26 a24 v22 v19 h27 n0 sz27 A27_o0 A27_a24 F27_o1 F27_o2 F27_a24_1 ) hZ (hw _ (List.mem_of_getElem? (i := 33) rfl)) (hw _ (List.mem_of_getElem? (i := 17) rfl)) (by decide) (by decide)) q28a q28c (g := (mkF m 140 #[.val (.int q0), .val (.int q1), .val (.int q2), .val (.long q3), .second, .val (.int (0 : Int32)), .val (.int (1 : Int32)), .val (.int (32 : Int32)), .val (.ref a18), .val (.int v19), .val (.int v22), .val (.ref a24), .val (.ref a26), .val (.int v22)] [(.ref a26)])) rfl (by rw [hml]; rfl) (Steps.refl _) (argsL := []) (rest := []) (lenOf pd_6 rfl) rfl (by show 2 * 0 + _ ≤ _; exact Nat.le_of_eq rfl) (hb hby at_140) (fun _ _ => ⟨rfl, e27, (by decide : 3 + 0 ≤ _), (by decide : 9 + 0 ≤ _)⟩)
      dsimp only [Pt.U, Pt.locs, Pt.cells, Pt.slots] at X28 l28 y28 z28 st28 hQ28
      subst l28 y28 z28
      obtain ⟨rfl, N28q, e28⟩ := hQ28
      have N28 := Fr.app N27 N28q
      have pre29 : ∀ t, Steps p.tables e below (T28.setTop (mkF m 145 #[.val (.int q0), .val (.int q1), .val (.int q2), .val (.long q3), .second, .val (.int (0 : Int32)), .val (.int (1 : Int32)), .val (.int (32 : Int32)), .val (.ref a18), .val (.int v19), .val (.int v22), .val (.ref a24), .val (.ref a26), .val (.int v22)] [(.int v22), (.int (own_f4  v22 v19))])) t → Steps p.tables e below (s₁.setTop (entryFrame m #[(.int q0), (.int q1), (.int q2), (.long q3)] maxLocals)) t := by
        intro t k
        refine pre23 t ?_
        show Steps p.tables e below (T18.setTop (mkF m 82 #[.val (.int q0), .val (.int q1), .val (.int q2), .val (.long q3), .second, .val (.int (0 : Int32)), .val (.int (1 : Int32)), .val (.int (32 : Int32)), .val (.ref a18), .val (.int v19), .unset, .unset, .unset, .unset] [(.int v22)])) _
        refine XS.istore X18.here hx rfl (hb hby at_82) rfl (l' := #[.val (.int q0), .val (.int q1), .val (.int q2), .val (.long q3), .second, .val (.int (0 : Int32)), .val (.int (1 : Int32)), .val (.int (32 : Int32)), .val (.ref a18), .val (.int v19), .val (.int v22), .unset, .unset, .unset]) rfl ?_
        show Steps p.tables e below (T18.setTop (mkF m 84 #[.val (.int q0), .val (.int q1), .val (.int q2), .val (.long q3), .second, .val (.int (0 : Int32)), .val (.int (1 : Int32)), .val (.int (32 : Int32)), .val (.ref a18), .val (.int v19), .val (.int v22), .unset, .unset, .unset] [])) _
        refine st24 _ ?_
        show Steps p.tables e below (T24.setTop (mkF m 87 #[.val (.int q0), .val (.int q1), .val (.int q2), .val (.long q3), .second, .val (.int (0 : Int32)), .val (.int (1 : Int32)), .val (.int (32 : Int32)), .val (.ref a18), .val (.int v19), .val (.int v22), .unset, .unset, .unset] [(.ref a24)])) _
        refine XS.dup X24.here hx rfl (hb hby at_87) rfl rfl ?_
        show Steps p.tables e below (T24.setTop (mkF m 88 #[.val (.int q0), .val (.int q1), .val (.int q2), .val (.long q3), .second, .val (.int (0 : Int32)), .val (.int (1 : Int32)), .val (.int (32 : Int32)), .val (.ref a18), .val (.int v19), .val (.int v22), .unset, .unset, .unset] [(.ref a24), (.ref a24)])) _
        refine XS.aload X24.here hx rfl (hb hby at_88) rfl rfl ?_
        show Steps p.tables e below (T24.setTop (mkF m 90 #[.val (.int q0), .val (.int q1), .val (.int q2), .val (.long q3), .second, .val (.int (0 : Int32)), .val (.int (1 : Int32)), .val (.int (32 : Int32)), .val (.ref a18), .val (.int v19), .val (.int v22), .unset, .unset, .unset] [(.ref a18), (.ref a24), (.ref a24)])) _
        refine XS.iload X24.here hx rfl (hb hby at_90) rfl ?_
        show Steps p.tables e below (T24.setTop (mkF m 92 #[.val (.int q0), .val (.int q1), .val (.int q2), .val (.long q3), .second, .val (.int (0 : Int32)), .val (.int (1 : Int32)), .val (.int (32 : Int32)), .val (.ref a18), .val (.int v19), .val (.int v22), .unset, .unset, .unset] [(.int v19), (.ref a18), (.ref a24), (.ref a24)])) _
        refine st25.trans ?_
        show Steps p.tables e below (T25.setTop (mkF m 95 #[.val (.int q0), .val (.int q1), .val (.int q2), .val (.long q3), .second, .val (.int (0 : Int32)), .val (.int (1 : Int32)), .val (.int (32 : Int32)), .val (.ref a18), .val (.int v19), .val (.int v22), .unset, .unset, .unset] [(.ref a24)])) _
        refine XS.astore X25.here hx rfl (hb hby at_95) rfl rfl (l' := #[.val (.int q0), .val (.int q1), .val (.int q2), .val (.long q3), .second, .val (.int (0 : Int32)), .val (.int (1 : Int32)), .val (.int (32 : Int32)), .val (.ref a18), .val (.int v19), .val (.int v22), .val (.ref a24), .unset, .unset]) rfl ?_
        show Steps p.tables e below (T25.setTop (mkF m 97 #[.val (.int q0), .val (.int q1), .val (.int q2), .val (.long q3), .second, .val (.int (0 : Int32)), .val (.int (1 : Int32)), .val (.int (32 : Int32)), .val (.ref a18), .val (.int v19), .val (.int v22), .val (.ref a24), .unset, .unset] [])) _
        refine st26 _ ?_
        show Steps p.tables e below (T26.setTop (mkF m 100 #[.val (.int q0), .val (.int q1), .val (.int q2), .val (.long q3), .second, .val (.int (0 : Int32)), .val (.int (1 : Int32)), .val (.int (32 : Int32)), .val (.ref a18), .val (.int v19), .val (.int v22), .val (.ref a24), .unset, .unset] [(.ref a26)])) _
        refine XS.dup X26.here hx rfl (hb hby at_100) rfl rfl ?_
        show Steps p.tables e below (T26.setTop (mkF m 101 #[.val (.int q0), .val (.int q1), .val (.int q2), .val (.long q3), .second, .val (.int (0 : Int32)), .val (.int (1 : Int32)), .val (.int (32 : Int32)), .val (.ref a18), .val (.int v19), .val (.int v22), .val (.ref a24), .unset, .unset] [(.ref a26), (.ref a26)])) _
        refine XS.lloadN X26.here hx rfl (hb hby at_101) rfl ?_
        show Steps p.tables e below (T26.setTop (mkF m 102 #[.val (.int q0), .val (.int q1), .val (.int q2), .val (.long q3), .second, .val (.int (0 : Int32)), .val (.int (1 : Int32)), .val (.int (32 : Int32)), .val (.ref a18), .val (.int v19), .val (.int v22), .val (.ref a24), .unset, .unset] [(.long q3), (.ref a26), (.ref a26)])) _
        refine X26.ldc2Long hx hown (mvT hZ (hw _ (List.mem_of_getElem? (i := 18) rfl))) (g := (mkF m 102 #[.val (.int q0), .val (.int q1), .val (.int q2), .val (.long q3), .second, .val (.int (0 : Int32)), .val (.int (1 : Int32)), .val (.int (32 : Int32)), .val (.ref a18), .val (.int v19), .val (.int v22), .val (.ref a24), .unset, .unset] [(.long q3), (.ref a26), (.ref a26)])) rfl (hb hby at_102) _ ?_
        show Steps p.tables e below (T26.setTop (mkF m 105 #[.val (.int q0), .val (.int q1), .val (.int q2), .val (.long q3), .second, .val (.int (0 : Int32)), .val (.int (1 : Int32)), .val (.int (32 : Int32)), .val (.ref a18), .val (.int v19), .val (.int v22), .val (.ref a24), .unset, .unset] [(.long (4294967295 : Int64)), (.long q3), (.ref a26), (.ref a26)])) _
        refine XS.land X26.here hx rfl (hb hby at_105) rfl ?_
        show Steps p.tables e below (T26.setTop (mkF m 106 #[.val (.int q0), .val (.int q1), .val (.int q2), .val (.long q3), .second, .val (.int (0 : Int32)), .val (.int (1 : Int32)), .val (.int (32 : Int32)), .val (.ref a18), .val (.int v19), .val (.int v22), .val (.ref a24), .unset, .unset] [(.long (q3 &&& (4294967295 : Int64))), (.ref a26), (.ref a26)])) _
        refine XS.aload X26.here hx rfl (hb hby at_106) rfl rfl ?_
        show Steps p.tables e below (T26.setTop (mkF m 108 #[.val (.int q0), .val (.int q1), .val (.int q2), .val (.long q3), .second, .val (.int (0 : Int32)), .val (.int (1 : Int32)), .val (.int (32 : Int32)), .val (.ref a18), .val (.int v19), .val (.int v22), .val (.ref a24), .unset, .unset] [(.ref a24), (.long (q3 &&& (4294967295 : Int64))), (.ref a26), (.ref a26)])) _
        refine XS.iload X26.here hx rfl (hb hby at_108) rfl ?_
        show Steps p.tables e below (T26.setTop (mkF m 110 #[.val (.int q0), .val (.int q1), .val (.int q2), .val (.long q3), .second, .val (.int (0 : Int32)), .val (.int (1 : Int32)), .val (.int (32 : Int32)), .val (.ref a18), .val (.int v19), .val (.int v22), .val (.ref a24), .unset, .unset] [(.int (1 : Int32)), (.ref a24), (.long (q3 &&& (4294967295 : Int64))), (.ref a26), (.ref a26)])) _
        refine XS.ifNo X26.here hx rfl (hb hby at_110) rfl (by decide) ?_
        show Steps p.tables e below (T26.setTop (mkF m 113 #[.val (.int q0), .val (.int q1), .val (.int q2), .val (.long q3), .second, .val (.int (0 : Int32)), .val (.int (1 : Int32)), .val (.int (32 : Int32)), .val (.ref a18), .val (.int v19), .val (.int v22), .val (.ref a24), .unset, .unset] [(.ref a24), (.long (q3 &&& (4294967295 : Int64))), (.ref a26), (.ref a26)])) _
        refine XS.iload X26.here hx rfl (hb hby at_113) rfl ?_
        show Steps p.tables e below (T26.setTop (mkF m 115 #[.val (.int q0), .val (.int q1), .val (.int q2), .val (.long q3), .second, .val (.int (0 : Int32)), .val (.int (1 : Int32)), .val (.int (32 : Int32)), .val (.ref a18), .val (.int v19), .val (.int v22), .val (.ref a24), .unset, .unset] [(.int v22), (.ref a24), (.long (q3 &&& (4294967295 : Int64))), (.ref a26), (.ref a26)])) _
        refine XS.goto X26.here hx rfl (pc0 := 115) (pc' := 119) rfl (hb hby at_115) (by decide) (by decide) ?_
        show Steps p.tables e below (T26.setTop (mkF m 119 #[.val (.int q0), .val (.int q1), .val (.int q2), .val (.long q3), .second, .val (.int (0 : Int32)), .val (.int (1 : Int32)), .val (.int (32 : Int32)), .val (.ref a18), .val (.int v19), .val (.int v22), .val (.ref a24), .unset, .unset] [(.int v22), (.ref a24), (.long (q3 &&& (4294967295 : Int64))), (.ref a26), (.ref a26)])) _
        refine st27.trans ?_
        show Steps p.tables e below (T27.setTop (mkF m 122 #[.val (.int q0), .val (.int q1), .val (.int q2), .val (.long q3), .second, .val (.int (0 : Int32)), .val (.int (1 : Int32)), .val (.int (32 : Int32)), .val (.ref a18), .val (.int v19), .val (.int v22), .val (.ref a24), .unset, .unset] [(.ref a26)])) _
        refine XS.astore X27.here hx rfl (hb hby at_122) rfl rfl (l' := #[.val (.int q0), .val (.int q1), .val (.int q2), .val (.long q3), .second, .val (.int (0 : Int32)), .val (.int (1 : Int32)), .val (.int (32 : Int32)), .val (.ref a18), .val (.int v19), .val (.int v22), .val (.ref a24), .val (.ref a26), .unset]) rfl ?_
        show Steps p.tables e below (T27.setTop (mkF m 124 #[.val (.int q0), .val (.int q1), .val (.int q2), .val (.long q3), .second, .val (.int (0 : Int32)), .val (.int (1 : Int32)), .val (.int (32 : Int32)), .val (.ref a18), .val (.int v19), .val (.int v22), .val (.ref a24), .val (.ref a26), .unset] [])) _
        refine XS.iload X27.here hx rfl (hb hby at_124) rfl ?_
        show Steps p.tables e below (T27.setTop (mkF m 126 #[.val (.int q0), .val (.int q1), .val (.int q2), .val (.long q3), .second, .val (.int (0 : Int32)), .val (.int (1 : Int32)), .val (.int (32 : Int32)), .val (.ref a18), .val (.int v19), .val (.int v22), .val (.ref a24), .val (.ref a26), .unset] [(.int (1 : Int32))])) _
        refine XS.ifNo X27.here hx rfl (hb hby at_126) rfl (by decide) ?_
        show Steps p.tables e below (T27.setTop (mkF m 129 #[.val (.int q0), .val (.int q1), .val (.int q2), .val (.long q3), .second, .val (.int (0 : Int32)), .val (.int (1 : Int32)), .val (.int (32 : Int32)), .val (.ref a18), .val (.int v19), .val (.int v22), .val (.ref a24), .val (.ref a26), .unset] [])) _
        refine XS.iload X27.here hx rfl (hb hby at_129) rfl ?_
        show Steps p.tables e below (T27.setTop (mkF m 131 #[.val (.int q0), .val (.int q1), .val (.int q2), .val (.long q3), .second, .val (.int (0 : Int32)), .val (.int (1 : Int32)), .val (.int (32 : Int32)), .val (.ref a18), .val (.int v19), .val (.int v22), .val (.ref a24), .val (.ref a26), .unset] [(.int v22)])) _
        refine XS.goto X27.here hx rfl (pc0 := 131) (pc' := 136) rfl (hb hby at_131) (by decide) (by decide) ?_
        show Steps p.tables e below (T27.setTop (mkF m 136 #[.val (.int q0), .val (.int q1), .val (.int q2), .val (.long q3), .second, .val (.int (0 : Int32)), .val (.int (1 : Int32)), .val (.int (32 : Int32)), .val (.ref a18), .val (.int v19), .val (.int v22), .val (.ref a24), .val (.ref a26), .unset] [(.int v22)])) _
        refine XS.istore X27.here hx rfl (hb hby at_136) rfl (l' := #[.val (.int q0), .val (.int q1), .val (.int q2), .val (.long q3), .second, .val (.int (0 : Int32)), .val (.int (1 : Int32)), .val (.int (32 : Int32)), .val (.ref a18), .val (.int v19), .val (.int v22), .val (.ref a24), .val (.ref a26), .val (.int v22)]) rfl ?_
        show Steps p.tables e below (T27.setTop (mkF m 138 #[.val (.int q0), .val (.int q1), .val (.int q2), .val (.long q3), .second, .val (.int (0 : Int32)), .val (.int (1 : Int32)), .val (.int (32 : Int32)), .val (.ref a18), .val (.int v19), .val (.int v22), .val (.ref a24), .val (.ref a26), .val (.int v22)] [])) _
        refine XS.aload X27.here hx rfl (hb hby at_138) rfl rfl ?_
        show Steps p.tables e below (T27.setTop (mkF m 140 #[.val (.int q0), .val (.int q1), .val (.int q2), .val (.long q3), .second, .val (.int (0 : Int32)), .val (.int (1 : Int32)), .val (.int (32 : Int32)), .val (.ref a18), .val (.int v19), .val (.int v22), .val (.ref a24), .val (.ref a26), .val (.int v22)] [(.ref a26)])) _
        refine st28.trans ?_
        show Steps p.tables e below (T28.setTop (mkF m 143 #[.val (.int q0), .val (.int q1), .val (.int q2), .val (.long q3), .second, .val (.int (0 : Int32)), .val (.int (1 : Int32)), .val (.int (32 : Int32)), .val (.ref a18), .val (.int v19), .val (.int v22), .val (.ref a24), .val (.ref a26), .val (.int v22)] [(.int (own_f4  v22 v19))])) _
        refine XS.iload X28.here hx rfl (hb hby at_143) rfl ?_
        exact k
      by_cases c30 : (own_f4  v22 v19) = v22
      · obtain ⟨fs, hr, hrun, hended, hW, hsame⟩ := X28.leave (v := some (.int (1 : Int32))) (fun h => by rw [Bd.returns] at h; cases h) hlk
        refine ⟨_, _, pre29 _ ?_, hrun, hended, _, _, rfl, ?_, ⟨_, rfl⟩, hW, hsame.mono (by decide) (by decide)⟩
        · show Steps p.tables e below (T28.setTop (mkF m 145 #[.val (.int q0), .val (.int q1), .val (.int q2), .val (.long q3), .second, .val (.int (0 : Int32)), .val (.int (1 : Int32)), .val (.int (32 : Int32)), .val (.ref a18), .val (.int v19), .val (.int v22), .val (.ref a24), .val (.ref a26), .val (.int v22)] [(.int v22), (.int (own_f4  v22 v19))])) _
          refine XS.icmpNo X28.here hx rfl (hb hby at_145) rfl ((teq c30).2) ?_
          show Steps p.tables e below (T28.setTop (mkF m 148 #[.val (.int q0), .val (.int q1), .val (.int q2), .val (.long q3), .second, .val (.int (0 : Int32)), .val (.int (1 : Int32)), .val (.int (32 : Int32)), .val (.ref a18), .val (.int v19), .val (.int v22), .val (.ref a24), .val (.ref a26), .val (.int v22)] [])) _
          refine XS.iconst X28.here hx rfl (hb hby at_148) ?_
          show Steps p.tables e below (T28.setTop (mkF m 149 #[.val (.int q0), .val (.int q1), .val (.int q2), .val (.long q3), .second, .val (.int (0 : Int32)), .val (.int (1 : Int32)), .val (.int (32 : Int32)), .val (.ref a18), .val (.int v19), .val (.int v22), .val (.ref a24), .val (.ref a26), .val (.int v22)] [(.int (1 : Int32))])) _
          refine XS.goto X28.here hx rfl (pc0 := 149) (pc' := 153) rfl (hb hby at_149) (by decide) (by decide) ?_
          show Steps p.tables e below (T28.setTop (mkF m 153 #[.val (.int q0), .val (.int q1), .val (.int q2), .val (.long q3), .second, .val (.int (0 : Int32)), .val (.int (1 : Int32)), .val (.int (32 : Int32)), .val (.ref a18), .val (.int v19), .val (.int v22), .val (.ref a24), .val (.ref a26), .val (.int v22)] [(.int (1 : Int32))])) _
          exact retN X28 hx (t := .boolean) Bd.returns (by simp) (hb hby at_153) hr
        · show Q0 Z q0 q1 q2 q3 h0 n0 _ T28.heap _
          rw [e28]
          exact ⟨by have w_hv22 := hv22.symm; subst w_hv22; have w_hv19 := hv19.symm; subst w_hv19; simp only [own_f0, if_pos c2, if_neg c4, if_pos c30], N28⟩
      · obtain ⟨fs, hr, hrun, hended, hW, hsame⟩ := X28.leave (v := some (.int (0 : Int32))) (fun h => by rw [Bd.returns] at h; cases h) hlk
        refine ⟨_, _, pre29 _ ?_, hrun, hended, _, _, rfl, ?_, ⟨_, rfl⟩, hW, hsame.mono (by decide) (by decide)⟩
        · show Steps p.tables e below (T28.setTop (mkF m 145 #[.val (.int q0), .val (.int q1), .val (.int q2), .val (.long q3), .second, .val (.int (0 : Int32)), .val (.int (1 : Int32)), .val (.int (32 : Int32)), .val (.ref a18), .val (.int v19), .val (.int v22), .val (.ref a24), .val (.ref a26), .val (.int v22)] [(.int v22), (.int (own_f4  v22 v19))])) _
          refine XS.icmpYes X28.here hx rfl (pc0 := 145) (pc' := 152) rfl (hb hby at_145) rfl ((feq c30).2) (by decide) (by decide) ?_
          show Steps p.tables e below (T28.setTop (mkF m 152 #[.val (.int q0), .val (.int q1), .val (.int q2), .val (.long q3), .second, .val (.int (0 : Int32)), .val (.int (1 : Int32)), .val (.int (32 : Int32)), .val (.ref a18), .val (.int v19), .val (.int v22), .val (.ref a24), .val (.ref a26), .val (.int v22)] [])) _
          refine XS.iconst X28.here hx rfl (hb hby at_152) ?_
          show Steps p.tables e below (T28.setTop (mkF m 153 #[.val (.int q0), .val (.int q1), .val (.int q2), .val (.long q3), .second, .val (.int (0 : Int32)), .val (.int (1 : Int32)), .val (.int (32 : Int32)), .val (.ref a18), .val (.int v19), .val (.int v22), .val (.ref a24), .val (.ref a26), .val (.int v22)] [(.int (0 : Int32))])) _
          exact retN X28 hx (t := .boolean) Bd.returns (by simp) (hb hby at_153) hr
        · show Q0 Z q0 q1 q2 q3 h0 n0 _ T28.heap _
          rw [e28]
          exact ⟨by have w_hv22 := hv22.symm; subst w_hv22; have w_hv19 := hv19.symm; subst w_hv19; simp only [own_f0, if_pos c2, if_neg c4, if_neg c30], N28⟩
  · have pre31 : ∀ t, Steps p.tables e below (s₁.setTop (mkF m 16 #[.val (.int q0), .val (.int q1), .val (.int q2), .val (.long q3), .second, .val (.int (1 : Int32)), .unset, .unset, .unset, .unset, .unset, .unset, .unset, .unset] [(.int (q0 &&& (2 : Int32)))])) t → Steps p.tables e below (s₁.setTop (entryFrame m #[(.int q0), (.int q1), (.int q2), (.long q3)] maxLocals)) t := by
      intro t k
      refine pre1 t ?_
      show Steps p.tables e below (s₁.setTop (mkF m 3 #[.val (.int q0), .val (.int q1), .val (.int q2), .val (.long q3), .second, .unset, .unset, .unset, .unset, .unset, .unset, .unset, .unset, .unset] [(.int (q0 &&& (1 : Int32)))])) _
      refine XS.ifNo X0.here hx rfl (hb hby at_3) rfl ((if0 _ _).trans (feq c2).1) ?_
      show Steps p.tables e below (s₁.setTop (mkF m 6 #[.val (.int q0), .val (.int q1), .val (.int q2), .val (.long q3), .second, .unset, .unset, .unset, .unset, .unset, .unset, .unset, .unset, .unset] [])) _
      refine XS.iconst X0.here hx rfl (hb hby at_6) ?_
      show Steps p.tables e below (s₁.setTop (mkF m 7 #[.val (.int q0), .val (.int q1), .val (.int q2), .val (.long q3), .second, .unset, .unset, .unset, .unset, .unset, .unset, .unset, .unset, .unset] [(.int (1 : Int32))])) _
      refine XS.goto X0.here hx rfl (pc0 := 7) (pc' := 11) rfl (hb hby at_7) (by decide) (by decide) ?_
      show Steps p.tables e below (s₁.setTop (mkF m 11 #[.val (.int q0), .val (.int q1), .val (.int q2), .val (.long q3), .second, .unset, .unset, .unset, .unset, .unset, .unset, .unset, .unset, .unset] [(.int (1 : Int32))])) _
      refine XS.istore X0.here hx rfl (hb hby at_11) rfl (l' := #[.val (.int q0), .val (.int q1), .val (.int q2), .val (.long q3), .second, .val (.int (1 : Int32)), .unset, .unset, .unset, .unset, .unset, .unset, .unset, .unset]) rfl ?_
      show Steps p.tables e below (s₁.setTop (mkF m 13 #[.val (.int q0), .val (.int q1), .val (.int q2), .val (.long q3), .second, .val (.int (1 : Int32)), .unset, .unset, .unset, .unset, .unset, .unset, .unset, .unset] [])) _
      refine XS.iloadN X0.here hx rfl (hb hby at_13) rfl ?_
      show Steps p.tables e below (s₁.setTop (mkF m 14 #[.val (.int q0), .val (.int q1), .val (.int q2), .val (.long q3), .second, .val (.int (1 : Int32)), .unset, .unset, .unset, .unset, .unset, .unset, .unset, .unset] [(.int q0)])) _
      refine XS.iconst X0.here hx rfl (hb hby at_14) ?_
      show Steps p.tables e below (s₁.setTop (mkF m 15 #[.val (.int q0), .val (.int q1), .val (.int q2), .val (.long q3), .second, .val (.int (1 : Int32)), .unset, .unset, .unset, .unset, .unset, .unset, .unset, .unset] [(.int (2 : Int32)), (.int q0)])) _
      refine XS.iand X0.here hx rfl (hb hby at_15) rfl ?_
      exact k
    by_cases c32 : (q0 &&& (2 : Int32)) = (0 : Int32)
    · obtain ⟨T33, h33, cA33, X33, e33, E33, A33, st33⟩ := newP X0 hx hZ (aty := .byte) (hw _ (List.mem_of_getElem? (i := 0) rfl)) e0 (g := (mkF m 52 #[.val (.int q0), .val (.int q1), .val (.int q2), .val (.long q3), .second, .val (.int (1 : Int32)), .val (.int (0 : Int32)), .val (.int (128 : Int32)), .unset, .unset, .unset, .unset, .unset, .unset] [(.int (16 : Int32))])) rfl (hb hby at_52) rfl (by decide) (cap := 16) (by decide) (by decide) (by decide) (by decide)
      obtain ⟨a33, g33⟩ : ∃ z, z = h0.size := ⟨_, rfl⟩
      rw [← g33] at A33 st33
      have ge_a33 : n0 ≤ a33 := g33 ▸ Z0
      have sz33 : n0 ≤ h33.size := Nat.le_trans Z0 E33.1
      have V33_n : own_AI Z h33 a33 .byte [(0 : Int32), (0 : Int32), (0 : Int32), (0 : Int32), (0 : Int32), (0 : Int32), (0 : Int32), (0 : Int32), (0 : Int32), (0 : Int32), (0 : Int32), (0 : Int32), (0 : Int32), (0 : Int32), (0 : Int32), (0 : Int32)] := own_AIbyte_new A33 (k := 16) (by decide)
      obtain ⟨v34, hv34⟩ : ∃ z : Int32, z = ((q1 &&& (2147483647 : Int32)) % (129 : Int32)) := ⟨_, rfl⟩
      have pre35 : ∀ t, Steps p.tables e below (T33.setTop (mkF m 65 #[.val (.int q0), .val (.int q1), .val (.int q2), .val (.long q3), .second, .val (.int (1 : Int32)), .val (.int (0 : Int32)), .val (.int (128 : Int32)), .val (.ref a33), .unset, .unset, .unset, .unset, .unset] [(.int v34)])) t → Steps p.tables e below (s₁.setTop (entryFrame m #[(.int q0), (.int q1), (.int q2), (.long q3)] maxLocals)) t := by
        rw [hv34]
        intro t k
        refine pre31 t ?_
        show Steps p.tables e below (s₁.setTop (mkF m 16 #[.val (.int q0), .val (.int q1), .val (.int q2), .val (.long q3), .second, .val (.int (1 : Int32)), .unset, .unset, .unset, .unset, .unset, .unset, .unset, .unset] [(.int (q0 &&& (2 : Int32)))])) _
        refine XS.ifYes X0.here hx rfl (pc0 := 16) (pc' := 23) rfl (hb hby at_16) rfl ((if0 _ _).trans (teq c32).1) (by decide) (by decide) ?_
        show Steps p.tables e below (s₁.setTop (mkF m 23 #[.val (.int q0), .val (.int q1), .val (.int q2), .val (.long q3), .second, .val (.int (1 : Int32)), .unset, .unset, .unset, .unset, .unset, .unset, .unset, .unset] [])) _
        refine XS.iconst X0.here hx rfl (hb hby at_23) ?_
        show Steps p.tables e below (s₁.setTop (mkF m 24 #[.val (.int q0), .val (.int q1), .val (.int q2), .val (.long q3), .second, .val (.int (1 : Int32)), .unset, .unset, .unset, .unset, .unset, .unset, .unset, .unset] [(.int (0 : Int32))])) _
        refine XS.istore X0.here hx rfl (hb hby at_24) rfl (l' := #[.val (.int q0), .val (.int q1), .val (.int q2), .val (.long q3), .second, .val (.int (1 : Int32)), .val (.int (0 : Int32)), .unset, .unset, .unset, .unset, .unset, .unset, .unset]) rfl ?_
        show Steps p.tables e below (s₁.setTop (mkF m 26 #[.val (.int q0), .val (.int q1), .val (.int q2), .val (.long q3), .second, .val (.int (1 : Int32)), .val (.int (0 : Int32)), .unset, .unset, .unset, .unset, .unset, .unset, .unset] [])) _
        refine XS.iload X0.here hx rfl (hb hby at_26) rfl ?_
        show Steps p.tables e below (s₁.setTop (mkF m 28 #[.val (.int q0), .val (.int q1), .val (.int q2), .val (.long q3), .second, .val (.int (1 : Int32)), .val (.int (0 : Int32)), .unset, .unset, .unset, .unset, .unset, .unset, .unset] [(.int (1 : Int32))])) _
        refine XS.ifNo X0.here hx rfl (hb hby at_28) rfl (by decide) ?_
        show Steps p.tables e below (s₁.setTop (mkF m 31 #[.val (.int q0), .val (.int q1), .val (.int q2), .val (.long q3), .second, .val (.int (1 : Int32)), .val (.int (0 : Int32)), .unset, .unset, .unset, .unset, .unset, .unset, .unset] [])) _
        refine XS.sipush X0.here hx rfl (hb hby at_31) ?_
        show Steps p.tables e below (s₁.setTop (mkF m 34 #[.val (.int q0), .val (.int q1), .val (.int q2), .val (.long q3), .second, .val (.int (1 : Int32)), .val (.int (0 : Int32)), .unset, .unset, .unset, .unset, .unset, .unset, .unset] [(.int (128 : Int32))])) _
        refine XS.goto X0.here hx rfl (pc0 := 34) (pc' := 39) rfl (hb hby at_34) (by decide) (by decide) ?_
        show Steps p.tables e below (s₁.setTop (mkF m 39 #[.val (.int q0), .val (.int q1), .val (.int q2), .val (.long q3), .second, .val (.int (1 : Int32)), .val (.int (0 : Int32)), .unset, .unset, .unset, .unset, .unset, .unset, .unset] [(.int (128 : Int32))])) _
        refine XS.istore X0.here hx rfl (hb hby at_39) rfl (l' := #[.val (.int q0), .val (.int q1), .val (.int q2), .val (.long q3), .second, .val (.int (1 : Int32)), .val (.int (0 : Int32)), .val (.int (128 : Int32)), .unset, .unset, .unset, .unset, .unset, .unset]) rfl ?_
        show Steps p.tables e below (s₁.setTop (mkF m 41 #[.val (.int q0), .val (.int q1), .val (.int q2), .val (.long q3), .second, .val (.int (1 : Int32)), .val (.int (0 : Int32)), .val (.int (128 : Int32)), .unset, .unset, .unset, .unset, .unset, .unset] [])) _
        refine XS.iload X0.here hx rfl (hb hby at_41) rfl ?_
        show Steps p.tables e below (s₁.setTop (mkF m 43 #[.val (.int q0), .val (.int q1), .val (.int q2), .val (.long q3), .second, .val (.int (1 : Int32)), .val (.int (0 : Int32)), .val (.int (128 : Int32)), .unset, .unset, .unset, .unset, .unset, .unset] [(.int (1 : Int32))])) _
        refine XS.ifNo X0.here hx rfl (hb hby at_43) rfl (by decide) ?_
        show Steps p.tables e below (s₁.setTop (mkF m 46 #[.val (.int q0), .val (.int q1), .val (.int q2), .val (.long q3), .second, .val (.int (1 : Int32)), .val (.int (0 : Int32)), .val (.int (128 : Int32)), .unset, .unset, .unset, .unset, .unset, .unset] [])) _
        refine XS.bipush X0.here hx rfl (hb hby at_46) ?_
        show Steps p.tables e below (s₁.setTop (mkF m 48 #[.val (.int q0), .val (.int q1), .val (.int q2), .val (.long q3), .second, .val (.int (1 : Int32)), .val (.int (0 : Int32)), .val (.int (128 : Int32)), .unset, .unset, .unset, .unset, .unset, .unset] [(.int (16 : Int32))])) _
        refine XS.goto X0.here hx rfl (pc0 := 48) (pc' := 52) rfl (hb hby at_48) (by decide) (by decide) ?_
        show Steps p.tables e below (s₁.setTop (mkF m 52 #[.val (.int q0), .val (.int q1), .val (.int q2), .val (.long q3), .second, .val (.int (1 : Int32)), .val (.int (0 : Int32)), .val (.int (128 : Int32)), .unset, .unset, .unset, .unset, .unset, .unset] [(.int (16 : Int32))])) _
        refine st33 _ ?_
        show Steps p.tables e below (T33.setTop (mkF m 54 #[.val (.int q0), .val (.int q1), .val (.int q2), .val (.long q3), .second, .val (.int (1 : Int32)), .val (.int (0 : Int32)), .val (.int (128 : Int32)), .unset, .unset, .unset, .unset, .unset, .unset] [(.ref a33)])) _
        refine XS.astore X33.here hx rfl (hb hby at_54) rfl rfl (l' := #[.val (.int q0), .val (.int q1), .val (.int q2), .val (.long q3), .second, .val (.int (1 : Int32)), .val (.int (0 : Int32)), .val (.int (128 : Int32)), .val (.ref a33), .unset, .unset, .unset, .unset, .unset]) rfl ?_
        show Steps p.tables e below (T33.setTop (mkF m 56 #[.val (.int q0), .val (.int q1), .val (.int q2), .val (.long q3), .second, .val (.int (1 : Int32)), .val (.int (0 : Int32)), .val (.int (128 : Int32)), .val (.ref a33), .unset, .unset, .unset, .unset, .unset] [])) _
        refine XS.iloadN X33.here hx rfl (hb hby at_56) rfl ?_
        show Steps p.tables e below (T33.setTop (mkF m 57 #[.val (.int q0), .val (.int q1), .val (.int q2), .val (.long q3), .second, .val (.int (1 : Int32)), .val (.int (0 : Int32)), .val (.int (128 : Int32)), .val (.ref a33), .unset, .unset, .unset, .unset, .unset] [(.int q1)])) _
        refine X33.ldcInt hx hown (mvT hZ (hw _ (List.mem_of_getElem? (i := 1) rfl))) (g := (mkF m 57 #[.val (.int q0), .val (.int q1), .val (.int q2), .val (.long q3), .second, .val (.int (1 : Int32)), .val (.int (0 : Int32)), .val (.int (128 : Int32)), .val (.ref a33), .unset, .unset, .unset, .unset, .unset] [(.int q1)])) rfl (hb hby at_57) _ ?_
        show Steps p.tables e below (T33.setTop (mkF m 59 #[.val (.int q0), .val (.int q1), .val (.int q2), .val (.long q3), .second, .val (.int (1 : Int32)), .val (.int (0 : Int32)), .val (.int (128 : Int32)), .val (.ref a33), .unset, .unset, .unset, .unset, .unset] [(.int (2147483647 : Int32)), (.int q1)])) _
        refine XS.iand X33.here hx rfl (hb hby at_59) rfl ?_
        show Steps p.tables e below (T33.setTop (mkF m 60 #[.val (.int q0), .val (.int q1), .val (.int q2), .val (.long q3), .second, .val (.int (1 : Int32)), .val (.int (0 : Int32)), .val (.int (128 : Int32)), .val (.ref a33), .unset, .unset, .unset, .unset, .unset] [(.int (q1 &&& (2147483647 : Int32)))])) _
        refine XS.iload X33.here hx rfl (hb hby at_60) rfl ?_
        show Steps p.tables e below (T33.setTop (mkF m 62 #[.val (.int q0), .val (.int q1), .val (.int q2), .val (.long q3), .second, .val (.int (1 : Int32)), .val (.int (0 : Int32)), .val (.int (128 : Int32)), .val (.ref a33), .unset, .unset, .unset, .unset, .unset] [(.int (128 : Int32)), (.int (q1 &&& (2147483647 : Int32)))])) _
        refine XS.iconst X33.here hx rfl (hb hby at_62) ?_
        show Steps p.tables e below (T33.setTop (mkF m 63 #[.val (.int q0), .val (.int q1), .val (.int q2), .val (.long q3), .second, .val (.int (1 : Int32)), .val (.int (0 : Int32)), .val (.int (128 : Int32)), .val (.ref a33), .unset, .unset, .unset, .unset, .unset] [(.int (1 : Int32)), (.int (128 : Int32)), (.int (q1 &&& (2147483647 : Int32)))])) _
        refine XS.iadd X33.here hx rfl (hb hby at_63) rfl ?_
        show Steps p.tables e below (T33.setTop (mkF m 64 #[.val (.int q0), .val (.int q1), .val (.int q2), .val (.long q3), .second, .val (.int (1 : Int32)), .val (.int (0 : Int32)), .val (.int (128 : Int32)), .val (.ref a33), .unset, .unset, .unset, .unset, .unset] [(.int (129 : Int32)), (.int (q1 &&& (2147483647 : Int32)))])) _
        refine iremM X33 hx rfl (hb hby at_64) rfl (by decide) ?_
        exact k
      have nz_80_36 : ¬ ((((128 : Int32) - v34) + (1 : Int32)) = (0 : Int32)) := (own_nzT (by assumption) (by decide))
      obtain ⟨v37, hv37⟩ : ∃ z : Int32, z = (v34 + ((q2 &&& (2147483647 : Int32)) % (((128 : Int32) - v34) + (1 : Int32)))) := ⟨_, rfl⟩
      have pre38 : ∀ t, Steps p.tables e below (T33.setTop (mkF m 82 #[.val (.int q0), .val (.int q1), .val (.int q2), .val (.long q3), .second, .val (.int (1 : Int32)), .val (.int (0 : Int32)), .val (.int (128 : Int32)), .val (.ref a33), .val (.int v34), .unset, .unset, .unset, .unset] [(.int v37)])) t → Steps p.tables e below (s₁.setTop (entryFrame m #[(.int q0), (.int q1), (.int q2), (.long q3)] maxLocals)) t := by
        rw [hv37]
        intro t k
        refine pre35 t ?_
        show Steps p.tables e below (T33.setTop (mkF m 65 #[.val (.int q0), .val (.int q1), .val (.int q2), .val (.long q3), .second, .val (.int (1 : Int32)), .val (.int (0 : Int32)), .val (.int (128 : Int32)), .val (.ref a33), .unset, .unset, .unset, .unset, .unset] [(.int v34)])) _
        refine XS.istore X33.here hx rfl (hb hby at_65) rfl (l' := #[.val (.int q0), .val (.int q1), .val (.int q2), .val (.long q3), .second, .val (.int (1 : Int32)), .val (.int (0 : Int32)), .val (.int (128 : Int32)), .val (.ref a33), .val (.int v34), .unset, .unset, .unset, .unset]) rfl ?_
        show Steps p.tables e below (T33.setTop (mkF m 67 #[.val (.int q0), .val (.int q1), .val (.int q2), .val (.long q3), .second, .val (.int (1 : Int32)), .val (.int (0 : Int32)), .val (.int (128 : Int32)), .val (.ref a33), .val (.int v34), .unset, .unset, .unset, .unset] [])) _
        refine XS.iload X33.here hx rfl (hb hby at_67) rfl ?_
        show Steps p.tables e below (T33.setTop (mkF m 69 #[.val (.int q0), .val (.int q1), .val (.int q2), .val (.long q3), .second, .val (.int (1 : Int32)), .val (.int (0 : Int32)), .val (.int (128 : Int32)), .val (.ref a33), .val (.int v34), .unset, .unset, .unset, .unset] [(.int v34)])) _
        refine XS.iloadN X33.here hx rfl (hb hby at_69) rfl ?_
        show Steps p.tables e below (T33.setTop (mkF m 70 #[.val (.int q0), .val (.int q1), .val (.int q2), .val (.long q3), .second, .val (.int (1 : Int32)), .val (.int (0 : Int32)), .val (.int (128 : Int32)), .val (.ref a33), .val (.int v34), .unset, .unset, .unset, .unset] [(.int q2), (.int v34)])) _
        refine X33.ldcInt hx hown (mvT hZ (hw _ (List.mem_of_getElem? (i := 1) rfl))) (g := (mkF m 70 #[.val (.int q0), .val (.int q1), .val (.int q2), .val (.long q3), .second, .val (.int (1 : Int32)), .val (.int (0 : Int32)), .val (.int (128 : Int32)), .val (.ref a33), .val (.int v34), .unset, .unset, .unset, .unset] [(.int q2), (.int v34)])) rfl (hb hby at_70) _ ?_
        show Steps p.tables e below (T33.setTop (mkF m 72 #[.val (.int q0), .val (.int q1), .val (.int q2), .val (.long q3), .second, .val (.int (1 : Int32)), .val (.int (0 : Int32)), .val (.int (128 : Int32)), .val (.ref a33), .val (.int v34), .unset, .unset, .unset, .unset] [(.int (2147483647 : Int32)), (.int q2), (.int v34)])) _
        refine XS.iand X33.here hx rfl (hb hby at_72) rfl ?_
        show Steps p.tables e below (T33.setTop (mkF m 73 #[.val (.int q0), .val (.int q1), .val (.int q2), .val (.long q3), .second, .val (.int (1 : Int32)), .val (.int (0 : Int32)), .val (.int (128 : Int32)), .val (.ref a33), .val (.int v34), .unset, .unset, .unset, .unset] [(.int (q2 &&& (2147483647 : Int32))), (.int v34)])) _
        refine XS.iload X33.here hx rfl (hb hby at_73) rfl ?_
        show Steps p.tables e below (T33.setTop (mkF m 75 #[.val (.int q0), .val (.int q1), .val (.int q2), .val (.long q3), .second, .val (.int (1 : Int32)), .val (.int (0 : Int32)), .val (.int (128 : Int32)), .val (.ref a33), .val (.int v34), .unset, .unset, .unset, .unset] [(.int (128 : Int32)), (.int (q2 &&& (2147483647 : Int32))), (.int v34)])) _
        refine XS.iload X33.here hx rfl (hb hby at_75) rfl ?_
        show Steps p.tables e below (T33.setTop (mkF m 77 #[.val (.int q0), .val (.int q1), .val (.int q2), .val (.long q3), .second, .val (.int (1 : Int32)), .val (.int (0 : Int32)), .val (.int (128 : Int32)), .val (.ref a33), .val (.int v34), .unset, .unset, .unset, .unset] [(.int v34), (.int (128 : Int32)), (.int (q2 &&& (2147483647 : Int32))), (.int v34)])) _
        refine XS.isub X33.here hx rfl (hb hby at_77) rfl ?_
        show Steps p.tables e below (T33.setTop (mkF m 78 #[.val (.int q0), .val (.int q1), .val (.int q2), .val (.long q3), .second, .val (.int (1 : Int32)), .val (.int (0 : Int32)), .val (.int (128 : Int32)), .val (.ref a33), .val (.int v34), .unset, .unset, .unset, .unset] [(.int ((128 : Int32) - v34)), (.int (q2 &&& (2147483647 : Int32))), (.int v34)])) _
        refine XS.iconst X33.here hx rfl (hb hby at_78) ?_
        show Steps p.tables e below (T33.setTop (mkF m 79 #[.val (.int q0), .val (.int q1), .val (.int q2), .val (.long q3), .second, .val (.int (1 : Int32)), .val (.int (0 : Int32)), .val (.int (128 : Int32)), .val (.ref a33), .val (.int v34), .unset, .unset, .unset, .unset] [(.int (1 : Int32)), (.int ((128 : Int32) - v34)), (.int (q2 &&& (2147483647 : Int32))), (.int v34)])) _
        refine XS.iadd X33.here hx rfl (hb hby at_79) rfl ?_
        show Steps p.tables e below (T33.setTop (mkF m 80 #[.val (.int q0), .val (.int q1), .val (.int q2), .val (.long q3), .second, .val (.int (1 : Int32)), .val (.int (0 : Int32)), .val (.int (128 : Int32)), .val (.ref a33), .val (.int v34), .unset, .unset, .unset, .unset] [(.int (((128 : Int32) - v34) + (1 : Int32))), (.int (q2 &&& (2147483647 : Int32))), (.int v34)])) _
        refine iremM X33 hx rfl (hb hby at_80) rfl nz_80_36 ?_
        show Steps p.tables e below (T33.setTop (mkF m 81 #[.val (.int q0), .val (.int q1), .val (.int q2), .val (.long q3), .second, .val (.int (1 : Int32)), .val (.int (0 : Int32)), .val (.int (128 : Int32)), .val (.ref a33), .val (.int v34), .unset, .unset, .unset, .unset] [(.int ((q2 &&& (2147483647 : Int32)) % (((128 : Int32) - v34) + (1 : Int32)))), (.int v34)])) _
        refine XS.iadd X33.here hx rfl (hb hby at_81) rfl ?_
        exact k
      obtain ⟨T39, h39, X39, e39, E39, A39, D39, -, st39⟩ := newO X33 hx hZ hown (hw _ (List.mem_of_getElem? (i := 2) rfl)) (hw _ (List.mem_of_getElem? (i := 3) rfl)) (hw _ (List.mem_of_getElem? (i := 4) rfl)) e33 (g := (mkF m 84 #[.val (.int q0), .val (.int q1), .val (.int q2), .val (.long q3), .second, .val (.int (1 : Int32)), .val (.int (0 : Int32)), .val (.int (128 : Int32)), .val (.ref a33), .val (.int v34), .val (.int v37), .unset, .unset, .unset] [])) rfl (hb hby at_84) (by decide) (by decide)
      obtain ⟨a39, g39⟩ : ∃ z, z = h33.size := ⟨_, rfl⟩
      rw [← g39] at A39 D39 st39
      have ne_a33_a39 : a33 ≠ a39 := g39 ▸ Nat.ne_of_lt V33_n.lt
      have ge_a39 : n0 ≤ a39 := g39 ▸ sz33
      have V39_a33 : own_AI Z h39 a33 .byte [(0 : Int32), (0 : Int32), (0 : Int32), (0 : Int32), (0 : Int32), (0 : Int32), (0 : Int32), (0 : Int32), (0 : Int32), (0 : Int32), (0 : Int32), (0 : Int32), (0 : Int32), (0 : Int32), (0 : Int32), (0 : Int32)] := V33_n.ext E39
      have sz39 : n0 ≤ h39.size := Nat.le_trans sz33 E39.1
      have F39_n0 : Fld Z h39 a39 "com/example/stillframe/stillframe/ccr/IpPrefix" "address" "[B" .null := D39 (Or.inr (hw _ (List.mem_of_getElem? (i := 12) rfl))) (ty := (.array .byte)) (by decide)
      have F39_n1 : Fld Z h39 a39 "com/example/stillframe/stillframe/ccr/IpPrefix" "length" "I" (.int (0 : Int32)) := D39 (Or.inr (hw _ (List.mem_of_getElem? (i := 14) rfl))) (ty := .int) (by decide)
      obtain ⟨_, _, ⟨T40, L40, k40, n40⟩, -, X40, ⟨Lc40, hQ40, l40, y40, z40⟩, st40⟩ := X39.specialBack hx (y := (⟨"com/example/stillframe/stillframe/ccr/IpPrefix", "<init>", "([BI)V"⟩ : MethodName)) rfl hown (mvT hZ (hw _ (List.mem_of_getElem? (i := 5) rfl))) (mvT hZ (hw _ (List.mem_of_getElem? (i := 6) rfl))) (mvT hZ (hw _ (List.mem_of_getElem? (i := 7) rfl))) (by decide) (backOf (W := 1) (rm1 l Z a0 hw [] a39 a33 v34  h39 n0 sz39 A39 F39_n0 F39_n1 ge_a39 ) hZ (hw _ (List.mem_of_getElem? (i := 7) rfl)) (hw _ (List.mem_of_getElem? (i := 4) rfl)) (by decide) (by decide)) (g := (mkF m 92 #[.val (.int q0), .val (.int q1), .val (.int q2), .val (.long q3), .second, .val (.int (1 : Int32)), .val (.int (0 : Int32)), .val (.int (128 : Int32)), .val (.ref a33), .val (.int v34), .val (.int v37), .unset, .unset, .unset] [(.int v34), (.ref a33), (.ref a39), (.ref a39)])) rfl (by rw [hml]; rfl) (Steps.refl _) (a := a39) (argsL := [(.ref a33), (.int v34)]) (rest := [(.ref a39)]) (lenOf pd_8 rfl) rfl (by show 2 * 0 + _ ≤ _; exact Nat.le_of_eq rfl) (hb hby at_92) (fun _ _ => ⟨rfl, e39, (by decide : 2 + 0 ≤ _), (by decide : 18 + 0 ≤ _)⟩)
      dsimp only [Pt.U, Pt.locs, Pt.cells, Pt.slots] at X40 l40 y40 z40 st40 hQ40
      subst l40 y40 z40
      obtain ⟨rfl, N40q, K40, A40_o0, F40_o0, F40_o1⟩ := hQ40
      obtain ⟨h40, e40⟩ : ∃ z, T40.heap = z := ⟨_, rfl⟩
      rw [e40] at K40 A40_o0 F40_o0 F40_o1
      have V40_a33 : own_AI Z h40 a33 .byte [(0 : Int32), (0 : Int32), (0 : Int32), (0 : Int32), (0 : Int32), (0 : Int32), (0 : Int32), (0 : Int32), (0 : Int32), (0 : Int32), (0 : Int32), (0 : Int32), (0 : Int32), (0 : Int32), (0 : Int32), (0 : Int32)] := V39_a33.keep K40 (ninS ne_a33_a39 nin0)
      have A40_a39 : Exa Z h40 a39 "com/example/stillframe/stillframe/ccr/IpPrefix" := A39.keep K40
      have sz40 : n0 ≤ h40.size := Nat.le_trans sz39 K40.1
      have N40 := Fr.app N0 N40q
      obtain ⟨T41, h41, X41, e41, E41, A41, D41, -, st41⟩ := newO X40 hx hZ hown (hw _ (List.mem_of_getElem? (i := 15) rfl)) (hw _ (List.mem_of_getElem? (i := 16) rfl)) (hw _ (List.mem_of_getElem? (i := 17) rfl)) e40 (g := (mkF m 97 #[.val (.int q0), .val (.int q1), .val (.int q2), .val (.long q3), .second, .val (.int (1 : Int32)), .val (.int (0 : Int32)), .val (.int (128 : Int32)), .val (.ref a33), .val (.int v34), .val (.int v37), .val (.ref a39), .unset, .unset] [])) rfl (hb hby at_97) (by decide) (by decide)
      obtain ⟨a41, g41⟩ : ∃ z, z = h40.size := ⟨_, rfl⟩
      rw [← g41] at A41 D41 st41
      have ne_a33_a41 : a33 ≠ a41 := g41 ▸ Nat.ne_of_lt V40_a33.lt
      have ne_a39_a41 : a39 ≠ a41 := g41 ▸ Nat.ne_of_lt A40_o0.lt
      have ge_a41 : n0 ≤ a41 := g41 ▸ sz40
      have V41_a33 : own_AI Z h41 a33 .byte [(0 : Int32), (0 : Int32), (0 : Int32), (0 : Int32), (0 : Int32), (0 : Int32), (0 : Int32), (0 : Int32), (0 : Int32), (0 : Int32), (0 : Int32), (0 : Int32), (0 : Int32), (0 : Int32), (0 : Int32), (0 : Int32)] := V40_a33.ext E41
      have A41_a39 : Exa Z h41 a39 "com/example/stillframe/stillframe/ccr/IpPrefix" := A40_o0.ext E41
      have F41_a39_0 : Fld Z h41 a39 "com/example/stillframe/stillframe/ccr/IpPrefix" "address" "[B" (.ref a33) := F40_o0.ext E41
      have F41_a39_1 : Fld Z h41 a39 "com/example/stillframe/stillframe/ccr/IpPrefix" "length" "I" (.int v34) := F40_o1.ext E41
      have sz41 : n0 ≤ h41.size := Nat.le_trans sz40 E41.1
      have F41_n0 : Fld Z h41 a41 "com/example/stillframe/stillframe/ccr/RoaPayload" "asn" "J" (.long (0 : Int64)) := D41 (Or.inr (hw _ (List.mem_of_getElem? (i := 24) rfl))) (ty := .long) (by decide)
      have F41_n1 : Fld Z h41 a41 "com/example/stillframe/stillframe/ccr/RoaPayload" "prefix" "Lcom/example/stillframe/stillframe/ccr/IpPrefix;" .null := D41 (Or.inr (hw _ (List.mem_of_getElem? (i := 26) rfl))) (ty := (.object "com/example/stillframe/stillframe/ccr/IpPrefix")) (by decide)
      have F41_n2 : Fld Z h41 a41 "com/example/stillframe/stillframe/ccr/RoaPayload" "maxLength" "I" (.int (0 : Int32)) := D41 (Or.inr (hw _ (List.mem_of_getElem? (i := 28) rfl))) (ty := .int) (by decide)
      obtain ⟨_, _, ⟨T42, L42, k42, n42⟩, -, X42, ⟨Lc42, hQ42, l42, y42, z42⟩, st42⟩ := X41.specialBack hx (y := (⟨"com/example/stillframe/stillframe/ccr/RoaPayload", "<init>", "(JLcom/example/stillframe/stillframe/ccr/IpPrefix;I)V"⟩ : MethodName)) rfl hown (mvT hZ (hw _ (List.mem_of_getElem? (i := 19) rfl))) (mvT hZ (hw _ (List.mem_of_getElem? (i := 20) rfl))) (mvT hZ (hw _ (List.mem_of_getElem? (i := 21) rfl))) (by decide) (backOf (W := 1) (rm3 l Z a0 hw [] a41 (q3 &&& (4294967295 : Int64)) a39 (-1 : Int32)  h41 n0 sz41 A41 F41_n0 F41_n1 F41_n2 ge_a41 ) hZ (hw _ (List.mem_of_getElem? (i := 21) rfl)) (hw _ (List.mem_of_getElem? (i := 17) rfl)) (by decide) (by decide)) (g := (mkF m 119 #[.val (.int q0), .val (.int q1), .val (.int q2), .val (.long q3), .second, .val (.int (1 : Int32)), .val (.int (0 : Int32)), .val (.int (128 : Int32)), .val (.ref a33), .val (.int v34), .val (.int v37), .val (.ref a39), .unset, .unset] [(.int (-1 : Int32)), (.ref a39), (.long (q3 &&& (4294967295 : Int64))), (.ref a41), (.ref a41)])) rfl (by rw [hml]; rfl) (Steps.refl _) (a := a41) (argsL := [(.long (q3 &&& (4294967295 : Int64))), (.ref a39), (.int (-1 : Int32))]) (rest := [(.ref a41)]) (lenOf pd_9 rfl) rfl (by show 2 * 0 + _ ≤ _; exact Nat.le_of_eq rfl) (hb hby at_119) (fun _ _ => ⟨rfl, e41, (by decide : 3 + 0 ≤ _), (by decide : 21 + 0 ≤ _)⟩)
      dsimp only [Pt.U, Pt.locs, Pt.cells, Pt.slots] at X42 l42 y42 z42 st42 hQ42
      subst l42 y42 z42
      obtain ⟨rfl, N42q, K42, A42_o0, F42_o0, F42_o1, F42_o2⟩ := hQ42
      obtain ⟨h42, e42⟩ : ∃ z, T42.heap = z := ⟨_, rfl⟩
      rw [e42] at K42 A42_o0 F42_o0 F42_o1 F42_o2
      have V42_a33 : own_AI Z h42 a33 .byte [(0 : Int32), (0 : Int32), (0 : Int32), (0 : Int32), (0 : Int32), (0 : Int32), (0 : Int32), (0 : Int32), (0 : Int32), (0 : Int32), (0 : Int32), (0 : Int32), (0 : Int32), (0 : Int32), (0 : Int32), (0 : Int32)] := V41_a33.keep K42 (ninS ne_a33_a41 nin0)
      have A42_a39 : Exa Z h42 a39 "com/example/stillframe/stillframe/ccr/IpPrefix" := A41_a39.keep K42
      have F42_a39_0 : Fld Z h42 a39 "com/example/stillframe/stillframe/ccr/IpPrefix" "address" "[B" (.ref a33) := F41_a39_0.keep K42 (ninS ne_a39_a41 nin0)
      have F42_a39_1 : Fld Z h42 a39 "com/example/stillframe/stillframe/ccr/IpPrefix" "length" "I" (.int v34) := F41_a39_1.keep K42 (ninS ne_a39_a41 nin0)
      have A42_a41 : Exa Z h42 a41 "com/example/stillframe/stillframe/ccr/RoaPayload" := A41.keep K42
      have sz42 : n0 ≤ h42.size := Nat.le_trans sz41 K42.1
      have N42 := Fr.app N40 N42q
      obtain ⟨cq43, kq43, q43a, q43b, q43c⟩ := isOf hZ e42 A42_o0
      obtain ⟨_, _, ⟨T43, L43, k43, n43⟩, -, X43, ⟨Lc43, hQ43, l43, y43, z43⟩, st43⟩ := X42.virtualBack hx (y := (⟨"com/example/stillframe/stillframe/ccr/RoaPayload", "longestLength", "()I"⟩ : MethodName)) (z := (⟨"com/example/stillframe/stillframe/ccr/RoaPayload", "longestLength", "()I"⟩ : MethodName)) hown (mvT hZ (hw _ (List.mem_of_getElem? (i := 29) rfl))) (mvT hZ (hw _ (List.mem_of_getElem? (i := 30) rfl))) (notFace_of_selects (args := #[]) (mvT hZ (hw _ (List.mem_of_getElem? (i := 32) rfl)))) (mvT hZ (hw _ (List.mem_of_getElem? (i := 32) rfl))) (mvT hZ (hw _ (List.mem_of_getElem? (i := 31) rfl))) (by decide) (backOf (W := 0) (rm4 l Z a0 hw [] a41 a39 ((-1 : Int32)) v34 h42 n0 sz42 A42_o0 A42_a39 F42_o1 F42_o2 F42_a39_1 ) hZ (hw _ (List.mem_of_getElem? (i := 33) rfl)) (hw _ (List.mem_of_getElem? (i := 17) rfl)) (by decide) (by decide)) q43a q43c (g := (mkF m 140 #[.val (.int q0), .val (.int q1), .val (.int q2), .val (.long q3), .second, .val (.int (1 : Int32)), .val (.int (0 : Int32)), .val (.int (128 : Int32)), .val (.ref a33), .val (.int v34), .val (.int v37), .val (.ref a39), .val (.ref a41), .val (.int v34)] [(.ref a41)])) rfl (by rw [hml]; rfl) (Steps.refl _) (argsL := []) (rest := []) (lenOf pd_6 rfl) rfl (by show 2 * 0 + _ ≤ _; exact Nat.le_of_eq rfl) (hb hby at_140) (fun _ _ => ⟨rfl, e42, (by decide : 3 + 0 ≤ _), (by decide : 21 + 0 ≤ _)⟩)
      dsimp only [Pt.U, Pt.locs, Pt.cells, Pt.slots] at X43 l43 y43 z43 st43 hQ43
      subst l43 y43 z43
      obtain ⟨rfl, N43q, e43⟩ := hQ43
      have N43 := Fr.app N42 N43q
      have pre44 : ∀ t, Steps p.tables e below (T43.setTop (mkF m 145 #[.val (.int q0), .val (.int q1), .val (.int q2), .val (.long q3), .second, .val (.int (1 : Int32)), .val (.int (0 : Int32)), .val (.int (128 : Int32)), .val (.ref a33), .val (.int v34), .val (.int v37), .val (.ref a39), .val (.ref a41), .val (.int v34)] [(.int v34), (.int (own_f4  ((-1 : Int32)) v34))])) t → Steps p.tables e below (s₁.setTop (entryFrame m #[(.int q0), (.int q1), (.int q2), (.long q3)] maxLocals)) t := by
        intro t k
        refine pre38 t ?_
        show Steps p.tables e below (T33.setTop (mkF m 82 #[.val (.int q0), .val (.int q1), .val (.int q2), .val (.long q3), .second, .val (.int (1 : Int32)), .val (.int (0 : Int32)), .val (.int (128 : Int32)), .val (.ref a33), .val (.int v34), .unset, .unset, .unset, .unset] [(.int v37)])) _
        refine XS.istore X33.here hx rfl (hb hby at_82) rfl (l' := #[.val (.int q0), .val (.int q1), .val (.int q2), .val (.long q3), .second, .val (.int (1 : Int32)), .val (.int (0 : Int32)), .val (.int (128 : Int32)), .val (.ref a33), .val (.int v34), .val (.int v37), .unset, .unset, .unset]) rfl ?_
        show Steps p.tables e below (T33.setTop (mkF m 84 #[.val (.int q0), .val (.int q1), .val (.int q2), .val (.long q3), .second, .val (.int (1 : Int32)), .val (.int (0 : Int32)), .val (.int (128 : Int32)), .val (.ref a33), .val (.int v34), .val (.int v37), .unset, .unset, .unset] [])) _
        refine st39 _ ?_
        show Steps p.tables e below (T39.setTop (mkF m 87 #[.val (.int q0), .val (.int q1), .val (.int q2), .val (.long q3), .second, .val (.int (1 : Int32)), .val (.int (0 : Int32)), .val (.int (128 : Int32)), .val (.ref a33), .val (.int v34), .val (.int v37), .unset, .unset, .unset] [(.ref a39)])) _
        refine XS.dup X39.here hx rfl (hb hby at_87) rfl rfl ?_
        show Steps p.tables e below (T39.setTop (mkF m 88 #[.val (.int q0), .val (.int q1), .val (.int q2), .val (.long q3), .second, .val (.int (1 : Int32)), .val (.int (0 : Int32)), .val (.int (128 : Int32)), .val (.ref a33), .val (.int v34), .val (.int v37), .unset, .unset, .unset] [(.ref a39), (.ref a39)])) _
        refine XS.aload X39.here hx rfl (hb hby at_88) rfl rfl ?_
        show Steps p.tables e below (T39.setTop (mkF m 90 #[.val (.int q0), .val (.int q1), .val (.int q2), .val (.long q3), .second, .val (.int (1 : Int32)), .val (.int (0 : Int32)), .val (.int (128 : Int32)), .val (.ref a33), .val (.int v34), .val (.int v37), .unset, .unset, .unset] [(.ref a33), (.ref a39), (.ref a39)])) _
        refine XS.iload X39.here hx rfl (hb hby at_90) rfl ?_
        show Steps p.tables e below (T39.setTop (mkF m 92 #[.val (.int q0), .val (.int q1), .val (.int q2), .val (.long q3), .second, .val (.int (1 : Int32)), .val (.int (0 : Int32)), .val (.int (128 : Int32)), .val (.ref a33), .val (.int v34), .val (.int v37), .unset, .unset, .unset] [(.int v34), (.ref a33), (.ref a39), (.ref a39)])) _
        refine st40.trans ?_
        show Steps p.tables e below (T40.setTop (mkF m 95 #[.val (.int q0), .val (.int q1), .val (.int q2), .val (.long q3), .second, .val (.int (1 : Int32)), .val (.int (0 : Int32)), .val (.int (128 : Int32)), .val (.ref a33), .val (.int v34), .val (.int v37), .unset, .unset, .unset] [(.ref a39)])) _
        refine XS.astore X40.here hx rfl (hb hby at_95) rfl rfl (l' := #[.val (.int q0), .val (.int q1), .val (.int q2), .val (.long q3), .second, .val (.int (1 : Int32)), .val (.int (0 : Int32)), .val (.int (128 : Int32)), .val (.ref a33), .val (.int v34), .val (.int v37), .val (.ref a39), .unset, .unset]) rfl ?_
        show Steps p.tables e below (T40.setTop (mkF m 97 #[.val (.int q0), .val (.int q1), .val (.int q2), .val (.long q3), .second, .val (.int (1 : Int32)), .val (.int (0 : Int32)), .val (.int (128 : Int32)), .val (.ref a33), .val (.int v34), .val (.int v37), .val (.ref a39), .unset, .unset] [])) _
        refine st41 _ ?_
        show Steps p.tables e below (T41.setTop (mkF m 100 #[.val (.int q0), .val (.int q1), .val (.int q2), .val (.long q3), .second, .val (.int (1 : Int32)), .val (.int (0 : Int32)), .val (.int (128 : Int32)), .val (.ref a33), .val (.int v34), .val (.int v37), .val (.ref a39), .unset, .unset] [(.ref a41)])) _
        refine XS.dup X41.here hx rfl (hb hby at_100) rfl rfl ?_
        show Steps p.tables e below (T41.setTop (mkF m 101 #[.val (.int q0), .val (.int q1), .val (.int q2), .val (.long q3), .second, .val (.int (1 : Int32)), .val (.int (0 : Int32)), .val (.int (128 : Int32)), .val (.ref a33), .val (.int v34), .val (.int v37), .val (.ref a39), .unset, .unset] [(.ref a41), (.ref a41)])) _
        refine XS.lloadN X41.here hx rfl (hb hby at_101) rfl ?_
        show Steps p.tables e below (T41.setTop (mkF m 102 #[.val (.int q0), .val (.int q1), .val (.int q2), .val (.long q3), .second, .val (.int (1 : Int32)), .val (.int (0 : Int32)), .val (.int (128 : Int32)), .val (.ref a33), .val (.int v34), .val (.int v37), .val (.ref a39), .unset, .unset] [(.long q3), (.ref a41), (.ref a41)])) _
        refine X41.ldc2Long hx hown (mvT hZ (hw _ (List.mem_of_getElem? (i := 18) rfl))) (g := (mkF m 102 #[.val (.int q0), .val (.int q1), .val (.int q2), .val (.long q3), .second, .val (.int (1 : Int32)), .val (.int (0 : Int32)), .val (.int (128 : Int32)), .val (.ref a33), .val (.int v34), .val (.int v37), .val (.ref a39), .unset, .unset] [(.long q3), (.ref a41), (.ref a41)])) rfl (hb hby at_102) _ ?_
        show Steps p.tables e below (T41.setTop (mkF m 105 #[.val (.int q0), .val (.int q1), .val (.int q2), .val (.long q3), .second, .val (.int (1 : Int32)), .val (.int (0 : Int32)), .val (.int (128 : Int32)), .val (.ref a33), .val (.int v34), .val (.int v37), .val (.ref a39), .unset, .unset] [(.long (4294967295 : Int64)), (.long q3), (.ref a41), (.ref a41)])) _
        refine XS.land X41.here hx rfl (hb hby at_105) rfl ?_
        show Steps p.tables e below (T41.setTop (mkF m 106 #[.val (.int q0), .val (.int q1), .val (.int q2), .val (.long q3), .second, .val (.int (1 : Int32)), .val (.int (0 : Int32)), .val (.int (128 : Int32)), .val (.ref a33), .val (.int v34), .val (.int v37), .val (.ref a39), .unset, .unset] [(.long (q3 &&& (4294967295 : Int64))), (.ref a41), (.ref a41)])) _
        refine XS.aload X41.here hx rfl (hb hby at_106) rfl rfl ?_
        show Steps p.tables e below (T41.setTop (mkF m 108 #[.val (.int q0), .val (.int q1), .val (.int q2), .val (.long q3), .second, .val (.int (1 : Int32)), .val (.int (0 : Int32)), .val (.int (128 : Int32)), .val (.ref a33), .val (.int v34), .val (.int v37), .val (.ref a39), .unset, .unset] [(.ref a39), (.long (q3 &&& (4294967295 : Int64))), (.ref a41), (.ref a41)])) _
        refine XS.iload X41.here hx rfl (hb hby at_108) rfl ?_
        show Steps p.tables e below (T41.setTop (mkF m 110 #[.val (.int q0), .val (.int q1), .val (.int q2), .val (.long q3), .second, .val (.int (1 : Int32)), .val (.int (0 : Int32)), .val (.int (128 : Int32)), .val (.ref a33), .val (.int v34), .val (.int v37), .val (.ref a39), .unset, .unset] [(.int (0 : Int32)), (.ref a39), (.long (q3 &&& (4294967295 : Int64))), (.ref a41), (.ref a41)])) _
        refine XS.ifYes X41.here hx rfl (pc0 := 110) (pc' := 118) rfl (hb hby at_110) rfl (by decide) (by decide) (by decide) ?_
        show Steps p.tables e below (T41.setTop (mkF m 118 #[.val (.int q0), .val (.int q1), .val (.int q2), .val (.long q3), .second, .val (.int (1 : Int32)), .val (.int (0 : Int32)), .val (.int (128 : Int32)), .val (.ref a33), .val (.int v34), .val (.int v37), .val (.ref a39), .unset, .unset] [(.ref a39), (.long (q3 &&& (4294967295 : Int64))), (.ref a41), (.ref a41)])) _
        refine XS.iconst X41.here hx rfl (hb hby at_118) ?_
        show Steps p.tables e below (T41.setTop (mkF m 119 #[.val (.int q0), .val (.int q1), .val (.int q2), .val (.long q3), .second, .val (.int (1 : Int32)), .val (.int (0 : Int32)), .val (.int (128 : Int32)), .val (.ref a33), .val (.int v34), .val (.int v37), .val (.ref a39), .unset, .unset] [(.int (-1 : Int32)), (.ref a39), (.long (q3 &&& (4294967295 : Int64))), (.ref a41), (.ref a41)])) _
        refine st42.trans ?_
        show Steps p.tables e below (T42.setTop (mkF m 122 #[.val (.int q0), .val (.int q1), .val (.int q2), .val (.long q3), .second, .val (.int (1 : Int32)), .val (.int (0 : Int32)), .val (.int (128 : Int32)), .val (.ref a33), .val (.int v34), .val (.int v37), .val (.ref a39), .unset, .unset] [(.ref a41)])) _
        refine XS.astore X42.here hx rfl (hb hby at_122) rfl rfl (l' := #[.val (.int q0), .val (.int q1), .val (.int q2), .val (.long q3), .second, .val (.int (1 : Int32)), .val (.int (0 : Int32)), .val (.int (128 : Int32)), .val (.ref a33), .val (.int v34), .val (.int v37), .val (.ref a39), .val (.ref a41), .unset]) rfl ?_
        show Steps p.tables e below (T42.setTop (mkF m 124 #[.val (.int q0), .val (.int q1), .val (.int q2), .val (.long q3), .second, .val (.int (1 : Int32)), .val (.int (0 : Int32)), .val (.int (128 : Int32)), .val (.ref a33), .val (.int v34), .val (.int v37), .val (.ref a39), .val (.ref a41), .unset] [])) _
        refine XS.iload X42.here hx rfl (hb hby at_124) rfl ?_
        show Steps p.tables e below (T42.setTop (mkF m 126 #[.val (.int q0), .val (.int q1), .val (.int q2), .val (.long q3), .second, .val (.int (1 : Int32)), .val (.int (0 : Int32)), .val (.int (128 : Int32)), .val (.ref a33), .val (.int v34), .val (.int v37), .val (.ref a39), .val (.ref a41), .unset] [(.int (0 : Int32))])) _
        refine XS.ifYes X42.here hx rfl (pc0 := 126) (pc' := 134) rfl (hb hby at_126) rfl (by decide) (by decide) (by decide) ?_
        show Steps p.tables e below (T42.setTop (mkF m 134 #[.val (.int q0), .val (.int q1), .val (.int q2), .val (.long q3), .second, .val (.int (1 : Int32)), .val (.int (0 : Int32)), .val (.int (128 : Int32)), .val (.ref a33), .val (.int v34), .val (.int v37), .val (.ref a39), .val (.ref a41), .unset] [])) _
        refine XS.iload X42.here hx rfl (hb hby at_134) rfl ?_
        show Steps p.tables e below (T42.setTop (mkF m 136 #[.val (.int q0), .val (.int q1), .val (.int q2), .val (.long q3), .second, .val (.int (1 : Int32)), .val (.int (0 : Int32)), .val (.int (128 : Int32)), .val (.ref a33), .val (.int v34), .val (.int v37), .val (.ref a39), .val (.ref a41), .unset] [(.int v34)])) _
        refine XS.istore X42.here hx rfl (hb hby at_136) rfl (l' := #[.val (.int q0), .val (.int q1), .val (.int q2), .val (.long q3), .second, .val (.int (1 : Int32)), .val (.int (0 : Int32)), .val (.int (128 : Int32)), .val (.ref a33), .val (.int v34), .val (.int v37), .val (.ref a39), .val (.ref a41), .val (.int v34)]) rfl ?_
        show Steps p.tables e below (T42.setTop (mkF m 138 #[.val (.int q0), .val (.int q1), .val (.int q2), .val (.long q3), .second, .val (.int (1 : Int32)), .val (.int (0 : Int32)), .val (.int (128 : Int32)), .val (.ref a33), .val (.int v34), .val (.int v37), .val (.ref a39), .val (.ref a41), .val (.int v34)] [])) _
        refine XS.aload X42.here hx rfl (hb hby at_138) rfl rfl ?_
        show Steps p.tables e below (T42.setTop (mkF m 140 #[.val (.int q0), .val (.int q1), .val (.int q2), .val (.long q3), .second, .val (.int (1 : Int32)), .val (.int (0 : Int32)), .val (.int (128 : Int32)), .val (.ref a33), .val (.int v34), .val (.int v37), .val (.ref a39), .val (.ref a41), .val (.int v34)] [(.ref a41)])) _
        refine st43.trans ?_
        show Steps p.tables e below (T43.setTop (mkF m 143 #[.val (.int q0), .val (.int q1), .val (.int q2), .val (.long q3), .second, .val (.int (1 : Int32)), .val (.int (0 : Int32)), .val (.int (128 : Int32)), .val (.ref a33), .val (.int v34), .val (.int v37), .val (.ref a39), .val (.ref a41), .val (.int v34)] [(.int (own_f4  ((-1 : Int32)) v34))])) _
        refine XS.iload X43.here hx rfl (hb hby at_143) rfl ?_
        exact k
      by_cases c45 : (own_f4  ((-1 : Int32)) v34) = v34
      · obtain ⟨fs, hr, hrun, hended, hW, hsame⟩ := X43.leave (v := some (.int (1 : Int32))) (fun h => by rw [Bd.returns] at h; cases h) hlk
        refine ⟨_, _, pre44 _ ?_, hrun, hended, _, _, rfl, ?_, ⟨_, rfl⟩, hW, hsame.mono (by decide) (by decide)⟩
        · show Steps p.tables e below (T43.setTop (mkF m 145 #[.val (.int q0), .val (.int q1), .val (.int q2), .val (.long q3), .second, .val (.int (1 : Int32)), .val (.int (0 : Int32)), .val (.int (128 : Int32)), .val (.ref a33), .val (.int v34), .val (.int v37), .val (.ref a39), .val (.ref a41), .val (.int v34)] [(.int v34), (.int (own_f4  ((-1 : Int32)) v34))])) _
          refine XS.icmpNo X43.here hx rfl (hb hby at_145) rfl ((teq c45).2) ?_
          show Steps p.tables e below (T43.setTop (mkF m 148 #[.val (.int q0), .val (.int q1), .val (.int q2), .val (.long q3), .second, .val (.int (1 : Int32)), .val (.int (0 : Int32)), .val (.int (128 : Int32)), .val (.ref a33), .val (.int v34), .val (.int v37), .val (.ref a39), .val (.ref a41), .val (.int v34)] [])) _
          refine XS.iconst X43.here hx rfl (hb hby at_148) ?_
          show Steps p.tables e below (T43.setTop (mkF m 149 #[.val (.int q0), .val (.int q1), .val (.int q2), .val (.long q3), .second, .val (.int (1 : Int32)), .val (.int (0 : Int32)), .val (.int (128 : Int32)), .val (.ref a33), .val (.int v34), .val (.int v37), .val (.ref a39), .val (.ref a41), .val (.int v34)] [(.int (1 : Int32))])) _
          refine XS.goto X43.here hx rfl (pc0 := 149) (pc' := 153) rfl (hb hby at_149) (by decide) (by decide) ?_
          show Steps p.tables e below (T43.setTop (mkF m 153 #[.val (.int q0), .val (.int q1), .val (.int q2), .val (.long q3), .second, .val (.int (1 : Int32)), .val (.int (0 : Int32)), .val (.int (128 : Int32)), .val (.ref a33), .val (.int v34), .val (.int v37), .val (.ref a39), .val (.ref a41), .val (.int v34)] [(.int (1 : Int32))])) _
          exact retN X43 hx (t := .boolean) Bd.returns (by simp) (hb hby at_153) hr
        · show Q0 Z q0 q1 q2 q3 h0 n0 _ T43.heap _
          rw [e43]
          exact ⟨by have w_hv37 := hv37.symm; subst w_hv37; have w_hv34 := hv34.symm; subst w_hv34; simp only [own_f0, if_neg c2, if_pos c32, if_pos c45], N43⟩
      · obtain ⟨fs, hr, hrun, hended, hW, hsame⟩ := X43.leave (v := some (.int (0 : Int32))) (fun h => by rw [Bd.returns] at h; cases h) hlk
        refine ⟨_, _, pre44 _ ?_, hrun, hended, _, _, rfl, ?_, ⟨_, rfl⟩, hW, hsame.mono (by decide) (by decide)⟩
        · show Steps p.tables e below (T43.setTop (mkF m 145 #[.val (.int q0), .val (.int q1), .val (.int q2), .val (.long q3), .second, .val (.int (1 : Int32)), .val (.int (0 : Int32)), .val (.int (128 : Int32)), .val (.ref a33), .val (.int v34), .val (.int v37), .val (.ref a39), .val (.ref a41), .val (.int v34)] [(.int v34), (.int (own_f4  ((-1 : Int32)) v34))])) _
          refine XS.icmpYes X43.here hx rfl (pc0 := 145) (pc' := 152) rfl (hb hby at_145) rfl ((feq c45).2) (by decide) (by decide) ?_
          show Steps p.tables e below (T43.setTop (mkF m 152 #[.val (.int q0), .val (.int q1), .val (.int q2), .val (.long q3), .second, .val (.int (1 : Int32)), .val (.int (0 : Int32)), .val (.int (128 : Int32)), .val (.ref a33), .val (.int v34), .val (.int v37), .val (.ref a39), .val (.ref a41), .val (.int v34)] [])) _
          refine XS.iconst X43.here hx rfl (hb hby at_152) ?_
          show Steps p.tables e below (T43.setTop (mkF m 153 #[.val (.int q0), .val (.int q1), .val (.int q2), .val (.long q3), .second, .val (.int (1 : Int32)), .val (.int (0 : Int32)), .val (.int (128 : Int32)), .val (.ref a33), .val (.int v34), .val (.int v37), .val (.ref a39), .val (.ref a41), .val (.int v34)] [(.int (0 : Int32))])) _
          exact retN X43 hx (t := .boolean) Bd.returns (by simp) (hb hby at_153) hr
        · show Q0 Z q0 q1 q2 q3 h0 n0 _ T43.heap _
          rw [e43]
          exact ⟨by have w_hv37 := hv37.symm; subst w_hv37; have w_hv34 := hv34.symm; subst w_hv34; simp only [own_f0, if_neg c2, if_pos c32, if_neg c45], N43⟩
    · obtain ⟨T46, h46, cA46, X46, e46, E46, A46, st46⟩ := newP X0 hx hZ (aty := .byte) (hw _ (List.mem_of_getElem? (i := 0) rfl)) e0 (g := (mkF m 52 #[.val (.int q0), .val (.int q1), .val (.int q2), .val (.long q3), .second, .val (.int (1 : Int32)), .val (.int (1 : Int32)), .val (.int (128 : Int32)), .unset, .unset, .unset, .unset, .unset, .unset] [(.int (16 : Int32))])) rfl (hb hby at_52) rfl (by decide) (cap := 16) (by decide) (by decide) (by decide) (by decide)
      obtain ⟨a46, g46⟩ : ∃ z, z = h0.size := ⟨_, rfl⟩
      rw [← g46] at A46 st46
      have ge_a46 : n0 ≤ a46 := g46 ▸ Z0
      have sz46 : n0 ≤ h46.size := Nat.le_trans Z0 E46.1
      have V46_n : own_AI Z h46 a46 .byte [(0 : Int32), (0 : Int32), (0 : Int32), (0 : Int32), (0 : Int32), (0 : Int32), (0 : Int32), (0 : Int32), (0 : Int32), (0 : Int32), (0 : Int32), (0 : Int32), (0 : Int32), (0 : Int32), (0 : Int32), (0 : Int32)] := own_AIbyte_new A46 (k := 16) (by decide)
      obtain ⟨v47, hv47⟩ : ∃ z : Int32, z = ((q1 &&& (2147483647 : Int32)) % (129 : Int32)) := ⟨_, rfl⟩
      have pre48 : ∀ t, Steps p.tables e below (T46.setTop (mkF m 65 #[.val (.int q0), .val (.int q1), .val (.int q2), .val (.long q3), .second, .val (.int (1 : Int32)), .val (.int (1 : Int32)), .val (.int (128 : Int32)), .val (.ref a46), .unset, .unset, .unset, .unset, .unset] [(.int v47)])) t → Steps p.tables e below (s₁.setTop (entryFrame m #[(.int q0), (.int q1), (.int q2), (.long q3)] maxLocals)) t := by
        rw [hv47]
        intro t k
        refine pre31 t ?_
        show Steps p.tables e below (s₁.setTop (mkF m 16 #[.val (.int q0), .val (.int q1), .val (.int q2), .val (.long q3), .second, .val (.int (1 : Int32)), .unset, .unset, .unset, .unset, .unset, .unset, .unset, .unset] [(.int (q0 &&& (2 : Int32)))])) _
        refine XS.ifNo X0.here hx rfl (hb hby at_16) rfl ((if0 _ _).trans (feq c32).1) ?_
        show Steps p.tables e below (s₁.setTop (mkF m 19 #[.val (.int q0), .val (.int q1), .val (.int q2), .val (.long q3), .second, .val (.int (1 : Int32)), .unset, .unset, .unset, .unset, .unset, .unset, .unset, .unset] [])) _
        refine XS.iconst X0.here hx rfl (hb hby at_19) ?_
        show Steps p.tables e below (s₁.setTop (mkF m 20 #[.val (.int q0), .val (.int q1), .val (.int q2), .val (.long q3), .second, .val (.int (1 : Int32)), .unset, .unset, .unset, .unset, .unset, .unset, .unset, .unset] [(.int (1 : Int32))])) _
        refine XS.goto X0.here hx rfl (pc0 := 20) (pc' := 24) rfl (hb hby at_20) (by decide) (by decide) ?_
        show Steps p.tables e below (s₁.setTop (mkF m 24 #[.val (.int q0), .val (.int q1), .val (.int q2), .val (.long q3), .second, .val (.int (1 : Int32)), .unset, .unset, .unset, .unset, .unset, .unset, .unset, .unset] [(.int (1 : Int32))])) _
        refine XS.istore X0.here hx rfl (hb hby at_24) rfl (l' := #[.val (.int q0), .val (.int q1), .val (.int q2), .val (.long q3), .second, .val (.int (1 : Int32)), .val (.int (1 : Int32)), .unset, .unset, .unset, .unset, .unset, .unset, .unset]) rfl ?_
        show Steps p.tables e below (s₁.setTop (mkF m 26 #[.val (.int q0), .val (.int q1), .val (.int q2), .val (.long q3), .second, .val (.int (1 : Int32)), .val (.int (1 : Int32)), .unset, .unset, .unset, .unset, .unset, .unset, .unset] [])) _
        refine XS.iload X0.here hx rfl (hb hby at_26) rfl ?_
        show Steps p.tables e below (s₁.setTop (mkF m 28 #[.val (.int q0), .val (.int q1), .val (.int q2), .val (.long q3), .second, .val (.int (1 : Int32)), .val (.int (1 : Int32)), .unset, .unset, .unset, .unset, .unset, .unset, .unset] [(.int (1 : Int32))])) _
        refine XS.ifNo X0.here hx rfl (hb hby at_28) rfl (by decide) ?_
        show Steps p.tables e below (s₁.setTop (mkF m 31 #[.val (.int q0), .val (.int q1), .val (.int q2), .val (.long q3), .second, .val (.int (1 : Int32)), .val (.int (1 : Int32)), .unset, .unset, .unset, .unset, .unset, .unset, .unset] [])) _
        refine XS.sipush X0.here hx rfl (hb hby at_31) ?_
        show Steps p.tables e below (s₁.setTop (mkF m 34 #[.val (.int q0), .val (.int q1), .val (.int q2), .val (.long q3), .second, .val (.int (1 : Int32)), .val (.int (1 : Int32)), .unset, .unset, .unset, .unset, .unset, .unset, .unset] [(.int (128 : Int32))])) _
        refine XS.goto X0.here hx rfl (pc0 := 34) (pc' := 39) rfl (hb hby at_34) (by decide) (by decide) ?_
        show Steps p.tables e below (s₁.setTop (mkF m 39 #[.val (.int q0), .val (.int q1), .val (.int q2), .val (.long q3), .second, .val (.int (1 : Int32)), .val (.int (1 : Int32)), .unset, .unset, .unset, .unset, .unset, .unset, .unset] [(.int (128 : Int32))])) _
        refine XS.istore X0.here hx rfl (hb hby at_39) rfl (l' := #[.val (.int q0), .val (.int q1), .val (.int q2), .val (.long q3), .second, .val (.int (1 : Int32)), .val (.int (1 : Int32)), .val (.int (128 : Int32)), .unset, .unset, .unset, .unset, .unset, .unset]) rfl ?_
        show Steps p.tables e below (s₁.setTop (mkF m 41 #[.val (.int q0), .val (.int q1), .val (.int q2), .val (.long q3), .second, .val (.int (1 : Int32)), .val (.int (1 : Int32)), .val (.int (128 : Int32)), .unset, .unset, .unset, .unset, .unset, .unset] [])) _
        refine XS.iload X0.here hx rfl (hb hby at_41) rfl ?_
        show Steps p.tables e below (s₁.setTop (mkF m 43 #[.val (.int q0), .val (.int q1), .val (.int q2), .val (.long q3), .second, .val (.int (1 : Int32)), .val (.int (1 : Int32)), .val (.int (128 : Int32)), .unset, .unset, .unset, .unset, .unset, .unset] [(.int (1 : Int32))])) _
        refine XS.ifNo X0.here hx rfl (hb hby at_43) rfl (by decide) ?_
        show Steps p.tables e below (s₁.setTop (mkF m 46 #[.val (.int q0), .val (.int q1), .val (.int q2), .val (.long q3), .second, .val (.int (1 : Int32)), .val (.int (1 : Int32)), .val (.int (128 : Int32)), .unset, .unset, .unset, .unset, .unset, .unset] [])) _
        refine XS.bipush X0.here hx rfl (hb hby at_46) ?_
        show Steps p.tables e below (s₁.setTop (mkF m 48 #[.val (.int q0), .val (.int q1), .val (.int q2), .val (.long q3), .second, .val (.int (1 : Int32)), .val (.int (1 : Int32)), .val (.int (128 : Int32)), .unset, .unset, .unset, .unset, .unset, .unset] [(.int (16 : Int32))])) _
        refine XS.goto X0.here hx rfl (pc0 := 48) (pc' := 52) rfl (hb hby at_48) (by decide) (by decide) ?_
        show Steps p.tables e below (s₁.setTop (mkF m 52 #[.val (.int q0), .val (.int q1), .val (.int q2), .val (.long q3), .second, .val (.int (1 : Int32)), .val (.int (1 : Int32)), .val (.int (128 : Int32)), .unset, .unset, .unset, .unset, .unset, .unset] [(.int (16 : Int32))])) _
        refine st46 _ ?_
        show Steps p.tables e below (T46.setTop (mkF m 54 #[.val (.int q0), .val (.int q1), .val (.int q2), .val (.long q3), .second, .val (.int (1 : Int32)), .val (.int (1 : Int32)), .val (.int (128 : Int32)), .unset, .unset, .unset, .unset, .unset, .unset] [(.ref a46)])) _
        refine XS.astore X46.here hx rfl (hb hby at_54) rfl rfl (l' := #[.val (.int q0), .val (.int q1), .val (.int q2), .val (.long q3), .second, .val (.int (1 : Int32)), .val (.int (1 : Int32)), .val (.int (128 : Int32)), .val (.ref a46), .unset, .unset, .unset, .unset, .unset]) rfl ?_
        show Steps p.tables e below (T46.setTop (mkF m 56 #[.val (.int q0), .val (.int q1), .val (.int q2), .val (.long q3), .second, .val (.int (1 : Int32)), .val (.int (1 : Int32)), .val (.int (128 : Int32)), .val (.ref a46), .unset, .unset, .unset, .unset, .unset] [])) _
        refine XS.iloadN X46.here hx rfl (hb hby at_56) rfl ?_
        show Steps p.tables e below (T46.setTop (mkF m 57 #[.val (.int q0), .val (.int q1), .val (.int q2), .val (.long q3), .second, .val (.int (1 : Int32)), .val (.int (1 : Int32)), .val (.int (128 : Int32)), .val (.ref a46), .unset, .unset, .unset, .unset, .unset] [(.int q1)])) _
        refine X46.ldcInt hx hown (mvT hZ (hw _ (List.mem_of_getElem? (i := 1) rfl))) (g := (mkF m 57 #[.val (.int q0), .val (.int q1), .val (.int q2), .val (.long q3), .second, .val (.int (1 : Int32)), .val (.int (1 : Int32)), .val (.int (128 : Int32)), .val (.ref a46), .unset, .unset, .unset, .unset, .unset] [(.int q1)])) rfl (hb hby at_57) _ ?_
        show Steps p.tables e below (T46.setTop (mkF m 59 #[.val (.int q0), .val (.int q1), .val (.int q2), .val (.long q3), .second, .val (.int (1 : Int32)), .val (.int (1 : Int32)), .val (.int (128 : Int32)), .val (.ref a46), .unset, .unset, .unset, .unset, .unset] [(.int (2147483647 : Int32)), (.int q1)])) _
        refine XS.iand X46.here hx rfl (hb hby at_59) rfl ?_
        show Steps p.tables e below (T46.setTop (mkF m 60 #[.val (.int q0), .val (.int q1), .val (.int q2), .val (.long q3), .second, .val (.int (1 : Int32)), .val (.int (1 : Int32)), .val (.int (128 : Int32)), .val (.ref a46), .unset, .unset, .unset, .unset, .unset] [(.int (q1 &&& (2147483647 : Int32)))])) _
        refine XS.iload X46.here hx rfl (hb hby at_60) rfl ?_
        show Steps p.tables e below (T46.setTop (mkF m 62 #[.val (.int q0), .val (.int q1), .val (.int q2), .val (.long q3), .second, .val (.int (1 : Int32)), .val (.int (1 : Int32)), .val (.int (128 : Int32)), .val (.ref a46), .unset, .unset, .unset, .unset, .unset] [(.int (128 : Int32)), (.int (q1 &&& (2147483647 : Int32)))])) _
        refine XS.iconst X46.here hx rfl (hb hby at_62) ?_
        show Steps p.tables e below (T46.setTop (mkF m 63 #[.val (.int q0), .val (.int q1), .val (.int q2), .val (.long q3), .second, .val (.int (1 : Int32)), .val (.int (1 : Int32)), .val (.int (128 : Int32)), .val (.ref a46), .unset, .unset, .unset, .unset, .unset] [(.int (1 : Int32)), (.int (128 : Int32)), (.int (q1 &&& (2147483647 : Int32)))])) _
        refine XS.iadd X46.here hx rfl (hb hby at_63) rfl ?_
        show Steps p.tables e below (T46.setTop (mkF m 64 #[.val (.int q0), .val (.int q1), .val (.int q2), .val (.long q3), .second, .val (.int (1 : Int32)), .val (.int (1 : Int32)), .val (.int (128 : Int32)), .val (.ref a46), .unset, .unset, .unset, .unset, .unset] [(.int (129 : Int32)), (.int (q1 &&& (2147483647 : Int32)))])) _
        refine iremM X46 hx rfl (hb hby at_64) rfl (by decide) ?_
        exact k
      have nz_80_49 : ¬ ((((128 : Int32) - v47) + (1 : Int32)) = (0 : Int32)) := (own_nzT (by assumption) (by decide))
      obtain ⟨v50, hv50⟩ : ∃ z : Int32, z = (v47 + ((q2 &&& (2147483647 : Int32)) % (((128 : Int32) - v47) + (1 : Int32)))) := ⟨_, rfl⟩
      have pre51 : ∀ t, Steps p.tables e below (T46.setTop (mkF m 82 #[.val (.int q0), .val (.int q1), .val (.int q2), .val (.long q3), .second, .val (.int (1 : Int32)), .val (.int (1 : Int32)), .val (.int (128 : Int32)), .val (.ref a46), .val (.int v47), .unset, .unset, .unset, .unset] [(.int v50)])) t → Steps p.tables e below (s₁.setTop (entryFrame m #[(.int q0), (.int q1), (.int q2), (.long q3)] maxLocals)) t := by
        rw [hv50]
        intro t k
        refine pre48 t ?_
        show Steps p.tables e below (T46.setTop (mkF m 65 #[.val (.int q0), .val (.int q1), .val (.int q2), .val (.long q3), .second, .val (.int (1 : Int32)), .val (.int (1 : Int32)), .val (.int (128 : Int32)), .val (.ref a46), .unset, .unset, .unset, .unset, .unset] [(.int v47)])) _
        refine XS.istore X46.here hx rfl (hb hby at_65) rfl (l' := #[.val (.int q0), .val (.int q1), .val (.int q2), .val (.long q3), .second, .val (.int (1 : Int32)), .val (.int (1 : Int32)), .val (.int (128 : Int32)), .val (.ref a46), .val (.int v47), .unset, .unset, .unset, .unset]) rfl ?_
        show Steps p.tables e below (T46.setTop (mkF m 67 #[.val (.int q0), .val (.int q1), .val (.int q2), .val (.long q3), .second, .val (.int (1 : Int32)), .val (.int (1 : Int32)), .val (.int (128 : Int32)), .val (.ref a46), .val (.int v47), .unset, .unset, .unset, .unset] [])) _
        refine XS.iload X46.here hx rfl (hb hby at_67) rfl ?_
        show Steps p.tables e below (T46.setTop (mkF m 69 #[.val (.int q0), .val (.int q1), .val (.int q2), .val (.long q3), .second, .val (.int (1 : Int32)), .val (.int (1 : Int32)), .val (.int (128 : Int32)), .val (.ref a46), .val (.int v47), .unset, .unset, .unset, .unset] [(.int v47)])) _
        refine XS.iloadN X46.here hx rfl (hb hby at_69) rfl ?_
        show Steps p.tables e below (T46.setTop (mkF m 70 #[.val (.int q0), .val (.int q1), .val (.int q2), .val (.long q3), .second, .val (.int (1 : Int32)), .val (.int (1 : Int32)), .val (.int (128 : Int32)), .val (.ref a46), .val (.int v47), .unset, .unset, .unset, .unset] [(.int q2), (.int v47)])) _
        refine X46.ldcInt hx hown (mvT hZ (hw _ (List.mem_of_getElem? (i := 1) rfl))) (g := (mkF m 70 #[.val (.int q0), .val (.int q1), .val (.int q2), .val (.long q3), .second, .val (.int (1 : Int32)), .val (.int (1 : Int32)), .val (.int (128 : Int32)), .val (.ref a46), .val (.int v47), .unset, .unset, .unset, .unset] [(.int q2), (.int v47)])) rfl (hb hby at_70) _ ?_
        show Steps p.tables e below (T46.setTop (mkF m 72 #[.val (.int q0), .val (.int q1), .val (.int q2), .val (.long q3), .second, .val (.int (1 : Int32)), .val (.int (1 : Int32)), .val (.int (128 : Int32)), .val (.ref a46), .val (.int v47), .unset, .unset, .unset, .unset] [(.int (2147483647 : Int32)), (.int q2), (.int v47)])) _
        refine XS.iand X46.here hx rfl (hb hby at_72) rfl ?_
        show Steps p.tables e below (T46.setTop (mkF m 73 #[.val (.int q0), .val (.int q1), .val (.int q2), .val (.long q3), .second, .val (.int (1 : Int32)), .val (.int (1 : Int32)), .val (.int (128 : Int32)), .val (.ref a46), .val (.int v47), .unset, .unset, .unset, .unset] [(.int (q2 &&& (2147483647 : Int32))), (.int v47)])) _
        refine XS.iload X46.here hx rfl (hb hby at_73) rfl ?_
        show Steps p.tables e below (T46.setTop (mkF m 75 #[.val (.int q0), .val (.int q1), .val (.int q2), .val (.long q3), .second, .val (.int (1 : Int32)), .val (.int (1 : Int32)), .val (.int (128 : Int32)), .val (.ref a46), .val (.int v47), .unset, .unset, .unset, .unset] [(.int (128 : Int32)), (.int (q2 &&& (2147483647 : Int32))), (.int v47)])) _
        refine XS.iload X46.here hx rfl (hb hby at_75) rfl ?_
        show Steps p.tables e below (T46.setTop (mkF m 77 #[.val (.int q0), .val (.int q1), .val (.int q2), .val (.long q3), .second, .val (.int (1 : Int32)), .val (.int (1 : Int32)), .val (.int (128 : Int32)), .val (.ref a46), .val (.int v47), .unset, .unset, .unset, .unset] [(.int v47), (.int (128 : Int32)), (.int (q2 &&& (2147483647 : Int32))), (.int v47)])) _
        refine XS.isub X46.here hx rfl (hb hby at_77) rfl ?_
        show Steps p.tables e below (T46.setTop (mkF m 78 #[.val (.int q0), .val (.int q1), .val (.int q2), .val (.long q3), .second, .val (.int (1 : Int32)), .val (.int (1 : Int32)), .val (.int (128 : Int32)), .val (.ref a46), .val (.int v47), .unset, .unset, .unset, .unset] [(.int ((128 : Int32) - v47)), (.int (q2 &&& (2147483647 : Int32))), (.int v47)])) _
        refine XS.iconst X46.here hx rfl (hb hby at_78) ?_
        show Steps p.tables e below (T46.setTop (mkF m 79 #[.val (.int q0), .val (.int q1), .val (.int q2), .val (.long q3), .second, .val (.int (1 : Int32)), .val (.int (1 : Int32)), .val (.int (128 : Int32)), .val (.ref a46), .val (.int v47), .unset, .unset, .unset, .unset] [(.int (1 : Int32)), (.int ((128 : Int32) - v47)), (.int (q2 &&& (2147483647 : Int32))), (.int v47)])) _
        refine XS.iadd X46.here hx rfl (hb hby at_79) rfl ?_
        show Steps p.tables e below (T46.setTop (mkF m 80 #[.val (.int q0), .val (.int q1), .val (.int q2), .val (.long q3), .second, .val (.int (1 : Int32)), .val (.int (1 : Int32)), .val (.int (128 : Int32)), .val (.ref a46), .val (.int v47), .unset, .unset, .unset, .unset] [(.int (((128 : Int32) - v47) + (1 : Int32))), (.int (q2 &&& (2147483647 : Int32))), (.int v47)])) _
        refine iremM X46 hx rfl (hb hby at_80) rfl nz_80_49 ?_
        show Steps p.tables e below (T46.setTop (mkF m 81 #[.val (.int q0), .val (.int q1), .val (.int q2), .val (.long q3), .second, .val (.int (1 : Int32)), .val (.int (1 : Int32)), .val (.int (128 : Int32)), .val (.ref a46), .val (.int v47), .unset, .unset, .unset, .unset] [(.int ((q2 &&& (2147483647 : Int32)) % (((128 : Int32) - v47) + (1 : Int32)))), (.int v47)])) _
        refine XS.iadd X46.here hx rfl (hb hby at_81) rfl ?_
        exact k
      obtain ⟨T52, h52, X52, e52, E52, A52, D52, -, st52⟩ := newO X46 hx hZ hown (hw _ (List.mem_of_getElem? (i := 2) rfl)) (hw _ (List.mem_of_getElem? (i := 3) rfl)) (hw _ (List.mem_of_getElem? (i := 4) rfl)) e46 (g := (mkF m 84 #[.val (.int q0), .val (.int q1), .val (.int q2), .val (.long q3), .second, .val (.int (1 : Int32)), .val (.int (1 : Int32)), .val (.int (128 : Int32)), .val (.ref a46), .val (.int v47), .val (.int v50), .unset, .unset, .unset] [])) rfl (hb hby at_84) (by decide) (by decide)
      obtain ⟨a52, g52⟩ : ∃ z, z = h46.size := ⟨_, rfl⟩
      rw [← g52] at A52 D52 st52
      have ne_a46_a52 : a46 ≠ a52 := g52 ▸ Nat.ne_of_lt V46_n.lt
      have ge_a52 : n0 ≤ a52 := g52 ▸ sz46
      have V52_a46 : own_AI Z h52 a46 .byte [(0 : Int32), (0 : Int32), (0 : Int32), (0 : Int32), (0 : Int32), (0 : Int32), (0 : Int32), (0 : Int32), (0 : Int32), (0 : Int32), (0 : Int32), (0 : Int32), (0 : Int32), (0 : Int32), (0 : Int32), (0 : Int32)] := V46_n.ext E52
      have sz52 : n0 ≤ h52.size := Nat.le_trans sz46 E52.1
      have F52_n0 : Fld Z h52 a52 "com/example/stillframe/stillframe/ccr/IpPrefix" "address" "[B" .null := D52 (Or.inr (hw _ (List.mem_of_getElem? (i := 12) rfl))) (ty := (.array .byte)) (by decide)
      have F52_n1 : Fld Z h52 a52 "com/example/stillframe/stillframe/ccr/IpPrefix" "length" "I" (.int (0 : Int32)) := D52 (Or.inr (hw _ (List.mem_of_getElem? (i := 14) rfl))) (ty := .int) (by decide)
      obtain ⟨_, _, ⟨T53, L53, k53, n53⟩, -, X53, ⟨Lc53, hQ53, l53, y53, z53⟩, st53⟩ := X52.specialBack hx (y := (⟨"com/example/stillframe/stillframe/ccr/IpPrefix", "<init>", "([BI)V"⟩ : MethodName)) rfl hown (mvT hZ (hw _ (List.mem_of_getElem? (i := 5) rfl))) (mvT hZ (hw _ (List.mem_of_getElem? (i := 6) rfl))) (mvT hZ (hw _ (List.mem_of_getElem? (i := 7) rfl))) (by decide) (backOf (W := 1) (rm1 l Z a0 hw [] a52 a46 v47  h52 n0 sz52 A52 F52_n0 F52_n1 ge_a52 ) hZ (hw _ (List.mem_of_getElem? (i := 7) rfl)) (hw _ (List.mem_of_getElem? (i := 4) rfl)) (by decide) (by decide)) (g := (mkF m 92 #[.val (.int q0), .val (.int q1), .val (.int q2), .val (.long q3), .second, .val (.int (1 : Int32)), .val (.int (1 : Int32)), .val (.int (128 : Int32)), .val (.ref a46), .val (.int v47), .val (.int v50), .unset, .unset, .unset] [(.int v47), (.ref a46), (.ref a52), (.ref a52)])) rfl (by rw [hml]; rfl) (Steps.refl _) (a := a52) (argsL := [(.ref a46), (.int v47)]) (rest := [(.ref a52)]) (lenOf pd_8 rfl) rfl (by show 2 * 0 + _ ≤ _; exact Nat.le_of_eq rfl) (hb hby at_92) (fun _ _ => ⟨rfl, e52, (by decide : 2 + 0 ≤ _), (by decide : 18 + 0 ≤ _)⟩)
      dsimp only [Pt.U, Pt.locs, Pt.cells, Pt.slots] at X53 l53 y53 z53 st53 hQ53
      subst l53 y53 z53
      obtain ⟨rfl, N53q, K53, A53_o0, F53_o0, F53_o1⟩ := hQ53
      obtain ⟨h53, e53⟩ : ∃ z, T53.heap = z := ⟨_, rfl⟩
      rw [e53] at K53 A53_o0 F53_o0 F53_o1
      have V53_a46 : own_AI Z h53 a46 .byte [(0 : Int32), (0 : Int32), (0 : Int32), (0 : Int32), (0 : Int32), (0 : Int32), (0 : Int32), (0 : Int32), (0 : Int32), (0 : Int32), (0 : Int32), (0 : Int32), (0 : Int32), (0 : Int32), (0 : Int32), (0 : Int32)] := V52_a46.keep K53 (ninS ne_a46_a52 nin0)
      have A53_a52 : Exa Z h53 a52 "com/example/stillframe/stillframe/ccr/IpPrefix" := A52.keep K53
      have sz53 : n0 ≤ h53.size := Nat.le_trans sz52 K53.1
      have N53 := Fr.app N0 N53q
      obtain ⟨T54, h54, X54, e54, E54, A54, D54, -, st54⟩ := newO X53 hx hZ hown (hw _ (List.mem_of_getElem? (i := 15) rfl)) (hw _ (List.mem_of_getElem? (i := 16) rfl)) (hw _ (List.mem_of_getElem? (i := 17) rfl)) e53 (g := (mkF m 97 #[.val (.int q0), .val (.int q1), .val (.int q2), .val (.long q3), .second, .val (.int (1 : Int32)), .val (.int (1 : Int32)), .val (.int (128 : Int32)), .val (.ref a46), .val (.int v47), .val (.int v50), .val (.ref a52), .unset, .unset] [])) rfl (hb hby at_97) (by decide) (by decide)
      obtain ⟨a54, g54⟩ : ∃ z, z = h53.size := ⟨_, rfl⟩
      rw [← g54] at A54 D54 st54
      have ne_a46_a54 : a46 ≠ a54 := g54 ▸ Nat.ne_of_lt V53_a46.lt
      have ne_a52_a54 : a52 ≠ a54 := g54 ▸ Nat.ne_of_lt A53_o0.lt
      have ge_a54 : n0 ≤ a54 := g54 ▸ sz53
      have V54_a46 : own_AI Z h54 a46 .byte [(0 : Int32), (0 : Int32), (0 : Int32), (0 : Int32), (0 : Int32), (0 : Int32), (0 : Int32), (0 : Int32), (0 : Int32), (0 : Int32), (0 : Int32), (0 : Int32), (0 : Int32), (0 : Int32), (0 : Int32), (0 : Int32)] := V53_a46.ext E54
      have A54_a52 : Exa Z h54 a52 "com/example/stillframe/stillframe/ccr/IpPrefix" := A53_o0.ext E54
      have F54_a52_0 : Fld Z h54 a52 "com/example/stillframe/stillframe/ccr/IpPrefix" "address" "[B" (.ref a46) := F53_o0.ext E54
      have F54_a52_1 : Fld Z h54 a52 "com/example/stillframe/stillframe/ccr/IpPrefix" "length" "I" (.int v47) := F53_o1.ext E54
      have sz54 : n0 ≤ h54.size := Nat.le_trans sz53 E54.1
      have F54_n0 : Fld Z h54 a54 "com/example/stillframe/stillframe/ccr/RoaPayload" "asn" "J" (.long (0 : Int64)) := D54 (Or.inr (hw _ (List.mem_of_getElem? (i := 24) rfl))) (ty := .long) (by decide)
      have F54_n1 : Fld Z h54 a54 "com/example/stillframe/stillframe/ccr/RoaPayload" "prefix" "Lcom/example/stillframe/stillframe/ccr/IpPrefix;" .null := D54 (Or.inr (hw _ (List.mem_of_getElem? (i := 26) rfl))) (ty := (.object "com/example/stillframe/stillframe/ccr/IpPrefix")) (by decide)
      have F54_n2 : Fld Z h54 a54 "com/example/stillframe/stillframe/ccr/RoaPayload" "maxLength" "I" (.int (0 : Int32)) := D54 (Or.inr (hw _ (List.mem_of_getElem? (i := 28) rfl))) (ty := .int) (by decide)
      obtain ⟨_, _, ⟨T55, L55, k55, n55⟩, -, X55, ⟨Lc55, hQ55, l55, y55, z55⟩, st55⟩ := X54.specialBack hx (y := (⟨"com/example/stillframe/stillframe/ccr/RoaPayload", "<init>", "(JLcom/example/stillframe/stillframe/ccr/IpPrefix;I)V"⟩ : MethodName)) rfl hown (mvT hZ (hw _ (List.mem_of_getElem? (i := 19) rfl))) (mvT hZ (hw _ (List.mem_of_getElem? (i := 20) rfl))) (mvT hZ (hw _ (List.mem_of_getElem? (i := 21) rfl))) (by decide) (backOf (W := 1) (rm3 l Z a0 hw [] a54 (q3 &&& (4294967295 : Int64)) a52 v50  h54 n0 sz54 A54 F54_n0 F54_n1 F54_n2 ge_a54 ) hZ (hw _ (List.mem_of_getElem? (i := 21) rfl)) (hw _ (List.mem_of_getElem? (i := 17) rfl)) (by decide) (by decide)) (g := (mkF m 119 #[.val (.int q0), .val (.int q1), .val (.int q2), .val (.long q3), .second, .val (.int (1 : Int32)), .val (.int (1 : Int32)), .val (.int (128 : Int32)), .val (.ref a46), .val (.int v47), .val (.int v50), .val (.ref a52), .unset, .unset] [(.int v50), (.ref a52), (.long (q3 &&& (4294967295 : Int64))), (.ref a54), (.ref a54)])) rfl (by rw [hml]; rfl) (Steps.refl _) (a := a54) (argsL := [(.long (q3 &&& (4294967295 : Int64))), (.ref a52), (.int v50)]) (rest := [(.ref a54)]) (lenOf pd_9 rfl) rfl (by show 2 * 0 + _ ≤ _; exact Nat.le_of_eq rfl) (hb hby at_119) (fun _ _ => ⟨rfl, e54, (by decide : 3 + 0 ≤ _), (by decide : 21 + 0 ≤ _)⟩)
      dsimp only [Pt.U, Pt.locs, Pt.cells, Pt.slots] at X55 l55 y55 z55 st55 hQ55
      subst l55 y55 z55
      obtain ⟨rfl, N55q, K55, A55_o0, F55_o0, F55_o1, F55_o2⟩ := hQ55
      obtain ⟨h55, e55⟩ : ∃ z, T55.heap = z := ⟨_, rfl⟩
      rw [e55] at K55 A55_o0 F55_o0 F55_o1 F55_o2
      have V55_a46 : own_AI Z h55 a46 .byte [(0 : Int32), (0 : Int32), (0 : Int32), (0 : Int32), (0 : Int32), (0 : Int32), (0 : Int32), (0 : Int32), (0 : Int32), (0 : Int32), (0 : Int32), (0 : Int32), (0 : Int32), (0 : Int32), (0 : Int32), (0 : Int32)] := V54_a46.keep K55 (ninS ne_a46_a54 nin0)
      have A55_a52 : Exa Z h55 a52 "com/example/stillframe/stillframe/ccr/IpPrefix" := A54_a52.keep K55
      have F55_a52_0 : Fld Z h55 a52 "com/example/stillframe/stillframe/ccr/IpPrefix" "address" "[B" (.ref a46) := F54_a52_0.keep K55 (ninS ne_a52_a54 nin0)
      have F55_a52_1 : Fld Z h55 a52 "com/example/stillframe/stillframe/ccr/IpPrefix" "length" "I" (.int v47) := F54_a52_1.keep K55 (ninS ne_a52_a54 nin0)
      have A55_a54 : Exa Z h55 a54 "com/example/stillframe/stillframe/ccr/RoaPayload" := A54.keep K55
      have sz55 : n0 ≤ h55.size := Nat.le_trans sz54 K55.1
      have N55 := Fr.app N53 N55q
      obtain ⟨cq56, kq56, q56a, q56b, q56c⟩ := isOf hZ e55 A55_o0
      obtain ⟨_, _, ⟨T56, L56, k56, n56⟩, -, X56, ⟨Lc56, hQ56, l56, y56, z56⟩, st56⟩ := X55.virtualBack hx (y := (⟨"com/example/stillframe/stillframe/ccr/RoaPayload", "longestLength", "()I"⟩ : MethodName)) (z := (⟨"com/example/stillframe/stillframe/ccr/RoaPayload", "longestLength", "()I"⟩ : MethodName)) hown (mvT hZ (hw _ (List.mem_of_getElem? (i := 29) rfl))) (mvT hZ (hw _ (List.mem_of_getElem? (i := 30) rfl))) (notFace_of_selects (args := #[]) (mvT hZ (hw _ (List.mem_of_getElem? (i := 32) rfl)))) (mvT hZ (hw _ (List.mem_of_getElem? (i := 32) rfl))) (mvT hZ (hw _ (List.mem_of_getElem? (i := 31) rfl))) (by decide) (backOf (W := 0) (rm4 l Z a0 hw [] a54 a52 v50 v47 h55 n0 sz55 A55_o0 A55_a52 F55_o1 F55_o2 F55_a52_1 ) hZ (hw _ (List.mem_of_getElem? (i := 33) rfl)) (hw _ (List.mem_of_getElem? (i := 17) rfl)) (by decide) (by decide)) q56a q56c (g := (mkF m 140 #[.val (.int q0), .val (.int q1), .val (.int q2), .val (.long q3), .second, .val (.int (1 : Int32)), .val (.int (1 : Int32)), .val (.int (128 : Int32)), .val (.ref a46), .val (.int v47), .val (.int v50), .val (.ref a52), .val (.ref a54), .val (.int v50)] [(.ref a54)])) rfl (by rw [hml]; rfl) (Steps.refl _) (argsL := []) (rest := []) (lenOf pd_6 rfl) rfl (by show 2 * 0 + _ ≤ _; exact Nat.le_of_eq rfl) (hb hby at_140) (fun _ _ => ⟨rfl, e55, (by decide : 3 + 0 ≤ _), (by decide : 21 + 0 ≤ _)⟩)
      dsimp only [Pt.U, Pt.locs, Pt.cells, Pt.slots] at X56 l56 y56 z56 st56 hQ56
      subst l56 y56 z56
      obtain ⟨rfl, N56q, e56⟩ := hQ56
      have N56 := Fr.app N55 N56q
      have pre57 : ∀ t, Steps p.tables e below (T56.setTop (mkF m 145 #[.val (.int q0), .val (.int q1), .val (.int q2), .val (.long q3), .second, .val (.int (1 : Int32)), .val (.int (1 : Int32)), .val (.int (128 : Int32)), .val (.ref a46), .val (.int v47), .val (.int v50), .val (.ref a52), .val (.ref a54), .val (.int v50)] [(.int v50), (.int (own_f4  v50 v47))])) t → Steps p.tables e below (s₁.setTop (entryFrame m #[(.int q0), (.int q1), (.int q2), (.long q3)] maxLocals)) t := by
        intro t k
        refine pre51 t ?_
        show Steps p.tables e below (T46.setTop (mkF m 82 #[.val (.int q0), .val (.int q1), .val (.int q2), .val (.long q3), .second, .val (.int (1 : Int32)), .val (.int (1 : Int32)), .val (.int (128 : Int32)), .val (.ref a46), .val (.int v47), .unset, .unset, .unset, .unset] [(.int v50)])) _
        refine XS.istore X46.here hx rfl (hb hby at_82) rfl (l' := #[.val (.int q0), .val (.int q1), .val (.int q2), .val (.long q3), .second, .val (.int (1 : Int32)), .val (.int (1 : Int32)), .val (.int (128 : Int32)), .val (.ref a46), .val (.int v47), .val (.int v50), .unset, .unset, .unset]) rfl ?_
        show Steps p.tables e below (T46.setTop (mkF m 84 #[.val (.int q0), .val (.int q1), .val (.int q2), .val (.long q3), .second, .val (.int (1 : Int32)), .val (.int (1 : Int32)), .val (.int (128 : Int32)), .val (.ref a46), .val (.int v47), .val (.int v50), .unset, .unset, .unset] [])) _
        refine st52 _ ?_
        show Steps p.tables e below (T52.setTop (mkF m 87 #[.val (.int q0), .val (.int q1), .val (.int q2), .val (.long q3), .second, .val (.int (1 : Int32)), .val (.int (1 : Int32)), .val (.int (128 : Int32)), .val (.ref a46), .val (.int v47), .val (.int v50), .unset, .unset, .unset] [(.ref a52)])) _
        refine XS.dup X52.here hx rfl (hb hby at_87) rfl rfl ?_
        show Steps p.tables e below (T52.setTop (mkF m 88 #[.val (.int q0), .val (.int q1), .val (.int q2), .val (.long q3), .second, .val (.int (1 : Int32)), .val (.int (1 : Int32)), .val (.int (128 : Int32)), .val (.ref a46), .val (.int v47), .val (.int v50), .unset, .unset, .unset] [(.ref a52), (.ref a52)])) _
        refine XS.aload X52.here hx rfl (hb hby at_88) rfl rfl ?_
        show Steps p.tables e below (T52.setTop (mkF m 90 #[.val (.int q0), .val (.int q1), .val (.int q2), .val (.long q3), .second, .val (.int (1 : Int32)), .val (.int (1 : Int32)), .val (.int (128 : Int32)), .val (.ref a46), .val (.int v47), .val (.int v50), .unset, .unset, .unset] [(.ref a46), (.ref a52), (.ref a52)])) _
        refine XS.iload X52.here hx rfl (hb hby at_90) rfl ?_
        show Steps p.tables e below (T52.setTop (mkF m 92 #[.val (.int q0), .val (.int q1), .val (.int q2), .val (.long q3), .second, .val (.int (1 : Int32)), .val (.int (1 : Int32)), .val (.int (128 : Int32)), .val (.ref a46), .val (.int v47), .val (.int v50), .unset, .unset, .unset] [(.int v47), (.ref a46), (.ref a52), (.ref a52)])) _
        refine st53.trans ?_
        show Steps p.tables e below (T53.setTop (mkF m 95 #[.val (.int q0), .val (.int q1), .val (.int q2), .val (.long q3), .second, .val (.int (1 : Int32)), .val (.int (1 : Int32)), .val (.int (128 : Int32)), .val (.ref a46), .val (.int v47), .val (.int v50), .unset, .unset, .unset] [(.ref a52)])) _
        refine XS.astore X53.here hx rfl (hb hby at_95) rfl rfl (l' := #[.val (.int q0), .val (.int q1), .val (.int q2), .val (.long q3), .second, .val (.int (1 : Int32)), .val (.int (1 : Int32)), .val (.int (128 : Int32)), .val (.ref a46), .val (.int v47), .val (.int v50), .val (.ref a52), .unset, .unset]) rfl ?_
        show Steps p.tables e below (T53.setTop (mkF m 97 #[.val (.int q0), .val (.int q1), .val (.int q2), .val (.long q3), .second, .val (.int (1 : Int32)), .val (.int (1 : Int32)), .val (.int (128 : Int32)), .val (.ref a46), .val (.int v47), .val (.int v50), .val (.ref a52), .unset, .unset] [])) _
        refine st54 _ ?_
        show Steps p.tables e below (T54.setTop (mkF m 100 #[.val (.int q0), .val (.int q1), .val (.int q2), .val (.long q3), .second, .val (.int (1 : Int32)), .val (.int (1 : Int32)), .val (.int (128 : Int32)), .val (.ref a46), .val (.int v47), .val (.int v50), .val (.ref a52), .unset, .unset] [(.ref a54)])) _
        refine XS.dup X54.here hx rfl (hb hby at_100) rfl rfl ?_
        show Steps p.tables e below (T54.setTop (mkF m 101 #[.val (.int q0), .val (.int q1), .val (.int q2), .val (.long q3), .second, .val (.int (1 : Int32)), .val (.int (1 : Int32)), .val (.int (128 : Int32)), .val (.ref a46), .val (.int v47), .val (.int v50), .val (.ref a52), .unset, .unset] [(.ref a54), (.ref a54)])) _
        refine XS.lloadN X54.here hx rfl (hb hby at_101) rfl ?_
        show Steps p.tables e below (T54.setTop (mkF m 102 #[.val (.int q0), .val (.int q1), .val (.int q2), .val (.long q3), .second, .val (.int (1 : Int32)), .val (.int (1 : Int32)), .val (.int (128 : Int32)), .val (.ref a46), .val (.int v47), .val (.int v50), .val (.ref a52), .unset, .unset] [(.long q3), (.ref a54), (.ref a54)])) _
        refine X54.ldc2Long hx hown (mvT hZ (hw _ (List.mem_of_getElem? (i := 18) rfl))) (g := (mkF m 102 #[.val (.int q0), .val (.int q1), .val (.int q2), .val (.long q3), .second, .val (.int (1 : Int32)), .val (.int (1 : Int32)), .val (.int (128 : Int32)), .val (.ref a46), .val (.int v47), .val (.int v50), .val (.ref a52), .unset, .unset] [(.long q3), (.ref a54), (.ref a54)])) rfl (hb hby at_102) _ ?_
        show Steps p.tables e below (T54.setTop (mkF m 105 #[.val (.int q0), .val (.int q1), .val (.int q2), .val (.long q3), .second, .val (.int (1 : Int32)), .val (.int (1 : Int32)), .val (.int (128 : Int32)), .val (.ref a46), .val (.int v47), .val (.int v50), .val (.ref a52), .unset, .unset] [(.long (4294967295 : Int64)), (.long q3), (.ref a54), (.ref a54)])) _
        refine XS.land X54.here hx rfl (hb hby at_105) rfl ?_
        show Steps p.tables e below (T54.setTop (mkF m 106 #[.val (.int q0), .val (.int q1), .val (.int q2), .val (.long q3), .second, .val (.int (1 : Int32)), .val (.int (1 : Int32)), .val (.int (128 : Int32)), .val (.ref a46), .val (.int v47), .val (.int v50), .val (.ref a52), .unset, .unset] [(.long (q3 &&& (4294967295 : Int64))), (.ref a54), (.ref a54)])) _
        refine XS.aload X54.here hx rfl (hb hby at_106) rfl rfl ?_
        show Steps p.tables e below (T54.setTop (mkF m 108 #[.val (.int q0), .val (.int q1), .val (.int q2), .val (.long q3), .second, .val (.int (1 : Int32)), .val (.int (1 : Int32)), .val (.int (128 : Int32)), .val (.ref a46), .val (.int v47), .val (.int v50), .val (.ref a52), .unset, .unset] [(.ref a52), (.long (q3 &&& (4294967295 : Int64))), (.ref a54), (.ref a54)])) _
        refine XS.iload X54.here hx rfl (hb hby at_108) rfl ?_
        show Steps p.tables e below (T54.setTop (mkF m 110 #[.val (.int q0), .val (.int q1), .val (.int q2), .val (.long q3), .second, .val (.int (1 : Int32)), .val (.int (1 : Int32)), .val (.int (128 : Int32)), .val (.ref a46), .val (.int v47), .val (.int v50), .val (.ref a52), .unset, .unset] [(.int (1 : Int32)), (.ref a52), (.long (q3 &&& (4294967295 : Int64))), (.ref a54), (.ref a54)])) _
        refine XS.ifNo X54.here hx rfl (hb hby at_110) rfl (by decide) ?_
        show Steps p.tables e below (T54.setTop (mkF m 113 #[.val (.int q0), .val (.int q1), .val (.int q2), .val (.long q3), .second, .val (.int (1 : Int32)), .val (.int (1 : Int32)), .val (.int (128 : Int32)), .val (.ref a46), .val (.int v47), .val (.int v50), .val (.ref a52), .unset, .unset] [(.ref a52), (.long (q3 &&& (4294967295 : Int64))), (.ref a54), (.ref a54)])) _
        refine XS.iload X54.here hx rfl (hb hby at_113) rfl ?_
        show Steps p.tables e below (T54.setTop (mkF m 115 #[.val (.int q0), .val (.int q1), .val (.int q2), .val (.long q3), .second, .val (.int (1 : Int32)), .val (.int (1 : Int32)), .val (.int (128 : Int32)), .val (.ref a46), .val (.int v47), .val (.int v50), .val (.ref a52), .unset, .unset] [(.int v50), (.ref a52), (.long (q3 &&& (4294967295 : Int64))), (.ref a54), (.ref a54)])) _
        refine XS.goto X54.here hx rfl (pc0 := 115) (pc' := 119) rfl (hb hby at_115) (by decide) (by decide) ?_
        show Steps p.tables e below (T54.setTop (mkF m 119 #[.val (.int q0), .val (.int q1), .val (.int q2), .val (.long q3), .second, .val (.int (1 : Int32)), .val (.int (1 : Int32)), .val (.int (128 : Int32)), .val (.ref a46), .val (.int v47), .val (.int v50), .val (.ref a52), .unset, .unset] [(.int v50), (.ref a52), (.long (q3 &&& (4294967295 : Int64))), (.ref a54), (.ref a54)])) _
        refine st55.trans ?_
        show Steps p.tables e below (T55.setTop (mkF m 122 #[.val (.int q0), .val (.int q1), .val (.int q2), .val (.long q3), .second, .val (.int (1 : Int32)), .val (.int (1 : Int32)), .val (.int (128 : Int32)), .val (.ref a46), .val (.int v47), .val (.int v50), .val (.ref a52), .unset, .unset] [(.ref a54)])) _
        refine XS.astore X55.here hx rfl (hb hby at_122) rfl rfl (l' := #[.val (.int q0), .val (.int q1), .val (.int q2), .val (.long q3), .second, .val (.int (1 : Int32)), .val (.int (1 : Int32)), .val (.int (128 : Int32)), .val (.ref a46), .val (.int v47), .val (.int v50), .val (.ref a52), .val (.ref a54), .unset]) rfl ?_
        show Steps p.tables e below (T55.setTop (mkF m 124 #[.val (.int q0), .val (.int q1), .val (.int q2), .val (.long q3), .second, .val (.int (1 : Int32)), .val (.int (1 : Int32)), .val (.int (128 : Int32)), .val (.ref a46), .val (.int v47), .val (.int v50), .val (.ref a52), .val (.ref a54), .unset] [])) _
        refine XS.iload X55.here hx rfl (hb hby at_124) rfl ?_
        show Steps p.tables e below (T55.setTop (mkF m 126 #[.val (.int q0), .val (.int q1), .val (.int q2), .val (.long q3), .second, .val (.int (1 : Int32)), .val (.int (1 : Int32)), .val (.int (128 : Int32)), .val (.ref a46), .val (.int v47), .val (.int v50), .val (.ref a52), .val (.ref a54), .unset] [(.int (1 : Int32))])) _
        refine XS.ifNo X55.here hx rfl (hb hby at_126) rfl (by decide) ?_
        show Steps p.tables e below (T55.setTop (mkF m 129 #[.val (.int q0), .val (.int q1), .val (.int q2), .val (.long q3), .second, .val (.int (1 : Int32)), .val (.int (1 : Int32)), .val (.int (128 : Int32)), .val (.ref a46), .val (.int v47), .val (.int v50), .val (.ref a52), .val (.ref a54), .unset] [])) _
        refine XS.iload X55.here hx rfl (hb hby at_129) rfl ?_
        show Steps p.tables e below (T55.setTop (mkF m 131 #[.val (.int q0), .val (.int q1), .val (.int q2), .val (.long q3), .second, .val (.int (1 : Int32)), .val (.int (1 : Int32)), .val (.int (128 : Int32)), .val (.ref a46), .val (.int v47), .val (.int v50), .val (.ref a52), .val (.ref a54), .unset] [(.int v50)])) _
        refine XS.goto X55.here hx rfl (pc0 := 131) (pc' := 136) rfl (hb hby at_131) (by decide) (by decide) ?_
        show Steps p.tables e below (T55.setTop (mkF m 136 #[.val (.int q0), .val (.int q1), .val (.int q2), .val (.long q3), .second, .val (.int (1 : Int32)), .val (.int (1 : Int32)), .val (.int (128 : Int32)), .val (.ref a46), .val (.int v47), .val (.int v50), .val (.ref a52), .val (.ref a54), .unset] [(.int v50)])) _
        refine XS.istore X55.here hx rfl (hb hby at_136) rfl (l' := #[.val (.int q0), .val (.int q1), .val (.int q2), .val (.long q3), .second, .val (.int (1 : Int32)), .val (.int (1 : Int32)), .val (.int (128 : Int32)), .val (.ref a46), .val (.int v47), .val (.int v50), .val (.ref a52), .val (.ref a54), .val (.int v50)]) rfl ?_
        show Steps p.tables e below (T55.setTop (mkF m 138 #[.val (.int q0), .val (.int q1), .val (.int q2), .val (.long q3), .second, .val (.int (1 : Int32)), .val (.int (1 : Int32)), .val (.int (128 : Int32)), .val (.ref a46), .val (.int v47), .val (.int v50), .val (.ref a52), .val (.ref a54), .val (.int v50)] [])) _
        refine XS.aload X55.here hx rfl (hb hby at_138) rfl rfl ?_
        show Steps p.tables e below (T55.setTop (mkF m 140 #[.val (.int q0), .val (.int q1), .val (.int q2), .val (.long q3), .second, .val (.int (1 : Int32)), .val (.int (1 : Int32)), .val (.int (128 : Int32)), .val (.ref a46), .val (.int v47), .val (.int v50), .val (.ref a52), .val (.ref a54), .val (.int v50)] [(.ref a54)])) _
        refine st56.trans ?_
        show Steps p.tables e below (T56.setTop (mkF m 143 #[.val (.int q0), .val (.int q1), .val (.int q2), .val (.long q3), .second, .val (.int (1 : Int32)), .val (.int (1 : Int32)), .val (.int (128 : Int32)), .val (.ref a46), .val (.int v47), .val (.int v50), .val (.ref a52), .val (.ref a54), .val (.int v50)] [(.int (own_f4  v50 v47))])) _
        refine XS.iload X56.here hx rfl (hb hby at_143) rfl ?_
        exact k
      by_cases c58 : (own_f4  v50 v47) = v50
      · obtain ⟨fs, hr, hrun, hended, hW, hsame⟩ := X56.leave (v := some (.int (1 : Int32))) (fun h => by rw [Bd.returns] at h; cases h) hlk
        refine ⟨_, _, pre57 _ ?_, hrun, hended, _, _, rfl, ?_, ⟨_, rfl⟩, hW, hsame.mono (by decide) (by decide)⟩
        · show Steps p.tables e below (T56.setTop (mkF m 145 #[.val (.int q0), .val (.int q1), .val (.int q2), .val (.long q3), .second, .val (.int (1 : Int32)), .val (.int (1 : Int32)), .val (.int (128 : Int32)), .val (.ref a46), .val (.int v47), .val (.int v50), .val (.ref a52), .val (.ref a54), .val (.int v50)] [(.int v50), (.int (own_f4  v50 v47))])) _
          refine XS.icmpNo X56.here hx rfl (hb hby at_145) rfl ((teq c58).2) ?_
          show Steps p.tables e below (T56.setTop (mkF m 148 #[.val (.int q0), .val (.int q1), .val (.int q2), .val (.long q3), .second, .val (.int (1 : Int32)), .val (.int (1 : Int32)), .val (.int (128 : Int32)), .val (.ref a46), .val (.int v47), .val (.int v50), .val (.ref a52), .val (.ref a54), .val (.int v50)] [])) _
          refine XS.iconst X56.here hx rfl (hb hby at_148) ?_
          show Steps p.tables e below (T56.setTop (mkF m 149 #[.val (.int q0), .val (.int q1), .val (.int q2), .val (.long q3), .second, .val (.int (1 : Int32)), .val (.int (1 : Int32)), .val (.int (128 : Int32)), .val (.ref a46), .val (.int v47), .val (.int v50), .val (.ref a52), .val (.ref a54), .val (.int v50)] [(.int (1 : Int32))])) _
          refine XS.goto X56.here hx rfl (pc0 := 149) (pc' := 153) rfl (hb hby at_149) (by decide) (by decide) ?_
          show Steps p.tables e below (T56.setTop (mkF m 153 #[.val (.int q0), .val (.int q1), .val (.int q2), .val (.long q3), .second, .val (.int (1 : Int32)), .val (.int (1 : Int32)), .val (.int (128 : Int32)), .val (.ref a46), .val (.int v47), .val (.int v50), .val (.ref a52), .val (.ref a54), .val (.int v50)] [(.int (1 : Int32))])) _
          exact retN X56 hx (t := .boolean) Bd.returns (by simp) (hb hby at_153) hr
        · show Q0 Z q0 q1 q2 q3 h0 n0 _ T56.heap _
          rw [e56]
          exact ⟨by have w_hv50 := hv50.symm; subst w_hv50; have w_hv47 := hv47.symm; subst w_hv47; simp only [own_f0, if_neg c2, if_neg c32, if_pos c58], N56⟩
      · obtain ⟨fs, hr, hrun, hended, hW, hsame⟩ := X56.leave (v := some (.int (0 : Int32))) (fun h => by rw [Bd.returns] at h; cases h) hlk
        refine ⟨_, _, pre57 _ ?_, hrun, hended, _, _, rfl, ?_, ⟨_, rfl⟩, hW, hsame.mono (by decide) (by decide)⟩
        · show Steps p.tables e below (T56.setTop (mkF m 145 #[.val (.int q0), .val (.int q1), .val (.int q2), .val (.long q3), .second, .val (.int (1 : Int32)), .val (.int (1 : Int32)), .val (.int (128 : Int32)), .val (.ref a46), .val (.int v47), .val (.int v50), .val (.ref a52), .val (.ref a54), .val (.int v50)] [(.int v50), (.int (own_f4  v50 v47))])) _
          refine XS.icmpYes X56.here hx rfl (pc0 := 145) (pc' := 152) rfl (hb hby at_145) rfl ((feq c58).2) (by decide) (by decide) ?_
          show Steps p.tables e below (T56.setTop (mkF m 152 #[.val (.int q0), .val (.int q1), .val (.int q2), .val (.long q3), .second, .val (.int (1 : Int32)), .val (.int (1 : Int32)), .val (.int (128 : Int32)), .val (.ref a46), .val (.int v47), .val (.int v50), .val (.ref a52), .val (.ref a54), .val (.int v50)] [])) _
          refine XS.iconst X56.here hx rfl (hb hby at_152) ?_
          show Steps p.tables e below (T56.setTop (mkF m 153 #[.val (.int q0), .val (.int q1), .val (.int q2), .val (.long q3), .second, .val (.int (1 : Int32)), .val (.int (1 : Int32)), .val (.int (128 : Int32)), .val (.ref a46), .val (.int v47), .val (.int v50), .val (.ref a52), .val (.ref a54), .val (.int v50)] [(.int (0 : Int32))])) _
          exact retN X56 hx (t := .boolean) Bd.returns (by simp) (hb hby at_153) hr
        · show Q0 Z q0 q1 q2 q3 h0 n0 _ T56.heap _
          rw [e56]
          exact ⟨by have w_hv50 := hv50.symm; subst w_hv50; have w_hv47 := hv47.symm; subst w_hv47; simp only [own_f0, if_neg c2, if_neg c32, if_neg c58], N56⟩

theorem own_mx {x x2 y z n m : Int32} {k : Int} (h : y = (x &&& 2147483647) % n) (hn : n.toInt = k) (hm : m.toInt = k - 1) (hk : 1 ≤ k ∧ k ≤ 1000) (hz : z = y + (x2 &&& 2147483647) % (m - y + 1)) : 0 ≤ z.toInt ∧ z.toInt = y.toInt + ((x2 &&& 2147483647) % (m - y + 1)).toInt ∧ 0 ≤ ((x2 &&& 2147483647) % (m - y + 1)).toInt := by
  have r := own_nzR h hn hk
  have q := own_nzS h hn hm hk
  have a := own_mask x2 2147483647 31 (by decide) (by decide)
  have b := own_irem (x := x2 &&& 2147483647) (y := m - y + 1) (by omega)
  have c := Int.emod_lt_of_pos (x2 &&& 2147483647).toInt (show 0 < (m - y + 1).toInt by omega)
  have d := Int.emod_nonneg (x2 &&& 2147483647).toInt (show (m - y + 1).toInt ≠ 0 by omega)
  have f := own_iadd (x := y) (y := (x2 &&& 2147483647) % (m - y + 1)) (by omega)
  rw [← hz] at f
  omega
theorem own_mx4 {z w : Int32} (h : 0 ≤ z.toInt) : own_f4 z w = z := by
  have : ¬ z = -1 := fun e => by rw [e] at h; revert h; decide
  simp only [own_f4, if_neg this]
theorem own_plain (q0 q1 q2 : Int32) (q3 : Int64) : own_f0 q0 q1 q2 q3 = 1 := by
  have a1 := (own_mx (x := q1) (x2 := q2) (m := 32) (n := 33) (k := 33) rfl (by decide) (by decide) (by decide) rfl).1
  have a2 := (own_mx (x := q1) (x2 := q2) (m := 128) (n := 129) (k := 129) rfl (by decide) (by decide) (by decide) rfl).1
  have b : ∀ w, own_f4 (-1) w = w := fun w => by simp only [own_f4, own_f5, if_true]
  simp only [own_f0, b, own_mx4 a1, own_mx4 a2, if_true, ite_self]

set_option maxRecDepth 65536 in
set_option maxHeartbeats 40000000 in
theorem comes_1 {Post : Tables → Env → Array Value → State → Outcome → State → Prop} (hpost : ∀ tb e args s v u, (limb_1_1.after args s (.returned v) u = true ∧ limb_1_2.after args s (.returned v) u = true ∧ True) → FrameEnd s (.returned v) u (Jvm.fieldLocs frame_1_writes args s ++ Jvm.arrayLocs frame_1_arrays args s ++ Jvm.staticLocs frame_1_statics s) 16 128 → Post tb e args s (.returned v) u) :
    ArmFor flags0 classFile x code maxLocals ret World_1 tables_1 room_1 Calls_1 rest_1 Pre_1 Post := by
  intro l hfl _ _ p e ha hc hk s m args below hf hA hF happ hP
  obtain ⟨hcalls, hrest, hpre⟩ := hP
  obtain ⟨-, -, -, hnamed, -, -, -, hat⟩ := (Spec.applies_iff hf).mp happ
  obtain ⟨hg, hn⟩ := and_e (Cond.before_iff.mp (show (Jvm.Cond.and given_1 narrow_1).before args s = true from hpre))
  obtain ⟨gc, gr0⟩ := and_e hg
  obtain ⟨w0, w1, w2, w3, rfl⟩ : ∃ w0 w1 w2 w3 : Value, args = #[w0, w1, w2, w3] := by
    have hs : args.size = 4 := by simpa [Cond.value, given_1] using gc
    obtain ⟨L⟩ := args
    match L, hs with
    | [w0, w1, w2, w3], _ => exact ⟨w0, w1, w2, w3, rfl⟩
  have hw := fun d (hd : d ∈ tables_1) => atoms_spec (ws := Jvm.Cond.code x code maxLocals ret :: tables_1) hat d (List.mem_cons_of_mem _ hd)
  obtain ⟨g0, gr1⟩ := and_e gr0
  obtain ⟨i0, ei0⟩ := is_v g0
  obtain rfl : w0 = (.int i0) := Option.some.inj ei0
  obtain ⟨g1, gr2⟩ := and_e gr1
  obtain ⟨i1, ei1⟩ := is_v g1
  obtain rfl : w1 = (.int i1) := Option.some.inj ei1
  obtain ⟨g2, gr3⟩ := and_e gr2
  obtain ⟨i2, ei2⟩ := is_v g2
  obtain rfl : w2 = (.int i2) := Option.some.inj ei2
  obtain ⟨i3, ei3⟩ := isL_v gr3
  obtain rfl : w3 = (.long i3) := Option.some.inj ei3
  obtain ⟨n, o, h1, h2, h3, _, L, rfl, ⟨hv, N⟩, hq⟩ := rm0 l s _ hw tables_1 i0 i1 i2 i3 s.heap s.heap.size (Nat.le_refl _) p e ha hc hk s m _ below hf ((Spec.applies_iff_loose hf).mp happ).1 ⟨rfl, State.Warmed39.refl s, rfl⟩ trivial
  rw [own_plain] at hv
  subst hv
  refine ⟨n, _, h1, h2, h3, hpost _ _ _ _ _ _ ⟨Cond.after_iff.mpr rfl, Cond.after_iff.mpr (eq_i res_at (Term.int_eval (1)) rfl), trivial⟩ ⟨hq.1, hq.2.1, (hq.2.2.sift fun y hy => Or.inr (N y hy)).mono (by decide) (by decide)⟩⟩
theorem main_1_1 : Claimed_1_1 := comes_1 fun _ _ _ _ _ _ h hF => ⟨h.1, hF⟩
theorem main_1_2 : Claimed_1_2 := comes_1 fun _ _ _ _ _ _ h hF => ⟨h.2.1, hF⟩
end Jvm.Pilot.@@N@@
namespace Jvm.Pilot.@@N@@
open Jvm Jvm.ClassFile Sem Op Lib Jvm.Free Jvm.Stand Jvm.Pilot.@@N@@.Jvm.D
/-! MADE BY PROGRAM (witnessworld.py) out of the Statement's table words and the real class files: 10 classes; the members and pool entries that the words name. The judged class is class 1, her method 1. -/
namespace start1
open Jvm.ClassFile
def u (s : String) : CpInfo := .utf8 (stringToUtf16 s)
/-- a pool by its gaps: so many unusable entries, then the entry; so many at the end -/
def gap : Nat → List CpInfo → List CpInfo
  | 0, r => r
  | n + 1, r => .unusable :: gap n r
def poolList (es : List (Nat × CpInfo)) (last : Nat) : List CpInfo := es.foldr (fun e r => gap e.1 (e.2 :: r)) (gap last [])
def pool (es : List (Nat × CpInfo)) (last : Nat) : Array CpInfo := ⟨poolList es last⟩
def fileOf (pool : Array CpInfo) (this : Nat) (attrs : Array Attribute := #[]) (ms : Array MethodInfo := #[]) (fl : Nat := 33) (sup : Nat := 0) (ifs : Array Nat := #[]) (fds : Array FieldInfo := #[]) : ClassFile where
  minorVersion := 0
  majorVersion := 65
  constantPool := pool
  accessFlags := fl
  thisClass := this
  superClass := sup
  interfaces := ifs
  fields := fds
  methods := ms
  attributes := attrs
def plain (name : String) (sup : Option ClassId) : Class where
  name := name
  kind := .ordinary
  loader := none
  accessFlags := 33
  super := sup
  interfaces := #[]
  cf := none
  fields := #[]
  methods := #[]
  instanceTypes := #[]
  staticTypes := #[]
  resolved := #[]
  callSites := []
  init := .initialized
  statics := none
  mirror := none

def pool0 : Array CpInfo := pool [(5, u "<init>"), (0, u "()V"), (1, .class_ 10), (1, u "java/lang/Object")] 113

def k0c0 : Code := { maxStack := 0, maxLocals := 1, code := object_method_1_code, exceptionTable := #[], attributes := #[] }
def k0m0 : Method := { name := "<init>", desc := "()V", sig := { parameters := [], returnType := none }, accessFlags := 1, code := some k0c0 }
/-- java/lang/Object -/
def k0 : Class := { plain "java/lang/Object" none with
  accessFlags := 33
  interfaces := #[]
  cf := some (fileOf pool0 8 #[] #[{ accessFlags := 1, nameIndex := 5, descriptorIndex := 6, attributes := #[] }] 33 0 #[] #[])
  fields := #[]
  methods := #[k0m0]
  instanceTypes := #[]
  staticTypes := #[]
  resolved := Array.replicate 124 none
  statics := none }

def pool1 : Array CpInfo := pool [(2, .class_ 4), (1, u "java/lang/Object"), (0, u "<init>"), (0, u "()V"), (0, .integer 2147483647), (0, .class_ 9), (0, u "com/example/stillframe/stillframe/ccr/IpPrefix"), (0, .methodref 8 11), (0, .nameAndType 5 12), (0, u "([BI)V"), (0, .class_ 14), (0, u "com/example/stillframe/stillframe/ccr/RoaPayload"), (0, .long 4294967295), (1, .methodref 13 18), (0, .nameAndType 5 19), (0, u "(JLcom/example/stillframe/stillframe/ccr/IpPrefix;I)V"), (0, .methodref 13 21), (0, .nameAndType 22 23), (0, u "longestLength"), (0, u "()I"), (0, .class_ 25), (0, u "com/example/stillframe/stillframe/ccr/RoaPayloadLongestLengthPinLaw"), (2, u "law"), (0, u "(IIIJ)Z")] 5

def k1m0 : Method := { name := "<init>", desc := "()V", sig := { parameters := [], returnType := none }, accessFlags := 1, code := none }
def k1c1 : Code := { maxStack := 6, maxLocals := 14, code := code, exceptionTable := #[], attributes := #[] }
def k1m1 : Method := { name := "law", desc := "(IIIJ)Z", sig := { parameters := [.int, .int, .int, .long], returnType := some .boolean }, accessFlags := 9, code := some k1c1 }
/-- com/example/stillframe/stillframe/ccr/RoaPayloadLongestLengthPinLaw -/
def k1 : Class := { plain "com/example/stillframe/stillframe/ccr/RoaPayloadLongestLengthPinLaw" (some 0) with
  accessFlags := 49
  interfaces := #[]
  cf := some (fileOf pool1 24 #[] #[{ accessFlags := 1, nameIndex := 5, descriptorIndex := 6, attributes := #[] }, { accessFlags := 9, nameIndex := 28, descriptorIndex := 29, attributes := #[] }] 49 2 #[] #[])
  fields := #[]
  methods := #[k1m0, k1m1]
  instanceTypes := #[]
  staticTypes := #[]
  resolved := Array.replicate 35 none
  statics := none }

def pool2 : Array CpInfo := pool [(1, .methodref 2 3), (0, .class_ 4), (0, .nameAndType 5 6), (0, u "java/lang/Object"), (0, u "<init>"), (0, u "()V"), (0, .fieldref 8 9), (0, .class_ 10), (0, .nameAndType 11 12), (0, u "com/example/stillframe/stillframe/ccr/IpPrefix"), (0, u "address"), (0, u "[B"), (0, .fieldref 8 14), (0, .nameAndType 15 16), (0, u "length"), (0, u "I"), (11, u "([BI)V"), (112, u "()I"), (43, u "IPV4_OCTETS"), (2, u "IPV6_GROUPS")] 37

def k2c0 : Code := { maxStack := 2, maxLocals := 3, code := prog_39_method_1_code, exceptionTable := #[], attributes := #[] }
def k2m0 : Method := { name := "<init>", desc := "([BI)V", sig := { parameters := [(.array .byte), .int], returnType := none }, accessFlags := 0, code := some k2c0 }
def k2c1 : Code := { maxStack := 1, maxLocals := 1, code := prog_39_method_8_code, exceptionTable := #[], attributes := #[] }
def k2m1 : Method := { name := "length", desc := "()I", sig := { parameters := [], returnType := some .int }, accessFlags := 1, code := some k2c1 }
/-- com/example/stillframe/stillframe/ccr/IpPrefix -/
def k2 : Class := { plain "com/example/stillframe/stillframe/ccr/IpPrefix" (some 0) with
  accessFlags := 49
  interfaces := #[]
  cf := some (fileOf pool2 8 #[] #[{ accessFlags := 0, nameIndex := 5, descriptorIndex := 28, attributes := #[] }, { accessFlags := 1, nameIndex := 15, descriptorIndex := 141, attributes := #[] }] 49 2 #[] #[{ accessFlags := 26, nameIndex := 185, descriptorIndex := 16, attributes := #[] }, { accessFlags := 26, nameIndex := 188, descriptorIndex := 16, attributes := #[] }, { accessFlags := 18, nameIndex := 11, descriptorIndex := 12, attributes := #[] }, { accessFlags := 18, nameIndex := 15, descriptorIndex := 16, attributes := #[] }])
  fields := #[{ name := "IPV4_OCTETS", type := .int, accessFlags := 26, slot := 0, constantValue := 0 }, { name := "IPV6_GROUPS", type := .int, accessFlags := 26, slot := 1, constantValue := 0 }, { name := "address", type := (.array .byte), accessFlags := 18, slot := 0, constantValue := 0 }, { name := "length", type := .int, accessFlags := 18, slot := 1, constantValue := 0 }]
  methods := #[k2m0, k2m1]
  instanceTypes := #[(.array .byte), .int]
  staticTypes := #[.int, .int]
  resolved := Array.replicate 226 none
  statics := none }

def pool3 : Array CpInfo := pool [(1, .methodref 2 3), (0, .class_ 4), (0, .nameAndType 5 6), (0, u "java/lang/Object"), (0, u "<init>"), (0, u "()V"), (0, .fieldref 8 9), (0, .class_ 10), (0, .nameAndType 11 12), (0, u "com/example/stillframe/stillframe/ccr/RoaPayload"), (0, u "asn"), (0, u "J"), (0, .fieldref 8 14), (0, .nameAndType 15 16), (0, u "prefix"), (0, u "Lcom/example/stillframe/stillframe/ccr/IpPrefix;"), (0, .fieldref 8 18), (0, .nameAndType 19 20), (0, u "maxLength"), (0, u "I"), (11, u "(JLcom/example/stillframe/stillframe/ccr/IpPrefix;I)V"), (0, .methodref 34 35), (0, .class_ 36), (0, .nameAndType 37 38), (0, u "com/example/stillframe/stillframe/ccr/IpPrefix"), (0, u "length"), (0, u "()I"), (25, u "longestLength"), (17, u "NO_MAX_LENGTH")] 15

def k3c0 : Code := { maxStack := 3, maxLocals := 5, code := prog_42_method_1_code, exceptionTable := #[], attributes := #[] }
def k3m0 : Method := { name := "<init>", desc := "(JLcom/example/stillframe/stillframe/ccr/IpPrefix;I)V", sig := { parameters := [.long, (.object "com/example/stillframe/stillframe/ccr/IpPrefix"), .int], returnType := none }, accessFlags := 0, code := some k3c0 }
def k3c1 : Code := { maxStack := 2, maxLocals := 1, code := prog_42_method_7_code, exceptionTable := #[], attributes := #[] }
def k3m1 : Method := { name := "longestLength", desc := "()I", sig := { parameters := [], returnType := some .int }, accessFlags := 0, code := some k3c1 }
/-- com/example/stillframe/stillframe/ccr/RoaPayload -/
def k3 : Class := { plain "com/example/stillframe/stillframe/ccr/RoaPayload" (some 0) with
  accessFlags := 49
  interfaces := #[]
  cf := some (fileOf pool3 8 #[] #[{ accessFlags := 0, nameIndex := 5, descriptorIndex := 32, attributes := #[] }, { accessFlags := 0, nameIndex := 64, descriptorIndex := 38, attributes := #[] }] 49 2 #[] #[{ accessFlags := 24, nameIndex := 82, descriptorIndex := 20, attributes := #[] }, { accessFlags := 18, nameIndex := 11, descriptorIndex := 12, attributes := #[] }, { accessFlags := 18, nameIndex := 15, descriptorIndex := 16, attributes := #[] }, { accessFlags := 18, nameIndex := 19, descriptorIndex := 20, attributes := #[] }])
  fields := #[{ name := "NO_MAX_LENGTH", type := .int, accessFlags := 24, slot := 0, constantValue := 0 }, { name := "asn", type := .long, accessFlags := 18, slot := 0, constantValue := 0 }, { name := "prefix", type := (.object "com/example/stillframe/stillframe/ccr/IpPrefix"), accessFlags := 18, slot := 1, constantValue := 0 }, { name := "maxLength", type := .int, accessFlags := 18, slot := 2, constantValue := 0 }]
  methods := #[k3m0, k3m1]
  instanceTypes := #[.long, (.object "com/example/stillframe/stillframe/ccr/IpPrefix"), .int]
  staticTypes := #[.int]
  resolved := Array.replicate 98 none
  statics := none }

def pool4 : Array CpInfo := pool [(1, u "java/lang/Cloneable"), (0, .class_ 1), (0, u "java/lang/Object"), (0, .class_ 3)] 3

/-- java/lang/Cloneable -/
def k4 : Class := { plain "java/lang/Cloneable" (some 0) with
  accessFlags := 1537
  interfaces := #[]
  cf := some (fileOf pool4 2 #[] #[] 1537 4 #[] #[])
  fields := #[]
  methods := #[]
  instanceTypes := #[]
  staticTypes := #[]
  resolved := Array.replicate 8 none
  statics := none }

def pool5 : Array CpInfo := pool [(1, u "java/io/Serializable"), (0, .class_ 1), (0, u "java/lang/Object"), (0, .class_ 3)] 3

/-- java/io/Serializable -/
def k5 : Class := { plain "java/io/Serializable" (some 0) with
  accessFlags := 1537
  interfaces := #[]
  cf := some (fileOf pool5 2 #[] #[] 1537 4 #[] #[])
  fields := #[]
  methods := #[]
  instanceTypes := #[]
  staticTypes := #[]
  resolved := Array.replicate 8 none
  statics := none }

/-- the primitive byte -/
def k6 : Class := { plain "byte" none with kind := .primitive 'B', accessFlags := 0x411 }
/-- [B -/
def k7 : Class := { plain "[B" (some 0) with kind := .array 6 .byte, interfaces := #[4, 5], accessFlags := 1041 }

/-- the primitive int -/
def k8 : Class := { plain "int" none with kind := .primitive 'I', accessFlags := 0x411 }
/-- [I -/
def k9 : Class := { plain "[I" (some 0) with kind := .array 8 .int, interfaces := #[4, 5], accessFlags := 1041 }

def heap : Heap := #[]
def classes : Array Class := #[k0, k1, k2, k3, k4, k5, k6, k7, k8, k9]
def interned : List (Array UInt16 × Addr) := []
def slotsUsed : Nat := 0
def theMethod : MethodId := ⟨1, 1⟩
def args0 : Array Value := #[.int 1, .int 2, .int 3, .long 5]
def aboutOver (below : List Frame) : State where
  vm := { classes := classes, interned := interned.toArray }
  heap := heap
  slotsUsed := slotsUsed
  threads := #[{ frames := .invoking theMethod args0 :: below }]
def below0 : List Frame := [.native { method := ⟨0, 0⟩, args := #[] }]
def about1 : State := aboutOver below0
def p0 : Program := .bare "" "" ""
def e0 : Env := launch0.env 0 0 0
theorem w_frames : about1.frames = Frame.invoking theMethod args0 :: below0 := rfl
set_option maxRecDepth 65536 in
theorem w_args : argsFit about1.vm theMethod args0 = true := by decide +kernel
set_option maxRecDepth 65536 in
theorem w_heap : heapFits about1 = true := by decide +kernel
set_option maxRecDepth 65536 in
theorem w_runnable : about1.curStatus? = some .runnable := by decide +kernel
set_option maxRecDepth 65536 in
theorem w_alone : about1.alone = true := by decide +kernel
set_option maxRecDepth 65536 in
theorem w_named : about1.methodNamed? x = some theMethod := by decide +kernel
set_option maxRecDepth 65536 in
theorem w_hears : about1.hears theMethod below0 = true := by decide +kernel
set_option maxRecDepth 65536 in
theorem w_ripe : about1.ripe theMethod args0 below0 = true := by decide +kernel
theorem w_running : about1.status = .running := rfl
set_option maxRecDepth 65536 in
theorem w_room : about1.hasRoom e0.platform room_1 = true :=
  launch0.hasRoom_least _ room_1 (by decide +kernel) (by decide +kernel) (by decide +kernel) (by decide +kernel) (by decide +kernel) (by decide +kernel)
theorem allAtoms_all (ts : List Jvm.Cond) (a : Array Jvm.Value) (st : Jvm.State) : (allAtoms ts).before a st = ts.all (fun c => c.before a st) := by
  induction ts with
  | nil => rfl
  | cons c t ih =>
    show (Jvm.Cond.and c (allAtoms t)).before a st = _
    rw [Jvm.Cond.before_and, ih, List.all_cons]
def words1 : List Jvm.Cond := Jvm.Cond.code x code maxLocals ret :: tables_1
/-- a 'code' word, met by the world's own term for the bytes: nothing is compared byte by byte -/
theorem code_word {y : MethodName} {bytes : ByteArray} {mx : Nat} {rt : Option FieldType} {a : Array Value} {s : State} {m : MethodId} {meth : Method} {c : Code} (h1 : s.methodNamed? y = some m) (h2 : s.vm.method? m = some meth) (h3 : meth.code = some c) (h4 : c.code = bytes)
    (h5 : (c.maxLocals == mx && c.exceptionTable.isEmpty && decide (c.maxStack ≤ mostOperands) && decide (meth.sig.returnType = rt) && !meth.locks && decide (parseMethodDescriptor y.desc = some meth.sig)) = true) : (Jvm.Cond.code y bytes mx rt).before a s = true := by
  simp only [Bool.and_eq_true, beq_iff_eq, Bool.not_eq_true', decide_eq_true_eq] at h5
  obtain ⟨⟨⟨⟨⟨g1, g2⟩, g3⟩, g4⟩, g5⟩, g6⟩ := h5
  simp [Cond.before, Cond.holds, Cond.value, h1, h2, h3, h4, g1, g2, g3, g4, g5, g6]
def isCode : Jvm.Cond → Bool
  | .code _ _ _ _ => true
  | _ => false
theorem all_split {L : List Jvm.Cond} {P : Jvm.Cond → Bool} (h1 : L.all (fun c => isCode c || P c) = true) (h2 : ∀ c ∈ L.filter isCode, P c = true) : L.all P = true := by
  refine List.all_eq_true.mpr fun c hc => ?_
  have h := List.all_eq_true.mp h1 c hc
  rcases Bool.eq_false_or_eq_true (isCode c) with hi | hi
  · exact h2 c (List.mem_filter.mpr ⟨hc, hi⟩)
  · simpa [hi] using h
set_option maxRecDepth 65536 in
theorem w_c0 : (Jvm.Cond.code x code maxLocals ret).before args0 about1 = true := code_word (m := ⟨1, 1⟩) (meth := k1m1) (c := k1c1) (by decide +kernel) rfl rfl rfl (by decide +kernel)
set_option maxRecDepth 65536 in
theorem w_c1 : (Jvm.Cond.code ({ cls := "com/example/stillframe/stillframe/ccr/IpPrefix", name := "<init>", desc := "([BI)V" } : Jvm.MethodName) prog_39_method_1_code (3 : Nat) (Option.none : Option Jvm.ClassFile.FieldType)).before args0 about1 = true := code_word (m := ⟨2, 0⟩) (meth := k2m0) (c := k2c0) (by decide +kernel) rfl rfl rfl (by decide +kernel)
set_option maxRecDepth 65536 in
theorem w_c2 : (Jvm.Cond.code ({ cls := "java/lang/Object", name := "<init>", desc := "()V" } : Jvm.MethodName) object_method_1_code (1 : Nat) (Option.none : Option Jvm.ClassFile.FieldType)).before args0 about1 = true := code_word (m := ⟨0, 0⟩) (meth := k0m0) (c := k0c0) (by decide +kernel) rfl rfl rfl (by decide +kernel)
set_option maxRecDepth 65536 in
theorem w_c3 : (Jvm.Cond.code ({ cls := "com/example/stillframe/stillframe/ccr/RoaPayload", name := "<init>", desc := "(JLcom/example/stillframe/stillframe/ccr/IpPrefix;I)V" } : Jvm.MethodName) prog_42_method_1_code (5 : Nat) (Option.none : Option Jvm.ClassFile.FieldType)).before args0 about1 = true := code_word (m := ⟨3, 0⟩) (meth := k3m0) (c := k3c0) (by decide +kernel) rfl rfl rfl (by decide +kernel)
set_option maxRecDepth 65536 in
theorem w_c4 : (Jvm.Cond.code ({ cls := "com/example/stillframe/stillframe/ccr/RoaPayload", name := "longestLength", desc := "()I" } : Jvm.MethodName) prog_42_method_7_code (1 : Nat) (Option.some Jvm.ClassFile.FieldType.int)).before args0 about1 = true := code_word (m := ⟨3, 1⟩) (meth := k3m1) (c := k3c1) (by decide +kernel) rfl rfl rfl (by decide +kernel)
set_option maxRecDepth 65536 in
theorem w_c5 : (Jvm.Cond.code ({ cls := "com/example/stillframe/stillframe/ccr/IpPrefix", name := "length", desc := "()I" } : Jvm.MethodName) prog_39_method_8_code (1 : Nat) (Option.some Jvm.ClassFile.FieldType.int)).before args0 about1 = true := code_word (m := ⟨2, 1⟩) (meth := k2m1) (c := k2c1) (by decide +kernel) rfl rfl rfl (by decide +kernel)
def codes1 : List Jvm.Cond := [Jvm.Cond.code x code maxLocals ret, Jvm.Cond.code ({ cls := "com/example/stillframe/stillframe/ccr/IpPrefix", name := "<init>", desc := "([BI)V" } : Jvm.MethodName) prog_39_method_1_code (3 : Nat) (Option.none : Option Jvm.ClassFile.FieldType), Jvm.Cond.code ({ cls := "java/lang/Object", name := "<init>", desc := "()V" } : Jvm.MethodName) object_method_1_code (1 : Nat) (Option.none : Option Jvm.ClassFile.FieldType), Jvm.Cond.code ({ cls := "com/example/stillframe/stillframe/ccr/RoaPayload", name := "<init>", desc := "(JLcom/example/stillframe/stillframe/ccr/IpPrefix;I)V" } : Jvm.MethodName) prog_42_method_1_code (5 : Nat) (Option.none : Option Jvm.ClassFile.FieldType), Jvm.Cond.code ({ cls := "com/example/stillframe/stillframe/ccr/RoaPayload", name := "longestLength", desc := "()I" } : Jvm.MethodName) prog_42_method_7_code (1 : Nat) (Option.some Jvm.ClassFile.FieldType.int), Jvm.Cond.code ({ cls := "com/example/stillframe/stillframe/ccr/IpPrefix", name := "length", desc := "()I" } : Jvm.MethodName) prog_39_method_8_code (1 : Nat) (Option.some Jvm.ClassFile.FieldType.int)]
set_option maxRecDepth 65536 in
theorem codes_eq : words1.filter isCode = codes1 := rfl
theorem w_codes : ∀ c ∈ words1.filter isCode, c.before args0 about1 = true := by
  rw [codes_eq]
  intro c hc
  simp only [codes1, List.mem_cons, List.not_mem_nil, or_false] at hc
  rcases hc with rfl | rfl | rfl | rfl | rfl | rfl
  · exact w_c0
  · exact w_c1
  · exact w_c2
  · exact w_c3
  · exact w_c4
  · exact w_c5
set_option maxRecDepth 65536 in
theorem w_t1 : (words1.take 24).all (fun c => isCode c || c.before args0 about1) = true := by decide +kernel
set_option maxRecDepth 65536 in
theorem w_t2 : (words1.drop 24).all (fun c => isCode c || c.before args0 about1) = true := by decide +kernel
theorem w_tables : (allAtoms (Jvm.Cond.code x code maxLocals ret :: tables_1)).before args0 about1 = true := by
  rw [allAtoms_all]
  show words1.all (fun c => c.before args0 about1) = true
  refine all_split ?_ w_codes
  rw [← List.take_append_drop 24 words1, List.all_append, w_t1, w_t2]
  rfl
set_option maxRecDepth 65536 in
theorem w_case : (Jvm.Cond.and given_1 narrow_1).before args0 about1 = true := by decide +kernel
theorem w_applies : (headSpec (Jvm.Cond.code x code maxLocals ret :: tables_1) room_1).applies x e0.platform about1 = true :=
  (Spec.applies_iff w_frames).mpr ⟨w_running, w_runnable, w_alone, w_named, w_hears, w_ripe, w_room, w_tables⟩
theorem atStart : AtStart classFile x code maxLocals ret World_1 tables_1 room_1 Calls_1 rest_1 Pre_1 launch0 p0 e0 about1 theMethod args0 below0 :=
  ⟨lists_1, trivial, launch0.admits_env _ _ _, launch0.least_env, fairChoices_fair.cas, fairChoices_fair.clock, w_frames, w_args, w_heap, w_applies, trivial, trivial, w_case⟩
end start1
theorem witness_1 : WitnessClaimed_1 := ⟨start1.p0, start1.e0, start1.about1, start1.theMethod, start1.args0, start1.below0, start1.atStart⟩
end Jvm.Pilot.@@N@@
