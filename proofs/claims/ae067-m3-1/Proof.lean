import JvmDerived
import JvmDerived.Pilot.@@N@@Statement
import JvmDerived.Pilot.@@N@@Code
set_option linter.unusedVariables false
set_option linter.unusedSimpArgs false
namespace Jvm.RoadKit
open Sem ClassFile Op Lib Jvm.Stand Jvm.Free Jvm.LawKit
section New
variable {p : Program} {l : Launch} {e : Env} {R : Room} {s : State} {m : MethodId} {args : Array Value} {below : List Frame} {meth : Method} {c : Code} {T : State} {locs : List Loc} {cells slots : Nat}
theorem retI (X : Stand p l e R s m args below meth c T locs cells slots) (hx : p.tables.exec = Jvm.exec) {pc : Nat} {Ls : Array Slot} {z : Int32} {rest : List Value} (hret : meth.sig.returnType = some .int) (hd : decode c.code pc = .ok (.ireturn, 1)) {fs : List Frame}
    (hl : ∀ (f : JFrame) (acts : List Action), f.method = m → f.locked = none → f.entered = [] → (doReturn e (T.setTop f) acts (some (.int z))).1 = T.setFrames fs) : Steps p.tables e below (T.setTop (mkF m pc Ls (.int z :: rest))) (T.setFrames fs) := by
  have hm' : T.vm.method? m = some meth := X.method'
  have hn : narrow .int (.int z) = .int z := rfl
  show Steps p.tables e below (T.setTop { method := m, pc := pc, locals := Ls, stack := _ :: rest, locked := none }) _
  jvm_step X.here [X.here.top, hx, hd, hm', hret, hn]
  first | (intro acts; rw [hl _ acts rfl rfl rfl]) | rw [hl _ _ rfl rfl rfl]
  exact Steps.refl _
end New
end Jvm.RoadKit
namespace Jvm.Pilot.@@N@@
open Jvm Jvm.ClassFile Sem Op Lib Jvm.Free Jvm.Stand Jvm.LawKit Jvm.RoadKit Bundle Jvm.Pilot.@@N@@.Jvm.D
section OwnKit
variable {p : Program} {l : Launch} {e : Env} {R : Room} {s : State} {m : MethodId} {args : Array Value} {below : List Frame} {meth : Method} {c : Code} {T : State} {locs : List Loc} {cells slots : Nat} {Z : State} {h h' : Heap}
theorem own_lremM {g : JFrame} {target : State} (X : Stand p l e R s m args below meth c T locs cells slots) (hx : p.tables.exec = Jvm.exec) (hg : g.method = m) {x y : Int64} {rest : List Value} (hd : decode c.code g.pc = .ok (.lrem, 1)) (hs : g.stack = .long y :: .long x :: rest) (hy : y ≠ 0)
    (hr : Steps p.tables e below (T.setTop { g with pc := g.pc + 1, stack := .long (x % y) :: rest }) target) : Steps p.tables e below (T.setTop g) target :=
  XS.lrem X.here hx hg hd hs hy (by rw [lrem_mod]; exact hr)
/-- an array, by the list of its values -/
def own_A (Z : State) (h : Heap) (a : Addr) (ty : FieldType) (vs : List Value) : Prop := ∃ c : Cell, Arr Z h a c ty ∧ c.slots = vs.toArray
def own_AJ (Z : State) (h : Heap) (a : Addr) (xs : List Int64) : Prop := own_A Z h a .long (xs.map .long)
def own_AI (Z : State) (h : Heap) (a : Addr) (ty : FieldType) (xs : List Int32) : Prop := own_A Z h a ty (xs.map .int)
section Facts
variable {a b : Addr} {ty : FieldType} {vs : List Value} {xs : List Int64} {ys : List Int32} {sl : Nat} {v : Value} {ws : List Addr}
theorem own_A.ext (F : own_A Z h a ty vs) (E : Ext h h') : own_A Z h' a ty vs := by obtain ⟨c, A, r⟩ := F; exact ⟨c, A.ext E, r⟩
theorem own_A.other (F : own_A Z h b ty vs) (W : Wr h h' a sl v) (q : b ≠ a) : own_A Z h' b ty vs := by obtain ⟨c, A, r⟩ := F; exact ⟨c, A.other W q, r⟩
theorem own_A.keep (F : own_A Z h a ty vs) (K : Keep h h' ws) (q : a ∉ ws) : own_A Z h' a ty vs := by obtain ⟨c, A, r⟩ := F; exact ⟨c, ⟨K.2.1 a c A.1 q, A.2⟩, r⟩
theorem own_A.lt (F : own_A Z h a ty vs) : a < h.size := by obtain ⟨c, A, -⟩ := F; exact A.lt
theorem own_AJ.ext (F : own_AJ Z h a xs) (E : Ext h h') : own_AJ Z h' a xs := own_A.ext F E
theorem own_AJ.other (F : own_AJ Z h b xs) (W : Wr h h' a sl v) (q : b ≠ a) : own_AJ Z h' b xs := own_A.other F W q
theorem own_AJ.keep (F : own_AJ Z h a xs) (K : Keep h h' ws) (q : a ∉ ws) : own_AJ Z h' a xs := own_A.keep F K q
theorem own_AJ.lt (F : own_AJ Z h a xs) : a < h.size := own_A.lt F
theorem own_AI.ext (F : own_AI Z h a ty ys) (E : Ext h h') : own_AI Z h' a ty ys := own_A.ext F E
theorem own_AI.other (F : own_AI Z h b ty ys) (W : Wr h h' a sl v) (q : b ≠ a) : own_AI Z h' b ty ys := own_A.other F W q
theorem own_AI.keep (F : own_AI Z h a ty ys) (K : Keep h h' ws) (q : a ∉ ws) : own_AI Z h' a ty ys := own_A.keep F K q
theorem own_AI.lt (F : own_AI Z h a ty ys) : a < h.size := own_A.lt F
theorem own_A.set (F : own_A Z h a ty vs) {k : Nat} (W : Wr h h' a k v) : own_A Z h' a ty (vs.set k v) := by
  obtain ⟨c, A, r⟩ := F
  refine ⟨c.setSlot k v, A.same W, ?_⟩
  simp [Cell.setSlot, r]
theorem own_A_new {cA : ClassId} {n : Int32} {k : Nat} (A : Arr Z h a (newA cA ty n) ty) (hk : n.toNatClampNeg = k) : own_A Z h a ty (List.replicate k (defaultValue ty)) := by
  subst hk
  exact ⟨_, A, by simp [newA]⟩
theorem own_AJ_new {cA : ClassId} {n : Int32} {k : Nat} (A : Arr Z h a (newA cA .long n) .long) (hk : n.toNatClampNeg = k) : own_AJ Z h a (List.replicate k 0) := by
  have q := own_A_new A hk
  rw [own_AJ, List.map_replicate]; exact q
theorem own_AIint_new {cA : ClassId} {n : Int32} {k : Nat} (A : Arr Z h a (newA cA .int n) .int) (hk : n.toNatClampNeg = k) : own_AI Z h a .int (List.replicate k 0) := by
  have q := own_A_new A hk
  rw [own_AI, List.map_replicate]; exact q
theorem own_AIbyte_new {cA : ClassId} {n : Int32} {k : Nat} (A : Arr Z h a (newA cA .byte n) .byte) (hk : n.toNatClampNeg = k) : own_AI Z h a .byte (List.replicate k 0) := by
  have q := own_A_new A hk
  rw [own_AI, List.map_replicate]; exact q
theorem own_AIboolean_new {cA : ClassId} {n : Int32} {k : Nat} (A : Arr Z h a (newA cA .boolean n) .boolean) (hk : n.toNatClampNeg = k) : own_AI Z h a .boolean (List.replicate k 0) := by
  have q := own_A_new A hk
  rw [own_AI, List.map_replicate]; exact q
theorem own_inb {cl : Cell} {j : Int32} (r : cl.slots = vs.toArray) (hj : 0 ≤ j.toInt ∧ j.toInt < (vs.length : Nat)) : ¬ (j < 0 ∨ cl.slots.size ≤ j.toNatClampNeg) ∧ j.toNatClampNeg = j.toInt.toNat := by
  have e : j.toNatClampNeg = j.toInt.toNat := rfl
  refine ⟨fun q => ?_, e⟩
  rcases q with q | q
  · rw [Int32.lt_iff_toInt_lt] at q
    have : (0 : Int32).toInt = 0 := by decide
    omega
  · rw [r, e] at q
    simp at q
    omega
end Facts
theorem own_at? {α : Type} (f : α → Value) (xs : List α) (k : Nat) (d : α) (hk : k < xs.length) : (xs.map f).toArray[k]? = some (f (xs.getD k d)) := by
  simp [List.getD, hk]
section Loads
variable {a : Addr} {xs : List Int64} {ys : List Int32} {j : Int32} {pc : Nat} {Ls : Array Slot} {rest : List Value}
theorem own_laload (X : Stand p l e R s m args below meth c T locs cells slots) (hx : p.tables.exec = Jvm.exec) (hZ : Z.Warmed39 s.vm) (eT : T.heap = h) (A : own_AJ Z h a xs) (hj : 0 ≤ j.toInt ∧ j.toInt < (xs.length : Nat)) (hd : decode c.code pc = .ok (.laload, 1)) (target : State)
    (hr : Steps p.tables e below (T.setTop (mkF m (pc + 1) Ls (.long (xs.getD j.toInt.toNat 0) :: rest))) target) : Steps p.tables e below (T.setTop (mkF m pc Ls (.int j :: .ref a :: rest))) target := by
  obtain ⟨cl, A, r⟩ := A
  obtain ⟨q1, q2⟩ := own_inb (j := j) r (by simpa using hj)
  refine X.laload hx (by rw [eT]; exact A.1) (State.isArrayOf_alike hZ.alike A.2.1) A.2.2 q1 (v := .long (xs.getD j.toInt.toNat 0)) ?_ (g := mkF m pc Ls (.int j :: .ref a :: rest)) rfl rfl hd target hr
  rw [q2, r]
  exact own_at? _ xs _ 0 (by omega)
theorem own_iaload (X : Stand p l e R s m args below meth c T locs cells slots) (hx : p.tables.exec = Jvm.exec) (hZ : Z.Warmed39 s.vm) (eT : T.heap = h) (A : own_AI Z h a .int ys) (hj : 0 ≤ j.toInt ∧ j.toInt < (ys.length : Nat)) (hd : decode c.code pc = .ok (.iaload, 1)) (target : State)
    (hr : Steps p.tables e below (T.setTop (mkF m (pc + 1) Ls (.int (ys.getD j.toInt.toNat 0) :: rest))) target) : Steps p.tables e below (T.setTop (mkF m pc Ls (.int j :: .ref a :: rest))) target := by
  obtain ⟨cl, A, r⟩ := A
  obtain ⟨q1, q2⟩ := own_inb (j := j) r (by simpa using hj)
  refine X.iaload hx (by rw [eT]; exact A.1) (State.isArrayOf_alike hZ.alike A.2.1) A.2.2 q1 (v := .int (ys.getD j.toInt.toNat 0)) ?_ (g := mkF m pc Ls (.int j :: .ref a :: rest)) rfl rfl hd target hr
  rw [q2, r]
  exact own_at? _ ys _ 0 (by omega)
theorem own_baloadB (X : Stand p l e R s m args below meth c T locs cells slots) (hx : p.tables.exec = Jvm.exec) (hZ : Z.Warmed39 s.vm) (eT : T.heap = h) (A : own_AI Z h a .byte ys) (hj : 0 ≤ j.toInt ∧ j.toInt < (ys.length : Nat)) (hd : decode c.code pc = .ok (.baload, 1)) (target : State)
    (hr : Steps p.tables e below (T.setTop (mkF m (pc + 1) Ls (.int (ys.getD j.toInt.toNat 0) :: rest))) target) : Steps p.tables e below (T.setTop (mkF m pc Ls (.int j :: .ref a :: rest))) target := by
  obtain ⟨cl, A, r⟩ := A
  obtain ⟨q1, q2⟩ := own_inb (j := j) r (by simpa using hj)
  refine X.baloadBytes hx (by rw [eT]; exact A.1) (State.isArrayOf_alike hZ.alike A.2.1) A.2.2 q1 (v := .int (ys.getD j.toInt.toNat 0)) ?_ (g := mkF m pc Ls (.int j :: .ref a :: rest)) rfl rfl hd target hr
  rw [q2, r]
  exact own_at? _ ys _ 0 (by omega)
theorem own_baloadZ (X : Stand p l e R s m args below meth c T locs cells slots) (hx : p.tables.exec = Jvm.exec) (hZ : Z.Warmed39 s.vm) (eT : T.heap = h) (A : own_AI Z h a .boolean ys) (hj : 0 ≤ j.toInt ∧ j.toInt < (ys.length : Nat)) (hd : decode c.code pc = .ok (.baload, 1)) (target : State)
    (hr : Steps p.tables e below (T.setTop (mkF m (pc + 1) Ls (.int (ys.getD j.toInt.toNat 0) :: rest))) target) : Steps p.tables e below (T.setTop (mkF m pc Ls (.int j :: .ref a :: rest))) target := by
  obtain ⟨cl, A, r⟩ := A
  obtain ⟨q1, q2⟩ := own_inb (j := j) r (by simpa using hj)
  refine X.baloadBooleans hx (by rw [eT]; exact A.1) (State.isArrayOf_alike hZ.alike A.2.1) A.2.2 q1 (v := .int (ys.getD j.toInt.toNat 0)) ?_ (g := mkF m pc Ls (.int j :: .ref a :: rest)) rfl rfl hd target hr
  rw [q2, r]
  exact own_at? _ ys _ 0 (by omega)
theorem own_alenJ (X : Stand p l e R s m args below meth c T locs cells slots) (hx : p.tables.exec = Jvm.exec) (hZ : Z.Warmed39 s.vm) (eT : T.heap = h) (A : own_AJ Z h a xs) (hd : decode c.code pc = .ok (.arraylength, 1)) (target : State)
    (hr : Steps p.tables e below (T.setTop (mkF m (pc + 1) Ls (.int xs.length.toInt32 :: rest))) target) : Steps p.tables e below (T.setTop (mkF m pc Ls (.ref a :: rest))) target := by
  obtain ⟨cl, A, r⟩ := A
  refine X.arraylength hx (by rw [eT]; exact A.1) (State.isArrayOf_alike hZ.alike A.2.1) (g := mkF m pc Ls (.ref a :: rest)) rfl rfl hd target ?_
  rw [r]
  simpa using hr
theorem own_alenI {ty : FieldType} (X : Stand p l e R s m args below meth c T locs cells slots) (hx : p.tables.exec = Jvm.exec) (hZ : Z.Warmed39 s.vm) (eT : T.heap = h) (A : own_AI Z h a ty ys) (hd : decode c.code pc = .ok (.arraylength, 1)) (target : State)
    (hr : Steps p.tables e below (T.setTop (mkF m (pc + 1) Ls (.int ys.length.toInt32 :: rest))) target) : Steps p.tables e below (T.setTop (mkF m pc Ls (.ref a :: rest))) target := by
  obtain ⟨cl, A, r⟩ := A
  refine X.arraylength hx (by rw [eT]; exact A.1) (State.isArrayOf_alike hZ.alike A.2.1) (g := mkF m pc Ls (.ref a :: rest)) rfl rfl hd target ?_
  rw [r]
  simpa using hr
theorem own_lastore (X : Stand p l e R s m args below meth c T locs cells slots) (hx : p.tables.exec = Jvm.exec) (hZ : Z.Warmed39 s.vm) (eT : T.heap = h) (A : own_AJ Z h a xs) (hj : 0 ≤ j.toInt ∧ j.toInt < (xs.length : Nat)) {x : Int64} (hd : decode c.code pc = .ok (.lastore, 1)) :
    ∃ T' h', Stand p l e R s m args below meth c T' (locs ++ [⟨a, j.toInt.toNat⟩]) cells slots ∧ T'.heap = h' ∧ Wr h h' a j.toInt.toNat (.long x) ∧ own_AJ Z h' a (xs.set j.toInt.toNat x) ∧ ∀ target, Steps p.tables e below (T'.setTop (mkF m (pc + 1) Ls rest)) target → Steps p.tables e below (T.setTop (mkF m pc Ls (.long x :: .int j :: .ref a :: rest))) target := by
  obtain ⟨cl, B, r⟩ := A
  obtain ⟨q1, q2⟩ := own_inb (j := j) r (by simpa using hj)
  obtain ⟨T', h', X', e', W', st⟩ := stJ X hx hZ eT B q1 (x := x) (g := mkF m pc Ls (.long x :: .int j :: .ref a :: rest)) rfl rfl hd
  rw [q2] at X' W'
  exact ⟨T', h', X', e', W', by have := own_A.set ⟨cl, B, r⟩ W'; rw [own_AJ, List.map_set]; exact this, st⟩
theorem own_iastore (X : Stand p l e R s m args below meth c T locs cells slots) (hx : p.tables.exec = Jvm.exec) (hZ : Z.Warmed39 s.vm) (eT : T.heap = h) (A : own_AI Z h a .int ys) (hj : 0 ≤ j.toInt ∧ j.toInt < (ys.length : Nat)) {x : Int32} (hd : decode c.code pc = .ok (.iastore, 1)) :
    ∃ T' h', Stand p l e R s m args below meth c T' (locs ++ [⟨a, j.toInt.toNat⟩]) cells slots ∧ T'.heap = h' ∧ Wr h h' a j.toInt.toNat (.int x) ∧ own_AI Z h' a .int (ys.set j.toInt.toNat x) ∧ ∀ target, Steps p.tables e below (T'.setTop (mkF m (pc + 1) Ls rest)) target → Steps p.tables e below (T.setTop (mkF m pc Ls (.int x :: .int j :: .ref a :: rest))) target := by
  obtain ⟨cl, B, r⟩ := A
  obtain ⟨q1, q2⟩ := own_inb (j := j) r (by simpa using hj)
  obtain ⟨T', h', X', e', W', st⟩ := stI X hx hZ eT B q1 (x := x) (g := mkF m pc Ls (.int x :: .int j :: .ref a :: rest)) rfl rfl hd
  rw [q2] at X' W'
  exact ⟨T', h', X', e', W', by have := own_A.set ⟨cl, B, r⟩ W'; rw [own_AI, List.map_set]; exact this, st⟩
theorem own_bastoreB (X : Stand p l e R s m args below meth c T locs cells slots) (hx : p.tables.exec = Jvm.exec) (hZ : Z.Warmed39 s.vm) (eT : T.heap = h) (A : own_AI Z h a .byte ys) (hj : 0 ≤ j.toInt ∧ j.toInt < (ys.length : Nat)) {x : Int32} (hd : decode c.code pc = .ok (.bastore, 1)) :
    ∃ T' h', Stand p l e R s m args below meth c T' (locs ++ [⟨a, j.toInt.toNat⟩]) cells slots ∧ T'.heap = h' ∧ Wr h h' a j.toInt.toNat (.int x.toInt8.toInt32) ∧ own_AI Z h' a .byte (ys.set j.toInt.toNat x.toInt8.toInt32) ∧ ∀ target, Steps p.tables e below (T'.setTop (mkF m (pc + 1) Ls rest)) target → Steps p.tables e below (T.setTop (mkF m pc Ls (.int x :: .int j :: .ref a :: rest))) target := by
  obtain ⟨cl, B, r⟩ := A
  obtain ⟨q1, q2⟩ := own_inb (j := j) r (by simpa using hj)
  obtain ⟨T', h', X', e', W', st⟩ := stB X hx hZ eT B q1 (x := x) (g := mkF m pc Ls (.int x :: .int j :: .ref a :: rest)) rfl rfl hd
  rw [q2] at X' W'
  exact ⟨T', h', X', e', W', by have := own_A.set ⟨cl, B, r⟩ W'; rw [own_AI, List.map_set]; exact this, st⟩
theorem own_bastoreZ (X : Stand p l e R s m args below meth c T locs cells slots) (hx : p.tables.exec = Jvm.exec) (hZ : Z.Warmed39 s.vm) (eT : T.heap = h) (A : own_AI Z h a .boolean ys) (hj : 0 ≤ j.toInt ∧ j.toInt < (ys.length : Nat)) {x : Int32} (hd : decode c.code pc = .ok (.bastore, 1)) :
    ∃ T' h', Stand p l e R s m args below meth c T' (locs ++ [⟨a, j.toInt.toNat⟩]) cells slots ∧ T'.heap = h' ∧ Wr h h' a j.toInt.toNat (.int (x &&& 1)) ∧ own_AI Z h' a .boolean (ys.set j.toInt.toNat (x &&& 1)) ∧ ∀ target, Steps p.tables e below (T'.setTop (mkF m (pc + 1) Ls rest)) target → Steps p.tables e below (T.setTop (mkF m pc Ls (.int x :: .int j :: .ref a :: rest))) target := by
  obtain ⟨cl, B, r⟩ := A
  obtain ⟨q1, q2⟩ := own_inb (j := j) r (by simpa using hj)
  obtain ⟨T', h', X', e', W', st⟩ := stZ X hx hZ eT B q1 (x := x) (g := mkF m pc Ls (.int x :: .int j :: .ref a :: rest)) rfl rfl hd
  rw [q2] at X' W'
  exact ⟨T', h', X', e', W', by have := own_A.set ⟨cl, B, r⟩ W'; rw [own_AI, List.map_set]; exact this, st⟩
end Loads
end OwnKit
theorem own_bm32 {x : Int} (h1 : -2147483648 ≤ x) (h2 : x < 2147483648) : x.bmod (2 ^ 32) = x := by
  rw [Int.bmod_def]; split <;> omega
theorem own_bm64 {x : Int} (h1 : -9223372036854775808 ≤ x) (h2 : x < 9223372036854775808) : x.bmod (2 ^ 64) = x := by
  rw [Int.bmod_def]; split <;> omega
theorem own_r32 (x : Int32) : -2147483648 ≤ x.toInt ∧ x.toInt < 2147483648 := ⟨x.le_toInt, x.toInt_lt⟩
theorem own_r64 (x : Int64) : -9223372036854775808 ≤ x.toInt ∧ x.toInt < 9223372036854775808 := ⟨x.le_toInt, x.toInt_lt⟩
theorem own_iadd {x y : Int32} (h : -2147483648 ≤ x.toInt + y.toInt ∧ x.toInt + y.toInt < 2147483648) : (x + y).toInt = x.toInt + y.toInt := by rw [Int32.toInt_add]; exact own_bm32 h.1 h.2
theorem own_isub {x y : Int32} (h : -2147483648 ≤ x.toInt - y.toInt ∧ x.toInt - y.toInt < 2147483648) : (x - y).toInt = x.toInt - y.toInt := by rw [Int32.toInt_sub]; exact own_bm32 h.1 h.2
theorem own_imul {x y : Int32} (h : -2147483648 ≤ x.toInt * y.toInt ∧ x.toInt * y.toInt < 2147483648) : (x * y).toInt = x.toInt * y.toInt := by rw [Int32.toInt_mul]; exact own_bm32 h.1 h.2
theorem own_ladd {x y : Int64} (h : -9223372036854775808 ≤ x.toInt + y.toInt ∧ x.toInt + y.toInt < 9223372036854775808) : (x + y).toInt = x.toInt + y.toInt := by rw [Int64.toInt_add]; exact own_bm64 h.1 h.2
theorem own_lsub {x y : Int64} (h : -9223372036854775808 ≤ x.toInt - y.toInt ∧ x.toInt - y.toInt < 9223372036854775808) : (x - y).toInt = x.toInt - y.toInt := by rw [Int64.toInt_sub]; exact own_bm64 h.1 h.2
theorem own_lmul {x y : Int64} (h : -9223372036854775808 ≤ x.toInt * y.toInt ∧ x.toInt * y.toInt < 9223372036854775808) : (x * y).toInt = x.toInt * y.toInt := by rw [Int64.toInt_mul]; exact own_bm64 h.1 h.2
theorem own_i2l (x : Int32) : x.toInt64.toInt = x.toInt := Int32.toInt_toInt64 x
theorem own_l2i {x : Int64} (h : -2147483648 ≤ x.toInt ∧ x.toInt < 2147483648) : x.toInt32.toInt = x.toInt := by rw [Int64.toInt_toInt32]; exact own_bm32 h.1 h.2
theorem own_irem {x y : Int32} (h : 0 ≤ x.toInt) : (x % y).toInt = x.toInt % y.toInt := by rw [Int32.toInt_mod]; exact Int.tmod_eq_emod_of_nonneg h
theorem own_lrem {x y : Int64} (h : 0 ≤ x.toInt) : (x % y).toInt = x.toInt % y.toInt := by rw [Int64.toInt_mod]; exact Int.tmod_eq_emod_of_nonneg h
theorem own_idiv {x y : Int32} (h : 0 ≤ x.toInt) (hy : 0 ≤ y.toInt) : (x / y).toInt = x.toInt / y.toInt := by
  rw [Int32.toInt_div_of_ne_right x y (fun q => by rw [q] at hy; revert hy; decide)]; exact Int.tdiv_eq_ediv_of_nonneg h
theorem own_ldiv {x y : Int64} (h : 0 ≤ x.toInt) (hy : 0 ≤ y.toInt) : (x / y).toInt = x.toInt / y.toInt := by
  rw [Int64.toInt_div_of_ne_right x y (fun q => by rw [q] at hy; revert hy; decide)]; exact Int.tdiv_eq_ediv_of_nonneg h
/-- a mask of k bits -/
theorem own_mask (x m : Int32) (k : Nat) (hk : k ≤ 31) (hm : m.toBitVec.toNat = 2 ^ k - 1) : (x &&& m).toInt = x.toInt % (2 ^ k : Nat) := by
  have hp : 2 ^ k ≤ 2 ^ 31 := Nat.pow_le_pow_right (by decide) hk
  have hp0 : 0 < 2 ^ k := Nat.pow_pos (by decide)
  have e : (x &&& m).toBitVec.toNat = x.toBitVec.toNat % 2 ^ k := by rw [Int32.toBitVec_and, BitVec.toNat_and, hm, Nat.and_two_pow_sub_one_eq_mod]
  have l := Nat.mod_lt x.toBitVec.toNat hp0
  rw [← Int32.toInt_toBitVec, ← Int32.toInt_toBitVec, BitVec.toInt_eq_toNat_cond, e, if_pos (by omega), BitVec.toInt_eq_toNat_cond]
  split
  · simp
  · rename_i q
    have d : (2 ^ k : Nat) ∣ 2 ^ 32 := Nat.pow_dvd_pow 2 (by omega)
    obtain ⟨c, hc⟩ := d
    have hc' : ((2 ^ 32 : Nat) : Int) = ((2 ^ k : Nat) : Int) * (c : Int) := by rw [hc]; simp
    rw [hc', Int.sub_mul_emod_self_left]; simp
theorem own_ushr (x : Int64) (y : Int32) (k : Nat) (hk : (y &&& 0x3f).toInt64.toBitVec.toNat % 64 = k) (h0 : 0 < k) : (((x).toUInt64 >>> (y &&& 0x3f).toInt64.toUInt64).toInt64).toInt = (x.toInt % 18446744073709551616) / (2 ^ k : Nat) := by
  have e : (((x).toUInt64 >>> (y &&& 0x3f).toInt64.toUInt64).toInt64).toBitVec = x.toBitVec >>> k := by rw [← hk]; simp
  have hl := x.toBitVec.isLt
  have hp0 : 0 < 2 ^ k := Nat.pow_pos (by decide)
  have h2 : 2 ^ 1 ≤ 2 ^ k := Nat.pow_le_pow_right (by decide) h0
  have hd : x.toBitVec.toNat / 2 ^ k ≤ x.toBitVec.toNat / 2 := Nat.div_le_div_left h2 (by decide)
  have t : x.toInt % 18446744073709551616 = (x.toBitVec.toNat : Int) := by
    rw [← Int64.toInt_toBitVec, BitVec.toInt_eq_toNat_cond]; split <;> omega
  rw [t, ← Int64.toInt_toBitVec, e, BitVec.toInt_eq_toNat_cond, BitVec.toNat_ushiftRight, Nat.shiftRight_eq_div_pow, if_pos (by omega)]
  simp
theorem own_shl (x : Int64) (y : Int32) (k : Nat) (hk : y.toBitVec.toNat % 64 = k) (h : -9223372036854775808 ≤ x.toInt * (2 ^ k : Nat) ∧ x.toInt * (2 ^ k : Nat) < 9223372036854775808) : (x <<< (y &&& 0x3f).toInt64).toInt = x.toInt * (2 ^ k : Nat) := by
  have q := c_lshl x y k hk
  have r := own_r64 (x <<< (y &&& 0x3f).toInt64)
  generalize x.toInt * (2 ^ k : Nat) = z at *
  omega
theorem own_nzL {x : Int32} (h : ¬ x = 0) : ¬ x.toInt64 = 0 := fun q => h (Int32.toInt_inj.mp (by rw [← own_i2l, q]; rfl))
theorem own_nzP {x : Int32} (h : 1 ≤ x.toInt) : ¬ x = 0 := fun q => by rw [q] at h; revert h; decide
theorem own_fA {t n : Int32} {k : Int} (h : t < n) (q : n.toInt - 1 = k) : t.toInt ≤ k := by rw [Int32.lt_iff_toInt_lt] at h; omega
theorem own_fB {t n : Int32} {k : Int} (h : ¬ n < t) (q : n.toInt = k) : t.toInt ≤ k := by rw [Int32.lt_iff_toInt_lt] at h; omega
theorem own_fC {t n : Int32} {k : Int} (h : n < t) (q : n.toInt + 1 = k) : k ≤ t.toInt := by rw [Int32.lt_iff_toInt_lt] at h; omega
theorem own_fD {t n : Int32} {k : Int} (h : ¬ t < n) (q : n.toInt = k) : k ≤ t.toInt := by rw [Int32.lt_iff_toInt_lt] at h; omega
theorem own_fE {t n : Int32} {k : Int} (h : t = n) (q : n.toInt = k) : t.toInt ≤ k := by rw [h]; omega
theorem own_fF {t n : Int32} {k : Int} (h : t = n) (q : n.toInt = k) : k ≤ t.toInt := by rw [h]; omega
theorem own_g1 {t m : Int32} {k : Int} (h : t.toInt ≤ k) (q : k < m.toInt) : t < m := by rw [Int32.lt_iff_toInt_lt]; omega
theorem own_g2 {t m : Int32} {k : Int} (h : t.toInt ≤ k) (q : k ≤ m.toInt) : ¬ m < t := by rw [Int32.lt_iff_toInt_lt]; omega
theorem own_g3 {t m : Int32} {k : Int} (h : t.toInt ≤ k) (q : k < m.toInt) : ¬ t = m := fun e => by rw [e] at h; omega
theorem own_g4 {t m : Int32} {k : Int} (h : k ≤ t.toInt) (q : m.toInt ≤ k) : ¬ t < m := by rw [Int32.lt_iff_toInt_lt]; omega
theorem own_g5 {t m : Int32} {k : Int} (h : k ≤ t.toInt) (q : m.toInt < k) : m < t := by rw [Int32.lt_iff_toInt_lt]; omega
theorem own_g6 {t m : Int32} {k : Int} (h : k ≤ t.toInt) (q : m.toInt < k) : ¬ t = m := fun e => by rw [e] at h; omega
theorem own_g7 {t m : Int32} {k : Int} (h : k ≤ t.toInt) (h' : t.toInt ≤ k) (q : m.toInt = k) : t = m := Int32.toInt_inj.mp (by omega)
theorem own_ne {x n : Int32} {k : Int} (h : ¬ x = n) (q : n.toInt = k) : k ≠ x.toInt := fun e => h (Int32.toInt_inj.mp (by omega))
theorem own_gs1 {α : Type} (xs : List α) (n : Nat) (v d : α) (h : n < xs.length) : (xs.set n v).getD n d = v := by simp [List.getD, h]
theorem own_gs2 {α : Type} (xs : List α) (n j : Nat) (v d : α) (h : n ≠ j) : (xs.set n v).getD j d = xs.getD j d := by simp [List.getD, List.getElem?_set, h]
theorem own_nzR {x y n : Int32} {k : Int} (h : y = (x &&& 2147483647) % n) (hn : n.toInt = k) (hk : 1 ≤ k ∧ k ≤ 1000) : 0 ≤ y.toInt ∧ y.toInt < k := by
  have a := own_mask x 2147483647 31 (by decide) (by decide)
  have b := own_irem (x := x &&& 2147483647) (y := n) (by omega)
  have c := Int.emod_lt_of_pos (x &&& 2147483647).toInt (show 0 < n.toInt by omega)
  have d := Int.emod_nonneg (x &&& 2147483647).toInt (show n.toInt ≠ 0 by omega)
  rw [← h] at b
  omega
theorem own_nzS {x y n m : Int32} {k : Int} (h : y = (x &&& 2147483647) % n) (hn : n.toInt = k) (hm : m.toInt = k - 1) (hk : 1 ≤ k ∧ k ≤ 1000) : 1 ≤ (m - y + 1).toInt ∧ (m - y + 1).toInt = k - y.toInt := by
  have r := own_nzR h hn hk
  have e : (1 : Int32).toInt = 1 := by decide
  have a := own_isub (x := m) (y := y) (by omega)
  have b := own_iadd (x := m - y) (y := 1) (by omega)
  omega
theorem own_nzT {x y n m : Int32} (h : y = (x &&& 2147483647) % n) (hc : (n = 33 ∧ m = 32) ∨ (n = 129 ∧ m = 128)) : ¬ (m - y + 1) = 0 := by
  rcases hc with ⟨rfl, rfl⟩ | ⟨rfl, rfl⟩
  · exact own_nzP (own_nzS h (k := 33) (by decide) (by decide) (by decide)).1
  · exact own_nzP (own_nzS h (k := 129) (by decide) (by decide) (by decide)).1
theorem d1_0 : decode prog_39_method_1_code 0 = .ok (.aload_n 0, 1) := by decide +kernel
theorem d1_1 : decode prog_39_method_1_code 1 = .ok (.invokespecial 1, 3) := by decide +kernel
theorem d1_4 : decode prog_39_method_1_code 4 = .ok (.aload_n 0, 1) := by decide +kernel
theorem d1_5 : decode prog_39_method_1_code 5 = .ok (.aload_n 1, 1) := by decide +kernel
theorem d1_6 : decode prog_39_method_1_code 6 = .ok (.putfield 7, 3) := by decide +kernel
theorem d1_9 : decode prog_39_method_1_code 9 = .ok (.aload_n 0, 1) := by decide +kernel
theorem d1_10 : decode prog_39_method_1_code 10 = .ok (.iload_n 2, 1) := by decide +kernel
theorem d1_11 : decode prog_39_method_1_code 11 = .ok (.putfield 13, 3) := by decide +kernel
theorem d1_14 : decode prog_39_method_1_code 14 = .ok (.return_, 1) := by decide +kernel
theorem pn_1 : plainName "com/example/stillframe/stillframe/ccr/IpPrefix" = true := by first | (simp [plainName, overriddenIn]; done) | decide +kernel
theorem ef_1 (m : MethodId) (ra : Addr) (rb : Addr) (q2 : Int32) : entryFrame m #[(.ref ra), (.ref rb), (.int q2)] 3 = mkF m 0 #[.val (.ref ra), .val (.ref rb), .val (.int q2)] [] := by first | (simp [entryFrame, mkF, argsToLocals, Value.category, maxLocals]; done) | rfl
def Q1 (Z : State) (ra : Addr) (rb : Addr) (q2 : Int32)  (h0 : Heap) (n0 : Nat) (v : Option Value) (h : Heap) (L : List Loc) : Prop := v = none ∧ Fr n0 L ∧ Keep h0 h [ra] ∧ Exa Z h ra "com/example/stillframe/stillframe/ccr/IpPrefix" ∧ Fld Z h ra "com/example/stillframe/stillframe/ccr/IpPrefix" "address" "[B" (.ref rb) ∧ Fld Z h ra "com/example/stillframe/stillframe/ccr/IpPrefix" "length" "I" (.int q2)
set_option maxRecDepth 65536 in
set_option maxHeartbeats 40000000 in
theorem rm1 (l : Launch) (Z : State) (a0 : Array Value) (hw : ∀ d ∈ tables_1, d.before a0 Z = true) (ws : List Jvm.Cond) (ra : Addr) (rb : Addr) (q2 : Int32)  (h0 : Heap) (n0 : Nat) (Z0 : n0 ≤ h0.size) (PE0 : Exa Z h0 ra "com/example/stillframe/stillframe/ccr/IpPrefix") (PF0 : Fld Z h0 ra "com/example/stillframe/stillframe/ccr/IpPrefix" "address" "[B" .null) (PF1 : Fld Z h0 ra "com/example/stillframe/stillframe/ccr/IpPrefix" "length" "I" (.int (0 : Int32))) (PG0 : n0 ≤ ra) :
    MetFree l (⟨"com/example/stillframe/stillframe/ccr/IpPrefix", "<init>", "([BI)V"⟩ : MethodName) (head1 (Jvm.Cond.code (⟨"com/example/stillframe/stillframe/ccr/IpPrefix", "<init>", "([BI)V"⟩ : MethodName) prog_39_method_1_code 3 none :: ws) ({ frames := 1, cells := 0, slots := 0, locals := 12 } : Room)) (fun a U => a = #[(.ref ra), (.ref rb), (.int q2)] ∧ Z.Warmed39 U.vm ∧ U.heap = h0) (fun _ _ _ _ _ => True) (fun _ U o U' => ∃ v L, o = .returned v ∧ Q1 Z ra rb q2 h0 n0 v U'.heap L ∧ FrameEnd U o U' L ({ frames := 1, cells := 0, slots := 0, locals := 12 } : Room).cells ({ frames := 1, cells := 0, slots := 0, locals := 12 } : Room).slots) := by
  refine MetFree.of_bodySF (plainFor_of_name pn_1) hisR ?_
  intro p e s m args below meth c s₁ Bd hml0 hP hK
  obtain ⟨rfl, hZ, hh⟩ := hP
  have hx := Bd.exec
  have hby := Bd.bytes
  have hml : c.maxLocals = 3 := hml0
  have hown : s.vm.findClass "com/example/stillframe/stillframe/ccr/IpPrefix" = some m.cls := findClass_of_methodNamed Bd.named
  have hnm := (name_of_methodNamed Bd.named Bd.method).1
  have X0 : Stand p l e ({ frames := 1, cells := 0, slots := 0, locals := 12 } : Room) s m #[(.ref ra), (.ref rb), (.int q2)] below meth c s₁ [] 0 0 := Stand.of_body Bd
  have hlk : meth.locks = false := by first | exact BodyLoose.notSynchronized (by assumption) | exact Body.notSynchronized (by assumption)
  have e0 : s₁.heap = h0 := by rw [← hh, Bd.state]; rfl
  have N0 := Fr.nil n0
  have pre0 : ∀ t, Steps p.tables e below (s₁.setTop (mkF m 0 #[.val (.ref ra), .val (.ref rb), .val (.int q2)] [])) t → Steps p.tables e below (s₁.setTop (entryFrame m #[(.ref ra), (.ref rb), (.int q2)] 3)) t := fun t k => castTop (ef_1 m ra rb q2) k
  obtain ⟨T1, X1, e1, st1⟩ := initO X0 hx hZ hown (hw _ (List.mem_of_getElem? (i := 8) rfl)) (hw _ (List.mem_of_getElem? (i := 9) rfl)) (hw _ (List.mem_of_getElem? (i := 10) rfl)) e0 (g := (mkF m 1 #[.val (.ref ra), .val (.ref rb), .val (.int q2)] [(.ref ra)])) rfl (by rw [hml]; rfl) rfl (hb hby d1_1) (by decide) (W := 0) (by show 2 * 0 + _ ≤ _; exact Nat.le_of_eq rfl) (by decide)
  obtain ⟨T2, h2, X2, e2, W2, st2⟩ := putF X1 hx hZ hown (host := "") (Or.inl (hw _ (List.mem_of_getElem? (i := 11) rfl))) Via.refl e1 PF0 PE0 (Or.inr ⟨(hw _ (List.mem_of_getElem? (i := 12) rfl)), rfl, hnm⟩) (hw _ (List.mem_of_getElem? (i := 2) rfl)) (ty := (.array .byte)) (by decide) rfl rfl (g := (mkF m 6 #[.val (.ref ra), .val (.ref rb), .val (.int q2)] [(.ref rb), (.ref ra)])) rfl rfl (hb hby d1_6)
  have A2_ra : Exa Z h2 ra "com/example/stillframe/stillframe/ccr/IpPrefix" := PE0.wr W2
  have F2_ra_1 : Fld Z h2 ra "com/example/stillframe/stillframe/ccr/IpPrefix" "length" "I" (.int (0 : Int32)) := PF1.other W2 (Or.inr (slot_ne (a0 := a0) (C := "com/example/stillframe/stillframe/ccr/IpPrefix") (Or.inr (hw _ (List.mem_of_getElem? (i := 14) rfl))) (Or.inr (hw _ (List.mem_of_getElem? (i := 12) rfl))) (by decide) (t := .int) (t' := (.array .byte)) (by decide) (by decide)))
  have sz2 : n0 ≤ h2.size := Nat.le_trans Z0 (Keep.of_wr W2).1
  have K2 : Keep h0 h2 [ra] := (Keep.refl h0 [ra]).wr W2 (Or.inl (by simp))
  have N2 := Fr.snoc X2 N0 PG0
  have F2_s : Fld Z h2 ra "com/example/stillframe/stillframe/ccr/IpPrefix" "address" "[B" (.ref rb) := PF0.same W2
  obtain ⟨T3, h3, X3, e3, W3, st3⟩ := putF X2 hx hZ hown (host := "") (Or.inl (hw _ (List.mem_of_getElem? (i := 13) rfl))) Via.refl e2 F2_ra_1 A2_ra (Or.inr ⟨(hw _ (List.mem_of_getElem? (i := 14) rfl)), rfl, hnm⟩) (hw _ (List.mem_of_getElem? (i := 2) rfl)) (ty := .int) (by decide) rfl rfl (g := (mkF m 11 #[.val (.ref ra), .val (.ref rb), .val (.int q2)] [(.int q2), (.ref ra)])) rfl rfl (hb hby d1_11)
  have A3_ra : Exa Z h3 ra "com/example/stillframe/stillframe/ccr/IpPrefix" := A2_ra.wr W3
  have F3_ra_0 : Fld Z h3 ra "com/example/stillframe/stillframe/ccr/IpPrefix" "address" "[B" (.ref rb) := F2_s.other W3 (Or.inr (slot_ne (a0 := a0) (C := "com/example/stillframe/stillframe/ccr/IpPrefix") (Or.inr (hw _ (List.mem_of_getElem? (i := 12) rfl))) (Or.inr (hw _ (List.mem_of_getElem? (i := 14) rfl))) (by decide) (t := (.array .byte)) (t' := .int) (by decide) (by decide)))
  have sz3 : n0 ≤ h3.size := Nat.le_trans sz2 (Keep.of_wr W3).1
  have K3 : Keep h0 h3 [ra] := K2.wr W3 (Or.inl (by simp))
  have N3 := Fr.snoc X3 N2 PG0
  have F3_s : Fld Z h3 ra "com/example/stillframe/stillframe/ccr/IpPrefix" "length" "I" (.int q2) := F2_ra_1.same W3
  obtain ⟨fs, hr, hrun, hended, hW, hsame⟩ := X3.leave (v := none) (fun _ => rfl) hlk
  refine ⟨_, _, pre0 _ ?_, hrun, hended, _, _, rfl, ?_, ⟨_, rfl⟩, hW, hsame.mono (by decide) (by decide)⟩
  · show Steps p.tables e below (s₁.setTop (mkF m 0 #[.val (.ref ra), .val (.ref rb), .val (.int q2)] [])) _
    refine XS.aloadN X0.here hx rfl (hb hby d1_0) rfl rfl ?_
    show Steps p.tables e below (s₁.setTop (mkF m 1 #[.val (.ref ra), .val (.ref rb), .val (.int q2)] [(.ref ra)])) _
    refine st1 _ ?_
    show Steps p.tables e below (T1.setTop (mkF m 4 #[.val (.ref ra), .val (.ref rb), .val (.int q2)] [])) _
    refine XS.aloadN X1.here hx rfl (hb hby d1_4) rfl rfl ?_
    show Steps p.tables e below (T1.setTop (mkF m 5 #[.val (.ref ra), .val (.ref rb), .val (.int q2)] [(.ref ra)])) _
    refine XS.aloadN X1.here hx rfl (hb hby d1_5) rfl rfl ?_
    show Steps p.tables e below (T1.setTop (mkF m 6 #[.val (.ref ra), .val (.ref rb), .val (.int q2)] [(.ref rb), (.ref ra)])) _
    refine st2 _ ?_
    show Steps p.tables e below (T2.setTop (mkF m 9 #[.val (.ref ra), .val (.ref rb), .val (.int q2)] [])) _
    refine XS.aloadN X2.here hx rfl (hb hby d1_9) rfl rfl ?_
    show Steps p.tables e below (T2.setTop (mkF m 10 #[.val (.ref ra), .val (.ref rb), .val (.int q2)] [(.ref ra)])) _
    refine XS.iloadN X2.here hx rfl (hb hby d1_10) rfl ?_
    show Steps p.tables e below (T2.setTop (mkF m 11 #[.val (.ref ra), .val (.ref rb), .val (.int q2)] [(.int q2), (.ref ra)])) _
    refine st3 _ ?_
    show Steps p.tables e below (T3.setTop (mkF m 14 #[.val (.ref ra), .val (.ref rb), .val (.int q2)] [])) _
    exact X3.returnOut hx Bd.returns (hb hby d1_14) hr
  · show Q1 Z ra rb q2 h0 n0 _ T3.heap _
    rw [e3]
    exact ⟨rfl, N3, K3, A3_ra, F3_ra_0, F3_s⟩
theorem d3_0 : decode prog_42_method_1_code 0 = .ok (.aload_n 0, 1) := by decide +kernel
theorem d3_1 : decode prog_42_method_1_code 1 = .ok (.invokespecial 1, 3) := by decide +kernel
theorem d3_4 : decode prog_42_method_1_code 4 = .ok (.aload_n 0, 1) := by decide +kernel
theorem d3_5 : decode prog_42_method_1_code 5 = .ok (.lload_n 1, 1) := by decide +kernel
theorem d3_6 : decode prog_42_method_1_code 6 = .ok (.putfield 7, 3) := by decide +kernel
theorem d3_9 : decode prog_42_method_1_code 9 = .ok (.aload_n 0, 1) := by decide +kernel
theorem d3_10 : decode prog_42_method_1_code 10 = .ok (.aload_n 3, 1) := by decide +kernel
theorem d3_11 : decode prog_42_method_1_code 11 = .ok (.putfield 13, 3) := by decide +kernel
theorem d3_14 : decode prog_42_method_1_code 14 = .ok (.aload_n 0, 1) := by decide +kernel
theorem d3_15 : decode prog_42_method_1_code 15 = .ok (.iload 4, 2) := by decide +kernel
theorem d3_17 : decode prog_42_method_1_code 17 = .ok (.putfield 17, 3) := by decide +kernel
theorem d3_20 : decode prog_42_method_1_code 20 = .ok (.return_, 1) := by decide +kernel
theorem pn_3 : plainName "com/example/stillframe/stillframe/ccr/RoaPayload" = true := by first | (simp [plainName, overriddenIn]; done) | decide +kernel
theorem ef_3 (m : MethodId) (ra : Addr) (q1 : Int64) (rb : Addr) (q3 : Int32) : entryFrame m #[(.ref ra), (.long q1), (.ref rb), (.int q3)] 5 = mkF m 0 #[.val (.ref ra), .val (.long q1), .second, .val (.ref rb), .val (.int q3)] [] := by first | (simp [entryFrame, mkF, argsToLocals, Value.category, maxLocals]; done) | rfl
def Q3 (Z : State) (ra : Addr) (q1 : Int64) (rb : Addr) (q3 : Int32)  (h0 : Heap) (n0 : Nat) (v : Option Value) (h : Heap) (L : List Loc) : Prop := v = none ∧ Fr n0 L ∧ Keep h0 h [ra] ∧ Exa Z h ra "com/example/stillframe/stillframe/ccr/RoaPayload" ∧ Fld Z h ra "com/example/stillframe/stillframe/ccr/RoaPayload" "asn" "J" (.long q1) ∧ Fld Z h ra "com/example/stillframe/stillframe/ccr/RoaPayload" "prefix" "Lcom/example/stillframe/stillframe/ccr/IpPrefix;" (.ref rb) ∧ Fld Z h ra "com/example/stillframe/stillframe/ccr/RoaPayload" "maxLength" "I" (.int q3)
set_option maxRecDepth 65536 in
set_option maxHeartbeats 40000000 in
theorem rm3 (l : Launch) (Z : State) (a0 : Array Value) (hw : ∀ d ∈ tables_1, d.before a0 Z = true) (ws : List Jvm.Cond) (ra : Addr) (q1 : Int64) (rb : Addr) (q3 : Int32)  (h0 : Heap) (n0 : Nat) (Z0 : n0 ≤ h0.size) (PE0 : Exa Z h0 ra "com/example/stillframe/stillframe/ccr/RoaPayload") (PF0 : Fld Z h0 ra "com/example/stillframe/stillframe/ccr/RoaPayload" "asn" "J" (.long (0 : Int64))) (PF1 : Fld Z h0 ra "com/example/stillframe/stillframe/ccr/RoaPayload" "prefix" "Lcom/example/stillframe/stillframe/ccr/IpPrefix;" .null) (PF2 : Fld Z h0 ra "com/example/stillframe/stillframe/ccr/RoaPayload" "maxLength" "I" (.int (0 : Int32))) (PG0 : n0 ≤ ra) :
    MetFree l (⟨"com/example/stillframe/stillframe/ccr/RoaPayload", "<init>", "(JLcom/example/stillframe/stillframe/ccr/IpPrefix;I)V"⟩ : MethodName) (head1 (Jvm.Cond.code (⟨"com/example/stillframe/stillframe/ccr/RoaPayload", "<init>", "(JLcom/example/stillframe/stillframe/ccr/IpPrefix;I)V"⟩ : MethodName) prog_42_method_1_code 5 none :: ws) ({ frames := 1, cells := 0, slots := 0, locals := 12 } : Room)) (fun a U => a = #[(.ref ra), (.long q1), (.ref rb), (.int q3)] ∧ Z.Warmed39 U.vm ∧ U.heap = h0) (fun _ _ _ _ _ => True) (fun _ U o U' => ∃ v L, o = .returned v ∧ Q3 Z ra q1 rb q3 h0 n0 v U'.heap L ∧ FrameEnd U o U' L ({ frames := 1, cells := 0, slots := 0, locals := 12 } : Room).cells ({ frames := 1, cells := 0, slots := 0, locals := 12 } : Room).slots) := by
  refine MetFree.of_bodySF (plainFor_of_name pn_3) hisR ?_
  intro p e s m args below meth c s₁ Bd hml0 hP hK
  obtain ⟨rfl, hZ, hh⟩ := hP
  have hx := Bd.exec
  have hby := Bd.bytes
  have hml : c.maxLocals = 5 := hml0
  have hown : s.vm.findClass "com/example/stillframe/stillframe/ccr/RoaPayload" = some m.cls := findClass_of_methodNamed Bd.named
  have hnm := (name_of_methodNamed Bd.named Bd.method).1
  have X0 : Stand p l e ({ frames := 1, cells := 0, slots := 0, locals := 12 } : Room) s m #[(.ref ra), (.long q1), (.ref rb), (.int q3)] below meth c s₁ [] 0 0 := Stand.of_body Bd
  have hlk : meth.locks = false := by first | exact BodyLoose.notSynchronized (by assumption) | exact Body.notSynchronized (by assumption)
  have e0 : s₁.heap = h0 := by rw [← hh, Bd.state]; rfl
  have N0 := Fr.nil n0
  have pre0 : ∀ t, Steps p.tables e below (s₁.setTop (mkF m 0 #[.val (.ref ra), .val (.long q1), .second, .val (.ref rb), .val (.int q3)] [])) t → Steps p.tables e below (s₁.setTop (entryFrame m #[(.ref ra), (.long q1), (.ref rb), (.int q3)] 5)) t := fun t k => castTop (ef_3 m ra q1 rb q3) k
  obtain ⟨T1, X1, e1, st1⟩ := initO X0 hx hZ hown (hw _ (List.mem_of_getElem? (i := 22) rfl)) (hw _ (List.mem_of_getElem? (i := 9) rfl)) (hw _ (List.mem_of_getElem? (i := 10) rfl)) e0 (g := (mkF m 1 #[.val (.ref ra), .val (.long q1), .second, .val (.ref rb), .val (.int q3)] [(.ref ra)])) rfl (by rw [hml]; rfl) rfl (hb hby d3_1) (by decide) (W := 0) (by show 2 * 0 + _ ≤ _; exact Nat.le_of_eq rfl) (by decide)
  obtain ⟨T2, h2, X2, e2, W2, st2⟩ := putF X1 hx hZ hown (host := "") (Or.inl (hw _ (List.mem_of_getElem? (i := 23) rfl))) Via.refl e1 PF0 PE0 (Or.inr ⟨(hw _ (List.mem_of_getElem? (i := 24) rfl)), rfl, hnm⟩) (hw _ (List.mem_of_getElem? (i := 16) rfl)) (ty := .long) (by decide) rfl rfl (g := (mkF m 6 #[.val (.ref ra), .val (.long q1), .second, .val (.ref rb), .val (.int q3)] [(.long q1), (.ref ra)])) rfl rfl (hb hby d3_6)
  have A2_ra : Exa Z h2 ra "com/example/stillframe/stillframe/ccr/RoaPayload" := PE0.wr W2
  have F2_ra_1 : Fld Z h2 ra "com/example/stillframe/stillframe/ccr/RoaPayload" "prefix" "Lcom/example/stillframe/stillframe/ccr/IpPrefix;" .null := PF1.other W2 (Or.inr (slot_ne (a0 := a0) (C := "com/example/stillframe/stillframe/ccr/RoaPayload") (Or.inr (hw _ (List.mem_of_getElem? (i := 26) rfl))) (Or.inr (hw _ (List.mem_of_getElem? (i := 24) rfl))) (by decide) (t := (.object "com/example/stillframe/stillframe/ccr/IpPrefix")) (t' := .long) (by decide) (by decide)))
  have F2_ra_2 : Fld Z h2 ra "com/example/stillframe/stillframe/ccr/RoaPayload" "maxLength" "I" (.int (0 : Int32)) := PF2.other W2 (Or.inr (slot_ne (a0 := a0) (C := "com/example/stillframe/stillframe/ccr/RoaPayload") (Or.inr (hw _ (List.mem_of_getElem? (i := 28) rfl))) (Or.inr (hw _ (List.mem_of_getElem? (i := 24) rfl))) (by decide) (t := .int) (t' := .long) (by decide) (by decide)))
  have sz2 : n0 ≤ h2.size := Nat.le_trans Z0 (Keep.of_wr W2).1
  have K2 : Keep h0 h2 [ra] := (Keep.refl h0 [ra]).wr W2 (Or.inl (by simp))
  have N2 := Fr.snoc X2 N0 PG0
  have F2_s : Fld Z h2 ra "com/example/stillframe/stillframe/ccr/RoaPayload" "asn" "J" (.long q1) := PF0.same W2
  obtain ⟨T3, h3, X3, e3, W3, st3⟩ := putF X2 hx hZ hown (host := "") (Or.inl (hw _ (List.mem_of_getElem? (i := 25) rfl))) Via.refl e2 F2_ra_1 A2_ra (Or.inr ⟨(hw _ (List.mem_of_getElem? (i := 26) rfl)), rfl, hnm⟩) (hw _ (List.mem_of_getElem? (i := 16) rfl)) (ty := (.object "com/example/stillframe/stillframe/ccr/IpPrefix")) (by decide) rfl rfl (g := (mkF m 11 #[.val (.ref ra), .val (.long q1), .second, .val (.ref rb), .val (.int q3)] [(.ref rb), (.ref ra)])) rfl rfl (hb hby d3_11)
  have A3_ra : Exa Z h3 ra "com/example/stillframe/stillframe/ccr/RoaPayload" := A2_ra.wr W3
  have F3_ra_0 : Fld Z h3 ra "com/example/stillframe/stillframe/ccr/RoaPayload" "asn" "J" (.long q1) := F2_s.other W3 (Or.inr (slot_ne (a0 := a0) (C := "com/example/stillframe/stillframe/ccr/RoaPayload") (Or.inr (hw _ (List.mem_of_getElem? (i := 24) rfl))) (Or.inr (hw _ (List.mem_of_getElem? (i := 26) rfl))) (by decide) (t := .long) (t' := (.object "com/example/stillframe/stillframe/ccr/IpPrefix")) (by decide) (by decide)))
  have F3_ra_2 : Fld Z h3 ra "com/example/stillframe/stillframe/ccr/RoaPayload" "maxLength" "I" (.int (0 : Int32)) := F2_ra_2.other W3 (Or.inr (slot_ne (a0 := a0) (C := "com/example/stillframe/stillframe/ccr/RoaPayload") (Or.inr (hw _ (List.mem_of_getElem? (i := 28) rfl))) (Or.inr (hw _ (List.mem_of_getElem? (i := 26) rfl))) (by decide) (t := .int) (t' := (.object "com/example/stillframe/stillframe/ccr/IpPrefix")) (by decide) (by decide)))
  have sz3 : n0 ≤ h3.size := Nat.le_trans sz2 (Keep.of_wr W3).1
  have K3 : Keep h0 h3 [ra] := K2.wr W3 (Or.inl (by simp))
  have N3 := Fr.snoc X3 N2 PG0
  have F3_s : Fld Z h3 ra "com/example/stillframe/stillframe/ccr/RoaPayload" "prefix" "Lcom/example/stillframe/stillframe/ccr/IpPrefix;" (.ref rb) := F2_ra_1.same W3
  obtain ⟨T4, h4, X4, e4, W4, st4⟩ := putF X3 hx hZ hown (host := "") (Or.inl (hw _ (List.mem_of_getElem? (i := 27) rfl))) Via.refl e3 F3_ra_2 A3_ra (Or.inr ⟨(hw _ (List.mem_of_getElem? (i := 28) rfl)), rfl, hnm⟩) (hw _ (List.mem_of_getElem? (i := 16) rfl)) (ty := .int) (by decide) rfl rfl (g := (mkF m 17 #[.val (.ref ra), .val (.long q1), .second, .val (.ref rb), .val (.int q3)] [(.int q3), (.ref ra)])) rfl rfl (hb hby d3_17)
  have A4_ra : Exa Z h4 ra "com/example/stillframe/stillframe/ccr/RoaPayload" := A3_ra.wr W4
  have F4_ra_0 : Fld Z h4 ra "com/example/stillframe/stillframe/ccr/RoaPayload" "asn" "J" (.long q1) := F3_ra_0.other W4 (Or.inr (slot_ne (a0 := a0) (C := "com/example/stillframe/stillframe/ccr/RoaPayload") (Or.inr (hw _ (List.mem_of_getElem? (i := 24) rfl))) (Or.inr (hw _ (List.mem_of_getElem? (i := 28) rfl))) (by decide) (t := .long) (t' := .int) (by decide) (by decide)))
  have F4_ra_1 : Fld Z h4 ra "com/example/stillframe/stillframe/ccr/RoaPayload" "prefix" "Lcom/example/stillframe/stillframe/ccr/IpPrefix;" (.ref rb) := F3_s.other W4 (Or.inr (slot_ne (a0 := a0) (C := "com/example/stillframe/stillframe/ccr/RoaPayload") (Or.inr (hw _ (List.mem_of_getElem? (i := 26) rfl))) (Or.inr (hw _ (List.mem_of_getElem? (i := 28) rfl))) (by decide) (t := (.object "com/example/stillframe/stillframe/ccr/IpPrefix")) (t' := .int) (by decide) (by decide)))
  have sz4 : n0 ≤ h4.size := Nat.le_trans sz3 (Keep.of_wr W4).1
  have K4 : Keep h0 h4 [ra] := K3.wr W4 (Or.inl (by simp))
  have N4 := Fr.snoc X4 N3 PG0
  have F4_s : Fld Z h4 ra "com/example/stillframe/stillframe/ccr/RoaPayload" "maxLength" "I" (.int q3) := F3_ra_2.same W4
  obtain ⟨fs, hr, hrun, hended, hW, hsame⟩ := X4.leave (v := none) (fun _ => rfl) hlk
  refine ⟨_, _, pre0 _ ?_, hrun, hended, _, _, rfl, ?_, ⟨_, rfl⟩, hW, hsame.mono (by decide) (by decide)⟩
  · show Steps p.tables e below (s₁.setTop (mkF m 0 #[.val (.ref ra), .val (.long q1), .second, .val (.ref rb), .val (.int q3)] [])) _
    refine XS.aloadN X0.here hx rfl (hb hby d3_0) rfl rfl ?_
    show Steps p.tables e below (s₁.setTop (mkF m 1 #[.val (.ref ra), .val (.long q1), .second, .val (.ref rb), .val (.int q3)] [(.ref ra)])) _
    refine st1 _ ?_
    show Steps p.tables e below (T1.setTop (mkF m 4 #[.val (.ref ra), .val (.long q1), .second, .val (.ref rb), .val (.int q3)] [])) _
    refine XS.aloadN X1.here hx rfl (hb hby d3_4) rfl rfl ?_
    show Steps p.tables e below (T1.setTop (mkF m 5 #[.val (.ref ra), .val (.long q1), .second, .val (.ref rb), .val (.int q3)] [(.ref ra)])) _
    refine XS.lloadN X1.here hx rfl (hb hby d3_5) rfl ?_
    show Steps p.tables e below (T1.setTop (mkF m 6 #[.val (.ref ra), .val (.long q1), .second, .val (.ref rb), .val (.int q3)] [(.long q1), (.ref ra)])) _
    refine st2 _ ?_
    show Steps p.tables e below (T2.setTop (mkF m 9 #[.val (.ref ra), .val (.long q1), .second, .val (.ref rb), .val (.int q3)] [])) _
    refine XS.aloadN X2.here hx rfl (hb hby d3_9) rfl rfl ?_
    show Steps p.tables e below (T2.setTop (mkF m 10 #[.val (.ref ra), .val (.long q1), .second, .val (.ref rb), .val (.int q3)] [(.ref ra)])) _
    refine XS.aloadN X2.here hx rfl (hb hby d3_10) rfl rfl ?_
    show Steps p.tables e below (T2.setTop (mkF m 11 #[.val (.ref ra), .val (.long q1), .second, .val (.ref rb), .val (.int q3)] [(.ref rb), (.ref ra)])) _
    refine st3 _ ?_
    show Steps p.tables e below (T3.setTop (mkF m 14 #[.val (.ref ra), .val (.long q1), .second, .val (.ref rb), .val (.int q3)] [])) _
    refine XS.aloadN X3.here hx rfl (hb hby d3_14) rfl rfl ?_
    show Steps p.tables e below (T3.setTop (mkF m 15 #[.val (.ref ra), .val (.long q1), .second, .val (.ref rb), .val (.int q3)] [(.ref ra)])) _
    refine XS.iload X3.here hx rfl (hb hby d3_15) rfl ?_
    show Steps p.tables e below (T3.setTop (mkF m 17 #[.val (.ref ra), .val (.long q1), .second, .val (.ref rb), .val (.int q3)] [(.int q3), (.ref ra)])) _
    refine st4 _ ?_
    show Steps p.tables e below (T4.setTop (mkF m 20 #[.val (.ref ra), .val (.long q1), .second, .val (.ref rb), .val (.int q3)] [])) _
    exact X4.returnOut hx Bd.returns (hb hby d3_20) hr
  · show Q3 Z ra q1 rb q3 h0 n0 _ T4.heap _
    rw [e4]
    exact ⟨rfl, N4, K4, A4_ra, F4_ra_0, F4_ra_1, F4_s⟩
theorem d5_0 : decode prog_39_method_8_code 0 = .ok (.aload_n 0, 1) := by decide +kernel
theorem d5_1 : decode prog_39_method_8_code 1 = .ok (.getfield 13, 3) := by decide +kernel
theorem d5_4 : decode prog_39_method_8_code 4 = .ok (.ireturn, 1) := by decide +kernel
theorem ef_5 (m : MethodId) (rb : Addr) : entryFrame m #[(.ref rb)] 1 = mkF m 0 #[.val (.ref rb)] [] := by first | (simp [entryFrame, mkF, argsToLocals, Value.category, maxLocals]; done) | rfl
def own_f5  (w : Int32) : Int32 := w
def Q5 (Z : State) (rb : Addr) (w : Int32) (h0 : Heap) (n0 : Nat) (v : Option Value) (h : Heap) (L : List Loc) : Prop := v = some (.int (own_f5 w)) ∧ Fr n0 L ∧ h = h0
set_option maxRecDepth 65536 in
set_option maxHeartbeats 40000000 in
theorem rm5 (l : Launch) (Z : State) (a0 : Array Value) (hw : ∀ d ∈ tables_1, d.before a0 Z = true) (ws : List Jvm.Cond) (rb : Addr) (w : Int32) (h0 : Heap) (n0 : Nat) (Z0 : n0 ≤ h0.size) (PE0 : Exa Z h0 rb "com/example/stillframe/stillframe/ccr/IpPrefix") (PF0 : Fld Z h0 rb "com/example/stillframe/stillframe/ccr/IpPrefix" "length" "I" (.int w)) :
    MetFree l (⟨"com/example/stillframe/stillframe/ccr/IpPrefix", "length", "()I"⟩ : MethodName) (head1 (Jvm.Cond.code (⟨"com/example/stillframe/stillframe/ccr/IpPrefix", "length", "()I"⟩ : MethodName) prog_39_method_8_code 1 (some .int) :: ws) ({ frames := 0, cells := 0, slots := 0, locals := 0 } : Room)) (fun a U => a = #[(.ref rb)] ∧ Z.Warmed39 U.vm ∧ U.heap = h0) (fun _ _ _ _ _ => True) (fun _ U o U' => ∃ v L, o = .returned v ∧ Q5 Z rb w h0 n0 v U'.heap L ∧ FrameEnd U o U' L ({ frames := 0, cells := 0, slots := 0, locals := 0 } : Room).cells ({ frames := 0, cells := 0, slots := 0, locals := 0 } : Room).slots) := by
  refine MetFree.of_bodySF (plainFor_of_name pn_1) hisR ?_
  intro p e s m args below meth c s₁ Bd hml0 hP hK
  obtain ⟨rfl, hZ, hh⟩ := hP
  have hx := Bd.exec
  have hby := Bd.bytes
  have hml : c.maxLocals = 1 := hml0
  have hown : s.vm.findClass "com/example/stillframe/stillframe/ccr/IpPrefix" = some m.cls := findClass_of_methodNamed Bd.named
  have hnm := (name_of_methodNamed Bd.named Bd.method).1
  have X0 : Stand p l e ({ frames := 0, cells := 0, slots := 0, locals := 0 } : Room) s m #[(.ref rb)] below meth c s₁ [] 0 0 := Stand.of_body Bd
  have hlk : meth.locks = false := by first | exact BodyLoose.notSynchronized (by assumption) | exact Body.notSynchronized (by assumption)
  have e0 : s₁.heap = h0 := by rw [← hh, Bd.state]; rfl
  have N0 := Fr.nil n0
  have pre0 : ∀ t, Steps p.tables e below (s₁.setTop (mkF m 0 #[.val (.ref rb)] [])) t → Steps p.tables e below (s₁.setTop (entryFrame m #[(.ref rb)] 1)) t := fun t k => castTop (ef_5 m rb) k
  obtain ⟨T1, X1, e1, st1⟩ := getF X0 hx hZ hown (host := "") (Or.inl (hw _ (List.mem_of_getElem? (i := 13) rfl))) Via.refl e0 PF0 (g := (mkF m 1 #[.val (.ref rb)] [(.ref rb)])) rfl rfl (hb hby d5_1)
  obtain ⟨fs, hr, hrun, hended, hW, hsame⟩ := X1.leave (v := some (.int w)) (fun h => by rw [Bd.returns] at h; cases h) hlk
  refine ⟨_, _, pre0 _ ?_, hrun, hended, _, _, rfl, ?_, ⟨_, rfl⟩, hW, hsame.mono (by decide) (by decide)⟩
  · show Steps p.tables e below (s₁.setTop (mkF m 0 #[.val (.ref rb)] [])) _
    refine XS.aloadN X0.here hx rfl (hb hby d5_0) rfl rfl ?_
    show Steps p.tables e below (s₁.setTop (mkF m 1 #[.val (.ref rb)] [(.ref rb)])) _
    refine st1 _ ?_
    show Steps p.tables e below (T1.setTop (mkF m 4 #[.val (.ref rb)] [(.int w)])) _
    exact retI X1 hx Bd.returns (hb hby d5_4) hr
  · show Q5 Z rb w h0 n0 _ T1.heap _
    rw [e1]
    exact ⟨by rfl, N0, rfl⟩
theorem d4_0 : decode prog_42_method_8_code 0 = .ok (.aload_n 0, 1) := by decide +kernel
theorem d4_1 : decode prog_42_method_8_code 1 = .ok (.getfield 17, 3) := by decide +kernel
theorem d4_4 : decode prog_42_method_8_code 4 = .ok (.aload_n 0, 1) := by decide +kernel
theorem d4_5 : decode prog_42_method_8_code 5 = .ok (.getfield 13, 3) := by decide +kernel
theorem d4_8 : decode prog_42_method_8_code 8 = .ok (.invokevirtual 33, 3) := by decide +kernel
theorem d4_11 : decode prog_42_method_8_code 11 = .ok (.if_icmp .ne 7, 3) := by decide +kernel
theorem d4_14 : decode prog_42_method_8_code 14 = .ok (.iconst 1, 1) := by decide +kernel
theorem d4_15 : decode prog_42_method_8_code 15 = .ok (.goto 4, 3) := by decide +kernel
theorem d4_18 : decode prog_42_method_8_code 18 = .ok (.iconst 0, 1) := by decide +kernel
theorem d4_19 : decode prog_42_method_8_code 19 = .ok (.ireturn, 1) := by decide +kernel
theorem ef_4 (m : MethodId) (ra : Addr) : entryFrame m #[(.ref ra)] 1 = mkF m 0 #[.val (.ref ra)] [] := by first | (simp [entryFrame, mkF, argsToLocals, Value.category, maxLocals]; done) | rfl
theorem pd_6 : parseMethodDescriptor "()I" = some ⟨[], some .int⟩ := by decide +kernel
def own_f4  (mx : Int32) (w : Int32) : Int32 := (if mx = (own_f5  w) then (1 : Int32) else (0 : Int32))
def Q4 (Z : State) (ra : Addr) (rb : Addr) (mx : Int32) (w : Int32) (h0 : Heap) (n0 : Nat) (v : Option Value) (h : Heap) (L : List Loc) : Prop := v = some (.int (own_f4 mx w)) ∧ Fr n0 L ∧ h = h0
set_option maxRecDepth 65536 in
set_option maxHeartbeats 40000000 in
theorem rm4 (l : Launch) (Z : State) (a0 : Array Value) (hw : ∀ d ∈ tables_1, d.before a0 Z = true) (ws : List Jvm.Cond) (ra : Addr) (rb : Addr) (mx : Int32) (w : Int32) (h0 : Heap) (n0 : Nat) (Z0 : n0 ≤ h0.size) (PE0 : Exa Z h0 ra "com/example/stillframe/stillframe/ccr/RoaPayload") (PE1 : Exa Z h0 rb "com/example/stillframe/stillframe/ccr/IpPrefix") (PF0 : Fld Z h0 ra "com/example/stillframe/stillframe/ccr/RoaPayload" "prefix" "Lcom/example/stillframe/stillframe/ccr/IpPrefix;" (.ref rb)) (PF1 : Fld Z h0 ra "com/example/stillframe/stillframe/ccr/RoaPayload" "maxLength" "I" (.int mx)) (PF2 : Fld Z h0 rb "com/example/stillframe/stillframe/ccr/IpPrefix" "length" "I" (.int w)) :
    MetFree l (⟨"com/example/stillframe/stillframe/ccr/RoaPayload", "redundantMaxLength", "()Z"⟩ : MethodName) (head1 (Jvm.Cond.code (⟨"com/example/stillframe/stillframe/ccr/RoaPayload", "redundantMaxLength", "()Z"⟩ : MethodName) prog_42_method_8_code 1 (some .boolean) :: ws) ({ frames := 1, cells := 0, slots := 0, locals := 13 } : Room)) (fun a U => a = #[(.ref ra)] ∧ Z.Warmed39 U.vm ∧ U.heap = h0) (fun _ _ _ _ _ => True) (fun _ U o U' => ∃ v L, o = .returned v ∧ Q4 Z ra rb mx w h0 n0 v U'.heap L ∧ FrameEnd U o U' L ({ frames := 1, cells := 0, slots := 0, locals := 13 } : Room).cells ({ frames := 1, cells := 0, slots := 0, locals := 13 } : Room).slots) := by
  refine MetFree.of_bodySF (plainFor_of_name pn_3) hisR ?_
  intro p e s m args below meth c s₁ Bd hml0 hP hK
  obtain ⟨rfl, hZ, hh⟩ := hP
  have hx := Bd.exec
  have hby := Bd.bytes
  have hml : c.maxLocals = 1 := hml0
  have hown : s.vm.findClass "com/example/stillframe/stillframe/ccr/RoaPayload" = some m.cls := findClass_of_methodNamed Bd.named
  have hnm := (name_of_methodNamed Bd.named Bd.method).1
  have X0 : Stand p l e ({ frames := 1, cells := 0, slots := 0, locals := 13 } : Room) s m #[(.ref ra)] below meth c s₁ [] 0 0 := Stand.of_body Bd
  have hlk : meth.locks = false := by first | exact BodyLoose.notSynchronized (by assumption) | exact Body.notSynchronized (by assumption)
  have e0 : s₁.heap = h0 := by rw [← hh, Bd.state]; rfl
  have N0 := Fr.nil n0
  have pre0 : ∀ t, Steps p.tables e below (s₁.setTop (mkF m 0 #[.val (.ref ra)] [])) t → Steps p.tables e below (s₁.setTop (entryFrame m #[(.ref ra)] 1)) t := fun t k => castTop (ef_4 m ra) k
  obtain ⟨T1, X1, e1, st1⟩ := getF X0 hx hZ hown (host := "") (Or.inl (hw _ (List.mem_of_getElem? (i := 27) rfl))) Via.refl e0 PF1 (g := (mkF m 1 #[.val (.ref ra)] [(.ref ra)])) rfl rfl (hb hby d4_1)
  obtain ⟨T2, X2, e2, st2⟩ := getF X1 hx hZ hown (host := "") (Or.inl (hw _ (List.mem_of_getElem? (i := 25) rfl))) Via.refl e1 PF0 (g := (mkF m 5 #[.val (.ref ra)] [(.ref ra), (.int mx)])) rfl rfl (hb hby d4_5)
  obtain ⟨cq3, kq3, q3a, q3b, q3c⟩ := isOf hZ e2 PE1
  obtain ⟨_, _, ⟨T3, L3, k3, n3⟩, -, X3, ⟨Lc3, hQ3, l3, y3, z3⟩, st3⟩ := X2.virtualBack hx (y := (⟨"com/example/stillframe/stillframe/ccr/IpPrefix", "length", "()I"⟩ : MethodName)) (z := (⟨"com/example/stillframe/stillframe/ccr/IpPrefix", "length", "()I"⟩ : MethodName)) hown (mvT hZ (hw _ (List.mem_of_getElem? (i := 34) rfl))) (mvT hZ (hw _ (List.mem_of_getElem? (i := 35) rfl))) (notFace_of_selects (args := #[]) (mvT hZ (hw _ (List.mem_of_getElem? (i := 37) rfl)))) (mvT hZ (hw _ (List.mem_of_getElem? (i := 37) rfl))) (mvT hZ (hw _ (List.mem_of_getElem? (i := 36) rfl))) (by decide) (backOf (W := 1) (rm5 l Z a0 hw [] rb w h0 n0 Z0 PE1 PF2 ) hZ (hw _ (List.mem_of_getElem? (i := 38) rfl)) (hw _ (List.mem_of_getElem? (i := 3) rfl)) (by decide) (by decide)) q3a q3c (g := (mkF m 8 #[.val (.ref ra)] [(.ref rb), (.int mx)])) rfl (by rw [hml]; rfl) (Steps.refl _) (argsL := []) (rest := [(.int mx)]) (lenOf pd_6 rfl) rfl (by show 2 * 0 + _ ≤ _; exact Nat.le_of_eq rfl) (hb hby d4_8) (fun _ _ => ⟨rfl, e2, (by decide : 0 + 0 ≤ _), (by decide : 0 + 0 ≤ _)⟩)
  dsimp only [Pt.U, Pt.locs, Pt.cells, Pt.slots] at X3 l3 y3 z3 st3 hQ3
  subst l3 y3 z3
  obtain ⟨rfl, N3q, e3⟩ := hQ3
  have N3 := Fr.app N0 N3q
  have pre4 : ∀ t, Steps p.tables e below (T3.setTop (mkF m 11 #[.val (.ref ra)] [(.int (own_f5  w)), (.int mx)])) t → Steps p.tables e below (s₁.setTop (entryFrame m #[(.ref ra)] 1)) t := by
    intro t k
    refine pre0 t ?_
    show Steps p.tables e below (s₁.setTop (mkF m 0 #[.val (.ref ra)] [])) _
    refine XS.aloadN X0.here hx rfl (hb hby d4_0) rfl rfl ?_
    show Steps p.tables e below (s₁.setTop (mkF m 1 #[.val (.ref ra)] [(.ref ra)])) _
    refine st1 _ ?_
    show Steps p.tables e below (T1.setTop (mkF m 4 #[.val (.ref ra)] [(.int mx)])) _
    refine XS.aloadN X1.here hx rfl (hb hby d4_4) rfl rfl ?_
    show Steps p.tables e below (T1.setTop (mkF m 5 #[.val (.ref ra)] [(.ref ra), (.int mx)])) _
    refine st2 _ ?_
    show Steps p.tables e below (T2.setTop (mkF m 8 #[.val (.ref ra)] [(.ref rb), (.int mx)])) _
    refine st3.trans ?_
    exact k
  by_cases c5 : mx = (own_f5  w)
  · obtain ⟨fs, hr, hrun, hended, hW, hsame⟩ := X3.leave (v := some (.int (1 : Int32))) (fun h => by rw [Bd.returns] at h; cases h) hlk
    refine ⟨_, _, pre4 _ ?_, hrun, hended, _, _, rfl, ?_, ⟨_, rfl⟩, hW, hsame.mono (by decide) (by decide)⟩
    · show Steps p.tables e below (T3.setTop (mkF m 11 #[.val (.ref ra)] [(.int (own_f5  w)), (.int mx)])) _
      refine XS.icmpNo X3.here hx rfl (hb hby d4_11) rfl ((teq c5).2) ?_
      show Steps p.tables e below (T3.setTop (mkF m 14 #[.val (.ref ra)] [])) _
      refine XS.iconst X3.here hx rfl (hb hby d4_14) ?_
      show Steps p.tables e below (T3.setTop (mkF m 15 #[.val (.ref ra)] [(.int (1 : Int32))])) _
      refine XS.goto X3.here hx rfl (pc0 := 15) (pc' := 19) rfl (hb hby d4_15) (by decide) (by decide) ?_
      show Steps p.tables e below (T3.setTop (mkF m 19 #[.val (.ref ra)] [(.int (1 : Int32))])) _
      exact retN X3 hx (t := .boolean) Bd.returns (by simp) (hb hby d4_19) hr
    · show Q4 Z ra rb mx w h0 n0 _ T3.heap _
      rw [e3]
      exact ⟨by simp only [own_f4, if_pos c5], N3, rfl⟩
  · obtain ⟨fs, hr, hrun, hended, hW, hsame⟩ := X3.leave (v := some (.int (0 : Int32))) (fun h => by rw [Bd.returns] at h; cases h) hlk
    refine ⟨_, _, pre4 _ ?_, hrun, hended, _, _, rfl, ?_, ⟨_, rfl⟩, hW, hsame.mono (by decide) (by decide)⟩
    · show Steps p.tables e below (T3.setTop (mkF m 11 #[.val (.ref ra)] [(.int (own_f5  w)), (.int mx)])) _
      refine XS.icmpYes X3.here hx rfl (pc0 := 11) (pc' := 18) rfl (hb hby d4_11) rfl ((feq c5).2) (by decide) (by decide) ?_
      show Steps p.tables e below (T3.setTop (mkF m 18 #[.val (.ref ra)] [])) _
      refine XS.iconst X3.here hx rfl (hb hby d4_18) ?_
      show Steps p.tables e below (T3.setTop (mkF m 19 #[.val (.ref ra)] [(.int (0 : Int32))])) _
      exact retN X3 hx (t := .boolean) Bd.returns (by simp) (hb hby d4_19) hr
    · show Q4 Z ra rb mx w h0 n0 _ T3.heap _
      rw [e3]
      exact ⟨by simp only [own_f4, if_neg c5], N3, rfl⟩
theorem pn_7 : plainName "com/example/stillframe/stillframe/ccr/RoaPayloadRedundantMaxLengthPinLaw" = true := by first | (simp [plainName, overriddenIn]; done) | decide +kernel
theorem ef_0 (m : MethodId) (q0 : Int32) (q1 : Int32) (q2 : Int32) (q3 : Int64) : entryFrame m #[(.int q0), (.int q1), (.int q2), (.long q3)] maxLocals = mkF m 0 #[.val (.int q0), .val (.int q1), .val (.int q2), .val (.long q3), .second, .unset, .unset, .unset, .unset, .unset, .unset, .unset, .unset, .unset] [] := by first | (simp [entryFrame, mkF, argsToLocals, Value.category, maxLocals]; done) | rfl
theorem pd_8 : parseMethodDescriptor "([BI)V" = some ⟨[(.array .byte), .int], none⟩ := by decide +kernel
theorem pd_9 : parseMethodDescriptor "(JLcom/example/stillframe/stillframe/ccr/IpPrefix;I)V" = some ⟨[.long, (.object "com/example/stillframe/stillframe/ccr/IpPrefix"), .int], none⟩ := by decide +kernel
theorem pd_10 : parseMethodDescriptor "()Z" = some ⟨[], some .boolean⟩ := by decide +kernel
def own_f0 (q0 : Int32) (q1 : Int32) (q2 : Int32) (q3 : Int64) : Int32 := (if (q0 &&& (1 : Int32)) = (0 : Int32) then (if (q0 &&& (2 : Int32)) = (0 : Int32) then let v5 := ((q1 &&& (2147483647 : Int32)) % (33 : Int32))
  let v8 := ((q2 &&& (2147483647 : Int32)) % (((32 : Int32) - v5) + (1 : Int32)))
  (if (own_f4  ((-1 : Int32)) v5) = (0 : Int32) then (1 : Int32) else (0 : Int32)) else let v18 := ((q1 &&& (2147483647 : Int32)) % (33 : Int32))
  let v21 := ((q2 &&& (2147483647 : Int32)) % (((32 : Int32) - v18) + (1 : Int32)))
  let v23 := (v18 + v21)
  (if v21 = (0 : Int32) then (if (own_f4  v23 v18) = (1 : Int32) then (1 : Int32) else (0 : Int32)) else (if (own_f4  v23 v18) = (0 : Int32) then (1 : Int32) else (0 : Int32)))) else (if (q0 &&& (2 : Int32)) = (0 : Int32) then let v40 := ((q1 &&& (2147483647 : Int32)) % (129 : Int32))
  let v43 := ((q2 &&& (2147483647 : Int32)) % (((128 : Int32) - v40) + (1 : Int32)))
  (if (own_f4  ((-1 : Int32)) v40) = (0 : Int32) then (1 : Int32) else (0 : Int32)) else let v53 := ((q1 &&& (2147483647 : Int32)) % (129 : Int32))
  let v56 := ((q2 &&& (2147483647 : Int32)) % (((128 : Int32) - v53) + (1 : Int32)))
  let v58 := (v53 + v56)
  (if v56 = (0 : Int32) then (if (own_f4  v58 v53) = (1 : Int32) then (1 : Int32) else (0 : Int32)) else (if (own_f4  v58 v53) = (0 : Int32) then (1 : Int32) else (0 : Int32)))))
def Q0 (Z : State) (q0 : Int32) (q1 : Int32) (q2 : Int32) (q3 : Int64)  (h0 : Heap) (n0 : Nat) (v : Option Value) (h : Heap) (L : List Loc) : Prop := v = some (.int (own_f0 q0 q1 q2 q3)) ∧ Fr n0 L
set_option maxRecDepth 65536 in
set_option maxHeartbeats 40000000 in
theorem rm0 (l : Launch) (Z : State) (a0 : Array Value) (hw : ∀ d ∈ tables_1, d.before a0 Z = true) (ws : List Jvm.Cond) (q0 : Int32) (q1 : Int32) (q2 : Int32) (q3 : Int64)  (h0 : Heap) (n0 : Nat) (Z0 : n0 ≤ h0.size)  :
    MetFree l x (head1 (Jvm.Cond.code x code maxLocals ret :: ws) room_1) (fun a U => a = #[(.int q0), (.int q1), (.int q2), (.long q3)] ∧ Z.Warmed39 U.vm ∧ U.heap = h0) (fun _ _ _ _ _ => True) (fun _ U o U' => ∃ v L, o = .returned v ∧ Q0 Z q0 q1 q2 q3 h0 n0 v U'.heap L ∧ FrameEnd U o U' L room_1.cells room_1.slots) := by
  refine MetFree.of_bodySF (plainFor_of_name pn_7) hisR ?_
  intro p e s m args below meth c s₁ Bd hml0 hP hK
  obtain ⟨rfl, hZ, hh⟩ := hP
  have hx := Bd.exec
  have hby := Bd.bytes
  have hml : c.maxLocals = 14 := hml0
  have hown : s.vm.findClass "com/example/stillframe/stillframe/ccr/RoaPayloadRedundantMaxLengthPinLaw" = some m.cls := findClass_of_methodNamed Bd.named
  have hnm := (name_of_methodNamed Bd.named Bd.method).1
  have X0 : Stand p l e room_1 s m #[(.int q0), (.int q1), (.int q2), (.long q3)] below meth c s₁ [] 0 0 := Stand.of_body Bd
  have hlk : meth.locks = false := by first | exact BodyLoose.notSynchronized (by assumption) | exact Body.notSynchronized (by assumption)
  have e0 : s₁.heap = h0 := by rw [← hh, Bd.state]; rfl
  have N0 := Fr.nil n0
  have pre0 : ∀ t, Steps p.tables e below (s₁.setTop (mkF m 0 #[.val (.int q0), .val (.int q1), .val (.int q2), .val (.long q3), .second, .unset, .unset, .unset, .unset, .unset, .unset, .unset, .unset, .unset] [])) t → Steps p.tables e below (s₁.setTop (entryFrame m #[(.int q0), (.int q1), (.int q2), (.long q3)] maxLocals)) t := fun t k => castTop (ef_0 m q0 q1 q2 q3) k
  have pre1 : ∀ t, Steps p.tables e below (s₁.setTop (mkF m 3 #[.val (.int q0), .val (.int q1), .val (.int q2), .val (.long q3), .second, .unset, .unset, .unset, .unset, .unset, .unset, .unset, .unset, .unset] [(.int (q0 &&& (1 : Int32)))])) t → Steps p.tables e below (s₁.setTop (entryFrame m #[(.int q0), (.int q1), (.int q2), (.long q3)] maxLocals)) t := by
    intro t k
    refine pre0 t ?_
    show Steps p.tables e below (s₁.setTop (mkF m 0 #[.val (.int q0), .val (.int q1), .val (.int q2), .val (.long q3), .second, .unset, .unset, .unset, .unset, .unset, .unset, .unset, .unset, .unset] [])) _
    refine XS.iloadN X0.here hx rfl (hb hby at_0) rfl ?_
    show Steps p.tables e below (s₁.setTop (mkF m 1 #[.val (.int q0), .val (.int q1), .val (.int q2), .val (.long q3), .second, .unset, .unset, .unset, .unset, .unset, .unset, .unset, .unset, .unset] [(.int q0)])) _
    refine XS.iconst X0.here hx rfl (hb hby at_1) ?_
    show Steps p.tables e below (s₁.setTop (mkF m 2 #[.val (.int q0), .val (.int q1), .val (.int q2), .val (.long q3), .second, .unset, .unset, .unset, .unset, .unset, .unset, .unset, .unset, .unset] [(.int (1 : Int32)), (.int q0)])) _
    refine XS.iand X0.here hx rfl (hb hby at_2) rfl ?_
    exact k
  by_cases c2 : (q0 &&& (1 : Int32)) = (0 : Int32)
  · have pre3 : ∀ t, Steps p.tables e below (s₁.setTop (mkF m 16 #[.val (.int q0), .val (.int q1), .val (.int q2), .val (.long q3), .second, .val (.int (0 : Int32)), .unset, .unset, .unset, .unset, .unset, .unset, .unset, .unset] [(.int (q0 &&& (2 : Int32)))])) t → Steps p.tables e below (s₁.setTop (entryFrame m #[(.int q0), (.int q1), (.int q2), (.long q3)] maxLocals)) t := by
      intro t k
      refine pre1 t ?_
      show Steps p.tables e below (s₁.setTop (mkF m 3 #[.val (.int q0), .val (.int q1), .val (.int q2), .val (.long q3), .second, .unset, .unset, .unset, .unset, .unset, .unset, .unset, .unset, .unset] [(.int (q0 &&& (1 : Int32)))])) _
      refine XS.ifYes X0.here hx rfl (pc0 := 3) (pc' := 10) rfl (hb hby at_3) rfl ((if0 _ _).trans (teq c2).1) (by decide) (by decide) ?_
      show Steps p.tables e below (s₁.setTop (mkF m 10 #[.val (.int q0), .val (.int q1), .val (.int q2), .val (.long q3), .second, .unset, .unset, .unset, .unset, .unset, .unset, .unset, .unset, .unset] [])) _
      refine XS.iconst X0.here hx rfl (hb hby at_10) ?_
      show Steps p.tables e below (s₁.setTop (mkF m 11 #[.val (.int q0), .val (.int q1), .val (.int q2), .val (.long q3), .second, .unset, .unset, .unset, .unset, .unset, .unset, .unset, .unset, .unset] [(.int (0 : Int32))])) _
      refine XS.istore X0.here hx rfl (hb hby at_11) rfl (l' := #[.val (.int q0), .val (.int q1), .val (.int q2), .val (.long q3), .second, .val (.int (0 : Int32)), .unset, .unset, .unset, .unset, .unset, .unset, .unset, .unset]) rfl ?_
      show Steps p.tables e below (s₁.setTop (mkF m 13 #[.val (.int q0), .val (.int q1), .val (.int q2), .val (.long q3), .second, .val (.int (0 : Int32)), .unset, .unset, .unset, .unset, .unset, .unset, .unset, .unset] [])) _
      refine XS.iloadN X0.here hx rfl (hb hby at_13) rfl ?_
      show Steps p.tables e below (s₁.setTop (mkF m 14 #[.val (.int q0), .val (.int q1), .val (.int q2), .val (.long q3), .second, .val (.int (0 : Int32)), .unset, .unset, .unset, .unset, .unset, .unset, .unset, .unset] [(.int q0)])) _
      refine XS.iconst X0.here hx rfl (hb hby at_14) ?_
      show Steps p.tables e below (s₁.setTop (mkF m 15 #[.val (.int q0), .val (.int q1), .val (.int q2), .val (.long q3), .second, .val (.int (0 : Int32)), .unset, .unset, .unset, .unset, .unset, .unset, .unset, .unset] [(.int (2 : Int32)), (.int q0)])) _
      refine XS.iand X0.here hx rfl (hb hby at_15) rfl ?_
      exact k
    by_cases c4 : (q0 &&& (2 : Int32)) = (0 : Int32)
    · obtain ⟨v5, hv5⟩ : ∃ z : Int32, z = ((q1 &&& (2147483647 : Int32)) % (33 : Int32)) := ⟨_, rfl⟩
      have pre6 : ∀ t, Steps p.tables e below (s₁.setTop (mkF m 50 #[.val (.int q0), .val (.int q1), .val (.int q2), .val (.long q3), .second, .val (.int (0 : Int32)), .val (.int (0 : Int32)), .val (.int (32 : Int32)), .unset, .unset, .unset, .unset, .unset, .unset] [(.int v5)])) t → Steps p.tables e below (s₁.setTop (entryFrame m #[(.int q0), (.int q1), (.int q2), (.long q3)] maxLocals)) t := by
        rw [hv5]
        intro t k
        refine pre3 t ?_
        show Steps p.tables e below (s₁.setTop (mkF m 16 #[.val (.int q0), .val (.int q1), .val (.int q2), .val (.long q3), .second, .val (.int (0 : Int32)), .unset, .unset, .unset, .unset, .unset, .unset, .unset, .unset] [(.int (q0 &&& (2 : Int32)))])) _
        refine XS.ifYes X0.here hx rfl (pc0 := 16) (pc' := 23) rfl (hb hby at_16) rfl ((if0 _ _).trans (teq c4).1) (by decide) (by decide) ?_
        show Steps p.tables e below (s₁.setTop (mkF m 23 #[.val (.int q0), .val (.int q1), .val (.int q2), .val (.long q3), .second, .val (.int (0 : Int32)), .unset, .unset, .unset, .unset, .unset, .unset, .unset, .unset] [])) _
        refine XS.iconst X0.here hx rfl (hb hby at_23) ?_
        show Steps p.tables e below (s₁.setTop (mkF m 24 #[.val (.int q0), .val (.int q1), .val (.int q2), .val (.long q3), .second, .val (.int (0 : Int32)), .unset, .unset, .unset, .unset, .unset, .unset, .unset, .unset] [(.int (0 : Int32))])) _
        refine XS.istore X0.here hx rfl (hb hby at_24) rfl (l' := #[.val (.int q0), .val (.int q1), .val (.int q2), .val (.long q3), .second, .val (.int (0 : Int32)), .val (.int (0 : Int32)), .unset, .unset, .unset, .unset, .unset, .unset, .unset]) rfl ?_
        show Steps p.tables e below (s₁.setTop (mkF m 26 #[.val (.int q0), .val (.int q1), .val (.int q2), .val (.long q3), .second, .val (.int (0 : Int32)), .val (.int (0 : Int32)), .unset, .unset, .unset, .unset, .unset, .unset, .unset] [])) _
        refine XS.iload X0.here hx rfl (hb hby at_26) rfl ?_
        show Steps p.tables e below (s₁.setTop (mkF m 28 #[.val (.int q0), .val (.int q1), .val (.int q2), .val (.long q3), .second, .val (.int (0 : Int32)), .val (.int (0 : Int32)), .unset, .unset, .unset, .unset, .unset, .unset, .unset] [(.int (0 : Int32))])) _
        refine XS.ifYes X0.here hx rfl (pc0 := 28) (pc' := 37) rfl (hb hby at_28) rfl (by decide) (by decide) (by decide) ?_
        show Steps p.tables e below (s₁.setTop (mkF m 37 #[.val (.int q0), .val (.int q1), .val (.int q2), .val (.long q3), .second, .val (.int (0 : Int32)), .val (.int (0 : Int32)), .unset, .unset, .unset, .unset, .unset, .unset, .unset] [])) _
        refine XS.bipush X0.here hx rfl (hb hby at_37) ?_
        show Steps p.tables e below (s₁.setTop (mkF m 39 #[.val (.int q0), .val (.int q1), .val (.int q2), .val (.long q3), .second, .val (.int (0 : Int32)), .val (.int (0 : Int32)), .unset, .unset, .unset, .unset, .unset, .unset, .unset] [(.int (32 : Int32))])) _
        refine XS.istore X0.here hx rfl (hb hby at_39) rfl (l' := #[.val (.int q0), .val (.int q1), .val (.int q2), .val (.long q3), .second, .val (.int (0 : Int32)), .val (.int (0 : Int32)), .val (.int (32 : Int32)), .unset, .unset, .unset, .unset, .unset, .unset]) rfl ?_
        show Steps p.tables e below (s₁.setTop (mkF m 41 #[.val (.int q0), .val (.int q1), .val (.int q2), .val (.long q3), .second, .val (.int (0 : Int32)), .val (.int (0 : Int32)), .val (.int (32 : Int32)), .unset, .unset, .unset, .unset, .unset, .unset] [])) _
        refine XS.iloadN X0.here hx rfl (hb hby at_41) rfl ?_
        show Steps p.tables e below (s₁.setTop (mkF m 42 #[.val (.int q0), .val (.int q1), .val (.int q2), .val (.long q3), .second, .val (.int (0 : Int32)), .val (.int (0 : Int32)), .val (.int (32 : Int32)), .unset, .unset, .unset, .unset, .unset, .unset] [(.int q1)])) _
        refine X0.ldcInt hx hown (mvT hZ (hw _ (List.mem_of_getElem? (i := 0) rfl))) (g := (mkF m 42 #[.val (.int q0), .val (.int q1), .val (.int q2), .val (.long q3), .second, .val (.int (0 : Int32)), .val (.int (0 : Int32)), .val (.int (32 : Int32)), .unset, .unset, .unset, .unset, .unset, .unset] [(.int q1)])) rfl (hb hby at_42) _ ?_
        show Steps p.tables e below (s₁.setTop (mkF m 44 #[.val (.int q0), .val (.int q1), .val (.int q2), .val (.long q3), .second, .val (.int (0 : Int32)), .val (.int (0 : Int32)), .val (.int (32 : Int32)), .unset, .unset, .unset, .unset, .unset, .unset] [(.int (2147483647 : Int32)), (.int q1)])) _
        refine XS.iand X0.here hx rfl (hb hby at_44) rfl ?_
        show Steps p.tables e below (s₁.setTop (mkF m 45 #[.val (.int q0), .val (.int q1), .val (.int q2), .val (.long q3), .second, .val (.int (0 : Int32)), .val (.int (0 : Int32)), .val (.int (32 : Int32)), .unset, .unset, .unset, .unset, .unset, .unset] [(.int (q1 &&& (2147483647 : Int32)))])) _
        refine XS.iload X0.here hx rfl (hb hby at_45) rfl ?_
        show Steps p.tables e below (s₁.setTop (mkF m 47 #[.val (.int q0), .val (.int q1), .val (.int q2), .val (.long q3), .second, .val (.int (0 : Int32)), .val (.int (0 : Int32)), .val (.int (32 : Int32)), .unset, .unset, .unset, .unset, .unset, .unset] [(.int (32 : Int32)), (.int (q1 &&& (2147483647 : Int32)))])) _
        refine XS.iconst X0.here hx rfl (hb hby at_47) ?_
        show Steps p.tables e below (s₁.setTop (mkF m 48 #[.val (.int q0), .val (.int q1), .val (.int q2), .val (.long q3), .second, .val (.int (0 : Int32)), .val (.int (0 : Int32)), .val (.int (32 : Int32)), .unset, .unset, .unset, .unset, .unset, .unset] [(.int (1 : Int32)), (.int (32 : Int32)), (.int (q1 &&& (2147483647 : Int32)))])) _
        refine XS.iadd X0.here hx rfl (hb hby at_48) rfl ?_
        show Steps p.tables e below (s₁.setTop (mkF m 49 #[.val (.int q0), .val (.int q1), .val (.int q2), .val (.long q3), .second, .val (.int (0 : Int32)), .val (.int (0 : Int32)), .val (.int (32 : Int32)), .unset, .unset, .unset, .unset, .unset, .unset] [(.int (33 : Int32)), (.int (q1 &&& (2147483647 : Int32)))])) _
        refine iremM X0 hx rfl (hb hby at_49) rfl (by decide) ?_
        exact k
      have nz_63_7 : ¬ ((((32 : Int32) - v5) + (1 : Int32)) = (0 : Int32)) := (own_nzT (by assumption) (by decide))
      obtain ⟨v8, hv8⟩ : ∃ z : Int32, z = ((q2 &&& (2147483647 : Int32)) % (((32 : Int32) - v5) + (1 : Int32))) := ⟨_, rfl⟩
      have pre9 : ∀ t, Steps p.tables e below (s₁.setTop (mkF m 64 #[.val (.int q0), .val (.int q1), .val (.int q2), .val (.long q3), .second, .val (.int (0 : Int32)), .val (.int (0 : Int32)), .val (.int (32 : Int32)), .val (.int v5), .unset, .unset, .unset, .unset, .unset] [(.int v8)])) t → Steps p.tables e below (s₁.setTop (entryFrame m #[(.int q0), (.int q1), (.int q2), (.long q3)] maxLocals)) t := by
        rw [hv8]
        intro t k
        refine pre6 t ?_
        show Steps p.tables e below (s₁.setTop (mkF m 50 #[.val (.int q0), .val (.int q1), .val (.int q2), .val (.long q3), .second, .val (.int (0 : Int32)), .val (.int (0 : Int32)), .val (.int (32 : Int32)), .unset, .unset, .unset, .unset, .unset, .unset] [(.int v5)])) _
        refine XS.istore X0.here hx rfl (hb hby at_50) rfl (l' := #[.val (.int q0), .val (.int q1), .val (.int q2), .val (.long q3), .second, .val (.int (0 : Int32)), .val (.int (0 : Int32)), .val (.int (32 : Int32)), .val (.int v5), .unset, .unset, .unset, .unset, .unset]) rfl ?_
        show Steps p.tables e below (s₁.setTop (mkF m 52 #[.val (.int q0), .val (.int q1), .val (.int q2), .val (.long q3), .second, .val (.int (0 : Int32)), .val (.int (0 : Int32)), .val (.int (32 : Int32)), .val (.int v5), .unset, .unset, .unset, .unset, .unset] [])) _
        refine XS.iloadN X0.here hx rfl (hb hby at_52) rfl ?_
        show Steps p.tables e below (s₁.setTop (mkF m 53 #[.val (.int q0), .val (.int q1), .val (.int q2), .val (.long q3), .second, .val (.int (0 : Int32)), .val (.int (0 : Int32)), .val (.int (32 : Int32)), .val (.int v5), .unset, .unset, .unset, .unset, .unset] [(.int q2)])) _
        refine X0.ldcInt hx hown (mvT hZ (hw _ (List.mem_of_getElem? (i := 0) rfl))) (g := (mkF m 53 #[.val (.int q0), .val (.int q1), .val (.int q2), .val (.long q3), .second, .val (.int (0 : Int32)), .val (.int (0 : Int32)), .val (.int (32 : Int32)), .val (.int v5), .unset, .unset, .unset, .unset, .unset] [(.int q2)])) rfl (hb hby at_53) _ ?_
        show Steps p.tables e below (s₁.setTop (mkF m 55 #[.val (.int q0), .val (.int q1), .val (.int q2), .val (.long q3), .second, .val (.int (0 : Int32)), .val (.int (0 : Int32)), .val (.int (32 : Int32)), .val (.int v5), .unset, .unset, .unset, .unset, .unset] [(.int (2147483647 : Int32)), (.int q2)])) _
        refine XS.iand X0.here hx rfl (hb hby at_55) rfl ?_
        show Steps p.tables e below (s₁.setTop (mkF m 56 #[.val (.int q0), .val (.int q1), .val (.int q2), .val (.long q3), .second, .val (.int (0 : Int32)), .val (.int (0 : Int32)), .val (.int (32 : Int32)), .val (.int v5), .unset, .unset, .unset, .unset, .unset] [(.int (q2 &&& (2147483647 : Int32)))])) _
        refine XS.iload X0.here hx rfl (hb hby at_56) rfl ?_
        show Steps p.tables e below (s₁.setTop (mkF m 58 #[.val (.int q0), .val (.int q1), .val (.int q2), .val (.long q3), .second, .val (.int (0 : Int32)), .val (.int (0 : Int32)), .val (.int (32 : Int32)), .val (.int v5), .unset, .unset, .unset, .unset, .unset] [(.int (32 : Int32)), (.int (q2 &&& (2147483647 : Int32)))])) _
        refine XS.iload X0.here hx rfl (hb hby at_58) rfl ?_
        show Steps p.tables e below (s₁.setTop (mkF m 60 #[.val (.int q0), .val (.int q1), .val (.int q2), .val (.long q3), .second, .val (.int (0 : Int32)), .val (.int (0 : Int32)), .val (.int (32 : Int32)), .val (.int v5), .unset, .unset, .unset, .unset, .unset] [(.int v5), (.int (32 : Int32)), (.int (q2 &&& (2147483647 : Int32)))])) _
        refine XS.isub X0.here hx rfl (hb hby at_60) rfl ?_
        show Steps p.tables e below (s₁.setTop (mkF m 61 #[.val (.int q0), .val (.int q1), .val (.int q2), .val (.long q3), .second, .val (.int (0 : Int32)), .val (.int (0 : Int32)), .val (.int (32 : Int32)), .val (.int v5), .unset, .unset, .unset, .unset, .unset] [(.int ((32 : Int32) - v5)), (.int (q2 &&& (2147483647 : Int32)))])) _
        refine XS.iconst X0.here hx rfl (hb hby at_61) ?_
        show Steps p.tables e below (s₁.setTop (mkF m 62 #[.val (.int q0), .val (.int q1), .val (.int q2), .val (.long q3), .second, .val (.int (0 : Int32)), .val (.int (0 : Int32)), .val (.int (32 : Int32)), .val (.int v5), .unset, .unset, .unset, .unset, .unset] [(.int (1 : Int32)), (.int ((32 : Int32) - v5)), (.int (q2 &&& (2147483647 : Int32)))])) _
        refine XS.iadd X0.here hx rfl (hb hby at_62) rfl ?_
        show Steps p.tables e below (s₁.setTop (mkF m 63 #[.val (.int q0), .val (.int q1), .val (.int q2), .val (.long q3), .second, .val (.int (0 : Int32)), .val (.int (0 : Int32)), .val (.int (32 : Int32)), .val (.int v5), .unset, .unset, .unset, .unset, .unset] [(.int (((32 : Int32) - v5) + (1 : Int32))), (.int (q2 &&& (2147483647 : Int32)))])) _
        refine iremM X0 hx rfl (hb hby at_63) rfl nz_63_7 ?_
        exact k
      obtain ⟨T10, h10, X10, e10, E10, A10, D10, -, st10⟩ := newO X0 hx hZ hown (hw _ (List.mem_of_getElem? (i := 1) rfl)) (hw _ (List.mem_of_getElem? (i := 2) rfl)) (hw _ (List.mem_of_getElem? (i := 3) rfl)) e0 (g := (mkF m 82 #[.val (.int q0), .val (.int q1), .val (.int q2), .val (.long q3), .second, .val (.int (0 : Int32)), .val (.int (0 : Int32)), .val (.int (32 : Int32)), .val (.int v5), .val (.int v8), .val (.int (-1 : Int32)), .unset, .unset, .unset] [])) rfl (hb hby at_82) (by decide) (by decide)
      obtain ⟨a10, g10⟩ : ∃ z, z = h0.size := ⟨_, rfl⟩
      rw [← g10] at A10 D10 st10
      have ge_a10 : n0 ≤ a10 := g10 ▸ Z0
      have sz10 : n0 ≤ h10.size := Nat.le_trans Z0 E10.1
      have F10_n0 : Fld Z h10 a10 "com/example/stillframe/stillframe/ccr/IpPrefix" "address" "[B" .null := D10 (Or.inr (hw _ (List.mem_of_getElem? (i := 12) rfl))) (ty := (.array .byte)) (by decide)
      have F10_n1 : Fld Z h10 a10 "com/example/stillframe/stillframe/ccr/IpPrefix" "length" "I" (.int (0 : Int32)) := D10 (Or.inr (hw _ (List.mem_of_getElem? (i := 14) rfl))) (ty := .int) (by decide)
      obtain ⟨T11, h11, cA11, X11, e11, E11, A11, st11⟩ := newP X10 hx hZ (aty := .byte) (hw _ (List.mem_of_getElem? (i := 4) rfl)) e10 (g := (mkF m 97 #[.val (.int q0), .val (.int q1), .val (.int q2), .val (.long q3), .second, .val (.int (0 : Int32)), .val (.int (0 : Int32)), .val (.int (32 : Int32)), .val (.int v5), .val (.int v8), .val (.int (-1 : Int32)), .unset, .unset, .unset] [(.int (4 : Int32)), (.ref a10), (.ref a10)])) rfl (hb hby at_97) rfl (by decide) (cap := 4) (by decide) (by decide) (by decide) (by decide)
      obtain ⟨a11, g11⟩ : ∃ z, z = h10.size := ⟨_, rfl⟩
      rw [← g11] at A11 st11
      have ne_a10_a11 : a10 ≠ a11 := g11 ▸ Nat.ne_of_lt A10.lt
      have ge_a11 : n0 ≤ a11 := g11 ▸ sz10
      have A11_a10 : Exa Z h11 a10 "com/example/stillframe/stillframe/ccr/IpPrefix" := A10.ext E11
      have F11_a10_0 : Fld Z h11 a10 "com/example/stillframe/stillframe/ccr/IpPrefix" "address" "[B" .null := F10_n0.ext E11
      have F11_a10_1 : Fld Z h11 a10 "com/example/stillframe/stillframe/ccr/IpPrefix" "length" "I" (.int (0 : Int32)) := F10_n1.ext E11
      have sz11 : n0 ≤ h11.size := Nat.le_trans sz10 E11.1
      have V11_n : own_AI Z h11 a11 .byte [(0 : Int32), (0 : Int32), (0 : Int32), (0 : Int32)] := own_AIbyte_new A11 (k := 4) (by decide)
      obtain ⟨_, _, ⟨T12, L12, k12, n12⟩, -, X12, ⟨Lc12, hQ12, l12, y12, z12⟩, st12⟩ := X11.specialBack hx (y := (⟨"com/example/stillframe/stillframe/ccr/IpPrefix", "<init>", "([BI)V"⟩ : MethodName)) rfl hown (mvT hZ (hw _ (List.mem_of_getElem? (i := 5) rfl))) (mvT hZ (hw _ (List.mem_of_getElem? (i := 6) rfl))) (mvT hZ (hw _ (List.mem_of_getElem? (i := 7) rfl))) (by decide) (backOf (W := 1) (rm1 l Z a0 hw [] a10 a11 v5  h11 n0 sz11 A11_a10 F11_a10_0 F11_a10_1 ge_a10 ) hZ (hw _ (List.mem_of_getElem? (i := 7) rfl)) (hw _ (List.mem_of_getElem? (i := 3) rfl)) (by decide) (by decide)) (g := (mkF m 101 #[.val (.int q0), .val (.int q1), .val (.int q2), .val (.long q3), .second, .val (.int (0 : Int32)), .val (.int (0 : Int32)), .val (.int (32 : Int32)), .val (.int v5), .val (.int v8), .val (.int (-1 : Int32)), .unset, .unset, .unset] [(.int v5), (.ref a11), (.ref a10), (.ref a10)])) rfl (by rw [hml]; rfl) (Steps.refl _) (a := a10) (argsL := [(.ref a11), (.int v5)]) (rest := [(.ref a10)]) (lenOf pd_8 rfl) rfl (by show 2 * 0 + _ ≤ _; exact Nat.le_of_eq rfl) (hb hby at_101) (fun _ _ => ⟨rfl, e11, (by decide : 2 + 0 ≤ _), (by decide : 6 + 0 ≤ _)⟩)
      dsimp only [Pt.U, Pt.locs, Pt.cells, Pt.slots] at X12 l12 y12 z12 st12 hQ12
      subst l12 y12 z12
      obtain ⟨rfl, N12q, K12, A12_o0, F12_o0, F12_o1⟩ := hQ12
      obtain ⟨h12, e12⟩ : ∃ z, T12.heap = z := ⟨_, rfl⟩
      rw [e12] at K12 A12_o0 F12_o0 F12_o1
      have V12_a11 : own_AI Z h12 a11 .byte [(0 : Int32), (0 : Int32), (0 : Int32), (0 : Int32)] := V11_n.keep K12 (ninS (Ne.symm ne_a10_a11) nin0)
      have A12_a10 : Exa Z h12 a10 "com/example/stillframe/stillframe/ccr/IpPrefix" := A11_a10.keep K12
      have sz12 : n0 ≤ h12.size := Nat.le_trans sz11 K12.1
      have N12 := Fr.app N0 N12q
      obtain ⟨T13, h13, X13, e13, E13, A13, D13, -, st13⟩ := newO X12 hx hZ hown (hw _ (List.mem_of_getElem? (i := 15) rfl)) (hw _ (List.mem_of_getElem? (i := 16) rfl)) (hw _ (List.mem_of_getElem? (i := 17) rfl)) e12 (g := (mkF m 106 #[.val (.int q0), .val (.int q1), .val (.int q2), .val (.long q3), .second, .val (.int (0 : Int32)), .val (.int (0 : Int32)), .val (.int (32 : Int32)), .val (.int v5), .val (.int v8), .val (.int (-1 : Int32)), .val (.ref a10), .unset, .unset] [])) rfl (hb hby at_106) (by decide) (by decide)
      obtain ⟨a13, g13⟩ : ∃ z, z = h12.size := ⟨_, rfl⟩
      rw [← g13] at A13 D13 st13
      have ne_a11_a13 : a11 ≠ a13 := g13 ▸ Nat.ne_of_lt V12_a11.lt
      have ne_a10_a13 : a10 ≠ a13 := g13 ▸ Nat.ne_of_lt A12_o0.lt
      have ge_a13 : n0 ≤ a13 := g13 ▸ sz12
      have V13_a11 : own_AI Z h13 a11 .byte [(0 : Int32), (0 : Int32), (0 : Int32), (0 : Int32)] := V12_a11.ext E13
      have A13_a10 : Exa Z h13 a10 "com/example/stillframe/stillframe/ccr/IpPrefix" := A12_o0.ext E13
      have F13_a10_0 : Fld Z h13 a10 "com/example/stillframe/stillframe/ccr/IpPrefix" "address" "[B" (.ref a11) := F12_o0.ext E13
      have F13_a10_1 : Fld Z h13 a10 "com/example/stillframe/stillframe/ccr/IpPrefix" "length" "I" (.int v5) := F12_o1.ext E13
      have sz13 : n0 ≤ h13.size := Nat.le_trans sz12 E13.1
      have F13_n0 : Fld Z h13 a13 "com/example/stillframe/stillframe/ccr/RoaPayload" "asn" "J" (.long (0 : Int64)) := D13 (Or.inr (hw _ (List.mem_of_getElem? (i := 24) rfl))) (ty := .long) (by decide)
      have F13_n1 : Fld Z h13 a13 "com/example/stillframe/stillframe/ccr/RoaPayload" "prefix" "Lcom/example/stillframe/stillframe/ccr/IpPrefix;" .null := D13 (Or.inr (hw _ (List.mem_of_getElem? (i := 26) rfl))) (ty := (.object "com/example/stillframe/stillframe/ccr/IpPrefix")) (by decide)
      have F13_n2 : Fld Z h13 a13 "com/example/stillframe/stillframe/ccr/RoaPayload" "maxLength" "I" (.int (0 : Int32)) := D13 (Or.inr (hw _ (List.mem_of_getElem? (i := 28) rfl))) (ty := .int) (by decide)
      obtain ⟨_, _, ⟨T14, L14, k14, n14⟩, -, X14, ⟨Lc14, hQ14, l14, y14, z14⟩, st14⟩ := X13.specialBack hx (y := (⟨"com/example/stillframe/stillframe/ccr/RoaPayload", "<init>", "(JLcom/example/stillframe/stillframe/ccr/IpPrefix;I)V"⟩ : MethodName)) rfl hown (mvT hZ (hw _ (List.mem_of_getElem? (i := 19) rfl))) (mvT hZ (hw _ (List.mem_of_getElem? (i := 20) rfl))) (mvT hZ (hw _ (List.mem_of_getElem? (i := 21) rfl))) (by decide) (backOf (W := 1) (rm3 l Z a0 hw [] a13 (q3 &&& (4294967295 : Int64)) a10 (-1 : Int32)  h13 n0 sz13 A13 F13_n0 F13_n1 F13_n2 ge_a13 ) hZ (hw _ (List.mem_of_getElem? (i := 21) rfl)) (hw _ (List.mem_of_getElem? (i := 17) rfl)) (by decide) (by decide)) (g := (mkF m 119 #[.val (.int q0), .val (.int q1), .val (.int q2), .val (.long q3), .second, .val (.int (0 : Int32)), .val (.int (0 : Int32)), .val (.int (32 : Int32)), .val (.int v5), .val (.int v8), .val (.int (-1 : Int32)), .val (.ref a10), .unset, .unset] [(.int (-1 : Int32)), (.ref a10), (.long (q3 &&& (4294967295 : Int64))), (.ref a13), (.ref a13)])) rfl (by rw [hml]; rfl) (Steps.refl _) (a := a13) (argsL := [(.long (q3 &&& (4294967295 : Int64))), (.ref a10), (.int (-1 : Int32))]) (rest := [(.ref a13)]) (lenOf pd_9 rfl) rfl (by show 2 * 0 + _ ≤ _; exact Nat.le_of_eq rfl) (hb hby at_119) (fun _ _ => ⟨rfl, e13, (by decide : 3 + 0 ≤ _), (by decide : 9 + 0 ≤ _)⟩)
      dsimp only [Pt.U, Pt.locs, Pt.cells, Pt.slots] at X14 l14 y14 z14 st14 hQ14
      subst l14 y14 z14
      obtain ⟨rfl, N14q, K14, A14_o0, F14_o0, F14_o1, F14_o2⟩ := hQ14
      obtain ⟨h14, e14⟩ : ∃ z, T14.heap = z := ⟨_, rfl⟩
      rw [e14] at K14 A14_o0 F14_o0 F14_o1 F14_o2
      have V14_a11 : own_AI Z h14 a11 .byte [(0 : Int32), (0 : Int32), (0 : Int32), (0 : Int32)] := V13_a11.keep K14 (ninS ne_a11_a13 nin0)
      have A14_a10 : Exa Z h14 a10 "com/example/stillframe/stillframe/ccr/IpPrefix" := A13_a10.keep K14
      have F14_a10_0 : Fld Z h14 a10 "com/example/stillframe/stillframe/ccr/IpPrefix" "address" "[B" (.ref a11) := F13_a10_0.keep K14 (ninS ne_a10_a13 nin0)
      have F14_a10_1 : Fld Z h14 a10 "com/example/stillframe/stillframe/ccr/IpPrefix" "length" "I" (.int v5) := F13_a10_1.keep K14 (ninS ne_a10_a13 nin0)
      have A14_a13 : Exa Z h14 a13 "com/example/stillframe/stillframe/ccr/RoaPayload" := A13.keep K14
      have sz14 : n0 ≤ h14.size := Nat.le_trans sz13 K14.1
      have N14 := Fr.app N12 N14q
      obtain ⟨cq15, kq15, q15a, q15b, q15c⟩ := isOf hZ e14 A14_o0
      obtain ⟨_, _, ⟨T15, L15, k15, n15⟩, -, X15, ⟨Lc15, hQ15, l15, y15, z15⟩, st15⟩ := X14.virtualBack hx (y := (⟨"com/example/stillframe/stillframe/ccr/RoaPayload", "redundantMaxLength", "()Z"⟩ : MethodName)) (z := (⟨"com/example/stillframe/stillframe/ccr/RoaPayload", "redundantMaxLength", "()Z"⟩ : MethodName)) hown (mvT hZ (hw _ (List.mem_of_getElem? (i := 29) rfl))) (mvT hZ (hw _ (List.mem_of_getElem? (i := 30) rfl))) (notFace_of_selects (args := #[]) (mvT hZ (hw _ (List.mem_of_getElem? (i := 32) rfl)))) (mvT hZ (hw _ (List.mem_of_getElem? (i := 32) rfl))) (mvT hZ (hw _ (List.mem_of_getElem? (i := 31) rfl))) (by decide) (backOf (W := 0) (rm4 l Z a0 hw [] a13 a10 ((-1 : Int32)) v5 h14 n0 sz14 A14_o0 A14_a10 F14_o1 F14_o2 F14_a10_1 ) hZ (hw _ (List.mem_of_getElem? (i := 33) rfl)) (hw _ (List.mem_of_getElem? (i := 17) rfl)) (by decide) (by decide)) q15a q15c (g := (mkF m 143 #[.val (.int q0), .val (.int q1), .val (.int q2), .val (.long q3), .second, .val (.int (0 : Int32)), .val (.int (0 : Int32)), .val (.int (32 : Int32)), .val (.int v5), .val (.int v8), .val (.int (-1 : Int32)), .val (.ref a10), .val (.ref a13), .val (.int (0 : Int32))] [(.ref a13)])) rfl (by rw [hml]; rfl) (Steps.refl _) (argsL := []) (rest := []) (lenOf pd_10 rfl) rfl (by show 2 * 0 + _ ≤ _; exact Nat.le_of_eq rfl) (hb hby at_143) (fun _ _ => ⟨rfl, e14, (by decide : 3 + 0 ≤ _), (by decide : 9 + 0 ≤ _)⟩)
      dsimp only [Pt.U, Pt.locs, Pt.cells, Pt.slots] at X15 l15 y15 z15 st15 hQ15
      subst l15 y15 z15
      obtain ⟨rfl, N15q, e15⟩ := hQ15
      have N15 := Fr.app N14 N15q
      have pre16 : ∀ t, Steps p.tables e below (T15.setTop (mkF m 148 #[.val (.int q0), .val (.int q1), .val (.int q2), .val (.long q3), .second, .val (.int (0 : Int32)), .val (.int (0 : Int32)), .val (.int (32 : Int32)), .val (.int v5), .val (.int v8), .val (.int (-1 : Int32)), .val (.ref a10), .val (.ref a13), .val (.int (0 : Int32))] [(.int (0 : Int32)), (.int (own_f4  ((-1 : Int32)) v5))])) t → Steps p.tables e below (s₁.setTop (entryFrame m #[(.int q0), (.int q1), (.int q2), (.long q3)] maxLocals)) t := by
        intro t k
        refine pre9 t ?_
        show Steps p.tables e below (s₁.setTop (mkF m 64 #[.val (.int q0), .val (.int q1), .val (.int q2), .val (.long q3), .second, .val (.int (0 : Int32)), .val (.int (0 : Int32)), .val (.int (32 : Int32)), .val (.int v5), .unset, .unset, .unset, .unset, .unset] [(.int v8)])) _
        refine XS.istore X0.here hx rfl (hb hby at_64) rfl (l' := #[.val (.int q0), .val (.int q1), .val (.int q2), .val (.long q3), .second, .val (.int (0 : Int32)), .val (.int (0 : Int32)), .val (.int (32 : Int32)), .val (.int v5), .val (.int v8), .unset, .unset, .unset, .unset]) rfl ?_
        show Steps p.tables e below (s₁.setTop (mkF m 66 #[.val (.int q0), .val (.int q1), .val (.int q2), .val (.long q3), .second, .val (.int (0 : Int32)), .val (.int (0 : Int32)), .val (.int (32 : Int32)), .val (.int v5), .val (.int v8), .unset, .unset, .unset, .unset] [])) _
        refine XS.iload X0.here hx rfl (hb hby at_66) rfl ?_
        show Steps p.tables e below (s₁.setTop (mkF m 68 #[.val (.int q0), .val (.int q1), .val (.int q2), .val (.long q3), .second, .val (.int (0 : Int32)), .val (.int (0 : Int32)), .val (.int (32 : Int32)), .val (.int v5), .val (.int v8), .unset, .unset, .unset, .unset] [(.int (0 : Int32))])) _
        refine XS.ifYes X0.here hx rfl (pc0 := 68) (pc' := 79) rfl (hb hby at_68) rfl (by decide) (by decide) (by decide) ?_
        show Steps p.tables e below (s₁.setTop (mkF m 79 #[.val (.int q0), .val (.int q1), .val (.int q2), .val (.long q3), .second, .val (.int (0 : Int32)), .val (.int (0 : Int32)), .val (.int (32 : Int32)), .val (.int v5), .val (.int v8), .unset, .unset, .unset, .unset] [])) _
        refine XS.iconst X0.here hx rfl (hb hby at_79) ?_
        show Steps p.tables e below (s₁.setTop (mkF m 80 #[.val (.int q0), .val (.int q1), .val (.int q2), .val (.long q3), .second, .val (.int (0 : Int32)), .val (.int (0 : Int32)), .val (.int (32 : Int32)), .val (.int v5), .val (.int v8), .unset, .unset, .unset, .unset] [(.int (-1 : Int32))])) _
        refine XS.istore X0.here hx rfl (hb hby at_80) rfl (l' := #[.val (.int q0), .val (.int q1), .val (.int q2), .val (.long q3), .second, .val (.int (0 : Int32)), .val (.int (0 : Int32)), .val (.int (32 : Int32)), .val (.int v5), .val (.int v8), .val (.int (-1 : Int32)), .unset, .unset, .unset]) rfl ?_
        show Steps p.tables e below (s₁.setTop (mkF m 82 #[.val (.int q0), .val (.int q1), .val (.int q2), .val (.long q3), .second, .val (.int (0 : Int32)), .val (.int (0 : Int32)), .val (.int (32 : Int32)), .val (.int v5), .val (.int v8), .val (.int (-1 : Int32)), .unset, .unset, .unset] [])) _
        refine st10 _ ?_
        show Steps p.tables e below (T10.setTop (mkF m 85 #[.val (.int q0), .val (.int q1), .val (.int q2), .val (.long q3), .second, .val (.int (0 : Int32)), .val (.int (0 : Int32)), .val (.int (32 : Int32)), .val (.int v5), .val (.int v8), .val (.int (-1 : Int32)), .unset, .unset, .unset] [(.ref a10)])) _
        refine XS.dup X10.here hx rfl (hb hby at_85) rfl rfl ?_
        show Steps p.tables e below (T10.setTop (mkF m 86 #[.val (.int q0), .val (.int q1), .val (.int q2), .val (.long q3), .second, .val (.int (0 : Int32)), .val (.int (0 : Int32)), .val (.int (32 : Int32)), .val (.int v5), .val (.int v8), .val (.int (-1 : Int32)), .unset, .unset, .unset] [(.ref a10), (.ref a10)])) _
        refine XS.iload X10.here hx rfl (hb hby at_86) rfl ?_
        show Steps p.tables e below (T10.setTop (mkF m 88 #[.val (.int q0), .val (.int q1), .val (.int q2), .val (.long q3), .second, .val (.int (0 : Int32)), .val (.int (0 : Int32)), .val (.int (32 : Int32)), .val (.int v5), .val (.int v8), .val (.int (-1 : Int32)), .unset, .unset, .unset] [(.int (0 : Int32)), (.ref a10), (.ref a10)])) _
        refine XS.ifYes X10.here hx rfl (pc0 := 88) (pc' := 96) rfl (hb hby at_88) rfl (by decide) (by decide) (by decide) ?_
        show Steps p.tables e below (T10.setTop (mkF m 96 #[.val (.int q0), .val (.int q1), .val (.int q2), .val (.long q3), .second, .val (.int (0 : Int32)), .val (.int (0 : Int32)), .val (.int (32 : Int32)), .val (.int v5), .val (.int v8), .val (.int (-1 : Int32)), .unset, .unset, .unset] [(.ref a10), (.ref a10)])) _
        refine XS.iconst X10.here hx rfl (hb hby at_96) ?_
        show Steps p.tables e below (T10.setTop (mkF m 97 #[.val (.int q0), .val (.int q1), .val (.int q2), .val (.long q3), .second, .val (.int (0 : Int32)), .val (.int (0 : Int32)), .val (.int (32 : Int32)), .val (.int v5), .val (.int v8), .val (.int (-1 : Int32)), .unset, .unset, .unset] [(.int (4 : Int32)), (.ref a10), (.ref a10)])) _
        refine st11 _ ?_
        show Steps p.tables e below (T11.setTop (mkF m 99 #[.val (.int q0), .val (.int q1), .val (.int q2), .val (.long q3), .second, .val (.int (0 : Int32)), .val (.int (0 : Int32)), .val (.int (32 : Int32)), .val (.int v5), .val (.int v8), .val (.int (-1 : Int32)), .unset, .unset, .unset] [(.ref a11), (.ref a10), (.ref a10)])) _
        refine XS.iload X11.here hx rfl (hb hby at_99) rfl ?_
        show Steps p.tables e below (T11.setTop (mkF m 101 #[.val (.int q0), .val (.int q1), .val (.int q2), .val (.long q3), .second, .val (.int (0 : Int32)), .val (.int (0 : Int32)), .val (.int (32 : Int32)), .val (.int v5), .val (.int v8), .val (.int (-1 : Int32)), .unset, .unset, .unset] [(.int v5), (.ref a11), (.ref a10), (.ref a10)])) _
        refine st12.trans ?_
        show Steps p.tables e below (T12.setTop (mkF m 104 #[.val (.int q0), .val (.int q1), .val (.int q2), .val (.long q3), .second, .val (.int (0 : Int32)), .val (.int (0 : Int32)), .val (.int (32 : Int32)), .val (.int v5), .val (.int v8), .val (.int (-1 : Int32)), .unset, .unset, .unset] [(.ref a10)])) _
        refine XS.astore X12.here hx rfl (hb hby at_104) rfl rfl (l' := #[.val (.int q0), .val (.int q1), .val (.int q2), .val (.long q3), .second, .val (.int (0 : Int32)), .val (.int (0 : Int32)), .val (.int (32 : Int32)), .val (.int v5), .val (.int v8), .val (.int (-1 : Int32)), .val (.ref a10), .unset, .unset]) rfl ?_
        show Steps p.tables e below (T12.setTop (mkF m 106 #[.val (.int q0), .val (.int q1), .val (.int q2), .val (.long q3), .second, .val (.int (0 : Int32)), .val (.int (0 : Int32)), .val (.int (32 : Int32)), .val (.int v5), .val (.int v8), .val (.int (-1 : Int32)), .val (.ref a10), .unset, .unset] [])) _
        refine st13 _ ?_
        show Steps p.tables e below (T13.setTop (mkF m 109 #[.val (.int q0), .val (.int q1), .val (.int q2), .val (.long q3), .second, .val (.int (0 : Int32)), .val (.int (0 : Int32)), .val (.int (32 : Int32)), .val (.int v5), .val (.int v8), .val (.int (-1 : Int32)), .val (.ref a10), .unset, .unset] [(.ref a13)])) _
        refine XS.dup X13.here hx rfl (hb hby at_109) rfl rfl ?_
        show Steps p.tables e below (T13.setTop (mkF m 110 #[.val (.int q0), .val (.int q1), .val (.int q2), .val (.long q3), .second, .val (.int (0 : Int32)), .val (.int (0 : Int32)), .val (.int (32 : Int32)), .val (.int v5), .val (.int v8), .val (.int (-1 : Int32)), .val (.ref a10), .unset, .unset] [(.ref a13), (.ref a13)])) _
        refine XS.lloadN X13.here hx rfl (hb hby at_110) rfl ?_
        show Steps p.tables e below (T13.setTop (mkF m 111 #[.val (.int q0), .val (.int q1), .val (.int q2), .val (.long q3), .second, .val (.int (0 : Int32)), .val (.int (0 : Int32)), .val (.int (32 : Int32)), .val (.int v5), .val (.int v8), .val (.int (-1 : Int32)), .val (.ref a10), .unset, .unset] [(.long q3), (.ref a13), (.ref a13)])) _
        refine X13.ldc2Long hx hown (mvT hZ (hw _ (List.mem_of_getElem? (i := 18) rfl))) (g := (mkF m 111 #[.val (.int q0), .val (.int q1), .val (.int q2), .val (.long q3), .second, .val (.int (0 : Int32)), .val (.int (0 : Int32)), .val (.int (32 : Int32)), .val (.int v5), .val (.int v8), .val (.int (-1 : Int32)), .val (.ref a10), .unset, .unset] [(.long q3), (.ref a13), (.ref a13)])) rfl (hb hby at_111) _ ?_
        show Steps p.tables e below (T13.setTop (mkF m 114 #[.val (.int q0), .val (.int q1), .val (.int q2), .val (.long q3), .second, .val (.int (0 : Int32)), .val (.int (0 : Int32)), .val (.int (32 : Int32)), .val (.int v5), .val (.int v8), .val (.int (-1 : Int32)), .val (.ref a10), .unset, .unset] [(.long (4294967295 : Int64)), (.long q3), (.ref a13), (.ref a13)])) _
        refine XS.land X13.here hx rfl (hb hby at_114) rfl ?_
        show Steps p.tables e below (T13.setTop (mkF m 115 #[.val (.int q0), .val (.int q1), .val (.int q2), .val (.long q3), .second, .val (.int (0 : Int32)), .val (.int (0 : Int32)), .val (.int (32 : Int32)), .val (.int v5), .val (.int v8), .val (.int (-1 : Int32)), .val (.ref a10), .unset, .unset] [(.long (q3 &&& (4294967295 : Int64))), (.ref a13), (.ref a13)])) _
        refine XS.aload X13.here hx rfl (hb hby at_115) rfl rfl ?_
        show Steps p.tables e below (T13.setTop (mkF m 117 #[.val (.int q0), .val (.int q1), .val (.int q2), .val (.long q3), .second, .val (.int (0 : Int32)), .val (.int (0 : Int32)), .val (.int (32 : Int32)), .val (.int v5), .val (.int v8), .val (.int (-1 : Int32)), .val (.ref a10), .unset, .unset] [(.ref a10), (.long (q3 &&& (4294967295 : Int64))), (.ref a13), (.ref a13)])) _
        refine XS.iload X13.here hx rfl (hb hby at_117) rfl ?_
        show Steps p.tables e below (T13.setTop (mkF m 119 #[.val (.int q0), .val (.int q1), .val (.int q2), .val (.long q3), .second, .val (.int (0 : Int32)), .val (.int (0 : Int32)), .val (.int (32 : Int32)), .val (.int v5), .val (.int v8), .val (.int (-1 : Int32)), .val (.ref a10), .unset, .unset] [(.int (-1 : Int32)), (.ref a10), (.long (q3 &&& (4294967295 : Int64))), (.ref a13), (.ref a13)])) _
        refine st14.trans ?_
        show Steps p.tables e below (T14.setTop (mkF m 122 #[.val (.int q0), .val (.int q1), .val (.int q2), .val (.long q3), .second, .val (.int (0 : Int32)), .val (.int (0 : Int32)), .val (.int (32 : Int32)), .val (.int v5), .val (.int v8), .val (.int (-1 : Int32)), .val (.ref a10), .unset, .unset] [(.ref a13)])) _
        refine XS.astore X14.here hx rfl (hb hby at_122) rfl rfl (l' := #[.val (.int q0), .val (.int q1), .val (.int q2), .val (.long q3), .second, .val (.int (0 : Int32)), .val (.int (0 : Int32)), .val (.int (32 : Int32)), .val (.int v5), .val (.int v8), .val (.int (-1 : Int32)), .val (.ref a10), .val (.ref a13), .unset]) rfl ?_
        show Steps p.tables e below (T14.setTop (mkF m 124 #[.val (.int q0), .val (.int q1), .val (.int q2), .val (.long q3), .second, .val (.int (0 : Int32)), .val (.int (0 : Int32)), .val (.int (32 : Int32)), .val (.int v5), .val (.int v8), .val (.int (-1 : Int32)), .val (.ref a10), .val (.ref a13), .unset] [])) _
        refine XS.iload X14.here hx rfl (hb hby at_124) rfl ?_
        show Steps p.tables e below (T14.setTop (mkF m 126 #[.val (.int q0), .val (.int q1), .val (.int q2), .val (.long q3), .second, .val (.int (0 : Int32)), .val (.int (0 : Int32)), .val (.int (32 : Int32)), .val (.int v5), .val (.int v8), .val (.int (-1 : Int32)), .val (.ref a10), .val (.ref a13), .unset] [(.int (0 : Int32))])) _
        refine XS.ifYes X14.here hx rfl (pc0 := 126) (pc' := 138) rfl (hb hby at_126) rfl (by decide) (by decide) (by decide) ?_
        show Steps p.tables e below (T14.setTop (mkF m 138 #[.val (.int q0), .val (.int q1), .val (.int q2), .val (.long q3), .second, .val (.int (0 : Int32)), .val (.int (0 : Int32)), .val (.int (32 : Int32)), .val (.int v5), .val (.int v8), .val (.int (-1 : Int32)), .val (.ref a10), .val (.ref a13), .unset] [])) _
        refine XS.iconst X14.here hx rfl (hb hby at_138) ?_
        show Steps p.tables e below (T14.setTop (mkF m 139 #[.val (.int q0), .val (.int q1), .val (.int q2), .val (.long q3), .second, .val (.int (0 : Int32)), .val (.int (0 : Int32)), .val (.int (32 : Int32)), .val (.int v5), .val (.int v8), .val (.int (-1 : Int32)), .val (.ref a10), .val (.ref a13), .unset] [(.int (0 : Int32))])) _
        refine XS.istore X14.here hx rfl (hb hby at_139) rfl (l' := #[.val (.int q0), .val (.int q1), .val (.int q2), .val (.long q3), .second, .val (.int (0 : Int32)), .val (.int (0 : Int32)), .val (.int (32 : Int32)), .val (.int v5), .val (.int v8), .val (.int (-1 : Int32)), .val (.ref a10), .val (.ref a13), .val (.int (0 : Int32))]) rfl ?_
        show Steps p.tables e below (T14.setTop (mkF m 141 #[.val (.int q0), .val (.int q1), .val (.int q2), .val (.long q3), .second, .val (.int (0 : Int32)), .val (.int (0 : Int32)), .val (.int (32 : Int32)), .val (.int v5), .val (.int v8), .val (.int (-1 : Int32)), .val (.ref a10), .val (.ref a13), .val (.int (0 : Int32))] [])) _
        refine XS.aload X14.here hx rfl (hb hby at_141) rfl rfl ?_
        show Steps p.tables e below (T14.setTop (mkF m 143 #[.val (.int q0), .val (.int q1), .val (.int q2), .val (.long q3), .second, .val (.int (0 : Int32)), .val (.int (0 : Int32)), .val (.int (32 : Int32)), .val (.int v5), .val (.int v8), .val (.int (-1 : Int32)), .val (.ref a10), .val (.ref a13), .val (.int (0 : Int32))] [(.ref a13)])) _
        refine st15.trans ?_
        show Steps p.tables e below (T15.setTop (mkF m 146 #[.val (.int q0), .val (.int q1), .val (.int q2), .val (.long q3), .second, .val (.int (0 : Int32)), .val (.int (0 : Int32)), .val (.int (32 : Int32)), .val (.int v5), .val (.int v8), .val (.int (-1 : Int32)), .val (.ref a10), .val (.ref a13), .val (.int (0 : Int32))] [(.int (own_f4  ((-1 : Int32)) v5))])) _
        refine XS.iload X15.here hx rfl (hb hby at_146) rfl ?_
        exact k
      by_cases c17 : (own_f4  ((-1 : Int32)) v5) = (0 : Int32)
      · obtain ⟨fs, hr, hrun, hended, hW, hsame⟩ := X15.leave (v := some (.int (1 : Int32))) (fun h => by rw [Bd.returns] at h; cases h) hlk
        refine ⟨_, _, pre16 _ ?_, hrun, hended, _, _, rfl, ?_, ⟨_, rfl⟩, hW, hsame.mono (by decide) (by decide)⟩
        · show Steps p.tables e below (T15.setTop (mkF m 148 #[.val (.int q0), .val (.int q1), .val (.int q2), .val (.long q3), .second, .val (.int (0 : Int32)), .val (.int (0 : Int32)), .val (.int (32 : Int32)), .val (.int v5), .val (.int v8), .val (.int (-1 : Int32)), .val (.ref a10), .val (.ref a13), .val (.int (0 : Int32))] [(.int (0 : Int32)), (.int (own_f4  ((-1 : Int32)) v5))])) _
          refine XS.icmpNo X15.here hx rfl (hb hby at_148) rfl ((teq c17).2) ?_
          show Steps p.tables e below (T15.setTop (mkF m 151 #[.val (.int q0), .val (.int q1), .val (.int q2), .val (.long q3), .second, .val (.int (0 : Int32)), .val (.int (0 : Int32)), .val (.int (32 : Int32)), .val (.int v5), .val (.int v8), .val (.int (-1 : Int32)), .val (.ref a10), .val (.ref a13), .val (.int (0 : Int32))] [])) _
          refine XS.iconst X15.here hx rfl (hb hby at_151) ?_
          show Steps p.tables e below (T15.setTop (mkF m 152 #[.val (.int q0), .val (.int q1), .val (.int q2), .val (.long q3), .second, .val (.int (0 : Int32)), .val (.int (0 : Int32)), .val (.int (32 : Int32)), .val (.int v5), .val (.int v8), .val (.int (-1 : Int32)), .val (.ref a10), .val (.ref a13), .val (.int (0 : Int32))] [(.int (1 : Int32))])) _
          refine XS.goto X15.here hx rfl (pc0 := 152) (pc' := 156) rfl (hb hby at_152) (by decide) (by decide) ?_
          show Steps p.tables e below (T15.setTop (mkF m 156 #[.val (.int q0), .val (.int q1), .val (.int q2), .val (.long q3), .second, .val (.int (0 : Int32)), .val (.int (0 : Int32)), .val (.int (32 : Int32)), .val (.int v5), .val (.int v8), .val (.int (-1 : Int32)), .val (.ref a10), .val (.ref a13), .val (.int (0 : Int32))] [(.int (1 : Int32))])) _
          exact retN X15 hx (t := .boolean) Bd.returns (by simp) (hb hby at_156) hr
        · show Q0 Z q0 q1 q2 q3 h0 n0 _ T15.heap _
          rw [e15]
          exact ⟨by have w_hv8 := hv8.symm; subst w_hv8; have w_hv5 := hv5.symm; subst w_hv5; simp only [own_f0, if_pos c2, if_pos c4, if_pos c17], N15⟩
      · obtain ⟨fs, hr, hrun, hended, hW, hsame⟩ := X15.leave (v := some (.int (0 : Int32))) (fun h => by rw [Bd.returns] at h; cases h) hlk
        refine ⟨_, _, pre16 _ ?_, hrun, hended, _, _, rfl, ?_, ⟨_, rfl⟩, hW, hsame.mono (by decide) (by decide)⟩
        · show Steps p.tables e below (T15.setTop (mkF m 148 #[.val (.int q0), .val (.int q1), .val (.int q2), .val (.long q3), .second, .val (.int (0 : Int32)), .val (.int (0 : Int32)), .val (.int (32 : Int32)), .val (.int v5), .val (.int v8), .val (.int (-1 : Int32)), .val (.ref a10), .val (.ref a13), .val (.int (0 : Int32))] [(.int (0 : Int32)), (.int (own_f4  ((-1 : Int32)) v5))])) _
          refine XS.icmpYes X15.here hx rfl (pc0 := 148) (pc' := 155) rfl (hb hby at_148) rfl ((feq c17).2) (by decide) (by decide) ?_
          show Steps p.tables e below (T15.setTop (mkF m 155 #[.val (.int q0), .val (.int q1), .val (.int q2), .val (.long q3), .second, .val (.int (0 : Int32)), .val (.int (0 : Int32)), .val (.int (32 : Int32)), .val (.int v5), .val (.int v8), .val (.int (-1 : Int32)), .val (.ref a10), .val (.ref a13), .val (.int (0 : Int32))] [])) _
          refine XS.iconst X15.here hx rfl (hb hby at_155) ?_
          show Steps p.tables e below (T15.setTop (mkF m 156 #[.val (.int q0), .val (.int q1), .val (.int q2), .val (.long q3), .second, .val (.int (0 : Int32)), .val (.int (0 : Int32)), .val (.int (32 : Int32)), .val (.int v5), .val (.int v8), .val (.int (-1 : Int32)), .val (.ref a10), .val (.ref a13), .val (.int (0 : Int32))] [(.int (0 : Int32))])) _
          exact retN X15 hx (t := .boolean) Bd.returns (by simp) (hb hby at_156) hr
        · show Q0 Z q0 q1 q2 q3 h0 n0 _ T15.heap _
          rw [e15]
          exact ⟨by have w_hv8 := hv8.symm; subst w_hv8; have w_hv5 := hv5.symm; subst w_hv5; simp only [own_f0, if_pos c2, if_pos c4, if_neg c17], N15⟩
    · obtain ⟨v18, hv18⟩ : ∃ z : Int32, z = ((q1 &&& (2147483647 : Int32)) % (33 : Int32)) := ⟨_, rfl⟩
      have pre19 : ∀ t, Steps p.tables e below (s₁.setTop (mkF m 50 #[.val (.int q0), .val (.int q1), .val (.int q2), .val (.long q3), .second, .val (.int (0 : Int32)), .val (.int (1 : Int32)), .val (.int (32 : Int32)), .unset, .unset, .unset, .unset, .unset, .unset] [(.int v18)])) t → Steps p.tables e below (s₁.setTop (entryFrame m #[(.int q0), (.int q1), (.int q2), (.long q3)] maxLocals)) t := by
        rw [hv18]
        intro t k
        refine pre3 t ?_
        show Steps p.tables e below (s₁.setTop (mkF m 16 #[.val (.int q0), .val (.int q1), .val (.int q2), .val (.long q3), .second, .val (.int (0 : Int32)), .unset, .unset, .unset, .unset, .unset, .unset, .unset, .unset] [(.int (q0 &&& (2 : Int32)))])) _
        refine XS.ifNo X0.here hx rfl (hb hby at_16) rfl ((if0 _ _).trans (feq c4).1) ?_
        show Steps p.tables e below (s₁.setTop (mkF m 19 #[.val (.int q0), .val (.int q1), .val (.int q2), .val (.long q3), .second, .val (.int (0 : Int32)), .unset, .unset, .unset, .unset, .unset, .unset, .unset, .unset] [])) _
        refine XS.iconst X0.here hx rfl (hb hby at_19) ?_
        show Steps p.tables e below (s₁.setTop (mkF m 20 #[.val (.int q0), .val (.int q1), .val (.int q2), .val (.long q3), .second, .val (.int (0 : Int32)), .unset, .unset, .unset, .unset, .unset, .unset, .unset, .unset] [(.int (1 : Int32))])) _
        refine XS.goto X0.here hx rfl (pc0 := 20) (pc' := 24) rfl (hb hby at_20) (by decide) (by decide) ?_
        show Steps p.tables e below (s₁.setTop (mkF m 24 #[.val (.int q0), .val (.int q1), .val (.int q2), .val (.long q3), .second, .val (.int (0 : Int32)), .unset, .unset, .unset, .unset, .unset, .unset, .unset, .unset] [(.int (1 : Int32))])) _
        refine XS.istore X0.here hx rfl (hb hby at_24) rfl (l' := #[.val (.int q0), .val (.int q1), .val (.int q2), .val (.long q3), .second, .val (.int (0 : Int32)), .val (.int (1 : Int32)), .unset, .unset, .unset, .unset, .unset, .unset, .unset]) rfl ?_
        show Steps p.tables e below (s₁.setTop (mkF m 26 #[.val (.int q0), .val (.int q1), .val (.int q2), .val (.long q3), .second, .val (.int (0 : Int32)), .val (.int (1 : Int32)), .unset, .unset, .unset, .unset, .unset, .unset, .unset] [])) _
        refine XS.iload X0.here hx rfl (hb hby at_26) rfl ?_
        show Steps p.tables e below (s₁.setTop (mkF m 28 #[.val (.int q0), .val (.int q1), .val (.int q2), .val (.long q3), .second, .val (.int (0 : Int32)), .val (.int (1 : Int32)), .unset, .unset, .unset, .unset, .unset, .unset, .unset] [(.int (0 : Int32))])) _
        refine XS.ifYes X0.here hx rfl (pc0 := 28) (pc' := 37) rfl (hb hby at_28) rfl (by decide) (by decide) (by decide) ?_
        show Steps p.tables e below (s₁.setTop (mkF m 37 #[.val (.int q0), .val (.int q1), .val (.int q2), .val (.long q3), .second, .val (.int (0 : Int32)), .val (.int (1 : Int32)), .unset, .unset, .unset, .unset, .unset, .unset, .unset] [])) _
        refine XS.bipush X0.here hx rfl (hb hby at_37) ?_
        show Steps p.tables e below (s₁.setTop (mkF m 39 #[.val (.int q0), .val (.int q1), .val (.int q2), .val (.long q3), .second, .val (.int (0 : Int32)), .val (.int (1 : Int32)), .unset, .unset, .unset, .unset, .unset, .unset, .unset] [(.int (32 : Int32))])) _
        refine XS.istore X0.here hx rfl (hb hby at_39) rfl (l' := #[.val (.int q0), .val (.int q1), .val (.int q2), .val (.long q3), .second, .val (.int (0 : Int32)), .val (.int (1 : Int32)), .val (.int (32 : Int32)), .unset, .unset, .unset, .unset, .unset, .unset]) rfl ?_
        show Steps p.tables e below (s₁.setTop (mkF m 41 #[.val (.int q0), .val (.int q1), .val (.int q2), .val (.long q3), .second, .val (.int (0 : Int32)), .val (.int (1 : Int32)), .val (.int (32 : Int32)), .unset, .unset, .unset, .unset, .unset, .unset] [])) _
        refine XS.iloadN X0.here hx rfl (hb hby at_41) rfl ?_
        show Steps p.tables e below (s₁.setTop (mkF m 42 #[.val (.int q0), .val (.int q1), .val (.int q2), .val (.long q3), .second, .val (.int (0 : Int32)), .val (.int (1 : Int32)), .val (.int (32 : Int32)), .unset, .unset, .unset, .unset, .unset, .unset] [(.int q1)])) _
        refine X0.ldcInt hx hown (mvT hZ (hw _ (List.mem_of_getElem? (i := 0) rfl))) (g := (mkF m 42 #[.val (.int q0), .val (.int q1), .val (.int q2), .val (.long q3), .second, .val (.int (0 : Int32)), .val (.int (1 : Int32)), .val (.int (32 : Int32)), .unset, .unset, .unset, .unset, .unset, .unset] [(.int q1)])) rfl (hb hby at_42) _ ?_
        show Steps p.tables e below (s₁.setTop (mkF m 44 #[.val (.int q0), .val (.int q1), .val (.int q2), .val (.long q3), .second, .val (.int (0 : Int32)), .val (.int (1 : Int32)), .val (.int (32 : Int32)), .unset, .unset, .unset, .unset, .unset, .unset] [(.int (2147483647 : Int32)), (.int q1)])) _
        refine XS.iand X0.here hx rfl (hb hby at_44) rfl ?_
        show Steps p.tables e below (s₁.setTop (mkF m 45 #[.val (.int q0), .val (.int q1), .val (.int q2), .val (.long q3), .second, .val (.int (0 : Int32)), .val (.int (1 : Int32)), .val (.int (32 : Int32)), .unset, .unset, .unset, .unset, .unset, .unset] [(.int (q1 &&& (2147483647 : Int32)))])) _
        refine XS.iload X0.here hx rfl (hb hby at_45) rfl ?_
        show Steps p.tables e below (s₁.setTop (mkF m 47 #[.val (.int q0), .val (.int q1), .val (.int q2), .val (.long q3), .second, .val (.int (0 : Int32)), .val (.int (1 : Int32)), .val (.int (32 : Int32)), .unset, .unset, .unset, .unset, .unset, .unset] [(.int (32 : Int32)), (.int (q1 &&& (2147483647 : Int32)))])) _
        refine XS.iconst X0.here hx rfl (hb hby at_47) ?_
        show Steps p.tables e below (s₁.setTop (mkF m 48 #[.val (.int q0), .val (.int q1), .val (.int q2), .val (.long q3), .second, .val (.int (0 : Int32)), .val (.int (1 : Int32)), .val (.int (32 : Int32)), .unset, .unset, .unset, .unset, .unset, .unset] [(.int (1 : Int32)), (.int (32 : Int32)), (.int (q1 &&& (2147483647 : Int32)))])) _
        refine XS.iadd X0.here hx rfl (hb hby at_48) rfl ?_
        show Steps p.tables e below (s₁.setTop (mkF m 49 #[.val (.int q0), .val (.int q1), .val (.int q2), .val (.long q3), .second, .val (.int (0 : Int32)), .val (.int (1 : Int32)), .val (.int (32 : Int32)), .unset, .unset, .unset, .unset, .unset, .unset] [(.int (33 : Int32)), (.int (q1 &&& (2147483647 : Int32)))])) _
        refine iremM X0 hx rfl (hb hby at_49) rfl (by decide) ?_
        exact k
      have nz_63_20 : ¬ ((((32 : Int32) - v18) + (1 : Int32)) = (0 : Int32)) := (own_nzT (by assumption) (by decide))
      obtain ⟨v21, hv21⟩ : ∃ z : Int32, z = ((q2 &&& (2147483647 : Int32)) % (((32 : Int32) - v18) + (1 : Int32))) := ⟨_, rfl⟩
      have pre22 : ∀ t, Steps p.tables e below (s₁.setTop (mkF m 64 #[.val (.int q0), .val (.int q1), .val (.int q2), .val (.long q3), .second, .val (.int (0 : Int32)), .val (.int (1 : Int32)), .val (.int (32 : Int32)), .val (.int v18), .unset, .unset, .unset, .unset, .unset] [(.int v21)])) t → Steps p.tables e below (s₁.setTop (entryFrame m #[(.int q0), (.int q1), (.int q2), (.long q3)] maxLocals)) t := by
        rw [hv21]
        intro t k
        refine pre19 t ?_
        show Steps p.tables e below (s₁.setTop (mkF m 50 #[.val (.int q0), .val (.int q1), .val (.int q2), .val (.long q3), .second, .val (.int (0 : Int32)), .val (.int (1 : Int32)), .val (.int (32 : Int32)), .unset, .unset, .unset, .unset, .unset, .unset] [(.int v18)])) _
        refine XS.istore X0.here hx rfl (hb hby at_50) rfl (l' := #[.val (.int q0), .val (.int q1), .val (.int q2), .val (.long q3), .second, .val (.int (0 : Int32)), .val (.int (1 : Int32)), .val (.int (32 : Int32)), .val (.int v18), .unset, .unset, .unset, .unset, .unset]) rfl ?_
        show Steps p.tables e below (s₁.setTop (mkF m 52 #[.val (.int q0), .val (.int q1), .val (.int q2), .val (.long q3), .second, .val (.int (0 : Int32)), .val (.int (1 : Int32)), .val (.int (32 : Int32)), .val (.int v18), .unset, .unset, .unset, .unset, .unset] [])) _
        refine XS.iloadN X0.here hx rfl (hb hby at_52) rfl ?_
        show Steps p.tables e below (s₁.setTop (mkF m 53 #[.val (.int q0), .val (.int q1), .val (.int q2), .val (.long q3), .second, .val (.int (0 : Int32)), .val (.int (1 : Int32)), .val (.int (32 : Int32)), .val (.int v18), .unset, .unset, .unset, .unset, .unset] [(.int q2)])) _
        refine X0.ldcInt hx hown (mvT hZ (hw _ (List.mem_of_getElem? (i := 0) rfl))) (g := (mkF m 53 #[.val (.int q0), .val (.int q1), .val (.int q2), .val (.long q3), .second, .val (.int (0 : Int32)), .val (.int (1 : Int32)), .val (.int (32 : Int32)), .val (.int v18), .unset, .unset, .unset, .unset, .unset] [(.int q2)])) rfl (hb hby at_53) _ ?_
        show Steps p.tables e below (s₁.setTop (mkF m 55 #[.val (.int q0), .val (.int q1), .val (.int q2), .val (.long q3), .second, .val (.int (0 : Int32)), .val (.int (1 : Int32)), .val (.int (32 : Int32)), .val (.int v18), .unset, .unset, .unset, .unset, .unset] [(.int (2147483647 : Int32)), (.int q2)])) _
        refine XS.iand X0.here hx rfl (hb hby at_55) rfl ?_
        show Steps p.tables e below (s₁.setTop (mkF m 56 #[.val (.int q0), .val (.int q1), .val (.int q2), .val (.long q3), .second, .val (.int (0 : Int32)), .val (.int (1 : Int32)), .val (.int (32 : Int32)), .val (.int v18), .unset, .unset, .unset, .unset, .unset] [(.int (q2 &&& (2147483647 : Int32)))])) _
        refine XS.iload X0.here hx rfl (hb hby at_56) rfl ?_
        show Steps p.tables e below (s₁.setTop (mkF m 58 #[.val (.int q0), .val (.int q1), .val (.int q2), .val (.long q3), .second, .val (.int (0 : Int32)), .val (.int (1 : Int32)), .val (.int (32 : Int32)), .val (.int v18), .unset, .unset, .unset, .unset, .unset] [(.int (32 : Int32)), (.int (q2 &&& (2147483647 : Int32)))])) _
        refine XS.iload X0.here hx rfl (hb hby at_58) rfl ?_
        show Steps p.tables e below (s₁.setTop (mkF m 60 #[.val (.int q0), .val (.int q1), .val (.int q2), .val (.long q3), .second, .val (.int (0 : Int32)), .val (.int (1 : Int32)), .val (.int (32 : Int32)), .val (.int v18), .unset, .unset, .unset, .unset, .unset] [(.int v18), (.int (32 : Int32)), (.int (q2 &&& (2147483647 : Int32)))])) _
        refine XS.isub X0.here hx rfl (hb hby at_60) rfl ?_
        show Steps p.tables e below (s₁.setTop (mkF m 61 #[.val (.int q0), .val (.int q1), .val (.int q2), .val (.long q3), .second, .val (.int (0 : Int32)), .val (.int (1 : Int32)), .val (.int (32 : Int32)), .val (.int v18), .unset, .unset, .unset, .unset, .unset] [(.int ((32 : Int32) - v18)), (.int (q2 &&& (2147483647 : Int32)))])) _
        refine XS.iconst X0.here hx rfl (hb hby at_61) ?_
        show Steps p.tables e below (s₁.setTop (mkF m 62 #[.val (.int q0), .val (.int q1), .val (.int q2), .val (.long q3), .second, .val (.int (0 : Int32)), .val (.int (1 : Int32)), .val (.int (32 : Int32)), .val (.int v18), .unset, .unset, .unset, .unset, .unset] [(.int (1 : Int32)), (.int ((32 : Int32) - v18)), (.int (q2 &&& (2147483647 : Int32)))])) _
        refine XS.iadd X0.here hx rfl (hb hby at_62) rfl ?_
        show Steps p.tables e below (s₁.setTop (mkF m 63 #[.val (.int q0), .val (.int q1), .val (.int q2), .val (.long q3), .second, .val (.int (0 : Int32)), .val (.int (1 : Int32)), .val (.int (32 : Int32)), .val (.int v18), .unset, .unset, .unset, .unset, .unset] [(.int (((32 : Int32) - v18) + (1 : Int32))), (.int (q2 &&& (2147483647 : Int32)))])) _
        refine iremM X0 hx rfl (hb hby at_63) rfl nz_63_20 ?_
        exact k
      obtain ⟨v23, hv23⟩ : ∃ z : Int32, z = (v18 + v21) := ⟨_, rfl⟩
      have pre24 : ∀ t, Steps p.tables e below (s₁.setTop (mkF m 80 #[.val (.int q0), .val (.int q1), .val (.int q2), .val (.long q3), .second, .val (.int (0 : Int32)), .val (.int (1 : Int32)), .val (.int (32 : Int32)), .val (.int v18), .val (.int v21), .unset, .unset, .unset, .unset] [(.int v23)])) t → Steps p.tables e below (s₁.setTop (entryFrame m #[(.int q0), (.int q1), (.int q2), (.long q3)] maxLocals)) t := by
        rw [hv23]
        intro t k
        refine pre22 t ?_
        show Steps p.tables e below (s₁.setTop (mkF m 64 #[.val (.int q0), .val (.int q1), .val (.int q2), .val (.long q3), .second, .val (.int (0 : Int32)), .val (.int (1 : Int32)), .val (.int (32 : Int32)), .val (.int v18), .unset, .unset, .unset, .unset, .unset] [(.int v21)])) _
        refine XS.istore X0.here hx rfl (hb hby at_64) rfl (l' := #[.val (.int q0), .val (.int q1), .val (.int q2), .val (.long q3), .second, .val (.int (0 : Int32)), .val (.int (1 : Int32)), .val (.int (32 : Int32)), .val (.int v18), .val (.int v21), .unset, .unset, .unset, .unset]) rfl ?_
        show Steps p.tables e below (s₁.setTop (mkF m 66 #[.val (.int q0), .val (.int q1), .val (.int q2), .val (.long q3), .second, .val (.int (0 : Int32)), .val (.int (1 : Int32)), .val (.int (32 : Int32)), .val (.int v18), .val (.int v21), .unset, .unset, .unset, .unset] [])) _
        refine XS.iload X0.here hx rfl (hb hby at_66) rfl ?_
        show Steps p.tables e below (s₁.setTop (mkF m 68 #[.val (.int q0), .val (.int q1), .val (.int q2), .val (.long q3), .second, .val (.int (0 : Int32)), .val (.int (1 : Int32)), .val (.int (32 : Int32)), .val (.int v18), .val (.int v21), .unset, .unset, .unset, .unset] [(.int (1 : Int32))])) _
        refine XS.ifNo X0.here hx rfl (hb hby at_68) rfl (by decide) ?_
        show Steps p.tables e below (s₁.setTop (mkF m 71 #[.val (.int q0), .val (.int q1), .val (.int q2), .val (.long q3), .second, .val (.int (0 : Int32)), .val (.int (1 : Int32)), .val (.int (32 : Int32)), .val (.int v18), .val (.int v21), .unset, .unset, .unset, .unset] [])) _
        refine XS.iload X0.here hx rfl (hb hby at_71) rfl ?_
        show Steps p.tables e below (s₁.setTop (mkF m 73 #[.val (.int q0), .val (.int q1), .val (.int q2), .val (.long q3), .second, .val (.int (0 : Int32)), .val (.int (1 : Int32)), .val (.int (32 : Int32)), .val (.int v18), .val (.int v21), .unset, .unset, .unset, .unset] [(.int v18)])) _
        refine XS.iload X0.here hx rfl (hb hby at_73) rfl ?_
        show Steps p.tables e below (s₁.setTop (mkF m 75 #[.val (.int q0), .val (.int q1), .val (.int q2), .val (.long q3), .second, .val (.int (0 : Int32)), .val (.int (1 : Int32)), .val (.int (32 : Int32)), .val (.int v18), .val (.int v21), .unset, .unset, .unset, .unset] [(.int v21), (.int v18)])) _
        refine XS.iadd X0.here hx rfl (hb hby at_75) rfl ?_
        show Steps p.tables e below (s₁.setTop (mkF m 76 #[.val (.int q0), .val (.int q1), .val (.int q2), .val (.long q3), .second, .val (.int (0 : Int32)), .val (.int (1 : Int32)), .val (.int (32 : Int32)), .val (.int v18), .val (.int v21), .unset, .unset, .unset, .unset] [(.int (v18 + v21))])) _
        refine XS.goto X0.here hx rfl (pc0 := 76) (pc' := 80) rfl (hb hby at_76) (by decide) (by decide) ?_
        exact k
      obtain ⟨T25, h25, X25, e25, E25, A25, D25, -, st25⟩ := newO X0 hx hZ hown (hw _ (List.mem_of_getElem? (i := 1) rfl)) (hw _ (List.mem_of_getElem? (i := 2) rfl)) (hw _ (List.mem_of_getElem? (i := 3) rfl)) e0 (g := (mkF m 82 #[.val (.int q0), .val (.int q1), .val (.int q2), .val (.long q3), .second, .val (.int (0 : Int32)), .val (.int (1 : Int32)), .val (.int (32 : Int32)), .val (.int v18), .val (.int v21), .val (.int v23), .unset, .unset, .unset] [])) rfl (hb hby at_82) (by decide) (by decide)
      obtain ⟨a25, g25⟩ : ∃ z, z = h0.size := ⟨_, rfl⟩
      rw [← g25] at A25 D25 st25
      have ge_a25 : n0 ≤ a25 := g25 ▸ Z0
      have sz25 : n0 ≤ h25.size := Nat.le_trans Z0 E25.1
      have F25_n0 : Fld Z h25 a25 "com/example/stillframe/stillframe/ccr/IpPrefix" "address" "[B" .null := D25 (Or.inr (hw _ (List.mem_of_getElem? (i := 12) rfl))) (ty := (.array .byte)) (by decide)
      have F25_n1 : Fld Z h25 a25 "com/example/stillframe/stillframe/ccr/IpPrefix" "length" "I" (.int (0 : Int32)) := D25 (Or.inr (hw _ (List.mem_of_getElem? (i := 14) rfl))) (ty := .int) (by decide)
      obtain ⟨T26, h26, cA26, X26, e26, E26, A26, st26⟩ := newP X25 hx hZ (aty := .byte) (hw _ (List.mem_of_getElem? (i := 4) rfl)) e25 (g := (mkF m 97 #[.val (.int q0), .val (.int q1), .val (.int q2), .val (.long q3), .second, .val (.int (0 : Int32)), .val (.int (1 : Int32)), .val (.int (32 : Int32)), .val (.int v18), .val (.int v21), .val (.int v23), .unset, .unset, .unset] [(.int (4 : Int32)), (.ref a25), (.ref a25)])) rfl (hb hby at_97) rfl (by decide) (cap := 4) (by decide) (by decide) (by decide) (by decide)
      obtain ⟨a26, g26⟩ : ∃ z, z = h25.size := ⟨_, rfl⟩
      rw [← g26] at A26 st26
      have ne_a25_a26 : a25 ≠ a26 := g26 ▸ Nat.ne_of_lt A25.lt
      have ge_a26 : n0 ≤ a26 := g26 ▸ sz25
      have A26_a25 : Exa Z h26 a25 "com/example/stillframe/stillframe/ccr/IpPrefix" := A25.ext E26
      have F26_a25_0 : Fld Z h26 a25 "com/example/stillframe/stillframe/ccr/IpPrefix" "address" "[B" .null := F25_n0.ext E26
      have F26_a25_1 : Fld Z h26 a25 "com/example/stillframe/stillframe/ccr/IpPrefix" "length" "I" (.int (0 : Int32)) := F25_n1.ext E26
      have sz26 : n0 ≤ h26.size := Nat.le_trans sz25 E26.1
      have V26_n : own_AI Z h26 a26 .byte [(0 : Int32), (0 : Int32), (0 : Int32), (0 : Int32)] := own_AIbyte_new A26 (k := 4) (by decide)
      obtain ⟨_, _, ⟨T27, L27, k27, n27⟩, -, X27, ⟨Lc27, hQ27, l27, y27, z27⟩, st27⟩ := X26.specialBack hx (y := (⟨"com/example/stillframe/stillframe/ccr/IpPrefix", "<init>", "([BI)V"⟩ : MethodName)) rfl hown (mvT hZ (hw _ (List.mem_of_getElem? (i := 5) rfl))) (mvT hZ (hw _ (List.mem_of_getElem? (i := 6) rfl))) (mvT hZ (hw _ (List.mem_of_getElem? (i := 7) rfl))) (by decide) (backOf (W := 1) (rm1 l Z a0 hw [] a25 a26 v18  h26 n0 sz26 A26_a25 F26_a25_0 F26_a25_1 ge_a25 ) hZ (hw _ (List.mem_of_getElem? (i := 7) rfl)) (hw _ (List.mem_of_getElem? (i := 3) rfl)) (by decide) (by decide)) (g := (mkF m 101 #[.val (.int q0), .val (.int q1), .val (.int q2), .val (.long q3), .second, .val (.int (0 : Int32)), .val (.int (1 : Int32)), .val (.int (32 : Int32)), .val (.int v18), .val (.int v21), .val (.int v23), .unset, .unset, .unset] [(.int v18), (.ref a26), (.ref a25), (.ref a25)])) rfl (by rw [hml]; rfl) (Steps.refl _) (a := a25) (argsL := [(.ref a26), (.int v18)]) (rest := [(.ref a25)]) (lenOf pd_8 rfl) rfl (by show 2 * 0 + _ ≤ _; exact Nat.le_of_eq rfl) (hb hby at_101) (fun _ _ => ⟨rfl, e26, (by decide : 2 + 0 ≤ _), (by decide : 6 + 0 ≤ _)⟩)
      dsimp only [Pt.U, Pt.locs, Pt.cells, Pt.slots] at X27 l27 y27 z27 st27 hQ27
      subst l27 y27 z27
      obtain ⟨rfl, N27q, K27, A27_o0, F27_o0, F27_o1⟩ := hQ27
      obtain ⟨h27, e27⟩ : ∃ z, T27.heap = z := ⟨_, rfl⟩
      rw [e27] at K27 A27_o0 F27_o0 F27_o1
      have V27_a26 : own_AI Z h27 a26 .byte [(0 : Int32), (0 : Int32), (0 : Int32), (0 : Int32)] := V26_n.keep K27 (ninS (Ne.symm ne_a25_a26) nin0)
      have A27_a25 : Exa Z h27 a25 "com/example/stillframe/stillframe/ccr/IpPrefix" := A26_a25.keep K27
      have sz27 : n0 ≤ h27.size := Nat.le_trans sz26 K27.1
      have N27 := Fr.app N0 N27q
      obtain ⟨T28, h28, X28, e28, E28, A28, D28, -, st28⟩ := newO X27 hx hZ hown (hw _ (List.mem_of_getElem? (i := 15) rfl)) (hw _ (List.mem_of_getElem? (i := 16) rfl)) (hw _ (List.mem_of_getElem? (i := 17) rfl)) e27 (g := (mkF m 106 #[.val (.int q0), .val (.int q1), .val (.int q2), .val (.long q3), .second, .val (.int (0 : Int32)), .val (.int (1 : Int32)), .val (.int (32 : Int32)), .val (.int v18), .val (.int v21), .val (.int v23), .val (.ref a25), .unset, .unset] [])) rfl (hb hby at_106) (by decide) (by decide)
      obtain ⟨a28, g28⟩ : ∃ z, z = h27.size := ⟨_, rfl⟩
      rw [← g28] at A28 D28 st28
      have ne_a26_a28 : a26 ≠ a28 := g28 ▸ Nat.ne_of_lt V27_a26.lt
      have ne_a25_a28 : a25 ≠ a28 := g28 ▸ Nat.ne_of_lt A27_o0.lt
      have ge_a28 : n0 ≤ a28 := g28 ▸ sz27
      have V28_a26 : own_AI Z h28 a26 .byte [(0 : Int32), (0 : Int32), (0 : Int32), (0 : Int32)] := V27_a26.ext E28
      have A28_a25 : Exa Z h28 a25 "com/example/stillframe/stillframe/ccr/IpPrefix" := A27_o0.ext E28
      have F28_a25_0 : Fld Z h28 a25 "com/example/stillframe/stillframe/ccr/IpPrefix" "address" "[B" (.ref a26) := F27_o0.ext E28
      have F28_a25_1 : Fld Z h28 a25 "com/example/stillframe/stillframe/ccr/IpPrefix" "length" "I" (.int v18) := F27_o1.ext E28
      have sz28 : n0 ≤ h28.size := Nat.le_trans sz27 E28.1
      have F28_n0 : Fld Z h28 a28 "com/example/stillframe/stillframe/ccr/RoaPayload" "asn" "J" (.long (0 : Int64)) := D28 (Or.inr (hw _ (List.mem_of_getElem? (i := 24) rfl))) (ty := .long) (by decide)
      have F28_n1 : Fld Z h28 a28 "com/example/stillframe/stillframe/ccr/RoaPayload" "prefix" "Lcom/example/stillframe/stillframe/ccr/IpPrefix;" .null := D28 (Or.inr (hw _ (List.mem_of_getElem? (i := 26) rfl))) (ty := (.object "com/example/stillframe/stillframe/ccr/IpPrefix")) (by decide)
      have F28_n2 : Fld Z h28 a28 "com/example/stillframe/stillframe/ccr/RoaPayload" "maxLength" "I" (.int (0 : Int32)) := D28 (Or.inr (hw _ (List.mem_of_getElem? (i := 28) rfl))) (ty := .int) (by decide)
      obtain ⟨_, _, ⟨T29, L29, k29, n29⟩, -, X29, ⟨Lc29, hQ29, l29, y29, z29⟩, st29⟩ := X28.specialBack hx (y := (⟨"com/example/stillframe/stillframe/ccr/RoaPayload", "<init>", "(JLcom/example/stillframe/stillframe/ccr/IpPrefix;I)V"⟩ : MethodName)) rfl hown (mvT hZ (hw _ (List.mem_of_getElem? (i := 19) rfl))) (mvT hZ (hw _ (List.mem_of_getElem? (i := 20) rfl))) (mvT hZ (hw _ (List.mem_of_getElem? (i := 21) rfl))) (by decide) (backOf (W := 1) (rm3 l Z a0 hw [] a28 (q3 &&& (4294967295 : Int64)) a25 v23  h28 n0 sz28 A28 F28_n0 F28_n1 F28_n2 ge_a28 ) hZ (hw _ (List.mem_of_getElem? (i := 21) rfl)) (hw _ (List.mem_of_getElem? (i := 17) rfl)) (by decide) (by decide)) (g := (mkF m 119 #[.val (.int q0), .val (.int q1), .val (.int q2), .val (.long q3), .second, .val (.int (0 : Int32)), .val (.int (1 : Int32)), .val (.int (32 : Int32)), .val (.int v18), .val (.int v21), .val (.int v23), .val (.ref a25), .unset, .unset] [(.int v23), (.ref a25), (.long (q3 &&& (4294967295 : Int64))), (.ref a28), (.ref a28)])) rfl (by rw [hml]; rfl) (Steps.refl _) (a := a28) (argsL := [(.long (q3 &&& (4294967295 : Int64))), (.ref a25), (.int v23)]) (rest := [(.ref a28)]) (lenOf pd_9 rfl) rfl (by show 2 * 0 + _ ≤ _; exact Nat.le_of_eq rfl) (hb hby at_119) (fun _ _ => ⟨rfl, e28, (by decide : 3 + 0 ≤ _), (by decide : 9 + 0 ≤ _)⟩)
      dsimp only [Pt.U, Pt.locs, Pt.cells, Pt.slots] at X29 l29 y29 z29 st29 hQ29
      subst l29 y29 z29
      obtain ⟨rfl, N29q, K29, A29_o0, F29_o0, F29_o1, F29_o2⟩ := hQ29
      obtain ⟨h29, e29⟩ : ∃ z, T29.heap = z := ⟨_, rfl⟩
      rw [e29] at K29 A29_o0 F29_o0 F29_o1 F29_o2
      have V29_a26 : own_AI Z h29 a26 .byte [(0 : Int32), (0 : Int32), (0 : Int32), (0 : Int32)] := V28_a26.keep K29 (ninS ne_a26_a28 nin0)
      have A29_a25 : Exa Z h29 a25 "com/example/stillframe/stillframe/ccr/IpPrefix" := A28_a25.keep K29
      have F29_a25_0 : Fld Z h29 a25 "com/example/stillframe/stillframe/ccr/IpPrefix" "address" "[B" (.ref a26) := F28_a25_0.keep K29 (ninS ne_a25_a28 nin0)
      have F29_a25_1 : Fld Z h29 a25 "com/example/stillframe/stillframe/ccr/IpPrefix" "length" "I" (.int v18) := F28_a25_1.keep K29 (ninS ne_a25_a28 nin0)
      have A29_a28 : Exa Z h29 a28 "com/example/stillframe/stillframe/ccr/RoaPayload" := A28.keep K29
      have sz29 : n0 ≤ h29.size := Nat.le_trans sz28 K29.1
      have N29 := Fr.app N27 N29q
      have pre30 : ∀ t, Steps p.tables e below (T29.setTop (mkF m 131 #[.val (.int q0), .val (.int q1), .val (.int q2), .val (.long q3), .second, .val (.int (0 : Int32)), .val (.int (1 : Int32)), .val (.int (32 : Int32)), .val (.int v18), .val (.int v21), .val (.int v23), .val (.ref a25), .val (.ref a28), .unset] [(.int v21)])) t → Steps p.tables e below (s₁.setTop (entryFrame m #[(.int q0), (.int q1), (.int q2), (.long q3)] maxLocals)) t := by
        intro t k
        refine pre24 t ?_
        show Steps p.tables e below (s₁.setTop (mkF m 80 #[.val (.int q0), .val (.int q1), .val (.int q2), .val (.long q3), .second, .val (.int (0 : Int32)), .val (.int (1 : Int32)), .val (.int (32 : Int32)), .val (.int v18), .val (.int v21), .unset, .unset, .unset, .unset] [(.int v23)])) _
        refine XS.istore X0.here hx rfl (hb hby at_80) rfl (l' := #[.val (.int q0), .val (.int q1), .val (.int q2), .val (.long q3), .second, .val (.int (0 : Int32)), .val (.int (1 : Int32)), .val (.int (32 : Int32)), .val (.int v18), .val (.int v21), .val (.int v23), .unset, .unset, .unset]) rfl ?_
        show Steps p.tables e below (s₁.setTop (mkF m 82 #[.val (.int q0), .val (.int q1), .val (.int q2), .val (.long q3), .second, .val (.int (0 : Int32)), .val (.int (1 : Int32)), .val (.int (32 : Int32)), .val (.int v18), .val (.int v21), .val (.int v23), .unset, .unset, .unset] [])) _
        refine st25 _ ?_
        show Steps p.tables e below (T25.setTop (mkF m 85 #[.val (.int q0), .val (.int q1), .val (.int q2), .val (.long q3), .second, .val (.int (0 : Int32)), .val (.int (1 : Int32)), .val (.int (32 : Int32)), .val (.int v18), .val (.int v21), .val (.int v23), .unset, .unset, .unset] [(.ref a25)])) _
        refine XS.dup X25.here hx rfl (hb hby at_85) rfl rfl ?_
        show Steps p.tables e below (T25.setTop (mkF m 86 #[.val (.int q0), .val (.int q1), .val (.int q2), .val (.long q3), .second, .val (.int (0 : Int32)), .val (.int (1 : Int32)), .val (.int (32 : Int32)), .val (.int v18), .val (.int v21), .val (.int v23), .unset, .unset, .unset] [(.ref a25), (.ref a25)])) _
        refine XS.iload X25.here hx rfl (hb hby at_86) rfl ?_
        show Steps p.tables e below (T25.setTop (mkF m 88 #[.val (.int q0), .val (.int q1), .val (.int q2), .val (.long q3), .second, .val (.int (0 : Int32)), .val (.int (1 : Int32)), .val (.int (32 : Int32)), .val (.int v18), .val (.int v21), .val (.int v23), .unset, .unset, .unset] [(.int (0 : Int32)), (.ref a25), (.ref a25)])) _
        refine XS.ifYes X25.here hx rfl (pc0 := 88) (pc' := 96) rfl (hb hby at_88) rfl (by decide) (by decide) (by decide) ?_
        show Steps p.tables e below (T25.setTop (mkF m 96 #[.val (.int q0), .val (.int q1), .val (.int q2), .val (.long q3), .second, .val (.int (0 : Int32)), .val (.int (1 : Int32)), .val (.int (32 : Int32)), .val (.int v18), .val (.int v21), .val (.int v23), .unset, .unset, .unset] [(.ref a25), (.ref a25)])) _
        refine XS.iconst X25.here hx rfl (hb hby at_96) ?_
        show Steps p.tables e below (T25.setTop (mkF m 97 #[.val (.int q0), .val (.int q1), .val (.int q2), .val (.long q3), .second, .val (.int (0 : Int32)), .val (.int (1 : Int32)), .val (.int (32 : Int32)), .val (.int v18), .val (.int v21), .val (.int v23), .unset, .unset, .unset] [(.int (4 : Int32)), (.ref a25), (.ref a25)])) _
        refine st26 _ ?_
        show Steps p.tables e below (T26.setTop (mkF m 99 #[.val (.int q0), .val (.int q1), .val (.int q2), .val (.long q3), .second, .val (.int (0 : Int32)), .val (.int (1 : Int32)), .val (.int (32 : Int32)), .val (.int v18), .val (.int v21), .val (.int v23), .unset, .unset, .unset] [(.ref a26), (.ref a25), (.ref a25)])) _
        refine XS.iload X26.here hx rfl (hb hby at_99) rfl ?_
        show Steps p.tables e below (T26.setTop (mkF m 101 #[.val (.int q0), .val (.int q1), .val (.int q2), .val (.long q3), .second, .val (.int (0 : Int32)), .val (.int (1 : Int32)), .val (.int (32 : Int32)), .val (.int v18), .val (.int v21), .val (.int v23), .unset, .unset, .unset] [(.int v18), (.ref a26), (.ref a25), (.ref a25)])) _
        refine st27.trans ?_
        show Steps p.tables e below (T27.setTop (mkF m 104 #[.val (.int q0), .val (.int q1), .val (.int q2), .val (.long q3), .second, .val (.int (0 : Int32)), .val (.int (1 : Int32)), .val (.int (32 : Int32)), .val (.int v18), .val (.int v21), .val (.int v23), .unset, .unset, .unset] [(.ref a25)])) _
        refine XS.astore X27.here hx rfl (hb hby at_104) rfl rfl (l' := #[.val (.int q0), .val (.int q1), .val (.int q2), .val (.long q3), .second, .val (.int (0 : Int32)), .val (.int (1 : Int32)), .val (.int (32 : Int32)), .val (.int v18), .val (.int v21), .val (.int v23), .val (.ref a25), .unset, .unset]) rfl ?_
        show Steps p.tables e below (T27.setTop (mkF m 106 #[.val (.int q0), .val (.int q1), .val (.int q2), .val (.long q3), .second, .val (.int (0 : Int32)), .val (.int (1 : Int32)), .val (.int (32 : Int32)), .val (.int v18), .val (.int v21), .val (.int v23), .val (.ref a25), .unset, .unset] [])) _
        refine st28 _ ?_
        show Steps p.tables e below (T28.setTop (mkF m 109 #[.val (.int q0), .val (.int q1), .val (.int q2), .val (.long q3), .second, .val (.int (0 : Int32)), .val (.int (1 : Int32)), .val (.int (32 : Int32)), .val (.int v18), .val (.int v21), .val (.int v23), .val (.ref a25), .unset, .unset] [(.ref a28)])) _
        refine XS.dup X28.here hx rfl (hb hby at_109) rfl rfl ?_
        show Steps p.tables e below (T28.setTop (mkF m 110 #[.val (.int q0), .val (.int q1), .val (.int q2), .val (.long q3), .second, .val (.int (0 : Int32)), .val (.int (1 : Int32)), .val (.int (32 : Int32)), .val (.int v18), .val (.int v21), .val (.int v23), .val (.ref a25), .unset, .unset] [(.ref a28), (.ref a28)])) _
        refine XS.lloadN X28.here hx rfl (hb hby at_110) rfl ?_
        show Steps p.tables e below (T28.setTop (mkF m 111 #[.val (.int q0), .val (.int q1), .val (.int q2), .val (.long q3), .second, .val (.int (0 : Int32)), .val (.int (1 : Int32)), .val (.int (32 : Int32)), .val (.int v18), .val (.int v21), .val (.int v23), .val (.ref a25), .unset, .unset] [(.long q3), (.ref a28), (.ref a28)])) _
        refine X28.ldc2Long hx hown (mvT hZ (hw _ (List.mem_of_getElem? (i := 18) rfl))) (g := (mkF m 111 #[.val (.int q0), .val (.int q1), .val (.int q2), .val (.long q3), .second, .val (.int (0 : Int32)), .val (.int (1 : Int32)), .val (.int (32 : Int32)), .val (.int v18), .val (.int v21), .val (.int v23), .val (.ref a25), .unset, .unset] [(.long q3), (.ref a28), (.ref a28)])) rfl (hb hby at_111) _ ?_
        show Steps p.tables e below (T28.setTop (mkF m 114 #[.val (.int q0), .val (.int q1), .val (.int q2), .val (.long q3), .second, .val (.int (0 : Int32)), .val (.int (1 : Int32)), .val (.int (32 : Int32)), .val (.int v18), .val (.int v21), .val (.int v23), .val (.ref a25), .unset, .unset] [(.long (4294967295 : Int64)), (.long q3), (.ref a28), (.ref a28)])) _
        refine XS.land X28.here hx rfl (hb hby at_114) rfl ?_
        show Steps p.tables e below (T28.setTop (mkF m 115 #[.val (.int q0), .val (.int q1), .val (.int q2), .val (.long q3), .second, .val (.int (0 : Int32)), .val (.int (1 : Int32)), .val (.int (32 : Int32)), .val (.int v18), .val (.int v21), .val (.int v23), .val (.ref a25), .unset, .unset] [(.long (q3 &&& (4294967295 : Int64))), (.ref a28), (.ref a28)])) _
        refine XS.aload X28.here hx rfl (hb hby at_115) rfl rfl ?_
        show Steps p.tables e below (T28.setTop (mkF m 117 #[.val (.int q0), .val (.int q1), .val (.int q2), .val (.long q3), .second, .val (.int (0 : Int32)), .val (.int (1 : Int32)), .val (.int (32 : Int32)), .val (.int v18), .val (.int v21), .val (.int v23), .val (.ref a25), .unset, .unset] [(.ref a25), (.long (q3 &&& (4294967295 : Int64))), (.ref a28), (.ref a28)])) _
        refine XS.iload X28.here hx rfl (hb hby at_117) rfl ?_
        show Steps p.tables e below (T28.setTop (mkF m 119 #[.val (.int q0), .val (.int q1), .val (.int q2), .val (.long q3), .second, .val (.int (0 : Int32)), .val (.int (1 : Int32)), .val (.int (32 : Int32)), .val (.int v18), .val (.int v21), .val (.int v23), .val (.ref a25), .unset, .unset] [(.int v23), (.ref a25), (.long (q3 &&& (4294967295 : Int64))), (.ref a28), (.ref a28)])) _
        refine st29.trans ?_
        show Steps p.tables e below (T29.setTop (mkF m 122 #[.val (.int q0), .val (.int q1), .val (.int q2), .val (.long q3), .second, .val (.int (0 : Int32)), .val (.int (1 : Int32)), .val (.int (32 : Int32)), .val (.int v18), .val (.int v21), .val (.int v23), .val (.ref a25), .unset, .unset] [(.ref a28)])) _
        refine XS.astore X29.here hx rfl (hb hby at_122) rfl rfl (l' := #[.val (.int q0), .val (.int q1), .val (.int q2), .val (.long q3), .second, .val (.int (0 : Int32)), .val (.int (1 : Int32)), .val (.int (32 : Int32)), .val (.int v18), .val (.int v21), .val (.int v23), .val (.ref a25), .val (.ref a28), .unset]) rfl ?_
        show Steps p.tables e below (T29.setTop (mkF m 124 #[.val (.int q0), .val (.int q1), .val (.int q2), .val (.long q3), .second, .val (.int (0 : Int32)), .val (.int (1 : Int32)), .val (.int (32 : Int32)), .val (.int v18), .val (.int v21), .val (.int v23), .val (.ref a25), .val (.ref a28), .unset] [])) _
        refine XS.iload X29.here hx rfl (hb hby at_124) rfl ?_
        show Steps p.tables e below (T29.setTop (mkF m 126 #[.val (.int q0), .val (.int q1), .val (.int q2), .val (.long q3), .second, .val (.int (0 : Int32)), .val (.int (1 : Int32)), .val (.int (32 : Int32)), .val (.int v18), .val (.int v21), .val (.int v23), .val (.ref a25), .val (.ref a28), .unset] [(.int (1 : Int32))])) _
        refine XS.ifNo X29.here hx rfl (hb hby at_126) rfl (by decide) ?_
        show Steps p.tables e below (T29.setTop (mkF m 129 #[.val (.int q0), .val (.int q1), .val (.int q2), .val (.long q3), .second, .val (.int (0 : Int32)), .val (.int (1 : Int32)), .val (.int (32 : Int32)), .val (.int v18), .val (.int v21), .val (.int v23), .val (.ref a25), .val (.ref a28), .unset] [])) _
        refine XS.iload X29.here hx rfl (hb hby at_129) rfl ?_
        exact k
      by_cases c31 : v21 = (0 : Int32)
      · obtain ⟨cq32, kq32, q32a, q32b, q32c⟩ := isOf hZ e29 A29_o0
        obtain ⟨_, _, ⟨T32, L32, k32, n32⟩, -, X32, ⟨Lc32, hQ32, l32, y32, z32⟩, st32⟩ := X29.virtualBack hx (y := (⟨"com/example/stillframe/stillframe/ccr/RoaPayload", "redundantMaxLength", "()Z"⟩ : MethodName)) (z := (⟨"com/example/stillframe/stillframe/ccr/RoaPayload", "redundantMaxLength", "()Z"⟩ : MethodName)) hown (mvT hZ (hw _ (List.mem_of_getElem? (i := 29) rfl))) (mvT hZ (hw _ (List.mem_of_getElem? (i := 30) rfl))) (notFace_of_selects (args := #[]) (mvT hZ (hw _ (List.mem_of_getElem? (i := 32) rfl)))) (mvT hZ (hw _ (List.mem_of_getElem? (i := 32) rfl))) (mvT hZ (hw _ (List.mem_of_getElem? (i := 31) rfl))) (by decide) (backOf (W := 0) (rm4 l Z a0 hw [] a28 a25 v23 v18 h29 n0 sz29 A29_o0 A29_a25 F29_o1 F29_o2 F29_a25_1 ) hZ (hw _ (List.mem_of_getElem? (i := 33) rfl)) (hw _ (List.mem_of_getElem? (i := 17) rfl)) (by decide) (by decide)) q32a q32c (g := (mkF m 143 #[.val (.int q0), .val (.int q1), .val (.int q2), .val (.long q3), .second, .val (.int (0 : Int32)), .val (.int (1 : Int32)), .val (.int (32 : Int32)), .val (.int v18), .val (.int v21), .val (.int v23), .val (.ref a25), .val (.ref a28), .val (.int (1 : Int32))] [(.ref a28)])) rfl (by rw [hml]; rfl) (Steps.refl _) (argsL := []) (rest := []) (lenOf pd_10 rfl) rfl (by show 2 * 0 + _ ≤ _; exact Nat.le_of_eq rfl) (hb hby at_143) (fun _ _ => ⟨rfl, e29, (by decide : 3 + 0 ≤ _), (by decide : 9 + 0 ≤ _)⟩)
        dsimp only [Pt.U, Pt.locs, Pt.cells, Pt.slots] at X32 l32 y32 z32 st32 hQ32
        subst l32 y32 z32
        obtain ⟨rfl, N32q, e32⟩ := hQ32
        have N32 := Fr.app N29 N32q
        have pre33 : ∀ t, Steps p.tables e below (T32.setTop (mkF m 148 #[.val (.int q0), .val (.int q1), .val (.int q2), .val (.long q3), .second, .val (.int (0 : Int32)), .val (.int (1 : Int32)), .val (.int (32 : Int32)), .val (.int v18), .val (.int v21), .val (.int v23), .val (.ref a25), .val (.ref a28), .val (.int (1 : Int32))] [(.int (1 : Int32)), (.int (own_f4  v23 v18))])) t → Steps p.tables e below (s₁.setTop (entryFrame m #[(.int q0), (.int q1), (.int q2), (.long q3)] maxLocals)) t := by
          intro t k
          refine pre30 t ?_
          show Steps p.tables e below (T29.setTop (mkF m 131 #[.val (.int q0), .val (.int q1), .val (.int q2), .val (.long q3), .second, .val (.int (0 : Int32)), .val (.int (1 : Int32)), .val (.int (32 : Int32)), .val (.int v18), .val (.int v21), .val (.int v23), .val (.ref a25), .val (.ref a28), .unset] [(.int v21)])) _
          refine XS.ifNo X29.here hx rfl (hb hby at_131) rfl ((if0 _ _).trans (teq c31).2) ?_
          show Steps p.tables e below (T29.setTop (mkF m 134 #[.val (.int q0), .val (.int q1), .val (.int q2), .val (.long q3), .second, .val (.int (0 : Int32)), .val (.int (1 : Int32)), .val (.int (32 : Int32)), .val (.int v18), .val (.int v21), .val (.int v23), .val (.ref a25), .val (.ref a28), .unset] [])) _
          refine XS.iconst X29.here hx rfl (hb hby at_134) ?_
          show Steps p.tables e below (T29.setTop (mkF m 135 #[.val (.int q0), .val (.int q1), .val (.int q2), .val (.long q3), .second, .val (.int (0 : Int32)), .val (.int (1 : Int32)), .val (.int (32 : Int32)), .val (.int v18), .val (.int v21), .val (.int v23), .val (.ref a25), .val (.ref a28), .unset] [(.int (1 : Int32))])) _
          refine XS.goto X29.here hx rfl (pc0 := 135) (pc' := 139) rfl (hb hby at_135) (by decide) (by decide) ?_
          show Steps p.tables e below (T29.setTop (mkF m 139 #[.val (.int q0), .val (.int q1), .val (.int q2), .val (.long q3), .second, .val (.int (0 : Int32)), .val (.int (1 : Int32)), .val (.int (32 : Int32)), .val (.int v18), .val (.int v21), .val (.int v23), .val (.ref a25), .val (.ref a28), .unset] [(.int (1 : Int32))])) _
          refine XS.istore X29.here hx rfl (hb hby at_139) rfl (l' := #[.val (.int q0), .val (.int q1), .val (.int q2), .val (.long q3), .second, .val (.int (0 : Int32)), .val (.int (1 : Int32)), .val (.int (32 : Int32)), .val (.int v18), .val (.int v21), .val (.int v23), .val (.ref a25), .val (.ref a28), .val (.int (1 : Int32))]) rfl ?_
          show Steps p.tables e below (T29.setTop (mkF m 141 #[.val (.int q0), .val (.int q1), .val (.int q2), .val (.long q3), .second, .val (.int (0 : Int32)), .val (.int (1 : Int32)), .val (.int (32 : Int32)), .val (.int v18), .val (.int v21), .val (.int v23), .val (.ref a25), .val (.ref a28), .val (.int (1 : Int32))] [])) _
          refine XS.aload X29.here hx rfl (hb hby at_141) rfl rfl ?_
          show Steps p.tables e below (T29.setTop (mkF m 143 #[.val (.int q0), .val (.int q1), .val (.int q2), .val (.long q3), .second, .val (.int (0 : Int32)), .val (.int (1 : Int32)), .val (.int (32 : Int32)), .val (.int v18), .val (.int v21), .val (.int v23), .val (.ref a25), .val (.ref a28), .val (.int (1 : Int32))] [(.ref a28)])) _
          refine st32.trans ?_
          show Steps p.tables e below (T32.setTop (mkF m 146 #[.val (.int q0), .val (.int q1), .val (.int q2), .val (.long q3), .second, .val (.int (0 : Int32)), .val (.int (1 : Int32)), .val (.int (32 : Int32)), .val (.int v18), .val (.int v21), .val (.int v23), .val (.ref a25), .val (.ref a28), .val (.int (1 : Int32))] [(.int (own_f4  v23 v18))])) _
          refine XS.iload X32.here hx rfl (hb hby at_146) rfl ?_
          exact k
        by_cases c34 : (own_f4  v23 v18) = (1 : Int32)
        · obtain ⟨fs, hr, hrun, hended, hW, hsame⟩ := X32.leave (v := some (.int (1 : Int32))) (fun h => by rw [Bd.returns] at h; cases h) hlk
          refine ⟨_, _, pre33 _ ?_, hrun, hended, _, _, rfl, ?_, ⟨_, rfl⟩, hW, hsame.mono (by decide) (by decide)⟩
          · show Steps p.tables e below (T32.setTop (mkF m 148 #[.val (.int q0), .val (.int q1), .val (.int q2), .val (.long q3), .second, .val (.int (0 : Int32)), .val (.int (1 : Int32)), .val (.int (32 : Int32)), .val (.int v18), .val (.int v21), .val (.int v23), .val (.ref a25), .val (.ref a28), .val (.int (1 : Int32))] [(.int (1 : Int32)), (.int (own_f4  v23 v18))])) _
            refine XS.icmpNo X32.here hx rfl (hb hby at_148) rfl ((teq c34).2) ?_
            show Steps p.tables e below (T32.setTop (mkF m 151 #[.val (.int q0), .val (.int q1), .val (.int q2), .val (.long q3), .second, .val (.int (0 : Int32)), .val (.int (1 : Int32)), .val (.int (32 : Int32)), .val (.int v18), .val (.int v21), .val (.int v23), .val (.ref a25), .val (.ref a28), .val (.int (1 : Int32))] [])) _
            refine XS.iconst X32.here hx rfl (hb hby at_151) ?_
            show Steps p.tables e below (T32.setTop (mkF m 152 #[.val (.int q0), .val (.int q1), .val (.int q2), .val (.long q3), .second, .val (.int (0 : Int32)), .val (.int (1 : Int32)), .val (.int (32 : Int32)), .val (.int v18), .val (.int v21), .val (.int v23), .val (.ref a25), .val (.ref a28), .val (.int (1 : Int32))] [(.int (1 : Int32))])) _
            refine XS.goto X32.here hx rfl (pc0 := 152) (pc' := 156) rfl (hb hby at_152) (by decide) (by decide) ?_
            show Steps p.tables e below (T32.setTop (mkF m 156 #[.val (.int q0), .val (.int q1), .val (.int q2), .val (.long q3), .second, .val (.int (0 : Int32)), .val (.int (1 : Int32)), .val (.int (32 : Int32)), .val (.int v18), .val (.int v21), .val (.int v23), .val (.ref a25), .val (.ref a28), .val (.int (1 : Int32))] [(.int (1 : Int32))])) _
            exact retN X32 hx (t := .boolean) Bd.returns (by simp) (hb hby at_156) hr
          · show Q0 Z q0 q1 q2 q3 h0 n0 _ T32.heap _
            rw [e32]
            exact ⟨by have w_hv23 := hv23.symm; subst w_hv23; have w_hv21 := hv21.symm; subst w_hv21; have w_hv18 := hv18.symm; subst w_hv18; simp only [own_f0, if_pos c2, if_neg c4, if_pos c31, if_pos c34], N32⟩
        · obtain ⟨fs, hr, hrun, hended, hW, hsame⟩ := X32.leave (v := some (.int (0 : Int32))) (fun h => by rw [Bd.returns] at h; cases h) hlk
          refine ⟨_, _, pre33 _ ?_, hrun, hended, _, _, rfl, ?_, ⟨_, rfl⟩, hW, hsame.mono (by decide) (by decide)⟩
          · show Steps p.tables e below (T32.setTop (mkF m 148 #[.val (.int q0), .val (.int q1), .val (.int q2), .val (.long q3), .second, .val (.int (0 : Int32)), .val (.int (1 : Int32)), .val (.int (32 : Int32)), .val (.int v18), .val (.int v21), .val (.int v23), .val (.ref a25), .val (.ref a28), .val (.int (1 : Int32))] [(.int (1 : Int32)), (.int (own_f4  v23 v18))])) _
            refine XS.icmpYes X32.here hx rfl (pc0 := 148) (pc' := 155) rfl (hb hby at_148) rfl ((feq c34).2) (by decide) (by decide) ?_
            show Steps p.tables e below (T32.setTop (mkF m 155 #[.val (.int q0), .val (.int q1), .val (.int q2), .val (.long q3), .second, .val (.int (0 : Int32)), .val (.int (1 : Int32)), .val (.int (32 : Int32)), .val (.int v18), .val (.int v21), .val (.int v23), .val (.ref a25), .val (.ref a28), .val (.int (1 : Int32))] [])) _
            refine XS.iconst X32.here hx rfl (hb hby at_155) ?_
            show Steps p.tables e below (T32.setTop (mkF m 156 #[.val (.int q0), .val (.int q1), .val (.int q2), .val (.long q3), .second, .val (.int (0 : Int32)), .val (.int (1 : Int32)), .val (.int (32 : Int32)), .val (.int v18), .val (.int v21), .val (.int v23), .val (.ref a25), .val (.ref a28), .val (.int (1 : Int32))] [(.int (0 : Int32))])) _
            exact retN X32 hx (t := .boolean) Bd.returns (by simp) (hb hby at_156) hr
          · show Q0 Z q0 q1 q2 q3 h0 n0 _ T32.heap _
            rw [e32]
            exact ⟨by have w_hv23 := hv23.symm; subst w_hv23; have w_hv21 := hv21.symm; subst w_hv21; have w_hv18 := hv18.symm; subst w_hv18; simp only [own_f0, if_pos c2, if_neg c4, if_pos c31, if_neg c34], N32⟩
      · obtain ⟨cq35, kq35, q35a, q35b, q35c⟩ := isOf hZ e29 A29_o0
        obtain ⟨_, _, ⟨T35, L35, k35, n35⟩, -, X35, ⟨Lc35, hQ35, l35, y35, z35⟩, st35⟩ := X29.virtualBack hx (y := (⟨"com/example/stillframe/stillframe/ccr/RoaPayload", "redundantMaxLength", "()Z"⟩ : MethodName)) (z := (⟨"com/example/stillframe/stillframe/ccr/RoaPayload", "redundantMaxLength", "()Z"⟩ : MethodName)) hown (mvT hZ (hw _ (List.mem_of_getElem? (i := 29) rfl))) (mvT hZ (hw _ (List.mem_of_getElem? (i := 30) rfl))) (notFace_of_selects (args := #[]) (mvT hZ (hw _ (List.mem_of_getElem? (i := 32) rfl)))) (mvT hZ (hw _ (List.mem_of_getElem? (i := 32) rfl))) (mvT hZ (hw _ (List.mem_of_getElem? (i := 31) rfl))) (by decide) (backOf (W := 0) (rm4 l Z a0 hw [] a28 a25 v23 v18 h29 n0 sz29 A29_o0 A29_a25 F29_o1 F29_o2 F29_a25_1 ) hZ (hw _ (List.mem_of_getElem? (i := 33) rfl)) (hw _ (List.mem_of_getElem? (i := 17) rfl)) (by decide) (by decide)) q35a q35c (g := (mkF m 143 #[.val (.int q0), .val (.int q1), .val (.int q2), .val (.long q3), .second, .val (.int (0 : Int32)), .val (.int (1 : Int32)), .val (.int (32 : Int32)), .val (.int v18), .val (.int v21), .val (.int v23), .val (.ref a25), .val (.ref a28), .val (.int (0 : Int32))] [(.ref a28)])) rfl (by rw [hml]; rfl) (Steps.refl _) (argsL := []) (rest := []) (lenOf pd_10 rfl) rfl (by show 2 * 0 + _ ≤ _; exact Nat.le_of_eq rfl) (hb hby at_143) (fun _ _ => ⟨rfl, e29, (by decide : 3 + 0 ≤ _), (by decide : 9 + 0 ≤ _)⟩)
        dsimp only [Pt.U, Pt.locs, Pt.cells, Pt.slots] at X35 l35 y35 z35 st35 hQ35
        subst l35 y35 z35
        obtain ⟨rfl, N35q, e35⟩ := hQ35
        have N35 := Fr.app N29 N35q
        have pre36 : ∀ t, Steps p.tables e below (T35.setTop (mkF m 148 #[.val (.int q0), .val (.int q1), .val (.int q2), .val (.long q3), .second, .val (.int (0 : Int32)), .val (.int (1 : Int32)), .val (.int (32 : Int32)), .val (.int v18), .val (.int v21), .val (.int v23), .val (.ref a25), .val (.ref a28), .val (.int (0 : Int32))] [(.int (0 : Int32)), (.int (own_f4  v23 v18))])) t → Steps p.tables e below (s₁.setTop (entryFrame m #[(.int q0), (.int q1), (.int q2), (.long q3)] maxLocals)) t := by
          intro t k
          refine pre30 t ?_
          show Steps p.tables e below (T29.setTop (mkF m 131 #[.val (.int q0), .val (.int q1), .val (.int q2), .val (.long q3), .second, .val (.int (0 : Int32)), .val (.int (1 : Int32)), .val (.int (32 : Int32)), .val (.int v18), .val (.int v21), .val (.int v23), .val (.ref a25), .val (.ref a28), .unset] [(.int v21)])) _
          refine XS.ifYes X29.here hx rfl (pc0 := 131) (pc' := 138) rfl (hb hby at_131) rfl ((if0 _ _).trans (feq c31).2) (by decide) (by decide) ?_
          show Steps p.tables e below (T29.setTop (mkF m 138 #[.val (.int q0), .val (.int q1), .val (.int q2), .val (.long q3), .second, .val (.int (0 : Int32)), .val (.int (1 : Int32)), .val (.int (32 : Int32)), .val (.int v18), .val (.int v21), .val (.int v23), .val (.ref a25), .val (.ref a28), .unset] [])) _
          refine XS.iconst X29.here hx rfl (hb hby at_138) ?_
          show Steps p.tables e below (T29.setTop (mkF m 139 #[.val (.int q0), .val (.int q1), .val (.int q2), .val (.long q3), .second, .val (.int (0 : Int32)), .val (.int (1 : Int32)), .val (.int (32 : Int32)), .val (.int v18), .val (.int v21), .val (.int v23), .val (.ref a25), .val (.ref a28), .unset] [(.int (0 : Int32))])) _
          refine XS.istore X29.here hx rfl (hb hby at_139) rfl (l' := #[.val (.int q0), .val (.int q1), .val (.int q2), .val (.long q3), .second, .val (.int (0 : Int32)), .val (.int (1 : Int32)), .val (.int (32 : Int32)), .val (.int v18), .val (.int v21), .val (.int v23), .val (.ref a25), .val (.ref a28), .val (.int (0 : Int32))]) rfl ?_
          show Steps p.tables e below (T29.setTop (mkF m 141 #[.val (.int q0), .val (.int q1), .val (.int q2), .val (.long q3), .second, .val (.int (0 : Int32)), .val (.int (1 : Int32)), .val (.int (32 : Int32)), .val (.int v18), .val (.int v21), .val (.int v23), .val (.ref a25), .val (.ref a28), .val (.int (0 : Int32))] [])) _
          refine XS.aload X29.here hx rfl (hb hby at_141) rfl rfl ?_
          show Steps p.tables e below (T29.setTop (mkF m 143 #[.val (.int q0), .val (.int q1), .val (.int q2), .val (.long q3), .second, .val (.int (0 : Int32)), .val (.int (1 : Int32)), .val (.int (32 : Int32)), .val (.int v18), .val (.int v21), .val (.int v23), .val (.ref a25), .val (.ref a28), .val (.int (0 : Int32))] [(.ref a28)])) _
          refine st35.trans ?_
          show Steps p.tables e below (T35.setTop (mkF m 146 #[.val (.int q0), .val (.int q1), .val (.int q2), .val (.long q3), .second, .val (.int (0 : Int32)), .val (.int (1 : Int32)), .val (.int (32 : Int32)), .val (.int v18), .val (.int v21), .val (.int v23), .val (.ref a25), .val (.ref a28), .val (.int (0 : Int32))] [(.int (own_f4  v23 v18))])) _
          refine XS.iload X35.here hx rfl (hb hby at_146) rfl ?_
          exact k
        by_cases c37 : (own_f4  v23 v18) = (0 : Int32)
        · obtain ⟨fs, hr, hrun, hended, hW, hsame⟩ := X35.leave (v := some (.int (1 : Int32))) (fun h => by rw [Bd.returns] at h; cases h) hlk
          refine ⟨_, _, pre36 _ ?_, hrun, hended, _, _, rfl, ?_, ⟨_, rfl⟩, hW, hsame.mono (by decide) (by decide)⟩
          · show Steps p.tables e below (T35.setTop (mkF m 148 #[.val (.int q0), .val (.int q1), .val (.int q2), .val (.long q3), .second, .val (.int (0 : Int32)), .val (.int (1 : Int32)), .val (.int (32 : Int32)), .val (.int v18), .val (.int v21), .val (.int v23), .val (.ref a25), .val (.ref a28), .val (.int (0 : Int32))] [(.int (0 : Int32)), (.int (own_f4  v23 v18))])) _
            refine XS.icmpNo X35.here hx rfl (hb hby at_148) rfl ((teq c37).2) ?_
            show Steps p.tables e below (T35.setTop (mkF m 151 #[.val (.int q0), .val (.int q1), .val (.int q2), .val (.long q3), .second, .val (.int (0 : Int32)), .val (.int (1 : Int32)), .val (.int (32 : Int32)), .val (.int v18), .val (.int v21), .val (.int v23), .val (.ref a25), .val (.ref a28), .val (.int (0 : Int32))] [])) _
            refine XS.iconst X35.here hx rfl (hb hby at_151) ?_
            show Steps p.tables e below (T35.setTop (mkF m 152 #[.val (.int q0), .val (.int q1), .val (.int q2), .val (.long q3), .second, .val (.int (0 : Int32)), .val (.int (1 : Int32)), .val (.int (32 : Int32)), .val (.int v18), .val (.int v21), .val (.int v23), .val (.ref a25), .val (.ref a28), .val (.int (0 : Int32))] [(.int (1 : Int32))])) _
            refine XS.goto X35.here hx rfl (pc0 := 152) (pc' := 156) rfl (hb hby at_152) (by decide) (by decide) ?_
            show Steps p.tables e below (T35.setTop (mkF m 156 #[.val (.int q0), .val (.int q1), .val (.int q2), .val (.long q3), .second, .val (.int (0 : Int32)), .val (.int (1 : Int32)), .val (.int (32 : Int32)), .val (.int v18), .val (.int v21), .val (.int v23), .val (.ref a25), .val (.ref a28), .val (.int (0 : Int32))] [(.int (1 : Int32))])) _
            exact retN X35 hx (t := .boolean) Bd.returns (by simp) (hb hby at_156) hr
          · show Q0 Z q0 q1 q2 q3 h0 n0 _ T35.heap _
            rw [e35]
            exact ⟨by have w_hv23 := hv23.symm; subst w_hv23; have w_hv21 := hv21.symm; subst w_hv21; have w_hv18 := hv18.symm; subst w_hv18; simp only [own_f0, if_pos c2, if_neg c4, if_neg c31, if_pos c37], N35⟩
        · obtain ⟨fs, hr, hrun, hended, hW, hsame⟩ := X35.leave (v := some (.int (0 : Int32))) (fun h => by rw [Bd.returns] at h; cases h) hlk
          refine ⟨_, _, pre36 _ ?_, hrun, hended, _, _, rfl, ?_, ⟨_, rfl⟩, hW, hsame.mono (by decide) (by decide)⟩
          · show Steps p.tables e below (T35.setTop (mkF m 148 #[.val (.int q0), .val (.int q1), .val (.int q2), .val (.long q3), .second, .val (.int (0 : Int32)), .val (.int (1 : Int32)), .val (.int (32 : Int32)), .val (.int v18), .val (.int v21), .val (.int v23), .val (.ref a25), .val (.ref a28), .val (.int (0 : Int32))] [(.int (0 : Int32)), (.int (own_f4  v23 v18))])) _
            refine XS.icmpYes X35.here hx rfl (pc0 := 148) (pc' := 155) rfl (hb hby at_148) rfl ((feq c37).2) (by decide) (by decide) ?_
            show Steps p.tables e below (T35.setTop (mkF m 155 #[.val (.int q0), .val (.int q1), .val (.int q2), .val (.long q3), .second, .val (.int (0 : Int32)), .val (.int (1 : Int32)), .val (.int (32 : Int32)), .val (.int v18), .val (.int v21), .val (.int v23), .val (.ref a25), .val (.ref a28), .val (.int (0 : Int32))] [])) _
            refine XS.iconst X35.here hx rfl (hb hby at_155) ?_
            show Steps p.tables e below (T35.setTop (mkF m 156 #[.val (.int q0), .val (.int q1), .val (.int q2), .val (.long q3), .second, .val (.int (0 : Int32)), .val (.int (1 : Int32)), .val (.int (32 : Int32)), .val (.int v18), .val (.int v21), .val (.int v23), .val (.ref a25), .val (.ref a28), .val (.int (0 : Int32))] [(.int (0 : Int32))])) _
            exact retN X35 hx (t := .boolean) Bd.returns (by simp) (hb hby at_156) hr
          · show Q0 Z q0 q1 q2 q3 h0 n0 _ T35.heap _
            rw [e35]
            exact ⟨by have w_hv23 := hv23.symm; subst w_hv23; have w_hv21 := hv21.symm; subst w_hv21; have w_hv18 := hv18.symm; subst w_hv18; simp only [own_f0, if_pos c2, if_neg c4, if_neg c31, if_neg c37], N35⟩
  · have pre38 : ∀ t, Steps p.tables e below (s₁.setTop (mkF m 16 #[.val (.int q0), .val (.int q1), .val (.int q2), .val (.long q3), .second, .val (.int (1 : Int32)), .unset, .unset, .unset, .unset, .unset, .unset, .unset, .unset] [(.int (q0 &&& (2 : Int32)))])) t → Steps p.tables e below (s₁.setTop (entryFrame m #[(.int q0), (.int q1), (.int q2), (.long q3)] maxLocals)) t := by
      intro t k
      refine pre1 t ?_
      show Steps p.tables e below (s₁.setTop (mkF m 3 #[.val (.int q0), .val (.int q1), .val (.int q2), .val (.long q3), .second, .unset, .unset, .unset, .unset, .unset, .unset, .unset, .unset, .unset] [(.int (q0 &&& (1 : Int32)))])) _
      refine XS.ifNo X0.here hx rfl (hb hby at_3) rfl ((if0 _ _).trans (feq c2).1) ?_
      show Steps p.tables e below (s₁.setTop (mkF m 6 #[.val (.int q0), .val (.int q1), .val (.int q2), .val (.long q3), .second, .unset, .unset, .unset, .unset, .unset, .unset, .unset, .unset, .unset] [])) _
      refine XS.iconst X0.here hx rfl (hb hby at_6) ?_
      show Steps p.tables e below (s₁.setTop (mkF m 7 #[.val (.int q0), .val (.int q1), .val (.int q2), .val (.long q3), .second, .unset, .unset, .unset, .unset, .unset, .unset, .unset, .unset, .unset] [(.int (1 : Int32))])) _
      refine XS.goto X0.here hx rfl (pc0 := 7) (pc' := 11) rfl (hb hby at_7) (by decide) (by decide) ?_
      show Steps p.tables e below (s₁.setTop (mkF m 11 #[.val (.int q0), .val (.int q1), .val (.int q2), .val (.long q3), .second, .unset, .unset, .unset, .unset, .unset, .unset, .unset, .unset, .unset] [(.int (1 : Int32))])) _
      refine XS.istore X0.here hx rfl (hb hby at_11) rfl (l' := #[.val (.int q0), .val (.int q1), .val (.int q2), .val (.long q3), .second, .val (.int (1 : Int32)), .unset, .unset, .unset, .unset, .unset, .unset, .unset, .unset]) rfl ?_
      show Steps p.tables e below (s₁.setTop (mkF m 13 #[.val (.int q0), .val (.int q1), .val (.int q2), .val (.long q3), .second, .val (.int (1 : Int32)), .unset, .unset, .unset, .unset, .unset, .unset, .unset, .unset] [])) _
      refine XS.iloadN X0.here hx rfl (hb hby at_13) rfl ?_
      show Steps p.tables e below (s₁.setTop (mkF m 14 #[.val (.int q0), .val (.int q1), .val (.int q2), .val (.long q3), .second, .val (.int (1 : Int32)), .unset, .unset, .unset, .unset, .unset, .unset, .unset, .unset] [(.int q0)])) _
      refine XS.iconst X0.here hx rfl (hb hby at_14) ?_
      show Steps p.tables e below (s₁.setTop (mkF m 15 #[.val (.int q0), .val (.int q1), .val (.int q2), .val (.long q3), .second, .val (.int (1 : Int32)), .unset, .unset, .unset, .unset, .unset, .unset, .unset, .unset] [(.int (2 : Int32)), (.int q0)])) _
      refine XS.iand X0.here hx rfl (hb hby at_15) rfl ?_
      exact k
    by_cases c39 : (q0 &&& (2 : Int32)) = (0 : Int32)
    · obtain ⟨v40, hv40⟩ : ∃ z : Int32, z = ((q1 &&& (2147483647 : Int32)) % (129 : Int32)) := ⟨_, rfl⟩
      have pre41 : ∀ t, Steps p.tables e below (s₁.setTop (mkF m 50 #[.val (.int q0), .val (.int q1), .val (.int q2), .val (.long q3), .second, .val (.int (1 : Int32)), .val (.int (0 : Int32)), .val (.int (128 : Int32)), .unset, .unset, .unset, .unset, .unset, .unset] [(.int v40)])) t → Steps p.tables e below (s₁.setTop (entryFrame m #[(.int q0), (.int q1), (.int q2), (.long q3)] maxLocals)) t := by
        rw [hv40]
        intro t k
        refine pre38 t ?_
        show Steps p.tables e below (s₁.setTop (mkF m 16 #[.val (.int q0), .val (.int q1), .val (.int q2), .val (.long q3), .second, .val (.int (1 : Int32)), .unset, .unset, .unset, .unset, .unset, .unset, .unset, .unset] [(.int (q0 &&& (2 : Int32)))])) _
        refine XS.ifYes X0.here hx rfl (pc0 := 16) (pc' := 23) rfl (hb hby at_16) rfl ((if0 _ _).trans (teq c39).1) (by decide) (by decide) ?_
        show Steps p.tables e below (s₁.setTop (mkF m 23 #[.val (.int q0), .val (.int q1), .val (.int q2), .val (.long q3), .second, .val (.int (1 : Int32)), .unset, .unset, .unset, .unset, .unset, .unset, .unset, .unset] [])) _
        refine XS.iconst X0.here hx rfl (hb hby at_23) ?_
        show Steps p.tables e below (s₁.setTop (mkF m 24 #[.val (.int q0), .val (.int q1), .val (.int q2), .val (.long q3), .second, .val (.int (1 : Int32)), .unset, .unset, .unset, .unset, .unset, .unset, .unset, .unset] [(.int (0 : Int32))])) _
        refine XS.istore X0.here hx rfl (hb hby at_24) rfl (l' := #[.val (.int q0), .val (.int q1), .val (.int q2), .val (.long q3), .second, .val (.int (1 : Int32)), .val (.int (0 : Int32)), .unset, .unset, .unset, .unset, .unset, .unset, .unset]) rfl ?_
        show Steps p.tables e below (s₁.setTop (mkF m 26 #[.val (.int q0), .val (.int q1), .val (.int q2), .val (.long q3), .second, .val (.int (1 : Int32)), .val (.int (0 : Int32)), .unset, .unset, .unset, .unset, .unset, .unset, .unset] [])) _
        refine XS.iload X0.here hx rfl (hb hby at_26) rfl ?_
        show Steps p.tables e below (s₁.setTop (mkF m 28 #[.val (.int q0), .val (.int q1), .val (.int q2), .val (.long q3), .second, .val (.int (1 : Int32)), .val (.int (0 : Int32)), .unset, .unset, .unset, .unset, .unset, .unset, .unset] [(.int (1 : Int32))])) _
        refine XS.ifNo X0.here hx rfl (hb hby at_28) rfl (by decide) ?_
        show Steps p.tables e below (s₁.setTop (mkF m 31 #[.val (.int q0), .val (.int q1), .val (.int q2), .val (.long q3), .second, .val (.int (1 : Int32)), .val (.int (0 : Int32)), .unset, .unset, .unset, .unset, .unset, .unset, .unset] [])) _
        refine XS.sipush X0.here hx rfl (hb hby at_31) ?_
        show Steps p.tables e below (s₁.setTop (mkF m 34 #[.val (.int q0), .val (.int q1), .val (.int q2), .val (.long q3), .second, .val (.int (1 : Int32)), .val (.int (0 : Int32)), .unset, .unset, .unset, .unset, .unset, .unset, .unset] [(.int (128 : Int32))])) _
        refine XS.goto X0.here hx rfl (pc0 := 34) (pc' := 39) rfl (hb hby at_34) (by decide) (by decide) ?_
        show Steps p.tables e below (s₁.setTop (mkF m 39 #[.val (.int q0), .val (.int q1), .val (.int q2), .val (.long q3), .second, .val (.int (1 : Int32)), .val (.int (0 : Int32)), .unset, .unset, .unset, .unset, .unset, .unset, .unset] [(.int (128 : Int32))])) _
        refine XS.istore X0.here hx rfl (hb hby at_39) rfl (l' := #[.val (.int q0), .val (.int q1), .val (.int q2), .val (.long q3), .second, .val (.int (1 : Int32)), .val (.int (0 : Int32)), .val (.int (128 : Int32)), .unset, .unset, .unset, .unset, .unset, .unset]) rfl ?_
        show Steps p.tables e below (s₁.setTop (mkF m 41 #[.val (.int q0), .val (.int q1), .val (.int q2), .val (.long q3), .second, .val (.int (1 : Int32)), .val (.int (0 : Int32)), .val (.int (128 : Int32)), .unset, .unset, .unset, .unset, .unset, .unset] [])) _
        refine XS.iloadN X0.here hx rfl (hb hby at_41) rfl ?_
        show Steps p.tables e below (s₁.setTop (mkF m 42 #[.val (.int q0), .val (.int q1), .val (.int q2), .val (.long q3), .second, .val (.int (1 : Int32)), .val (.int (0 : Int32)), .val (.int (128 : Int32)), .unset, .unset, .unset, .unset, .unset, .unset] [(.int q1)])) _
        refine X0.ldcInt hx hown (mvT hZ (hw _ (List.mem_of_getElem? (i := 0) rfl))) (g := (mkF m 42 #[.val (.int q0), .val (.int q1), .val (.int q2), .val (.long q3), .second, .val (.int (1 : Int32)), .val (.int (0 : Int32)), .val (.int (128 : Int32)), .unset, .unset, .unset, .unset, .unset, .unset] [(.int q1)])) rfl (hb hby at_42) _ ?_
        show Steps p.tables e below (s₁.setTop (mkF m 44 #[.val (.int q0), .val (.int q1), .val (.int q2), .val (.long q3), .second, .val (.int (1 : Int32)), .val (.int (0 : Int32)), .val (.int (128 : Int32)), .unset, .unset, .unset, .unset, .unset, .unset] [(.int (2147483647 : Int32)), (.int q1)])) _
        refine XS.iand X0.here hx rfl (hb hby at_44) rfl ?_
        show Steps p.tables e below (s₁.setTop (mkF m 45 #[.val (.int q0), .val (.int q1), .val (.int q2), .val (.long q3), .second, .val (.int (1 : Int32)), .val (.int (0 : Int32)), .val (.int (128 : Int32)), .unset, .unset, .unset, .unset, .unset, .unset] [(.int (q1 &&& (2147483647 : Int32)))])) _
        refine XS.iload X0.here hx rfl (hb hby at_45) rfl ?_
        show Steps p.tables e below (s₁.setTop (mkF m 47 #[.val (.int q0), .val (.int q1), .val (.int q2), .val (.long q3), .second, .val (.int (1 : Int32)), .val (.int (0 : Int32)), .val (.int (128 : Int32)), .unset, .unset, .unset, .unset, .unset, .unset] [(.int (128 : Int32)), (.int (q1 &&& (2147483647 : Int32)))])) _
        refine XS.iconst X0.here hx rfl (hb hby at_47) ?_
        show Steps p.tables e below (s₁.setTop (mkF m 48 #[.val (.int q0), .val (.int q1), .val (.int q2), .val (.long q3), .second, .val (.int (1 : Int32)), .val (.int (0 : Int32)), .val (.int (128 : Int32)), .unset, .unset, .unset, .unset, .unset, .unset] [(.int (1 : Int32)), (.int (128 : Int32)), (.int (q1 &&& (2147483647 : Int32)))])) _
        refine XS.iadd X0.here hx rfl (hb hby at_48) rfl ?_
        show Steps p.tables e below (s₁.setTop (mkF m 49 #[.val (.int q0), .val (.int q1), .val (.int q2), .val (.long q3), .second, .val (.int (1 : Int32)), .val (.int (0 : Int32)), .val (.int (128 : Int32)), .unset, .unset, .unset, .unset, .unset, .unset] [(.int (129 : Int32)), (.int (q1 &&& (2147483647 : Int32)))])) _
        refine iremM X0 hx rfl (hb hby at_49) rfl (by decide) ?_
        exact k
      have nz_63_42 : ¬ ((((128 : Int32) - v40) + (1 : Int32)) = (0 : Int32)) := (own_nzT (by assumption) (by decide))
      obtain ⟨v43, hv43⟩ : ∃ z : Int32, z = ((q2 &&& (2147483647 : Int32)) % (((128 : Int32) - v40) + (1 : Int32))) := ⟨_, rfl⟩
      have pre44 : ∀ t, Steps p.tables e below (s₁.setTop (mkF m 64 #[.val (.int q0), .val (.int q1), .val (.int q2), .val (.long q3), .second, .val (.int (1 : Int32)), .val (.int (0 : Int32)), .val (.int (128 : Int32)), .val (.int v40), .unset, .unset, .unset, .unset, .unset] [(.int v43)])) t → Steps p.tables e below (s₁.setTop (entryFrame m #[(.int q0), (.int q1), (.int q2), (.long q3)] maxLocals)) t := by
        rw [hv43]
        intro t k
        refine pre41 t ?_
        show Steps p.tables e below (s₁.setTop (mkF m 50 #[.val (.int q0), .val (.int q1), .val (.int q2), .val (.long q3), .second, .val (.int (1 : Int32)), .val (.int (0 : Int32)), .val (.int (128 : Int32)), .unset, .unset, .unset, .unset, .unset, .unset] [(.int v40)])) _
        refine XS.istore X0.here hx rfl (hb hby at_50) rfl (l' := #[.val (.int q0), .val (.int q1), .val (.int q2), .val (.long q3), .second, .val (.int (1 : Int32)), .val (.int (0 : Int32)), .val (.int (128 : Int32)), .val (.int v40), .unset, .unset, .unset, .unset, .unset]) rfl ?_
        show Steps p.tables e below (s₁.setTop (mkF m 52 #[.val (.int q0), .val (.int q1), .val (.int q2), .val (.long q3), .second, .val (.int (1 : Int32)), .val (.int (0 : Int32)), .val (.int (128 : Int32)), .val (.int v40), .unset, .unset, .unset, .unset, .unset] [])) _
        refine XS.iloadN X0.here hx rfl (hb hby at_52) rfl ?_
        show Steps p.tables e below (s₁.setTop (mkF m 53 #[.val (.int q0), .val (.int q1), .val (.int q2), .val (.long q3), .second, .val (.int (1 : Int32)), .val (.int (0 : Int32)), .val (.int (128 : Int32)), .val (.int v40), .unset, .unset, .unset, .unset, .unset] [(.int q2)])) _
        refine X0.ldcInt hx hown (mvT hZ (hw _ (List.mem_of_getElem? (i := 0) rfl))) (g := (mkF m 53 #[.val (.int q0), .val (.int q1), .val (.int q2), .val (.long q3), .second, .val (.int (1 : Int32)), .val (.int (0 : Int32)), .val (.int (128 : Int32)), .val (.int v40), .unset, .unset, .unset, .unset, .unset] [(.int q2)])) rfl (hb hby at_53) _ ?_
        show Steps p.tables e below (s₁.setTop (mkF m 55 #[.val (.int q0), .val (.int q1), .val (.int q2), .val (.long q3), .second, .val (.int (1 : Int32)), .val (.int (0 : Int32)), .val (.int (128 : Int32)), .val (.int v40), .unset, .unset, .unset, .unset, .unset] [(.int (2147483647 : Int32)), (.int q2)])) _
        refine XS.iand X0.here hx rfl (hb hby at_55) rfl ?_
        show Steps p.tables e below (s₁.setTop (mkF m 56 #[.val (.int q0), .val (.int q1), .val (.int q2), .val (.long q3), .second, .val (.int (1 : Int32)), .val (.int (0 : Int32)), .val (.int (128 : Int32)), .val (.int v40), .unset, .unset, .unset, .unset, .unset] [(.int (q2 &&& (2147483647 : Int32)))])) _
        refine XS.iload X0.here hx rfl (hb hby at_56) rfl ?_
        show Steps p.tables e below (s₁.setTop (mkF m 58 #[.val (.int q0), .val (.int q1), .val (.int q2), .val (.long q3), .second, .val (.int (1 : Int32)), .val (.int (0 : Int32)), .val (.int (128 : Int32)), .val (.int v40), .unset, .unset, .unset, .unset, .unset] [(.int (128 : Int32)), (.int (q2 &&& (2147483647 : Int32)))])) _
        refine XS.iload X0.here hx rfl (hb hby at_58) rfl ?_
        show Steps p.tables e below (s₁.setTop (mkF m 60 #[.val (.int q0), .val (.int q1), .val (.int q2), .val (.long q3), .second, .val (.int (1 : Int32)), .val (.int (0 : Int32)), .val (.int (128 : Int32)), .val (.int v40), .unset, .unset, .unset, .unset, .unset] [(.int v40), (.int (128 : Int32)), (.int (q2 &&& (2147483647 : Int32)))])) _
        refine XS.isub X0.here hx rfl (hb hby at_60) rfl ?_
        show Steps p.tables e below (s₁.setTop (mkF m 61 #[.val (.int q0), .val (.int q1), .val (.int q2), .val (.long q3), .second, .val (.int (1 : Int32)), .val (.int (0 : Int32)), .val (.int (128 : Int32)), .val (.int v40), .unset, .unset, .unset, .unset, .unset] [(.int ((128 : Int32) - v40)), (.int (q2 &&& (2147483647 : Int32)))])) _
        refine XS.iconst X0.here hx rfl (hb hby at_61) ?_
        show Steps p.tables e below (s₁.setTop (mkF m 62 #[.val (.int q0), .val (.int q1), .val (.int q2), .val (.long q3), .second, .val (.int (1 : Int32)), .val (.int (0 : Int32)), .val (.int (128 : Int32)), .val (.int v40), .unset, .unset, .unset, .unset, .unset] [(.int (1 : Int32)), (.int ((128 : Int32) - v40)), (.int (q2 &&& (2147483647 : Int32)))])) _
        refine XS.iadd X0.here hx rfl (hb hby at_62) rfl ?_
        show Steps p.tables e below (s₁.setTop (mkF m 63 #[.val (.int q0), .val (.int q1), .val (.int q2), .val (.long q3), .second, .val (.int (1 : Int32)), .val (.int (0 : Int32)), .val (.int (128 : Int32)), .val (.int v40), .unset, .unset, .unset, .unset, .unset] [(.int (((128 : Int32) - v40) + (1 : Int32))), (.int (q2 &&& (2147483647 : Int32)))])) _
        refine iremM X0 hx rfl (hb hby at_63) rfl nz_63_42 ?_
        exact k
      obtain ⟨T45, h45, X45, e45, E45, A45, D45, -, st45⟩ := newO X0 hx hZ hown (hw _ (List.mem_of_getElem? (i := 1) rfl)) (hw _ (List.mem_of_getElem? (i := 2) rfl)) (hw _ (List.mem_of_getElem? (i := 3) rfl)) e0 (g := (mkF m 82 #[.val (.int q0), .val (.int q1), .val (.int q2), .val (.long q3), .second, .val (.int (1 : Int32)), .val (.int (0 : Int32)), .val (.int (128 : Int32)), .val (.int v40), .val (.int v43), .val (.int (-1 : Int32)), .unset, .unset, .unset] [])) rfl (hb hby at_82) (by decide) (by decide)
      obtain ⟨a45, g45⟩ : ∃ z, z = h0.size := ⟨_, rfl⟩
      rw [← g45] at A45 D45 st45
      have ge_a45 : n0 ≤ a45 := g45 ▸ Z0
      have sz45 : n0 ≤ h45.size := Nat.le_trans Z0 E45.1
      have F45_n0 : Fld Z h45 a45 "com/example/stillframe/stillframe/ccr/IpPrefix" "address" "[B" .null := D45 (Or.inr (hw _ (List.mem_of_getElem? (i := 12) rfl))) (ty := (.array .byte)) (by decide)
      have F45_n1 : Fld Z h45 a45 "com/example/stillframe/stillframe/ccr/IpPrefix" "length" "I" (.int (0 : Int32)) := D45 (Or.inr (hw _ (List.mem_of_getElem? (i := 14) rfl))) (ty := .int) (by decide)
      obtain ⟨T46, h46, cA46, X46, e46, E46, A46, st46⟩ := newP X45 hx hZ (aty := .byte) (hw _ (List.mem_of_getElem? (i := 4) rfl)) e45 (g := (mkF m 97 #[.val (.int q0), .val (.int q1), .val (.int q2), .val (.long q3), .second, .val (.int (1 : Int32)), .val (.int (0 : Int32)), .val (.int (128 : Int32)), .val (.int v40), .val (.int v43), .val (.int (-1 : Int32)), .unset, .unset, .unset] [(.int (16 : Int32)), (.ref a45), (.ref a45)])) rfl (hb hby at_97) rfl (by decide) (cap := 16) (by decide) (by decide) (by decide) (by decide)
      obtain ⟨a46, g46⟩ : ∃ z, z = h45.size := ⟨_, rfl⟩
      rw [← g46] at A46 st46
      have ne_a45_a46 : a45 ≠ a46 := g46 ▸ Nat.ne_of_lt A45.lt
      have ge_a46 : n0 ≤ a46 := g46 ▸ sz45
      have A46_a45 : Exa Z h46 a45 "com/example/stillframe/stillframe/ccr/IpPrefix" := A45.ext E46
      have F46_a45_0 : Fld Z h46 a45 "com/example/stillframe/stillframe/ccr/IpPrefix" "address" "[B" .null := F45_n0.ext E46
      have F46_a45_1 : Fld Z h46 a45 "com/example/stillframe/stillframe/ccr/IpPrefix" "length" "I" (.int (0 : Int32)) := F45_n1.ext E46
      have sz46 : n0 ≤ h46.size := Nat.le_trans sz45 E46.1
      have V46_n : own_AI Z h46 a46 .byte [(0 : Int32), (0 : Int32), (0 : Int32), (0 : Int32), (0 : Int32), (0 : Int32), (0 : Int32), (0 : Int32), (0 : Int32), (0 : Int32), (0 : Int32), (0 : Int32), (0 : Int32), (0 : Int32), (0 : Int32), (0 : Int32)] := own_AIbyte_new A46 (k := 16) (by decide)
      obtain ⟨_, _, ⟨T47, L47, k47, n47⟩, -, X47, ⟨Lc47, hQ47, l47, y47, z47⟩, st47⟩ := X46.specialBack hx (y := (⟨"com/example/stillframe/stillframe/ccr/IpPrefix", "<init>", "([BI)V"⟩ : MethodName)) rfl hown (mvT hZ (hw _ (List.mem_of_getElem? (i := 5) rfl))) (mvT hZ (hw _ (List.mem_of_getElem? (i := 6) rfl))) (mvT hZ (hw _ (List.mem_of_getElem? (i := 7) rfl))) (by decide) (backOf (W := 1) (rm1 l Z a0 hw [] a45 a46 v40  h46 n0 sz46 A46_a45 F46_a45_0 F46_a45_1 ge_a45 ) hZ (hw _ (List.mem_of_getElem? (i := 7) rfl)) (hw _ (List.mem_of_getElem? (i := 3) rfl)) (by decide) (by decide)) (g := (mkF m 101 #[.val (.int q0), .val (.int q1), .val (.int q2), .val (.long q3), .second, .val (.int (1 : Int32)), .val (.int (0 : Int32)), .val (.int (128 : Int32)), .val (.int v40), .val (.int v43), .val (.int (-1 : Int32)), .unset, .unset, .unset] [(.int v40), (.ref a46), (.ref a45), (.ref a45)])) rfl (by rw [hml]; rfl) (Steps.refl _) (a := a45) (argsL := [(.ref a46), (.int v40)]) (rest := [(.ref a45)]) (lenOf pd_8 rfl) rfl (by show 2 * 0 + _ ≤ _; exact Nat.le_of_eq rfl) (hb hby at_101) (fun _ _ => ⟨rfl, e46, (by decide : 2 + 0 ≤ _), (by decide : 18 + 0 ≤ _)⟩)
      dsimp only [Pt.U, Pt.locs, Pt.cells, Pt.slots] at X47 l47 y47 z47 st47 hQ47
      subst l47 y47 z47
      obtain ⟨rfl, N47q, K47, A47_o0, F47_o0, F47_o1⟩ := hQ47
      obtain ⟨h47, e47⟩ : ∃ z, T47.heap = z := ⟨_, rfl⟩
      rw [e47] at K47 A47_o0 F47_o0 F47_o1
      have V47_a46 : own_AI Z h47 a46 .byte [(0 : Int32), (0 : Int32), (0 : Int32), (0 : Int32), (0 : Int32), (0 : Int32), (0 : Int32), (0 : Int32), (0 : Int32), (0 : Int32), (0 : Int32), (0 : Int32), (0 : Int32), (0 : Int32), (0 : Int32), (0 : Int32)] := V46_n.keep K47 (ninS (Ne.symm ne_a45_a46) nin0)
      have A47_a45 : Exa Z h47 a45 "com/example/stillframe/stillframe/ccr/IpPrefix" := A46_a45.keep K47
      have sz47 : n0 ≤ h47.size := Nat.le_trans sz46 K47.1
      have N47 := Fr.app N0 N47q
      obtain ⟨T48, h48, X48, e48, E48, A48, D48, -, st48⟩ := newO X47 hx hZ hown (hw _ (List.mem_of_getElem? (i := 15) rfl)) (hw _ (List.mem_of_getElem? (i := 16) rfl)) (hw _ (List.mem_of_getElem? (i := 17) rfl)) e47 (g := (mkF m 106 #[.val (.int q0), .val (.int q1), .val (.int q2), .val (.long q3), .second, .val (.int (1 : Int32)), .val (.int (0 : Int32)), .val (.int (128 : Int32)), .val (.int v40), .val (.int v43), .val (.int (-1 : Int32)), .val (.ref a45), .unset, .unset] [])) rfl (hb hby at_106) (by decide) (by decide)
      obtain ⟨a48, g48⟩ : ∃ z, z = h47.size := ⟨_, rfl⟩
      rw [← g48] at A48 D48 st48
      have ne_a46_a48 : a46 ≠ a48 := g48 ▸ Nat.ne_of_lt V47_a46.lt
      have ne_a45_a48 : a45 ≠ a48 := g48 ▸ Nat.ne_of_lt A47_o0.lt
      have ge_a48 : n0 ≤ a48 := g48 ▸ sz47
      have V48_a46 : own_AI Z h48 a46 .byte [(0 : Int32), (0 : Int32), (0 : Int32), (0 : Int32), (0 : Int32), (0 : Int32), (0 : Int32), (0 : Int32), (0 : Int32), (0 : Int32), (0 : Int32), (0 : Int32), (0 : Int32), (0 : Int32), (0 : Int32), (0 : Int32)] := V47_a46.ext E48
      have A48_a45 : Exa Z h48 a45 "com/example/stillframe/stillframe/ccr/IpPrefix" := A47_o0.ext E48
      have F48_a45_0 : Fld Z h48 a45 "com/example/stillframe/stillframe/ccr/IpPrefix" "address" "[B" (.ref a46) := F47_o0.ext E48
      have F48_a45_1 : Fld Z h48 a45 "com/example/stillframe/stillframe/ccr/IpPrefix" "length" "I" (.int v40) := F47_o1.ext E48
      have sz48 : n0 ≤ h48.size := Nat.le_trans sz47 E48.1
      have F48_n0 : Fld Z h48 a48 "com/example/stillframe/stillframe/ccr/RoaPayload" "asn" "J" (.long (0 : Int64)) := D48 (Or.inr (hw _ (List.mem_of_getElem? (i := 24) rfl))) (ty := .long) (by decide)
      have F48_n1 : Fld Z h48 a48 "com/example/stillframe/stillframe/ccr/RoaPayload" "prefix" "Lcom/example/stillframe/stillframe/ccr/IpPrefix;" .null := D48 (Or.inr (hw _ (List.mem_of_getElem? (i := 26) rfl))) (ty := (.object "com/example/stillframe/stillframe/ccr/IpPrefix")) (by decide)
      have F48_n2 : Fld Z h48 a48 "com/example/stillframe/stillframe/ccr/RoaPayload" "maxLength" "I" (.int (0 : Int32)) := D48 (Or.inr (hw _ (List.mem_of_getElem? (i := 28) rfl))) (ty := .int) (by decide)
      obtain ⟨_, _, ⟨T49, L49, k49, n49⟩, -, X49, ⟨Lc49, hQ49, l49, y49, z49⟩, st49⟩ := X48.specialBack hx (y := (⟨"com/example/stillframe/stillframe/ccr/RoaPayload", "<init>", "(JLcom/example/stillframe/stillframe/ccr/IpPrefix;I)V"⟩ : MethodName)) rfl hown (mvT hZ (hw _ (List.mem_of_getElem? (i := 19) rfl))) (mvT hZ (hw _ (List.mem_of_getElem? (i := 20) rfl))) (mvT hZ (hw _ (List.mem_of_getElem? (i := 21) rfl))) (by decide) (backOf (W := 1) (rm3 l Z a0 hw [] a48 (q3 &&& (4294967295 : Int64)) a45 (-1 : Int32)  h48 n0 sz48 A48 F48_n0 F48_n1 F48_n2 ge_a48 ) hZ (hw _ (List.mem_of_getElem? (i := 21) rfl)) (hw _ (List.mem_of_getElem? (i := 17) rfl)) (by decide) (by decide)) (g := (mkF m 119 #[.val (.int q0), .val (.int q1), .val (.int q2), .val (.long q3), .second, .val (.int (1 : Int32)), .val (.int (0 : Int32)), .val (.int (128 : Int32)), .val (.int v40), .val (.int v43), .val (.int (-1 : Int32)), .val (.ref a45), .unset, .unset] [(.int (-1 : Int32)), (.ref a45), (.long (q3 &&& (4294967295 : Int64))), (.ref a48), (.ref a48)])) rfl (by rw [hml]; rfl) (Steps.refl _) (a := a48) (argsL := [(.long (q3 &&& (4294967295 : Int64))), (.ref a45), (.int (-1 : Int32))]) (rest := [(.ref a48)]) (lenOf pd_9 rfl) rfl (by show 2 * 0 + _ ≤ _; exact Nat.le_of_eq rfl) (hb hby at_119) (fun _ _ => ⟨rfl, e48, (by decide : 3 + 0 ≤ _), (by decide : 21 + 0 ≤ _)⟩)
      dsimp only [Pt.U, Pt.locs, Pt.cells, Pt.slots] at X49 l49 y49 z49 st49 hQ49
      subst l49 y49 z49
      obtain ⟨rfl, N49q, K49, A49_o0, F49_o0, F49_o1, F49_o2⟩ := hQ49
      obtain ⟨h49, e49⟩ : ∃ z, T49.heap = z := ⟨_, rfl⟩
      rw [e49] at K49 A49_o0 F49_o0 F49_o1 F49_o2
      have V49_a46 : own_AI Z h49 a46 .byte [(0 : Int32), (0 : Int32), (0 : Int32), (0 : Int32), (0 : Int32), (0 : Int32), (0 : Int32), (0 : Int32), (0 : Int32), (0 : Int32), (0 : Int32), (0 : Int32), (0 : Int32), (0 : Int32), (0 : Int32), (0 : Int32)] := V48_a46.keep K49 (ninS ne_a46_a48 nin0)
      have A49_a45 : Exa Z h49 a45 "com/example/stillframe/stillframe/ccr/IpPrefix" := A48_a45.keep K49
      have F49_a45_0 : Fld Z h49 a45 "com/example/stillframe/stillframe/ccr/IpPrefix" "address" "[B" (.ref a46) := F48_a45_0.keep K49 (ninS ne_a45_a48 nin0)
      have F49_a45_1 : Fld Z h49 a45 "com/example/stillframe/stillframe/ccr/IpPrefix" "length" "I" (.int v40) := F48_a45_1.keep K49 (ninS ne_a45_a48 nin0)
      have A49_a48 : Exa Z h49 a48 "com/example/stillframe/stillframe/ccr/RoaPayload" := A48.keep K49
      have sz49 : n0 ≤ h49.size := Nat.le_trans sz48 K49.1
      have N49 := Fr.app N47 N49q
      obtain ⟨cq50, kq50, q50a, q50b, q50c⟩ := isOf hZ e49 A49_o0
      obtain ⟨_, _, ⟨T50, L50, k50, n50⟩, -, X50, ⟨Lc50, hQ50, l50, y50, z50⟩, st50⟩ := X49.virtualBack hx (y := (⟨"com/example/stillframe/stillframe/ccr/RoaPayload", "redundantMaxLength", "()Z"⟩ : MethodName)) (z := (⟨"com/example/stillframe/stillframe/ccr/RoaPayload", "redundantMaxLength", "()Z"⟩ : MethodName)) hown (mvT hZ (hw _ (List.mem_of_getElem? (i := 29) rfl))) (mvT hZ (hw _ (List.mem_of_getElem? (i := 30) rfl))) (notFace_of_selects (args := #[]) (mvT hZ (hw _ (List.mem_of_getElem? (i := 32) rfl)))) (mvT hZ (hw _ (List.mem_of_getElem? (i := 32) rfl))) (mvT hZ (hw _ (List.mem_of_getElem? (i := 31) rfl))) (by decide) (backOf (W := 0) (rm4 l Z a0 hw [] a48 a45 ((-1 : Int32)) v40 h49 n0 sz49 A49_o0 A49_a45 F49_o1 F49_o2 F49_a45_1 ) hZ (hw _ (List.mem_of_getElem? (i := 33) rfl)) (hw _ (List.mem_of_getElem? (i := 17) rfl)) (by decide) (by decide)) q50a q50c (g := (mkF m 143 #[.val (.int q0), .val (.int q1), .val (.int q2), .val (.long q3), .second, .val (.int (1 : Int32)), .val (.int (0 : Int32)), .val (.int (128 : Int32)), .val (.int v40), .val (.int v43), .val (.int (-1 : Int32)), .val (.ref a45), .val (.ref a48), .val (.int (0 : Int32))] [(.ref a48)])) rfl (by rw [hml]; rfl) (Steps.refl _) (argsL := []) (rest := []) (lenOf pd_10 rfl) rfl (by show 2 * 0 + _ ≤ _; exact Nat.le_of_eq rfl) (hb hby at_143) (fun _ _ => ⟨rfl, e49, (by decide : 3 + 0 ≤ _), (by decide : 21 + 0 ≤ _)⟩)
      dsimp only [Pt.U, Pt.locs, Pt.cells, Pt.slots] at X50 l50 y50 z50 st50 hQ50
      subst l50 y50 z50
      obtain ⟨rfl, N50q, e50⟩ := hQ50
      have N50 := Fr.app N49 N50q
      have pre51 : ∀ t, Steps p.tables e below (T50.setTop (mkF m 148 #[.val (.int q0), .val (.int q1), .val (.int q2), .val (.long q3), .second, .val (.int (1 : Int32)), .val (.int (0 : Int32)), .val (.int (128 : Int32)), .val (.int v40), .val (.int v43), .val (.int (-1 : Int32)), .val (.ref a45), .val (.ref a48), .val (.int (0 : Int32))] [(.int (0 : Int32)), (.int (own_f4  ((-1 : Int32)) v40))])) t → Steps p.tables e below (s₁.setTop (entryFrame m #[(.int q0), (.int q1), (.int q2), (.long q3)] maxLocals)) t := by
        intro t k
        refine pre44 t ?_
        show Steps p.tables e below (s₁.setTop (mkF m 64 #[.val (.int q0), .val (.int q1), .val (.int q2), .val (.long q3), .second, .val (.int (1 : Int32)), .val (.int (0 : Int32)), .val (.int (128 : Int32)), .val (.int v40), .unset, .unset, .unset, .unset, .unset] [(.int v43)])) _
        refine XS.istore X0.here hx rfl (hb hby at_64) rfl (l' := #[.val (.int q0), .val (.int q1), .val (.int q2), .val (.long q3), .second, .val (.int (1 : Int32)), .val (.int (0 : Int32)), .val (.int (128 : Int32)), .val (.int v40), .val (.int v43), .unset, .unset, .unset, .unset]) rfl ?_
        show Steps p.tables e below (s₁.setTop (mkF m 66 #[.val (.int q0), .val (.int q1), .val (.int q2), .val (.long q3), .second, .val (.int (1 : Int32)), .val (.int (0 : Int32)), .val (.int (128 : Int32)), .val (.int v40), .val (.int v43), .unset, .unset, .unset, .unset] [])) _
        refine XS.iload X0.here hx rfl (hb hby at_66) rfl ?_
        show Steps p.tables e below (s₁.setTop (mkF m 68 #[.val (.int q0), .val (.int q1), .val (.int q2), .val (.long q3), .second, .val (.int (1 : Int32)), .val (.int (0 : Int32)), .val (.int (128 : Int32)), .val (.int v40), .val (.int v43), .unset, .unset, .unset, .unset] [(.int (0 : Int32))])) _
        refine XS.ifYes X0.here hx rfl (pc0 := 68) (pc' := 79) rfl (hb hby at_68) rfl (by decide) (by decide) (by decide) ?_
        show Steps p.tables e below (s₁.setTop (mkF m 79 #[.val (.int q0), .val (.int q1), .val (.int q2), .val (.long q3), .second, .val (.int (1 : Int32)), .val (.int (0 : Int32)), .val (.int (128 : Int32)), .val (.int v40), .val (.int v43), .unset, .unset, .unset, .unset] [])) _
        refine XS.iconst X0.here hx rfl (hb hby at_79) ?_
        show Steps p.tables e below (s₁.setTop (mkF m 80 #[.val (.int q0), .val (.int q1), .val (.int q2), .val (.long q3), .second, .val (.int (1 : Int32)), .val (.int (0 : Int32)), .val (.int (128 : Int32)), .val (.int v40), .val (.int v43), .unset, .unset, .unset, .unset] [(.int (-1 : Int32))])) _
        refine XS.istore X0.here hx rfl (hb hby at_80) rfl (l' := #[.val (.int q0), .val (.int q1), .val (.int q2), .val (.long q3), .second, .val (.int (1 : Int32)), .val (.int (0 : Int32)), .val (.int (128 : Int32)), .val (.int v40), .val (.int v43), .val (.int (-1 : Int32)), .unset, .unset, .unset]) rfl ?_
        show Steps p.tables e below (s₁.setTop (mkF m 82 #[.val (.int q0), .val (.int q1), .val (.int q2), .val (.long q3), .second, .val (.int (1 : Int32)), .val (.int (0 : Int32)), .val (.int (128 : Int32)), .val (.int v40), .val (.int v43), .val (.int (-1 : Int32)), .unset, .unset, .unset] [])) _
        refine st45 _ ?_
        show Steps p.tables e below (T45.setTop (mkF m 85 #[.val (.int q0), .val (.int q1), .val (.int q2), .val (.long q3), .second, .val (.int (1 : Int32)), .val (.int (0 : Int32)), .val (.int (128 : Int32)), .val (.int v40), .val (.int v43), .val (.int (-1 : Int32)), .unset, .unset, .unset] [(.ref a45)])) _
        refine XS.dup X45.here hx rfl (hb hby at_85) rfl rfl ?_
        show Steps p.tables e below (T45.setTop (mkF m 86 #[.val (.int q0), .val (.int q1), .val (.int q2), .val (.long q3), .second, .val (.int (1 : Int32)), .val (.int (0 : Int32)), .val (.int (128 : Int32)), .val (.int v40), .val (.int v43), .val (.int (-1 : Int32)), .unset, .unset, .unset] [(.ref a45), (.ref a45)])) _
        refine XS.iload X45.here hx rfl (hb hby at_86) rfl ?_
        show Steps p.tables e below (T45.setTop (mkF m 88 #[.val (.int q0), .val (.int q1), .val (.int q2), .val (.long q3), .second, .val (.int (1 : Int32)), .val (.int (0 : Int32)), .val (.int (128 : Int32)), .val (.int v40), .val (.int v43), .val (.int (-1 : Int32)), .unset, .unset, .unset] [(.int (1 : Int32)), (.ref a45), (.ref a45)])) _
        refine XS.ifNo X45.here hx rfl (hb hby at_88) rfl (by decide) ?_
        show Steps p.tables e below (T45.setTop (mkF m 91 #[.val (.int q0), .val (.int q1), .val (.int q2), .val (.long q3), .second, .val (.int (1 : Int32)), .val (.int (0 : Int32)), .val (.int (128 : Int32)), .val (.int v40), .val (.int v43), .val (.int (-1 : Int32)), .unset, .unset, .unset] [(.ref a45), (.ref a45)])) _
        refine XS.bipush X45.here hx rfl (hb hby at_91) ?_
        show Steps p.tables e below (T45.setTop (mkF m 93 #[.val (.int q0), .val (.int q1), .val (.int q2), .val (.long q3), .second, .val (.int (1 : Int32)), .val (.int (0 : Int32)), .val (.int (128 : Int32)), .val (.int v40), .val (.int v43), .val (.int (-1 : Int32)), .unset, .unset, .unset] [(.int (16 : Int32)), (.ref a45), (.ref a45)])) _
        refine XS.goto X45.here hx rfl (pc0 := 93) (pc' := 97) rfl (hb hby at_93) (by decide) (by decide) ?_
        show Steps p.tables e below (T45.setTop (mkF m 97 #[.val (.int q0), .val (.int q1), .val (.int q2), .val (.long q3), .second, .val (.int (1 : Int32)), .val (.int (0 : Int32)), .val (.int (128 : Int32)), .val (.int v40), .val (.int v43), .val (.int (-1 : Int32)), .unset, .unset, .unset] [(.int (16 : Int32)), (.ref a45), (.ref a45)])) _
        refine st46 _ ?_
        show Steps p.tables e below (T46.setTop (mkF m 99 #[.val (.int q0), .val (.int q1), .val (.int q2), .val (.long q3), .second, .val (.int (1 : Int32)), .val (.int (0 : Int32)), .val (.int (128 : Int32)), .val (.int v40), .val (.int v43), .val (.int (-1 : Int32)), .unset, .unset, .unset] [(.ref a46), (.ref a45), (.ref a45)])) _
        refine XS.iload X46.here hx rfl (hb hby at_99) rfl ?_
        show Steps p.tables e below (T46.setTop (mkF m 101 #[.val (.int q0), .val (.int q1), .val (.int q2), .val (.long q3), .second, .val (.int (1 : Int32)), .val (.int (0 : Int32)), .val (.int (128 : Int32)), .val (.int v40), .val (.int v43), .val (.int (-1 : Int32)), .unset, .unset, .unset] [(.int v40), (.ref a46), (.ref a45), (.ref a45)])) _
        refine st47.trans ?_
        show Steps p.tables e below (T47.setTop (mkF m 104 #[.val (.int q0), .val (.int q1), .val (.int q2), .val (.long q3), .second, .val (.int (1 : Int32)), .val (.int (0 : Int32)), .val (.int (128 : Int32)), .val (.int v40), .val (.int v43), .val (.int (-1 : Int32)), .unset, .unset, .unset] [(.ref a45)])) _
        refine XS.astore X47.here hx rfl (hb hby at_104) rfl rfl (l' := #[.val (.int q0), .val (.int q1), .val (.int q2), .val (.long q3), .second, .val (.int (1 : Int32)), .val (.int (0 : Int32)), .val (.int (128 : Int32)), .val (.int v40), .val (.int v43), .val (.int (-1 : Int32)), .val (.ref a45), .unset, .unset]) rfl ?_
        show Steps p.tables e below (T47.setTop (mkF m 106 #[.val (.int q0), .val (.int q1), .val (.int q2), .val (.long q3), .second, .val (.int (1 : Int32)), .val (.int (0 : Int32)), .val (.int (128 : Int32)), .val (.int v40), .val (.int v43), .val (.int (-1 : Int32)), .val (.ref a45), .unset, .unset] [])) _
        refine st48 _ ?_
        show Steps p.tables e below (T48.setTop (mkF m 109 #[.val (.int q0), .val (.int q1), .val (.int q2), .val (.long q3), .second, .val (.int (1 : Int32)), .val (.int (0 : Int32)), .val (.int (128 : Int32)), .val (.int v40), .val (.int v43), .val (.int (-1 : Int32)), .val (.ref a45), .unset, .unset] [(.ref a48)])) _
        refine XS.dup X48.here hx rfl (hb hby at_109) rfl rfl ?_
        show Steps p.tables e below (T48.setTop (mkF m 110 #[.val (.int q0), .val (.int q1), .val (.int q2), .val (.long q3), .second, .val (.int (1 : Int32)), .val (.int (0 : Int32)), .val (.int (128 : Int32)), .val (.int v40), .val (.int v43), .val (.int (-1 : Int32)), .val (.ref a45), .unset, .unset] [(.ref a48), (.ref a48)])) _
        refine XS.lloadN X48.here hx rfl (hb hby at_110) rfl ?_
        show Steps p.tables e below (T48.setTop (mkF m 111 #[.val (.int q0), .val (.int q1), .val (.int q2), .val (.long q3), .second, .val (.int (1 : Int32)), .val (.int (0 : Int32)), .val (.int (128 : Int32)), .val (.int v40), .val (.int v43), .val (.int (-1 : Int32)), .val (.ref a45), .unset, .unset] [(.long q3), (.ref a48), (.ref a48)])) _
        refine X48.ldc2Long hx hown (mvT hZ (hw _ (List.mem_of_getElem? (i := 18) rfl))) (g := (mkF m 111 #[.val (.int q0), .val (.int q1), .val (.int q2), .val (.long q3), .second, .val (.int (1 : Int32)), .val (.int (0 : Int32)), .val (.int (128 : Int32)), .val (.int v40), .val (.int v43), .val (.int (-1 : Int32)), .val (.ref a45), .unset, .unset] [(.long q3), (.ref a48), (.ref a48)])) rfl (hb hby at_111) _ ?_
        show Steps p.tables e below (T48.setTop (mkF m 114 #[.val (.int q0), .val (.int q1), .val (.int q2), .val (.long q3), .second, .val (.int (1 : Int32)), .val (.int (0 : Int32)), .val (.int (128 : Int32)), .val (.int v40), .val (.int v43), .val (.int (-1 : Int32)), .val (.ref a45), .unset, .unset] [(.long (4294967295 : Int64)), (.long q3), (.ref a48), (.ref a48)])) _
        refine XS.land X48.here hx rfl (hb hby at_114) rfl ?_
        show Steps p.tables e below (T48.setTop (mkF m 115 #[.val (.int q0), .val (.int q1), .val (.int q2), .val (.long q3), .second, .val (.int (1 : Int32)), .val (.int (0 : Int32)), .val (.int (128 : Int32)), .val (.int v40), .val (.int v43), .val (.int (-1 : Int32)), .val (.ref a45), .unset, .unset] [(.long (q3 &&& (4294967295 : Int64))), (.ref a48), (.ref a48)])) _
        refine XS.aload X48.here hx rfl (hb hby at_115) rfl rfl ?_
        show Steps p.tables e below (T48.setTop (mkF m 117 #[.val (.int q0), .val (.int q1), .val (.int q2), .val (.long q3), .second, .val (.int (1 : Int32)), .val (.int (0 : Int32)), .val (.int (128 : Int32)), .val (.int v40), .val (.int v43), .val (.int (-1 : Int32)), .val (.ref a45), .unset, .unset] [(.ref a45), (.long (q3 &&& (4294967295 : Int64))), (.ref a48), (.ref a48)])) _
        refine XS.iload X48.here hx rfl (hb hby at_117) rfl ?_
        show Steps p.tables e below (T48.setTop (mkF m 119 #[.val (.int q0), .val (.int q1), .val (.int q2), .val (.long q3), .second, .val (.int (1 : Int32)), .val (.int (0 : Int32)), .val (.int (128 : Int32)), .val (.int v40), .val (.int v43), .val (.int (-1 : Int32)), .val (.ref a45), .unset, .unset] [(.int (-1 : Int32)), (.ref a45), (.long (q3 &&& (4294967295 : Int64))), (.ref a48), (.ref a48)])) _
        refine st49.trans ?_
        show Steps p.tables e below (T49.setTop (mkF m 122 #[.val (.int q0), .val (.int q1), .val (.int q2), .val (.long q3), .second, .val (.int (1 : Int32)), .val (.int (0 : Int32)), .val (.int (128 : Int32)), .val (.int v40), .val (.int v43), .val (.int (-1 : Int32)), .val (.ref a45), .unset, .unset] [(.ref a48)])) _
        refine XS.astore X49.here hx rfl (hb hby at_122) rfl rfl (l' := #[.val (.int q0), .val (.int q1), .val (.int q2), .val (.long q3), .second, .val (.int (1 : Int32)), .val (.int (0 : Int32)), .val (.int (128 : Int32)), .val (.int v40), .val (.int v43), .val (.int (-1 : Int32)), .val (.ref a45), .val (.ref a48), .unset]) rfl ?_
        show Steps p.tables e below (T49.setTop (mkF m 124 #[.val (.int q0), .val (.int q1), .val (.int q2), .val (.long q3), .second, .val (.int (1 : Int32)), .val (.int (0 : Int32)), .val (.int (128 : Int32)), .val (.int v40), .val (.int v43), .val (.int (-1 : Int32)), .val (.ref a45), .val (.ref a48), .unset] [])) _
        refine XS.iload X49.here hx rfl (hb hby at_124) rfl ?_
        show Steps p.tables e below (T49.setTop (mkF m 126 #[.val (.int q0), .val (.int q1), .val (.int q2), .val (.long q3), .second, .val (.int (1 : Int32)), .val (.int (0 : Int32)), .val (.int (128 : Int32)), .val (.int v40), .val (.int v43), .val (.int (-1 : Int32)), .val (.ref a45), .val (.ref a48), .unset] [(.int (0 : Int32))])) _
        refine XS.ifYes X49.here hx rfl (pc0 := 126) (pc' := 138) rfl (hb hby at_126) rfl (by decide) (by decide) (by decide) ?_
        show Steps p.tables e below (T49.setTop (mkF m 138 #[.val (.int q0), .val (.int q1), .val (.int q2), .val (.long q3), .second, .val (.int (1 : Int32)), .val (.int (0 : Int32)), .val (.int (128 : Int32)), .val (.int v40), .val (.int v43), .val (.int (-1 : Int32)), .val (.ref a45), .val (.ref a48), .unset] [])) _
        refine XS.iconst X49.here hx rfl (hb hby at_138) ?_
        show Steps p.tables e below (T49.setTop (mkF m 139 #[.val (.int q0), .val (.int q1), .val (.int q2), .val (.long q3), .second, .val (.int (1 : Int32)), .val (.int (0 : Int32)), .val (.int (128 : Int32)), .val (.int v40), .val (.int v43), .val (.int (-1 : Int32)), .val (.ref a45), .val (.ref a48), .unset] [(.int (0 : Int32))])) _
        refine XS.istore X49.here hx rfl (hb hby at_139) rfl (l' := #[.val (.int q0), .val (.int q1), .val (.int q2), .val (.long q3), .second, .val (.int (1 : Int32)), .val (.int (0 : Int32)), .val (.int (128 : Int32)), .val (.int v40), .val (.int v43), .val (.int (-1 : Int32)), .val (.ref a45), .val (.ref a48), .val (.int (0 : Int32))]) rfl ?_
        show Steps p.tables e below (T49.setTop (mkF m 141 #[.val (.int q0), .val (.int q1), .val (.int q2), .val (.long q3), .second, .val (.int (1 : Int32)), .val (.int (0 : Int32)), .val (.int (128 : Int32)), .val (.int v40), .val (.int v43), .val (.int (-1 : Int32)), .val (.ref a45), .val (.ref a48), .val (.int (0 : Int32))] [])) _
        refine XS.aload X49.here hx rfl (hb hby at_141) rfl rfl ?_
        show Steps p.tables e below (T49.setTop (mkF m 143 #[.val (.int q0), .val (.int q1), .val (.int q2), .val (.long q3), .second, .val (.int (1 : Int32)), .val (.int (0 : Int32)), .val (.int (128 : Int32)), .val (.int v40), .val (.int v43), .val (.int (-1 : Int32)), .val (.ref a45), .val (.ref a48), .val (.int (0 : Int32))] [(.ref a48)])) _
        refine st50.trans ?_
        show Steps p.tables e below (T50.setTop (mkF m 146 #[.val (.int q0), .val (.int q1), .val (.int q2), .val (.long q3), .second, .val (.int (1 : Int32)), .val (.int (0 : Int32)), .val (.int (128 : Int32)), .val (.int v40), .val (.int v43), .val (.int (-1 : Int32)), .val (.ref a45), .val (.ref a48), .val (.int (0 : Int32))] [(.int (own_f4  ((-1 : Int32)) v40))])) _
        refine XS.iload X50.here hx rfl (hb hby at_146) rfl ?_
        exact k
      by_cases c52 : (own_f4  ((-1 : Int32)) v40) = (0 : Int32)
      · obtain ⟨fs, hr, hrun, hended, hW, hsame⟩ := X50.leave (v := some (.int (1 : Int32))) (fun h => by rw [Bd.returns] at h; cases h) hlk
        refine ⟨_, _, pre51 _ ?_, hrun, hended, _, _, rfl, ?_, ⟨_, rfl⟩, hW, hsame.mono (by decide) (by decide)⟩
        · show Steps p.tables e below (T50.setTop (mkF m 148 #[.val (.int q0), .val (.int q1), .val (.int q2), .val (.long q3), .second, .val (.int (1 : Int32)), .val (.int (0 : Int32)), .val (.int (128 : Int32)), .val (.int v40), .val (.int v43), .val (.int (-1 : Int32)), .val (.ref a45), .val (.ref a48), .val (.int (0 : Int32))] [(.int (0 : Int32)), (.int (own_f4  ((-1 : Int32)) v40))])) _
          refine XS.icmpNo X50.here hx rfl (hb hby at_148) rfl ((teq c52).2) ?_
          show Steps p.tables e below (T50.setTop (mkF m 151 #[.val (.int q0), .val (.int q1), .val (.int q2), .val (.long q3), .second, .val (.int (1 : Int32)), .val (.int (0 : Int32)), .val (.int (128 : Int32)), .val (.int v40), .val (.int v43), .val (.int (-1 : Int32)), .val (.ref a45), .val (.ref a48), .val (.int (0 : Int32))] [])) _
          refine XS.iconst X50.here hx rfl (hb hby at_151) ?_
          show Steps p.tables e below (T50.setTop (mkF m 152 #[.val (.int q0), .val (.int q1), .val (.int q2), .val (.long q3), .second, .val (.int (1 : Int32)), .val (.int (0 : Int32)), .val (.int (128 : Int32)), .val (.int v40), .val (.int v43), .val (.int (-1 : Int32)), .val (.ref a45), .val (.ref a48), .val (.int (0 : Int32))] [(.int (1 : Int32))])) _
          refine XS.goto X50.here hx rfl (pc0 := 152) (pc' := 156) rfl (hb hby at_152) (by decide) (by decide) ?_
          show Steps p.tables e below (T50.setTop (mkF m 156 #[.val (.int q0), .val (.int q1), .val (.int q2), .val (.long q3), .second, .val (.int (1 : Int32)), .val (.int (0 : Int32)), .val (.int (128 : Int32)), .val (.int v40), .val (.int v43), .val (.int (-1 : Int32)), .val (.ref a45), .val (.ref a48), .val (.int (0 : Int32))] [(.int (1 : Int32))])) _
          exact retN X50 hx (t := .boolean) Bd.returns (by simp) (hb hby at_156) hr
        · show Q0 Z q0 q1 q2 q3 h0 n0 _ T50.heap _
          rw [e50]
          exact ⟨by have w_hv43 := hv43.symm; subst w_hv43; have w_hv40 := hv40.symm; subst w_hv40; simp only [own_f0, if_neg c2, if_pos c39, if_pos c52], N50⟩
      · obtain ⟨fs, hr, hrun, hended, hW, hsame⟩ := X50.leave (v := some (.int (0 : Int32))) (fun h => by rw [Bd.returns] at h; cases h) hlk
        refine ⟨_, _, pre51 _ ?_, hrun, hended, _, _, rfl, ?_, ⟨_, rfl⟩, hW, hsame.mono (by decide) (by decide)⟩
        · show Steps p.tables e below (T50.setTop (mkF m 148 #[.val (.int q0), .val (.int q1), .val (.int q2), .val (.long q3), .second, .val (.int (1 : Int32)), .val (.int (0 : Int32)), .val (.int (128 : Int32)), .val (.int v40), .val (.int v43), .val (.int (-1 : Int32)), .val (.ref a45), .val (.ref a48), .val (.int (0 : Int32))] [(.int (0 : Int32)), (.int (own_f4  ((-1 : Int32)) v40))])) _
          refine XS.icmpYes X50.here hx rfl (pc0 := 148) (pc' := 155) rfl (hb hby at_148) rfl ((feq c52).2) (by decide) (by decide) ?_
          show Steps p.tables e below (T50.setTop (mkF m 155 #[.val (.int q0), .val (.int q1), .val (.int q2), .val (.long q3), .second, .val (.int (1 : Int32)), .val (.int (0 : Int32)), .val (.int (128 : Int32)), .val (.int v40), .val (.int v43), .val (.int (-1 : Int32)), .val (.ref a45), .val (.ref a48), .val (.int (0 : Int32))] [])) _
          refine XS.iconst X50.here hx rfl (hb hby at_155) ?_
          show Steps p.tables e below (T50.setTop (mkF m 156 #[.val (.int q0), .val (.int q1), .val (.int q2), .val (.long q3), .second, .val (.int (1 : Int32)), .val (.int (0 : Int32)), .val (.int (128 : Int32)), .val (.int v40), .val (.int v43), .val (.int (-1 : Int32)), .val (.ref a45), .val (.ref a48), .val (.int (0 : Int32))] [(.int (0 : Int32))])) _
          exact retN X50 hx (t := .boolean) Bd.returns (by simp) (hb hby at_156) hr
        · show Q0 Z q0 q1 q2 q3 h0 n0 _ T50.heap _
          rw [e50]
          exact ⟨by have w_hv43 := hv43.symm; subst w_hv43; have w_hv40 := hv40.symm; subst w_hv40; simp only [own_f0, if_neg c2, if_pos c39, if_neg c52], N50⟩
    · obtain ⟨v53, hv53⟩ : ∃ z : Int32, z = ((q1 &&& (2147483647 : Int32)) % (129 : Int32)) := ⟨_, rfl⟩
      have pre54 : ∀ t, Steps p.tables e below (s₁.setTop (mkF m 50 #[.val (.int q0), .val (.int q1), .val (.int q2), .val (.long q3), .second, .val (.int (1 : Int32)), .val (.int (1 : Int32)), .val (.int (128 : Int32)), .unset, .unset, .unset, .unset, .unset, .unset] [(.int v53)])) t → Steps p.tables e below (s₁.setTop (entryFrame m #[(.int q0), (.int q1), (.int q2), (.long q3)] maxLocals)) t := by
        rw [hv53]
        intro t k
        refine pre38 t ?_
        show Steps p.tables e below (s₁.setTop (mkF m 16 #[.val (.int q0), .val (.int q1), .val (.int q2), .val (.long q3), .second, .val (.int (1 : Int32)), .unset, .unset, .unset, .unset, .unset, .unset, .unset, .unset] [(.int (q0 &&& (2 : Int32)))])) _
        refine XS.ifNo X0.here hx rfl (hb hby at_16) rfl ((if0 _ _).trans (feq c39).1) ?_
        show Steps p.tables e below (s₁.setTop (mkF m 19 #[.val (.int q0), .val (.int q1), .val (.int q2), .val (.long q3), .second, .val (.int (1 : Int32)), .unset, .unset, .unset, .unset, .unset, .unset, .unset, .unset] [])) _
        refine XS.iconst X0.here hx rfl (hb hby at_19) ?_
        show Steps p.tables e below (s₁.setTop (mkF m 20 #[.val (.int q0), .val (.int q1), .val (.int q2), .val (.long q3), .second, .val (.int (1 : Int32)), .unset, .unset, .unset, .unset, .unset, .unset, .unset, .unset] [(.int (1 : Int32))])) _
        refine XS.goto X0.here hx rfl (pc0 := 20) (pc' := 24) rfl (hb hby at_20) (by decide) (by decide) ?_
        show Steps p.tables e below (s₁.setTop (mkF m 24 #[.val (.int q0), .val (.int q1), .val (.int q2), .val (.long q3), .second, .val (.int (1 : Int32)), .unset, .unset, .unset, .unset, .unset, .unset, .unset, .unset] [(.int (1 : Int32))])) _
        refine XS.istore X0.here hx rfl (hb hby at_24) rfl (l' := #[.val (.int q0), .val (.int q1), .val (.int q2), .val (.long q3), .second, .val (.int (1 : Int32)), .val (.int (1 : Int32)), .unset, .unset, .unset, .unset, .unset, .unset, .unset]) rfl ?_
        show Steps p.tables e below (s₁.setTop (mkF m 26 #[.val (.int q0), .val (.int q1), .val (.int q2), .val (.long q3), .second, .val (.int (1 : Int32)), .val (.int (1 : Int32)), .unset, .unset, .unset, .unset, .unset, .unset, .unset] [])) _
        refine XS.iload X0.here hx rfl (hb hby at_26) rfl ?_
        show Steps p.tables e below (s₁.setTop (mkF m 28 #[.val (.int q0), .val (.int q1), .val (.int q2), .val (.long q3), .second, .val (.int (1 : Int32)), .val (.int (1 : Int32)), .unset, .unset, .unset, .unset, .unset, .unset, .unset] [(.int (1 : Int32))])) _
        refine XS.ifNo X0.here hx rfl (hb hby at_28) rfl (by decide) ?_
        show Steps p.tables e below (s₁.setTop (mkF m 31 #[.val (.int q0), .val (.int q1), .val (.int q2), .val (.long q3), .second, .val (.int (1 : Int32)), .val (.int (1 : Int32)), .unset, .unset, .unset, .unset, .unset, .unset, .unset] [])) _
        refine XS.sipush X0.here hx rfl (hb hby at_31) ?_
        show Steps p.tables e below (s₁.setTop (mkF m 34 #[.val (.int q0), .val (.int q1), .val (.int q2), .val (.long q3), .second, .val (.int (1 : Int32)), .val (.int (1 : Int32)), .unset, .unset, .unset, .unset, .unset, .unset, .unset] [(.int (128 : Int32))])) _
        refine XS.goto X0.here hx rfl (pc0 := 34) (pc' := 39) rfl (hb hby at_34) (by decide) (by decide) ?_
        show Steps p.tables e below (s₁.setTop (mkF m 39 #[.val (.int q0), .val (.int q1), .val (.int q2), .val (.long q3), .second, .val (.int (1 : Int32)), .val (.int (1 : Int32)), .unset, .unset, .unset, .unset, .unset, .unset, .unset] [(.int (128 : Int32))])) _
        refine XS.istore X0.here hx rfl (hb hby at_39) rfl (l' := #[.val (.int q0), .val (.int q1), .val (.int q2), .val (.long q3), .second, .val (.int (1 : Int32)), .val (.int (1 : Int32)), .val (.int (128 : Int32)), .unset, .unset, .unset, .unset, .unset, .unset]) rfl ?_
        show Steps p.tables e below (s₁.setTop (mkF m 41 #[.val (.int q0), .val (.int q1), .val (.int q2), .val (.long q3), .second, .val (.int (1 : Int32)), .val (.int (1 : Int32)), .val (.int (128 : Int32)), .unset, .unset, .unset, .unset, .unset, .unset] [])) _
        refine XS.iloadN X0.here hx rfl (hb hby at_41) rfl ?_
        show Steps p.tables e below (s₁.setTop (mkF m 42 #[.val (.int q0), .val (.int q1), .val (.int q2), .val (.long q3), .second, .val (.int (1 : Int32)), .val (.int (1 : Int32)), .val (.int (128 : Int32)), .unset, .unset, .unset, .unset, .unset, .unset] [(.int q1)])) _
        refine X0.ldcInt hx hown (mvT hZ (hw _ (List.mem_of_getElem? (i := 0) rfl))) (g := (mkF m 42 #[.val (.int q0), .val (.int q1), .val (.int q2), .val (.long q3), .second, .val (.int (1 : Int32)), .val (.int (1 : Int32)), .val (.int (128 : Int32)), .unset, .unset, .unset, .unset, .unset, .unset] [(.int q1)])) rfl (hb hby at_42) _ ?_
        show Steps p.tables e below (s₁.setTop (mkF m 44 #[.val (.int q0), .val (.int q1), .val (.int q2), .val (.long q3), .second, .val (.int (1 : Int32)), .val (.int (1 : Int32)), .val (.int (128 : Int32)), .unset, .unset, .unset, .unset, .unset, .unset] [(.int (2147483647 : Int32)), (.int q1)])) _
        refine XS.iand X0.here hx rfl (hb hby at_44) rfl ?_
        show Steps p.tables e below (s₁.setTop (mkF m 45 #[.val (.int q0), .val (.int q1), .val (.int q2), .val (.long q3), .second, .val (.int (1 : Int32)), .val (.int (1 : Int32)), .val (.int (128 : Int32)), .unset, .unset, .unset, .unset, .unset, .unset] [(.int (q1 &&& (2147483647 : Int32)))])) _
        refine XS.iload X0.here hx rfl (hb hby at_45) rfl ?_
        show Steps p.tables e below (s₁.setTop (mkF m 47 #[.val (.int q0), .val (.int q1), .val (.int q2), .val (.long q3), .second, .val (.int (1 : Int32)), .val (.int (1 : Int32)), .val (.int (128 : Int32)), .unset, .unset, .unset, .unset, .unset, .unset] [(.int (128 : Int32)), (.int (q1 &&& (2147483647 : Int32)))])) _
        refine XS.iconst X0.here hx rfl (hb hby at_47) ?_
        show Steps p.tables e below (s₁.setTop (mkF m 48 #[.val (.int q0), .val (.int q1), .val (.int q2), .val (.long q3), .second, .val (.int (1 : Int32)), .val (.int (1 : Int32)), .val (.int (128 : Int32)), .unset, .unset, .unset, .unset, .unset, .unset] [(.int (1 : Int32)), (.int (128 : Int32)), (.int (q1 &&& (2147483647 : Int32)))])) _
        refine XS.iadd X0.here hx rfl (hb hby at_48) rfl ?_
        show Steps p.tables e below (s₁.setTop (mkF m 49 #[.val (.int q0), .val (.int q1), .val (.int q2), .val (.long q3), .second, .val (.int (1 : Int32)), .val (.int (1 : Int32)), .val (.int (128 : Int32)), .unset, .unset, .unset, .unset, .unset, .unset] [(.int (129 : Int32)), (.int (q1 &&& (2147483647 : Int32)))])) _
        refine iremM X0 hx rfl (hb hby at_49) rfl (by decide) ?_
        exact k
      have nz_63_55 : ¬ ((((128 : Int32) - v53) + (1 : Int32)) = (0 : Int32)) := (own_nzT (by assumption) (by decide))
      obtain ⟨v56, hv56⟩ : ∃ z : Int32, z = ((q2 &&& (2147483647 : Int32)) % (((128 : Int32) - v53) + (1 : Int32))) := ⟨_, rfl⟩
      have pre57 : ∀ t, Steps p.tables e below (s₁.setTop (mkF m 64 #[.val (.int q0), .val (.int q1), .val (.int q2), .val (.long q3), .second, .val (.int (1 : Int32)), .val (.int (1 : Int32)), .val (.int (128 : Int32)), .val (.int v53), .unset, .unset, .unset, .unset, .unset] [(.int v56)])) t → Steps p.tables e below (s₁.setTop (entryFrame m #[(.int q0), (.int q1), (.int q2), (.long q3)] maxLocals)) t := by
        rw [hv56]
        intro t k
        refine pre54 t ?_
        show Steps p.tables e below (s₁.setTop (mkF m 50 #[.val (.int q0), .val (.int q1), .val (.int q2), .val (.long q3), .second, .val (.int (1 : Int32)), .val (.int (1 : Int32)), .val (.int (128 : Int32)), .unset, .unset, .unset, .unset, .unset, .unset] [(.int v53)])) _
        refine XS.istore X0.here hx rfl (hb hby at_50) rfl (l' := #[.val (.int q0), .val (.int q1), .val (.int q2), .val (.long q3), .second, .val (.int (1 : Int32)), .val (.int (1 : Int32)), .val (.int (128 : Int32)), .val (.int v53), .unset, .unset, .unset, .unset, .unset]) rfl ?_
        show Steps p.tables e below (s₁.setTop (mkF m 52 #[.val (.int q0), .val (.int q1), .val (.int q2), .val (.long q3), .second, .val (.int (1 : Int32)), .val (.int (1 : Int32)), .val (.int (128 : Int32)), .val (.int v53), .unset, .unset, .unset, .unset, .unset] [])) _
        refine XS.iloadN X0.here hx rfl (hb hby at_52) rfl ?_
        show Steps p.tables e below (s₁.setTop (mkF m 53 #[.val (.int q0), .val (.int q1), .val (.int q2), .val (.long q3), .second, .val (.int (1 : Int32)), .val (.int (1 : Int32)), .val (.int (128 : Int32)), .val (.int v53), .unset, .unset, .unset, .unset, .unset] [(.int q2)])) _
        refine X0.ldcInt hx hown (mvT hZ (hw _ (List.mem_of_getElem? (i := 0) rfl))) (g := (mkF m 53 #[.val (.int q0), .val (.int q1), .val (.int q2), .val (.long q3), .second, .val (.int (1 : Int32)), .val (.int (1 : Int32)), .val (.int (128 : Int32)), .val (.int v53), .unset, .unset, .unset, .unset, .unset] [(.int q2)])) rfl (hb hby at_53) _ ?_
        show Steps p.tables e below (s₁.setTop (mkF m 55 #[.val (.int q0), .val (.int q1), .val (.int q2), .val (.long q3), .second, .val (.int (1 : Int32)), .val (.int (1 : Int32)), .val (.int (128 : Int32)), .val (.int v53), .unset, .unset, .unset, .unset, .unset] [(.int (2147483647 : Int32)), (.int q2)])) _
        refine XS.iand X0.here hx rfl (hb hby at_55) rfl ?_
        show Steps p.tables e below (s₁.setTop (mkF m 56 #[.val (.int q0), .val (.int q1), .val (.int q2), .val (.long q3), .second, .val (.int (1 : Int32)), .val (.int (1 : Int32)), .val (.int (128 : Int32)), .val (.int v53), .unset, .unset, .unset, .unset, .unset] [(.int (q2 &&& (2147483647 : Int32)))])) _
        refine XS.iload X0.here hx rfl (hb hby at_56) rfl ?_
        show Steps p.tables e below (s₁.setTop (mkF m 58 #[.val (.int q0), .val (.int q1), .val (.int q2), .val (.long q3), .second, .val (.int (1 : Int32)), .val (.int (1 : Int32)), .val (.int (128 : Int32)), .val (.int v53), .unset, .unset, .unset, .unset, .unset] [(.int (128 : Int32)), (.int (q2 &&& (2147483647 : Int32)))])) _
        refine XS.iload X0.here hx rfl (hb hby at_58) rfl ?_
        show Steps p.tables e below (s₁.setTop (mkF m 60 #[.val (.int q0), .val (.int q1), .val (.int q2), .val (.long q3), .second, .val (.int (1 : Int32)), .val (.int (1 : Int32)), .val (.int (128 : Int32)), .val (.int v53), .unset, .unset, .unset, .unset, .unset] [(.int v53), (.int (128 : Int32)), (.int (q2 &&& (2147483647 : Int32)))])) _
        refine XS.isub X0.here hx rfl (hb hby at_60) rfl ?_
        show Steps p.tables e below (s₁.setTop (mkF m 61 #[.val (.int q0), .val (.int q1), .val (.int q2), .val (.long q3), .second, .val (.int (1 : Int32)), .val (.int (1 : Int32)), .val (.int (128 : Int32)), .val (.int v53), .unset, .unset, .unset, .unset, .unset] [(.int ((128 : Int32) - v53)), (.int (q2 &&& (2147483647 : Int32)))])) _
        refine XS.iconst X0.here hx rfl (hb hby at_61) ?_
        show Steps p.tables e below (s₁.setTop (mkF m 62 #[.val (.int q0), .val (.int q1), .val (.int q2), .val (.long q3), .second, .val (.int (1 : Int32)), .val (.int (1 : Int32)), .val (.int (128 : Int32)), .val (.int v53), .unset, .unset, .unset, .unset, .unset] [(.int (1 : Int32)), (.int ((128 : Int32) - v53)), (.int (q2 &&& (2147483647 : Int32)))])) _
        refine XS.iadd X0.here hx rfl (hb hby at_62) rfl ?_
        show Steps p.tables e below (s₁.setTop (mkF m 63 #[.val (.int q0), .val (.int q1), .val (.int q2), .val (.long q3), .second, .val (.int (1 : Int32)), .val (.int (1 : Int32)), .val (.int (128 : Int32)), .val (.int v53), .unset, .unset, .unset, .unset, .unset] [(.int (((128 : Int32) - v53) + (1 : Int32))), (.int (q2 &&& (2147483647 : Int32)))])) _
        refine iremM X0 hx rfl (hb hby at_63) rfl nz_63_55 ?_
        exact k
      obtain ⟨v58, hv58⟩ : ∃ z : Int32, z = (v53 + v56) := ⟨_, rfl⟩
      have pre59 : ∀ t, Steps p.tables e below (s₁.setTop (mkF m 80 #[.val (.int q0), .val (.int q1), .val (.int q2), .val (.long q3), .second, .val (.int (1 : Int32)), .val (.int (1 : Int32)), .val (.int (128 : Int32)), .val (.int v53), .val (.int v56), .unset, .unset, .unset, .unset] [(.int v58)])) t → Steps p.tables e below (s₁.setTop (entryFrame m #[(.int q0), (.int q1), (.int q2), (.long q3)] maxLocals)) t := by
        rw [hv58]
        intro t k
        refine pre57 t ?_
        show Steps p.tables e below (s₁.setTop (mkF m 64 #[.val (.int q0), .val (.int q1), .val (.int q2), .val (.long q3), .second, .val (.int (1 : Int32)), .val (.int (1 : Int32)), .val (.int (128 : Int32)), .val (.int v53), .unset, .unset, .unset, .unset, .unset] [(.int v56)])) _
        refine XS.istore X0.here hx rfl (hb hby at_64) rfl (l' := #[.val (.int q0), .val (.int q1), .val (.int q2), .val (.long q3), .second, .val (.int (1 : Int32)), .val (.int (1 : Int32)), .val (.int (128 : Int32)), .val (.int v53), .val (.int v56), .unset, .unset, .unset, .unset]) rfl ?_
        show Steps p.tables e below (s₁.setTop (mkF m 66 #[.val (.int q0), .val (.int q1), .val (.int q2), .val (.long q3), .second, .val (.int (1 : Int32)), .val (.int (1 : Int32)), .val (.int (128 : Int32)), .val (.int v53), .val (.int v56), .unset, .unset, .unset, .unset] [])) _
        refine XS.iload X0.here hx rfl (hb hby at_66) rfl ?_
        show Steps p.tables e below (s₁.setTop (mkF m 68 #[.val (.int q0), .val (.int q1), .val (.int q2), .val (.long q3), .second, .val (.int (1 : Int32)), .val (.int (1 : Int32)), .val (.int (128 : Int32)), .val (.int v53), .val (.int v56), .unset, .unset, .unset, .unset] [(.int (1 : Int32))])) _
        refine XS.ifNo X0.here hx rfl (hb hby at_68) rfl (by decide) ?_
        show Steps p.tables e below (s₁.setTop (mkF m 71 #[.val (.int q0), .val (.int q1), .val (.int q2), .val (.long q3), .second, .val (.int (1 : Int32)), .val (.int (1 : Int32)), .val (.int (128 : Int32)), .val (.int v53), .val (.int v56), .unset, .unset, .unset, .unset] [])) _
        refine XS.iload X0.here hx rfl (hb hby at_71) rfl ?_
        show Steps p.tables e below (s₁.setTop (mkF m 73 #[.val (.int q0), .val (.int q1), .val (.int q2), .val (.long q3), .second, .val (.int (1 : Int32)), .val (.int (1 : Int32)), .val (.int (128 : Int32)), .val (.int v53), .val (.int v56), .unset, .unset, .unset, .unset] [(.int v53)])) _
        refine XS.iload X0.here hx rfl (hb hby at_73) rfl ?_
        show Steps p.tables e below (s₁.setTop (mkF m 75 #[.val (.int q0), .val (.int q1), .val (.int q2), .val (.long q3), .second, .val (.int (1 : Int32)), .val (.int (1 : Int32)), .val (.int (128 : Int32)), .val (.int v53), .val (.int v56), .unset, .unset, .unset, .unset] [(.int v56), (.int v53)])) _
        refine XS.iadd X0.here hx rfl (hb hby at_75) rfl ?_
        show Steps p.tables e below (s₁.setTop (mkF m 76 #[.val (.int q0), .val (.int q1), .val (.int q2), .val (.long q3), .second, .val (.int (1 : Int32)), .val (.int (1 : Int32)), .val (.int (128 : Int32)), .val (.int v53), .val (.int v56), .unset, .unset, .unset, .unset] [(.int (v53 + v56))])) _
        refine XS.goto X0.here hx rfl (pc0 := 76) (pc' := 80) rfl (hb hby at_76) (by decide) (by decide) ?_
        exact k
      obtain ⟨T60, h60, X60, e60, E60, A60, D60, -, st60⟩ := newO X0 hx hZ hown (hw _ (List.mem_of_getElem? (i := 1) rfl)) (hw _ (List.mem_of_getElem? (i := 2) rfl)) (hw _ (List.mem_of_getElem? (i := 3) rfl)) e0 (g := (mkF m 82 #[.val (.int q0), .val (.int q1), .val (.int q2), .val (.long q3), .second, .val (.int (1 : Int32)), .val (.int (1 : Int32)), .val (.int (128 : Int32)), .val (.int v53), .val (.int v56), .val (.int v58), .unset, .unset, .unset] [])) rfl (hb hby at_82) (by decide) (by decide)
      obtain ⟨a60, g60⟩ : ∃ z, z = h0.size := ⟨_, rfl⟩
      rw [← g60] at A60 D60 st60
      have ge_a60 : n0 ≤ a60 := g60 ▸ Z0
      have sz60 : n0 ≤ h60.size := Nat.le_trans Z0 E60.1
      have F60_n0 : Fld Z h60 a60 "com/example/stillframe/stillframe/ccr/IpPrefix" "address" "[B" .null := D60 (Or.inr (hw _ (List.mem_of_getElem? (i := 12) rfl))) (ty := (.array .byte)) (by decide)
      have F60_n1 : Fld Z h60 a60 "com/example/stillframe/stillframe/ccr/IpPrefix" "length" "I" (.int (0 : Int32)) := D60 (Or.inr (hw _ (List.mem_of_getElem? (i := 14) rfl))) (ty := .int) (by decide)
      obtain ⟨T61, h61, cA61, X61, e61, E61, A61, st61⟩ := newP X60 hx hZ (aty := .byte) (hw _ (List.mem_of_getElem? (i := 4) rfl)) e60 (g := (mkF m 97 #[.val (.int q0), .val (.int q1), .val (.int q2), .val (.long q3), .second, .val (.int (1 : Int32)), .val (.int (1 : Int32)), .val (.int (128 : Int32)), .val (.int v53), .val (.int v56), .val (.int v58), .unset, .unset, .unset] [(.int (16 : Int32)), (.ref a60), (.ref a60)])) rfl (hb hby at_97) rfl (by decide) (cap := 16) (by decide) (by decide) (by decide) (by decide)
      obtain ⟨a61, g61⟩ : ∃ z, z = h60.size := ⟨_, rfl⟩
      rw [← g61] at A61 st61
      have ne_a60_a61 : a60 ≠ a61 := g61 ▸ Nat.ne_of_lt A60.lt
      have ge_a61 : n0 ≤ a61 := g61 ▸ sz60
      have A61_a60 : Exa Z h61 a60 "com/example/stillframe/stillframe/ccr/IpPrefix" := A60.ext E61
      have F61_a60_0 : Fld Z h61 a60 "com/example/stillframe/stillframe/ccr/IpPrefix" "address" "[B" .null := F60_n0.ext E61
      have F61_a60_1 : Fld Z h61 a60 "com/example/stillframe/stillframe/ccr/IpPrefix" "length" "I" (.int (0 : Int32)) := F60_n1.ext E61
      have sz61 : n0 ≤ h61.size := Nat.le_trans sz60 E61.1
      have V61_n : own_AI Z h61 a61 .byte [(0 : Int32), (0 : Int32), (0 : Int32), (0 : Int32), (0 : Int32), (0 : Int32), (0 : Int32), (0 : Int32), (0 : Int32), (0 : Int32), (0 : Int32), (0 : Int32), (0 : Int32), (0 : Int32), (0 : Int32), (0 : Int32)] := own_AIbyte_new A61 (k := 16) (by decide)
      obtain ⟨_, _, ⟨T62, L62, k62, n62⟩, -, X62, ⟨Lc62, hQ62, l62, y62, z62⟩, st62⟩ := X61.specialBack hx (y := (⟨"com/example/stillframe/stillframe/ccr/IpPrefix", "<init>", "([BI)V"⟩ : MethodName)) rfl hown (mvT hZ (hw _ (List.mem_of_getElem? (i := 5) rfl))) (mvT hZ (hw _ (List.mem_of_getElem? (i := 6) rfl))) (mvT hZ (hw _ (List.mem_of_getElem? (i := 7) rfl))) (by decide) (backOf (W := 1) (rm1 l Z a0 hw [] a60 a61 v53  h61 n0 sz61 A61_a60 F61_a60_0 F61_a60_1 ge_a60 ) hZ (hw _ (List.mem_of_getElem? (i := 7) rfl)) (hw _ (List.mem_of_getElem? (i := 3) rfl)) (by decide) (by decide)) (g := (mkF m 101 #[.val (.int q0), .val (.int q1), .val (.int q2), .val (.long q3), .second, .val (.int (1 : Int32)), .val (.int (1 : Int32)), .val (.int (128 : Int32)), .val (.int v53), .val (.int v56), .val (.int v58), .unset, .unset, .unset] [(.int v53), (.ref a61), (.ref a60), (.ref a60)])) rfl (by rw [hml]; rfl) (Steps.refl _) (a := a60) (argsL := [(.ref a61), (.int v53)]) (rest := [(.ref a60)]) (lenOf pd_8 rfl) rfl (by show 2 * 0 + _ ≤ _; exact Nat.le_of_eq rfl) (hb hby at_101) (fun _ _ => ⟨rfl, e61, (by decide : 2 + 0 ≤ _), (by decide : 18 + 0 ≤ _)⟩)
      dsimp only [Pt.U, Pt.locs, Pt.cells, Pt.slots] at X62 l62 y62 z62 st62 hQ62
      subst l62 y62 z62
      obtain ⟨rfl, N62q, K62, A62_o0, F62_o0, F62_o1⟩ := hQ62
      obtain ⟨h62, e62⟩ : ∃ z, T62.heap = z := ⟨_, rfl⟩
      rw [e62] at K62 A62_o0 F62_o0 F62_o1
      have V62_a61 : own_AI Z h62 a61 .byte [(0 : Int32), (0 : Int32), (0 : Int32), (0 : Int32), (0 : Int32), (0 : Int32), (0 : Int32), (0 : Int32), (0 : Int32), (0 : Int32), (0 : Int32), (0 : Int32), (0 : Int32), (0 : Int32), (0 : Int32), (0 : Int32)] := V61_n.keep K62 (ninS (Ne.symm ne_a60_a61) nin0)
      have A62_a60 : Exa Z h62 a60 "com/example/stillframe/stillframe/ccr/IpPrefix" := A61_a60.keep K62
      have sz62 : n0 ≤ h62.size := Nat.le_trans sz61 K62.1
      have N62 := Fr.app N0 N62q
      obtain ⟨T63, h63, X63, e63, E63, A63, D63, -, st63⟩ := newO X62 hx hZ hown (hw _ (List.mem_of_getElem? (i := 15) rfl)) (hw _ (List.mem_of_getElem? (i := 16) rfl)) (hw _ (List.mem_of_getElem? (i := 17) rfl)) e62 (g := (mkF m 106 #[.val (.int q0), .val (.int q1), .val (.int q2), .val (.long q3), .second, .val (.int (1 : Int32)), .val (.int (1 : Int32)), .val (.int (128 : Int32)), .val (.int v53), .val (.int v56), .val (.int v58), .val (.ref a60), .unset, .unset] [])) rfl (hb hby at_106) (by decide) (by decide)
      obtain ⟨a63, g63⟩ : ∃ z, z = h62.size := ⟨_, rfl⟩
      rw [← g63] at A63 D63 st63
      have ne_a61_a63 : a61 ≠ a63 := g63 ▸ Nat.ne_of_lt V62_a61.lt
      have ne_a60_a63 : a60 ≠ a63 := g63 ▸ Nat.ne_of_lt A62_o0.lt
      have ge_a63 : n0 ≤ a63 := g63 ▸ sz62
      have V63_a61 : own_AI Z h63 a61 .byte [(0 : Int32), (0 : Int32), (0 : Int32), (0 : Int32), (0 : Int32), (0 : Int32), (0 : Int32), (0 : Int32), (0 : Int32), (0 : Int32), (0 : Int32), (0 : Int32), (0 : Int32), (0 : Int32), (0 : Int32), (0 : Int32)] := V62_a61.ext E63
      have A63_a60 : Exa Z h63 a60 "com/example/stillframe/stillframe/ccr/IpPrefix" := A62_o0.ext E63
      have F63_a60_0 : Fld Z h63 a60 "com/example/stillframe/stillframe/ccr/IpPrefix" "address" "[B" (.ref a61) := F62_o0.ext E63
      have F63_a60_1 : Fld Z h63 a60 "com/example/stillframe/stillframe/ccr/IpPrefix" "length" "I" (.int v53) := F62_o1.ext E63
      have sz63 : n0 ≤ h63.size := Nat.le_trans sz62 E63.1
      have F63_n0 : Fld Z h63 a63 "com/example/stillframe/stillframe/ccr/RoaPayload" "asn" "J" (.long (0 : Int64)) := D63 (Or.inr (hw _ (List.mem_of_getElem? (i := 24) rfl))) (ty := .long) (by decide)
      have F63_n1 : Fld Z h63 a63 "com/example/stillframe/stillframe/ccr/RoaPayload" "prefix" "Lcom/example/stillframe/stillframe/ccr/IpPrefix;" .null := D63 (Or.inr (hw _ (List.mem_of_getElem? (i := 26) rfl))) (ty := (.object "com/example/stillframe/stillframe/ccr/IpPrefix")) (by decide)
      have F63_n2 : Fld Z h63 a63 "com/example/stillframe/stillframe/ccr/RoaPayload" "maxLength" "I" (.int (0 : Int32)) := D63 (Or.inr (hw _ (List.mem_of_getElem? (i := 28) rfl))) (ty := .int) (by decide)
      obtain ⟨_, _, ⟨T64, L64, k64, n64⟩, -, X64, ⟨Lc64, hQ64, l64, y64, z64⟩, st64⟩ := X63.specialBack hx (y := (⟨"com/example/stillframe/stillframe/ccr/RoaPayload", "<init>", "(JLcom/example/stillframe/stillframe/ccr/IpPrefix;I)V"⟩ : MethodName)) rfl hown (mvT hZ (hw _ (List.mem_of_getElem? (i := 19) rfl))) (mvT hZ (hw _ (List.mem_of_getElem? (i := 20) rfl))) (mvT hZ (hw _ (List.mem_of_getElem? (i := 21) rfl))) (by decide) (backOf (W := 1) (rm3 l Z a0 hw [] a63 (q3 &&& (4294967295 : Int64)) a60 v58  h63 n0 sz63 A63 F63_n0 F63_n1 F63_n2 ge_a63 ) hZ (hw _ (List.mem_of_getElem? (i := 21) rfl)) (hw _ (List.mem_of_getElem? (i := 17) rfl)) (by decide) (by decide)) (g := (mkF m 119 #[.val (.int q0), .val (.int q1), .val (.int q2), .val (.long q3), .second, .val (.int (1 : Int32)), .val (.int (1 : Int32)), .val (.int (128 : Int32)), .val (.int v53), .val (.int v56), .val (.int v58), .val (.ref a60), .unset, .unset] [(.int v58), (.ref a60), (.long (q3 &&& (4294967295 : Int64))), (.ref a63), (.ref a63)])) rfl (by rw [hml]; rfl) (Steps.refl _) (a := a63) (argsL := [(.long (q3 &&& (4294967295 : Int64))), (.ref a60), (.int v58)]) (rest := [(.ref a63)]) (lenOf pd_9 rfl) rfl (by show 2 * 0 + _ ≤ _; exact Nat.le_of_eq rfl) (hb hby at_119) (fun _ _ => ⟨rfl, e63, (by decide : 3 + 0 ≤ _), (by decide : 21 + 0 ≤ _)⟩)
      dsimp only [Pt.U, Pt.locs, Pt.cells, Pt.slots] at X64 l64 y64 z64 st64 hQ64
      subst l64 y64 z64
      obtain ⟨rfl, N64q, K64, A64_o0, F64_o0, F64_o1, F64_o2⟩ := hQ64
      obtain ⟨h64, e64⟩ : ∃ z, T64.heap = z := ⟨_, rfl⟩
      rw [e64] at K64 A64_o0 F64_o0 F64_o1 F64_o2
      have V64_a61 : own_AI Z h64 a61 .byte [(0 : Int32), (0 : Int32), (0 : Int32), (0 : Int32), (0 : Int32), (0 : Int32), (0 : Int32), (0 : Int32), (0 : Int32), (0 : Int32), (0 : Int32), (0 : Int32), (0 : Int32), (0 : Int32), (0 : Int32), (0 : Int32)] := V63_a61.keep K64 (ninS ne_a61_a63 nin0)
      have A64_a60 : Exa Z h64 a60 "com/example/stillframe/stillframe/ccr/IpPrefix" := A63_a60.keep K64
      have F64_a60_0 : Fld Z h64 a60 "com/example/stillframe/stillframe/ccr/IpPrefix" "address" "[B" (.ref a61) := F63_a60_0.keep K64 (ninS ne_a60_a63 nin0)
      have F64_a60_1 : Fld Z h64 a60 "com/example/stillframe/stillframe/ccr/IpPrefix" "length" "I" (.int v53) := F63_a60_1.keep K64 (ninS ne_a60_a63 nin0)
      have A64_a63 : Exa Z h64 a63 "com/example/stillframe/stillframe/ccr/RoaPayload" := A63.keep K64
      have sz64 : n0 ≤ h64.size := Nat.le_trans sz63 K64.1
      have N64 := Fr.app N62 N64q
      have pre65 : ∀ t, Steps p.tables e below (T64.setTop (mkF m 131 #[.val (.int q0), .val (.int q1), .val (.int q2), .val (.long q3), .second, .val (.int (1 : Int32)), .val (.int (1 : Int32)), .val (.int (128 : Int32)), .val (.int v53), .val (.int v56), .val (.int v58), .val (.ref a60), .val (.ref a63), .unset] [(.int v56)])) t → Steps p.tables e below (s₁.setTop (entryFrame m #[(.int q0), (.int q1), (.int q2), (.long q3)] maxLocals)) t := by
        intro t k
        refine pre59 t ?_
        show Steps p.tables e below (s₁.setTop (mkF m 80 #[.val (.int q0), .val (.int q1), .val (.int q2), .val (.long q3), .second, .val (.int (1 : Int32)), .val (.int (1 : Int32)), .val (.int (128 : Int32)), .val (.int v53), .val (.int v56), .unset, .unset, .unset, .unset] [(.int v58)])) _
        refine XS.istore X0.here hx rfl (hb hby at_80) rfl (l' := #[.val (.int q0), .val (.int q1), .val (.int q2), .val (.long q3), .second, .val (.int (1 : Int32)), .val (.int (1 : Int32)), .val (.int (128 : Int32)), .val (.int v53), .val (.int v56), .val (.int v58), .unset, .unset, .unset]) rfl ?_
        show Steps p.tables e below (s₁.setTop (mkF m 82 #[.val (.int q0), .val (.int q1), .val (.int q2), .val (.long q3), .second, .val (.int (1 : Int32)), .val (.int (1 : Int32)), .val (.int (128 : Int32)), .val (.int v53), .val (.int v56), .val (.int v58), .unset, .unset, .unset] [])) _
        refine st60 _ ?_
        show Steps p.tables e below (T60.setTop (mkF m 85 #[.val (.int q0), .val (.int q1), .val (.int q2), .val (.long q3), .second, .val (.int (1 : Int32)), .val (.int (1 : Int32)), .val (.int (128 : Int32)), .val (.int v53), .val (.int v56), .val (.int v58), .unset, .unset, .unset] [(.ref a60)])) _
        refine XS.dup X60.here hx rfl (hb hby at_85) rfl rfl ?_
        show Steps p.tables e below (T60.setTop (mkF m 86 #[.val (.int q0), .val (.int q1), .val (.int q2), .val (.long q3), .second, .val (.int (1 : Int32)), .val (.int (1 : Int32)), .val (.int (128 : Int32)), .val (.int v53), .val (.int v56), .val (.int v58), .unset, .unset, .unset] [(.ref a60), (.ref a60)])) _
        refine XS.iload X60.here hx rfl (hb hby at_86) rfl ?_
        show Steps p.tables e below (T60.setTop (mkF m 88 #[.val (.int q0), .val (.int q1), .val (.int q2), .val (.long q3), .second, .val (.int (1 : Int32)), .val (.int (1 : Int32)), .val (.int (128 : Int32)), .val (.int v53), .val (.int v56), .val (.int v58), .unset, .unset, .unset] [(.int (1 : Int32)), (.ref a60), (.ref a60)])) _
        refine XS.ifNo X60.here hx rfl (hb hby at_88) rfl (by decide) ?_
        show Steps p.tables e below (T60.setTop (mkF m 91 #[.val (.int q0), .val (.int q1), .val (.int q2), .val (.long q3), .second, .val (.int (1 : Int32)), .val (.int (1 : Int32)), .val (.int (128 : Int32)), .val (.int v53), .val (.int v56), .val (.int v58), .unset, .unset, .unset] [(.ref a60), (.ref a60)])) _
        refine XS.bipush X60.here hx rfl (hb hby at_91) ?_
        show Steps p.tables e below (T60.setTop (mkF m 93 #[.val (.int q0), .val (.int q1), .val (.int q2), .val (.long q3), .second, .val (.int (1 : Int32)), .val (.int (1 : Int32)), .val (.int (128 : Int32)), .val (.int v53), .val (.int v56), .val (.int v58), .unset, .unset, .unset] [(.int (16 : Int32)), (.ref a60), (.ref a60)])) _
        refine XS.goto X60.here hx rfl (pc0 := 93) (pc' := 97) rfl (hb hby at_93) (by decide) (by decide) ?_
        show Steps p.tables e below (T60.setTop (mkF m 97 #[.val (.int q0), .val (.int q1), .val (.int q2), .val (.long q3), .second, .val (.int (1 : Int32)), .val (.int (1 : Int32)), .val (.int (128 : Int32)), .val (.int v53), .val (.int v56), .val (.int v58), .unset, .unset, .unset] [(.int (16 : Int32)), (.ref a60), (.ref a60)])) _
        refine st61 _ ?_
        show Steps p.tables e below (T61.setTop (mkF m 99 #[.val (.int q0), .val (.int q1), .val (.int q2), .val (.long q3), .second, .val (.int (1 : Int32)), .val (.int (1 : Int32)), .val (.int (128 : Int32)), .val (.int v53), .val (.int v56), .val (.int v58), .unset, .unset, .unset] [(.ref a61), (.ref a60), (.ref a60)])) _
        refine XS.iload X61.here hx rfl (hb hby at_99) rfl ?_
        show Steps p.tables e below (T61.setTop (mkF m 101 #[.val (.int q0), .val (.int q1), .val (.int q2), .val (.long q3), .second, .val (.int (1 : Int32)), .val (.int (1 : Int32)), .val (.int (128 : Int32)), .val (.int v53), .val (.int v56), .val (.int v58), .unset, .unset, .unset] [(.int v53), (.ref a61), (.ref a60), (.ref a60)])) _
        refine st62.trans ?_
        show Steps p.tables e below (T62.setTop (mkF m 104 #[.val (.int q0), .val (.int q1), .val (.int q2), .val (.long q3), .second, .val (.int (1 : Int32)), .val (.int (1 : Int32)), .val (.int (128 : Int32)), .val (.int v53), .val (.int v56), .val (.int v58), .unset, .unset, .unset] [(.ref a60)])) _
        refine XS.astore X62.here hx rfl (hb hby at_104) rfl rfl (l' := #[.val (.int q0), .val (.int q1), .val (.int q2), .val (.long q3), .second, .val (.int (1 : Int32)), .val (.int (1 : Int32)), .val (.int (128 : Int32)), .val (.int v53), .val (.int v56), .val (.int v58), .val (.ref a60), .unset, .unset]) rfl ?_
        show Steps p.tables e below (T62.setTop (mkF m 106 #[.val (.int q0), .val (.int q1), .val (.int q2), .val (.long q3), .second, .val (.int (1 : Int32)), .val (.int (1 : Int32)), .val (.int (128 : Int32)), .val (.int v53), .val (.int v56), .val (.int v58), .val (.ref a60), .unset, .unset] [])) _
        refine st63 _ ?_
        show Steps p.tables e below (T63.setTop (mkF m 109 #[.val (.int q0), .val (.int q1), .val (.int q2), .val (.long q3), .second, .val (.int (1 : Int32)), .val (.int (1 : Int32)), .val (.int (128 : Int32)), .val (.int v53), .val (.int v56), .val (.int v58), .val (.ref a60), .unset, .unset] [(.ref a63)])) _
        refine XS.dup X63.here hx rfl (hb hby at_109) rfl rfl ?_
        show Steps p.tables e below (T63.setTop (mkF m 110 #[.val (.int q0), .val (.int q1), .val (.int q2), .val (.long q3), .second, .val (.int (1 : Int32)), .val (.int (1 : Int32)), .val (.int (128 : Int32)), .val (.int v53), .val (.int v56), .val (.int v58), .val (.ref a60), .unset, .unset] [(.ref a63), (.ref a63)])) _
        refine XS.lloadN X63.here hx rfl (hb hby at_110) rfl ?_
        show Steps p.tables e below (T63.setTop (mkF m 111 #[.val (.int q0), .val (.int q1), .val (.int q2), .val (.long q3), .second, .val (.int (1 : Int32)), .val (.int (1 : Int32)), .val (.int (128 : Int32)), .val (.int v53), .val (.int v56), .val (.int v58), .val (.ref a60), .unset, .unset] [(.long q3), (.ref a63), (.ref a63)])) _
        refine X63.ldc2Long hx hown (mvT hZ (hw _ (List.mem_of_getElem? (i := 18) rfl))) (g := (mkF m 111 #[.val (.int q0), .val (.int q1), .val (.int q2), .val (.long q3), .second, .val (.int (1 : Int32)), .val (.int (1 : Int32)), .val (.int (128 : Int32)), .val (.int v53), .val (.int v56), .val (.int v58), .val (.ref a60), .unset, .unset] [(.long q3), (.ref a63), (.ref a63)])) rfl (hb hby at_111) _ ?_
        show Steps p.tables e below (T63.setTop (mkF m 114 #[.val (.int q0), .val (.int q1), .val (.int q2), .val (.long q3), .second, .val (.int (1 : Int32)), .val (.int (1 : Int32)), .val (.int (128 : Int32)), .val (.int v53), .val (.int v56), .val (.int v58), .val (.ref a60), .unset, .unset] [(.long (4294967295 : Int64)), (.long q3), (.ref a63), (.ref a63)])) _
        refine XS.land X63.here hx rfl (hb hby at_114) rfl ?_
        show Steps p.tables e below (T63.setTop (mkF m 115 #[.val (.int q0), .val (.int q1), .val (.int q2), .val (.long q3), .second, .val (.int (1 : Int32)), .val (.int (1 : Int32)), .val (.int (128 : Int32)), .val (.int v53), .val (.int v56), .val (.int v58), .val (.ref a60), .unset, .unset] [(.long (q3 &&& (4294967295 : Int64))), (.ref a63), (.ref a63)])) _
        refine XS.aload X63.here hx rfl (hb hby at_115) rfl rfl ?_
        show Steps p.tables e below (T63.setTop (mkF m 117 #[.val (.int q0), .val (.int q1), .val (.int q2), .val (.long q3), .second, .val (.int (1 : Int32)), .val (.int (1 : Int32)), .val (.int (128 : Int32)), .val (.int v53), .val (.int v56), .val (.int v58), .val (.ref a60), .unset, .unset] [(.ref a60), (.long (q3 &&& (4294967295 : Int64))), (.ref a63), (.ref a63)])) _
        refine XS.iload X63.here hx rfl (hb hby at_117) rfl ?_
        show Steps p.tables e below (T63.setTop (mkF m 119 #[.val (.int q0), .val (.int q1), .val (.int q2), .val (.long q3), .second, .val (.int (1 : Int32)), .val (.int (1 : Int32)), .val (.int (128 : Int32)), .val (.int v53), .val (.int v56), .val (.int v58), .val (.ref a60), .unset, .unset] [(.int v58), (.ref a60), (.long (q3 &&& (4294967295 : Int64))), (.ref a63), (.ref a63)])) _
        refine st64.trans ?_
        show Steps p.tables e below (T64.setTop (mkF m 122 #[.val (.int q0), .val (.int q1), .val (.int q2), .val (.long q3), .second, .val (.int (1 : Int32)), .val (.int (1 : Int32)), .val (.int (128 : Int32)), .val (.int v53), .val (.int v56), .val (.int v58), .val (.ref a60), .unset, .unset] [(.ref a63)])) _
        refine XS.astore X64.here hx rfl (hb hby at_122) rfl rfl (l' := #[.val (.int q0), .val (.int q1), .val (.int q2), .val (.long q3), .second, .val (.int (1 : Int32)), .val (.int (1 : Int32)), .val (.int (128 : Int32)), .val (.int v53), .val (.int v56), .val (.int v58), .val (.ref a60), .val (.ref a63), .unset]) rfl ?_
        show Steps p.tables e below (T64.setTop (mkF m 124 #[.val (.int q0), .val (.int q1), .val (.int q2), .val (.long q3), .second, .val (.int (1 : Int32)), .val (.int (1 : Int32)), .val (.int (128 : Int32)), .val (.int v53), .val (.int v56), .val (.int v58), .val (.ref a60), .val (.ref a63), .unset] [])) _
        refine XS.iload X64.here hx rfl (hb hby at_124) rfl ?_
        show Steps p.tables e below (T64.setTop (mkF m 126 #[.val (.int q0), .val (.int q1), .val (.int q2), .val (.long q3), .second, .val (.int (1 : Int32)), .val (.int (1 : Int32)), .val (.int (128 : Int32)), .val (.int v53), .val (.int v56), .val (.int v58), .val (.ref a60), .val (.ref a63), .unset] [(.int (1 : Int32))])) _
        refine XS.ifNo X64.here hx rfl (hb hby at_126) rfl (by decide) ?_
        show Steps p.tables e below (T64.setTop (mkF m 129 #[.val (.int q0), .val (.int q1), .val (.int q2), .val (.long q3), .second, .val (.int (1 : Int32)), .val (.int (1 : Int32)), .val (.int (128 : Int32)), .val (.int v53), .val (.int v56), .val (.int v58), .val (.ref a60), .val (.ref a63), .unset] [])) _
        refine XS.iload X64.here hx rfl (hb hby at_129) rfl ?_
        exact k
      by_cases c66 : v56 = (0 : Int32)
      · obtain ⟨cq67, kq67, q67a, q67b, q67c⟩ := isOf hZ e64 A64_o0
        obtain ⟨_, _, ⟨T67, L67, k67, n67⟩, -, X67, ⟨Lc67, hQ67, l67, y67, z67⟩, st67⟩ := X64.virtualBack hx (y := (⟨"com/example/stillframe/stillframe/ccr/RoaPayload", "redundantMaxLength", "()Z"⟩ : MethodName)) (z := (⟨"com/example/stillframe/stillframe/ccr/RoaPayload", "redundantMaxLength", "()Z"⟩ : MethodName)) hown (mvT hZ (hw _ (List.mem_of_getElem? (i := 29) rfl))) (mvT hZ (hw _ (List.mem_of_getElem? (i := 30) rfl))) (notFace_of_selects (args := #[]) (mvT hZ (hw _ (List.mem_of_getElem? (i := 32) rfl)))) (mvT hZ (hw _ (List.mem_of_getElem? (i := 32) rfl))) (mvT hZ (hw _ (List.mem_of_getElem? (i := 31) rfl))) (by decide) (backOf (W := 0) (rm4 l Z a0 hw [] a63 a60 v58 v53 h64 n0 sz64 A64_o0 A64_a60 F64_o1 F64_o2 F64_a60_1 ) hZ (hw _ (List.mem_of_getElem? (i := 33) rfl)) (hw _ (List.mem_of_getElem? (i := 17) rfl)) (by decide) (by decide)) q67a q67c (g := (mkF m 143 #[.val (.int q0), .val (.int q1), .val (.int q2), .val (.long q3), .second, .val (.int (1 : Int32)), .val (.int (1 : Int32)), .val (.int (128 : Int32)), .val (.int v53), .val (.int v56), .val (.int v58), .val (.ref a60), .val (.ref a63), .val (.int (1 : Int32))] [(.ref a63)])) rfl (by rw [hml]; rfl) (Steps.refl _) (argsL := []) (rest := []) (lenOf pd_10 rfl) rfl (by show 2 * 0 + _ ≤ _; exact Nat.le_of_eq rfl) (hb hby at_143) (fun _ _ => ⟨rfl, e64, (by decide : 3 + 0 ≤ _), (by decide : 21 + 0 ≤ _)⟩)
        dsimp only [Pt.U, Pt.locs, Pt.cells, Pt.slots] at X67 l67 y67 z67 st67 hQ67
        subst l67 y67 z67
        obtain ⟨rfl, N67q, e67⟩ := hQ67
        have N67 := Fr.app N64 N67q
        have pre68 : ∀ t, Steps p.tables e below (T67.setTop (mkF m 148 #[.val (.int q0), .val (.int q1), .val (.int q2), .val (.long q3), .second, .val (.int (1 : Int32)), .val (.int (1 : Int32)), .val (.int (128 : Int32)), .val (.int v53), .val (.int v56), .val (.int v58), .val (.ref a60), .val (.ref a63), .val (.int (1 : Int32))] [(.int (1 : Int32)), (.int (own_f4  v58 v53))])) t → Steps p.tables e below (s₁.setTop (entryFrame m #[(.int q0), (.int q1), (.int q2), (.long q3)] maxLocals)) t := by
          intro t k
          refine pre65 t ?_
          show Steps p.tables e below (T64.setTop (mkF m 131 #[.val (.int q0), .val (.int q1), .val (.int q2), .val (.long q3), .second, .val (.int (1 : Int32)), .val (.int (1 : Int32)), .val (.int (128 : Int32)), .val (.int v53), .val (.int v56), .val (.int v58), .val (.ref a60), .val (.ref a63), .unset] [(.int v56)])) _
          refine XS.ifNo X64.here hx rfl (hb hby at_131) rfl ((if0 _ _).trans (teq c66).2) ?_
          show Steps p.tables e below (T64.setTop (mkF m 134 #[.val (.int q0), .val (.int q1), .val (.int q2), .val (.long q3), .second, .val (.int (1 : Int32)), .val (.int (1 : Int32)), .val (.int (128 : Int32)), .val (.int v53), .val (.int v56), .val (.int v58), .val (.ref a60), .val (.ref a63), .unset] [])) _
          refine XS.iconst X64.here hx rfl (hb hby at_134) ?_
          show Steps p.tables e below (T64.setTop (mkF m 135 #[.val (.int q0), .val (.int q1), .val (.int q2), .val (.long q3), .second, .val (.int (1 : Int32)), .val (.int (1 : Int32)), .val (.int (128 : Int32)), .val (.int v53), .val (.int v56), .val (.int v58), .val (.ref a60), .val (.ref a63), .unset] [(.int (1 : Int32))])) _
          refine XS.goto X64.here hx rfl (pc0 := 135) (pc' := 139) rfl (hb hby at_135) (by decide) (by decide) ?_
          show Steps p.tables e below (T64.setTop (mkF m 139 #[.val (.int q0), .val (.int q1), .val (.int q2), .val (.long q3), .second, .val (.int (1 : Int32)), .val (.int (1 : Int32)), .val (.int (128 : Int32)), .val (.int v53), .val (.int v56), .val (.int v58), .val (.ref a60), .val (.ref a63), .unset] [(.int (1 : Int32))])) _
          refine XS.istore X64.here hx rfl (hb hby at_139) rfl (l' := #[.val (.int q0), .val (.int q1), .val (.int q2), .val (.long q3), .second, .val (.int (1 : Int32)), .val (.int (1 : Int32)), .val (.int (128 : Int32)), .val (.int v53), .val (.int v56), .val (.int v58), .val (.ref a60), .val (.ref a63), .val (.int (1 : Int32))]) rfl ?_
          show Steps p.tables e below (T64.setTop (mkF m 141 #[.val (.int q0), .val (.int q1), .val (.int q2), .val (.long q3), .second, .val (.int (1 : Int32)), .val (.int (1 : Int32)), .val (.int (128 : Int32)), .val (.int v53), .val (.int v56), .val (.int v58), .val (.ref a60), .val (.ref a63), .val (.int (1 : Int32))] [])) _
          refine XS.aload X64.here hx rfl (hb hby at_141) rfl rfl ?_
          show Steps p.tables e below (T64.setTop (mkF m 143 #[.val (.int q0), .val (.int q1), .val (.int q2), .val (.long q3), .second, .val (.int (1 : Int32)), .val (.int (1 : Int32)), .val (.int (128 : Int32)), .val (.int v53), .val (.int v56), .val (.int v58), .val (.ref a60), .val (.ref a63), .val (.int (1 : Int32))] [(.ref a63)])) _
          refine st67.trans ?_
          show Steps p.tables e below (T67.setTop (mkF m 146 #[.val (.int q0), .val (.int q1), .val (.int q2), .val (.long q3), .second, .val (.int (1 : Int32)), .val (.int (1 : Int32)), .val (.int (128 : Int32)), .val (.int v53), .val (.int v56), .val (.int v58), .val (.ref a60), .val (.ref a63), .val (.int (1 : Int32))] [(.int (own_f4  v58 v53))])) _
          refine XS.iload X67.here hx rfl (hb hby at_146) rfl ?_
          exact k
        by_cases c69 : (own_f4  v58 v53) = (1 : Int32)
        · obtain ⟨fs, hr, hrun, hended, hW, hsame⟩ := X67.leave (v := some (.int (1 : Int32))) (fun h => by rw [Bd.returns] at h; cases h) hlk
          refine ⟨_, _, pre68 _ ?_, hrun, hended, _, _, rfl, ?_, ⟨_, rfl⟩, hW, hsame.mono (by decide) (by decide)⟩
          · show Steps p.tables e below (T67.setTop (mkF m 148 #[.val (.int q0), .val (.int q1), .val (.int q2), .val (.long q3), .second, .val (.int (1 : Int32)), .val (.int (1 : Int32)), .val (.int (128 : Int32)), .val (.int v53), .val (.int v56), .val (.int v58), .val (.ref a60), .val (.ref a63), .val (.int (1 : Int32))] [(.int (1 : Int32)), (.int (own_f4  v58 v53))])) _
            refine XS.icmpNo X67.here hx rfl (hb hby at_148) rfl ((teq c69).2) ?_
            show Steps p.tables e below (T67.setTop (mkF m 151 #[.val (.int q0), .val (.int q1), .val (.int q2), .val (.long q3), .second, .val (.int (1 : Int32)), .val (.int (1 : Int32)), .val (.int (128 : Int32)), .val (.int v53), .val (.int v56), .val (.int v58), .val (.ref a60), .val (.ref a63), .val (.int (1 : Int32))] [])) _
            refine XS.iconst X67.here hx rfl (hb hby at_151) ?_
            show Steps p.tables e below (T67.setTop (mkF m 152 #[.val (.int q0), .val (.int q1), .val (.int q2), .val (.long q3), .second, .val (.int (1 : Int32)), .val (.int (1 : Int32)), .val (.int (128 : Int32)), .val (.int v53), .val (.int v56), .val (.int v58), .val (.ref a60), .val (.ref a63), .val (.int (1 : Int32))] [(.int (1 : Int32))])) _
            refine XS.goto X67.here hx rfl (pc0 := 152) (pc' := 156) rfl (hb hby at_152) (by decide) (by decide) ?_
            show Steps p.tables e below (T67.setTop (mkF m 156 #[.val (.int q0), .val (.int q1), .val (.int q2), .val (.long q3), .second, .val (.int (1 : Int32)), .val (.int (1 : Int32)), .val (.int (128 : Int32)), .val (.int v53), .val (.int v56), .val (.int v58), .val (.ref a60), .val (.ref a63), .val (.int (1 : Int32))] [(.int (1 : Int32))])) _
            exact retN X67 hx (t := .boolean) Bd.returns (by simp) (hb hby at_156) hr
          · show Q0 Z q0 q1 q2 q3 h0 n0 _ T67.heap _
            rw [e67]
            exact ⟨by have w_hv58 := hv58.symm; subst w_hv58; have w_hv56 := hv56.symm; subst w_hv56; have w_hv53 := hv53.symm; subst w_hv53; simp only [own_f0, if_neg c2, if_neg c39, if_pos c66, if_pos c69], N67⟩
        · obtain ⟨fs, hr, hrun, hended, hW, hsame⟩ := X67.leave (v := some (.int (0 : Int32))) (fun h => by rw [Bd.returns] at h; cases h) hlk
          refine ⟨_, _, pre68 _ ?_, hrun, hended, _, _, rfl, ?_, ⟨_, rfl⟩, hW, hsame.mono (by decide) (by decide)⟩
          · show Steps p.tables e below (T67.setTop (mkF m 148 #[.val (.int q0), .val (.int q1), .val (.int q2), .val (.long q3), .second, .val (.int (1 : Int32)), .val (.int (1 : Int32)), .val (.int (128 : Int32)), .val (.int v53), .val (.int v56), .val (.int v58), .val (.ref a60), .val (.ref a63), .val (.int (1 : Int32))] [(.int (1 : Int32)), (.int (own_f4  v58 v53))])) _
            refine XS.icmpYes X67.here hx rfl (pc0 := 148) (pc' := 155) rfl (hb hby at_148) rfl ((feq c69).2) (by decide) (by decide) ?_
            show Steps p.tables e below (T67.setTop (mkF m 155 #[.val (.int q0), .val (.int q1), .val (.int q2), .val (.long q3), .second, .val (.int (1 : Int32)), .val (.int (1 : Int32)), .val (.int (128 : Int32)), .val (.int v53), .val (.int v56), .val (.int v58), .val (.ref a60), .val (.ref a63), .val (.int (1 : Int32))] [])) _
            refine XS.iconst X67.here hx rfl (hb hby at_155) ?_
            show Steps p.tables e below (T67.setTop (mkF m 156 #[.val (.int q0), .val (.int q1), .val (.int q2), .val (.long q3), .second, .val (.int (1 : Int32)), .val (.int (1 : Int32)), .val (.int (128 : Int32)), .val (.int v53), .val (.int v56), .val (.int v58), .val (.ref a60), .val (.ref a63), .val (.int (1 : Int32))] [(.int (0 : Int32))])) _
            exact retN X67 hx (t := .boolean) Bd.returns (by simp) (hb hby at_156) hr
          · show Q0 Z q0 q1 q2 q3 h0 n0 _ T67.heap _
            rw [e67]
            exact ⟨by have w_hv58 := hv58.symm; subst w_hv58; have w_hv56 := hv56.symm; subst w_hv56; have w_hv53 := hv53.symm; subst w_hv53; simp only [own_f0, if_neg c2, if_neg c39, if_pos c66, if_neg c69], N67⟩
      · obtain ⟨cq70, kq70, q70a, q70b, q70c⟩ := isOf hZ e64 A64_o0
        obtain ⟨_, _, ⟨T70, L70, k70, n70⟩, -, X70, ⟨Lc70, hQ70, l70, y70, z70⟩, st70⟩ := X64.virtualBack hx (y := (⟨"com/example/stillframe/stillframe/ccr/RoaPayload", "redundantMaxLength", "()Z"⟩ : MethodName)) (z := (⟨"com/example/stillframe/stillframe/ccr/RoaPayload", "redundantMaxLength", "()Z"⟩ : MethodName)) hown (mvT hZ (hw _ (List.mem_of_getElem? (i := 29) rfl))) (mvT hZ (hw _ (List.mem_of_getElem? (i := 30) rfl))) (notFace_of_selects (args := #[]) (mvT hZ (hw _ (List.mem_of_getElem? (i := 32) rfl)))) (mvT hZ (hw _ (List.mem_of_getElem? (i := 32) rfl))) (mvT hZ (hw _ (List.mem_of_getElem? (i := 31) rfl))) (by decide) (backOf (W := 0) (rm4 l Z a0 hw [] a63 a60 v58 v53 h64 n0 sz64 A64_o0 A64_a60 F64_o1 F64_o2 F64_a60_1 ) hZ (hw _ (List.mem_of_getElem? (i := 33) rfl)) (hw _ (List.mem_of_getElem? (i := 17) rfl)) (by decide) (by decide)) q70a q70c (g := (mkF m 143 #[.val (.int q0), .val (.int q1), .val (.int q2), .val (.long q3), .second, .val (.int (1 : Int32)), .val (.int (1 : Int32)), .val (.int (128 : Int32)), .val (.int v53), .val (.int v56), .val (.int v58), .val (.ref a60), .val (.ref a63), .val (.int (0 : Int32))] [(.ref a63)])) rfl (by rw [hml]; rfl) (Steps.refl _) (argsL := []) (rest := []) (lenOf pd_10 rfl) rfl (by show 2 * 0 + _ ≤ _; exact Nat.le_of_eq rfl) (hb hby at_143) (fun _ _ => ⟨rfl, e64, (by decide : 3 + 0 ≤ _), (by decide : 21 + 0 ≤ _)⟩)
        dsimp only [Pt.U, Pt.locs, Pt.cells, Pt.slots] at X70 l70 y70 z70 st70 hQ70
        subst l70 y70 z70
        obtain ⟨rfl, N70q, e70⟩ := hQ70
        have N70 := Fr.app N64 N70q
        have pre71 : ∀ t, Steps p.tables e below (T70.setTop (mkF m 148 #[.val (.int q0), .val (.int q1), .val (.int q2), .val (.long q3), .second, .val (.int (1 : Int32)), .val (.int (1 : Int32)), .val (.int (128 : Int32)), .val (.int v53), .val (.int v56), .val (.int v58), .val (.ref a60), .val (.ref a63), .val (.int (0 : Int32))] [(.int (0 : Int32)), (.int (own_f4  v58 v53))])) t → Steps p.tables e below (s₁.setTop (entryFrame m #[(.int q0), (.int q1), (.int q2), (.long q3)] maxLocals)) t := by
          intro t k
          refine pre65 t ?_
          show Steps p.tables e below (T64.setTop (mkF m 131 #[.val (.int q0), .val (.int q1), .val (.int q2), .val (.long q3), .second, .val (.int (1 : Int32)), .val (.int (1 : Int32)), .val (.int (128 : Int32)), .val (.int v53), .val (.int v56), .val (.int v58), .val (.ref a60), .val (.ref a63), .unset] [(.int v56)])) _
          refine XS.ifYes X64.here hx rfl (pc0 := 131) (pc' := 138) rfl (hb hby at_131) rfl ((if0 _ _).trans (feq c66).2) (by decide) (by decide) ?_
          show Steps p.tables e below (T64.setTop (mkF m 138 #[.val (.int q0), .val (.int q1), .val (.int q2), .val (.long q3), .second, .val (.int (1 : Int32)), .val (.int (1 : Int32)), .val (.int (128 : Int32)), .val (.int v53), .val (.int v56), .val (.int v58), .val (.ref a60), .val (.ref a63), .unset] [])) _
          refine XS.iconst X64.here hx rfl (hb hby at_138) ?_
          show Steps p.tables e below (T64.setTop (mkF m 139 #[.val (.int q0), .val (.int q1), .val (.int q2), .val (.long q3), .second, .val (.int (1 : Int32)), .val (.int (1 : Int32)), .val (.int (128 : Int32)), .val (.int v53), .val (.int v56), .val (.int v58), .val (.ref a60), .val (.ref a63), .unset] [(.int (0 : Int32))])) _
          refine XS.istore X64.here hx rfl (hb hby at_139) rfl (l' := #[.val (.int q0), .val (.int q1), .val (.int q2), .val (.long q3), .second, .val (.int (1 : Int32)), .val (.int (1 : Int32)), .val (.int (128 : Int32)), .val (.int v53), .val (.int v56), .val (.int v58), .val (.ref a60), .val (.ref a63), .val (.int (0 : Int32))]) rfl ?_
          show Steps p.tables e below (T64.setTop (mkF m 141 #[.val (.int q0), .val (.int q1), .val (.int q2), .val (.long q3), .second, .val (.int (1 : Int32)), .val (.int (1 : Int32)), .val (.int (128 : Int32)), .val (.int v53), .val (.int v56), .val (.int v58), .val (.ref a60), .val (.ref a63), .val (.int (0 : Int32))] [])) _
          refine XS.aload X64.here hx rfl (hb hby at_141) rfl rfl ?_
          show Steps p.tables e below (T64.setTop (mkF m 143 #[.val (.int q0), .val (.int q1), .val (.int q2), .val (.long q3), .second, .val (.int (1 : Int32)), .val (.int (1 : Int32)), .val (.int (128 : Int32)), .val (.int v53), .val (.int v56), .val (.int v58), .val (.ref a60), .val (.ref a63), .val (.int (0 : Int32))] [(.ref a63)])) _
          refine st70.trans ?_
          show Steps p.tables e below (T70.setTop (mkF m 146 #[.val (.int q0), .val (.int q1), .val (.int q2), .val (.long q3), .second, .val (.int (1 : Int32)), .val (.int (1 : Int32)), .val (.int (128 : Int32)), .val (.int v53), .val (.int v56), .val (.int v58), .val (.ref a60), .val (.ref a63), .val (.int (0 : Int32))] [(.int (own_f4  v58 v53))])) _
          refine XS.iload X70.here hx rfl (hb hby at_146) rfl ?_
          exact k
        by_cases c72 : (own_f4  v58 v53) = (0 : Int32)
        · obtain ⟨fs, hr, hrun, hended, hW, hsame⟩ := X70.leave (v := some (.int (1 : Int32))) (fun h => by rw [Bd.returns] at h; cases h) hlk
          refine ⟨_, _, pre71 _ ?_, hrun, hended, _, _, rfl, ?_, ⟨_, rfl⟩, hW, hsame.mono (by decide) (by decide)⟩
          · show Steps p.tables e below (T70.setTop (mkF m 148 #[.val (.int q0), .val (.int q1), .val (.int q2), .val (.long q3), .second, .val (.int (1 : Int32)), .val (.int (1 : Int32)), .val (.int (128 : Int32)), .val (.int v53), .val (.int v56), .val (.int v58), .val (.ref a60), .val (.ref a63), .val (.int (0 : Int32))] [(.int (0 : Int32)), (.int (own_f4  v58 v53))])) _
            refine XS.icmpNo X70.here hx rfl (hb hby at_148) rfl ((teq c72).2) ?_
            show Steps p.tables e below (T70.setTop (mkF m 151 #[.val (.int q0), .val (.int q1), .val (.int q2), .val (.long q3), .second, .val (.int (1 : Int32)), .val (.int (1 : Int32)), .val (.int (128 : Int32)), .val (.int v53), .val (.int v56), .val (.int v58), .val (.ref a60), .val (.ref a63), .val (.int (0 : Int32))] [])) _
            refine XS.iconst X70.here hx rfl (hb hby at_151) ?_
            show Steps p.tables e below (T70.setTop (mkF m 152 #[.val (.int q0), .val (.int q1), .val (.int q2), .val (.long q3), .second, .val (.int (1 : Int32)), .val (.int (1 : Int32)), .val (.int (128 : Int32)), .val (.int v53), .val (.int v56), .val (.int v58), .val (.ref a60), .val (.ref a63), .val (.int (0 : Int32))] [(.int (1 : Int32))])) _
            refine XS.goto X70.here hx rfl (pc0 := 152) (pc' := 156) rfl (hb hby at_152) (by decide) (by decide) ?_
            show Steps p.tables e below (T70.setTop (mkF m 156 #[.val (.int q0), .val (.int q1), .val (.int q2), .val (.long q3), .second, .val (.int (1 : Int32)), .val (.int (1 : Int32)), .val (.int (128 : Int32)), .val (.int v53), .val (.int v56), .val (.int v58), .val (.ref a60), .val (.ref a63), .val (.int (0 : Int32))] [(.int (1 : Int32))])) _
            exact retN X70 hx (t := .boolean) Bd.returns (by simp) (hb hby at_156) hr
          · show Q0 Z q0 q1 q2 q3 h0 n0 _ T70.heap _
            rw [e70]
            exact ⟨by have w_hv58 := hv58.symm; subst w_hv58; have w_hv56 := hv56.symm; subst w_hv56; have w_hv53 := hv53.symm; subst w_hv53; simp only [own_f0, if_neg c2, if_neg c39, if_neg c66, if_pos c72], N70⟩
        · obtain ⟨fs, hr, hrun, hended, hW, hsame⟩ := X70.leave (v := some (.int (0 : Int32))) (fun h => by rw [Bd.returns] at h; cases h) hlk
          refine ⟨_, _, pre71 _ ?_, hrun, hended, _, _, rfl, ?_, ⟨_, rfl⟩, hW, hsame.mono (by decide) (by decide)⟩
          · show Steps p.tables e below (T70.setTop (mkF m 148 #[.val (.int q0), .val (.int q1), .val (.int q2), .val (.long q3), .second, .val (.int (1 : Int32)), .val (.int (1 : Int32)), .val (.int (128 : Int32)), .val (.int v53), .val (.int v56), .val (.int v58), .val (.ref a60), .val (.ref a63), .val (.int (0 : Int32))] [(.int (0 : Int32)), (.int (own_f4  v58 v53))])) _
            refine XS.icmpYes X70.here hx rfl (pc0 := 148) (pc' := 155) rfl (hb hby at_148) rfl ((feq c72).2) (by decide) (by decide) ?_
            show Steps p.tables e below (T70.setTop (mkF m 155 #[.val (.int q0), .val (.int q1), .val (.int q2), .val (.long q3), .second, .val (.int (1 : Int32)), .val (.int (1 : Int32)), .val (.int (128 : Int32)), .val (.int v53), .val (.int v56), .val (.int v58), .val (.ref a60), .val (.ref a63), .val (.int (0 : Int32))] [])) _
            refine XS.iconst X70.here hx rfl (hb hby at_155) ?_
            show Steps p.tables e below (T70.setTop (mkF m 156 #[.val (.int q0), .val (.int q1), .val (.int q2), .val (.long q3), .second, .val (.int (1 : Int32)), .val (.int (1 : Int32)), .val (.int (128 : Int32)), .val (.int v53), .val (.int v56), .val (.int v58), .val (.ref a60), .val (.ref a63), .val (.int (0 : Int32))] [(.int (0 : Int32))])) _
            exact retN X70 hx (t := .boolean) Bd.returns (by simp) (hb hby at_156) hr
          · show Q0 Z q0 q1 q2 q3 h0 n0 _ T70.heap _
            rw [e70]
            exact ⟨by have w_hv58 := hv58.symm; subst w_hv58; have w_hv56 := hv56.symm; subst w_hv56; have w_hv53 := hv53.symm; subst w_hv53; simp only [own_f0, if_neg c2, if_neg c39, if_neg c66, if_neg c72], N70⟩

theorem own_mx {x x2 y z n m : Int32} {k : Int} (h : y = (x &&& 2147483647) % n) (hn : n.toInt = k) (hm : m.toInt = k - 1) (hk : 1 ≤ k ∧ k ≤ 1000) (hz : z = y + (x2 &&& 2147483647) % (m - y + 1)) : 0 ≤ z.toInt ∧ z.toInt = y.toInt + ((x2 &&& 2147483647) % (m - y + 1)).toInt ∧ 0 ≤ ((x2 &&& 2147483647) % (m - y + 1)).toInt := by
  have r := own_nzR h hn hk
  have q := own_nzS h hn hm hk
  have a := own_mask x2 2147483647 31 (by decide) (by decide)
  have b := own_irem (x := x2 &&& 2147483647) (y := m - y + 1) (by omega)
  have c := Int.emod_lt_of_pos (x2 &&& 2147483647).toInt (show 0 < (m - y + 1).toInt by omega)
  have d := Int.emod_nonneg (x2 &&& 2147483647).toInt (show (m - y + 1).toInt ≠ 0 by omega)
  have f := own_iadd (x := y) (y := (x2 &&& 2147483647) % (m - y + 1)) (by omega)
  rw [← hz] at f
  omega
theorem own_eqn {x x2 y n m : Int32} {k : Int} (h : y = (x &&& 2147483647) % n) (hn : n.toInt = k) (hm : m.toInt = k - 1) (hk : 1 ≤ k ∧ k ≤ 1000) : y + (x2 &&& 2147483647) % (m - y + 1) = y ↔ (x2 &&& 2147483647) % (m - y + 1) = 0 := by
  obtain ⟨h1, h2, h3⟩ := own_mx (x2 := x2) h hn hm hk rfl
  have e : (0 : Int32).toInt = 0 := by decide
  rw [← Int32.toInt_inj, ← Int32.toInt_inj, e]
  omega
theorem own_m1 {x y n : Int32} {k : Int} (h : y = (x &&& 2147483647) % n) (hn : n.toInt = k) (hk : 1 ≤ k ∧ k ≤ 1000) : ¬ (-1 : Int32) = y := fun e => by
  have r := own_nzR h hn hk
  rw [← e] at r
  have z : (-1 : Int32).toInt = -1 := by decide
  omega
theorem own_plain (q0 q1 q2 : Int32) (q3 : Int64) : own_f0 q0 q1 q2 q3 = 1 := by
  have a1 := own_m1 (x := q1) (n := 33) (k := 33) rfl (by decide) (by decide)
  have a2 := own_m1 (x := q1) (n := 129) (k := 129) rfl (by decide) (by decide)
  have b1 := own_eqn (x := q1) (x2 := q2) (m := 32) (n := 33) (k := 33) rfl (by decide) (by decide) (by decide)
  have b2 := own_eqn (x := q1) (x2 := q2) (m := 128) (n := 129) (k := 129) rfl (by decide) (by decide) (by decide)
  simp only [own_f0, own_f4, own_f5, if_neg a1, if_neg a2, b1, b2]
  repeat' split
  all_goals first | rfl | contradiction | simp_all

set_option maxRecDepth 65536 in
set_option maxHeartbeats 40000000 in
theorem comes_1 {Post : Tables → Env → Array Value → State → Outcome → State → Prop} (hpost : ∀ tb e args s v u, (limb_1_1.after args s (.returned v) u = true ∧ limb_1_2.after args s (.returned v) u = true ∧ True) → FrameEnd s (.returned v) u (Jvm.fieldLocs frame_1_writes args s ++ Jvm.arrayLocs frame_1_arrays args s ++ Jvm.staticLocs frame_1_statics s) 16 128 → Post tb e args s (.returned v) u) :
    ArmFor flags0 classFile x code maxLocals ret World_1 tables_1 room_1 Calls_1 rest_1 Pre_1 Post := by
  intro l hfl _ _ p e ha hc hk s m args below hf hA hF happ hP
  obtain ⟨hcalls, hrest, hpre⟩ := hP
  obtain ⟨-, -, -, hnamed, -, -, -, hat⟩ := (Spec.applies_iff hf).mp happ
  obtain ⟨hg, hn⟩ := and_e (Cond.before_iff.mp (show (Jvm.Cond.and given_1 narrow_1).before args s = true from hpre))
  obtain ⟨gc, gr0⟩ := and_e hg
  obtain ⟨w0, w1, w2, w3, rfl⟩ : ∃ w0 w1 w2 w3 : Value, args = #[w0, w1, w2, w3] := by
    have hs : args.size = 4 := by simpa [Cond.value, given_1] using gc
    obtain ⟨L⟩ := args
    match L, hs with
    | [w0, w1, w2, w3], _ => exact ⟨w0, w1, w2, w3, rfl⟩
  have hw := fun d (hd : d ∈ tables_1) => atoms_spec (ws := Jvm.Cond.code x code maxLocals ret :: tables_1) hat d (List.mem_cons_of_mem _ hd)
  obtain ⟨g0, gr1⟩ := and_e gr0
  obtain ⟨i0, ei0⟩ := is_v g0
  obtain rfl : w0 = (.int i0) := Option.some.inj ei0
  obtain ⟨g1, gr2⟩ := and_e gr1
  obtain ⟨i1, ei1⟩ := is_v g1
  obtain rfl : w1 = (.int i1) := Option.some.inj ei1
  obtain ⟨g2, gr3⟩ := and_e gr2
  obtain ⟨i2, ei2⟩ := is_v g2
  obtain rfl : w2 = (.int i2) := Option.some.inj ei2
  obtain ⟨i3, ei3⟩ := isL_v gr3
  obtain rfl : w3 = (.long i3) := Option.some.inj ei3
  obtain ⟨n, o, h1, h2, h3, _, L, rfl, ⟨hv, N⟩, hq⟩ := rm0 l s _ hw tables_1 i0 i1 i2 i3 s.heap s.heap.size (Nat.le_refl _) p e ha hc hk s m _ below hf ((Spec.applies_iff_loose hf).mp happ).1 ⟨rfl, State.Warmed39.refl s, rfl⟩ trivial
  rw [own_plain] at hv
  subst hv
  refine ⟨n, _, h1, h2, h3, hpost _ _ _ _ _ _ ⟨Cond.after_iff.mpr rfl, Cond.after_iff.mpr (eq_i res_at (Term.int_eval (1)) rfl), trivial⟩ ⟨hq.1, hq.2.1, (hq.2.2.sift fun y hy => Or.inr (N y hy)).mono (by decide) (by decide)⟩⟩
theorem main_1_1 : Claimed_1_1 := comes_1 fun _ _ _ _ _ _ h hF => ⟨h.1, hF⟩
theorem main_1_2 : Claimed_1_2 := comes_1 fun _ _ _ _ _ _ h hF => ⟨h.2.1, hF⟩
end Jvm.Pilot.@@N@@
namespace Jvm.Pilot.@@N@@
open Jvm Jvm.ClassFile Sem Op Lib Jvm.Free Jvm.Stand Jvm.Pilot.@@N@@.Jvm.D
/-! MADE BY PROGRAM (witnessworld.py) out of the Statement's table words and the real class files: 10 classes; the members and pool entries that the words name. The judged class is class 1, her method 1. -/
namespace start1
open Jvm.ClassFile
def u (s : String) : CpInfo := .utf8 (stringToUtf16 s)
/-- a pool by its gaps: so many unusable entries, then the entry; so many at the end -/
def gap : Nat → List CpInfo → List CpInfo
  | 0, r => r
  | n + 1, r => .unusable :: gap n r
def poolList (es : List (Nat × CpInfo)) (last : Nat) : List CpInfo := es.foldr (fun e r => gap e.1 (e.2 :: r)) (gap last [])
def pool (es : List (Nat × CpInfo)) (last : Nat) : Array CpInfo := ⟨poolList es last⟩
def fileOf (pool : Array CpInfo) (this : Nat) (attrs : Array Attribute := #[]) (ms : Array MethodInfo := #[]) (fl : Nat := 33) (sup : Nat := 0) (ifs : Array Nat := #[]) (fds : Array FieldInfo := #[]) : ClassFile where
  minorVersion := 0
  majorVersion := 65
  constantPool := pool
  accessFlags := fl
  thisClass := this
  superClass := sup
  interfaces := ifs
  fields := fds
  methods := ms
  attributes := attrs
def plain (name : String) (sup : Option ClassId) : Class where
  name := name
  kind := .ordinary
  loader := none
  accessFlags := 33
  super := sup
  interfaces := #[]
  cf := none
  fields := #[]
  methods := #[]
  instanceTypes := #[]
  staticTypes := #[]
  resolved := #[]
  callSites := []
  init := .initialized
  statics := none
  mirror := none

def pool0 : Array CpInfo := pool [(5, u "<init>"), (0, u "()V"), (1, .class_ 10), (1, u "java/lang/Object")] 113

def k0c0 : Code := { maxStack := 0, maxLocals := 1, code := object_method_1_code, exceptionTable := #[], attributes := #[] }
def k0m0 : Method := { name := "<init>", desc := "()V", sig := { parameters := [], returnType := none }, accessFlags := 1, code := some k0c0 }
/-- java/lang/Object -/
def k0 : Class := { plain "java/lang/Object" none with
  accessFlags := 33
  interfaces := #[]
  cf := some (fileOf pool0 8 #[] #[{ accessFlags := 1, nameIndex := 5, descriptorIndex := 6, attributes := #[] }] 33 0 #[] #[])
  fields := #[]
  methods := #[k0m0]
  instanceTypes := #[]
  staticTypes := #[]
  resolved := Array.replicate 124 none
  statics := none }

def pool1 : Array CpInfo := pool [(2, .class_ 4), (1, u "java/lang/Object"), (0, u "<init>"), (0, u "()V"), (0, .integer 2147483647), (0, .class_ 9), (0, u "com/example/stillframe/stillframe/ccr/RoaPayload"), (0, .class_ 11), (0, u "com/example/stillframe/stillframe/ccr/IpPrefix"), (0, .methodref 10 13), (0, .nameAndType 5 14), (0, u "([BI)V"), (0, .long 4294967295), (1, .methodref 8 18), (0, .nameAndType 5 19), (0, u "(JLcom/example/stillframe/stillframe/ccr/IpPrefix;I)V"), (0, .methodref 8 21), (0, .nameAndType 22 23), (0, u "redundantMaxLength"), (0, u "()Z"), (0, .class_ 25), (0, u "com/example/stillframe/stillframe/ccr/RoaPayloadRedundantMaxLengthPinLaw"), (2, u "law"), (0, u "(IIIJ)Z")] 3

def k1m0 : Method := { name := "<init>", desc := "()V", sig := { parameters := [], returnType := none }, accessFlags := 1, code := none }
def k1c1 : Code := { maxStack := 6, maxLocals := 14, code := code, exceptionTable := #[], attributes := #[] }
def k1m1 : Method := { name := "law", desc := "(IIIJ)Z", sig := { parameters := [.int, .int, .int, .long], returnType := some .boolean }, accessFlags := 9, code := some k1c1 }
/-- com/example/stillframe/stillframe/ccr/RoaPayloadRedundantMaxLengthPinLaw -/
def k1 : Class := { plain "com/example/stillframe/stillframe/ccr/RoaPayloadRedundantMaxLengthPinLaw" (some 0) with
  accessFlags := 49
  interfaces := #[]
  cf := some (fileOf pool1 24 #[] #[{ accessFlags := 1, nameIndex := 5, descriptorIndex := 6, attributes := #[] }, { accessFlags := 9, nameIndex := 28, descriptorIndex := 29, attributes := #[] }] 49 2 #[] #[])
  fields := #[]
  methods := #[k1m0, k1m1]
  instanceTypes := #[]
  staticTypes := #[]
  resolved := Array.replicate 33 none
  statics := none }

def pool2 : Array CpInfo := pool [(1, .methodref 2 3), (0, .class_ 4), (0, .nameAndType 5 6), (0, u "java/lang/Object"), (0, u "<init>"), (0, u "()V"), (0, .fieldref 8 9), (0, .class_ 10), (0, .nameAndType 11 12), (0, u "com/example/stillframe/stillframe/ccr/IpPrefix"), (0, u "address"), (0, u "[B"), (0, .fieldref 8 14), (0, .nameAndType 15 16), (0, u "length"), (0, u "I"), (11, u "([BI)V"), (112, u "()I"), (43, u "IPV4_OCTETS"), (2, u "IPV6_GROUPS")] 37

def k2c0 : Code := { maxStack := 2, maxLocals := 3, code := prog_39_method_1_code, exceptionTable := #[], attributes := #[] }
def k2m0 : Method := { name := "<init>", desc := "([BI)V", sig := { parameters := [(.array .byte), .int], returnType := none }, accessFlags := 0, code := some k2c0 }
def k2c1 : Code := { maxStack := 1, maxLocals := 1, code := prog_39_method_8_code, exceptionTable := #[], attributes := #[] }
def k2m1 : Method := { name := "length", desc := "()I", sig := { parameters := [], returnType := some .int }, accessFlags := 1, code := some k2c1 }
/-- com/example/stillframe/stillframe/ccr/IpPrefix -/
def k2 : Class := { plain "com/example/stillframe/stillframe/ccr/IpPrefix" (some 0) with
  accessFlags := 49
  interfaces := #[]
  cf := some (fileOf pool2 8 #[] #[{ accessFlags := 0, nameIndex := 5, descriptorIndex := 28, attributes := #[] }, { accessFlags := 1, nameIndex := 15, descriptorIndex := 141, attributes := #[] }] 49 2 #[] #[{ accessFlags := 26, nameIndex := 185, descriptorIndex := 16, attributes := #[] }, { accessFlags := 26, nameIndex := 188, descriptorIndex := 16, attributes := #[] }, { accessFlags := 18, nameIndex := 11, descriptorIndex := 12, attributes := #[] }, { accessFlags := 18, nameIndex := 15, descriptorIndex := 16, attributes := #[] }])
  fields := #[{ name := "IPV4_OCTETS", type := .int, accessFlags := 26, slot := 0, constantValue := 0 }, { name := "IPV6_GROUPS", type := .int, accessFlags := 26, slot := 1, constantValue := 0 }, { name := "address", type := (.array .byte), accessFlags := 18, slot := 0, constantValue := 0 }, { name := "length", type := .int, accessFlags := 18, slot := 1, constantValue := 0 }]
  methods := #[k2m0, k2m1]
  instanceTypes := #[(.array .byte), .int]
  staticTypes := #[.int, .int]
  resolved := Array.replicate 226 none
  statics := none }

def pool3 : Array CpInfo := pool [(1, .methodref 2 3), (0, .class_ 4), (0, .nameAndType 5 6), (0, u "java/lang/Object"), (0, u "<init>"), (0, u "()V"), (0, .fieldref 8 9), (0, .class_ 10), (0, .nameAndType 11 12), (0, u "com/example/stillframe/stillframe/ccr/RoaPayload"), (0, u "asn"), (0, u "J"), (0, .fieldref 8 14), (0, .nameAndType 15 16), (0, u "prefix"), (0, u "Lcom/example/stillframe/stillframe/ccr/IpPrefix;"), (0, .fieldref 8 18), (0, .nameAndType 19 20), (0, u "maxLength"), (0, u "I"), (11, u "(JLcom/example/stillframe/stillframe/ccr/IpPrefix;I)V"), (0, .methodref 34 35), (0, .class_ 36), (0, .nameAndType 37 38), (0, u "com/example/stillframe/stillframe/ccr/IpPrefix"), (0, u "length"), (0, u "()I"), (43, u "NO_MAX_LENGTH"), (10, u "redundantMaxLength"), (0, u "()Z")] 3

def k3c0 : Code := { maxStack := 3, maxLocals := 5, code := prog_42_method_1_code, exceptionTable := #[], attributes := #[] }
def k3m0 : Method := { name := "<init>", desc := "(JLcom/example/stillframe/stillframe/ccr/IpPrefix;I)V", sig := { parameters := [.long, (.object "com/example/stillframe/stillframe/ccr/IpPrefix"), .int], returnType := none }, accessFlags := 0, code := some k3c0 }
def k3c1 : Code := { maxStack := 2, maxLocals := 1, code := prog_42_method_8_code, exceptionTable := #[], attributes := #[] }
def k3m1 : Method := { name := "redundantMaxLength", desc := "()Z", sig := { parameters := [], returnType := some .boolean }, accessFlags := 0, code := some k3c1 }
/-- com/example/stillframe/stillframe/ccr/RoaPayload -/
def k3 : Class := { plain "com/example/stillframe/stillframe/ccr/RoaPayload" (some 0) with
  accessFlags := 49
  interfaces := #[]
  cf := some (fileOf pool3 8 #[] #[{ accessFlags := 0, nameIndex := 5, descriptorIndex := 32, attributes := #[] }, { accessFlags := 0, nameIndex := 93, descriptorIndex := 94, attributes := #[] }] 49 2 #[] #[{ accessFlags := 24, nameIndex := 82, descriptorIndex := 20, attributes := #[] }, { accessFlags := 18, nameIndex := 11, descriptorIndex := 12, attributes := #[] }, { accessFlags := 18, nameIndex := 15, descriptorIndex := 16, attributes := #[] }, { accessFlags := 18, nameIndex := 19, descriptorIndex := 20, attributes := #[] }])
  fields := #[{ name := "NO_MAX_LENGTH", type := .int, accessFlags := 24, slot := 0, constantValue := 0 }, { name := "asn", type := .long, accessFlags := 18, slot := 0, constantValue := 0 }, { name := "prefix", type := (.object "com/example/stillframe/stillframe/ccr/IpPrefix"), accessFlags := 18, slot := 1, constantValue := 0 }, { name := "maxLength", type := .int, accessFlags := 18, slot := 2, constantValue := 0 }]
  methods := #[k3m0, k3m1]
  instanceTypes := #[.long, (.object "com/example/stillframe/stillframe/ccr/IpPrefix"), .int]
  staticTypes := #[.int]
  resolved := Array.replicate 98 none
  statics := none }

def pool4 : Array CpInfo := pool [(1, u "java/lang/Cloneable"), (0, .class_ 1), (0, u "java/lang/Object"), (0, .class_ 3)] 3

/-- java/lang/Cloneable -/
def k4 : Class := { plain "java/lang/Cloneable" (some 0) with
  accessFlags := 1537
  interfaces := #[]
  cf := some (fileOf pool4 2 #[] #[] 1537 4 #[] #[])
  fields := #[]
  methods := #[]
  instanceTypes := #[]
  staticTypes := #[]
  resolved := Array.replicate 8 none
  statics := none }

def pool5 : Array CpInfo := pool [(1, u "java/io/Serializable"), (0, .class_ 1), (0, u "java/lang/Object"), (0, .class_ 3)] 3

/-- java/io/Serializable -/
def k5 : Class := { plain "java/io/Serializable" (some 0) with
  accessFlags := 1537
  interfaces := #[]
  cf := some (fileOf pool5 2 #[] #[] 1537 4 #[] #[])
  fields := #[]
  methods := #[]
  instanceTypes := #[]
  staticTypes := #[]
  resolved := Array.replicate 8 none
  statics := none }

/-- the primitive byte -/
def k6 : Class := { plain "byte" none with kind := .primitive 'B', accessFlags := 0x411 }
/-- [B -/
def k7 : Class := { plain "[B" (some 0) with kind := .array 6 .byte, interfaces := #[4, 5], accessFlags := 1041 }

/-- the primitive int -/
def k8 : Class := { plain "int" none with kind := .primitive 'I', accessFlags := 0x411 }
/-- [I -/
def k9 : Class := { plain "[I" (some 0) with kind := .array 8 .int, interfaces := #[4, 5], accessFlags := 1041 }

def heap : Heap := #[]
def classes : Array Class := #[k0, k1, k2, k3, k4, k5, k6, k7, k8, k9]
def interned : List (Array UInt16 × Addr) := []
def slotsUsed : Nat := 0
def theMethod : MethodId := ⟨1, 1⟩
def args0 : Array Value := #[.int 1, .int 2, .int 3, .long 5]
def aboutOver (below : List Frame) : State where
  vm := { classes := classes, interned := interned.toArray }
  heap := heap
  slotsUsed := slotsUsed
  threads := #[{ frames := .invoking theMethod args0 :: below }]
def below0 : List Frame := [.native { method := ⟨0, 0⟩, args := #[] }]
def about1 : State := aboutOver below0
def p0 : Program := .bare "" "" ""
def e0 : Env := launch0.env 0 0 0
theorem w_frames : about1.frames = Frame.invoking theMethod args0 :: below0 := rfl
set_option maxRecDepth 65536 in
theorem w_args : argsFit about1.vm theMethod args0 = true := by decide +kernel
set_option maxRecDepth 65536 in
theorem w_heap : heapFits about1 = true := by decide +kernel
set_option maxRecDepth 65536 in
theorem w_runnable : about1.curStatus? = some .runnable := by decide +kernel
set_option maxRecDepth 65536 in
theorem w_alone : about1.alone = true := by decide +kernel
set_option maxRecDepth 65536 in
theorem w_named : about1.methodNamed? x = some theMethod := by decide +kernel
set_option maxRecDepth 65536 in
theorem w_hears : about1.hears theMethod below0 = true := by decide +kernel
set_option maxRecDepth 65536 in
theorem w_ripe : about1.ripe theMethod args0 below0 = true := by decide +kernel
theorem w_running : about1.status = .running := rfl
set_option maxRecDepth 65536 in
theorem w_room : about1.hasRoom e0.platform room_1 = true :=
  launch0.hasRoom_least _ room_1 (by decide +kernel) (by decide +kernel) (by decide +kernel) (by decide +kernel) (by decide +kernel) (by decide +kernel)
theorem allAtoms_all (ts : List Jvm.Cond) (a : Array Jvm.Value) (st : Jvm.State) : (allAtoms ts).before a st = ts.all (fun c => c.before a st) := by
  induction ts with
  | nil => rfl
  | cons c t ih =>
    show (Jvm.Cond.and c (allAtoms t)).before a st = _
    rw [Jvm.Cond.before_and, ih, List.all_cons]
def words1 : List Jvm.Cond := Jvm.Cond.code x code maxLocals ret :: tables_1
/-- a 'code' word, met by the world's own term for the bytes: nothing is compared byte by byte -/
theorem code_word {y : MethodName} {bytes : ByteArray} {mx : Nat} {rt : Option FieldType} {a : Array Value} {s : State} {m : MethodId} {meth : Method} {c : Code} (h1 : s.methodNamed? y = some m) (h2 : s.vm.method? m = some meth) (h3 : meth.code = some c) (h4 : c.code = bytes)
    (h5 : (c.maxLocals == mx && c.exceptionTable.isEmpty && decide (c.maxStack ≤ mostOperands) && decide (meth.sig.returnType = rt) && !meth.locks && decide (parseMethodDescriptor y.desc = some meth.sig)) = true) : (Jvm.Cond.code y bytes mx rt).before a s = true := by
  simp only [Bool.and_eq_true, beq_iff_eq, Bool.not_eq_true', decide_eq_true_eq] at h5
  obtain ⟨⟨⟨⟨⟨g1, g2⟩, g3⟩, g4⟩, g5⟩, g6⟩ := h5
  simp [Cond.before, Cond.holds, Cond.value, h1, h2, h3, h4, g1, g2, g3, g4, g5, g6]
def isCode : Jvm.Cond → Bool
  | .code _ _ _ _ => true
  | _ => false
theorem all_split {L : List Jvm.Cond} {P : Jvm.Cond → Bool} (h1 : L.all (fun c => isCode c || P c) = true) (h2 : ∀ c ∈ L.filter isCode, P c = true) : L.all P = true := by
  refine List.all_eq_true.mpr fun c hc => ?_
  have h := List.all_eq_true.mp h1 c hc
  rcases Bool.eq_false_or_eq_true (isCode c) with hi | hi
  · exact h2 c (List.mem_filter.mpr ⟨hc, hi⟩)
  · simpa [hi] using h
set_option maxRecDepth 65536 in
theorem w_c0 : (Jvm.Cond.code x code maxLocals ret).before args0 about1 = true := code_word (m := ⟨1, 1⟩) (meth := k1m1) (c := k1c1) (by decide +kernel) rfl rfl rfl (by decide +kernel)
set_option maxRecDepth 65536 in
theorem w_c1 : (Jvm.Cond.code ({ cls := "com/example/stillframe/stillframe/ccr/IpPrefix", name := "<init>", desc := "([BI)V" } : Jvm.MethodName) prog_39_method_1_code (3 : Nat) (Option.none : Option Jvm.ClassFile.FieldType)).before args0 about1 = true := code_word (m := ⟨2, 0⟩) (meth := k2m0) (c := k2c0) (by decide +kernel) rfl rfl rfl (by decide +kernel)
set_option maxRecDepth 65536 in
theorem w_c2 : (Jvm.Cond.code ({ cls := "java/lang/Object", name := "<init>", desc := "()V" } : Jvm.MethodName) object_method_1_code (1 : Nat) (Option.none : Option Jvm.ClassFile.FieldType)).before args0 about1 = true := code_word (m := ⟨0, 0⟩) (meth := k0m0) (c := k0c0) (by decide +kernel) rfl rfl rfl (by decide +kernel)
set_option maxRecDepth 65536 in
theorem w_c3 : (Jvm.Cond.code ({ cls := "com/example/stillframe/stillframe/ccr/RoaPayload", name := "<init>", desc := "(JLcom/example/stillframe/stillframe/ccr/IpPrefix;I)V" } : Jvm.MethodName) prog_42_method_1_code (5 : Nat) (Option.none : Option Jvm.ClassFile.FieldType)).before args0 about1 = true := code_word (m := ⟨3, 0⟩) (meth := k3m0) (c := k3c0) (by decide +kernel) rfl rfl rfl (by decide +kernel)
set_option maxRecDepth 65536 in
theorem w_c4 : (Jvm.Cond.code ({ cls := "com/example/stillframe/stillframe/ccr/RoaPayload", name := "redundantMaxLength", desc := "()Z" } : Jvm.MethodName) prog_42_method_8_code (1 : Nat) (Option.some Jvm.ClassFile.FieldType.boolean)).before args0 about1 = true := code_word (m := ⟨3, 1⟩) (meth := k3m1) (c := k3c1) (by decide +kernel) rfl rfl rfl (by decide +kernel)
set_option maxRecDepth 65536 in
theorem w_c5 : (Jvm.Cond.code ({ cls := "com/example/stillframe/stillframe/ccr/IpPrefix", name := "length", desc := "()I" } : Jvm.MethodName) prog_39_method_8_code (1 : Nat) (Option.some Jvm.ClassFile.FieldType.int)).before args0 about1 = true := code_word (m := ⟨2, 1⟩) (meth := k2m1) (c := k2c1) (by decide +kernel) rfl rfl rfl (by decide +kernel)
def codes1 : List Jvm.Cond := [Jvm.Cond.code x code maxLocals ret, Jvm.Cond.code ({ cls := "com/example/stillframe/stillframe/ccr/IpPrefix", name := "<init>", desc := "([BI)V" } : Jvm.MethodName) prog_39_method_1_code (3 : Nat) (Option.none : Option Jvm.ClassFile.FieldType), Jvm.Cond.code ({ cls := "java/lang/Object", name := "<init>", desc := "()V" } : Jvm.MethodName) object_method_1_code (1 : Nat) (Option.none : Option Jvm.ClassFile.FieldType), Jvm.Cond.code ({ cls := "com/example/stillframe/stillframe/ccr/RoaPayload", name := "<init>", desc := "(JLcom/example/stillframe/stillframe/ccr/IpPrefix;I)V" } : Jvm.MethodName) prog_42_method_1_code (5 : Nat) (Option.none : Option Jvm.ClassFile.FieldType), Jvm.Cond.code ({ cls := "com/example/stillframe/stillframe/ccr/RoaPayload", name := "redundantMaxLength", desc := "()Z" } : Jvm.MethodName) prog_42_method_8_code (1 : Nat) (Option.some Jvm.ClassFile.FieldType.boolean), Jvm.Cond.code ({ cls := "com/example/stillframe/stillframe/ccr/IpPrefix", name := "length", desc := "()I" } : Jvm.MethodName) prog_39_method_8_code (1 : Nat) (Option.some Jvm.ClassFile.FieldType.int)]
set_option maxRecDepth 65536 in
theorem codes_eq : words1.filter isCode = codes1 := rfl
theorem w_codes : ∀ c ∈ words1.filter isCode, c.before args0 about1 = true := by
  rw [codes_eq]
  intro c hc
  simp only [codes1, List.mem_cons, List.not_mem_nil, or_false] at hc
  rcases hc with rfl | rfl | rfl | rfl | rfl | rfl
  · exact w_c0
  · exact w_c1
  · exact w_c2
  · exact w_c3
  · exact w_c4
  · exact w_c5
set_option maxRecDepth 65536 in
theorem w_t1 : (words1.take 24).all (fun c => isCode c || c.before args0 about1) = true := by decide +kernel
set_option maxRecDepth 65536 in
theorem w_t2 : (words1.drop 24).all (fun c => isCode c || c.before args0 about1) = true := by decide +kernel
theorem w_tables : (allAtoms (Jvm.Cond.code x code maxLocals ret :: tables_1)).before args0 about1 = true := by
  rw [allAtoms_all]
  show words1.all (fun c => c.before args0 about1) = true
  refine all_split ?_ w_codes
  rw [← List.take_append_drop 24 words1, List.all_append, w_t1, w_t2]
  rfl
set_option maxRecDepth 65536 in
theorem w_case : (Jvm.Cond.and given_1 narrow_1).before args0 about1 = true := by decide +kernel
theorem w_applies : (headSpec (Jvm.Cond.code x code maxLocals ret :: tables_1) room_1).applies x e0.platform about1 = true :=
  (Spec.applies_iff w_frames).mpr ⟨w_running, w_runnable, w_alone, w_named, w_hears, w_ripe, w_room, w_tables⟩
theorem atStart : AtStart classFile x code maxLocals ret World_1 tables_1 room_1 Calls_1 rest_1 Pre_1 launch0 p0 e0 about1 theMethod args0 below0 :=
  ⟨lists_1, trivial, launch0.admits_env _ _ _, launch0.least_env, fairChoices_fair.cas, fairChoices_fair.clock, w_frames, w_args, w_heap, w_applies, trivial, trivial, w_case⟩
end start1
theorem witness_1 : WitnessClaimed_1 := ⟨start1.p0, start1.e0, start1.about1, start1.theMethod, start1.args0, start1.below0, start1.atStart⟩
end Jvm.Pilot.@@N@@
