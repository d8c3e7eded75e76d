import JvmDerived
import JvmDerived.Pilot.@@N@@Statement
import JvmDerived.Pilot.@@N@@Code
set_option linter.unusedVariables false
set_option linter.unusedSimpArgs false
namespace Jvm.RoadKit
open Sem ClassFile Op Lib Jvm.Stand Jvm.Free Jvm.LawKit
section New
variable {p : Program} {l : Launch} {e : Env} {R : Room} {s : State} {m : MethodId} {args : Array Value} {below : List Frame} {meth : Method} {c : Code} {T : State} {locs : List Loc} {cells slots : Nat}
theorem retI (X : Stand p l e R s m args below meth c T locs cells slots) (hx : p.tables.exec = Jvm.exec) {pc : Nat} {Ls : Array Slot} {z : Int32} {rest : List Value} (hret : meth.sig.returnType = some .int) (hd : decode c.code pc = .ok (.ireturn, 1)) {fs : List Frame}
    (hl : ∀ (f : JFrame) (acts : List Action), f.method = m → f.locked = none → f.entered = [] → (doReturn e (T.setTop f) acts (some (.int z))).1 = T.setFrames fs) : Steps p.tables e below (T.setTop (mkF m pc Ls (.int z :: rest))) (T.setFrames fs) := by
  have hm' : T.vm.method? m = some meth := X.method'
  have hn : narrow .int (.int z) = .int z := rfl
  show Steps p.tables e below (T.setTop { method := m, pc := pc, locals := Ls, stack := _ :: rest, locked := none }) _
  jvm_step X.here [X.here.top, hx, hd, hm', hret, hn]
  first | (intro acts; rw [hl _ acts rfl rfl rfl]) | rw [hl _ _ rfl rfl rfl]
  exact Steps.refl _
end New
end Jvm.RoadKit
namespace Jvm.Pilot.@@N@@
open Jvm Jvm.ClassFile Sem Op Lib Jvm.Free Jvm.Stand Jvm.LawKit Jvm.RoadKit Bundle Jvm.Pilot.@@N@@.Jvm.D
section OwnKit
variable {p : Program} {l : Launch} {e : Env} {R : Room} {s : State} {m : MethodId} {args : Array Value} {below : List Frame} {meth : Method} {c : Code} {T : State} {locs : List Loc} {cells slots : Nat} {Z : State} {h h' : Heap}
theorem own_lremM {g : JFrame} {target : State} (X : Stand p l e R s m args below meth c T locs cells slots) (hx : p.tables.exec = Jvm.exec) (hg : g.method = m) {x y : Int64} {rest : List Value} (hd : decode c.code g.pc = .ok (.lrem, 1)) (hs : g.stack = .long y :: .long x :: rest) (hy : y ≠ 0)
    (hr : Steps p.tables e below (T.setTop { g with pc := g.pc + 1, stack := .long (x % y) :: rest }) target) : Steps p.tables e below (T.setTop g) target :=
  XS.lrem X.here hx hg hd hs hy (by rw [lrem_mod]; exact hr)
/-- an array, by the list of its values -/
def own_A (Z : State) (h : Heap) (a : Addr) (ty : FieldType) (vs : List Value) : Prop := ∃ c : Cell, Arr Z h a c ty ∧ c.slots = vs.toArray
def own_AJ (Z : State) (h : Heap) (a : Addr) (xs : List Int64) : Prop := own_A Z h a .long (xs.map .long)
def own_AI (Z : State) (h : Heap) (a : Addr) (ty : FieldType) (xs : List Int32) : Prop := own_A Z h a ty (xs.map .int)
section Facts
variable {a b : Addr} {ty : FieldType} {vs : List Value} {xs : List Int64} {ys : List Int32} {sl : Nat} {v : Value} {ws : List Addr}
theorem own_A.ext (F : own_A Z h a ty vs) (E : Ext h h') : own_A Z h' a ty vs := by obtain ⟨c, A, r⟩ := F; exact ⟨c, A.ext E, r⟩
theorem own_A.other (F : own_A Z h b ty vs) (W : Wr h h' a sl v) (q : b ≠ a) : own_A Z h' b ty vs := by obtain ⟨c, A, r⟩ := F; exact ⟨c, A.other W q, r⟩
theorem own_A.keep (F : own_A Z h a ty vs) (K : Keep h h' ws) (q : a ∉ ws) : own_A Z h' a ty vs := by obtain ⟨c, A, r⟩ := F; exact ⟨c, ⟨K.2.1 a c A.1 q, A.2⟩, r⟩
theorem own_A.lt (F : own_A Z h a ty vs) : a < h.size := by obtain ⟨c, A, -⟩ := F; exact A.lt
theorem own_AJ.ext (F : own_AJ Z h a xs) (E : Ext h h') : own_AJ Z h' a xs := own_A.ext F E
theorem own_AJ.other (F : own_AJ Z h b xs) (W : Wr h h' a sl v) (q : b ≠ a) : own_AJ Z h' b xs := own_A.other F W q
theorem own_AJ.keep (F : own_AJ Z h a xs) (K : Keep h h' ws) (q : a ∉ ws) : own_AJ Z h' a xs := own_A.keep F K q
theorem own_AJ.lt (F : own_AJ Z h a xs) : a < h.size := own_A.lt F
theorem own_AI.ext (F : own_AI Z h a ty ys) (E : Ext h h') : own_AI Z h' a ty ys := own_A.ext F E
theorem own_AI.other (F : own_AI Z h b ty ys) (W : Wr h h' a sl v) (q : b ≠ a) : own_AI Z h' b ty ys := own_A.other F W q
theorem own_AI.keep (F : own_AI Z h a ty ys) (K : Keep h h' ws) (q : a ∉ ws) : own_AI Z h' a ty ys := own_A.keep F K q
theorem own_AI.lt (F : own_AI Z h a ty ys) : a < h.size := own_A.lt F
theorem own_A.set (F : own_A Z h a ty vs) {k : Nat} (W : Wr h h' a k v) : own_A Z h' a ty (vs.set k v) := by
  obtain ⟨c, A, r⟩ := F
  refine ⟨c.setSlot k v, A.same W, ?_⟩
  simp [Cell.setSlot, r]
theorem own_A_new {cA : ClassId} {n : Int32} {k : Nat} (A : Arr Z h a (newA cA ty n) ty) (hk : n.toNatClampNeg = k) : own_A Z h a ty (List.replicate k (defaultValue ty)) := by
  subst hk
  exact ⟨_, A, by simp [newA]⟩
theorem own_AJ_new {cA : ClassId} {n : Int32} {k : Nat} (A : Arr Z h a (newA cA .long n) .long) (hk : n.toNatClampNeg = k) : own_AJ Z h a (List.replicate k 0) := by
  have q := own_A_new A hk
  rw [own_AJ, List.map_replicate]; exact q
theorem own_AIint_new {cA : ClassId} {n : Int32} {k : Nat} (A : Arr Z h a (newA cA .int n) .int) (hk : n.toNatClampNeg = k) : own_AI Z h a .int (List.replicate k 0) := by
  have q := own_A_new A hk
  rw [own_AI, List.map_replicate]; exact q
theorem own_AIbyte_new {cA : ClassId} {n : Int32} {k : Nat} (A : Arr Z h a (newA cA .byte n) .byte) (hk : n.toNatClampNeg = k) : own_AI Z h a .byte (List.replicate k 0) := by
  have q := own_A_new A hk
  rw [own_AI, List.map_replicate]; exact q
theorem own_AIboolean_new {cA : ClassId} {n : Int32} {k : Nat} (A : Arr Z h a (newA cA .boolean n) .boolean) (hk : n.toNatClampNeg = k) : own_AI Z h a .boolean (List.replicate k 0) := by
  have q := own_A_new A hk
  rw [own_AI, List.map_replicate]; exact q
theorem own_inb {cl : Cell} {j : Int32} (r : cl.slots = vs.toArray) (hj : 0 ≤ j.toInt ∧ j.toInt < (vs.length : Nat)) : ¬ (j < 0 ∨ cl.slots.size ≤ j.toNatClampNeg) ∧ j.toNatClampNeg = j.toInt.toNat := by
  have e : j.toNatClampNeg = j.toInt.toNat := rfl
  refine ⟨fun q => ?_, e⟩
  rcases q with q | q
  · rw [Int32.lt_iff_toInt_lt] at q
    have : (0 : Int32).toInt = 0 := by decide
    omega
  · rw [r, e] at q
    simp at q
    omega
end Facts
theorem own_at? {α : Type} (f : α → Value) (xs : List α) (k : Nat) (d : α) (hk : k < xs.length) : (xs.map f).toArray[k]? = some (f (xs.getD k d)) := by
  simp [List.getD, hk]
section Loads
variable {a : Addr} {xs : List Int64} {ys : List Int32} {j : Int32} {pc : Nat} {Ls : Array Slot} {rest : List Value}
theorem own_laload (X : Stand p l e R s m args below meth c T locs cells slots) (hx : p.tables.exec = Jvm.exec) (hZ : Z.Warmed39 s.vm) (eT : T.heap = h) (A : own_AJ Z h a xs) (hj : 0 ≤ j.toInt ∧ j.toInt < (xs.length : Nat)) (hd : decode c.code pc = .ok (.laload, 1)) (target : State)
    (hr : Steps p.tables e below (T.setTop (mkF m (pc + 1) Ls (.long (xs.getD j.toInt.toNat 0) :: rest))) target) : Steps p.tables e below (T.setTop (mkF m pc Ls (.int j :: .ref a :: rest))) target := by
  obtain ⟨cl, A, r⟩ := A
  obtain ⟨q1, q2⟩ := own_inb (j := j) r (by simpa using hj)
  refine X.laload hx (by rw [eT]; exact A.1) (State.isArrayOf_alike hZ.alike A.2.1) A.2.2 q1 (v := .long (xs.getD j.toInt.toNat 0)) ?_ (g := mkF m pc Ls (.int j :: .ref a :: rest)) rfl rfl hd target hr
  rw [q2, r]
  exact own_at? _ xs _ 0 (by omega)
theorem own_iaload (X : Stand p l e R s m args below meth c T locs cells slots) (hx : p.tables.exec = Jvm.exec) (hZ : Z.Warmed39 s.vm) (eT : T.heap = h) (A : own_AI Z h a .int ys) (hj : 0 ≤ j.toInt ∧ j.toInt < (ys.length : Nat)) (hd : decode c.code pc = .ok (.iaload, 1)) (target : State)
    (hr : Steps p.tables e below (T.setTop (mkF m (pc + 1) Ls (.int (ys.getD j.toInt.toNat 0) :: rest))) target) : Steps p.tables e below (T.setTop (mkF m pc Ls (.int j :: .ref a :: rest))) target := by
  obtain ⟨cl, A, r⟩ := A
  obtain ⟨q1, q2⟩ := own_inb (j := j) r (by simpa using hj)
  refine X.iaload hx (by rw [eT]; exact A.1) (State.isArrayOf_alike hZ.alike A.2.1) A.2.2 q1 (v := .int (ys.getD j.toInt.toNat 0)) ?_ (g := mkF m pc Ls (.int j :: .ref a :: rest)) rfl rfl hd target hr
  rw [q2, r]
  exact own_at? _ ys _ 0 (by omega)
theorem own_baloadB (X : Stand p l e R s m args below meth c T locs cells slots) (hx : p.tables.exec = Jvm.exec) (hZ : Z.Warmed39 s.vm) (eT : T.heap = h) (A : own_AI Z h a .byte ys) (hj : 0 ≤ j.toInt ∧ j.toInt < (ys.length : Nat)) (hd : decode c.code pc = .ok (.baload, 1)) (target : State)
    (hr : Steps p.tables e below (T.setTop (mkF m (pc + 1) Ls (.int (ys.getD j.toInt.toNat 0) :: rest))) target) : Steps p.tables e below (T.setTop (mkF m pc Ls (.int j :: .ref a :: rest))) target := by
  obtain ⟨cl, A, r⟩ := A
  obtain ⟨q1, q2⟩ := own_inb (j := j) r (by simpa using hj)
  refine X.baloadBytes hx (by rw [eT]; exact A.1) (State.isArrayOf_alike hZ.alike A.2.1) A.2.2 q1 (v := .int (ys.getD j.toInt.toNat 0)) ?_ (g := mkF m pc Ls (.int j :: .ref a :: rest)) rfl rfl hd target hr
  rw [q2, r]
  exact own_at? _ ys _ 0 (by omega)
theorem own_baloadZ (X : Stand p l e R s m args below meth c T locs cells slots) (hx : p.tables.exec = Jvm.exec) (hZ : Z.Warmed39 s.vm) (eT : T.heap = h) (A : own_AI Z h a .boolean ys) (hj : 0 ≤ j.toInt ∧ j.toInt < (ys.length : Nat)) (hd : decode c.code pc = .ok (.baload, 1)) (target : State)
    (hr : Steps p.tables e below (T.setTop (mkF m (pc + 1) Ls (.int (ys.getD j.toInt.toNat 0) :: rest))) target) : Steps p.tables e below (T.setTop (mkF m pc Ls (.int j :: .ref a :: rest))) target := by
  obtain ⟨cl, A, r⟩ := A
  obtain ⟨q1, q2⟩ := own_inb (j := j) r (by simpa using hj)
  refine X.baloadBooleans hx (by rw [eT]; exact A.1) (State.isArrayOf_alike hZ.alike A.2.1) A.2.2 q1 (v := .int (ys.getD j.toInt.toNat 0)) ?_ (g := mkF m pc Ls (.int j :: .ref a :: rest)) rfl rfl hd target hr
  rw [q2, r]
  exact own_at? _ ys _ 0 (by omega)
theorem own_alenJ (X : Stand p l e R s m args below meth c T locs cells slots) (hx : p.tables.exec = Jvm.exec) (hZ : Z.Warmed39 s.vm) (eT : T.heap = h) (A : own_AJ Z h a xs) (hd : decode c.code pc = .ok (.arraylength, 1)) (target : State)
    (hr : Steps p.tables e below (T.setTop (mkF m (pc + 1) Ls (.int xs.length.toInt32 :: rest))) target) : Steps p.tables e below (T.setTop (mkF m pc Ls (.ref a :: rest))) target := by
  obtain ⟨cl, A, r⟩ := A
  refine X.arraylength hx (by rw [eT]; exact A.1) (State.isArrayOf_alike hZ.alike A.2.1) (g := mkF m pc Ls (.ref a :: rest)) rfl rfl hd target ?_
  rw [r]
  simpa using hr
theorem own_alenI {ty : FieldType} (X : Stand p l e R s m args below meth c T locs cells slots) (hx : p.tables.exec = Jvm.exec) (hZ : Z.Warmed39 s.vm) (eT : T.heap = h) (A : own_AI Z h a ty ys) (hd : decode c.code pc = .ok (.arraylength, 1)) (target : State)
    (hr : Steps p.tables e below (T.setTop (mkF m (pc + 1) Ls (.int ys.length.toInt32 :: rest))) target) : Steps p.tables e below (T.setTop (mkF m pc Ls (.ref a :: rest))) target := by
  obtain ⟨cl, A, r⟩ := A
  refine X.arraylength hx (by rw [eT]; exact A.1) (State.isArrayOf_alike hZ.alike A.2.1) (g := mkF m pc Ls (.ref a :: rest)) rfl rfl hd target ?_
  rw [r]
  simpa using hr
theorem own_lastore (X : Stand p l e R s m args below meth c T locs cells slots) (hx : p.tables.exec = Jvm.exec) (hZ : Z.Warmed39 s.vm) (eT : T.heap = h) (A : own_AJ Z h a xs) (hj : 0 ≤ j.toInt ∧ j.toInt < (xs.length : Nat)) {x : Int64} (hd : decode c.code pc = .ok (.lastore, 1)) :
    ∃ T' h', Stand p l e R s m args below meth c T' (locs ++ [⟨a, j.toInt.toNat⟩]) cells slots ∧ T'.heap = h' ∧ Wr h h' a j.toInt.toNat (.long x) ∧ own_AJ Z h' a (xs.set j.toInt.toNat x) ∧ ∀ target, Steps p.tables e below (T'.setTop (mkF m (pc + 1) Ls rest)) target → Steps p.tables e below (T.setTop (mkF m pc Ls (.long x :: .int j :: .ref a :: rest))) target := by
  obtain ⟨cl, B, r⟩ := A
  obtain ⟨q1, q2⟩ := own_inb (j := j) r (by simpa using hj)
  obtain ⟨T', h', X', e', W', st⟩ := stJ X hx hZ eT B q1 (x := x) (g := mkF m pc Ls (.long x :: .int j :: .ref a :: rest)) rfl rfl hd
  rw [q2] at X' W'
  exact ⟨T', h', X', e', W', by have := own_A.set ⟨cl, B, r⟩ W'; rw [own_AJ, List.map_set]; exact this, st⟩
theorem own_iastore (X : Stand p l e R s m args below meth c T locs cells slots) (hx : p.tables.exec = Jvm.exec) (hZ : Z.Warmed39 s.vm) (eT : T.heap = h) (A : own_AI Z h a .int ys) (hj : 0 ≤ j.toInt ∧ j.toInt < (ys.length : Nat)) {x : Int32} (hd : decode c.code pc = .ok (.iastore, 1)) :
    ∃ T' h', Stand p l e R s m args below meth c T' (locs ++ [⟨a, j.toInt.toNat⟩]) cells slots ∧ T'.heap = h' ∧ Wr h h' a j.toInt.toNat (.int x) ∧ own_AI Z h' a .int (ys.set j.toInt.toNat x) ∧ ∀ target, Steps p.tables e below (T'.setTop (mkF m (pc + 1) Ls rest)) target → Steps p.tables e below (T.setTop (mkF m pc Ls (.int x :: .int j :: .ref a :: rest))) target := by
  obtain ⟨cl, B, r⟩ := A
  obtain ⟨q1, q2⟩ := own_inb (j := j) r (by simpa using hj)
  obtain ⟨T', h', X', e', W', st⟩ := stI X hx hZ eT B q1 (x := x) (g := mkF m pc Ls (.int x :: .int j :: .ref a :: rest)) rfl rfl hd
  rw [q2] at X' W'
  exact ⟨T', h', X', e', W', by have := own_A.set ⟨cl, B, r⟩ W'; rw [own_AI, List.map_set]; exact this, st⟩
theorem own_bastoreB (X : Stand p l e R s m args below meth c T locs cells slots) (hx : p.tables.exec = Jvm.exec) (hZ : Z.Warmed39 s.vm) (eT : T.heap = h) (A : own_AI Z h a .byte ys) (hj : 0 ≤ j.toInt ∧ j.toInt < (ys.length : Nat)) {x : Int32} (hd : decode c.code pc = .ok (.bastore, 1)) :
    ∃ T' h', Stand p l e R s m args below meth c T' (locs ++ [⟨a, j.toInt.toNat⟩]) cells slots ∧ T'.heap = h' ∧ Wr h h' a j.toInt.toNat (.int x.toInt8.toInt32) ∧ own_AI Z h' a .byte (ys.set j.toInt.toNat x.toInt8.toInt32) ∧ ∀ target, Steps p.tables e below (T'.setTop (mkF m (pc + 1) Ls rest)) target → Steps p.tables e below (T.setTop (mkF m pc Ls (.int x :: .int j :: .ref a :: rest))) target := by
  obtain ⟨cl, B, r⟩ := A
  obtain ⟨q1, q2⟩ := own_inb (j := j) r (by simpa using hj)
  obtain ⟨T', h', X', e', W', st⟩ := stB X hx hZ eT B q1 (x := x) (g := mkF m pc Ls (.int x :: .int j :: .ref a :: rest)) rfl rfl hd
  rw [q2] at X' W'
  exact ⟨T', h', X', e', W', by have := own_A.set ⟨cl, B, r⟩ W'; rw [own_AI, List.map_set]; exact this, st⟩
theorem own_bastoreZ (X : Stand p l e R s m args below meth c T locs cells slots) (hx : p.tables.exec = Jvm.exec) (hZ : Z.Warmed39 s.vm) (eT : T.heap = h) (A : own_AI Z h a .boolean ys) (hj : 0 ≤ j.toInt ∧ j.toInt < (ys.length : Nat)) {x : Int32} (hd : decode c.code pc = .ok (.bastore, 1)) :
    ∃ T' h', Stand p l e R s m args below meth c T' (locs ++ [⟨a, j.toInt.toNat⟩]) cells slots ∧ T'.heap = h' ∧ Wr h h' a j.toInt.toNat (.int (x &&& 1)) ∧ own_AI Z h' a .boolean (ys.set j.toInt.toNat (x &&& 1)) ∧ ∀ target, Steps p.tables e below (T'.setTop (mkF m (pc + 1) Ls rest)) target → Steps p.tables e below (T.setTop (mkF m pc Ls (.int x :: .int j :: .ref a :: rest))) target := by
  obtain ⟨cl, B, r⟩ := A
  obtain ⟨q1, q2⟩ := own_inb (j := j) r (by simpa using hj)
  obtain ⟨T', h', X', e', W', st⟩ := stZ X hx hZ eT B q1 (x := x) (g := mkF m pc Ls (.int x :: .int j :: .ref a :: rest)) rfl rfl hd
  rw [q2] at X' W'
  exact ⟨T', h', X', e', W', by have := own_A.set ⟨cl, B, r⟩ W'; rw [own_AI, List.map_set]; exact this, st⟩
end Loads
end OwnKit
theorem own_bm32 {x : Int} (h1 : -2147483648 ≤ x) (h2 : x < 2147483648) : x.bmod (2 ^ 32) = x := by
  rw [Int.bmod_def]; split <;> omega
theorem own_bm64 {x : Int} (h1 : -9223372036854775808 ≤ x) (h2 : x < 9223372036854775808) : x.bmod (2 ^ 64) = x := by
  rw [Int.bmod_def]; split <;> omega
theorem own_r32 (x : Int32) : -2147483648 ≤ x.toInt ∧ x.toInt < 2147483648 := ⟨x.le_toInt, x.toInt_lt⟩
theorem own_r64 (x : Int64) : -9223372036854775808 ≤ x.toInt ∧ x.toInt < 9223372036854775808 := ⟨x.le_toInt, x.toInt_lt⟩
theorem own_iadd {x y : Int32} (h : -2147483648 ≤ x.toInt + y.toInt ∧ x.toInt + y.toInt < 2147483648) : (x + y).toInt = x.toInt + y.toInt := by rw [Int32.toInt_add]; exact own_bm32 h.1 h.2
theorem own_isub {x y : Int32} (h : -2147483648 ≤ x.toInt - y.toInt ∧ x.toInt - y.toInt < 2147483648) : (x - y).toInt = x.toInt - y.toInt := by rw [Int32.toInt_sub]; exact own_bm32 h.1 h.2
theorem own_imul {x y : Int32} (h : -2147483648 ≤ x.toInt * y.toInt ∧ x.toInt * y.toInt < 2147483648) : (x * y).toInt = x.toInt * y.toInt := by rw [Int32.toInt_mul]; exact own_bm32 h.1 h.2
theorem own_ladd {x y : Int64} (h : -9223372036854775808 ≤ x.toInt + y.toInt ∧ x.toInt + y.toInt < 9223372036854775808) : (x + y).toInt = x.toInt + y.toInt := by rw [Int64.toInt_add]; exact own_bm64 h.1 h.2
theorem own_lsub {x y : Int64} (h : -9223372036854775808 ≤ x.toInt - y.toInt ∧ x.toInt - y.toInt < 9223372036854775808) : (x - y).toInt = x.toInt - y.toInt := by rw [Int64.toInt_sub]; exact own_bm64 h.1 h.2
theorem own_lmul {x y : Int64} (h : -9223372036854775808 ≤ x.toInt * y.toInt ∧ x.toInt * y.toInt < 9223372036854775808) : (x * y).toInt = x.toInt * y.toInt := by rw [Int64.toInt_mul]; exact own_bm64 h.1 h.2
theorem own_i2l (x : Int32) : x.toInt64.toInt = x.toInt := Int32.toInt_toInt64 x
theorem own_l2i {x : Int64} (h : -2147483648 ≤ x.toInt ∧ x.toInt < 2147483648) : x.toInt32.toInt = x.toInt := by rw [Int64.toInt_toInt32]; exact own_bm32 h.1 h.2
theorem own_irem {x y : Int32} (h : 0 ≤ x.toInt) : (x % y).toInt = x.toInt % y.toInt := by rw [Int32.toInt_mod]; exact Int.tmod_eq_emod_of_nonneg h
theorem own_lrem {x y : Int64} (h : 0 ≤ x.toInt) : (x % y).toInt = x.toInt % y.toInt := by rw [Int64.toInt_mod]; exact Int.tmod_eq_emod_of_nonneg h
theorem own_idiv {x y : Int32} (h : 0 ≤ x.toInt) (hy : 0 ≤ y.toInt) : (x / y).toInt = x.toInt / y.toInt := by
  rw [Int32.toInt_div_of_ne_right x y (fun q => by rw [q] at hy; revert hy; decide)]; exact Int.tdiv_eq_ediv_of_nonneg h
theorem own_ldiv {x y : Int64} (h : 0 ≤ x.toInt) (hy : 0 ≤ y.toInt) : (x / y).toInt = x.toInt / y.toInt := by
  rw [Int64.toInt_div_of_ne_right x y (fun q => by rw [q] at hy; revert hy; decide)]; exact Int.tdiv_eq_ediv_of_nonneg h
/-- a mask of k bits -/
theorem own_mask (x m : Int32) (k : Nat) (hk : k ≤ 31) (hm : m.toBitVec.toNat = 2 ^ k - 1) : (x &&& m).toInt = x.toInt % (2 ^ k : Nat) := by
  have hp : 2 ^ k ≤ 2 ^ 31 := Nat.pow_le_pow_right (by decide) hk
  have hp0 : 0 < 2 ^ k := Nat.pow_pos (by decide)
  have e : (x &&& m).toBitVec.toNat = x.toBitVec.toNat % 2 ^ k := by rw [Int32.toBitVec_and, BitVec.toNat_and, hm, Nat.and_two_pow_sub_one_eq_mod]
  have l := Nat.mod_lt x.toBitVec.toNat hp0
  rw [← Int32.toInt_toBitVec, ← Int32.toInt_toBitVec, BitVec.toInt_eq_toNat_cond, e, if_pos (by omega), BitVec.toInt_eq_toNat_cond]
  split
  · simp
  · rename_i q
    have d : (2 ^ k : Nat) ∣ 2 ^ 32 := Nat.pow_dvd_pow 2 (by omega)
    obtain ⟨c, hc⟩ := d
    have hc' : ((2 ^ 32 : Nat) : Int) = ((2 ^ k : Nat) : Int) * (c : Int) := by rw [hc]; simp
    rw [hc', Int.sub_mul_emod_self_left]; simp
theorem own_ushr (x : Int64) (y : Int32) (k : Nat) (hk : (y &&& 0x3f).toInt64.toBitVec.toNat % 64 = k) (h0 : 0 < k) : (((x).toUInt64 >>> (y &&& 0x3f).toInt64.toUInt64).toInt64).toInt = (x.toInt % 18446744073709551616) / (2 ^ k : Nat) := by
  have e : (((x).toUInt64 >>> (y &&& 0x3f).toInt64.toUInt64).toInt64).toBitVec = x.toBitVec >>> k := by rw [← hk]; simp
  have hl := x.toBitVec.isLt
  have hp0 : 0 < 2 ^ k := Nat.pow_pos (by decide)
  have h2 : 2 ^ 1 ≤ 2 ^ k := Nat.pow_le_pow_right (by decide) h0
  have hd : x.toBitVec.toNat / 2 ^ k ≤ x.toBitVec.toNat / 2 := Nat.div_le_div_left h2 (by decide)
  have t : x.toInt % 18446744073709551616 = (x.toBitVec.toNat : Int) := by
    rw [← Int64.toInt_toBitVec, BitVec.toInt_eq_toNat_cond]; split <;> omega
  rw [t, ← Int64.toInt_toBitVec, e, BitVec.toInt_eq_toNat_cond, BitVec.toNat_ushiftRight, Nat.shiftRight_eq_div_pow, if_pos (by omega)]
  simp
theorem own_shl (x : Int64) (y : Int32) (k : Nat) (hk : y.toBitVec.toNat % 64 = k) (h : -9223372036854775808 ≤ x.toInt * (2 ^ k : Nat) ∧ x.toInt * (2 ^ k : Nat) < 9223372036854775808) : (x <<< (y &&& 0x3f).toInt64).toInt = x.toInt * (2 ^ k : Nat) := by
  have q := c_lshl x y k hk
  have r := own_r64 (x <<< (y &&& 0x3f).toInt64)
  generalize x.toInt * (2 ^ k : Nat) = z at *
  omega
theorem own_nzL {x : Int32} (h : ¬ x = 0) : ¬ x.toInt64 = 0 := fun q => h (Int32.toInt_inj.mp (by rw [← own_i2l, q]; rfl))
theorem own_nzP {x : Int32} (h : 1 ≤ x.toInt) : ¬ x = 0 := fun q => by rw [q] at h; revert h; decide
theorem own_fA {t n : Int32} {k : Int} (h : t < n) (q : n.toInt - 1 = k) : t.toInt ≤ k := by rw [Int32.lt_iff_toInt_lt] at h; omega
theorem own_fB {t n : Int32} {k : Int} (h : ¬ n < t) (q : n.toInt = k) : t.toInt ≤ k := by rw [Int32.lt_iff_toInt_lt] at h; omega
theorem own_fC {t n : Int32} {k : Int} (h : n < t) (q : n.toInt + 1 = k) : k ≤ t.toInt := by rw [Int32.lt_iff_toInt_lt] at h; omega
theorem own_fD {t n : Int32} {k : Int} (h : ¬ t < n) (q : n.toInt = k) : k ≤ t.toInt := by rw [Int32.lt_iff_toInt_lt] at h; omega
theorem own_fE {t n : Int32} {k : Int} (h : t = n) (q : n.toInt = k) : t.toInt ≤ k := by rw [h]; omega
theorem own_fF {t n : Int32} {k : Int} (h : t = n) (q : n.toInt = k) : k ≤ t.toInt := by rw [h]; omega
theorem own_g1 {t m : Int32} {k : Int} (h : t.toInt ≤ k) (q : k < m.toInt) : t < m := by rw [Int32.lt_iff_toInt_lt]; omega
theorem own_g2 {t m : Int32} {k : Int} (h : t.toInt ≤ k) (q : k ≤ m.toInt) : ¬ m < t := by rw [Int32.lt_iff_toInt_lt]; omega
theorem own_g3 {t m : Int32} {k : Int} (h : t.toInt ≤ k) (q : k < m.toInt) : ¬ t = m := fun e => by rw [e] at h; omega
theorem own_g4 {t m : Int32} {k : Int} (h : k ≤ t.toInt) (q : m.toInt ≤ k) : ¬ t < m := by rw [Int32.lt_iff_toInt_lt]; omega
theorem own_g5 {t m : Int32} {k : Int} (h : k ≤ t.toInt) (q : m.toInt < k) : m < t := by rw [Int32.lt_iff_toInt_lt]; omega
theorem own_g6 {t m : Int32} {k : Int} (h : k ≤ t.toInt) (q : m.toInt < k) : ¬ t = m := fun e => by rw [e] at h; omega
theorem own_g7 {t m : Int32} {k : Int} (h : k ≤ t.toInt) (h' : t.toInt ≤ k) (q : m.toInt = k) : t = m := Int32.toInt_inj.mp (by omega)
theorem own_ne {x n : Int32} {k : Int} (h : ¬ x = n) (q : n.toInt = k) : k ≠ x.toInt := fun e => h (Int32.toInt_inj.mp (by omega))
theorem own_gs1 {α : Type} (xs : List α) (n : Nat) (v d : α) (h : n < xs.length) : (xs.set n v).getD n d = v := by simp [List.getD, h]
theorem own_gs2 {α : Type} (xs : List α) (n j : Nat) (v d : α) (h : n ≠ j) : (xs.set n v).getD j d = xs.getD j d := by simp [List.getD, List.getElem?_set, h]
theorem d1_0 : decode prog_6_method_13_code 0 = .ok (.iload_n 0, 1) := by decide +kernel
theorem d1_1 : decode prog_6_method_13_code 1 = .ok (.i2l, 1) := by decide +kernel
theorem d1_2 : decode prog_6_method_13_code 2 = .ok (.iload_n 1, 1) := by decide +kernel
theorem d1_3 : decode prog_6_method_13_code 3 = .ok (.i2l, 1) := by decide +kernel
theorem d1_4 : decode prog_6_method_13_code 4 = .ok (.ladd, 1) := by decide +kernel
theorem d1_5 : decode prog_6_method_13_code 5 = .ok (.lstore_n 3, 1) := by decide +kernel
theorem d1_6 : decode prog_6_method_13_code 6 = .ok (.lload_n 3, 1) := by decide +kernel
theorem d1_7 : decode prog_6_method_13_code 7 = .ok (.iload_n 2, 1) := by decide +kernel
theorem d1_8 : decode prog_6_method_13_code 8 = .ok (.i2l, 1) := by decide +kernel
theorem d1_9 : decode prog_6_method_13_code 9 = .ok (.lcmp, 1) := by decide +kernel
theorem d1_10 : decode prog_6_method_13_code 10 = .ok (.ifCond .ge 7, 3) := by decide +kernel
theorem d1_13 : decode prog_6_method_13_code 13 = .ok (.lload_n 3, 1) := by decide +kernel
theorem d1_14 : decode prog_6_method_13_code 14 = .ok (.goto 7, 3) := by decide +kernel
theorem d1_17 : decode prog_6_method_13_code 17 = .ok (.lload_n 3, 1) := by decide +kernel
theorem d1_18 : decode prog_6_method_13_code 18 = .ok (.iload_n 2, 1) := by decide +kernel
theorem d1_19 : decode prog_6_method_13_code 19 = .ok (.i2l, 1) := by decide +kernel
theorem d1_20 : decode prog_6_method_13_code 20 = .ok (.lsub, 1) := by decide +kernel
theorem d1_21 : decode prog_6_method_13_code 21 = .ok (.l2i, 1) := by decide +kernel
theorem d1_22 : decode prog_6_method_13_code 22 = .ok (.ireturn, 1) := by decide +kernel
theorem pn_1 : plainName "com/example/displace/displace/Chd" = true := by first | (simp [plainName, overriddenIn]; done) | decide +kernel
theorem ef_1 (m : MethodId) (q0 : Int32) (q1 : Int32) (q2 : Int32) : entryFrame m #[(.int q0), (.int q1), (.int q2)] 5 = mkF m 0 #[.val (.int q0), .val (.int q1), .val (.int q2), .unset, .unset] [] := by first | (simp [entryFrame, mkF, argsToLocals, Value.category, maxLocals]; done) | rfl
def own_f1 (q0 : Int32) (q1 : Int32) (q2 : Int32) : Int32 := let v1 := ((q0).toInt64 + (q1).toInt64)
  (if v1 < (q2).toInt64 then (v1).toInt32 else ((v1 - (q2).toInt64)).toInt32)
def Q1 (Z : State) (q0 : Int32) (q1 : Int32) (q2 : Int32)  (h0 : Heap) (n0 : Nat) (v : Option Value) (h : Heap) (L : List Loc) : Prop := v = some (.int (own_f1 q0 q1 q2)) ∧ Fr n0 L ∧ h = h0
set_option maxRecDepth 65536 in
set_option maxHeartbeats 40000000 in
theorem rm1 (l : Launch) (Z : State) (a0 : Array Value) (hw : ∀ d ∈ tables_1, d.before a0 Z = true) (ws : List Jvm.Cond) (q0 : Int32) (q1 : Int32) (q2 : Int32)  (h0 : Heap) (n0 : Nat) (Z0 : n0 ≤ h0.size)  :
    MetFree l (⟨"com/example/displace/displace/Chd", "shifted", "(III)I"⟩ : MethodName) (head1 (Jvm.Cond.code (⟨"com/example/displace/displace/Chd", "shifted", "(III)I"⟩ : MethodName) prog_6_method_13_code 5 (some .int) :: ws) ({ frames := 0, cells := 0, slots := 0, locals := 0 } : Room)) (fun a U => a = #[(.int q0), (.int q1), (.int q2)] ∧ Z.Warmed39 U.vm ∧ U.heap = h0) (fun _ _ _ _ _ => True) (fun _ U o U' => ∃ v L, o = .returned v ∧ Q1 Z q0 q1 q2 h0 n0 v U'.heap L ∧ FrameEnd U o U' L ({ frames := 0, cells := 0, slots := 0, locals := 0 } : Room).cells ({ frames := 0, cells := 0, slots := 0, locals := 0 } : Room).slots) := by
  refine MetFree.of_bodySF (plainFor_of_name pn_1) hisR ?_
  intro p e s m args below meth c s₁ Bd hml0 hP hK
  obtain ⟨rfl, hZ, hh⟩ := hP
  have hx := Bd.exec
  have hby := Bd.bytes
  have hml : c.maxLocals = 5 := hml0
  have hown : s.vm.findClass "com/example/displace/displace/Chd" = some m.cls := findClass_of_methodNamed Bd.named
  have hnm := (name_of_methodNamed Bd.named Bd.method).1
  have X0 : Stand p l e ({ frames := 0, cells := 0, slots := 0, locals := 0 } : Room) s m #[(.int q0), (.int q1), (.int q2)] below meth c s₁ [] 0 0 := Stand.of_body Bd
  have hlk : meth.locks = false := by first | exact BodyLoose.notSynchronized (by assumption) | exact Body.notSynchronized (by assumption)
  have e0 : s₁.heap = h0 := by rw [← hh, Bd.state]; rfl
  have N0 := Fr.nil n0
  have pre0 : ∀ t, Steps p.tables e below (s₁.setTop (mkF m 0 #[.val (.int q0), .val (.int q1), .val (.int q2), .unset, .unset] [])) t → Steps p.tables e below (s₁.setTop (entryFrame m #[(.int q0), (.int q1), (.int q2)] 5)) t := fun t k => castTop (ef_1 m q0 q1 q2) k
  obtain ⟨v1, hv1⟩ : ∃ z : Int64, z = ((q0).toInt64 + (q1).toInt64) := ⟨_, rfl⟩
  have pre2 : ∀ t, Steps p.tables e below (s₁.setTop (mkF m 5 #[.val (.int q0), .val (.int q1), .val (.int q2), .unset, .unset] [(.long v1)])) t → Steps p.tables e below (s₁.setTop (entryFrame m #[(.int q0), (.int q1), (.int q2)] 5)) t := by
    rw [hv1]
    intro t k
    refine pre0 t ?_
    show Steps p.tables e below (s₁.setTop (mkF m 0 #[.val (.int q0), .val (.int q1), .val (.int q2), .unset, .unset] [])) _
    refine XS.iloadN X0.here hx rfl (hb hby d1_0) rfl ?_
    show Steps p.tables e below (s₁.setTop (mkF m 1 #[.val (.int q0), .val (.int q1), .val (.int q2), .unset, .unset] [(.int q0)])) _
    refine XS.i2l X0.here hx rfl (hb hby d1_1) rfl ?_
    show Steps p.tables e below (s₁.setTop (mkF m 2 #[.val (.int q0), .val (.int q1), .val (.int q2), .unset, .unset] [(.long (q0).toInt64)])) _
    refine XS.iloadN X0.here hx rfl (hb hby d1_2) rfl ?_
    show Steps p.tables e below (s₁.setTop (mkF m 3 #[.val (.int q0), .val (.int q1), .val (.int q2), .unset, .unset] [(.int q1), (.long (q0).toInt64)])) _
    refine XS.i2l X0.here hx rfl (hb hby d1_3) rfl ?_
    show Steps p.tables e below (s₁.setTop (mkF m 4 #[.val (.int q0), .val (.int q1), .val (.int q2), .unset, .unset] [(.long (q1).toInt64), (.long (q0).toInt64)])) _
    refine XS.ladd X0.here hx rfl (hb hby d1_4) rfl ?_
    exact k
  have pre3 : ∀ t, Steps p.tables e below (s₁.setTop (mkF m 10 #[.val (.int q0), .val (.int q1), .val (.int q2), .val (.long v1), .second] [(.int (lcmpW v1 (q2).toInt64))])) t → Steps p.tables e below (s₁.setTop (entryFrame m #[(.int q0), (.int q1), (.int q2)] 5)) t := by
    intro t k
    refine pre2 t ?_
    show Steps p.tables e below (s₁.setTop (mkF m 5 #[.val (.int q0), .val (.int q1), .val (.int q2), .unset, .unset] [(.long v1)])) _
    refine XS.lstoreN X0.here hx rfl (hb hby d1_5) rfl (l' := #[.val (.int q0), .val (.int q1), .val (.int q2), .val (.long v1), .second]) rfl ?_
    show Steps p.tables e below (s₁.setTop (mkF m 6 #[.val (.int q0), .val (.int q1), .val (.int q2), .val (.long v1), .second] [])) _
    refine XS.lloadN X0.here hx rfl (hb hby d1_6) rfl ?_
    show Steps p.tables e below (s₁.setTop (mkF m 7 #[.val (.int q0), .val (.int q1), .val (.int q2), .val (.long v1), .second] [(.long v1)])) _
    refine XS.iloadN X0.here hx rfl (hb hby d1_7) rfl ?_
    show Steps p.tables e below (s₁.setTop (mkF m 8 #[.val (.int q0), .val (.int q1), .val (.int q2), .val (.long v1), .second] [(.int q2), (.long v1)])) _
    refine XS.i2l X0.here hx rfl (hb hby d1_8) rfl ?_
    show Steps p.tables e below (s₁.setTop (mkF m 9 #[.val (.int q0), .val (.int q1), .val (.int q2), .val (.long v1), .second] [(.long (q2).toInt64), (.long v1)])) _
    refine XS.lcmp X0.here hx rfl (hb hby d1_9) rfl ?_
    exact k
  by_cases c4 : v1 < (q2).toInt64
  · obtain ⟨fs, hr, hrun, hended, hW, hsame⟩ := X0.leave (v := some (.int (v1).toInt32)) (fun h => by rw [Bd.returns] at h; cases h) hlk
    refine ⟨_, _, pre3 _ ?_, hrun, hended, _, _, rfl, ?_, ⟨_, rfl⟩, hW, hsame.mono (by decide) (by decide)⟩
    · show Steps p.tables e below (s₁.setTop (mkF m 10 #[.val (.int q0), .val (.int q1), .val (.int q2), .val (.long v1), .second] [(.int (lcmpW v1 (q2).toInt64))])) _
      refine XS.ifNo X0.here hx rfl (hb hby d1_10) rfl ((if0 _ _).trans (tlt ((lw_lt v1 (q2).toInt64).mpr c4)).2.1) ?_
      show Steps p.tables e below (s₁.setTop (mkF m 13 #[.val (.int q0), .val (.int q1), .val (.int q2), .val (.long v1), .second] [])) _
      refine XS.lloadN X0.here hx rfl (hb hby d1_13) rfl ?_
      show Steps p.tables e below (s₁.setTop (mkF m 14 #[.val (.int q0), .val (.int q1), .val (.int q2), .val (.long v1), .second] [(.long v1)])) _
      refine XS.goto X0.here hx rfl (pc0 := 14) (pc' := 21) rfl (hb hby d1_14) (by decide) (by decide) ?_
      show Steps p.tables e below (s₁.setTop (mkF m 21 #[.val (.int q0), .val (.int q1), .val (.int q2), .val (.long v1), .second] [(.long v1)])) _
      refine XS.l2i X0.here hx rfl (hb hby d1_21) rfl ?_
      show Steps p.tables e below (s₁.setTop (mkF m 22 #[.val (.int q0), .val (.int q1), .val (.int q2), .val (.long v1), .second] [(.int (v1).toInt32)])) _
      exact retI X0 hx Bd.returns (hb hby d1_22) hr
    · show Q1 Z q0 q1 q2 h0 n0 _ s₁.heap _
      rw [e0]
      exact ⟨by have w_hv1 := hv1.symm; subst w_hv1; simp only [own_f1, if_pos c4], N0, rfl⟩
  · obtain ⟨fs, hr, hrun, hended, hW, hsame⟩ := X0.leave (v := some (.int ((v1 - (q2).toInt64)).toInt32)) (fun h => by rw [Bd.returns] at h; cases h) hlk
    refine ⟨_, _, pre3 _ ?_, hrun, hended, _, _, rfl, ?_, ⟨_, rfl⟩, hW, hsame.mono (by decide) (by decide)⟩
    · show Steps p.tables e below (s₁.setTop (mkF m 10 #[.val (.int q0), .val (.int q1), .val (.int q2), .val (.long v1), .second] [(.int (lcmpW v1 (q2).toInt64))])) _
      refine XS.ifYes X0.here hx rfl (pc0 := 10) (pc' := 17) rfl (hb hby d1_10) rfl ((if0 _ _).trans (flt (mt (lw_lt v1 (q2).toInt64).mp c4)).2.1) (by decide) (by decide) ?_
      show Steps p.tables e below (s₁.setTop (mkF m 17 #[.val (.int q0), .val (.int q1), .val (.int q2), .val (.long v1), .second] [])) _
      refine XS.lloadN X0.here hx rfl (hb hby d1_17) rfl ?_
      show Steps p.tables e below (s₁.setTop (mkF m 18 #[.val (.int q0), .val (.int q1), .val (.int q2), .val (.long v1), .second] [(.long v1)])) _
      refine XS.iloadN X0.here hx rfl (hb hby d1_18) rfl ?_
      show Steps p.tables e below (s₁.setTop (mkF m 19 #[.val (.int q0), .val (.int q1), .val (.int q2), .val (.long v1), .second] [(.int q2), (.long v1)])) _
      refine XS.i2l X0.here hx rfl (hb hby d1_19) rfl ?_
      show Steps p.tables e below (s₁.setTop (mkF m 20 #[.val (.int q0), .val (.int q1), .val (.int q2), .val (.long v1), .second] [(.long (q2).toInt64), (.long v1)])) _
      refine XS.lsub X0.here hx rfl (hb hby d1_20) rfl ?_
      show Steps p.tables e below (s₁.setTop (mkF m 21 #[.val (.int q0), .val (.int q1), .val (.int q2), .val (.long v1), .second] [(.long (v1 - (q2).toInt64))])) _
      refine XS.l2i X0.here hx rfl (hb hby d1_21) rfl ?_
      show Steps p.tables e below (s₁.setTop (mkF m 22 #[.val (.int q0), .val (.int q1), .val (.int q2), .val (.long v1), .second] [(.int ((v1 - (q2).toInt64)).toInt32)])) _
      exact retI X0 hx Bd.returns (hb hby d1_22) hr
    · show Q1 Z q0 q1 q2 h0 n0 _ s₁.heap _
      rw [e0]
      exact ⟨by have w_hv1 := hv1.symm; subst w_hv1; simp only [own_f1, if_neg c4], N0, rfl⟩
theorem pn_2 : plainName "com/example/displace/displace/ChdShiftedPinLaw" = true := by first | (simp [plainName, overriddenIn]; done) | decide +kernel
theorem ef_0 (m : MethodId) (q0 : Int32) (q1 : Int32) (q2 : Int32) : entryFrame m #[(.int q0), (.int q1), (.int q2)] maxLocals = mkF m 0 #[.val (.int q0), .val (.int q1), .val (.int q2), .unset, .unset, .unset, .unset, .unset, .unset, .unset] [] := by first | (simp [entryFrame, mkF, argsToLocals, Value.category, maxLocals]; done) | rfl
theorem pd_3 : parseMethodDescriptor "(III)I" = some ⟨[.int, .int, .int], some .int⟩ := by decide +kernel
def own_f0 (q0 : Int32) (q1 : Int32) (q2 : Int32) : Int32 := let v1 := (q0 &&& (2147483647 : Int32))
  (if v1 = (0 : Int32) then let v5 := ((q1 &&& (2147483647 : Int32)) % (1 : Int32))
  let v7 := ((q2 &&& (2147483647 : Int32)) % (1 : Int32))
  let v9 := ((v5).toInt64 + (v7).toInt64)
  let v11 := ((v9 % (1 : Int64))).toInt32
  let v14 := (own_f1 v5 v7 ((1 : Int32)))
  (if v14 = v11 then (if v14 < (0 : Int32) then (0 : Int32) else (if v14 < (1 : Int32) then (1 : Int32) else (0 : Int32))) else (0 : Int32)) else let v23 := ((q1 &&& (2147483647 : Int32)) % v1)
  let v26 := ((q2 &&& (2147483647 : Int32)) % v1)
  let v28 := ((v23).toInt64 + (v26).toInt64)
  let v31 := ((v28 % (v1).toInt64)).toInt32
  let v34 := (own_f1 v23 v26 v1)
  (if v34 = v31 then (if v34 < (0 : Int32) then (0 : Int32) else (if v34 < v1 then (1 : Int32) else (0 : Int32))) else (0 : Int32)))
def Q0 (Z : State) (q0 : Int32) (q1 : Int32) (q2 : Int32)  (h0 : Heap) (n0 : Nat) (v : Option Value) (h : Heap) (L : List Loc) : Prop := v = some (.int (own_f0 q0 q1 q2)) ∧ Fr n0 L
set_option maxRecDepth 65536 in
set_option maxHeartbeats 40000000 in
theorem rm0 (l : Launch) (Z : State) (a0 : Array Value) (hw : ∀ d ∈ tables_1, d.before a0 Z = true) (ws : List Jvm.Cond) (q0 : Int32) (q1 : Int32) (q2 : Int32)  (h0 : Heap) (n0 : Nat) (Z0 : n0 ≤ h0.size)  :
    MetFree l x (head1 (Jvm.Cond.code x code maxLocals ret :: ws) room_1) (fun a U => a = #[(.int q0), (.int q1), (.int q2)] ∧ Z.Warmed39 U.vm ∧ U.heap = h0) (fun _ _ _ _ _ => True) (fun _ U o U' => ∃ v L, o = .returned v ∧ Q0 Z q0 q1 q2 h0 n0 v U'.heap L ∧ FrameEnd U o U' L room_1.cells room_1.slots) := by
  refine MetFree.of_bodySF (plainFor_of_name pn_2) hisR ?_
  intro p e s m args below meth c s₁ Bd hml0 hP hK
  obtain ⟨rfl, hZ, hh⟩ := hP
  have hx := Bd.exec
  have hby := Bd.bytes
  have hml : c.maxLocals = 10 := hml0
  have hown : s.vm.findClass "com/example/displace/displace/ChdShiftedPinLaw" = some m.cls := findClass_of_methodNamed Bd.named
  have hnm := (name_of_methodNamed Bd.named Bd.method).1
  have X0 : Stand p l e room_1 s m #[(.int q0), (.int q1), (.int q2)] below meth c s₁ [] 0 0 := Stand.of_body Bd
  have hlk : meth.locks = false := by first | exact BodyLoose.notSynchronized (by assumption) | exact Body.notSynchronized (by assumption)
  have e0 : s₁.heap = h0 := by rw [← hh, Bd.state]; rfl
  have N0 := Fr.nil n0
  have pre0 : ∀ t, Steps p.tables e below (s₁.setTop (mkF m 0 #[.val (.int q0), .val (.int q1), .val (.int q2), .unset, .unset, .unset, .unset, .unset, .unset, .unset] [])) t → Steps p.tables e below (s₁.setTop (entryFrame m #[(.int q0), (.int q1), (.int q2)] maxLocals)) t := fun t k => castTop (ef_0 m q0 q1 q2) k
  obtain ⟨v1, hv1⟩ : ∃ z : Int32, z = (q0 &&& (2147483647 : Int32)) := ⟨_, rfl⟩
  have pre2 : ∀ t, Steps p.tables e below (s₁.setTop (mkF m 4 #[.val (.int q0), .val (.int q1), .val (.int q2), .unset, .unset, .unset, .unset, .unset, .unset, .unset] [(.int v1)])) t → Steps p.tables e below (s₁.setTop (entryFrame m #[(.int q0), (.int q1), (.int q2)] maxLocals)) t := by
    rw [hv1]
    intro t k
    refine pre0 t ?_
    show Steps p.tables e below (s₁.setTop (mkF m 0 #[.val (.int q0), .val (.int q1), .val (.int q2), .unset, .unset, .unset, .unset, .unset, .unset, .unset] [])) _
    refine XS.iloadN X0.here hx rfl (hb hby at_0) rfl ?_
    show Steps p.tables e below (s₁.setTop (mkF m 1 #[.val (.int q0), .val (.int q1), .val (.int q2), .unset, .unset, .unset, .unset, .unset, .unset, .unset] [(.int q0)])) _
    refine X0.ldcInt hx hown (mvT hZ (hw _ (List.mem_of_getElem? (i := 0) rfl))) (g := (mkF m 1 #[.val (.int q0), .val (.int q1), .val (.int q2), .unset, .unset, .unset, .unset, .unset, .unset, .unset] [(.int q0)])) rfl (hb hby at_1) _ ?_
    show Steps p.tables e below (s₁.setTop (mkF m 3 #[.val (.int q0), .val (.int q1), .val (.int q2), .unset, .unset, .unset, .unset, .unset, .unset, .unset] [(.int (2147483647 : Int32)), (.int q0)])) _
    refine XS.iand X0.here hx rfl (hb hby at_3) rfl ?_
    exact k
  have pre3 : ∀ t, Steps p.tables e below (s₁.setTop (mkF m 6 #[.val (.int q0), .val (.int q1), .val (.int q2), .val (.int v1), .unset, .unset, .unset, .unset, .unset, .unset] [(.int v1)])) t → Steps p.tables e below (s₁.setTop (entryFrame m #[(.int q0), (.int q1), (.int q2)] maxLocals)) t := by
    intro t k
    refine pre2 t ?_
    show Steps p.tables e below (s₁.setTop (mkF m 4 #[.val (.int q0), .val (.int q1), .val (.int q2), .unset, .unset, .unset, .unset, .unset, .unset, .unset] [(.int v1)])) _
    refine XS.istoreN X0.here hx rfl (hb hby at_4) rfl (l' := #[.val (.int q0), .val (.int q1), .val (.int q2), .val (.int v1), .unset, .unset, .unset, .unset, .unset, .unset]) rfl ?_
    show Steps p.tables e below (s₁.setTop (mkF m 5 #[.val (.int q0), .val (.int q1), .val (.int q2), .val (.int v1), .unset, .unset, .unset, .unset, .unset, .unset] [])) _
    refine XS.iloadN X0.here hx rfl (hb hby at_5) rfl ?_
    exact k
  by_cases c4 : v1 = (0 : Int32)
  · obtain ⟨v5, hv5⟩ : ∃ z : Int32, z = ((q1 &&& (2147483647 : Int32)) % (1 : Int32)) := ⟨_, rfl⟩
    have pre6 : ∀ t, Steps p.tables e below (s₁.setTop (mkF m 17 #[.val (.int q0), .val (.int q1), .val (.int q2), .val (.int (1 : Int32)), .unset, .unset, .unset, .unset, .unset, .unset] [(.int v5)])) t → Steps p.tables e below (s₁.setTop (entryFrame m #[(.int q0), (.int q1), (.int q2)] maxLocals)) t := by
      rw [hv5]
      intro t k
      refine pre3 t ?_
      show Steps p.tables e below (s₁.setTop (mkF m 6 #[.val (.int q0), .val (.int q1), .val (.int q2), .val (.int v1), .unset, .unset, .unset, .unset, .unset, .unset] [(.int v1)])) _
      refine XS.ifNo X0.here hx rfl (hb hby at_6) rfl ((if0 _ _).trans (teq c4).2) ?_
      show Steps p.tables e below (s₁.setTop (mkF m 9 #[.val (.int q0), .val (.int q1), .val (.int q2), .val (.int v1), .unset, .unset, .unset, .unset, .unset, .unset] [])) _
      refine XS.iconst X0.here hx rfl (hb hby at_9) ?_
      show Steps p.tables e below (s₁.setTop (mkF m 10 #[.val (.int q0), .val (.int q1), .val (.int q2), .val (.int v1), .unset, .unset, .unset, .unset, .unset, .unset] [(.int (1 : Int32))])) _
      refine XS.istoreN X0.here hx rfl (hb hby at_10) rfl (l' := #[.val (.int q0), .val (.int q1), .val (.int q2), .val (.int (1 : Int32)), .unset, .unset, .unset, .unset, .unset, .unset]) rfl ?_
      show Steps p.tables e below (s₁.setTop (mkF m 11 #[.val (.int q0), .val (.int q1), .val (.int q2), .val (.int (1 : Int32)), .unset, .unset, .unset, .unset, .unset, .unset] [])) _
      refine XS.iloadN X0.here hx rfl (hb hby at_11) rfl ?_
      show Steps p.tables e below (s₁.setTop (mkF m 12 #[.val (.int q0), .val (.int q1), .val (.int q2), .val (.int (1 : Int32)), .unset, .unset, .unset, .unset, .unset, .unset] [(.int q1)])) _
      refine X0.ldcInt hx hown (mvT hZ (hw _ (List.mem_of_getElem? (i := 0) rfl))) (g := (mkF m 12 #[.val (.int q0), .val (.int q1), .val (.int q2), .val (.int (1 : Int32)), .unset, .unset, .unset, .unset, .unset, .unset] [(.int q1)])) rfl (hb hby at_12) _ ?_
      show Steps p.tables e below (s₁.setTop (mkF m 14 #[.val (.int q0), .val (.int q1), .val (.int q2), .val (.int (1 : Int32)), .unset, .unset, .unset, .unset, .unset, .unset] [(.int (2147483647 : Int32)), (.int q1)])) _
      refine XS.iand X0.here hx rfl (hb hby at_14) rfl ?_
      show Steps p.tables e below (s₁.setTop (mkF m 15 #[.val (.int q0), .val (.int q1), .val (.int q2), .val (.int (1 : Int32)), .unset, .unset, .unset, .unset, .unset, .unset] [(.int (q1 &&& (2147483647 : Int32)))])) _
      refine XS.iloadN X0.here hx rfl (hb hby at_15) rfl ?_
      show Steps p.tables e below (s₁.setTop (mkF m 16 #[.val (.int q0), .val (.int q1), .val (.int q2), .val (.int (1 : Int32)), .unset, .unset, .unset, .unset, .unset, .unset] [(.int (1 : Int32)), (.int (q1 &&& (2147483647 : Int32)))])) _
      refine iremM X0 hx rfl (hb hby at_16) rfl (by decide) ?_
      exact k
    obtain ⟨v7, hv7⟩ : ∃ z : Int32, z = ((q2 &&& (2147483647 : Int32)) % (1 : Int32)) := ⟨_, rfl⟩
    have pre8 : ∀ t, Steps p.tables e below (s₁.setTop (mkF m 25 #[.val (.int q0), .val (.int q1), .val (.int q2), .val (.int (1 : Int32)), .val (.int v5), .unset, .unset, .unset, .unset, .unset] [(.int v7)])) t → Steps p.tables e below (s₁.setTop (entryFrame m #[(.int q0), (.int q1), (.int q2)] maxLocals)) t := by
      rw [hv7]
      intro t k
      refine pre6 t ?_
      show Steps p.tables e below (s₁.setTop (mkF m 17 #[.val (.int q0), .val (.int q1), .val (.int q2), .val (.int (1 : Int32)), .unset, .unset, .unset, .unset, .unset, .unset] [(.int v5)])) _
      refine XS.istore X0.here hx rfl (hb hby at_17) rfl (l' := #[.val (.int q0), .val (.int q1), .val (.int q2), .val (.int (1 : Int32)), .val (.int v5), .unset, .unset, .unset, .unset, .unset]) rfl ?_
      show Steps p.tables e below (s₁.setTop (mkF m 19 #[.val (.int q0), .val (.int q1), .val (.int q2), .val (.int (1 : Int32)), .val (.int v5), .unset, .unset, .unset, .unset, .unset] [])) _
      refine XS.iloadN X0.here hx rfl (hb hby at_19) rfl ?_
      show Steps p.tables e below (s₁.setTop (mkF m 20 #[.val (.int q0), .val (.int q1), .val (.int q2), .val (.int (1 : Int32)), .val (.int v5), .unset, .unset, .unset, .unset, .unset] [(.int q2)])) _
      refine X0.ldcInt hx hown (mvT hZ (hw _ (List.mem_of_getElem? (i := 0) rfl))) (g := (mkF m 20 #[.val (.int q0), .val (.int q1), .val (.int q2), .val (.int (1 : Int32)), .val (.int v5), .unset, .unset, .unset, .unset, .unset] [(.int q2)])) rfl (hb hby at_20) _ ?_
      show Steps p.tables e below (s₁.setTop (mkF m 22 #[.val (.int q0), .val (.int q1), .val (.int q2), .val (.int (1 : Int32)), .val (.int v5), .unset, .unset, .unset, .unset, .unset] [(.int (2147483647 : Int32)), (.int q2)])) _
      refine XS.iand X0.here hx rfl (hb hby at_22) rfl ?_
      show Steps p.tables e below (s₁.setTop (mkF m 23 #[.val (.int q0), .val (.int q1), .val (.int q2), .val (.int (1 : Int32)), .val (.int v5), .unset, .unset, .unset, .unset, .unset] [(.int (q2 &&& (2147483647 : Int32)))])) _
      refine XS.iloadN X0.here hx rfl (hb hby at_23) rfl ?_
      show Steps p.tables e below (s₁.setTop (mkF m 24 #[.val (.int q0), .val (.int q1), .val (.int q2), .val (.int (1 : Int32)), .val (.int v5), .unset, .unset, .unset, .unset, .unset] [(.int (1 : Int32)), (.int (q2 &&& (2147483647 : Int32)))])) _
      refine iremM X0 hx rfl (hb hby at_24) rfl (by decide) ?_
      exact k
    obtain ⟨v9, hv9⟩ : ∃ z : Int64, z = ((v5).toInt64 + (v7).toInt64) := ⟨_, rfl⟩
    have pre10 : ∀ t, Steps p.tables e below (s₁.setTop (mkF m 34 #[.val (.int q0), .val (.int q1), .val (.int q2), .val (.int (1 : Int32)), .val (.int v5), .val (.int v7), .unset, .unset, .unset, .unset] [(.long v9)])) t → Steps p.tables e below (s₁.setTop (entryFrame m #[(.int q0), (.int q1), (.int q2)] maxLocals)) t := by
      rw [hv9]
      intro t k
      refine pre8 t ?_
      show Steps p.tables e below (s₁.setTop (mkF m 25 #[.val (.int q0), .val (.int q1), .val (.int q2), .val (.int (1 : Int32)), .val (.int v5), .unset, .unset, .unset, .unset, .unset] [(.int v7)])) _
      refine XS.istore X0.here hx rfl (hb hby at_25) rfl (l' := #[.val (.int q0), .val (.int q1), .val (.int q2), .val (.int (1 : Int32)), .val (.int v5), .val (.int v7), .unset, .unset, .unset, .unset]) rfl ?_
      show Steps p.tables e below (s₁.setTop (mkF m 27 #[.val (.int q0), .val (.int q1), .val (.int q2), .val (.int (1 : Int32)), .val (.int v5), .val (.int v7), .unset, .unset, .unset, .unset] [])) _
      refine XS.iload X0.here hx rfl (hb hby at_27) rfl ?_
      show Steps p.tables e below (s₁.setTop (mkF m 29 #[.val (.int q0), .val (.int q1), .val (.int q2), .val (.int (1 : Int32)), .val (.int v5), .val (.int v7), .unset, .unset, .unset, .unset] [(.int v5)])) _
      refine XS.i2l X0.here hx rfl (hb hby at_29) rfl ?_
      show Steps p.tables e below (s₁.setTop (mkF m 30 #[.val (.int q0), .val (.int q1), .val (.int q2), .val (.int (1 : Int32)), .val (.int v5), .val (.int v7), .unset, .unset, .unset, .unset] [(.long (v5).toInt64)])) _
      refine XS.iload X0.here hx rfl (hb hby at_30) rfl ?_
      show Steps p.tables e below (s₁.setTop (mkF m 32 #[.val (.int q0), .val (.int q1), .val (.int q2), .val (.int (1 : Int32)), .val (.int v5), .val (.int v7), .unset, .unset, .unset, .unset] [(.int v7), (.long (v5).toInt64)])) _
      refine XS.i2l X0.here hx rfl (hb hby at_32) rfl ?_
      show Steps p.tables e below (s₁.setTop (mkF m 33 #[.val (.int q0), .val (.int q1), .val (.int q2), .val (.int (1 : Int32)), .val (.int v5), .val (.int v7), .unset, .unset, .unset, .unset] [(.long (v7).toInt64), (.long (v5).toInt64)])) _
      refine XS.ladd X0.here hx rfl (hb hby at_33) rfl ?_
      exact k
    obtain ⟨v11, hv11⟩ : ∃ z : Int32, z = ((v9 % (1 : Int64))).toInt32 := ⟨_, rfl⟩
    have pre12 : ∀ t, Steps p.tables e below (s₁.setTop (mkF m 42 #[.val (.int q0), .val (.int q1), .val (.int q2), .val (.int (1 : Int32)), .val (.int v5), .val (.int v7), .val (.long v9), .second, .unset, .unset] [(.int v11)])) t → Steps p.tables e below (s₁.setTop (entryFrame m #[(.int q0), (.int q1), (.int q2)] maxLocals)) t := by
      rw [hv11]
      intro t k
      refine pre10 t ?_
      show Steps p.tables e below (s₁.setTop (mkF m 34 #[.val (.int q0), .val (.int q1), .val (.int q2), .val (.int (1 : Int32)), .val (.int v5), .val (.int v7), .unset, .unset, .unset, .unset] [(.long v9)])) _
      refine XS.lstore X0.here hx rfl (hb hby at_34) rfl (l' := #[.val (.int q0), .val (.int q1), .val (.int q2), .val (.int (1 : Int32)), .val (.int v5), .val (.int v7), .val (.long v9), .second, .unset, .unset]) rfl ?_
      show Steps p.tables e below (s₁.setTop (mkF m 36 #[.val (.int q0), .val (.int q1), .val (.int q2), .val (.int (1 : Int32)), .val (.int v5), .val (.int v7), .val (.long v9), .second, .unset, .unset] [])) _
      refine XS.lload X0.here hx rfl (hb hby at_36) rfl ?_
      show Steps p.tables e below (s₁.setTop (mkF m 38 #[.val (.int q0), .val (.int q1), .val (.int q2), .val (.int (1 : Int32)), .val (.int v5), .val (.int v7), .val (.long v9), .second, .unset, .unset] [(.long v9)])) _
      refine XS.iloadN X0.here hx rfl (hb hby at_38) rfl ?_
      show Steps p.tables e below (s₁.setTop (mkF m 39 #[.val (.int q0), .val (.int q1), .val (.int q2), .val (.int (1 : Int32)), .val (.int v5), .val (.int v7), .val (.long v9), .second, .unset, .unset] [(.int (1 : Int32)), (.long v9)])) _
      refine XS.i2l X0.here hx rfl (hb hby at_39) rfl ?_
      show Steps p.tables e below (s₁.setTop (mkF m 40 #[.val (.int q0), .val (.int q1), .val (.int q2), .val (.int (1 : Int32)), .val (.int v5), .val (.int v7), .val (.long v9), .second, .unset, .unset] [(.long (1 : Int64)), (.long v9)])) _
      refine own_lremM X0 hx rfl (hb hby at_40) rfl (by decide) ?_
      show Steps p.tables e below (s₁.setTop (mkF m 41 #[.val (.int q0), .val (.int q1), .val (.int q2), .val (.int (1 : Int32)), .val (.int v5), .val (.int v7), .val (.long v9), .second, .unset, .unset] [(.long (v9 % (1 : Int64)))])) _
      refine XS.l2i X0.here hx rfl (hb hby at_41) rfl ?_
      exact k
    obtain ⟨_, _, ⟨T13, L13, k13, n13⟩, -, X13, ⟨Lc13, hQ13, l13, y13, z13⟩, st13⟩ := Jvm.LawKit.callS X0 hx (y := (⟨"com/example/displace/displace/Chd", "shifted", "(III)I"⟩ : MethodName)) hown (mvT hZ (hw _ (List.mem_of_getElem? (i := 1) rfl))) (mvT hZ (hw _ (List.mem_of_getElem? (i := 2) rfl))) (mvT hZ (hw _ (List.mem_of_getElem? (i := 3) rfl))) (mvT hZ (hw _ (List.mem_of_getElem? (i := 4) rfl))) (by decide) (backOf (W := 0) (rm1 l Z a0 hw [] v5 v7 (1 : Int32)  h0 n0 Z0 ) hZ (hw _ (List.mem_of_getElem? (i := 4) rfl)) (hw _ (List.mem_of_getElem? (i := 3) rfl)) (by decide) (by decide)) (g := (mkF m 49 #[.val (.int q0), .val (.int q1), .val (.int q2), .val (.int (1 : Int32)), .val (.int v5), .val (.int v7), .val (.long v9), .second, .val (.int v11), .unset] [(.int (1 : Int32)), (.int v7), (.int v5)])) rfl (by rw [hml]; rfl) (argsL := [(.int v5), (.int v7), (.int (1 : Int32))]) (rest := []) (lenOf pd_3 rfl) rfl (by show 2 * 0 + _ ≤ _; exact Nat.le_of_eq rfl) (hb hby at_49) (fun _ _ => ⟨rfl, e0, (by decide : 0 + 0 ≤ _), (by decide : 0 + 0 ≤ _)⟩)
    dsimp only [Pt.U, Pt.locs, Pt.cells, Pt.slots] at X13 l13 y13 z13 st13 hQ13
    subst l13 y13 z13
    obtain ⟨rfl, N13q, e13⟩ := hQ13
    have N13 := Fr.app N0 N13q
    obtain ⟨v14, hv14⟩ : ∃ z : Int32, z = (own_f1 v5 v7 ((1 : Int32))) := ⟨_, rfl⟩
    have pre15 : ∀ t, Steps p.tables e below (T13.setTop (mkF m 52 #[.val (.int q0), .val (.int q1), .val (.int q2), .val (.int (1 : Int32)), .val (.int v5), .val (.int v7), .val (.long v9), .second, .val (.int v11), .unset] [(.int v14)])) t → Steps p.tables e below (s₁.setTop (entryFrame m #[(.int q0), (.int q1), (.int q2)] maxLocals)) t := by
      rw [hv14]
      intro t k
      refine pre12 t ?_
      show Steps p.tables e below (s₁.setTop (mkF m 42 #[.val (.int q0), .val (.int q1), .val (.int q2), .val (.int (1 : Int32)), .val (.int v5), .val (.int v7), .val (.long v9), .second, .unset, .unset] [(.int v11)])) _
      refine XS.istore X0.here hx rfl (hb hby at_42) rfl (l' := #[.val (.int q0), .val (.int q1), .val (.int q2), .val (.int (1 : Int32)), .val (.int v5), .val (.int v7), .val (.long v9), .second, .val (.int v11), .unset]) rfl ?_
      show Steps p.tables e below (s₁.setTop (mkF m 44 #[.val (.int q0), .val (.int q1), .val (.int q2), .val (.int (1 : Int32)), .val (.int v5), .val (.int v7), .val (.long v9), .second, .val (.int v11), .unset] [])) _
      refine XS.iload X0.here hx rfl (hb hby at_44) rfl ?_
      show Steps p.tables e below (s₁.setTop (mkF m 46 #[.val (.int q0), .val (.int q1), .val (.int q2), .val (.int (1 : Int32)), .val (.int v5), .val (.int v7), .val (.long v9), .second, .val (.int v11), .unset] [(.int v5)])) _
      refine XS.iload X0.here hx rfl (hb hby at_46) rfl ?_
      show Steps p.tables e below (s₁.setTop (mkF m 48 #[.val (.int q0), .val (.int q1), .val (.int q2), .val (.int (1 : Int32)), .val (.int v5), .val (.int v7), .val (.long v9), .second, .val (.int v11), .unset] [(.int v7), (.int v5)])) _
      refine XS.iloadN X0.here hx rfl (hb hby at_48) rfl ?_
      show Steps p.tables e below (s₁.setTop (mkF m 49 #[.val (.int q0), .val (.int q1), .val (.int q2), .val (.int (1 : Int32)), .val (.int v5), .val (.int v7), .val (.long v9), .second, .val (.int v11), .unset] [(.int (1 : Int32)), (.int v7), (.int v5)])) _
      refine st13 _ ?_
      exact k
    have pre16 : ∀ t, Steps p.tables e below (T13.setTop (mkF m 58 #[.val (.int q0), .val (.int q1), .val (.int q2), .val (.int (1 : Int32)), .val (.int v5), .val (.int v7), .val (.long v9), .second, .val (.int v11), .val (.int v14)] [(.int v11), (.int v14)])) t → Steps p.tables e below (s₁.setTop (entryFrame m #[(.int q0), (.int q1), (.int q2)] maxLocals)) t := by
      intro t k
      refine pre15 t ?_
      show Steps p.tables e below (T13.setTop (mkF m 52 #[.val (.int q0), .val (.int q1), .val (.int q2), .val (.int (1 : Int32)), .val (.int v5), .val (.int v7), .val (.long v9), .second, .val (.int v11), .unset] [(.int v14)])) _
      refine XS.istore X13.here hx rfl (hb hby at_52) rfl (l' := #[.val (.int q0), .val (.int q1), .val (.int q2), .val (.int (1 : Int32)), .val (.int v5), .val (.int v7), .val (.long v9), .second, .val (.int v11), .val (.int v14)]) rfl ?_
      show Steps p.tables e below (T13.setTop (mkF m 54 #[.val (.int q0), .val (.int q1), .val (.int q2), .val (.int (1 : Int32)), .val (.int v5), .val (.int v7), .val (.long v9), .second, .val (.int v11), .val (.int v14)] [])) _
      refine XS.iload X13.here hx rfl (hb hby at_54) rfl ?_
      show Steps p.tables e below (T13.setTop (mkF m 56 #[.val (.int q0), .val (.int q1), .val (.int q2), .val (.int (1 : Int32)), .val (.int v5), .val (.int v7), .val (.long v9), .second, .val (.int v11), .val (.int v14)] [(.int v14)])) _
      refine XS.iload X13.here hx rfl (hb hby at_56) rfl ?_
      exact k
    by_cases c17 : v14 = v11
    · have pre18 : ∀ t, Steps p.tables e below (T13.setTop (mkF m 63 #[.val (.int q0), .val (.int q1), .val (.int q2), .val (.int (1 : Int32)), .val (.int v5), .val (.int v7), .val (.long v9), .second, .val (.int v11), .val (.int v14)] [(.int v14)])) t → Steps p.tables e below (s₁.setTop (entryFrame m #[(.int q0), (.int q1), (.int q2)] maxLocals)) t := by
        intro t k
        refine pre16 t ?_
        show Steps p.tables e below (T13.setTop (mkF m 58 #[.val (.int q0), .val (.int q1), .val (.int q2), .val (.int (1 : Int32)), .val (.int v5), .val (.int v7), .val (.long v9), .second, .val (.int v11), .val (.int v14)] [(.int v11), (.int v14)])) _
        refine XS.icmpNo X13.here hx rfl (hb hby at_58) rfl ((teq c17).2) ?_
        show Steps p.tables e below (T13.setTop (mkF m 61 #[.val (.int q0), .val (.int q1), .val (.int q2), .val (.int (1 : Int32)), .val (.int v5), .val (.int v7), .val (.long v9), .second, .val (.int v11), .val (.int v14)] [])) _
        refine XS.iload X13.here hx rfl (hb hby at_61) rfl ?_
        exact k
      by_cases c19 : v14 < (0 : Int32)
      · obtain ⟨fs, hr, hrun, hended, hW, hsame⟩ := X13.leave (v := some (.int (0 : Int32))) (fun h => by rw [Bd.returns] at h; cases h) hlk
        refine ⟨_, _, pre18 _ ?_, hrun, hended, _, _, rfl, ?_, ⟨_, rfl⟩, hW, hsame.mono (by decide) (by decide)⟩
        · show Steps p.tables e below (T13.setTop (mkF m 63 #[.val (.int q0), .val (.int q1), .val (.int q2), .val (.int (1 : Int32)), .val (.int v5), .val (.int v7), .val (.long v9), .second, .val (.int v11), .val (.int v14)] [(.int v14)])) _
          refine XS.ifYes X13.here hx rfl (pc0 := 63) (pc' := 76) rfl (hb hby at_63) rfl ((if0 _ _).trans (tlt c19).1) (by decide) (by decide) ?_
          show Steps p.tables e below (T13.setTop (mkF m 76 #[.val (.int q0), .val (.int q1), .val (.int q2), .val (.int (1 : Int32)), .val (.int v5), .val (.int v7), .val (.long v9), .second, .val (.int v11), .val (.int v14)] [])) _
          refine XS.iconst X13.here hx rfl (hb hby at_76) ?_
          show Steps p.tables e below (T13.setTop (mkF m 77 #[.val (.int q0), .val (.int q1), .val (.int q2), .val (.int (1 : Int32)), .val (.int v5), .val (.int v7), .val (.long v9), .second, .val (.int v11), .val (.int v14)] [(.int (0 : Int32))])) _
          exact retN X13 hx (t := .boolean) Bd.returns (by simp) (hb hby at_77) hr
        · show Q0 Z q0 q1 q2 h0 n0 _ T13.heap _
          rw [e13]
          exact ⟨by have w_hv14 := hv14.symm; subst w_hv14; have w_hv11 := hv11.symm; subst w_hv11; have w_hv9 := hv9.symm; subst w_hv9; have w_hv7 := hv7.symm; subst w_hv7; have w_hv5 := hv5.symm; subst w_hv5; have w_hv1 := hv1.symm; subst w_hv1; simp only [own_f0, if_pos c4, if_pos c17, if_pos c19], N13⟩
      · have pre20 : ∀ t, Steps p.tables e below (T13.setTop (mkF m 69 #[.val (.int q0), .val (.int q1), .val (.int q2), .val (.int (1 : Int32)), .val (.int v5), .val (.int v7), .val (.long v9), .second, .val (.int v11), .val (.int v14)] [(.int (1 : Int32)), (.int v14)])) t → Steps p.tables e below (s₁.setTop (entryFrame m #[(.int q0), (.int q1), (.int q2)] maxLocals)) t := by
          intro t k
          refine pre18 t ?_
          show Steps p.tables e below (T13.setTop (mkF m 63 #[.val (.int q0), .val (.int q1), .val (.int q2), .val (.int (1 : Int32)), .val (.int v5), .val (.int v7), .val (.long v9), .second, .val (.int v11), .val (.int v14)] [(.int v14)])) _
          refine XS.ifNo X13.here hx rfl (hb hby at_63) rfl ((if0 _ _).trans (flt c19).1) ?_
          show Steps p.tables e below (T13.setTop (mkF m 66 #[.val (.int q0), .val (.int q1), .val (.int q2), .val (.int (1 : Int32)), .val (.int v5), .val (.int v7), .val (.long v9), .second, .val (.int v11), .val (.int v14)] [])) _
          refine XS.iload X13.here hx rfl (hb hby at_66) rfl ?_
          show Steps p.tables e below (T13.setTop (mkF m 68 #[.val (.int q0), .val (.int q1), .val (.int q2), .val (.int (1 : Int32)), .val (.int v5), .val (.int v7), .val (.long v9), .second, .val (.int v11), .val (.int v14)] [(.int v14)])) _
          refine XS.iloadN X13.here hx rfl (hb hby at_68) rfl ?_
          exact k
        by_cases c21 : v14 < (1 : Int32)
        · obtain ⟨fs, hr, hrun, hended, hW, hsame⟩ := X13.leave (v := some (.int (1 : Int32))) (fun h => by rw [Bd.returns] at h; cases h) hlk
          refine ⟨_, _, pre20 _ ?_, hrun, hended, _, _, rfl, ?_, ⟨_, rfl⟩, hW, hsame.mono (by decide) (by decide)⟩
          · show Steps p.tables e below (T13.setTop (mkF m 69 #[.val (.int q0), .val (.int q1), .val (.int q2), .val (.int (1 : Int32)), .val (.int v5), .val (.int v7), .val (.long v9), .second, .val (.int v11), .val (.int v14)] [(.int (1 : Int32)), (.int v14)])) _
            refine XS.icmpNo X13.here hx rfl (hb hby at_69) rfl ((tlt c21).2.1) ?_
            show Steps p.tables e below (T13.setTop (mkF m 72 #[.val (.int q0), .val (.int q1), .val (.int q2), .val (.int (1 : Int32)), .val (.int v5), .val (.int v7), .val (.long v9), .second, .val (.int v11), .val (.int v14)] [])) _
            refine XS.iconst X13.here hx rfl (hb hby at_72) ?_
            show Steps p.tables e below (T13.setTop (mkF m 73 #[.val (.int q0), .val (.int q1), .val (.int q2), .val (.int (1 : Int32)), .val (.int v5), .val (.int v7), .val (.long v9), .second, .val (.int v11), .val (.int v14)] [(.int (1 : Int32))])) _
            refine XS.goto X13.here hx rfl (pc0 := 73) (pc' := 77) rfl (hb hby at_73) (by decide) (by decide) ?_
            show Steps p.tables e below (T13.setTop (mkF m 77 #[.val (.int q0), .val (.int q1), .val (.int q2), .val (.int (1 : Int32)), .val (.int v5), .val (.int v7), .val (.long v9), .second, .val (.int v11), .val (.int v14)] [(.int (1 : Int32))])) _
            exact retN X13 hx (t := .boolean) Bd.returns (by simp) (hb hby at_77) hr
          · show Q0 Z q0 q1 q2 h0 n0 _ T13.heap _
            rw [e13]
            exact ⟨by have w_hv14 := hv14.symm; subst w_hv14; have w_hv11 := hv11.symm; subst w_hv11; have w_hv9 := hv9.symm; subst w_hv9; have w_hv7 := hv7.symm; subst w_hv7; have w_hv5 := hv5.symm; subst w_hv5; have w_hv1 := hv1.symm; subst w_hv1; simp only [own_f0, if_pos c4, if_pos c17, if_neg c19, if_pos c21], N13⟩
        · obtain ⟨fs, hr, hrun, hended, hW, hsame⟩ := X13.leave (v := some (.int (0 : Int32))) (fun h => by rw [Bd.returns] at h; cases h) hlk
          refine ⟨_, _, pre20 _ ?_, hrun, hended, _, _, rfl, ?_, ⟨_, rfl⟩, hW, hsame.mono (by decide) (by decide)⟩
          · show Steps p.tables e below (T13.setTop (mkF m 69 #[.val (.int q0), .val (.int q1), .val (.int q2), .val (.int (1 : Int32)), .val (.int v5), .val (.int v7), .val (.long v9), .second, .val (.int v11), .val (.int v14)] [(.int (1 : Int32)), (.int v14)])) _
            refine XS.icmpYes X13.here hx rfl (pc0 := 69) (pc' := 76) rfl (hb hby at_69) rfl ((flt c21).2.1) (by decide) (by decide) ?_
            show Steps p.tables e below (T13.setTop (mkF m 76 #[.val (.int q0), .val (.int q1), .val (.int q2), .val (.int (1 : Int32)), .val (.int v5), .val (.int v7), .val (.long v9), .second, .val (.int v11), .val (.int v14)] [])) _
            refine XS.iconst X13.here hx rfl (hb hby at_76) ?_
            show Steps p.tables e below (T13.setTop (mkF m 77 #[.val (.int q0), .val (.int q1), .val (.int q2), .val (.int (1 : Int32)), .val (.int v5), .val (.int v7), .val (.long v9), .second, .val (.int v11), .val (.int v14)] [(.int (0 : Int32))])) _
            exact retN X13 hx (t := .boolean) Bd.returns (by simp) (hb hby at_77) hr
          · show Q0 Z q0 q1 q2 h0 n0 _ T13.heap _
            rw [e13]
            exact ⟨by have w_hv14 := hv14.symm; subst w_hv14; have w_hv11 := hv11.symm; subst w_hv11; have w_hv9 := hv9.symm; subst w_hv9; have w_hv7 := hv7.symm; subst w_hv7; have w_hv5 := hv5.symm; subst w_hv5; have w_hv1 := hv1.symm; subst w_hv1; simp only [own_f0, if_pos c4, if_pos c17, if_neg c19, if_neg c21], N13⟩
    · obtain ⟨fs, hr, hrun, hended, hW, hsame⟩ := X13.leave (v := some (.int (0 : Int32))) (fun h => by rw [Bd.returns] at h; cases h) hlk
      refine ⟨_, _, pre16 _ ?_, hrun, hended, _, _, rfl, ?_, ⟨_, rfl⟩, hW, hsame.mono (by decide) (by decide)⟩
      · show Steps p.tables e below (T13.setTop (mkF m 58 #[.val (.int q0), .val (.int q1), .val (.int q2), .val (.int (1 : Int32)), .val (.int v5), .val (.int v7), .val (.long v9), .second, .val (.int v11), .val (.int v14)] [(.int v11), (.int v14)])) _
        refine XS.icmpYes X13.here hx rfl (pc0 := 58) (pc' := 76) rfl (hb hby at_58) rfl ((feq c17).2) (by decide) (by decide) ?_
        show Steps p.tables e below (T13.setTop (mkF m 76 #[.val (.int q0), .val (.int q1), .val (.int q2), .val (.int (1 : Int32)), .val (.int v5), .val (.int v7), .val (.long v9), .second, .val (.int v11), .val (.int v14)] [])) _
        refine XS.iconst X13.here hx rfl (hb hby at_76) ?_
        show Steps p.tables e below (T13.setTop (mkF m 77 #[.val (.int q0), .val (.int q1), .val (.int q2), .val (.int (1 : Int32)), .val (.int v5), .val (.int v7), .val (.long v9), .second, .val (.int v11), .val (.int v14)] [(.int (0 : Int32))])) _
        exact retN X13 hx (t := .boolean) Bd.returns (by simp) (hb hby at_77) hr
      · show Q0 Z q0 q1 q2 h0 n0 _ T13.heap _
        rw [e13]
        exact ⟨by have w_hv14 := hv14.symm; subst w_hv14; have w_hv11 := hv11.symm; subst w_hv11; have w_hv9 := hv9.symm; subst w_hv9; have w_hv7 := hv7.symm; subst w_hv7; have w_hv5 := hv5.symm; subst w_hv5; have w_hv1 := hv1.symm; subst w_hv1; simp only [own_f0, if_pos c4, if_neg c17], N13⟩
  · have nz_16_22 : ¬ (v1 = (0 : Int32)) := (by first | assumption | decide)
    obtain ⟨v23, hv23⟩ : ∃ z : Int32, z = ((q1 &&& (2147483647 : Int32)) % v1) := ⟨_, rfl⟩
    have pre24 : ∀ t, Steps p.tables e below (s₁.setTop (mkF m 17 #[.val (.int q0), .val (.int q1), .val (.int q2), .val (.int v1), .unset, .unset, .unset, .unset, .unset, .unset] [(.int v23)])) t → Steps p.tables e below (s₁.setTop (entryFrame m #[(.int q0), (.int q1), (.int q2)] maxLocals)) t := by
      rw [hv23]
      intro t k
      refine pre3 t ?_
      show Steps p.tables e below (s₁.setTop (mkF m 6 #[.val (.int q0), .val (.int q1), .val (.int q2), .val (.int v1), .unset, .unset, .unset, .unset, .unset, .unset] [(.int v1)])) _
      refine XS.ifYes X0.here hx rfl (pc0 := 6) (pc' := 11) rfl (hb hby at_6) rfl ((if0 _ _).trans (feq c4).2) (by decide) (by decide) ?_
      show Steps p.tables e below (s₁.setTop (mkF m 11 #[.val (.int q0), .val (.int q1), .val (.int q2), .val (.int v1), .unset, .unset, .unset, .unset, .unset, .unset] [])) _
      refine XS.iloadN X0.here hx rfl (hb hby at_11) rfl ?_
      show Steps p.tables e below (s₁.setTop (mkF m 12 #[.val (.int q0), .val (.int q1), .val (.int q2), .val (.int v1), .unset, .unset, .unset, .unset, .unset, .unset] [(.int q1)])) _
      refine X0.ldcInt hx hown (mvT hZ (hw _ (List.mem_of_getElem? (i := 0) rfl))) (g := (mkF m 12 #[.val (.int q0), .val (.int q1), .val (.int q2), .val (.int v1), .unset, .unset, .unset, .unset, .unset, .unset] [(.int q1)])) rfl (hb hby at_12) _ ?_
      show Steps p.tables e below (s₁.setTop (mkF m 14 #[.val (.int q0), .val (.int q1), .val (.int q2), .val (.int v1), .unset, .unset, .unset, .unset, .unset, .unset] [(.int (2147483647 : Int32)), (.int q1)])) _
      refine XS.iand X0.here hx rfl (hb hby at_14) rfl ?_
      show Steps p.tables e below (s₁.setTop (mkF m 15 #[.val (.int q0), .val (.int q1), .val (.int q2), .val (.int v1), .unset, .unset, .unset, .unset, .unset, .unset] [(.int (q1 &&& (2147483647 : Int32)))])) _
      refine XS.iloadN X0.here hx rfl (hb hby at_15) rfl ?_
      show Steps p.tables e below (s₁.setTop (mkF m 16 #[.val (.int q0), .val (.int q1), .val (.int q2), .val (.int v1), .unset, .unset, .unset, .unset, .unset, .unset] [(.int v1), (.int (q1 &&& (2147483647 : Int32)))])) _
      refine iremM X0 hx rfl (hb hby at_16) rfl nz_16_22 ?_
      exact k
    have nz_24_25 : ¬ (v1 = (0 : Int32)) := (by first | assumption | decide)
    obtain ⟨v26, hv26⟩ : ∃ z : Int32, z = ((q2 &&& (2147483647 : Int32)) % v1) := ⟨_, rfl⟩
    have pre27 : ∀ t, Steps p.tables e below (s₁.setTop (mkF m 25 #[.val (.int q0), .val (.int q1), .val (.int q2), .val (.int v1), .val (.int v23), .unset, .unset, .unset, .unset, .unset] [(.int v26)])) t → Steps p.tables e below (s₁.setTop (entryFrame m #[(.int q0), (.int q1), (.int q2)] maxLocals)) t := by
      rw [hv26]
      intro t k
      refine pre24 t ?_
      show Steps p.tables e below (s₁.setTop (mkF m 17 #[.val (.int q0), .val (.int q1), .val (.int q2), .val (.int v1), .unset, .unset, .unset, .unset, .unset, .unset] [(.int v23)])) _
      refine XS.istore X0.here hx rfl (hb hby at_17) rfl (l' := #[.val (.int q0), .val (.int q1), .val (.int q2), .val (.int v1), .val (.int v23), .unset, .unset, .unset, .unset, .unset]) rfl ?_
      show Steps p.tables e below (s₁.setTop (mkF m 19 #[.val (.int q0), .val (.int q1), .val (.int q2), .val (.int v1), .val (.int v23), .unset, .unset, .unset, .unset, .unset] [])) _
      refine XS.iloadN X0.here hx rfl (hb hby at_19) rfl ?_
      show Steps p.tables e below (s₁.setTop (mkF m 20 #[.val (.int q0), .val (.int q1), .val (.int q2), .val (.int v1), .val (.int v23), .unset, .unset, .unset, .unset, .unset] [(.int q2)])) _
      refine X0.ldcInt hx hown (mvT hZ (hw _ (List.mem_of_getElem? (i := 0) rfl))) (g := (mkF m 20 #[.val (.int q0), .val (.int q1), .val (.int q2), .val (.int v1), .val (.int v23), .unset, .unset, .unset, .unset, .unset] [(.int q2)])) rfl (hb hby at_20) _ ?_
      show Steps p.tables e below (s₁.setTop (mkF m 22 #[.val (.int q0), .val (.int q1), .val (.int q2), .val (.int v1), .val (.int v23), .unset, .unset, .unset, .unset, .unset] [(.int (2147483647 : Int32)), (.int q2)])) _
      refine XS.iand X0.here hx rfl (hb hby at_22) rfl ?_
      show Steps p.tables e below (s₁.setTop (mkF m 23 #[.val (.int q0), .val (.int q1), .val (.int q2), .val (.int v1), .val (.int v23), .unset, .unset, .unset, .unset, .unset] [(.int (q2 &&& (2147483647 : Int32)))])) _
      refine XS.iloadN X0.here hx rfl (hb hby at_23) rfl ?_
      show Steps p.tables e below (s₁.setTop (mkF m 24 #[.val (.int q0), .val (.int q1), .val (.int q2), .val (.int v1), .val (.int v23), .unset, .unset, .unset, .unset, .unset] [(.int v1), (.int (q2 &&& (2147483647 : Int32)))])) _
      refine iremM X0 hx rfl (hb hby at_24) rfl nz_24_25 ?_
      exact k
    obtain ⟨v28, hv28⟩ : ∃ z : Int64, z = ((v23).toInt64 + (v26).toInt64) := ⟨_, rfl⟩
    have pre29 : ∀ t, Steps p.tables e below (s₁.setTop (mkF m 34 #[.val (.int q0), .val (.int q1), .val (.int q2), .val (.int v1), .val (.int v23), .val (.int v26), .unset, .unset, .unset, .unset] [(.long v28)])) t → Steps p.tables e below (s₁.setTop (entryFrame m #[(.int q0), (.int q1), (.int q2)] maxLocals)) t := by
      rw [hv28]
      intro t k
      refine pre27 t ?_
      show Steps p.tables e below (s₁.setTop (mkF m 25 #[.val (.int q0), .val (.int q1), .val (.int q2), .val (.int v1), .val (.int v23), .unset, .unset, .unset, .unset, .unset] [(.int v26)])) _
      refine XS.istore X0.here hx rfl (hb hby at_25) rfl (l' := #[.val (.int q0), .val (.int q1), .val (.int q2), .val (.int v1), .val (.int v23), .val (.int v26), .unset, .unset, .unset, .unset]) rfl ?_
      show Steps p.tables e below (s₁.setTop (mkF m 27 #[.val (.int q0), .val (.int q1), .val (.int q2), .val (.int v1), .val (.int v23), .val (.int v26), .unset, .unset, .unset, .unset] [])) _
      refine XS.iload X0.here hx rfl (hb hby at_27) rfl ?_
      show Steps p.tables e below (s₁.setTop (mkF m 29 #[.val (.int q0), .val (.int q1), .val (.int q2), .val (.int v1), .val (.int v23), .val (.int v26), .unset, .unset, .unset, .unset] [(.int v23)])) _
      refine XS.i2l X0.here hx rfl (hb hby at_29) rfl ?_
      show Steps p.tables e below (s₁.setTop (mkF m 30 #[.val (.int q0), .val (.int q1), .val (.int q2), .val (.int v1), .val (.int v23), .val (.int v26), .unset, .unset, .unset, .unset] [(.long (v23).toInt64)])) _
      refine XS.iload X0.here hx rfl (hb hby at_30) rfl ?_
      show Steps p.tables e below (s₁.setTop (mkF m 32 #[.val (.int q0), .val (.int q1), .val (.int q2), .val (.int v1), .val (.int v23), .val (.int v26), .unset, .unset, .unset, .unset] [(.int v26), (.long (v23).toInt64)])) _
      refine XS.i2l X0.here hx rfl (hb hby at_32) rfl ?_
      show Steps p.tables e below (s₁.setTop (mkF m 33 #[.val (.int q0), .val (.int q1), .val (.int q2), .val (.int v1), .val (.int v23), .val (.int v26), .unset, .unset, .unset, .unset] [(.long (v26).toInt64), (.long (v23).toInt64)])) _
      refine XS.ladd X0.here hx rfl (hb hby at_33) rfl ?_
      exact k
    have nz_40_30 : ¬ ((v1).toInt64 = (0 : Int64)) := (own_nzL (by assumption))
    obtain ⟨v31, hv31⟩ : ∃ z : Int32, z = ((v28 % (v1).toInt64)).toInt32 := ⟨_, rfl⟩
    have pre32 : ∀ t, Steps p.tables e below (s₁.setTop (mkF m 42 #[.val (.int q0), .val (.int q1), .val (.int q2), .val (.int v1), .val (.int v23), .val (.int v26), .val (.long v28), .second, .unset, .unset] [(.int v31)])) t → Steps p.tables e below (s₁.setTop (entryFrame m #[(.int q0), (.int q1), (.int q2)] maxLocals)) t := by
      rw [hv31]
      intro t k
      refine pre29 t ?_
      show Steps p.tables e below (s₁.setTop (mkF m 34 #[.val (.int q0), .val (.int q1), .val (.int q2), .val (.int v1), .val (.int v23), .val (.int v26), .unset, .unset, .unset, .unset] [(.long v28)])) _
      refine XS.lstore X0.here hx rfl (hb hby at_34) rfl (l' := #[.val (.int q0), .val (.int q1), .val (.int q2), .val (.int v1), .val (.int v23), .val (.int v26), .val (.long v28), .second, .unset, .unset]) rfl ?_
      show Steps p.tables e below (s₁.setTop (mkF m 36 #[.val (.int q0), .val (.int q1), .val (.int q2), .val (.int v1), .val (.int v23), .val (.int v26), .val (.long v28), .second, .unset, .unset] [])) _
      refine XS.lload X0.here hx rfl (hb hby at_36) rfl ?_
      show Steps p.tables e below (s₁.setTop (mkF m 38 #[.val (.int q0), .val (.int q1), .val (.int q2), .val (.int v1), .val (.int v23), .val (.int v26), .val (.long v28), .second, .unset, .unset] [(.long v28)])) _
      refine XS.iloadN X0.here hx rfl (hb hby at_38) rfl ?_
      show Steps p.tables e below (s₁.setTop (mkF m 39 #[.val (.int q0), .val (.int q1), .val (.int q2), .val (.int v1), .val (.int v23), .val (.int v26), .val (.long v28), .second, .unset, .unset] [(.int v1), (.long v28)])) _
      refine XS.i2l X0.here hx rfl (hb hby at_39) rfl ?_
      show Steps p.tables e below (s₁.setTop (mkF m 40 #[.val (.int q0), .val (.int q1), .val (.int q2), .val (.int v1), .val (.int v23), .val (.int v26), .val (.long v28), .second, .unset, .unset] [(.long (v1).toInt64), (.long v28)])) _
      refine own_lremM X0 hx rfl (hb hby at_40) rfl nz_40_30 ?_
      show Steps p.tables e below (s₁.setTop (mkF m 41 #[.val (.int q0), .val (.int q1), .val (.int q2), .val (.int v1), .val (.int v23), .val (.int v26), .val (.long v28), .second, .unset, .unset] [(.long (v28 % (v1).toInt64))])) _
      refine XS.l2i X0.here hx rfl (hb hby at_41) rfl ?_
      exact k
    obtain ⟨_, _, ⟨T33, L33, k33, n33⟩, -, X33, ⟨Lc33, hQ33, l33, y33, z33⟩, st33⟩ := Jvm.LawKit.callS X0 hx (y := (⟨"com/example/displace/displace/Chd", "shifted", "(III)I"⟩ : MethodName)) hown (mvT hZ (hw _ (List.mem_of_getElem? (i := 1) rfl))) (mvT hZ (hw _ (List.mem_of_getElem? (i := 2) rfl))) (mvT hZ (hw _ (List.mem_of_getElem? (i := 3) rfl))) (mvT hZ (hw _ (List.mem_of_getElem? (i := 4) rfl))) (by decide) (backOf (W := 0) (rm1 l Z a0 hw [] v23 v26 v1  h0 n0 Z0 ) hZ (hw _ (List.mem_of_getElem? (i := 4) rfl)) (hw _ (List.mem_of_getElem? (i := 3) rfl)) (by decide) (by decide)) (g := (mkF m 49 #[.val (.int q0), .val (.int q1), .val (.int q2), .val (.int v1), .val (.int v23), .val (.int v26), .val (.long v28), .second, .val (.int v31), .unset] [(.int v1), (.int v26), (.int v23)])) rfl (by rw [hml]; rfl) (argsL := [(.int v23), (.int v26), (.int v1)]) (rest := []) (lenOf pd_3 rfl) rfl (by show 2 * 0 + _ ≤ _; exact Nat.le_of_eq rfl) (hb hby at_49) (fun _ _ => ⟨rfl, e0, (by decide : 0 + 0 ≤ _), (by decide : 0 + 0 ≤ _)⟩)
    dsimp only [Pt.U, Pt.locs, Pt.cells, Pt.slots] at X33 l33 y33 z33 st33 hQ33
    subst l33 y33 z33
    obtain ⟨rfl, N33q, e33⟩ := hQ33
    have N33 := Fr.app N0 N33q
    obtain ⟨v34, hv34⟩ : ∃ z : Int32, z = (own_f1 v23 v26 v1) := ⟨_, rfl⟩
    have pre35 : ∀ t, Steps p.tables e below (T33.setTop (mkF m 52 #[.val (.int q0), .val (.int q1), .val (.int q2), .val (.int v1), .val (.int v23), .val (.int v26), .val (.long v28), .second, .val (.int v31), .unset] [(.int v34)])) t → Steps p.tables e below (s₁.setTop (entryFrame m #[(.int q0), (.int q1), (.int q2)] maxLocals)) t := by
      rw [hv34]
      intro t k
      refine pre32 t ?_
      show Steps p.tables e below (s₁.setTop (mkF m 42 #[.val (.int q0), .val (.int q1), .val (.int q2), .val (.int v1), .val (.int v23), .val (.int v26), .val (.long v28), .second, .unset, .unset] [(.int v31)])) _
      refine XS.istore X0.here hx rfl (hb hby at_42) rfl (l' := #[.val (.int q0), .val (.int q1), .val (.int q2), .val (.int v1), .val (.int v23), .val (.int v26), .val (.long v28), .second, .val (.int v31), .unset]) rfl ?_
      show Steps p.tables e below (s₁.setTop (mkF m 44 #[.val (.int q0), .val (.int q1), .val (.int q2), .val (.int v1), .val (.int v23), .val (.int v26), .val (.long v28), .second, .val (.int v31), .unset] [])) _
      refine XS.iload X0.here hx rfl (hb hby at_44) rfl ?_
      show Steps p.tables e below (s₁.setTop (mkF m 46 #[.val (.int q0), .val (.int q1), .val (.int q2), .val (.int v1), .val (.int v23), .val (.int v26), .val (.long v28), .second, .val (.int v31), .unset] [(.int v23)])) _
      refine XS.iload X0.here hx rfl (hb hby at_46) rfl ?_
      show Steps p.tables e below (s₁.setTop (mkF m 48 #[.val (.int q0), .val (.int q1), .val (.int q2), .val (.int v1), .val (.int v23), .val (.int v26), .val (.long v28), .second, .val (.int v31), .unset] [(.int v26), (.int v23)])) _
      refine XS.iloadN X0.here hx rfl (hb hby at_48) rfl ?_
      show Steps p.tables e below (s₁.setTop (mkF m 49 #[.val (.int q0), .val (.int q1), .val (.int q2), .val (.int v1), .val (.int v23), .val (.int v26), .val (.long v28), .second, .val (.int v31), .unset] [(.int v1), (.int v26), (.int v23)])) _
      refine st33 _ ?_
      exact k
    have pre36 : ∀ t, Steps p.tables e below (T33.setTop (mkF m 58 #[.val (.int q0), .val (.int q1), .val (.int q2), .val (.int v1), .val (.int v23), .val (.int v26), .val (.long v28), .second, .val (.int v31), .val (.int v34)] [(.int v31), (.int v34)])) t → Steps p.tables e below (s₁.setTop (entryFrame m #[(.int q0), (.int q1), (.int q2)] maxLocals)) t := by
      intro t k
      refine pre35 t ?_
      show Steps p.tables e below (T33.setTop (mkF m 52 #[.val (.int q0), .val (.int q1), .val (.int q2), .val (.int v1), .val (.int v23), .val (.int v26), .val (.long v28), .second, .val (.int v31), .unset] [(.int v34)])) _
      refine XS.istore X33.here hx rfl (hb hby at_52) rfl (l' := #[.val (.int q0), .val (.int q1), .val (.int q2), .val (.int v1), .val (.int v23), .val (.int v26), .val (.long v28), .second, .val (.int v31), .val (.int v34)]) rfl ?_
      show Steps p.tables e below (T33.setTop (mkF m 54 #[.val (.int q0), .val (.int q1), .val (.int q2), .val (.int v1), .val (.int v23), .val (.int v26), .val (.long v28), .second, .val (.int v31), .val (.int v34)] [])) _
      refine XS.iload X33.here hx rfl (hb hby at_54) rfl ?_
      show Steps p.tables e below (T33.setTop (mkF m 56 #[.val (.int q0), .val (.int q1), .val (.int q2), .val (.int v1), .val (.int v23), .val (.int v26), .val (.long v28), .second, .val (.int v31), .val (.int v34)] [(.int v34)])) _
      refine XS.iload X33.here hx rfl (hb hby at_56) rfl ?_
      exact k
    by_cases c37 : v34 = v31
    · have pre38 : ∀ t, Steps p.tables e below (T33.setTop (mkF m 63 #[.val (.int q0), .val (.int q1), .val (.int q2), .val (.int v1), .val (.int v23), .val (.int v26), .val (.long v28), .second, .val (.int v31), .val (.int v34)] [(.int v34)])) t → Steps p.tables e below (s₁.setTop (entryFrame m #[(.int q0), (.int q1), (.int q2)] maxLocals)) t := by
        intro t k
        refine pre36 t ?_
        show Steps p.tables e below (T33.setTop (mkF m 58 #[.val (.int q0), .val (.int q1), .val (.int q2), .val (.int v1), .val (.int v23), .val (.int v26), .val (.long v28), .second, .val (.int v31), .val (.int v34)] [(.int v31), (.int v34)])) _
        refine XS.icmpNo X33.here hx rfl (hb hby at_58) rfl ((teq c37).2) ?_
        show Steps p.tables e below (T33.setTop (mkF m 61 #[.val (.int q0), .val (.int q1), .val (.int q2), .val (.int v1), .val (.int v23), .val (.int v26), .val (.long v28), .second, .val (.int v31), .val (.int v34)] [])) _
        refine XS.iload X33.here hx rfl (hb hby at_61) rfl ?_
        exact k
      by_cases c39 : v34 < (0 : Int32)
      · obtain ⟨fs, hr, hrun, hended, hW, hsame⟩ := X33.leave (v := some (.int (0 : Int32))) (fun h => by rw [Bd.returns] at h; cases h) hlk
        refine ⟨_, _, pre38 _ ?_, hrun, hended, _, _, rfl, ?_, ⟨_, rfl⟩, hW, hsame.mono (by decide) (by decide)⟩
        · show Steps p.tables e below (T33.setTop (mkF m 63 #[.val (.int q0), .val (.int q1), .val (.int q2), .val (.int v1), .val (.int v23), .val (.int v26), .val (.long v28), .second, .val (.int v31), .val (.int v34)] [(.int v34)])) _
          refine XS.ifYes X33.here hx rfl (pc0 := 63) (pc' := 76) rfl (hb hby at_63) rfl ((if0 _ _).trans (tlt c39).1) (by decide) (by decide) ?_
          show Steps p.tables e below (T33.setTop (mkF m 76 #[.val (.int q0), .val (.int q1), .val (.int q2), .val (.int v1), .val (.int v23), .val (.int v26), .val (.long v28), .second, .val (.int v31), .val (.int v34)] [])) _
          refine XS.iconst X33.here hx rfl (hb hby at_76) ?_
          show Steps p.tables e below (T33.setTop (mkF m 77 #[.val (.int q0), .val (.int q1), .val (.int q2), .val (.int v1), .val (.int v23), .val (.int v26), .val (.long v28), .second, .val (.int v31), .val (.int v34)] [(.int (0 : Int32))])) _
          exact retN X33 hx (t := .boolean) Bd.returns (by simp) (hb hby at_77) hr
        · show Q0 Z q0 q1 q2 h0 n0 _ T33.heap _
          rw [e33]
          exact ⟨by have w_hv34 := hv34.symm; subst w_hv34; have w_hv31 := hv31.symm; subst w_hv31; have w_hv28 := hv28.symm; subst w_hv28; have w_hv26 := hv26.symm; subst w_hv26; have w_hv23 := hv23.symm; subst w_hv23; have w_hv1 := hv1.symm; subst w_hv1; simp only [own_f0, if_neg c4, if_pos c37, if_pos c39], N33⟩
      · have pre40 : ∀ t, Steps p.tables e below (T33.setTop (mkF m 69 #[.val (.int q0), .val (.int q1), .val (.int q2), .val (.int v1), .val (.int v23), .val (.int v26), .val (.long v28), .second, .val (.int v31), .val (.int v34)] [(.int v1), (.int v34)])) t → Steps p.tables e below (s₁.setTop (entryFrame m #[(.int q0), (.int q1), (.int q2)] maxLocals)) t := by
          intro t k
          refine pre38 t ?_
          show Steps p.tables e below (T33.setTop (mkF m 63 #[.val (.int q0), .val (.int q1), .val (.int q2), .val (.int v1), .val (.int v23), .val (.int v26), .val (.long v28), .second, .val (.int v31), .val (.int v34)] [(.int v34)])) _
          refine XS.ifNo X33.here hx rfl (hb hby at_63) rfl ((if0 _ _).trans (flt c39).1) ?_
          show Steps p.tables e below (T33.setTop (mkF m 66 #[.val (.int q0), .val (.int q1), .val (.int q2), .val (.int v1), .val (.int v23), .val (.int v26), .val (.long v28), .second, .val (.int v31), .val (.int v34)] [])) _
          refine XS.iload X33.here hx rfl (hb hby at_66) rfl ?_
          show Steps p.tables e below (T33.setTop (mkF m 68 #[.val (.int q0), .val (.int q1), .val (.int q2), .val (.int v1), .val (.int v23), .val (.int v26), .val (.long v28), .second, .val (.int v31), .val (.int v34)] [(.int v34)])) _
          refine XS.iloadN X33.here hx rfl (hb hby at_68) rfl ?_
          exact k
        by_cases c41 : v34 < v1
        · obtain ⟨fs, hr, hrun, hended, hW, hsame⟩ := X33.leave (v := some (.int (1 : Int32))) (fun h => by rw [Bd.returns] at h; cases h) hlk
          refine ⟨_, _, pre40 _ ?_, hrun, hended, _, _, rfl, ?_, ⟨_, rfl⟩, hW, hsame.mono (by decide) (by decide)⟩
          · show Steps p.tables e below (T33.setTop (mkF m 69 #[.val (.int q0), .val (.int q1), .val (.int q2), .val (.int v1), .val (.int v23), .val (.int v26), .val (.long v28), .second, .val (.int v31), .val (.int v34)] [(.int v1), (.int v34)])) _
            refine XS.icmpNo X33.here hx rfl (hb hby at_69) rfl ((tlt c41).2.1) ?_
            show Steps p.tables e below (T33.setTop (mkF m 72 #[.val (.int q0), .val (.int q1), .val (.int q2), .val (.int v1), .val (.int v23), .val (.int v26), .val (.long v28), .second, .val (.int v31), .val (.int v34)] [])) _
            refine XS.iconst X33.here hx rfl (hb hby at_72) ?_
            show Steps p.tables e below (T33.setTop (mkF m 73 #[.val (.int q0), .val (.int q1), .val (.int q2), .val (.int v1), .val (.int v23), .val (.int v26), .val (.long v28), .second, .val (.int v31), .val (.int v34)] [(.int (1 : Int32))])) _
            refine XS.goto X33.here hx rfl (pc0 := 73) (pc' := 77) rfl (hb hby at_73) (by decide) (by decide) ?_
            show Steps p.tables e below (T33.setTop (mkF m 77 #[.val (.int q0), .val (.int q1), .val (.int q2), .val (.int v1), .val (.int v23), .val (.int v26), .val (.long v28), .second, .val (.int v31), .val (.int v34)] [(.int (1 : Int32))])) _
            exact retN X33 hx (t := .boolean) Bd.returns (by simp) (hb hby at_77) hr
          · show Q0 Z q0 q1 q2 h0 n0 _ T33.heap _
            rw [e33]
            exact ⟨by have w_hv34 := hv34.symm; subst w_hv34; have w_hv31 := hv31.symm; subst w_hv31; have w_hv28 := hv28.symm; subst w_hv28; have w_hv26 := hv26.symm; subst w_hv26; have w_hv23 := hv23.symm; subst w_hv23; have w_hv1 := hv1.symm; subst w_hv1; simp only [own_f0, if_neg c4, if_pos c37, if_neg c39, if_pos c41], N33⟩
        · obtain ⟨fs, hr, hrun, hended, hW, hsame⟩ := X33.leave (v := some (.int (0 : Int32))) (fun h => by rw [Bd.returns] at h; cases h) hlk
          refine ⟨_, _, pre40 _ ?_, hrun, hended, _, _, rfl, ?_, ⟨_, rfl⟩, hW, hsame.mono (by decide) (by decide)⟩
          · show Steps p.tables e below (T33.setTop (mkF m 69 #[.val (.int q0), .val (.int q1), .val (.int q2), .val (.int v1), .val (.int v23), .val (.int v26), .val (.long v28), .second, .val (.int v31), .val (.int v34)] [(.int v1), (.int v34)])) _
            refine XS.icmpYes X33.here hx rfl (pc0 := 69) (pc' := 76) rfl (hb hby at_69) rfl ((flt c41).2.1) (by decide) (by decide) ?_
            show Steps p.tables e below (T33.setTop (mkF m 76 #[.val (.int q0), .val (.int q1), .val (.int q2), .val (.int v1), .val (.int v23), .val (.int v26), .val (.long v28), .second, .val (.int v31), .val (.int v34)] [])) _
            refine XS.iconst X33.here hx rfl (hb hby at_76) ?_
            show Steps p.tables e below (T33.setTop (mkF m 77 #[.val (.int q0), .val (.int q1), .val (.int q2), .val (.int v1), .val (.int v23), .val (.int v26), .val (.long v28), .second, .val (.int v31), .val (.int v34)] [(.int (0 : Int32))])) _
            exact retN X33 hx (t := .boolean) Bd.returns (by simp) (hb hby at_77) hr
          · show Q0 Z q0 q1 q2 h0 n0 _ T33.heap _
            rw [e33]
            exact ⟨by have w_hv34 := hv34.symm; subst w_hv34; have w_hv31 := hv31.symm; subst w_hv31; have w_hv28 := hv28.symm; subst w_hv28; have w_hv26 := hv26.symm; subst w_hv26; have w_hv23 := hv23.symm; subst w_hv23; have w_hv1 := hv1.symm; subst w_hv1; simp only [own_f0, if_neg c4, if_pos c37, if_neg c39, if_neg c41], N33⟩
    · obtain ⟨fs, hr, hrun, hended, hW, hsame⟩ := X33.leave (v := some (.int (0 : Int32))) (fun h => by rw [Bd.returns] at h; cases h) hlk
      refine ⟨_, _, pre36 _ ?_, hrun, hended, _, _, rfl, ?_, ⟨_, rfl⟩, hW, hsame.mono (by decide) (by decide)⟩
      · show Steps p.tables e below (T33.setTop (mkF m 58 #[.val (.int q0), .val (.int q1), .val (.int q2), .val (.int v1), .val (.int v23), .val (.int v26), .val (.long v28), .second, .val (.int v31), .val (.int v34)] [(.int v31), (.int v34)])) _
        refine XS.icmpYes X33.here hx rfl (pc0 := 58) (pc' := 76) rfl (hb hby at_58) rfl ((feq c37).2) (by decide) (by decide) ?_
        show Steps p.tables e below (T33.setTop (mkF m 76 #[.val (.int q0), .val (.int q1), .val (.int q2), .val (.int v1), .val (.int v23), .val (.int v26), .val (.long v28), .second, .val (.int v31), .val (.int v34)] [])) _
        refine XS.iconst X33.here hx rfl (hb hby at_76) ?_
        show Steps p.tables e below (T33.setTop (mkF m 77 #[.val (.int q0), .val (.int q1), .val (.int q2), .val (.int v1), .val (.int v23), .val (.int v26), .val (.long v28), .second, .val (.int v31), .val (.int v34)] [(.int (0 : Int32))])) _
        exact retN X33 hx (t := .boolean) Bd.returns (by simp) (hb hby at_77) hr
      · show Q0 Z q0 q1 q2 h0 n0 _ T33.heap _
        rw [e33]
        exact ⟨by have w_hv34 := hv34.symm; subst w_hv34; have w_hv31 := hv31.symm; subst w_hv31; have w_hv28 := hv28.symm; subst w_hv28; have w_hv26 := hv26.symm; subst w_hv26; have w_hv23 := hv23.symm; subst w_hv23; have w_hv1 := hv1.symm; subst w_hv1; simp only [own_f0, if_neg c4, if_neg c37], N33⟩
theorem own_core (a b m : Int32) (mL : Int64) (hm : 0 < m.toInt) (e : mL.toInt = m.toInt) (ha : 0 ≤ a.toInt) (hb : 0 ≤ b.toInt) :
    own_f1 (a % m) (b % m) m = (((a % m).toInt64 + (b % m).toInt64) % mL).toInt32 ∧ ¬ own_f1 (a % m) (b % m) m < 0 ∧ own_f1 (a % m) (b % m) m < m := by
  have e1 := own_irem (y := m) ha
  have e2 := own_irem (y := m) hb
  have l1 := Int.emod_lt_of_pos a.toInt hm
  have l2 := Int.emod_lt_of_pos b.toInt hm
  have p1 := Int.emod_nonneg a.toInt (show m.toInt ≠ 0 by omega)
  have p2 := Int.emod_nonneg b.toInt (show m.toInt ≠ 0 by omega)
  have rm := own_r32 m
  rw [← e1] at l1 p1; rw [← e2] at l2 p2
  generalize a % m = s at *
  generalize b % m = t at *
  have q1 := own_i2l s
  have q2 := own_i2l t
  have q3 := own_i2l m
  have z : (0 : Int32).toInt = 0 := by decide
  have g := own_ladd (x := s.toInt64) (y := t.toInt64) (by omega)
  have g2 := own_lsub (x := s.toInt64 + t.toInt64) (y := m.toInt64) (by omega)
  have g3 := own_lrem (x := s.toInt64 + t.toInt64) (y := mL) (by omega)
  rw [← Int32.toInt_inj, Int32.lt_iff_toInt_lt, Int32.lt_iff_toInt_lt, z]
  simp only [own_f1, Int64.lt_iff_toInt_lt]
  rw [g, q1, q2, q3]
  by_cases c : s.toInt + t.toInt < m.toInt
  · rw [if_pos c]
    have k1 := own_l2i (x := s.toInt64 + t.toInt64) (by omega)
    have k2 : (s.toInt64 + t.toInt64).toInt % mL.toInt = (s.toInt64 + t.toInt64).toInt := Int.emod_eq_of_lt (by omega) (by omega)
    have k3 := own_l2i (x := (s.toInt64 + t.toInt64) % mL) (by omega)
    omega
  · rw [if_neg c]
    have k1 := own_l2i (x := s.toInt64 + t.toInt64 - m.toInt64) (by omega)
    have k2 : (s.toInt64 + t.toInt64).toInt % mL.toInt = (s.toInt64 + t.toInt64).toInt - m.toInt := by
      rw [e, ← Int.emod_eq_of_lt (a := (s.toInt64 + t.toInt64).toInt - m.toInt) (b := m.toInt) (by omega) (by omega)]; simp
    have k3 := own_l2i (x := (s.toInt64 + t.toInt64) % mL) (by omega)
    omega
theorem own_plain (q0 q1 q2 : Int32) : own_f0 q0 q1 q2 = 1 := by
  have a := own_mask q0 2147483647 31 (by decide) (by decide)
  have b := own_mask q1 2147483647 31 (by decide) (by decide)
  have c := own_mask q2 2147483647 31 (by decide) (by decide)
  have z : (0 : Int32).toInt = 0 := by decide
  simp only [own_f0]
  split
  · obtain ⟨h1, h2, h3⟩ := own_core (q1 &&& 2147483647) (q2 &&& 2147483647) 1 1 (by decide) (by decide) (by omega) (by omega)
    rw [if_pos h1, if_neg h2, if_pos h3]
  · rename_i h
    rw [← Int32.toInt_inj, z] at h
    obtain ⟨h1, h2, h3⟩ := own_core (q1 &&& 2147483647) (q2 &&& 2147483647) (q0 &&& 2147483647) _ (by omega) (own_i2l _) (by omega) (by omega)
    rw [if_pos h1, if_neg h2, if_pos h3]

set_option maxRecDepth 65536 in
set_option maxHeartbeats 40000000 in
theorem comes_1 {Post : Tables → Env → Array Value → State → Outcome → State → Prop} (hpost : ∀ tb e args s v u, (limb_1_1.after args s (.returned v) u = true ∧ limb_1_2.after args s (.returned v) u = true ∧ True) → FrameEnd s (.returned v) u (Jvm.fieldLocs frame_1_writes args s ++ Jvm.arrayLocs frame_1_arrays args s ++ Jvm.staticLocs frame_1_statics s) 0 0 → Post tb e args s (.returned v) u) :
    ArmFor flags0 classFile x code maxLocals ret World_1 tables_1 room_1 Calls_1 rest_1 Pre_1 Post := by
  intro l hfl _ _ p e ha hc hk s m args below hf hA hF happ hP
  obtain ⟨hcalls, hrest, hpre⟩ := hP
  obtain ⟨-, -, -, hnamed, -, -, -, hat⟩ := (Spec.applies_iff hf).mp happ
  obtain ⟨hg, hn⟩ := and_e (Cond.before_iff.mp (show (Jvm.Cond.and given_1 narrow_1).before args s = true from hpre))
  obtain ⟨gc, gr0⟩ := and_e hg
  obtain ⟨w0, w1, w2, rfl⟩ : ∃ w0 w1 w2 : Value, args = #[w0, w1, w2] := by
    have hs : args.size = 3 := by simpa [Cond.value, given_1] using gc
    obtain ⟨L⟩ := args
    match L, hs with
    | [w0, w1, w2], _ => exact ⟨w0, w1, w2, rfl⟩
  have hw := fun d (hd : d ∈ tables_1) => atoms_spec (ws := Jvm.Cond.code x code maxLocals ret :: tables_1) hat d (List.mem_cons_of_mem _ hd)
  obtain ⟨g0, gr1⟩ := and_e gr0
  obtain ⟨i0, ei0⟩ := is_v g0
  obtain rfl : w0 = (.int i0) := Option.some.inj ei0
  obtain ⟨g1, gr2⟩ := and_e gr1
  obtain ⟨i1, ei1⟩ := is_v g1
  obtain rfl : w1 = (.int i1) := Option.some.inj ei1
  obtain ⟨i2, ei2⟩ := is_v gr2
  obtain rfl : w2 = (.int i2) := Option.some.inj ei2
  obtain ⟨n, o, h1, h2, h3, _, L, rfl, ⟨hv, N⟩, hq⟩ := rm0 l s _ hw tables_1 i0 i1 i2 s.heap s.heap.size (Nat.le_refl _) p e ha hc hk s m _ below hf ((Spec.applies_iff_loose hf).mp happ).1 ⟨rfl, State.Warmed39.refl s, rfl⟩ trivial
  rw [own_plain] at hv
  subst hv
  refine ⟨n, _, h1, h2, h3, hpost _ _ _ _ _ _ ⟨Cond.after_iff.mpr rfl, Cond.after_iff.mpr (eq_i res_at (Term.int_eval (1)) rfl), trivial⟩ ⟨hq.1, hq.2.1, (hq.2.2.sift fun y hy => Or.inr (N y hy)).mono (by decide) (by decide)⟩⟩
theorem main_1_1 : Claimed_1_1 := comes_1 fun _ _ _ _ _ _ h hF => ⟨h.1, hF⟩
theorem main_1_2 : Claimed_1_2 := comes_1 fun _ _ _ _ _ _ h hF => ⟨h.2.1, hF⟩
end Jvm.Pilot.@@N@@
namespace Jvm.Pilot.@@N@@
open Jvm Jvm.ClassFile Sem Op Lib Jvm.Free Jvm.Stand Jvm.Pilot.@@N@@.Jvm.D
/-! MADE BY PROGRAM (witnessworld.py) out of the Statement's table words and the real class files: 10 classes; the members and pool entries that the words name. The judged class is class 1, her method 1. -/
namespace start1
open Jvm.ClassFile
def u (s : String) : CpInfo := .utf8 (stringToUtf16 s)
/-- a pool by its gaps: so many unusable entries, then the entry; so many at the end -/
def gap : Nat → List CpInfo → List CpInfo
  | 0, r => r
  | n + 1, r => .unusable :: gap n r
def poolList (es : List (Nat × CpInfo)) (last : Nat) : List CpInfo := es.foldr (fun e r => gap e.1 (e.2 :: r)) (gap last [])
def pool (es : List (Nat × CpInfo)) (last : Nat) : Array CpInfo := ⟨poolList es last⟩
def fileOf (pool : Array CpInfo) (this : Nat) (attrs : Array Attribute := #[]) (ms : Array MethodInfo := #[]) (fl : Nat := 33) (sup : Nat := 0) (ifs : Array Nat := #[]) (fds : Array FieldInfo := #[]) : ClassFile where
  minorVersion := 0
  majorVersion := 65
  constantPool := pool
  accessFlags := fl
  thisClass := this
  superClass := sup
  interfaces := ifs
  fields := fds
  methods := ms
  attributes := attrs
def plain (name : String) (sup : Option ClassId) : Class where
  name := name
  kind := .ordinary
  loader := none
  accessFlags := 33
  super := sup
  interfaces := #[]
  cf := none
  fields := #[]
  methods := #[]
  instanceTypes := #[]
  staticTypes := #[]
  resolved := #[]
  callSites := []
  init := .initialized
  statics := none
  mirror := none

def pool0 : Array CpInfo := pool [(5, u "<init>"), (0, u "()V"), (1, .class_ 10), (1, u "java/lang/Object")] 113

def k0m0 : Method := { name := "<init>", desc := "()V", sig := { parameters := [], returnType := none }, accessFlags := 1, code := none }
/-- java/lang/Object -/
def k0 : Class := { plain "java/lang/Object" none with
  accessFlags := 33
  interfaces := #[]
  cf := some (fileOf pool0 8 #[] #[{ accessFlags := 1, nameIndex := 5, descriptorIndex := 6, attributes := #[] }] 33 0 #[] #[])
  fields := #[]
  methods := #[k0m0]
  instanceTypes := #[]
  staticTypes := #[]
  resolved := Array.replicate 124 none
  statics := none }

def pool1 : Array CpInfo := pool [(2, .class_ 4), (1, u "java/lang/Object"), (0, u "<init>"), (0, u "()V"), (0, .integer 2147483647), (0, .methodref 9 10), (0, .class_ 11), (0, .nameAndType 12 13), (0, u "com/example/displace/displace/Chd"), (0, u "shifted"), (0, u "(III)I"), (0, .class_ 15), (0, u "com/example/displace/displace/ChdShiftedPinLaw"), (2, u "law"), (0, u "(III)Z")] 3

def k1m0 : Method := { name := "<init>", desc := "()V", sig := { parameters := [], returnType := none }, accessFlags := 2, code := none }
def k1c1 : Code := { maxStack := 4, maxLocals := 10, code := code, exceptionTable := #[], attributes := #[] }
def k1m1 : Method := { name := "law", desc := "(III)Z", sig := { parameters := [.int, .int, .int], returnType := some .boolean }, accessFlags := 9, code := some k1c1 }
/-- com/example/displace/displace/ChdShiftedPinLaw -/
def k1 : Class := { plain "com/example/displace/displace/ChdShiftedPinLaw" (some 0) with
  accessFlags := 49
  interfaces := #[]
  cf := some (fileOf pool1 14 #[] #[{ accessFlags := 2, nameIndex := 5, descriptorIndex := 6, attributes := #[] }, { accessFlags := 9, nameIndex := 18, descriptorIndex := 19, attributes := #[] }] 49 2 #[] #[])
  fields := #[]
  methods := #[k1m0, k1m1]
  instanceTypes := #[]
  staticTypes := #[]
  resolved := Array.replicate 23 none
  statics := none }

def pool2 : Array CpInfo := pool [(2, .class_ 4), (1, u "java/lang/Object"), (0, u "<init>"), (0, u "()V"), (17, .class_ 26), (1, u "com/example/displace/displace/PerfectHashFunction"), (0, u "MAGIC"), (0, u "[B"), (111, .class_ 141), (0, u "com/example/displace/displace/PerfectHashFunction$ByteAtATimeInputStream"), (50, u "FORMAT_VERSION"), (0, u "I"), (2, u "NO_SLOTS"), (0, u "Ljava/lang/String;"), (2, u "INTS_AT_A_TIME")] 45

def k2m0 : Method := { name := "<init>", desc := "()V", sig := { parameters := [], returnType := none }, accessFlags := 0, code := none }
/-- com/example/displace/displace/PerfectHashFunction -/
def k2 : Class := { plain "com/example/displace/displace/PerfectHashFunction" (some 0) with
  accessFlags := 1057
  interfaces := #[]
  cf := some (fileOf pool2 24 #[.nestMembers #[140]] #[{ accessFlags := 0, nameIndex := 5, descriptorIndex := 6, attributes := #[] }] 1057 2 #[] #[{ accessFlags := 26, nameIndex := 27, descriptorIndex := 28, attributes := #[] }, { accessFlags := 26, nameIndex := 192, descriptorIndex := 193, attributes := #[] }, { accessFlags := 24, nameIndex := 196, descriptorIndex := 197, attributes := #[] }, { accessFlags := 26, nameIndex := 200, descriptorIndex := 193, attributes := #[] }])
  fields := #[{ name := "MAGIC", type := (.array .byte), accessFlags := 26, slot := 0, constantValue := 0 }, { name := "FORMAT_VERSION", type := .int, accessFlags := 26, slot := 1, constantValue := 0 }, { name := "NO_SLOTS", type := (.object "java/lang/String"), accessFlags := 24, slot := 2, constantValue := 0 }, { name := "INTS_AT_A_TIME", type := .int, accessFlags := 26, slot := 3, constantValue := 0 }]
  methods := #[k2m0]
  instanceTypes := #[]
  staticTypes := #[(.array .byte), .int, (.object "java/lang/String"), .int]
  resolved := Array.replicate 246 none
  statics := none }

def pool3 : Array CpInfo := pool [(2, .class_ 4), (1, u "com/example/displace/displace/PerfectHashFunction"), (3, .class_ 10), (1, u "com/example/displace/displace/Chd"), (0, u "lambda"), (0, u "I"), (2, u "loadFactor"), (0, u "D"), (2, u "seed"), (0, u "J"), (2, u "keyCount"), (2, u "slotCount"), (2, u "displacements"), (0, u "Lcom/example/displace/displace/CompactIntArray;"), (33, u "shifted"), (0, u "(III)I"), (123, u "ALGORITHM"), (0, u "Ljava/lang/String;"), (1, u "PATTERN_GAMMA")] 18

def k3c0 : Code := { maxStack := 4, maxLocals := 5, code := prog_6_method_13_code, exceptionTable := #[], attributes := #[] }
def k3m0 : Method := { name := "shifted", desc := "(III)I", sig := { parameters := [.int, .int, .int], returnType := some .int }, accessFlags := 8, code := some k3c0 }
/-- com/example/displace/displace/Chd -/
def k3 : Class := { plain "com/example/displace/displace/Chd" (some 2) with
  accessFlags := 32
  interfaces := #[]
  cf := some (fileOf pool3 8 #[] #[{ accessFlags := 8, nameIndex := 64, descriptorIndex := 65, attributes := #[] }] 32 2 #[] #[{ accessFlags := 24, nameIndex := 189, descriptorIndex := 190, attributes := #[] }, { accessFlags := 26, nameIndex := 192, descriptorIndex := 20, attributes := #[] }, { accessFlags := 18, nameIndex := 11, descriptorIndex := 12, attributes := #[] }, { accessFlags := 18, nameIndex := 15, descriptorIndex := 16, attributes := #[] }, { accessFlags := 18, nameIndex := 19, descriptorIndex := 20, attributes := #[] }, { accessFlags := 18, nameIndex := 23, descriptorIndex := 12, attributes := #[] }, { accessFlags := 18, nameIndex := 26, descriptorIndex := 12, attributes := #[] }, { accessFlags := 18, nameIndex := 29, descriptorIndex := 30, attributes := #[] }])
  fields := #[{ name := "ALGORITHM", type := (.object "java/lang/String"), accessFlags := 24, slot := 0, constantValue := 0 }, { name := "PATTERN_GAMMA", type := .long, accessFlags := 26, slot := 1, constantValue := 0 }, { name := "lambda", type := .int, accessFlags := 18, slot := 0, constantValue := 0 }, { name := "loadFactor", type := .double, accessFlags := 18, slot := 1, constantValue := 0 }, { name := "seed", type := .long, accessFlags := 18, slot := 2, constantValue := 0 }, { name := "keyCount", type := .int, accessFlags := 18, slot := 3, constantValue := 0 }, { name := "slotCount", type := .int, accessFlags := 18, slot := 4, constantValue := 0 }, { name := "displacements", type := (.object "com/example/displace/displace/CompactIntArray"), accessFlags := 18, slot := 5, constantValue := 0 }]
  methods := #[k3m0]
  instanceTypes := #[.int, .double, .long, .int, .int, (.object "com/example/displace/displace/CompactIntArray")]
  staticTypes := #[(.object "java/lang/String"), .long]
  resolved := Array.replicate 211 none
  statics := none }

def pool4 : Array CpInfo := pool [(1, u "java/lang/Cloneable"), (0, .class_ 1), (0, u "java/lang/Object"), (0, .class_ 3)] 3

/-- java/lang/Cloneable -/
def k4 : Class := { plain "java/lang/Cloneable" (some 0) with
  accessFlags := 1537
  interfaces := #[]
  cf := some (fileOf pool4 2 #[] #[] 1537 4 #[] #[])
  fields := #[]
  methods := #[]
  instanceTypes := #[]
  staticTypes := #[]
  resolved := Array.replicate 8 none
  statics := none }

def pool5 : Array CpInfo := pool [(1, u "java/io/Serializable"), (0, .class_ 1), (0, u "java/lang/Object"), (0, .class_ 3)] 3

/-- java/io/Serializable -/
def k5 : Class := { plain "java/io/Serializable" (some 0) with
  accessFlags := 1537
  interfaces := #[]
  cf := some (fileOf pool5 2 #[] #[] 1537 4 #[] #[])
  fields := #[]
  methods := #[]
  instanceTypes := #[]
  staticTypes := #[]
  resolved := Array.replicate 8 none
  statics := none }

/-- the primitive byte -/
def k6 : Class := { plain "byte" none with kind := .primitive 'B', accessFlags := 0x411 }
/-- [B -/
def k7 : Class := { plain "[B" (some 0) with kind := .array 6 .byte, interfaces := #[4, 5], accessFlags := 1041 }

/-- the primitive int -/
def k8 : Class := { plain "int" none with kind := .primitive 'I', accessFlags := 0x411 }
/-- [I -/
def k9 : Class := { plain "[I" (some 0) with kind := .array 8 .int, interfaces := #[4, 5], accessFlags := 1041 }

def heap : Heap := #[]
def classes : Array Class := #[k0, k1, k2, k3, k4, k5, k6, k7, k8, k9]
def interned : List (Array UInt16 × Addr) := []
def slotsUsed : Nat := 0
def theMethod : MethodId := ⟨1, 1⟩
def args0 : Array Value := #[.int 5, .int 7, .int 3]
def aboutOver (below : List Frame) : State where
  vm := { classes := classes, interned := interned.toArray }
  heap := heap
  slotsUsed := slotsUsed
  threads := #[{ frames := .invoking theMethod args0 :: below }]
def below0 : List Frame := [.native { method := ⟨0, 0⟩, args := #[] }]
def about1 : State := aboutOver below0
def p0 : Program := .bare "" "" ""
def e0 : Env := launch0.env 0 0 0
theorem w_frames : about1.frames = Frame.invoking theMethod args0 :: below0 := rfl
set_option maxRecDepth 65536 in
theorem w_args : argsFit about1.vm theMethod args0 = true := by decide +kernel
set_option maxRecDepth 65536 in
theorem w_heap : heapFits about1 = true := by decide +kernel
set_option maxRecDepth 65536 in
theorem w_runnable : about1.curStatus? = some .runnable := by decide +kernel
set_option maxRecDepth 65536 in
theorem w_alone : about1.alone = true := by decide +kernel
set_option maxRecDepth 65536 in
theorem w_named : about1.methodNamed? x = some theMethod := by decide +kernel
set_option maxRecDepth 65536 in
theorem w_hears : about1.hears theMethod below0 = true := by decide +kernel
set_option maxRecDepth 65536 in
theorem w_ripe : about1.ripe theMethod args0 below0 = true := by decide +kernel
theorem w_running : about1.status = .running := rfl
set_option maxRecDepth 65536 in
theorem w_room : about1.hasRoom e0.platform room_1 = true :=
  launch0.hasRoom_least _ room_1 (by decide +kernel) (by decide +kernel) (by decide +kernel) (by decide +kernel) (by decide +kernel) (by decide +kernel)
theorem allAtoms_all (ts : List Jvm.Cond) (a : Array Jvm.Value) (st : Jvm.State) : (allAtoms ts).before a st = ts.all (fun c => c.before a st) := by
  induction ts with
  | nil => rfl
  | cons c t ih =>
    show (Jvm.Cond.and c (allAtoms t)).before a st = _
    rw [Jvm.Cond.before_and, ih, List.all_cons]
def words1 : List Jvm.Cond := Jvm.Cond.code x code maxLocals ret :: tables_1
/-- a 'code' word, met by the world's own term for the bytes: nothing is compared byte by byte -/
theorem code_word {y : MethodName} {bytes : ByteArray} {mx : Nat} {rt : Option FieldType} {a : Array Value} {s : State} {m : MethodId} {meth : Method} {c : Code} (h1 : s.methodNamed? y = some m) (h2 : s.vm.method? m = some meth) (h3 : meth.code = some c) (h4 : c.code = bytes)
    (h5 : (c.maxLocals == mx && c.exceptionTable.isEmpty && decide (c.maxStack ≤ mostOperands) && decide (meth.sig.returnType = rt) && !meth.locks && decide (parseMethodDescriptor y.desc = some meth.sig)) = true) : (Jvm.Cond.code y bytes mx rt).before a s = true := by
  simp only [Bool.and_eq_true, beq_iff_eq, Bool.not_eq_true', decide_eq_true_eq] at h5
  obtain ⟨⟨⟨⟨⟨g1, g2⟩, g3⟩, g4⟩, g5⟩, g6⟩ := h5
  simp [Cond.before, Cond.holds, Cond.value, h1, h2, h3, h4, g1, g2, g3, g4, g5, g6]
def isCode : Jvm.Cond → Bool
  | .code _ _ _ _ => true
  | _ => false
theorem all_split {L : List Jvm.Cond} {P : Jvm.Cond → Bool} (h1 : L.all (fun c => isCode c || P c) = true) (h2 : ∀ c ∈ L.filter isCode, P c = true) : L.all P = true := by
  refine List.all_eq_true.mpr fun c hc => ?_
  have h := List.all_eq_true.mp h1 c hc
  rcases Bool.eq_false_or_eq_true (isCode c) with hi | hi
  · exact h2 c (List.mem_filter.mpr ⟨hc, hi⟩)
  · simpa [hi] using h
set_option maxRecDepth 65536 in
theorem w_c0 : (Jvm.Cond.code x code maxLocals ret).before args0 about1 = true := code_word (m := ⟨1, 1⟩) (meth := k1m1) (c := k1c1) (by decide +kernel) rfl rfl rfl (by decide +kernel)
set_option maxRecDepth 65536 in
theorem w_c1 : (Jvm.Cond.code ({ cls := "com/example/displace/displace/Chd", name := "shifted", desc := "(III)I" } : Jvm.MethodName) prog_6_method_13_code (5 : Nat) (Option.some Jvm.ClassFile.FieldType.int)).before args0 about1 = true := code_word (m := ⟨3, 0⟩) (meth := k3m0) (c := k3c0) (by decide +kernel) rfl rfl rfl (by decide +kernel)
def codes1 : List Jvm.Cond := [Jvm.Cond.code x code maxLocals ret, Jvm.Cond.code ({ cls := "com/example/displace/displace/Chd", name := "shifted", desc := "(III)I" } : Jvm.MethodName) prog_6_method_13_code (5 : Nat) (Option.some Jvm.ClassFile.FieldType.int)]
set_option maxRecDepth 65536 in
theorem codes_eq : words1.filter isCode = codes1 := rfl
theorem w_codes : ∀ c ∈ words1.filter isCode, c.before args0 about1 = true := by
  rw [codes_eq]
  intro c hc
  simp only [codes1, List.mem_cons, List.not_mem_nil, or_false] at hc
  rcases hc with rfl | rfl
  · exact w_c0
  · exact w_c1
set_option maxRecDepth 65536 in
theorem w_t1 : words1.all (fun c => isCode c || c.before args0 about1) = true := by decide +kernel
theorem w_tables : (allAtoms (Jvm.Cond.code x code maxLocals ret :: tables_1)).before args0 about1 = true := by
  rw [allAtoms_all]
  show words1.all (fun c => c.before args0 about1) = true
  refine all_split ?_ w_codes
  rw [w_t1]
set_option maxRecDepth 65536 in
theorem w_case : (Jvm.Cond.and given_1 narrow_1).before args0 about1 = true := by decide +kernel
theorem w_applies : (headSpec (Jvm.Cond.code x code maxLocals ret :: tables_1) room_1).applies x e0.platform about1 = true :=
  (Spec.applies_iff w_frames).mpr ⟨w_running, w_runnable, w_alone, w_named, w_hears, w_ripe, w_room, w_tables⟩
theorem atStart : AtStart classFile x code maxLocals ret World_1 tables_1 room_1 Calls_1 rest_1 Pre_1 launch0 p0 e0 about1 theMethod args0 below0 :=
  ⟨lists_1, trivial, launch0.admits_env _ _ _, launch0.least_env, fairChoices_fair.cas, fairChoices_fair.clock, w_frames, w_args, w_heap, w_applies, trivial, trivial, w_case⟩
end start1
theorem witness_1 : WitnessClaimed_1 := ⟨start1.p0, start1.e0, start1.about1, start1.theMethod, start1.args0, start1.below0, start1.atStart⟩
end Jvm.Pilot.@@N@@
