import JvmDerived
import JvmDerived.Pilot.@@N@@Statement
import JvmDerived.Pilot.@@N@@Code
set_option linter.unusedVariables false
set_option linter.unusedSimpArgs false
namespace Jvm.RoadKit
open Sem ClassFile Op Lib Jvm.Stand Jvm.Free Jvm.LawKit
section New
variable {p : Program} {l : Launch} {e : Env} {R : Room} {s : State} {m : MethodId} {args : Array Value} {below : List Frame} {meth : Method} {c : Code} {T : State} {locs : List Loc} {cells slots : Nat}
theorem retI (X : Stand p l e R s m args below meth c T locs cells slots) (hx : p.tables.exec = Jvm.exec) {pc : Nat} {Ls : Array Slot} {z : Int32} {rest : List Value} (hret : meth.sig.returnType = some .int) (hd : decode c.code pc = .ok (.ireturn, 1)) {fs : List Frame}
    (hl : ∀ (f : JFrame) (acts : List Action), f.method = m → f.locked = none → f.entered = [] → (doReturn e (T.setTop f) acts (some (.int z))).1 = T.setFrames fs) : Steps p.tables e below (T.setTop (mkF m pc Ls (.int z :: rest))) (T.setFrames fs) := by
  have hm' : T.vm.method? m = some meth := X.method'
  have hn : narrow .int (.int z) = .int z := rfl
  show Steps p.tables e below (T.setTop { method := m, pc := pc, locals := Ls, stack := _ :: rest, locked := none }) _
  jvm_step X.here [X.here.top, hx, hd, hm', hret, hn]
  first | (intro acts; rw [hl _ acts rfl rfl rfl]) | rw [hl _ _ rfl rfl rfl]
  exact Steps.refl _
end New
end Jvm.RoadKit
namespace Jvm.Pilot.@@N@@
open Jvm Jvm.ClassFile Sem Op Lib Jvm.Free Jvm.Stand Jvm.LawKit Jvm.RoadKit Bundle Jvm.Pilot.@@N@@.Jvm.D
section OwnKit
variable {p : Program} {l : Launch} {e : Env} {R : Room} {s : State} {m : MethodId} {args : Array Value} {below : List Frame} {meth : Method} {c : Code} {T : State} {locs : List Loc} {cells slots : Nat} {Z : State} {h h' : Heap}
theorem own_lremM {g : JFrame} {target : State} (X : Stand p l e R s m args below meth c T locs cells slots) (hx : p.tables.exec = Jvm.exec) (hg : g.method = m) {x y : Int64} {rest : List Value} (hd : decode c.code g.pc = .ok (.lrem, 1)) (hs : g.stack = .long y :: .long x :: rest) (hy : y ≠ 0)
    (hr : Steps p.tables e below (T.setTop { g with pc := g.pc + 1, stack := .long (x % y) :: rest }) target) : Steps p.tables e below (T.setTop g) target :=
  XS.lrem X.here hx hg hd hs hy (by rw [lrem_mod]; exact hr)
/-- an array, by the list of its values -/
def own_A (Z : State) (h : Heap) (a : Addr) (ty : FieldType) (vs : List Value) : Prop := ∃ c : Cell, Arr Z h a c ty ∧ c.slots = vs.toArray
def own_AJ (Z : State) (h : Heap) (a : Addr) (xs : List Int64) : Prop := own_A Z h a .long (xs.map .long)
def own_AI (Z : State) (h : Heap) (a : Addr) (ty : FieldType) (xs : List Int32) : Prop := own_A Z h a ty (xs.map .int)
section Facts
variable {a b : Addr} {ty : FieldType} {vs : List Value} {xs : List Int64} {ys : List Int32} {sl : Nat} {v : Value} {ws : List Addr}
theorem own_A.ext (F : own_A Z h a ty vs) (E : Ext h h') : own_A Z h' a ty vs := by obtain ⟨c, A, r⟩ := F; exact ⟨c, A.ext E, r⟩
theorem own_A.other (F : own_A Z h b ty vs) (W : Wr h h' a sl v) (q : b ≠ a) : own_A Z h' b ty vs := by obtain ⟨c, A, r⟩ := F; exact ⟨c, A.other W q, r⟩
theorem own_A.keep (F : own_A Z h a ty vs) (K : Keep h h' ws) (q : a ∉ ws) : own_A Z h' a ty vs := by obtain ⟨c, A, r⟩ := F; exact ⟨c, ⟨K.2.1 a c A.1 q, A.2⟩, r⟩
theorem own_A.lt (F : own_A Z h a ty vs) : a < h.size := by obtain ⟨c, A, -⟩ := F; exact A.lt
theorem own_AJ.ext (F : own_AJ Z h a xs) (E : Ext h h') : own_AJ Z h' a xs := own_A.ext F E
theorem own_AJ.other (F : own_AJ Z h b xs) (W : Wr h h' a sl v) (q : b ≠ a) : own_AJ Z h' b xs := own_A.other F W q
theorem own_AJ.keep (F : own_AJ Z h a xs) (K : Keep h h' ws) (q : a ∉ ws) : own_AJ Z h' a xs := own_A.keep F K q
theorem own_AJ.lt (F : own_AJ Z h a xs) : a < h.size := own_A.lt F
theorem own_AI.ext (F : own_AI Z h a ty ys) (E : Ext h h') : own_AI Z h' a ty ys := own_A.ext F E
theorem own_AI.other (F : own_AI Z h b ty ys) (W : Wr h h' a sl v) (q : b ≠ a) : own_AI Z h' b ty ys := own_A.other F W q
theorem own_AI.keep (F : own_AI Z h a ty ys) (K : Keep h h' ws) (q : a ∉ ws) : own_AI Z h' a ty ys := own_A.keep F K q
theorem own_AI.lt (F : own_AI Z h a ty ys) : a < h.size := own_A.lt F
theorem own_A.set (F : own_A Z h a ty vs) {k : Nat} (W : Wr h h' a k v) : own_A Z h' a ty (vs.set k v) := by
  obtain ⟨c, A, r⟩ := F
  refine ⟨c.setSlot k v, A.same W, ?_⟩
  simp [Cell.setSlot, r]
theorem own_A_new {cA : ClassId} {n : Int32} {k : Nat} (A : Arr Z h a (newA cA ty n) ty) (hk : n.toNatClampNeg = k) : own_A Z h a ty (List.replicate k (defaultValue ty)) := by
  subst hk
  exact ⟨_, A, by simp [newA]⟩
theorem own_AJ_new {cA : ClassId} {n : Int32} {k : Nat} (A : Arr Z h a (newA cA .long n) .long) (hk : n.toNatClampNeg = k) : own_AJ Z h a (List.replicate k 0) := by
  have q := own_A_new A hk
  rw [own_AJ, List.map_replicate]; exact q
theorem own_AIint_new {cA : ClassId} {n : Int32} {k : Nat} (A : Arr Z h a (newA cA .int n) .int) (hk : n.toNatClampNeg = k) : own_AI Z h a .int (List.replicate k 0) := by
  have q := own_A_new A hk
  rw [own_AI, List.map_replicate]; exact q
theorem own_AIbyte_new {cA : ClassId} {n : Int32} {k : Nat} (A : Arr Z h a (newA cA .byte n) .byte) (hk : n.toNatClampNeg = k) : own_AI Z h a .byte (List.replicate k 0) := by
  have q := own_A_new A hk
  rw [own_AI, List.map_replicate]; exact q
theorem own_AIboolean_new {cA : ClassId} {n : Int32} {k : Nat} (A : Arr Z h a (newA cA .boolean n) .boolean) (hk : n.toNatClampNeg = k) : own_AI Z h a .boolean (List.replicate k 0) := by
  have q := own_A_new A hk
  rw [own_AI, List.map_replicate]; exact q
theorem own_inb {cl : Cell} {j : Int32} (r : cl.slots = vs.toArray) (hj : 0 ≤ j.toInt ∧ j.toInt < (vs.length : Nat)) : ¬ (j < 0 ∨ cl.slots.size ≤ j.toNatClampNeg) ∧ j.toNatClampNeg = j.toInt.toNat := by
  have e : j.toNatClampNeg = j.toInt.toNat := rfl
  refine ⟨fun q => ?_, e⟩
  rcases q with q | q
  · rw [Int32.lt_iff_toInt_lt] at q
    have : (0 : Int32).toInt = 0 := by decide
    omega
  · rw [r, e] at q
    simp at q
    omega
end Facts
theorem own_at? {α : Type} (f : α → Value) (xs : List α) (k : Nat) (d : α) (hk : k < xs.length) : (xs.map f).toArray[k]? = some (f (xs.getD k d)) := by
  simp [List.getD, hk]
section Loads
variable {a : Addr} {xs : List Int64} {ys : List Int32} {j : Int32} {pc : Nat} {Ls : Array Slot} {rest : List Value}
theorem own_laload (X : Stand p l e R s m args below meth c T locs cells slots) (hx : p.tables.exec = Jvm.exec) (hZ : Z.Warmed39 s.vm) (eT : T.heap = h) (A : own_AJ Z h a xs) (hj : 0 ≤ j.toInt ∧ j.toInt < (xs.length : Nat)) (hd : decode c.code pc = .ok (.laload, 1)) (target : State)
    (hr : Steps p.tables e below (T.setTop (mkF m (pc + 1) Ls (.long (xs.getD j.toInt.toNat 0) :: rest))) target) : Steps p.tables e below (T.setTop (mkF m pc Ls (.int j :: .ref a :: rest))) target := by
  obtain ⟨cl, A, r⟩ := A
  obtain ⟨q1, q2⟩ := own_inb (j := j) r (by simpa using hj)
  refine X.laload hx (by rw [eT]; exact A.1) (State.isArrayOf_alike hZ.alike A.2.1) A.2.2 q1 (v := .long (xs.getD j.toInt.toNat 0)) ?_ (g := mkF m pc Ls (.int j :: .ref a :: rest)) rfl rfl hd target hr
  rw [q2, r]
  exact own_at? _ xs _ 0 (by omega)
theorem own_iaload (X : Stand p l e R s m args below meth c T locs cells slots) (hx : p.tables.exec = Jvm.exec) (hZ : Z.Warmed39 s.vm) (eT : T.heap = h) (A : own_AI Z h a .int ys) (hj : 0 ≤ j.toInt ∧ j.toInt < (ys.length : Nat)) (hd : decode c.code pc = .ok (.iaload, 1)) (target : State)
    (hr : Steps p.tables e below (T.setTop (mkF m (pc + 1) Ls (.int (ys.getD j.toInt.toNat 0) :: rest))) target) : Steps p.tables e below (T.setTop (mkF m pc Ls (.int j :: .ref a :: rest))) target := by
  obtain ⟨cl, A, r⟩ := A
  obtain ⟨q1, q2⟩ := own_inb (j := j) r (by simpa using hj)
  refine X.iaload hx (by rw [eT]; exact A.1) (State.isArrayOf_alike hZ.alike A.2.1) A.2.2 q1 (v := .int (ys.getD j.toInt.toNat 0)) ?_ (g := mkF m pc Ls (.int j :: .ref a :: rest)) rfl rfl hd target hr
  rw [q2, r]
  exact own_at? _ ys _ 0 (by omega)
theorem own_baloadB (X : Stand p l e R s m args below meth c T locs cells slots) (hx : p.tables.exec = Jvm.exec) (hZ : Z.Warmed39 s.vm) (eT : T.heap = h) (A : own_AI Z h a .byte ys) (hj : 0 ≤ j.toInt ∧ j.toInt < (ys.length : Nat)) (hd : decode c.code pc = .ok (.baload, 1)) (target : State)
    (hr : Steps p.tables e below (T.setTop (mkF m (pc + 1) Ls (.int (ys.getD j.toInt.toNat 0) :: rest))) target) : Steps p.tables e below (T.setTop (mkF m pc Ls (.int j :: .ref a :: rest))) target := by
  obtain ⟨cl, A, r⟩ := A
  obtain ⟨q1, q2⟩ := own_inb (j := j) r (by simpa using hj)
  refine X.baloadBytes hx (by rw [eT]; exact A.1) (State.isArrayOf_alike hZ.alike A.2.1) A.2.2 q1 (v := .int (ys.getD j.toInt.toNat 0)) ?_ (g := mkF m pc Ls (.int j :: .ref a :: rest)) rfl rfl hd target hr
  rw [q2, r]
  exact own_at? _ ys _ 0 (by omega)
theorem own_baloadZ (X : Stand p l e R s m args below meth c T locs cells slots) (hx : p.tables.exec = Jvm.exec) (hZ : Z.Warmed39 s.vm) (eT : T.heap = h) (A : own_AI Z h a .boolean ys) (hj : 0 ≤ j.toInt ∧ j.toInt < (ys.length : Nat)) (hd : decode c.code pc = .ok (.baload, 1)) (target : State)
    (hr : Steps p.tables e below (T.setTop (mkF m (pc + 1) Ls (.int (ys.getD j.toInt.toNat 0) :: rest))) target) : Steps p.tables e below (T.setTop (mkF m pc Ls (.int j :: .ref a :: rest))) target := by
  obtain ⟨cl, A, r⟩ := A
  obtain ⟨q1, q2⟩ := own_inb (j := j) r (by simpa using hj)
  refine X.baloadBooleans hx (by rw [eT]; exact A.1) (State.isArrayOf_alike hZ.alike A.2.1) A.2.2 q1 (v := .int (ys.getD j.toInt.toNat 0)) ?_ (g := mkF m pc Ls (.int j :: .ref a :: rest)) rfl rfl hd target hr
  rw [q2, r]
  exact own_at? _ ys _ 0 (by omega)
theorem own_alenJ (X : Stand p l e R s m args below meth c T locs cells slots) (hx : p.tables.exec = Jvm.exec) (hZ : Z.Warmed39 s.vm) (eT : T.heap = h) (A : own_AJ Z h a xs) (hd : decode c.code pc = .ok (.arraylength, 1)) (target : State)
    (hr : Steps p.tables e below (T.setTop (mkF m (pc + 1) Ls (.int xs.length.toInt32 :: rest))) target) : Steps p.tables e below (T.setTop (mkF m pc Ls (.ref a :: rest))) target := by
  obtain ⟨cl, A, r⟩ := A
  refine X.arraylength hx (by rw [eT]; exact A.1) (State.isArrayOf_alike hZ.alike A.2.1) (g := mkF m pc Ls (.ref a :: rest)) rfl rfl hd target ?_
  rw [r]
  simpa using hr
theorem own_alenI {ty : FieldType} (X : Stand p l e R s m args below meth c T locs cells slots) (hx : p.tables.exec = Jvm.exec) (hZ : Z.Warmed39 s.vm) (eT : T.heap = h) (A : own_AI Z h a ty ys) (hd : decode c.code pc = .ok (.arraylength, 1)) (target : State)
    (hr : Steps p.tables e below (T.setTop (mkF m (pc + 1) Ls (.int ys.length.toInt32 :: rest))) target) : Steps p.tables e below (T.setTop (mkF m pc Ls (.ref a :: rest))) target := by
  obtain ⟨cl, A, r⟩ := A
  refine X.arraylength hx (by rw [eT]; exact A.1) (State.isArrayOf_alike hZ.alike A.2.1) (g := mkF m pc Ls (.ref a :: rest)) rfl rfl hd target ?_
  rw [r]
  simpa using hr
theorem own_lastore (X : Stand p l e R s m args below meth c T locs cells slots) (hx : p.tables.exec = Jvm.exec) (hZ : Z.Warmed39 s.vm) (eT : T.heap = h) (A : own_AJ Z h a xs) (hj : 0 ≤ j.toInt ∧ j.toInt < (xs.length : Nat)) {x : Int64} (hd : decode c.code pc = .ok (.lastore, 1)) :
    ∃ T' h', Stand p l e R s m args below meth c T' (locs ++ [⟨a, j.toInt.toNat⟩]) cells slots ∧ T'.heap = h' ∧ Wr h h' a j.toInt.toNat (.long x) ∧ own_AJ Z h' a (xs.set j.toInt.toNat x) ∧ ∀ target, Steps p.tables e below (T'.setTop (mkF m (pc + 1) Ls rest)) target → Steps p.tables e below (T.setTop (mkF m pc Ls (.long x :: .int j :: .ref a :: rest))) target := by
  obtain ⟨cl, B, r⟩ := A
  obtain ⟨q1, q2⟩ := own_inb (j := j) r (by simpa using hj)
  obtain ⟨T', h', X', e', W', st⟩ := stJ X hx hZ eT B q1 (x := x) (g := mkF m pc Ls (.long x :: .int j :: .ref a :: rest)) rfl rfl hd
  rw [q2] at X' W'
  exact ⟨T', h', X', e', W', by have := own_A.set ⟨cl, B, r⟩ W'; rw [own_AJ, List.map_set]; exact this, st⟩
theorem own_iastore (X : Stand p l e R s m args below meth c T locs cells slots) (hx : p.tables.exec = Jvm.exec) (hZ : Z.Warmed39 s.vm) (eT : T.heap = h) (A : own_AI Z h a .int ys) (hj : 0 ≤ j.toInt ∧ j.toInt < (ys.length : Nat)) {x : Int32} (hd : decode c.code pc = .ok (.iastore, 1)) :
    ∃ T' h', Stand p l e R s m args below meth c T' (locs ++ [⟨a, j.toInt.toNat⟩]) cells slots ∧ T'.heap = h' ∧ Wr h h' a j.toInt.toNat (.int x) ∧ own_AI Z h' a .int (ys.set j.toInt.toNat x) ∧ ∀ target, Steps p.tables e below (T'.setTop (mkF m (pc + 1) Ls rest)) target → Steps p.tables e below (T.setTop (mkF m pc Ls (.int x :: .int j :: .ref a :: rest))) target := by
  obtain ⟨cl, B, r⟩ := A
  obtain ⟨q1, q2⟩ := own_inb (j := j) r (by simpa using hj)
  obtain ⟨T', h', X', e', W', st⟩ := stI X hx hZ eT B q1 (x := x) (g := mkF m pc Ls (.int x :: .int j :: .ref a :: rest)) rfl rfl hd
  rw [q2] at X' W'
  exact ⟨T', h', X', e', W', by have := own_A.set ⟨cl, B, r⟩ W'; rw [own_AI, List.map_set]; exact this, st⟩
theorem own_bastoreB (X : Stand p l e R s m args below meth c T locs cells slots) (hx : p.tables.exec = Jvm.exec) (hZ : Z.Warmed39 s.vm) (eT : T.heap = h) (A : own_AI Z h a .byte ys) (hj : 0 ≤ j.toInt ∧ j.toInt < (ys.length : Nat)) {x : Int32} (hd : decode c.code pc = .ok (.bastore, 1)) :
    ∃ T' h', Stand p l e R s m args below meth c T' (locs ++ [⟨a, j.toInt.toNat⟩]) cells slots ∧ T'.heap = h' ∧ Wr h h' a j.toInt.toNat (.int x.toInt8.toInt32) ∧ own_AI Z h' a .byte (ys.set j.toInt.toNat x.toInt8.toInt32) ∧ ∀ target, Steps p.tables e below (T'.setTop (mkF m (pc + 1) Ls rest)) target → Steps p.tables e below (T.setTop (mkF m pc Ls (.int x :: .int j :: .ref a :: rest))) target := by
  obtain ⟨cl, B, r⟩ := A
  obtain ⟨q1, q2⟩ := own_inb (j := j) r (by simpa using hj)
  obtain ⟨T', h', X', e', W', st⟩ := stB X hx hZ eT B q1 (x := x) (g := mkF m pc Ls (.int x :: .int j :: .ref a :: rest)) rfl rfl hd
  rw [q2] at X' W'
  exact ⟨T', h', X', e', W', by have := own_A.set ⟨cl, B, r⟩ W'; rw [own_AI, List.map_set]; exact this, st⟩
theorem own_bastoreZ (X : Stand p l e R s m args below meth c T locs cells slots) (hx : p.tables.exec = Jvm.exec) (hZ : Z.Warmed39 s.vm) (eT : T.heap = h) (A : own_AI Z h a .boolean ys) (hj : 0 ≤ j.toInt ∧ j.toInt < (ys.length : Nat)) {x : Int32} (hd : decode c.code pc = .ok (.bastore, 1)) :
    ∃ T' h', Stand p l e R s m args below meth c T' (locs ++ [⟨a, j.toInt.toNat⟩]) cells slots ∧ T'.heap = h' ∧ Wr h h' a j.toInt.toNat (.int (x &&& 1)) ∧ own_AI Z h' a .boolean (ys.set j.toInt.toNat (x &&& 1)) ∧ ∀ target, Steps p.tables e below (T'.setTop (mkF m (pc + 1) Ls rest)) target → Steps p.tables e below (T.setTop (mkF m pc Ls (.int x :: .int j :: .ref a :: rest))) target := by
  obtain ⟨cl, B, r⟩ := A
  obtain ⟨q1, q2⟩ := own_inb (j := j) r (by simpa using hj)
  obtain ⟨T', h', X', e', W', st⟩ := stZ X hx hZ eT B q1 (x := x) (g := mkF m pc Ls (.int x :: .int j :: .ref a :: rest)) rfl rfl hd
  rw [q2] at X' W'
  exact ⟨T', h', X', e', W', by have := own_A.set ⟨cl, B, r⟩ W'; rw [own_AI, List.map_set]; exact this, st⟩
end Loads
end OwnKit
theorem own_bm32 {x : Int} (h1 : -2147483648 ≤ x) (h2 : x < 2147483648) : x.bmod (2 ^ 32) = x := by
  rw [Int.bmod_def]; split <;> omega
theorem own_bm64 {x : Int} (h1 : -9223372036854775808 ≤ x) (h2 : x < 9223372036854775808) : x.bmod (2 ^ 64) = x := by
  rw [Int.bmod_def]; split <;> omega
theorem own_r32 (x : Int32) : -2147483648 ≤ x.toInt ∧ x.toInt < 2147483648 := ⟨x.le_toInt, x.toInt_lt⟩
theorem own_r64 (x : Int64) : -9223372036854775808 ≤ x.toInt ∧ x.toInt < 9223372036854775808 := ⟨x.le_toInt, x.toInt_lt⟩
theorem own_iadd {x y : Int32} (h : -2147483648 ≤ x.toInt + y.toInt ∧ x.toInt + y.toInt < 2147483648) : (x + y).toInt = x.toInt + y.toInt := by rw [Int32.toInt_add]; exact own_bm32 h.1 h.2
theorem own_isub {x y : Int32} (h : -2147483648 ≤ x.toInt - y.toInt ∧ x.toInt - y.toInt < 2147483648) : (x - y).toInt = x.toInt - y.toInt := by rw [Int32.toInt_sub]; exact own_bm32 h.1 h.2
theorem own_imul {x y : Int32} (h : -2147483648 ≤ x.toInt * y.toInt ∧ x.toInt * y.toInt < 2147483648) : (x * y).toInt = x.toInt * y.toInt := by rw [Int32.toInt_mul]; exact own_bm32 h.1 h.2
theorem own_ladd {x y : Int64} (h : -9223372036854775808 ≤ x.toInt + y.toInt ∧ x.toInt + y.toInt < 9223372036854775808) : (x + y).toInt = x.toInt + y.toInt := by rw [Int64.toInt_add]; exact own_bm64 h.1 h.2
theorem own_lsub {x y : Int64} (h : -9223372036854775808 ≤ x.toInt - y.toInt ∧ x.toInt - y.toInt < 9223372036854775808) : (x - y).toInt = x.toInt - y.toInt := by rw [Int64.toInt_sub]; exact own_bm64 h.1 h.2
theorem own_lmul {x y : Int64} (h : -9223372036854775808 ≤ x.toInt * y.toInt ∧ x.toInt * y.toInt < 9223372036854775808) : (x * y).toInt = x.toInt * y.toInt := by rw [Int64.toInt_mul]; exact own_bm64 h.1 h.2
theorem own_i2l (x : Int32) : x.toInt64.toInt = x.toInt := Int32.toInt_toInt64 x
theorem own_l2i {x : Int64} (h : -2147483648 ≤ x.toInt ∧ x.toInt < 2147483648) : x.toInt32.toInt = x.toInt := by rw [Int64.toInt_toInt32]; exact own_bm32 h.1 h.2
theorem own_irem {x y : Int32} (h : 0 ≤ x.toInt) : (x % y).toInt = x.toInt % y.toInt := by rw [Int32.toInt_mod]; exact Int.tmod_eq_emod_of_nonneg h
theorem own_lrem {x y : Int64} (h : 0 ≤ x.toInt) : (x % y).toInt = x.toInt % y.toInt := by rw [Int64.toInt_mod]; exact Int.tmod_eq_emod_of_nonneg h
theorem own_idiv {x y : Int32} (h : 0 ≤ x.toInt) (hy : 0 ≤ y.toInt) : (x / y).toInt = x.toInt / y.toInt := by
  rw [Int32.toInt_div_of_ne_right x y (fun q => by rw [q] at hy; revert hy; decide)]; exact Int.tdiv_eq_ediv_of_nonneg h
theorem own_ldiv {x y : Int64} (h : 0 ≤ x.toInt) (hy : 0 ≤ y.toInt) : (x / y).toInt = x.toInt / y.toInt := by
  rw [Int64.toInt_div_of_ne_right x y (fun q => by rw [q] at hy; revert hy; decide)]; exact Int.tdiv_eq_ediv_of_nonneg h
/-- a mask of k bits -/
theorem own_mask (x m : Int32) (k : Nat) (hk : k ≤ 31) (hm : m.toBitVec.toNat = 2 ^ k - 1) : (x &&& m).toInt = x.toInt % (2 ^ k : Nat) := by
  have hp : 2 ^ k ≤ 2 ^ 31 := Nat.pow_le_pow_right (by decide) hk
  have hp0 : 0 < 2 ^ k := Nat.pow_pos (by decide)
  have e : (x &&& m).toBitVec.toNat = x.toBitVec.toNat % 2 ^ k := by rw [Int32.toBitVec_and, BitVec.toNat_and, hm, Nat.and_two_pow_sub_one_eq_mod]
  have l := Nat.mod_lt x.toBitVec.toNat hp0
  rw [← Int32.toInt_toBitVec, ← Int32.toInt_toBitVec, BitVec.toInt_eq_toNat_cond, e, if_pos (by omega), BitVec.toInt_eq_toNat_cond]
  split
  · simp
  · rename_i q
    have d : (2 ^ k : Nat) ∣ 2 ^ 32 := Nat.pow_dvd_pow 2 (by omega)
    obtain ⟨c, hc⟩ := d
    have hc' : ((2 ^ 32 : Nat) : Int) = ((2 ^ k : Nat) : Int) * (c : Int) := by rw [hc]; simp
    rw [hc', Int.sub_mul_emod_self_left]; simp
theorem own_ushr (x : Int64) (y : Int32) (k : Nat) (hk : (y &&& 0x3f).toInt64.toBitVec.toNat % 64 = k) (h0 : 0 < k) : (((x).toUInt64 >>> (y &&& 0x3f).toInt64.toUInt64).toInt64).toInt = (x.toInt % 18446744073709551616) / (2 ^ k : Nat) := by
  have e : (((x).toUInt64 >>> (y &&& 0x3f).toInt64.toUInt64).toInt64).toBitVec = x.toBitVec >>> k := by rw [← hk]; simp
  have hl := x.toBitVec.isLt
  have hp0 : 0 < 2 ^ k := Nat.pow_pos (by decide)
  have h2 : 2 ^ 1 ≤ 2 ^ k := Nat.pow_le_pow_right (by decide) h0
  have hd : x.toBitVec.toNat / 2 ^ k ≤ x.toBitVec.toNat / 2 := Nat.div_le_div_left h2 (by decide)
  have t : x.toInt % 18446744073709551616 = (x.toBitVec.toNat : Int) := by
    rw [← Int64.toInt_toBitVec, BitVec.toInt_eq_toNat_cond]; split <;> omega
  rw [t, ← Int64.toInt_toBitVec, e, BitVec.toInt_eq_toNat_cond, BitVec.toNat_ushiftRight, Nat.shiftRight_eq_div_pow, if_pos (by omega)]
  simp
theorem own_shl (x : Int64) (y : Int32) (k : Nat) (hk : y.toBitVec.toNat % 64 = k) (h : -9223372036854775808 ≤ x.toInt * (2 ^ k : Nat) ∧ x.toInt * (2 ^ k : Nat) < 9223372036854775808) : (x <<< (y &&& 0x3f).toInt64).toInt = x.toInt * (2 ^ k : Nat) := by
  have q := c_lshl x y k hk
  have r := own_r64 (x <<< (y &&& 0x3f).toInt64)
  generalize x.toInt * (2 ^ k : Nat) = z at *
  omega
theorem own_nzL {x : Int32} (h : ¬ x = 0) : ¬ x.toInt64 = 0 := fun q => h (Int32.toInt_inj.mp (by rw [← own_i2l, q]; rfl))
theorem own_nzP {x : Int32} (h : 1 ≤ x.toInt) : ¬ x = 0 := fun q => by rw [q] at h; revert h; decide
theorem own_fA {t n : Int32} {k : Int} (h : t < n) (q : n.toInt - 1 = k) : t.toInt ≤ k := by rw [Int32.lt_iff_toInt_lt] at h; omega
theorem own_fB {t n : Int32} {k : Int} (h : ¬ n < t) (q : n.toInt = k) : t.toInt ≤ k := by rw [Int32.lt_iff_toInt_lt] at h; omega
theorem own_fC {t n : Int32} {k : Int} (h : n < t) (q : n.toInt + 1 = k) : k ≤ t.toInt := by rw [Int32.lt_iff_toInt_lt] at h; omega
theorem own_fD {t n : Int32} {k : Int} (h : ¬ t < n) (q : n.toInt = k) : k ≤ t.toInt := by rw [Int32.lt_iff_toInt_lt] at h; omega
theorem own_fE {t n : Int32} {k : Int} (h : t = n) (q : n.toInt = k) : t.toInt ≤ k := by rw [h]; omega
theorem own_fF {t n : Int32} {k : Int} (h : t = n) (q : n.toInt = k) : k ≤ t.toInt := by rw [h]; omega
theorem own_g1 {t m : Int32} {k : Int} (h : t.toInt ≤ k) (q : k < m.toInt) : t < m := by rw [Int32.lt_iff_toInt_lt]; omega
theorem own_g2 {t m : Int32} {k : Int} (h : t.toInt ≤ k) (q : k ≤ m.toInt) : ¬ m < t := by rw [Int32.lt_iff_toInt_lt]; omega
theorem own_g3 {t m : Int32} {k : Int} (h : t.toInt ≤ k) (q : k < m.toInt) : ¬ t = m := fun e => by rw [e] at h; omega
theorem own_g4 {t m : Int32} {k : Int} (h : k ≤ t.toInt) (q : m.toInt ≤ k) : ¬ t < m := by rw [Int32.lt_iff_toInt_lt]; omega
theorem own_g5 {t m : Int32} {k : Int} (h : k ≤ t.toInt) (q : m.toInt < k) : m < t := by rw [Int32.lt_iff_toInt_lt]; omega
theorem own_g6 {t m : Int32} {k : Int} (h : k ≤ t.toInt) (q : m.toInt < k) : ¬ t = m := fun e => by rw [e] at h; omega
theorem own_g7 {t m : Int32} {k : Int} (h : k ≤ t.toInt) (h' : t.toInt ≤ k) (q : m.toInt = k) : t = m := Int32.toInt_inj.mp (by omega)
theorem own_ne {x n : Int32} {k : Int} (h : ¬ x = n) (q : n.toInt = k) : k ≠ x.toInt := fun e => h (Int32.toInt_inj.mp (by omega))
theorem own_gs1 {α : Type} (xs : List α) (n : Nat) (v d : α) (h : n < xs.length) : (xs.set n v).getD n d = v := by simp [List.getD, h]
theorem own_gs2 {α : Type} (xs : List α) (n j : Nat) (v d : α) (h : n ≠ j) : (xs.set n v).getD j d = xs.getD j d := by simp [List.getD, List.getElem?_set, h]
theorem d1_0 : decode jdk_29_method_65_code 0 = .ok (.iload_n 0, 1) := by decide +kernel
theorem d1_1 : decode jdk_29_method_65_code 1 = .ok (.iload_n 1, 1) := by decide +kernel
theorem d1_2 : decode jdk_29_method_65_code 2 = .ok (.if_icmp .lt 7, 3) := by decide +kernel
theorem d1_5 : decode jdk_29_method_65_code 5 = .ok (.iload_n 0, 1) := by decide +kernel
theorem d1_6 : decode jdk_29_method_65_code 6 = .ok (.goto 4, 3) := by decide +kernel
theorem d1_9 : decode jdk_29_method_65_code 9 = .ok (.iload_n 1, 1) := by decide +kernel
theorem d1_10 : decode jdk_29_method_65_code 10 = .ok (.ireturn, 1) := by decide +kernel
theorem ef_1 (m : MethodId) (q0 : Int32) (q1 : Int32) : entryFrame m #[(.int q0), (.int q1)] 2 = mkF m 0 #[.val (.int q0), .val (.int q1)] [] := by first | (simp [entryFrame, mkF, argsToLocals, Value.category, maxLocals]; done) | rfl
def own_f1 (q0 : Int32) (q1 : Int32) : Int32 := (if q0 < q1 then q1 else q0)
def Q1 (Z : State) (q0 : Int32) (q1 : Int32)  (h0 : Heap) (n0 : Nat) (v : Option Value) (h : Heap) (L : List Loc) : Prop := v = some (.int (own_f1 q0 q1)) ∧ Fr n0 L ∧ h = h0
set_option maxRecDepth 65536 in
set_option maxHeartbeats 40000000 in
theorem rm1 (l : Launch) (Z : State) (a0 : Array Value) (hw : ∀ d ∈ tables_1, d.before a0 Z = true) (ws : List Jvm.Cond) (q0 : Int32) (q1 : Int32)  (h0 : Heap) (n0 : Nat) (Z0 : n0 ≤ h0.size)  :
    MetFree l (⟨"java/lang/Math", "max", "(II)I"⟩ : MethodName) (head1 (Jvm.Cond.code (⟨"java/lang/Math", "max", "(II)I"⟩ : MethodName) jdk_29_method_65_code 2 (some .int) :: ws) ({ frames := 0, cells := 0, slots := 0, locals := 0 } : Room)) (fun a U => a = #[(.int q0), (.int q1)] ∧ Z.Warmed39 U.vm ∧ U.heap = h0) (fun _ _ _ _ _ => True) (fun _ U o U' => ∃ v L, o = .returned v ∧ Q1 Z q0 q1 h0 n0 v U'.heap L ∧ FrameEnd U o U' L ({ frames := 0, cells := 0, slots := 0, locals := 0 } : Room).cells ({ frames := 0, cells := 0, slots := 0, locals := 0 } : Room).slots) := by
  refine MetFree.of_bodySF (Jvm.Free.JP.mathPlain rfl (by decide +kernel)) hisR ?_
  intro p e s m args below meth c s₁ Bd hml0 hP hK
  obtain ⟨rfl, hZ, hh⟩ := hP
  have hx := Bd.exec
  have hby := Bd.bytes
  have hml : c.maxLocals = 2 := hml0
  have hown : s.vm.findClass "java/lang/Math" = some m.cls := findClass_of_methodNamed Bd.named
  have hnm := (name_of_methodNamed Bd.named Bd.method).1
  have X0 : Stand p l e ({ frames := 0, cells := 0, slots := 0, locals := 0 } : Room) s m #[(.int q0), (.int q1)] below meth c s₁ [] 0 0 := Stand.of_body Bd
  have hlk : meth.locks = false := by first | exact BodyLoose.notSynchronized (by assumption) | exact Body.notSynchronized (by assumption)
  have e0 : s₁.heap = h0 := by rw [← hh, Bd.state]; rfl
  have N0 := Fr.nil n0
  have pre0 : ∀ t, Steps p.tables e below (s₁.setTop (mkF m 0 #[.val (.int q0), .val (.int q1)] [])) t → Steps p.tables e below (s₁.setTop (entryFrame m #[(.int q0), (.int q1)] 2)) t := fun t k => castTop (ef_1 m q0 q1) k
  have pre1 : ∀ t, Steps p.tables e below (s₁.setTop (mkF m 2 #[.val (.int q0), .val (.int q1)] [(.int q1), (.int q0)])) t → Steps p.tables e below (s₁.setTop (entryFrame m #[(.int q0), (.int q1)] 2)) t := by
    intro t k
    refine pre0 t ?_
    show Steps p.tables e below (s₁.setTop (mkF m 0 #[.val (.int q0), .val (.int q1)] [])) _
    refine XS.iloadN X0.here hx rfl (hb hby d1_0) rfl ?_
    show Steps p.tables e below (s₁.setTop (mkF m 1 #[.val (.int q0), .val (.int q1)] [(.int q0)])) _
    refine XS.iloadN X0.here hx rfl (hb hby d1_1) rfl ?_
    exact k
  by_cases c2 : q0 < q1
  · obtain ⟨fs, hr, hrun, hended, hW, hsame⟩ := X0.leave (v := some (.int q1)) (fun h => by rw [Bd.returns] at h; cases h) hlk
    refine ⟨_, _, pre1 _ ?_, hrun, hended, _, _, rfl, ?_, ⟨_, rfl⟩, hW, hsame.mono (by decide) (by decide)⟩
    · show Steps p.tables e below (s₁.setTop (mkF m 2 #[.val (.int q0), .val (.int q1)] [(.int q1), (.int q0)])) _
      refine XS.icmpYes X0.here hx rfl (pc0 := 2) (pc' := 9) rfl (hb hby d1_2) rfl ((tlt c2).1) (by decide) (by decide) ?_
      show Steps p.tables e below (s₁.setTop (mkF m 9 #[.val (.int q0), .val (.int q1)] [])) _
      refine XS.iloadN X0.here hx rfl (hb hby d1_9) rfl ?_
      show Steps p.tables e below (s₁.setTop (mkF m 10 #[.val (.int q0), .val (.int q1)] [(.int q1)])) _
      exact retI X0 hx Bd.returns (hb hby d1_10) hr
    · show Q1 Z q0 q1 h0 n0 _ s₁.heap _
      rw [e0]
      exact ⟨by simp only [own_f1, if_pos c2], N0, rfl⟩
  · obtain ⟨fs, hr, hrun, hended, hW, hsame⟩ := X0.leave (v := some (.int q0)) (fun h => by rw [Bd.returns] at h; cases h) hlk
    refine ⟨_, _, pre1 _ ?_, hrun, hended, _, _, rfl, ?_, ⟨_, rfl⟩, hW, hsame.mono (by decide) (by decide)⟩
    · show Steps p.tables e below (s₁.setTop (mkF m 2 #[.val (.int q0), .val (.int q1)] [(.int q1), (.int q0)])) _
      refine XS.icmpNo X0.here hx rfl (hb hby d1_2) rfl ((flt c2).1) ?_
      show Steps p.tables e below (s₁.setTop (mkF m 5 #[.val (.int q0), .val (.int q1)] [])) _
      refine XS.iloadN X0.here hx rfl (hb hby d1_5) rfl ?_
      show Steps p.tables e below (s₁.setTop (mkF m 6 #[.val (.int q0), .val (.int q1)] [(.int q0)])) _
      refine XS.goto X0.here hx rfl (pc0 := 6) (pc' := 10) rfl (hb hby d1_6) (by decide) (by decide) ?_
      show Steps p.tables e below (s₁.setTop (mkF m 10 #[.val (.int q0), .val (.int q1)] [(.int q0)])) _
      exact retI X0 hx Bd.returns (hb hby d1_10) hr
    · show Q1 Z q0 q1 h0 n0 _ s₁.heap _
      rw [e0]
      exact ⟨by simp only [own_f1, if_neg c2], N0, rfl⟩
theorem own_big (q1 : Int32) : 1 ≤ (own_f1 1 (q1 &&& 2147483647)).toInt := by
  have a := own_mask q1 2147483647 31 (by decide) (by decide)
  have o1 : (1 : Int32).toInt = 1 := by decide
  simp only [own_f1, Int32.lt_iff_toInt_lt]
  split <;> omega
theorem own_small (q1 : Int32) : 1 ≤ ((q1 &&& 7) + 1).toInt := by
  have a := own_mask q1 7 3 (by decide) (by decide)
  have o1 : (1 : Int32).toInt = 1 := by decide
  have r := own_iadd (x := q1 &&& 7) (y := 1) (by omega)
  omega
theorem own_ge1 {v q : Int32} (h : v = own_f1 1 (q &&& 2147483647) ∨ v = (q &&& 7) + 1) : 1 ≤ v.toInt := by
  rcases h with rfl | rfl
  · exact own_big q
  · exact own_small q

theorem d2_0 : decode prog_6_method_10_code 0 = .ok (.iload_n 0, 1) := by decide +kernel
theorem d2_1 : decode prog_6_method_10_code 1 = .ok (.i2l, 1) := by decide +kernel
theorem d2_2 : decode prog_6_method_10_code 2 = .ok (.iload_n 1, 1) := by decide +kernel
theorem d2_3 : decode prog_6_method_10_code 3 = .ok (.i2l, 1) := by decide +kernel
theorem d2_4 : decode prog_6_method_10_code 4 = .ok (.ladd, 1) := by decide +kernel
theorem d2_5 : decode prog_6_method_10_code 5 = .ok (.lconst 1, 1) := by decide +kernel
theorem d2_6 : decode prog_6_method_10_code 6 = .ok (.lsub, 1) := by decide +kernel
theorem d2_7 : decode prog_6_method_10_code 7 = .ok (.iload_n 1, 1) := by decide +kernel
theorem d2_8 : decode prog_6_method_10_code 8 = .ok (.i2l, 1) := by decide +kernel
theorem d2_9 : decode prog_6_method_10_code 9 = .ok (.ldiv, 1) := by decide +kernel
theorem d2_10 : decode prog_6_method_10_code 10 = .ok (.l2i, 1) := by decide +kernel
theorem d2_11 : decode prog_6_method_10_code 11 = .ok (.ireturn, 1) := by decide +kernel
theorem pn_2 : plainName "com/example/displace/displace/Chd" = true := by first | (simp [plainName, overriddenIn]; done) | decide +kernel
theorem ef_2 (m : MethodId) (q0 : Int32) (q1 : Int32) : entryFrame m #[(.int q0), (.int q1)] 2 = mkF m 0 #[.val (.int q0), .val (.int q1)] [] := by first | (simp [entryFrame, mkF, argsToLocals, Value.category, maxLocals]; done) | rfl
def own_f2 (q0 : Int32) (q1 : Int32) : Int32 := (((((q0).toInt64 + (q1).toInt64) - (1 : Int64)) / (q1).toInt64)).toInt32
def Q2 (Z : State) (q0 : Int32) (q1 : Int32)  (h0 : Heap) (n0 : Nat) (v : Option Value) (h : Heap) (L : List Loc) : Prop := v = some (.int (own_f2 q0 q1)) ∧ Fr n0 L ∧ h = h0
set_option maxRecDepth 65536 in
set_option maxHeartbeats 40000000 in
theorem rm2 (l : Launch) (Z : State) (a0 : Array Value) (hw : ∀ d ∈ tables_1, d.before a0 Z = true) (ws : List Jvm.Cond) (q0 : Int32) (q1 : Int32)  (h0 : Heap) (n0 : Nat) (Z0 : n0 ≤ h0.size) (hq : 1 ≤ (q1).toInt) :
    MetFree l (⟨"com/example/displace/displace/Chd", "bucketCount", "(II)I"⟩ : MethodName) (head1 (Jvm.Cond.code (⟨"com/example/displace/displace/Chd", "bucketCount", "(II)I"⟩ : MethodName) prog_6_method_10_code 2 (some .int) :: ws) ({ frames := 0, cells := 0, slots := 0, locals := 0 } : Room)) (fun a U => a = #[(.int q0), (.int q1)] ∧ Z.Warmed39 U.vm ∧ U.heap = h0) (fun _ _ _ _ _ => True) (fun _ U o U' => ∃ v L, o = .returned v ∧ Q2 Z q0 q1 h0 n0 v U'.heap L ∧ FrameEnd U o U' L ({ frames := 0, cells := 0, slots := 0, locals := 0 } : Room).cells ({ frames := 0, cells := 0, slots := 0, locals := 0 } : Room).slots) := by
  refine MetFree.of_bodySF (plainFor_of_name pn_2) hisR ?_
  intro p e s m args below meth c s₁ Bd hml0 hP hK
  obtain ⟨rfl, hZ, hh⟩ := hP
  have hx := Bd.exec
  have hby := Bd.bytes
  have hml : c.maxLocals = 2 := hml0
  have hown : s.vm.findClass "com/example/displace/displace/Chd" = some m.cls := findClass_of_methodNamed Bd.named
  have hnm := (name_of_methodNamed Bd.named Bd.method).1
  have X0 : Stand p l e ({ frames := 0, cells := 0, slots := 0, locals := 0 } : Room) s m #[(.int q0), (.int q1)] below meth c s₁ [] 0 0 := Stand.of_body Bd
  have hlk : meth.locks = false := by first | exact BodyLoose.notSynchronized (by assumption) | exact Body.notSynchronized (by assumption)
  have e0 : s₁.heap = h0 := by rw [← hh, Bd.state]; rfl
  have N0 := Fr.nil n0
  have pre0 : ∀ t, Steps p.tables e below (s₁.setTop (mkF m 0 #[.val (.int q0), .val (.int q1)] [])) t → Steps p.tables e below (s₁.setTop (entryFrame m #[(.int q0), (.int q1)] 2)) t := fun t k => castTop (ef_2 m q0 q1) k
  have nz_9_1 : ¬ ((q1).toInt64 = (0 : Int64)) := (own_nzL (own_nzP hq))
  obtain ⟨fs, hr, hrun, hended, hW, hsame⟩ := X0.leave (v := some (.int (((((q0).toInt64 + (q1).toInt64) - (1 : Int64)) / (q1).toInt64)).toInt32)) (fun h => by rw [Bd.returns] at h; cases h) hlk
  refine ⟨_, _, pre0 _ ?_, hrun, hended, _, _, rfl, ?_, ⟨_, rfl⟩, hW, hsame.mono (by decide) (by decide)⟩
  · show Steps p.tables e below (s₁.setTop (mkF m 0 #[.val (.int q0), .val (.int q1)] [])) _
    refine XS.iloadN X0.here hx rfl (hb hby d2_0) rfl ?_
    show Steps p.tables e below (s₁.setTop (mkF m 1 #[.val (.int q0), .val (.int q1)] [(.int q0)])) _
    refine XS.i2l X0.here hx rfl (hb hby d2_1) rfl ?_
    show Steps p.tables e below (s₁.setTop (mkF m 2 #[.val (.int q0), .val (.int q1)] [(.long (q0).toInt64)])) _
    refine XS.iloadN X0.here hx rfl (hb hby d2_2) rfl ?_
    show Steps p.tables e below (s₁.setTop (mkF m 3 #[.val (.int q0), .val (.int q1)] [(.int q1), (.long (q0).toInt64)])) _
    refine XS.i2l X0.here hx rfl (hb hby d2_3) rfl ?_
    show Steps p.tables e below (s₁.setTop (mkF m 4 #[.val (.int q0), .val (.int q1)] [(.long (q1).toInt64), (.long (q0).toInt64)])) _
    refine XS.ladd X0.here hx rfl (hb hby d2_4) rfl ?_
    show Steps p.tables e below (s₁.setTop (mkF m 5 #[.val (.int q0), .val (.int q1)] [(.long ((q0).toInt64 + (q1).toInt64))])) _
    refine XS.lconst X0.here hx rfl (hb hby d2_5) ?_
    show Steps p.tables e below (s₁.setTop (mkF m 6 #[.val (.int q0), .val (.int q1)] [(.long (1 : Int64)), (.long ((q0).toInt64 + (q1).toInt64))])) _
    refine XS.lsub X0.here hx rfl (hb hby d2_6) rfl ?_
    show Steps p.tables e below (s₁.setTop (mkF m 7 #[.val (.int q0), .val (.int q1)] [(.long (((q0).toInt64 + (q1).toInt64) - (1 : Int64)))])) _
    refine XS.iloadN X0.here hx rfl (hb hby d2_7) rfl ?_
    show Steps p.tables e below (s₁.setTop (mkF m 8 #[.val (.int q0), .val (.int q1)] [(.int q1), (.long (((q0).toInt64 + (q1).toInt64) - (1 : Int64)))])) _
    refine XS.i2l X0.here hx rfl (hb hby d2_8) rfl ?_
    show Steps p.tables e below (s₁.setTop (mkF m 9 #[.val (.int q0), .val (.int q1)] [(.long (q1).toInt64), (.long (((q0).toInt64 + (q1).toInt64) - (1 : Int64)))])) _
    refine XS.ldiv X0.here hx rfl (hb hby d2_9) rfl nz_9_1 ?_
    show Steps p.tables e below (s₁.setTop (mkF m 10 #[.val (.int q0), .val (.int q1)] [(.long ((((q0).toInt64 + (q1).toInt64) - (1 : Int64)) / (q1).toInt64))])) _
    refine XS.l2i X0.here hx rfl (hb hby d2_10) rfl ?_
    show Steps p.tables e below (s₁.setTop (mkF m 11 #[.val (.int q0), .val (.int q1)] [(.int (((((q0).toInt64 + (q1).toInt64) - (1 : Int64)) / (q1).toInt64)).toInt32)])) _
    exact retI X0 hx Bd.returns (hb hby d2_11) hr
  · show Q2 Z q0 q1 h0 n0 _ s₁.heap _
    rw [e0]
    exact ⟨by rfl, N0, rfl⟩
theorem pn_3 : plainName "com/example/displace/displace/ChdBucketCountPinLaw" = true := by first | (simp [plainName, overriddenIn]; done) | decide +kernel
theorem ef_0 (m : MethodId) (q0 : Int32) (q1 : Int32) (q2 : Int32) : entryFrame m #[(.int q0), (.int q1), (.int q2)] maxLocals = mkF m 0 #[.val (.int q0), .val (.int q1), .val (.int q2), .unset, .unset, .unset, .unset, .unset, .unset, .unset] [] := by first | (simp [entryFrame, mkF, argsToLocals, Value.category, maxLocals]; done) | rfl
theorem pd_4 : parseMethodDescriptor "(II)I" = some ⟨[.int, .int], some .int⟩ := by decide +kernel
def own_f0 (q0 : Int32) (q1 : Int32) (q2 : Int32) : Int32 := (if (q2 &&& (2 : Int32)) = (0 : Int32) then let v3 := (q0 &&& (2147483647 : Int32))
  (if (q2 &&& (1 : Int32)) = (0 : Int32) then let v8 := (own_f1 ((1 : Int32)) ((q1 &&& (2147483647 : Int32))))
  let v11 := (own_f2 v3 v8)
  let v13 := ((v11).toInt64 * (v8).toInt64)
  let v15 := (((v11).toInt64 - (1 : Int64)) * (v8).toInt64)
  (if v13 < (v3).toInt64 then (0 : Int32) else (if v15 < (v3).toInt64 then (1 : Int32) else (0 : Int32))) else let v21 := ((q1 &&& (7 : Int32)) + (1 : Int32))
  let v24 := (own_f2 v3 v21)
  let v26 := ((v24).toInt64 * (v21).toInt64)
  let v28 := (((v24).toInt64 - (1 : Int64)) * (v21).toInt64)
  (if v26 < (v3).toInt64 then (0 : Int32) else (if v28 < (v3).toInt64 then (1 : Int32) else (0 : Int32)))) else let v34 := (q0 &&& (63 : Int32))
  (if (q2 &&& (1 : Int32)) = (0 : Int32) then let v39 := (own_f1 ((1 : Int32)) ((q1 &&& (2147483647 : Int32))))
  let v42 := (own_f2 v34 v39)
  let v44 := ((v42).toInt64 * (v39).toInt64)
  let v46 := (((v42).toInt64 - (1 : Int64)) * (v39).toInt64)
  (if v44 < (v34).toInt64 then (0 : Int32) else (if v46 < (v34).toInt64 then (1 : Int32) else (0 : Int32))) else let v52 := ((q1 &&& (7 : Int32)) + (1 : Int32))
  let v55 := (own_f2 v34 v52)
  let v57 := ((v55).toInt64 * (v52).toInt64)
  let v59 := (((v55).toInt64 - (1 : Int64)) * (v52).toInt64)
  (if v57 < (v34).toInt64 then (0 : Int32) else (if v59 < (v34).toInt64 then (1 : Int32) else (0 : Int32)))))
def Q0 (Z : State) (q0 : Int32) (q1 : Int32) (q2 : Int32)  (h0 : Heap) (n0 : Nat) (v : Option Value) (h : Heap) (L : List Loc) : Prop := v = some (.int (own_f0 q0 q1 q2)) ∧ Fr n0 L
set_option maxRecDepth 65536 in
set_option maxHeartbeats 40000000 in
theorem rm0 (l : Launch) (Z : State) (a0 : Array Value) (hw : ∀ d ∈ tables_1, d.before a0 Z = true) (ws : List Jvm.Cond) (q0 : Int32) (q1 : Int32) (q2 : Int32)  (h0 : Heap) (n0 : Nat) (Z0 : n0 ≤ h0.size)  :
    MetFree l x (head1 (Jvm.Cond.code x code maxLocals ret :: ws) room_1) (fun a U => a = #[(.int q0), (.int q1), (.int q2)] ∧ Z.Warmed39 U.vm ∧ U.heap = h0) (fun _ _ _ _ _ => True) (fun _ U o U' => ∃ v L, o = .returned v ∧ Q0 Z q0 q1 q2 h0 n0 v U'.heap L ∧ FrameEnd U o U' L room_1.cells room_1.slots) := by
  refine MetFree.of_bodySF (plainFor_of_name pn_3) hisR ?_
  intro p e s m args below meth c s₁ Bd hml0 hP hK
  obtain ⟨rfl, hZ, hh⟩ := hP
  have hx := Bd.exec
  have hby := Bd.bytes
  have hml : c.maxLocals = 10 := hml0
  have hown : s.vm.findClass "com/example/displace/displace/ChdBucketCountPinLaw" = some m.cls := findClass_of_methodNamed Bd.named
  have hnm := (name_of_methodNamed Bd.named Bd.method).1
  have X0 : Stand p l e room_1 s m #[(.int q0), (.int q1), (.int q2)] below meth c s₁ [] 0 0 := Stand.of_body Bd
  have hlk : meth.locks = false := by first | exact BodyLoose.notSynchronized (by assumption) | exact Body.notSynchronized (by assumption)
  have e0 : s₁.heap = h0 := by rw [← hh, Bd.state]; rfl
  have N0 := Fr.nil n0
  have pre0 : ∀ t, Steps p.tables e below (s₁.setTop (mkF m 0 #[.val (.int q0), .val (.int q1), .val (.int q2), .unset, .unset, .unset, .unset, .unset, .unset, .unset] [])) t → Steps p.tables e below (s₁.setTop (entryFrame m #[(.int q0), (.int q1), (.int q2)] maxLocals)) t := fun t k => castTop (ef_0 m q0 q1 q2) k
  have pre1 : ∀ t, Steps p.tables e below (s₁.setTop (mkF m 3 #[.val (.int q0), .val (.int q1), .val (.int q2), .unset, .unset, .unset, .unset, .unset, .unset, .unset] [(.int (q2 &&& (2 : Int32)))])) t → Steps p.tables e below (s₁.setTop (entryFrame m #[(.int q0), (.int q1), (.int q2)] maxLocals)) t := by
    intro t k
    refine pre0 t ?_
    show Steps p.tables e below (s₁.setTop (mkF m 0 #[.val (.int q0), .val (.int q1), .val (.int q2), .unset, .unset, .unset, .unset, .unset, .unset, .unset] [])) _
    refine XS.iloadN X0.here hx rfl (hb hby at_0) rfl ?_
    show Steps p.tables e below (s₁.setTop (mkF m 1 #[.val (.int q0), .val (.int q1), .val (.int q2), .unset, .unset, .unset, .unset, .unset, .unset, .unset] [(.int q2)])) _
    refine XS.iconst X0.here hx rfl (hb hby at_1) ?_
    show Steps p.tables e below (s₁.setTop (mkF m 2 #[.val (.int q0), .val (.int q1), .val (.int q2), .unset, .unset, .unset, .unset, .unset, .unset, .unset] [(.int (2 : Int32)), (.int q2)])) _
    refine XS.iand X0.here hx rfl (hb hby at_2) rfl ?_
    exact k
  by_cases c2 : (q2 &&& (2 : Int32)) = (0 : Int32)
  · obtain ⟨v3, hv3⟩ : ∃ z : Int32, z = (q0 &&& (2147483647 : Int32)) := ⟨_, rfl⟩
    have pre4 : ∀ t, Steps p.tables e below (s₁.setTop (mkF m 17 #[.val (.int q0), .val (.int q1), .val (.int q2), .unset, .unset, .unset, .unset, .unset, .unset, .unset] [(.int v3)])) t → Steps p.tables e below (s₁.setTop (entryFrame m #[(.int q0), (.int q1), (.int q2)] maxLocals)) t := by
      rw [hv3]
      intro t k
      refine pre1 t ?_
      show Steps p.tables e below (s₁.setTop (mkF m 3 #[.val (.int q0), .val (.int q1), .val (.int q2), .unset, .unset, .unset, .unset, .unset, .unset, .unset] [(.int (q2 &&& (2 : Int32)))])) _
      refine XS.ifYes X0.here hx rfl (pc0 := 3) (pc' := 13) rfl (hb hby at_3) rfl ((if0 _ _).trans (teq c2).1) (by decide) (by decide) ?_
      show Steps p.tables e below (s₁.setTop (mkF m 13 #[.val (.int q0), .val (.int q1), .val (.int q2), .unset, .unset, .unset, .unset, .unset, .unset, .unset] [])) _
      refine XS.iloadN X0.here hx rfl (hb hby at_13) rfl ?_
      show Steps p.tables e below (s₁.setTop (mkF m 14 #[.val (.int q0), .val (.int q1), .val (.int q2), .unset, .unset, .unset, .unset, .unset, .unset, .unset] [(.int q0)])) _
      refine X0.ldcInt hx hown (mvT hZ (hw _ (List.mem_of_getElem? (i := 0) rfl))) (g := (mkF m 14 #[.val (.int q0), .val (.int q1), .val (.int q2), .unset, .unset, .unset, .unset, .unset, .unset, .unset] [(.int q0)])) rfl (hb hby at_14) _ ?_
      show Steps p.tables e below (s₁.setTop (mkF m 16 #[.val (.int q0), .val (.int q1), .val (.int q2), .unset, .unset, .unset, .unset, .unset, .unset, .unset] [(.int (2147483647 : Int32)), (.int q0)])) _
      refine XS.iand X0.here hx rfl (hb hby at_16) rfl ?_
      exact k
    have pre5 : ∀ t, Steps p.tables e below (s₁.setTop (mkF m 21 #[.val (.int q0), .val (.int q1), .val (.int q2), .val (.int v3), .unset, .unset, .unset, .unset, .unset, .unset] [(.int (q2 &&& (1 : Int32)))])) t → Steps p.tables e below (s₁.setTop (entryFrame m #[(.int q0), (.int q1), (.int q2)] maxLocals)) t := by
      intro t k
      refine pre4 t ?_
      show Steps p.tables e below (s₁.setTop (mkF m 17 #[.val (.int q0), .val (.int q1), .val (.int q2), .unset, .unset, .unset, .unset, .unset, .unset, .unset] [(.int v3)])) _
      refine XS.istoreN X0.here hx rfl (hb hby at_17) rfl (l' := #[.val (.int q0), .val (.int q1), .val (.int q2), .val (.int v3), .unset, .unset, .unset, .unset, .unset, .unset]) rfl ?_
      show Steps p.tables e below (s₁.setTop (mkF m 18 #[.val (.int q0), .val (.int q1), .val (.int q2), .val (.int v3), .unset, .unset, .unset, .unset, .unset, .unset] [])) _
      refine XS.iloadN X0.here hx rfl (hb hby at_18) rfl ?_
      show Steps p.tables e below (s₁.setTop (mkF m 19 #[.val (.int q0), .val (.int q1), .val (.int q2), .val (.int v3), .unset, .unset, .unset, .unset, .unset, .unset] [(.int q2)])) _
      refine XS.iconst X0.here hx rfl (hb hby at_19) ?_
      show Steps p.tables e below (s₁.setTop (mkF m 20 #[.val (.int q0), .val (.int q1), .val (.int q2), .val (.int v3), .unset, .unset, .unset, .unset, .unset, .unset] [(.int (1 : Int32)), (.int q2)])) _
      refine XS.iand X0.here hx rfl (hb hby at_20) rfl ?_
      exact k
    by_cases c6 : (q2 &&& (1 : Int32)) = (0 : Int32)
    · obtain ⟨_, _, ⟨T7, L7, k7, n7⟩, -, X7, ⟨Lc7, hQ7, l7, y7, z7⟩, st7⟩ := Jvm.LawKit.callS X0 hx (y := (⟨"java/lang/Math", "max", "(II)I"⟩ : MethodName)) hown (mvT hZ (hw _ (List.mem_of_getElem? (i := 1) rfl))) (mvT hZ (hw _ (List.mem_of_getElem? (i := 2) rfl))) (mvT hZ (hw _ (List.mem_of_getElem? (i := 3) rfl))) (mvT hZ (hw _ (List.mem_of_getElem? (i := 4) rfl))) (by decide) (backOf (W := 0) (rm1 l Z a0 hw [] (1 : Int32) (q1 &&& (2147483647 : Int32))  h0 n0 Z0 ) hZ (hw _ (List.mem_of_getElem? (i := 4) rfl)) (hw _ (List.mem_of_getElem? (i := 3) rfl)) (by decide) (by decide)) (g := (mkF m 38 #[.val (.int q0), .val (.int q1), .val (.int q2), .val (.int v3), .unset, .unset, .unset, .unset, .unset, .unset] [(.int (q1 &&& (2147483647 : Int32))), (.int (1 : Int32))])) rfl (by rw [hml]; rfl) (argsL := [(.int (1 : Int32)), (.int (q1 &&& (2147483647 : Int32)))]) (rest := []) (lenOf pd_4 rfl) rfl (by show 2 * 0 + _ ≤ _; exact Nat.le_of_eq rfl) (hb hby at_38) (fun _ _ => ⟨rfl, e0, (by decide : 0 + 0 ≤ _), (by decide : 0 + 0 ≤ _)⟩)
      dsimp only [Pt.U, Pt.locs, Pt.cells, Pt.slots] at X7 l7 y7 z7 st7 hQ7
      subst l7 y7 z7
      obtain ⟨rfl, N7q, e7⟩ := hQ7
      have N7 := Fr.app N0 N7q
      obtain ⟨v8, hv8⟩ : ∃ z : Int32, z = (own_f1 ((1 : Int32)) ((q1 &&& (2147483647 : Int32)))) := ⟨_, rfl⟩
      have pre9 : ∀ t, Steps p.tables e below (T7.setTop (mkF m 41 #[.val (.int q0), .val (.int q1), .val (.int q2), .val (.int v3), .unset, .unset, .unset, .unset, .unset, .unset] [(.int v8)])) t → Steps p.tables e below (s₁.setTop (entryFrame m #[(.int q0), (.int q1), (.int q2)] maxLocals)) t := by
        rw [hv8]
        intro t k
        refine pre5 t ?_
        show Steps p.tables e below (s₁.setTop (mkF m 21 #[.val (.int q0), .val (.int q1), .val (.int q2), .val (.int v3), .unset, .unset, .unset, .unset, .unset, .unset] [(.int (q2 &&& (1 : Int32)))])) _
        refine XS.ifYes X0.here hx rfl (pc0 := 21) (pc' := 33) rfl (hb hby at_21) rfl ((if0 _ _).trans (teq c6).1) (by decide) (by decide) ?_
        show Steps p.tables e below (s₁.setTop (mkF m 33 #[.val (.int q0), .val (.int q1), .val (.int q2), .val (.int v3), .unset, .unset, .unset, .unset, .unset, .unset] [])) _
        refine XS.iconst X0.here hx rfl (hb hby at_33) ?_
        show Steps p.tables e below (s₁.setTop (mkF m 34 #[.val (.int q0), .val (.int q1), .val (.int q2), .val (.int v3), .unset, .unset, .unset, .unset, .unset, .unset] [(.int (1 : Int32))])) _
        refine XS.iloadN X0.here hx rfl (hb hby at_34) rfl ?_
        show Steps p.tables e below (s₁.setTop (mkF m 35 #[.val (.int q0), .val (.int q1), .val (.int q2), .val (.int v3), .unset, .unset, .unset, .unset, .unset, .unset] [(.int q1), (.int (1 : Int32))])) _
        refine X0.ldcInt hx hown (mvT hZ (hw _ (List.mem_of_getElem? (i := 0) rfl))) (g := (mkF m 35 #[.val (.int q0), .val (.int q1), .val (.int q2), .val (.int v3), .unset, .unset, .unset, .unset, .unset, .unset] [(.int q1), (.int (1 : Int32))])) rfl (hb hby at_35) _ ?_
        show Steps p.tables e below (s₁.setTop (mkF m 37 #[.val (.int q0), .val (.int q1), .val (.int q2), .val (.int v3), .unset, .unset, .unset, .unset, .unset, .unset] [(.int (2147483647 : Int32)), (.int q1), (.int (1 : Int32))])) _
        refine XS.iand X0.here hx rfl (hb hby at_37) rfl ?_
        show Steps p.tables e below (s₁.setTop (mkF m 38 #[.val (.int q0), .val (.int q1), .val (.int q2), .val (.int v3), .unset, .unset, .unset, .unset, .unset, .unset] [(.int (q1 &&& (2147483647 : Int32))), (.int (1 : Int32))])) _
        refine st7 _ ?_
        exact k
      obtain ⟨_, _, ⟨T10, L10, k10, n10⟩, -, X10, ⟨Lc10, hQ10, l10, y10, z10⟩, st10⟩ := Jvm.LawKit.callS X7 hx (y := (⟨"com/example/displace/displace/Chd", "bucketCount", "(II)I"⟩ : MethodName)) hown (mvT hZ (hw _ (List.mem_of_getElem? (i := 5) rfl))) (mvT hZ (hw _ (List.mem_of_getElem? (i := 6) rfl))) (mvT hZ (hw _ (List.mem_of_getElem? (i := 7) rfl))) (mvT hZ (hw _ (List.mem_of_getElem? (i := 8) rfl))) (by decide) (backOf (W := 0) (rm2 l Z a0 hw [] v3 v8  h0 n0 Z0 (own_ge1 (by first | exact Or.inl (by assumption) | exact Or.inr (by assumption)))) hZ (hw _ (List.mem_of_getElem? (i := 8) rfl)) (hw _ (List.mem_of_getElem? (i := 7) rfl)) (by decide) (by decide)) (g := (mkF m 46 #[.val (.int q0), .val (.int q1), .val (.int q2), .val (.int v3), .val (.int v8), .unset, .unset, .unset, .unset, .unset] [(.int v8), (.int v3)])) rfl (by rw [hml]; rfl) (argsL := [(.int v3), (.int v8)]) (rest := []) (lenOf pd_4 rfl) rfl (by show 2 * 0 + _ ≤ _; exact Nat.le_of_eq rfl) (hb hby at_46) (fun _ _ => ⟨rfl, e7, (by decide : 0 + 0 ≤ _), (by decide : 0 + 0 ≤ _)⟩)
      dsimp only [Pt.U, Pt.locs, Pt.cells, Pt.slots] at X10 l10 y10 z10 st10 hQ10
      subst l10 y10 z10
      obtain ⟨rfl, N10q, e10⟩ := hQ10
      have N10 := Fr.app N7 N10q
      obtain ⟨v11, hv11⟩ : ∃ z : Int32, z = (own_f2 v3 v8) := ⟨_, rfl⟩
      have pre12 : ∀ t, Steps p.tables e below (T10.setTop (mkF m 49 #[.val (.int q0), .val (.int q1), .val (.int q2), .val (.int v3), .val (.int v8), .unset, .unset, .unset, .unset, .unset] [(.int v11)])) t → Steps p.tables e below (s₁.setTop (entryFrame m #[(.int q0), (.int q1), (.int q2)] maxLocals)) t := by
        rw [hv11]
        intro t k
        refine pre9 t ?_
        show Steps p.tables e below (T7.setTop (mkF m 41 #[.val (.int q0), .val (.int q1), .val (.int q2), .val (.int v3), .unset, .unset, .unset, .unset, .unset, .unset] [(.int v8)])) _
        refine XS.istore X7.here hx rfl (hb hby at_41) rfl (l' := #[.val (.int q0), .val (.int q1), .val (.int q2), .val (.int v3), .val (.int v8), .unset, .unset, .unset, .unset, .unset]) rfl ?_
        show Steps p.tables e below (T7.setTop (mkF m 43 #[.val (.int q0), .val (.int q1), .val (.int q2), .val (.int v3), .val (.int v8), .unset, .unset, .unset, .unset, .unset] [])) _
        refine XS.iloadN X7.here hx rfl (hb hby at_43) rfl ?_
        show Steps p.tables e below (T7.setTop (mkF m 44 #[.val (.int q0), .val (.int q1), .val (.int q2), .val (.int v3), .val (.int v8), .unset, .unset, .unset, .unset, .unset] [(.int v3)])) _
        refine XS.iload X7.here hx rfl (hb hby at_44) rfl ?_
        show Steps p.tables e below (T7.setTop (mkF m 46 #[.val (.int q0), .val (.int q1), .val (.int q2), .val (.int v3), .val (.int v8), .unset, .unset, .unset, .unset, .unset] [(.int v8), (.int v3)])) _
        refine st10 _ ?_
        exact k
      obtain ⟨v13, hv13⟩ : ∃ z : Int64, z = ((v11).toInt64 * (v8).toInt64) := ⟨_, rfl⟩
      have pre14 : ∀ t, Steps p.tables e below (T10.setTop (mkF m 58 #[.val (.int q0), .val (.int q1), .val (.int q2), .val (.int v3), .val (.int v8), .val (.int v11), .unset, .unset, .unset, .unset] [(.long v13)])) t → Steps p.tables e below (s₁.setTop (entryFrame m #[(.int q0), (.int q1), (.int q2)] maxLocals)) t := by
        rw [hv13]
        intro t k
        refine pre12 t ?_
        show Steps p.tables e below (T10.setTop (mkF m 49 #[.val (.int q0), .val (.int q1), .val (.int q2), .val (.int v3), .val (.int v8), .unset, .unset, .unset, .unset, .unset] [(.int v11)])) _
        refine XS.istore X10.here hx rfl (hb hby at_49) rfl (l' := #[.val (.int q0), .val (.int q1), .val (.int q2), .val (.int v3), .val (.int v8), .val (.int v11), .unset, .unset, .unset, .unset]) rfl ?_
        show Steps p.tables e below (T10.setTop (mkF m 51 #[.val (.int q0), .val (.int q1), .val (.int q2), .val (.int v3), .val (.int v8), .val (.int v11), .unset, .unset, .unset, .unset] [])) _
        refine XS.iload X10.here hx rfl (hb hby at_51) rfl ?_
        show Steps p.tables e below (T10.setTop (mkF m 53 #[.val (.int q0), .val (.int q1), .val (.int q2), .val (.int v3), .val (.int v8), .val (.int v11), .unset, .unset, .unset, .unset] [(.int v11)])) _
        refine XS.i2l X10.here hx rfl (hb hby at_53) rfl ?_
        show Steps p.tables e below (T10.setTop (mkF m 54 #[.val (.int q0), .val (.int q1), .val (.int q2), .val (.int v3), .val (.int v8), .val (.int v11), .unset, .unset, .unset, .unset] [(.long (v11).toInt64)])) _
        refine XS.iload X10.here hx rfl (hb hby at_54) rfl ?_
        show Steps p.tables e below (T10.setTop (mkF m 56 #[.val (.int q0), .val (.int q1), .val (.int q2), .val (.int v3), .val (.int v8), .val (.int v11), .unset, .unset, .unset, .unset] [(.int v8), (.long (v11).toInt64)])) _
        refine XS.i2l X10.here hx rfl (hb hby at_56) rfl ?_
        show Steps p.tables e below (T10.setTop (mkF m 57 #[.val (.int q0), .val (.int q1), .val (.int q2), .val (.int v3), .val (.int v8), .val (.int v11), .unset, .unset, .unset, .unset] [(.long (v8).toInt64), (.long (v11).toInt64)])) _
        refine XS.lmul X10.here hx rfl (hb hby at_57) rfl ?_
        exact k
      obtain ⟨v15, hv15⟩ : ∃ z : Int64, z = (((v11).toInt64 - (1 : Int64)) * (v8).toInt64) := ⟨_, rfl⟩
      have pre16 : ∀ t, Steps p.tables e below (T10.setTop (mkF m 69 #[.val (.int q0), .val (.int q1), .val (.int q2), .val (.int v3), .val (.int v8), .val (.int v11), .val (.long v13), .second, .unset, .unset] [(.long v15)])) t → Steps p.tables e below (s₁.setTop (entryFrame m #[(.int q0), (.int q1), (.int q2)] maxLocals)) t := by
        rw [hv15]
        intro t k
        refine pre14 t ?_
        show Steps p.tables e below (T10.setTop (mkF m 58 #[.val (.int q0), .val (.int q1), .val (.int q2), .val (.int v3), .val (.int v8), .val (.int v11), .unset, .unset, .unset, .unset] [(.long v13)])) _
        refine XS.lstore X10.here hx rfl (hb hby at_58) rfl (l' := #[.val (.int q0), .val (.int q1), .val (.int q2), .val (.int v3), .val (.int v8), .val (.int v11), .val (.long v13), .second, .unset, .unset]) rfl ?_
        show Steps p.tables e below (T10.setTop (mkF m 60 #[.val (.int q0), .val (.int q1), .val (.int q2), .val (.int v3), .val (.int v8), .val (.int v11), .val (.long v13), .second, .unset, .unset] [])) _
        refine XS.iload X10.here hx rfl (hb hby at_60) rfl ?_
        show Steps p.tables e below (T10.setTop (mkF m 62 #[.val (.int q0), .val (.int q1), .val (.int q2), .val (.int v3), .val (.int v8), .val (.int v11), .val (.long v13), .second, .unset, .unset] [(.int v11)])) _
        refine XS.i2l X10.here hx rfl (hb hby at_62) rfl ?_
        show Steps p.tables e below (T10.setTop (mkF m 63 #[.val (.int q0), .val (.int q1), .val (.int q2), .val (.int v3), .val (.int v8), .val (.int v11), .val (.long v13), .second, .unset, .unset] [(.long (v11).toInt64)])) _
        refine XS.lconst X10.here hx rfl (hb hby at_63) ?_
        show Steps p.tables e below (T10.setTop (mkF m 64 #[.val (.int q0), .val (.int q1), .val (.int q2), .val (.int v3), .val (.int v8), .val (.int v11), .val (.long v13), .second, .unset, .unset] [(.long (1 : Int64)), (.long (v11).toInt64)])) _
        refine XS.lsub X10.here hx rfl (hb hby at_64) rfl ?_
        show Steps p.tables e below (T10.setTop (mkF m 65 #[.val (.int q0), .val (.int q1), .val (.int q2), .val (.int v3), .val (.int v8), .val (.int v11), .val (.long v13), .second, .unset, .unset] [(.long ((v11).toInt64 - (1 : Int64)))])) _
        refine XS.iload X10.here hx rfl (hb hby at_65) rfl ?_
        show Steps p.tables e below (T10.setTop (mkF m 67 #[.val (.int q0), .val (.int q1), .val (.int q2), .val (.int v3), .val (.int v8), .val (.int v11), .val (.long v13), .second, .unset, .unset] [(.int v8), (.long ((v11).toInt64 - (1 : Int64)))])) _
        refine XS.i2l X10.here hx rfl (hb hby at_67) rfl ?_
        show Steps p.tables e below (T10.setTop (mkF m 68 #[.val (.int q0), .val (.int q1), .val (.int q2), .val (.int v3), .val (.int v8), .val (.int v11), .val (.long v13), .second, .unset, .unset] [(.long (v8).toInt64), (.long ((v11).toInt64 - (1 : Int64)))])) _
        refine XS.lmul X10.here hx rfl (hb hby at_68) rfl ?_
        exact k
      have pre17 : ∀ t, Steps p.tables e below (T10.setTop (mkF m 76 #[.val (.int q0), .val (.int q1), .val (.int q2), .val (.int v3), .val (.int v8), .val (.int v11), .val (.long v13), .second, .val (.long v15), .second] [(.int (lcmpW v13 (v3).toInt64))])) t → Steps p.tables e below (s₁.setTop (entryFrame m #[(.int q0), (.int q1), (.int q2)] maxLocals)) t := by
        intro t k
        refine pre16 t ?_
        show Steps p.tables e below (T10.setTop (mkF m 69 #[.val (.int q0), .val (.int q1), .val (.int q2), .val (.int v3), .val (.int v8), .val (.int v11), .val (.long v13), .second, .unset, .unset] [(.long v15)])) _
        refine XS.lstore X10.here hx rfl (hb hby at_69) rfl (l' := #[.val (.int q0), .val (.int q1), .val (.int q2), .val (.int v3), .val (.int v8), .val (.int v11), .val (.long v13), .second, .val (.long v15), .second]) rfl ?_
        show Steps p.tables e below (T10.setTop (mkF m 71 #[.val (.int q0), .val (.int q1), .val (.int q2), .val (.int v3), .val (.int v8), .val (.int v11), .val (.long v13), .second, .val (.long v15), .second] [])) _
        refine XS.lload X10.here hx rfl (hb hby at_71) rfl ?_
        show Steps p.tables e below (T10.setTop (mkF m 73 #[.val (.int q0), .val (.int q1), .val (.int q2), .val (.int v3), .val (.int v8), .val (.int v11), .val (.long v13), .second, .val (.long v15), .second] [(.long v13)])) _
        refine XS.iloadN X10.here hx rfl (hb hby at_73) rfl ?_
        show Steps p.tables e below (T10.setTop (mkF m 74 #[.val (.int q0), .val (.int q1), .val (.int q2), .val (.int v3), .val (.int v8), .val (.int v11), .val (.long v13), .second, .val (.long v15), .second] [(.int v3), (.long v13)])) _
        refine XS.i2l X10.here hx rfl (hb hby at_74) rfl ?_
        show Steps p.tables e below (T10.setTop (mkF m 75 #[.val (.int q0), .val (.int q1), .val (.int q2), .val (.int v3), .val (.int v8), .val (.int v11), .val (.long v13), .second, .val (.long v15), .second] [(.long (v3).toInt64), (.long v13)])) _
        refine XS.lcmp X10.here hx rfl (hb hby at_75) rfl ?_
        exact k
      by_cases c18 : v13 < (v3).toInt64
      · obtain ⟨fs, hr, hrun, hended, hW, hsame⟩ := X10.leave (v := some (.int (0 : Int32))) (fun h => by rw [Bd.returns] at h; cases h) hlk
        refine ⟨_, _, pre17 _ ?_, hrun, hended, _, _, rfl, ?_, ⟨_, rfl⟩, hW, hsame.mono (by decide) (by decide)⟩
        · show Steps p.tables e below (T10.setTop (mkF m 76 #[.val (.int q0), .val (.int q1), .val (.int q2), .val (.int v3), .val (.int v8), .val (.int v11), .val (.long v13), .second, .val (.long v15), .second] [(.int (lcmpW v13 (v3).toInt64))])) _
          refine XS.ifYes X10.here hx rfl (pc0 := 76) (pc' := 91) rfl (hb hby at_76) rfl ((if0 _ _).trans (tlt ((lw_lt v13 (v3).toInt64).mpr c18)).1) (by decide) (by decide) ?_
          show Steps p.tables e below (T10.setTop (mkF m 91 #[.val (.int q0), .val (.int q1), .val (.int q2), .val (.int v3), .val (.int v8), .val (.int v11), .val (.long v13), .second, .val (.long v15), .second] [])) _
          refine XS.iconst X10.here hx rfl (hb hby at_91) ?_
          show Steps p.tables e below (T10.setTop (mkF m 92 #[.val (.int q0), .val (.int q1), .val (.int q2), .val (.int v3), .val (.int v8), .val (.int v11), .val (.long v13), .second, .val (.long v15), .second] [(.int (0 : Int32))])) _
          exact retN X10 hx (t := .boolean) Bd.returns (by simp) (hb hby at_92) hr
        · show Q0 Z q0 q1 q2 h0 n0 _ T10.heap _
          rw [e10]
          exact ⟨by have w_hv15 := hv15.symm; subst w_hv15; have w_hv13 := hv13.symm; subst w_hv13; have w_hv11 := hv11.symm; subst w_hv11; have w_hv8 := hv8.symm; subst w_hv8; have w_hv3 := hv3.symm; subst w_hv3; simp only [own_f0, if_pos c2, if_pos c6, if_pos c18], N10⟩
      · have pre19 : ∀ t, Steps p.tables e below (T10.setTop (mkF m 84 #[.val (.int q0), .val (.int q1), .val (.int q2), .val (.int v3), .val (.int v8), .val (.int v11), .val (.long v13), .second, .val (.long v15), .second] [(.int (lcmpW v15 (v3).toInt64))])) t → Steps p.tables e below (s₁.setTop (entryFrame m #[(.int q0), (.int q1), (.int q2)] maxLocals)) t := by
          intro t k
          refine pre17 t ?_
          show Steps p.tables e below (T10.setTop (mkF m 76 #[.val (.int q0), .val (.int q1), .val (.int q2), .val (.int v3), .val (.int v8), .val (.int v11), .val (.long v13), .second, .val (.long v15), .second] [(.int (lcmpW v13 (v3).toInt64))])) _
          refine XS.ifNo X10.here hx rfl (hb hby at_76) rfl ((if0 _ _).trans (flt (mt (lw_lt v13 (v3).toInt64).mp c18)).1) ?_
          show Steps p.tables e below (T10.setTop (mkF m 79 #[.val (.int q0), .val (.int q1), .val (.int q2), .val (.int v3), .val (.int v8), .val (.int v11), .val (.long v13), .second, .val (.long v15), .second] [])) _
          refine XS.lload X10.here hx rfl (hb hby at_79) rfl ?_
          show Steps p.tables e below (T10.setTop (mkF m 81 #[.val (.int q0), .val (.int q1), .val (.int q2), .val (.int v3), .val (.int v8), .val (.int v11), .val (.long v13), .second, .val (.long v15), .second] [(.long v15)])) _
          refine XS.iloadN X10.here hx rfl (hb hby at_81) rfl ?_
          show Steps p.tables e below (T10.setTop (mkF m 82 #[.val (.int q0), .val (.int q1), .val (.int q2), .val (.int v3), .val (.int v8), .val (.int v11), .val (.long v13), .second, .val (.long v15), .second] [(.int v3), (.long v15)])) _
          refine XS.i2l X10.here hx rfl (hb hby at_82) rfl ?_
          show Steps p.tables e below (T10.setTop (mkF m 83 #[.val (.int q0), .val (.int q1), .val (.int q2), .val (.int v3), .val (.int v8), .val (.int v11), .val (.long v13), .second, .val (.long v15), .second] [(.long (v3).toInt64), (.long v15)])) _
          refine XS.lcmp X10.here hx rfl (hb hby at_83) rfl ?_
          exact k
        by_cases c20 : v15 < (v3).toInt64
        · obtain ⟨fs, hr, hrun, hended, hW, hsame⟩ := X10.leave (v := some (.int (1 : Int32))) (fun h => by rw [Bd.returns] at h; cases h) hlk
          refine ⟨_, _, pre19 _ ?_, hrun, hended, _, _, rfl, ?_, ⟨_, rfl⟩, hW, hsame.mono (by decide) (by decide)⟩
          · show Steps p.tables e below (T10.setTop (mkF m 84 #[.val (.int q0), .val (.int q1), .val (.int q2), .val (.int v3), .val (.int v8), .val (.int v11), .val (.long v13), .second, .val (.long v15), .second] [(.int (lcmpW v15 (v3).toInt64))])) _
            refine XS.ifNo X10.here hx rfl (hb hby at_84) rfl ((if0 _ _).trans (tlt ((lw_lt v15 (v3).toInt64).mpr c20)).2.1) ?_
            show Steps p.tables e below (T10.setTop (mkF m 87 #[.val (.int q0), .val (.int q1), .val (.int q2), .val (.int v3), .val (.int v8), .val (.int v11), .val (.long v13), .second, .val (.long v15), .second] [])) _
            refine XS.iconst X10.here hx rfl (hb hby at_87) ?_
            show Steps p.tables e below (T10.setTop (mkF m 88 #[.val (.int q0), .val (.int q1), .val (.int q2), .val (.int v3), .val (.int v8), .val (.int v11), .val (.long v13), .second, .val (.long v15), .second] [(.int (1 : Int32))])) _
            refine XS.goto X10.here hx rfl (pc0 := 88) (pc' := 92) rfl (hb hby at_88) (by decide) (by decide) ?_
            show Steps p.tables e below (T10.setTop (mkF m 92 #[.val (.int q0), .val (.int q1), .val (.int q2), .val (.int v3), .val (.int v8), .val (.int v11), .val (.long v13), .second, .val (.long v15), .second] [(.int (1 : Int32))])) _
            exact retN X10 hx (t := .boolean) Bd.returns (by simp) (hb hby at_92) hr
          · show Q0 Z q0 q1 q2 h0 n0 _ T10.heap _
            rw [e10]
            exact ⟨by have w_hv15 := hv15.symm; subst w_hv15; have w_hv13 := hv13.symm; subst w_hv13; have w_hv11 := hv11.symm; subst w_hv11; have w_hv8 := hv8.symm; subst w_hv8; have w_hv3 := hv3.symm; subst w_hv3; simp only [own_f0, if_pos c2, if_pos c6, if_neg c18, if_pos c20], N10⟩
        · obtain ⟨fs, hr, hrun, hended, hW, hsame⟩ := X10.leave (v := some (.int (0 : Int32))) (fun h => by rw [Bd.returns] at h; cases h) hlk
          refine ⟨_, _, pre19 _ ?_, hrun, hended, _, _, rfl, ?_, ⟨_, rfl⟩, hW, hsame.mono (by decide) (by decide)⟩
          · show Steps p.tables e below (T10.setTop (mkF m 84 #[.val (.int q0), .val (.int q1), .val (.int q2), .val (.int v3), .val (.int v8), .val (.int v11), .val (.long v13), .second, .val (.long v15), .second] [(.int (lcmpW v15 (v3).toInt64))])) _
            refine XS.ifYes X10.here hx rfl (pc0 := 84) (pc' := 91) rfl (hb hby at_84) rfl ((if0 _ _).trans (flt (mt (lw_lt v15 (v3).toInt64).mp c20)).2.1) (by decide) (by decide) ?_
            show Steps p.tables e below (T10.setTop (mkF m 91 #[.val (.int q0), .val (.int q1), .val (.int q2), .val (.int v3), .val (.int v8), .val (.int v11), .val (.long v13), .second, .val (.long v15), .second] [])) _
            refine XS.iconst X10.here hx rfl (hb hby at_91) ?_
            show Steps p.tables e below (T10.setTop (mkF m 92 #[.val (.int q0), .val (.int q1), .val (.int q2), .val (.int v3), .val (.int v8), .val (.int v11), .val (.long v13), .second, .val (.long v15), .second] [(.int (0 : Int32))])) _
            exact retN X10 hx (t := .boolean) Bd.returns (by simp) (hb hby at_92) hr
          · show Q0 Z q0 q1 q2 h0 n0 _ T10.heap _
            rw [e10]
            exact ⟨by have w_hv15 := hv15.symm; subst w_hv15; have w_hv13 := hv13.symm; subst w_hv13; have w_hv11 := hv11.symm; subst w_hv11; have w_hv8 := hv8.symm; subst w_hv8; have w_hv3 := hv3.symm; subst w_hv3; simp only [own_f0, if_pos c2, if_pos c6, if_neg c18, if_neg c20], N10⟩
    · obtain ⟨v21, hv21⟩ : ∃ z : Int32, z = ((q1 &&& (7 : Int32)) + (1 : Int32)) := ⟨_, rfl⟩
      have pre22 : ∀ t, Steps p.tables e below (s₁.setTop (mkF m 41 #[.val (.int q0), .val (.int q1), .val (.int q2), .val (.int v3), .unset, .unset, .unset, .unset, .unset, .unset] [(.int v21)])) t → Steps p.tables e below (s₁.setTop (entryFrame m #[(.int q0), (.int q1), (.int q2)] maxLocals)) t := by
        rw [hv21]
        intro t k
        refine pre5 t ?_
        show Steps p.tables e below (s₁.setTop (mkF m 21 #[.val (.int q0), .val (.int q1), .val (.int q2), .val (.int v3), .unset, .unset, .unset, .unset, .unset, .unset] [(.int (q2 &&& (1 : Int32)))])) _
        refine XS.ifNo X0.here hx rfl (hb hby at_21) rfl ((if0 _ _).trans (feq c6).1) ?_
        show Steps p.tables e below (s₁.setTop (mkF m 24 #[.val (.int q0), .val (.int q1), .val (.int q2), .val (.int v3), .unset, .unset, .unset, .unset, .unset, .unset] [])) _
        refine XS.iloadN X0.here hx rfl (hb hby at_24) rfl ?_
        show Steps p.tables e below (s₁.setTop (mkF m 25 #[.val (.int q0), .val (.int q1), .val (.int q2), .val (.int v3), .unset, .unset, .unset, .unset, .unset, .unset] [(.int q1)])) _
        refine XS.bipush X0.here hx rfl (hb hby at_25) ?_
        show Steps p.tables e below (s₁.setTop (mkF m 27 #[.val (.int q0), .val (.int q1), .val (.int q2), .val (.int v3), .unset, .unset, .unset, .unset, .unset, .unset] [(.int (7 : Int32)), (.int q1)])) _
        refine XS.iand X0.here hx rfl (hb hby at_27) rfl ?_
        show Steps p.tables e below (s₁.setTop (mkF m 28 #[.val (.int q0), .val (.int q1), .val (.int q2), .val (.int v3), .unset, .unset, .unset, .unset, .unset, .unset] [(.int (q1 &&& (7 : Int32)))])) _
        refine XS.iconst X0.here hx rfl (hb hby at_28) ?_
        show Steps p.tables e below (s₁.setTop (mkF m 29 #[.val (.int q0), .val (.int q1), .val (.int q2), .val (.int v3), .unset, .unset, .unset, .unset, .unset, .unset] [(.int (1 : Int32)), (.int (q1 &&& (7 : Int32)))])) _
        refine XS.iadd X0.here hx rfl (hb hby at_29) rfl ?_
        show Steps p.tables e below (s₁.setTop (mkF m 30 #[.val (.int q0), .val (.int q1), .val (.int q2), .val (.int v3), .unset, .unset, .unset, .unset, .unset, .unset] [(.int ((q1 &&& (7 : Int32)) + (1 : Int32)))])) _
        refine XS.goto X0.here hx rfl (pc0 := 30) (pc' := 41) rfl (hb hby at_30) (by decide) (by decide) ?_
        exact k
      obtain ⟨_, _, ⟨T23, L23, k23, n23⟩, -, X23, ⟨Lc23, hQ23, l23, y23, z23⟩, st23⟩ := Jvm.LawKit.callS X0 hx (y := (⟨"com/example/displace/displace/Chd", "bucketCount", "(II)I"⟩ : MethodName)) hown (mvT hZ (hw _ (List.mem_of_getElem? (i := 5) rfl))) (mvT hZ (hw _ (List.mem_of_getElem? (i := 6) rfl))) (mvT hZ (hw _ (List.mem_of_getElem? (i := 7) rfl))) (mvT hZ (hw _ (List.mem_of_getElem? (i := 8) rfl))) (by decide) (backOf (W := 0) (rm2 l Z a0 hw [] v3 v21  h0 n0 Z0 (own_ge1 (by first | exact Or.inl (by assumption) | exact Or.inr (by assumption)))) hZ (hw _ (List.mem_of_getElem? (i := 8) rfl)) (hw _ (List.mem_of_getElem? (i := 7) rfl)) (by decide) (by decide)) (g := (mkF m 46 #[.val (.int q0), .val (.int q1), .val (.int q2), .val (.int v3), .val (.int v21), .unset, .unset, .unset, .unset, .unset] [(.int v21), (.int v3)])) rfl (by rw [hml]; rfl) (argsL := [(.int v3), (.int v21)]) (rest := []) (lenOf pd_4 rfl) rfl (by show 2 * 0 + _ ≤ _; exact Nat.le_of_eq rfl) (hb hby at_46) (fun _ _ => ⟨rfl, e0, (by decide : 0 + 0 ≤ _), (by decide : 0 + 0 ≤ _)⟩)
      dsimp only [Pt.U, Pt.locs, Pt.cells, Pt.slots] at X23 l23 y23 z23 st23 hQ23
      subst l23 y23 z23
      obtain ⟨rfl, N23q, e23⟩ := hQ23
      have N23 := Fr.app N0 N23q
      obtain ⟨v24, hv24⟩ : ∃ z : Int32, z = (own_f2 v3 v21) := ⟨_, rfl⟩
      have pre25 : ∀ t, Steps p.tables e below (T23.setTop (mkF m 49 #[.val (.int q0), .val (.int q1), .val (.int q2), .val (.int v3), .val (.int v21), .unset, .unset, .unset, .unset, .unset] [(.int v24)])) t → Steps p.tables e below (s₁.setTop (entryFrame m #[(.int q0), (.int q1), (.int q2)] maxLocals)) t := by
        rw [hv24]
        intro t k
        refine pre22 t ?_
        show Steps p.tables e below (s₁.setTop (mkF m 41 #[.val (.int q0), .val (.int q1), .val (.int q2), .val (.int v3), .unset, .unset, .unset, .unset, .unset, .unset] [(.int v21)])) _
        refine XS.istore X0.here hx rfl (hb hby at_41) rfl (l' := #[.val (.int q0), .val (.int q1), .val (.int q2), .val (.int v3), .val (.int v21), .unset, .unset, .unset, .unset, .unset]) rfl ?_
        show Steps p.tables e below (s₁.setTop (mkF m 43 #[.val (.int q0), .val (.int q1), .val (.int q2), .val (.int v3), .val (.int v21), .unset, .unset, .unset, .unset, .unset] [])) _
        refine XS.iloadN X0.here hx rfl (hb hby at_43) rfl ?_
        show Steps p.tables e below (s₁.setTop (mkF m 44 #[.val (.int q0), .val (.int q1), .val (.int q2), .val (.int v3), .val (.int v21), .unset, .unset, .unset, .unset, .unset] [(.int v3)])) _
        refine XS.iload X0.here hx rfl (hb hby at_44) rfl ?_
        show Steps p.tables e below (s₁.setTop (mkF m 46 #[.val (.int q0), .val (.int q1), .val (.int q2), .val (.int v3), .val (.int v21), .unset, .unset, .unset, .unset, .unset] [(.int v21), (.int v3)])) _
        refine st23 _ ?_
        exact k
      obtain ⟨v26, hv26⟩ : ∃ z : Int64, z = ((v24).toInt64 * (v21).toInt64) := ⟨_, rfl⟩
      have pre27 : ∀ t, Steps p.tables e below (T23.setTop (mkF m 58 #[.val (.int q0), .val (.int q1), .val (.int q2), .val (.int v3), .val (.int v21), .val (.int v24), .unset, .unset, .unset, .unset] [(.long v26)])) t → Steps p.tables e below (s₁.setTop (entryFrame m #[(.int q0), (.int q1), (.int q2)] maxLocals)) t := by
        rw [hv26]
        intro t k
        refine pre25 t ?_
        show Steps p.tables e below (T23.setTop (mkF m 49 #[.val (.int q0), .val (.int q1), .val (.int q2), .val (.int v3), .val (.int v21), .unset, .unset, .unset, .unset, .unset] [(.int v24)])) _
        refine XS.istore X23.here hx rfl (hb hby at_49) rfl (l' := #[.val (.int q0), .val (.int q1), .val (.int q2), .val (.int v3), .val (.int v21), .val (.int v24), .unset, .unset, .unset, .unset]) rfl ?_
        show Steps p.tables e below (T23.setTop (mkF m 51 #[.val (.int q0), .val (.int q1), .val (.int q2), .val (.int v3), .val (.int v21), .val (.int v24), .unset, .unset, .unset, .unset] [])) _
        refine XS.iload X23.here hx rfl (hb hby at_51) rfl ?_
        show Steps p.tables e below (T23.setTop (mkF m 53 #[.val (.int q0), .val (.int q1), .val (.int q2), .val (.int v3), .val (.int v21), .val (.int v24), .unset, .unset, .unset, .unset] [(.int v24)])) _
        refine XS.i2l X23.here hx rfl (hb hby at_53) rfl ?_
        show Steps p.tables e below (T23.setTop (mkF m 54 #[.val (.int q0), .val (.int q1), .val (.int q2), .val (.int v3), .val (.int v21), .val (.int v24), .unset, .unset, .unset, .unset] [(.long (v24).toInt64)])) _
        refine XS.iload X23.here hx rfl (hb hby at_54) rfl ?_
        show Steps p.tables e below (T23.setTop (mkF m 56 #[.val (.int q0), .val (.int q1), .val (.int q2), .val (.int v3), .val (.int v21), .val (.int v24), .unset, .unset, .unset, .unset] [(.int v21), (.long (v24).toInt64)])) _
        refine XS.i2l X23.here hx rfl (hb hby at_56) rfl ?_
        show Steps p.tables e below (T23.setTop (mkF m 57 #[.val (.int q0), .val (.int q1), .val (.int q2), .val (.int v3), .val (.int v21), .val (.int v24), .unset, .unset, .unset, .unset] [(.long (v21).toInt64), (.long (v24).toInt64)])) _
        refine XS.lmul X23.here hx rfl (hb hby at_57) rfl ?_
        exact k
      obtain ⟨v28, hv28⟩ : ∃ z : Int64, z = (((v24).toInt64 - (1 : Int64)) * (v21).toInt64) := ⟨_, rfl⟩
      have pre29 : ∀ t, Steps p.tables e below (T23.setTop (mkF m 69 #[.val (.int q0), .val (.int q1), .val (.int q2), .val (.int v3), .val (.int v21), .val (.int v24), .val (.long v26), .second, .unset, .unset] [(.long v28)])) t → Steps p.tables e below (s₁.setTop (entryFrame m #[(.int q0), (.int q1), (.int q2)] maxLocals)) t := by
        rw [hv28]
        intro t k
        refine pre27 t ?_
        show Steps p.tables e below (T23.setTop (mkF m 58 #[.val (.int q0), .val (.int q1), .val (.int q2), .val (.int v3), .val (.int v21), .val (.int v24), .unset, .unset, .unset, .unset] [(.long v26)])) _
        refine XS.lstore X23.here hx rfl (hb hby at_58) rfl (l' := #[.val (.int q0), .val (.int q1), .val (.int q2), .val (.int v3), .val (.int v21), .val (.int v24), .val (.long v26), .second, .unset, .unset]) rfl ?_
        show Steps p.tables e below (T23.setTop (mkF m 60 #[.val (.int q0), .val (.int q1), .val (.int q2), .val (.int v3), .val (.int v21), .val (.int v24), .val (.long v26), .second, .unset, .unset] [])) _
        refine XS.iload X23.here hx rfl (hb hby at_60) rfl ?_
        show Steps p.tables e below (T23.setTop (mkF m 62 #[.val (.int q0), .val (.int q1), .val (.int q2), .val (.int v3), .val (.int v21), .val (.int v24), .val (.long v26), .second, .unset, .unset] [(.int v24)])) _
        refine XS.i2l X23.here hx rfl (hb hby at_62) rfl ?_
        show Steps p.tables e below (T23.setTop (mkF m 63 #[.val (.int q0), .val (.int q1), .val (.int q2), .val (.int v3), .val (.int v21), .val (.int v24), .val (.long v26), .second, .unset, .unset] [(.long (v24).toInt64)])) _
        refine XS.lconst X23.here hx rfl (hb hby at_63) ?_
        show Steps p.tables e below (T23.setTop (mkF m 64 #[.val (.int q0), .val (.int q1), .val (.int q2), .val (.int v3), .val (.int v21), .val (.int v24), .val (.long v26), .second, .unset, .unset] [(.long (1 : Int64)), (.long (v24).toInt64)])) _
        refine XS.lsub X23.here hx rfl (hb hby at_64) rfl ?_
        show Steps p.tables e below (T23.setTop (mkF m 65 #[.val (.int q0), .val (.int q1), .val (.int q2), .val (.int v3), .val (.int v21), .val (.int v24), .val (.long v26), .second, .unset, .unset] [(.long ((v24).toInt64 - (1 : Int64)))])) _
        refine XS.iload X23.here hx rfl (hb hby at_65) rfl ?_
        show Steps p.tables e below (T23.setTop (mkF m 67 #[.val (.int q0), .val (.int q1), .val (.int q2), .val (.int v3), .val (.int v21), .val (.int v24), .val (.long v26), .second, .unset, .unset] [(.int v21), (.long ((v24).toInt64 - (1 : Int64)))])) _
        refine XS.i2l X23.here hx rfl (hb hby at_67) rfl ?_
        show Steps p.tables e below (T23.setTop (mkF m 68 #[.val (.int q0), .val (.int q1), .val (.int q2), .val (.int v3), .val (.int v21), .val (.int v24), .val (.long v26), .second, .unset, .unset] [(.long (v21).toInt64), (.long ((v24).toInt64 - (1 : Int64)))])) _
        refine XS.lmul X23.here hx rfl (hb hby at_68) rfl ?_
        exact k
      have pre30 : ∀ t, Steps p.tables e below (T23.setTop (mkF m 76 #[.val (.int q0), .val (.int q1), .val (.int q2), .val (.int v3), .val (.int v21), .val (.int v24), .val (.long v26), .second, .val (.long v28), .second] [(.int (lcmpW v26 (v3).toInt64))])) t → Steps p.tables e below (s₁.setTop (entryFrame m #[(.int q0), (.int q1), (.int q2)] maxLocals)) t := by
        intro t k
        refine pre29 t ?_
        show Steps p.tables e below (T23.setTop (mkF m 69 #[.val (.int q0), .val (.int q1), .val (.int q2), .val (.int v3), .val (.int v21), .val (.int v24), .val (.long v26), .second, .unset, .unset] [(.long v28)])) _
        refine XS.lstore X23.here hx rfl (hb hby at_69) rfl (l' := #[.val (.int q0), .val (.int q1), .val (.int q2), .val (.int v3), .val (.int v21), .val (.int v24), .val (.long v26), .second, .val (.long v28), .second]) rfl ?_
        show Steps p.tables e below (T23.setTop (mkF m 71 #[.val (.int q0), .val (.int q1), .val (.int q2), .val (.int v3), .val (.int v21), .val (.int v24), .val (.long v26), .second, .val (.long v28), .second] [])) _
        refine XS.lload X23.here hx rfl (hb hby at_71) rfl ?_
        show Steps p.tables e below (T23.setTop (mkF m 73 #[.val (.int q0), .val (.int q1), .val (.int q2), .val (.int v3), .val (.int v21), .val (.int v24), .val (.long v26), .second, .val (.long v28), .second] [(.long v26)])) _
        refine XS.iloadN X23.here hx rfl (hb hby at_73) rfl ?_
        show Steps p.tables e below (T23.setTop (mkF m 74 #[.val (.int q0), .val (.int q1), .val (.int q2), .val (.int v3), .val (.int v21), .val (.int v24), .val (.long v26), .second, .val (.long v28), .second] [(.int v3), (.long v26)])) _
        refine XS.i2l X23.here hx rfl (hb hby at_74) rfl ?_
        show Steps p.tables e below (T23.setTop (mkF m 75 #[.val (.int q0), .val (.int q1), .val (.int q2), .val (.int v3), .val (.int v21), .val (.int v24), .val (.long v26), .second, .val (.long v28), .second] [(.long (v3).toInt64), (.long v26)])) _
        refine XS.lcmp X23.here hx rfl (hb hby at_75) rfl ?_
        exact k
      by_cases c31 : v26 < (v3).toInt64
      · obtain ⟨fs, hr, hrun, hended, hW, hsame⟩ := X23.leave (v := some (.int (0 : Int32))) (fun h => by rw [Bd.returns] at h; cases h) hlk
        refine ⟨_, _, pre30 _ ?_, hrun, hended, _, _, rfl, ?_, ⟨_, rfl⟩, hW, hsame.mono (by decide) (by decide)⟩
        · show Steps p.tables e below (T23.setTop (mkF m 76 #[.val (.int q0), .val (.int q1), .val (.int q2), .val (.int v3), .val (.int v21), .val (.int v24), .val (.long v26), .second, .val (.long v28), .second] [(.int (lcmpW v26 (v3).toInt64))])) _
          refine XS.ifYes X23.here hx rfl (pc0 := 76) (pc' := 91) rfl (hb hby at_76) rfl ((if0 _ _).trans (tlt ((lw_lt v26 (v3).toInt64).mpr c31)).1) (by decide) (by decide) ?_
          show Steps p.tables e below (T23.setTop (mkF m 91 #[.val (.int q0), .val (.int q1), .val (.int q2), .val (.int v3), .val (.int v21), .val (.int v24), .val (.long v26), .second, .val (.long v28), .second] [])) _
          refine XS.iconst X23.here hx rfl (hb hby at_91) ?_
          show Steps p.tables e below (T23.setTop (mkF m 92 #[.val (.int q0), .val (.int q1), .val (.int q2), .val (.int v3), .val (.int v21), .val (.int v24), .val (.long v26), .second, .val (.long v28), .second] [(.int (0 : Int32))])) _
          exact retN X23 hx (t := .boolean) Bd.returns (by simp) (hb hby at_92) hr
        · show Q0 Z q0 q1 q2 h0 n0 _ T23.heap _
          rw [e23]
          exact ⟨by have w_hv28 := hv28.symm; subst w_hv28; have w_hv26 := hv26.symm; subst w_hv26; have w_hv24 := hv24.symm; subst w_hv24; have w_hv21 := hv21.symm; subst w_hv21; have w_hv3 := hv3.symm; subst w_hv3; simp only [own_f0, if_pos c2, if_neg c6, if_pos c31], N23⟩
      · have pre32 : ∀ t, Steps p.tables e below (T23.setTop (mkF m 84 #[.val (.int q0), .val (.int q1), .val (.int q2), .val (.int v3), .val (.int v21), .val (.int v24), .val (.long v26), .second, .val (.long v28), .second] [(.int (lcmpW v28 (v3).toInt64))])) t → Steps p.tables e below (s₁.setTop (entryFrame m #[(.int q0), (.int q1), (.int q2)] maxLocals)) t := by
          intro t k
          refine pre30 t ?_
          show Steps p.tables e below (T23.setTop (mkF m 76 #[.val (.int q0), .val (.int q1), .val (.int q2), .val (.int v3), .val (.int v21), .val (.int v24), .val (.long v26), .second, .val (.long v28), .second] [(.int (lcmpW v26 (v3).toInt64))])) _
          refine XS.ifNo X23.here hx rfl (hb hby at_76) rfl ((if0 _ _).trans (flt (mt (lw_lt v26 (v3).toInt64).mp c31)).1) ?_
          show Steps p.tables e below (T23.setTop (mkF m 79 #[.val (.int q0), .val (.int q1), .val (.int q2), .val (.int v3), .val (.int v21), .val (.int v24), .val (.long v26), .second, .val (.long v28), .second] [])) _
          refine XS.lload X23.here hx rfl (hb hby at_79) rfl ?_
          show Steps p.tables e below (T23.setTop (mkF m 81 #[.val (.int q0), .val (.int q1), .val (.int q2), .val (.int v3), .val (.int v21), .val (.int v24), .val (.long v26), .second, .val (.long v28), .second] [(.long v28)])) _
          refine XS.iloadN X23.here hx rfl (hb hby at_81) rfl ?_
          show Steps p.tables e below (T23.setTop (mkF m 82 #[.val (.int q0), .val (.int q1), .val (.int q2), .val (.int v3), .val (.int v21), .val (.int v24), .val (.long v26), .second, .val (.long v28), .second] [(.int v3), (.long v28)])) _
          refine XS.i2l X23.here hx rfl (hb hby at_82) rfl ?_
          show Steps p.tables e below (T23.setTop (mkF m 83 #[.val (.int q0), .val (.int q1), .val (.int q2), .val (.int v3), .val (.int v21), .val (.int v24), .val (.long v26), .second, .val (.long v28), .second] [(.long (v3).toInt64), (.long v28)])) _
          refine XS.lcmp X23.here hx rfl (hb hby at_83) rfl ?_
          exact k
        by_cases c33 : v28 < (v3).toInt64
        · obtain ⟨fs, hr, hrun, hended, hW, hsame⟩ := X23.leave (v := some (.int (1 : Int32))) (fun h => by rw [Bd.returns] at h; cases h) hlk
          refine ⟨_, _, pre32 _ ?_, hrun, hended, _, _, rfl, ?_, ⟨_, rfl⟩, hW, hsame.mono (by decide) (by decide)⟩
          · show Steps p.tables e below (T23.setTop (mkF m 84 #[.val (.int q0), .val (.int q1), .val (.int q2), .val (.int v3), .val (.int v21), .val (.int v24), .val (.long v26), .second, .val (.long v28), .second] [(.int (lcmpW v28 (v3).toInt64))])) _
            refine XS.ifNo X23.here hx rfl (hb hby at_84) rfl ((if0 _ _).trans (tlt ((lw_lt v28 (v3).toInt64).mpr c33)).2.1) ?_
            show Steps p.tables e below (T23.setTop (mkF m 87 #[.val (.int q0), .val (.int q1), .val (.int q2), .val (.int v3), .val (.int v21), .val (.int v24), .val (.long v26), .second, .val (.long v28), .second] [])) _
            refine XS.iconst X23.here hx rfl (hb hby at_87) ?_
            show Steps p.tables e below (T23.setTop (mkF m 88 #[.val (.int q0), .val (.int q1), .val (.int q2), .val (.int v3), .val (.int v21), .val (.int v24), .val (.long v26), .second, .val (.long v28), .second] [(.int (1 : Int32))])) _
            refine XS.goto X23.here hx rfl (pc0 := 88) (pc' := 92) rfl (hb hby at_88) (by decide) (by decide) ?_
            show Steps p.tables e below (T23.setTop (mkF m 92 #[.val (.int q0), .val (.int q1), .val (.int q2), .val (.int v3), .val (.int v21), .val (.int v24), .val (.long v26), .second, .val (.long v28), .second] [(.int (1 : Int32))])) _
            exact retN X23 hx (t := .boolean) Bd.returns (by simp) (hb hby at_92) hr
          · show Q0 Z q0 q1 q2 h0 n0 _ T23.heap _
            rw [e23]
            exact ⟨by have w_hv28 := hv28.symm; subst w_hv28; have w_hv26 := hv26.symm; subst w_hv26; have w_hv24 := hv24.symm; subst w_hv24; have w_hv21 := hv21.symm; subst w_hv21; have w_hv3 := hv3.symm; subst w_hv3; simp only [own_f0, if_pos c2, if_neg c6, if_neg c31, if_pos c33], N23⟩
        · obtain ⟨fs, hr, hrun, hended, hW, hsame⟩ := X23.leave (v := some (.int (0 : Int32))) (fun h => by rw [Bd.returns] at h; cases h) hlk
          refine ⟨_, _, pre32 _ ?_, hrun, hended, _, _, rfl, ?_, ⟨_, rfl⟩, hW, hsame.mono (by decide) (by decide)⟩
          · show Steps p.tables e below (T23.setTop (mkF m 84 #[.val (.int q0), .val (.int q1), .val (.int q2), .val (.int v3), .val (.int v21), .val (.int v24), .val (.long v26), .second, .val (.long v28), .second] [(.int (lcmpW v28 (v3).toInt64))])) _
            refine XS.ifYes X23.here hx rfl (pc0 := 84) (pc' := 91) rfl (hb hby at_84) rfl ((if0 _ _).trans (flt (mt (lw_lt v28 (v3).toInt64).mp c33)).2.1) (by decide) (by decide) ?_
            show Steps p.tables e below (T23.setTop (mkF m 91 #[.val (.int q0), .val (.int q1), .val (.int q2), .val (.int v3), .val (.int v21), .val (.int v24), .val (.long v26), .second, .val (.long v28), .second] [])) _
            refine XS.iconst X23.here hx rfl (hb hby at_91) ?_
            show Steps p.tables e below (T23.setTop (mkF m 92 #[.val (.int q0), .val (.int q1), .val (.int q2), .val (.int v3), .val (.int v21), .val (.int v24), .val (.long v26), .second, .val (.long v28), .second] [(.int (0 : Int32))])) _
            exact retN X23 hx (t := .boolean) Bd.returns (by simp) (hb hby at_92) hr
          · show Q0 Z q0 q1 q2 h0 n0 _ T23.heap _
            rw [e23]
            exact ⟨by have w_hv28 := hv28.symm; subst w_hv28; have w_hv26 := hv26.symm; subst w_hv26; have w_hv24 := hv24.symm; subst w_hv24; have w_hv21 := hv21.symm; subst w_hv21; have w_hv3 := hv3.symm; subst w_hv3; simp only [own_f0, if_pos c2, if_neg c6, if_neg c31, if_neg c33], N23⟩
  · obtain ⟨v34, hv34⟩ : ∃ z : Int32, z = (q0 &&& (63 : Int32)) := ⟨_, rfl⟩
    have pre35 : ∀ t, Steps p.tables e below (s₁.setTop (mkF m 17 #[.val (.int q0), .val (.int q1), .val (.int q2), .unset, .unset, .unset, .unset, .unset, .unset, .unset] [(.int v34)])) t → Steps p.tables e below (s₁.setTop (entryFrame m #[(.int q0), (.int q1), (.int q2)] maxLocals)) t := by
      rw [hv34]
      intro t k
      refine pre1 t ?_
      show Steps p.tables e below (s₁.setTop (mkF m 3 #[.val (.int q0), .val (.int q1), .val (.int q2), .unset, .unset, .unset, .unset, .unset, .unset, .unset] [(.int (q2 &&& (2 : Int32)))])) _
      refine XS.ifNo X0.here hx rfl (hb hby at_3) rfl ((if0 _ _).trans (feq c2).1) ?_
      show Steps p.tables e below (s₁.setTop (mkF m 6 #[.val (.int q0), .val (.int q1), .val (.int q2), .unset, .unset, .unset, .unset, .unset, .unset, .unset] [])) _
      refine XS.iloadN X0.here hx rfl (hb hby at_6) rfl ?_
      show Steps p.tables e below (s₁.setTop (mkF m 7 #[.val (.int q0), .val (.int q1), .val (.int q2), .unset, .unset, .unset, .unset, .unset, .unset, .unset] [(.int q0)])) _
      refine XS.bipush X0.here hx rfl (hb hby at_7) ?_
      show Steps p.tables e below (s₁.setTop (mkF m 9 #[.val (.int q0), .val (.int q1), .val (.int q2), .unset, .unset, .unset, .unset, .unset, .unset, .unset] [(.int (63 : Int32)), (.int q0)])) _
      refine XS.iand X0.here hx rfl (hb hby at_9) rfl ?_
      show Steps p.tables e below (s₁.setTop (mkF m 10 #[.val (.int q0), .val (.int q1), .val (.int q2), .unset, .unset, .unset, .unset, .unset, .unset, .unset] [(.int (q0 &&& (63 : Int32)))])) _
      refine XS.goto X0.here hx rfl (pc0 := 10) (pc' := 17) rfl (hb hby at_10) (by decide) (by decide) ?_
      exact k
    have pre36 : ∀ t, Steps p.tables e below (s₁.setTop (mkF m 21 #[.val (.int q0), .val (.int q1), .val (.int q2), .val (.int v34), .unset, .unset, .unset, .unset, .unset, .unset] [(.int (q2 &&& (1 : Int32)))])) t → Steps p.tables e below (s₁.setTop (entryFrame m #[(.int q0), (.int q1), (.int q2)] maxLocals)) t := by
      intro t k
      refine pre35 t ?_
      show Steps p.tables e below (s₁.setTop (mkF m 17 #[.val (.int q0), .val (.int q1), .val (.int q2), .unset, .unset, .unset, .unset, .unset, .unset, .unset] [(.int v34)])) _
      refine XS.istoreN X0.here hx rfl (hb hby at_17) rfl (l' := #[.val (.int q0), .val (.int q1), .val (.int q2), .val (.int v34), .unset, .unset, .unset, .unset, .unset, .unset]) rfl ?_
      show Steps p.tables e below (s₁.setTop (mkF m 18 #[.val (.int q0), .val (.int q1), .val (.int q2), .val (.int v34), .unset, .unset, .unset, .unset, .unset, .unset] [])) _
      refine XS.iloadN X0.here hx rfl (hb hby at_18) rfl ?_
      show Steps p.tables e below (s₁.setTop (mkF m 19 #[.val (.int q0), .val (.int q1), .val (.int q2), .val (.int v34), .unset, .unset, .unset, .unset, .unset, .unset] [(.int q2)])) _
      refine XS.iconst X0.here hx rfl (hb hby at_19) ?_
      show Steps p.tables e below (s₁.setTop (mkF m 20 #[.val (.int q0), .val (.int q1), .val (.int q2), .val (.int v34), .unset, .unset, .unset, .unset, .unset, .unset] [(.int (1 : Int32)), (.int q2)])) _
      refine XS.iand X0.here hx rfl (hb hby at_20) rfl ?_
      exact k
    by_cases c37 : (q2 &&& (1 : Int32)) = (0 : Int32)
    · obtain ⟨_, _, ⟨T38, L38, k38, n38⟩, -, X38, ⟨Lc38, hQ38, l38, y38, z38⟩, st38⟩ := Jvm.LawKit.callS X0 hx (y := (⟨"java/lang/Math", "max", "(II)I"⟩ : MethodName)) hown (mvT hZ (hw _ (List.mem_of_getElem? (i := 1) rfl))) (mvT hZ (hw _ (List.mem_of_getElem? (i := 2) rfl))) (mvT hZ (hw _ (List.mem_of_getElem? (i := 3) rfl))) (mvT hZ (hw _ (List.mem_of_getElem? (i := 4) rfl))) (by decide) (backOf (W := 0) (rm1 l Z a0 hw [] (1 : Int32) (q1 &&& (2147483647 : Int32))  h0 n0 Z0 ) hZ (hw _ (List.mem_of_getElem? (i := 4) rfl)) (hw _ (List.mem_of_getElem? (i := 3) rfl)) (by decide) (by decide)) (g := (mkF m 38 #[.val (.int q0), .val (.int q1), .val (.int q2), .val (.int v34), .unset, .unset, .unset, .unset, .unset, .unset] [(.int (q1 &&& (2147483647 : Int32))), (.int (1 : Int32))])) rfl (by rw [hml]; rfl) (argsL := [(.int (1 : Int32)), (.int (q1 &&& (2147483647 : Int32)))]) (rest := []) (lenOf pd_4 rfl) rfl (by show 2 * 0 + _ ≤ _; exact Nat.le_of_eq rfl) (hb hby at_38) (fun _ _ => ⟨rfl, e0, (by decide : 0 + 0 ≤ _), (by decide : 0 + 0 ≤ _)⟩)
      dsimp only [Pt.U, Pt.locs, Pt.cells, Pt.slots] at X38 l38 y38 z38 st38 hQ38
      subst l38 y38 z38
      obtain ⟨rfl, N38q, e38⟩ := hQ38
      have N38 := Fr.app N0 N38q
      obtain ⟨v39, hv39⟩ : ∃ z : Int32, z = (own_f1 ((1 : Int32)) ((q1 &&& (2147483647 : Int32)))) := ⟨_, rfl⟩
      have pre40 : ∀ t, Steps p.tables e below (T38.setTop (mkF m 41 #[.val (.int q0), .val (.int q1), .val (.int q2), .val (.int v34), .unset, .unset, .unset, .unset, .unset, .unset] [(.int v39)])) t → Steps p.tables e below (s₁.setTop (entryFrame m #[(.int q0), (.int q1), (.int q2)] maxLocals)) t := by
        rw [hv39]
        intro t k
        refine pre36 t ?_
        show Steps p.tables e below (s₁.setTop (mkF m 21 #[.val (.int q0), .val (.int q1), .val (.int q2), .val (.int v34), .unset, .unset, .unset, .unset, .unset, .unset] [(.int (q2 &&& (1 : Int32)))])) _
        refine XS.ifYes X0.here hx rfl (pc0 := 21) (pc' := 33) rfl (hb hby at_21) rfl ((if0 _ _).trans (teq c37).1) (by decide) (by decide) ?_
        show Steps p.tables e below (s₁.setTop (mkF m 33 #[.val (.int q0), .val (.int q1), .val (.int q2), .val (.int v34), .unset, .unset, .unset, .unset, .unset, .unset] [])) _
        refine XS.iconst X0.here hx rfl (hb hby at_33) ?_
        show Steps p.tables e below (s₁.setTop (mkF m 34 #[.val (.int q0), .val (.int q1), .val (.int q2), .val (.int v34), .unset, .unset, .unset, .unset, .unset, .unset] [(.int (1 : Int32))])) _
        refine XS.iloadN X0.here hx rfl (hb hby at_34) rfl ?_
        show Steps p.tables e below (s₁.setTop (mkF m 35 #[.val (.int q0), .val (.int q1), .val (.int q2), .val (.int v34), .unset, .unset, .unset, .unset, .unset, .unset] [(.int q1), (.int (1 : Int32))])) _
        refine X0.ldcInt hx hown (mvT hZ (hw _ (List.mem_of_getElem? (i := 0) rfl))) (g := (mkF m 35 #[.val (.int q0), .val (.int q1), .val (.int q2), .val (.int v34), .unset, .unset, .unset, .unset, .unset, .unset] [(.int q1), (.int (1 : Int32))])) rfl (hb hby at_35) _ ?_
        show Steps p.tables e below (s₁.setTop (mkF m 37 #[.val (.int q0), .val (.int q1), .val (.int q2), .val (.int v34), .unset, .unset, .unset, .unset, .unset, .unset] [(.int (2147483647 : Int32)), (.int q1), (.int (1 : Int32))])) _
        refine XS.iand X0.here hx rfl (hb hby at_37) rfl ?_
        show Steps p.tables e below (s₁.setTop (mkF m 38 #[.val (.int q0), .val (.int q1), .val (.int q2), .val (.int v34), .unset, .unset, .unset, .unset, .unset, .unset] [(.int (q1 &&& (2147483647 : Int32))), (.int (1 : Int32))])) _
        refine st38 _ ?_
        exact k
      obtain ⟨_, _, ⟨T41, L41, k41, n41⟩, -, X41, ⟨Lc41, hQ41, l41, y41, z41⟩, st41⟩ := Jvm.LawKit.callS X38 hx (y := (⟨"com/example/displace/displace/Chd", "bucketCount", "(II)I"⟩ : MethodName)) hown (mvT hZ (hw _ (List.mem_of_getElem? (i := 5) rfl))) (mvT hZ (hw _ (List.mem_of_getElem? (i := 6) rfl))) (mvT hZ (hw _ (List.mem_of_getElem? (i := 7) rfl))) (mvT hZ (hw _ (List.mem_of_getElem? (i := 8) rfl))) (by decide) (backOf (W := 0) (rm2 l Z a0 hw [] v34 v39  h0 n0 Z0 (own_ge1 (by first | exact Or.inl (by assumption) | exact Or.inr (by assumption)))) hZ (hw _ (List.mem_of_getElem? (i := 8) rfl)) (hw _ (List.mem_of_getElem? (i := 7) rfl)) (by decide) (by decide)) (g := (mkF m 46 #[.val (.int q0), .val (.int q1), .val (.int q2), .val (.int v34), .val (.int v39), .unset, .unset, .unset, .unset, .unset] [(.int v39), (.int v34)])) rfl (by rw [hml]; rfl) (argsL := [(.int v34), (.int v39)]) (rest := []) (lenOf pd_4 rfl) rfl (by show 2 * 0 + _ ≤ _; exact Nat.le_of_eq rfl) (hb hby at_46) (fun _ _ => ⟨rfl, e38, (by decide : 0 + 0 ≤ _), (by decide : 0 + 0 ≤ _)⟩)
      dsimp only [Pt.U, Pt.locs, Pt.cells, Pt.slots] at X41 l41 y41 z41 st41 hQ41
      subst l41 y41 z41
      obtain ⟨rfl, N41q, e41⟩ := hQ41
      have N41 := Fr.app N38 N41q
      obtain ⟨v42, hv42⟩ : ∃ z : Int32, z = (own_f2 v34 v39) := ⟨_, rfl⟩
      have pre43 : ∀ t, Steps p.tables e below (T41.setTop (mkF m 49 #[.val (.int q0), .val (.int q1), .val (.int q2), .val (.int v34), .val (.int v39), .unset, .unset, .unset, .unset, .unset] [(.int v42)])) t → Steps p.tables e below (s₁.setTop (entryFrame m #[(.int q0), (.int q1), (.int q2)] maxLocals)) t := by
        rw [hv42]
        intro t k
        refine pre40 t ?_
        show Steps p.tables e below (T38.setTop (mkF m 41 #[.val (.int q0), .val (.int q1), .val (.int q2), .val (.int v34), .unset, .unset, .unset, .unset, .unset, .unset] [(.int v39)])) _
        refine XS.istore X38.here hx rfl (hb hby at_41) rfl (l' := #[.val (.int q0), .val (.int q1), .val (.int q2), .val (.int v34), .val (.int v39), .unset, .unset, .unset, .unset, .unset]) rfl ?_
        show Steps p.tables e below (T38.setTop (mkF m 43 #[.val (.int q0), .val (.int q1), .val (.int q2), .val (.int v34), .val (.int v39), .unset, .unset, .unset, .unset, .unset] [])) _
        refine XS.iloadN X38.here hx rfl (hb hby at_43) rfl ?_
        show Steps p.tables e below (T38.setTop (mkF m 44 #[.val (.int q0), .val (.int q1), .val (.int q2), .val (.int v34), .val (.int v39), .unset, .unset, .unset, .unset, .unset] [(.int v34)])) _
        refine XS.iload X38.here hx rfl (hb hby at_44) rfl ?_
        show Steps p.tables e below (T38.setTop (mkF m 46 #[.val (.int q0), .val (.int q1), .val (.int q2), .val (.int v34), .val (.int v39), .unset, .unset, .unset, .unset, .unset] [(.int v39), (.int v34)])) _
        refine st41 _ ?_
        exact k
      obtain ⟨v44, hv44⟩ : ∃ z : Int64, z = ((v42).toInt64 * (v39).toInt64) := ⟨_, rfl⟩
      have pre45 : ∀ t, Steps p.tables e below (T41.setTop (mkF m 58 #[.val (.int q0), .val (.int q1), .val (.int q2), .val (.int v34), .val (.int v39), .val (.int v42), .unset, .unset, .unset, .unset] [(.long v44)])) t → Steps p.tables e below (s₁.setTop (entryFrame m #[(.int q0), (.int q1), (.int q2)] maxLocals)) t := by
        rw [hv44]
        intro t k
        refine pre43 t ?_
        show Steps p.tables e below (T41.setTop (mkF m 49 #[.val (.int q0), .val (.int q1), .val (.int q2), .val (.int v34), .val (.int v39), .unset, .unset, .unset, .unset, .unset] [(.int v42)])) _
        refine XS.istore X41.here hx rfl (hb hby at_49) rfl (l' := #[.val (.int q0), .val (.int q1), .val (.int q2), .val (.int v34), .val (.int v39), .val (.int v42), .unset, .unset, .unset, .unset]) rfl ?_
        show Steps p.tables e below (T41.setTop (mkF m 51 #[.val (.int q0), .val (.int q1), .val (.int q2), .val (.int v34), .val (.int v39), .val (.int v42), .unset, .unset, .unset, .unset] [])) _
        refine XS.iload X41.here hx rfl (hb hby at_51) rfl ?_
        show Steps p.tables e below (T41.setTop (mkF m 53 #[.val (.int q0), .val (.int q1), .val (.int q2), .val (.int v34), .val (.int v39), .val (.int v42), .unset, .unset, .unset, .unset] [(.int v42)])) _
        refine XS.i2l X41.here hx rfl (hb hby at_53) rfl ?_
        show Steps p.tables e below (T41.setTop (mkF m 54 #[.val (.int q0), .val (.int q1), .val (.int q2), .val (.int v34), .val (.int v39), .val (.int v42), .unset, .unset, .unset, .unset] [(.long (v42).toInt64)])) _
        refine XS.iload X41.here hx rfl (hb hby at_54) rfl ?_
        show Steps p.tables e below (T41.setTop (mkF m 56 #[.val (.int q0), .val (.int q1), .val (.int q2), .val (.int v34), .val (.int v39), .val (.int v42), .unset, .unset, .unset, .unset] [(.int v39), (.long (v42).toInt64)])) _
        refine XS.i2l X41.here hx rfl (hb hby at_56) rfl ?_
        show Steps p.tables e below (T41.setTop (mkF m 57 #[.val (.int q0), .val (.int q1), .val (.int q2), .val (.int v34), .val (.int v39), .val (.int v42), .unset, .unset, .unset, .unset] [(.long (v39).toInt64), (.long (v42).toInt64)])) _
        refine XS.lmul X41.here hx rfl (hb hby at_57) rfl ?_
        exact k
      obtain ⟨v46, hv46⟩ : ∃ z : Int64, z = (((v42).toInt64 - (1 : Int64)) * (v39).toInt64) := ⟨_, rfl⟩
      have pre47 : ∀ t, Steps p.tables e below (T41.setTop (mkF m 69 #[.val (.int q0), .val (.int q1), .val (.int q2), .val (.int v34), .val (.int v39), .val (.int v42), .val (.long v44), .second, .unset, .unset] [(.long v46)])) t → Steps p.tables e below (s₁.setTop (entryFrame m #[(.int q0), (.int q1), (.int q2)] maxLocals)) t := by
        rw [hv46]
        intro t k
        refine pre45 t ?_
        show Steps p.tables e below (T41.setTop (mkF m 58 #[.val (.int q0), .val (.int q1), .val (.int q2), .val (.int v34), .val (.int v39), .val (.int v42), .unset, .unset, .unset, .unset] [(.long v44)])) _
        refine XS.lstore X41.here hx rfl (hb hby at_58) rfl (l' := #[.val (.int q0), .val (.int q1), .val (.int q2), .val (.int v34), .val (.int v39), .val (.int v42), .val (.long v44), .second, .unset, .unset]) rfl ?_
        show Steps p.tables e below (T41.setTop (mkF m 60 #[.val (.int q0), .val (.int q1), .val (.int q2), .val (.int v34), .val (.int v39), .val (.int v42), .val (.long v44), .second, .unset, .unset] [])) _
        refine XS.iload X41.here hx rfl (hb hby at_60) rfl ?_
        show Steps p.tables e below (T41.setTop (mkF m 62 #[.val (.int q0), .val (.int q1), .val (.int q2), .val (.int v34), .val (.int v39), .val (.int v42), .val (.long v44), .second, .unset, .unset] [(.int v42)])) _
        refine XS.i2l X41.here hx rfl (hb hby at_62) rfl ?_
        show Steps p.tables e below (T41.setTop (mkF m 63 #[.val (.int q0), .val (.int q1), .val (.int q2), .val (.int v34), .val (.int v39), .val (.int v42), .val (.long v44), .second, .unset, .unset] [(.long (v42).toInt64)])) _
        refine XS.lconst X41.here hx rfl (hb hby at_63) ?_
        show Steps p.tables e below (T41.setTop (mkF m 64 #[.val (.int q0), .val (.int q1), .val (.int q2), .val (.int v34), .val (.int v39), .val (.int v42), .val (.long v44), .second, .unset, .unset] [(.long (1 : Int64)), (.long (v42).toInt64)])) _
        refine XS.lsub X41.here hx rfl (hb hby at_64) rfl ?_
        show Steps p.tables e below (T41.setTop (mkF m 65 #[.val (.int q0), .val (.int q1), .val (.int q2), .val (.int v34), .val (.int v39), .val (.int v42), .val (.long v44), .second, .unset, .unset] [(.long ((v42).toInt64 - (1 : Int64)))])) _
        refine XS.iload X41.here hx rfl (hb hby at_65) rfl ?_
        show Steps p.tables e below (T41.setTop (mkF m 67 #[.val (.int q0), .val (.int q1), .val (.int q2), .val (.int v34), .val (.int v39), .val (.int v42), .val (.long v44), .second, .unset, .unset] [(.int v39), (.long ((v42).toInt64 - (1 : Int64)))])) _
        refine XS.i2l X41.here hx rfl (hb hby at_67) rfl ?_
        show Steps p.tables e below (T41.setTop (mkF m 68 #[.val (.int q0), .val (.int q1), .val (.int q2), .val (.int v34), .val (.int v39), .val (.int v42), .val (.long v44), .second, .unset, .unset] [(.long (v39).toInt64), (.long ((v42).toInt64 - (1 : Int64)))])) _
        refine XS.lmul X41.here hx rfl (hb hby at_68) rfl ?_
        exact k
      have pre48 : ∀ t, Steps p.tables e below (T41.setTop (mkF m 76 #[.val (.int q0), .val (.int q1), .val (.int q2), .val (.int v34), .val (.int v39), .val (.int v42), .val (.long v44), .second, .val (.long v46), .second] [(.int (lcmpW v44 (v34).toInt64))])) t → Steps p.tables e below (s₁.setTop (entryFrame m #[(.int q0), (.int q1), (.int q2)] maxLocals)) t := by
        intro t k
        refine pre47 t ?_
        show Steps p.tables e below (T41.setTop (mkF m 69 #[.val (.int q0), .val (.int q1), .val (.int q2), .val (.int v34), .val (.int v39), .val (.int v42), .val (.long v44), .second, .unset, .unset] [(.long v46)])) _
        refine XS.lstore X41.here hx rfl (hb hby at_69) rfl (l' := #[.val (.int q0), .val (.int q1), .val (.int q2), .val (.int v34), .val (.int v39), .val (.int v42), .val (.long v44), .second, .val (.long v46), .second]) rfl ?_
        show Steps p.tables e below (T41.setTop (mkF m 71 #[.val (.int q0), .val (.int q1), .val (.int q2), .val (.int v34), .val (.int v39), .val (.int v42), .val (.long v44), .second, .val (.long v46), .second] [])) _
        refine XS.lload X41.here hx rfl (hb hby at_71) rfl ?_
        show Steps p.tables e below (T41.setTop (mkF m 73 #[.val (.int q0), .val (.int q1), .val (.int q2), .val (.int v34), .val (.int v39), .val (.int v42), .val (.long v44), .second, .val (.long v46), .second] [(.long v44)])) _
        refine XS.iloadN X41.here hx rfl (hb hby at_73) rfl ?_
        show Steps p.tables e below (T41.setTop (mkF m 74 #[.val (.int q0), .val (.int q1), .val (.int q2), .val (.int v34), .val (.int v39), .val (.int v42), .val (.long v44), .second, .val (.long v46), .second] [(.int v34), (.long v44)])) _
        refine XS.i2l X41.here hx rfl (hb hby at_74) rfl ?_
        show Steps p.tables e below (T41.setTop (mkF m 75 #[.val (.int q0), .val (.int q1), .val (.int q2), .val (.int v34), .val (.int v39), .val (.int v42), .val (.long v44), .second, .val (.long v46), .second] [(.long (v34).toInt64), (.long v44)])) _
        refine XS.lcmp X41.here hx rfl (hb hby at_75) rfl ?_
        exact k
      by_cases c49 : v44 < (v34).toInt64
      · obtain ⟨fs, hr, hrun, hended, hW, hsame⟩ := X41.leave (v := some (.int (0 : Int32))) (fun h => by rw [Bd.returns] at h; cases h) hlk
        refine ⟨_, _, pre48 _ ?_, hrun, hended, _, _, rfl, ?_, ⟨_, rfl⟩, hW, hsame.mono (by decide) (by decide)⟩
        · show Steps p.tables e below (T41.setTop (mkF m 76 #[.val (.int q0), .val (.int q1), .val (.int q2), .val (.int v34), .val (.int v39), .val (.int v42), .val (.long v44), .second, .val (.long v46), .second] [(.int (lcmpW v44 (v34).toInt64))])) _
          refine XS.ifYes X41.here hx rfl (pc0 := 76) (pc' := 91) rfl (hb hby at_76) rfl ((if0 _ _).trans (tlt ((lw_lt v44 (v34).toInt64).mpr c49)).1) (by decide) (by decide) ?_
          show Steps p.tables e below (T41.setTop (mkF m 91 #[.val (.int q0), .val (.int q1), .val (.int q2), .val (.int v34), .val (.int v39), .val (.int v42), .val (.long v44), .second, .val (.long v46), .second] [])) _
          refine XS.iconst X41.here hx rfl (hb hby at_91) ?_
          show Steps p.tables e below (T41.setTop (mkF m 92 #[.val (.int q0), .val (.int q1), .val (.int q2), .val (.int v34), .val (.int v39), .val (.int v42), .val (.long v44), .second, .val (.long v46), .second] [(.int (0 : Int32))])) _
          exact retN X41 hx (t := .boolean) Bd.returns (by simp) (hb hby at_92) hr
        · show Q0 Z q0 q1 q2 h0 n0 _ T41.heap _
          rw [e41]
          exact ⟨by have w_hv46 := hv46.symm; subst w_hv46; have w_hv44 := hv44.symm; subst w_hv44; have w_hv42 := hv42.symm; subst w_hv42; have w_hv39 := hv39.symm; subst w_hv39; have w_hv34 := hv34.symm; subst w_hv34; simp only [own_f0, if_neg c2, if_pos c37, if_pos c49], N41⟩
      · have pre50 : ∀ t, Steps p.tables e below (T41.setTop (mkF m 84 #[.val (.int q0), .val (.int q1), .val (.int q2), .val (.int v34), .val (.int v39), .val (.int v42), .val (.long v44), .second, .val (.long v46), .second] [(.int (lcmpW v46 (v34).toInt64))])) t → Steps p.tables e below (s₁.setTop (entryFrame m #[(.int q0), (.int q1), (.int q2)] maxLocals)) t := by
          intro t k
          refine pre48 t ?_
          show Steps p.tables e below (T41.setTop (mkF m 76 #[.val (.int q0), .val (.int q1), .val (.int q2), .val (.int v34), .val (.int v39), .val (.int v42), .val (.long v44), .second, .val (.long v46), .second] [(.int (lcmpW v44 (v34).toInt64))])) _
          refine XS.ifNo X41.here hx rfl (hb hby at_76) rfl ((if0 _ _).trans (flt (mt (lw_lt v44 (v34).toInt64).mp c49)).1) ?_
          show Steps p.tables e below (T41.setTop (mkF m 79 #[.val (.int q0), .val (.int q1), .val (.int q2), .val (.int v34), .val (.int v39), .val (.int v42), .val (.long v44), .second, .val (.long v46), .second] [])) _
          refine XS.lload X41.here hx rfl (hb hby at_79) rfl ?_
          show Steps p.tables e below (T41.setTop (mkF m 81 #[.val (.int q0), .val (.int q1), .val (.int q2), .val (.int v34), .val (.int v39), .val (.int v42), .val (.long v44), .second, .val (.long v46), .second] [(.long v46)])) _
          refine XS.iloadN X41.here hx rfl (hb hby at_81) rfl ?_
          show Steps p.tables e below (T41.setTop (mkF m 82 #[.val (.int q0), .val (.int q1), .val (.int q2), .val (.int v34), .val (.int v39), .val (.int v42), .val (.long v44), .second, .val (.long v46), .second] [(.int v34), (.long v46)])) _
          refine XS.i2l X41.here hx rfl (hb hby at_82) rfl ?_
          show Steps p.tables e below (T41.setTop (mkF m 83 #[.val (.int q0), .val (.int q1), .val (.int q2), .val (.int v34), .val (.int v39), .val (.int v42), .val (.long v44), .second, .val (.long v46), .second] [(.long (v34).toInt64), (.long v46)])) _
          refine XS.lcmp X41.here hx rfl (hb hby at_83) rfl ?_
          exact k
        by_cases c51 : v46 < (v34).toInt64
        · obtain ⟨fs, hr, hrun, hended, hW, hsame⟩ := X41.leave (v := some (.int (1 : Int32))) (fun h => by rw [Bd.returns] at h; cases h) hlk
          refine ⟨_, _, pre50 _ ?_, hrun, hended, _, _, rfl, ?_, ⟨_, rfl⟩, hW, hsame.mono (by decide) (by decide)⟩
          · show Steps p.tables e below (T41.setTop (mkF m 84 #[.val (.int q0), .val (.int q1), .val (.int q2), .val (.int v34), .val (.int v39), .val (.int v42), .val (.long v44), .second, .val (.long v46), .second] [(.int (lcmpW v46 (v34).toInt64))])) _
            refine XS.ifNo X41.here hx rfl (hb hby at_84) rfl ((if0 _ _).trans (tlt ((lw_lt v46 (v34).toInt64).mpr c51)).2.1) ?_
            show Steps p.tables e below (T41.setTop (mkF m 87 #[.val (.int q0), .val (.int q1), .val (.int q2), .val (.int v34), .val (.int v39), .val (.int v42), .val (.long v44), .second, .val (.long v46), .second] [])) _
            refine XS.iconst X41.here hx rfl (hb hby at_87) ?_
            show Steps p.tables e below (T41.setTop (mkF m 88 #[.val (.int q0), .val (.int q1), .val (.int q2), .val (.int v34), .val (.int v39), .val (.int v42), .val (.long v44), .second, .val (.long v46), .second] [(.int (1 : Int32))])) _
            refine XS.goto X41.here hx rfl (pc0 := 88) (pc' := 92) rfl (hb hby at_88) (by decide) (by decide) ?_
            show Steps p.tables e below (T41.setTop (mkF m 92 #[.val (.int q0), .val (.int q1), .val (.int q2), .val (.int v34), .val (.int v39), .val (.int v42), .val (.long v44), .second, .val (.long v46), .second] [(.int (1 : Int32))])) _
            exact retN X41 hx (t := .boolean) Bd.returns (by simp) (hb hby at_92) hr
          · show Q0 Z q0 q1 q2 h0 n0 _ T41.heap _
            rw [e41]
            exact ⟨by have w_hv46 := hv46.symm; subst w_hv46; have w_hv44 := hv44.symm; subst w_hv44; have w_hv42 := hv42.symm; subst w_hv42; have w_hv39 := hv39.symm; subst w_hv39; have w_hv34 := hv34.symm; subst w_hv34; simp only [own_f0, if_neg c2, if_pos c37, if_neg c49, if_pos c51], N41⟩
        · obtain ⟨fs, hr, hrun, hended, hW, hsame⟩ := X41.leave (v := some (.int (0 : Int32))) (fun h => by rw [Bd.returns] at h; cases h) hlk
          refine ⟨_, _, pre50 _ ?_, hrun, hended, _, _, rfl, ?_, ⟨_, rfl⟩, hW, hsame.mono (by decide) (by decide)⟩
          · show Steps p.tables e below (T41.setTop (mkF m 84 #[.val (.int q0), .val (.int q1), .val (.int q2), .val (.int v34), .val (.int v39), .val (.int v42), .val (.long v44), .second, .val (.long v46), .second] [(.int (lcmpW v46 (v34).toInt64))])) _
            refine XS.ifYes X41.here hx rfl (pc0 := 84) (pc' := 91) rfl (hb hby at_84) rfl ((if0 _ _).trans (flt (mt (lw_lt v46 (v34).toInt64).mp c51)).2.1) (by decide) (by decide) ?_
            show Steps p.tables e below (T41.setTop (mkF m 91 #[.val (.int q0), .val (.int q1), .val (.int q2), .val (.int v34), .val (.int v39), .val (.int v42), .val (.long v44), .second, .val (.long v46), .second] [])) _
            refine XS.iconst X41.here hx rfl (hb hby at_91) ?_
            show Steps p.tables e below (T41.setTop (mkF m 92 #[.val (.int q0), .val (.int q1), .val (.int q2), .val (.int v34), .val (.int v39), .val (.int v42), .val (.long v44), .second, .val (.long v46), .second] [(.int (0 : Int32))])) _
            exact retN X41 hx (t := .boolean) Bd.returns (by simp) (hb hby at_92) hr
          · show Q0 Z q0 q1 q2 h0 n0 _ T41.heap _
            rw [e41]
            exact ⟨by have w_hv46 := hv46.symm; subst w_hv46; have w_hv44 := hv44.symm; subst w_hv44; have w_hv42 := hv42.symm; subst w_hv42; have w_hv39 := hv39.symm; subst w_hv39; have w_hv34 := hv34.symm; subst w_hv34; simp only [own_f0, if_neg c2, if_pos c37, if_neg c49, if_neg c51], N41⟩
    · obtain ⟨v52, hv52⟩ : ∃ z : Int32, z = ((q1 &&& (7 : Int32)) + (1 : Int32)) := ⟨_, rfl⟩
      have pre53 : ∀ t, Steps p.tables e below (s₁.setTop (mkF m 41 #[.val (.int q0), .val (.int q1), .val (.int q2), .val (.int v34), .unset, .unset, .unset, .unset, .unset, .unset] [(.int v52)])) t → Steps p.tables e below (s₁.setTop (entryFrame m #[(.int q0), (.int q1), (.int q2)] maxLocals)) t := by
        rw [hv52]
        intro t k
        refine pre36 t ?_
        show Steps p.tables e below (s₁.setTop (mkF m 21 #[.val (.int q0), .val (.int q1), .val (.int q2), .val (.int v34), .unset, .unset, .unset, .unset, .unset, .unset] [(.int (q2 &&& (1 : Int32)))])) _
        refine XS.ifNo X0.here hx rfl (hb hby at_21) rfl ((if0 _ _).trans (feq c37).1) ?_
        show Steps p.tables e below (s₁.setTop (mkF m 24 #[.val (.int q0), .val (.int q1), .val (.int q2), .val (.int v34), .unset, .unset, .unset, .unset, .unset, .unset] [])) _
        refine XS.iloadN X0.here hx rfl (hb hby at_24) rfl ?_
        show Steps p.tables e below (s₁.setTop (mkF m 25 #[.val (.int q0), .val (.int q1), .val (.int q2), .val (.int v34), .unset, .unset, .unset, .unset, .unset, .unset] [(.int q1)])) _
        refine XS.bipush X0.here hx rfl (hb hby at_25) ?_
        show Steps p.tables e below (s₁.setTop (mkF m 27 #[.val (.int q0), .val (.int q1), .val (.int q2), .val (.int v34), .unset, .unset, .unset, .unset, .unset, .unset] [(.int (7 : Int32)), (.int q1)])) _
        refine XS.iand X0.here hx rfl (hb hby at_27) rfl ?_
        show Steps p.tables e below (s₁.setTop (mkF m 28 #[.val (.int q0), .val (.int q1), .val (.int q2), .val (.int v34), .unset, .unset, .unset, .unset, .unset, .unset] [(.int (q1 &&& (7 : Int32)))])) _
        refine XS.iconst X0.here hx rfl (hb hby at_28) ?_
        show Steps p.tables e below (s₁.setTop (mkF m 29 #[.val (.int q0), .val (.int q1), .val (.int q2), .val (.int v34), .unset, .unset, .unset, .unset, .unset, .unset] [(.int (1 : Int32)), (.int (q1 &&& (7 : Int32)))])) _
        refine XS.iadd X0.here hx rfl (hb hby at_29) rfl ?_
        show Steps p.tables e below (s₁.setTop (mkF m 30 #[.val (.int q0), .val (.int q1), .val (.int q2), .val (.int v34), .unset, .unset, .unset, .unset, .unset, .unset] [(.int ((q1 &&& (7 : Int32)) + (1 : Int32)))])) _
        refine XS.goto X0.here hx rfl (pc0 := 30) (pc' := 41) rfl (hb hby at_30) (by decide) (by decide) ?_
        exact k
      obtain ⟨_, _, ⟨T54, L54, k54, n54⟩, -, X54, ⟨Lc54, hQ54, l54, y54, z54⟩, st54⟩ := Jvm.LawKit.callS X0 hx (y := (⟨"com/example/displace/displace/Chd", "bucketCount", "(II)I"⟩ : MethodName)) hown (mvT hZ (hw _ (List.mem_of_getElem? (i := 5) rfl))) (mvT hZ (hw _ (List.mem_of_getElem? (i := 6) rfl))) (mvT hZ (hw _ (List.mem_of_getElem? (i := 7) rfl))) (mvT hZ (hw _ (List.mem_of_getElem? (i := 8) rfl))) (by decide) (backOf (W := 0) (rm2 l Z a0 hw [] v34 v52  h0 n0 Z0 (own_ge1 (by first | exact Or.inl (by assumption) | exact Or.inr (by assumption)))) hZ (hw _ (List.mem_of_getElem? (i := 8) rfl)) (hw _ (List.mem_of_getElem? (i := 7) rfl)) (by decide) (by decide)) (g := (mkF m 46 #[.val (.int q0), .val (.int q1), .val (.int q2), .val (.int v34), .val (.int v52), .unset, .unset, .unset, .unset, .unset] [(.int v52), (.int v34)])) rfl (by rw [hml]; rfl) (argsL := [(.int v34), (.int v52)]) (rest := []) (lenOf pd_4 rfl) rfl (by show 2 * 0 + _ ≤ _; exact Nat.le_of_eq rfl) (hb hby at_46) (fun _ _ => ⟨rfl, e0, (by decide : 0 + 0 ≤ _), (by decide : 0 + 0 ≤ _)⟩)
      dsimp only [Pt.U, Pt.locs, Pt.cells, Pt.slots] at X54 l54 y54 z54 st54 hQ54
      subst l54 y54 z54
      obtain ⟨rfl, N54q, e54⟩ := hQ54
      have N54 := Fr.app N0 N54q
      obtain ⟨v55, hv55⟩ : ∃ z : Int32, z = (own_f2 v34 v52) := ⟨_, rfl⟩
      have pre56 : ∀ t, Steps p.tables e below (T54.setTop (mkF m 49 #[.val (.int q0), .val (.int q1), .val (.int q2), .val (.int v34), .val (.int v52), .unset, .unset, .unset, .unset, .unset] [(.int v55)])) t → Steps p.tables e below (s₁.setTop (entryFrame m #[(.int q0), (.int q1), (.int q2)] maxLocals)) t := by
        rw [hv55]
        intro t k
        refine pre53 t ?_
        show Steps p.tables e below (s₁.setTop (mkF m 41 #[.val (.int q0), .val (.int q1), .val (.int q2), .val (.int v34), .unset, .unset, .unset, .unset, .unset, .unset] [(.int v52)])) _
        refine XS.istore X0.here hx rfl (hb hby at_41) rfl (l' := #[.val (.int q0), .val (.int q1), .val (.int q2), .val (.int v34), .val (.int v52), .unset, .unset, .unset, .unset, .unset]) rfl ?_
        show Steps p.tables e below (s₁.setTop (mkF m 43 #[.val (.int q0), .val (.int q1), .val (.int q2), .val (.int v34), .val (.int v52), .unset, .unset, .unset, .unset, .unset] [])) _
        refine XS.iloadN X0.here hx rfl (hb hby at_43) rfl ?_
        show Steps p.tables e below (s₁.setTop (mkF m 44 #[.val (.int q0), .val (.int q1), .val (.int q2), .val (.int v34), .val (.int v52), .unset, .unset, .unset, .unset, .unset] [(.int v34)])) _
        refine XS.iload X0.here hx rfl (hb hby at_44) rfl ?_
        show Steps p.tables e below (s₁.setTop (mkF m 46 #[.val (.int q0), .val (.int q1), .val (.int q2), .val (.int v34), .val (.int v52), .unset, .unset, .unset, .unset, .unset] [(.int v52), (.int v34)])) _
        refine st54 _ ?_
        exact k
      obtain ⟨v57, hv57⟩ : ∃ z : Int64, z = ((v55).toInt64 * (v52).toInt64) := ⟨_, rfl⟩
      have pre58 : ∀ t, Steps p.tables e below (T54.setTop (mkF m 58 #[.val (.int q0), .val (.int q1), .val (.int q2), .val (.int v34), .val (.int v52), .val (.int v55), .unset, .unset, .unset, .unset] [(.long v57)])) t → Steps p.tables e below (s₁.setTop (entryFrame m #[(.int q0), (.int q1), (.int q2)] maxLocals)) t := by
        rw [hv57]
        intro t k
        refine pre56 t ?_
        show Steps p.tables e below (T54.setTop (mkF m 49 #[.val (.int q0), .val (.int q1), .val (.int q2), .val (.int v34), .val (.int v52), .unset, .unset, .unset, .unset, .unset] [(.int v55)])) _
        refine XS.istore X54.here hx rfl (hb hby at_49) rfl (l' := #[.val (.int q0), .val (.int q1), .val (.int q2), .val (.int v34), .val (.int v52), .val (.int v55), .unset, .unset, .unset, .unset]) rfl ?_
        show Steps p.tables e below (T54.setTop (mkF m 51 #[.val (.int q0), .val (.int q1), .val (.int q2), .val (.int v34), .val (.int v52), .val (.int v55), .unset, .unset, .unset, .unset] [])) _
        refine XS.iload X54.here hx rfl (hb hby at_51) rfl ?_
        show Steps p.tables e below (T54.setTop (mkF m 53 #[.val (.int q0), .val (.int q1), .val (.int q2), .val (.int v34), .val (.int v52), .val (.int v55), .unset, .unset, .unset, .unset] [(.int v55)])) _
        refine XS.i2l X54.here hx rfl (hb hby at_53) rfl ?_
        show Steps p.tables e below (T54.setTop (mkF m 54 #[.val (.int q0), .val (.int q1), .val (.int q2), .val (.int v34), .val (.int v52), .val (.int v55), .unset, .unset, .unset, .unset] [(.long (v55).toInt64)])) _
        refine XS.iload X54.here hx rfl (hb hby at_54) rfl ?_
        show Steps p.tables e below (T54.setTop (mkF m 56 #[.val (.int q0), .val (.int q1), .val (.int q2), .val (.int v34), .val (.int v52), .val (.int v55), .unset, .unset, .unset, .unset] [(.int v52), (.long (v55).toInt64)])) _
        refine XS.i2l X54.here hx rfl (hb hby at_56) rfl ?_
        show Steps p.tables e below (T54.setTop (mkF m 57 #[.val (.int q0), .val (.int q1), .val (.int q2), .val (.int v34), .val (.int v52), .val (.int v55), .unset, .unset, .unset, .unset] [(.long (v52).toInt64), (.long (v55).toInt64)])) _
        refine XS.lmul X54.here hx rfl (hb hby at_57) rfl ?_
        exact k
      obtain ⟨v59, hv59⟩ : ∃ z : Int64, z = (((v55).toInt64 - (1 : Int64)) * (v52).toInt64) := ⟨_, rfl⟩
      have pre60 : ∀ t, Steps p.tables e below (T54.setTop (mkF m 69 #[.val (.int q0), .val (.int q1), .val (.int q2), .val (.int v34), .val (.int v52), .val (.int v55), .val (.long v57), .second, .unset, .unset] [(.long v59)])) t → Steps p.tables e below (s₁.setTop (entryFrame m #[(.int q0), (.int q1), (.int q2)] maxLocals)) t := by
        rw [hv59]
        intro t k
        refine pre58 t ?_
        show Steps p.tables e below (T54.setTop (mkF m 58 #[.val (.int q0), .val (.int q1), .val (.int q2), .val (.int v34), .val (.int v52), .val (.int v55), .unset, .unset, .unset, .unset] [(.long v57)])) _
        refine XS.lstore X54.here hx rfl (hb hby at_58) rfl (l' := #[.val (.int q0), .val (.int q1), .val (.int q2), .val (.int v34), .val (.int v52), .val (.int v55), .val (.long v57), .second, .unset, .unset]) rfl ?_
        show Steps p.tables e below (T54.setTop (mkF m 60 #[.val (.int q0), .val (.int q1), .val (.int q2), .val (.int v34), .val (.int v52), .val (.int v55), .val (.long v57), .second, .unset, .unset] [])) _
        refine XS.iload X54.here hx rfl (hb hby at_60) rfl ?_
        show Steps p.tables e below (T54.setTop (mkF m 62 #[.val (.int q0), .val (.int q1), .val (.int q2), .val (.int v34), .val (.int v52), .val (.int v55), .val (.long v57), .second, .unset, .unset] [(.int v55)])) _
        refine XS.i2l X54.here hx rfl (hb hby at_62) rfl ?_
        show Steps p.tables e below (T54.setTop (mkF m 63 #[.val (.int q0), .val (.int q1), .val (.int q2), .val (.int v34), .val (.int v52), .val (.int v55), .val (.long v57), .second, .unset, .unset] [(.long (v55).toInt64)])) _
        refine XS.lconst X54.here hx rfl (hb hby at_63) ?_
        show Steps p.tables e below (T54.setTop (mkF m 64 #[.val (.int q0), .val (.int q1), .val (.int q2), .val (.int v34), .val (.int v52), .val (.int v55), .val (.long v57), .second, .unset, .unset] [(.long (1 : Int64)), (.long (v55).toInt64)])) _
        refine XS.lsub X54.here hx rfl (hb hby at_64) rfl ?_
        show Steps p.tables e below (T54.setTop (mkF m 65 #[.val (.int q0), .val (.int q1), .val (.int q2), .val (.int v34), .val (.int v52), .val (.int v55), .val (.long v57), .second, .unset, .unset] [(.long ((v55).toInt64 - (1 : Int64)))])) _
        refine XS.iload X54.here hx rfl (hb hby at_65) rfl ?_
        show Steps p.tables e below (T54.setTop (mkF m 67 #[.val (.int q0), .val (.int q1), .val (.int q2), .val (.int v34), .val (.int v52), .val (.int v55), .val (.long v57), .second, .unset, .unset] [(.int v52), (.long ((v55).toInt64 - (1 : Int64)))])) _
        refine XS.i2l X54.here hx rfl (hb hby at_67) rfl ?_
        show Steps p.tables e below (T54.setTop (mkF m 68 #[.val (.int q0), .val (.int q1), .val (.int q2), .val (.int v34), .val (.int v52), .val (.int v55), .val (.long v57), .second, .unset, .unset] [(.long (v52).toInt64), (.long ((v55).toInt64 - (1 : Int64)))])) _
        refine XS.lmul X54.here hx rfl (hb hby at_68) rfl ?_
        exact k
      have pre61 : ∀ t, Steps p.tables e below (T54.setTop (mkF m 76 #[.val (.int q0), .val (.int q1), .val (.int q2), .val (.int v34), .val (.int v52), .val (.int v55), .val (.long v57), .second, .val (.long v59), .second] [(.int (lcmpW v57 (v34).toInt64))])) t → Steps p.tables e below (s₁.setTop (entryFrame m #[(.int q0), (.int q1), (.int q2)] maxLocals)) t := by
        intro t k
        refine pre60 t ?_
        show Steps p.tables e below (T54.setTop (mkF m 69 #[.val (.int q0), .val (.int q1), .val (.int q2), .val (.int v34), .val (.int v52), .val (.int v55), .val (.long v57), .second, .unset, .unset] [(.long v59)])) _
        refine XS.lstore X54.here hx rfl (hb hby at_69) rfl (l' := #[.val (.int q0), .val (.int q1), .val (.int q2), .val (.int v34), .val (.int v52), .val (.int v55), .val (.long v57), .second, .val (.long v59), .second]) rfl ?_
        show Steps p.tables e below (T54.setTop (mkF m 71 #[.val (.int q0), .val (.int q1), .val (.int q2), .val (.int v34), .val (.int v52), .val (.int v55), .val (.long v57), .second, .val (.long v59), .second] [])) _
        refine XS.lload X54.here hx rfl (hb hby at_71) rfl ?_
        show Steps p.tables e below (T54.setTop (mkF m 73 #[.val (.int q0), .val (.int q1), .val (.int q2), .val (.int v34), .val (.int v52), .val (.int v55), .val (.long v57), .second, .val (.long v59), .second] [(.long v57)])) _
        refine XS.iloadN X54.here hx rfl (hb hby at_73) rfl ?_
        show Steps p.tables e below (T54.setTop (mkF m 74 #[.val (.int q0), .val (.int q1), .val (.int q2), .val (.int v34), .val (.int v52), .val (.int v55), .val (.long v57), .second, .val (.long v59), .second] [(.int v34), (.long v57)])) _
        refine XS.i2l X54.here hx rfl (hb hby at_74) rfl ?_
        show Steps p.tables e below (T54.setTop (mkF m 75 #[.val (.int q0), .val (.int q1), .val (.int q2), .val (.int v34), .val (.int v52), .val (.int v55), .val (.long v57), .second, .val (.long v59), .second] [(.long (v34).toInt64), (.long v57)])) _
        refine XS.lcmp X54.here hx rfl (hb hby at_75) rfl ?_
        exact k
      by_cases c62 : v57 < (v34).toInt64
      · obtain ⟨fs, hr, hrun, hended, hW, hsame⟩ := X54.leave (v := some (.int (0 : Int32))) (fun h => by rw [Bd.returns] at h; cases h) hlk
        refine ⟨_, _, pre61 _ ?_, hrun, hended, _, _, rfl, ?_, ⟨_, rfl⟩, hW, hsame.mono (by decide) (by decide)⟩
        · show Steps p.tables e below (T54.setTop (mkF m 76 #[.val (.int q0), .val (.int q1), .val (.int q2), .val (.int v34), .val (.int v52), .val (.int v55), .val (.long v57), .second, .val (.long v59), .second] [(.int (lcmpW v57 (v34).toInt64))])) _
          refine XS.ifYes X54.here hx rfl (pc0 := 76) (pc' := 91) rfl (hb hby at_76) rfl ((if0 _ _).trans (tlt ((lw_lt v57 (v34).toInt64).mpr c62)).1) (by decide) (by decide) ?_
          show Steps p.tables e below (T54.setTop (mkF m 91 #[.val (.int q0), .val (.int q1), .val (.int q2), .val (.int v34), .val (.int v52), .val (.int v55), .val (.long v57), .second, .val (.long v59), .second] [])) _
          refine XS.iconst X54.here hx rfl (hb hby at_91) ?_
          show Steps p.tables e below (T54.setTop (mkF m 92 #[.val (.int q0), .val (.int q1), .val (.int q2), .val (.int v34), .val (.int v52), .val (.int v55), .val (.long v57), .second, .val (.long v59), .second] [(.int (0 : Int32))])) _
          exact retN X54 hx (t := .boolean) Bd.returns (by simp) (hb hby at_92) hr
        · show Q0 Z q0 q1 q2 h0 n0 _ T54.heap _
          rw [e54]
          exact ⟨by have w_hv59 := hv59.symm; subst w_hv59; have w_hv57 := hv57.symm; subst w_hv57; have w_hv55 := hv55.symm; subst w_hv55; have w_hv52 := hv52.symm; subst w_hv52; have w_hv34 := hv34.symm; subst w_hv34; simp only [own_f0, if_neg c2, if_neg c37, if_pos c62], N54⟩
      · have pre63 : ∀ t, Steps p.tables e below (T54.setTop (mkF m 84 #[.val (.int q0), .val (.int q1), .val (.int q2), .val (.int v34), .val (.int v52), .val (.int v55), .val (.long v57), .second, .val (.long v59), .second] [(.int (lcmpW v59 (v34).toInt64))])) t → Steps p.tables e below (s₁.setTop (entryFrame m #[(.int q0), (.int q1), (.int q2)] maxLocals)) t := by
          intro t k
          refine pre61 t ?_
          show Steps p.tables e below (T54.setTop (mkF m 76 #[.val (.int q0), .val (.int q1), .val (.int q2), .val (.int v34), .val (.int v52), .val (.int v55), .val (.long v57), .second, .val (.long v59), .second] [(.int (lcmpW v57 (v34).toInt64))])) _
          refine XS.ifNo X54.here hx rfl (hb hby at_76) rfl ((if0 _ _).trans (flt (mt (lw_lt v57 (v34).toInt64).mp c62)).1) ?_
          show Steps p.tables e below (T54.setTop (mkF m 79 #[.val (.int q0), .val (.int q1), .val (.int q2), .val (.int v34), .val (.int v52), .val (.int v55), .val (.long v57), .second, .val (.long v59), .second] [])) _
          refine XS.lload X54.here hx rfl (hb hby at_79) rfl ?_
          show Steps p.tables e below (T54.setTop (mkF m 81 #[.val (.int q0), .val (.int q1), .val (.int q2), .val (.int v34), .val (.int v52), .val (.int v55), .val (.long v57), .second, .val (.long v59), .second] [(.long v59)])) _
          refine XS.iloadN X54.here hx rfl (hb hby at_81) rfl ?_
          show Steps p.tables e below (T54.setTop (mkF m 82 #[.val (.int q0), .val (.int q1), .val (.int q2), .val (.int v34), .val (.int v52), .val (.int v55), .val (.long v57), .second, .val (.long v59), .second] [(.int v34), (.long v59)])) _
          refine XS.i2l X54.here hx rfl (hb hby at_82) rfl ?_
          show Steps p.tables e below (T54.setTop (mkF m 83 #[.val (.int q0), .val (.int q1), .val (.int q2), .val (.int v34), .val (.int v52), .val (.int v55), .val (.long v57), .second, .val (.long v59), .second] [(.long (v34).toInt64), (.long v59)])) _
          refine XS.lcmp X54.here hx rfl (hb hby at_83) rfl ?_
          exact k
        by_cases c64 : v59 < (v34).toInt64
        · obtain ⟨fs, hr, hrun, hended, hW, hsame⟩ := X54.leave (v := some (.int (1 : Int32))) (fun h => by rw [Bd.returns] at h; cases h) hlk
          refine ⟨_, _, pre63 _ ?_, hrun, hended, _, _, rfl, ?_, ⟨_, rfl⟩, hW, hsame.mono (by decide) (by decide)⟩
          · show Steps p.tables e below (T54.setTop (mkF m 84 #[.val (.int q0), .val (.int q1), .val (.int q2), .val (.int v34), .val (.int v52), .val (.int v55), .val (.long v57), .second, .val (.long v59), .second] [(.int (lcmpW v59 (v34).toInt64))])) _
            refine XS.ifNo X54.here hx rfl (hb hby at_84) rfl ((if0 _ _).trans (tlt ((lw_lt v59 (v34).toInt64).mpr c64)).2.1) ?_
            show Steps p.tables e below (T54.setTop (mkF m 87 #[.val (.int q0), .val (.int q1), .val (.int q2), .val (.int v34), .val (.int v52), .val (.int v55), .val (.long v57), .second, .val (.long v59), .second] [])) _
            refine XS.iconst X54.here hx rfl (hb hby at_87) ?_
            show Steps p.tables e below (T54.setTop (mkF m 88 #[.val (.int q0), .val (.int q1), .val (.int q2), .val (.int v34), .val (.int v52), .val (.int v55), .val (.long v57), .second, .val (.long v59), .second] [(.int (1 : Int32))])) _
            refine XS.goto X54.here hx rfl (pc0 := 88) (pc' := 92) rfl (hb hby at_88) (by decide) (by decide) ?_
            show Steps p.tables e below (T54.setTop (mkF m 92 #[.val (.int q0), .val (.int q1), .val (.int q2), .val (.int v34), .val (.int v52), .val (.int v55), .val (.long v57), .second, .val (.long v59), .second] [(.int (1 : Int32))])) _
            exact retN X54 hx (t := .boolean) Bd.returns (by simp) (hb hby at_92) hr
          · show Q0 Z q0 q1 q2 h0 n0 _ T54.heap _
            rw [e54]
            exact ⟨by have w_hv59 := hv59.symm; subst w_hv59; have w_hv57 := hv57.symm; subst w_hv57; have w_hv55 := hv55.symm; subst w_hv55; have w_hv52 := hv52.symm; subst w_hv52; have w_hv34 := hv34.symm; subst w_hv34; simp only [own_f0, if_neg c2, if_neg c37, if_neg c62, if_pos c64], N54⟩
        · obtain ⟨fs, hr, hrun, hended, hW, hsame⟩ := X54.leave (v := some (.int (0 : Int32))) (fun h => by rw [Bd.returns] at h; cases h) hlk
          refine ⟨_, _, pre63 _ ?_, hrun, hended, _, _, rfl, ?_, ⟨_, rfl⟩, hW, hsame.mono (by decide) (by decide)⟩
          · show Steps p.tables e below (T54.setTop (mkF m 84 #[.val (.int q0), .val (.int q1), .val (.int q2), .val (.int v34), .val (.int v52), .val (.int v55), .val (.long v57), .second, .val (.long v59), .second] [(.int (lcmpW v59 (v34).toInt64))])) _
            refine XS.ifYes X54.here hx rfl (pc0 := 84) (pc' := 91) rfl (hb hby at_84) rfl ((if0 _ _).trans (flt (mt (lw_lt v59 (v34).toInt64).mp c64)).2.1) (by decide) (by decide) ?_
            show Steps p.tables e below (T54.setTop (mkF m 91 #[.val (.int q0), .val (.int q1), .val (.int q2), .val (.int v34), .val (.int v52), .val (.int v55), .val (.long v57), .second, .val (.long v59), .second] [])) _
            refine XS.iconst X54.here hx rfl (hb hby at_91) ?_
            show Steps p.tables e below (T54.setTop (mkF m 92 #[.val (.int q0), .val (.int q1), .val (.int q2), .val (.int v34), .val (.int v52), .val (.int v55), .val (.long v57), .second, .val (.long v59), .second] [(.int (0 : Int32))])) _
            exact retN X54 hx (t := .boolean) Bd.returns (by simp) (hb hby at_92) hr
          · show Q0 Z q0 q1 q2 h0 n0 _ T54.heap _
            rw [e54]
            exact ⟨by have w_hv59 := hv59.symm; subst w_hv59; have w_hv57 := hv57.symm; subst w_hv57; have w_hv55 := hv55.symm; subst w_hv55; have w_hv52 := hv52.symm; subst w_hv52; have w_hv34 := hv34.symm; subst w_hv34; simp only [own_f0, if_neg c2, if_neg c37, if_neg c62, if_neg c64], N54⟩
theorem own_core (k n : Int32) (hk : 0 ≤ k.toInt) (hn : 1 ≤ n.toInt) (b : Int32) (hb : b = own_f2 k n) :
    (if b.toInt64 * n.toInt64 < k.toInt64 then (0 : Int32) else (if (b.toInt64 - (1 : Int64)) * n.toInt64 < k.toInt64 then (1 : Int32) else (0 : Int32))) = 1 := by
  have rk := own_r32 k
  have rn := own_r32 n
  have ek := own_i2l k
  have en := own_i2l n
  have eb := own_i2l b
  have o1 : (1 : Int64).toInt = 1 := by decide
  have a1 := own_ladd (x := k.toInt64) (y := n.toInt64) (by omega)
  have a2 := own_lsub (x := k.toInt64 + n.toInt64) (y := 1) (by omega)
  have a3 := own_ldiv (x := k.toInt64 + n.toInt64 - 1) (y := n.toInt64) (by omega) (by omega)
  rw [a2, a1, ek, en, o1] at a3
  have m := Int.mul_ediv_add_emod (k.toInt + n.toInt - 1) n.toInt
  have m1 := Int.emod_nonneg (k.toInt + n.toInt - 1) (show n.toInt ≠ 0 by omega)
  have m2 := Int.emod_lt_of_pos (k.toInt + n.toInt - 1) (show 0 < n.toInt by omega)
  have q0 : 0 ≤ (k.toInt + n.toInt - 1) / n.toInt := Int.ediv_nonneg (by omega) (by omega)
  have q1 : (k.toInt + n.toInt - 1) / n.toInt ≤ k.toInt := by
    apply Int.le_of_lt_add_one
    apply Int.ediv_lt_of_lt_mul (by omega)
    have : k.toInt * 1 ≤ k.toInt * n.toInt := Int.mul_le_mul_of_nonneg_left hn hk
    have h2 : (k.toInt + 1) * n.toInt = k.toInt * n.toInt + n.toInt := by rw [Int.add_mul, Int.one_mul]
    omega
  generalize (k.toInt + n.toInt - 1) / n.toInt = Q at *
  generalize (k.toInt + n.toInt - 1) % n.toInt = Rm at *
  have l := own_l2i (x := (k.toInt64 + n.toInt64 - 1) / n.toInt64) (by omega)
  have hbq : b.toInt = Q := by rw [hb]; simp only [own_f2]; omega
  have c1 : b.toInt * n.toInt = n.toInt * Q := by rw [hbq, Int.mul_comm]
  have p0 : 0 ≤ n.toInt * Q := Int.mul_nonneg (by omega) q0
  have s := own_lsub (x := b.toInt64) (y := 1) (by omega)
  have c2 : (b.toInt - 1) * n.toInt = n.toInt * Q - n.toInt := by rw [Int.sub_mul, Int.one_mul, c1]
  have j1 := own_lmul (x := b.toInt64) (y := n.toInt64) (by rw [eb, en]; omega)
  have j2 := own_lmul (x := b.toInt64 - 1) (y := n.toInt64) (by rw [s, eb, en, o1]; omega)
  rw [eb, en, c1] at j1
  rw [s, eb, en, o1, c2] at j2
  simp only [Int64.lt_iff_toInt_lt]
  rw [if_neg (by omega), if_pos (by omega)]
theorem own_plain (q0 q1 q2 : Int32) : own_f0 q0 q1 q2 = 1 := by
  have a := own_mask q0 2147483647 31 (by decide) (by decide)
  have b := own_mask q0 63 6 (by decide) (by decide)
  simp only [own_f0]
  split
  · split
    · exact own_core _ _ (by omega) (own_big q1) _ rfl
    · exact own_core _ _ (by omega) (own_small q1) _ rfl
  · split
    · exact own_core _ _ (by omega) (own_big q1) _ rfl
    · exact own_core _ _ (by omega) (own_small q1) _ rfl

set_option maxRecDepth 65536 in
set_option maxHeartbeats 40000000 in
theorem comes_1 {Post : Tables → Env → Array Value → State → Outcome → State → Prop} (hpost : ∀ tb e args s v u, (limb_1_1.after args s (.returned v) u = true ∧ limb_1_2.after args s (.returned v) u = true ∧ True) → FrameEnd s (.returned v) u (Jvm.fieldLocs frame_1_writes args s ++ Jvm.arrayLocs frame_1_arrays args s ++ Jvm.staticLocs frame_1_statics s) 0 0 → Post tb e args s (.returned v) u) :
    ArmFor flags0 classFile x code maxLocals ret World_1 tables_1 room_1 Calls_1 rest_1 Pre_1 Post := by
  intro l hfl _ _ p e ha hc hk s m args below hf hA hF happ hP
  obtain ⟨hcalls, hrest, hpre⟩ := hP
  obtain ⟨-, -, -, hnamed, -, -, -, hat⟩ := (Spec.applies_iff hf).mp happ
  obtain ⟨hg, hn⟩ := and_e (Cond.before_iff.mp (show (Jvm.Cond.and given_1 narrow_1).before args s = true from hpre))
  obtain ⟨gc, gr0⟩ := and_e hg
  obtain ⟨w0, w1, w2, rfl⟩ : ∃ w0 w1 w2 : Value, args = #[w0, w1, w2] := by
    have hs : args.size = 3 := by simpa [Cond.value, given_1] using gc
    obtain ⟨L⟩ := args
    match L, hs with
    | [w0, w1, w2], _ => exact ⟨w0, w1, w2, rfl⟩
  have hw := fun d (hd : d ∈ tables_1) => atoms_spec (ws := Jvm.Cond.code x code maxLocals ret :: tables_1) hat d (List.mem_cons_of_mem _ hd)
  obtain ⟨g0, gr1⟩ := and_e gr0
  obtain ⟨i0, ei0⟩ := is_v g0
  obtain rfl : w0 = (.int i0) := Option.some.inj ei0
  obtain ⟨g1, gr2⟩ := and_e gr1
  obtain ⟨i1, ei1⟩ := is_v g1
  obtain rfl : w1 = (.int i1) := Option.some.inj ei1
  obtain ⟨i2, ei2⟩ := is_v gr2
  obtain rfl : w2 = (.int i2) := Option.some.inj ei2
  obtain ⟨n, o, h1, h2, h3, _, L, rfl, ⟨hv, N⟩, hq⟩ := rm0 l s _ hw tables_1 i0 i1 i2 s.heap s.heap.size (Nat.le_refl _) p e ha hc hk s m _ below hf ((Spec.applies_iff_loose hf).mp happ).1 ⟨rfl, State.Warmed39.refl s, rfl⟩ trivial
  rw [own_plain] at hv
  subst hv
  refine ⟨n, _, h1, h2, h3, hpost _ _ _ _ _ _ ⟨Cond.after_iff.mpr rfl, Cond.after_iff.mpr (eq_i res_at (Term.int_eval (1)) rfl), trivial⟩ ⟨hq.1, hq.2.1, (hq.2.2.sift fun y hy => Or.inr (N y hy)).mono (by decide) (by decide)⟩⟩
theorem main_1_1 : Claimed_1_1 := comes_1 fun _ _ _ _ _ _ h hF => ⟨h.1, hF⟩
theorem main_1_2 : Claimed_1_2 := comes_1 fun _ _ _ _ _ _ h hF => ⟨h.2.1, hF⟩
end Jvm.Pilot.@@N@@
namespace Jvm.Pilot.@@N@@
open Jvm Jvm.ClassFile Sem Op Lib Jvm.Free Jvm.Stand Jvm.Pilot.@@N@@.Jvm.D
/-! MADE BY PROGRAM (witnessworld.py) out of the Statement's table words and the real class files: 11 classes; the members and pool entries that the words name. The judged class is class 1, her method 1. -/
namespace start1
open Jvm.ClassFile
def u (s : String) : CpInfo := .utf8 (stringToUtf16 s)
/-- a pool by its gaps: so many unusable entries, then the entry; so many at the end -/
def gap : Nat → List CpInfo → List CpInfo
  | 0, r => r
  | n + 1, r => .unusable :: gap n r
def poolList (es : List (Nat × CpInfo)) (last : Nat) : List CpInfo := es.foldr (fun e r => gap e.1 (e.2 :: r)) (gap last [])
def pool (es : List (Nat × CpInfo)) (last : Nat) : Array CpInfo := ⟨poolList es last⟩
def fileOf (pool : Array CpInfo) (this : Nat) (attrs : Array Attribute := #[]) (ms : Array MethodInfo := #[]) (fl : Nat := 33) (sup : Nat := 0) (ifs : Array Nat := #[]) (fds : Array FieldInfo := #[]) : ClassFile where
  minorVersion := 0
  majorVersion := 65
  constantPool := pool
  accessFlags := fl
  thisClass := this
  superClass := sup
  interfaces := ifs
  fields := fds
  methods := ms
  attributes := attrs
def plain (name : String) (sup : Option ClassId) : Class where
  name := name
  kind := .ordinary
  loader := none
  accessFlags := 33
  super := sup
  interfaces := #[]
  cf := none
  fields := #[]
  methods := #[]
  instanceTypes := #[]
  staticTypes := #[]
  resolved := #[]
  callSites := []
  init := .initialized
  statics := none
  mirror := none

def pool0 : Array CpInfo := pool [(5, u "<init>"), (0, u "()V"), (1, .class_ 10), (1, u "java/lang/Object")] 113

def k0m0 : Method := { name := "<init>", desc := "()V", sig := { parameters := [], returnType := none }, accessFlags := 1, code := none }
/-- java/lang/Object -/
def k0 : Class := { plain "java/lang/Object" none with
  accessFlags := 33
  interfaces := #[]
  cf := some (fileOf pool0 8 #[] #[{ accessFlags := 1, nameIndex := 5, descriptorIndex := 6, attributes := #[] }] 33 0 #[] #[])
  fields := #[]
  methods := #[k0m0]
  instanceTypes := #[]
  staticTypes := #[]
  resolved := Array.replicate 124 none
  statics := none }

def pool1 : Array CpInfo := pool [(2, .class_ 4), (1, u "java/lang/Object"), (0, u "<init>"), (0, u "()V"), (0, .integer 2147483647), (0, .methodref 9 10), (0, .class_ 11), (0, .nameAndType 12 13), (0, u "java/lang/Math"), (0, u "max"), (0, u "(II)I"), (0, .methodref 15 16), (0, .class_ 17), (0, .nameAndType 18 13), (0, u "com/example/displace/displace/Chd"), (0, u "bucketCount"), (0, .class_ 20), (0, u "com/example/displace/displace/ChdBucketCountPinLaw"), (2, u "law"), (0, u "(III)Z")] 3

def k1m0 : Method := { name := "<init>", desc := "()V", sig := { parameters := [], returnType := none }, accessFlags := 2, code := none }
def k1c1 : Code := { maxStack := 4, maxLocals := 10, code := code, exceptionTable := #[], attributes := #[] }
def k1m1 : Method := { name := "law", desc := "(III)Z", sig := { parameters := [.int, .int, .int], returnType := some .boolean }, accessFlags := 9, code := some k1c1 }
/-- com/example/displace/displace/ChdBucketCountPinLaw -/
def k1 : Class := { plain "com/example/displace/displace/ChdBucketCountPinLaw" (some 0) with
  accessFlags := 49
  interfaces := #[]
  cf := some (fileOf pool1 19 #[] #[{ accessFlags := 2, nameIndex := 5, descriptorIndex := 6, attributes := #[] }, { accessFlags := 9, nameIndex := 23, descriptorIndex := 24, attributes := #[] }] 49 2 #[] #[])
  fields := #[]
  methods := #[k1m0, k1m1]
  instanceTypes := #[]
  staticTypes := #[]
  resolved := Array.replicate 28 none
  statics := none }

def pool2 : Array CpInfo := pool [(1, .class_ 2), (0, u "java/lang/Math"), (1, .class_ 6), (1, u "java/lang/Object"), (0, u "<init>"), (0, u "()V"), (89, .class_ 100), (1, u "java/lang/Math$RandomNumberGeneratorHolder"), (71, u "negativeZeroFloatBits"), (0, u "J"), (2, u "negativeZeroDoubleBits"), (21, u "max"), (46, u "$assertionsDisabled"), (0, u "Z"), (88, u "(II)I"), (2, u "twoToTheDoubleScaleDown"), (0, u "D"), (4, u "twoToTheDoubleScaleUp"), (9, u "E"), (3, u "PI"), (2, u "TAU"), (2, u "DEGREES_TO_RADIANS"), (0, u "RADIANS_TO_DEGREES")] 94

def k2m0 : Method := { name := "<init>", desc := "()V", sig := { parameters := [], returnType := none }, accessFlags := 2, code := none }
def k2c1 : Code := { maxStack := 2, maxLocals := 2, code := jdk_29_method_65_code, exceptionTable := #[], attributes := #[] }
def k2m1 : Method := { name := "max", desc := "(II)I", sig := { parameters := [.int, .int], returnType := some .int }, accessFlags := 9, code := some k2c1 }
/-- java/lang/Math -/
def k2 : Class := { plain "java/lang/Math" (some 0) with
  accessFlags := 49
  interfaces := #[]
  cf := some (fileOf pool2 1 #[.nestMembers #[98]] #[{ accessFlags := 2, nameIndex := 7, descriptorIndex := 8, attributes := #[] }, { accessFlags := 9, nameIndex := 198, descriptorIndex := 335, attributes := #[] }] 49 4 #[] #[{ accessFlags := 25, nameIndex := 354, descriptorIndex := 339, attributes := #[] }, { accessFlags := 25, nameIndex := 358, descriptorIndex := 339, attributes := #[] }, { accessFlags := 25, nameIndex := 361, descriptorIndex := 339, attributes := #[] }, { accessFlags := 26, nameIndex := 364, descriptorIndex := 339, attributes := #[] }, { accessFlags := 26, nameIndex := 365, descriptorIndex := 339, attributes := #[] }, { accessFlags := 26, nameIndex := 172, descriptorIndex := 173, attributes := #[] }, { accessFlags := 26, nameIndex := 176, descriptorIndex := 173, attributes := #[] }, { accessFlags := 8, nameIndex := 344, descriptorIndex := 339, attributes := #[] }, { accessFlags := 8, nameIndex := 338, descriptorIndex := 339, attributes := #[] }, { accessFlags := 4120, nameIndex := 245, descriptorIndex := 246, attributes := #[] }])
  fields := #[{ name := "E", type := .double, accessFlags := 25, slot := 0, constantValue := 0 }, { name := "PI", type := .double, accessFlags := 25, slot := 1, constantValue := 0 }, { name := "TAU", type := .double, accessFlags := 25, slot := 2, constantValue := 0 }, { name := "DEGREES_TO_RADIANS", type := .double, accessFlags := 26, slot := 3, constantValue := 0 }, { name := "RADIANS_TO_DEGREES", type := .double, accessFlags := 26, slot := 4, constantValue := 0 }, { name := "negativeZeroFloatBits", type := .long, accessFlags := 26, slot := 5, constantValue := 0 }, { name := "negativeZeroDoubleBits", type := .long, accessFlags := 26, slot := 6, constantValue := 0 }, { name := "twoToTheDoubleScaleUp", type := .double, accessFlags := 8, slot := 7, constantValue := 0 }, { name := "twoToTheDoubleScaleDown", type := .double, accessFlags := 8, slot := 8, constantValue := 0 }, { name := "$assertionsDisabled", type := .boolean, accessFlags := 4120, slot := 9, constantValue := 0 }]
  methods := #[k2m0, k2m1]
  instanceTypes := #[]
  staticTypes := #[.double, .double, .double, .double, .double, .long, .long, .double, .double, .boolean]
  resolved := Array.replicate 460 none
  statics := none }

def pool3 : Array CpInfo := pool [(2, .class_ 4), (1, u "java/lang/Object"), (0, u "<init>"), (0, u "()V"), (17, .class_ 26), (1, u "com/example/displace/displace/PerfectHashFunction"), (0, u "MAGIC"), (0, u "[B"), (111, .class_ 141), (0, u "com/example/displace/displace/PerfectHashFunction$ByteAtATimeInputStream"), (50, u "FORMAT_VERSION"), (0, u "I"), (2, u "NO_SLOTS"), (0, u "Ljava/lang/String;"), (2, u "INTS_AT_A_TIME")] 45

def k3m0 : Method := { name := "<init>", desc := "()V", sig := { parameters := [], returnType := none }, accessFlags := 0, code := none }
/-- com/example/displace/displace/PerfectHashFunction -/
def k3 : Class := { plain "com/example/displace/displace/PerfectHashFunction" (some 0) with
  accessFlags := 1057
  interfaces := #[]
  cf := some (fileOf pool3 24 #[.nestMembers #[140]] #[{ accessFlags := 0, nameIndex := 5, descriptorIndex := 6, attributes := #[] }] 1057 2 #[] #[{ accessFlags := 26, nameIndex := 27, descriptorIndex := 28, attributes := #[] }, { accessFlags := 26, nameIndex := 192, descriptorIndex := 193, attributes := #[] }, { accessFlags := 24, nameIndex := 196, descriptorIndex := 197, attributes := #[] }, { accessFlags := 26, nameIndex := 200, descriptorIndex := 193, attributes := #[] }])
  fields := #[{ name := "MAGIC", type := (.array .byte), accessFlags := 26, slot := 0, constantValue := 0 }, { name := "FORMAT_VERSION", type := .int, accessFlags := 26, slot := 1, constantValue := 0 }, { name := "NO_SLOTS", type := (.object "java/lang/String"), accessFlags := 24, slot := 2, constantValue := 0 }, { name := "INTS_AT_A_TIME", type := .int, accessFlags := 26, slot := 3, constantValue := 0 }]
  methods := #[k3m0]
  instanceTypes := #[]
  staticTypes := #[(.array .byte), .int, (.object "java/lang/String"), .int]
  resolved := Array.replicate 246 none
  statics := none }

def pool4 : Array CpInfo := pool [(2, .class_ 4), (1, u "com/example/displace/displace/PerfectHashFunction"), (3, .class_ 10), (1, u "com/example/displace/displace/Chd"), (0, u "lambda"), (0, u "I"), (2, u "loadFactor"), (0, u "D"), (2, u "seed"), (0, u "J"), (2, u "keyCount"), (2, u "slotCount"), (2, u "displacements"), (0, u "Lcom/example/displace/displace/CompactIntArray;"), (108, u "bucketCount"), (0, u "(II)I"), (48, u "ALGORITHM"), (0, u "Ljava/lang/String;"), (1, u "PATTERN_GAMMA")] 18

def k4c0 : Code := { maxStack := 4, maxLocals := 2, code := prog_6_method_10_code, exceptionTable := #[], attributes := #[] }
def k4m0 : Method := { name := "bucketCount", desc := "(II)I", sig := { parameters := [.int, .int], returnType := some .int }, accessFlags := 8, code := some k4c0 }
/-- com/example/displace/displace/Chd -/
def k4 : Class := { plain "com/example/displace/displace/Chd" (some 3) with
  accessFlags := 32
  interfaces := #[]
  cf := some (fileOf pool4 8 #[] #[{ accessFlags := 8, nameIndex := 139, descriptorIndex := 140, attributes := #[] }] 32 2 #[] #[{ accessFlags := 24, nameIndex := 189, descriptorIndex := 190, attributes := #[] }, { accessFlags := 26, nameIndex := 192, descriptorIndex := 20, attributes := #[] }, { accessFlags := 18, nameIndex := 11, descriptorIndex := 12, attributes := #[] }, { accessFlags := 18, nameIndex := 15, descriptorIndex := 16, attributes := #[] }, { accessFlags := 18, nameIndex := 19, descriptorIndex := 20, attributes := #[] }, { accessFlags := 18, nameIndex := 23, descriptorIndex := 12, attributes := #[] }, { accessFlags := 18, nameIndex := 26, descriptorIndex := 12, attributes := #[] }, { accessFlags := 18, nameIndex := 29, descriptorIndex := 30, attributes := #[] }])
  fields := #[{ name := "ALGORITHM", type := (.object "java/lang/String"), accessFlags := 24, slot := 0, constantValue := 0 }, { name := "PATTERN_GAMMA", type := .long, accessFlags := 26, slot := 1, constantValue := 0 }, { name := "lambda", type := .int, accessFlags := 18, slot := 0, constantValue := 0 }, { name := "loadFactor", type := .double, accessFlags := 18, slot := 1, constantValue := 0 }, { name := "seed", type := .long, accessFlags := 18, slot := 2, constantValue := 0 }, { name := "keyCount", type := .int, accessFlags := 18, slot := 3, constantValue := 0 }, { name := "slotCount", type := .int, accessFlags := 18, slot := 4, constantValue := 0 }, { name := "displacements", type := (.object "com/example/displace/displace/CompactIntArray"), accessFlags := 18, slot := 5, constantValue := 0 }]
  methods := #[k4m0]
  instanceTypes := #[.int, .double, .long, .int, .int, (.object "com/example/displace/displace/CompactIntArray")]
  staticTypes := #[(.object "java/lang/String"), .long]
  resolved := Array.replicate 211 none
  statics := none }

def pool5 : Array CpInfo := pool [(1, u "java/lang/Cloneable"), (0, .class_ 1), (0, u "java/lang/Object"), (0, .class_ 3)] 3

/-- java/lang/Cloneable -/
def k5 : Class := { plain "java/lang/Cloneable" (some 0) with
  accessFlags := 1537
  interfaces := #[]
  cf := some (fileOf pool5 2 #[] #[] 1537 4 #[] #[])
  fields := #[]
  methods := #[]
  instanceTypes := #[]
  staticTypes := #[]
  resolved := Array.replicate 8 none
  statics := none }

def pool6 : Array CpInfo := pool [(1, u "java/io/Serializable"), (0, .class_ 1), (0, u "java/lang/Object"), (0, .class_ 3)] 3

/-- java/io/Serializable -/
def k6 : Class := { plain "java/io/Serializable" (some 0) with
  accessFlags := 1537
  interfaces := #[]
  cf := some (fileOf pool6 2 #[] #[] 1537 4 #[] #[])
  fields := #[]
  methods := #[]
  instanceTypes := #[]
  staticTypes := #[]
  resolved := Array.replicate 8 none
  statics := none }

/-- the primitive byte -/
def k7 : Class := { plain "byte" none with kind := .primitive 'B', accessFlags := 0x411 }
/-- [B -/
def k8 : Class := { plain "[B" (some 0) with kind := .array 7 .byte, interfaces := #[5, 6], accessFlags := 1041 }

/-- the primitive int -/
def k9 : Class := { plain "int" none with kind := .primitive 'I', accessFlags := 0x411 }
/-- [I -/
def k10 : Class := { plain "[I" (some 0) with kind := .array 9 .int, interfaces := #[5, 6], accessFlags := 1041 }

def heap : Heap := #[]
def classes : Array Class := #[k0, k1, k2, k3, k4, k5, k6, k7, k8, k9, k10]
def interned : List (Array UInt16 × Addr) := []
def slotsUsed : Nat := 0
def theMethod : MethodId := ⟨1, 1⟩
def args0 : Array Value := #[.int 5, .int 7, .int 1]
def aboutOver (below : List Frame) : State where
  vm := { classes := classes, interned := interned.toArray }
  heap := heap
  slotsUsed := slotsUsed
  threads := #[{ frames := .invoking theMethod args0 :: below }]
def below0 : List Frame := [.native { method := ⟨0, 0⟩, args := #[] }]
def about1 : State := aboutOver below0
def p0 : Program := .bare "" "" ""
def e0 : Env := launch0.env 0 0 0
theorem w_frames : about1.frames = Frame.invoking theMethod args0 :: below0 := rfl
set_option maxRecDepth 65536 in
theorem w_args : argsFit about1.vm theMethod args0 = true := by decide +kernel
set_option maxRecDepth 65536 in
theorem w_heap : heapFits about1 = true := by decide +kernel
set_option maxRecDepth 65536 in
theorem w_runnable : about1.curStatus? = some .runnable := by decide +kernel
set_option maxRecDepth 65536 in
theorem w_alone : about1.alone = true := by decide +kernel
set_option maxRecDepth 65536 in
theorem w_named : about1.methodNamed? x = some theMethod := by decide +kernel
set_option maxRecDepth 65536 in
theorem w_hears : about1.hears theMethod below0 = true := by decide +kernel
set_option maxRecDepth 65536 in
theorem w_ripe : about1.ripe theMethod args0 below0 = true := by decide +kernel
theorem w_running : about1.status = .running := rfl
set_option maxRecDepth 65536 in
theorem w_room : about1.hasRoom e0.platform room_1 = true :=
  launch0.hasRoom_least _ room_1 (by decide +kernel) (by decide +kernel) (by decide +kernel) (by decide +kernel) (by decide +kernel) (by decide +kernel)
theorem allAtoms_all (ts : List Jvm.Cond) (a : Array Jvm.Value) (st : Jvm.State) : (allAtoms ts).before a st = ts.all (fun c => c.before a st) := by
  induction ts with
  | nil => rfl
  | cons c t ih =>
    show (Jvm.Cond.and c (allAtoms t)).before a st = _
    rw [Jvm.Cond.before_and, ih, List.all_cons]
def words1 : List Jvm.Cond := Jvm.Cond.code x code maxLocals ret :: tables_1
/-- a 'code' word, met by the world's own term for the bytes: nothing is compared byte by byte -/
theorem code_word {y : MethodName} {bytes : ByteArray} {mx : Nat} {rt : Option FieldType} {a : Array Value} {s : State} {m : MethodId} {meth : Method} {c : Code} (h1 : s.methodNamed? y = some m) (h2 : s.vm.method? m = some meth) (h3 : meth.code = some c) (h4 : c.code = bytes)
    (h5 : (c.maxLocals == mx && c.exceptionTable.isEmpty && decide (c.maxStack ≤ mostOperands) && decide (meth.sig.returnType = rt) && !meth.locks && decide (parseMethodDescriptor y.desc = some meth.sig)) = true) : (Jvm.Cond.code y bytes mx rt).before a s = true := by
  simp only [Bool.and_eq_true, beq_iff_eq, Bool.not_eq_true', decide_eq_true_eq] at h5
  obtain ⟨⟨⟨⟨⟨g1, g2⟩, g3⟩, g4⟩, g5⟩, g6⟩ := h5
  simp [Cond.before, Cond.holds, Cond.value, h1, h2, h3, h4, g1, g2, g3, g4, g5, g6]
def isCode : Jvm.Cond → Bool
  | .code _ _ _ _ => true
  | _ => false
theorem all_split {L : List Jvm.Cond} {P : Jvm.Cond → Bool} (h1 : L.all (fun c => isCode c || P c) = true) (h2 : ∀ c ∈ L.filter isCode, P c = true) : L.all P = true := by
  refine List.all_eq_true.mpr fun c hc => ?_
  have h := List.all_eq_true.mp h1 c hc
  rcases Bool.eq_false_or_eq_true (isCode c) with hi | hi
  · exact h2 c (List.mem_filter.mpr ⟨hc, hi⟩)
  · simpa [hi] using h
set_option maxRecDepth 65536 in
theorem w_c0 : (Jvm.Cond.code x code maxLocals ret).before args0 about1 = true := code_word (m := ⟨1, 1⟩) (meth := k1m1) (c := k1c1) (by decide +kernel) rfl rfl rfl (by decide +kernel)
set_option maxRecDepth 65536 in
theorem w_c1 : (Jvm.Cond.code ({ cls := "java/lang/Math", name := "max", desc := "(II)I" } : Jvm.MethodName) jdk_29_method_65_code (2 : Nat) (Option.some Jvm.ClassFile.FieldType.int)).before args0 about1 = true := code_word (m := ⟨2, 1⟩) (meth := k2m1) (c := k2c1) (by decide +kernel) rfl rfl rfl (by decide +kernel)
set_option maxRecDepth 65536 in
theorem w_c2 : (Jvm.Cond.code ({ cls := "com/example/displace/displace/Chd", name := "bucketCount", desc := "(II)I" } : Jvm.MethodName) prog_6_method_10_code (2 : Nat) (Option.some Jvm.ClassFile.FieldType.int)).before args0 about1 = true := code_word (m := ⟨4, 0⟩) (meth := k4m0) (c := k4c0) (by decide +kernel) rfl rfl rfl (by decide +kernel)
def codes1 : List Jvm.Cond := [Jvm.Cond.code x code maxLocals ret, Jvm.Cond.code ({ cls := "java/lang/Math", name := "max", desc := "(II)I" } : Jvm.MethodName) jdk_29_method_65_code (2 : Nat) (Option.some Jvm.ClassFile.FieldType.int), Jvm.Cond.code ({ cls := "com/example/displace/displace/Chd", name := "bucketCount", desc := "(II)I" } : Jvm.MethodName) prog_6_method_10_code (2 : Nat) (Option.some Jvm.ClassFile.FieldType.int)]
set_option maxRecDepth 65536 in
theorem codes_eq : words1.filter isCode = codes1 := rfl
theorem w_codes : ∀ c ∈ words1.filter isCode, c.before args0 about1 = true := by
  rw [codes_eq]
  intro c hc
  simp only [codes1, List.mem_cons, List.not_mem_nil, or_false] at hc
  rcases hc with rfl | rfl | rfl
  · exact w_c0
  · exact w_c1
  · exact w_c2
set_option maxRecDepth 65536 in
theorem w_t1 : words1.all (fun c => isCode c || c.before args0 about1) = true := by decide +kernel
theorem w_tables : (allAtoms (Jvm.Cond.code x code maxLocals ret :: tables_1)).before args0 about1 = true := by
  rw [allAtoms_all]
  show words1.all (fun c => c.before args0 about1) = true
  refine all_split ?_ w_codes
  rw [w_t1]
set_option maxRecDepth 65536 in
theorem w_case : (Jvm.Cond.and given_1 narrow_1).before args0 about1 = true := by decide +kernel
theorem w_applies : (headSpec (Jvm.Cond.code x code maxLocals ret :: tables_1) room_1).applies x e0.platform about1 = true :=
  (Spec.applies_iff w_frames).mpr ⟨w_running, w_runnable, w_alone, w_named, w_hears, w_ripe, w_room, w_tables⟩
theorem atStart : AtStart classFile x code maxLocals ret World_1 tables_1 room_1 Calls_1 rest_1 Pre_1 launch0 p0 e0 about1 theMethod args0 below0 :=
  ⟨lists_1, trivial, launch0.admits_env _ _ _, launch0.least_env, fairChoices_fair.cas, fairChoices_fair.clock, w_frames, w_args, w_heap, w_applies, trivial, trivial, w_case⟩
end start1
theorem witness_1 : WitnessClaimed_1 := ⟨start1.p0, start1.e0, start1.about1, start1.theMethod, start1.args0, start1.below0, start1.atStart⟩
end Jvm.Pilot.@@N@@
