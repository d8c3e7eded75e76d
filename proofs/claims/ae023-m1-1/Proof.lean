import JvmDerived
import JvmDerived.Pilot.@@N@@Statement
import JvmDerived.Pilot.@@N@@Code
set_option linter.unusedVariables false
set_option linter.unusedSimpArgs false
namespace Jvm.RoadKit
open Sem ClassFile Op Lib Jvm.Stand Jvm.Free Jvm.LawKit
section New
variable {p : Program} {l : Launch} {e : Env} {R : Room} {s : State} {m : MethodId} {args : Array Value} {below : List Frame} {meth : Method} {c : Code} {T : State} {locs : List Loc} {cells slots : Nat}
theorem retI (X : Stand p l e R s m args below meth c T locs cells slots) (hx : p.tables.exec = Jvm.exec) {pc : Nat} {Ls : Array Slot} {z : Int32} {rest : List Value} (hret : meth.sig.returnType = some .int) (hd : decode c.code pc = .ok (.ireturn, 1)) {fs : List Frame}
    (hl : ∀ (f : JFrame) (acts : List Action), f.method = m → f.locked = none → f.entered = [] → (doReturn e (T.setTop f) acts (some (.int z))).1 = T.setFrames fs) : Steps p.tables e below (T.setTop (mkF m pc Ls (.int z :: rest))) (T.setFrames fs) := by
  have hm' : T.vm.method? m = some meth := X.method'
  have hn : narrow .int (.int z) = .int z := rfl
  show Steps p.tables e below (T.setTop { method := m, pc := pc, locals := Ls, stack := _ :: rest, locked := none }) _
  jvm_step X.here [X.here.top, hx, hd, hm', hret, hn]
  first | (intro acts; rw [hl _ acts rfl rfl rfl]) | rw [hl _ _ rfl rfl rfl]
  exact Steps.refl _
end New
end Jvm.RoadKit
namespace Jvm.Pilot.@@N@@
open Jvm Jvm.ClassFile Sem Op Lib Jvm.Free Jvm.Stand Jvm.LawKit Jvm.RoadKit Bundle Jvm.Pilot.@@N@@.Jvm.D
abbrev jv (x : Int64) : Slot := .val (.long x)
abbrev s2 : Slot := .second
abbrev u0 : Slot := .unset
section OwnKit
variable {p : Program} {l : Launch} {e : Env} {R : Room} {s : State} {m : MethodId} {args : Array Value} {below : List Frame} {meth : Method} {c : Code} {T : State} {locs : List Loc} {cells slots : Nat} {Z : State} {h h' : Heap}
theorem own_lremM {g : JFrame} {target : State} (X : Stand p l e R s m args below meth c T locs cells slots) (hx : p.tables.exec = Jvm.exec) (hg : g.method = m) {x y : Int64} {rest : List Value} (hd : decode c.code g.pc = .ok (.lrem, 1)) (hs : g.stack = .long y :: .long x :: rest) (hy : y ≠ 0)
    (hr : Steps p.tables e below (T.setTop { g with pc := g.pc + 1, stack := .long (x % y) :: rest }) target) : Steps p.tables e below (T.setTop g) target :=
  XS.lrem X.here hx hg hd hs hy (by rw [lrem_mod]; exact hr)
/-- an array, by the list of its values -/
def own_A (Z : State) (h : Heap) (a : Addr) (ty : FieldType) (vs : List Value) : Prop := ∃ c : Cell, Arr Z h a c ty ∧ c.slots = vs.toArray
def own_AJ (Z : State) (h : Heap) (a : Addr) (xs : List Int64) : Prop := own_A Z h a .long (xs.map .long)
def own_AI (Z : State) (h : Heap) (a : Addr) (ty : FieldType) (xs : List Int32) : Prop := own_A Z h a ty (xs.map .int)
section Facts
variable {a b : Addr} {ty : FieldType} {vs : List Value} {xs : List Int64} {ys : List Int32} {sl : Nat} {v : Value} {ws : List Addr}
theorem own_A.ext (F : own_A Z h a ty vs) (E : Ext h h') : own_A Z h' a ty vs := by obtain ⟨c, A, r⟩ := F; exact ⟨c, A.ext E, r⟩
theorem own_A.other (F : own_A Z h b ty vs) (W : Wr h h' a sl v) (q : b ≠ a) : own_A Z h' b ty vs := by obtain ⟨c, A, r⟩ := F; exact ⟨c, A.other W q, r⟩
theorem own_A.keep (F : own_A Z h a ty vs) (K : Keep h h' ws) (q : a ∉ ws) : own_A Z h' a ty vs := by obtain ⟨c, A, r⟩ := F; exact ⟨c, ⟨K.2.1 a c A.1 q, A.2⟩, r⟩
theorem own_A.lt (F : own_A Z h a ty vs) : a < h.size := by obtain ⟨c, A, -⟩ := F; exact A.lt
theorem own_AJ.ext (F : own_AJ Z h a xs) (E : Ext h h') : own_AJ Z h' a xs := own_A.ext F E
theorem own_AJ.other (F : own_AJ Z h b xs) (W : Wr h h' a sl v) (q : b ≠ a) : own_AJ Z h' b xs := own_A.other F W q
theorem own_AJ.keep (F : own_AJ Z h a xs) (K : Keep h h' ws) (q : a ∉ ws) : own_AJ Z h' a xs := own_A.keep F K q
theorem own_AJ.lt (F : own_AJ Z h a xs) : a < h.size := own_A.lt F
theorem own_AI.ext (F : own_AI Z h a ty ys) (E : Ext h h') : own_AI Z h' a ty ys := own_A.ext F E
theorem own_AI.other (F : own_AI Z h b ty ys) (W : Wr h h' a sl v) (q : b ≠ a) : own_AI Z h' b ty ys := own_A.other F W q
theorem own_AI.keep (F : own_AI Z h a ty ys) (K : Keep h h' ws) (q : a ∉ ws) : own_AI Z h' a ty ys := own_A.keep F K q
theorem own_AI.lt (F : own_AI Z h a ty ys) : a < h.size := own_A.lt F
theorem own_A.set (F : own_A Z h a ty vs) {k : Nat} (W : Wr h h' a k v) : own_A Z h' a ty (vs.set k v) := by
  obtain ⟨c, A, r⟩ := F
  refine ⟨c.setSlot k v, A.same W, ?_⟩
  simp [Cell.setSlot, r]
theorem own_A_new {cA : ClassId} {n : Int32} {k : Nat} (A : Arr Z h a (newA cA ty n) ty) (hk : n.toNatClampNeg = k) : own_A Z h a ty (List.replicate k (defaultValue ty)) := by
  subst hk
  exact ⟨_, A, by simp [newA]⟩
theorem own_AJ_new {cA : ClassId} {n : Int32} {k : Nat} (A : Arr Z h a (newA cA .long n) .long) (hk : n.toNatClampNeg = k) : own_AJ Z h a (List.replicate k 0) := by
  have q := own_A_new A hk
  rw [own_AJ, List.map_replicate]; exact q
theorem own_AIint_new {cA : ClassId} {n : Int32} {k : Nat} (A : Arr Z h a (newA cA .int n) .int) (hk : n.toNatClampNeg = k) : own_AI Z h a .int (List.replicate k 0) := by
  have q := own_A_new A hk
  rw [own_AI, List.map_replicate]; exact q
theorem own_AIbyte_new {cA : ClassId} {n : Int32} {k : Nat} (A : Arr Z h a (newA cA .byte n) .byte) (hk : n.toNatClampNeg = k) : own_AI Z h a .byte (List.replicate k 0) := by
  have q := own_A_new A hk
  rw [own_AI, List.map_replicate]; exact q
theorem own_AIboolean_new {cA : ClassId} {n : Int32} {k : Nat} (A : Arr Z h a (newA cA .boolean n) .boolean) (hk : n.toNatClampNeg = k) : own_AI Z h a .boolean (List.replicate k 0) := by
  have q := own_A_new A hk
  rw [own_AI, List.map_replicate]; exact q
theorem own_inb {cl : Cell} {j : Int32} (r : cl.slots = vs.toArray) (hj : 0 ≤ j.toInt ∧ j.toInt < (vs.length : Nat)) : ¬ (j < 0 ∨ cl.slots.size ≤ j.toNatClampNeg) ∧ j.toNatClampNeg = j.toInt.toNat := by
  have e : j.toNatClampNeg = j.toInt.toNat := rfl
  refine ⟨fun q => ?_, e⟩
  rcases q with q | q
  · rw [Int32.lt_iff_toInt_lt] at q
    have : (0 : Int32).toInt = 0 := by decide
    omega
  · rw [r, e] at q
    simp at q
    omega
end Facts
theorem own_at? {α : Type} (f : α → Value) (xs : List α) (k : Nat) (d : α) (hk : k < xs.length) : (xs.map f).toArray[k]? = some (f (xs.getD k d)) := by
  simp [List.getD, hk]
/-- a private method by invokevirtual; that its class is no interface is told by a 'selects' word of another method of the class -/
theorem own_privateBack (X : Stand p l e R s m args below meth c T locs cells slots) (hexec : p.tables.exec = Jvm.exec) {own : String} {index : Nat} {y y' : MethodName} {bytes : ByteArray} {maxL : Nat} {ret : Option FieldType} (hyy : y'.cls = y.cls)
    (hown : s.vm.findClass own = some m.cls) (hlink : (Cond.methodLink own index y).before args s = true) (hinst : (Cond.instanceMethod y).before args s = true) (hsel : (Cond.selects y'.cls y' y').before args s = true)
    (hpriv : s.PrivateAt y) (hcode : (Cond.code y bytes maxL ret).before args s = true) (hy : y.cls ≠ "java/lang/invoke/MethodHandle" ∧ y.cls ≠ "java/lang/invoke/VarHandle")
    {W : Nat} {Pre : Pt → Array Value → Prop} {Post : Pt → Array Value → Option Value → Pt → Prop} (hK : Back l R p e below s args y 3 W Pre Post)
    {g : JFrame} (hg : g.method = m) (hsize : g.locals.size = c.maxLocals) {s₀ : State} (hcome : Steps p.tables e below s₀ (T.setTop g)) {a : Addr} {cell : Cell} (hcell : T.heap[a]? = some cell) (hobj : ∀ q, cell.vm ≠ .statics q)
    {argsL rest : List Value} (hlen : ∀ sig, parseMethodDescriptor y.desc = some sig → argsL.length = sig.parameters.length)
    (hstack : g.stack = argsL.reverse ++ .ref a :: rest) (hW : 2 * g.monitorRoom + (rest.map fun v => v.category).sum ≤ W) (hdg : decode c.code g.pc = .ok (.invokevirtual index, 3))
    (hpre : ∀ vm₁, s.WarmedH vm₁ → Pre ⟨T.setVm vm₁, locs, cells, slots⟩ (.ref a :: argsL).toArray) :
    ∃ (v : Option Value) (vm₁ : Vm) (B : Pt), s.WarmedH vm₁ ∧ Stand p l e R s m args below meth c B.U B.locs B.cells B.slots ∧ Post ⟨T.setVm vm₁, locs, cells, slots⟩ (.ref a :: argsL).toArray v B ∧
      Steps p.tables e below s₀ (B.U.setTop { g with pc := g.pc + 3, stack := v.toList ++ rest }) := by
  obtain ⟨-, -, m2, -, -, q3, -, kP, hk, hni⟩ := Cond.selects_spec hsel
  have h2 := findClass_of_methodNamed q3
  rw [hyy] at h2
  exact X.privateBack hexec hown hlink hinst (selects_self_of_private h2 hk hni hpriv hinst hy) hpriv hcode hy hK hg hsize hcome hcell hobj hlen hstack hW hdg hpre
section Loads
variable {a : Addr} {xs : List Int64} {ys : List Int32} {j : Int32} {pc : Nat} {Ls : Array Slot} {rest : List Value}
theorem own_laload (X : Stand p l e R s m args below meth c T locs cells slots) (hx : p.tables.exec = Jvm.exec) (hZ : Z.Warmed39 s.vm) (eT : T.heap = h) (A : own_AJ Z h a xs) (hj : 0 ≤ j.toInt ∧ j.toInt < (xs.length : Nat)) (hd : decode c.code pc = .ok (.laload, 1)) (target : State)
    (hr : Steps p.tables e below (T.setTop (mkF m (pc + 1) Ls (.long (xs.getD j.toInt.toNat 0) :: rest))) target) : Steps p.tables e below (T.setTop (mkF m pc Ls (.int j :: .ref a :: rest))) target := by
  obtain ⟨cl, A, r⟩ := A
  obtain ⟨q1, q2⟩ := own_inb (j := j) r (by simpa using hj)
  refine X.laload hx (by rw [eT]; exact A.1) (State.isArrayOf_alike hZ.alike A.2.1) A.2.2 q1 (v := .long (xs.getD j.toInt.toNat 0)) ?_ (g := mkF m pc Ls (.int j :: .ref a :: rest)) rfl rfl hd target hr
  rw [q2, r]
  exact own_at? _ xs _ 0 (by omega)
theorem own_iaload (X : Stand p l e R s m args below meth c T locs cells slots) (hx : p.tables.exec = Jvm.exec) (hZ : Z.Warmed39 s.vm) (eT : T.heap = h) (A : own_AI Z h a .int ys) (hj : 0 ≤ j.toInt ∧ j.toInt < (ys.length : Nat)) (hd : decode c.code pc = .ok (.iaload, 1)) (target : State)
    (hr : Steps p.tables e below (T.setTop (mkF m (pc + 1) Ls (.int (ys.getD j.toInt.toNat 0) :: rest))) target) : Steps p.tables e below (T.setTop (mkF m pc Ls (.int j :: .ref a :: rest))) target := by
  obtain ⟨cl, A, r⟩ := A
  obtain ⟨q1, q2⟩ := own_inb (j := j) r (by simpa using hj)
  refine X.iaload hx (by rw [eT]; exact A.1) (State.isArrayOf_alike hZ.alike A.2.1) A.2.2 q1 (v := .int (ys.getD j.toInt.toNat 0)) ?_ (g := mkF m pc Ls (.int j :: .ref a :: rest)) rfl rfl hd target hr
  rw [q2, r]
  exact own_at? _ ys _ 0 (by omega)
theorem own_baloadB (X : Stand p l e R s m args below meth c T locs cells slots) (hx : p.tables.exec = Jvm.exec) (hZ : Z.Warmed39 s.vm) (eT : T.heap = h) (A : own_AI Z h a .byte ys) (hj : 0 ≤ j.toInt ∧ j.toInt < (ys.length : Nat)) (hd : decode c.code pc = .ok (.baload, 1)) (target : State)
    (hr : Steps p.tables e below (T.setTop (mkF m (pc + 1) Ls (.int (ys.getD j.toInt.toNat 0) :: rest))) target) : Steps p.tables e below (T.setTop (mkF m pc Ls (.int j :: .ref a :: rest))) target := by
  obtain ⟨cl, A, r⟩ := A
  obtain ⟨q1, q2⟩ := own_inb (j := j) r (by simpa using hj)
  refine X.baloadBytes hx (by rw [eT]; exact A.1) (State.isArrayOf_alike hZ.alike A.2.1) A.2.2 q1 (v := .int (ys.getD j.toInt.toNat 0)) ?_ (g := mkF m pc Ls (.int j :: .ref a :: rest)) rfl rfl hd target hr
  rw [q2, r]
  exact own_at? _ ys _ 0 (by omega)
theorem own_baloadZ (X : Stand p l e R s m args below meth c T locs cells slots) (hx : p.tables.exec = Jvm.exec) (hZ : Z.Warmed39 s.vm) (eT : T.heap = h) (A : own_AI Z h a .boolean ys) (hj : 0 ≤ j.toInt ∧ j.toInt < (ys.length : Nat)) (hd : decode c.code pc = .ok (.baload, 1)) (target : State)
    (hr : Steps p.tables e below (T.setTop (mkF m (pc + 1) Ls (.int (ys.getD j.toInt.toNat 0) :: rest))) target) : Steps p.tables e below (T.setTop (mkF m pc Ls (.int j :: .ref a :: rest))) target := by
  obtain ⟨cl, A, r⟩ := A
  obtain ⟨q1, q2⟩ := own_inb (j := j) r (by simpa using hj)
  refine X.baloadBooleans hx (by rw [eT]; exact A.1) (State.isArrayOf_alike hZ.alike A.2.1) A.2.2 q1 (v := .int (ys.getD j.toInt.toNat 0)) ?_ (g := mkF m pc Ls (.int j :: .ref a :: rest)) rfl rfl hd target hr
  rw [q2, r]
  exact own_at? _ ys _ 0 (by omega)
theorem own_alenJ (X : Stand p l e R s m args below meth c T locs cells slots) (hx : p.tables.exec = Jvm.exec) (hZ : Z.Warmed39 s.vm) (eT : T.heap = h) (A : own_AJ Z h a xs) (hd : decode c.code pc = .ok (.arraylength, 1)) (target : State)
    (hr : Steps p.tables e below (T.setTop (mkF m (pc + 1) Ls (.int xs.length.toInt32 :: rest))) target) : Steps p.tables e below (T.setTop (mkF m pc Ls (.ref a :: rest))) target := by
  obtain ⟨cl, A, r⟩ := A
  refine X.arraylength hx (by rw [eT]; exact A.1) (State.isArrayOf_alike hZ.alike A.2.1) (g := mkF m pc Ls (.ref a :: rest)) rfl rfl hd target ?_
  rw [r]
  simpa using hr
theorem own_alenI {ty : FieldType} (X : Stand p l e R s m args below meth c T locs cells slots) (hx : p.tables.exec = Jvm.exec) (hZ : Z.Warmed39 s.vm) (eT : T.heap = h) (A : own_AI Z h a ty ys) (hd : decode c.code pc = .ok (.arraylength, 1)) (target : State)
    (hr : Steps p.tables e below (T.setTop (mkF m (pc + 1) Ls (.int ys.length.toInt32 :: rest))) target) : Steps p.tables e below (T.setTop (mkF m pc Ls (.ref a :: rest))) target := by
  obtain ⟨cl, A, r⟩ := A
  refine X.arraylength hx (by rw [eT]; exact A.1) (State.isArrayOf_alike hZ.alike A.2.1) (g := mkF m pc Ls (.ref a :: rest)) rfl rfl hd target ?_
  rw [r]
  simpa using hr
theorem own_lastore (X : Stand p l e R s m args below meth c T locs cells slots) (hx : p.tables.exec = Jvm.exec) (hZ : Z.Warmed39 s.vm) (eT : T.heap = h) (A : own_AJ Z h a xs) (hj : 0 ≤ j.toInt ∧ j.toInt < (xs.length : Nat)) {x : Int64} (hd : decode c.code pc = .ok (.lastore, 1)) :
    ∃ T' h', Stand p l e R s m args below meth c T' (locs ++ [⟨a, j.toInt.toNat⟩]) cells slots ∧ T'.heap = h' ∧ Wr h h' a j.toInt.toNat (.long x) ∧ own_AJ Z h' a (xs.set j.toInt.toNat x) ∧ ∀ {Ls : Array Slot} {rest : List Value} (target : State), Steps p.tables e below (T'.setTop (mkF m (pc + 1) Ls rest)) target → Steps p.tables e below (T.setTop (mkF m pc Ls (.long x :: .int j :: .ref a :: rest))) target := by
  obtain ⟨cl, B, r⟩ := A
  obtain ⟨q1, q2⟩ := own_inb (j := j) r (by simpa using hj)
  have W : Wr h (T.setCell a (cl.setSlot j.toInt.toNat (.long x))).heap a j.toInt.toNat (.long x) := ⟨cl, B.1, B.plain, Nat.lt_of_not_le fun q => q1 (Or.inr q), by rw [← eT]; rfl⟩
  have key := fun (Ls : Array Slot) (rest : List Value) => X.lastore hx (by rw [eT]; exact B.1) (State.isArrayOf_alike hZ.alike B.2.1) B.2.2 q1 (x := x) (g := mkF m pc Ls (.long x :: .int j :: .ref a :: rest)) rfl (rest := rest) rfl hd
  exact ⟨_, _, (key #[] []).1, rfl, W, (by have := own_A.set ⟨cl, B, r⟩ W; rw [own_AJ, List.map_set]; exact this), fun {Ls rest} => (key Ls rest).2⟩
theorem own_iastore (X : Stand p l e R s m args below meth c T locs cells slots) (hx : p.tables.exec = Jvm.exec) (hZ : Z.Warmed39 s.vm) (eT : T.heap = h) (A : own_AI Z h a .int ys) (hj : 0 ≤ j.toInt ∧ j.toInt < (ys.length : Nat)) {x : Int32} (hd : decode c.code pc = .ok (.iastore, 1)) :
    ∃ T' h', Stand p l e R s m args below meth c T' (locs ++ [⟨a, j.toInt.toNat⟩]) cells slots ∧ T'.heap = h' ∧ Wr h h' a j.toInt.toNat (.int x) ∧ own_AI Z h' a .int (ys.set j.toInt.toNat x) ∧ ∀ {Ls : Array Slot} {rest : List Value} (target : State), Steps p.tables e below (T'.setTop (mkF m (pc + 1) Ls rest)) target → Steps p.tables e below (T.setTop (mkF m pc Ls (.int x :: .int j :: .ref a :: rest))) target := by
  obtain ⟨cl, B, r⟩ := A
  obtain ⟨q1, q2⟩ := own_inb (j := j) r (by simpa using hj)
  have W : Wr h (T.setCell a (cl.setSlot j.toInt.toNat (.int x))).heap a j.toInt.toNat (.int x) := ⟨cl, B.1, B.plain, Nat.lt_of_not_le fun q => q1 (Or.inr q), by rw [← eT]; rfl⟩
  have key := fun (Ls : Array Slot) (rest : List Value) => X.iastore hx (by rw [eT]; exact B.1) (State.isArrayOf_alike hZ.alike B.2.1) B.2.2 q1 (x := x) (g := mkF m pc Ls (.int x :: .int j :: .ref a :: rest)) rfl (rest := rest) rfl hd
  exact ⟨_, _, (key #[] []).1, rfl, W, (by have := own_A.set ⟨cl, B, r⟩ W; rw [own_AI, List.map_set]; exact this), fun {Ls rest} => (key Ls rest).2⟩
theorem own_bastoreB (X : Stand p l e R s m args below meth c T locs cells slots) (hx : p.tables.exec = Jvm.exec) (hZ : Z.Warmed39 s.vm) (eT : T.heap = h) (A : own_AI Z h a .byte ys) (hj : 0 ≤ j.toInt ∧ j.toInt < (ys.length : Nat)) {x : Int32} (hd : decode c.code pc = .ok (.bastore, 1)) :
    ∃ T' h', Stand p l e R s m args below meth c T' (locs ++ [⟨a, j.toInt.toNat⟩]) cells slots ∧ T'.heap = h' ∧ Wr h h' a j.toInt.toNat (.int x.toInt8.toInt32) ∧ own_AI Z h' a .byte (ys.set j.toInt.toNat x.toInt8.toInt32) ∧ ∀ {Ls : Array Slot} {rest : List Value} (target : State), Steps p.tables e below (T'.setTop (mkF m (pc + 1) Ls rest)) target → Steps p.tables e below (T.setTop (mkF m pc Ls (.int x :: .int j :: .ref a :: rest))) target := by
  obtain ⟨cl, B, r⟩ := A
  obtain ⟨q1, q2⟩ := own_inb (j := j) r (by simpa using hj)
  have W : Wr h (T.setCell a (cl.setSlot j.toInt.toNat (.int x.toInt8.toInt32))).heap a j.toInt.toNat (.int x.toInt8.toInt32) := ⟨cl, B.1, B.plain, Nat.lt_of_not_le fun q => q1 (Or.inr q), by rw [← eT]; rfl⟩
  have key := fun (Ls : Array Slot) (rest : List Value) => bastoreB X hx (by rw [eT]; exact B.1) (State.isArrayOf_alike hZ.alike B.2.1) B.2.2 q1 (x := x) (g := mkF m pc Ls (.int x :: .int j :: .ref a :: rest)) rfl (rest := rest) rfl hd
  exact ⟨_, _, (key #[] []).1, rfl, W, (by have := own_A.set ⟨cl, B, r⟩ W; rw [own_AI, List.map_set]; exact this), fun {Ls rest} => (key Ls rest).2⟩
theorem own_bastoreZ (X : Stand p l e R s m args below meth c T locs cells slots) (hx : p.tables.exec = Jvm.exec) (hZ : Z.Warmed39 s.vm) (eT : T.heap = h) (A : own_AI Z h a .boolean ys) (hj : 0 ≤ j.toInt ∧ j.toInt < (ys.length : Nat)) {x : Int32} (hd : decode c.code pc = .ok (.bastore, 1)) :
    ∃ T' h', Stand p l e R s m args below meth c T' (locs ++ [⟨a, j.toInt.toNat⟩]) cells slots ∧ T'.heap = h' ∧ Wr h h' a j.toInt.toNat (.int (x &&& 1)) ∧ own_AI Z h' a .boolean (ys.set j.toInt.toNat (x &&& 1)) ∧ ∀ {Ls : Array Slot} {rest : List Value} (target : State), Steps p.tables e below (T'.setTop (mkF m (pc + 1) Ls rest)) target → Steps p.tables e below (T.setTop (mkF m pc Ls (.int x :: .int j :: .ref a :: rest))) target := by
  obtain ⟨cl, B, r⟩ := A
  obtain ⟨q1, q2⟩ := own_inb (j := j) r (by simpa using hj)
  have W : Wr h (T.setCell a (cl.setSlot j.toInt.toNat (.int (x &&& 1)))).heap a j.toInt.toNat (.int (x &&& 1)) := ⟨cl, B.1, B.plain, Nat.lt_of_not_le fun q => q1 (Or.inr q), by rw [← eT]; rfl⟩
  have key := fun (Ls : Array Slot) (rest : List Value) => bastoreZ X hx (by rw [eT]; exact B.1) (State.isArrayOf_alike hZ.alike B.2.1) B.2.2 q1 (x := x) (g := mkF m pc Ls (.int x :: .int j :: .ref a :: rest)) rfl (rest := rest) rfl hd
  exact ⟨_, _, (key #[] []).1, rfl, W, (by have := own_A.set ⟨cl, B, r⟩ W; rw [own_AI, List.map_set]; exact this), fun {Ls rest} => (key Ls rest).2⟩
end Loads
end OwnKit
theorem own_bm32 {x : Int} (h1 : -2147483648 ≤ x) (h2 : x < 2147483648) : x.bmod (2 ^ 32) = x := by
  rw [Int.bmod_def]; split <;> omega
theorem own_bm64 {x : Int} (h1 : -9223372036854775808 ≤ x) (h2 : x < 9223372036854775808) : x.bmod (2 ^ 64) = x := by
  rw [Int.bmod_def]; split <;> omega
theorem own_r32 (x : Int32) : -2147483648 ≤ x.toInt ∧ x.toInt < 2147483648 := ⟨x.le_toInt, x.toInt_lt⟩
theorem own_r64 (x : Int64) : -9223372036854775808 ≤ x.toInt ∧ x.toInt < 9223372036854775808 := ⟨x.le_toInt, x.toInt_lt⟩
theorem own_iadd {x y : Int32} (h : -2147483648 ≤ x.toInt + y.toInt ∧ x.toInt + y.toInt < 2147483648) : (x + y).toInt = x.toInt + y.toInt := by rw [Int32.toInt_add]; exact own_bm32 h.1 h.2
theorem own_isub {x y : Int32} (h : -2147483648 ≤ x.toInt - y.toInt ∧ x.toInt - y.toInt < 2147483648) : (x - y).toInt = x.toInt - y.toInt := by rw [Int32.toInt_sub]; exact own_bm32 h.1 h.2
theorem own_imul {x y : Int32} (h : -2147483648 ≤ x.toInt * y.toInt ∧ x.toInt * y.toInt < 2147483648) : (x * y).toInt = x.toInt * y.toInt := by rw [Int32.toInt_mul]; exact own_bm32 h.1 h.2
theorem own_ladd {x y : Int64} (h : -9223372036854775808 ≤ x.toInt + y.toInt ∧ x.toInt + y.toInt < 9223372036854775808) : (x + y).toInt = x.toInt + y.toInt := by rw [Int64.toInt_add]; exact own_bm64 h.1 h.2
theorem own_lsub {x y : Int64} (h : -9223372036854775808 ≤ x.toInt - y.toInt ∧ x.toInt - y.toInt < 9223372036854775808) : (x - y).toInt = x.toInt - y.toInt := by rw [Int64.toInt_sub]; exact own_bm64 h.1 h.2
theorem own_lmul {x y : Int64} (h : -9223372036854775808 ≤ x.toInt * y.toInt ∧ x.toInt * y.toInt < 9223372036854775808) : (x * y).toInt = x.toInt * y.toInt := by rw [Int64.toInt_mul]; exact own_bm64 h.1 h.2
theorem own_i2l (x : Int32) : x.toInt64.toInt = x.toInt := Int32.toInt_toInt64 x
theorem own_l2i {x : Int64} (h : -2147483648 ≤ x.toInt ∧ x.toInt < 2147483648) : x.toInt32.toInt = x.toInt := by rw [Int64.toInt_toInt32]; exact own_bm32 h.1 h.2
theorem own_irem {x y : Int32} (h : 0 ≤ x.toInt) : (x % y).toInt = x.toInt % y.toInt := by rw [Int32.toInt_mod]; exact Int.tmod_eq_emod_of_nonneg h
theorem own_lrem {x y : Int64} (h : 0 ≤ x.toInt) : (x % y).toInt = x.toInt % y.toInt := by rw [Int64.toInt_mod]; exact Int.tmod_eq_emod_of_nonneg h
theorem own_idiv {x y : Int32} (h : 0 ≤ x.toInt) (hy : 0 ≤ y.toInt) : (x / y).toInt = x.toInt / y.toInt := by
  rw [Int32.toInt_div_of_ne_right x y (fun q => by rw [q] at hy; revert hy; decide)]; exact Int.tdiv_eq_ediv_of_nonneg h
theorem own_ldiv {x y : Int64} (h : 0 ≤ x.toInt) (hy : 0 ≤ y.toInt) : (x / y).toInt = x.toInt / y.toInt := by
  rw [Int64.toInt_div_of_ne_right x y (fun q => by rw [q] at hy; revert hy; decide)]; exact Int.tdiv_eq_ediv_of_nonneg h
/-- a mask of k bits -/
theorem own_mask (x m : Int32) (k : Nat) (hk : k ≤ 31) (hm : m.toBitVec.toNat = 2 ^ k - 1) : (x &&& m).toInt = x.toInt % (2 ^ k : Nat) := by
  have hp : 2 ^ k ≤ 2 ^ 31 := Nat.pow_le_pow_right (by decide) hk
  have hp0 : 0 < 2 ^ k := Nat.pow_pos (by decide)
  have e : (x &&& m).toBitVec.toNat = x.toBitVec.toNat % 2 ^ k := by rw [Int32.toBitVec_and, BitVec.toNat_and, hm, Nat.and_two_pow_sub_one_eq_mod]
  have l := Nat.mod_lt x.toBitVec.toNat hp0
  rw [← Int32.toInt_toBitVec, ← Int32.toInt_toBitVec, BitVec.toInt_eq_toNat_cond, e, if_pos (by omega), BitVec.toInt_eq_toNat_cond]
  split
  · simp
  · rename_i q
    have d : (2 ^ k : Nat) ∣ 2 ^ 32 := Nat.pow_dvd_pow 2 (by omega)
    obtain ⟨c, hc⟩ := d
    have hc' : ((2 ^ 32 : Nat) : Int) = ((2 ^ k : Nat) : Int) * (c : Int) := by rw [hc]; simp
    rw [hc', Int.sub_mul_emod_self_left]; simp
theorem own_ushr (x : Int64) (y : Int32) (k : Nat) (hk : (y &&& 0x3f).toInt64.toBitVec.toNat % 64 = k) (h0 : 0 < k) : (((x).toUInt64 >>> (y &&& 0x3f).toInt64.toUInt64).toInt64).toInt = (x.toInt % 18446744073709551616) / (2 ^ k : Nat) := by
  have e : (((x).toUInt64 >>> (y &&& 0x3f).toInt64.toUInt64).toInt64).toBitVec = x.toBitVec >>> k := by rw [← hk]; simp
  have hl := x.toBitVec.isLt
  have hp0 : 0 < 2 ^ k := Nat.pow_pos (by decide)
  have h2 : 2 ^ 1 ≤ 2 ^ k := Nat.pow_le_pow_right (by decide) h0
  have hd : x.toBitVec.toNat / 2 ^ k ≤ x.toBitVec.toNat / 2 := Nat.div_le_div_left h2 (by decide)
  have t : x.toInt % 18446744073709551616 = (x.toBitVec.toNat : Int) := by
    rw [← Int64.toInt_toBitVec, BitVec.toInt_eq_toNat_cond]; split <;> omega
  rw [t, ← Int64.toInt_toBitVec, e, BitVec.toInt_eq_toNat_cond, BitVec.toNat_ushiftRight, Nat.shiftRight_eq_div_pow, if_pos (by omega)]
  simp
theorem own_shl (x : Int64) (y : Int32) (k : Nat) (hk : y.toBitVec.toNat % 64 = k) (h : -9223372036854775808 ≤ x.toInt * (2 ^ k : Nat) ∧ x.toInt * (2 ^ k : Nat) < 9223372036854775808) : (x <<< (y &&& 0x3f).toInt64).toInt = x.toInt * (2 ^ k : Nat) := by
  have q := c_lshl x y k hk
  have r := own_r64 (x <<< (y &&& 0x3f).toInt64)
  generalize x.toInt * (2 ^ k : Nat) = z at *
  omega
theorem own_nzL {x : Int32} (h : ¬ x = 0) : ¬ x.toInt64 = 0 := fun q => h (Int32.toInt_inj.mp (by rw [← own_i2l, q]; rfl))
theorem own_nzP {x : Int32} (h : 1 ≤ x.toInt) : ¬ x = 0 := fun q => by rw [q] at h; revert h; decide
theorem own_fA {t n : Int32} {k : Int} (h : t < n) (q : n.toInt - 1 = k) : t.toInt ≤ k := by rw [Int32.lt_iff_toInt_lt] at h; omega
theorem own_fB {t n : Int32} {k : Int} (h : ¬ n < t) (q : n.toInt = k) : t.toInt ≤ k := by rw [Int32.lt_iff_toInt_lt] at h; omega
theorem own_fC {t n : Int32} {k : Int} (h : n < t) (q : n.toInt + 1 = k) : k ≤ t.toInt := by rw [Int32.lt_iff_toInt_lt] at h; omega
theorem own_fD {t n : Int32} {k : Int} (h : ¬ t < n) (q : n.toInt = k) : k ≤ t.toInt := by rw [Int32.lt_iff_toInt_lt] at h; omega
theorem own_fE {t n : Int32} {k : Int} (h : t = n) (q : n.toInt = k) : t.toInt ≤ k := by rw [h]; omega
theorem own_fF {t n : Int32} {k : Int} (h : t = n) (q : n.toInt = k) : k ≤ t.toInt := by rw [h]; omega
theorem own_g1 {t m : Int32} {k : Int} (h : t.toInt ≤ k) (q : k < m.toInt) : t < m := by rw [Int32.lt_iff_toInt_lt]; omega
theorem own_g2 {t m : Int32} {k : Int} (h : t.toInt ≤ k) (q : k ≤ m.toInt) : ¬ m < t := by rw [Int32.lt_iff_toInt_lt]; omega
theorem own_g3 {t m : Int32} {k : Int} (h : t.toInt ≤ k) (q : k < m.toInt) : ¬ t = m := fun e => by rw [e] at h; omega
theorem own_g4 {t m : Int32} {k : Int} (h : k ≤ t.toInt) (q : m.toInt ≤ k) : ¬ t < m := by rw [Int32.lt_iff_toInt_lt]; omega
theorem own_g5 {t m : Int32} {k : Int} (h : k ≤ t.toInt) (q : m.toInt < k) : m < t := by rw [Int32.lt_iff_toInt_lt]; omega
theorem own_g6 {t m : Int32} {k : Int} (h : k ≤ t.toInt) (q : m.toInt < k) : ¬ t = m := fun e => by rw [e] at h; omega
theorem own_g7 {t m : Int32} {k : Int} (h : k ≤ t.toInt) (h' : t.toInt ≤ k) (q : m.toInt = k) : t = m := Int32.toInt_inj.mp (by omega)
theorem own_ne {x n : Int32} {k : Int} (h : ¬ x = n) (q : n.toInt = k) : k ≠ x.toInt := fun e => h (Int32.toInt_inj.mp (by omega))
theorem own_gs1 {α : Type} (xs : List α) (n : Nat) (v d : α) (h : n < xs.length) : (xs.set n v).getD n d = v := by simp [List.getD, h]
theorem own_gs2 {α : Type} (xs : List α) (n j : Nat) (v d : α) (h : n ≠ j) : (xs.set n v).getD j d = xs.getD j d := by simp [List.getD, List.getElem?_set, h]
abbrev own_S : String := "com/example/tributary/tributary/io/Silence"
abbrev own_W (a0 : Array Value) (Z : State) : Prop := ∀ d ∈ tables_1, d.before a0 Z = true
abbrev own_L (Z : State) (n d : String) := Jvm.RoadKit.slotOf Z own_S n d
theorem own_w {Z : State} {a0 : Array Value} (hw : own_W a0 Z) (i : Nat) {d : Jvm.Cond} (h : tables_1[i]? = some d) : d.before a0 Z = true := hw _ (List.mem_of_getElem? h)
theorem own_nb (P : Prop) [Decidable P] (a b : Int32) (ha : a = 0 ∨ a = 1) (hb : b = 0 ∨ b = 1) : narrow .boolean (.int (if P then a else b)) = .int (if P then a else b) := by
  rcases ha with rfl | rfl <;> rcases hb with rfl | rfl <;> split <;> rfl
theorem own_fb (P : Prop) [Decidable P] (a b : Int32) (ha : a = 0 ∨ a = 1) (hb : b = 0 ∨ b = 1) : fits .boolean (.int (if P then a else b)) = true := by
  rcases ha with rfl | rfl <;> rcases hb with rfl | rfl <;> split <;> rfl

theorem d1_0 : decode jdk_29_method_69_code 0 = .ok (.iload_n 0, 1) := by decide +kernel
theorem d1_1 : decode jdk_29_method_69_code 1 = .ok (.iload_n 1, 1) := by decide +kernel
theorem d1_2 : decode jdk_29_method_69_code 2 = .ok (.if_icmp .gt 7, 3) := by decide +kernel
theorem d1_5 : decode jdk_29_method_69_code 5 = .ok (.iload_n 0, 1) := by decide +kernel
theorem d1_6 : decode jdk_29_method_69_code 6 = .ok (.goto 4, 3) := by decide +kernel
theorem d1_9 : decode jdk_29_method_69_code 9 = .ok (.iload_n 1, 1) := by decide +kernel
theorem d1_10 : decode jdk_29_method_69_code 10 = .ok (.ireturn, 1) := by decide +kernel
theorem ef_1 (m : MethodId) (q0 : Int32) (q1 : Int32) : entryFrame m #[(.int q0), (.int q1)] 2 = mkF m 0 #[iv q0, iv q1] [] := by first | (simp [entryFrame, mkF, argsToLocals, Value.category, maxLocals]; done) | rfl
def own_f1 (q0 : Int32) (q1 : Int32) : Int32 := (if q1 < q0 then q1 else q0)
def Q1 (Z : State) (q0 : Int32) (q1 : Int32)  (h0 : Heap) (n0 : Nat) (v : Option Value) (h : Heap) (L : List Loc) : Prop := v = some (.int (own_f1 q0 q1)) ∧ Fr n0 L ∧ h = h0
set_option maxRecDepth 65536 in
set_option maxHeartbeats 40000000 in
theorem rm1 (l : Launch) (Z : State) (a0 : Array Value) (hw : ∀ d ∈ tables_1, d.before a0 Z = true) (ws : List Jvm.Cond) (q0 : Int32) (q1 : Int32)  (h0 : Heap) (n0 : Nat) (Z0 : n0 ≤ h0.size)  :
    MetFree l (⟨"java/lang/Math", "min", "(II)I"⟩ : MethodName) (head1 (Jvm.Cond.code (⟨"java/lang/Math", "min", "(II)I"⟩ : MethodName) jdk_29_method_69_code 2 (some .int) :: ws) ({ frames := 0, cells := 0, slots := 0, locals := 0 } : Room)) (fun a U => a = #[(.int q0), (.int q1)] ∧ Z.Warmed39 U.vm ∧ U.heap = h0) (fun _ _ _ _ _ => True) (fun _ U o U' => ∃ v L, o = .returned v ∧ Q1 Z q0 q1 h0 n0 v U'.heap L ∧ FrameEnd U o U' L ({ frames := 0, cells := 0, slots := 0, locals := 0 } : Room).cells ({ frames := 0, cells := 0, slots := 0, locals := 0 } : Room).slots) := by
  refine MetFree.of_bodySF (Jvm.Free.JP.mathPlain rfl (by decide +kernel)) hisR ?_
  intro p e s m args below meth c s₁ Bd hml0 hP hK
  obtain ⟨rfl, hZ, hh⟩ := hP
  have hx := Bd.exec
  have hby := Bd.bytes
  have hml : c.maxLocals = 2 := hml0
  have hown : s.vm.findClass "java/lang/Math" = some m.cls := findClass_of_methodNamed Bd.named
  have hnm := (name_of_methodNamed Bd.named Bd.method).1
  have X0 : Stand p l e ({ frames := 0, cells := 0, slots := 0, locals := 0 } : Room) s m #[(.int q0), (.int q1)] below meth c s₁ [] 0 0 := Stand.of_body Bd
  have hlk : meth.locks = false := by first | exact BodyLoose.notSynchronized (by assumption) | exact Body.notSynchronized (by assumption)
  have e0 : s₁.heap = h0 := by rw [← hh, Bd.state]; rfl
  have N0 := Fr.nil n0
  have pre0 : ∀ t, Steps p.tables e below (s₁.setTop (mkF m 0 #[iv q0, iv q1] [])) t → Steps p.tables e below (s₁.setTop (entryFrame m #[(.int q0), (.int q1)] 2)) t := fun t k => castTop (ef_1 m q0 q1) k
  generalize s₁.setTop (entryFrame m #[(.int q0), (.int q1)] 2) = B0 at pre0 ⊢
  have H : ∀ (i : Nat) {d : Jvm.Cond}, tables_1[i]? = some d → d.before a0 Z = true := fun i d q => hw d (List.mem_of_getElem? q)
  have D : ∀ {pc : Nat} {r : Except DecodeError (Instr × Nat)}, decode jdk_29_method_69_code pc = r → decode c.code pc = r := fun q => hb hby q
  have pre1 : ∀ t, Steps p.tables e below (s₁.setTop (mkF m 2 #[iv q0, iv q1] [(.int q1), (.int q0)])) t → Steps p.tables e below B0 t := by
    intro t k
    refine pre0 t ?_
    show Steps p.tables e below (s₁.setTop (mkF m 0 #[iv q0, iv q1] [])) _
    refine XS.iloadN X0.here hx rfl (D d1_0) rfl ?_
    refine XS.iloadN X0.here hx rfl (D d1_1) rfl ?_
    exact k
  by_cases c2 : q1 < q0
  · obtain ⟨fs, hr, hrun, hended, hW, hsame⟩ := X0.leave (v := some (.int q1)) (fun h => by rw [Bd.returns] at h; cases h) hlk
    refine ⟨_, _, pre1 _ ?_, hrun, hended, _, _, rfl, ?_, ⟨_, rfl⟩, hW, hsame.mono (by decide) (by decide)⟩
    · show Steps p.tables e below (s₁.setTop (mkF m 2 #[iv q0, iv q1] [(.int q1), (.int q0)])) _
      refine XS.icmpYes X0.here hx rfl (pc0 := 2) (pc' := 9) rfl (D d1_2) rfl ((tlt c2).2.2.1) (by decide) (by decide) ?_
      refine XS.iloadN X0.here hx rfl (D d1_9) rfl ?_
      show Steps p.tables e below (s₁.setTop (mkF m 10 #[iv q0, iv q1] [(.int q1)])) _
      exact retI X0 hx Bd.returns (D d1_10) hr
    · show Q1 Z q0 q1 h0 n0 _ s₁.heap _
      rw [e0]
      exact ⟨by simp only [own_f1, if_pos c2], N0, rfl⟩
  · obtain ⟨fs, hr, hrun, hended, hW, hsame⟩ := X0.leave (v := some (.int q0)) (fun h => by rw [Bd.returns] at h; cases h) hlk
    refine ⟨_, _, pre1 _ ?_, hrun, hended, _, _, rfl, ?_, ⟨_, rfl⟩, hW, hsame.mono (by decide) (by decide)⟩
    · show Steps p.tables e below (s₁.setTop (mkF m 2 #[iv q0, iv q1] [(.int q1), (.int q0)])) _
      refine XS.icmpNo X0.here hx rfl (D d1_2) rfl ((flt c2).2.2.1) ?_
      refine XS.iloadN X0.here hx rfl (D d1_5) rfl ?_
      refine XS.goto X0.here hx rfl (pc0 := 6) (pc' := 10) rfl (D d1_6) (by decide) (by decide) ?_
      show Steps p.tables e below (s₁.setTop (mkF m 10 #[iv q0, iv q1] [(.int q0)])) _
      exact retI X0 hx Bd.returns (D d1_10) hr
    · show Q1 Z q0 q1 h0 n0 _ s₁.heap _
      rw [e0]
      exact ⟨by simp only [own_f1, if_neg c2], N0, rfl⟩
theorem d2_0 : decode method_3_code 0 = .ok (.lload_n 0, 1) := by decide +kernel
theorem d2_1 : decode method_3_code 1 = .ok (.lstore 4, 2) := by decide +kernel
theorem d2_3 : decode method_3_code 3 = .ok (.lload 4, 2) := by decide +kernel
theorem d2_5 : decode method_3_code 5 = .ok (.ldc2_w 42, 3) := by decide +kernel
theorem d2_8 : decode method_3_code 8 = .ok (.land, 1) := by decide +kernel
theorem d2_9 : decode method_3_code 9 = .ok (.lconst 0, 1) := by decide +kernel
theorem d2_10 : decode method_3_code 10 = .ok (.lcmp, 1) := by decide +kernel
theorem d2_11 : decode method_3_code 11 = .ok (.ifCond .eq 11, 3) := by decide +kernel
theorem d2_14 : decode method_3_code 14 = .ok (.lload 4, 2) := by decide +kernel
theorem d2_16 : decode method_3_code 16 = .ok (.ldc2_w 17, 3) := by decide +kernel
theorem d2_19 : decode method_3_code 19 = .ok (.lor, 1) := by decide +kernel
theorem d2_20 : decode method_3_code 20 = .ok (.lstore 4, 2) := by decide +kernel
theorem d2_22 : decode method_3_code 22 = .ok (.lload_n 2, 1) := by decide +kernel
theorem d2_23 : decode method_3_code 23 = .ok (.lconst 0, 1) := by decide +kernel
theorem d2_24 : decode method_3_code 24 = .ok (.lcmp, 1) := by decide +kernel
theorem d2_25 : decode method_3_code 25 = .ok (.ifCond .ne 11, 3) := by decide +kernel
theorem d2_28 : decode method_3_code 28 = .ok (.lload 4, 2) := by decide +kernel
theorem d2_30 : decode method_3_code 30 = .ok (.ldc2_w 44, 3) := by decide +kernel
theorem d2_33 : decode method_3_code 33 = .ok (.land, 1) := by decide +kernel
theorem d2_34 : decode method_3_code 34 = .ok (.lstore 4, 2) := by decide +kernel
theorem d2_36 : decode method_3_code 36 = .ok (.lload 4, 2) := by decide +kernel
theorem d2_38 : decode method_3_code 38 = .ok (.lreturn, 1) := by decide +kernel
theorem pn_2 : plainName "com/example/tributary/tributary/io/SilenceMeasuredPinLaw" = true := by first | (simp [plainName, overriddenIn]; done) | decide +kernel
theorem ef_2 (m : MethodId) (q0 : Int64) (q1 : Int64) : entryFrame m #[(.long q0), (.long q1)] 6 = mkF m 0 #[jv q0, s2, jv q1, s2, u0, u0] [] := by first | (simp [entryFrame, mkF, argsToLocals, Value.category, maxLocals]; done) | rfl
def own_f2 (q0 : Int64) (q1 : Int64) : Int64 := (if q1 = (0 : Int64) then ((if (q0 &&& (4 : Int64)) = (0 : Int64) then q0 else (q0 ||| (2 : Int64))) &&& (-2 : Int64)) else (if (q0 &&& (4 : Int64)) = (0 : Int64) then q0 else (q0 ||| (2 : Int64))))
def Q2 (Z : State) (q0 : Int64) (q1 : Int64)  (h0 : Heap) (n0 : Nat) (v : Option Value) (h : Heap) (L : List Loc) : Prop := v = some (.long (own_f2 q0 q1)) ∧ Fr n0 L ∧ h = h0
set_option maxRecDepth 65536 in
set_option maxHeartbeats 40000000 in
theorem rm2 (l : Launch) (Z : State) (a0 : Array Value) (hw : ∀ d ∈ tables_1, d.before a0 Z = true) (ws : List Jvm.Cond) (q0 : Int64) (q1 : Int64)  (h0 : Heap) (n0 : Nat) (Z0 : n0 ≤ h0.size)  :
    MetFree l (⟨"com/example/tributary/tributary/io/SilenceMeasuredPinLaw", "fix", "(JJ)J"⟩ : MethodName) (head1 (Jvm.Cond.code (⟨"com/example/tributary/tributary/io/SilenceMeasuredPinLaw", "fix", "(JJ)J"⟩ : MethodName) method_3_code 6 (some .long) :: ws) ({ frames := 0, cells := 0, slots := 0, locals := 0 } : Room)) (fun a U => a = #[(.long q0), (.long q1)] ∧ Z.Warmed39 U.vm ∧ U.heap = h0) (fun _ _ _ _ _ => True) (fun _ U o U' => ∃ v L, o = .returned v ∧ Q2 Z q0 q1 h0 n0 v U'.heap L ∧ FrameEnd U o U' L ({ frames := 0, cells := 0, slots := 0, locals := 0 } : Room).cells ({ frames := 0, cells := 0, slots := 0, locals := 0 } : Room).slots) := by
  refine MetFree.of_bodySF (plainFor_of_name pn_2) hisR ?_
  intro p e s m args below meth c s₁ Bd hml0 hP hK
  obtain ⟨rfl, hZ, hh⟩ := hP
  have hx := Bd.exec
  have hby := Bd.bytes
  have hml : c.maxLocals = 6 := hml0
  have hown : s.vm.findClass "com/example/tributary/tributary/io/SilenceMeasuredPinLaw" = some m.cls := findClass_of_methodNamed Bd.named
  have hnm := (name_of_methodNamed Bd.named Bd.method).1
  have X0 : Stand p l e ({ frames := 0, cells := 0, slots := 0, locals := 0 } : Room) s m #[(.long q0), (.long q1)] below meth c s₁ [] 0 0 := Stand.of_body Bd
  have hlk : meth.locks = false := by first | exact BodyLoose.notSynchronized (by assumption) | exact Body.notSynchronized (by assumption)
  have e0 : s₁.heap = h0 := by rw [← hh, Bd.state]; rfl
  have N0 := Fr.nil n0
  have pre0 : ∀ t, Steps p.tables e below (s₁.setTop (mkF m 0 #[jv q0, s2, jv q1, s2, u0, u0] [])) t → Steps p.tables e below (s₁.setTop (entryFrame m #[(.long q0), (.long q1)] 6)) t := fun t k => castTop (ef_2 m q0 q1) k
  generalize s₁.setTop (entryFrame m #[(.long q0), (.long q1)] 6) = B0 at pre0 ⊢
  have H : ∀ (i : Nat) {d : Jvm.Cond}, tables_1[i]? = some d → d.before a0 Z = true := fun i d q => hw d (List.mem_of_getElem? q)
  have D : ∀ {pc : Nat} {r : Except DecodeError (Instr × Nat)}, decode method_3_code pc = r → decode c.code pc = r := fun q => hb hby q
  have pre2 : ∀ t, Steps p.tables e below (s₁.setTop (mkF m 11 #[jv q0, s2, jv q1, s2, jv q0, s2] [(.int (lcmpW (q0 &&& (4 : Int64)) (0 : Int64)))])) t → Steps p.tables e below B0 t := by
    intro t k
    refine pre0 t ?_
    show Steps p.tables e below (s₁.setTop (mkF m 0 #[jv q0, s2, jv q1, s2, u0, u0] [])) _
    refine XS.lloadN X0.here hx rfl (D d2_0) rfl ?_
    refine XS.lstore X0.here hx rfl (D d2_1) rfl (l' := #[jv q0, s2, jv q1, s2, jv q0, s2]) rfl ?_
    refine XS.lload X0.here hx rfl (D d2_3) rfl ?_
    refine X0.ldc2Long hx hown (mvT hZ (H 9 rfl)) (g := (mkF m 5 #[jv q0, s2, jv q1, s2, jv q0, s2] [(.long q0)])) rfl (D d2_5) _ ?_
    refine XS.land X0.here hx rfl (D d2_8) rfl ?_
    refine XS.lconst X0.here hx rfl (D d2_9) ?_
    refine XS.lcmp X0.here hx rfl (D d2_10) rfl ?_
    exact k
  have pre3 : ∀ t, Steps p.tables e below (s₁.setTop (mkF m 22 #[jv q0, s2, jv q1, s2, jv (if (q0 &&& (4 : Int64)) = (0 : Int64) then q0 else (q0 ||| (2 : Int64))), s2] [])) t → Steps p.tables e below B0 t := by
    by_cases c1 : (q0 &&& (4 : Int64)) = (0 : Int64)
    · try simp only [if_pos c1]
      intro t k
      refine pre2 t ?_
      show Steps p.tables e below (s₁.setTop (mkF m 11 #[jv q0, s2, jv q1, s2, jv q0, s2] [(.int (lcmpW (q0 &&& (4 : Int64)) (0 : Int64)))])) _
      refine XS.ifYes X0.here hx rfl (pc0 := 11) (pc' := 22) rfl (D d2_11) rfl ((if0 _ _).trans (teq ((lw_eq (q0 &&& (4 : Int64)) (0 : Int64)).mpr c1)).1) (by decide) (by decide) ?_
      exact k
    · try simp only [if_neg c1]
      intro t k
      refine pre2 t ?_
      show Steps p.tables e below (s₁.setTop (mkF m 11 #[jv q0, s2, jv q1, s2, jv q0, s2] [(.int (lcmpW (q0 &&& (4 : Int64)) (0 : Int64)))])) _
      refine XS.ifNo X0.here hx rfl (D d2_11) rfl ((if0 _ _).trans (feq (mt (lw_eq (q0 &&& (4 : Int64)) (0 : Int64)).mp c1)).1) ?_
      refine XS.lload X0.here hx rfl (D d2_14) rfl ?_
      refine X0.ldc2Long hx hown (mvT hZ (H 4 rfl)) (g := (mkF m 16 #[jv q0, s2, jv q1, s2, jv q0, s2] [(.long q0)])) rfl (D d2_16) _ ?_
      refine XS.lor X0.here hx rfl (D d2_19) rfl ?_
      refine XS.lstore X0.here hx rfl (D d2_20) rfl (l' := #[jv q0, s2, jv q1, s2, jv (q0 ||| (2 : Int64)), s2]) rfl ?_
      exact k
  have pre5 : ∀ t, Steps p.tables e below (s₁.setTop (mkF m 25 #[jv q0, s2, jv q1, s2, jv (if (q0 &&& (4 : Int64)) = (0 : Int64) then q0 else (q0 ||| (2 : Int64))), s2] [(.int (lcmpW q1 (0 : Int64)))])) t → Steps p.tables e below B0 t := by
    intro t k
    refine pre3 t ?_
    show Steps p.tables e below (s₁.setTop (mkF m 22 #[jv q0, s2, jv q1, s2, jv (if (q0 &&& (4 : Int64)) = (0 : Int64) then q0 else (q0 ||| (2 : Int64))), s2] [])) _
    refine XS.lloadN X0.here hx rfl (D d2_22) rfl ?_
    refine XS.lconst X0.here hx rfl (D d2_23) ?_
    refine XS.lcmp X0.here hx rfl (D d2_24) rfl ?_
    exact k
  clear pre2 pre3
  have pre6 : ∀ t, Steps p.tables e below (s₁.setTop (mkF m 36 #[jv q0, s2, jv q1, s2, jv (if q1 = (0 : Int64) then ((if (q0 &&& (4 : Int64)) = (0 : Int64) then q0 else (q0 ||| (2 : Int64))) &&& (-2 : Int64)) else (if (q0 &&& (4 : Int64)) = (0 : Int64) then q0 else (q0 ||| (2 : Int64)))), s2] [])) t → Steps p.tables e below B0 t := by
    by_cases c4 : q1 = (0 : Int64)
    · try simp only [if_pos c4]
      intro t k
      refine pre5 t ?_
      show Steps p.tables e below (s₁.setTop (mkF m 25 #[jv q0, s2, jv q1, s2, jv (if (q0 &&& (4 : Int64)) = (0 : Int64) then q0 else (q0 ||| (2 : Int64))), s2] [(.int (lcmpW q1 (0 : Int64)))])) _
      refine XS.ifNo X0.here hx rfl (D d2_25) rfl ((if0 _ _).trans (teq ((lw_eq q1 (0 : Int64)).mpr c4)).2) ?_
      refine XS.lload X0.here hx rfl (D d2_28) rfl ?_
      refine X0.ldc2Long hx hown (mvT hZ (H 10 rfl)) (g := (mkF m 30 #[jv q0, s2, jv q1, s2, jv (if (q0 &&& (4 : Int64)) = (0 : Int64) then q0 else (q0 ||| (2 : Int64))), s2] [(.long (if (q0 &&& (4 : Int64)) = (0 : Int64) then q0 else (q0 ||| (2 : Int64))))])) rfl (D d2_30) _ ?_
      refine XS.land X0.here hx rfl (D d2_33) rfl ?_
      refine XS.lstore X0.here hx rfl (D d2_34) rfl (l' := #[jv q0, s2, jv q1, s2, jv ((if (q0 &&& (4 : Int64)) = (0 : Int64) then q0 else (q0 ||| (2 : Int64))) &&& (-2 : Int64)), s2]) rfl ?_
      exact k
    · try simp only [if_neg c4]
      intro t k
      refine pre5 t ?_
      show Steps p.tables e below (s₁.setTop (mkF m 25 #[jv q0, s2, jv q1, s2, jv (if (q0 &&& (4 : Int64)) = (0 : Int64) then q0 else (q0 ||| (2 : Int64))), s2] [(.int (lcmpW q1 (0 : Int64)))])) _
      refine XS.ifYes X0.here hx rfl (pc0 := 25) (pc' := 36) rfl (D d2_25) rfl ((if0 _ _).trans (feq (mt (lw_eq q1 (0 : Int64)).mp c4)).2) (by decide) (by decide) ?_
      exact k
  obtain ⟨fs, hr, hrun, hended, hW, hsame⟩ := X0.leave (v := some (.long (if q1 = (0 : Int64) then ((if (q0 &&& (4 : Int64)) = (0 : Int64) then q0 else (q0 ||| (2 : Int64))) &&& (-2 : Int64)) else (if (q0 &&& (4 : Int64)) = (0 : Int64) then q0 else (q0 ||| (2 : Int64)))))) (fun h => by rw [Bd.returns] at h; cases h) hlk
  refine ⟨_, _, pre6 _ ?_, hrun, hended, _, _, rfl, ?_, ⟨_, rfl⟩, hW, hsame.mono (by decide) (by decide)⟩
  · show Steps p.tables e below (s₁.setTop (mkF m 36 #[jv q0, s2, jv q1, s2, jv (if q1 = (0 : Int64) then ((if (q0 &&& (4 : Int64)) = (0 : Int64) then q0 else (q0 ||| (2 : Int64))) &&& (-2 : Int64)) else (if (q0 &&& (4 : Int64)) = (0 : Int64) then q0 else (q0 ||| (2 : Int64)))), s2] [])) _
    refine XS.lload X0.here hx rfl (D d2_36) rfl ?_
    show Steps p.tables e below (s₁.setTop (mkF m 38 #[jv q0, s2, jv q1, s2, jv (if q1 = (0 : Int64) then ((if (q0 &&& (4 : Int64)) = (0 : Int64) then q0 else (q0 ||| (2 : Int64))) &&& (-2 : Int64)) else (if (q0 &&& (4 : Int64)) = (0 : Int64) then q0 else (q0 ||| (2 : Int64)))), s2] [(.long (if q1 = (0 : Int64) then ((if (q0 &&& (4 : Int64)) = (0 : Int64) then q0 else (q0 ||| (2 : Int64))) &&& (-2 : Int64)) else (if (q0 &&& (4 : Int64)) = (0 : Int64) then q0 else (q0 ||| (2 : Int64)))))])) _
    exact X0.lreturnOut hx Bd.returns (D d2_38) hr
  · show Q2 Z q0 q1 h0 n0 _ s₁.heap _
    rw [e0]
    exact ⟨by rfl, N0, rfl⟩
theorem d4_0 : decode prog_43_method_2_code 0 = .ok (.aload_n 0, 1) := by decide +kernel
theorem d4_1 : decode prog_43_method_2_code 1 = .ok (.invokespecial 7, 3) := by decide +kernel
theorem d4_4 : decode prog_43_method_2_code 4 = .ok (.aload_n 0, 1) := by decide +kernel
theorem d4_5 : decode prog_43_method_2_code 5 = .ok (.iconst (-1), 1) := by decide +kernel
theorem d4_6 : decode prog_43_method_2_code 6 = .ok (.putfield 12, 3) := by decide +kernel
theorem d4_9 : decode prog_43_method_2_code 9 = .ok (.iload_n 1, 1) := by decide +kernel
theorem d4_10 : decode prog_43_method_2_code 10 = .ok (.iconst 1, 1) := by decide +kernel
theorem d4_11 : decode prog_43_method_2_code 11 = .ok (.if_icmp .ge 13, 3) := by decide +kernel
theorem d4_14 : decode prog_43_method_2_code 14 = .ok (.new 16, 3) := by decide +kernel
theorem d4_17 : decode prog_43_method_2_code 17 = .ok (.dup, 1) := by decide +kernel
theorem d4_18 : decode prog_43_method_2_code 18 = .ok (.ldc 18, 2) := by decide +kernel
theorem d4_20 : decode prog_43_method_2_code 20 = .ok (.invokespecial 20, 3) := by decide +kernel
theorem d4_23 : decode prog_43_method_2_code 23 = .ok (.athrow, 1) := by decide +kernel
theorem d4_24 : decode prog_43_method_2_code 24 = .ok (.lload_n 2, 1) := by decide +kernel
theorem d4_25 : decode prog_43_method_2_code 25 = .ok (.lconst 1, 1) := by decide +kernel
theorem d4_26 : decode prog_43_method_2_code 26 = .ok (.lcmp, 1) := by decide +kernel
theorem d4_27 : decode prog_43_method_2_code 27 = .ok (.ifCond .ge 17, 3) := by decide +kernel
theorem d4_30 : decode prog_43_method_2_code 30 = .ok (.new 16, 3) := by decide +kernel
theorem d4_33 : decode prog_43_method_2_code 33 = .ok (.dup, 1) := by decide +kernel
theorem d4_34 : decode prog_43_method_2_code 34 = .ok (.lload_n 2, 1) := by decide +kernel
theorem d4_35 : decode prog_43_method_2_code 35 = .ok (.invokedynamic 23, 5) := by decide +kernel
theorem d4_40 : decode prog_43_method_2_code 40 = .ok (.invokespecial 20, 3) := by decide +kernel
theorem d4_43 : decode prog_43_method_2_code 43 = .ok (.athrow, 1) := by decide +kernel
theorem d4_44 : decode prog_43_method_2_code 44 = .ok (.aload_n 0, 1) := by decide +kernel
theorem d4_45 : decode prog_43_method_2_code 45 = .ok (.lload_n 2, 1) := by decide +kernel
theorem d4_46 : decode prog_43_method_2_code 46 = .ok (.putfield 27, 3) := by decide +kernel
theorem d4_49 : decode prog_43_method_2_code 49 = .ok (.aload_n 0, 1) := by decide +kernel
theorem d4_50 : decode prog_43_method_2_code 50 = .ok (.iload 4, 2) := by decide +kernel
theorem d4_52 : decode prog_43_method_2_code 52 = .ok (.putfield 31, 3) := by decide +kernel
theorem d4_55 : decode prog_43_method_2_code 55 = .ok (.aload_n 0, 1) := by decide +kernel
theorem d4_56 : decode prog_43_method_2_code 56 = .ok (.iload_n 1, 1) := by decide +kernel
theorem d4_57 : decode prog_43_method_2_code 57 = .ok (.newarray .long, 2) := by decide +kernel
theorem d4_59 : decode prog_43_method_2_code 59 = .ok (.putfield 35, 3) := by decide +kernel
theorem d4_62 : decode prog_43_method_2_code 62 = .ok (.aload_n 0, 1) := by decide +kernel
theorem d4_63 : decode prog_43_method_2_code 63 = .ok (.iload_n 1, 1) := by decide +kernel
theorem d4_64 : decode prog_43_method_2_code 64 = .ok (.newarray .boolean, 2) := by decide +kernel
theorem d4_66 : decode prog_43_method_2_code 66 = .ok (.putfield 39, 3) := by decide +kernel
theorem d4_69 : decode prog_43_method_2_code 69 = .ok (.aload_n 0, 1) := by decide +kernel
theorem d4_70 : decode prog_43_method_2_code 70 = .ok (.iload_n 1, 1) := by decide +kernel
theorem d4_71 : decode prog_43_method_2_code 71 = .ok (.newarray .long, 2) := by decide +kernel
theorem d4_73 : decode prog_43_method_2_code 73 = .ok (.putfield 43, 3) := by decide +kernel
theorem d4_76 : decode prog_43_method_2_code 76 = .ok (.aload_n 0, 1) := by decide +kernel
theorem d4_77 : decode prog_43_method_2_code 77 = .ok (.iload_n 1, 1) := by decide +kernel
theorem d4_78 : decode prog_43_method_2_code 78 = .ok (.newarray .boolean, 2) := by decide +kernel
theorem d4_80 : decode prog_43_method_2_code 80 = .ok (.putfield 46, 3) := by decide +kernel
theorem d4_83 : decode prog_43_method_2_code 83 = .ok (.aload_n 0, 1) := by decide +kernel
theorem d4_84 : decode prog_43_method_2_code 84 = .ok (.iload_n 1, 1) := by decide +kernel
theorem d4_85 : decode prog_43_method_2_code 85 = .ok (.newarray .boolean, 2) := by decide +kernel
theorem d4_87 : decode prog_43_method_2_code 87 = .ok (.putfield 49, 3) := by decide +kernel
theorem d4_90 : decode prog_43_method_2_code 90 = .ok (.aload_n 0, 1) := by decide +kernel
theorem d4_91 : decode prog_43_method_2_code 91 = .ok (.iload_n 1, 1) := by decide +kernel
theorem d4_92 : decode prog_43_method_2_code 92 = .ok (.putfield 52, 3) := by decide +kernel
theorem d4_95 : decode prog_43_method_2_code 95 = .ok (.return_, 1) := by decide +kernel
theorem pn_4 : plainName "com/example/tributary/tributary/io/Silence" = true := by first | (simp [plainName, overriddenIn]; done) | decide +kernel
theorem ef_4_1 (m : MethodId) (ra : Addr) : entryFrame m #[(.ref ra), (.int (1 : Int32)), (.long (1 : Int64)), (.int (0 : Int32))] 5 = mkF m 0 #[rv ra, iv (1 : Int32), jv (1 : Int64), s2, iv (0 : Int32)] [] := by first | (simp [entryFrame, mkF, argsToLocals, Value.category, maxLocals]; done) | rfl
theorem own_sn_5 {Z a0} (hw : own_W a0 Z) : own_L Z "limit" "J" ≠ own_L Z "lastLeft" "I" := slot_ne (a0 := a0) (C := own_S) (Or.inr (own_w hw 27 rfl)) (Or.inl (own_w hw 25 rfl)) (by decide) (t := .long) (t' := .int) (by decide) (by decide)
theorem own_sn_6 {Z a0} (hw : own_W a0 Z) : own_L Z "includesLast" "Z" ≠ own_L Z "lastLeft" "I" := slot_ne (a0 := a0) (C := own_S) (Or.inr (own_w hw 29 rfl)) (Or.inl (own_w hw 25 rfl)) (by decide) (t := .boolean) (t' := .int) (by decide) (by decide)
theorem own_sn_7 {Z a0} (hw : own_W a0 Z) : own_L Z "last" "[J" ≠ own_L Z "lastLeft" "I" := slot_ne (a0 := a0) (C := own_S) (Or.inr (own_w hw 31 rfl)) (Or.inl (own_w hw 25 rfl)) (by decide) (t := (.array .long)) (t' := .int) (by decide) (by decide)
theorem own_sn_8 {Z a0} (hw : own_W a0 Z) : own_L Z "sent" "[Z" ≠ own_L Z "lastLeft" "I" := slot_ne (a0 := a0) (C := own_S) (Or.inr (own_w hw 34 rfl)) (Or.inl (own_w hw 25 rfl)) (by decide) (t := (.array .boolean)) (t' := .int) (by decide) (by decide)
theorem own_sn_9 {Z a0} (hw : own_W a0 Z) : own_L Z "runs" "[J" ≠ own_L Z "lastLeft" "I" := slot_ne (a0 := a0) (C := own_S) (Or.inr (own_w hw 36 rfl)) (Or.inl (own_w hw 25 rfl)) (by decide) (t := (.array .long)) (t' := .int) (by decide) (by decide)
theorem own_sn_10 {Z a0} (hw : own_W a0 Z) : own_L Z "gone" "[Z" ≠ own_L Z "lastLeft" "I" := slot_ne (a0 := a0) (C := own_S) (Or.inr (own_w hw 38 rfl)) (Or.inl (own_w hw 25 rfl)) (by decide) (t := (.array .boolean)) (t' := .int) (by decide) (by decide)
theorem own_sn_11 {Z a0} (hw : own_W a0 Z) : own_L Z "stopped" "[Z" ≠ own_L Z "lastLeft" "I" := slot_ne (a0 := a0) (C := own_S) (Or.inr (own_w hw 40 rfl)) (Or.inl (own_w hw 25 rfl)) (by decide) (t := (.array .boolean)) (t' := .int) (by decide) (by decide)
theorem own_sn_12 {Z a0} (hw : own_W a0 Z) : own_L Z "open" "I" ≠ own_L Z "lastLeft" "I" := slot_ne (a0 := a0) (C := own_S) (Or.inl (own_w hw 42 rfl)) (Or.inl (own_w hw 25 rfl)) (by decide) (t := .int) (t' := .int) (by decide) (by decide)
theorem own_sn_13 {Z a0} (hw : own_W a0 Z) : own_L Z "started" "Z" ≠ own_L Z "lastLeft" "I" := slot_ne (a0 := a0) (C := own_S) (Or.inl (own_w hw 49 rfl)) (Or.inl (own_w hw 25 rfl)) (by decide) (t := .boolean) (t' := .int) (by decide) (by decide)
theorem own_sn_14 {Z a0} (hw : own_W a0 Z) : own_L Z "latest" "J" ≠ own_L Z "lastLeft" "I" := slot_ne (a0 := a0) (C := own_S) (Or.inl (own_w hw 51 rfl)) (Or.inl (own_w hw 25 rfl)) (by decide) (t := .long) (t' := .int) (by decide) (by decide)
theorem own_sn_15 {Z a0} (hw : own_W a0 Z) : own_L Z "lastLeft" "I" ≠ own_L Z "limit" "J" := slot_ne (a0 := a0) (C := own_S) (Or.inl (own_w hw 25 rfl)) (Or.inr (own_w hw 27 rfl)) (by decide) (t := .int) (t' := .long) (by decide) (by decide)
theorem own_sn_16 {Z a0} (hw : own_W a0 Z) : own_L Z "includesLast" "Z" ≠ own_L Z "limit" "J" := slot_ne (a0 := a0) (C := own_S) (Or.inr (own_w hw 29 rfl)) (Or.inr (own_w hw 27 rfl)) (by decide) (t := .boolean) (t' := .long) (by decide) (by decide)
theorem own_sn_17 {Z a0} (hw : own_W a0 Z) : own_L Z "last" "[J" ≠ own_L Z "limit" "J" := slot_ne (a0 := a0) (C := own_S) (Or.inr (own_w hw 31 rfl)) (Or.inr (own_w hw 27 rfl)) (by decide) (t := (.array .long)) (t' := .long) (by decide) (by decide)
theorem own_sn_18 {Z a0} (hw : own_W a0 Z) : own_L Z "sent" "[Z" ≠ own_L Z "limit" "J" := slot_ne (a0 := a0) (C := own_S) (Or.inr (own_w hw 34 rfl)) (Or.inr (own_w hw 27 rfl)) (by decide) (t := (.array .boolean)) (t' := .long) (by decide) (by decide)
theorem own_sn_19 {Z a0} (hw : own_W a0 Z) : own_L Z "runs" "[J" ≠ own_L Z "limit" "J" := slot_ne (a0 := a0) (C := own_S) (Or.inr (own_w hw 36 rfl)) (Or.inr (own_w hw 27 rfl)) (by decide) (t := (.array .long)) (t' := .long) (by decide) (by decide)
theorem own_sn_20 {Z a0} (hw : own_W a0 Z) : own_L Z "gone" "[Z" ≠ own_L Z "limit" "J" := slot_ne (a0 := a0) (C := own_S) (Or.inr (own_w hw 38 rfl)) (Or.inr (own_w hw 27 rfl)) (by decide) (t := (.array .boolean)) (t' := .long) (by decide) (by decide)
theorem own_sn_21 {Z a0} (hw : own_W a0 Z) : own_L Z "stopped" "[Z" ≠ own_L Z "limit" "J" := slot_ne (a0 := a0) (C := own_S) (Or.inr (own_w hw 40 rfl)) (Or.inr (own_w hw 27 rfl)) (by decide) (t := (.array .boolean)) (t' := .long) (by decide) (by decide)
theorem own_sn_22 {Z a0} (hw : own_W a0 Z) : own_L Z "open" "I" ≠ own_L Z "limit" "J" := slot_ne (a0 := a0) (C := own_S) (Or.inl (own_w hw 42 rfl)) (Or.inr (own_w hw 27 rfl)) (by decide) (t := .int) (t' := .long) (by decide) (by decide)
theorem own_sn_23 {Z a0} (hw : own_W a0 Z) : own_L Z "started" "Z" ≠ own_L Z "limit" "J" := slot_ne (a0 := a0) (C := own_S) (Or.inl (own_w hw 49 rfl)) (Or.inr (own_w hw 27 rfl)) (by decide) (t := .boolean) (t' := .long) (by decide) (by decide)
theorem own_sn_24 {Z a0} (hw : own_W a0 Z) : own_L Z "latest" "J" ≠ own_L Z "limit" "J" := slot_ne (a0 := a0) (C := own_S) (Or.inl (own_w hw 51 rfl)) (Or.inr (own_w hw 27 rfl)) (by decide) (t := .long) (t' := .long) (by decide) (by decide)
theorem own_sn_25 {Z a0} (hw : own_W a0 Z) : own_L Z "lastLeft" "I" ≠ own_L Z "includesLast" "Z" := slot_ne (a0 := a0) (C := own_S) (Or.inl (own_w hw 25 rfl)) (Or.inr (own_w hw 29 rfl)) (by decide) (t := .int) (t' := .boolean) (by decide) (by decide)
theorem own_sn_26 {Z a0} (hw : own_W a0 Z) : own_L Z "limit" "J" ≠ own_L Z "includesLast" "Z" := slot_ne (a0 := a0) (C := own_S) (Or.inr (own_w hw 27 rfl)) (Or.inr (own_w hw 29 rfl)) (by decide) (t := .long) (t' := .boolean) (by decide) (by decide)
theorem own_sn_27 {Z a0} (hw : own_W a0 Z) : own_L Z "last" "[J" ≠ own_L Z "includesLast" "Z" := slot_ne (a0 := a0) (C := own_S) (Or.inr (own_w hw 31 rfl)) (Or.inr (own_w hw 29 rfl)) (by decide) (t := (.array .long)) (t' := .boolean) (by decide) (by decide)
theorem own_sn_28 {Z a0} (hw : own_W a0 Z) : own_L Z "sent" "[Z" ≠ own_L Z "includesLast" "Z" := slot_ne (a0 := a0) (C := own_S) (Or.inr (own_w hw 34 rfl)) (Or.inr (own_w hw 29 rfl)) (by decide) (t := (.array .boolean)) (t' := .boolean) (by decide) (by decide)
theorem own_sn_29 {Z a0} (hw : own_W a0 Z) : own_L Z "runs" "[J" ≠ own_L Z "includesLast" "Z" := slot_ne (a0 := a0) (C := own_S) (Or.inr (own_w hw 36 rfl)) (Or.inr (own_w hw 29 rfl)) (by decide) (t := (.array .long)) (t' := .boolean) (by decide) (by decide)
theorem own_sn_30 {Z a0} (hw : own_W a0 Z) : own_L Z "gone" "[Z" ≠ own_L Z "includesLast" "Z" := slot_ne (a0 := a0) (C := own_S) (Or.inr (own_w hw 38 rfl)) (Or.inr (own_w hw 29 rfl)) (by decide) (t := (.array .boolean)) (t' := .boolean) (by decide) (by decide)
theorem own_sn_31 {Z a0} (hw : own_W a0 Z) : own_L Z "stopped" "[Z" ≠ own_L Z "includesLast" "Z" := slot_ne (a0 := a0) (C := own_S) (Or.inr (own_w hw 40 rfl)) (Or.inr (own_w hw 29 rfl)) (by decide) (t := (.array .boolean)) (t' := .boolean) (by decide) (by decide)
theorem own_sn_32 {Z a0} (hw : own_W a0 Z) : own_L Z "open" "I" ≠ own_L Z "includesLast" "Z" := slot_ne (a0 := a0) (C := own_S) (Or.inl (own_w hw 42 rfl)) (Or.inr (own_w hw 29 rfl)) (by decide) (t := .int) (t' := .boolean) (by decide) (by decide)
theorem own_sn_33 {Z a0} (hw : own_W a0 Z) : own_L Z "started" "Z" ≠ own_L Z "includesLast" "Z" := slot_ne (a0 := a0) (C := own_S) (Or.inl (own_w hw 49 rfl)) (Or.inr (own_w hw 29 rfl)) (by decide) (t := .boolean) (t' := .boolean) (by decide) (by decide)
theorem own_sn_34 {Z a0} (hw : own_W a0 Z) : own_L Z "latest" "J" ≠ own_L Z "includesLast" "Z" := slot_ne (a0 := a0) (C := own_S) (Or.inl (own_w hw 51 rfl)) (Or.inr (own_w hw 29 rfl)) (by decide) (t := .long) (t' := .boolean) (by decide) (by decide)
theorem own_sn_35 {Z a0} (hw : own_W a0 Z) : own_L Z "lastLeft" "I" ≠ own_L Z "last" "[J" := slot_ne (a0 := a0) (C := own_S) (Or.inl (own_w hw 25 rfl)) (Or.inr (own_w hw 31 rfl)) (by decide) (t := .int) (t' := (.array .long)) (by decide) (by decide)
theorem own_sn_36 {Z a0} (hw : own_W a0 Z) : own_L Z "limit" "J" ≠ own_L Z "last" "[J" := slot_ne (a0 := a0) (C := own_S) (Or.inr (own_w hw 27 rfl)) (Or.inr (own_w hw 31 rfl)) (by decide) (t := .long) (t' := (.array .long)) (by decide) (by decide)
theorem own_sn_37 {Z a0} (hw : own_W a0 Z) : own_L Z "includesLast" "Z" ≠ own_L Z "last" "[J" := slot_ne (a0 := a0) (C := own_S) (Or.inr (own_w hw 29 rfl)) (Or.inr (own_w hw 31 rfl)) (by decide) (t := .boolean) (t' := (.array .long)) (by decide) (by decide)
theorem own_sn_38 {Z a0} (hw : own_W a0 Z) : own_L Z "sent" "[Z" ≠ own_L Z "last" "[J" := slot_ne (a0 := a0) (C := own_S) (Or.inr (own_w hw 34 rfl)) (Or.inr (own_w hw 31 rfl)) (by decide) (t := (.array .boolean)) (t' := (.array .long)) (by decide) (by decide)
theorem own_sn_39 {Z a0} (hw : own_W a0 Z) : own_L Z "runs" "[J" ≠ own_L Z "last" "[J" := slot_ne (a0 := a0) (C := own_S) (Or.inr (own_w hw 36 rfl)) (Or.inr (own_w hw 31 rfl)) (by decide) (t := (.array .long)) (t' := (.array .long)) (by decide) (by decide)
theorem own_sn_40 {Z a0} (hw : own_W a0 Z) : own_L Z "gone" "[Z" ≠ own_L Z "last" "[J" := slot_ne (a0 := a0) (C := own_S) (Or.inr (own_w hw 38 rfl)) (Or.inr (own_w hw 31 rfl)) (by decide) (t := (.array .boolean)) (t' := (.array .long)) (by decide) (by decide)
theorem own_sn_41 {Z a0} (hw : own_W a0 Z) : own_L Z "stopped" "[Z" ≠ own_L Z "last" "[J" := slot_ne (a0 := a0) (C := own_S) (Or.inr (own_w hw 40 rfl)) (Or.inr (own_w hw 31 rfl)) (by decide) (t := (.array .boolean)) (t' := (.array .long)) (by decide) (by decide)
theorem own_sn_42 {Z a0} (hw : own_W a0 Z) : own_L Z "open" "I" ≠ own_L Z "last" "[J" := slot_ne (a0 := a0) (C := own_S) (Or.inl (own_w hw 42 rfl)) (Or.inr (own_w hw 31 rfl)) (by decide) (t := .int) (t' := (.array .long)) (by decide) (by decide)
theorem own_sn_43 {Z a0} (hw : own_W a0 Z) : own_L Z "started" "Z" ≠ own_L Z "last" "[J" := slot_ne (a0 := a0) (C := own_S) (Or.inl (own_w hw 49 rfl)) (Or.inr (own_w hw 31 rfl)) (by decide) (t := .boolean) (t' := (.array .long)) (by decide) (by decide)
theorem own_sn_44 {Z a0} (hw : own_W a0 Z) : own_L Z "latest" "J" ≠ own_L Z "last" "[J" := slot_ne (a0 := a0) (C := own_S) (Or.inl (own_w hw 51 rfl)) (Or.inr (own_w hw 31 rfl)) (by decide) (t := .long) (t' := (.array .long)) (by decide) (by decide)
theorem own_sn_45 {Z a0} (hw : own_W a0 Z) : own_L Z "lastLeft" "I" ≠ own_L Z "sent" "[Z" := slot_ne (a0 := a0) (C := own_S) (Or.inl (own_w hw 25 rfl)) (Or.inr (own_w hw 34 rfl)) (by decide) (t := .int) (t' := (.array .boolean)) (by decide) (by decide)
theorem own_sn_46 {Z a0} (hw : own_W a0 Z) : own_L Z "limit" "J" ≠ own_L Z "sent" "[Z" := slot_ne (a0 := a0) (C := own_S) (Or.inr (own_w hw 27 rfl)) (Or.inr (own_w hw 34 rfl)) (by decide) (t := .long) (t' := (.array .boolean)) (by decide) (by decide)
theorem own_sn_47 {Z a0} (hw : own_W a0 Z) : own_L Z "includesLast" "Z" ≠ own_L Z "sent" "[Z" := slot_ne (a0 := a0) (C := own_S) (Or.inr (own_w hw 29 rfl)) (Or.inr (own_w hw 34 rfl)) (by decide) (t := .boolean) (t' := (.array .boolean)) (by decide) (by decide)
theorem own_sn_48 {Z a0} (hw : own_W a0 Z) : own_L Z "last" "[J" ≠ own_L Z "sent" "[Z" := slot_ne (a0 := a0) (C := own_S) (Or.inr (own_w hw 31 rfl)) (Or.inr (own_w hw 34 rfl)) (by decide) (t := (.array .long)) (t' := (.array .boolean)) (by decide) (by decide)
theorem own_sn_49 {Z a0} (hw : own_W a0 Z) : own_L Z "runs" "[J" ≠ own_L Z "sent" "[Z" := slot_ne (a0 := a0) (C := own_S) (Or.inr (own_w hw 36 rfl)) (Or.inr (own_w hw 34 rfl)) (by decide) (t := (.array .long)) (t' := (.array .boolean)) (by decide) (by decide)
theorem own_sn_50 {Z a0} (hw : own_W a0 Z) : own_L Z "gone" "[Z" ≠ own_L Z "sent" "[Z" := slot_ne (a0 := a0) (C := own_S) (Or.inr (own_w hw 38 rfl)) (Or.inr (own_w hw 34 rfl)) (by decide) (t := (.array .boolean)) (t' := (.array .boolean)) (by decide) (by decide)
theorem own_sn_51 {Z a0} (hw : own_W a0 Z) : own_L Z "stopped" "[Z" ≠ own_L Z "sent" "[Z" := slot_ne (a0 := a0) (C := own_S) (Or.inr (own_w hw 40 rfl)) (Or.inr (own_w hw 34 rfl)) (by decide) (t := (.array .boolean)) (t' := (.array .boolean)) (by decide) (by decide)
theorem own_sn_52 {Z a0} (hw : own_W a0 Z) : own_L Z "open" "I" ≠ own_L Z "sent" "[Z" := slot_ne (a0 := a0) (C := own_S) (Or.inl (own_w hw 42 rfl)) (Or.inr (own_w hw 34 rfl)) (by decide) (t := .int) (t' := (.array .boolean)) (by decide) (by decide)
theorem own_sn_53 {Z a0} (hw : own_W a0 Z) : own_L Z "started" "Z" ≠ own_L Z "sent" "[Z" := slot_ne (a0 := a0) (C := own_S) (Or.inl (own_w hw 49 rfl)) (Or.inr (own_w hw 34 rfl)) (by decide) (t := .boolean) (t' := (.array .boolean)) (by decide) (by decide)
theorem own_sn_54 {Z a0} (hw : own_W a0 Z) : own_L Z "latest" "J" ≠ own_L Z "sent" "[Z" := slot_ne (a0 := a0) (C := own_S) (Or.inl (own_w hw 51 rfl)) (Or.inr (own_w hw 34 rfl)) (by decide) (t := .long) (t' := (.array .boolean)) (by decide) (by decide)
theorem own_sn_55 {Z a0} (hw : own_W a0 Z) : own_L Z "lastLeft" "I" ≠ own_L Z "runs" "[J" := slot_ne (a0 := a0) (C := own_S) (Or.inl (own_w hw 25 rfl)) (Or.inr (own_w hw 36 rfl)) (by decide) (t := .int) (t' := (.array .long)) (by decide) (by decide)
theorem own_sn_56 {Z a0} (hw : own_W a0 Z) : own_L Z "limit" "J" ≠ own_L Z "runs" "[J" := slot_ne (a0 := a0) (C := own_S) (Or.inr (own_w hw 27 rfl)) (Or.inr (own_w hw 36 rfl)) (by decide) (t := .long) (t' := (.array .long)) (by decide) (by decide)
theorem own_sn_57 {Z a0} (hw : own_W a0 Z) : own_L Z "includesLast" "Z" ≠ own_L Z "runs" "[J" := slot_ne (a0 := a0) (C := own_S) (Or.inr (own_w hw 29 rfl)) (Or.inr (own_w hw 36 rfl)) (by decide) (t := .boolean) (t' := (.array .long)) (by decide) (by decide)
theorem own_sn_58 {Z a0} (hw : own_W a0 Z) : own_L Z "last" "[J" ≠ own_L Z "runs" "[J" := slot_ne (a0 := a0) (C := own_S) (Or.inr (own_w hw 31 rfl)) (Or.inr (own_w hw 36 rfl)) (by decide) (t := (.array .long)) (t' := (.array .long)) (by decide) (by decide)
theorem own_sn_59 {Z a0} (hw : own_W a0 Z) : own_L Z "sent" "[Z" ≠ own_L Z "runs" "[J" := slot_ne (a0 := a0) (C := own_S) (Or.inr (own_w hw 34 rfl)) (Or.inr (own_w hw 36 rfl)) (by decide) (t := (.array .boolean)) (t' := (.array .long)) (by decide) (by decide)
theorem own_sn_60 {Z a0} (hw : own_W a0 Z) : own_L Z "gone" "[Z" ≠ own_L Z "runs" "[J" := slot_ne (a0 := a0) (C := own_S) (Or.inr (own_w hw 38 rfl)) (Or.inr (own_w hw 36 rfl)) (by decide) (t := (.array .boolean)) (t' := (.array .long)) (by decide) (by decide)
theorem own_sn_61 {Z a0} (hw : own_W a0 Z) : own_L Z "stopped" "[Z" ≠ own_L Z "runs" "[J" := slot_ne (a0 := a0) (C := own_S) (Or.inr (own_w hw 40 rfl)) (Or.inr (own_w hw 36 rfl)) (by decide) (t := (.array .boolean)) (t' := (.array .long)) (by decide) (by decide)
theorem own_sn_62 {Z a0} (hw : own_W a0 Z) : own_L Z "open" "I" ≠ own_L Z "runs" "[J" := slot_ne (a0 := a0) (C := own_S) (Or.inl (own_w hw 42 rfl)) (Or.inr (own_w hw 36 rfl)) (by decide) (t := .int) (t' := (.array .long)) (by decide) (by decide)
theorem own_sn_63 {Z a0} (hw : own_W a0 Z) : own_L Z "started" "Z" ≠ own_L Z "runs" "[J" := slot_ne (a0 := a0) (C := own_S) (Or.inl (own_w hw 49 rfl)) (Or.inr (own_w hw 36 rfl)) (by decide) (t := .boolean) (t' := (.array .long)) (by decide) (by decide)
theorem own_sn_64 {Z a0} (hw : own_W a0 Z) : own_L Z "latest" "J" ≠ own_L Z "runs" "[J" := slot_ne (a0 := a0) (C := own_S) (Or.inl (own_w hw 51 rfl)) (Or.inr (own_w hw 36 rfl)) (by decide) (t := .long) (t' := (.array .long)) (by decide) (by decide)
theorem own_sn_65 {Z a0} (hw : own_W a0 Z) : own_L Z "lastLeft" "I" ≠ own_L Z "gone" "[Z" := slot_ne (a0 := a0) (C := own_S) (Or.inl (own_w hw 25 rfl)) (Or.inr (own_w hw 38 rfl)) (by decide) (t := .int) (t' := (.array .boolean)) (by decide) (by decide)
theorem own_sn_66 {Z a0} (hw : own_W a0 Z) : own_L Z "limit" "J" ≠ own_L Z "gone" "[Z" := slot_ne (a0 := a0) (C := own_S) (Or.inr (own_w hw 27 rfl)) (Or.inr (own_w hw 38 rfl)) (by decide) (t := .long) (t' := (.array .boolean)) (by decide) (by decide)
theorem own_sn_67 {Z a0} (hw : own_W a0 Z) : own_L Z "includesLast" "Z" ≠ own_L Z "gone" "[Z" := slot_ne (a0 := a0) (C := own_S) (Or.inr (own_w hw 29 rfl)) (Or.inr (own_w hw 38 rfl)) (by decide) (t := .boolean) (t' := (.array .boolean)) (by decide) (by decide)
theorem own_sn_68 {Z a0} (hw : own_W a0 Z) : own_L Z "last" "[J" ≠ own_L Z "gone" "[Z" := slot_ne (a0 := a0) (C := own_S) (Or.inr (own_w hw 31 rfl)) (Or.inr (own_w hw 38 rfl)) (by decide) (t := (.array .long)) (t' := (.array .boolean)) (by decide) (by decide)
theorem own_sn_69 {Z a0} (hw : own_W a0 Z) : own_L Z "sent" "[Z" ≠ own_L Z "gone" "[Z" := slot_ne (a0 := a0) (C := own_S) (Or.inr (own_w hw 34 rfl)) (Or.inr (own_w hw 38 rfl)) (by decide) (t := (.array .boolean)) (t' := (.array .boolean)) (by decide) (by decide)
theorem own_sn_70 {Z a0} (hw : own_W a0 Z) : own_L Z "runs" "[J" ≠ own_L Z "gone" "[Z" := slot_ne (a0 := a0) (C := own_S) (Or.inr (own_w hw 36 rfl)) (Or.inr (own_w hw 38 rfl)) (by decide) (t := (.array .long)) (t' := (.array .boolean)) (by decide) (by decide)
theorem own_sn_71 {Z a0} (hw : own_W a0 Z) : own_L Z "stopped" "[Z" ≠ own_L Z "gone" "[Z" := slot_ne (a0 := a0) (C := own_S) (Or.inr (own_w hw 40 rfl)) (Or.inr (own_w hw 38 rfl)) (by decide) (t := (.array .boolean)) (t' := (.array .boolean)) (by decide) (by decide)
theorem own_sn_72 {Z a0} (hw : own_W a0 Z) : own_L Z "open" "I" ≠ own_L Z "gone" "[Z" := slot_ne (a0 := a0) (C := own_S) (Or.inl (own_w hw 42 rfl)) (Or.inr (own_w hw 38 rfl)) (by decide) (t := .int) (t' := (.array .boolean)) (by decide) (by decide)
theorem own_sn_73 {Z a0} (hw : own_W a0 Z) : own_L Z "started" "Z" ≠ own_L Z "gone" "[Z" := slot_ne (a0 := a0) (C := own_S) (Or.inl (own_w hw 49 rfl)) (Or.inr (own_w hw 38 rfl)) (by decide) (t := .boolean) (t' := (.array .boolean)) (by decide) (by decide)
theorem own_sn_74 {Z a0} (hw : own_W a0 Z) : own_L Z "latest" "J" ≠ own_L Z "gone" "[Z" := slot_ne (a0 := a0) (C := own_S) (Or.inl (own_w hw 51 rfl)) (Or.inr (own_w hw 38 rfl)) (by decide) (t := .long) (t' := (.array .boolean)) (by decide) (by decide)
theorem own_sn_75 {Z a0} (hw : own_W a0 Z) : own_L Z "lastLeft" "I" ≠ own_L Z "stopped" "[Z" := slot_ne (a0 := a0) (C := own_S) (Or.inl (own_w hw 25 rfl)) (Or.inr (own_w hw 40 rfl)) (by decide) (t := .int) (t' := (.array .boolean)) (by decide) (by decide)
theorem own_sn_76 {Z a0} (hw : own_W a0 Z) : own_L Z "limit" "J" ≠ own_L Z "stopped" "[Z" := slot_ne (a0 := a0) (C := own_S) (Or.inr (own_w hw 27 rfl)) (Or.inr (own_w hw 40 rfl)) (by decide) (t := .long) (t' := (.array .boolean)) (by decide) (by decide)
theorem own_sn_77 {Z a0} (hw : own_W a0 Z) : own_L Z "includesLast" "Z" ≠ own_L Z "stopped" "[Z" := slot_ne (a0 := a0) (C := own_S) (Or.inr (own_w hw 29 rfl)) (Or.inr (own_w hw 40 rfl)) (by decide) (t := .boolean) (t' := (.array .boolean)) (by decide) (by decide)
theorem own_sn_78 {Z a0} (hw : own_W a0 Z) : own_L Z "last" "[J" ≠ own_L Z "stopped" "[Z" := slot_ne (a0 := a0) (C := own_S) (Or.inr (own_w hw 31 rfl)) (Or.inr (own_w hw 40 rfl)) (by decide) (t := (.array .long)) (t' := (.array .boolean)) (by decide) (by decide)
theorem own_sn_79 {Z a0} (hw : own_W a0 Z) : own_L Z "sent" "[Z" ≠ own_L Z "stopped" "[Z" := slot_ne (a0 := a0) (C := own_S) (Or.inr (own_w hw 34 rfl)) (Or.inr (own_w hw 40 rfl)) (by decide) (t := (.array .boolean)) (t' := (.array .boolean)) (by decide) (by decide)
theorem own_sn_80 {Z a0} (hw : own_W a0 Z) : own_L Z "runs" "[J" ≠ own_L Z "stopped" "[Z" := slot_ne (a0 := a0) (C := own_S) (Or.inr (own_w hw 36 rfl)) (Or.inr (own_w hw 40 rfl)) (by decide) (t := (.array .long)) (t' := (.array .boolean)) (by decide) (by decide)
theorem own_sn_81 {Z a0} (hw : own_W a0 Z) : own_L Z "gone" "[Z" ≠ own_L Z "stopped" "[Z" := slot_ne (a0 := a0) (C := own_S) (Or.inr (own_w hw 38 rfl)) (Or.inr (own_w hw 40 rfl)) (by decide) (t := (.array .boolean)) (t' := (.array .boolean)) (by decide) (by decide)
theorem own_sn_82 {Z a0} (hw : own_W a0 Z) : own_L Z "open" "I" ≠ own_L Z "stopped" "[Z" := slot_ne (a0 := a0) (C := own_S) (Or.inl (own_w hw 42 rfl)) (Or.inr (own_w hw 40 rfl)) (by decide) (t := .int) (t' := (.array .boolean)) (by decide) (by decide)
theorem own_sn_83 {Z a0} (hw : own_W a0 Z) : own_L Z "started" "Z" ≠ own_L Z "stopped" "[Z" := slot_ne (a0 := a0) (C := own_S) (Or.inl (own_w hw 49 rfl)) (Or.inr (own_w hw 40 rfl)) (by decide) (t := .boolean) (t' := (.array .boolean)) (by decide) (by decide)
theorem own_sn_84 {Z a0} (hw : own_W a0 Z) : own_L Z "latest" "J" ≠ own_L Z "stopped" "[Z" := slot_ne (a0 := a0) (C := own_S) (Or.inl (own_w hw 51 rfl)) (Or.inr (own_w hw 40 rfl)) (by decide) (t := .long) (t' := (.array .boolean)) (by decide) (by decide)
theorem own_sn_85 {Z a0} (hw : own_W a0 Z) : own_L Z "lastLeft" "I" ≠ own_L Z "open" "I" := slot_ne (a0 := a0) (C := own_S) (Or.inl (own_w hw 25 rfl)) (Or.inl (own_w hw 42 rfl)) (by decide) (t := .int) (t' := .int) (by decide) (by decide)
theorem own_sn_86 {Z a0} (hw : own_W a0 Z) : own_L Z "limit" "J" ≠ own_L Z "open" "I" := slot_ne (a0 := a0) (C := own_S) (Or.inr (own_w hw 27 rfl)) (Or.inl (own_w hw 42 rfl)) (by decide) (t := .long) (t' := .int) (by decide) (by decide)
theorem own_sn_87 {Z a0} (hw : own_W a0 Z) : own_L Z "includesLast" "Z" ≠ own_L Z "open" "I" := slot_ne (a0 := a0) (C := own_S) (Or.inr (own_w hw 29 rfl)) (Or.inl (own_w hw 42 rfl)) (by decide) (t := .boolean) (t' := .int) (by decide) (by decide)
theorem own_sn_88 {Z a0} (hw : own_W a0 Z) : own_L Z "last" "[J" ≠ own_L Z "open" "I" := slot_ne (a0 := a0) (C := own_S) (Or.inr (own_w hw 31 rfl)) (Or.inl (own_w hw 42 rfl)) (by decide) (t := (.array .long)) (t' := .int) (by decide) (by decide)
theorem own_sn_89 {Z a0} (hw : own_W a0 Z) : own_L Z "sent" "[Z" ≠ own_L Z "open" "I" := slot_ne (a0 := a0) (C := own_S) (Or.inr (own_w hw 34 rfl)) (Or.inl (own_w hw 42 rfl)) (by decide) (t := (.array .boolean)) (t' := .int) (by decide) (by decide)
theorem own_sn_90 {Z a0} (hw : own_W a0 Z) : own_L Z "runs" "[J" ≠ own_L Z "open" "I" := slot_ne (a0 := a0) (C := own_S) (Or.inr (own_w hw 36 rfl)) (Or.inl (own_w hw 42 rfl)) (by decide) (t := (.array .long)) (t' := .int) (by decide) (by decide)
theorem own_sn_91 {Z a0} (hw : own_W a0 Z) : own_L Z "gone" "[Z" ≠ own_L Z "open" "I" := slot_ne (a0 := a0) (C := own_S) (Or.inr (own_w hw 38 rfl)) (Or.inl (own_w hw 42 rfl)) (by decide) (t := (.array .boolean)) (t' := .int) (by decide) (by decide)
theorem own_sn_92 {Z a0} (hw : own_W a0 Z) : own_L Z "stopped" "[Z" ≠ own_L Z "open" "I" := slot_ne (a0 := a0) (C := own_S) (Or.inr (own_w hw 40 rfl)) (Or.inl (own_w hw 42 rfl)) (by decide) (t := (.array .boolean)) (t' := .int) (by decide) (by decide)
theorem own_sn_93 {Z a0} (hw : own_W a0 Z) : own_L Z "started" "Z" ≠ own_L Z "open" "I" := slot_ne (a0 := a0) (C := own_S) (Or.inl (own_w hw 49 rfl)) (Or.inl (own_w hw 42 rfl)) (by decide) (t := .boolean) (t' := .int) (by decide) (by decide)
theorem own_sn_94 {Z a0} (hw : own_W a0 Z) : own_L Z "latest" "J" ≠ own_L Z "open" "I" := slot_ne (a0 := a0) (C := own_S) (Or.inl (own_w hw 51 rfl)) (Or.inl (own_w hw 42 rfl)) (by decide) (t := .long) (t' := .int) (by decide) (by decide)
def Q4_1 (Z : State) (ra : Addr)  (h0 : Heap) (n0 : Nat) (v : Option Value) (h : Heap) (L : List Loc) : Prop := v = none ∧ Fr n0 L ∧ ∃ rl rs rr rg rt : Addr, (h0.size ≤ rl ∧ h0.size ≤ rs ∧ h0.size ≤ rr ∧ h0.size ≤ rg ∧ h0.size ≤ rt) ∧ (rl ≠ rs ∧ rl ≠ rr ∧ rl ≠ rg ∧ rl ≠ rt ∧ rs ≠ rr ∧ rs ≠ rg ∧ rs ≠ rt ∧ rr ≠ rg ∧ rr ≠ rt ∧ rg ≠ rt) ∧ Keep h0 h [ra] ∧ Exa Z h ra "com/example/tributary/tributary/io/Silence" ∧ Fld Z h ra own_S "last" "[J" (.ref rl) ∧ Fld Z h ra own_S "sent" "[Z" (.ref rs) ∧ Fld Z h ra own_S "runs" "[J" (.ref rr) ∧ Fld Z h ra own_S "gone" "[Z" (.ref rg) ∧ Fld Z h ra own_S "stopped" "[Z" (.ref rt) ∧ Fld Z h ra own_S "open" "I" (.int (1 : Int32)) ∧ Fld Z h ra own_S "lastLeft" "I" (.int (-1 : Int32)) ∧ Fld Z h ra own_S "started" "Z" (.int (0 : Int32)) ∧ Fld Z h ra own_S "latest" "J" (.long (0 : Int64)) ∧ own_AJ Z h rl [(0 : Int64)] ∧ own_AI Z h rs .boolean [(0 : Int32)] ∧ own_AJ Z h rr [(0 : Int64)] ∧ own_AI Z h rg .boolean [(0 : Int32)] ∧ own_AI Z h rt .boolean [(0 : Int32)]
set_option maxRecDepth 65536 in
set_option maxHeartbeats 40000000 in
theorem rm4_1 (l : Launch) (Z : State) (a0 : Array Value) (hw : ∀ d ∈ tables_1, d.before a0 Z = true) (ws : List Jvm.Cond) (ra : Addr)  (h0 : Heap) (n0 : Nat) (Z0 : n0 ≤ h0.size) (PE0 : Exa Z h0 ra "com/example/tributary/tributary/io/Silence") (PF0 : Fld Z h0 ra own_S "lastLeft" "I" (.int (0 : Int32))) (PF1 : Fld Z h0 ra own_S "limit" "J" (.long (0 : Int64))) (PF2 : Fld Z h0 ra own_S "includesLast" "Z" (.int (0 : Int32))) (PF3 : Fld Z h0 ra own_S "last" "[J" .null) (PF4 : Fld Z h0 ra own_S "sent" "[Z" .null) (PF5 : Fld Z h0 ra own_S "runs" "[J" .null) (PF6 : Fld Z h0 ra own_S "gone" "[Z" .null) (PF7 : Fld Z h0 ra own_S "stopped" "[Z" .null) (PF8 : Fld Z h0 ra own_S "open" "I" (.int (0 : Int32))) (PF9 : Fld Z h0 ra own_S "started" "Z" (.int (0 : Int32))) (PF10 : Fld Z h0 ra own_S "latest" "J" (.long (0 : Int64))) (PG0 : n0 ≤ ra) :
    MetFree l (⟨"com/example/tributary/tributary/io/Silence", "<init>", "(IJZ)V"⟩ : MethodName) (head1 (Jvm.Cond.code (⟨"com/example/tributary/tributary/io/Silence", "<init>", "(IJZ)V"⟩ : MethodName) prog_43_method_2_code 5 none :: ws) ({ frames := 1, cells := 5, slots := 5, locals := 12 } : Room)) (fun a U => a = #[(.ref ra), (.int (1 : Int32)), (.long (1 : Int64)), (.int (0 : Int32))] ∧ Z.Warmed39 U.vm ∧ U.heap = h0) (fun _ _ _ _ _ => True) (fun _ U o U' => ∃ v L, o = .returned v ∧ Q4_1 Z ra h0 n0 v U'.heap L ∧ FrameEnd U o U' L ({ frames := 1, cells := 5, slots := 5, locals := 12 } : Room).cells ({ frames := 1, cells := 5, slots := 5, locals := 12 } : Room).slots) := by
  refine MetFree.of_bodySF (plainFor_of_name pn_4) hisR ?_
  intro p e s m args below meth c s₁ Bd hml0 hP hK
  obtain ⟨rfl, hZ, hh⟩ := hP
  have hx := Bd.exec
  have hby := Bd.bytes
  have hml : c.maxLocals = 5 := hml0
  have hown : s.vm.findClass "com/example/tributary/tributary/io/Silence" = some m.cls := findClass_of_methodNamed Bd.named
  have hnm := (name_of_methodNamed Bd.named Bd.method).1
  have X0 : Stand p l e ({ frames := 1, cells := 5, slots := 5, locals := 12 } : Room) s m #[(.ref ra), (.int (1 : Int32)), (.long (1 : Int64)), (.int (0 : Int32))] below meth c s₁ [] 0 0 := Stand.of_body Bd
  have hlk : meth.locks = false := by first | exact BodyLoose.notSynchronized (by assumption) | exact Body.notSynchronized (by assumption)
  have e0 : s₁.heap = h0 := by rw [← hh, Bd.state]; rfl
  have N0 := Fr.nil n0
  have pre0 : ∀ t, Steps p.tables e below (s₁.setTop (mkF m 0 #[rv ra, iv (1 : Int32), jv (1 : Int64), s2, iv (0 : Int32)] [])) t → Steps p.tables e below (s₁.setTop (entryFrame m #[(.ref ra), (.int (1 : Int32)), (.long (1 : Int64)), (.int (0 : Int32))] 5)) t := fun t k => castTop (ef_4_1 m ra) k
  generalize s₁.setTop (entryFrame m #[(.ref ra), (.int (1 : Int32)), (.long (1 : Int64)), (.int (0 : Int32))] 5) = B0 at pre0 ⊢
  have H : ∀ (i : Nat) {d : Jvm.Cond}, tables_1[i]? = some d → d.before a0 Z = true := fun i d q => hw d (List.mem_of_getElem? q)
  have D : ∀ {pc : Nat} {r : Except DecodeError (Instr × Nat)}, decode prog_43_method_2_code pc = r → decode c.code pc = r := fun q => hb hby q
  obtain ⟨T1, X1, e1, st1⟩ := initO X0 hx hZ hown (H 21 rfl) (H 22 rfl) (H 23 rfl) e0 (g := (mkF m 1 #[rv ra, iv (1 : Int32), jv (1 : Int64), s2, iv (0 : Int32)] [(.ref ra)])) rfl (by rw [hml]; rfl) rfl (D d4_1) (by decide) (W := 0) (by show 2 * 0 + _ ≤ _; exact Nat.le_of_eq rfl) (by decide)
  obtain ⟨T2, h2, X2, e2, W2, st2⟩ := putF X1 hx hZ hown (host := "") (Or.inl (H 24 rfl)) Via.refl e1 PF0 PE0 (Or.inl (H 25 rfl)) (H 13 rfl) (ty := .int) (by decide) rfl rfl (g := (mkF m 6 #[rv ra, iv (1 : Int32), jv (1 : Int64), s2, iv (0 : Int32)] [(.int (-1 : Int32)), (.ref ra)])) rfl rfl (D d4_6)
  have A2_ra := PE0.wr W2
  have F2_ra_1 := PF1.other W2 (Or.inr (own_sn_5 hw))
  have F2_ra_2 := PF2.other W2 (Or.inr (own_sn_6 hw))
  have F2_ra_3 := PF3.other W2 (Or.inr (own_sn_7 hw))
  have F2_ra_4 := PF4.other W2 (Or.inr (own_sn_8 hw))
  have F2_ra_5 := PF5.other W2 (Or.inr (own_sn_9 hw))
  have F2_ra_6 := PF6.other W2 (Or.inr (own_sn_10 hw))
  have F2_ra_7 := PF7.other W2 (Or.inr (own_sn_11 hw))
  have F2_ra_8 := PF8.other W2 (Or.inr (own_sn_12 hw))
  have F2_ra_9 := PF9.other W2 (Or.inr (own_sn_13 hw))
  have F2_ra_10 := PF10.other W2 (Or.inr (own_sn_14 hw))
  have sz2 := Nat.le_trans Z0 (Keep.of_wr W2).1
  have K2 := (Keep.refl h0 ([ra] : List Addr)).wr W2 (Or.inl (by simp))
  have N2 := Fr.snoc X2 N0 PG0
  have F2_s : Fld Z h2 ra own_S "lastLeft" "I" (.int (-1 : Int32)) := PF0.same W2
  obtain ⟨T3, h3, X3, e3, W3, st3⟩ := putF X2 hx hZ hown (host := "") (Or.inl (H 26 rfl)) Via.refl e2 F2_ra_1 A2_ra (Or.inr ⟨(H 27 rfl), rfl, hnm⟩) (H 13 rfl) (ty := .long) (by decide) rfl rfl (g := (mkF m 46 #[rv ra, iv (1 : Int32), jv (1 : Int64), s2, iv (0 : Int32)] [(.long (1 : Int64)), (.ref ra)])) rfl rfl (D d4_46)
  have A3_ra := A2_ra.wr W3
  have F3_ra_0 := F2_s.other W3 (Or.inr (own_sn_15 hw))
  have F3_ra_2 := F2_ra_2.other W3 (Or.inr (own_sn_16 hw))
  have F3_ra_3 := F2_ra_3.other W3 (Or.inr (own_sn_17 hw))
  have F3_ra_4 := F2_ra_4.other W3 (Or.inr (own_sn_18 hw))
  have F3_ra_5 := F2_ra_5.other W3 (Or.inr (own_sn_19 hw))
  have F3_ra_6 := F2_ra_6.other W3 (Or.inr (own_sn_20 hw))
  have F3_ra_7 := F2_ra_7.other W3 (Or.inr (own_sn_21 hw))
  have F3_ra_8 := F2_ra_8.other W3 (Or.inr (own_sn_22 hw))
  have F3_ra_9 := F2_ra_9.other W3 (Or.inr (own_sn_23 hw))
  have F3_ra_10 := F2_ra_10.other W3 (Or.inr (own_sn_24 hw))
  have sz3 := Nat.le_trans sz2 (Keep.of_wr W3).1
  have K3 := K2.wr W3 (Or.inl (by simp))
  have N3 := Fr.snoc X3 N2 PG0
  have F3_s : Fld Z h3 ra own_S "limit" "J" (.long (1 : Int64)) := F2_ra_1.same W3
  obtain ⟨T4, h4, X4, e4, W4, st4⟩ := putF X3 hx hZ hown (host := "") (Or.inl (H 28 rfl)) Via.refl e3 F3_ra_2 A3_ra (Or.inr ⟨(H 29 rfl), rfl, hnm⟩) (H 13 rfl) (ty := .boolean) (by decide) rfl rfl (g := (mkF m 52 #[rv ra, iv (1 : Int32), jv (1 : Int64), s2, iv (0 : Int32)] [(.int (0 : Int32)), (.ref ra)])) rfl rfl (D d4_52)
  have A4_ra := A3_ra.wr W4
  have F4_ra_0 := F3_ra_0.other W4 (Or.inr (own_sn_25 hw))
  have F4_ra_1 := F3_s.other W4 (Or.inr (own_sn_26 hw))
  have F4_ra_3 := F3_ra_3.other W4 (Or.inr (own_sn_27 hw))
  have F4_ra_4 := F3_ra_4.other W4 (Or.inr (own_sn_28 hw))
  have F4_ra_5 := F3_ra_5.other W4 (Or.inr (own_sn_29 hw))
  have F4_ra_6 := F3_ra_6.other W4 (Or.inr (own_sn_30 hw))
  have F4_ra_7 := F3_ra_7.other W4 (Or.inr (own_sn_31 hw))
  have F4_ra_8 := F3_ra_8.other W4 (Or.inr (own_sn_32 hw))
  have F4_ra_9 := F3_ra_9.other W4 (Or.inr (own_sn_33 hw))
  have F4_ra_10 := F3_ra_10.other W4 (Or.inr (own_sn_34 hw))
  have sz4 := Nat.le_trans sz3 (Keep.of_wr W4).1
  have K4 := K3.wr W4 (Or.inl (by simp))
  have N4 := Fr.snoc X4 N3 PG0
  have F4_s : Fld Z h4 ra own_S "includesLast" "Z" (.int (0 : Int32)) := F3_ra_2.same W4
  obtain ⟨T5, h5, cA5, X5, e5, E5, A5, st5⟩ := newP X4 hx hZ (aty := .long) (H 11 rfl) e4 (g := (mkF m 57 #[rv ra, iv (1 : Int32), jv (1 : Int64), s2, iv (0 : Int32)] [(.int (1 : Int32)), (.ref ra)])) rfl (D d4_57) rfl (by decide) (cap := 1) (by decide) (by decide) (by decide) (by decide)
  obtain ⟨a5, g5⟩ : ∃ z, z = h4.size := ⟨_, rfl⟩
  rw [← g5] at A5 st5
  have ne_ra_a5 : ra ≠ a5 := g5 ▸ Nat.ne_of_lt A4_ra.lt
  have ge_a5 : n0 ≤ a5 := g5 ▸ sz4
  have go_a5 : h0.size ≤ a5 := g5 ▸ K4.1
  have A5_ra := A4_ra.ext E5
  have F5_ra_0 := F4_ra_0.ext E5
  have F5_ra_1 := F4_ra_1.ext E5
  have F5_ra_2 := F4_s.ext E5
  have F5_ra_3 := F4_ra_3.ext E5
  have F5_ra_4 := F4_ra_4.ext E5
  have F5_ra_5 := F4_ra_5.ext E5
  have F5_ra_6 := F4_ra_6.ext E5
  have F5_ra_7 := F4_ra_7.ext E5
  have F5_ra_8 := F4_ra_8.ext E5
  have F5_ra_9 := F4_ra_9.ext E5
  have F5_ra_10 := F4_ra_10.ext E5
  have sz5 := Nat.le_trans sz4 E5.1
  have K5 : Keep h0 h5 [ra] := K4.ext E5
  have V5_n : own_AJ Z h5 a5 [(0 : Int64)] := own_AJ_new A5 (k := 1) (by decide)
  obtain ⟨T6, h6, X6, e6, W6, st6⟩ := putF X5 hx hZ hown (host := "") (Or.inl (H 30 rfl)) Via.refl e5 F5_ra_3 A5_ra (Or.inr ⟨(H 31 rfl), rfl, hnm⟩) (H 13 rfl) (ty := (.array .long)) (by decide) rfl rfl (g := (mkF m 59 #[rv ra, iv (1 : Int32), jv (1 : Int64), s2, iv (0 : Int32)] [(.ref a5), (.ref ra)])) rfl rfl (D d4_59)
  have V6_a5 := V5_n.other W6 (Ne.symm ne_ra_a5)
  have A6_ra := A5_ra.wr W6
  have F6_ra_0 := F5_ra_0.other W6 (Or.inr (own_sn_35 hw))
  have F6_ra_1 := F5_ra_1.other W6 (Or.inr (own_sn_36 hw))
  have F6_ra_2 := F5_ra_2.other W6 (Or.inr (own_sn_37 hw))
  have F6_ra_4 := F5_ra_4.other W6 (Or.inr (own_sn_38 hw))
  have F6_ra_5 := F5_ra_5.other W6 (Or.inr (own_sn_39 hw))
  have F6_ra_6 := F5_ra_6.other W6 (Or.inr (own_sn_40 hw))
  have F6_ra_7 := F5_ra_7.other W6 (Or.inr (own_sn_41 hw))
  have F6_ra_8 := F5_ra_8.other W6 (Or.inr (own_sn_42 hw))
  have F6_ra_9 := F5_ra_9.other W6 (Or.inr (own_sn_43 hw))
  have F6_ra_10 := F5_ra_10.other W6 (Or.inr (own_sn_44 hw))
  have sz6 := Nat.le_trans sz5 (Keep.of_wr W6).1
  have K6 := K5.wr W6 (Or.inl (by simp))
  have N6 := Fr.snoc X6 N4 PG0
  have F6_s : Fld Z h6 ra own_S "last" "[J" (.ref a5) := F5_ra_3.same W6
  obtain ⟨T7, h7, cA7, X7, e7, E7, A7, st7⟩ := newP X6 hx hZ (aty := .boolean) (H 32 rfl) e6 (g := (mkF m 64 #[rv ra, iv (1 : Int32), jv (1 : Int64), s2, iv (0 : Int32)] [(.int (1 : Int32)), (.ref ra)])) rfl (D d4_64) rfl (by decide) (cap := 1) (by decide) (by decide) (by decide) (by decide)
  obtain ⟨a7, g7⟩ : ∃ z, z = h6.size := ⟨_, rfl⟩
  rw [← g7] at A7 st7
  have ne_a5_a7 : a5 ≠ a7 := g7 ▸ Nat.ne_of_lt V6_a5.lt
  have ne_ra_a7 : ra ≠ a7 := g7 ▸ Nat.ne_of_lt A6_ra.lt
  have ge_a7 : n0 ≤ a7 := g7 ▸ sz6
  have go_a7 : h0.size ≤ a7 := g7 ▸ K6.1
  have V7_a5 := V6_a5.ext E7
  have A7_ra := A6_ra.ext E7
  have F7_ra_0 := F6_ra_0.ext E7
  have F7_ra_1 := F6_ra_1.ext E7
  have F7_ra_2 := F6_ra_2.ext E7
  have F7_ra_3 := F6_s.ext E7
  have F7_ra_4 := F6_ra_4.ext E7
  have F7_ra_5 := F6_ra_5.ext E7
  have F7_ra_6 := F6_ra_6.ext E7
  have F7_ra_7 := F6_ra_7.ext E7
  have F7_ra_8 := F6_ra_8.ext E7
  have F7_ra_9 := F6_ra_9.ext E7
  have F7_ra_10 := F6_ra_10.ext E7
  have sz7 := Nat.le_trans sz6 E7.1
  have K7 : Keep h0 h7 [ra] := K6.ext E7
  have V7_n : own_AI Z h7 a7 .boolean [(0 : Int32)] := own_AIboolean_new A7 (k := 1) (by decide)
  obtain ⟨T8, h8, X8, e8, W8, st8⟩ := putF X7 hx hZ hown (host := "") (Or.inl (H 33 rfl)) Via.refl e7 F7_ra_4 A7_ra (Or.inr ⟨(H 34 rfl), rfl, hnm⟩) (H 13 rfl) (ty := (.array .boolean)) (by decide) rfl rfl (g := (mkF m 66 #[rv ra, iv (1 : Int32), jv (1 : Int64), s2, iv (0 : Int32)] [(.ref a7), (.ref ra)])) rfl rfl (D d4_66)
  have V8_a5 := V7_a5.other W8 (Ne.symm ne_ra_a5)
  have V8_a7 := V7_n.other W8 (Ne.symm ne_ra_a7)
  have A8_ra := A7_ra.wr W8
  have F8_ra_0 := F7_ra_0.other W8 (Or.inr (own_sn_45 hw))
  have F8_ra_1 := F7_ra_1.other W8 (Or.inr (own_sn_46 hw))
  have F8_ra_2 := F7_ra_2.other W8 (Or.inr (own_sn_47 hw))
  have F8_ra_3 := F7_ra_3.other W8 (Or.inr (own_sn_48 hw))
  have F8_ra_5 := F7_ra_5.other W8 (Or.inr (own_sn_49 hw))
  have F8_ra_6 := F7_ra_6.other W8 (Or.inr (own_sn_50 hw))
  have F8_ra_7 := F7_ra_7.other W8 (Or.inr (own_sn_51 hw))
  have F8_ra_8 := F7_ra_8.other W8 (Or.inr (own_sn_52 hw))
  have F8_ra_9 := F7_ra_9.other W8 (Or.inr (own_sn_53 hw))
  have F8_ra_10 := F7_ra_10.other W8 (Or.inr (own_sn_54 hw))
  have sz8 := Nat.le_trans sz7 (Keep.of_wr W8).1
  have K8 := K7.wr W8 (Or.inl (by simp))
  have N8 := Fr.snoc X8 N6 PG0
  have F8_s : Fld Z h8 ra own_S "sent" "[Z" (.ref a7) := F7_ra_4.same W8
  obtain ⟨T9, h9, cA9, X9, e9, E9, A9, st9⟩ := newP X8 hx hZ (aty := .long) (H 11 rfl) e8 (g := (mkF m 71 #[rv ra, iv (1 : Int32), jv (1 : Int64), s2, iv (0 : Int32)] [(.int (1 : Int32)), (.ref ra)])) rfl (D d4_71) rfl (by decide) (cap := 1) (by decide) (by decide) (by decide) (by decide)
  obtain ⟨a9, g9⟩ : ∃ z, z = h8.size := ⟨_, rfl⟩
  rw [← g9] at A9 st9
  have ne_a5_a9 : a5 ≠ a9 := g9 ▸ Nat.ne_of_lt V8_a5.lt
  have ne_a7_a9 : a7 ≠ a9 := g9 ▸ Nat.ne_of_lt V8_a7.lt
  have ne_ra_a9 : ra ≠ a9 := g9 ▸ Nat.ne_of_lt A8_ra.lt
  have ge_a9 : n0 ≤ a9 := g9 ▸ sz8
  have go_a9 : h0.size ≤ a9 := g9 ▸ K8.1
  have V9_a5 := V8_a5.ext E9
  have V9_a7 := V8_a7.ext E9
  have A9_ra := A8_ra.ext E9
  have F9_ra_0 := F8_ra_0.ext E9
  have F9_ra_1 := F8_ra_1.ext E9
  have F9_ra_2 := F8_ra_2.ext E9
  have F9_ra_3 := F8_ra_3.ext E9
  have F9_ra_4 := F8_s.ext E9
  have F9_ra_5 := F8_ra_5.ext E9
  have F9_ra_6 := F8_ra_6.ext E9
  have F9_ra_7 := F8_ra_7.ext E9
  have F9_ra_8 := F8_ra_8.ext E9
  have F9_ra_9 := F8_ra_9.ext E9
  have F9_ra_10 := F8_ra_10.ext E9
  have sz9 := Nat.le_trans sz8 E9.1
  have K9 : Keep h0 h9 [ra] := K8.ext E9
  have V9_n : own_AJ Z h9 a9 [(0 : Int64)] := own_AJ_new A9 (k := 1) (by decide)
  obtain ⟨T10, h10, X10, e10, W10, st10⟩ := putF X9 hx hZ hown (host := "") (Or.inl (H 35 rfl)) Via.refl e9 F9_ra_5 A9_ra (Or.inr ⟨(H 36 rfl), rfl, hnm⟩) (H 13 rfl) (ty := (.array .long)) (by decide) rfl rfl (g := (mkF m 73 #[rv ra, iv (1 : Int32), jv (1 : Int64), s2, iv (0 : Int32)] [(.ref a9), (.ref ra)])) rfl rfl (D d4_73)
  have V10_a5 := V9_a5.other W10 (Ne.symm ne_ra_a5)
  have V10_a7 := V9_a7.other W10 (Ne.symm ne_ra_a7)
  have V10_a9 := V9_n.other W10 (Ne.symm ne_ra_a9)
  have A10_ra := A9_ra.wr W10
  have F10_ra_0 := F9_ra_0.other W10 (Or.inr (own_sn_55 hw))
  have F10_ra_1 := F9_ra_1.other W10 (Or.inr (own_sn_56 hw))
  have F10_ra_2 := F9_ra_2.other W10 (Or.inr (own_sn_57 hw))
  have F10_ra_3 := F9_ra_3.other W10 (Or.inr (own_sn_58 hw))
  have F10_ra_4 := F9_ra_4.other W10 (Or.inr (own_sn_59 hw))
  have F10_ra_6 := F9_ra_6.other W10 (Or.inr (own_sn_60 hw))
  have F10_ra_7 := F9_ra_7.other W10 (Or.inr (own_sn_61 hw))
  have F10_ra_8 := F9_ra_8.other W10 (Or.inr (own_sn_62 hw))
  have F10_ra_9 := F9_ra_9.other W10 (Or.inr (own_sn_63 hw))
  have F10_ra_10 := F9_ra_10.other W10 (Or.inr (own_sn_64 hw))
  have sz10 := Nat.le_trans sz9 (Keep.of_wr W10).1
  have K10 := K9.wr W10 (Or.inl (by simp))
  have N10 := Fr.snoc X10 N8 PG0
  have F10_s : Fld Z h10 ra own_S "runs" "[J" (.ref a9) := F9_ra_5.same W10
  obtain ⟨T11, h11, cA11, X11, e11, E11, A11, st11⟩ := newP X10 hx hZ (aty := .boolean) (H 32 rfl) e10 (g := (mkF m 78 #[rv ra, iv (1 : Int32), jv (1 : Int64), s2, iv (0 : Int32)] [(.int (1 : Int32)), (.ref ra)])) rfl (D d4_78) rfl (by decide) (cap := 1) (by decide) (by decide) (by decide) (by decide)
  obtain ⟨a11, g11⟩ : ∃ z, z = h10.size := ⟨_, rfl⟩
  rw [← g11] at A11 st11
  have ne_a5_a11 : a5 ≠ a11 := g11 ▸ Nat.ne_of_lt V10_a5.lt
  have ne_a7_a11 : a7 ≠ a11 := g11 ▸ Nat.ne_of_lt V10_a7.lt
  have ne_a9_a11 : a9 ≠ a11 := g11 ▸ Nat.ne_of_lt V10_a9.lt
  have ne_ra_a11 : ra ≠ a11 := g11 ▸ Nat.ne_of_lt A10_ra.lt
  have ge_a11 : n0 ≤ a11 := g11 ▸ sz10
  have go_a11 : h0.size ≤ a11 := g11 ▸ K10.1
  have V11_a5 := V10_a5.ext E11
  have V11_a7 := V10_a7.ext E11
  have V11_a9 := V10_a9.ext E11
  have A11_ra := A10_ra.ext E11
  have F11_ra_0 := F10_ra_0.ext E11
  have F11_ra_1 := F10_ra_1.ext E11
  have F11_ra_2 := F10_ra_2.ext E11
  have F11_ra_3 := F10_ra_3.ext E11
  have F11_ra_4 := F10_ra_4.ext E11
  have F11_ra_5 := F10_s.ext E11
  have F11_ra_6 := F10_ra_6.ext E11
  have F11_ra_7 := F10_ra_7.ext E11
  have F11_ra_8 := F10_ra_8.ext E11
  have F11_ra_9 := F10_ra_9.ext E11
  have F11_ra_10 := F10_ra_10.ext E11
  have sz11 := Nat.le_trans sz10 E11.1
  have K11 : Keep h0 h11 [ra] := K10.ext E11
  have V11_n : own_AI Z h11 a11 .boolean [(0 : Int32)] := own_AIboolean_new A11 (k := 1) (by decide)
  obtain ⟨T12, h12, X12, e12, W12, st12⟩ := putF X11 hx hZ hown (host := "") (Or.inl (H 37 rfl)) Via.refl e11 F11_ra_6 A11_ra (Or.inr ⟨(H 38 rfl), rfl, hnm⟩) (H 13 rfl) (ty := (.array .boolean)) (by decide) rfl rfl (g := (mkF m 80 #[rv ra, iv (1 : Int32), jv (1 : Int64), s2, iv (0 : Int32)] [(.ref a11), (.ref ra)])) rfl rfl (D d4_80)
  have V12_a5 := V11_a5.other W12 (Ne.symm ne_ra_a5)
  have V12_a7 := V11_a7.other W12 (Ne.symm ne_ra_a7)
  have V12_a9 := V11_a9.other W12 (Ne.symm ne_ra_a9)
  have V12_a11 := V11_n.other W12 (Ne.symm ne_ra_a11)
  have A12_ra := A11_ra.wr W12
  have F12_ra_0 := F11_ra_0.other W12 (Or.inr (own_sn_65 hw))
  have F12_ra_1 := F11_ra_1.other W12 (Or.inr (own_sn_66 hw))
  have F12_ra_2 := F11_ra_2.other W12 (Or.inr (own_sn_67 hw))
  have F12_ra_3 := F11_ra_3.other W12 (Or.inr (own_sn_68 hw))
  have F12_ra_4 := F11_ra_4.other W12 (Or.inr (own_sn_69 hw))
  have F12_ra_5 := F11_ra_5.other W12 (Or.inr (own_sn_70 hw))
  have F12_ra_7 := F11_ra_7.other W12 (Or.inr (own_sn_71 hw))
  have F12_ra_8 := F11_ra_8.other W12 (Or.inr (own_sn_72 hw))
  have F12_ra_9 := F11_ra_9.other W12 (Or.inr (own_sn_73 hw))
  have F12_ra_10 := F11_ra_10.other W12 (Or.inr (own_sn_74 hw))
  have sz12 := Nat.le_trans sz11 (Keep.of_wr W12).1
  have K12 := K11.wr W12 (Or.inl (by simp))
  have N12 := Fr.snoc X12 N10 PG0
  have F12_s : Fld Z h12 ra own_S "gone" "[Z" (.ref a11) := F11_ra_6.same W12
  obtain ⟨T13, h13, cA13, X13, e13, E13, A13, st13⟩ := newP X12 hx hZ (aty := .boolean) (H 32 rfl) e12 (g := (mkF m 85 #[rv ra, iv (1 : Int32), jv (1 : Int64), s2, iv (0 : Int32)] [(.int (1 : Int32)), (.ref ra)])) rfl (D d4_85) rfl (by decide) (cap := 1) (by decide) (by decide) (by decide) (by decide)
  obtain ⟨a13, g13⟩ : ∃ z, z = h12.size := ⟨_, rfl⟩
  rw [← g13] at A13 st13
  have ne_a5_a13 : a5 ≠ a13 := g13 ▸ Nat.ne_of_lt V12_a5.lt
  have ne_a7_a13 : a7 ≠ a13 := g13 ▸ Nat.ne_of_lt V12_a7.lt
  have ne_a9_a13 : a9 ≠ a13 := g13 ▸ Nat.ne_of_lt V12_a9.lt
  have ne_a11_a13 : a11 ≠ a13 := g13 ▸ Nat.ne_of_lt V12_a11.lt
  have ne_ra_a13 : ra ≠ a13 := g13 ▸ Nat.ne_of_lt A12_ra.lt
  have ge_a13 : n0 ≤ a13 := g13 ▸ sz12
  have go_a13 : h0.size ≤ a13 := g13 ▸ K12.1
  have V13_a5 := V12_a5.ext E13
  have V13_a7 := V12_a7.ext E13
  have V13_a9 := V12_a9.ext E13
  have V13_a11 := V12_a11.ext E13
  have A13_ra := A12_ra.ext E13
  have F13_ra_0 := F12_ra_0.ext E13
  have F13_ra_1 := F12_ra_1.ext E13
  have F13_ra_2 := F12_ra_2.ext E13
  have F13_ra_3 := F12_ra_3.ext E13
  have F13_ra_4 := F12_ra_4.ext E13
  have F13_ra_5 := F12_ra_5.ext E13
  have F13_ra_6 := F12_s.ext E13
  have F13_ra_7 := F12_ra_7.ext E13
  have F13_ra_8 := F12_ra_8.ext E13
  have F13_ra_9 := F12_ra_9.ext E13
  have F13_ra_10 := F12_ra_10.ext E13
  have sz13 := Nat.le_trans sz12 E13.1
  have K13 : Keep h0 h13 [ra] := K12.ext E13
  have V13_n : own_AI Z h13 a13 .boolean [(0 : Int32)] := own_AIboolean_new A13 (k := 1) (by decide)
  obtain ⟨T14, h14, X14, e14, W14, st14⟩ := putF X13 hx hZ hown (host := "") (Or.inl (H 39 rfl)) Via.refl e13 F13_ra_7 A13_ra (Or.inr ⟨(H 40 rfl), rfl, hnm⟩) (H 13 rfl) (ty := (.array .boolean)) (by decide) rfl rfl (g := (mkF m 87 #[rv ra, iv (1 : Int32), jv (1 : Int64), s2, iv (0 : Int32)] [(.ref a13), (.ref ra)])) rfl rfl (D d4_87)
  have V14_a5 := V13_a5.other W14 (Ne.symm ne_ra_a5)
  have V14_a7 := V13_a7.other W14 (Ne.symm ne_ra_a7)
  have V14_a9 := V13_a9.other W14 (Ne.symm ne_ra_a9)
  have V14_a11 := V13_a11.other W14 (Ne.symm ne_ra_a11)
  have V14_a13 := V13_n.other W14 (Ne.symm ne_ra_a13)
  have A14_ra := A13_ra.wr W14
  have F14_ra_0 := F13_ra_0.other W14 (Or.inr (own_sn_75 hw))
  have F14_ra_1 := F13_ra_1.other W14 (Or.inr (own_sn_76 hw))
  have F14_ra_2 := F13_ra_2.other W14 (Or.inr (own_sn_77 hw))
  have F14_ra_3 := F13_ra_3.other W14 (Or.inr (own_sn_78 hw))
  have F14_ra_4 := F13_ra_4.other W14 (Or.inr (own_sn_79 hw))
  have F14_ra_5 := F13_ra_5.other W14 (Or.inr (own_sn_80 hw))
  have F14_ra_6 := F13_ra_6.other W14 (Or.inr (own_sn_81 hw))
  have F14_ra_8 := F13_ra_8.other W14 (Or.inr (own_sn_82 hw))
  have F14_ra_9 := F13_ra_9.other W14 (Or.inr (own_sn_83 hw))
  have F14_ra_10 := F13_ra_10.other W14 (Or.inr (own_sn_84 hw))
  have sz14 := Nat.le_trans sz13 (Keep.of_wr W14).1
  have K14 := K13.wr W14 (Or.inl (by simp))
  have N14 := Fr.snoc X14 N12 PG0
  have F14_s : Fld Z h14 ra own_S "stopped" "[Z" (.ref a13) := F13_ra_7.same W14
  obtain ⟨T15, h15, X15, e15, W15, st15⟩ := putF X14 hx hZ hown (host := "") (Or.inl (H 41 rfl)) Via.refl e14 F14_ra_8 A14_ra (Or.inl (H 42 rfl)) (H 13 rfl) (ty := .int) (by decide) rfl rfl (g := (mkF m 92 #[rv ra, iv (1 : Int32), jv (1 : Int64), s2, iv (0 : Int32)] [(.int (1 : Int32)), (.ref ra)])) rfl rfl (D d4_92)
  have V15_a5 := V14_a5.other W15 (Ne.symm ne_ra_a5)
  have V15_a7 := V14_a7.other W15 (Ne.symm ne_ra_a7)
  have V15_a9 := V14_a9.other W15 (Ne.symm ne_ra_a9)
  have V15_a11 := V14_a11.other W15 (Ne.symm ne_ra_a11)
  have V15_a13 := V14_a13.other W15 (Ne.symm ne_ra_a13)
  have A15_ra := A14_ra.wr W15
  have F15_ra_0 := F14_ra_0.other W15 (Or.inr (own_sn_85 hw))
  have F15_ra_1 := F14_ra_1.other W15 (Or.inr (own_sn_86 hw))
  have F15_ra_2 := F14_ra_2.other W15 (Or.inr (own_sn_87 hw))
  have F15_ra_3 := F14_ra_3.other W15 (Or.inr (own_sn_88 hw))
  have F15_ra_4 := F14_ra_4.other W15 (Or.inr (own_sn_89 hw))
  have F15_ra_5 := F14_ra_5.other W15 (Or.inr (own_sn_90 hw))
  have F15_ra_6 := F14_ra_6.other W15 (Or.inr (own_sn_91 hw))
  have F15_ra_7 := F14_s.other W15 (Or.inr (own_sn_92 hw))
  have F15_ra_9 := F14_ra_9.other W15 (Or.inr (own_sn_93 hw))
  have F15_ra_10 := F14_ra_10.other W15 (Or.inr (own_sn_94 hw))
  have sz15 := Nat.le_trans sz14 (Keep.of_wr W15).1
  have K15 := K14.wr W15 (Or.inl (by simp))
  have N15 := Fr.snoc X15 N14 PG0
  have F15_s : Fld Z h15 ra own_S "open" "I" (.int (1 : Int32)) := F14_ra_8.same W15
  obtain ⟨fs, hr, hrun, hended, hW, hsame⟩ := X15.leave (v := none) (fun _ => rfl) hlk
  refine ⟨_, _, pre0 _ ?_, hrun, hended, _, _, rfl, ?_, ⟨_, rfl⟩, hW, hsame.mono (by decide) (by decide)⟩
  · show Steps p.tables e below (s₁.setTop (mkF m 0 #[rv ra, iv (1 : Int32), jv (1 : Int64), s2, iv (0 : Int32)] [])) _
    refine XS.aloadN X0.here hx rfl (D d4_0) rfl rfl ?_
    refine st1 _ ?_
    refine XS.aloadN X1.here hx rfl (D d4_4) rfl rfl ?_
    refine XS.iconst X1.here hx rfl (D d4_5) ?_
    refine st2 _ ?_
    refine XS.iloadN X2.here hx rfl (D d4_9) rfl ?_
    refine XS.iconst X2.here hx rfl (D d4_10) ?_
    show Steps p.tables e below (T2.setTop (mkF m 11 #[rv ra, iv (1 : Int32), jv (1 : Int64), s2, iv (0 : Int32)] [(.int (1 : Int32)), (.int (1 : Int32))])) _
    refine XS.icmpYes X2.here hx rfl (pc0 := 11) (pc' := 24) rfl (D d4_11) rfl (by decide) (by decide) (by decide) ?_
    refine XS.lloadN X2.here hx rfl (D d4_24) rfl ?_
    refine XS.lconst X2.here hx rfl (D d4_25) ?_
    refine XS.lcmp X2.here hx rfl (D d4_26) rfl ?_
    show Steps p.tables e below (T2.setTop (mkF m 27 #[rv ra, iv (1 : Int32), jv (1 : Int64), s2, iv (0 : Int32)] [(.int (lcmpW (1 : Int64) (1 : Int64)))])) _
    refine XS.ifYes X2.here hx rfl (pc0 := 27) (pc' := 44) rfl (D d4_27) rfl ((if0 _ _).trans (flt (mt (lw_lt (1 : Int64) (1 : Int64)).mp (by decide))).2.1) (by decide) (by decide) ?_
    refine XS.aloadN X2.here hx rfl (D d4_44) rfl rfl ?_
    refine XS.lloadN X2.here hx rfl (D d4_45) rfl ?_
    refine st3 _ ?_
    refine XS.aloadN X3.here hx rfl (D d4_49) rfl rfl ?_
    refine XS.iload X3.here hx rfl (D d4_50) rfl ?_
    refine st4 _ ?_
    refine XS.aloadN X4.here hx rfl (D d4_55) rfl rfl ?_
    refine XS.iloadN X4.here hx rfl (D d4_56) rfl ?_
    refine st5 _ ?_
    refine st6 _ ?_
    refine XS.aloadN X6.here hx rfl (D d4_62) rfl rfl ?_
    refine XS.iloadN X6.here hx rfl (D d4_63) rfl ?_
    refine st7 _ ?_
    refine st8 _ ?_
    refine XS.aloadN X8.here hx rfl (D d4_69) rfl rfl ?_
    refine XS.iloadN X8.here hx rfl (D d4_70) rfl ?_
    refine st9 _ ?_
    refine st10 _ ?_
    refine XS.aloadN X10.here hx rfl (D d4_76) rfl rfl ?_
    refine XS.iloadN X10.here hx rfl (D d4_77) rfl ?_
    refine st11 _ ?_
    refine st12 _ ?_
    refine XS.aloadN X12.here hx rfl (D d4_83) rfl rfl ?_
    refine XS.iloadN X12.here hx rfl (D d4_84) rfl ?_
    refine st13 _ ?_
    refine st14 _ ?_
    refine XS.aloadN X14.here hx rfl (D d4_90) rfl rfl ?_
    refine XS.iloadN X14.here hx rfl (D d4_91) rfl ?_
    refine st15 _ ?_
    show Steps p.tables e below (T15.setTop (mkF m 95 #[rv ra, iv (1 : Int32), jv (1 : Int64), s2, iv (0 : Int32)] [])) _
    exact X15.returnOut hx Bd.returns (D d4_95) hr
  · show Q4_1 Z ra h0 n0 _ T15.heap _
    rw [e15]
    exact ⟨rfl, N15, a5, a7, a9, a11, a13, ⟨go_a5, go_a7, go_a9, go_a11, go_a13⟩, ⟨ne_a5_a7, ne_a5_a9, ne_a5_a11, ne_a5_a13, ne_a7_a9, ne_a7_a11, ne_a7_a13, ne_a9_a11, ne_a9_a13, ne_a11_a13⟩, K15, A15_ra, F15_ra_3, F15_ra_4, F15_ra_5, F15_ra_6, F15_ra_7, F15_s, F15_ra_0, F15_ra_9, F15_ra_10, V15_a5, V15_a7, V15_a9, V15_a11, V15_a13⟩
theorem d3_0 : decode prog_43_method_1_code 0 = .ok (.aload_n 0, 1) := by decide +kernel
theorem d3_1 : decode prog_43_method_1_code 1 = .ok (.iload_n 1, 1) := by decide +kernel
theorem d3_2 : decode prog_43_method_1_code 2 = .ok (.lload_n 2, 1) := by decide +kernel
theorem d3_3 : decode prog_43_method_1_code 3 = .ok (.iconst 0, 1) := by decide +kernel
theorem d3_4 : decode prog_43_method_1_code 4 = .ok (.invokespecial 1, 3) := by decide +kernel
theorem d3_7 : decode prog_43_method_1_code 7 = .ok (.return_, 1) := by decide +kernel
theorem ef_3_1 (m : MethodId) (ra : Addr) : entryFrame m #[(.ref ra), (.int (1 : Int32)), (.long (1 : Int64))] 4 = mkF m 0 #[rv ra, iv (1 : Int32), jv (1 : Int64), s2] [] := by first | (simp [entryFrame, mkF, argsToLocals, Value.category, maxLocals]; done) | rfl
theorem pd_96 : parseMethodDescriptor "(IJZ)V" = some ⟨[.int, .long, .boolean], none⟩ := by decide +kernel
def Q3_1 (Z : State) (ra : Addr)  (h0 : Heap) (n0 : Nat) (v : Option Value) (h : Heap) (L : List Loc) : Prop := v = none ∧ Fr n0 L ∧ ∃ rl rs rr rg rt : Addr, (h0.size ≤ rl ∧ h0.size ≤ rs ∧ h0.size ≤ rr ∧ h0.size ≤ rg ∧ h0.size ≤ rt) ∧ (rl ≠ rs ∧ rl ≠ rr ∧ rl ≠ rg ∧ rl ≠ rt ∧ rs ≠ rr ∧ rs ≠ rg ∧ rs ≠ rt ∧ rr ≠ rg ∧ rr ≠ rt ∧ rg ≠ rt) ∧ Keep h0 h [ra] ∧ Exa Z h ra "com/example/tributary/tributary/io/Silence" ∧ Fld Z h ra own_S "last" "[J" (.ref rl) ∧ Fld Z h ra own_S "sent" "[Z" (.ref rs) ∧ Fld Z h ra own_S "runs" "[J" (.ref rr) ∧ Fld Z h ra own_S "gone" "[Z" (.ref rg) ∧ Fld Z h ra own_S "stopped" "[Z" (.ref rt) ∧ Fld Z h ra own_S "open" "I" (.int (1 : Int32)) ∧ Fld Z h ra own_S "lastLeft" "I" (.int (-1 : Int32)) ∧ Fld Z h ra own_S "started" "Z" (.int (0 : Int32)) ∧ Fld Z h ra own_S "latest" "J" (.long (0 : Int64)) ∧ own_AJ Z h rl [(0 : Int64)] ∧ own_AI Z h rs .boolean [(0 : Int32)] ∧ own_AJ Z h rr [(0 : Int64)] ∧ own_AI Z h rg .boolean [(0 : Int32)] ∧ own_AI Z h rt .boolean [(0 : Int32)]
set_option maxRecDepth 65536 in
set_option maxHeartbeats 40000000 in
theorem rm3_1 (l : Launch) (Z : State) (a0 : Array Value) (hw : ∀ d ∈ tables_1, d.before a0 Z = true) (ws : List Jvm.Cond) (ra : Addr)  (h0 : Heap) (n0 : Nat) (Z0 : n0 ≤ h0.size) (PE0 : Exa Z h0 ra "com/example/tributary/tributary/io/Silence") (PF0 : Fld Z h0 ra own_S "lastLeft" "I" (.int (0 : Int32))) (PF1 : Fld Z h0 ra own_S "limit" "J" (.long (0 : Int64))) (PF2 : Fld Z h0 ra own_S "includesLast" "Z" (.int (0 : Int32))) (PF3 : Fld Z h0 ra own_S "last" "[J" .null) (PF4 : Fld Z h0 ra own_S "sent" "[Z" .null) (PF5 : Fld Z h0 ra own_S "runs" "[J" .null) (PF6 : Fld Z h0 ra own_S "gone" "[Z" .null) (PF7 : Fld Z h0 ra own_S "stopped" "[Z" .null) (PF8 : Fld Z h0 ra own_S "open" "I" (.int (0 : Int32))) (PF9 : Fld Z h0 ra own_S "started" "Z" (.int (0 : Int32))) (PF10 : Fld Z h0 ra own_S "latest" "J" (.long (0 : Int64))) (PG0 : n0 ≤ ra) :
    MetFree l (⟨"com/example/tributary/tributary/io/Silence", "<init>", "(IJ)V"⟩ : MethodName) (head1 (Jvm.Cond.code (⟨"com/example/tributary/tributary/io/Silence", "<init>", "(IJ)V"⟩ : MethodName) prog_43_method_1_code 4 none :: ws) ({ frames := 2, cells := 5, slots := 5, locals := 28 } : Room)) (fun a U => a = #[(.ref ra), (.int (1 : Int32)), (.long (1 : Int64))] ∧ Z.Warmed39 U.vm ∧ U.heap = h0) (fun _ _ _ _ _ => True) (fun _ U o U' => ∃ v L, o = .returned v ∧ Q3_1 Z ra h0 n0 v U'.heap L ∧ FrameEnd U o U' L ({ frames := 2, cells := 5, slots := 5, locals := 28 } : Room).cells ({ frames := 2, cells := 5, slots := 5, locals := 28 } : Room).slots) := by
  refine MetFree.of_bodySF (plainFor_of_name pn_4) hisR ?_
  intro p e s m args below meth c s₁ Bd hml0 hP hK
  obtain ⟨rfl, hZ, hh⟩ := hP
  have hx := Bd.exec
  have hby := Bd.bytes
  have hml : c.maxLocals = 4 := hml0
  have hown : s.vm.findClass "com/example/tributary/tributary/io/Silence" = some m.cls := findClass_of_methodNamed Bd.named
  have hnm := (name_of_methodNamed Bd.named Bd.method).1
  have X0 : Stand p l e ({ frames := 2, cells := 5, slots := 5, locals := 28 } : Room) s m #[(.ref ra), (.int (1 : Int32)), (.long (1 : Int64))] below meth c s₁ [] 0 0 := Stand.of_body Bd
  have hlk : meth.locks = false := by first | exact BodyLoose.notSynchronized (by assumption) | exact Body.notSynchronized (by assumption)
  have e0 : s₁.heap = h0 := by rw [← hh, Bd.state]; rfl
  have N0 := Fr.nil n0
  have pre0 : ∀ t, Steps p.tables e below (s₁.setTop (mkF m 0 #[rv ra, iv (1 : Int32), jv (1 : Int64), s2] [])) t → Steps p.tables e below (s₁.setTop (entryFrame m #[(.ref ra), (.int (1 : Int32)), (.long (1 : Int64))] 4)) t := fun t k => castTop (ef_3_1 m ra) k
  generalize s₁.setTop (entryFrame m #[(.ref ra), (.int (1 : Int32)), (.long (1 : Int64))] 4) = B0 at pre0 ⊢
  have H : ∀ (i : Nat) {d : Jvm.Cond}, tables_1[i]? = some d → d.before a0 Z = true := fun i d q => hw d (List.mem_of_getElem? q)
  have D : ∀ {pc : Nat} {r : Except DecodeError (Instr × Nat)}, decode prog_43_method_1_code pc = r → decode c.code pc = r := fun q => hb hby q
  obtain ⟨_, _, ⟨T1, L1, k1, n1⟩, -, X1, ⟨Lc1, hQ1, l1, y1, z1⟩, st1⟩ := X0.specialBack hx (y := (⟨"com/example/tributary/tributary/io/Silence", "<init>", "(IJZ)V"⟩ : MethodName)) rfl hown (mvT hZ (H 18 rfl)) (mvT hZ (H 19 rfl)) (mvT hZ (H 20 rfl)) (by decide) (backOf (W := 0) (rm4_1 l Z a0 hw [] ra  h0 n0 Z0 PE0 PF0 PF1 PF2 PF3 PF4 PF5 PF6 PF7 PF8 PF9 PF10 PG0 ) hZ (H 20 rfl) (H 14 rfl) (by decide) (by decide)) (g := (mkF m 4 #[rv ra, iv (1 : Int32), jv (1 : Int64), s2] [(.int (0 : Int32)), (.long (1 : Int64)), (.int (1 : Int32)), (.ref ra)])) rfl (by rw [hml]; rfl) (Steps.refl _) (a := ra) (argsL := [(.int (1 : Int32)), (.long (1 : Int64)), (.int (0 : Int32))]) (rest := []) (lenOf pd_96 rfl) rfl (by show 2 * 0 + _ ≤ _; exact Nat.le_of_eq rfl) (D d3_4) (fun _ _ => ⟨rfl, e0, (by decide : 0 + 5 ≤ _), (by decide : 0 + 5 ≤ _)⟩)
  dsimp only [Pt.U, Pt.locs, Pt.cells, Pt.slots] at X1 l1 y1 z1 st1 hQ1
  replace y1 : k1 = 5 := y1
  replace z1 : n1 = 5 := z1
  replace l1 := l1.symm; replace y1 := y1.symm; replace z1 := z1.symm; subst l1 y1 z1
  obtain ⟨rfl, N1q, rl1, rs1, rr1, rg1, rt1, ⟨go_rl1, go_rs1, go_rr1, go_rg1, go_rt1⟩, ⟨ne_rl1_rs1, ne_rl1_rr1, ne_rl1_rg1, ne_rl1_rt1, ne_rs1_rr1, ne_rs1_rg1, ne_rs1_rt1, ne_rr1_rg1, ne_rr1_rt1, ne_rg1_rt1⟩, K1, A1_o0, F1_o0, F1_o1, F1_o2, F1_o3, F1_o4, F1_o5, F1_o6, F1_o7, F1_o8, V1_o0, V1_o1, V1_o2, V1_o3, V1_o4⟩ := hQ1
  obtain ⟨h1, e1⟩ : ∃ z, T1.heap = z := ⟨_, rfl⟩
  rw [e1] at K1 A1_o0 F1_o0 F1_o1 F1_o2 F1_o3 F1_o4 F1_o5 F1_o6 F1_o7 F1_o8 V1_o0 V1_o1 V1_o2 V1_o3 V1_o4
  have ne_ra_rl1 : ra ≠ rl1 := Nat.ne_of_lt (Nat.lt_of_lt_of_le PE0.lt go_rl1)
  have ge_rl1 : n0 ≤ rl1 := Nat.le_trans Z0 go_rl1
  have gO_rl1 : h0.size ≤ rl1 := Nat.le_trans (Keep.refl h0 [ra]).1 go_rl1
  have ne_ra_rs1 : ra ≠ rs1 := Nat.ne_of_lt (Nat.lt_of_lt_of_le PE0.lt go_rs1)
  have ge_rs1 : n0 ≤ rs1 := Nat.le_trans Z0 go_rs1
  have gO_rs1 : h0.size ≤ rs1 := Nat.le_trans (Keep.refl h0 [ra]).1 go_rs1
  have ne_ra_rr1 : ra ≠ rr1 := Nat.ne_of_lt (Nat.lt_of_lt_of_le PE0.lt go_rr1)
  have ge_rr1 : n0 ≤ rr1 := Nat.le_trans Z0 go_rr1
  have gO_rr1 : h0.size ≤ rr1 := Nat.le_trans (Keep.refl h0 [ra]).1 go_rr1
  have ne_ra_rg1 : ra ≠ rg1 := Nat.ne_of_lt (Nat.lt_of_lt_of_le PE0.lt go_rg1)
  have ge_rg1 : n0 ≤ rg1 := Nat.le_trans Z0 go_rg1
  have gO_rg1 : h0.size ≤ rg1 := Nat.le_trans (Keep.refl h0 [ra]).1 go_rg1
  have ne_ra_rt1 : ra ≠ rt1 := Nat.ne_of_lt (Nat.lt_of_lt_of_le PE0.lt go_rt1)
  have ge_rt1 : n0 ≤ rt1 := Nat.le_trans Z0 go_rt1
  have gO_rt1 : h0.size ≤ rt1 := Nat.le_trans (Keep.refl h0 [ra]).1 go_rt1
  have A1_ra := PE0.keep K1
  have sz1 : n0 ≤ h1.size := Nat.le_trans Z0 K1.1
  have KK1 : Keep h0 h1 [ra] := (Keep.refl h0 [ra]).trans K1 (allS (Or.inl (by simp)) all0)
  have N1 := Fr.app N0 N1q
  obtain ⟨fs, hr, hrun, hended, hW, hsame⟩ := X1.leave (v := none) (fun _ => rfl) hlk
  refine ⟨_, _, pre0 _ ?_, hrun, hended, _, _, rfl, ?_, ⟨_, rfl⟩, hW, hsame.mono (by decide) (by decide)⟩
  · show Steps p.tables e below (s₁.setTop (mkF m 0 #[rv ra, iv (1 : Int32), jv (1 : Int64), s2] [])) _
    refine XS.aloadN X0.here hx rfl (D d3_0) rfl rfl ?_
    refine XS.iloadN X0.here hx rfl (D d3_1) rfl ?_
    refine XS.lloadN X0.here hx rfl (D d3_2) rfl ?_
    refine XS.iconst X0.here hx rfl (D d3_3) ?_
    refine st1.trans ?_
    show Steps p.tables e below (T1.setTop (mkF m 7 #[rv ra, iv (1 : Int32), jv (1 : Int64), s2] [])) _
    exact X1.returnOut hx Bd.returns (D d3_7) hr
  · show Q3_1 Z ra h0 n0 _ T1.heap _
    rw [e1]
    exact ⟨rfl, N1, rl1, rs1, rr1, rg1, rt1, ⟨gO_rl1, gO_rs1, gO_rr1, gO_rg1, gO_rt1⟩, ⟨ne_rl1_rs1, ne_rl1_rr1, ne_rl1_rg1, ne_rl1_rt1, ne_rs1_rr1, ne_rs1_rg1, ne_rs1_rt1, ne_rr1_rg1, ne_rr1_rt1, ne_rg1_rt1⟩, KK1, A1_o0, F1_o0, F1_o1, F1_o2, F1_o3, F1_o4, F1_o5, F1_o6, F1_o7, F1_o8, V1_o0, V1_o1, V1_o2, V1_o3, V1_o4⟩
theorem d6_0 : decode prog_43_method_8_code 0 = .ok (.iconst 3, 1) := by decide +kernel
theorem d6_1 : decode prog_43_method_8_code 1 = .ok (.iconst 3, 1) := by decide +kernel
theorem d6_2 : decode prog_43_method_8_code 2 = .ok (.aload_n 0, 1) := by decide +kernel
theorem d6_3 : decode prog_43_method_8_code 3 = .ok (.getfield 46, 3) := by decide +kernel
theorem d6_6 : decode prog_43_method_8_code 6 = .ok (.arraylength, 1) := by decide +kernel
theorem d6_7 : decode prog_43_method_8_code 7 = .ok (.imul, 1) := by decide +kernel
theorem d6_8 : decode prog_43_method_8_code 8 = .ok (.iadd, 1) := by decide +kernel
theorem d6_9 : decode prog_43_method_8_code 9 = .ok (.newarray .long, 2) := by decide +kernel
theorem d6_11 : decode prog_43_method_8_code 11 = .ok (.astore_n 1, 1) := by decide +kernel
theorem d6_12 : decode prog_43_method_8_code 12 = .ok (.aload_n 1, 1) := by decide +kernel
theorem d6_13 : decode prog_43_method_8_code 13 = .ok (.iconst 0, 1) := by decide +kernel
theorem d6_14 : decode prog_43_method_8_code 14 = .ok (.aload_n 0, 1) := by decide +kernel
theorem d6_15 : decode prog_43_method_8_code 15 = .ok (.getfield 59, 3) := by decide +kernel
theorem d6_18 : decode prog_43_method_8_code 18 = .ok (.ifCond .eq 7, 3) := by decide +kernel
theorem d6_21 : decode prog_43_method_8_code 21 = .ok (.lconst 1, 1) := by decide +kernel
theorem d6_22 : decode prog_43_method_8_code 22 = .ok (.goto 4, 3) := by decide +kernel
theorem d6_25 : decode prog_43_method_8_code 25 = .ok (.lconst 0, 1) := by decide +kernel
theorem d6_26 : decode prog_43_method_8_code 26 = .ok (.lastore, 1) := by decide +kernel
theorem d6_27 : decode prog_43_method_8_code 27 = .ok (.aload_n 1, 1) := by decide +kernel
theorem d6_28 : decode prog_43_method_8_code 28 = .ok (.iconst 1, 1) := by decide +kernel
theorem d6_29 : decode prog_43_method_8_code 29 = .ok (.aload_n 0, 1) := by decide +kernel
theorem d6_30 : decode prog_43_method_8_code 30 = .ok (.getfield 62, 3) := by decide +kernel
theorem d6_33 : decode prog_43_method_8_code 33 = .ok (.lastore, 1) := by decide +kernel
theorem d6_34 : decode prog_43_method_8_code 34 = .ok (.aload_n 1, 1) := by decide +kernel
theorem d6_35 : decode prog_43_method_8_code 35 = .ok (.iconst 2, 1) := by decide +kernel
theorem d6_36 : decode prog_43_method_8_code 36 = .ok (.aload_n 0, 1) := by decide +kernel
theorem d6_37 : decode prog_43_method_8_code 37 = .ok (.getfield 12, 3) := by decide +kernel
theorem d6_40 : decode prog_43_method_8_code 40 = .ok (.i2l, 1) := by decide +kernel
theorem d6_41 : decode prog_43_method_8_code 41 = .ok (.lastore, 1) := by decide +kernel
theorem d6_42 : decode prog_43_method_8_code 42 = .ok (.iconst 0, 1) := by decide +kernel
theorem d6_43 : decode prog_43_method_8_code 43 = .ok (.istore_n 2, 1) := by decide +kernel
theorem d6_44 : decode prog_43_method_8_code 44 = .ok (.iload_n 2, 1) := by decide +kernel
theorem d6_45 : decode prog_43_method_8_code 45 = .ok (.aload_n 0, 1) := by decide +kernel
theorem d6_46 : decode prog_43_method_8_code 46 = .ok (.getfield 46, 3) := by decide +kernel
theorem d6_49 : decode prog_43_method_8_code 49 = .ok (.arraylength, 1) := by decide +kernel
theorem d6_50 : decode prog_43_method_8_code 50 = .ok (.if_icmp .ge 93, 3) := by decide +kernel
theorem d6_53 : decode prog_43_method_8_code 53 = .ok (.iconst 3, 1) := by decide +kernel
theorem d6_54 : decode prog_43_method_8_code 54 = .ok (.iconst 3, 1) := by decide +kernel
theorem d6_55 : decode prog_43_method_8_code 55 = .ok (.iload_n 2, 1) := by decide +kernel
theorem d6_56 : decode prog_43_method_8_code 56 = .ok (.imul, 1) := by decide +kernel
theorem d6_57 : decode prog_43_method_8_code 57 = .ok (.iadd, 1) := by decide +kernel
theorem d6_58 : decode prog_43_method_8_code 58 = .ok (.istore_n 3, 1) := by decide +kernel
theorem d6_59 : decode prog_43_method_8_code 59 = .ok (.aload_n 1, 1) := by decide +kernel
theorem d6_60 : decode prog_43_method_8_code 60 = .ok (.iload_n 3, 1) := by decide +kernel
theorem d6_61 : decode prog_43_method_8_code 61 = .ok (.aload_n 0, 1) := by decide +kernel
theorem d6_62 : decode prog_43_method_8_code 62 = .ok (.getfield 39, 3) := by decide +kernel
theorem d6_65 : decode prog_43_method_8_code 65 = .ok (.iload_n 2, 1) := by decide +kernel
theorem d6_66 : decode prog_43_method_8_code 66 = .ok (.baload, 1) := by decide +kernel
theorem d6_67 : decode prog_43_method_8_code 67 = .ok (.ifCond .eq 7, 3) := by decide +kernel
theorem d6_70 : decode prog_43_method_8_code 70 = .ok (.lconst 1, 1) := by decide +kernel
theorem d6_71 : decode prog_43_method_8_code 71 = .ok (.goto 4, 3) := by decide +kernel
theorem d6_74 : decode prog_43_method_8_code 74 = .ok (.lconst 0, 1) := by decide +kernel
theorem d6_75 : decode prog_43_method_8_code 75 = .ok (.aload_n 0, 1) := by decide +kernel
theorem d6_76 : decode prog_43_method_8_code 76 = .ok (.getfield 46, 3) := by decide +kernel
theorem d6_79 : decode prog_43_method_8_code 79 = .ok (.iload_n 2, 1) := by decide +kernel
theorem d6_80 : decode prog_43_method_8_code 80 = .ok (.baload, 1) := by decide +kernel
theorem d6_81 : decode prog_43_method_8_code 81 = .ok (.ifCond .eq 9, 3) := by decide +kernel
theorem d6_84 : decode prog_43_method_8_code 84 = .ok (.ldc2_w 82, 3) := by decide +kernel
theorem d6_87 : decode prog_43_method_8_code 87 = .ok (.goto 4, 3) := by decide +kernel
theorem d6_90 : decode prog_43_method_8_code 90 = .ok (.lconst 0, 1) := by decide +kernel
theorem d6_91 : decode prog_43_method_8_code 91 = .ok (.lor, 1) := by decide +kernel
theorem d6_92 : decode prog_43_method_8_code 92 = .ok (.lastore, 1) := by decide +kernel
theorem d6_93 : decode prog_43_method_8_code 93 = .ok (.aload_n 1, 1) := by decide +kernel
theorem d6_94 : decode prog_43_method_8_code 94 = .ok (.iload_n 3, 1) := by decide +kernel
theorem d6_95 : decode prog_43_method_8_code 95 = .ok (.dup2, 1) := by decide +kernel
theorem d6_96 : decode prog_43_method_8_code 96 = .ok (.laload, 1) := by decide +kernel
theorem d6_97 : decode prog_43_method_8_code 97 = .ok (.aload_n 0, 1) := by decide +kernel
theorem d6_98 : decode prog_43_method_8_code 98 = .ok (.getfield 49, 3) := by decide +kernel
theorem d6_101 : decode prog_43_method_8_code 101 = .ok (.iload_n 2, 1) := by decide +kernel
theorem d6_102 : decode prog_43_method_8_code 102 = .ok (.baload, 1) := by decide +kernel
theorem d6_103 : decode prog_43_method_8_code 103 = .ok (.ifCond .eq 9, 3) := by decide +kernel
theorem d6_106 : decode prog_43_method_8_code 106 = .ok (.ldc2_w 84, 3) := by decide +kernel
theorem d6_109 : decode prog_43_method_8_code 109 = .ok (.goto 4, 3) := by decide +kernel
theorem d6_112 : decode prog_43_method_8_code 112 = .ok (.lconst 0, 1) := by decide +kernel
theorem d6_113 : decode prog_43_method_8_code 113 = .ok (.lor, 1) := by decide +kernel
theorem d6_114 : decode prog_43_method_8_code 114 = .ok (.lastore, 1) := by decide +kernel
theorem d6_115 : decode prog_43_method_8_code 115 = .ok (.aload_n 1, 1) := by decide +kernel
theorem d6_116 : decode prog_43_method_8_code 116 = .ok (.iload_n 3, 1) := by decide +kernel
theorem d6_117 : decode prog_43_method_8_code 117 = .ok (.iconst 1, 1) := by decide +kernel
theorem d6_118 : decode prog_43_method_8_code 118 = .ok (.iadd, 1) := by decide +kernel
theorem d6_119 : decode prog_43_method_8_code 119 = .ok (.aload_n 0, 1) := by decide +kernel
theorem d6_120 : decode prog_43_method_8_code 120 = .ok (.getfield 35, 3) := by decide +kernel
theorem d6_123 : decode prog_43_method_8_code 123 = .ok (.iload_n 2, 1) := by decide +kernel
theorem d6_124 : decode prog_43_method_8_code 124 = .ok (.laload, 1) := by decide +kernel
theorem d6_125 : decode prog_43_method_8_code 125 = .ok (.lastore, 1) := by decide +kernel
theorem d6_126 : decode prog_43_method_8_code 126 = .ok (.aload_n 1, 1) := by decide +kernel
theorem d6_127 : decode prog_43_method_8_code 127 = .ok (.iload_n 3, 1) := by decide +kernel
theorem d6_128 : decode prog_43_method_8_code 128 = .ok (.iconst 2, 1) := by decide +kernel
theorem d6_129 : decode prog_43_method_8_code 129 = .ok (.iadd, 1) := by decide +kernel
theorem d6_130 : decode prog_43_method_8_code 130 = .ok (.aload_n 0, 1) := by decide +kernel
theorem d6_131 : decode prog_43_method_8_code 131 = .ok (.getfield 43, 3) := by decide +kernel
theorem d6_134 : decode prog_43_method_8_code 134 = .ok (.iload_n 2, 1) := by decide +kernel
theorem d6_135 : decode prog_43_method_8_code 135 = .ok (.laload, 1) := by decide +kernel
theorem d6_136 : decode prog_43_method_8_code 136 = .ok (.lastore, 1) := by decide +kernel
theorem d6_137 : decode prog_43_method_8_code 137 = .ok (.iinc 2 1, 3) := by decide +kernel
theorem d6_140 : decode prog_43_method_8_code 140 = .ok (.goto (-96), 3) := by decide +kernel
theorem d6_143 : decode prog_43_method_8_code 143 = .ok (.aload_n 1, 1) := by decide +kernel
theorem d6_144 : decode prog_43_method_8_code 144 = .ok (.areturn, 1) := by decide +kernel
theorem ef_6_1 (m : MethodId) (ra : Addr) : entryFrame m #[(.ref ra)] 4 = mkF m 0 #[rv ra, u0, u0, u0] [] := by first | (simp [entryFrame, mkF, argsToLocals, Value.category, maxLocals]; done) | rfl
def Q6_1 (Z : State) (ra : Addr) (rl : Addr) (rs : Addr) (rr : Addr) (rg : Addr) (rt : Addr) (sd : Int32) (lt : Int64) (ll : Int32) (jl0 : Int64) (jr0 : Int64) (bs0 : Int32) (bg0 : Int32) (bt0 : Int32) (h0 : Heap) (n0 : Nat) (v : Option Value) (h : Heap) (L : List Loc) : Prop := v = some (.ref h0.size) ∧ Fr n0 L ∧ Keep h0 h [] ∧ own_AJ Z h h0.size [(if sd = (0 : Int32) then (0 : Int64) else (1 : Int64)), lt, (ll).toInt64, (((if bs0 = (0 : Int32) then (0 : Int64) else (1 : Int64)) ||| (if bg0 = (0 : Int32) then (0 : Int64) else (2 : Int64))) ||| (if bt0 = (0 : Int32) then (0 : Int64) else (4 : Int64))), jl0, jr0]
set_option maxRecDepth 65536 in
set_option maxHeartbeats 40000000 in
theorem rm6_1 (l : Launch) (Z : State) (a0 : Array Value) (hw : ∀ d ∈ tables_1, d.before a0 Z = true) (ws : List Jvm.Cond) (ra : Addr) (rl : Addr) (rs : Addr) (rr : Addr) (rg : Addr) (rt : Addr) (sd : Int32) (lt : Int64) (ll : Int32) (jl0 : Int64) (jr0 : Int64) (bs0 : Int32) (bg0 : Int32) (bt0 : Int32) (h0 : Heap) (n0 : Nat) (Z0 : n0 ≤ h0.size) (PA0 : own_AJ Z h0 rl [jl0]) (PA1 : own_AI Z h0 rs .boolean [bs0]) (PA2 : own_AJ Z h0 rr [jr0]) (PA3 : own_AI Z h0 rg .boolean [bg0]) (PA4 : own_AI Z h0 rt .boolean [bt0]) (PE0 : Exa Z h0 ra "com/example/tributary/tributary/io/Silence") (PF0 : Fld Z h0 ra own_S "last" "[J" (.ref rl)) (PF1 : Fld Z h0 ra own_S "sent" "[Z" (.ref rs)) (PF2 : Fld Z h0 ra own_S "runs" "[J" (.ref rr)) (PF3 : Fld Z h0 ra own_S "gone" "[Z" (.ref rg)) (PF4 : Fld Z h0 ra own_S "stopped" "[Z" (.ref rt)) (PF5 : Fld Z h0 ra own_S "started" "Z" (.int sd)) (PF6 : Fld Z h0 ra own_S "latest" "J" (.long lt)) (PF7 : Fld Z h0 ra own_S "lastLeft" "I" (.int ll)) :
    MetFree l (⟨"com/example/tributary/tributary/io/Silence", "measured", "()[J"⟩ : MethodName) (head1 (Jvm.Cond.code (⟨"com/example/tributary/tributary/io/Silence", "measured", "()[J"⟩ : MethodName) prog_43_method_8_code 4 (some (.array .long)) :: ws) ({ frames := 0, cells := 1, slots := 6, locals := 0 } : Room)) (fun a U => a = #[(.ref ra)] ∧ Z.Warmed39 U.vm ∧ U.heap = h0) (fun _ _ _ _ _ => True) (fun _ U o U' => ∃ v L, o = .returned v ∧ Q6_1 Z ra rl rs rr rg rt sd lt ll jl0 jr0 bs0 bg0 bt0 h0 n0 v U'.heap L ∧ FrameEnd U o U' L ({ frames := 0, cells := 1, slots := 6, locals := 0 } : Room).cells ({ frames := 0, cells := 1, slots := 6, locals := 0 } : Room).slots) := by
  refine MetFree.of_bodySF (plainFor_of_name pn_4) hisR ?_
  intro p e s m args below meth c s₁ Bd hml0 hP hK
  obtain ⟨rfl, hZ, hh⟩ := hP
  have hx := Bd.exec
  have hby := Bd.bytes
  have hml : c.maxLocals = 4 := hml0
  have hown : s.vm.findClass "com/example/tributary/tributary/io/Silence" = some m.cls := findClass_of_methodNamed Bd.named
  have hnm := (name_of_methodNamed Bd.named Bd.method).1
  have X0 : Stand p l e ({ frames := 0, cells := 1, slots := 6, locals := 0 } : Room) s m #[(.ref ra)] below meth c s₁ [] 0 0 := Stand.of_body Bd
  have hlk : meth.locks = false := by first | exact BodyLoose.notSynchronized (by assumption) | exact Body.notSynchronized (by assumption)
  have e0 : s₁.heap = h0 := by rw [← hh, Bd.state]; rfl
  have N0 := Fr.nil n0
  have pre0 : ∀ t, Steps p.tables e below (s₁.setTop (mkF m 0 #[rv ra, u0, u0, u0] [])) t → Steps p.tables e below (s₁.setTop (entryFrame m #[(.ref ra)] 4)) t := fun t k => castTop (ef_6_1 m ra) k
  generalize s₁.setTop (entryFrame m #[(.ref ra)] 4) = B0 at pre0 ⊢
  have H : ∀ (i : Nat) {d : Jvm.Cond}, tables_1[i]? = some d → d.before a0 Z = true := fun i d q => hw d (List.mem_of_getElem? q)
  have D : ∀ {pc : Nat} {r : Except DecodeError (Instr × Nat)}, decode prog_43_method_8_code pc = r → decode c.code pc = r := fun q => hb hby q
  obtain ⟨T1, X1, e1, st1⟩ := getF X0 hx hZ hown (host := "") (Or.inl (H 37 rfl)) Via.refl e0 PF3 (g := (mkF m 3 #[rv ra, u0, u0, u0] [(.ref ra), (.int (3 : Int32)), (.int (3 : Int32))])) rfl rfl (D d6_3)
  obtain ⟨T2, h2, cA2, X2, e2, E2, A2, st2⟩ := newP X1 hx hZ (aty := .long) (H 11 rfl) e1 (g := (mkF m 9 #[rv ra, u0, u0, u0] [(.int (6 : Int32))])) rfl (D d6_9) rfl (by decide) (cap := 6) (by decide) (by decide) (by decide) (by decide)
  obtain ⟨a2, g2⟩ : ∃ z, z = h0.size := ⟨_, rfl⟩
  rw [← g2] at A2 st2
  have ne_rl_a2 : rl ≠ a2 := g2 ▸ Nat.ne_of_lt PA0.lt
  have ne_rs_a2 : rs ≠ a2 := g2 ▸ Nat.ne_of_lt PA1.lt
  have ne_rr_a2 : rr ≠ a2 := g2 ▸ Nat.ne_of_lt PA2.lt
  have ne_rg_a2 : rg ≠ a2 := g2 ▸ Nat.ne_of_lt PA3.lt
  have ne_rt_a2 : rt ≠ a2 := g2 ▸ Nat.ne_of_lt PA4.lt
  have ne_ra_a2 : ra ≠ a2 := g2 ▸ Nat.ne_of_lt PE0.lt
  have ge_a2 : n0 ≤ a2 := g2 ▸ Z0
  have go_a2 : h0.size ≤ a2 := g2 ▸ (Keep.refl h0 []).1
  have V2_rl := PA0.ext E2
  have V2_rs := PA1.ext E2
  have V2_rr := PA2.ext E2
  have V2_rg := PA3.ext E2
  have V2_rt := PA4.ext E2
  have A2_ra := PE0.ext E2
  have F2_ra_0 := PF0.ext E2
  have F2_ra_1 := PF1.ext E2
  have F2_ra_2 := PF2.ext E2
  have F2_ra_3 := PF3.ext E2
  have F2_ra_4 := PF4.ext E2
  have F2_ra_5 := PF5.ext E2
  have F2_ra_6 := PF6.ext E2
  have F2_ra_7 := PF7.ext E2
  have sz2 := Nat.le_trans Z0 E2.1
  have K2 : Keep h0 h2 [] := (Keep.refl h0 []).ext E2
  have V2_n : own_AJ Z h2 a2 [(0 : Int64), (0 : Int64), (0 : Int64), (0 : Int64), (0 : Int64), (0 : Int64)] := own_AJ_new A2 (k := 6) (by decide)
  obtain ⟨T3, X3, e3, st3⟩ := getF X2 hx hZ hown (host := "") (Or.inl (H 48 rfl)) Via.refl e2 F2_ra_5 (g := (mkF m 15 #[rv ra, rv a2, u0, u0] [(.ref ra), (.int (0 : Int32)), (.ref a2)])) rfl rfl (D d6_15)
  have pre5 : ∀ t, Steps p.tables e below (T3.setTop (mkF m 18 #[rv ra, rv a2, u0, u0] [(.int sd), (.int (0 : Int32)), (.ref a2)])) t → Steps p.tables e below B0 t := by
    intro t k
    refine pre0 t ?_
    show Steps p.tables e below (s₁.setTop (mkF m 0 #[rv ra, u0, u0, u0] [])) _
    refine XS.iconst X0.here hx rfl (D d6_0) ?_
    refine XS.iconst X0.here hx rfl (D d6_1) ?_
    refine XS.aloadN X0.here hx rfl (D d6_2) rfl rfl ?_
    refine st1 _ ?_
    refine own_alenI X1 hx hZ e1 PA3 (D d6_6) _ ?_
    refine XS.imul X1.here hx rfl (D d6_7) rfl ?_
    refine XS.iadd X1.here hx rfl (D d6_8) rfl ?_
    refine st2 _ ?_
    refine XS.astoreN X2.here hx rfl (D d6_11) rfl rfl (l' := #[rv ra, rv a2, u0, u0]) rfl ?_
    refine XS.aloadN X2.here hx rfl (D d6_12) rfl rfl ?_
    refine XS.iconst X2.here hx rfl (D d6_13) ?_
    refine XS.aloadN X2.here hx rfl (D d6_14) rfl rfl ?_
    refine st3 _ ?_
    exact k
  clear X1 e1 st1 X2 e2 E2 A2 st2 st3
  have pre6 : ∀ t, Steps p.tables e below (T3.setTop (mkF m 26 #[rv ra, rv a2, u0, u0] [(.long (if sd = (0 : Int32) then (0 : Int64) else (1 : Int64))), (.int (0 : Int32)), (.ref a2)])) t → Steps p.tables e below B0 t := by
    by_cases c4 : sd = (0 : Int32)
    · try simp only [if_pos c4]
      intro t k
      refine pre5 t ?_
      show Steps p.tables e below (T3.setTop (mkF m 18 #[rv ra, rv a2, u0, u0] [(.int sd), (.int (0 : Int32)), (.ref a2)])) _
      refine XS.ifYes X3.here hx rfl (pc0 := 18) (pc' := 25) rfl (D d6_18) rfl ((if0 _ _).trans (teq c4).1) (by decide) (by decide) ?_
      refine XS.lconst X3.here hx rfl (D d6_25) ?_
      exact k
    · try simp only [if_neg c4]
      intro t k
      refine pre5 t ?_
      show Steps p.tables e below (T3.setTop (mkF m 18 #[rv ra, rv a2, u0, u0] [(.int sd), (.int (0 : Int32)), (.ref a2)])) _
      refine XS.ifNo X3.here hx rfl (D d6_18) rfl ((if0 _ _).trans (feq c4).1) ?_
      refine XS.lconst X3.here hx rfl (D d6_21) ?_
      refine XS.goto X3.here hx rfl (pc0 := 22) (pc' := 26) rfl (D d6_22) (by decide) (by decide) ?_
      exact k
  obtain ⟨T7, h7, X7, e7, W7, V7, st7⟩ := own_lastore X3 hx hZ e3 V2_n (j := (0 : Int32)) (show 0 ≤ Int32.toInt (0 : Int32) ∧ Int32.toInt (0 : Int32) < ((6 : Nat) : Int) by decide) (x := (if sd = (0 : Int32) then (0 : Int64) else (1 : Int64))) (D d6_26)
  have V7_rl := V2_rl.other W7 ne_rl_a2
  have V7_rs := V2_rs.other W7 ne_rs_a2
  have V7_rr := V2_rr.other W7 ne_rr_a2
  have V7_rg := V2_rg.other W7 ne_rg_a2
  have V7_rt := V2_rt.other W7 ne_rt_a2
  have A7_ra := A2_ra.wr W7
  have F7_ra_0 := F2_ra_0.other W7 (Or.inl ne_ra_a2)
  have F7_ra_1 := F2_ra_1.other W7 (Or.inl ne_ra_a2)
  have F7_ra_2 := F2_ra_2.other W7 (Or.inl ne_ra_a2)
  have F7_ra_3 := F2_ra_3.other W7 (Or.inl ne_ra_a2)
  have F7_ra_4 := F2_ra_4.other W7 (Or.inl ne_ra_a2)
  have F7_ra_5 := F2_ra_5.other W7 (Or.inl ne_ra_a2)
  have F7_ra_6 := F2_ra_6.other W7 (Or.inl ne_ra_a2)
  have F7_ra_7 := F2_ra_7.other W7 (Or.inl ne_ra_a2)
  have sz7 := Nat.le_trans sz2 (Keep.of_wr W7).1
  have K7 := K2.wr W7 (Or.inr go_a2)
  have N7 := Fr.snoc X7 N0 ge_a2
  have V7_n : own_AJ Z h7 a2 [(if sd = (0 : Int32) then (0 : Int64) else (1 : Int64)), (0 : Int64), (0 : Int64), (0 : Int64), (0 : Int64), (0 : Int64)] := V7
  obtain ⟨T8, X8, e8, st8⟩ := getF X7 hx hZ hown (host := "") (Or.inl (H 50 rfl)) Via.refl e7 F7_ra_6 (g := (mkF m 30 #[rv ra, rv a2, u0, u0] [(.ref ra), (.int (1 : Int32)), (.ref a2)])) rfl rfl (D d6_30)
  obtain ⟨T9, h9, X9, e9, W9, V9, st9⟩ := own_lastore X8 hx hZ e8 V7_n (j := (1 : Int32)) (show 0 ≤ Int32.toInt (1 : Int32) ∧ Int32.toInt (1 : Int32) < ((6 : Nat) : Int) by decide) (x := lt) (D d6_33)
  have V9_rl := V7_rl.other W9 ne_rl_a2
  have V9_rs := V7_rs.other W9 ne_rs_a2
  have V9_rr := V7_rr.other W9 ne_rr_a2
  have V9_rg := V7_rg.other W9 ne_rg_a2
  have V9_rt := V7_rt.other W9 ne_rt_a2
  have A9_ra := A7_ra.wr W9
  have F9_ra_0 := F7_ra_0.other W9 (Or.inl ne_ra_a2)
  have F9_ra_1 := F7_ra_1.other W9 (Or.inl ne_ra_a2)
  have F9_ra_2 := F7_ra_2.other W9 (Or.inl ne_ra_a2)
  have F9_ra_3 := F7_ra_3.other W9 (Or.inl ne_ra_a2)
  have F9_ra_4 := F7_ra_4.other W9 (Or.inl ne_ra_a2)
  have F9_ra_5 := F7_ra_5.other W9 (Or.inl ne_ra_a2)
  have F9_ra_6 := F7_ra_6.other W9 (Or.inl ne_ra_a2)
  have F9_ra_7 := F7_ra_7.other W9 (Or.inl ne_ra_a2)
  have sz9 := Nat.le_trans sz7 (Keep.of_wr W9).1
  have K9 := K7.wr W9 (Or.inr go_a2)
  have N9 := Fr.snoc X9 N7 ge_a2
  have V9_n : own_AJ Z h9 a2 [(if sd = (0 : Int32) then (0 : Int64) else (1 : Int64)), lt, (0 : Int64), (0 : Int64), (0 : Int64), (0 : Int64)] := V9
  obtain ⟨T10, X10, e10, st10⟩ := getF X9 hx hZ hown (host := "") (Or.inl (H 24 rfl)) Via.refl e9 F9_ra_7 (g := (mkF m 37 #[rv ra, rv a2, u0, u0] [(.ref ra), (.int (2 : Int32)), (.ref a2)])) rfl rfl (D d6_37)
  obtain ⟨T11, h11, X11, e11, W11, V11, st11⟩ := own_lastore X10 hx hZ e10 V9_n (j := (2 : Int32)) (show 0 ≤ Int32.toInt (2 : Int32) ∧ Int32.toInt (2 : Int32) < ((6 : Nat) : Int) by decide) (x := (ll).toInt64) (D d6_41)
  have V11_rl := V9_rl.other W11 ne_rl_a2
  have V11_rs := V9_rs.other W11 ne_rs_a2
  have V11_rr := V9_rr.other W11 ne_rr_a2
  have V11_rg := V9_rg.other W11 ne_rg_a2
  have V11_rt := V9_rt.other W11 ne_rt_a2
  have A11_ra := A9_ra.wr W11
  have F11_ra_0 := F9_ra_0.other W11 (Or.inl ne_ra_a2)
  have F11_ra_1 := F9_ra_1.other W11 (Or.inl ne_ra_a2)
  have F11_ra_2 := F9_ra_2.other W11 (Or.inl ne_ra_a2)
  have F11_ra_3 := F9_ra_3.other W11 (Or.inl ne_ra_a2)
  have F11_ra_4 := F9_ra_4.other W11 (Or.inl ne_ra_a2)
  have F11_ra_5 := F9_ra_5.other W11 (Or.inl ne_ra_a2)
  have F11_ra_6 := F9_ra_6.other W11 (Or.inl ne_ra_a2)
  have F11_ra_7 := F9_ra_7.other W11 (Or.inl ne_ra_a2)
  have sz11 := Nat.le_trans sz9 (Keep.of_wr W11).1
  have K11 := K9.wr W11 (Or.inr go_a2)
  have N11 := Fr.snoc X11 N9 ge_a2
  have V11_n : own_AJ Z h11 a2 [(if sd = (0 : Int32) then (0 : Int64) else (1 : Int64)), lt, (ll).toInt64, (0 : Int64), (0 : Int64), (0 : Int64)] := V11
  obtain ⟨T12, X12, e12, st12⟩ := getF X11 hx hZ hown (host := "") (Or.inl (H 37 rfl)) Via.refl e11 F11_ra_3 (g := (mkF m 46 #[rv ra, rv a2, iv (0 : Int32), u0] [(.ref ra), (.int (0 : Int32))])) rfl rfl (D d6_46)
  obtain ⟨T13, X13, e13, st13⟩ := getF X12 hx hZ hown (host := "") (Or.inl (H 33 rfl)) Via.refl e12 F11_ra_1 (g := (mkF m 62 #[rv ra, rv a2, iv (0 : Int32), iv (3 : Int32)] [(.ref ra), (.int (3 : Int32)), (.ref a2)])) rfl rfl (D d6_62)
  have pre15 : ∀ t, Steps p.tables e below (T13.setTop (mkF m 67 #[rv ra, rv a2, iv (0 : Int32), iv (3 : Int32)] [(.int bs0), (.int (3 : Int32)), (.ref a2)])) t → Steps p.tables e below B0 t := by
    intro t k
    refine pre6 t ?_
    show Steps p.tables e below (T3.setTop (mkF m 26 #[rv ra, rv a2, u0, u0] [(.long (if sd = (0 : Int32) then (0 : Int64) else (1 : Int64))), (.int (0 : Int32)), (.ref a2)])) _
    refine st7 _ ?_
    refine XS.aloadN X7.here hx rfl (D d6_27) rfl rfl ?_
    refine XS.iconst X7.here hx rfl (D d6_28) ?_
    refine XS.aloadN X7.here hx rfl (D d6_29) rfl rfl ?_
    refine st8 _ ?_
    refine st9 _ ?_
    refine XS.aloadN X9.here hx rfl (D d6_34) rfl rfl ?_
    refine XS.iconst X9.here hx rfl (D d6_35) ?_
    refine XS.aloadN X9.here hx rfl (D d6_36) rfl rfl ?_
    refine st10 _ ?_
    refine XS.i2l X10.here hx rfl (D d6_40) rfl ?_
    refine st11 _ ?_
    refine XS.iconst X11.here hx rfl (D d6_42) ?_
    refine XS.istoreN X11.here hx rfl (D d6_43) rfl (l' := #[rv ra, rv a2, iv (0 : Int32), u0]) rfl ?_
    refine XS.iloadN X11.here hx rfl (D d6_44) rfl ?_
    refine XS.aloadN X11.here hx rfl (D d6_45) rfl rfl ?_
    refine st12 _ ?_
    refine own_alenI X12 hx hZ e12 V11_rg (D d6_49) _ ?_
    show Steps p.tables e below (T12.setTop (mkF m 50 #[rv ra, rv a2, iv (0 : Int32), u0] [(.int (1 : Int32)), (.int (0 : Int32))])) _
    refine XS.icmpNo X12.here hx rfl (D d6_50) rfl (by decide) ?_
    refine XS.iconst X12.here hx rfl (D d6_53) ?_
    refine XS.iconst X12.here hx rfl (D d6_54) ?_
    refine XS.iloadN X12.here hx rfl (D d6_55) rfl ?_
    refine XS.imul X12.here hx rfl (D d6_56) rfl ?_
    refine XS.iadd X12.here hx rfl (D d6_57) rfl ?_
    refine XS.istoreN X12.here hx rfl (D d6_58) rfl (l' := #[rv ra, rv a2, iv (0 : Int32), iv (3 : Int32)]) rfl ?_
    refine XS.aloadN X12.here hx rfl (D d6_59) rfl rfl ?_
    refine XS.iloadN X12.here hx rfl (D d6_60) rfl ?_
    show Steps p.tables e below (T12.setTop (mkF m 61 #[rv ra, rv a2, iv (0 : Int32), iv (3 : Int32)] [(.int (3 : Int32)), (.ref a2)])) _
    refine XS.aloadN X12.here hx rfl (D d6_61) rfl rfl ?_
    refine st13 _ ?_
    refine XS.iloadN X13.here hx rfl (D d6_65) rfl ?_
    refine own_baloadZ X13 hx hZ e13 V11_rs (show 0 ≤ Int32.toInt (0 : Int32) ∧ Int32.toInt (0 : Int32) < ((1 : Nat) : Int) by decide) (D d6_66) _ ?_
    exact k
  clear V2_rl V2_rs V2_rr V2_rg V2_rt A2_ra F2_ra_0 F2_ra_1 F2_ra_2 F2_ra_3 F2_ra_4 F2_ra_5 F2_ra_6 F2_ra_7 sz2 K2 V2_n X3 e3 pre5 pre6 X7 e7 W7 V7 st7 V7_rl V7_rs V7_rr V7_rg V7_rt A7_ra F7_ra_0 F7_ra_1 F7_ra_2 F7_ra_3 F7_ra_4 F7_ra_5 F7_ra_6 F7_ra_7 sz7 K7 N7 V7_n X8 e8 st8 X9 e9 W9 V9 st9 V9_rl V9_rs V9_rr V9_rg V9_rt A9_ra F9_ra_0 F9_ra_1 F9_ra_2 F9_ra_3 F9_ra_4 F9_ra_5 F9_ra_6 F9_ra_7 sz9 K9 N9 V9_n X10 e10 st10 X11 e11 W11 V11 st11 X12 e12 st12 st13
  have pre16 : ∀ t, Steps p.tables e below (T13.setTop (mkF m 75 #[rv ra, rv a2, iv (0 : Int32), iv (3 : Int32)] [(.long (if bs0 = (0 : Int32) then (0 : Int64) else (1 : Int64))), (.int (3 : Int32)), (.ref a2)])) t → Steps p.tables e below B0 t := by
    by_cases c14 : bs0 = (0 : Int32)
    · try simp only [if_pos c14]
      intro t k
      refine pre15 t ?_
      show Steps p.tables e below (T13.setTop (mkF m 67 #[rv ra, rv a2, iv (0 : Int32), iv (3 : Int32)] [(.int bs0), (.int (3 : Int32)), (.ref a2)])) _
      refine XS.ifYes X13.here hx rfl (pc0 := 67) (pc' := 74) rfl (D d6_67) rfl ((if0 _ _).trans (teq c14).1) (by decide) (by decide) ?_
      refine XS.lconst X13.here hx rfl (D d6_74) ?_
      exact k
    · try simp only [if_neg c14]
      intro t k
      refine pre15 t ?_
      show Steps p.tables e below (T13.setTop (mkF m 67 #[rv ra, rv a2, iv (0 : Int32), iv (3 : Int32)] [(.int bs0), (.int (3 : Int32)), (.ref a2)])) _
      refine XS.ifNo X13.here hx rfl (D d6_67) rfl ((if0 _ _).trans (feq c14).1) ?_
      refine XS.lconst X13.here hx rfl (D d6_70) ?_
      refine XS.goto X13.here hx rfl (pc0 := 71) (pc' := 75) rfl (D d6_71) (by decide) (by decide) ?_
      exact k
  obtain ⟨T17, X17, e17, st17⟩ := getF X13 hx hZ hown (host := "") (Or.inl (H 37 rfl)) Via.refl e13 F11_ra_3 (g := (mkF m 76 #[rv ra, rv a2, iv (0 : Int32), iv (3 : Int32)] [(.ref ra), (.long (if bs0 = (0 : Int32) then (0 : Int64) else (1 : Int64))), (.int (3 : Int32)), (.ref a2)])) rfl rfl (D d6_76)
  have pre19 : ∀ t, Steps p.tables e below (T17.setTop (mkF m 81 #[rv ra, rv a2, iv (0 : Int32), iv (3 : Int32)] [(.int bg0), (.long (if bs0 = (0 : Int32) then (0 : Int64) else (1 : Int64))), (.int (3 : Int32)), (.ref a2)])) t → Steps p.tables e below B0 t := by
    intro t k
    refine pre16 t ?_
    show Steps p.tables e below (T13.setTop (mkF m 75 #[rv ra, rv a2, iv (0 : Int32), iv (3 : Int32)] [(.long (if bs0 = (0 : Int32) then (0 : Int64) else (1 : Int64))), (.int (3 : Int32)), (.ref a2)])) _
    refine XS.aloadN X13.here hx rfl (D d6_75) rfl rfl ?_
    refine st17 _ ?_
    refine XS.iloadN X17.here hx rfl (D d6_79) rfl ?_
    refine own_baloadZ X17 hx hZ e17 V11_rg (show 0 ≤ Int32.toInt (0 : Int32) ∧ Int32.toInt (0 : Int32) < ((1 : Nat) : Int) by decide) (D d6_80) _ ?_
    exact k
  clear X13 e13 pre15 pre16 st17
  have pre20 : ∀ t, Steps p.tables e below (T17.setTop (mkF m 91 #[rv ra, rv a2, iv (0 : Int32), iv (3 : Int32)] [(.long (if bg0 = (0 : Int32) then (0 : Int64) else (2 : Int64))), (.long (if bs0 = (0 : Int32) then (0 : Int64) else (1 : Int64))), (.int (3 : Int32)), (.ref a2)])) t → Steps p.tables e below B0 t := by
    by_cases c18 : bg0 = (0 : Int32)
    · try simp only [if_pos c18]
      intro t k
      refine pre19 t ?_
      show Steps p.tables e below (T17.setTop (mkF m 81 #[rv ra, rv a2, iv (0 : Int32), iv (3 : Int32)] [(.int bg0), (.long (if bs0 = (0 : Int32) then (0 : Int64) else (1 : Int64))), (.int (3 : Int32)), (.ref a2)])) _
      refine XS.ifYes X17.here hx rfl (pc0 := 81) (pc' := 90) rfl (D d6_81) rfl ((if0 _ _).trans (teq c18).1) (by decide) (by decide) ?_
      refine XS.lconst X17.here hx rfl (D d6_90) ?_
      exact k
    · try simp only [if_neg c18]
      intro t k
      refine pre19 t ?_
      show Steps p.tables e below (T17.setTop (mkF m 81 #[rv ra, rv a2, iv (0 : Int32), iv (3 : Int32)] [(.int bg0), (.long (if bs0 = (0 : Int32) then (0 : Int64) else (1 : Int64))), (.int (3 : Int32)), (.ref a2)])) _
      refine XS.ifNo X17.here hx rfl (D d6_81) rfl ((if0 _ _).trans (feq c18).1) ?_
      refine X17.ldc2Long hx hown (mvT hZ (H 65 rfl)) (g := (mkF m 84 #[rv ra, rv a2, iv (0 : Int32), iv (3 : Int32)] [(.long (if bs0 = (0 : Int32) then (0 : Int64) else (1 : Int64))), (.int (3 : Int32)), (.ref a2)])) rfl (D d6_84) _ ?_
      refine XS.goto X17.here hx rfl (pc0 := 87) (pc' := 91) rfl (D d6_87) (by decide) (by decide) ?_
      exact k
  obtain ⟨T21, h21, X21, e21, W21, V21, st21⟩ := own_lastore X17 hx hZ e17 V11_n (j := (3 : Int32)) (show 0 ≤ Int32.toInt (3 : Int32) ∧ Int32.toInt (3 : Int32) < ((6 : Nat) : Int) by decide) (x := ((if bs0 = (0 : Int32) then (0 : Int64) else (1 : Int64)) ||| (if bg0 = (0 : Int32) then (0 : Int64) else (2 : Int64)))) (D d6_92)
  have V21_rl := V11_rl.other W21 ne_rl_a2
  have V21_rs := V11_rs.other W21 ne_rs_a2
  have V21_rr := V11_rr.other W21 ne_rr_a2
  have V21_rg := V11_rg.other W21 ne_rg_a2
  have V21_rt := V11_rt.other W21 ne_rt_a2
  have A21_ra := A11_ra.wr W21
  have F21_ra_0 := F11_ra_0.other W21 (Or.inl ne_ra_a2)
  have F21_ra_1 := F11_ra_1.other W21 (Or.inl ne_ra_a2)
  have F21_ra_2 := F11_ra_2.other W21 (Or.inl ne_ra_a2)
  have F21_ra_3 := F11_ra_3.other W21 (Or.inl ne_ra_a2)
  have F21_ra_4 := F11_ra_4.other W21 (Or.inl ne_ra_a2)
  have F21_ra_5 := F11_ra_5.other W21 (Or.inl ne_ra_a2)
  have F21_ra_6 := F11_ra_6.other W21 (Or.inl ne_ra_a2)
  have F21_ra_7 := F11_ra_7.other W21 (Or.inl ne_ra_a2)
  have sz21 := Nat.le_trans sz11 (Keep.of_wr W21).1
  have K21 := K11.wr W21 (Or.inr go_a2)
  have N21 := Fr.snoc X21 N11 ge_a2
  have V21_n : own_AJ Z h21 a2 [(if sd = (0 : Int32) then (0 : Int64) else (1 : Int64)), lt, (ll).toInt64, ((if bs0 = (0 : Int32) then (0 : Int64) else (1 : Int64)) ||| (if bg0 = (0 : Int32) then (0 : Int64) else (2 : Int64))), (0 : Int64), (0 : Int64)] := V21
  obtain ⟨T22, X22, e22, st22⟩ := getF X21 hx hZ hown (host := "") (Or.inl (H 39 rfl)) Via.refl e21 F21_ra_4 (g := (mkF m 98 #[rv ra, rv a2, iv (0 : Int32), iv (3 : Int32)] [(.ref ra), (.long ((if bs0 = (0 : Int32) then (0 : Int64) else (1 : Int64)) ||| (if bg0 = (0 : Int32) then (0 : Int64) else (2 : Int64)))), (.int (3 : Int32)), (.ref a2)])) rfl rfl (D d6_98)
  have pre24 : ∀ t, Steps p.tables e below (T22.setTop (mkF m 103 #[rv ra, rv a2, iv (0 : Int32), iv (3 : Int32)] [(.int bt0), (.long ((if bs0 = (0 : Int32) then (0 : Int64) else (1 : Int64)) ||| (if bg0 = (0 : Int32) then (0 : Int64) else (2 : Int64)))), (.int (3 : Int32)), (.ref a2)])) t → Steps p.tables e below B0 t := by
    intro t k
    refine pre20 t ?_
    show Steps p.tables e below (T17.setTop (mkF m 91 #[rv ra, rv a2, iv (0 : Int32), iv (3 : Int32)] [(.long (if bg0 = (0 : Int32) then (0 : Int64) else (2 : Int64))), (.long (if bs0 = (0 : Int32) then (0 : Int64) else (1 : Int64))), (.int (3 : Int32)), (.ref a2)])) _
    refine XS.lor X17.here hx rfl (D d6_91) rfl ?_
    refine st21 _ ?_
    refine XS.aloadN X21.here hx rfl (D d6_93) rfl rfl ?_
    refine XS.iloadN X21.here hx rfl (D d6_94) rfl ?_
    refine Jvm.Free.XT.dup2 X21.here hx rfl (D d6_95) rfl rfl rfl ?_
    refine own_laload X21 hx hZ e21 V21_n (show 0 ≤ Int32.toInt (3 : Int32) ∧ Int32.toInt (3 : Int32) < ((6 : Nat) : Int) by decide) (D d6_96) _ ?_
    refine XS.aloadN X21.here hx rfl (D d6_97) rfl rfl ?_
    refine st22 _ ?_
    refine XS.iloadN X22.here hx rfl (D d6_101) rfl ?_
    refine own_baloadZ X22 hx hZ e22 V21_rt (show 0 ≤ Int32.toInt (0 : Int32) ∧ Int32.toInt (0 : Int32) < ((1 : Nat) : Int) by decide) (D d6_102) _ ?_
    exact k
  clear V11_rl V11_rs V11_rr V11_rg V11_rt A11_ra F11_ra_0 F11_ra_1 F11_ra_2 F11_ra_3 F11_ra_4 F11_ra_5 F11_ra_6 F11_ra_7 sz11 K11 N11 V11_n X17 e17 pre19 pre20 X21 e21 W21 V21 st21 st22
  have pre25 : ∀ t, Steps p.tables e below (T22.setTop (mkF m 113 #[rv ra, rv a2, iv (0 : Int32), iv (3 : Int32)] [(.long (if bt0 = (0 : Int32) then (0 : Int64) else (4 : Int64))), (.long ((if bs0 = (0 : Int32) then (0 : Int64) else (1 : Int64)) ||| (if bg0 = (0 : Int32) then (0 : Int64) else (2 : Int64)))), (.int (3 : Int32)), (.ref a2)])) t → Steps p.tables e below B0 t := by
    by_cases c23 : bt0 = (0 : Int32)
    · try simp only [if_pos c23]
      intro t k
      refine pre24 t ?_
      show Steps p.tables e below (T22.setTop (mkF m 103 #[rv ra, rv a2, iv (0 : Int32), iv (3 : Int32)] [(.int bt0), (.long ((if bs0 = (0 : Int32) then (0 : Int64) else (1 : Int64)) ||| (if bg0 = (0 : Int32) then (0 : Int64) else (2 : Int64)))), (.int (3 : Int32)), (.ref a2)])) _
      refine XS.ifYes X22.here hx rfl (pc0 := 103) (pc' := 112) rfl (D d6_103) rfl ((if0 _ _).trans (teq c23).1) (by decide) (by decide) ?_
      refine XS.lconst X22.here hx rfl (D d6_112) ?_
      exact k
    · try simp only [if_neg c23]
      intro t k
      refine pre24 t ?_
      show Steps p.tables e below (T22.setTop (mkF m 103 #[rv ra, rv a2, iv (0 : Int32), iv (3 : Int32)] [(.int bt0), (.long ((if bs0 = (0 : Int32) then (0 : Int64) else (1 : Int64)) ||| (if bg0 = (0 : Int32) then (0 : Int64) else (2 : Int64)))), (.int (3 : Int32)), (.ref a2)])) _
      refine XS.ifNo X22.here hx rfl (D d6_103) rfl ((if0 _ _).trans (feq c23).1) ?_
      refine X22.ldc2Long hx hown (mvT hZ (H 63 rfl)) (g := (mkF m 106 #[rv ra, rv a2, iv (0 : Int32), iv (3 : Int32)] [(.long ((if bs0 = (0 : Int32) then (0 : Int64) else (1 : Int64)) ||| (if bg0 = (0 : Int32) then (0 : Int64) else (2 : Int64)))), (.int (3 : Int32)), (.ref a2)])) rfl (D d6_106) _ ?_
      refine XS.goto X22.here hx rfl (pc0 := 109) (pc' := 113) rfl (D d6_109) (by decide) (by decide) ?_
      exact k
  obtain ⟨T26, h26, X26, e26, W26, V26, st26⟩ := own_lastore X22 hx hZ e22 V21_n (j := (3 : Int32)) (show 0 ≤ Int32.toInt (3 : Int32) ∧ Int32.toInt (3 : Int32) < ((6 : Nat) : Int) by decide) (x := (((if bs0 = (0 : Int32) then (0 : Int64) else (1 : Int64)) ||| (if bg0 = (0 : Int32) then (0 : Int64) else (2 : Int64))) ||| (if bt0 = (0 : Int32) then (0 : Int64) else (4 : Int64)))) (D d6_114)
  have V26_rl := V21_rl.other W26 ne_rl_a2
  have V26_rs := V21_rs.other W26 ne_rs_a2
  have V26_rr := V21_rr.other W26 ne_rr_a2
  have V26_rg := V21_rg.other W26 ne_rg_a2
  have V26_rt := V21_rt.other W26 ne_rt_a2
  have A26_ra := A21_ra.wr W26
  have F26_ra_0 := F21_ra_0.other W26 (Or.inl ne_ra_a2)
  have F26_ra_1 := F21_ra_1.other W26 (Or.inl ne_ra_a2)
  have F26_ra_2 := F21_ra_2.other W26 (Or.inl ne_ra_a2)
  have F26_ra_3 := F21_ra_3.other W26 (Or.inl ne_ra_a2)
  have F26_ra_4 := F21_ra_4.other W26 (Or.inl ne_ra_a2)
  have F26_ra_5 := F21_ra_5.other W26 (Or.inl ne_ra_a2)
  have F26_ra_6 := F21_ra_6.other W26 (Or.inl ne_ra_a2)
  have F26_ra_7 := F21_ra_7.other W26 (Or.inl ne_ra_a2)
  have sz26 := Nat.le_trans sz21 (Keep.of_wr W26).1
  have K26 := K21.wr W26 (Or.inr go_a2)
  have N26 := Fr.snoc X26 N21 ge_a2
  have V26_n : own_AJ Z h26 a2 [(if sd = (0 : Int32) then (0 : Int64) else (1 : Int64)), lt, (ll).toInt64, (((if bs0 = (0 : Int32) then (0 : Int64) else (1 : Int64)) ||| (if bg0 = (0 : Int32) then (0 : Int64) else (2 : Int64))) ||| (if bt0 = (0 : Int32) then (0 : Int64) else (4 : Int64))), (0 : Int64), (0 : Int64)] := V26
  obtain ⟨T27, X27, e27, st27⟩ := getF X26 hx hZ hown (host := "") (Or.inl (H 30 rfl)) Via.refl e26 F26_ra_0 (g := (mkF m 120 #[rv ra, rv a2, iv (0 : Int32), iv (3 : Int32)] [(.ref ra), (.int (4 : Int32)), (.ref a2)])) rfl rfl (D d6_120)
  obtain ⟨T28, h28, X28, e28, W28, V28, st28⟩ := own_lastore X27 hx hZ e27 V26_n (j := (4 : Int32)) (show 0 ≤ Int32.toInt (4 : Int32) ∧ Int32.toInt (4 : Int32) < ((6 : Nat) : Int) by decide) (x := jl0) (D d6_125)
  have V28_rl := V26_rl.other W28 ne_rl_a2
  have V28_rs := V26_rs.other W28 ne_rs_a2
  have V28_rr := V26_rr.other W28 ne_rr_a2
  have V28_rg := V26_rg.other W28 ne_rg_a2
  have V28_rt := V26_rt.other W28 ne_rt_a2
  have A28_ra := A26_ra.wr W28
  have F28_ra_0 := F26_ra_0.other W28 (Or.inl ne_ra_a2)
  have F28_ra_1 := F26_ra_1.other W28 (Or.inl ne_ra_a2)
  have F28_ra_2 := F26_ra_2.other W28 (Or.inl ne_ra_a2)
  have F28_ra_3 := F26_ra_3.other W28 (Or.inl ne_ra_a2)
  have F28_ra_4 := F26_ra_4.other W28 (Or.inl ne_ra_a2)
  have F28_ra_5 := F26_ra_5.other W28 (Or.inl ne_ra_a2)
  have F28_ra_6 := F26_ra_6.other W28 (Or.inl ne_ra_a2)
  have F28_ra_7 := F26_ra_7.other W28 (Or.inl ne_ra_a2)
  have sz28 := Nat.le_trans sz26 (Keep.of_wr W28).1
  have K28 := K26.wr W28 (Or.inr go_a2)
  have N28 := Fr.snoc X28 N26 ge_a2
  have V28_n : own_AJ Z h28 a2 [(if sd = (0 : Int32) then (0 : Int64) else (1 : Int64)), lt, (ll).toInt64, (((if bs0 = (0 : Int32) then (0 : Int64) else (1 : Int64)) ||| (if bg0 = (0 : Int32) then (0 : Int64) else (2 : Int64))) ||| (if bt0 = (0 : Int32) then (0 : Int64) else (4 : Int64))), jl0, (0 : Int64)] := V28
  obtain ⟨T29, X29, e29, st29⟩ := getF X28 hx hZ hown (host := "") (Or.inl (H 35 rfl)) Via.refl e28 F28_ra_2 (g := (mkF m 131 #[rv ra, rv a2, iv (0 : Int32), iv (3 : Int32)] [(.ref ra), (.int (5 : Int32)), (.ref a2)])) rfl rfl (D d6_131)
  obtain ⟨T30, h30, X30, e30, W30, V30, st30⟩ := own_lastore X29 hx hZ e29 V28_n (j := (5 : Int32)) (show 0 ≤ Int32.toInt (5 : Int32) ∧ Int32.toInt (5 : Int32) < ((6 : Nat) : Int) by decide) (x := jr0) (D d6_136)
  have V30_rl := V28_rl.other W30 ne_rl_a2
  have V30_rs := V28_rs.other W30 ne_rs_a2
  have V30_rr := V28_rr.other W30 ne_rr_a2
  have V30_rg := V28_rg.other W30 ne_rg_a2
  have V30_rt := V28_rt.other W30 ne_rt_a2
  have A30_ra := A28_ra.wr W30
  have F30_ra_0 := F28_ra_0.other W30 (Or.inl ne_ra_a2)
  have F30_ra_1 := F28_ra_1.other W30 (Or.inl ne_ra_a2)
  have F30_ra_2 := F28_ra_2.other W30 (Or.inl ne_ra_a2)
  have F30_ra_3 := F28_ra_3.other W30 (Or.inl ne_ra_a2)
  have F30_ra_4 := F28_ra_4.other W30 (Or.inl ne_ra_a2)
  have F30_ra_5 := F28_ra_5.other W30 (Or.inl ne_ra_a2)
  have F30_ra_6 := F28_ra_6.other W30 (Or.inl ne_ra_a2)
  have F30_ra_7 := F28_ra_7.other W30 (Or.inl ne_ra_a2)
  have sz30 := Nat.le_trans sz28 (Keep.of_wr W30).1
  have K30 := K28.wr W30 (Or.inr go_a2)
  have N30 := Fr.snoc X30 N28 ge_a2
  have V30_n : own_AJ Z h30 a2 [(if sd = (0 : Int32) then (0 : Int64) else (1 : Int64)), lt, (ll).toInt64, (((if bs0 = (0 : Int32) then (0 : Int64) else (1 : Int64)) ||| (if bg0 = (0 : Int32) then (0 : Int64) else (2 : Int64))) ||| (if bt0 = (0 : Int32) then (0 : Int64) else (4 : Int64))), jl0, jr0] := V30
  obtain ⟨T31, X31, e31, st31⟩ := getF X30 hx hZ hown (host := "") (Or.inl (H 37 rfl)) Via.refl e30 F30_ra_3 (g := (mkF m 46 #[rv ra, rv a2, iv (1 : Int32), iv (3 : Int32)] [(.ref ra), (.int (1 : Int32))])) rfl rfl (D d6_46)
  obtain ⟨fs, hr, hrun, hended, hW, hsame⟩ := X31.leave (v := some (.ref a2)) (fun h => by rw [Bd.returns] at h; cases h) hlk
  refine ⟨_, _, pre25 _ ?_, hrun, hended, _, _, rfl, ?_, ⟨_, rfl⟩, hW, hsame.mono (by decide) (by decide)⟩
  · show Steps p.tables e below (T22.setTop (mkF m 113 #[rv ra, rv a2, iv (0 : Int32), iv (3 : Int32)] [(.long (if bt0 = (0 : Int32) then (0 : Int64) else (4 : Int64))), (.long ((if bs0 = (0 : Int32) then (0 : Int64) else (1 : Int64)) ||| (if bg0 = (0 : Int32) then (0 : Int64) else (2 : Int64)))), (.int (3 : Int32)), (.ref a2)])) _
    refine XS.lor X22.here hx rfl (D d6_113) rfl ?_
    refine st26 _ ?_
    refine XS.aloadN X26.here hx rfl (D d6_115) rfl rfl ?_
    refine XS.iloadN X26.here hx rfl (D d6_116) rfl ?_
    refine XS.iconst X26.here hx rfl (D d6_117) ?_
    refine XS.iadd X26.here hx rfl (D d6_118) rfl ?_
    refine XS.aloadN X26.here hx rfl (D d6_119) rfl rfl ?_
    refine st27 _ ?_
    refine XS.iloadN X27.here hx rfl (D d6_123) rfl ?_
    refine own_laload X27 hx hZ e27 V26_rl (show 0 ≤ Int32.toInt (0 : Int32) ∧ Int32.toInt (0 : Int32) < ((1 : Nat) : Int) by decide) (D d6_124) _ ?_
    refine st28 _ ?_
    refine XS.aloadN X28.here hx rfl (D d6_126) rfl rfl ?_
    refine XS.iloadN X28.here hx rfl (D d6_127) rfl ?_
    refine XS.iconst X28.here hx rfl (D d6_128) ?_
    refine XS.iadd X28.here hx rfl (D d6_129) rfl ?_
    refine XS.aloadN X28.here hx rfl (D d6_130) rfl rfl ?_
    refine st29 _ ?_
    refine XS.iloadN X29.here hx rfl (D d6_134) rfl ?_
    refine own_laload X29 hx hZ e29 V28_rr (show 0 ≤ Int32.toInt (0 : Int32) ∧ Int32.toInt (0 : Int32) < ((1 : Nat) : Int) by decide) (D d6_135) _ ?_
    refine st30 _ ?_
    refine XS.iinc X30.here hx rfl (D d6_137) rfl (l' := #[rv ra, rv a2, iv (1 : Int32), iv (3 : Int32)]) rfl ?_
    refine XS.goto X30.here hx rfl (pc0 := 140) (pc' := 44) rfl (D d6_140) (by decide) (by decide) ?_
    show Steps p.tables e below (T30.setTop (mkF m 44 #[rv ra, rv a2, iv (1 : Int32), iv (3 : Int32)] [])) _
    refine XS.iloadN X30.here hx rfl (D d6_44) rfl ?_
    refine XS.aloadN X30.here hx rfl (D d6_45) rfl rfl ?_
    refine st31 _ ?_
    refine own_alenI X31 hx hZ e31 V30_rg (D d6_49) _ ?_
    show Steps p.tables e below (T31.setTop (mkF m 50 #[rv ra, rv a2, iv (1 : Int32), iv (3 : Int32)] [(.int (1 : Int32)), (.int (1 : Int32))])) _
    refine XS.icmpYes X31.here hx rfl (pc0 := 50) (pc' := 143) rfl (D d6_50) rfl (by decide) (by decide) (by decide) ?_
    refine XS.aloadN X31.here hx rfl (D d6_143) rfl rfl ?_
    show Steps p.tables e below (T31.setTop (mkF m 144 #[rv ra, rv a2, iv (1 : Int32), iv (3 : Int32)] [(.ref a2)])) _
    exact retOut X31 hx Bd.returns rfl (Or.inr (Or.inr (Or.inr (Or.inr ⟨rfl, rfl, rfl⟩)))) (D d6_144) hr
  · show Q6_1 Z ra rl rs rr rg rt sd lt ll jl0 jr0 bs0 bg0 bt0 h0 n0 _ T31.heap _
    rw [e31]
    exact ⟨by rw [g2], N30, K30, (by rw [← g2]; exact V30_n)⟩
theorem own_ix1 {x : Int64} (h1 : ¬ x < (0 : Int64)) (h2 : x < (1 : Int64)) : 0 ≤ (((3 : Int32) + ((3 : Int32) * (x).toInt32))).toInt ∧ (((3 : Int32) + ((3 : Int32) * (x).toInt32))).toInt < (6 : Nat) := by
  rw [Int64.lt_iff_toInt_lt] at h1 h2
  have e0 : (0 : Int64).toInt = 0 := by decide
  have en : (1 : Int64).toInt = 1 := by decide
  have e3 : (3 : Int32).toInt = 3 := by decide
  have a := own_l2i (x := x) (by omega)
  have b := own_imul (x := 3) (y := x.toInt32) (by rw [e3]; omega)
  rw [e3] at b
  have c := own_iadd (x := 3) (y := 3 * x.toInt32) (by omega)
  omega
theorem d8_0 : decode prog_43_method_18_code 0 = .ok (.aconst_null, 1) := by decide +kernel
theorem d8_1 : decode prog_43_method_18_code 1 = .ok (.astore_n 2, 1) := by decide +kernel
theorem d8_2 : decode prog_43_method_18_code 2 = .ok (.aload_n 1, 1) := by decide +kernel
theorem d8_3 : decode prog_43_method_18_code 3 = .ok (.arraylength, 1) := by decide +kernel
theorem d8_4 : decode prog_43_method_18_code 4 = .ok (.iconst 3, 1) := by decide +kernel
theorem d8_5 : decode prog_43_method_18_code 5 = .ok (.iconst 3, 1) := by decide +kernel
theorem d8_6 : decode prog_43_method_18_code 6 = .ok (.aload_n 0, 1) := by decide +kernel
theorem d8_7 : decode prog_43_method_18_code 7 = .ok (.getfield 46, 3) := by decide +kernel
theorem d8_10 : decode prog_43_method_18_code 10 = .ok (.arraylength, 1) := by decide +kernel
theorem d8_11 : decode prog_43_method_18_code 11 = .ok (.imul, 1) := by decide +kernel
theorem d8_12 : decode prog_43_method_18_code 12 = .ok (.iadd, 1) := by decide +kernel
theorem d8_13 : decode prog_43_method_18_code 13 = .ok (.if_icmp .eq 23, 3) := by decide +kernel
theorem d8_16 : decode prog_43_method_18_code 16 = .ok (.aload_n 1, 1) := by decide +kernel
theorem d8_17 : decode prog_43_method_18_code 17 = .ok (.arraylength, 1) := by decide +kernel
theorem d8_18 : decode prog_43_method_18_code 18 = .ok (.iconst 3, 1) := by decide +kernel
theorem d8_19 : decode prog_43_method_18_code 19 = .ok (.iconst 3, 1) := by decide +kernel
theorem d8_20 : decode prog_43_method_18_code 20 = .ok (.aload_n 0, 1) := by decide +kernel
theorem d8_21 : decode prog_43_method_18_code 21 = .ok (.getfield 46, 3) := by decide +kernel
theorem d8_24 : decode prog_43_method_18_code 24 = .ok (.arraylength, 1) := by decide +kernel
theorem d8_25 : decode prog_43_method_18_code 25 = .ok (.imul, 1) := by decide +kernel
theorem d8_26 : decode prog_43_method_18_code 26 = .ok (.iadd, 1) := by decide +kernel
theorem d8_27 : decode prog_43_method_18_code 27 = .ok (.invokedynamic 153, 5) := by decide +kernel
theorem d8_32 : decode prog_43_method_18_code 32 = .ok (.astore_n 2, 1) := by decide +kernel
theorem d8_33 : decode prog_43_method_18_code 33 = .ok (.goto 63, 3) := by decide +kernel
theorem d8_36 : decode prog_43_method_18_code 36 = .ok (.aload_n 1, 1) := by decide +kernel
theorem d8_37 : decode prog_43_method_18_code 37 = .ok (.iconst 0, 1) := by decide +kernel
theorem d8_38 : decode prog_43_method_18_code 38 = .ok (.laload, 1) := by decide +kernel
theorem d8_39 : decode prog_43_method_18_code 39 = .ok (.lconst 0, 1) := by decide +kernel
theorem d8_40 : decode prog_43_method_18_code 40 = .ok (.lcmp, 1) := by decide +kernel
theorem d8_41 : decode prog_43_method_18_code 41 = .ok (.ifCond .eq 23, 3) := by decide +kernel
theorem d8_44 : decode prog_43_method_18_code 44 = .ok (.aload_n 1, 1) := by decide +kernel
theorem d8_45 : decode prog_43_method_18_code 45 = .ok (.iconst 0, 1) := by decide +kernel
theorem d8_46 : decode prog_43_method_18_code 46 = .ok (.laload, 1) := by decide +kernel
theorem d8_47 : decode prog_43_method_18_code 47 = .ok (.lconst 1, 1) := by decide +kernel
theorem d8_48 : decode prog_43_method_18_code 48 = .ok (.lcmp, 1) := by decide +kernel
theorem d8_49 : decode prog_43_method_18_code 49 = .ok (.ifCond .eq 15, 3) := by decide +kernel
theorem d8_52 : decode prog_43_method_18_code 52 = .ok (.aload_n 1, 1) := by decide +kernel
theorem d8_53 : decode prog_43_method_18_code 53 = .ok (.iconst 0, 1) := by decide +kernel
theorem d8_54 : decode prog_43_method_18_code 54 = .ok (.laload, 1) := by decide +kernel
theorem d8_55 : decode prog_43_method_18_code 55 = .ok (.invokedynamic 154, 5) := by decide +kernel
theorem d8_60 : decode prog_43_method_18_code 60 = .ok (.astore_n 2, 1) := by decide +kernel
theorem d8_61 : decode prog_43_method_18_code 61 = .ok (.goto 35, 3) := by decide +kernel
theorem d8_64 : decode prog_43_method_18_code 64 = .ok (.aload_n 1, 1) := by decide +kernel
theorem d8_65 : decode prog_43_method_18_code 65 = .ok (.iconst 2, 1) := by decide +kernel
theorem d8_66 : decode prog_43_method_18_code 66 = .ok (.laload, 1) := by decide +kernel
theorem d8_67 : decode prog_43_method_18_code 67 = .ok (.ldc2_w 155, 3) := by decide +kernel
theorem d8_70 : decode prog_43_method_18_code 70 = .ok (.lcmp, 1) := by decide +kernel
theorem d8_71 : decode prog_43_method_18_code 71 = .ok (.ifCond .lt 16, 3) := by decide +kernel
theorem d8_74 : decode prog_43_method_18_code 74 = .ok (.aload_n 1, 1) := by decide +kernel
theorem d8_75 : decode prog_43_method_18_code 75 = .ok (.iconst 2, 1) := by decide +kernel
theorem d8_76 : decode prog_43_method_18_code 76 = .ok (.laload, 1) := by decide +kernel
theorem d8_77 : decode prog_43_method_18_code 77 = .ok (.aload_n 0, 1) := by decide +kernel
theorem d8_78 : decode prog_43_method_18_code 78 = .ok (.getfield 46, 3) := by decide +kernel
theorem d8_81 : decode prog_43_method_18_code 81 = .ok (.arraylength, 1) := by decide +kernel
theorem d8_82 : decode prog_43_method_18_code 82 = .ok (.i2l, 1) := by decide +kernel
theorem d8_83 : decode prog_43_method_18_code 83 = .ok (.lcmp, 1) := by decide +kernel
theorem d8_84 : decode prog_43_method_18_code 84 = .ok (.ifCond .lt 12, 3) := by decide +kernel
theorem d8_87 : decode prog_43_method_18_code 87 = .ok (.aload_n 1, 1) := by decide +kernel
theorem d8_88 : decode prog_43_method_18_code 88 = .ok (.iconst 2, 1) := by decide +kernel
theorem d8_89 : decode prog_43_method_18_code 89 = .ok (.laload, 1) := by decide +kernel
theorem d8_90 : decode prog_43_method_18_code 90 = .ok (.invokedynamic 157, 5) := by decide +kernel
theorem d8_95 : decode prog_43_method_18_code 95 = .ok (.astore_n 2, 1) := by decide +kernel
theorem d8_96 : decode prog_43_method_18_code 96 = .ok (.iconst 0, 1) := by decide +kernel
theorem d8_97 : decode prog_43_method_18_code 97 = .ok (.istore_n 3, 1) := by decide +kernel
theorem d8_98 : decode prog_43_method_18_code 98 = .ok (.aload_n 2, 1) := by decide +kernel
theorem d8_99 : decode prog_43_method_18_code 99 = .ok (.ifnonnull 115, 3) := by decide +kernel
theorem d8_102 : decode prog_43_method_18_code 102 = .ok (.iload_n 3, 1) := by decide +kernel
theorem d8_103 : decode prog_43_method_18_code 103 = .ok (.aload_n 0, 1) := by decide +kernel
theorem d8_104 : decode prog_43_method_18_code 104 = .ok (.getfield 46, 3) := by decide +kernel
theorem d8_107 : decode prog_43_method_18_code 107 = .ok (.arraylength, 1) := by decide +kernel
theorem d8_108 : decode prog_43_method_18_code 108 = .ok (.if_icmp .ge 106, 3) := by decide +kernel
theorem d8_111 : decode prog_43_method_18_code 111 = .ok (.aload_n 1, 1) := by decide +kernel
theorem d8_112 : decode prog_43_method_18_code 112 = .ok (.iconst 3, 1) := by decide +kernel
theorem d8_113 : decode prog_43_method_18_code 113 = .ok (.iconst 3, 1) := by decide +kernel
theorem d8_114 : decode prog_43_method_18_code 114 = .ok (.iload_n 3, 1) := by decide +kernel
theorem d8_115 : decode prog_43_method_18_code 115 = .ok (.imul, 1) := by decide +kernel
theorem d8_116 : decode prog_43_method_18_code 116 = .ok (.iadd, 1) := by decide +kernel
theorem d8_117 : decode prog_43_method_18_code 117 = .ok (.laload, 1) := by decide +kernel
theorem d8_118 : decode prog_43_method_18_code 118 = .ok (.lstore 4, 2) := by decide +kernel
theorem d8_120 : decode prog_43_method_18_code 120 = .ok (.lload 4, 2) := by decide +kernel
theorem d8_122 : decode prog_43_method_18_code 122 = .ok (.ldc2_w 84, 3) := by decide +kernel
theorem d8_125 : decode prog_43_method_18_code 125 = .ok (.land, 1) := by decide +kernel
theorem d8_126 : decode prog_43_method_18_code 126 = .ok (.lconst 0, 1) := by decide +kernel
theorem d8_127 : decode prog_43_method_18_code 127 = .ok (.lcmp, 1) := by decide +kernel
theorem d8_128 : decode prog_43_method_18_code 128 = .ok (.ifCond .eq 18, 3) := by decide +kernel
theorem d8_131 : decode prog_43_method_18_code 131 = .ok (.lload 4, 2) := by decide +kernel
theorem d8_133 : decode prog_43_method_18_code 133 = .ok (.ldc2_w 82, 3) := by decide +kernel
theorem d8_136 : decode prog_43_method_18_code 136 = .ok (.land, 1) := by decide +kernel
theorem d8_137 : decode prog_43_method_18_code 137 = .ok (.lconst 0, 1) := by decide +kernel
theorem d8_138 : decode prog_43_method_18_code 138 = .ok (.lcmp, 1) := by decide +kernel
theorem d8_139 : decode prog_43_method_18_code 139 = .ok (.ifCond .ne 7, 3) := by decide +kernel
theorem d8_142 : decode prog_43_method_18_code 142 = .ok (.iconst 1, 1) := by decide +kernel
theorem d8_143 : decode prog_43_method_18_code 143 = .ok (.goto 4, 3) := by decide +kernel
theorem d8_146 : decode prog_43_method_18_code 146 = .ok (.iconst 0, 1) := by decide +kernel
theorem d8_147 : decode prog_43_method_18_code 147 = .ok (.istore 6, 2) := by decide +kernel
theorem d8_149 : decode prog_43_method_18_code 149 = .ok (.lload 4, 2) := by decide +kernel
theorem d8_151 : decode prog_43_method_18_code 151 = .ok (.lconst 1, 1) := by decide +kernel
theorem d8_152 : decode prog_43_method_18_code 152 = .ok (.land, 1) := by decide +kernel
theorem d8_153 : decode prog_43_method_18_code 153 = .ok (.lconst 0, 1) := by decide +kernel
theorem d8_154 : decode prog_43_method_18_code 154 = .ok (.lcmp, 1) := by decide +kernel
theorem d8_155 : decode prog_43_method_18_code 155 = .ok (.ifCond .eq 15, 3) := by decide +kernel
theorem d8_158 : decode prog_43_method_18_code 158 = .ok (.aload_n 1, 1) := by decide +kernel
theorem d8_159 : decode prog_43_method_18_code 159 = .ok (.iconst 0, 1) := by decide +kernel
theorem d8_160 : decode prog_43_method_18_code 160 = .ok (.laload, 1) := by decide +kernel
theorem d8_161 : decode prog_43_method_18_code 161 = .ok (.lconst 0, 1) := by decide +kernel
theorem d8_162 : decode prog_43_method_18_code 162 = .ok (.lcmp, 1) := by decide +kernel
theorem d8_163 : decode prog_43_method_18_code 163 = .ok (.ifCond .ne 7, 3) := by decide +kernel
theorem d8_166 : decode prog_43_method_18_code 166 = .ok (.iconst 1, 1) := by decide +kernel
theorem d8_167 : decode prog_43_method_18_code 167 = .ok (.goto 4, 3) := by decide +kernel
theorem d8_170 : decode prog_43_method_18_code 170 = .ok (.iconst 0, 1) := by decide +kernel
theorem d8_171 : decode prog_43_method_18_code 171 = .ok (.istore 7, 2) := by decide +kernel
theorem d8_173 : decode prog_43_method_18_code 173 = .ok (.lload 4, 2) := by decide +kernel
theorem d8_175 : decode prog_43_method_18_code 175 = .ok (.lconst 0, 1) := by decide +kernel
theorem d8_176 : decode prog_43_method_18_code 176 = .ok (.lcmp, 1) := by decide +kernel
theorem d8_177 : decode prog_43_method_18_code 177 = .ok (.ifCond .lt 22, 3) := by decide +kernel
theorem d8_180 : decode prog_43_method_18_code 180 = .ok (.lload 4, 2) := by decide +kernel
theorem d8_182 : decode prog_43_method_18_code 182 = .ok (.ldc2_w 158, 3) := by decide +kernel
theorem d8_185 : decode prog_43_method_18_code 185 = .ok (.lcmp, 1) := by decide +kernel
theorem d8_186 : decode prog_43_method_18_code 186 = .ok (.ifCond .gt 13, 3) := by decide +kernel
theorem d8_189 : decode prog_43_method_18_code 189 = .ok (.iload 6, 2) := by decide +kernel
theorem d8_191 : decode prog_43_method_18_code 191 = .ok (.ifCond .ne 8, 3) := by decide +kernel
theorem d8_194 : decode prog_43_method_18_code 194 = .ok (.iload 7, 2) := by decide +kernel
theorem d8_196 : decode prog_43_method_18_code 196 = .ok (.ifCond .eq 12, 3) := by decide +kernel
theorem d8_199 : decode prog_43_method_18_code 199 = .ok (.iload_n 3, 1) := by decide +kernel
theorem d8_200 : decode prog_43_method_18_code 200 = .ok (.lload 4, 2) := by decide +kernel
theorem d8_202 : decode prog_43_method_18_code 202 = .ok (.invokedynamic 160, 5) := by decide +kernel
theorem d8_207 : decode prog_43_method_18_code 207 = .ok (.astore_n 2, 1) := by decide +kernel
theorem d8_208 : decode prog_43_method_18_code 208 = .ok (.iinc 3 1, 3) := by decide +kernel
theorem d8_211 : decode prog_43_method_18_code 211 = .ok (.goto (-113), 3) := by decide +kernel
theorem d8_214 : decode prog_43_method_18_code 214 = .ok (.aload_n 2, 1) := by decide +kernel
theorem d8_215 : decode prog_43_method_18_code 215 = .ok (.ifnonnull 39, 3) := by decide +kernel
theorem d8_218 : decode prog_43_method_18_code 218 = .ok (.aload_n 1, 1) := by decide +kernel
theorem d8_219 : decode prog_43_method_18_code 219 = .ok (.iconst 2, 1) := by decide +kernel
theorem d8_220 : decode prog_43_method_18_code 220 = .ok (.laload, 1) := by decide +kernel
theorem d8_221 : decode prog_43_method_18_code 221 = .ok (.lconst 0, 1) := by decide +kernel
theorem d8_222 : decode prog_43_method_18_code 222 = .ok (.lcmp, 1) := by decide +kernel
theorem d8_223 : decode prog_43_method_18_code 223 = .ok (.ifCond .lt 31, 3) := by decide +kernel
theorem d8_226 : decode prog_43_method_18_code 226 = .ok (.aload_n 1, 1) := by decide +kernel
theorem d8_227 : decode prog_43_method_18_code 227 = .ok (.iconst 3, 1) := by decide +kernel
theorem d8_228 : decode prog_43_method_18_code 228 = .ok (.iconst 3, 1) := by decide +kernel
theorem d8_229 : decode prog_43_method_18_code 229 = .ok (.aload_n 1, 1) := by decide +kernel
theorem d8_230 : decode prog_43_method_18_code 230 = .ok (.iconst 2, 1) := by decide +kernel
theorem d8_231 : decode prog_43_method_18_code 231 = .ok (.laload, 1) := by decide +kernel
theorem d8_232 : decode prog_43_method_18_code 232 = .ok (.l2i, 1) := by decide +kernel
theorem d8_233 : decode prog_43_method_18_code 233 = .ok (.imul, 1) := by decide +kernel
theorem d8_234 : decode prog_43_method_18_code 234 = .ok (.iadd, 1) := by decide +kernel
theorem d8_235 : decode prog_43_method_18_code 235 = .ok (.laload, 1) := by decide +kernel
theorem d8_236 : decode prog_43_method_18_code 236 = .ok (.lstore_n 3, 1) := by decide +kernel
theorem d8_237 : decode prog_43_method_18_code 237 = .ok (.lload_n 3, 1) := by decide +kernel
theorem d8_238 : decode prog_43_method_18_code 238 = .ok (.ldc2_w 84, 3) := by decide +kernel
theorem d8_241 : decode prog_43_method_18_code 241 = .ok (.land, 1) := by decide +kernel
theorem d8_242 : decode prog_43_method_18_code 242 = .ok (.lconst 0, 1) := by decide +kernel
theorem d8_243 : decode prog_43_method_18_code 243 = .ok (.lcmp, 1) := by decide +kernel
theorem d8_244 : decode prog_43_method_18_code 244 = .ok (.ifCond .ne 8, 3) := by decide +kernel
theorem d8_247 : decode prog_43_method_18_code 247 = .ok (.ldc 163, 2) := by decide +kernel
theorem d8_249 : decode prog_43_method_18_code 249 = .ok (.goto 4, 3) := by decide +kernel
theorem d8_252 : decode prog_43_method_18_code 252 = .ok (.aconst_null, 1) := by decide +kernel
theorem d8_253 : decode prog_43_method_18_code 253 = .ok (.astore_n 2, 1) := by decide +kernel
theorem d8_254 : decode prog_43_method_18_code 254 = .ok (.aload_n 2, 1) := by decide +kernel
theorem d8_255 : decode prog_43_method_18_code 255 = .ok (.ifnull 17, 3) := by decide +kernel
theorem d8_258 : decode prog_43_method_18_code 258 = .ok (.new 16, 3) := by decide +kernel
theorem d8_261 : decode prog_43_method_18_code 261 = .ok (.dup, 1) := by decide +kernel
theorem d8_262 : decode prog_43_method_18_code 262 = .ok (.aload_n 2, 1) := by decide +kernel
theorem d8_263 : decode prog_43_method_18_code 263 = .ok (.invokedynamic 165, 5) := by decide +kernel
theorem d8_268 : decode prog_43_method_18_code 268 = .ok (.invokespecial 20, 3) := by decide +kernel
theorem d8_271 : decode prog_43_method_18_code 271 = .ok (.athrow, 1) := by decide +kernel
theorem d8_272 : decode prog_43_method_18_code 272 = .ok (.return_, 1) := by decide +kernel
theorem ef_8_1 (m : MethodId) (ra : Addr) (rw : Addr) : entryFrame m #[(.ref ra), (.ref rw)] 8 = mkF m 0 #[rv ra, rv rw, u0, u0, u0, u0, u0, u0] [] := by first | (simp [entryFrame, mkF, argsToLocals, Value.category, maxLocals]; done) | rfl
def Q8_1 (Z : State) (ra : Addr) (rw : Addr) (rg : Addr) (m0 : Int64) (m1 : Int64) (m2 : Int64) (m3 : Int64) (m4 : Int64) (m5 : Int64) (bg0 : Int32) (h0 : Heap) (n0 : Nat) (v : Option Value) (h : Heap) (L : List Loc) : Prop := v = none ∧ Fr n0 L ∧ h = h0
set_option maxRecDepth 65536 in
set_option maxHeartbeats 40000000 in
theorem rm8_1 (l : Launch) (Z : State) (a0 : Array Value) (hw : ∀ d ∈ tables_1, d.before a0 Z = true) (ws : List Jvm.Cond) (ra : Addr) (rw : Addr) (rg : Addr) (m0 : Int64) (m1 : Int64) (m2 : Int64) (m3 : Int64) (m4 : Int64) (m5 : Int64) (bg0 : Int32) (h0 : Heap) (n0 : Nat) (Z0 : n0 ≤ h0.size) (PA0 : own_AJ Z h0 rw [m0, m1, m2, m3, m4, m5]) (PA1 : own_AI Z h0 rg .boolean [bg0]) (PE0 : Exa Z h0 ra "com/example/tributary/tributary/io/Silence") (PF0 : Fld Z h0 ra own_S "gone" "[Z" (.ref rg)) (H0 : m0 = (0 : Int64) ∨ m0 = (1 : Int64)) (H2 : ¬ m2 < (-1 : Int64) ∧ m2 < (1 : Int64)) (HF0 : ¬ m3 < (0 : Int64) ∧ ¬ (7 : Int64) < m3 ∧ (if (m3 &&& (4 : Int64)) = (0 : Int64) then (0 : Int32) else (if (m3 &&& (2 : Int64)) = (0 : Int64) then (1 : Int32) else (0 : Int32))) = (0 : Int32) ∧ (if (m3 &&& (1 : Int64)) = (0 : Int64) then (0 : Int32) else (if m0 = (0 : Int64) then (1 : Int32) else (0 : Int32))) = (0 : Int32)) (HL : ¬ m2 < (0 : Int64) → ¬ ((([m0, m1, m2, m3, m4, m5] : List Int64).getD (((3 : Int32) + ((3 : Int32) * (m2).toInt32))).toInt.toNat 0) &&& (4 : Int64)) = (0 : Int64)) :
    MetFree l (⟨"com/example/tributary/tributary/io/Silence", "requireMeasured", "([J)V"⟩ : MethodName) (head1 (Jvm.Cond.code (⟨"com/example/tributary/tributary/io/Silence", "requireMeasured", "([J)V"⟩ : MethodName) prog_43_method_18_code 8 none :: ws) ({ frames := 0, cells := 0, slots := 0, locals := 0 } : Room)) (fun a U => a = #[(.ref ra), (.ref rw)] ∧ Z.Warmed39 U.vm ∧ U.heap = h0) (fun _ _ _ _ _ => True) (fun _ U o U' => ∃ v L, o = .returned v ∧ Q8_1 Z ra rw rg m0 m1 m2 m3 m4 m5 bg0 h0 n0 v U'.heap L ∧ FrameEnd U o U' L ({ frames := 0, cells := 0, slots := 0, locals := 0 } : Room).cells ({ frames := 0, cells := 0, slots := 0, locals := 0 } : Room).slots) := by
  refine MetFree.of_bodySF (plainFor_of_name pn_4) hisR ?_
  intro p e s m args below meth c s₁ Bd hml0 hP hK
  obtain ⟨rfl, hZ, hh⟩ := hP
  have hx := Bd.exec
  have hby := Bd.bytes
  have hml : c.maxLocals = 8 := hml0
  have hown : s.vm.findClass "com/example/tributary/tributary/io/Silence" = some m.cls := findClass_of_methodNamed Bd.named
  have hnm := (name_of_methodNamed Bd.named Bd.method).1
  have X0 : Stand p l e ({ frames := 0, cells := 0, slots := 0, locals := 0 } : Room) s m #[(.ref ra), (.ref rw)] below meth c s₁ [] 0 0 := Stand.of_body Bd
  have hlk : meth.locks = false := by first | exact BodyLoose.notSynchronized (by assumption) | exact Body.notSynchronized (by assumption)
  have e0 : s₁.heap = h0 := by rw [← hh, Bd.state]; rfl
  have N0 := Fr.nil n0
  have pre0 : ∀ t, Steps p.tables e below (s₁.setTop (mkF m 0 #[rv ra, rv rw, u0, u0, u0, u0, u0, u0] [])) t → Steps p.tables e below (s₁.setTop (entryFrame m #[(.ref ra), (.ref rw)] 8)) t := fun t k => castTop (ef_8_1 m ra rw) k
  generalize s₁.setTop (entryFrame m #[(.ref ra), (.ref rw)] 8) = B0 at pre0 ⊢
  have H : ∀ (i : Nat) {d : Jvm.Cond}, tables_1[i]? = some d → d.before a0 Z = true := fun i d q => hw d (List.mem_of_getElem? q)
  have D : ∀ {pc : Nat} {r : Except DecodeError (Instr × Nat)}, decode prog_43_method_18_code pc = r → decode c.code pc = r := fun q => hb hby q
  obtain ⟨T1, X1, e1, st1⟩ := getF X0 hx hZ hown (host := "") (Or.inl (H 37 rfl)) Via.refl e0 PF0 (g := (mkF m 7 #[rv ra, rv rw, .val .null, u0, u0, u0, u0, u0] [(.ref ra), (.int (3 : Int32)), (.int (3 : Int32)), (.int (6 : Int32))])) rfl rfl (D d8_7)
  have pre3 : ∀ t, Steps p.tables e below (T1.setTop (mkF m 41 #[rv ra, rv rw, .val .null, u0, u0, u0, u0, u0] [(.int (lcmpW m0 (0 : Int64)))])) t → Steps p.tables e below B0 t := by
    intro t k
    refine pre0 t ?_
    show Steps p.tables e below (s₁.setTop (mkF m 0 #[rv ra, rv rw, u0, u0, u0, u0, u0, u0] [])) _
    refine XS.aconstNull X0.here hx rfl (D d8_0) ?_
    refine XS.astoreN X0.here hx rfl (D d8_1) rfl rfl (l' := #[rv ra, rv rw, .val .null, u0, u0, u0, u0, u0]) rfl ?_
    refine XS.aloadN X0.here hx rfl (D d8_2) rfl rfl ?_
    refine own_alenJ X0 hx hZ e0 PA0 (D d8_3) _ ?_
    refine XS.iconst X0.here hx rfl (D d8_4) ?_
    refine XS.iconst X0.here hx rfl (D d8_5) ?_
    refine XS.aloadN X0.here hx rfl (D d8_6) rfl rfl ?_
    refine st1 _ ?_
    refine own_alenI X1 hx hZ e1 PA1 (D d8_10) _ ?_
    refine XS.imul X1.here hx rfl (D d8_11) rfl ?_
    refine XS.iadd X1.here hx rfl (D d8_12) rfl ?_
    show Steps p.tables e below (T1.setTop (mkF m 13 #[rv ra, rv rw, .val .null, u0, u0, u0, u0, u0] [(.int (6 : Int32)), (.int (6 : Int32))])) _
    refine XS.icmpYes X1.here hx rfl (pc0 := 13) (pc' := 36) rfl (D d8_13) rfl (by decide) (by decide) (by decide) ?_
    refine XS.aloadN X1.here hx rfl (D d8_36) rfl rfl ?_
    refine XS.iconst X1.here hx rfl (D d8_37) ?_
    refine own_laload X1 hx hZ e1 PA0 (show 0 ≤ Int32.toInt (0 : Int32) ∧ Int32.toInt (0 : Int32) < ((6 : Nat) : Int) by decide) (D d8_38) _ ?_
    refine XS.lconst X1.here hx rfl (D d8_39) ?_
    refine XS.lcmp X1.here hx rfl (D d8_40) rfl ?_
    exact k
  clear st1
  have pre5 : ∀ t, Steps p.tables e below (T1.setTop (mkF m 64 #[rv ra, rv rw, .val .null, u0, u0, u0, u0, u0] [])) t → Steps p.tables e below B0 t := by
    by_cases c2 : m0 = (0 : Int64)
    · try simp only [if_pos c2]
      intro t k
      refine pre3 t ?_
      show Steps p.tables e below (T1.setTop (mkF m 41 #[rv ra, rv rw, .val .null, u0, u0, u0, u0, u0] [(.int (lcmpW m0 (0 : Int64)))])) _
      refine XS.ifYes X1.here hx rfl (pc0 := 41) (pc' := 64) rfl (D d8_41) rfl ((if0 _ _).trans (teq ((lw_eq m0 (0 : Int64)).mpr c2)).1) (by decide) (by decide) ?_
      exact k
    · try simp only [if_neg c2]
      have c4 : m0 = (1 : Int64) := (H0.resolve_left ‹_›)
      intro t k
      refine pre3 t ?_
      show Steps p.tables e below (T1.setTop (mkF m 41 #[rv ra, rv rw, .val .null, u0, u0, u0, u0, u0] [(.int (lcmpW m0 (0 : Int64)))])) _
      refine XS.ifNo X1.here hx rfl (D d8_41) rfl ((if0 _ _).trans (feq (mt (lw_eq m0 (0 : Int64)).mp c2)).1) ?_
      refine XS.aloadN X1.here hx rfl (D d8_44) rfl rfl ?_
      refine XS.iconst X1.here hx rfl (D d8_45) ?_
      refine own_laload X1 hx hZ e1 PA0 (show 0 ≤ Int32.toInt (0 : Int32) ∧ Int32.toInt (0 : Int32) < ((6 : Nat) : Int) by decide) (D d8_46) _ ?_
      refine XS.lconst X1.here hx rfl (D d8_47) ?_
      refine XS.lcmp X1.here hx rfl (D d8_48) rfl ?_
      show Steps p.tables e below (T1.setTop (mkF m 49 #[rv ra, rv rw, .val .null, u0, u0, u0, u0, u0] [(.int (lcmpW m0 (1 : Int64)))])) _
      refine XS.ifYes X1.here hx rfl (pc0 := 49) (pc' := 64) rfl (D d8_49) rfl ((if0 _ _).trans (teq ((lw_eq m0 (1 : Int64)).mpr c4)).1) (by decide) (by decide) ?_
      exact k
  have c6 : ¬ (m2 < (-1 : Int64)) := H2.1
  obtain ⟨T7, X7, e7, st7⟩ := getF X1 hx hZ hown (host := "") (Or.inl (H 37 rfl)) Via.refl e1 PF0 (g := (mkF m 78 #[rv ra, rv rw, .val .null, u0, u0, u0, u0, u0] [(.ref ra), (.long m2)])) rfl rfl (D d8_78)
  have c8 : m2 < (1 : Int64) := H2.2
  obtain ⟨T9, X9, e9, st9⟩ := getF X7 hx hZ hown (host := "") (Or.inl (H 37 rfl)) Via.refl e7 PF0 (g := (mkF m 104 #[rv ra, rv rw, .val .null, iv (0 : Int32), u0, u0, u0, u0] [(.ref ra), (.int (0 : Int32))])) rfl rfl (D d8_104)
  have pre11 : ∀ t, Steps p.tables e below (T9.setTop (mkF m 128 #[rv ra, rv rw, .val .null, iv (0 : Int32), jv m3, s2, u0, u0] [(.int (lcmpW (m3 &&& (4 : Int64)) (0 : Int64)))])) t → Steps p.tables e below B0 t := by
    intro t k
    refine pre5 t ?_
    show Steps p.tables e below (T1.setTop (mkF m 64 #[rv ra, rv rw, .val .null, u0, u0, u0, u0, u0] [])) _
    refine XS.aloadN X1.here hx rfl (D d8_64) rfl rfl ?_
    refine XS.iconst X1.here hx rfl (D d8_65) ?_
    refine own_laload X1 hx hZ e1 PA0 (show 0 ≤ Int32.toInt (2 : Int32) ∧ Int32.toInt (2 : Int32) < ((6 : Nat) : Int) by decide) (D d8_66) _ ?_
    refine X1.ldc2Long hx hown (mvT hZ (H 62 rfl)) (g := (mkF m 67 #[rv ra, rv rw, .val .null, u0, u0, u0, u0, u0] [(.long m2)])) rfl (D d8_67) _ ?_
    refine XS.lcmp X1.here hx rfl (D d8_70) rfl ?_
    show Steps p.tables e below (T1.setTop (mkF m 71 #[rv ra, rv rw, .val .null, u0, u0, u0, u0, u0] [(.int (lcmpW m2 (-1 : Int64)))])) _
    refine XS.ifNo X1.here hx rfl (D d8_71) rfl ((if0 _ _).trans (flt (mt (lw_lt m2 (-1 : Int64)).mp c6)).1) ?_
    refine XS.aloadN X1.here hx rfl (D d8_74) rfl rfl ?_
    refine XS.iconst X1.here hx rfl (D d8_75) ?_
    refine own_laload X1 hx hZ e1 PA0 (show 0 ≤ Int32.toInt (2 : Int32) ∧ Int32.toInt (2 : Int32) < ((6 : Nat) : Int) by decide) (D d8_76) _ ?_
    refine XS.aloadN X1.here hx rfl (D d8_77) rfl rfl ?_
    refine st7 _ ?_
    refine own_alenI X7 hx hZ e7 PA1 (D d8_81) _ ?_
    refine XS.i2l X7.here hx rfl (D d8_82) rfl ?_
    refine XS.lcmp X7.here hx rfl (D d8_83) rfl ?_
    show Steps p.tables e below (T7.setTop (mkF m 84 #[rv ra, rv rw, .val .null, u0, u0, u0, u0, u0] [(.int (lcmpW m2 (1 : Int64)))])) _
    refine XS.ifYes X7.here hx rfl (pc0 := 84) (pc' := 96) rfl (D d8_84) rfl ((if0 _ _).trans (tlt ((lw_lt m2 (1 : Int64)).mpr c8)).1) (by decide) (by decide) ?_
    refine XS.iconst X7.here hx rfl (D d8_96) ?_
    refine XS.istoreN X7.here hx rfl (D d8_97) rfl (l' := #[rv ra, rv rw, .val .null, iv (0 : Int32), u0, u0, u0, u0]) rfl ?_
    refine XS.aloadN X7.here hx rfl (D d8_98) rfl rfl ?_
    show Steps p.tables e below (T7.setTop (mkF m 99 #[rv ra, rv rw, .val .null, iv (0 : Int32), u0, u0, u0, u0] [.null])) _
    refine XS.ifnonnullNo X7.here hx rfl (D d8_99) rfl ?_
    refine XS.iloadN X7.here hx rfl (D d8_102) rfl ?_
    refine XS.aloadN X7.here hx rfl (D d8_103) rfl rfl ?_
    refine st9 _ ?_
    refine own_alenI X9 hx hZ e9 PA1 (D d8_107) _ ?_
    show Steps p.tables e below (T9.setTop (mkF m 108 #[rv ra, rv rw, .val .null, iv (0 : Int32), u0, u0, u0, u0] [(.int (1 : Int32)), (.int (0 : Int32))])) _
    refine XS.icmpNo X9.here hx rfl (D d8_108) rfl (by decide) ?_
    refine XS.aloadN X9.here hx rfl (D d8_111) rfl rfl ?_
    refine XS.iconst X9.here hx rfl (D d8_112) ?_
    refine XS.iconst X9.here hx rfl (D d8_113) ?_
    show Steps p.tables e below (T9.setTop (mkF m 114 #[rv ra, rv rw, .val .null, iv (0 : Int32), u0, u0, u0, u0] [(.int (3 : Int32)), (.int (3 : Int32)), (.ref rw)])) _
    refine XS.iloadN X9.here hx rfl (D d8_114) rfl ?_
    refine XS.imul X9.here hx rfl (D d8_115) rfl ?_
    refine XS.iadd X9.here hx rfl (D d8_116) rfl ?_
    refine own_laload X9 hx hZ e9 PA0 (show 0 ≤ Int32.toInt (3 : Int32) ∧ Int32.toInt (3 : Int32) < ((6 : Nat) : Int) by decide) (D d8_117) _ ?_
    refine XS.lstore X9.here hx rfl (D d8_118) rfl (l' := #[rv ra, rv rw, .val .null, iv (0 : Int32), jv m3, s2, u0, u0]) rfl ?_
    refine XS.lload X9.here hx rfl (D d8_120) rfl ?_
    refine X9.ldc2Long hx hown (mvT hZ (H 63 rfl)) (g := (mkF m 122 #[rv ra, rv rw, .val .null, iv (0 : Int32), jv m3, s2, u0, u0] [(.long m3)])) rfl (D d8_122) _ ?_
    refine XS.land X9.here hx rfl (D d8_125) rfl ?_
    refine XS.lconst X9.here hx rfl (D d8_126) ?_
    refine XS.lcmp X9.here hx rfl (D d8_127) rfl ?_
    exact k
  clear X1 e1 pre3 pre5 X7 e7 st7 st9
  have pre15 : ∀ t, Steps p.tables e below (T9.setTop (mkF m 147 #[rv ra, rv rw, .val .null, iv (0 : Int32), jv m3, s2, u0, u0] [(.int (if (m3 &&& (4 : Int64)) = (0 : Int64) then (0 : Int32) else (if (m3 &&& (2 : Int64)) = (0 : Int64) then (1 : Int32) else (0 : Int32))))])) t → Steps p.tables e below B0 t := by
    by_cases c10 : (m3 &&& (4 : Int64)) = (0 : Int64)
    · try simp only [if_pos c10]
      intro t k
      refine pre11 t ?_
      show Steps p.tables e below (T9.setTop (mkF m 128 #[rv ra, rv rw, .val .null, iv (0 : Int32), jv m3, s2, u0, u0] [(.int (lcmpW (m3 &&& (4 : Int64)) (0 : Int64)))])) _
      refine XS.ifYes X9.here hx rfl (pc0 := 128) (pc' := 146) rfl (D d8_128) rfl ((if0 _ _).trans (teq ((lw_eq (m3 &&& (4 : Int64)) (0 : Int64)).mpr c10)).1) (by decide) (by decide) ?_
      refine XS.iconst X9.here hx rfl (D d8_146) ?_
      exact k
    · try simp only [if_neg c10]
      have pre13 : ∀ t, Steps p.tables e below (T9.setTop (mkF m 139 #[rv ra, rv rw, .val .null, iv (0 : Int32), jv m3, s2, u0, u0] [(.int (lcmpW (m3 &&& (2 : Int64)) (0 : Int64)))])) t → Steps p.tables e below B0 t := by
        intro t k
        refine pre11 t ?_
        show Steps p.tables e below (T9.setTop (mkF m 128 #[rv ra, rv rw, .val .null, iv (0 : Int32), jv m3, s2, u0, u0] [(.int (lcmpW (m3 &&& (4 : Int64)) (0 : Int64)))])) _
        refine XS.ifNo X9.here hx rfl (D d8_128) rfl ((if0 _ _).trans (feq (mt (lw_eq (m3 &&& (4 : Int64)) (0 : Int64)).mp c10)).1) ?_
        refine XS.lload X9.here hx rfl (D d8_131) rfl ?_
        refine X9.ldc2Long hx hown (mvT hZ (H 65 rfl)) (g := (mkF m 133 #[rv ra, rv rw, .val .null, iv (0 : Int32), jv m3, s2, u0, u0] [(.long m3)])) rfl (D d8_133) _ ?_
        refine XS.land X9.here hx rfl (D d8_136) rfl ?_
        refine XS.lconst X9.here hx rfl (D d8_137) ?_
        refine XS.lcmp X9.here hx rfl (D d8_138) rfl ?_
        exact k
      clear pre11
      have pre14 : ∀ t, Steps p.tables e below (T9.setTop (mkF m 147 #[rv ra, rv rw, .val .null, iv (0 : Int32), jv m3, s2, u0, u0] [(.int (if (m3 &&& (2 : Int64)) = (0 : Int64) then (1 : Int32) else (0 : Int32)))])) t → Steps p.tables e below B0 t := by
        by_cases c12 : (m3 &&& (2 : Int64)) = (0 : Int64)
        · try simp only [if_pos c12]
          intro t k
          refine pre13 t ?_
          show Steps p.tables e below (T9.setTop (mkF m 139 #[rv ra, rv rw, .val .null, iv (0 : Int32), jv m3, s2, u0, u0] [(.int (lcmpW (m3 &&& (2 : Int64)) (0 : Int64)))])) _
          refine XS.ifNo X9.here hx rfl (D d8_139) rfl ((if0 _ _).trans (teq ((lw_eq (m3 &&& (2 : Int64)) (0 : Int64)).mpr c12)).2) ?_
          refine XS.iconst X9.here hx rfl (D d8_142) ?_
          refine XS.goto X9.here hx rfl (pc0 := 143) (pc' := 147) rfl (D d8_143) (by decide) (by decide) ?_
          exact k
        · try simp only [if_neg c12]
          intro t k
          refine pre13 t ?_
          show Steps p.tables e below (T9.setTop (mkF m 139 #[rv ra, rv rw, .val .null, iv (0 : Int32), jv m3, s2, u0, u0] [(.int (lcmpW (m3 &&& (2 : Int64)) (0 : Int64)))])) _
          refine XS.ifYes X9.here hx rfl (pc0 := 139) (pc' := 146) rfl (D d8_139) rfl ((if0 _ _).trans (feq (mt (lw_eq (m3 &&& (2 : Int64)) (0 : Int64)).mp c12)).2) (by decide) (by decide) ?_
          refine XS.iconst X9.here hx rfl (D d8_146) ?_
          exact k
      intro t k
      refine pre14 t ?_
      exact k
  obtain ⟨v16, hv16⟩ : ∃ z : Int32, z = (if (m3 &&& (4 : Int64)) = (0 : Int64) then (0 : Int32) else (if (m3 &&& (2 : Int64)) = (0 : Int64) then (1 : Int32) else (0 : Int32))) := ⟨_, rfl⟩
  have pre17 : ∀ t, Steps p.tables e below (T9.setTop (mkF m 147 #[rv ra, rv rw, .val .null, iv (0 : Int32), jv m3, s2, u0, u0] [(.int v16)])) t → Steps p.tables e below B0 t := by
    rw [hv16]
    intro t k
    refine pre15 t ?_
    exact k
  have pre19 : ∀ t, Steps p.tables e below (T9.setTop (mkF m 155 #[rv ra, rv rw, .val .null, iv (0 : Int32), jv m3, s2, iv v16, u0] [(.int (lcmpW (m3 &&& (1 : Int64)) (0 : Int64)))])) t → Steps p.tables e below B0 t := by
    intro t k
    refine pre17 t ?_
    show Steps p.tables e below (T9.setTop (mkF m 147 #[rv ra, rv rw, .val .null, iv (0 : Int32), jv m3, s2, u0, u0] [(.int v16)])) _
    refine XS.istore X9.here hx rfl (D d8_147) rfl (l' := #[rv ra, rv rw, .val .null, iv (0 : Int32), jv m3, s2, iv v16, u0]) rfl ?_
    refine XS.lload X9.here hx rfl (D d8_149) rfl ?_
    refine XS.lconst X9.here hx rfl (D d8_151) ?_
    refine XS.land X9.here hx rfl (D d8_152) rfl ?_
    refine XS.lconst X9.here hx rfl (D d8_153) ?_
    refine XS.lcmp X9.here hx rfl (D d8_154) rfl ?_
    exact k
  clear pre11 pre15 pre17
  have pre23 : ∀ t, Steps p.tables e below (T9.setTop (mkF m 171 #[rv ra, rv rw, .val .null, iv (0 : Int32), jv m3, s2, iv v16, u0] [(.int (if (m3 &&& (1 : Int64)) = (0 : Int64) then (0 : Int32) else (if m0 = (0 : Int64) then (1 : Int32) else (0 : Int32))))])) t → Steps p.tables e below B0 t := by
    by_cases c18 : (m3 &&& (1 : Int64)) = (0 : Int64)
    · try simp only [if_pos c18]
      intro t k
      refine pre19 t ?_
      show Steps p.tables e below (T9.setTop (mkF m 155 #[rv ra, rv rw, .val .null, iv (0 : Int32), jv m3, s2, iv v16, u0] [(.int (lcmpW (m3 &&& (1 : Int64)) (0 : Int64)))])) _
      refine XS.ifYes X9.here hx rfl (pc0 := 155) (pc' := 170) rfl (D d8_155) rfl ((if0 _ _).trans (teq ((lw_eq (m3 &&& (1 : Int64)) (0 : Int64)).mpr c18)).1) (by decide) (by decide) ?_
      refine XS.iconst X9.here hx rfl (D d8_170) ?_
      exact k
    · try simp only [if_neg c18]
      have pre21 : ∀ t, Steps p.tables e below (T9.setTop (mkF m 163 #[rv ra, rv rw, .val .null, iv (0 : Int32), jv m3, s2, iv v16, u0] [(.int (lcmpW m0 (0 : Int64)))])) t → Steps p.tables e below B0 t := by
        intro t k
        refine pre19 t ?_
        show Steps p.tables e below (T9.setTop (mkF m 155 #[rv ra, rv rw, .val .null, iv (0 : Int32), jv m3, s2, iv v16, u0] [(.int (lcmpW (m3 &&& (1 : Int64)) (0 : Int64)))])) _
        refine XS.ifNo X9.here hx rfl (D d8_155) rfl ((if0 _ _).trans (feq (mt (lw_eq (m3 &&& (1 : Int64)) (0 : Int64)).mp c18)).1) ?_
        refine XS.aloadN X9.here hx rfl (D d8_158) rfl rfl ?_
        refine XS.iconst X9.here hx rfl (D d8_159) ?_
        refine own_laload X9 hx hZ e9 PA0 (show 0 ≤ Int32.toInt (0 : Int32) ∧ Int32.toInt (0 : Int32) < ((6 : Nat) : Int) by decide) (D d8_160) _ ?_
        refine XS.lconst X9.here hx rfl (D d8_161) ?_
        refine XS.lcmp X9.here hx rfl (D d8_162) rfl ?_
        exact k
      clear pre19
      have pre22 : ∀ t, Steps p.tables e below (T9.setTop (mkF m 171 #[rv ra, rv rw, .val .null, iv (0 : Int32), jv m3, s2, iv v16, u0] [(.int (if m0 = (0 : Int64) then (1 : Int32) else (0 : Int32)))])) t → Steps p.tables e below B0 t := by
        by_cases c20 : m0 = (0 : Int64)
        · try simp only [if_pos c20]
          intro t k
          refine pre21 t ?_
          show Steps p.tables e below (T9.setTop (mkF m 163 #[rv ra, rv rw, .val .null, iv (0 : Int32), jv m3, s2, iv v16, u0] [(.int (lcmpW m0 (0 : Int64)))])) _
          refine XS.ifNo X9.here hx rfl (D d8_163) rfl ((if0 _ _).trans (teq ((lw_eq m0 (0 : Int64)).mpr c20)).2) ?_
          refine XS.iconst X9.here hx rfl (D d8_166) ?_
          refine XS.goto X9.here hx rfl (pc0 := 167) (pc' := 171) rfl (D d8_167) (by decide) (by decide) ?_
          exact k
        · try simp only [if_neg c20]
          intro t k
          refine pre21 t ?_
          show Steps p.tables e below (T9.setTop (mkF m 163 #[rv ra, rv rw, .val .null, iv (0 : Int32), jv m3, s2, iv v16, u0] [(.int (lcmpW m0 (0 : Int64)))])) _
          refine XS.ifYes X9.here hx rfl (pc0 := 163) (pc' := 170) rfl (D d8_163) rfl ((if0 _ _).trans (feq (mt (lw_eq m0 (0 : Int64)).mp c20)).2) (by decide) (by decide) ?_
          refine XS.iconst X9.here hx rfl (D d8_170) ?_
          exact k
      intro t k
      refine pre22 t ?_
      exact k
  obtain ⟨v24, hv24⟩ : ∃ z : Int32, z = (if (m3 &&& (1 : Int64)) = (0 : Int64) then (0 : Int32) else (if m0 = (0 : Int64) then (1 : Int32) else (0 : Int32))) := ⟨_, rfl⟩
  have pre25 : ∀ t, Steps p.tables e below (T9.setTop (mkF m 171 #[rv ra, rv rw, .val .null, iv (0 : Int32), jv m3, s2, iv v16, u0] [(.int v24)])) t → Steps p.tables e below B0 t := by
    rw [hv24]
    intro t k
    refine pre23 t ?_
    exact k
  have c26 : ¬ (m3 < (0 : Int64)) := HF0.1
  have c27 : ¬ ((7 : Int64) < m3) := HF0.2.1
  have c28 : v16 = (0 : Int32) := (by rw [hv16]; exact HF0.2.2.1)
  have c29 : v24 = (0 : Int32) := (by rw [hv24]; exact HF0.2.2.2)
  obtain ⟨T30, X30, e30, st30⟩ := getF X9 hx hZ hown (host := "") (Or.inl (H 37 rfl)) Via.refl e9 PF0 (g := (mkF m 104 #[rv ra, rv rw, .val .null, iv (1 : Int32), jv m3, s2, iv v16, iv v24] [(.ref ra), (.int (1 : Int32))])) rfl rfl (D d8_104)
  have pre31 : ∀ t, Steps p.tables e below (T30.setTop (mkF m 223 #[rv ra, rv rw, .val .null, iv (1 : Int32), jv m3, s2, iv v16, iv v24] [(.int (lcmpW m2 (0 : Int64)))])) t → Steps p.tables e below B0 t := by
    intro t k
    refine pre25 t ?_
    show Steps p.tables e below (T9.setTop (mkF m 171 #[rv ra, rv rw, .val .null, iv (0 : Int32), jv m3, s2, iv v16, u0] [(.int v24)])) _
    refine XS.istore X9.here hx rfl (D d8_171) rfl (l' := #[rv ra, rv rw, .val .null, iv (0 : Int32), jv m3, s2, iv v16, iv v24]) rfl ?_
    refine XS.lload X9.here hx rfl (D d8_173) rfl ?_
    refine XS.lconst X9.here hx rfl (D d8_175) ?_
    refine XS.lcmp X9.here hx rfl (D d8_176) rfl ?_
    show Steps p.tables e below (T9.setTop (mkF m 177 #[rv ra, rv rw, .val .null, iv (0 : Int32), jv m3, s2, iv v16, iv v24] [(.int (lcmpW m3 (0 : Int64)))])) _
    refine XS.ifNo X9.here hx rfl (D d8_177) rfl ((if0 _ _).trans (flt (mt (lw_lt m3 (0 : Int64)).mp c26)).1) ?_
    refine XS.lload X9.here hx rfl (D d8_180) rfl ?_
    refine X9.ldc2Long hx hown (mvT hZ (H 64 rfl)) (g := (mkF m 182 #[rv ra, rv rw, .val .null, iv (0 : Int32), jv m3, s2, iv v16, iv v24] [(.long m3)])) rfl (D d8_182) _ ?_
    refine XS.lcmp X9.here hx rfl (D d8_185) rfl ?_
    show Steps p.tables e below (T9.setTop (mkF m 186 #[rv ra, rv rw, .val .null, iv (0 : Int32), jv m3, s2, iv v16, iv v24] [(.int (lcmpW m3 (7 : Int64)))])) _
    refine XS.ifNo X9.here hx rfl (D d8_186) rfl ((if0 _ _).trans (flt (mt (lw_gt m3 (7 : Int64)).mp c27)).2.2.1) ?_
    refine XS.iload X9.here hx rfl (D d8_189) rfl ?_
    show Steps p.tables e below (T9.setTop (mkF m 191 #[rv ra, rv rw, .val .null, iv (0 : Int32), jv m3, s2, iv v16, iv v24] [(.int v16)])) _
    refine XS.ifNo X9.here hx rfl (D d8_191) rfl ((if0 _ _).trans (teq c28).2) ?_
    refine XS.iload X9.here hx rfl (D d8_194) rfl ?_
    show Steps p.tables e below (T9.setTop (mkF m 196 #[rv ra, rv rw, .val .null, iv (0 : Int32), jv m3, s2, iv v16, iv v24] [(.int v24)])) _
    refine XS.ifYes X9.here hx rfl (pc0 := 196) (pc' := 208) rfl (D d8_196) rfl ((if0 _ _).trans (teq c29).1) (by decide) (by decide) ?_
    refine XS.iinc X9.here hx rfl (D d8_208) rfl (l' := #[rv ra, rv rw, .val .null, iv (1 : Int32), jv m3, s2, iv v16, iv v24]) rfl ?_
    refine XS.goto X9.here hx rfl (pc0 := 211) (pc' := 98) rfl (D d8_211) (by decide) (by decide) ?_
    refine XS.aloadN X9.here hx rfl (D d8_98) rfl rfl ?_
    show Steps p.tables e below (T9.setTop (mkF m 99 #[rv ra, rv rw, .val .null, iv (1 : Int32), jv m3, s2, iv v16, iv v24] [.null])) _
    refine XS.ifnonnullNo X9.here hx rfl (D d8_99) rfl ?_
    refine XS.iloadN X9.here hx rfl (D d8_102) rfl ?_
    refine XS.aloadN X9.here hx rfl (D d8_103) rfl rfl ?_
    refine st30 _ ?_
    refine own_alenI X30 hx hZ e30 PA1 (D d8_107) _ ?_
    show Steps p.tables e below (T30.setTop (mkF m 108 #[rv ra, rv rw, .val .null, iv (1 : Int32), jv m3, s2, iv v16, iv v24] [(.int (1 : Int32)), (.int (1 : Int32))])) _
    refine XS.icmpYes X30.here hx rfl (pc0 := 108) (pc' := 214) rfl (D d8_108) rfl (by decide) (by decide) (by decide) ?_
    refine XS.aloadN X30.here hx rfl (D d8_214) rfl rfl ?_
    show Steps p.tables e below (T30.setTop (mkF m 215 #[rv ra, rv rw, .val .null, iv (1 : Int32), jv m3, s2, iv v16, iv v24] [.null])) _
    refine XS.ifnonnullNo X30.here hx rfl (D d8_215) rfl ?_
    refine XS.aloadN X30.here hx rfl (D d8_218) rfl rfl ?_
    refine XS.iconst X30.here hx rfl (D d8_219) ?_
    refine own_laload X30 hx hZ e30 PA0 (show 0 ≤ Int32.toInt (2 : Int32) ∧ Int32.toInt (2 : Int32) < ((6 : Nat) : Int) by decide) (D d8_220) _ ?_
    refine XS.lconst X30.here hx rfl (D d8_221) ?_
    refine XS.lcmp X30.here hx rfl (D d8_222) rfl ?_
    exact k
  clear X9 e9 pre19 pre23 pre25 st30
  by_cases c32 : m2 < (0 : Int64)
  · obtain ⟨fs, hr, hrun, hended, hW, hsame⟩ := X30.leave (v := none) (fun _ => rfl) hlk
    refine ⟨_, _, pre31 _ ?_, hrun, hended, _, _, rfl, ?_, ⟨_, rfl⟩, hW, hsame.mono (by decide) (by decide)⟩
    · show Steps p.tables e below (T30.setTop (mkF m 223 #[rv ra, rv rw, .val .null, iv (1 : Int32), jv m3, s2, iv v16, iv v24] [(.int (lcmpW m2 (0 : Int64)))])) _
      refine XS.ifYes X30.here hx rfl (pc0 := 223) (pc' := 254) rfl (D d8_223) rfl ((if0 _ _).trans (tlt ((lw_lt m2 (0 : Int64)).mpr c32)).1) (by decide) (by decide) ?_
      refine XS.aloadN X30.here hx rfl (D d8_254) rfl rfl ?_
      show Steps p.tables e below (T30.setTop (mkF m 255 #[rv ra, rv rw, .val .null, iv (1 : Int32), jv m3, s2, iv v16, iv v24] [.null])) _
      refine XS.ifnullYes X30.here hx rfl (pc0 := 255) (pc' := 272) rfl (D d8_255) rfl (by decide) (by decide) ?_
      show Steps p.tables e below (T30.setTop (mkF m 272 #[rv ra, rv rw, .val .null, iv (1 : Int32), jv m3, s2, iv v16, iv v24] [])) _
      exact X30.returnOut hx Bd.returns (D d8_272) hr
    · show Q8_1 Z ra rw rg m0 m1 m2 m3 m4 m5 bg0 h0 n0 _ T30.heap _
      rw [e30]
      exact ⟨rfl, N0, rfl⟩
  · have in_235_33 : 0 ≤ (((3 : Int32) + ((3 : Int32) * (m2).toInt32))).toInt ∧ (((3 : Int32) + ((3 : Int32) * (m2).toInt32))).toInt < (6 : Nat) := (own_ix1 ‹_› H2.2)
    obtain ⟨v34, hv34⟩ : ∃ z : Int64, z = (([m0, m1, m2, m3, m4, m5] : List Int64).getD (((3 : Int32) + ((3 : Int32) * (m2).toInt32))).toInt.toNat 0) := ⟨_, rfl⟩
    have pre35 : ∀ t, Steps p.tables e below (T30.setTop (mkF m 236 #[rv ra, rv rw, .val .null, iv (1 : Int32), jv m3, s2, iv v16, iv v24] [(.long v34)])) t → Steps p.tables e below B0 t := by
      rw [hv34]
      intro t k
      refine pre31 t ?_
      show Steps p.tables e below (T30.setTop (mkF m 223 #[rv ra, rv rw, .val .null, iv (1 : Int32), jv m3, s2, iv v16, iv v24] [(.int (lcmpW m2 (0 : Int64)))])) _
      refine XS.ifNo X30.here hx rfl (D d8_223) rfl ((if0 _ _).trans (flt (mt (lw_lt m2 (0 : Int64)).mp c32)).1) ?_
      refine XS.aloadN X30.here hx rfl (D d8_226) rfl rfl ?_
      refine XS.iconst X30.here hx rfl (D d8_227) ?_
      show Steps p.tables e below (T30.setTop (mkF m 228 #[rv ra, rv rw, .val .null, iv (1 : Int32), jv m3, s2, iv v16, iv v24] [(.int (3 : Int32)), (.ref rw)])) _
      refine XS.iconst X30.here hx rfl (D d8_228) ?_
      refine XS.aloadN X30.here hx rfl (D d8_229) rfl rfl ?_
      refine XS.iconst X30.here hx rfl (D d8_230) ?_
      refine own_laload X30 hx hZ e30 PA0 (show 0 ≤ Int32.toInt (2 : Int32) ∧ Int32.toInt (2 : Int32) < ((6 : Nat) : Int) by decide) (D d8_231) _ ?_
      refine XS.l2i X30.here hx rfl (D d8_232) rfl ?_
      refine XS.imul X30.here hx rfl (D d8_233) rfl ?_
      refine XS.iadd X30.here hx rfl (D d8_234) rfl ?_
      refine own_laload X30 hx hZ e30 PA0 in_235_33 (D d8_235) _ ?_
      exact k
    have c36 : ¬ ((v34 &&& (4 : Int64)) = (0 : Int64)) := (by rw [hv34]; exact HL ‹_›)
    obtain ⟨fs, hr, hrun, hended, hW, hsame⟩ := X30.leave (v := none) (fun _ => rfl) hlk
    refine ⟨_, _, pre35 _ ?_, hrun, hended, _, _, rfl, ?_, ⟨_, rfl⟩, hW, hsame.mono (by decide) (by decide)⟩
    · show Steps p.tables e below (T30.setTop (mkF m 236 #[rv ra, rv rw, .val .null, iv (1 : Int32), jv m3, s2, iv v16, iv v24] [(.long v34)])) _
      refine XS.lstoreN X30.here hx rfl (D d8_236) rfl (l' := #[rv ra, rv rw, .val .null, jv v34, s2, u0, iv v16, iv v24]) rfl ?_
      refine XS.lloadN X30.here hx rfl (D d8_237) rfl ?_
      refine X30.ldc2Long hx hown (mvT hZ (H 63 rfl)) (g := (mkF m 238 #[rv ra, rv rw, .val .null, jv v34, s2, u0, iv v16, iv v24] [(.long v34)])) rfl (D d8_238) _ ?_
      refine XS.land X30.here hx rfl (D d8_241) rfl ?_
      refine XS.lconst X30.here hx rfl (D d8_242) ?_
      refine XS.lcmp X30.here hx rfl (D d8_243) rfl ?_
      show Steps p.tables e below (T30.setTop (mkF m 244 #[rv ra, rv rw, .val .null, jv v34, s2, u0, iv v16, iv v24] [(.int (lcmpW (v34 &&& (4 : Int64)) (0 : Int64)))])) _
      refine XS.ifYes X30.here hx rfl (pc0 := 244) (pc' := 252) rfl (D d8_244) rfl ((if0 _ _).trans (feq (mt (lw_eq (v34 &&& (4 : Int64)) (0 : Int64)).mp c36)).2) (by decide) (by decide) ?_
      refine XS.aconstNull X30.here hx rfl (D d8_252) ?_
      refine XS.astoreN X30.here hx rfl (D d8_253) rfl rfl (l' := #[rv ra, rv rw, .val .null, jv v34, s2, u0, iv v16, iv v24]) rfl ?_
      refine XS.aloadN X30.here hx rfl (D d8_254) rfl rfl ?_
      show Steps p.tables e below (T30.setTop (mkF m 255 #[rv ra, rv rw, .val .null, jv v34, s2, u0, iv v16, iv v24] [.null])) _
      refine XS.ifnullYes X30.here hx rfl (pc0 := 255) (pc' := 272) rfl (D d8_255) rfl (by decide) (by decide) ?_
      show Steps p.tables e below (T30.setTop (mkF m 272 #[rv ra, rv rw, .val .null, jv v34, s2, u0, iv v16, iv v24] [])) _
      exact X30.returnOut hx Bd.returns (D d8_272) hr
    · show Q8_1 Z ra rw rg m0 m1 m2 m3 m4 m5 bg0 h0 n0 _ T30.heap _
      rw [e30]
      exact ⟨rfl, N0, rfl⟩
theorem d7_0 : decode prog_43_method_9_code 0 = .ok (.aload_n 0, 1) := by decide +kernel
theorem d7_1 : decode prog_43_method_9_code 1 = .ok (.aload_n 1, 1) := by decide +kernel
theorem d7_2 : decode prog_43_method_9_code 2 = .ok (.invokevirtual 86, 3) := by decide +kernel
theorem d7_5 : decode prog_43_method_9_code 5 = .ok (.aload_n 0, 1) := by decide +kernel
theorem d7_6 : decode prog_43_method_9_code 6 = .ok (.aload_n 1, 1) := by decide +kernel
theorem d7_7 : decode prog_43_method_9_code 7 = .ok (.iconst 0, 1) := by decide +kernel
theorem d7_8 : decode prog_43_method_9_code 8 = .ok (.laload, 1) := by decide +kernel
theorem d7_9 : decode prog_43_method_9_code 9 = .ok (.lconst 1, 1) := by decide +kernel
theorem d7_10 : decode prog_43_method_9_code 10 = .ok (.lcmp, 1) := by decide +kernel
theorem d7_11 : decode prog_43_method_9_code 11 = .ok (.ifCond .ne 7, 3) := by decide +kernel
theorem d7_14 : decode prog_43_method_9_code 14 = .ok (.iconst 1, 1) := by decide +kernel
theorem d7_15 : decode prog_43_method_9_code 15 = .ok (.goto 4, 3) := by decide +kernel
theorem d7_18 : decode prog_43_method_9_code 18 = .ok (.iconst 0, 1) := by decide +kernel
theorem d7_19 : decode prog_43_method_9_code 19 = .ok (.putfield 59, 3) := by decide +kernel
theorem d7_22 : decode prog_43_method_9_code 22 = .ok (.aload_n 0, 1) := by decide +kernel
theorem d7_23 : decode prog_43_method_9_code 23 = .ok (.aload_n 1, 1) := by decide +kernel
theorem d7_24 : decode prog_43_method_9_code 24 = .ok (.iconst 1, 1) := by decide +kernel
theorem d7_25 : decode prog_43_method_9_code 25 = .ok (.laload, 1) := by decide +kernel
theorem d7_26 : decode prog_43_method_9_code 26 = .ok (.putfield 62, 3) := by decide +kernel
theorem d7_29 : decode prog_43_method_9_code 29 = .ok (.aload_n 0, 1) := by decide +kernel
theorem d7_30 : decode prog_43_method_9_code 30 = .ok (.aload_n 1, 1) := by decide +kernel
theorem d7_31 : decode prog_43_method_9_code 31 = .ok (.iconst 2, 1) := by decide +kernel
theorem d7_32 : decode prog_43_method_9_code 32 = .ok (.laload, 1) := by decide +kernel
theorem d7_33 : decode prog_43_method_9_code 33 = .ok (.l2i, 1) := by decide +kernel
theorem d7_34 : decode prog_43_method_9_code 34 = .ok (.putfield 12, 3) := by decide +kernel
theorem d7_37 : decode prog_43_method_9_code 37 = .ok (.aload_n 0, 1) := by decide +kernel
theorem d7_38 : decode prog_43_method_9_code 38 = .ok (.iconst 0, 1) := by decide +kernel
theorem d7_39 : decode prog_43_method_9_code 39 = .ok (.putfield 52, 3) := by decide +kernel
theorem d7_42 : decode prog_43_method_9_code 42 = .ok (.iconst 0, 1) := by decide +kernel
theorem d7_43 : decode prog_43_method_9_code 43 = .ok (.istore_n 2, 1) := by decide +kernel
theorem d7_44 : decode prog_43_method_9_code 44 = .ok (.iload_n 2, 1) := by decide +kernel
theorem d7_45 : decode prog_43_method_9_code 45 = .ok (.aload_n 0, 1) := by decide +kernel
theorem d7_46 : decode prog_43_method_9_code 46 = .ok (.getfield 46, 3) := by decide +kernel
theorem d7_49 : decode prog_43_method_9_code 49 = .ok (.arraylength, 1) := by decide +kernel
theorem d7_50 : decode prog_43_method_9_code 50 = .ok (.if_icmp .ge 127, 3) := by decide +kernel
theorem d7_53 : decode prog_43_method_9_code 53 = .ok (.iconst 3, 1) := by decide +kernel
theorem d7_54 : decode prog_43_method_9_code 54 = .ok (.iconst 3, 1) := by decide +kernel
theorem d7_55 : decode prog_43_method_9_code 55 = .ok (.iload_n 2, 1) := by decide +kernel
theorem d7_56 : decode prog_43_method_9_code 56 = .ok (.imul, 1) := by decide +kernel
theorem d7_57 : decode prog_43_method_9_code 57 = .ok (.iadd, 1) := by decide +kernel
theorem d7_58 : decode prog_43_method_9_code 58 = .ok (.istore_n 3, 1) := by decide +kernel
theorem d7_59 : decode prog_43_method_9_code 59 = .ok (.aload_n 0, 1) := by decide +kernel
theorem d7_60 : decode prog_43_method_9_code 60 = .ok (.getfield 39, 3) := by decide +kernel
theorem d7_63 : decode prog_43_method_9_code 63 = .ok (.iload_n 2, 1) := by decide +kernel
theorem d7_64 : decode prog_43_method_9_code 64 = .ok (.aload_n 1, 1) := by decide +kernel
theorem d7_65 : decode prog_43_method_9_code 65 = .ok (.iload_n 3, 1) := by decide +kernel
theorem d7_66 : decode prog_43_method_9_code 66 = .ok (.laload, 1) := by decide +kernel
theorem d7_67 : decode prog_43_method_9_code 67 = .ok (.lconst 1, 1) := by decide +kernel
theorem d7_68 : decode prog_43_method_9_code 68 = .ok (.land, 1) := by decide +kernel
theorem d7_69 : decode prog_43_method_9_code 69 = .ok (.lconst 0, 1) := by decide +kernel
theorem d7_70 : decode prog_43_method_9_code 70 = .ok (.lcmp, 1) := by decide +kernel
theorem d7_71 : decode prog_43_method_9_code 71 = .ok (.ifCond .eq 7, 3) := by decide +kernel
theorem d7_74 : decode prog_43_method_9_code 74 = .ok (.iconst 1, 1) := by decide +kernel
theorem d7_75 : decode prog_43_method_9_code 75 = .ok (.goto 4, 3) := by decide +kernel
theorem d7_78 : decode prog_43_method_9_code 78 = .ok (.iconst 0, 1) := by decide +kernel
theorem d7_79 : decode prog_43_method_9_code 79 = .ok (.bastore, 1) := by decide +kernel
theorem d7_80 : decode prog_43_method_9_code 80 = .ok (.aload_n 0, 1) := by decide +kernel
theorem d7_81 : decode prog_43_method_9_code 81 = .ok (.getfield 46, 3) := by decide +kernel
theorem d7_84 : decode prog_43_method_9_code 84 = .ok (.iload_n 2, 1) := by decide +kernel
theorem d7_85 : decode prog_43_method_9_code 85 = .ok (.aload_n 1, 1) := by decide +kernel
theorem d7_86 : decode prog_43_method_9_code 86 = .ok (.iload_n 3, 1) := by decide +kernel
theorem d7_87 : decode prog_43_method_9_code 87 = .ok (.laload, 1) := by decide +kernel
theorem d7_88 : decode prog_43_method_9_code 88 = .ok (.ldc2_w 82, 3) := by decide +kernel
theorem d7_91 : decode prog_43_method_9_code 91 = .ok (.land, 1) := by decide +kernel
theorem d7_92 : decode prog_43_method_9_code 92 = .ok (.lconst 0, 1) := by decide +kernel
theorem d7_93 : decode prog_43_method_9_code 93 = .ok (.lcmp, 1) := by decide +kernel
theorem d7_94 : decode prog_43_method_9_code 94 = .ok (.ifCond .eq 7, 3) := by decide +kernel
theorem d7_97 : decode prog_43_method_9_code 97 = .ok (.iconst 1, 1) := by decide +kernel
theorem d7_98 : decode prog_43_method_9_code 98 = .ok (.goto 4, 3) := by decide +kernel
theorem d7_101 : decode prog_43_method_9_code 101 = .ok (.iconst 0, 1) := by decide +kernel
theorem d7_102 : decode prog_43_method_9_code 102 = .ok (.bastore, 1) := by decide +kernel
theorem d7_103 : decode prog_43_method_9_code 103 = .ok (.aload_n 0, 1) := by decide +kernel
theorem d7_104 : decode prog_43_method_9_code 104 = .ok (.getfield 49, 3) := by decide +kernel
theorem d7_107 : decode prog_43_method_9_code 107 = .ok (.iload_n 2, 1) := by decide +kernel
theorem d7_108 : decode prog_43_method_9_code 108 = .ok (.aload_n 1, 1) := by decide +kernel
theorem d7_109 : decode prog_43_method_9_code 109 = .ok (.iload_n 3, 1) := by decide +kernel
theorem d7_110 : decode prog_43_method_9_code 110 = .ok (.laload, 1) := by decide +kernel
theorem d7_111 : decode prog_43_method_9_code 111 = .ok (.ldc2_w 84, 3) := by decide +kernel
theorem d7_114 : decode prog_43_method_9_code 114 = .ok (.land, 1) := by decide +kernel
theorem d7_115 : decode prog_43_method_9_code 115 = .ok (.lconst 0, 1) := by decide +kernel
theorem d7_116 : decode prog_43_method_9_code 116 = .ok (.lcmp, 1) := by decide +kernel
theorem d7_117 : decode prog_43_method_9_code 117 = .ok (.ifCond .eq 7, 3) := by decide +kernel
theorem d7_120 : decode prog_43_method_9_code 120 = .ok (.iconst 1, 1) := by decide +kernel
theorem d7_121 : decode prog_43_method_9_code 121 = .ok (.goto 4, 3) := by decide +kernel
theorem d7_124 : decode prog_43_method_9_code 124 = .ok (.iconst 0, 1) := by decide +kernel
theorem d7_125 : decode prog_43_method_9_code 125 = .ok (.bastore, 1) := by decide +kernel
theorem d7_126 : decode prog_43_method_9_code 126 = .ok (.aload_n 0, 1) := by decide +kernel
theorem d7_127 : decode prog_43_method_9_code 127 = .ok (.getfield 35, 3) := by decide +kernel
theorem d7_130 : decode prog_43_method_9_code 130 = .ok (.iload_n 2, 1) := by decide +kernel
theorem d7_131 : decode prog_43_method_9_code 131 = .ok (.aload_n 1, 1) := by decide +kernel
theorem d7_132 : decode prog_43_method_9_code 132 = .ok (.iload_n 3, 1) := by decide +kernel
theorem d7_133 : decode prog_43_method_9_code 133 = .ok (.iconst 1, 1) := by decide +kernel
theorem d7_134 : decode prog_43_method_9_code 134 = .ok (.iadd, 1) := by decide +kernel
theorem d7_135 : decode prog_43_method_9_code 135 = .ok (.laload, 1) := by decide +kernel
theorem d7_136 : decode prog_43_method_9_code 136 = .ok (.lastore, 1) := by decide +kernel
theorem d7_137 : decode prog_43_method_9_code 137 = .ok (.aload_n 0, 1) := by decide +kernel
theorem d7_138 : decode prog_43_method_9_code 138 = .ok (.getfield 43, 3) := by decide +kernel
theorem d7_141 : decode prog_43_method_9_code 141 = .ok (.iload_n 2, 1) := by decide +kernel
theorem d7_142 : decode prog_43_method_9_code 142 = .ok (.aload_n 1, 1) := by decide +kernel
theorem d7_143 : decode prog_43_method_9_code 143 = .ok (.iload_n 3, 1) := by decide +kernel
theorem d7_144 : decode prog_43_method_9_code 144 = .ok (.iconst 2, 1) := by decide +kernel
theorem d7_145 : decode prog_43_method_9_code 145 = .ok (.iadd, 1) := by decide +kernel
theorem d7_146 : decode prog_43_method_9_code 146 = .ok (.laload, 1) := by decide +kernel
theorem d7_147 : decode prog_43_method_9_code 147 = .ok (.lastore, 1) := by decide +kernel
theorem d7_148 : decode prog_43_method_9_code 148 = .ok (.aload_n 0, 1) := by decide +kernel
theorem d7_149 : decode prog_43_method_9_code 149 = .ok (.dup, 1) := by decide +kernel
theorem d7_150 : decode prog_43_method_9_code 150 = .ok (.getfield 52, 3) := by decide +kernel
theorem d7_153 : decode prog_43_method_9_code 153 = .ok (.aload_n 0, 1) := by decide +kernel
theorem d7_154 : decode prog_43_method_9_code 154 = .ok (.getfield 46, 3) := by decide +kernel
theorem d7_157 : decode prog_43_method_9_code 157 = .ok (.iload_n 2, 1) := by decide +kernel
theorem d7_158 : decode prog_43_method_9_code 158 = .ok (.baload, 1) := by decide +kernel
theorem d7_159 : decode prog_43_method_9_code 159 = .ok (.ifCond .eq 7, 3) := by decide +kernel
theorem d7_162 : decode prog_43_method_9_code 162 = .ok (.iconst 0, 1) := by decide +kernel
theorem d7_163 : decode prog_43_method_9_code 163 = .ok (.goto 4, 3) := by decide +kernel
theorem d7_166 : decode prog_43_method_9_code 166 = .ok (.iconst 1, 1) := by decide +kernel
theorem d7_167 : decode prog_43_method_9_code 167 = .ok (.iadd, 1) := by decide +kernel
theorem d7_168 : decode prog_43_method_9_code 168 = .ok (.putfield 52, 3) := by decide +kernel
theorem d7_171 : decode prog_43_method_9_code 171 = .ok (.iinc 2 1, 3) := by decide +kernel
theorem d7_174 : decode prog_43_method_9_code 174 = .ok (.goto (-130), 3) := by decide +kernel
theorem d7_177 : decode prog_43_method_9_code 177 = .ok (.return_, 1) := by decide +kernel
theorem ef_7_1 (m : MethodId) (ra : Addr) (rw : Addr) : entryFrame m #[(.ref ra), (.ref rw)] 4 = mkF m 0 #[rv ra, rv rw, u0, u0] [] := by first | (simp [entryFrame, mkF, argsToLocals, Value.category, maxLocals]; done) | rfl
theorem pd_100 : parseMethodDescriptor "([J)V" = some ⟨[(.array .long)], none⟩ := by decide +kernel
theorem own_sn_101 {Z a0} (hw : own_W a0 Z) : own_L Z "last" "[J" ≠ own_L Z "started" "Z" := slot_ne (a0 := a0) (C := own_S) (Or.inr (own_w hw 31 rfl)) (Or.inl (own_w hw 49 rfl)) (by decide) (t := (.array .long)) (t' := .boolean) (by decide) (by decide)
theorem own_sn_102 {Z a0} (hw : own_W a0 Z) : own_L Z "sent" "[Z" ≠ own_L Z "started" "Z" := slot_ne (a0 := a0) (C := own_S) (Or.inr (own_w hw 34 rfl)) (Or.inl (own_w hw 49 rfl)) (by decide) (t := (.array .boolean)) (t' := .boolean) (by decide) (by decide)
theorem own_sn_103 {Z a0} (hw : own_W a0 Z) : own_L Z "runs" "[J" ≠ own_L Z "started" "Z" := slot_ne (a0 := a0) (C := own_S) (Or.inr (own_w hw 36 rfl)) (Or.inl (own_w hw 49 rfl)) (by decide) (t := (.array .long)) (t' := .boolean) (by decide) (by decide)
theorem own_sn_104 {Z a0} (hw : own_W a0 Z) : own_L Z "gone" "[Z" ≠ own_L Z "started" "Z" := slot_ne (a0 := a0) (C := own_S) (Or.inr (own_w hw 38 rfl)) (Or.inl (own_w hw 49 rfl)) (by decide) (t := (.array .boolean)) (t' := .boolean) (by decide) (by decide)
theorem own_sn_105 {Z a0} (hw : own_W a0 Z) : own_L Z "stopped" "[Z" ≠ own_L Z "started" "Z" := slot_ne (a0 := a0) (C := own_S) (Or.inr (own_w hw 40 rfl)) (Or.inl (own_w hw 49 rfl)) (by decide) (t := (.array .boolean)) (t' := .boolean) (by decide) (by decide)
theorem own_sn_106 {Z a0} (hw : own_W a0 Z) : own_L Z "latest" "J" ≠ own_L Z "started" "Z" := slot_ne (a0 := a0) (C := own_S) (Or.inl (own_w hw 51 rfl)) (Or.inl (own_w hw 49 rfl)) (by decide) (t := .long) (t' := .boolean) (by decide) (by decide)
theorem own_sn_107 {Z a0} (hw : own_W a0 Z) : own_L Z "lastLeft" "I" ≠ own_L Z "started" "Z" := slot_ne (a0 := a0) (C := own_S) (Or.inl (own_w hw 25 rfl)) (Or.inl (own_w hw 49 rfl)) (by decide) (t := .int) (t' := .boolean) (by decide) (by decide)
theorem own_sn_108 {Z a0} (hw : own_W a0 Z) : own_L Z "open" "I" ≠ own_L Z "started" "Z" := slot_ne (a0 := a0) (C := own_S) (Or.inl (own_w hw 42 rfl)) (Or.inl (own_w hw 49 rfl)) (by decide) (t := .int) (t' := .boolean) (by decide) (by decide)
theorem own_sn_109 {Z a0} (hw : own_W a0 Z) : own_L Z "last" "[J" ≠ own_L Z "latest" "J" := slot_ne (a0 := a0) (C := own_S) (Or.inr (own_w hw 31 rfl)) (Or.inl (own_w hw 51 rfl)) (by decide) (t := (.array .long)) (t' := .long) (by decide) (by decide)
theorem own_sn_110 {Z a0} (hw : own_W a0 Z) : own_L Z "sent" "[Z" ≠ own_L Z "latest" "J" := slot_ne (a0 := a0) (C := own_S) (Or.inr (own_w hw 34 rfl)) (Or.inl (own_w hw 51 rfl)) (by decide) (t := (.array .boolean)) (t' := .long) (by decide) (by decide)
theorem own_sn_111 {Z a0} (hw : own_W a0 Z) : own_L Z "runs" "[J" ≠ own_L Z "latest" "J" := slot_ne (a0 := a0) (C := own_S) (Or.inr (own_w hw 36 rfl)) (Or.inl (own_w hw 51 rfl)) (by decide) (t := (.array .long)) (t' := .long) (by decide) (by decide)
theorem own_sn_112 {Z a0} (hw : own_W a0 Z) : own_L Z "gone" "[Z" ≠ own_L Z "latest" "J" := slot_ne (a0 := a0) (C := own_S) (Or.inr (own_w hw 38 rfl)) (Or.inl (own_w hw 51 rfl)) (by decide) (t := (.array .boolean)) (t' := .long) (by decide) (by decide)
theorem own_sn_113 {Z a0} (hw : own_W a0 Z) : own_L Z "stopped" "[Z" ≠ own_L Z "latest" "J" := slot_ne (a0 := a0) (C := own_S) (Or.inr (own_w hw 40 rfl)) (Or.inl (own_w hw 51 rfl)) (by decide) (t := (.array .boolean)) (t' := .long) (by decide) (by decide)
theorem own_sn_114 {Z a0} (hw : own_W a0 Z) : own_L Z "started" "Z" ≠ own_L Z "latest" "J" := slot_ne (a0 := a0) (C := own_S) (Or.inl (own_w hw 49 rfl)) (Or.inl (own_w hw 51 rfl)) (by decide) (t := .boolean) (t' := .long) (by decide) (by decide)
theorem own_sn_115 {Z a0} (hw : own_W a0 Z) : own_L Z "lastLeft" "I" ≠ own_L Z "latest" "J" := slot_ne (a0 := a0) (C := own_S) (Or.inl (own_w hw 25 rfl)) (Or.inl (own_w hw 51 rfl)) (by decide) (t := .int) (t' := .long) (by decide) (by decide)
theorem own_sn_116 {Z a0} (hw : own_W a0 Z) : own_L Z "open" "I" ≠ own_L Z "latest" "J" := slot_ne (a0 := a0) (C := own_S) (Or.inl (own_w hw 42 rfl)) (Or.inl (own_w hw 51 rfl)) (by decide) (t := .int) (t' := .long) (by decide) (by decide)
def Q7_1 (Z : State) (ra : Addr) (rw : Addr) (rl : Addr) (rs : Addr) (rr : Addr) (rg : Addr) (rt : Addr) (sd : Int32) (lt : Int64) (ll : Int32) (op : Int32) (m0 : Int64) (m1 : Int64) (m2 : Int64) (m3 : Int64) (m4 : Int64) (m5 : Int64) (jl0 : Int64) (jr0 : Int64) (bs0 : Int32) (bg0 : Int32) (bt0 : Int32) (h0 : Heap) (n0 : Nat) (v : Option Value) (h : Heap) (L : List Loc) : Prop := v = none ∧ Fr n0 L ∧ Keep h0 h [ra, rs, rg, rt, rl, rr] ∧ Exa Z h ra "com/example/tributary/tributary/io/Silence" ∧ Fld Z h ra own_S "last" "[J" (.ref rl) ∧ Fld Z h ra own_S "sent" "[Z" (.ref rs) ∧ Fld Z h ra own_S "runs" "[J" (.ref rr) ∧ Fld Z h ra own_S "gone" "[Z" (.ref rg) ∧ Fld Z h ra own_S "stopped" "[Z" (.ref rt) ∧ Fld Z h ra own_S "started" "Z" (.int (if m0 = (1 : Int64) then (1 : Int32) else (0 : Int32))) ∧ Fld Z h ra own_S "latest" "J" (.long m1) ∧ Fld Z h ra own_S "lastLeft" "I" (.int (m2).toInt32) ∧ own_AJ Z h rw [m0, m1, m2, m3, m4, m5] ∧ own_AJ Z h rl [m4] ∧ own_AI Z h rs .boolean [((if (m3 &&& (1 : Int64)) = (0 : Int64) then (0 : Int32) else (1 : Int32)) &&& 1)] ∧ own_AJ Z h rr [m5] ∧ own_AI Z h rg .boolean [((if (m3 &&& (2 : Int64)) = (0 : Int64) then (0 : Int32) else (1 : Int32)) &&& 1)] ∧ own_AI Z h rt .boolean [((if (m3 &&& (4 : Int64)) = (0 : Int64) then (0 : Int32) else (1 : Int32)) &&& 1)]
set_option maxRecDepth 65536 in
set_option maxHeartbeats 40000000 in
theorem rm7_1 (l : Launch) (Z : State) (a0 : Array Value) (hw : ∀ d ∈ tables_1, d.before a0 Z = true) (ws : List Jvm.Cond) (ra : Addr) (rw : Addr) (rl : Addr) (rs : Addr) (rr : Addr) (rg : Addr) (rt : Addr) (sd : Int32) (lt : Int64) (ll : Int32) (op : Int32) (m0 : Int64) (m1 : Int64) (m2 : Int64) (m3 : Int64) (m4 : Int64) (m5 : Int64) (jl0 : Int64) (jr0 : Int64) (bs0 : Int32) (bg0 : Int32) (bt0 : Int32) (h0 : Heap) (n0 : Nat) (Z0 : n0 ≤ h0.size) (PA0 : own_AJ Z h0 rw [m0, m1, m2, m3, m4, m5]) (PA1 : own_AJ Z h0 rl [jl0]) (PA2 : own_AI Z h0 rs .boolean [bs0]) (PA3 : own_AJ Z h0 rr [jr0]) (PA4 : own_AI Z h0 rg .boolean [bg0]) (PA5 : own_AI Z h0 rt .boolean [bt0]) (PE0 : Exa Z h0 ra "com/example/tributary/tributary/io/Silence") (PF0 : Fld Z h0 ra own_S "last" "[J" (.ref rl)) (PF1 : Fld Z h0 ra own_S "sent" "[Z" (.ref rs)) (PF2 : Fld Z h0 ra own_S "runs" "[J" (.ref rr)) (PF3 : Fld Z h0 ra own_S "gone" "[Z" (.ref rg)) (PF4 : Fld Z h0 ra own_S "stopped" "[Z" (.ref rt)) (PF5 : Fld Z h0 ra own_S "started" "Z" (.int sd)) (PF6 : Fld Z h0 ra own_S "latest" "J" (.long lt)) (PF7 : Fld Z h0 ra own_S "lastLeft" "I" (.int ll)) (PF8 : Fld Z h0 ra own_S "open" "I" (.int op)) (PG0 : n0 ≤ ra) (PG1 : n0 ≤ rs) (PG2 : n0 ≤ rg) (PG3 : n0 ≤ rt) (PG4 : n0 ≤ rl) (PG5 : n0 ≤ rr) (PN0 : rw ≠ rl) (PN1 : rw ≠ rs) (PN2 : rw ≠ rr) (PN3 : rw ≠ rg) (PN4 : rw ≠ rt) (PN5 : rw ≠ ra) (PN6 : rl ≠ rs) (PN7 : rl ≠ rr) (PN8 : rl ≠ rg) (PN9 : rl ≠ rt) (PN10 : rl ≠ ra) (PN11 : rs ≠ rr) (PN12 : rs ≠ rg) (PN13 : rs ≠ rt) (PN14 : rs ≠ ra) (PN15 : rr ≠ rg) (PN16 : rr ≠ rt) (PN17 : rr ≠ ra) (PN18 : rg ≠ rt) (PN19 : rg ≠ ra) (PN20 : rt ≠ ra) (H0 : m0 = (0 : Int64) ∨ m0 = (1 : Int64)) (H2 : ¬ m2 < (-1 : Int64) ∧ m2 < (1 : Int64)) (HF0 : ¬ m3 < (0 : Int64) ∧ ¬ (7 : Int64) < m3 ∧ (if (m3 &&& (4 : Int64)) = (0 : Int64) then (0 : Int32) else (if (m3 &&& (2 : Int64)) = (0 : Int64) then (1 : Int32) else (0 : Int32))) = (0 : Int32) ∧ (if (m3 &&& (1 : Int64)) = (0 : Int64) then (0 : Int32) else (if m0 = (0 : Int64) then (1 : Int32) else (0 : Int32))) = (0 : Int32)) (HL : ¬ m2 < (0 : Int64) → ¬ ((([m0, m1, m2, m3, m4, m5] : List Int64).getD (((3 : Int32) + ((3 : Int32) * (m2).toInt32))).toInt.toNat 0) &&& (4 : Int64)) = (0 : Int64)) :
    MetFree l (⟨"com/example/tributary/tributary/io/Silence", "resume", "([J)V"⟩ : MethodName) (head1 (Jvm.Cond.code (⟨"com/example/tributary/tributary/io/Silence", "resume", "([J)V"⟩ : MethodName) prog_43_method_9_code 4 none :: ws) ({ frames := 1, cells := 0, slots := 0, locals := 19 } : Room)) (fun a U => a = #[(.ref ra), (.ref rw)] ∧ Z.Warmed39 U.vm ∧ U.heap = h0) (fun _ _ _ _ _ => True) (fun _ U o U' => ∃ v L, o = .returned v ∧ Q7_1 Z ra rw rl rs rr rg rt sd lt ll op m0 m1 m2 m3 m4 m5 jl0 jr0 bs0 bg0 bt0 h0 n0 v U'.heap L ∧ FrameEnd U o U' L ({ frames := 1, cells := 0, slots := 0, locals := 19 } : Room).cells ({ frames := 1, cells := 0, slots := 0, locals := 19 } : Room).slots) := by
  refine MetFree.of_bodySF (plainFor_of_name pn_4) hisR ?_
  intro p e s m args below meth c s₁ Bd hml0 hP hK
  obtain ⟨rfl, hZ, hh⟩ := hP
  have hx := Bd.exec
  have hby := Bd.bytes
  have hml : c.maxLocals = 4 := hml0
  have hown : s.vm.findClass "com/example/tributary/tributary/io/Silence" = some m.cls := findClass_of_methodNamed Bd.named
  have hnm := (name_of_methodNamed Bd.named Bd.method).1
  have X0 : Stand p l e ({ frames := 1, cells := 0, slots := 0, locals := 19 } : Room) s m #[(.ref ra), (.ref rw)] below meth c s₁ [] 0 0 := Stand.of_body Bd
  have hlk : meth.locks = false := by first | exact BodyLoose.notSynchronized (by assumption) | exact Body.notSynchronized (by assumption)
  have e0 : s₁.heap = h0 := by rw [← hh, Bd.state]; rfl
  have N0 := Fr.nil n0
  have pre0 : ∀ t, Steps p.tables e below (s₁.setTop (mkF m 0 #[rv ra, rv rw, u0, u0] [])) t → Steps p.tables e below (s₁.setTop (entryFrame m #[(.ref ra), (.ref rw)] 4)) t := fun t k => castTop (ef_7_1 m ra rw) k
  generalize s₁.setTop (entryFrame m #[(.ref ra), (.ref rw)] 4) = B0 at pre0 ⊢
  have H : ∀ (i : Nat) {d : Jvm.Cond}, tables_1[i]? = some d → d.before a0 Z = true := fun i d q => hw d (List.mem_of_getElem? q)
  have D : ∀ {pc : Nat} {r : Except DecodeError (Instr × Nat)}, decode prog_43_method_9_code pc = r → decode c.code pc = r := fun q => hb hby q
  obtain ⟨cq1, q1, q1'⟩ := PE0.cell
  obtain ⟨_, _, ⟨T1, L1, k1, n1⟩, -, X1, ⟨Lc1, hQ1, l1, y1, z1⟩, st1⟩ := own_privateBack X0 hx (y := (⟨"com/example/tributary/tributary/io/Silence", "requireMeasured", "([J)V"⟩ : MethodName)) (y' := (⟨"com/example/tributary/tributary/io/Silence", "measured", "()[J"⟩ : MethodName)) rfl hown (mvT hZ (H 58 rfl)) (mvT hZ (H 59 rfl)) (mvT hZ (H 46 rfl)) (Cond.privateMethod_at (mvP hZ (H 60 rfl) (args := #[]))) (mvT hZ (H 61 rfl)) (by decide) (backOf (W := 0) (rm8_1 l Z a0 hw [] ra rw rg m0 m1 m2 m3 m4 m5 bg0 h0 n0 Z0 PA0 PA4 PE0 PF3 H0 H2 HF0 HL) hZ (H 61 rfl) (H 14 rfl) (by decide) (by decide)) (g := (mkF m 2 #[rv ra, rv rw, u0, u0] [(.ref rw), (.ref ra)])) rfl (by rw [hml]; rfl) (Steps.refl _) (a := ra) (by rw [e0]; exact q1) q1' (argsL := [(.ref rw)]) (rest := []) (lenOf pd_100 rfl) rfl (by show 2 * 0 + _ ≤ _; exact Nat.le_of_eq rfl) (D d7_2) (fun _ _ => ⟨rfl, e0, (by decide : 0 + 0 ≤ _), (by decide : 0 + 0 ≤ _)⟩)
  dsimp only [Pt.U, Pt.locs, Pt.cells, Pt.slots] at X1 l1 y1 z1 st1 hQ1
  replace y1 : k1 = 0 := y1
  replace z1 : n1 = 0 := z1
  replace l1 := l1.symm; replace y1 := y1.symm; replace z1 := z1.symm; subst l1 y1 z1
  obtain ⟨rfl, N1q, e1⟩ := hQ1
  have N1 := Fr.app N0 N1q
  have pre3 : ∀ t, Steps p.tables e below (T1.setTop (mkF m 11 #[rv ra, rv rw, u0, u0] [(.int (lcmpW m0 (1 : Int64))), (.ref ra)])) t → Steps p.tables e below B0 t := by
    intro t k
    refine pre0 t ?_
    show Steps p.tables e below (s₁.setTop (mkF m 0 #[rv ra, rv rw, u0, u0] [])) _
    refine XS.aloadN X0.here hx rfl (D d7_0) rfl rfl ?_
    refine XS.aloadN X0.here hx rfl (D d7_1) rfl rfl ?_
    refine st1.trans ?_
    refine XS.aloadN X1.here hx rfl (D d7_5) rfl rfl ?_
    refine XS.aloadN X1.here hx rfl (D d7_6) rfl rfl ?_
    refine XS.iconst X1.here hx rfl (D d7_7) ?_
    refine own_laload X1 hx hZ e1 PA0 (show 0 ≤ Int32.toInt (0 : Int32) ∧ Int32.toInt (0 : Int32) < ((6 : Nat) : Int) by decide) (D d7_8) _ ?_
    refine XS.lconst X1.here hx rfl (D d7_9) ?_
    refine XS.lcmp X1.here hx rfl (D d7_10) rfl ?_
    exact k
  clear st1 N1q
  have pre4 : ∀ t, Steps p.tables e below (T1.setTop (mkF m 19 #[rv ra, rv rw, u0, u0] [(.int (if m0 = (1 : Int64) then (1 : Int32) else (0 : Int32))), (.ref ra)])) t → Steps p.tables e below B0 t := by
    by_cases c2 : m0 = (1 : Int64)
    · try simp only [if_pos c2]
      intro t k
      refine pre3 t ?_
      show Steps p.tables e below (T1.setTop (mkF m 11 #[rv ra, rv rw, u0, u0] [(.int (lcmpW m0 (1 : Int64))), (.ref ra)])) _
      refine XS.ifNo X1.here hx rfl (D d7_11) rfl ((if0 _ _).trans (teq ((lw_eq m0 (1 : Int64)).mpr c2)).2) ?_
      refine XS.iconst X1.here hx rfl (D d7_14) ?_
      refine XS.goto X1.here hx rfl (pc0 := 15) (pc' := 19) rfl (D d7_15) (by decide) (by decide) ?_
      exact k
    · try simp only [if_neg c2]
      intro t k
      refine pre3 t ?_
      show Steps p.tables e below (T1.setTop (mkF m 11 #[rv ra, rv rw, u0, u0] [(.int (lcmpW m0 (1 : Int64))), (.ref ra)])) _
      refine XS.ifYes X1.here hx rfl (pc0 := 11) (pc' := 18) rfl (D d7_11) rfl ((if0 _ _).trans (feq (mt (lw_eq m0 (1 : Int64)).mp c2)).2) (by decide) (by decide) ?_
      refine XS.iconst X1.here hx rfl (D d7_18) ?_
      exact k
  obtain ⟨T5, h5, X5, e5, W5, st5⟩ := putF X1 hx hZ hown (host := "") (Or.inl (H 48 rfl)) Via.refl e1 PF5 PE0 (Or.inl (H 49 rfl)) (H 13 rfl) (ty := .boolean) (by decide) (own_nb _ _ _ (by decide) (by decide)) (own_fb _ _ _ (by decide) (by decide)) (g := (mkF m 19 #[rv ra, rv rw, u0, u0] [(.int (if m0 = (1 : Int64) then (1 : Int32) else (0 : Int32))), (.ref ra)])) rfl rfl (D d7_19)
  have V5_rw := PA0.other W5 PN5
  have V5_rl := PA1.other W5 PN10
  have V5_rs := PA2.other W5 PN14
  have V5_rr := PA3.other W5 PN17
  have V5_rg := PA4.other W5 PN19
  have V5_rt := PA5.other W5 PN20
  have A5_ra := PE0.wr W5
  have F5_ra_0 := PF0.other W5 (Or.inr (own_sn_101 hw))
  have F5_ra_1 := PF1.other W5 (Or.inr (own_sn_102 hw))
  have F5_ra_2 := PF2.other W5 (Or.inr (own_sn_103 hw))
  have F5_ra_3 := PF3.other W5 (Or.inr (own_sn_104 hw))
  have F5_ra_4 := PF4.other W5 (Or.inr (own_sn_105 hw))
  have F5_ra_6 := PF6.other W5 (Or.inr (own_sn_106 hw))
  have F5_ra_7 := PF7.other W5 (Or.inr (own_sn_107 hw))
  have F5_ra_8 := PF8.other W5 (Or.inr (own_sn_108 hw))
  have sz5 := Nat.le_trans Z0 (Keep.of_wr W5).1
  have K5 := (Keep.refl h0 ([ra, rs, rg, rt, rl, rr] : List Addr)).wr W5 (Or.inl (by simp))
  have N5 := Fr.snoc X5 N1 PG0
  have F5_s : Fld Z h5 ra own_S "started" "Z" (.int (if m0 = (1 : Int64) then (1 : Int32) else (0 : Int32))) := PF5.same W5
  obtain ⟨T6, h6, X6, e6, W6, st6⟩ := putF X5 hx hZ hown (host := "") (Or.inl (H 50 rfl)) Via.refl e5 F5_ra_6 A5_ra (Or.inl (H 51 rfl)) (H 13 rfl) (ty := .long) (by decide) rfl rfl (g := (mkF m 26 #[rv ra, rv rw, u0, u0] [(.long m1), (.ref ra)])) rfl rfl (D d7_26)
  have V6_rw := V5_rw.other W6 PN5
  have V6_rl := V5_rl.other W6 PN10
  have V6_rs := V5_rs.other W6 PN14
  have V6_rr := V5_rr.other W6 PN17
  have V6_rg := V5_rg.other W6 PN19
  have V6_rt := V5_rt.other W6 PN20
  have A6_ra := A5_ra.wr W6
  have F6_ra_0 := F5_ra_0.other W6 (Or.inr (own_sn_109 hw))
  have F6_ra_1 := F5_ra_1.other W6 (Or.inr (own_sn_110 hw))
  have F6_ra_2 := F5_ra_2.other W6 (Or.inr (own_sn_111 hw))
  have F6_ra_3 := F5_ra_3.other W6 (Or.inr (own_sn_112 hw))
  have F6_ra_4 := F5_ra_4.other W6 (Or.inr (own_sn_113 hw))
  have F6_ra_5 := F5_s.other W6 (Or.inr (own_sn_114 hw))
  have F6_ra_7 := F5_ra_7.other W6 (Or.inr (own_sn_115 hw))
  have F6_ra_8 := F5_ra_8.other W6 (Or.inr (own_sn_116 hw))
  have sz6 := Nat.le_trans sz5 (Keep.of_wr W6).1
  have K6 := K5.wr W6 (Or.inl (by simp))
  have N6 := Fr.snoc X6 N5 PG0
  have F6_s : Fld Z h6 ra own_S "latest" "J" (.long m1) := F5_ra_6.same W6
  obtain ⟨T7, h7, X7, e7, W7, st7⟩ := putF X6 hx hZ hown (host := "") (Or.inl (H 24 rfl)) Via.refl e6 F6_ra_7 A6_ra (Or.inl (H 25 rfl)) (H 13 rfl) (ty := .int) (by decide) rfl rfl (g := (mkF m 34 #[rv ra, rv rw, u0, u0] [(.int (m2).toInt32), (.ref ra)])) rfl rfl (D d7_34)
  have V7_rw := V6_rw.other W7 PN5
  have V7_rl := V6_rl.other W7 PN10
  have V7_rs := V6_rs.other W7 PN14
  have V7_rr := V6_rr.other W7 PN17
  have V7_rg := V6_rg.other W7 PN19
  have V7_rt := V6_rt.other W7 PN20
  have A7_ra := A6_ra.wr W7
  have F7_ra_0 := F6_ra_0.other W7 (Or.inr (own_sn_7 hw))
  have F7_ra_1 := F6_ra_1.other W7 (Or.inr (own_sn_8 hw))
  have F7_ra_2 := F6_ra_2.other W7 (Or.inr (own_sn_9 hw))
  have F7_ra_3 := F6_ra_3.other W7 (Or.inr (own_sn_10 hw))
  have F7_ra_4 := F6_ra_4.other W7 (Or.inr (own_sn_11 hw))
  have F7_ra_5 := F6_ra_5.other W7 (Or.inr (own_sn_13 hw))
  have F7_ra_6 := F6_s.other W7 (Or.inr (own_sn_14 hw))
  have F7_ra_8 := F6_ra_8.other W7 (Or.inr (own_sn_12 hw))
  have sz7 := Nat.le_trans sz6 (Keep.of_wr W7).1
  have K7 := K6.wr W7 (Or.inl (by simp))
  have N7 := Fr.snoc X7 N6 PG0
  have F7_s : Fld Z h7 ra own_S "lastLeft" "I" (.int (m2).toInt32) := F6_ra_7.same W7
  obtain ⟨T8, h8, X8, e8, W8, st8⟩ := putF X7 hx hZ hown (host := "") (Or.inl (H 41 rfl)) Via.refl e7 F7_ra_8 A7_ra (Or.inl (H 42 rfl)) (H 13 rfl) (ty := .int) (by decide) rfl rfl (g := (mkF m 39 #[rv ra, rv rw, u0, u0] [(.int (0 : Int32)), (.ref ra)])) rfl rfl (D d7_39)
  have V8_rw := V7_rw.other W8 PN5
  have V8_rl := V7_rl.other W8 PN10
  have V8_rs := V7_rs.other W8 PN14
  have V8_rr := V7_rr.other W8 PN17
  have V8_rg := V7_rg.other W8 PN19
  have V8_rt := V7_rt.other W8 PN20
  have A8_ra := A7_ra.wr W8
  have F8_ra_0 := F7_ra_0.other W8 (Or.inr (own_sn_88 hw))
  have F8_ra_1 := F7_ra_1.other W8 (Or.inr (own_sn_89 hw))
  have F8_ra_2 := F7_ra_2.other W8 (Or.inr (own_sn_90 hw))
  have F8_ra_3 := F7_ra_3.other W8 (Or.inr (own_sn_91 hw))
  have F8_ra_4 := F7_ra_4.other W8 (Or.inr (own_sn_92 hw))
  have F8_ra_5 := F7_ra_5.other W8 (Or.inr (own_sn_93 hw))
  have F8_ra_6 := F7_ra_6.other W8 (Or.inr (own_sn_94 hw))
  have F8_ra_7 := F7_s.other W8 (Or.inr (own_sn_85 hw))
  have sz8 := Nat.le_trans sz7 (Keep.of_wr W8).1
  have K8 := K7.wr W8 (Or.inl (by simp))
  have N8 := Fr.snoc X8 N7 PG0
  have F8_s : Fld Z h8 ra own_S "open" "I" (.int (0 : Int32)) := F7_ra_8.same W8
  obtain ⟨T9, X9, e9, st9⟩ := getF X8 hx hZ hown (host := "") (Or.inl (H 37 rfl)) Via.refl e8 F8_ra_3 (g := (mkF m 46 #[rv ra, rv rw, iv (0 : Int32), u0] [(.ref ra), (.int (0 : Int32))])) rfl rfl (D d7_46)
  obtain ⟨T10, X10, e10, st10⟩ := getF X9 hx hZ hown (host := "") (Or.inl (H 33 rfl)) Via.refl e9 F8_ra_1 (g := (mkF m 60 #[rv ra, rv rw, iv (0 : Int32), iv (3 : Int32)] [(.ref ra)])) rfl rfl (D d7_60)
  have pre12 : ∀ t, Steps p.tables e below (T10.setTop (mkF m 71 #[rv ra, rv rw, iv (0 : Int32), iv (3 : Int32)] [(.int (lcmpW (m3 &&& (1 : Int64)) (0 : Int64))), (.int (0 : Int32)), (.ref rs)])) t → Steps p.tables e below B0 t := by
    intro t k
    refine pre4 t ?_
    show Steps p.tables e below (T1.setTop (mkF m 19 #[rv ra, rv rw, u0, u0] [(.int (if m0 = (1 : Int64) then (1 : Int32) else (0 : Int32))), (.ref ra)])) _
    refine st5 _ ?_
    refine XS.aloadN X5.here hx rfl (D d7_22) rfl rfl ?_
    refine XS.aloadN X5.here hx rfl (D d7_23) rfl rfl ?_
    refine XS.iconst X5.here hx rfl (D d7_24) ?_
    refine own_laload X5 hx hZ e5 V5_rw (show 0 ≤ Int32.toInt (1 : Int32) ∧ Int32.toInt (1 : Int32) < ((6 : Nat) : Int) by decide) (D d7_25) _ ?_
    refine st6 _ ?_
    refine XS.aloadN X6.here hx rfl (D d7_29) rfl rfl ?_
    refine XS.aloadN X6.here hx rfl (D d7_30) rfl rfl ?_
    refine XS.iconst X6.here hx rfl (D d7_31) ?_
    refine own_laload X6 hx hZ e6 V6_rw (show 0 ≤ Int32.toInt (2 : Int32) ∧ Int32.toInt (2 : Int32) < ((6 : Nat) : Int) by decide) (D d7_32) _ ?_
    refine XS.l2i X6.here hx rfl (D d7_33) rfl ?_
    refine st7 _ ?_
    refine XS.aloadN X7.here hx rfl (D d7_37) rfl rfl ?_
    refine XS.iconst X7.here hx rfl (D d7_38) ?_
    refine st8 _ ?_
    refine XS.iconst X8.here hx rfl (D d7_42) ?_
    refine XS.istoreN X8.here hx rfl (D d7_43) rfl (l' := #[rv ra, rv rw, iv (0 : Int32), u0]) rfl ?_
    refine XS.iloadN X8.here hx rfl (D d7_44) rfl ?_
    refine XS.aloadN X8.here hx rfl (D d7_45) rfl rfl ?_
    refine st9 _ ?_
    refine own_alenI X9 hx hZ e9 V8_rg (D d7_49) _ ?_
    show Steps p.tables e below (T9.setTop (mkF m 50 #[rv ra, rv rw, iv (0 : Int32), u0] [(.int (1 : Int32)), (.int (0 : Int32))])) _
    refine XS.icmpNo X9.here hx rfl (D d7_50) rfl (by decide) ?_
    refine XS.iconst X9.here hx rfl (D d7_53) ?_
    refine XS.iconst X9.here hx rfl (D d7_54) ?_
    refine XS.iloadN X9.here hx rfl (D d7_55) rfl ?_
    refine XS.imul X9.here hx rfl (D d7_56) rfl ?_
    refine XS.iadd X9.here hx rfl (D d7_57) rfl ?_
    refine XS.istoreN X9.here hx rfl (D d7_58) rfl (l' := #[rv ra, rv rw, iv (0 : Int32), iv (3 : Int32)]) rfl ?_
    refine XS.aloadN X9.here hx rfl (D d7_59) rfl rfl ?_
    refine st10 _ ?_
    refine XS.iloadN X10.here hx rfl (D d7_63) rfl ?_
    show Steps p.tables e below (T10.setTop (mkF m 64 #[rv ra, rv rw, iv (0 : Int32), iv (3 : Int32)] [(.int (0 : Int32)), (.ref rs)])) _
    refine XS.aloadN X10.here hx rfl (D d7_64) rfl rfl ?_
    refine XS.iloadN X10.here hx rfl (D d7_65) rfl ?_
    refine own_laload X10 hx hZ e10 V8_rw (show 0 ≤ Int32.toInt (3 : Int32) ∧ Int32.toInt (3 : Int32) < ((6 : Nat) : Int) by decide) (D d7_66) _ ?_
    refine XS.lconst X10.here hx rfl (D d7_67) ?_
    refine XS.land X10.here hx rfl (D d7_68) rfl ?_
    refine XS.lconst X10.here hx rfl (D d7_69) ?_
    refine XS.lcmp X10.here hx rfl (D d7_70) rfl ?_
    exact k
  clear X1 e1 N1 pre3 pre4 X5 e5 W5 st5 V5_rw V5_rl V5_rs V5_rr V5_rg V5_rt A5_ra F5_ra_0 F5_ra_1 F5_ra_2 F5_ra_3 F5_ra_4 F5_ra_6 F5_ra_7 F5_ra_8 sz5 K5 N5 F5_s X6 e6 W6 st6 V6_rw V6_rl V6_rs V6_rr V6_rg V6_rt A6_ra F6_ra_0 F6_ra_1 F6_ra_2 F6_ra_3 F6_ra_4 F6_ra_5 F6_ra_7 F6_ra_8 sz6 K6 N6 F6_s X7 e7 W7 st7 V7_rw V7_rl V7_rs V7_rr V7_rg V7_rt A7_ra F7_ra_0 F7_ra_1 F7_ra_2 F7_ra_3 F7_ra_4 F7_ra_5 F7_ra_6 F7_ra_8 sz7 K7 N7 F7_s X8 e8 W8 st8 X9 e9 st9 st10
  have pre13 : ∀ t, Steps p.tables e below (T10.setTop (mkF m 79 #[rv ra, rv rw, iv (0 : Int32), iv (3 : Int32)] [(.int (if (m3 &&& (1 : Int64)) = (0 : Int64) then (0 : Int32) else (1 : Int32))), (.int (0 : Int32)), (.ref rs)])) t → Steps p.tables e below B0 t := by
    by_cases c11 : (m3 &&& (1 : Int64)) = (0 : Int64)
    · try simp only [if_pos c11]
      intro t k
      refine pre12 t ?_
      show Steps p.tables e below (T10.setTop (mkF m 71 #[rv ra, rv rw, iv (0 : Int32), iv (3 : Int32)] [(.int (lcmpW (m3 &&& (1 : Int64)) (0 : Int64))), (.int (0 : Int32)), (.ref rs)])) _
      refine XS.ifYes X10.here hx rfl (pc0 := 71) (pc' := 78) rfl (D d7_71) rfl ((if0 _ _).trans (teq ((lw_eq (m3 &&& (1 : Int64)) (0 : Int64)).mpr c11)).1) (by decide) (by decide) ?_
      refine XS.iconst X10.here hx rfl (D d7_78) ?_
      exact k
    · try simp only [if_neg c11]
      intro t k
      refine pre12 t ?_
      show Steps p.tables e below (T10.setTop (mkF m 71 #[rv ra, rv rw, iv (0 : Int32), iv (3 : Int32)] [(.int (lcmpW (m3 &&& (1 : Int64)) (0 : Int64))), (.int (0 : Int32)), (.ref rs)])) _
      refine XS.ifNo X10.here hx rfl (D d7_71) rfl ((if0 _ _).trans (feq (mt (lw_eq (m3 &&& (1 : Int64)) (0 : Int64)).mp c11)).1) ?_
      refine XS.iconst X10.here hx rfl (D d7_74) ?_
      refine XS.goto X10.here hx rfl (pc0 := 75) (pc' := 79) rfl (D d7_75) (by decide) (by decide) ?_
      exact k
  obtain ⟨T14, h14, X14, e14, W14, V14, st14⟩ := own_bastoreZ X10 hx hZ e10 V8_rs (j := (0 : Int32)) (show 0 ≤ Int32.toInt (0 : Int32) ∧ Int32.toInt (0 : Int32) < ((1 : Nat) : Int) by decide) (x := (if (m3 &&& (1 : Int64)) = (0 : Int64) then (0 : Int32) else (1 : Int32))) (D d7_79)
  have V14_rw := V8_rw.other W14 PN1
  have V14_rl := V8_rl.other W14 PN6
  have V14_rr := V8_rr.other W14 (Ne.symm PN11)
  have V14_rg := V8_rg.other W14 (Ne.symm PN12)
  have V14_rt := V8_rt.other W14 (Ne.symm PN13)
  have A14_ra := A8_ra.wr W14
  have F14_ra_0 := F8_ra_0.other W14 (Or.inl (Ne.symm PN14))
  have F14_ra_1 := F8_ra_1.other W14 (Or.inl (Ne.symm PN14))
  have F14_ra_2 := F8_ra_2.other W14 (Or.inl (Ne.symm PN14))
  have F14_ra_3 := F8_ra_3.other W14 (Or.inl (Ne.symm PN14))
  have F14_ra_4 := F8_ra_4.other W14 (Or.inl (Ne.symm PN14))
  have F14_ra_5 := F8_ra_5.other W14 (Or.inl (Ne.symm PN14))
  have F14_ra_6 := F8_ra_6.other W14 (Or.inl (Ne.symm PN14))
  have F14_ra_7 := F8_ra_7.other W14 (Or.inl (Ne.symm PN14))
  have F14_ra_8 := F8_s.other W14 (Or.inl (Ne.symm PN14))
  have sz14 := Nat.le_trans sz8 (Keep.of_wr W14).1
  have K14 := K8.wr W14 (Or.inl (by simp))
  have N14 := Fr.snoc X14 N8 PG1
  have V14_n : own_AI Z h14 rs .boolean [((if (m3 &&& (1 : Int64)) = (0 : Int64) then (0 : Int32) else (1 : Int32)) &&& 1)] := V14
  obtain ⟨T15, X15, e15, st15⟩ := getF X14 hx hZ hown (host := "") (Or.inl (H 37 rfl)) Via.refl e14 F14_ra_3 (g := (mkF m 81 #[rv ra, rv rw, iv (0 : Int32), iv (3 : Int32)] [(.ref ra)])) rfl rfl (D d7_81)
  have pre17 : ∀ t, Steps p.tables e below (T15.setTop (mkF m 94 #[rv ra, rv rw, iv (0 : Int32), iv (3 : Int32)] [(.int (lcmpW (m3 &&& (2 : Int64)) (0 : Int64))), (.int (0 : Int32)), (.ref rg)])) t → Steps p.tables e below B0 t := by
    intro t k
    refine pre13 t ?_
    show Steps p.tables e below (T10.setTop (mkF m 79 #[rv ra, rv rw, iv (0 : Int32), iv (3 : Int32)] [(.int (if (m3 &&& (1 : Int64)) = (0 : Int64) then (0 : Int32) else (1 : Int32))), (.int (0 : Int32)), (.ref rs)])) _
    refine st14 _ ?_
    refine XS.aloadN X14.here hx rfl (D d7_80) rfl rfl ?_
    refine st15 _ ?_
    refine XS.iloadN X15.here hx rfl (D d7_84) rfl ?_
    refine XS.aloadN X15.here hx rfl (D d7_85) rfl rfl ?_
    refine XS.iloadN X15.here hx rfl (D d7_86) rfl ?_
    refine own_laload X15 hx hZ e15 V14_rw (show 0 ≤ Int32.toInt (3 : Int32) ∧ Int32.toInt (3 : Int32) < ((6 : Nat) : Int) by decide) (D d7_87) _ ?_
    refine X15.ldc2Long hx hown (mvT hZ (H 65 rfl)) (g := (mkF m 88 #[rv ra, rv rw, iv (0 : Int32), iv (3 : Int32)] [(.long m3), (.int (0 : Int32)), (.ref rg)])) rfl (D d7_88) _ ?_
    refine XS.land X15.here hx rfl (D d7_91) rfl ?_
    refine XS.lconst X15.here hx rfl (D d7_92) ?_
    refine XS.lcmp X15.here hx rfl (D d7_93) rfl ?_
    exact k
  clear V8_rw V8_rl V8_rs V8_rr V8_rg V8_rt A8_ra F8_ra_0 F8_ra_1 F8_ra_2 F8_ra_3 F8_ra_4 F8_ra_5 F8_ra_6 F8_ra_7 sz8 K8 N8 F8_s X10 e10 pre12 pre13 X14 e14 W14 V14 st14 st15
  have pre18 : ∀ t, Steps p.tables e below (T15.setTop (mkF m 102 #[rv ra, rv rw, iv (0 : Int32), iv (3 : Int32)] [(.int (if (m3 &&& (2 : Int64)) = (0 : Int64) then (0 : Int32) else (1 : Int32))), (.int (0 : Int32)), (.ref rg)])) t → Steps p.tables e below B0 t := by
    by_cases c16 : (m3 &&& (2 : Int64)) = (0 : Int64)
    · try simp only [if_pos c16]
      intro t k
      refine pre17 t ?_
      show Steps p.tables e below (T15.setTop (mkF m 94 #[rv ra, rv rw, iv (0 : Int32), iv (3 : Int32)] [(.int (lcmpW (m3 &&& (2 : Int64)) (0 : Int64))), (.int (0 : Int32)), (.ref rg)])) _
      refine XS.ifYes X15.here hx rfl (pc0 := 94) (pc' := 101) rfl (D d7_94) rfl ((if0 _ _).trans (teq ((lw_eq (m3 &&& (2 : Int64)) (0 : Int64)).mpr c16)).1) (by decide) (by decide) ?_
      refine XS.iconst X15.here hx rfl (D d7_101) ?_
      exact k
    · try simp only [if_neg c16]
      intro t k
      refine pre17 t ?_
      show Steps p.tables e below (T15.setTop (mkF m 94 #[rv ra, rv rw, iv (0 : Int32), iv (3 : Int32)] [(.int (lcmpW (m3 &&& (2 : Int64)) (0 : Int64))), (.int (0 : Int32)), (.ref rg)])) _
      refine XS.ifNo X15.here hx rfl (D d7_94) rfl ((if0 _ _).trans (feq (mt (lw_eq (m3 &&& (2 : Int64)) (0 : Int64)).mp c16)).1) ?_
      refine XS.iconst X15.here hx rfl (D d7_97) ?_
      refine XS.goto X15.here hx rfl (pc0 := 98) (pc' := 102) rfl (D d7_98) (by decide) (by decide) ?_
      exact k
  obtain ⟨T19, h19, X19, e19, W19, V19, st19⟩ := own_bastoreZ X15 hx hZ e15 V14_rg (j := (0 : Int32)) (show 0 ≤ Int32.toInt (0 : Int32) ∧ Int32.toInt (0 : Int32) < ((1 : Nat) : Int) by decide) (x := (if (m3 &&& (2 : Int64)) = (0 : Int64) then (0 : Int32) else (1 : Int32))) (D d7_102)
  have V19_rw := V14_rw.other W19 PN3
  have V19_rl := V14_rl.other W19 PN8
  have V19_rs := V14_n.other W19 PN12
  have V19_rr := V14_rr.other W19 PN15
  have V19_rt := V14_rt.other W19 (Ne.symm PN18)
  have A19_ra := A14_ra.wr W19
  have F19_ra_0 := F14_ra_0.other W19 (Or.inl (Ne.symm PN19))
  have F19_ra_1 := F14_ra_1.other W19 (Or.inl (Ne.symm PN19))
  have F19_ra_2 := F14_ra_2.other W19 (Or.inl (Ne.symm PN19))
  have F19_ra_3 := F14_ra_3.other W19 (Or.inl (Ne.symm PN19))
  have F19_ra_4 := F14_ra_4.other W19 (Or.inl (Ne.symm PN19))
  have F19_ra_5 := F14_ra_5.other W19 (Or.inl (Ne.symm PN19))
  have F19_ra_6 := F14_ra_6.other W19 (Or.inl (Ne.symm PN19))
  have F19_ra_7 := F14_ra_7.other W19 (Or.inl (Ne.symm PN19))
  have F19_ra_8 := F14_ra_8.other W19 (Or.inl (Ne.symm PN19))
  have sz19 := Nat.le_trans sz14 (Keep.of_wr W19).1
  have K19 := K14.wr W19 (Or.inl (by simp))
  have N19 := Fr.snoc X19 N14 PG2
  have V19_n : own_AI Z h19 rg .boolean [((if (m3 &&& (2 : Int64)) = (0 : Int64) then (0 : Int32) else (1 : Int32)) &&& 1)] := V19
  obtain ⟨T20, X20, e20, st20⟩ := getF X19 hx hZ hown (host := "") (Or.inl (H 39 rfl)) Via.refl e19 F19_ra_4 (g := (mkF m 104 #[rv ra, rv rw, iv (0 : Int32), iv (3 : Int32)] [(.ref ra)])) rfl rfl (D d7_104)
  have pre22 : ∀ t, Steps p.tables e below (T20.setTop (mkF m 117 #[rv ra, rv rw, iv (0 : Int32), iv (3 : Int32)] [(.int (lcmpW (m3 &&& (4 : Int64)) (0 : Int64))), (.int (0 : Int32)), (.ref rt)])) t → Steps p.tables e below B0 t := by
    intro t k
    refine pre18 t ?_
    show Steps p.tables e below (T15.setTop (mkF m 102 #[rv ra, rv rw, iv (0 : Int32), iv (3 : Int32)] [(.int (if (m3 &&& (2 : Int64)) = (0 : Int64) then (0 : Int32) else (1 : Int32))), (.int (0 : Int32)), (.ref rg)])) _
    refine st19 _ ?_
    refine XS.aloadN X19.here hx rfl (D d7_103) rfl rfl ?_
    refine st20 _ ?_
    refine XS.iloadN X20.here hx rfl (D d7_107) rfl ?_
    refine XS.aloadN X20.here hx rfl (D d7_108) rfl rfl ?_
    refine XS.iloadN X20.here hx rfl (D d7_109) rfl ?_
    refine own_laload X20 hx hZ e20 V19_rw (show 0 ≤ Int32.toInt (3 : Int32) ∧ Int32.toInt (3 : Int32) < ((6 : Nat) : Int) by decide) (D d7_110) _ ?_
    refine X20.ldc2Long hx hown (mvT hZ (H 63 rfl)) (g := (mkF m 111 #[rv ra, rv rw, iv (0 : Int32), iv (3 : Int32)] [(.long m3), (.int (0 : Int32)), (.ref rt)])) rfl (D d7_111) _ ?_
    refine XS.land X20.here hx rfl (D d7_114) rfl ?_
    refine XS.lconst X20.here hx rfl (D d7_115) ?_
    refine XS.lcmp X20.here hx rfl (D d7_116) rfl ?_
    exact k
  clear V14_rw V14_rl V14_rr V14_rg V14_rt A14_ra F14_ra_0 F14_ra_1 F14_ra_2 F14_ra_3 F14_ra_4 F14_ra_5 F14_ra_6 F14_ra_7 F14_ra_8 sz14 K14 N14 V14_n X15 e15 pre17 pre18 X19 e19 W19 V19 st19 st20
  have pre23 : ∀ t, Steps p.tables e below (T20.setTop (mkF m 125 #[rv ra, rv rw, iv (0 : Int32), iv (3 : Int32)] [(.int (if (m3 &&& (4 : Int64)) = (0 : Int64) then (0 : Int32) else (1 : Int32))), (.int (0 : Int32)), (.ref rt)])) t → Steps p.tables e below B0 t := by
    by_cases c21 : (m3 &&& (4 : Int64)) = (0 : Int64)
    · try simp only [if_pos c21]
      intro t k
      refine pre22 t ?_
      show Steps p.tables e below (T20.setTop (mkF m 117 #[rv ra, rv rw, iv (0 : Int32), iv (3 : Int32)] [(.int (lcmpW (m3 &&& (4 : Int64)) (0 : Int64))), (.int (0 : Int32)), (.ref rt)])) _
      refine XS.ifYes X20.here hx rfl (pc0 := 117) (pc' := 124) rfl (D d7_117) rfl ((if0 _ _).trans (teq ((lw_eq (m3 &&& (4 : Int64)) (0 : Int64)).mpr c21)).1) (by decide) (by decide) ?_
      refine XS.iconst X20.here hx rfl (D d7_124) ?_
      exact k
    · try simp only [if_neg c21]
      intro t k
      refine pre22 t ?_
      show Steps p.tables e below (T20.setTop (mkF m 117 #[rv ra, rv rw, iv (0 : Int32), iv (3 : Int32)] [(.int (lcmpW (m3 &&& (4 : Int64)) (0 : Int64))), (.int (0 : Int32)), (.ref rt)])) _
      refine XS.ifNo X20.here hx rfl (D d7_117) rfl ((if0 _ _).trans (feq (mt (lw_eq (m3 &&& (4 : Int64)) (0 : Int64)).mp c21)).1) ?_
      refine XS.iconst X20.here hx rfl (D d7_120) ?_
      refine XS.goto X20.here hx rfl (pc0 := 121) (pc' := 125) rfl (D d7_121) (by decide) (by decide) ?_
      exact k
  obtain ⟨T24, h24, X24, e24, W24, V24, st24⟩ := own_bastoreZ X20 hx hZ e20 V19_rt (j := (0 : Int32)) (show 0 ≤ Int32.toInt (0 : Int32) ∧ Int32.toInt (0 : Int32) < ((1 : Nat) : Int) by decide) (x := (if (m3 &&& (4 : Int64)) = (0 : Int64) then (0 : Int32) else (1 : Int32))) (D d7_125)
  have V24_rw := V19_rw.other W24 PN4
  have V24_rl := V19_rl.other W24 PN9
  have V24_rs := V19_rs.other W24 PN13
  have V24_rr := V19_rr.other W24 PN16
  have V24_rg := V19_n.other W24 PN18
  have A24_ra := A19_ra.wr W24
  have F24_ra_0 := F19_ra_0.other W24 (Or.inl (Ne.symm PN20))
  have F24_ra_1 := F19_ra_1.other W24 (Or.inl (Ne.symm PN20))
  have F24_ra_2 := F19_ra_2.other W24 (Or.inl (Ne.symm PN20))
  have F24_ra_3 := F19_ra_3.other W24 (Or.inl (Ne.symm PN20))
  have F24_ra_4 := F19_ra_4.other W24 (Or.inl (Ne.symm PN20))
  have F24_ra_5 := F19_ra_5.other W24 (Or.inl (Ne.symm PN20))
  have F24_ra_6 := F19_ra_6.other W24 (Or.inl (Ne.symm PN20))
  have F24_ra_7 := F19_ra_7.other W24 (Or.inl (Ne.symm PN20))
  have F24_ra_8 := F19_ra_8.other W24 (Or.inl (Ne.symm PN20))
  have sz24 := Nat.le_trans sz19 (Keep.of_wr W24).1
  have K24 := K19.wr W24 (Or.inl (by simp))
  have N24 := Fr.snoc X24 N19 PG3
  have V24_n : own_AI Z h24 rt .boolean [((if (m3 &&& (4 : Int64)) = (0 : Int64) then (0 : Int32) else (1 : Int32)) &&& 1)] := V24
  obtain ⟨T25, X25, e25, st25⟩ := getF X24 hx hZ hown (host := "") (Or.inl (H 30 rfl)) Via.refl e24 F24_ra_0 (g := (mkF m 127 #[rv ra, rv rw, iv (0 : Int32), iv (3 : Int32)] [(.ref ra)])) rfl rfl (D d7_127)
  obtain ⟨T26, h26, X26, e26, W26, V26, st26⟩ := own_lastore X25 hx hZ e25 V24_rl (j := (0 : Int32)) (show 0 ≤ Int32.toInt (0 : Int32) ∧ Int32.toInt (0 : Int32) < ((1 : Nat) : Int) by decide) (x := m4) (D d7_136)
  have V26_rw := V24_rw.other W26 PN0
  have V26_rs := V24_rs.other W26 (Ne.symm PN6)
  have V26_rr := V24_rr.other W26 (Ne.symm PN7)
  have V26_rg := V24_rg.other W26 (Ne.symm PN8)
  have V26_rt := V24_n.other W26 (Ne.symm PN9)
  have A26_ra := A24_ra.wr W26
  have F26_ra_0 := F24_ra_0.other W26 (Or.inl (Ne.symm PN10))
  have F26_ra_1 := F24_ra_1.other W26 (Or.inl (Ne.symm PN10))
  have F26_ra_2 := F24_ra_2.other W26 (Or.inl (Ne.symm PN10))
  have F26_ra_3 := F24_ra_3.other W26 (Or.inl (Ne.symm PN10))
  have F26_ra_4 := F24_ra_4.other W26 (Or.inl (Ne.symm PN10))
  have F26_ra_5 := F24_ra_5.other W26 (Or.inl (Ne.symm PN10))
  have F26_ra_6 := F24_ra_6.other W26 (Or.inl (Ne.symm PN10))
  have F26_ra_7 := F24_ra_7.other W26 (Or.inl (Ne.symm PN10))
  have F26_ra_8 := F24_ra_8.other W26 (Or.inl (Ne.symm PN10))
  have sz26 := Nat.le_trans sz24 (Keep.of_wr W26).1
  have K26 := K24.wr W26 (Or.inl (by simp))
  have N26 := Fr.snoc X26 N24 PG4
  have V26_n : own_AJ Z h26 rl [m4] := V26
  obtain ⟨T27, X27, e27, st27⟩ := getF X26 hx hZ hown (host := "") (Or.inl (H 35 rfl)) Via.refl e26 F26_ra_2 (g := (mkF m 138 #[rv ra, rv rw, iv (0 : Int32), iv (3 : Int32)] [(.ref ra)])) rfl rfl (D d7_138)
  obtain ⟨T28, h28, X28, e28, W28, V28, st28⟩ := own_lastore X27 hx hZ e27 V26_rr (j := (0 : Int32)) (show 0 ≤ Int32.toInt (0 : Int32) ∧ Int32.toInt (0 : Int32) < ((1 : Nat) : Int) by decide) (x := m5) (D d7_147)
  have V28_rw := V26_rw.other W28 PN2
  have V28_rl := V26_n.other W28 PN7
  have V28_rs := V26_rs.other W28 PN11
  have V28_rg := V26_rg.other W28 (Ne.symm PN15)
  have V28_rt := V26_rt.other W28 (Ne.symm PN16)
  have A28_ra := A26_ra.wr W28
  have F28_ra_0 := F26_ra_0.other W28 (Or.inl (Ne.symm PN17))
  have F28_ra_1 := F26_ra_1.other W28 (Or.inl (Ne.symm PN17))
  have F28_ra_2 := F26_ra_2.other W28 (Or.inl (Ne.symm PN17))
  have F28_ra_3 := F26_ra_3.other W28 (Or.inl (Ne.symm PN17))
  have F28_ra_4 := F26_ra_4.other W28 (Or.inl (Ne.symm PN17))
  have F28_ra_5 := F26_ra_5.other W28 (Or.inl (Ne.symm PN17))
  have F28_ra_6 := F26_ra_6.other W28 (Or.inl (Ne.symm PN17))
  have F28_ra_7 := F26_ra_7.other W28 (Or.inl (Ne.symm PN17))
  have F28_ra_8 := F26_ra_8.other W28 (Or.inl (Ne.symm PN17))
  have sz28 := Nat.le_trans sz26 (Keep.of_wr W28).1
  have K28 := K26.wr W28 (Or.inl (by simp))
  have N28 := Fr.snoc X28 N26 PG5
  have V28_n : own_AJ Z h28 rr [m5] := V28
  obtain ⟨T29, X29, e29, st29⟩ := getF X28 hx hZ hown (host := "") (Or.inl (H 41 rfl)) Via.refl e28 F28_ra_8 (g := (mkF m 150 #[rv ra, rv rw, iv (0 : Int32), iv (3 : Int32)] [(.ref ra), (.ref ra)])) rfl rfl (D d7_150)
  obtain ⟨T30, X30, e30, st30⟩ := getF X29 hx hZ hown (host := "") (Or.inl (H 37 rfl)) Via.refl e29 F28_ra_3 (g := (mkF m 154 #[rv ra, rv rw, iv (0 : Int32), iv (3 : Int32)] [(.ref ra), (.int (0 : Int32)), (.ref ra)])) rfl rfl (D d7_154)
  have pre32 : ∀ t, Steps p.tables e below (T30.setTop (mkF m 159 #[rv ra, rv rw, iv (0 : Int32), iv (3 : Int32)] [(.int ((if (m3 &&& (2 : Int64)) = (0 : Int64) then (0 : Int32) else (1 : Int32)) &&& 1)), (.int (0 : Int32)), (.ref ra)])) t → Steps p.tables e below B0 t := by
    intro t k
    refine pre23 t ?_
    show Steps p.tables e below (T20.setTop (mkF m 125 #[rv ra, rv rw, iv (0 : Int32), iv (3 : Int32)] [(.int (if (m3 &&& (4 : Int64)) = (0 : Int64) then (0 : Int32) else (1 : Int32))), (.int (0 : Int32)), (.ref rt)])) _
    refine st24 _ ?_
    refine XS.aloadN X24.here hx rfl (D d7_126) rfl rfl ?_
    refine st25 _ ?_
    refine XS.iloadN X25.here hx rfl (D d7_130) rfl ?_
    refine XS.aloadN X25.here hx rfl (D d7_131) rfl rfl ?_
    refine XS.iloadN X25.here hx rfl (D d7_132) rfl ?_
    refine XS.iconst X25.here hx rfl (D d7_133) ?_
    refine XS.iadd X25.here hx rfl (D d7_134) rfl ?_
    refine own_laload X25 hx hZ e25 V24_rw (show 0 ≤ Int32.toInt (4 : Int32) ∧ Int32.toInt (4 : Int32) < ((6 : Nat) : Int) by decide) (D d7_135) _ ?_
    refine st26 _ ?_
    refine XS.aloadN X26.here hx rfl (D d7_137) rfl rfl ?_
    show Steps p.tables e below (T26.setTop (mkF m 138 #[rv ra, rv rw, iv (0 : Int32), iv (3 : Int32)] [(.ref ra)])) _
    refine st27 _ ?_
    refine XS.iloadN X27.here hx rfl (D d7_141) rfl ?_
    refine XS.aloadN X27.here hx rfl (D d7_142) rfl rfl ?_
    refine XS.iloadN X27.here hx rfl (D d7_143) rfl ?_
    refine XS.iconst X27.here hx rfl (D d7_144) ?_
    refine XS.iadd X27.here hx rfl (D d7_145) rfl ?_
    refine own_laload X27 hx hZ e27 V26_rw (show 0 ≤ Int32.toInt (5 : Int32) ∧ Int32.toInt (5 : Int32) < ((6 : Nat) : Int) by decide) (D d7_146) _ ?_
    refine st28 _ ?_
    refine XS.aloadN X28.here hx rfl (D d7_148) rfl rfl ?_
    refine XS.dup X28.here hx rfl (D d7_149) rfl rfl ?_
    refine st29 _ ?_
    refine XS.aloadN X29.here hx rfl (D d7_153) rfl rfl ?_
    refine st30 _ ?_
    refine XS.iloadN X30.here hx rfl (D d7_157) rfl ?_
    refine own_baloadZ X30 hx hZ e30 V28_rg (show 0 ≤ Int32.toInt (0 : Int32) ∧ Int32.toInt (0 : Int32) < ((1 : Nat) : Int) by decide) (D d7_158) _ ?_
    exact k
  clear V19_rw V19_rl V19_rs V19_rr V19_rt A19_ra F19_ra_0 F19_ra_1 F19_ra_2 F19_ra_3 F19_ra_4 F19_ra_5 F19_ra_6 F19_ra_7 F19_ra_8 sz19 K19 N19 V19_n X20 e20 pre22 pre23 X24 e24 W24 V24 st24 V24_rw V24_rl V24_rs V24_rr V24_rg A24_ra F24_ra_0 F24_ra_1 F24_ra_2 F24_ra_3 F24_ra_4 F24_ra_5 F24_ra_6 F24_ra_7 F24_ra_8 sz24 K24 N24 V24_n X25 e25 st25 X26 e26 W26 V26 st26 V26_rw V26_rs V26_rr V26_rg V26_rt A26_ra F26_ra_0 F26_ra_1 F26_ra_2 F26_ra_3 F26_ra_4 F26_ra_5 F26_ra_6 F26_ra_7 F26_ra_8 sz26 K26 N26 V26_n X27 e27 st27 X28 e28 W28 V28 st28 X29 e29 st29 st30
  have pre33 : ∀ t, Steps p.tables e below (T30.setTop (mkF m 167 #[rv ra, rv rw, iv (0 : Int32), iv (3 : Int32)] [(.int (if ((if (m3 &&& (2 : Int64)) = (0 : Int64) then (0 : Int32) else (1 : Int32)) &&& 1) = (0 : Int32) then (1 : Int32) else (0 : Int32))), (.int (0 : Int32)), (.ref ra)])) t → Steps p.tables e below B0 t := by
    by_cases c31 : ((if (m3 &&& (2 : Int64)) = (0 : Int64) then (0 : Int32) else (1 : Int32)) &&& 1) = (0 : Int32)
    · try simp only [if_pos c31]
      intro t k
      refine pre32 t ?_
      show Steps p.tables e below (T30.setTop (mkF m 159 #[rv ra, rv rw, iv (0 : Int32), iv (3 : Int32)] [(.int ((if (m3 &&& (2 : Int64)) = (0 : Int64) then (0 : Int32) else (1 : Int32)) &&& 1)), (.int (0 : Int32)), (.ref ra)])) _
      refine XS.ifYes X30.here hx rfl (pc0 := 159) (pc' := 166) rfl (D d7_159) rfl ((if0 _ _).trans (teq c31).1) (by decide) (by decide) ?_
      refine XS.iconst X30.here hx rfl (D d7_166) ?_
      exact k
    · try simp only [if_neg c31]
      intro t k
      refine pre32 t ?_
      show Steps p.tables e below (T30.setTop (mkF m 159 #[rv ra, rv rw, iv (0 : Int32), iv (3 : Int32)] [(.int ((if (m3 &&& (2 : Int64)) = (0 : Int64) then (0 : Int32) else (1 : Int32)) &&& 1)), (.int (0 : Int32)), (.ref ra)])) _
      refine XS.ifNo X30.here hx rfl (D d7_159) rfl ((if0 _ _).trans (feq c31).1) ?_
      refine XS.iconst X30.here hx rfl (D d7_162) ?_
      refine XS.goto X30.here hx rfl (pc0 := 163) (pc' := 167) rfl (D d7_163) (by decide) (by decide) ?_
      exact k
  obtain ⟨T34, h34, X34, e34, W34, st34⟩ := putF X30 hx hZ hown (host := "") (Or.inl (H 41 rfl)) Via.refl e30 F28_ra_8 A28_ra (Or.inl (H 42 rfl)) (H 13 rfl) (ty := .int) (by decide) rfl rfl (g := (mkF m 168 #[rv ra, rv rw, iv (0 : Int32), iv (3 : Int32)] [(.int ((0 : Int32) + (if ((if (m3 &&& (2 : Int64)) = (0 : Int64) then (0 : Int32) else (1 : Int32)) &&& 1) = (0 : Int32) then (1 : Int32) else (0 : Int32)))), (.ref ra)])) rfl rfl (D d7_168)
  have V34_rw := V28_rw.other W34 PN5
  have V34_rl := V28_rl.other W34 PN10
  have V34_rs := V28_rs.other W34 PN14
  have V34_rr := V28_n.other W34 PN17
  have V34_rg := V28_rg.other W34 PN19
  have V34_rt := V28_rt.other W34 PN20
  have A34_ra := A28_ra.wr W34
  have F34_ra_0 := F28_ra_0.other W34 (Or.inr (own_sn_88 hw))
  have F34_ra_1 := F28_ra_1.other W34 (Or.inr (own_sn_89 hw))
  have F34_ra_2 := F28_ra_2.other W34 (Or.inr (own_sn_90 hw))
  have F34_ra_3 := F28_ra_3.other W34 (Or.inr (own_sn_91 hw))
  have F34_ra_4 := F28_ra_4.other W34 (Or.inr (own_sn_92 hw))
  have F34_ra_5 := F28_ra_5.other W34 (Or.inr (own_sn_93 hw))
  have F34_ra_6 := F28_ra_6.other W34 (Or.inr (own_sn_94 hw))
  have F34_ra_7 := F28_ra_7.other W34 (Or.inr (own_sn_85 hw))
  have sz34 := Nat.le_trans sz28 (Keep.of_wr W34).1
  have K34 := K28.wr W34 (Or.inl (by simp))
  have N34 := Fr.snoc X34 N28 PG0
  have F34_s : Fld Z h34 ra own_S "open" "I" (.int ((0 : Int32) + (if ((if (m3 &&& (2 : Int64)) = (0 : Int64) then (0 : Int32) else (1 : Int32)) &&& 1) = (0 : Int32) then (1 : Int32) else (0 : Int32)))) := F28_ra_8.same W34
  obtain ⟨T35, X35, e35, st35⟩ := getF X34 hx hZ hown (host := "") (Or.inl (H 37 rfl)) Via.refl e34 F34_ra_3 (g := (mkF m 46 #[rv ra, rv rw, iv (1 : Int32), iv (3 : Int32)] [(.ref ra), (.int (1 : Int32))])) rfl rfl (D d7_46)
  obtain ⟨fs, hr, hrun, hended, hW, hsame⟩ := X35.leave (v := none) (fun _ => rfl) hlk
  refine ⟨_, _, pre33 _ ?_, hrun, hended, _, _, rfl, ?_, ⟨_, rfl⟩, hW, hsame.mono (by decide) (by decide)⟩
  · show Steps p.tables e below (T30.setTop (mkF m 167 #[rv ra, rv rw, iv (0 : Int32), iv (3 : Int32)] [(.int (if ((if (m3 &&& (2 : Int64)) = (0 : Int64) then (0 : Int32) else (1 : Int32)) &&& 1) = (0 : Int32) then (1 : Int32) else (0 : Int32))), (.int (0 : Int32)), (.ref ra)])) _
    refine XS.iadd X30.here hx rfl (D d7_167) rfl ?_
    refine st34 _ ?_
    refine XS.iinc X34.here hx rfl (D d7_171) rfl (l' := #[rv ra, rv rw, iv (1 : Int32), iv (3 : Int32)]) rfl ?_
    refine XS.goto X34.here hx rfl (pc0 := 174) (pc' := 44) rfl (D d7_174) (by decide) (by decide) ?_
    refine XS.iloadN X34.here hx rfl (D d7_44) rfl ?_
    refine XS.aloadN X34.here hx rfl (D d7_45) rfl rfl ?_
    refine st35 _ ?_
    refine own_alenI X35 hx hZ e35 V34_rg (D d7_49) _ ?_
    show Steps p.tables e below (T35.setTop (mkF m 50 #[rv ra, rv rw, iv (1 : Int32), iv (3 : Int32)] [(.int (1 : Int32)), (.int (1 : Int32))])) _
    refine XS.icmpYes X35.here hx rfl (pc0 := 50) (pc' := 177) rfl (D d7_50) rfl (by decide) (by decide) (by decide) ?_
    show Steps p.tables e below (T35.setTop (mkF m 177 #[rv ra, rv rw, iv (1 : Int32), iv (3 : Int32)] [])) _
    exact X35.returnOut hx Bd.returns (D d7_177) hr
  · show Q7_1 Z ra rw rl rs rr rg rt sd lt ll op m0 m1 m2 m3 m4 m5 jl0 jr0 bs0 bg0 bt0 h0 n0 _ T35.heap _
    rw [e35]
    exact ⟨rfl, N34, K34, A34_ra, F34_ra_0, F34_ra_1, F34_ra_2, F34_ra_3, F34_ra_4, F34_ra_5, F34_ra_6, F34_ra_7, V34_rw, V34_rl, V34_rs, V34_rr, V34_rg, V34_rt⟩
theorem ef_4_2 (m : MethodId) (ra : Addr) : entryFrame m #[(.ref ra), (.int (2 : Int32)), (.long (1 : Int64)), (.int (0 : Int32))] 5 = mkF m 0 #[rv ra, iv (2 : Int32), jv (1 : Int64), s2, iv (0 : Int32)] [] := by first | (simp [entryFrame, mkF, argsToLocals, Value.category, maxLocals]; done) | rfl
def Q4_2 (Z : State) (ra : Addr)  (h0 : Heap) (n0 : Nat) (v : Option Value) (h : Heap) (L : List Loc) : Prop := v = none ∧ Fr n0 L ∧ ∃ rl rs rr rg rt : Addr, (h0.size ≤ rl ∧ h0.size ≤ rs ∧ h0.size ≤ rr ∧ h0.size ≤ rg ∧ h0.size ≤ rt) ∧ (rl ≠ rs ∧ rl ≠ rr ∧ rl ≠ rg ∧ rl ≠ rt ∧ rs ≠ rr ∧ rs ≠ rg ∧ rs ≠ rt ∧ rr ≠ rg ∧ rr ≠ rt ∧ rg ≠ rt) ∧ Keep h0 h [ra] ∧ Exa Z h ra "com/example/tributary/tributary/io/Silence" ∧ Fld Z h ra own_S "last" "[J" (.ref rl) ∧ Fld Z h ra own_S "sent" "[Z" (.ref rs) ∧ Fld Z h ra own_S "runs" "[J" (.ref rr) ∧ Fld Z h ra own_S "gone" "[Z" (.ref rg) ∧ Fld Z h ra own_S "stopped" "[Z" (.ref rt) ∧ Fld Z h ra own_S "open" "I" (.int (2 : Int32)) ∧ Fld Z h ra own_S "lastLeft" "I" (.int (-1 : Int32)) ∧ Fld Z h ra own_S "started" "Z" (.int (0 : Int32)) ∧ Fld Z h ra own_S "latest" "J" (.long (0 : Int64)) ∧ own_AJ Z h rl [(0 : Int64), (0 : Int64)] ∧ own_AI Z h rs .boolean [(0 : Int32), (0 : Int32)] ∧ own_AJ Z h rr [(0 : Int64), (0 : Int64)] ∧ own_AI Z h rg .boolean [(0 : Int32), (0 : Int32)] ∧ own_AI Z h rt .boolean [(0 : Int32), (0 : Int32)]
set_option maxRecDepth 65536 in
set_option maxHeartbeats 40000000 in
theorem rm4_2 (l : Launch) (Z : State) (a0 : Array Value) (hw : ∀ d ∈ tables_1, d.before a0 Z = true) (ws : List Jvm.Cond) (ra : Addr)  (h0 : Heap) (n0 : Nat) (Z0 : n0 ≤ h0.size) (PE0 : Exa Z h0 ra "com/example/tributary/tributary/io/Silence") (PF0 : Fld Z h0 ra own_S "lastLeft" "I" (.int (0 : Int32))) (PF1 : Fld Z h0 ra own_S "limit" "J" (.long (0 : Int64))) (PF2 : Fld Z h0 ra own_S "includesLast" "Z" (.int (0 : Int32))) (PF3 : Fld Z h0 ra own_S "last" "[J" .null) (PF4 : Fld Z h0 ra own_S "sent" "[Z" .null) (PF5 : Fld Z h0 ra own_S "runs" "[J" .null) (PF6 : Fld Z h0 ra own_S "gone" "[Z" .null) (PF7 : Fld Z h0 ra own_S "stopped" "[Z" .null) (PF8 : Fld Z h0 ra own_S "open" "I" (.int (0 : Int32))) (PF9 : Fld Z h0 ra own_S "started" "Z" (.int (0 : Int32))) (PF10 : Fld Z h0 ra own_S "latest" "J" (.long (0 : Int64))) (PG0 : n0 ≤ ra) :
    MetFree l (⟨"com/example/tributary/tributary/io/Silence", "<init>", "(IJZ)V"⟩ : MethodName) (head1 (Jvm.Cond.code (⟨"com/example/tributary/tributary/io/Silence", "<init>", "(IJZ)V"⟩ : MethodName) prog_43_method_2_code 5 none :: ws) ({ frames := 1, cells := 5, slots := 10, locals := 12 } : Room)) (fun a U => a = #[(.ref ra), (.int (2 : Int32)), (.long (1 : Int64)), (.int (0 : Int32))] ∧ Z.Warmed39 U.vm ∧ U.heap = h0) (fun _ _ _ _ _ => True) (fun _ U o U' => ∃ v L, o = .returned v ∧ Q4_2 Z ra h0 n0 v U'.heap L ∧ FrameEnd U o U' L ({ frames := 1, cells := 5, slots := 10, locals := 12 } : Room).cells ({ frames := 1, cells := 5, slots := 10, locals := 12 } : Room).slots) := by
  refine MetFree.of_bodySF (plainFor_of_name pn_4) hisR ?_
  intro p e s m args below meth c s₁ Bd hml0 hP hK
  obtain ⟨rfl, hZ, hh⟩ := hP
  have hx := Bd.exec
  have hby := Bd.bytes
  have hml : c.maxLocals = 5 := hml0
  have hown : s.vm.findClass "com/example/tributary/tributary/io/Silence" = some m.cls := findClass_of_methodNamed Bd.named
  have hnm := (name_of_methodNamed Bd.named Bd.method).1
  have X0 : Stand p l e ({ frames := 1, cells := 5, slots := 10, locals := 12 } : Room) s m #[(.ref ra), (.int (2 : Int32)), (.long (1 : Int64)), (.int (0 : Int32))] below meth c s₁ [] 0 0 := Stand.of_body Bd
  have hlk : meth.locks = false := by first | exact BodyLoose.notSynchronized (by assumption) | exact Body.notSynchronized (by assumption)
  have e0 : s₁.heap = h0 := by rw [← hh, Bd.state]; rfl
  have N0 := Fr.nil n0
  have pre0 : ∀ t, Steps p.tables e below (s₁.setTop (mkF m 0 #[rv ra, iv (2 : Int32), jv (1 : Int64), s2, iv (0 : Int32)] [])) t → Steps p.tables e below (s₁.setTop (entryFrame m #[(.ref ra), (.int (2 : Int32)), (.long (1 : Int64)), (.int (0 : Int32))] 5)) t := fun t k => castTop (ef_4_2 m ra) k
  generalize s₁.setTop (entryFrame m #[(.ref ra), (.int (2 : Int32)), (.long (1 : Int64)), (.int (0 : Int32))] 5) = B0 at pre0 ⊢
  have H : ∀ (i : Nat) {d : Jvm.Cond}, tables_1[i]? = some d → d.before a0 Z = true := fun i d q => hw d (List.mem_of_getElem? q)
  have D : ∀ {pc : Nat} {r : Except DecodeError (Instr × Nat)}, decode prog_43_method_2_code pc = r → decode c.code pc = r := fun q => hb hby q
  obtain ⟨T1, X1, e1, st1⟩ := initO X0 hx hZ hown (H 21 rfl) (H 22 rfl) (H 23 rfl) e0 (g := (mkF m 1 #[rv ra, iv (2 : Int32), jv (1 : Int64), s2, iv (0 : Int32)] [(.ref ra)])) rfl (by rw [hml]; rfl) rfl (D d4_1) (by decide) (W := 0) (by show 2 * 0 + _ ≤ _; exact Nat.le_of_eq rfl) (by decide)
  obtain ⟨T2, h2, X2, e2, W2, st2⟩ := putF X1 hx hZ hown (host := "") (Or.inl (H 24 rfl)) Via.refl e1 PF0 PE0 (Or.inl (H 25 rfl)) (H 13 rfl) (ty := .int) (by decide) rfl rfl (g := (mkF m 6 #[rv ra, iv (2 : Int32), jv (1 : Int64), s2, iv (0 : Int32)] [(.int (-1 : Int32)), (.ref ra)])) rfl rfl (D d4_6)
  have A2_ra := PE0.wr W2
  have F2_ra_1 := PF1.other W2 (Or.inr (own_sn_5 hw))
  have F2_ra_2 := PF2.other W2 (Or.inr (own_sn_6 hw))
  have F2_ra_3 := PF3.other W2 (Or.inr (own_sn_7 hw))
  have F2_ra_4 := PF4.other W2 (Or.inr (own_sn_8 hw))
  have F2_ra_5 := PF5.other W2 (Or.inr (own_sn_9 hw))
  have F2_ra_6 := PF6.other W2 (Or.inr (own_sn_10 hw))
  have F2_ra_7 := PF7.other W2 (Or.inr (own_sn_11 hw))
  have F2_ra_8 := PF8.other W2 (Or.inr (own_sn_12 hw))
  have F2_ra_9 := PF9.other W2 (Or.inr (own_sn_13 hw))
  have F2_ra_10 := PF10.other W2 (Or.inr (own_sn_14 hw))
  have sz2 := Nat.le_trans Z0 (Keep.of_wr W2).1
  have K2 := (Keep.refl h0 ([ra] : List Addr)).wr W2 (Or.inl (by simp))
  have N2 := Fr.snoc X2 N0 PG0
  have F2_s : Fld Z h2 ra own_S "lastLeft" "I" (.int (-1 : Int32)) := PF0.same W2
  obtain ⟨T3, h3, X3, e3, W3, st3⟩ := putF X2 hx hZ hown (host := "") (Or.inl (H 26 rfl)) Via.refl e2 F2_ra_1 A2_ra (Or.inr ⟨(H 27 rfl), rfl, hnm⟩) (H 13 rfl) (ty := .long) (by decide) rfl rfl (g := (mkF m 46 #[rv ra, iv (2 : Int32), jv (1 : Int64), s2, iv (0 : Int32)] [(.long (1 : Int64)), (.ref ra)])) rfl rfl (D d4_46)
  have A3_ra := A2_ra.wr W3
  have F3_ra_0 := F2_s.other W3 (Or.inr (own_sn_15 hw))
  have F3_ra_2 := F2_ra_2.other W3 (Or.inr (own_sn_16 hw))
  have F3_ra_3 := F2_ra_3.other W3 (Or.inr (own_sn_17 hw))
  have F3_ra_4 := F2_ra_4.other W3 (Or.inr (own_sn_18 hw))
  have F3_ra_5 := F2_ra_5.other W3 (Or.inr (own_sn_19 hw))
  have F3_ra_6 := F2_ra_6.other W3 (Or.inr (own_sn_20 hw))
  have F3_ra_7 := F2_ra_7.other W3 (Or.inr (own_sn_21 hw))
  have F3_ra_8 := F2_ra_8.other W3 (Or.inr (own_sn_22 hw))
  have F3_ra_9 := F2_ra_9.other W3 (Or.inr (own_sn_23 hw))
  have F3_ra_10 := F2_ra_10.other W3 (Or.inr (own_sn_24 hw))
  have sz3 := Nat.le_trans sz2 (Keep.of_wr W3).1
  have K3 := K2.wr W3 (Or.inl (by simp))
  have N3 := Fr.snoc X3 N2 PG0
  have F3_s : Fld Z h3 ra own_S "limit" "J" (.long (1 : Int64)) := F2_ra_1.same W3
  obtain ⟨T4, h4, X4, e4, W4, st4⟩ := putF X3 hx hZ hown (host := "") (Or.inl (H 28 rfl)) Via.refl e3 F3_ra_2 A3_ra (Or.inr ⟨(H 29 rfl), rfl, hnm⟩) (H 13 rfl) (ty := .boolean) (by decide) rfl rfl (g := (mkF m 52 #[rv ra, iv (2 : Int32), jv (1 : Int64), s2, iv (0 : Int32)] [(.int (0 : Int32)), (.ref ra)])) rfl rfl (D d4_52)
  have A4_ra := A3_ra.wr W4
  have F4_ra_0 := F3_ra_0.other W4 (Or.inr (own_sn_25 hw))
  have F4_ra_1 := F3_s.other W4 (Or.inr (own_sn_26 hw))
  have F4_ra_3 := F3_ra_3.other W4 (Or.inr (own_sn_27 hw))
  have F4_ra_4 := F3_ra_4.other W4 (Or.inr (own_sn_28 hw))
  have F4_ra_5 := F3_ra_5.other W4 (Or.inr (own_sn_29 hw))
  have F4_ra_6 := F3_ra_6.other W4 (Or.inr (own_sn_30 hw))
  have F4_ra_7 := F3_ra_7.other W4 (Or.inr (own_sn_31 hw))
  have F4_ra_8 := F3_ra_8.other W4 (Or.inr (own_sn_32 hw))
  have F4_ra_9 := F3_ra_9.other W4 (Or.inr (own_sn_33 hw))
  have F4_ra_10 := F3_ra_10.other W4 (Or.inr (own_sn_34 hw))
  have sz4 := Nat.le_trans sz3 (Keep.of_wr W4).1
  have K4 := K3.wr W4 (Or.inl (by simp))
  have N4 := Fr.snoc X4 N3 PG0
  have F4_s : Fld Z h4 ra own_S "includesLast" "Z" (.int (0 : Int32)) := F3_ra_2.same W4
  obtain ⟨T5, h5, cA5, X5, e5, E5, A5, st5⟩ := newP X4 hx hZ (aty := .long) (H 11 rfl) e4 (g := (mkF m 57 #[rv ra, iv (2 : Int32), jv (1 : Int64), s2, iv (0 : Int32)] [(.int (2 : Int32)), (.ref ra)])) rfl (D d4_57) rfl (by decide) (cap := 2) (by decide) (by decide) (by decide) (by decide)
  obtain ⟨a5, g5⟩ : ∃ z, z = h4.size := ⟨_, rfl⟩
  rw [← g5] at A5 st5
  have ne_ra_a5 : ra ≠ a5 := g5 ▸ Nat.ne_of_lt A4_ra.lt
  have ge_a5 : n0 ≤ a5 := g5 ▸ sz4
  have go_a5 : h0.size ≤ a5 := g5 ▸ K4.1
  have A5_ra := A4_ra.ext E5
  have F5_ra_0 := F4_ra_0.ext E5
  have F5_ra_1 := F4_ra_1.ext E5
  have F5_ra_2 := F4_s.ext E5
  have F5_ra_3 := F4_ra_3.ext E5
  have F5_ra_4 := F4_ra_4.ext E5
  have F5_ra_5 := F4_ra_5.ext E5
  have F5_ra_6 := F4_ra_6.ext E5
  have F5_ra_7 := F4_ra_7.ext E5
  have F5_ra_8 := F4_ra_8.ext E5
  have F5_ra_9 := F4_ra_9.ext E5
  have F5_ra_10 := F4_ra_10.ext E5
  have sz5 := Nat.le_trans sz4 E5.1
  have K5 : Keep h0 h5 [ra] := K4.ext E5
  have V5_n : own_AJ Z h5 a5 [(0 : Int64), (0 : Int64)] := own_AJ_new A5 (k := 2) (by decide)
  obtain ⟨T6, h6, X6, e6, W6, st6⟩ := putF X5 hx hZ hown (host := "") (Or.inl (H 30 rfl)) Via.refl e5 F5_ra_3 A5_ra (Or.inr ⟨(H 31 rfl), rfl, hnm⟩) (H 13 rfl) (ty := (.array .long)) (by decide) rfl rfl (g := (mkF m 59 #[rv ra, iv (2 : Int32), jv (1 : Int64), s2, iv (0 : Int32)] [(.ref a5), (.ref ra)])) rfl rfl (D d4_59)
  have V6_a5 := V5_n.other W6 (Ne.symm ne_ra_a5)
  have A6_ra := A5_ra.wr W6
  have F6_ra_0 := F5_ra_0.other W6 (Or.inr (own_sn_35 hw))
  have F6_ra_1 := F5_ra_1.other W6 (Or.inr (own_sn_36 hw))
  have F6_ra_2 := F5_ra_2.other W6 (Or.inr (own_sn_37 hw))
  have F6_ra_4 := F5_ra_4.other W6 (Or.inr (own_sn_38 hw))
  have F6_ra_5 := F5_ra_5.other W6 (Or.inr (own_sn_39 hw))
  have F6_ra_6 := F5_ra_6.other W6 (Or.inr (own_sn_40 hw))
  have F6_ra_7 := F5_ra_7.other W6 (Or.inr (own_sn_41 hw))
  have F6_ra_8 := F5_ra_8.other W6 (Or.inr (own_sn_42 hw))
  have F6_ra_9 := F5_ra_9.other W6 (Or.inr (own_sn_43 hw))
  have F6_ra_10 := F5_ra_10.other W6 (Or.inr (own_sn_44 hw))
  have sz6 := Nat.le_trans sz5 (Keep.of_wr W6).1
  have K6 := K5.wr W6 (Or.inl (by simp))
  have N6 := Fr.snoc X6 N4 PG0
  have F6_s : Fld Z h6 ra own_S "last" "[J" (.ref a5) := F5_ra_3.same W6
  obtain ⟨T7, h7, cA7, X7, e7, E7, A7, st7⟩ := newP X6 hx hZ (aty := .boolean) (H 32 rfl) e6 (g := (mkF m 64 #[rv ra, iv (2 : Int32), jv (1 : Int64), s2, iv (0 : Int32)] [(.int (2 : Int32)), (.ref ra)])) rfl (D d4_64) rfl (by decide) (cap := 2) (by decide) (by decide) (by decide) (by decide)
  obtain ⟨a7, g7⟩ : ∃ z, z = h6.size := ⟨_, rfl⟩
  rw [← g7] at A7 st7
  have ne_a5_a7 : a5 ≠ a7 := g7 ▸ Nat.ne_of_lt V6_a5.lt
  have ne_ra_a7 : ra ≠ a7 := g7 ▸ Nat.ne_of_lt A6_ra.lt
  have ge_a7 : n0 ≤ a7 := g7 ▸ sz6
  have go_a7 : h0.size ≤ a7 := g7 ▸ K6.1
  have V7_a5 := V6_a5.ext E7
  have A7_ra := A6_ra.ext E7
  have F7_ra_0 := F6_ra_0.ext E7
  have F7_ra_1 := F6_ra_1.ext E7
  have F7_ra_2 := F6_ra_2.ext E7
  have F7_ra_3 := F6_s.ext E7
  have F7_ra_4 := F6_ra_4.ext E7
  have F7_ra_5 := F6_ra_5.ext E7
  have F7_ra_6 := F6_ra_6.ext E7
  have F7_ra_7 := F6_ra_7.ext E7
  have F7_ra_8 := F6_ra_8.ext E7
  have F7_ra_9 := F6_ra_9.ext E7
  have F7_ra_10 := F6_ra_10.ext E7
  have sz7 := Nat.le_trans sz6 E7.1
  have K7 : Keep h0 h7 [ra] := K6.ext E7
  have V7_n : own_AI Z h7 a7 .boolean [(0 : Int32), (0 : Int32)] := own_AIboolean_new A7 (k := 2) (by decide)
  obtain ⟨T8, h8, X8, e8, W8, st8⟩ := putF X7 hx hZ hown (host := "") (Or.inl (H 33 rfl)) Via.refl e7 F7_ra_4 A7_ra (Or.inr ⟨(H 34 rfl), rfl, hnm⟩) (H 13 rfl) (ty := (.array .boolean)) (by decide) rfl rfl (g := (mkF m 66 #[rv ra, iv (2 : Int32), jv (1 : Int64), s2, iv (0 : Int32)] [(.ref a7), (.ref ra)])) rfl rfl (D d4_66)
  have V8_a5 := V7_a5.other W8 (Ne.symm ne_ra_a5)
  have V8_a7 := V7_n.other W8 (Ne.symm ne_ra_a7)
  have A8_ra := A7_ra.wr W8
  have F8_ra_0 := F7_ra_0.other W8 (Or.inr (own_sn_45 hw))
  have F8_ra_1 := F7_ra_1.other W8 (Or.inr (own_sn_46 hw))
  have F8_ra_2 := F7_ra_2.other W8 (Or.inr (own_sn_47 hw))
  have F8_ra_3 := F7_ra_3.other W8 (Or.inr (own_sn_48 hw))
  have F8_ra_5 := F7_ra_5.other W8 (Or.inr (own_sn_49 hw))
  have F8_ra_6 := F7_ra_6.other W8 (Or.inr (own_sn_50 hw))
  have F8_ra_7 := F7_ra_7.other W8 (Or.inr (own_sn_51 hw))
  have F8_ra_8 := F7_ra_8.other W8 (Or.inr (own_sn_52 hw))
  have F8_ra_9 := F7_ra_9.other W8 (Or.inr (own_sn_53 hw))
  have F8_ra_10 := F7_ra_10.other W8 (Or.inr (own_sn_54 hw))
  have sz8 := Nat.le_trans sz7 (Keep.of_wr W8).1
  have K8 := K7.wr W8 (Or.inl (by simp))
  have N8 := Fr.snoc X8 N6 PG0
  have F8_s : Fld Z h8 ra own_S "sent" "[Z" (.ref a7) := F7_ra_4.same W8
  obtain ⟨T9, h9, cA9, X9, e9, E9, A9, st9⟩ := newP X8 hx hZ (aty := .long) (H 11 rfl) e8 (g := (mkF m 71 #[rv ra, iv (2 : Int32), jv (1 : Int64), s2, iv (0 : Int32)] [(.int (2 : Int32)), (.ref ra)])) rfl (D d4_71) rfl (by decide) (cap := 2) (by decide) (by decide) (by decide) (by decide)
  obtain ⟨a9, g9⟩ : ∃ z, z = h8.size := ⟨_, rfl⟩
  rw [← g9] at A9 st9
  have ne_a5_a9 : a5 ≠ a9 := g9 ▸ Nat.ne_of_lt V8_a5.lt
  have ne_a7_a9 : a7 ≠ a9 := g9 ▸ Nat.ne_of_lt V8_a7.lt
  have ne_ra_a9 : ra ≠ a9 := g9 ▸ Nat.ne_of_lt A8_ra.lt
  have ge_a9 : n0 ≤ a9 := g9 ▸ sz8
  have go_a9 : h0.size ≤ a9 := g9 ▸ K8.1
  have V9_a5 := V8_a5.ext E9
  have V9_a7 := V8_a7.ext E9
  have A9_ra := A8_ra.ext E9
  have F9_ra_0 := F8_ra_0.ext E9
  have F9_ra_1 := F8_ra_1.ext E9
  have F9_ra_2 := F8_ra_2.ext E9
  have F9_ra_3 := F8_ra_3.ext E9
  have F9_ra_4 := F8_s.ext E9
  have F9_ra_5 := F8_ra_5.ext E9
  have F9_ra_6 := F8_ra_6.ext E9
  have F9_ra_7 := F8_ra_7.ext E9
  have F9_ra_8 := F8_ra_8.ext E9
  have F9_ra_9 := F8_ra_9.ext E9
  have F9_ra_10 := F8_ra_10.ext E9
  have sz9 := Nat.le_trans sz8 E9.1
  have K9 : Keep h0 h9 [ra] := K8.ext E9
  have V9_n : own_AJ Z h9 a9 [(0 : Int64), (0 : Int64)] := own_AJ_new A9 (k := 2) (by decide)
  obtain ⟨T10, h10, X10, e10, W10, st10⟩ := putF X9 hx hZ hown (host := "") (Or.inl (H 35 rfl)) Via.refl e9 F9_ra_5 A9_ra (Or.inr ⟨(H 36 rfl), rfl, hnm⟩) (H 13 rfl) (ty := (.array .long)) (by decide) rfl rfl (g := (mkF m 73 #[rv ra, iv (2 : Int32), jv (1 : Int64), s2, iv (0 : Int32)] [(.ref a9), (.ref ra)])) rfl rfl (D d4_73)
  have V10_a5 := V9_a5.other W10 (Ne.symm ne_ra_a5)
  have V10_a7 := V9_a7.other W10 (Ne.symm ne_ra_a7)
  have V10_a9 := V9_n.other W10 (Ne.symm ne_ra_a9)
  have A10_ra := A9_ra.wr W10
  have F10_ra_0 := F9_ra_0.other W10 (Or.inr (own_sn_55 hw))
  have F10_ra_1 := F9_ra_1.other W10 (Or.inr (own_sn_56 hw))
  have F10_ra_2 := F9_ra_2.other W10 (Or.inr (own_sn_57 hw))
  have F10_ra_3 := F9_ra_3.other W10 (Or.inr (own_sn_58 hw))
  have F10_ra_4 := F9_ra_4.other W10 (Or.inr (own_sn_59 hw))
  have F10_ra_6 := F9_ra_6.other W10 (Or.inr (own_sn_60 hw))
  have F10_ra_7 := F9_ra_7.other W10 (Or.inr (own_sn_61 hw))
  have F10_ra_8 := F9_ra_8.other W10 (Or.inr (own_sn_62 hw))
  have F10_ra_9 := F9_ra_9.other W10 (Or.inr (own_sn_63 hw))
  have F10_ra_10 := F9_ra_10.other W10 (Or.inr (own_sn_64 hw))
  have sz10 := Nat.le_trans sz9 (Keep.of_wr W10).1
  have K10 := K9.wr W10 (Or.inl (by simp))
  have N10 := Fr.snoc X10 N8 PG0
  have F10_s : Fld Z h10 ra own_S "runs" "[J" (.ref a9) := F9_ra_5.same W10
  obtain ⟨T11, h11, cA11, X11, e11, E11, A11, st11⟩ := newP X10 hx hZ (aty := .boolean) (H 32 rfl) e10 (g := (mkF m 78 #[rv ra, iv (2 : Int32), jv (1 : Int64), s2, iv (0 : Int32)] [(.int (2 : Int32)), (.ref ra)])) rfl (D d4_78) rfl (by decide) (cap := 2) (by decide) (by decide) (by decide) (by decide)
  obtain ⟨a11, g11⟩ : ∃ z, z = h10.size := ⟨_, rfl⟩
  rw [← g11] at A11 st11
  have ne_a5_a11 : a5 ≠ a11 := g11 ▸ Nat.ne_of_lt V10_a5.lt
  have ne_a7_a11 : a7 ≠ a11 := g11 ▸ Nat.ne_of_lt V10_a7.lt
  have ne_a9_a11 : a9 ≠ a11 := g11 ▸ Nat.ne_of_lt V10_a9.lt
  have ne_ra_a11 : ra ≠ a11 := g11 ▸ Nat.ne_of_lt A10_ra.lt
  have ge_a11 : n0 ≤ a11 := g11 ▸ sz10
  have go_a11 : h0.size ≤ a11 := g11 ▸ K10.1
  have V11_a5 := V10_a5.ext E11
  have V11_a7 := V10_a7.ext E11
  have V11_a9 := V10_a9.ext E11
  have A11_ra := A10_ra.ext E11
  have F11_ra_0 := F10_ra_0.ext E11
  have F11_ra_1 := F10_ra_1.ext E11
  have F11_ra_2 := F10_ra_2.ext E11
  have F11_ra_3 := F10_ra_3.ext E11
  have F11_ra_4 := F10_ra_4.ext E11
  have F11_ra_5 := F10_s.ext E11
  have F11_ra_6 := F10_ra_6.ext E11
  have F11_ra_7 := F10_ra_7.ext E11
  have F11_ra_8 := F10_ra_8.ext E11
  have F11_ra_9 := F10_ra_9.ext E11
  have F11_ra_10 := F10_ra_10.ext E11
  have sz11 := Nat.le_trans sz10 E11.1
  have K11 : Keep h0 h11 [ra] := K10.ext E11
  have V11_n : own_AI Z h11 a11 .boolean [(0 : Int32), (0 : Int32)] := own_AIboolean_new A11 (k := 2) (by decide)
  obtain ⟨T12, h12, X12, e12, W12, st12⟩ := putF X11 hx hZ hown (host := "") (Or.inl (H 37 rfl)) Via.refl e11 F11_ra_6 A11_ra (Or.inr ⟨(H 38 rfl), rfl, hnm⟩) (H 13 rfl) (ty := (.array .boolean)) (by decide) rfl rfl (g := (mkF m 80 #[rv ra, iv (2 : Int32), jv (1 : Int64), s2, iv (0 : Int32)] [(.ref a11), (.ref ra)])) rfl rfl (D d4_80)
  have V12_a5 := V11_a5.other W12 (Ne.symm ne_ra_a5)
  have V12_a7 := V11_a7.other W12 (Ne.symm ne_ra_a7)
  have V12_a9 := V11_a9.other W12 (Ne.symm ne_ra_a9)
  have V12_a11 := V11_n.other W12 (Ne.symm ne_ra_a11)
  have A12_ra := A11_ra.wr W12
  have F12_ra_0 := F11_ra_0.other W12 (Or.inr (own_sn_65 hw))
  have F12_ra_1 := F11_ra_1.other W12 (Or.inr (own_sn_66 hw))
  have F12_ra_2 := F11_ra_2.other W12 (Or.inr (own_sn_67 hw))
  have F12_ra_3 := F11_ra_3.other W12 (Or.inr (own_sn_68 hw))
  have F12_ra_4 := F11_ra_4.other W12 (Or.inr (own_sn_69 hw))
  have F12_ra_5 := F11_ra_5.other W12 (Or.inr (own_sn_70 hw))
  have F12_ra_7 := F11_ra_7.other W12 (Or.inr (own_sn_71 hw))
  have F12_ra_8 := F11_ra_8.other W12 (Or.inr (own_sn_72 hw))
  have F12_ra_9 := F11_ra_9.other W12 (Or.inr (own_sn_73 hw))
  have F12_ra_10 := F11_ra_10.other W12 (Or.inr (own_sn_74 hw))
  have sz12 := Nat.le_trans sz11 (Keep.of_wr W12).1
  have K12 := K11.wr W12 (Or.inl (by simp))
  have N12 := Fr.snoc X12 N10 PG0
  have F12_s : Fld Z h12 ra own_S "gone" "[Z" (.ref a11) := F11_ra_6.same W12
  obtain ⟨T13, h13, cA13, X13, e13, E13, A13, st13⟩ := newP X12 hx hZ (aty := .boolean) (H 32 rfl) e12 (g := (mkF m 85 #[rv ra, iv (2 : Int32), jv (1 : Int64), s2, iv (0 : Int32)] [(.int (2 : Int32)), (.ref ra)])) rfl (D d4_85) rfl (by decide) (cap := 2) (by decide) (by decide) (by decide) (by decide)
  obtain ⟨a13, g13⟩ : ∃ z, z = h12.size := ⟨_, rfl⟩
  rw [← g13] at A13 st13
  have ne_a5_a13 : a5 ≠ a13 := g13 ▸ Nat.ne_of_lt V12_a5.lt
  have ne_a7_a13 : a7 ≠ a13 := g13 ▸ Nat.ne_of_lt V12_a7.lt
  have ne_a9_a13 : a9 ≠ a13 := g13 ▸ Nat.ne_of_lt V12_a9.lt
  have ne_a11_a13 : a11 ≠ a13 := g13 ▸ Nat.ne_of_lt V12_a11.lt
  have ne_ra_a13 : ra ≠ a13 := g13 ▸ Nat.ne_of_lt A12_ra.lt
  have ge_a13 : n0 ≤ a13 := g13 ▸ sz12
  have go_a13 : h0.size ≤ a13 := g13 ▸ K12.1
  have V13_a5 := V12_a5.ext E13
  have V13_a7 := V12_a7.ext E13
  have V13_a9 := V12_a9.ext E13
  have V13_a11 := V12_a11.ext E13
  have A13_ra := A12_ra.ext E13
  have F13_ra_0 := F12_ra_0.ext E13
  have F13_ra_1 := F12_ra_1.ext E13
  have F13_ra_2 := F12_ra_2.ext E13
  have F13_ra_3 := F12_ra_3.ext E13
  have F13_ra_4 := F12_ra_4.ext E13
  have F13_ra_5 := F12_ra_5.ext E13
  have F13_ra_6 := F12_s.ext E13
  have F13_ra_7 := F12_ra_7.ext E13
  have F13_ra_8 := F12_ra_8.ext E13
  have F13_ra_9 := F12_ra_9.ext E13
  have F13_ra_10 := F12_ra_10.ext E13
  have sz13 := Nat.le_trans sz12 E13.1
  have K13 : Keep h0 h13 [ra] := K12.ext E13
  have V13_n : own_AI Z h13 a13 .boolean [(0 : Int32), (0 : Int32)] := own_AIboolean_new A13 (k := 2) (by decide)
  obtain ⟨T14, h14, X14, e14, W14, st14⟩ := putF X13 hx hZ hown (host := "") (Or.inl (H 39 rfl)) Via.refl e13 F13_ra_7 A13_ra (Or.inr ⟨(H 40 rfl), rfl, hnm⟩) (H 13 rfl) (ty := (.array .boolean)) (by decide) rfl rfl (g := (mkF m 87 #[rv ra, iv (2 : Int32), jv (1 : Int64), s2, iv (0 : Int32)] [(.ref a13), (.ref ra)])) rfl rfl (D d4_87)
  have V14_a5 := V13_a5.other W14 (Ne.symm ne_ra_a5)
  have V14_a7 := V13_a7.other W14 (Ne.symm ne_ra_a7)
  have V14_a9 := V13_a9.other W14 (Ne.symm ne_ra_a9)
  have V14_a11 := V13_a11.other W14 (Ne.symm ne_ra_a11)
  have V14_a13 := V13_n.other W14 (Ne.symm ne_ra_a13)
  have A14_ra := A13_ra.wr W14
  have F14_ra_0 := F13_ra_0.other W14 (Or.inr (own_sn_75 hw))
  have F14_ra_1 := F13_ra_1.other W14 (Or.inr (own_sn_76 hw))
  have F14_ra_2 := F13_ra_2.other W14 (Or.inr (own_sn_77 hw))
  have F14_ra_3 := F13_ra_3.other W14 (Or.inr (own_sn_78 hw))
  have F14_ra_4 := F13_ra_4.other W14 (Or.inr (own_sn_79 hw))
  have F14_ra_5 := F13_ra_5.other W14 (Or.inr (own_sn_80 hw))
  have F14_ra_6 := F13_ra_6.other W14 (Or.inr (own_sn_81 hw))
  have F14_ra_8 := F13_ra_8.other W14 (Or.inr (own_sn_82 hw))
  have F14_ra_9 := F13_ra_9.other W14 (Or.inr (own_sn_83 hw))
  have F14_ra_10 := F13_ra_10.other W14 (Or.inr (own_sn_84 hw))
  have sz14 := Nat.le_trans sz13 (Keep.of_wr W14).1
  have K14 := K13.wr W14 (Or.inl (by simp))
  have N14 := Fr.snoc X14 N12 PG0
  have F14_s : Fld Z h14 ra own_S "stopped" "[Z" (.ref a13) := F13_ra_7.same W14
  obtain ⟨T15, h15, X15, e15, W15, st15⟩ := putF X14 hx hZ hown (host := "") (Or.inl (H 41 rfl)) Via.refl e14 F14_ra_8 A14_ra (Or.inl (H 42 rfl)) (H 13 rfl) (ty := .int) (by decide) rfl rfl (g := (mkF m 92 #[rv ra, iv (2 : Int32), jv (1 : Int64), s2, iv (0 : Int32)] [(.int (2 : Int32)), (.ref ra)])) rfl rfl (D d4_92)
  have V15_a5 := V14_a5.other W15 (Ne.symm ne_ra_a5)
  have V15_a7 := V14_a7.other W15 (Ne.symm ne_ra_a7)
  have V15_a9 := V14_a9.other W15 (Ne.symm ne_ra_a9)
  have V15_a11 := V14_a11.other W15 (Ne.symm ne_ra_a11)
  have V15_a13 := V14_a13.other W15 (Ne.symm ne_ra_a13)
  have A15_ra := A14_ra.wr W15
  have F15_ra_0 := F14_ra_0.other W15 (Or.inr (own_sn_85 hw))
  have F15_ra_1 := F14_ra_1.other W15 (Or.inr (own_sn_86 hw))
  have F15_ra_2 := F14_ra_2.other W15 (Or.inr (own_sn_87 hw))
  have F15_ra_3 := F14_ra_3.other W15 (Or.inr (own_sn_88 hw))
  have F15_ra_4 := F14_ra_4.other W15 (Or.inr (own_sn_89 hw))
  have F15_ra_5 := F14_ra_5.other W15 (Or.inr (own_sn_90 hw))
  have F15_ra_6 := F14_ra_6.other W15 (Or.inr (own_sn_91 hw))
  have F15_ra_7 := F14_s.other W15 (Or.inr (own_sn_92 hw))
  have F15_ra_9 := F14_ra_9.other W15 (Or.inr (own_sn_93 hw))
  have F15_ra_10 := F14_ra_10.other W15 (Or.inr (own_sn_94 hw))
  have sz15 := Nat.le_trans sz14 (Keep.of_wr W15).1
  have K15 := K14.wr W15 (Or.inl (by simp))
  have N15 := Fr.snoc X15 N14 PG0
  have F15_s : Fld Z h15 ra own_S "open" "I" (.int (2 : Int32)) := F14_ra_8.same W15
  obtain ⟨fs, hr, hrun, hended, hW, hsame⟩ := X15.leave (v := none) (fun _ => rfl) hlk
  refine ⟨_, _, pre0 _ ?_, hrun, hended, _, _, rfl, ?_, ⟨_, rfl⟩, hW, hsame.mono (by decide) (by decide)⟩
  · show Steps p.tables e below (s₁.setTop (mkF m 0 #[rv ra, iv (2 : Int32), jv (1 : Int64), s2, iv (0 : Int32)] [])) _
    refine XS.aloadN X0.here hx rfl (D d4_0) rfl rfl ?_
    refine st1 _ ?_
    refine XS.aloadN X1.here hx rfl (D d4_4) rfl rfl ?_
    refine XS.iconst X1.here hx rfl (D d4_5) ?_
    refine st2 _ ?_
    refine XS.iloadN X2.here hx rfl (D d4_9) rfl ?_
    refine XS.iconst X2.here hx rfl (D d4_10) ?_
    show Steps p.tables e below (T2.setTop (mkF m 11 #[rv ra, iv (2 : Int32), jv (1 : Int64), s2, iv (0 : Int32)] [(.int (1 : Int32)), (.int (2 : Int32))])) _
    refine XS.icmpYes X2.here hx rfl (pc0 := 11) (pc' := 24) rfl (D d4_11) rfl (by decide) (by decide) (by decide) ?_
    refine XS.lloadN X2.here hx rfl (D d4_24) rfl ?_
    refine XS.lconst X2.here hx rfl (D d4_25) ?_
    refine XS.lcmp X2.here hx rfl (D d4_26) rfl ?_
    show Steps p.tables e below (T2.setTop (mkF m 27 #[rv ra, iv (2 : Int32), jv (1 : Int64), s2, iv (0 : Int32)] [(.int (lcmpW (1 : Int64) (1 : Int64)))])) _
    refine XS.ifYes X2.here hx rfl (pc0 := 27) (pc' := 44) rfl (D d4_27) rfl ((if0 _ _).trans (flt (mt (lw_lt (1 : Int64) (1 : Int64)).mp (by decide))).2.1) (by decide) (by decide) ?_
    refine XS.aloadN X2.here hx rfl (D d4_44) rfl rfl ?_
    refine XS.lloadN X2.here hx rfl (D d4_45) rfl ?_
    refine st3 _ ?_
    refine XS.aloadN X3.here hx rfl (D d4_49) rfl rfl ?_
    refine XS.iload X3.here hx rfl (D d4_50) rfl ?_
    refine st4 _ ?_
    refine XS.aloadN X4.here hx rfl (D d4_55) rfl rfl ?_
    refine XS.iloadN X4.here hx rfl (D d4_56) rfl ?_
    refine st5 _ ?_
    refine st6 _ ?_
    refine XS.aloadN X6.here hx rfl (D d4_62) rfl rfl ?_
    refine XS.iloadN X6.here hx rfl (D d4_63) rfl ?_
    refine st7 _ ?_
    refine st8 _ ?_
    refine XS.aloadN X8.here hx rfl (D d4_69) rfl rfl ?_
    refine XS.iloadN X8.here hx rfl (D d4_70) rfl ?_
    refine st9 _ ?_
    refine st10 _ ?_
    refine XS.aloadN X10.here hx rfl (D d4_76) rfl rfl ?_
    refine XS.iloadN X10.here hx rfl (D d4_77) rfl ?_
    refine st11 _ ?_
    refine st12 _ ?_
    refine XS.aloadN X12.here hx rfl (D d4_83) rfl rfl ?_
    refine XS.iloadN X12.here hx rfl (D d4_84) rfl ?_
    refine st13 _ ?_
    refine st14 _ ?_
    refine XS.aloadN X14.here hx rfl (D d4_90) rfl rfl ?_
    refine XS.iloadN X14.here hx rfl (D d4_91) rfl ?_
    refine st15 _ ?_
    show Steps p.tables e below (T15.setTop (mkF m 95 #[rv ra, iv (2 : Int32), jv (1 : Int64), s2, iv (0 : Int32)] [])) _
    exact X15.returnOut hx Bd.returns (D d4_95) hr
  · show Q4_2 Z ra h0 n0 _ T15.heap _
    rw [e15]
    exact ⟨rfl, N15, a5, a7, a9, a11, a13, ⟨go_a5, go_a7, go_a9, go_a11, go_a13⟩, ⟨ne_a5_a7, ne_a5_a9, ne_a5_a11, ne_a5_a13, ne_a7_a9, ne_a7_a11, ne_a7_a13, ne_a9_a11, ne_a9_a13, ne_a11_a13⟩, K15, A15_ra, F15_ra_3, F15_ra_4, F15_ra_5, F15_ra_6, F15_ra_7, F15_s, F15_ra_0, F15_ra_9, F15_ra_10, V15_a5, V15_a7, V15_a9, V15_a11, V15_a13⟩
theorem ef_3_2 (m : MethodId) (ra : Addr) : entryFrame m #[(.ref ra), (.int (2 : Int32)), (.long (1 : Int64))] 4 = mkF m 0 #[rv ra, iv (2 : Int32), jv (1 : Int64), s2] [] := by first | (simp [entryFrame, mkF, argsToLocals, Value.category, maxLocals]; done) | rfl
def Q3_2 (Z : State) (ra : Addr)  (h0 : Heap) (n0 : Nat) (v : Option Value) (h : Heap) (L : List Loc) : Prop := v = none ∧ Fr n0 L ∧ ∃ rl rs rr rg rt : Addr, (h0.size ≤ rl ∧ h0.size ≤ rs ∧ h0.size ≤ rr ∧ h0.size ≤ rg ∧ h0.size ≤ rt) ∧ (rl ≠ rs ∧ rl ≠ rr ∧ rl ≠ rg ∧ rl ≠ rt ∧ rs ≠ rr ∧ rs ≠ rg ∧ rs ≠ rt ∧ rr ≠ rg ∧ rr ≠ rt ∧ rg ≠ rt) ∧ Keep h0 h [ra] ∧ Exa Z h ra "com/example/tributary/tributary/io/Silence" ∧ Fld Z h ra own_S "last" "[J" (.ref rl) ∧ Fld Z h ra own_S "sent" "[Z" (.ref rs) ∧ Fld Z h ra own_S "runs" "[J" (.ref rr) ∧ Fld Z h ra own_S "gone" "[Z" (.ref rg) ∧ Fld Z h ra own_S "stopped" "[Z" (.ref rt) ∧ Fld Z h ra own_S "open" "I" (.int (2 : Int32)) ∧ Fld Z h ra own_S "lastLeft" "I" (.int (-1 : Int32)) ∧ Fld Z h ra own_S "started" "Z" (.int (0 : Int32)) ∧ Fld Z h ra own_S "latest" "J" (.long (0 : Int64)) ∧ own_AJ Z h rl [(0 : Int64), (0 : Int64)] ∧ own_AI Z h rs .boolean [(0 : Int32), (0 : Int32)] ∧ own_AJ Z h rr [(0 : Int64), (0 : Int64)] ∧ own_AI Z h rg .boolean [(0 : Int32), (0 : Int32)] ∧ own_AI Z h rt .boolean [(0 : Int32), (0 : Int32)]
set_option maxRecDepth 65536 in
set_option maxHeartbeats 40000000 in
theorem rm3_2 (l : Launch) (Z : State) (a0 : Array Value) (hw : ∀ d ∈ tables_1, d.before a0 Z = true) (ws : List Jvm.Cond) (ra : Addr)  (h0 : Heap) (n0 : Nat) (Z0 : n0 ≤ h0.size) (PE0 : Exa Z h0 ra "com/example/tributary/tributary/io/Silence") (PF0 : Fld Z h0 ra own_S "lastLeft" "I" (.int (0 : Int32))) (PF1 : Fld Z h0 ra own_S "limit" "J" (.long (0 : Int64))) (PF2 : Fld Z h0 ra own_S "includesLast" "Z" (.int (0 : Int32))) (PF3 : Fld Z h0 ra own_S "last" "[J" .null) (PF4 : Fld Z h0 ra own_S "sent" "[Z" .null) (PF5 : Fld Z h0 ra own_S "runs" "[J" .null) (PF6 : Fld Z h0 ra own_S "gone" "[Z" .null) (PF7 : Fld Z h0 ra own_S "stopped" "[Z" .null) (PF8 : Fld Z h0 ra own_S "open" "I" (.int (0 : Int32))) (PF9 : Fld Z h0 ra own_S "started" "Z" (.int (0 : Int32))) (PF10 : Fld Z h0 ra own_S "latest" "J" (.long (0 : Int64))) (PG0 : n0 ≤ ra) :
    MetFree l (⟨"com/example/tributary/tributary/io/Silence", "<init>", "(IJ)V"⟩ : MethodName) (head1 (Jvm.Cond.code (⟨"com/example/tributary/tributary/io/Silence", "<init>", "(IJ)V"⟩ : MethodName) prog_43_method_1_code 4 none :: ws) ({ frames := 2, cells := 5, slots := 10, locals := 28 } : Room)) (fun a U => a = #[(.ref ra), (.int (2 : Int32)), (.long (1 : Int64))] ∧ Z.Warmed39 U.vm ∧ U.heap = h0) (fun _ _ _ _ _ => True) (fun _ U o U' => ∃ v L, o = .returned v ∧ Q3_2 Z ra h0 n0 v U'.heap L ∧ FrameEnd U o U' L ({ frames := 2, cells := 5, slots := 10, locals := 28 } : Room).cells ({ frames := 2, cells := 5, slots := 10, locals := 28 } : Room).slots) := by
  refine MetFree.of_bodySF (plainFor_of_name pn_4) hisR ?_
  intro p e s m args below meth c s₁ Bd hml0 hP hK
  obtain ⟨rfl, hZ, hh⟩ := hP
  have hx := Bd.exec
  have hby := Bd.bytes
  have hml : c.maxLocals = 4 := hml0
  have hown : s.vm.findClass "com/example/tributary/tributary/io/Silence" = some m.cls := findClass_of_methodNamed Bd.named
  have hnm := (name_of_methodNamed Bd.named Bd.method).1
  have X0 : Stand p l e ({ frames := 2, cells := 5, slots := 10, locals := 28 } : Room) s m #[(.ref ra), (.int (2 : Int32)), (.long (1 : Int64))] below meth c s₁ [] 0 0 := Stand.of_body Bd
  have hlk : meth.locks = false := by first | exact BodyLoose.notSynchronized (by assumption) | exact Body.notSynchronized (by assumption)
  have e0 : s₁.heap = h0 := by rw [← hh, Bd.state]; rfl
  have N0 := Fr.nil n0
  have pre0 : ∀ t, Steps p.tables e below (s₁.setTop (mkF m 0 #[rv ra, iv (2 : Int32), jv (1 : Int64), s2] [])) t → Steps p.tables e below (s₁.setTop (entryFrame m #[(.ref ra), (.int (2 : Int32)), (.long (1 : Int64))] 4)) t := fun t k => castTop (ef_3_2 m ra) k
  generalize s₁.setTop (entryFrame m #[(.ref ra), (.int (2 : Int32)), (.long (1 : Int64))] 4) = B0 at pre0 ⊢
  have H : ∀ (i : Nat) {d : Jvm.Cond}, tables_1[i]? = some d → d.before a0 Z = true := fun i d q => hw d (List.mem_of_getElem? q)
  have D : ∀ {pc : Nat} {r : Except DecodeError (Instr × Nat)}, decode prog_43_method_1_code pc = r → decode c.code pc = r := fun q => hb hby q
  obtain ⟨_, _, ⟨T1, L1, k1, n1⟩, -, X1, ⟨Lc1, hQ1, l1, y1, z1⟩, st1⟩ := X0.specialBack hx (y := (⟨"com/example/tributary/tributary/io/Silence", "<init>", "(IJZ)V"⟩ : MethodName)) rfl hown (mvT hZ (H 18 rfl)) (mvT hZ (H 19 rfl)) (mvT hZ (H 20 rfl)) (by decide) (backOf (W := 0) (rm4_2 l Z a0 hw [] ra  h0 n0 Z0 PE0 PF0 PF1 PF2 PF3 PF4 PF5 PF6 PF7 PF8 PF9 PF10 PG0 ) hZ (H 20 rfl) (H 14 rfl) (by decide) (by decide)) (g := (mkF m 4 #[rv ra, iv (2 : Int32), jv (1 : Int64), s2] [(.int (0 : Int32)), (.long (1 : Int64)), (.int (2 : Int32)), (.ref ra)])) rfl (by rw [hml]; rfl) (Steps.refl _) (a := ra) (argsL := [(.int (2 : Int32)), (.long (1 : Int64)), (.int (0 : Int32))]) (rest := []) (lenOf pd_96 rfl) rfl (by show 2 * 0 + _ ≤ _; exact Nat.le_of_eq rfl) (D d3_4) (fun _ _ => ⟨rfl, e0, (by decide : 0 + 5 ≤ _), (by decide : 0 + 10 ≤ _)⟩)
  dsimp only [Pt.U, Pt.locs, Pt.cells, Pt.slots] at X1 l1 y1 z1 st1 hQ1
  replace y1 : k1 = 5 := y1
  replace z1 : n1 = 10 := z1
  replace l1 := l1.symm; replace y1 := y1.symm; replace z1 := z1.symm; subst l1 y1 z1
  obtain ⟨rfl, N1q, rl1, rs1, rr1, rg1, rt1, ⟨go_rl1, go_rs1, go_rr1, go_rg1, go_rt1⟩, ⟨ne_rl1_rs1, ne_rl1_rr1, ne_rl1_rg1, ne_rl1_rt1, ne_rs1_rr1, ne_rs1_rg1, ne_rs1_rt1, ne_rr1_rg1, ne_rr1_rt1, ne_rg1_rt1⟩, K1, A1_o0, F1_o0, F1_o1, F1_o2, F1_o3, F1_o4, F1_o5, F1_o6, F1_o7, F1_o8, V1_o0, V1_o1, V1_o2, V1_o3, V1_o4⟩ := hQ1
  obtain ⟨h1, e1⟩ : ∃ z, T1.heap = z := ⟨_, rfl⟩
  rw [e1] at K1 A1_o0 F1_o0 F1_o1 F1_o2 F1_o3 F1_o4 F1_o5 F1_o6 F1_o7 F1_o8 V1_o0 V1_o1 V1_o2 V1_o3 V1_o4
  have ne_ra_rl1 : ra ≠ rl1 := Nat.ne_of_lt (Nat.lt_of_lt_of_le PE0.lt go_rl1)
  have ge_rl1 : n0 ≤ rl1 := Nat.le_trans Z0 go_rl1
  have gO_rl1 : h0.size ≤ rl1 := Nat.le_trans (Keep.refl h0 [ra]).1 go_rl1
  have ne_ra_rs1 : ra ≠ rs1 := Nat.ne_of_lt (Nat.lt_of_lt_of_le PE0.lt go_rs1)
  have ge_rs1 : n0 ≤ rs1 := Nat.le_trans Z0 go_rs1
  have gO_rs1 : h0.size ≤ rs1 := Nat.le_trans (Keep.refl h0 [ra]).1 go_rs1
  have ne_ra_rr1 : ra ≠ rr1 := Nat.ne_of_lt (Nat.lt_of_lt_of_le PE0.lt go_rr1)
  have ge_rr1 : n0 ≤ rr1 := Nat.le_trans Z0 go_rr1
  have gO_rr1 : h0.size ≤ rr1 := Nat.le_trans (Keep.refl h0 [ra]).1 go_rr1
  have ne_ra_rg1 : ra ≠ rg1 := Nat.ne_of_lt (Nat.lt_of_lt_of_le PE0.lt go_rg1)
  have ge_rg1 : n0 ≤ rg1 := Nat.le_trans Z0 go_rg1
  have gO_rg1 : h0.size ≤ rg1 := Nat.le_trans (Keep.refl h0 [ra]).1 go_rg1
  have ne_ra_rt1 : ra ≠ rt1 := Nat.ne_of_lt (Nat.lt_of_lt_of_le PE0.lt go_rt1)
  have ge_rt1 : n0 ≤ rt1 := Nat.le_trans Z0 go_rt1
  have gO_rt1 : h0.size ≤ rt1 := Nat.le_trans (Keep.refl h0 [ra]).1 go_rt1
  have A1_ra := PE0.keep K1
  have sz1 : n0 ≤ h1.size := Nat.le_trans Z0 K1.1
  have KK1 : Keep h0 h1 [ra] := (Keep.refl h0 [ra]).trans K1 (allS (Or.inl (by simp)) all0)
  have N1 := Fr.app N0 N1q
  obtain ⟨fs, hr, hrun, hended, hW, hsame⟩ := X1.leave (v := none) (fun _ => rfl) hlk
  refine ⟨_, _, pre0 _ ?_, hrun, hended, _, _, rfl, ?_, ⟨_, rfl⟩, hW, hsame.mono (by decide) (by decide)⟩
  · show Steps p.tables e below (s₁.setTop (mkF m 0 #[rv ra, iv (2 : Int32), jv (1 : Int64), s2] [])) _
    refine XS.aloadN X0.here hx rfl (D d3_0) rfl rfl ?_
    refine XS.iloadN X0.here hx rfl (D d3_1) rfl ?_
    refine XS.lloadN X0.here hx rfl (D d3_2) rfl ?_
    refine XS.iconst X0.here hx rfl (D d3_3) ?_
    refine st1.trans ?_
    show Steps p.tables e below (T1.setTop (mkF m 7 #[rv ra, iv (2 : Int32), jv (1 : Int64), s2] [])) _
    exact X1.returnOut hx Bd.returns (D d3_7) hr
  · show Q3_2 Z ra h0 n0 _ T1.heap _
    rw [e1]
    exact ⟨rfl, N1, rl1, rs1, rr1, rg1, rt1, ⟨gO_rl1, gO_rs1, gO_rr1, gO_rg1, gO_rt1⟩, ⟨ne_rl1_rs1, ne_rl1_rr1, ne_rl1_rg1, ne_rl1_rt1, ne_rs1_rr1, ne_rs1_rg1, ne_rs1_rt1, ne_rr1_rg1, ne_rr1_rt1, ne_rg1_rt1⟩, KK1, A1_o0, F1_o0, F1_o1, F1_o2, F1_o3, F1_o4, F1_o5, F1_o6, F1_o7, F1_o8, V1_o0, V1_o1, V1_o2, V1_o3, V1_o4⟩
theorem ef_6_2 (m : MethodId) (ra : Addr) : entryFrame m #[(.ref ra)] 4 = mkF m 0 #[rv ra, u0, u0, u0] [] := by first | (simp [entryFrame, mkF, argsToLocals, Value.category, maxLocals]; done) | rfl
def Q6_2 (Z : State) (ra : Addr) (rl : Addr) (rs : Addr) (rr : Addr) (rg : Addr) (rt : Addr) (sd : Int32) (lt : Int64) (ll : Int32) (jl0 : Int64) (jl1 : Int64) (jr0 : Int64) (jr1 : Int64) (bs0 : Int32) (bs1 : Int32) (bg0 : Int32) (bg1 : Int32) (bt0 : Int32) (bt1 : Int32) (h0 : Heap) (n0 : Nat) (v : Option Value) (h : Heap) (L : List Loc) : Prop := v = some (.ref h0.size) ∧ Fr n0 L ∧ Keep h0 h [] ∧ own_AJ Z h h0.size [(if sd = (0 : Int32) then (0 : Int64) else (1 : Int64)), lt, (ll).toInt64, (((if bs0 = (0 : Int32) then (0 : Int64) else (1 : Int64)) ||| (if bg0 = (0 : Int32) then (0 : Int64) else (2 : Int64))) ||| (if bt0 = (0 : Int32) then (0 : Int64) else (4 : Int64))), jl0, jr0, (((if bs1 = (0 : Int32) then (0 : Int64) else (1 : Int64)) ||| (if bg1 = (0 : Int32) then (0 : Int64) else (2 : Int64))) ||| (if bt1 = (0 : Int32) then (0 : Int64) else (4 : Int64))), jl1, jr1]
set_option maxRecDepth 65536 in
set_option maxHeartbeats 40000000 in
theorem rm6_2 (l : Launch) (Z : State) (a0 : Array Value) (hw : ∀ d ∈ tables_1, d.before a0 Z = true) (ws : List Jvm.Cond) (ra : Addr) (rl : Addr) (rs : Addr) (rr : Addr) (rg : Addr) (rt : Addr) (sd : Int32) (lt : Int64) (ll : Int32) (jl0 : Int64) (jl1 : Int64) (jr0 : Int64) (jr1 : Int64) (bs0 : Int32) (bs1 : Int32) (bg0 : Int32) (bg1 : Int32) (bt0 : Int32) (bt1 : Int32) (h0 : Heap) (n0 : Nat) (Z0 : n0 ≤ h0.size) (PA0 : own_AJ Z h0 rl [jl0, jl1]) (PA1 : own_AI Z h0 rs .boolean [bs0, bs1]) (PA2 : own_AJ Z h0 rr [jr0, jr1]) (PA3 : own_AI Z h0 rg .boolean [bg0, bg1]) (PA4 : own_AI Z h0 rt .boolean [bt0, bt1]) (PE0 : Exa Z h0 ra "com/example/tributary/tributary/io/Silence") (PF0 : Fld Z h0 ra own_S "last" "[J" (.ref rl)) (PF1 : Fld Z h0 ra own_S "sent" "[Z" (.ref rs)) (PF2 : Fld Z h0 ra own_S "runs" "[J" (.ref rr)) (PF3 : Fld Z h0 ra own_S "gone" "[Z" (.ref rg)) (PF4 : Fld Z h0 ra own_S "stopped" "[Z" (.ref rt)) (PF5 : Fld Z h0 ra own_S "started" "Z" (.int sd)) (PF6 : Fld Z h0 ra own_S "latest" "J" (.long lt)) (PF7 : Fld Z h0 ra own_S "lastLeft" "I" (.int ll)) :
    MetFree l (⟨"com/example/tributary/tributary/io/Silence", "measured", "()[J"⟩ : MethodName) (head1 (Jvm.Cond.code (⟨"com/example/tributary/tributary/io/Silence", "measured", "()[J"⟩ : MethodName) prog_43_method_8_code 4 (some (.array .long)) :: ws) ({ frames := 0, cells := 1, slots := 9, locals := 0 } : Room)) (fun a U => a = #[(.ref ra)] ∧ Z.Warmed39 U.vm ∧ U.heap = h0) (fun _ _ _ _ _ => True) (fun _ U o U' => ∃ v L, o = .returned v ∧ Q6_2 Z ra rl rs rr rg rt sd lt ll jl0 jl1 jr0 jr1 bs0 bs1 bg0 bg1 bt0 bt1 h0 n0 v U'.heap L ∧ FrameEnd U o U' L ({ frames := 0, cells := 1, slots := 9, locals := 0 } : Room).cells ({ frames := 0, cells := 1, slots := 9, locals := 0 } : Room).slots) := by
  refine MetFree.of_bodySF (plainFor_of_name pn_4) hisR ?_
  intro p e s m args below meth c s₁ Bd hml0 hP hK
  obtain ⟨rfl, hZ, hh⟩ := hP
  have hx := Bd.exec
  have hby := Bd.bytes
  have hml : c.maxLocals = 4 := hml0
  have hown : s.vm.findClass "com/example/tributary/tributary/io/Silence" = some m.cls := findClass_of_methodNamed Bd.named
  have hnm := (name_of_methodNamed Bd.named Bd.method).1
  have X0 : Stand p l e ({ frames := 0, cells := 1, slots := 9, locals := 0 } : Room) s m #[(.ref ra)] below meth c s₁ [] 0 0 := Stand.of_body Bd
  have hlk : meth.locks = false := by first | exact BodyLoose.notSynchronized (by assumption) | exact Body.notSynchronized (by assumption)
  have e0 : s₁.heap = h0 := by rw [← hh, Bd.state]; rfl
  have N0 := Fr.nil n0
  have pre0 : ∀ t, Steps p.tables e below (s₁.setTop (mkF m 0 #[rv ra, u0, u0, u0] [])) t → Steps p.tables e below (s₁.setTop (entryFrame m #[(.ref ra)] 4)) t := fun t k => castTop (ef_6_2 m ra) k
  generalize s₁.setTop (entryFrame m #[(.ref ra)] 4) = B0 at pre0 ⊢
  have H : ∀ (i : Nat) {d : Jvm.Cond}, tables_1[i]? = some d → d.before a0 Z = true := fun i d q => hw d (List.mem_of_getElem? q)
  have D : ∀ {pc : Nat} {r : Except DecodeError (Instr × Nat)}, decode prog_43_method_8_code pc = r → decode c.code pc = r := fun q => hb hby q
  obtain ⟨T1, X1, e1, st1⟩ := getF X0 hx hZ hown (host := "") (Or.inl (H 37 rfl)) Via.refl e0 PF3 (g := (mkF m 3 #[rv ra, u0, u0, u0] [(.ref ra), (.int (3 : Int32)), (.int (3 : Int32))])) rfl rfl (D d6_3)
  obtain ⟨T2, h2, cA2, X2, e2, E2, A2, st2⟩ := newP X1 hx hZ (aty := .long) (H 11 rfl) e1 (g := (mkF m 9 #[rv ra, u0, u0, u0] [(.int (9 : Int32))])) rfl (D d6_9) rfl (by decide) (cap := 9) (by decide) (by decide) (by decide) (by decide)
  obtain ⟨a2, g2⟩ : ∃ z, z = h0.size := ⟨_, rfl⟩
  rw [← g2] at A2 st2
  have ne_rl_a2 : rl ≠ a2 := g2 ▸ Nat.ne_of_lt PA0.lt
  have ne_rs_a2 : rs ≠ a2 := g2 ▸ Nat.ne_of_lt PA1.lt
  have ne_rr_a2 : rr ≠ a2 := g2 ▸ Nat.ne_of_lt PA2.lt
  have ne_rg_a2 : rg ≠ a2 := g2 ▸ Nat.ne_of_lt PA3.lt
  have ne_rt_a2 : rt ≠ a2 := g2 ▸ Nat.ne_of_lt PA4.lt
  have ne_ra_a2 : ra ≠ a2 := g2 ▸ Nat.ne_of_lt PE0.lt
  have ge_a2 : n0 ≤ a2 := g2 ▸ Z0
  have go_a2 : h0.size ≤ a2 := g2 ▸ (Keep.refl h0 []).1
  have V2_rl := PA0.ext E2
  have V2_rs := PA1.ext E2
  have V2_rr := PA2.ext E2
  have V2_rg := PA3.ext E2
  have V2_rt := PA4.ext E2
  have A2_ra := PE0.ext E2
  have F2_ra_0 := PF0.ext E2
  have F2_ra_1 := PF1.ext E2
  have F2_ra_2 := PF2.ext E2
  have F2_ra_3 := PF3.ext E2
  have F2_ra_4 := PF4.ext E2
  have F2_ra_5 := PF5.ext E2
  have F2_ra_6 := PF6.ext E2
  have F2_ra_7 := PF7.ext E2
  have sz2 := Nat.le_trans Z0 E2.1
  have K2 : Keep h0 h2 [] := (Keep.refl h0 []).ext E2
  have V2_n : own_AJ Z h2 a2 [(0 : Int64), (0 : Int64), (0 : Int64), (0 : Int64), (0 : Int64), (0 : Int64), (0 : Int64), (0 : Int64), (0 : Int64)] := own_AJ_new A2 (k := 9) (by decide)
  obtain ⟨T3, X3, e3, st3⟩ := getF X2 hx hZ hown (host := "") (Or.inl (H 48 rfl)) Via.refl e2 F2_ra_5 (g := (mkF m 15 #[rv ra, rv a2, u0, u0] [(.ref ra), (.int (0 : Int32)), (.ref a2)])) rfl rfl (D d6_15)
  have pre5 : ∀ t, Steps p.tables e below (T3.setTop (mkF m 18 #[rv ra, rv a2, u0, u0] [(.int sd), (.int (0 : Int32)), (.ref a2)])) t → Steps p.tables e below B0 t := by
    intro t k
    refine pre0 t ?_
    show Steps p.tables e below (s₁.setTop (mkF m 0 #[rv ra, u0, u0, u0] [])) _
    refine XS.iconst X0.here hx rfl (D d6_0) ?_
    refine XS.iconst X0.here hx rfl (D d6_1) ?_
    refine XS.aloadN X0.here hx rfl (D d6_2) rfl rfl ?_
    refine st1 _ ?_
    refine own_alenI X1 hx hZ e1 PA3 (D d6_6) _ ?_
    refine XS.imul X1.here hx rfl (D d6_7) rfl ?_
    refine XS.iadd X1.here hx rfl (D d6_8) rfl ?_
    refine st2 _ ?_
    refine XS.astoreN X2.here hx rfl (D d6_11) rfl rfl (l' := #[rv ra, rv a2, u0, u0]) rfl ?_
    refine XS.aloadN X2.here hx rfl (D d6_12) rfl rfl ?_
    refine XS.iconst X2.here hx rfl (D d6_13) ?_
    refine XS.aloadN X2.here hx rfl (D d6_14) rfl rfl ?_
    refine st3 _ ?_
    exact k
  clear X1 e1 st1 X2 e2 E2 A2 st2 st3
  have pre6 : ∀ t, Steps p.tables e below (T3.setTop (mkF m 26 #[rv ra, rv a2, u0, u0] [(.long (if sd = (0 : Int32) then (0 : Int64) else (1 : Int64))), (.int (0 : Int32)), (.ref a2)])) t → Steps p.tables e below B0 t := by
    by_cases c4 : sd = (0 : Int32)
    · try simp only [if_pos c4]
      intro t k
      refine pre5 t ?_
      show Steps p.tables e below (T3.setTop (mkF m 18 #[rv ra, rv a2, u0, u0] [(.int sd), (.int (0 : Int32)), (.ref a2)])) _
      refine XS.ifYes X3.here hx rfl (pc0 := 18) (pc' := 25) rfl (D d6_18) rfl ((if0 _ _).trans (teq c4).1) (by decide) (by decide) ?_
      refine XS.lconst X3.here hx rfl (D d6_25) ?_
      exact k
    · try simp only [if_neg c4]
      intro t k
      refine pre5 t ?_
      show Steps p.tables e below (T3.setTop (mkF m 18 #[rv ra, rv a2, u0, u0] [(.int sd), (.int (0 : Int32)), (.ref a2)])) _
      refine XS.ifNo X3.here hx rfl (D d6_18) rfl ((if0 _ _).trans (feq c4).1) ?_
      refine XS.lconst X3.here hx rfl (D d6_21) ?_
      refine XS.goto X3.here hx rfl (pc0 := 22) (pc' := 26) rfl (D d6_22) (by decide) (by decide) ?_
      exact k
  obtain ⟨T7, h7, X7, e7, W7, V7, st7⟩ := own_lastore X3 hx hZ e3 V2_n (j := (0 : Int32)) (show 0 ≤ Int32.toInt (0 : Int32) ∧ Int32.toInt (0 : Int32) < ((9 : Nat) : Int) by decide) (x := (if sd = (0 : Int32) then (0 : Int64) else (1 : Int64))) (D d6_26)
  have V7_rl := V2_rl.other W7 ne_rl_a2
  have V7_rs := V2_rs.other W7 ne_rs_a2
  have V7_rr := V2_rr.other W7 ne_rr_a2
  have V7_rg := V2_rg.other W7 ne_rg_a2
  have V7_rt := V2_rt.other W7 ne_rt_a2
  have A7_ra := A2_ra.wr W7
  have F7_ra_0 := F2_ra_0.other W7 (Or.inl ne_ra_a2)
  have F7_ra_1 := F2_ra_1.other W7 (Or.inl ne_ra_a2)
  have F7_ra_2 := F2_ra_2.other W7 (Or.inl ne_ra_a2)
  have F7_ra_3 := F2_ra_3.other W7 (Or.inl ne_ra_a2)
  have F7_ra_4 := F2_ra_4.other W7 (Or.inl ne_ra_a2)
  have F7_ra_5 := F2_ra_5.other W7 (Or.inl ne_ra_a2)
  have F7_ra_6 := F2_ra_6.other W7 (Or.inl ne_ra_a2)
  have F7_ra_7 := F2_ra_7.other W7 (Or.inl ne_ra_a2)
  have sz7 := Nat.le_trans sz2 (Keep.of_wr W7).1
  have K7 := K2.wr W7 (Or.inr go_a2)
  have N7 := Fr.snoc X7 N0 ge_a2
  have V7_n : own_AJ Z h7 a2 [(if sd = (0 : Int32) then (0 : Int64) else (1 : Int64)), (0 : Int64), (0 : Int64), (0 : Int64), (0 : Int64), (0 : Int64), (0 : Int64), (0 : Int64), (0 : Int64)] := V7
  obtain ⟨T8, X8, e8, st8⟩ := getF X7 hx hZ hown (host := "") (Or.inl (H 50 rfl)) Via.refl e7 F7_ra_6 (g := (mkF m 30 #[rv ra, rv a2, u0, u0] [(.ref ra), (.int (1 : Int32)), (.ref a2)])) rfl rfl (D d6_30)
  obtain ⟨T9, h9, X9, e9, W9, V9, st9⟩ := own_lastore X8 hx hZ e8 V7_n (j := (1 : Int32)) (show 0 ≤ Int32.toInt (1 : Int32) ∧ Int32.toInt (1 : Int32) < ((9 : Nat) : Int) by decide) (x := lt) (D d6_33)
  have V9_rl := V7_rl.other W9 ne_rl_a2
  have V9_rs := V7_rs.other W9 ne_rs_a2
  have V9_rr := V7_rr.other W9 ne_rr_a2
  have V9_rg := V7_rg.other W9 ne_rg_a2
  have V9_rt := V7_rt.other W9 ne_rt_a2
  have A9_ra := A7_ra.wr W9
  have F9_ra_0 := F7_ra_0.other W9 (Or.inl ne_ra_a2)
  have F9_ra_1 := F7_ra_1.other W9 (Or.inl ne_ra_a2)
  have F9_ra_2 := F7_ra_2.other W9 (Or.inl ne_ra_a2)
  have F9_ra_3 := F7_ra_3.other W9 (Or.inl ne_ra_a2)
  have F9_ra_4 := F7_ra_4.other W9 (Or.inl ne_ra_a2)
  have F9_ra_5 := F7_ra_5.other W9 (Or.inl ne_ra_a2)
  have F9_ra_6 := F7_ra_6.other W9 (Or.inl ne_ra_a2)
  have F9_ra_7 := F7_ra_7.other W9 (Or.inl ne_ra_a2)
  have sz9 := Nat.le_trans sz7 (Keep.of_wr W9).1
  have K9 := K7.wr W9 (Or.inr go_a2)
  have N9 := Fr.snoc X9 N7 ge_a2
  have V9_n : own_AJ Z h9 a2 [(if sd = (0 : Int32) then (0 : Int64) else (1 : Int64)), lt, (0 : Int64), (0 : Int64), (0 : Int64), (0 : Int64), (0 : Int64), (0 : Int64), (0 : Int64)] := V9
  obtain ⟨T10, X10, e10, st10⟩ := getF X9 hx hZ hown (host := "") (Or.inl (H 24 rfl)) Via.refl e9 F9_ra_7 (g := (mkF m 37 #[rv ra, rv a2, u0, u0] [(.ref ra), (.int (2 : Int32)), (.ref a2)])) rfl rfl (D d6_37)
  obtain ⟨T11, h11, X11, e11, W11, V11, st11⟩ := own_lastore X10 hx hZ e10 V9_n (j := (2 : Int32)) (show 0 ≤ Int32.toInt (2 : Int32) ∧ Int32.toInt (2 : Int32) < ((9 : Nat) : Int) by decide) (x := (ll).toInt64) (D d6_41)
  have V11_rl := V9_rl.other W11 ne_rl_a2
  have V11_rs := V9_rs.other W11 ne_rs_a2
  have V11_rr := V9_rr.other W11 ne_rr_a2
  have V11_rg := V9_rg.other W11 ne_rg_a2
  have V11_rt := V9_rt.other W11 ne_rt_a2
  have A11_ra := A9_ra.wr W11
  have F11_ra_0 := F9_ra_0.other W11 (Or.inl ne_ra_a2)
  have F11_ra_1 := F9_ra_1.other W11 (Or.inl ne_ra_a2)
  have F11_ra_2 := F9_ra_2.other W11 (Or.inl ne_ra_a2)
  have F11_ra_3 := F9_ra_3.other W11 (Or.inl ne_ra_a2)
  have F11_ra_4 := F9_ra_4.other W11 (Or.inl ne_ra_a2)
  have F11_ra_5 := F9_ra_5.other W11 (Or.inl ne_ra_a2)
  have F11_ra_6 := F9_ra_6.other W11 (Or.inl ne_ra_a2)
  have F11_ra_7 := F9_ra_7.other W11 (Or.inl ne_ra_a2)
  have sz11 := Nat.le_trans sz9 (Keep.of_wr W11).1
  have K11 := K9.wr W11 (Or.inr go_a2)
  have N11 := Fr.snoc X11 N9 ge_a2
  have V11_n : own_AJ Z h11 a2 [(if sd = (0 : Int32) then (0 : Int64) else (1 : Int64)), lt, (ll).toInt64, (0 : Int64), (0 : Int64), (0 : Int64), (0 : Int64), (0 : Int64), (0 : Int64)] := V11
  obtain ⟨T12, X12, e12, st12⟩ := getF X11 hx hZ hown (host := "") (Or.inl (H 37 rfl)) Via.refl e11 F11_ra_3 (g := (mkF m 46 #[rv ra, rv a2, iv (0 : Int32), u0] [(.ref ra), (.int (0 : Int32))])) rfl rfl (D d6_46)
  obtain ⟨T13, X13, e13, st13⟩ := getF X12 hx hZ hown (host := "") (Or.inl (H 33 rfl)) Via.refl e12 F11_ra_1 (g := (mkF m 62 #[rv ra, rv a2, iv (0 : Int32), iv (3 : Int32)] [(.ref ra), (.int (3 : Int32)), (.ref a2)])) rfl rfl (D d6_62)
  have pre15 : ∀ t, Steps p.tables e below (T13.setTop (mkF m 67 #[rv ra, rv a2, iv (0 : Int32), iv (3 : Int32)] [(.int bs0), (.int (3 : Int32)), (.ref a2)])) t → Steps p.tables e below B0 t := by
    intro t k
    refine pre6 t ?_
    show Steps p.tables e below (T3.setTop (mkF m 26 #[rv ra, rv a2, u0, u0] [(.long (if sd = (0 : Int32) then (0 : Int64) else (1 : Int64))), (.int (0 : Int32)), (.ref a2)])) _
    refine st7 _ ?_
    refine XS.aloadN X7.here hx rfl (D d6_27) rfl rfl ?_
    refine XS.iconst X7.here hx rfl (D d6_28) ?_
    refine XS.aloadN X7.here hx rfl (D d6_29) rfl rfl ?_
    refine st8 _ ?_
    refine st9 _ ?_
    refine XS.aloadN X9.here hx rfl (D d6_34) rfl rfl ?_
    refine XS.iconst X9.here hx rfl (D d6_35) ?_
    refine XS.aloadN X9.here hx rfl (D d6_36) rfl rfl ?_
    refine st10 _ ?_
    refine XS.i2l X10.here hx rfl (D d6_40) rfl ?_
    refine st11 _ ?_
    refine XS.iconst X11.here hx rfl (D d6_42) ?_
    refine XS.istoreN X11.here hx rfl (D d6_43) rfl (l' := #[rv ra, rv a2, iv (0 : Int32), u0]) rfl ?_
    refine XS.iloadN X11.here hx rfl (D d6_44) rfl ?_
    refine XS.aloadN X11.here hx rfl (D d6_45) rfl rfl ?_
    refine st12 _ ?_
    refine own_alenI X12 hx hZ e12 V11_rg (D d6_49) _ ?_
    show Steps p.tables e below (T12.setTop (mkF m 50 #[rv ra, rv a2, iv (0 : Int32), u0] [(.int (2 : Int32)), (.int (0 : Int32))])) _
    refine XS.icmpNo X12.here hx rfl (D d6_50) rfl (by decide) ?_
    refine XS.iconst X12.here hx rfl (D d6_53) ?_
    refine XS.iconst X12.here hx rfl (D d6_54) ?_
    refine XS.iloadN X12.here hx rfl (D d6_55) rfl ?_
    refine XS.imul X12.here hx rfl (D d6_56) rfl ?_
    refine XS.iadd X12.here hx rfl (D d6_57) rfl ?_
    refine XS.istoreN X12.here hx rfl (D d6_58) rfl (l' := #[rv ra, rv a2, iv (0 : Int32), iv (3 : Int32)]) rfl ?_
    refine XS.aloadN X12.here hx rfl (D d6_59) rfl rfl ?_
    refine XS.iloadN X12.here hx rfl (D d6_60) rfl ?_
    show Steps p.tables e below (T12.setTop (mkF m 61 #[rv ra, rv a2, iv (0 : Int32), iv (3 : Int32)] [(.int (3 : Int32)), (.ref a2)])) _
    refine XS.aloadN X12.here hx rfl (D d6_61) rfl rfl ?_
    refine st13 _ ?_
    refine XS.iloadN X13.here hx rfl (D d6_65) rfl ?_
    refine own_baloadZ X13 hx hZ e13 V11_rs (show 0 ≤ Int32.toInt (0 : Int32) ∧ Int32.toInt (0 : Int32) < ((2 : Nat) : Int) by decide) (D d6_66) _ ?_
    exact k
  clear V2_rl V2_rs V2_rr V2_rg V2_rt A2_ra F2_ra_0 F2_ra_1 F2_ra_2 F2_ra_3 F2_ra_4 F2_ra_5 F2_ra_6 F2_ra_7 sz2 K2 V2_n X3 e3 pre5 pre6 X7 e7 W7 V7 st7 V7_rl V7_rs V7_rr V7_rg V7_rt A7_ra F7_ra_0 F7_ra_1 F7_ra_2 F7_ra_3 F7_ra_4 F7_ra_5 F7_ra_6 F7_ra_7 sz7 K7 N7 V7_n X8 e8 st8 X9 e9 W9 V9 st9 V9_rl V9_rs V9_rr V9_rg V9_rt A9_ra F9_ra_0 F9_ra_1 F9_ra_2 F9_ra_3 F9_ra_4 F9_ra_5 F9_ra_6 F9_ra_7 sz9 K9 N9 V9_n X10 e10 st10 X11 e11 W11 V11 st11 X12 e12 st12 st13
  have pre16 : ∀ t, Steps p.tables e below (T13.setTop (mkF m 75 #[rv ra, rv a2, iv (0 : Int32), iv (3 : Int32)] [(.long (if bs0 = (0 : Int32) then (0 : Int64) else (1 : Int64))), (.int (3 : Int32)), (.ref a2)])) t → Steps p.tables e below B0 t := by
    by_cases c14 : bs0 = (0 : Int32)
    · try simp only [if_pos c14]
      intro t k
      refine pre15 t ?_
      show Steps p.tables e below (T13.setTop (mkF m 67 #[rv ra, rv a2, iv (0 : Int32), iv (3 : Int32)] [(.int bs0), (.int (3 : Int32)), (.ref a2)])) _
      refine XS.ifYes X13.here hx rfl (pc0 := 67) (pc' := 74) rfl (D d6_67) rfl ((if0 _ _).trans (teq c14).1) (by decide) (by decide) ?_
      refine XS.lconst X13.here hx rfl (D d6_74) ?_
      exact k
    · try simp only [if_neg c14]
      intro t k
      refine pre15 t ?_
      show Steps p.tables e below (T13.setTop (mkF m 67 #[rv ra, rv a2, iv (0 : Int32), iv (3 : Int32)] [(.int bs0), (.int (3 : Int32)), (.ref a2)])) _
      refine XS.ifNo X13.here hx rfl (D d6_67) rfl ((if0 _ _).trans (feq c14).1) ?_
      refine XS.lconst X13.here hx rfl (D d6_70) ?_
      refine XS.goto X13.here hx rfl (pc0 := 71) (pc' := 75) rfl (D d6_71) (by decide) (by decide) ?_
      exact k
  obtain ⟨T17, X17, e17, st17⟩ := getF X13 hx hZ hown (host := "") (Or.inl (H 37 rfl)) Via.refl e13 F11_ra_3 (g := (mkF m 76 #[rv ra, rv a2, iv (0 : Int32), iv (3 : Int32)] [(.ref ra), (.long (if bs0 = (0 : Int32) then (0 : Int64) else (1 : Int64))), (.int (3 : Int32)), (.ref a2)])) rfl rfl (D d6_76)
  have pre19 : ∀ t, Steps p.tables e below (T17.setTop (mkF m 81 #[rv ra, rv a2, iv (0 : Int32), iv (3 : Int32)] [(.int bg0), (.long (if bs0 = (0 : Int32) then (0 : Int64) else (1 : Int64))), (.int (3 : Int32)), (.ref a2)])) t → Steps p.tables e below B0 t := by
    intro t k
    refine pre16 t ?_
    show Steps p.tables e below (T13.setTop (mkF m 75 #[rv ra, rv a2, iv (0 : Int32), iv (3 : Int32)] [(.long (if bs0 = (0 : Int32) then (0 : Int64) else (1 : Int64))), (.int (3 : Int32)), (.ref a2)])) _
    refine XS.aloadN X13.here hx rfl (D d6_75) rfl rfl ?_
    refine st17 _ ?_
    refine XS.iloadN X17.here hx rfl (D d6_79) rfl ?_
    refine own_baloadZ X17 hx hZ e17 V11_rg (show 0 ≤ Int32.toInt (0 : Int32) ∧ Int32.toInt (0 : Int32) < ((2 : Nat) : Int) by decide) (D d6_80) _ ?_
    exact k
  clear X13 e13 pre15 pre16 st17
  have pre20 : ∀ t, Steps p.tables e below (T17.setTop (mkF m 91 #[rv ra, rv a2, iv (0 : Int32), iv (3 : Int32)] [(.long (if bg0 = (0 : Int32) then (0 : Int64) else (2 : Int64))), (.long (if bs0 = (0 : Int32) then (0 : Int64) else (1 : Int64))), (.int (3 : Int32)), (.ref a2)])) t → Steps p.tables e below B0 t := by
    by_cases c18 : bg0 = (0 : Int32)
    · try simp only [if_pos c18]
      intro t k
      refine pre19 t ?_
      show Steps p.tables e below (T17.setTop (mkF m 81 #[rv ra, rv a2, iv (0 : Int32), iv (3 : Int32)] [(.int bg0), (.long (if bs0 = (0 : Int32) then (0 : Int64) else (1 : Int64))), (.int (3 : Int32)), (.ref a2)])) _
      refine XS.ifYes X17.here hx rfl (pc0 := 81) (pc' := 90) rfl (D d6_81) rfl ((if0 _ _).trans (teq c18).1) (by decide) (by decide) ?_
      refine XS.lconst X17.here hx rfl (D d6_90) ?_
      exact k
    · try simp only [if_neg c18]
      intro t k
      refine pre19 t ?_
      show Steps p.tables e below (T17.setTop (mkF m 81 #[rv ra, rv a2, iv (0 : Int32), iv (3 : Int32)] [(.int bg0), (.long (if bs0 = (0 : Int32) then (0 : Int64) else (1 : Int64))), (.int (3 : Int32)), (.ref a2)])) _
      refine XS.ifNo X17.here hx rfl (D d6_81) rfl ((if0 _ _).trans (feq c18).1) ?_
      refine X17.ldc2Long hx hown (mvT hZ (H 65 rfl)) (g := (mkF m 84 #[rv ra, rv a2, iv (0 : Int32), iv (3 : Int32)] [(.long (if bs0 = (0 : Int32) then (0 : Int64) else (1 : Int64))), (.int (3 : Int32)), (.ref a2)])) rfl (D d6_84) _ ?_
      refine XS.goto X17.here hx rfl (pc0 := 87) (pc' := 91) rfl (D d6_87) (by decide) (by decide) ?_
      exact k
  obtain ⟨T21, h21, X21, e21, W21, V21, st21⟩ := own_lastore X17 hx hZ e17 V11_n (j := (3 : Int32)) (show 0 ≤ Int32.toInt (3 : Int32) ∧ Int32.toInt (3 : Int32) < ((9 : Nat) : Int) by decide) (x := ((if bs0 = (0 : Int32) then (0 : Int64) else (1 : Int64)) ||| (if bg0 = (0 : Int32) then (0 : Int64) else (2 : Int64)))) (D d6_92)
  have V21_rl := V11_rl.other W21 ne_rl_a2
  have V21_rs := V11_rs.other W21 ne_rs_a2
  have V21_rr := V11_rr.other W21 ne_rr_a2
  have V21_rg := V11_rg.other W21 ne_rg_a2
  have V21_rt := V11_rt.other W21 ne_rt_a2
  have A21_ra := A11_ra.wr W21
  have F21_ra_0 := F11_ra_0.other W21 (Or.inl ne_ra_a2)
  have F21_ra_1 := F11_ra_1.other W21 (Or.inl ne_ra_a2)
  have F21_ra_2 := F11_ra_2.other W21 (Or.inl ne_ra_a2)
  have F21_ra_3 := F11_ra_3.other W21 (Or.inl ne_ra_a2)
  have F21_ra_4 := F11_ra_4.other W21 (Or.inl ne_ra_a2)
  have F21_ra_5 := F11_ra_5.other W21 (Or.inl ne_ra_a2)
  have F21_ra_6 := F11_ra_6.other W21 (Or.inl ne_ra_a2)
  have F21_ra_7 := F11_ra_7.other W21 (Or.inl ne_ra_a2)
  have sz21 := Nat.le_trans sz11 (Keep.of_wr W21).1
  have K21 := K11.wr W21 (Or.inr go_a2)
  have N21 := Fr.snoc X21 N11 ge_a2
  have V21_n : own_AJ Z h21 a2 [(if sd = (0 : Int32) then (0 : Int64) else (1 : Int64)), lt, (ll).toInt64, ((if bs0 = (0 : Int32) then (0 : Int64) else (1 : Int64)) ||| (if bg0 = (0 : Int32) then (0 : Int64) else (2 : Int64))), (0 : Int64), (0 : Int64), (0 : Int64), (0 : Int64), (0 : Int64)] := V21
  obtain ⟨T22, X22, e22, st22⟩ := getF X21 hx hZ hown (host := "") (Or.inl (H 39 rfl)) Via.refl e21 F21_ra_4 (g := (mkF m 98 #[rv ra, rv a2, iv (0 : Int32), iv (3 : Int32)] [(.ref ra), (.long ((if bs0 = (0 : Int32) then (0 : Int64) else (1 : Int64)) ||| (if bg0 = (0 : Int32) then (0 : Int64) else (2 : Int64)))), (.int (3 : Int32)), (.ref a2)])) rfl rfl (D d6_98)
  have pre24 : ∀ t, Steps p.tables e below (T22.setTop (mkF m 103 #[rv ra, rv a2, iv (0 : Int32), iv (3 : Int32)] [(.int bt0), (.long ((if bs0 = (0 : Int32) then (0 : Int64) else (1 : Int64)) ||| (if bg0 = (0 : Int32) then (0 : Int64) else (2 : Int64)))), (.int (3 : Int32)), (.ref a2)])) t → Steps p.tables e below B0 t := by
    intro t k
    refine pre20 t ?_
    show Steps p.tables e below (T17.setTop (mkF m 91 #[rv ra, rv a2, iv (0 : Int32), iv (3 : Int32)] [(.long (if bg0 = (0 : Int32) then (0 : Int64) else (2 : Int64))), (.long (if bs0 = (0 : Int32) then (0 : Int64) else (1 : Int64))), (.int (3 : Int32)), (.ref a2)])) _
    refine XS.lor X17.here hx rfl (D d6_91) rfl ?_
    refine st21 _ ?_
    refine XS.aloadN X21.here hx rfl (D d6_93) rfl rfl ?_
    refine XS.iloadN X21.here hx rfl (D d6_94) rfl ?_
    refine Jvm.Free.XT.dup2 X21.here hx rfl (D d6_95) rfl rfl rfl ?_
    refine own_laload X21 hx hZ e21 V21_n (show 0 ≤ Int32.toInt (3 : Int32) ∧ Int32.toInt (3 : Int32) < ((9 : Nat) : Int) by decide) (D d6_96) _ ?_
    refine XS.aloadN X21.here hx rfl (D d6_97) rfl rfl ?_
    refine st22 _ ?_
    refine XS.iloadN X22.here hx rfl (D d6_101) rfl ?_
    refine own_baloadZ X22 hx hZ e22 V21_rt (show 0 ≤ Int32.toInt (0 : Int32) ∧ Int32.toInt (0 : Int32) < ((2 : Nat) : Int) by decide) (D d6_102) _ ?_
    exact k
  clear V11_rl V11_rs V11_rr V11_rg V11_rt A11_ra F11_ra_0 F11_ra_1 F11_ra_2 F11_ra_3 F11_ra_4 F11_ra_5 F11_ra_6 F11_ra_7 sz11 K11 N11 V11_n X17 e17 pre19 pre20 X21 e21 W21 V21 st21 st22
  have pre25 : ∀ t, Steps p.tables e below (T22.setTop (mkF m 113 #[rv ra, rv a2, iv (0 : Int32), iv (3 : Int32)] [(.long (if bt0 = (0 : Int32) then (0 : Int64) else (4 : Int64))), (.long ((if bs0 = (0 : Int32) then (0 : Int64) else (1 : Int64)) ||| (if bg0 = (0 : Int32) then (0 : Int64) else (2 : Int64)))), (.int (3 : Int32)), (.ref a2)])) t → Steps p.tables e below B0 t := by
    by_cases c23 : bt0 = (0 : Int32)
    · try simp only [if_pos c23]
      intro t k
      refine pre24 t ?_
      show Steps p.tables e below (T22.setTop (mkF m 103 #[rv ra, rv a2, iv (0 : Int32), iv (3 : Int32)] [(.int bt0), (.long ((if bs0 = (0 : Int32) then (0 : Int64) else (1 : Int64)) ||| (if bg0 = (0 : Int32) then (0 : Int64) else (2 : Int64)))), (.int (3 : Int32)), (.ref a2)])) _
      refine XS.ifYes X22.here hx rfl (pc0 := 103) (pc' := 112) rfl (D d6_103) rfl ((if0 _ _).trans (teq c23).1) (by decide) (by decide) ?_
      refine XS.lconst X22.here hx rfl (D d6_112) ?_
      exact k
    · try simp only [if_neg c23]
      intro t k
      refine pre24 t ?_
      show Steps p.tables e below (T22.setTop (mkF m 103 #[rv ra, rv a2, iv (0 : Int32), iv (3 : Int32)] [(.int bt0), (.long ((if bs0 = (0 : Int32) then (0 : Int64) else (1 : Int64)) ||| (if bg0 = (0 : Int32) then (0 : Int64) else (2 : Int64)))), (.int (3 : Int32)), (.ref a2)])) _
      refine XS.ifNo X22.here hx rfl (D d6_103) rfl ((if0 _ _).trans (feq c23).1) ?_
      refine X22.ldc2Long hx hown (mvT hZ (H 63 rfl)) (g := (mkF m 106 #[rv ra, rv a2, iv (0 : Int32), iv (3 : Int32)] [(.long ((if bs0 = (0 : Int32) then (0 : Int64) else (1 : Int64)) ||| (if bg0 = (0 : Int32) then (0 : Int64) else (2 : Int64)))), (.int (3 : Int32)), (.ref a2)])) rfl (D d6_106) _ ?_
      refine XS.goto X22.here hx rfl (pc0 := 109) (pc' := 113) rfl (D d6_109) (by decide) (by decide) ?_
      exact k
  obtain ⟨T26, h26, X26, e26, W26, V26, st26⟩ := own_lastore X22 hx hZ e22 V21_n (j := (3 : Int32)) (show 0 ≤ Int32.toInt (3 : Int32) ∧ Int32.toInt (3 : Int32) < ((9 : Nat) : Int) by decide) (x := (((if bs0 = (0 : Int32) then (0 : Int64) else (1 : Int64)) ||| (if bg0 = (0 : Int32) then (0 : Int64) else (2 : Int64))) ||| (if bt0 = (0 : Int32) then (0 : Int64) else (4 : Int64)))) (D d6_114)
  have V26_rl := V21_rl.other W26 ne_rl_a2
  have V26_rs := V21_rs.other W26 ne_rs_a2
  have V26_rr := V21_rr.other W26 ne_rr_a2
  have V26_rg := V21_rg.other W26 ne_rg_a2
  have V26_rt := V21_rt.other W26 ne_rt_a2
  have A26_ra := A21_ra.wr W26
  have F26_ra_0 := F21_ra_0.other W26 (Or.inl ne_ra_a2)
  have F26_ra_1 := F21_ra_1.other W26 (Or.inl ne_ra_a2)
  have F26_ra_2 := F21_ra_2.other W26 (Or.inl ne_ra_a2)
  have F26_ra_3 := F21_ra_3.other W26 (Or.inl ne_ra_a2)
  have F26_ra_4 := F21_ra_4.other W26 (Or.inl ne_ra_a2)
  have F26_ra_5 := F21_ra_5.other W26 (Or.inl ne_ra_a2)
  have F26_ra_6 := F21_ra_6.other W26 (Or.inl ne_ra_a2)
  have F26_ra_7 := F21_ra_7.other W26 (Or.inl ne_ra_a2)
  have sz26 := Nat.le_trans sz21 (Keep.of_wr W26).1
  have K26 := K21.wr W26 (Or.inr go_a2)
  have N26 := Fr.snoc X26 N21 ge_a2
  have V26_n : own_AJ Z h26 a2 [(if sd = (0 : Int32) then (0 : Int64) else (1 : Int64)), lt, (ll).toInt64, (((if bs0 = (0 : Int32) then (0 : Int64) else (1 : Int64)) ||| (if bg0 = (0 : Int32) then (0 : Int64) else (2 : Int64))) ||| (if bt0 = (0 : Int32) then (0 : Int64) else (4 : Int64))), (0 : Int64), (0 : Int64), (0 : Int64), (0 : Int64), (0 : Int64)] := V26
  obtain ⟨T27, X27, e27, st27⟩ := getF X26 hx hZ hown (host := "") (Or.inl (H 30 rfl)) Via.refl e26 F26_ra_0 (g := (mkF m 120 #[rv ra, rv a2, iv (0 : Int32), iv (3 : Int32)] [(.ref ra), (.int (4 : Int32)), (.ref a2)])) rfl rfl (D d6_120)
  obtain ⟨T28, h28, X28, e28, W28, V28, st28⟩ := own_lastore X27 hx hZ e27 V26_n (j := (4 : Int32)) (show 0 ≤ Int32.toInt (4 : Int32) ∧ Int32.toInt (4 : Int32) < ((9 : Nat) : Int) by decide) (x := jl0) (D d6_125)
  have V28_rl := V26_rl.other W28 ne_rl_a2
  have V28_rs := V26_rs.other W28 ne_rs_a2
  have V28_rr := V26_rr.other W28 ne_rr_a2
  have V28_rg := V26_rg.other W28 ne_rg_a2
  have V28_rt := V26_rt.other W28 ne_rt_a2
  have A28_ra := A26_ra.wr W28
  have F28_ra_0 := F26_ra_0.other W28 (Or.inl ne_ra_a2)
  have F28_ra_1 := F26_ra_1.other W28 (Or.inl ne_ra_a2)
  have F28_ra_2 := F26_ra_2.other W28 (Or.inl ne_ra_a2)
  have F28_ra_3 := F26_ra_3.other W28 (Or.inl ne_ra_a2)
  have F28_ra_4 := F26_ra_4.other W28 (Or.inl ne_ra_a2)
  have F28_ra_5 := F26_ra_5.other W28 (Or.inl ne_ra_a2)
  have F28_ra_6 := F26_ra_6.other W28 (Or.inl ne_ra_a2)
  have F28_ra_7 := F26_ra_7.other W28 (Or.inl ne_ra_a2)
  have sz28 := Nat.le_trans sz26 (Keep.of_wr W28).1
  have K28 := K26.wr W28 (Or.inr go_a2)
  have N28 := Fr.snoc X28 N26 ge_a2
  have V28_n : own_AJ Z h28 a2 [(if sd = (0 : Int32) then (0 : Int64) else (1 : Int64)), lt, (ll).toInt64, (((if bs0 = (0 : Int32) then (0 : Int64) else (1 : Int64)) ||| (if bg0 = (0 : Int32) then (0 : Int64) else (2 : Int64))) ||| (if bt0 = (0 : Int32) then (0 : Int64) else (4 : Int64))), jl0, (0 : Int64), (0 : Int64), (0 : Int64), (0 : Int64)] := V28
  obtain ⟨T29, X29, e29, st29⟩ := getF X28 hx hZ hown (host := "") (Or.inl (H 35 rfl)) Via.refl e28 F28_ra_2 (g := (mkF m 131 #[rv ra, rv a2, iv (0 : Int32), iv (3 : Int32)] [(.ref ra), (.int (5 : Int32)), (.ref a2)])) rfl rfl (D d6_131)
  obtain ⟨T30, h30, X30, e30, W30, V30, st30⟩ := own_lastore X29 hx hZ e29 V28_n (j := (5 : Int32)) (show 0 ≤ Int32.toInt (5 : Int32) ∧ Int32.toInt (5 : Int32) < ((9 : Nat) : Int) by decide) (x := jr0) (D d6_136)
  have V30_rl := V28_rl.other W30 ne_rl_a2
  have V30_rs := V28_rs.other W30 ne_rs_a2
  have V30_rr := V28_rr.other W30 ne_rr_a2
  have V30_rg := V28_rg.other W30 ne_rg_a2
  have V30_rt := V28_rt.other W30 ne_rt_a2
  have A30_ra := A28_ra.wr W30
  have F30_ra_0 := F28_ra_0.other W30 (Or.inl ne_ra_a2)
  have F30_ra_1 := F28_ra_1.other W30 (Or.inl ne_ra_a2)
  have F30_ra_2 := F28_ra_2.other W30 (Or.inl ne_ra_a2)
  have F30_ra_3 := F28_ra_3.other W30 (Or.inl ne_ra_a2)
  have F30_ra_4 := F28_ra_4.other W30 (Or.inl ne_ra_a2)
  have F30_ra_5 := F28_ra_5.other W30 (Or.inl ne_ra_a2)
  have F30_ra_6 := F28_ra_6.other W30 (Or.inl ne_ra_a2)
  have F30_ra_7 := F28_ra_7.other W30 (Or.inl ne_ra_a2)
  have sz30 := Nat.le_trans sz28 (Keep.of_wr W30).1
  have K30 := K28.wr W30 (Or.inr go_a2)
  have N30 := Fr.snoc X30 N28 ge_a2
  have V30_n : own_AJ Z h30 a2 [(if sd = (0 : Int32) then (0 : Int64) else (1 : Int64)), lt, (ll).toInt64, (((if bs0 = (0 : Int32) then (0 : Int64) else (1 : Int64)) ||| (if bg0 = (0 : Int32) then (0 : Int64) else (2 : Int64))) ||| (if bt0 = (0 : Int32) then (0 : Int64) else (4 : Int64))), jl0, jr0, (0 : Int64), (0 : Int64), (0 : Int64)] := V30
  obtain ⟨T31, X31, e31, st31⟩ := getF X30 hx hZ hown (host := "") (Or.inl (H 37 rfl)) Via.refl e30 F30_ra_3 (g := (mkF m 46 #[rv ra, rv a2, iv (1 : Int32), iv (3 : Int32)] [(.ref ra), (.int (1 : Int32))])) rfl rfl (D d6_46)
  obtain ⟨T32, X32, e32, st32⟩ := getF X31 hx hZ hown (host := "") (Or.inl (H 33 rfl)) Via.refl e31 F30_ra_1 (g := (mkF m 62 #[rv ra, rv a2, iv (1 : Int32), iv (6 : Int32)] [(.ref ra), (.int (6 : Int32)), (.ref a2)])) rfl rfl (D d6_62)
  have pre34 : ∀ t, Steps p.tables e below (T32.setTop (mkF m 67 #[rv ra, rv a2, iv (1 : Int32), iv (6 : Int32)] [(.int bs1), (.int (6 : Int32)), (.ref a2)])) t → Steps p.tables e below B0 t := by
    intro t k
    refine pre25 t ?_
    show Steps p.tables e below (T22.setTop (mkF m 113 #[rv ra, rv a2, iv (0 : Int32), iv (3 : Int32)] [(.long (if bt0 = (0 : Int32) then (0 : Int64) else (4 : Int64))), (.long ((if bs0 = (0 : Int32) then (0 : Int64) else (1 : Int64)) ||| (if bg0 = (0 : Int32) then (0 : Int64) else (2 : Int64)))), (.int (3 : Int32)), (.ref a2)])) _
    refine XS.lor X22.here hx rfl (D d6_113) rfl ?_
    refine st26 _ ?_
    refine XS.aloadN X26.here hx rfl (D d6_115) rfl rfl ?_
    refine XS.iloadN X26.here hx rfl (D d6_116) rfl ?_
    refine XS.iconst X26.here hx rfl (D d6_117) ?_
    refine XS.iadd X26.here hx rfl (D d6_118) rfl ?_
    refine XS.aloadN X26.here hx rfl (D d6_119) rfl rfl ?_
    refine st27 _ ?_
    refine XS.iloadN X27.here hx rfl (D d6_123) rfl ?_
    refine own_laload X27 hx hZ e27 V26_rl (show 0 ≤ Int32.toInt (0 : Int32) ∧ Int32.toInt (0 : Int32) < ((2 : Nat) : Int) by decide) (D d6_124) _ ?_
    refine st28 _ ?_
    refine XS.aloadN X28.here hx rfl (D d6_126) rfl rfl ?_
    refine XS.iloadN X28.here hx rfl (D d6_127) rfl ?_
    refine XS.iconst X28.here hx rfl (D d6_128) ?_
    refine XS.iadd X28.here hx rfl (D d6_129) rfl ?_
    refine XS.aloadN X28.here hx rfl (D d6_130) rfl rfl ?_
    refine st29 _ ?_
    refine XS.iloadN X29.here hx rfl (D d6_134) rfl ?_
    refine own_laload X29 hx hZ e29 V28_rr (show 0 ≤ Int32.toInt (0 : Int32) ∧ Int32.toInt (0 : Int32) < ((2 : Nat) : Int) by decide) (D d6_135) _ ?_
    refine st30 _ ?_
    refine XS.iinc X30.here hx rfl (D d6_137) rfl (l' := #[rv ra, rv a2, iv (1 : Int32), iv (3 : Int32)]) rfl ?_
    refine XS.goto X30.here hx rfl (pc0 := 140) (pc' := 44) rfl (D d6_140) (by decide) (by decide) ?_
    show Steps p.tables e below (T30.setTop (mkF m 44 #[rv ra, rv a2, iv (1 : Int32), iv (3 : Int32)] [])) _
    refine XS.iloadN X30.here hx rfl (D d6_44) rfl ?_
    refine XS.aloadN X30.here hx rfl (D d6_45) rfl rfl ?_
    refine st31 _ ?_
    refine own_alenI X31 hx hZ e31 V30_rg (D d6_49) _ ?_
    show Steps p.tables e below (T31.setTop (mkF m 50 #[rv ra, rv a2, iv (1 : Int32), iv (3 : Int32)] [(.int (2 : Int32)), (.int (1 : Int32))])) _
    refine XS.icmpNo X31.here hx rfl (D d6_50) rfl (by decide) ?_
    refine XS.iconst X31.here hx rfl (D d6_53) ?_
    refine XS.iconst X31.here hx rfl (D d6_54) ?_
    refine XS.iloadN X31.here hx rfl (D d6_55) rfl ?_
    refine XS.imul X31.here hx rfl (D d6_56) rfl ?_
    refine XS.iadd X31.here hx rfl (D d6_57) rfl ?_
    refine XS.istoreN X31.here hx rfl (D d6_58) rfl (l' := #[rv ra, rv a2, iv (1 : Int32), iv (6 : Int32)]) rfl ?_
    refine XS.aloadN X31.here hx rfl (D d6_59) rfl rfl ?_
    refine XS.iloadN X31.here hx rfl (D d6_60) rfl ?_
    refine XS.aloadN X31.here hx rfl (D d6_61) rfl rfl ?_
    refine st32 _ ?_
    refine XS.iloadN X32.here hx rfl (D d6_65) rfl ?_
    refine own_baloadZ X32 hx hZ e32 V30_rs (show 0 ≤ Int32.toInt (1 : Int32) ∧ Int32.toInt (1 : Int32) < ((2 : Nat) : Int) by decide) (D d6_66) _ ?_
    exact k
  clear V21_rl V21_rs V21_rr V21_rg V21_rt A21_ra F21_ra_0 F21_ra_1 F21_ra_2 F21_ra_3 F21_ra_4 F21_ra_5 F21_ra_6 F21_ra_7 sz21 K21 N21 V21_n X22 e22 pre24 pre25 X26 e26 W26 V26 st26 V26_rl V26_rs V26_rr V26_rg V26_rt A26_ra F26_ra_0 F26_ra_1 F26_ra_2 F26_ra_3 F26_ra_4 F26_ra_5 F26_ra_6 F26_ra_7 sz26 K26 N26 V26_n X27 e27 st27 X28 e28 W28 V28 st28 V28_rl V28_rs V28_rr V28_rg V28_rt A28_ra F28_ra_0 F28_ra_1 F28_ra_2 F28_ra_3 F28_ra_4 F28_ra_5 F28_ra_6 F28_ra_7 sz28 K28 N28 V28_n X29 e29 st29 X30 e30 W30 V30 st30 X31 e31 st31 st32
  have pre35 : ∀ t, Steps p.tables e below (T32.setTop (mkF m 75 #[rv ra, rv a2, iv (1 : Int32), iv (6 : Int32)] [(.long (if bs1 = (0 : Int32) then (0 : Int64) else (1 : Int64))), (.int (6 : Int32)), (.ref a2)])) t → Steps p.tables e below B0 t := by
    by_cases c33 : bs1 = (0 : Int32)
    · try simp only [if_pos c33]
      intro t k
      refine pre34 t ?_
      show Steps p.tables e below (T32.setTop (mkF m 67 #[rv ra, rv a2, iv (1 : Int32), iv (6 : Int32)] [(.int bs1), (.int (6 : Int32)), (.ref a2)])) _
      refine XS.ifYes X32.here hx rfl (pc0 := 67) (pc' := 74) rfl (D d6_67) rfl ((if0 _ _).trans (teq c33).1) (by decide) (by decide) ?_
      refine XS.lconst X32.here hx rfl (D d6_74) ?_
      exact k
    · try simp only [if_neg c33]
      intro t k
      refine pre34 t ?_
      show Steps p.tables e below (T32.setTop (mkF m 67 #[rv ra, rv a2, iv (1 : Int32), iv (6 : Int32)] [(.int bs1), (.int (6 : Int32)), (.ref a2)])) _
      refine XS.ifNo X32.here hx rfl (D d6_67) rfl ((if0 _ _).trans (feq c33).1) ?_
      refine XS.lconst X32.here hx rfl (D d6_70) ?_
      refine XS.goto X32.here hx rfl (pc0 := 71) (pc' := 75) rfl (D d6_71) (by decide) (by decide) ?_
      exact k
  obtain ⟨T36, X36, e36, st36⟩ := getF X32 hx hZ hown (host := "") (Or.inl (H 37 rfl)) Via.refl e32 F30_ra_3 (g := (mkF m 76 #[rv ra, rv a2, iv (1 : Int32), iv (6 : Int32)] [(.ref ra), (.long (if bs1 = (0 : Int32) then (0 : Int64) else (1 : Int64))), (.int (6 : Int32)), (.ref a2)])) rfl rfl (D d6_76)
  have pre38 : ∀ t, Steps p.tables e below (T36.setTop (mkF m 81 #[rv ra, rv a2, iv (1 : Int32), iv (6 : Int32)] [(.int bg1), (.long (if bs1 = (0 : Int32) then (0 : Int64) else (1 : Int64))), (.int (6 : Int32)), (.ref a2)])) t → Steps p.tables e below B0 t := by
    intro t k
    refine pre35 t ?_
    show Steps p.tables e below (T32.setTop (mkF m 75 #[rv ra, rv a2, iv (1 : Int32), iv (6 : Int32)] [(.long (if bs1 = (0 : Int32) then (0 : Int64) else (1 : Int64))), (.int (6 : Int32)), (.ref a2)])) _
    refine XS.aloadN X32.here hx rfl (D d6_75) rfl rfl ?_
    refine st36 _ ?_
    refine XS.iloadN X36.here hx rfl (D d6_79) rfl ?_
    refine own_baloadZ X36 hx hZ e36 V30_rg (show 0 ≤ Int32.toInt (1 : Int32) ∧ Int32.toInt (1 : Int32) < ((2 : Nat) : Int) by decide) (D d6_80) _ ?_
    exact k
  clear X32 e32 pre34 pre35 st36
  have pre39 : ∀ t, Steps p.tables e below (T36.setTop (mkF m 91 #[rv ra, rv a2, iv (1 : Int32), iv (6 : Int32)] [(.long (if bg1 = (0 : Int32) then (0 : Int64) else (2 : Int64))), (.long (if bs1 = (0 : Int32) then (0 : Int64) else (1 : Int64))), (.int (6 : Int32)), (.ref a2)])) t → Steps p.tables e below B0 t := by
    by_cases c37 : bg1 = (0 : Int32)
    · try simp only [if_pos c37]
      intro t k
      refine pre38 t ?_
      show Steps p.tables e below (T36.setTop (mkF m 81 #[rv ra, rv a2, iv (1 : Int32), iv (6 : Int32)] [(.int bg1), (.long (if bs1 = (0 : Int32) then (0 : Int64) else (1 : Int64))), (.int (6 : Int32)), (.ref a2)])) _
      refine XS.ifYes X36.here hx rfl (pc0 := 81) (pc' := 90) rfl (D d6_81) rfl ((if0 _ _).trans (teq c37).1) (by decide) (by decide) ?_
      refine XS.lconst X36.here hx rfl (D d6_90) ?_
      exact k
    · try simp only [if_neg c37]
      intro t k
      refine pre38 t ?_
      show Steps p.tables e below (T36.setTop (mkF m 81 #[rv ra, rv a2, iv (1 : Int32), iv (6 : Int32)] [(.int bg1), (.long (if bs1 = (0 : Int32) then (0 : Int64) else (1 : Int64))), (.int (6 : Int32)), (.ref a2)])) _
      refine XS.ifNo X36.here hx rfl (D d6_81) rfl ((if0 _ _).trans (feq c37).1) ?_
      refine X36.ldc2Long hx hown (mvT hZ (H 65 rfl)) (g := (mkF m 84 #[rv ra, rv a2, iv (1 : Int32), iv (6 : Int32)] [(.long (if bs1 = (0 : Int32) then (0 : Int64) else (1 : Int64))), (.int (6 : Int32)), (.ref a2)])) rfl (D d6_84) _ ?_
      refine XS.goto X36.here hx rfl (pc0 := 87) (pc' := 91) rfl (D d6_87) (by decide) (by decide) ?_
      exact k
  obtain ⟨T40, h40, X40, e40, W40, V40, st40⟩ := own_lastore X36 hx hZ e36 V30_n (j := (6 : Int32)) (show 0 ≤ Int32.toInt (6 : Int32) ∧ Int32.toInt (6 : Int32) < ((9 : Nat) : Int) by decide) (x := ((if bs1 = (0 : Int32) then (0 : Int64) else (1 : Int64)) ||| (if bg1 = (0 : Int32) then (0 : Int64) else (2 : Int64)))) (D d6_92)
  have V40_rl := V30_rl.other W40 ne_rl_a2
  have V40_rs := V30_rs.other W40 ne_rs_a2
  have V40_rr := V30_rr.other W40 ne_rr_a2
  have V40_rg := V30_rg.other W40 ne_rg_a2
  have V40_rt := V30_rt.other W40 ne_rt_a2
  have A40_ra := A30_ra.wr W40
  have F40_ra_0 := F30_ra_0.other W40 (Or.inl ne_ra_a2)
  have F40_ra_1 := F30_ra_1.other W40 (Or.inl ne_ra_a2)
  have F40_ra_2 := F30_ra_2.other W40 (Or.inl ne_ra_a2)
  have F40_ra_3 := F30_ra_3.other W40 (Or.inl ne_ra_a2)
  have F40_ra_4 := F30_ra_4.other W40 (Or.inl ne_ra_a2)
  have F40_ra_5 := F30_ra_5.other W40 (Or.inl ne_ra_a2)
  have F40_ra_6 := F30_ra_6.other W40 (Or.inl ne_ra_a2)
  have F40_ra_7 := F30_ra_7.other W40 (Or.inl ne_ra_a2)
  have sz40 := Nat.le_trans sz30 (Keep.of_wr W40).1
  have K40 := K30.wr W40 (Or.inr go_a2)
  have N40 := Fr.snoc X40 N30 ge_a2
  have V40_n : own_AJ Z h40 a2 [(if sd = (0 : Int32) then (0 : Int64) else (1 : Int64)), lt, (ll).toInt64, (((if bs0 = (0 : Int32) then (0 : Int64) else (1 : Int64)) ||| (if bg0 = (0 : Int32) then (0 : Int64) else (2 : Int64))) ||| (if bt0 = (0 : Int32) then (0 : Int64) else (4 : Int64))), jl0, jr0, ((if bs1 = (0 : Int32) then (0 : Int64) else (1 : Int64)) ||| (if bg1 = (0 : Int32) then (0 : Int64) else (2 : Int64))), (0 : Int64), (0 : Int64)] := V40
  obtain ⟨T41, X41, e41, st41⟩ := getF X40 hx hZ hown (host := "") (Or.inl (H 39 rfl)) Via.refl e40 F40_ra_4 (g := (mkF m 98 #[rv ra, rv a2, iv (1 : Int32), iv (6 : Int32)] [(.ref ra), (.long ((if bs1 = (0 : Int32) then (0 : Int64) else (1 : Int64)) ||| (if bg1 = (0 : Int32) then (0 : Int64) else (2 : Int64)))), (.int (6 : Int32)), (.ref a2)])) rfl rfl (D d6_98)
  have pre43 : ∀ t, Steps p.tables e below (T41.setTop (mkF m 103 #[rv ra, rv a2, iv (1 : Int32), iv (6 : Int32)] [(.int bt1), (.long ((if bs1 = (0 : Int32) then (0 : Int64) else (1 : Int64)) ||| (if bg1 = (0 : Int32) then (0 : Int64) else (2 : Int64)))), (.int (6 : Int32)), (.ref a2)])) t → Steps p.tables e below B0 t := by
    intro t k
    refine pre39 t ?_
    show Steps p.tables e below (T36.setTop (mkF m 91 #[rv ra, rv a2, iv (1 : Int32), iv (6 : Int32)] [(.long (if bg1 = (0 : Int32) then (0 : Int64) else (2 : Int64))), (.long (if bs1 = (0 : Int32) then (0 : Int64) else (1 : Int64))), (.int (6 : Int32)), (.ref a2)])) _
    refine XS.lor X36.here hx rfl (D d6_91) rfl ?_
    refine st40 _ ?_
    refine XS.aloadN X40.here hx rfl (D d6_93) rfl rfl ?_
    refine XS.iloadN X40.here hx rfl (D d6_94) rfl ?_
    refine Jvm.Free.XT.dup2 X40.here hx rfl (D d6_95) rfl rfl rfl ?_
    refine own_laload X40 hx hZ e40 V40_n (show 0 ≤ Int32.toInt (6 : Int32) ∧ Int32.toInt (6 : Int32) < ((9 : Nat) : Int) by decide) (D d6_96) _ ?_
    refine XS.aloadN X40.here hx rfl (D d6_97) rfl rfl ?_
    refine st41 _ ?_
    refine XS.iloadN X41.here hx rfl (D d6_101) rfl ?_
    refine own_baloadZ X41 hx hZ e41 V40_rt (show 0 ≤ Int32.toInt (1 : Int32) ∧ Int32.toInt (1 : Int32) < ((2 : Nat) : Int) by decide) (D d6_102) _ ?_
    exact k
  clear V30_rl V30_rs V30_rr V30_rg V30_rt A30_ra F30_ra_0 F30_ra_1 F30_ra_2 F30_ra_3 F30_ra_4 F30_ra_5 F30_ra_6 F30_ra_7 sz30 K30 N30 V30_n X36 e36 pre38 pre39 X40 e40 W40 V40 st40 st41
  have pre44 : ∀ t, Steps p.tables e below (T41.setTop (mkF m 113 #[rv ra, rv a2, iv (1 : Int32), iv (6 : Int32)] [(.long (if bt1 = (0 : Int32) then (0 : Int64) else (4 : Int64))), (.long ((if bs1 = (0 : Int32) then (0 : Int64) else (1 : Int64)) ||| (if bg1 = (0 : Int32) then (0 : Int64) else (2 : Int64)))), (.int (6 : Int32)), (.ref a2)])) t → Steps p.tables e below B0 t := by
    by_cases c42 : bt1 = (0 : Int32)
    · try simp only [if_pos c42]
      intro t k
      refine pre43 t ?_
      show Steps p.tables e below (T41.setTop (mkF m 103 #[rv ra, rv a2, iv (1 : Int32), iv (6 : Int32)] [(.int bt1), (.long ((if bs1 = (0 : Int32) then (0 : Int64) else (1 : Int64)) ||| (if bg1 = (0 : Int32) then (0 : Int64) else (2 : Int64)))), (.int (6 : Int32)), (.ref a2)])) _
      refine XS.ifYes X41.here hx rfl (pc0 := 103) (pc' := 112) rfl (D d6_103) rfl ((if0 _ _).trans (teq c42).1) (by decide) (by decide) ?_
      refine XS.lconst X41.here hx rfl (D d6_112) ?_
      exact k
    · try simp only [if_neg c42]
      intro t k
      refine pre43 t ?_
      show Steps p.tables e below (T41.setTop (mkF m 103 #[rv ra, rv a2, iv (1 : Int32), iv (6 : Int32)] [(.int bt1), (.long ((if bs1 = (0 : Int32) then (0 : Int64) else (1 : Int64)) ||| (if bg1 = (0 : Int32) then (0 : Int64) else (2 : Int64)))), (.int (6 : Int32)), (.ref a2)])) _
      refine XS.ifNo X41.here hx rfl (D d6_103) rfl ((if0 _ _).trans (feq c42).1) ?_
      refine X41.ldc2Long hx hown (mvT hZ (H 63 rfl)) (g := (mkF m 106 #[rv ra, rv a2, iv (1 : Int32), iv (6 : Int32)] [(.long ((if bs1 = (0 : Int32) then (0 : Int64) else (1 : Int64)) ||| (if bg1 = (0 : Int32) then (0 : Int64) else (2 : Int64)))), (.int (6 : Int32)), (.ref a2)])) rfl (D d6_106) _ ?_
      refine XS.goto X41.here hx rfl (pc0 := 109) (pc' := 113) rfl (D d6_109) (by decide) (by decide) ?_
      exact k
  obtain ⟨T45, h45, X45, e45, W45, V45, st45⟩ := own_lastore X41 hx hZ e41 V40_n (j := (6 : Int32)) (show 0 ≤ Int32.toInt (6 : Int32) ∧ Int32.toInt (6 : Int32) < ((9 : Nat) : Int) by decide) (x := (((if bs1 = (0 : Int32) then (0 : Int64) else (1 : Int64)) ||| (if bg1 = (0 : Int32) then (0 : Int64) else (2 : Int64))) ||| (if bt1 = (0 : Int32) then (0 : Int64) else (4 : Int64)))) (D d6_114)
  have V45_rl := V40_rl.other W45 ne_rl_a2
  have V45_rs := V40_rs.other W45 ne_rs_a2
  have V45_rr := V40_rr.other W45 ne_rr_a2
  have V45_rg := V40_rg.other W45 ne_rg_a2
  have V45_rt := V40_rt.other W45 ne_rt_a2
  have A45_ra := A40_ra.wr W45
  have F45_ra_0 := F40_ra_0.other W45 (Or.inl ne_ra_a2)
  have F45_ra_1 := F40_ra_1.other W45 (Or.inl ne_ra_a2)
  have F45_ra_2 := F40_ra_2.other W45 (Or.inl ne_ra_a2)
  have F45_ra_3 := F40_ra_3.other W45 (Or.inl ne_ra_a2)
  have F45_ra_4 := F40_ra_4.other W45 (Or.inl ne_ra_a2)
  have F45_ra_5 := F40_ra_5.other W45 (Or.inl ne_ra_a2)
  have F45_ra_6 := F40_ra_6.other W45 (Or.inl ne_ra_a2)
  have F45_ra_7 := F40_ra_7.other W45 (Or.inl ne_ra_a2)
  have sz45 := Nat.le_trans sz40 (Keep.of_wr W45).1
  have K45 := K40.wr W45 (Or.inr go_a2)
  have N45 := Fr.snoc X45 N40 ge_a2
  have V45_n : own_AJ Z h45 a2 [(if sd = (0 : Int32) then (0 : Int64) else (1 : Int64)), lt, (ll).toInt64, (((if bs0 = (0 : Int32) then (0 : Int64) else (1 : Int64)) ||| (if bg0 = (0 : Int32) then (0 : Int64) else (2 : Int64))) ||| (if bt0 = (0 : Int32) then (0 : Int64) else (4 : Int64))), jl0, jr0, (((if bs1 = (0 : Int32) then (0 : Int64) else (1 : Int64)) ||| (if bg1 = (0 : Int32) then (0 : Int64) else (2 : Int64))) ||| (if bt1 = (0 : Int32) then (0 : Int64) else (4 : Int64))), (0 : Int64), (0 : Int64)] := V45
  obtain ⟨T46, X46, e46, st46⟩ := getF X45 hx hZ hown (host := "") (Or.inl (H 30 rfl)) Via.refl e45 F45_ra_0 (g := (mkF m 120 #[rv ra, rv a2, iv (1 : Int32), iv (6 : Int32)] [(.ref ra), (.int (7 : Int32)), (.ref a2)])) rfl rfl (D d6_120)
  obtain ⟨T47, h47, X47, e47, W47, V47, st47⟩ := own_lastore X46 hx hZ e46 V45_n (j := (7 : Int32)) (show 0 ≤ Int32.toInt (7 : Int32) ∧ Int32.toInt (7 : Int32) < ((9 : Nat) : Int) by decide) (x := jl1) (D d6_125)
  have V47_rl := V45_rl.other W47 ne_rl_a2
  have V47_rs := V45_rs.other W47 ne_rs_a2
  have V47_rr := V45_rr.other W47 ne_rr_a2
  have V47_rg := V45_rg.other W47 ne_rg_a2
  have V47_rt := V45_rt.other W47 ne_rt_a2
  have A47_ra := A45_ra.wr W47
  have F47_ra_0 := F45_ra_0.other W47 (Or.inl ne_ra_a2)
  have F47_ra_1 := F45_ra_1.other W47 (Or.inl ne_ra_a2)
  have F47_ra_2 := F45_ra_2.other W47 (Or.inl ne_ra_a2)
  have F47_ra_3 := F45_ra_3.other W47 (Or.inl ne_ra_a2)
  have F47_ra_4 := F45_ra_4.other W47 (Or.inl ne_ra_a2)
  have F47_ra_5 := F45_ra_5.other W47 (Or.inl ne_ra_a2)
  have F47_ra_6 := F45_ra_6.other W47 (Or.inl ne_ra_a2)
  have F47_ra_7 := F45_ra_7.other W47 (Or.inl ne_ra_a2)
  have sz47 := Nat.le_trans sz45 (Keep.of_wr W47).1
  have K47 := K45.wr W47 (Or.inr go_a2)
  have N47 := Fr.snoc X47 N45 ge_a2
  have V47_n : own_AJ Z h47 a2 [(if sd = (0 : Int32) then (0 : Int64) else (1 : Int64)), lt, (ll).toInt64, (((if bs0 = (0 : Int32) then (0 : Int64) else (1 : Int64)) ||| (if bg0 = (0 : Int32) then (0 : Int64) else (2 : Int64))) ||| (if bt0 = (0 : Int32) then (0 : Int64) else (4 : Int64))), jl0, jr0, (((if bs1 = (0 : Int32) then (0 : Int64) else (1 : Int64)) ||| (if bg1 = (0 : Int32) then (0 : Int64) else (2 : Int64))) ||| (if bt1 = (0 : Int32) then (0 : Int64) else (4 : Int64))), jl1, (0 : Int64)] := V47
  obtain ⟨T48, X48, e48, st48⟩ := getF X47 hx hZ hown (host := "") (Or.inl (H 35 rfl)) Via.refl e47 F47_ra_2 (g := (mkF m 131 #[rv ra, rv a2, iv (1 : Int32), iv (6 : Int32)] [(.ref ra), (.int (8 : Int32)), (.ref a2)])) rfl rfl (D d6_131)
  obtain ⟨T49, h49, X49, e49, W49, V49, st49⟩ := own_lastore X48 hx hZ e48 V47_n (j := (8 : Int32)) (show 0 ≤ Int32.toInt (8 : Int32) ∧ Int32.toInt (8 : Int32) < ((9 : Nat) : Int) by decide) (x := jr1) (D d6_136)
  have V49_rl := V47_rl.other W49 ne_rl_a2
  have V49_rs := V47_rs.other W49 ne_rs_a2
  have V49_rr := V47_rr.other W49 ne_rr_a2
  have V49_rg := V47_rg.other W49 ne_rg_a2
  have V49_rt := V47_rt.other W49 ne_rt_a2
  have A49_ra := A47_ra.wr W49
  have F49_ra_0 := F47_ra_0.other W49 (Or.inl ne_ra_a2)
  have F49_ra_1 := F47_ra_1.other W49 (Or.inl ne_ra_a2)
  have F49_ra_2 := F47_ra_2.other W49 (Or.inl ne_ra_a2)
  have F49_ra_3 := F47_ra_3.other W49 (Or.inl ne_ra_a2)
  have F49_ra_4 := F47_ra_4.other W49 (Or.inl ne_ra_a2)
  have F49_ra_5 := F47_ra_5.other W49 (Or.inl ne_ra_a2)
  have F49_ra_6 := F47_ra_6.other W49 (Or.inl ne_ra_a2)
  have F49_ra_7 := F47_ra_7.other W49 (Or.inl ne_ra_a2)
  have sz49 := Nat.le_trans sz47 (Keep.of_wr W49).1
  have K49 := K47.wr W49 (Or.inr go_a2)
  have N49 := Fr.snoc X49 N47 ge_a2
  have V49_n : own_AJ Z h49 a2 [(if sd = (0 : Int32) then (0 : Int64) else (1 : Int64)), lt, (ll).toInt64, (((if bs0 = (0 : Int32) then (0 : Int64) else (1 : Int64)) ||| (if bg0 = (0 : Int32) then (0 : Int64) else (2 : Int64))) ||| (if bt0 = (0 : Int32) then (0 : Int64) else (4 : Int64))), jl0, jr0, (((if bs1 = (0 : Int32) then (0 : Int64) else (1 : Int64)) ||| (if bg1 = (0 : Int32) then (0 : Int64) else (2 : Int64))) ||| (if bt1 = (0 : Int32) then (0 : Int64) else (4 : Int64))), jl1, jr1] := V49
  obtain ⟨T50, X50, e50, st50⟩ := getF X49 hx hZ hown (host := "") (Or.inl (H 37 rfl)) Via.refl e49 F49_ra_3 (g := (mkF m 46 #[rv ra, rv a2, iv (2 : Int32), iv (6 : Int32)] [(.ref ra), (.int (2 : Int32))])) rfl rfl (D d6_46)
  obtain ⟨fs, hr, hrun, hended, hW, hsame⟩ := X50.leave (v := some (.ref a2)) (fun h => by rw [Bd.returns] at h; cases h) hlk
  refine ⟨_, _, pre44 _ ?_, hrun, hended, _, _, rfl, ?_, ⟨_, rfl⟩, hW, hsame.mono (by decide) (by decide)⟩
  · show Steps p.tables e below (T41.setTop (mkF m 113 #[rv ra, rv a2, iv (1 : Int32), iv (6 : Int32)] [(.long (if bt1 = (0 : Int32) then (0 : Int64) else (4 : Int64))), (.long ((if bs1 = (0 : Int32) then (0 : Int64) else (1 : Int64)) ||| (if bg1 = (0 : Int32) then (0 : Int64) else (2 : Int64)))), (.int (6 : Int32)), (.ref a2)])) _
    refine XS.lor X41.here hx rfl (D d6_113) rfl ?_
    refine st45 _ ?_
    refine XS.aloadN X45.here hx rfl (D d6_115) rfl rfl ?_
    refine XS.iloadN X45.here hx rfl (D d6_116) rfl ?_
    refine XS.iconst X45.here hx rfl (D d6_117) ?_
    refine XS.iadd X45.here hx rfl (D d6_118) rfl ?_
    refine XS.aloadN X45.here hx rfl (D d6_119) rfl rfl ?_
    refine st46 _ ?_
    refine XS.iloadN X46.here hx rfl (D d6_123) rfl ?_
    refine own_laload X46 hx hZ e46 V45_rl (show 0 ≤ Int32.toInt (1 : Int32) ∧ Int32.toInt (1 : Int32) < ((2 : Nat) : Int) by decide) (D d6_124) _ ?_
    show Steps p.tables e below (T46.setTop (mkF m 125 #[rv ra, rv a2, iv (1 : Int32), iv (6 : Int32)] [(.long jl1), (.int (7 : Int32)), (.ref a2)])) _
    refine st47 _ ?_
    refine XS.aloadN X47.here hx rfl (D d6_126) rfl rfl ?_
    refine XS.iloadN X47.here hx rfl (D d6_127) rfl ?_
    refine XS.iconst X47.here hx rfl (D d6_128) ?_
    refine XS.iadd X47.here hx rfl (D d6_129) rfl ?_
    refine XS.aloadN X47.here hx rfl (D d6_130) rfl rfl ?_
    refine st48 _ ?_
    refine XS.iloadN X48.here hx rfl (D d6_134) rfl ?_
    refine own_laload X48 hx hZ e48 V47_rr (show 0 ≤ Int32.toInt (1 : Int32) ∧ Int32.toInt (1 : Int32) < ((2 : Nat) : Int) by decide) (D d6_135) _ ?_
    refine st49 _ ?_
    refine XS.iinc X49.here hx rfl (D d6_137) rfl (l' := #[rv ra, rv a2, iv (2 : Int32), iv (6 : Int32)]) rfl ?_
    refine XS.goto X49.here hx rfl (pc0 := 140) (pc' := 44) rfl (D d6_140) (by decide) (by decide) ?_
    refine XS.iloadN X49.here hx rfl (D d6_44) rfl ?_
    refine XS.aloadN X49.here hx rfl (D d6_45) rfl rfl ?_
    refine st50 _ ?_
    refine own_alenI X50 hx hZ e50 V49_rg (D d6_49) _ ?_
    show Steps p.tables e below (T50.setTop (mkF m 50 #[rv ra, rv a2, iv (2 : Int32), iv (6 : Int32)] [(.int (2 : Int32)), (.int (2 : Int32))])) _
    refine XS.icmpYes X50.here hx rfl (pc0 := 50) (pc' := 143) rfl (D d6_50) rfl (by decide) (by decide) (by decide) ?_
    refine XS.aloadN X50.here hx rfl (D d6_143) rfl rfl ?_
    show Steps p.tables e below (T50.setTop (mkF m 144 #[rv ra, rv a2, iv (2 : Int32), iv (6 : Int32)] [(.ref a2)])) _
    exact retOut X50 hx Bd.returns rfl (Or.inr (Or.inr (Or.inr (Or.inr ⟨rfl, rfl, rfl⟩)))) (D d6_144) hr
  · show Q6_2 Z ra rl rs rr rg rt sd lt ll jl0 jl1 jr0 jr1 bs0 bs1 bg0 bg1 bt0 bt1 h0 n0 _ T50.heap _
    rw [e50]
    exact ⟨by rw [g2], N49, K49, (by rw [← g2]; exact V49_n)⟩
theorem own_ix2 {x : Int64} (h1 : ¬ x < (0 : Int64)) (h2 : x < (2 : Int64)) : 0 ≤ (((3 : Int32) + ((3 : Int32) * (x).toInt32))).toInt ∧ (((3 : Int32) + ((3 : Int32) * (x).toInt32))).toInt < (9 : Nat) := by
  rw [Int64.lt_iff_toInt_lt] at h1 h2
  have e0 : (0 : Int64).toInt = 0 := by decide
  have en : (2 : Int64).toInt = 2 := by decide
  have e3 : (3 : Int32).toInt = 3 := by decide
  have a := own_l2i (x := x) (by omega)
  have b := own_imul (x := 3) (y := x.toInt32) (by rw [e3]; omega)
  rw [e3] at b
  have c := own_iadd (x := 3) (y := 3 * x.toInt32) (by omega)
  omega
theorem ef_8_2 (m : MethodId) (ra : Addr) (rw : Addr) : entryFrame m #[(.ref ra), (.ref rw)] 8 = mkF m 0 #[rv ra, rv rw, u0, u0, u0, u0, u0, u0] [] := by first | (simp [entryFrame, mkF, argsToLocals, Value.category, maxLocals]; done) | rfl
def Q8_2 (Z : State) (ra : Addr) (rw : Addr) (rg : Addr) (m0 : Int64) (m1 : Int64) (m2 : Int64) (m3 : Int64) (m4 : Int64) (m5 : Int64) (m6 : Int64) (m7 : Int64) (m8 : Int64) (bg0 : Int32) (bg1 : Int32) (h0 : Heap) (n0 : Nat) (v : Option Value) (h : Heap) (L : List Loc) : Prop := v = none ∧ Fr n0 L ∧ h = h0
set_option maxRecDepth 65536 in
set_option maxHeartbeats 40000000 in
theorem rm8_2 (l : Launch) (Z : State) (a0 : Array Value) (hw : ∀ d ∈ tables_1, d.before a0 Z = true) (ws : List Jvm.Cond) (ra : Addr) (rw : Addr) (rg : Addr) (m0 : Int64) (m1 : Int64) (m2 : Int64) (m3 : Int64) (m4 : Int64) (m5 : Int64) (m6 : Int64) (m7 : Int64) (m8 : Int64) (bg0 : Int32) (bg1 : Int32) (h0 : Heap) (n0 : Nat) (Z0 : n0 ≤ h0.size) (PA0 : own_AJ Z h0 rw [m0, m1, m2, m3, m4, m5, m6, m7, m8]) (PA1 : own_AI Z h0 rg .boolean [bg0, bg1]) (PE0 : Exa Z h0 ra "com/example/tributary/tributary/io/Silence") (PF0 : Fld Z h0 ra own_S "gone" "[Z" (.ref rg)) (H0 : m0 = (0 : Int64) ∨ m0 = (1 : Int64)) (H2 : ¬ m2 < (-1 : Int64) ∧ m2 < (2 : Int64)) (HF0 : ¬ m3 < (0 : Int64) ∧ ¬ (7 : Int64) < m3 ∧ (if (m3 &&& (4 : Int64)) = (0 : Int64) then (0 : Int32) else (if (m3 &&& (2 : Int64)) = (0 : Int64) then (1 : Int32) else (0 : Int32))) = (0 : Int32) ∧ (if (m3 &&& (1 : Int64)) = (0 : Int64) then (0 : Int32) else (if m0 = (0 : Int64) then (1 : Int32) else (0 : Int32))) = (0 : Int32)) (HF1 : ¬ m6 < (0 : Int64) ∧ ¬ (7 : Int64) < m6 ∧ (if (m6 &&& (4 : Int64)) = (0 : Int64) then (0 : Int32) else (if (m6 &&& (2 : Int64)) = (0 : Int64) then (1 : Int32) else (0 : Int32))) = (0 : Int32) ∧ (if (m6 &&& (1 : Int64)) = (0 : Int64) then (0 : Int32) else (if m0 = (0 : Int64) then (1 : Int32) else (0 : Int32))) = (0 : Int32)) (HL : ¬ m2 < (0 : Int64) → ¬ ((([m0, m1, m2, m3, m4, m5, m6, m7, m8] : List Int64).getD (((3 : Int32) + ((3 : Int32) * (m2).toInt32))).toInt.toNat 0) &&& (4 : Int64)) = (0 : Int64)) :
    MetFree l (⟨"com/example/tributary/tributary/io/Silence", "requireMeasured", "([J)V"⟩ : MethodName) (head1 (Jvm.Cond.code (⟨"com/example/tributary/tributary/io/Silence", "requireMeasured", "([J)V"⟩ : MethodName) prog_43_method_18_code 8 none :: ws) ({ frames := 0, cells := 0, slots := 0, locals := 0 } : Room)) (fun a U => a = #[(.ref ra), (.ref rw)] ∧ Z.Warmed39 U.vm ∧ U.heap = h0) (fun _ _ _ _ _ => True) (fun _ U o U' => ∃ v L, o = .returned v ∧ Q8_2 Z ra rw rg m0 m1 m2 m3 m4 m5 m6 m7 m8 bg0 bg1 h0 n0 v U'.heap L ∧ FrameEnd U o U' L ({ frames := 0, cells := 0, slots := 0, locals := 0 } : Room).cells ({ frames := 0, cells := 0, slots := 0, locals := 0 } : Room).slots) := by
  refine MetFree.of_bodySF (plainFor_of_name pn_4) hisR ?_
  intro p e s m args below meth c s₁ Bd hml0 hP hK
  obtain ⟨rfl, hZ, hh⟩ := hP
  have hx := Bd.exec
  have hby := Bd.bytes
  have hml : c.maxLocals = 8 := hml0
  have hown : s.vm.findClass "com/example/tributary/tributary/io/Silence" = some m.cls := findClass_of_methodNamed Bd.named
  have hnm := (name_of_methodNamed Bd.named Bd.method).1
  have X0 : Stand p l e ({ frames := 0, cells := 0, slots := 0, locals := 0 } : Room) s m #[(.ref ra), (.ref rw)] below meth c s₁ [] 0 0 := Stand.of_body Bd
  have hlk : meth.locks = false := by first | exact BodyLoose.notSynchronized (by assumption) | exact Body.notSynchronized (by assumption)
  have e0 : s₁.heap = h0 := by rw [← hh, Bd.state]; rfl
  have N0 := Fr.nil n0
  have pre0 : ∀ t, Steps p.tables e below (s₁.setTop (mkF m 0 #[rv ra, rv rw, u0, u0, u0, u0, u0, u0] [])) t → Steps p.tables e below (s₁.setTop (entryFrame m #[(.ref ra), (.ref rw)] 8)) t := fun t k => castTop (ef_8_2 m ra rw) k
  generalize s₁.setTop (entryFrame m #[(.ref ra), (.ref rw)] 8) = B0 at pre0 ⊢
  have H : ∀ (i : Nat) {d : Jvm.Cond}, tables_1[i]? = some d → d.before a0 Z = true := fun i d q => hw d (List.mem_of_getElem? q)
  have D : ∀ {pc : Nat} {r : Except DecodeError (Instr × Nat)}, decode prog_43_method_18_code pc = r → decode c.code pc = r := fun q => hb hby q
  obtain ⟨T1, X1, e1, st1⟩ := getF X0 hx hZ hown (host := "") (Or.inl (H 37 rfl)) Via.refl e0 PF0 (g := (mkF m 7 #[rv ra, rv rw, .val .null, u0, u0, u0, u0, u0] [(.ref ra), (.int (3 : Int32)), (.int (3 : Int32)), (.int (9 : Int32))])) rfl rfl (D d8_7)
  have pre3 : ∀ t, Steps p.tables e below (T1.setTop (mkF m 41 #[rv ra, rv rw, .val .null, u0, u0, u0, u0, u0] [(.int (lcmpW m0 (0 : Int64)))])) t → Steps p.tables e below B0 t := by
    intro t k
    refine pre0 t ?_
    show Steps p.tables e below (s₁.setTop (mkF m 0 #[rv ra, rv rw, u0, u0, u0, u0, u0, u0] [])) _
    refine XS.aconstNull X0.here hx rfl (D d8_0) ?_
    refine XS.astoreN X0.here hx rfl (D d8_1) rfl rfl (l' := #[rv ra, rv rw, .val .null, u0, u0, u0, u0, u0]) rfl ?_
    refine XS.aloadN X0.here hx rfl (D d8_2) rfl rfl ?_
    refine own_alenJ X0 hx hZ e0 PA0 (D d8_3) _ ?_
    refine XS.iconst X0.here hx rfl (D d8_4) ?_
    refine XS.iconst X0.here hx rfl (D d8_5) ?_
    refine XS.aloadN X0.here hx rfl (D d8_6) rfl rfl ?_
    refine st1 _ ?_
    refine own_alenI X1 hx hZ e1 PA1 (D d8_10) _ ?_
    refine XS.imul X1.here hx rfl (D d8_11) rfl ?_
    refine XS.iadd X1.here hx rfl (D d8_12) rfl ?_
    show Steps p.tables e below (T1.setTop (mkF m 13 #[rv ra, rv rw, .val .null, u0, u0, u0, u0, u0] [(.int (9 : Int32)), (.int (9 : Int32))])) _
    refine XS.icmpYes X1.here hx rfl (pc0 := 13) (pc' := 36) rfl (D d8_13) rfl (by decide) (by decide) (by decide) ?_
    refine XS.aloadN X1.here hx rfl (D d8_36) rfl rfl ?_
    refine XS.iconst X1.here hx rfl (D d8_37) ?_
    refine own_laload X1 hx hZ e1 PA0 (show 0 ≤ Int32.toInt (0 : Int32) ∧ Int32.toInt (0 : Int32) < ((9 : Nat) : Int) by decide) (D d8_38) _ ?_
    refine XS.lconst X1.here hx rfl (D d8_39) ?_
    refine XS.lcmp X1.here hx rfl (D d8_40) rfl ?_
    exact k
  clear st1
  have pre5 : ∀ t, Steps p.tables e below (T1.setTop (mkF m 64 #[rv ra, rv rw, .val .null, u0, u0, u0, u0, u0] [])) t → Steps p.tables e below B0 t := by
    by_cases c2 : m0 = (0 : Int64)
    · try simp only [if_pos c2]
      intro t k
      refine pre3 t ?_
      show Steps p.tables e below (T1.setTop (mkF m 41 #[rv ra, rv rw, .val .null, u0, u0, u0, u0, u0] [(.int (lcmpW m0 (0 : Int64)))])) _
      refine XS.ifYes X1.here hx rfl (pc0 := 41) (pc' := 64) rfl (D d8_41) rfl ((if0 _ _).trans (teq ((lw_eq m0 (0 : Int64)).mpr c2)).1) (by decide) (by decide) ?_
      exact k
    · try simp only [if_neg c2]
      have c4 : m0 = (1 : Int64) := (H0.resolve_left ‹_›)
      intro t k
      refine pre3 t ?_
      show Steps p.tables e below (T1.setTop (mkF m 41 #[rv ra, rv rw, .val .null, u0, u0, u0, u0, u0] [(.int (lcmpW m0 (0 : Int64)))])) _
      refine XS.ifNo X1.here hx rfl (D d8_41) rfl ((if0 _ _).trans (feq (mt (lw_eq m0 (0 : Int64)).mp c2)).1) ?_
      refine XS.aloadN X1.here hx rfl (D d8_44) rfl rfl ?_
      refine XS.iconst X1.here hx rfl (D d8_45) ?_
      refine own_laload X1 hx hZ e1 PA0 (show 0 ≤ Int32.toInt (0 : Int32) ∧ Int32.toInt (0 : Int32) < ((9 : Nat) : Int) by decide) (D d8_46) _ ?_
      refine XS.lconst X1.here hx rfl (D d8_47) ?_
      refine XS.lcmp X1.here hx rfl (D d8_48) rfl ?_
      show Steps p.tables e below (T1.setTop (mkF m 49 #[rv ra, rv rw, .val .null, u0, u0, u0, u0, u0] [(.int (lcmpW m0 (1 : Int64)))])) _
      refine XS.ifYes X1.here hx rfl (pc0 := 49) (pc' := 64) rfl (D d8_49) rfl ((if0 _ _).trans (teq ((lw_eq m0 (1 : Int64)).mpr c4)).1) (by decide) (by decide) ?_
      exact k
  have c6 : ¬ (m2 < (-1 : Int64)) := H2.1
  obtain ⟨T7, X7, e7, st7⟩ := getF X1 hx hZ hown (host := "") (Or.inl (H 37 rfl)) Via.refl e1 PF0 (g := (mkF m 78 #[rv ra, rv rw, .val .null, u0, u0, u0, u0, u0] [(.ref ra), (.long m2)])) rfl rfl (D d8_78)
  have c8 : m2 < (2 : Int64) := H2.2
  obtain ⟨T9, X9, e9, st9⟩ := getF X7 hx hZ hown (host := "") (Or.inl (H 37 rfl)) Via.refl e7 PF0 (g := (mkF m 104 #[rv ra, rv rw, .val .null, iv (0 : Int32), u0, u0, u0, u0] [(.ref ra), (.int (0 : Int32))])) rfl rfl (D d8_104)
  have pre11 : ∀ t, Steps p.tables e below (T9.setTop (mkF m 128 #[rv ra, rv rw, .val .null, iv (0 : Int32), jv m3, s2, u0, u0] [(.int (lcmpW (m3 &&& (4 : Int64)) (0 : Int64)))])) t → Steps p.tables e below B0 t := by
    intro t k
    refine pre5 t ?_
    show Steps p.tables e below (T1.setTop (mkF m 64 #[rv ra, rv rw, .val .null, u0, u0, u0, u0, u0] [])) _
    refine XS.aloadN X1.here hx rfl (D d8_64) rfl rfl ?_
    refine XS.iconst X1.here hx rfl (D d8_65) ?_
    refine own_laload X1 hx hZ e1 PA0 (show 0 ≤ Int32.toInt (2 : Int32) ∧ Int32.toInt (2 : Int32) < ((9 : Nat) : Int) by decide) (D d8_66) _ ?_
    refine X1.ldc2Long hx hown (mvT hZ (H 62 rfl)) (g := (mkF m 67 #[rv ra, rv rw, .val .null, u0, u0, u0, u0, u0] [(.long m2)])) rfl (D d8_67) _ ?_
    refine XS.lcmp X1.here hx rfl (D d8_70) rfl ?_
    show Steps p.tables e below (T1.setTop (mkF m 71 #[rv ra, rv rw, .val .null, u0, u0, u0, u0, u0] [(.int (lcmpW m2 (-1 : Int64)))])) _
    refine XS.ifNo X1.here hx rfl (D d8_71) rfl ((if0 _ _).trans (flt (mt (lw_lt m2 (-1 : Int64)).mp c6)).1) ?_
    refine XS.aloadN X1.here hx rfl (D d8_74) rfl rfl ?_
    refine XS.iconst X1.here hx rfl (D d8_75) ?_
    refine own_laload X1 hx hZ e1 PA0 (show 0 ≤ Int32.toInt (2 : Int32) ∧ Int32.toInt (2 : Int32) < ((9 : Nat) : Int) by decide) (D d8_76) _ ?_
    refine XS.aloadN X1.here hx rfl (D d8_77) rfl rfl ?_
    refine st7 _ ?_
    refine own_alenI X7 hx hZ e7 PA1 (D d8_81) _ ?_
    refine XS.i2l X7.here hx rfl (D d8_82) rfl ?_
    refine XS.lcmp X7.here hx rfl (D d8_83) rfl ?_
    show Steps p.tables e below (T7.setTop (mkF m 84 #[rv ra, rv rw, .val .null, u0, u0, u0, u0, u0] [(.int (lcmpW m2 (2 : Int64)))])) _
    refine XS.ifYes X7.here hx rfl (pc0 := 84) (pc' := 96) rfl (D d8_84) rfl ((if0 _ _).trans (tlt ((lw_lt m2 (2 : Int64)).mpr c8)).1) (by decide) (by decide) ?_
    refine XS.iconst X7.here hx rfl (D d8_96) ?_
    refine XS.istoreN X7.here hx rfl (D d8_97) rfl (l' := #[rv ra, rv rw, .val .null, iv (0 : Int32), u0, u0, u0, u0]) rfl ?_
    refine XS.aloadN X7.here hx rfl (D d8_98) rfl rfl ?_
    show Steps p.tables e below (T7.setTop (mkF m 99 #[rv ra, rv rw, .val .null, iv (0 : Int32), u0, u0, u0, u0] [.null])) _
    refine XS.ifnonnullNo X7.here hx rfl (D d8_99) rfl ?_
    refine XS.iloadN X7.here hx rfl (D d8_102) rfl ?_
    refine XS.aloadN X7.here hx rfl (D d8_103) rfl rfl ?_
    refine st9 _ ?_
    refine own_alenI X9 hx hZ e9 PA1 (D d8_107) _ ?_
    show Steps p.tables e below (T9.setTop (mkF m 108 #[rv ra, rv rw, .val .null, iv (0 : Int32), u0, u0, u0, u0] [(.int (2 : Int32)), (.int (0 : Int32))])) _
    refine XS.icmpNo X9.here hx rfl (D d8_108) rfl (by decide) ?_
    refine XS.aloadN X9.here hx rfl (D d8_111) rfl rfl ?_
    refine XS.iconst X9.here hx rfl (D d8_112) ?_
    refine XS.iconst X9.here hx rfl (D d8_113) ?_
    show Steps p.tables e below (T9.setTop (mkF m 114 #[rv ra, rv rw, .val .null, iv (0 : Int32), u0, u0, u0, u0] [(.int (3 : Int32)), (.int (3 : Int32)), (.ref rw)])) _
    refine XS.iloadN X9.here hx rfl (D d8_114) rfl ?_
    refine XS.imul X9.here hx rfl (D d8_115) rfl ?_
    refine XS.iadd X9.here hx rfl (D d8_116) rfl ?_
    refine own_laload X9 hx hZ e9 PA0 (show 0 ≤ Int32.toInt (3 : Int32) ∧ Int32.toInt (3 : Int32) < ((9 : Nat) : Int) by decide) (D d8_117) _ ?_
    refine XS.lstore X9.here hx rfl (D d8_118) rfl (l' := #[rv ra, rv rw, .val .null, iv (0 : Int32), jv m3, s2, u0, u0]) rfl ?_
    refine XS.lload X9.here hx rfl (D d8_120) rfl ?_
    refine X9.ldc2Long hx hown (mvT hZ (H 63 rfl)) (g := (mkF m 122 #[rv ra, rv rw, .val .null, iv (0 : Int32), jv m3, s2, u0, u0] [(.long m3)])) rfl (D d8_122) _ ?_
    refine XS.land X9.here hx rfl (D d8_125) rfl ?_
    refine XS.lconst X9.here hx rfl (D d8_126) ?_
    refine XS.lcmp X9.here hx rfl (D d8_127) rfl ?_
    exact k
  clear X1 e1 pre3 pre5 X7 e7 st7 st9
  have pre15 : ∀ t, Steps p.tables e below (T9.setTop (mkF m 147 #[rv ra, rv rw, .val .null, iv (0 : Int32), jv m3, s2, u0, u0] [(.int (if (m3 &&& (4 : Int64)) = (0 : Int64) then (0 : Int32) else (if (m3 &&& (2 : Int64)) = (0 : Int64) then (1 : Int32) else (0 : Int32))))])) t → Steps p.tables e below B0 t := by
    by_cases c10 : (m3 &&& (4 : Int64)) = (0 : Int64)
    · try simp only [if_pos c10]
      intro t k
      refine pre11 t ?_
      show Steps p.tables e below (T9.setTop (mkF m 128 #[rv ra, rv rw, .val .null, iv (0 : Int32), jv m3, s2, u0, u0] [(.int (lcmpW (m3 &&& (4 : Int64)) (0 : Int64)))])) _
      refine XS.ifYes X9.here hx rfl (pc0 := 128) (pc' := 146) rfl (D d8_128) rfl ((if0 _ _).trans (teq ((lw_eq (m3 &&& (4 : Int64)) (0 : Int64)).mpr c10)).1) (by decide) (by decide) ?_
      refine XS.iconst X9.here hx rfl (D d8_146) ?_
      exact k
    · try simp only [if_neg c10]
      have pre13 : ∀ t, Steps p.tables e below (T9.setTop (mkF m 139 #[rv ra, rv rw, .val .null, iv (0 : Int32), jv m3, s2, u0, u0] [(.int (lcmpW (m3 &&& (2 : Int64)) (0 : Int64)))])) t → Steps p.tables e below B0 t := by
        intro t k
        refine pre11 t ?_
        show Steps p.tables e below (T9.setTop (mkF m 128 #[rv ra, rv rw, .val .null, iv (0 : Int32), jv m3, s2, u0, u0] [(.int (lcmpW (m3 &&& (4 : Int64)) (0 : Int64)))])) _
        refine XS.ifNo X9.here hx rfl (D d8_128) rfl ((if0 _ _).trans (feq (mt (lw_eq (m3 &&& (4 : Int64)) (0 : Int64)).mp c10)).1) ?_
        refine XS.lload X9.here hx rfl (D d8_131) rfl ?_
        refine X9.ldc2Long hx hown (mvT hZ (H 65 rfl)) (g := (mkF m 133 #[rv ra, rv rw, .val .null, iv (0 : Int32), jv m3, s2, u0, u0] [(.long m3)])) rfl (D d8_133) _ ?_
        refine XS.land X9.here hx rfl (D d8_136) rfl ?_
        refine XS.lconst X9.here hx rfl (D d8_137) ?_
        refine XS.lcmp X9.here hx rfl (D d8_138) rfl ?_
        exact k
      clear pre11
      have pre14 : ∀ t, Steps p.tables e below (T9.setTop (mkF m 147 #[rv ra, rv rw, .val .null, iv (0 : Int32), jv m3, s2, u0, u0] [(.int (if (m3 &&& (2 : Int64)) = (0 : Int64) then (1 : Int32) else (0 : Int32)))])) t → Steps p.tables e below B0 t := by
        by_cases c12 : (m3 &&& (2 : Int64)) = (0 : Int64)
        · try simp only [if_pos c12]
          intro t k
          refine pre13 t ?_
          show Steps p.tables e below (T9.setTop (mkF m 139 #[rv ra, rv rw, .val .null, iv (0 : Int32), jv m3, s2, u0, u0] [(.int (lcmpW (m3 &&& (2 : Int64)) (0 : Int64)))])) _
          refine XS.ifNo X9.here hx rfl (D d8_139) rfl ((if0 _ _).trans (teq ((lw_eq (m3 &&& (2 : Int64)) (0 : Int64)).mpr c12)).2) ?_
          refine XS.iconst X9.here hx rfl (D d8_142) ?_
          refine XS.goto X9.here hx rfl (pc0 := 143) (pc' := 147) rfl (D d8_143) (by decide) (by decide) ?_
          exact k
        · try simp only [if_neg c12]
          intro t k
          refine pre13 t ?_
          show Steps p.tables e below (T9.setTop (mkF m 139 #[rv ra, rv rw, .val .null, iv (0 : Int32), jv m3, s2, u0, u0] [(.int (lcmpW (m3 &&& (2 : Int64)) (0 : Int64)))])) _
          refine XS.ifYes X9.here hx rfl (pc0 := 139) (pc' := 146) rfl (D d8_139) rfl ((if0 _ _).trans (feq (mt (lw_eq (m3 &&& (2 : Int64)) (0 : Int64)).mp c12)).2) (by decide) (by decide) ?_
          refine XS.iconst X9.here hx rfl (D d8_146) ?_
          exact k
      intro t k
      refine pre14 t ?_
      exact k
  obtain ⟨v16, hv16⟩ : ∃ z : Int32, z = (if (m3 &&& (4 : Int64)) = (0 : Int64) then (0 : Int32) else (if (m3 &&& (2 : Int64)) = (0 : Int64) then (1 : Int32) else (0 : Int32))) := ⟨_, rfl⟩
  have pre17 : ∀ t, Steps p.tables e below (T9.setTop (mkF m 147 #[rv ra, rv rw, .val .null, iv (0 : Int32), jv m3, s2, u0, u0] [(.int v16)])) t → Steps p.tables e below B0 t := by
    rw [hv16]
    intro t k
    refine pre15 t ?_
    exact k
  have pre19 : ∀ t, Steps p.tables e below (T9.setTop (mkF m 155 #[rv ra, rv rw, .val .null, iv (0 : Int32), jv m3, s2, iv v16, u0] [(.int (lcmpW (m3 &&& (1 : Int64)) (0 : Int64)))])) t → Steps p.tables e below B0 t := by
    intro t k
    refine pre17 t ?_
    show Steps p.tables e below (T9.setTop (mkF m 147 #[rv ra, rv rw, .val .null, iv (0 : Int32), jv m3, s2, u0, u0] [(.int v16)])) _
    refine XS.istore X9.here hx rfl (D d8_147) rfl (l' := #[rv ra, rv rw, .val .null, iv (0 : Int32), jv m3, s2, iv v16, u0]) rfl ?_
    refine XS.lload X9.here hx rfl (D d8_149) rfl ?_
    refine XS.lconst X9.here hx rfl (D d8_151) ?_
    refine XS.land X9.here hx rfl (D d8_152) rfl ?_
    refine XS.lconst X9.here hx rfl (D d8_153) ?_
    refine XS.lcmp X9.here hx rfl (D d8_154) rfl ?_
    exact k
  clear pre11 pre15 pre17
  have pre23 : ∀ t, Steps p.tables e below (T9.setTop (mkF m 171 #[rv ra, rv rw, .val .null, iv (0 : Int32), jv m3, s2, iv v16, u0] [(.int (if (m3 &&& (1 : Int64)) = (0 : Int64) then (0 : Int32) else (if m0 = (0 : Int64) then (1 : Int32) else (0 : Int32))))])) t → Steps p.tables e below B0 t := by
    by_cases c18 : (m3 &&& (1 : Int64)) = (0 : Int64)
    · try simp only [if_pos c18]
      intro t k
      refine pre19 t ?_
      show Steps p.tables e below (T9.setTop (mkF m 155 #[rv ra, rv rw, .val .null, iv (0 : Int32), jv m3, s2, iv v16, u0] [(.int (lcmpW (m3 &&& (1 : Int64)) (0 : Int64)))])) _
      refine XS.ifYes X9.here hx rfl (pc0 := 155) (pc' := 170) rfl (D d8_155) rfl ((if0 _ _).trans (teq ((lw_eq (m3 &&& (1 : Int64)) (0 : Int64)).mpr c18)).1) (by decide) (by decide) ?_
      refine XS.iconst X9.here hx rfl (D d8_170) ?_
      exact k
    · try simp only [if_neg c18]
      have pre21 : ∀ t, Steps p.tables e below (T9.setTop (mkF m 163 #[rv ra, rv rw, .val .null, iv (0 : Int32), jv m3, s2, iv v16, u0] [(.int (lcmpW m0 (0 : Int64)))])) t → Steps p.tables e below B0 t := by
        intro t k
        refine pre19 t ?_
        show Steps p.tables e below (T9.setTop (mkF m 155 #[rv ra, rv rw, .val .null, iv (0 : Int32), jv m3, s2, iv v16, u0] [(.int (lcmpW (m3 &&& (1 : Int64)) (0 : Int64)))])) _
        refine XS.ifNo X9.here hx rfl (D d8_155) rfl ((if0 _ _).trans (feq (mt (lw_eq (m3 &&& (1 : Int64)) (0 : Int64)).mp c18)).1) ?_
        refine XS.aloadN X9.here hx rfl (D d8_158) rfl rfl ?_
        refine XS.iconst X9.here hx rfl (D d8_159) ?_
        refine own_laload X9 hx hZ e9 PA0 (show 0 ≤ Int32.toInt (0 : Int32) ∧ Int32.toInt (0 : Int32) < ((9 : Nat) : Int) by decide) (D d8_160) _ ?_
        refine XS.lconst X9.here hx rfl (D d8_161) ?_
        refine XS.lcmp X9.here hx rfl (D d8_162) rfl ?_
        exact k
      clear pre19
      have pre22 : ∀ t, Steps p.tables e below (T9.setTop (mkF m 171 #[rv ra, rv rw, .val .null, iv (0 : Int32), jv m3, s2, iv v16, u0] [(.int (if m0 = (0 : Int64) then (1 : Int32) else (0 : Int32)))])) t → Steps p.tables e below B0 t := by
        by_cases c20 : m0 = (0 : Int64)
        · try simp only [if_pos c20]
          intro t k
          refine pre21 t ?_
          show Steps p.tables e below (T9.setTop (mkF m 163 #[rv ra, rv rw, .val .null, iv (0 : Int32), jv m3, s2, iv v16, u0] [(.int (lcmpW m0 (0 : Int64)))])) _
          refine XS.ifNo X9.here hx rfl (D d8_163) rfl ((if0 _ _).trans (teq ((lw_eq m0 (0 : Int64)).mpr c20)).2) ?_
          refine XS.iconst X9.here hx rfl (D d8_166) ?_
          refine XS.goto X9.here hx rfl (pc0 := 167) (pc' := 171) rfl (D d8_167) (by decide) (by decide) ?_
          exact k
        · try simp only [if_neg c20]
          intro t k
          refine pre21 t ?_
          show Steps p.tables e below (T9.setTop (mkF m 163 #[rv ra, rv rw, .val .null, iv (0 : Int32), jv m3, s2, iv v16, u0] [(.int (lcmpW m0 (0 : Int64)))])) _
          refine XS.ifYes X9.here hx rfl (pc0 := 163) (pc' := 170) rfl (D d8_163) rfl ((if0 _ _).trans (feq (mt (lw_eq m0 (0 : Int64)).mp c20)).2) (by decide) (by decide) ?_
          refine XS.iconst X9.here hx rfl (D d8_170) ?_
          exact k
      intro t k
      refine pre22 t ?_
      exact k
  obtain ⟨v24, hv24⟩ : ∃ z : Int32, z = (if (m3 &&& (1 : Int64)) = (0 : Int64) then (0 : Int32) else (if m0 = (0 : Int64) then (1 : Int32) else (0 : Int32))) := ⟨_, rfl⟩
  have pre25 : ∀ t, Steps p.tables e below (T9.setTop (mkF m 171 #[rv ra, rv rw, .val .null, iv (0 : Int32), jv m3, s2, iv v16, u0] [(.int v24)])) t → Steps p.tables e below B0 t := by
    rw [hv24]
    intro t k
    refine pre23 t ?_
    exact k
  have c26 : ¬ (m3 < (0 : Int64)) := HF0.1
  have c27 : ¬ ((7 : Int64) < m3) := HF0.2.1
  have c28 : v16 = (0 : Int32) := (by rw [hv16]; exact HF0.2.2.1)
  have c29 : v24 = (0 : Int32) := (by rw [hv24]; exact HF0.2.2.2)
  obtain ⟨T30, X30, e30, st30⟩ := getF X9 hx hZ hown (host := "") (Or.inl (H 37 rfl)) Via.refl e9 PF0 (g := (mkF m 104 #[rv ra, rv rw, .val .null, iv (1 : Int32), jv m3, s2, iv v16, iv v24] [(.ref ra), (.int (1 : Int32))])) rfl rfl (D d8_104)
  have pre32 : ∀ t, Steps p.tables e below (T30.setTop (mkF m 128 #[rv ra, rv rw, .val .null, iv (1 : Int32), jv m6, s2, iv v16, iv v24] [(.int (lcmpW (m6 &&& (4 : Int64)) (0 : Int64)))])) t → Steps p.tables e below B0 t := by
    intro t k
    refine pre25 t ?_
    show Steps p.tables e below (T9.setTop (mkF m 171 #[rv ra, rv rw, .val .null, iv (0 : Int32), jv m3, s2, iv v16, u0] [(.int v24)])) _
    refine XS.istore X9.here hx rfl (D d8_171) rfl (l' := #[rv ra, rv rw, .val .null, iv (0 : Int32), jv m3, s2, iv v16, iv v24]) rfl ?_
    refine XS.lload X9.here hx rfl (D d8_173) rfl ?_
    refine XS.lconst X9.here hx rfl (D d8_175) ?_
    refine XS.lcmp X9.here hx rfl (D d8_176) rfl ?_
    show Steps p.tables e below (T9.setTop (mkF m 177 #[rv ra, rv rw, .val .null, iv (0 : Int32), jv m3, s2, iv v16, iv v24] [(.int (lcmpW m3 (0 : Int64)))])) _
    refine XS.ifNo X9.here hx rfl (D d8_177) rfl ((if0 _ _).trans (flt (mt (lw_lt m3 (0 : Int64)).mp c26)).1) ?_
    refine XS.lload X9.here hx rfl (D d8_180) rfl ?_
    refine X9.ldc2Long hx hown (mvT hZ (H 64 rfl)) (g := (mkF m 182 #[rv ra, rv rw, .val .null, iv (0 : Int32), jv m3, s2, iv v16, iv v24] [(.long m3)])) rfl (D d8_182) _ ?_
    refine XS.lcmp X9.here hx rfl (D d8_185) rfl ?_
    show Steps p.tables e below (T9.setTop (mkF m 186 #[rv ra, rv rw, .val .null, iv (0 : Int32), jv m3, s2, iv v16, iv v24] [(.int (lcmpW m3 (7 : Int64)))])) _
    refine XS.ifNo X9.here hx rfl (D d8_186) rfl ((if0 _ _).trans (flt (mt (lw_gt m3 (7 : Int64)).mp c27)).2.2.1) ?_
    refine XS.iload X9.here hx rfl (D d8_189) rfl ?_
    show Steps p.tables e below (T9.setTop (mkF m 191 #[rv ra, rv rw, .val .null, iv (0 : Int32), jv m3, s2, iv v16, iv v24] [(.int v16)])) _
    refine XS.ifNo X9.here hx rfl (D d8_191) rfl ((if0 _ _).trans (teq c28).2) ?_
    refine XS.iload X9.here hx rfl (D d8_194) rfl ?_
    show Steps p.tables e below (T9.setTop (mkF m 196 #[rv ra, rv rw, .val .null, iv (0 : Int32), jv m3, s2, iv v16, iv v24] [(.int v24)])) _
    refine XS.ifYes X9.here hx rfl (pc0 := 196) (pc' := 208) rfl (D d8_196) rfl ((if0 _ _).trans (teq c29).1) (by decide) (by decide) ?_
    refine XS.iinc X9.here hx rfl (D d8_208) rfl (l' := #[rv ra, rv rw, .val .null, iv (1 : Int32), jv m3, s2, iv v16, iv v24]) rfl ?_
    refine XS.goto X9.here hx rfl (pc0 := 211) (pc' := 98) rfl (D d8_211) (by decide) (by decide) ?_
    refine XS.aloadN X9.here hx rfl (D d8_98) rfl rfl ?_
    show Steps p.tables e below (T9.setTop (mkF m 99 #[rv ra, rv rw, .val .null, iv (1 : Int32), jv m3, s2, iv v16, iv v24] [.null])) _
    refine XS.ifnonnullNo X9.here hx rfl (D d8_99) rfl ?_
    refine XS.iloadN X9.here hx rfl (D d8_102) rfl ?_
    refine XS.aloadN X9.here hx rfl (D d8_103) rfl rfl ?_
    refine st30 _ ?_
    refine own_alenI X30 hx hZ e30 PA1 (D d8_107) _ ?_
    show Steps p.tables e below (T30.setTop (mkF m 108 #[rv ra, rv rw, .val .null, iv (1 : Int32), jv m3, s2, iv v16, iv v24] [(.int (2 : Int32)), (.int (1 : Int32))])) _
    refine XS.icmpNo X30.here hx rfl (D d8_108) rfl (by decide) ?_
    refine XS.aloadN X30.here hx rfl (D d8_111) rfl rfl ?_
    refine XS.iconst X30.here hx rfl (D d8_112) ?_
    refine XS.iconst X30.here hx rfl (D d8_113) ?_
    refine XS.iloadN X30.here hx rfl (D d8_114) rfl ?_
    refine XS.imul X30.here hx rfl (D d8_115) rfl ?_
    refine XS.iadd X30.here hx rfl (D d8_116) rfl ?_
    refine own_laload X30 hx hZ e30 PA0 (show 0 ≤ Int32.toInt (6 : Int32) ∧ Int32.toInt (6 : Int32) < ((9 : Nat) : Int) by decide) (D d8_117) _ ?_
    refine XS.lstore X30.here hx rfl (D d8_118) rfl (l' := #[rv ra, rv rw, .val .null, iv (1 : Int32), jv m6, s2, iv v16, iv v24]) rfl ?_
    show Steps p.tables e below (T30.setTop (mkF m 120 #[rv ra, rv rw, .val .null, iv (1 : Int32), jv m6, s2, iv v16, iv v24] [])) _
    refine XS.lload X30.here hx rfl (D d8_120) rfl ?_
    refine X30.ldc2Long hx hown (mvT hZ (H 63 rfl)) (g := (mkF m 122 #[rv ra, rv rw, .val .null, iv (1 : Int32), jv m6, s2, iv v16, iv v24] [(.long m6)])) rfl (D d8_122) _ ?_
    refine XS.land X30.here hx rfl (D d8_125) rfl ?_
    refine XS.lconst X30.here hx rfl (D d8_126) ?_
    refine XS.lcmp X30.here hx rfl (D d8_127) rfl ?_
    exact k
  clear X9 e9 pre19 pre23 pre25 st30
  have pre36 : ∀ t, Steps p.tables e below (T30.setTop (mkF m 147 #[rv ra, rv rw, .val .null, iv (1 : Int32), jv m6, s2, iv v16, iv v24] [(.int (if (m6 &&& (4 : Int64)) = (0 : Int64) then (0 : Int32) else (if (m6 &&& (2 : Int64)) = (0 : Int64) then (1 : Int32) else (0 : Int32))))])) t → Steps p.tables e below B0 t := by
    by_cases c31 : (m6 &&& (4 : Int64)) = (0 : Int64)
    · try simp only [if_pos c31]
      intro t k
      refine pre32 t ?_
      show Steps p.tables e below (T30.setTop (mkF m 128 #[rv ra, rv rw, .val .null, iv (1 : Int32), jv m6, s2, iv v16, iv v24] [(.int (lcmpW (m6 &&& (4 : Int64)) (0 : Int64)))])) _
      refine XS.ifYes X30.here hx rfl (pc0 := 128) (pc' := 146) rfl (D d8_128) rfl ((if0 _ _).trans (teq ((lw_eq (m6 &&& (4 : Int64)) (0 : Int64)).mpr c31)).1) (by decide) (by decide) ?_
      refine XS.iconst X30.here hx rfl (D d8_146) ?_
      exact k
    · try simp only [if_neg c31]
      have pre34 : ∀ t, Steps p.tables e below (T30.setTop (mkF m 139 #[rv ra, rv rw, .val .null, iv (1 : Int32), jv m6, s2, iv v16, iv v24] [(.int (lcmpW (m6 &&& (2 : Int64)) (0 : Int64)))])) t → Steps p.tables e below B0 t := by
        intro t k
        refine pre32 t ?_
        show Steps p.tables e below (T30.setTop (mkF m 128 #[rv ra, rv rw, .val .null, iv (1 : Int32), jv m6, s2, iv v16, iv v24] [(.int (lcmpW (m6 &&& (4 : Int64)) (0 : Int64)))])) _
        refine XS.ifNo X30.here hx rfl (D d8_128) rfl ((if0 _ _).trans (feq (mt (lw_eq (m6 &&& (4 : Int64)) (0 : Int64)).mp c31)).1) ?_
        refine XS.lload X30.here hx rfl (D d8_131) rfl ?_
        refine X30.ldc2Long hx hown (mvT hZ (H 65 rfl)) (g := (mkF m 133 #[rv ra, rv rw, .val .null, iv (1 : Int32), jv m6, s2, iv v16, iv v24] [(.long m6)])) rfl (D d8_133) _ ?_
        refine XS.land X30.here hx rfl (D d8_136) rfl ?_
        refine XS.lconst X30.here hx rfl (D d8_137) ?_
        refine XS.lcmp X30.here hx rfl (D d8_138) rfl ?_
        exact k
      clear pre32
      have pre35 : ∀ t, Steps p.tables e below (T30.setTop (mkF m 147 #[rv ra, rv rw, .val .null, iv (1 : Int32), jv m6, s2, iv v16, iv v24] [(.int (if (m6 &&& (2 : Int64)) = (0 : Int64) then (1 : Int32) else (0 : Int32)))])) t → Steps p.tables e below B0 t := by
        by_cases c33 : (m6 &&& (2 : Int64)) = (0 : Int64)
        · try simp only [if_pos c33]
          intro t k
          refine pre34 t ?_
          show Steps p.tables e below (T30.setTop (mkF m 139 #[rv ra, rv rw, .val .null, iv (1 : Int32), jv m6, s2, iv v16, iv v24] [(.int (lcmpW (m6 &&& (2 : Int64)) (0 : Int64)))])) _
          refine XS.ifNo X30.here hx rfl (D d8_139) rfl ((if0 _ _).trans (teq ((lw_eq (m6 &&& (2 : Int64)) (0 : Int64)).mpr c33)).2) ?_
          refine XS.iconst X30.here hx rfl (D d8_142) ?_
          refine XS.goto X30.here hx rfl (pc0 := 143) (pc' := 147) rfl (D d8_143) (by decide) (by decide) ?_
          exact k
        · try simp only [if_neg c33]
          intro t k
          refine pre34 t ?_
          show Steps p.tables e below (T30.setTop (mkF m 139 #[rv ra, rv rw, .val .null, iv (1 : Int32), jv m6, s2, iv v16, iv v24] [(.int (lcmpW (m6 &&& (2 : Int64)) (0 : Int64)))])) _
          refine XS.ifYes X30.here hx rfl (pc0 := 139) (pc' := 146) rfl (D d8_139) rfl ((if0 _ _).trans (feq (mt (lw_eq (m6 &&& (2 : Int64)) (0 : Int64)).mp c33)).2) (by decide) (by decide) ?_
          refine XS.iconst X30.here hx rfl (D d8_146) ?_
          exact k
      intro t k
      refine pre35 t ?_
      exact k
  obtain ⟨v37, hv37⟩ : ∃ z : Int32, z = (if (m6 &&& (4 : Int64)) = (0 : Int64) then (0 : Int32) else (if (m6 &&& (2 : Int64)) = (0 : Int64) then (1 : Int32) else (0 : Int32))) := ⟨_, rfl⟩
  have pre38 : ∀ t, Steps p.tables e below (T30.setTop (mkF m 147 #[rv ra, rv rw, .val .null, iv (1 : Int32), jv m6, s2, iv v16, iv v24] [(.int v37)])) t → Steps p.tables e below B0 t := by
    rw [hv37]
    intro t k
    refine pre36 t ?_
    exact k
  have pre40 : ∀ t, Steps p.tables e below (T30.setTop (mkF m 155 #[rv ra, rv rw, .val .null, iv (1 : Int32), jv m6, s2, iv v37, iv v24] [(.int (lcmpW (m6 &&& (1 : Int64)) (0 : Int64)))])) t → Steps p.tables e below B0 t := by
    intro t k
    refine pre38 t ?_
    show Steps p.tables e below (T30.setTop (mkF m 147 #[rv ra, rv rw, .val .null, iv (1 : Int32), jv m6, s2, iv v16, iv v24] [(.int v37)])) _
    refine XS.istore X30.here hx rfl (D d8_147) rfl (l' := #[rv ra, rv rw, .val .null, iv (1 : Int32), jv m6, s2, iv v37, iv v24]) rfl ?_
    refine XS.lload X30.here hx rfl (D d8_149) rfl ?_
    refine XS.lconst X30.here hx rfl (D d8_151) ?_
    refine XS.land X30.here hx rfl (D d8_152) rfl ?_
    refine XS.lconst X30.here hx rfl (D d8_153) ?_
    refine XS.lcmp X30.here hx rfl (D d8_154) rfl ?_
    exact k
  clear pre32 pre36 pre38
  have pre44 : ∀ t, Steps p.tables e below (T30.setTop (mkF m 171 #[rv ra, rv rw, .val .null, iv (1 : Int32), jv m6, s2, iv v37, iv v24] [(.int (if (m6 &&& (1 : Int64)) = (0 : Int64) then (0 : Int32) else (if m0 = (0 : Int64) then (1 : Int32) else (0 : Int32))))])) t → Steps p.tables e below B0 t := by
    by_cases c39 : (m6 &&& (1 : Int64)) = (0 : Int64)
    · try simp only [if_pos c39]
      intro t k
      refine pre40 t ?_
      show Steps p.tables e below (T30.setTop (mkF m 155 #[rv ra, rv rw, .val .null, iv (1 : Int32), jv m6, s2, iv v37, iv v24] [(.int (lcmpW (m6 &&& (1 : Int64)) (0 : Int64)))])) _
      refine XS.ifYes X30.here hx rfl (pc0 := 155) (pc' := 170) rfl (D d8_155) rfl ((if0 _ _).trans (teq ((lw_eq (m6 &&& (1 : Int64)) (0 : Int64)).mpr c39)).1) (by decide) (by decide) ?_
      refine XS.iconst X30.here hx rfl (D d8_170) ?_
      exact k
    · try simp only [if_neg c39]
      have pre42 : ∀ t, Steps p.tables e below (T30.setTop (mkF m 163 #[rv ra, rv rw, .val .null, iv (1 : Int32), jv m6, s2, iv v37, iv v24] [(.int (lcmpW m0 (0 : Int64)))])) t → Steps p.tables e below B0 t := by
        intro t k
        refine pre40 t ?_
        show Steps p.tables e below (T30.setTop (mkF m 155 #[rv ra, rv rw, .val .null, iv (1 : Int32), jv m6, s2, iv v37, iv v24] [(.int (lcmpW (m6 &&& (1 : Int64)) (0 : Int64)))])) _
        refine XS.ifNo X30.here hx rfl (D d8_155) rfl ((if0 _ _).trans (feq (mt (lw_eq (m6 &&& (1 : Int64)) (0 : Int64)).mp c39)).1) ?_
        refine XS.aloadN X30.here hx rfl (D d8_158) rfl rfl ?_
        refine XS.iconst X30.here hx rfl (D d8_159) ?_
        refine own_laload X30 hx hZ e30 PA0 (show 0 ≤ Int32.toInt (0 : Int32) ∧ Int32.toInt (0 : Int32) < ((9 : Nat) : Int) by decide) (D d8_160) _ ?_
        refine XS.lconst X30.here hx rfl (D d8_161) ?_
        refine XS.lcmp X30.here hx rfl (D d8_162) rfl ?_
        exact k
      clear pre40
      have pre43 : ∀ t, Steps p.tables e below (T30.setTop (mkF m 171 #[rv ra, rv rw, .val .null, iv (1 : Int32), jv m6, s2, iv v37, iv v24] [(.int (if m0 = (0 : Int64) then (1 : Int32) else (0 : Int32)))])) t → Steps p.tables e below B0 t := by
        by_cases c41 : m0 = (0 : Int64)
        · try simp only [if_pos c41]
          intro t k
          refine pre42 t ?_
          show Steps p.tables e below (T30.setTop (mkF m 163 #[rv ra, rv rw, .val .null, iv (1 : Int32), jv m6, s2, iv v37, iv v24] [(.int (lcmpW m0 (0 : Int64)))])) _
          refine XS.ifNo X30.here hx rfl (D d8_163) rfl ((if0 _ _).trans (teq ((lw_eq m0 (0 : Int64)).mpr c41)).2) ?_
          refine XS.iconst X30.here hx rfl (D d8_166) ?_
          refine XS.goto X30.here hx rfl (pc0 := 167) (pc' := 171) rfl (D d8_167) (by decide) (by decide) ?_
          exact k
        · try simp only [if_neg c41]
          intro t k
          refine pre42 t ?_
          show Steps p.tables e below (T30.setTop (mkF m 163 #[rv ra, rv rw, .val .null, iv (1 : Int32), jv m6, s2, iv v37, iv v24] [(.int (lcmpW m0 (0 : Int64)))])) _
          refine XS.ifYes X30.here hx rfl (pc0 := 163) (pc' := 170) rfl (D d8_163) rfl ((if0 _ _).trans (feq (mt (lw_eq m0 (0 : Int64)).mp c41)).2) (by decide) (by decide) ?_
          refine XS.iconst X30.here hx rfl (D d8_170) ?_
          exact k
      intro t k
      refine pre43 t ?_
      exact k
  obtain ⟨v45, hv45⟩ : ∃ z : Int32, z = (if (m6 &&& (1 : Int64)) = (0 : Int64) then (0 : Int32) else (if m0 = (0 : Int64) then (1 : Int32) else (0 : Int32))) := ⟨_, rfl⟩
  have pre46 : ∀ t, Steps p.tables e below (T30.setTop (mkF m 171 #[rv ra, rv rw, .val .null, iv (1 : Int32), jv m6, s2, iv v37, iv v24] [(.int v45)])) t → Steps p.tables e below B0 t := by
    rw [hv45]
    intro t k
    refine pre44 t ?_
    exact k
  have c47 : ¬ (m6 < (0 : Int64)) := HF1.1
  have c48 : ¬ ((7 : Int64) < m6) := HF1.2.1
  have c49 : v37 = (0 : Int32) := (by rw [hv37]; exact HF1.2.2.1)
  have c50 : v45 = (0 : Int32) := (by rw [hv45]; exact HF1.2.2.2)
  obtain ⟨T51, X51, e51, st51⟩ := getF X30 hx hZ hown (host := "") (Or.inl (H 37 rfl)) Via.refl e30 PF0 (g := (mkF m 104 #[rv ra, rv rw, .val .null, iv (2 : Int32), jv m6, s2, iv v37, iv v45] [(.ref ra), (.int (2 : Int32))])) rfl rfl (D d8_104)
  have pre52 : ∀ t, Steps p.tables e below (T51.setTop (mkF m 223 #[rv ra, rv rw, .val .null, iv (2 : Int32), jv m6, s2, iv v37, iv v45] [(.int (lcmpW m2 (0 : Int64)))])) t → Steps p.tables e below B0 t := by
    intro t k
    refine pre46 t ?_
    show Steps p.tables e below (T30.setTop (mkF m 171 #[rv ra, rv rw, .val .null, iv (1 : Int32), jv m6, s2, iv v37, iv v24] [(.int v45)])) _
    refine XS.istore X30.here hx rfl (D d8_171) rfl (l' := #[rv ra, rv rw, .val .null, iv (1 : Int32), jv m6, s2, iv v37, iv v45]) rfl ?_
    refine XS.lload X30.here hx rfl (D d8_173) rfl ?_
    refine XS.lconst X30.here hx rfl (D d8_175) ?_
    refine XS.lcmp X30.here hx rfl (D d8_176) rfl ?_
    show Steps p.tables e below (T30.setTop (mkF m 177 #[rv ra, rv rw, .val .null, iv (1 : Int32), jv m6, s2, iv v37, iv v45] [(.int (lcmpW m6 (0 : Int64)))])) _
    refine XS.ifNo X30.here hx rfl (D d8_177) rfl ((if0 _ _).trans (flt (mt (lw_lt m6 (0 : Int64)).mp c47)).1) ?_
    refine XS.lload X30.here hx rfl (D d8_180) rfl ?_
    refine X30.ldc2Long hx hown (mvT hZ (H 64 rfl)) (g := (mkF m 182 #[rv ra, rv rw, .val .null, iv (1 : Int32), jv m6, s2, iv v37, iv v45] [(.long m6)])) rfl (D d8_182) _ ?_
    refine XS.lcmp X30.here hx rfl (D d8_185) rfl ?_
    show Steps p.tables e below (T30.setTop (mkF m 186 #[rv ra, rv rw, .val .null, iv (1 : Int32), jv m6, s2, iv v37, iv v45] [(.int (lcmpW m6 (7 : Int64)))])) _
    refine XS.ifNo X30.here hx rfl (D d8_186) rfl ((if0 _ _).trans (flt (mt (lw_gt m6 (7 : Int64)).mp c48)).2.2.1) ?_
    refine XS.iload X30.here hx rfl (D d8_189) rfl ?_
    show Steps p.tables e below (T30.setTop (mkF m 191 #[rv ra, rv rw, .val .null, iv (1 : Int32), jv m6, s2, iv v37, iv v45] [(.int v37)])) _
    refine XS.ifNo X30.here hx rfl (D d8_191) rfl ((if0 _ _).trans (teq c49).2) ?_
    refine XS.iload X30.here hx rfl (D d8_194) rfl ?_
    show Steps p.tables e below (T30.setTop (mkF m 196 #[rv ra, rv rw, .val .null, iv (1 : Int32), jv m6, s2, iv v37, iv v45] [(.int v45)])) _
    refine XS.ifYes X30.here hx rfl (pc0 := 196) (pc' := 208) rfl (D d8_196) rfl ((if0 _ _).trans (teq c50).1) (by decide) (by decide) ?_
    refine XS.iinc X30.here hx rfl (D d8_208) rfl (l' := #[rv ra, rv rw, .val .null, iv (2 : Int32), jv m6, s2, iv v37, iv v45]) rfl ?_
    refine XS.goto X30.here hx rfl (pc0 := 211) (pc' := 98) rfl (D d8_211) (by decide) (by decide) ?_
    refine XS.aloadN X30.here hx rfl (D d8_98) rfl rfl ?_
    show Steps p.tables e below (T30.setTop (mkF m 99 #[rv ra, rv rw, .val .null, iv (2 : Int32), jv m6, s2, iv v37, iv v45] [.null])) _
    refine XS.ifnonnullNo X30.here hx rfl (D d8_99) rfl ?_
    refine XS.iloadN X30.here hx rfl (D d8_102) rfl ?_
    refine XS.aloadN X30.here hx rfl (D d8_103) rfl rfl ?_
    refine st51 _ ?_
    refine own_alenI X51 hx hZ e51 PA1 (D d8_107) _ ?_
    show Steps p.tables e below (T51.setTop (mkF m 108 #[rv ra, rv rw, .val .null, iv (2 : Int32), jv m6, s2, iv v37, iv v45] [(.int (2 : Int32)), (.int (2 : Int32))])) _
    refine XS.icmpYes X51.here hx rfl (pc0 := 108) (pc' := 214) rfl (D d8_108) rfl (by decide) (by decide) (by decide) ?_
    refine XS.aloadN X51.here hx rfl (D d8_214) rfl rfl ?_
    show Steps p.tables e below (T51.setTop (mkF m 215 #[rv ra, rv rw, .val .null, iv (2 : Int32), jv m6, s2, iv v37, iv v45] [.null])) _
    refine XS.ifnonnullNo X51.here hx rfl (D d8_215) rfl ?_
    refine XS.aloadN X51.here hx rfl (D d8_218) rfl rfl ?_
    refine XS.iconst X51.here hx rfl (D d8_219) ?_
    refine own_laload X51 hx hZ e51 PA0 (show 0 ≤ Int32.toInt (2 : Int32) ∧ Int32.toInt (2 : Int32) < ((9 : Nat) : Int) by decide) (D d8_220) _ ?_
    refine XS.lconst X51.here hx rfl (D d8_221) ?_
    refine XS.lcmp X51.here hx rfl (D d8_222) rfl ?_
    exact k
  clear X30 e30 pre40 pre44 pre46 st51
  by_cases c53 : m2 < (0 : Int64)
  · obtain ⟨fs, hr, hrun, hended, hW, hsame⟩ := X51.leave (v := none) (fun _ => rfl) hlk
    refine ⟨_, _, pre52 _ ?_, hrun, hended, _, _, rfl, ?_, ⟨_, rfl⟩, hW, hsame.mono (by decide) (by decide)⟩
    · show Steps p.tables e below (T51.setTop (mkF m 223 #[rv ra, rv rw, .val .null, iv (2 : Int32), jv m6, s2, iv v37, iv v45] [(.int (lcmpW m2 (0 : Int64)))])) _
      refine XS.ifYes X51.here hx rfl (pc0 := 223) (pc' := 254) rfl (D d8_223) rfl ((if0 _ _).trans (tlt ((lw_lt m2 (0 : Int64)).mpr c53)).1) (by decide) (by decide) ?_
      refine XS.aloadN X51.here hx rfl (D d8_254) rfl rfl ?_
      show Steps p.tables e below (T51.setTop (mkF m 255 #[rv ra, rv rw, .val .null, iv (2 : Int32), jv m6, s2, iv v37, iv v45] [.null])) _
      refine XS.ifnullYes X51.here hx rfl (pc0 := 255) (pc' := 272) rfl (D d8_255) rfl (by decide) (by decide) ?_
      show Steps p.tables e below (T51.setTop (mkF m 272 #[rv ra, rv rw, .val .null, iv (2 : Int32), jv m6, s2, iv v37, iv v45] [])) _
      exact X51.returnOut hx Bd.returns (D d8_272) hr
    · show Q8_2 Z ra rw rg m0 m1 m2 m3 m4 m5 m6 m7 m8 bg0 bg1 h0 n0 _ T51.heap _
      rw [e51]
      exact ⟨rfl, N0, rfl⟩
  · have in_235_54 : 0 ≤ (((3 : Int32) + ((3 : Int32) * (m2).toInt32))).toInt ∧ (((3 : Int32) + ((3 : Int32) * (m2).toInt32))).toInt < (9 : Nat) := (own_ix2 ‹_› H2.2)
    obtain ⟨v55, hv55⟩ : ∃ z : Int64, z = (([m0, m1, m2, m3, m4, m5, m6, m7, m8] : List Int64).getD (((3 : Int32) + ((3 : Int32) * (m2).toInt32))).toInt.toNat 0) := ⟨_, rfl⟩
    have pre56 : ∀ t, Steps p.tables e below (T51.setTop (mkF m 236 #[rv ra, rv rw, .val .null, iv (2 : Int32), jv m6, s2, iv v37, iv v45] [(.long v55)])) t → Steps p.tables e below B0 t := by
      rw [hv55]
      intro t k
      refine pre52 t ?_
      show Steps p.tables e below (T51.setTop (mkF m 223 #[rv ra, rv rw, .val .null, iv (2 : Int32), jv m6, s2, iv v37, iv v45] [(.int (lcmpW m2 (0 : Int64)))])) _
      refine XS.ifNo X51.here hx rfl (D d8_223) rfl ((if0 _ _).trans (flt (mt (lw_lt m2 (0 : Int64)).mp c53)).1) ?_
      refine XS.aloadN X51.here hx rfl (D d8_226) rfl rfl ?_
      refine XS.iconst X51.here hx rfl (D d8_227) ?_
      refine XS.iconst X51.here hx rfl (D d8_228) ?_
      refine XS.aloadN X51.here hx rfl (D d8_229) rfl rfl ?_
      refine XS.iconst X51.here hx rfl (D d8_230) ?_
      refine own_laload X51 hx hZ e51 PA0 (show 0 ≤ Int32.toInt (2 : Int32) ∧ Int32.toInt (2 : Int32) < ((9 : Nat) : Int) by decide) (D d8_231) _ ?_
      refine XS.l2i X51.here hx rfl (D d8_232) rfl ?_
      show Steps p.tables e below (T51.setTop (mkF m 233 #[rv ra, rv rw, .val .null, iv (2 : Int32), jv m6, s2, iv v37, iv v45] [(.int (m2).toInt32), (.int (3 : Int32)), (.int (3 : Int32)), (.ref rw)])) _
      refine XS.imul X51.here hx rfl (D d8_233) rfl ?_
      refine XS.iadd X51.here hx rfl (D d8_234) rfl ?_
      refine own_laload X51 hx hZ e51 PA0 in_235_54 (D d8_235) _ ?_
      exact k
    have c57 : ¬ ((v55 &&& (4 : Int64)) = (0 : Int64)) := (by rw [hv55]; exact HL ‹_›)
    obtain ⟨fs, hr, hrun, hended, hW, hsame⟩ := X51.leave (v := none) (fun _ => rfl) hlk
    refine ⟨_, _, pre56 _ ?_, hrun, hended, _, _, rfl, ?_, ⟨_, rfl⟩, hW, hsame.mono (by decide) (by decide)⟩
    · show Steps p.tables e below (T51.setTop (mkF m 236 #[rv ra, rv rw, .val .null, iv (2 : Int32), jv m6, s2, iv v37, iv v45] [(.long v55)])) _
      refine XS.lstoreN X51.here hx rfl (D d8_236) rfl (l' := #[rv ra, rv rw, .val .null, jv v55, s2, u0, iv v37, iv v45]) rfl ?_
      refine XS.lloadN X51.here hx rfl (D d8_237) rfl ?_
      refine X51.ldc2Long hx hown (mvT hZ (H 63 rfl)) (g := (mkF m 238 #[rv ra, rv rw, .val .null, jv v55, s2, u0, iv v37, iv v45] [(.long v55)])) rfl (D d8_238) _ ?_
      refine XS.land X51.here hx rfl (D d8_241) rfl ?_
      refine XS.lconst X51.here hx rfl (D d8_242) ?_
      refine XS.lcmp X51.here hx rfl (D d8_243) rfl ?_
      show Steps p.tables e below (T51.setTop (mkF m 244 #[rv ra, rv rw, .val .null, jv v55, s2, u0, iv v37, iv v45] [(.int (lcmpW (v55 &&& (4 : Int64)) (0 : Int64)))])) _
      refine XS.ifYes X51.here hx rfl (pc0 := 244) (pc' := 252) rfl (D d8_244) rfl ((if0 _ _).trans (feq (mt (lw_eq (v55 &&& (4 : Int64)) (0 : Int64)).mp c57)).2) (by decide) (by decide) ?_
      refine XS.aconstNull X51.here hx rfl (D d8_252) ?_
      refine XS.astoreN X51.here hx rfl (D d8_253) rfl rfl (l' := #[rv ra, rv rw, .val .null, jv v55, s2, u0, iv v37, iv v45]) rfl ?_
      refine XS.aloadN X51.here hx rfl (D d8_254) rfl rfl ?_
      show Steps p.tables e below (T51.setTop (mkF m 255 #[rv ra, rv rw, .val .null, jv v55, s2, u0, iv v37, iv v45] [.null])) _
      refine XS.ifnullYes X51.here hx rfl (pc0 := 255) (pc' := 272) rfl (D d8_255) rfl (by decide) (by decide) ?_
      show Steps p.tables e below (T51.setTop (mkF m 272 #[rv ra, rv rw, .val .null, jv v55, s2, u0, iv v37, iv v45] [])) _
      exact X51.returnOut hx Bd.returns (D d8_272) hr
    · show Q8_2 Z ra rw rg m0 m1 m2 m3 m4 m5 m6 m7 m8 bg0 bg1 h0 n0 _ T51.heap _
      rw [e51]
      exact ⟨rfl, N0, rfl⟩
theorem ef_7_2 (m : MethodId) (ra : Addr) (rw : Addr) : entryFrame m #[(.ref ra), (.ref rw)] 4 = mkF m 0 #[rv ra, rv rw, u0, u0] [] := by first | (simp [entryFrame, mkF, argsToLocals, Value.category, maxLocals]; done) | rfl
def Q7_2 (Z : State) (ra : Addr) (rw : Addr) (rl : Addr) (rs : Addr) (rr : Addr) (rg : Addr) (rt : Addr) (sd : Int32) (lt : Int64) (ll : Int32) (op : Int32) (m0 : Int64) (m1 : Int64) (m2 : Int64) (m3 : Int64) (m4 : Int64) (m5 : Int64) (m6 : Int64) (m7 : Int64) (m8 : Int64) (jl0 : Int64) (jl1 : Int64) (jr0 : Int64) (jr1 : Int64) (bs0 : Int32) (bs1 : Int32) (bg0 : Int32) (bg1 : Int32) (bt0 : Int32) (bt1 : Int32) (h0 : Heap) (n0 : Nat) (v : Option Value) (h : Heap) (L : List Loc) : Prop := v = none ∧ Fr n0 L ∧ Keep h0 h [ra, rs, rg, rt, rl, rr] ∧ Exa Z h ra "com/example/tributary/tributary/io/Silence" ∧ Fld Z h ra own_S "last" "[J" (.ref rl) ∧ Fld Z h ra own_S "sent" "[Z" (.ref rs) ∧ Fld Z h ra own_S "runs" "[J" (.ref rr) ∧ Fld Z h ra own_S "gone" "[Z" (.ref rg) ∧ Fld Z h ra own_S "stopped" "[Z" (.ref rt) ∧ Fld Z h ra own_S "started" "Z" (.int (if m0 = (1 : Int64) then (1 : Int32) else (0 : Int32))) ∧ Fld Z h ra own_S "latest" "J" (.long m1) ∧ Fld Z h ra own_S "lastLeft" "I" (.int (m2).toInt32) ∧ own_AJ Z h rw [m0, m1, m2, m3, m4, m5, m6, m7, m8] ∧ own_AJ Z h rl [m4, m7] ∧ own_AI Z h rs .boolean [((if (m3 &&& (1 : Int64)) = (0 : Int64) then (0 : Int32) else (1 : Int32)) &&& 1), ((if (m6 &&& (1 : Int64)) = (0 : Int64) then (0 : Int32) else (1 : Int32)) &&& 1)] ∧ own_AJ Z h rr [m5, m8] ∧ own_AI Z h rg .boolean [((if (m3 &&& (2 : Int64)) = (0 : Int64) then (0 : Int32) else (1 : Int32)) &&& 1), ((if (m6 &&& (2 : Int64)) = (0 : Int64) then (0 : Int32) else (1 : Int32)) &&& 1)] ∧ own_AI Z h rt .boolean [((if (m3 &&& (4 : Int64)) = (0 : Int64) then (0 : Int32) else (1 : Int32)) &&& 1), ((if (m6 &&& (4 : Int64)) = (0 : Int64) then (0 : Int32) else (1 : Int32)) &&& 1)]
set_option maxRecDepth 65536 in
set_option maxHeartbeats 40000000 in
theorem rm7_2 (l : Launch) (Z : State) (a0 : Array Value) (hw : ∀ d ∈ tables_1, d.before a0 Z = true) (ws : List Jvm.Cond) (ra : Addr) (rw : Addr) (rl : Addr) (rs : Addr) (rr : Addr) (rg : Addr) (rt : Addr) (sd : Int32) (lt : Int64) (ll : Int32) (op : Int32) (m0 : Int64) (m1 : Int64) (m2 : Int64) (m3 : Int64) (m4 : Int64) (m5 : Int64) (m6 : Int64) (m7 : Int64) (m8 : Int64) (jl0 : Int64) (jl1 : Int64) (jr0 : Int64) (jr1 : Int64) (bs0 : Int32) (bs1 : Int32) (bg0 : Int32) (bg1 : Int32) (bt0 : Int32) (bt1 : Int32) (h0 : Heap) (n0 : Nat) (Z0 : n0 ≤ h0.size) (PA0 : own_AJ Z h0 rw [m0, m1, m2, m3, m4, m5, m6, m7, m8]) (PA1 : own_AJ Z h0 rl [jl0, jl1]) (PA2 : own_AI Z h0 rs .boolean [bs0, bs1]) (PA3 : own_AJ Z h0 rr [jr0, jr1]) (PA4 : own_AI Z h0 rg .boolean [bg0, bg1]) (PA5 : own_AI Z h0 rt .boolean [bt0, bt1]) (PE0 : Exa Z h0 ra "com/example/tributary/tributary/io/Silence") (PF0 : Fld Z h0 ra own_S "last" "[J" (.ref rl)) (PF1 : Fld Z h0 ra own_S "sent" "[Z" (.ref rs)) (PF2 : Fld Z h0 ra own_S "runs" "[J" (.ref rr)) (PF3 : Fld Z h0 ra own_S "gone" "[Z" (.ref rg)) (PF4 : Fld Z h0 ra own_S "stopped" "[Z" (.ref rt)) (PF5 : Fld Z h0 ra own_S "started" "Z" (.int sd)) (PF6 : Fld Z h0 ra own_S "latest" "J" (.long lt)) (PF7 : Fld Z h0 ra own_S "lastLeft" "I" (.int ll)) (PF8 : Fld Z h0 ra own_S "open" "I" (.int op)) (PG0 : n0 ≤ ra) (PG1 : n0 ≤ rs) (PG2 : n0 ≤ rg) (PG3 : n0 ≤ rt) (PG4 : n0 ≤ rl) (PG5 : n0 ≤ rr) (PN0 : rw ≠ rl) (PN1 : rw ≠ rs) (PN2 : rw ≠ rr) (PN3 : rw ≠ rg) (PN4 : rw ≠ rt) (PN5 : rw ≠ ra) (PN6 : rl ≠ rs) (PN7 : rl ≠ rr) (PN8 : rl ≠ rg) (PN9 : rl ≠ rt) (PN10 : rl ≠ ra) (PN11 : rs ≠ rr) (PN12 : rs ≠ rg) (PN13 : rs ≠ rt) (PN14 : rs ≠ ra) (PN15 : rr ≠ rg) (PN16 : rr ≠ rt) (PN17 : rr ≠ ra) (PN18 : rg ≠ rt) (PN19 : rg ≠ ra) (PN20 : rt ≠ ra) (H0 : m0 = (0 : Int64) ∨ m0 = (1 : Int64)) (H2 : ¬ m2 < (-1 : Int64) ∧ m2 < (2 : Int64)) (HF0 : ¬ m3 < (0 : Int64) ∧ ¬ (7 : Int64) < m3 ∧ (if (m3 &&& (4 : Int64)) = (0 : Int64) then (0 : Int32) else (if (m3 &&& (2 : Int64)) = (0 : Int64) then (1 : Int32) else (0 : Int32))) = (0 : Int32) ∧ (if (m3 &&& (1 : Int64)) = (0 : Int64) then (0 : Int32) else (if m0 = (0 : Int64) then (1 : Int32) else (0 : Int32))) = (0 : Int32)) (HF1 : ¬ m6 < (0 : Int64) ∧ ¬ (7 : Int64) < m6 ∧ (if (m6 &&& (4 : Int64)) = (0 : Int64) then (0 : Int32) else (if (m6 &&& (2 : Int64)) = (0 : Int64) then (1 : Int32) else (0 : Int32))) = (0 : Int32) ∧ (if (m6 &&& (1 : Int64)) = (0 : Int64) then (0 : Int32) else (if m0 = (0 : Int64) then (1 : Int32) else (0 : Int32))) = (0 : Int32)) (HL : ¬ m2 < (0 : Int64) → ¬ ((([m0, m1, m2, m3, m4, m5, m6, m7, m8] : List Int64).getD (((3 : Int32) + ((3 : Int32) * (m2).toInt32))).toInt.toNat 0) &&& (4 : Int64)) = (0 : Int64)) :
    MetFree l (⟨"com/example/tributary/tributary/io/Silence", "resume", "([J)V"⟩ : MethodName) (head1 (Jvm.Cond.code (⟨"com/example/tributary/tributary/io/Silence", "resume", "([J)V"⟩ : MethodName) prog_43_method_9_code 4 none :: ws) ({ frames := 1, cells := 0, slots := 0, locals := 19 } : Room)) (fun a U => a = #[(.ref ra), (.ref rw)] ∧ Z.Warmed39 U.vm ∧ U.heap = h0) (fun _ _ _ _ _ => True) (fun _ U o U' => ∃ v L, o = .returned v ∧ Q7_2 Z ra rw rl rs rr rg rt sd lt ll op m0 m1 m2 m3 m4 m5 m6 m7 m8 jl0 jl1 jr0 jr1 bs0 bs1 bg0 bg1 bt0 bt1 h0 n0 v U'.heap L ∧ FrameEnd U o U' L ({ frames := 1, cells := 0, slots := 0, locals := 19 } : Room).cells ({ frames := 1, cells := 0, slots := 0, locals := 19 } : Room).slots) := by
  refine MetFree.of_bodySF (plainFor_of_name pn_4) hisR ?_
  intro p e s m args below meth c s₁ Bd hml0 hP hK
  obtain ⟨rfl, hZ, hh⟩ := hP
  have hx := Bd.exec
  have hby := Bd.bytes
  have hml : c.maxLocals = 4 := hml0
  have hown : s.vm.findClass "com/example/tributary/tributary/io/Silence" = some m.cls := findClass_of_methodNamed Bd.named
  have hnm := (name_of_methodNamed Bd.named Bd.method).1
  have X0 : Stand p l e ({ frames := 1, cells := 0, slots := 0, locals := 19 } : Room) s m #[(.ref ra), (.ref rw)] below meth c s₁ [] 0 0 := Stand.of_body Bd
  have hlk : meth.locks = false := by first | exact BodyLoose.notSynchronized (by assumption) | exact Body.notSynchronized (by assumption)
  have e0 : s₁.heap = h0 := by rw [← hh, Bd.state]; rfl
  have N0 := Fr.nil n0
  have pre0 : ∀ t, Steps p.tables e below (s₁.setTop (mkF m 0 #[rv ra, rv rw, u0, u0] [])) t → Steps p.tables e below (s₁.setTop (entryFrame m #[(.ref ra), (.ref rw)] 4)) t := fun t k => castTop (ef_7_2 m ra rw) k
  generalize s₁.setTop (entryFrame m #[(.ref ra), (.ref rw)] 4) = B0 at pre0 ⊢
  have H : ∀ (i : Nat) {d : Jvm.Cond}, tables_1[i]? = some d → d.before a0 Z = true := fun i d q => hw d (List.mem_of_getElem? q)
  have D : ∀ {pc : Nat} {r : Except DecodeError (Instr × Nat)}, decode prog_43_method_9_code pc = r → decode c.code pc = r := fun q => hb hby q
  obtain ⟨cq1, q1, q1'⟩ := PE0.cell
  obtain ⟨_, _, ⟨T1, L1, k1, n1⟩, -, X1, ⟨Lc1, hQ1, l1, y1, z1⟩, st1⟩ := own_privateBack X0 hx (y := (⟨"com/example/tributary/tributary/io/Silence", "requireMeasured", "([J)V"⟩ : MethodName)) (y' := (⟨"com/example/tributary/tributary/io/Silence", "measured", "()[J"⟩ : MethodName)) rfl hown (mvT hZ (H 58 rfl)) (mvT hZ (H 59 rfl)) (mvT hZ (H 46 rfl)) (Cond.privateMethod_at (mvP hZ (H 60 rfl) (args := #[]))) (mvT hZ (H 61 rfl)) (by decide) (backOf (W := 0) (rm8_2 l Z a0 hw [] ra rw rg m0 m1 m2 m3 m4 m5 m6 m7 m8 bg0 bg1 h0 n0 Z0 PA0 PA4 PE0 PF3 H0 H2 HF0 HF1 HL) hZ (H 61 rfl) (H 14 rfl) (by decide) (by decide)) (g := (mkF m 2 #[rv ra, rv rw, u0, u0] [(.ref rw), (.ref ra)])) rfl (by rw [hml]; rfl) (Steps.refl _) (a := ra) (by rw [e0]; exact q1) q1' (argsL := [(.ref rw)]) (rest := []) (lenOf pd_100 rfl) rfl (by show 2 * 0 + _ ≤ _; exact Nat.le_of_eq rfl) (D d7_2) (fun _ _ => ⟨rfl, e0, (by decide : 0 + 0 ≤ _), (by decide : 0 + 0 ≤ _)⟩)
  dsimp only [Pt.U, Pt.locs, Pt.cells, Pt.slots] at X1 l1 y1 z1 st1 hQ1
  replace y1 : k1 = 0 := y1
  replace z1 : n1 = 0 := z1
  replace l1 := l1.symm; replace y1 := y1.symm; replace z1 := z1.symm; subst l1 y1 z1
  obtain ⟨rfl, N1q, e1⟩ := hQ1
  have N1 := Fr.app N0 N1q
  have pre3 : ∀ t, Steps p.tables e below (T1.setTop (mkF m 11 #[rv ra, rv rw, u0, u0] [(.int (lcmpW m0 (1 : Int64))), (.ref ra)])) t → Steps p.tables e below B0 t := by
    intro t k
    refine pre0 t ?_
    show Steps p.tables e below (s₁.setTop (mkF m 0 #[rv ra, rv rw, u0, u0] [])) _
    refine XS.aloadN X0.here hx rfl (D d7_0) rfl rfl ?_
    refine XS.aloadN X0.here hx rfl (D d7_1) rfl rfl ?_
    refine st1.trans ?_
    refine XS.aloadN X1.here hx rfl (D d7_5) rfl rfl ?_
    refine XS.aloadN X1.here hx rfl (D d7_6) rfl rfl ?_
    refine XS.iconst X1.here hx rfl (D d7_7) ?_
    refine own_laload X1 hx hZ e1 PA0 (show 0 ≤ Int32.toInt (0 : Int32) ∧ Int32.toInt (0 : Int32) < ((9 : Nat) : Int) by decide) (D d7_8) _ ?_
    refine XS.lconst X1.here hx rfl (D d7_9) ?_
    refine XS.lcmp X1.here hx rfl (D d7_10) rfl ?_
    exact k
  clear st1 N1q
  have pre4 : ∀ t, Steps p.tables e below (T1.setTop (mkF m 19 #[rv ra, rv rw, u0, u0] [(.int (if m0 = (1 : Int64) then (1 : Int32) else (0 : Int32))), (.ref ra)])) t → Steps p.tables e below B0 t := by
    by_cases c2 : m0 = (1 : Int64)
    · try simp only [if_pos c2]
      intro t k
      refine pre3 t ?_
      show Steps p.tables e below (T1.setTop (mkF m 11 #[rv ra, rv rw, u0, u0] [(.int (lcmpW m0 (1 : Int64))), (.ref ra)])) _
      refine XS.ifNo X1.here hx rfl (D d7_11) rfl ((if0 _ _).trans (teq ((lw_eq m0 (1 : Int64)).mpr c2)).2) ?_
      refine XS.iconst X1.here hx rfl (D d7_14) ?_
      refine XS.goto X1.here hx rfl (pc0 := 15) (pc' := 19) rfl (D d7_15) (by decide) (by decide) ?_
      exact k
    · try simp only [if_neg c2]
      intro t k
      refine pre3 t ?_
      show Steps p.tables e below (T1.setTop (mkF m 11 #[rv ra, rv rw, u0, u0] [(.int (lcmpW m0 (1 : Int64))), (.ref ra)])) _
      refine XS.ifYes X1.here hx rfl (pc0 := 11) (pc' := 18) rfl (D d7_11) rfl ((if0 _ _).trans (feq (mt (lw_eq m0 (1 : Int64)).mp c2)).2) (by decide) (by decide) ?_
      refine XS.iconst X1.here hx rfl (D d7_18) ?_
      exact k
  obtain ⟨T5, h5, X5, e5, W5, st5⟩ := putF X1 hx hZ hown (host := "") (Or.inl (H 48 rfl)) Via.refl e1 PF5 PE0 (Or.inl (H 49 rfl)) (H 13 rfl) (ty := .boolean) (by decide) (own_nb _ _ _ (by decide) (by decide)) (own_fb _ _ _ (by decide) (by decide)) (g := (mkF m 19 #[rv ra, rv rw, u0, u0] [(.int (if m0 = (1 : Int64) then (1 : Int32) else (0 : Int32))), (.ref ra)])) rfl rfl (D d7_19)
  have V5_rw := PA0.other W5 PN5
  have V5_rl := PA1.other W5 PN10
  have V5_rs := PA2.other W5 PN14
  have V5_rr := PA3.other W5 PN17
  have V5_rg := PA4.other W5 PN19
  have V5_rt := PA5.other W5 PN20
  have A5_ra := PE0.wr W5
  have F5_ra_0 := PF0.other W5 (Or.inr (own_sn_101 hw))
  have F5_ra_1 := PF1.other W5 (Or.inr (own_sn_102 hw))
  have F5_ra_2 := PF2.other W5 (Or.inr (own_sn_103 hw))
  have F5_ra_3 := PF3.other W5 (Or.inr (own_sn_104 hw))
  have F5_ra_4 := PF4.other W5 (Or.inr (own_sn_105 hw))
  have F5_ra_6 := PF6.other W5 (Or.inr (own_sn_106 hw))
  have F5_ra_7 := PF7.other W5 (Or.inr (own_sn_107 hw))
  have F5_ra_8 := PF8.other W5 (Or.inr (own_sn_108 hw))
  have sz5 := Nat.le_trans Z0 (Keep.of_wr W5).1
  have K5 := (Keep.refl h0 ([ra, rs, rg, rt, rl, rr] : List Addr)).wr W5 (Or.inl (by simp))
  have N5 := Fr.snoc X5 N1 PG0
  have F5_s : Fld Z h5 ra own_S "started" "Z" (.int (if m0 = (1 : Int64) then (1 : Int32) else (0 : Int32))) := PF5.same W5
  obtain ⟨T6, h6, X6, e6, W6, st6⟩ := putF X5 hx hZ hown (host := "") (Or.inl (H 50 rfl)) Via.refl e5 F5_ra_6 A5_ra (Or.inl (H 51 rfl)) (H 13 rfl) (ty := .long) (by decide) rfl rfl (g := (mkF m 26 #[rv ra, rv rw, u0, u0] [(.long m1), (.ref ra)])) rfl rfl (D d7_26)
  have V6_rw := V5_rw.other W6 PN5
  have V6_rl := V5_rl.other W6 PN10
  have V6_rs := V5_rs.other W6 PN14
  have V6_rr := V5_rr.other W6 PN17
  have V6_rg := V5_rg.other W6 PN19
  have V6_rt := V5_rt.other W6 PN20
  have A6_ra := A5_ra.wr W6
  have F6_ra_0 := F5_ra_0.other W6 (Or.inr (own_sn_109 hw))
  have F6_ra_1 := F5_ra_1.other W6 (Or.inr (own_sn_110 hw))
  have F6_ra_2 := F5_ra_2.other W6 (Or.inr (own_sn_111 hw))
  have F6_ra_3 := F5_ra_3.other W6 (Or.inr (own_sn_112 hw))
  have F6_ra_4 := F5_ra_4.other W6 (Or.inr (own_sn_113 hw))
  have F6_ra_5 := F5_s.other W6 (Or.inr (own_sn_114 hw))
  have F6_ra_7 := F5_ra_7.other W6 (Or.inr (own_sn_115 hw))
  have F6_ra_8 := F5_ra_8.other W6 (Or.inr (own_sn_116 hw))
  have sz6 := Nat.le_trans sz5 (Keep.of_wr W6).1
  have K6 := K5.wr W6 (Or.inl (by simp))
  have N6 := Fr.snoc X6 N5 PG0
  have F6_s : Fld Z h6 ra own_S "latest" "J" (.long m1) := F5_ra_6.same W6
  obtain ⟨T7, h7, X7, e7, W7, st7⟩ := putF X6 hx hZ hown (host := "") (Or.inl (H 24 rfl)) Via.refl e6 F6_ra_7 A6_ra (Or.inl (H 25 rfl)) (H 13 rfl) (ty := .int) (by decide) rfl rfl (g := (mkF m 34 #[rv ra, rv rw, u0, u0] [(.int (m2).toInt32), (.ref ra)])) rfl rfl (D d7_34)
  have V7_rw := V6_rw.other W7 PN5
  have V7_rl := V6_rl.other W7 PN10
  have V7_rs := V6_rs.other W7 PN14
  have V7_rr := V6_rr.other W7 PN17
  have V7_rg := V6_rg.other W7 PN19
  have V7_rt := V6_rt.other W7 PN20
  have A7_ra := A6_ra.wr W7
  have F7_ra_0 := F6_ra_0.other W7 (Or.inr (own_sn_7 hw))
  have F7_ra_1 := F6_ra_1.other W7 (Or.inr (own_sn_8 hw))
  have F7_ra_2 := F6_ra_2.other W7 (Or.inr (own_sn_9 hw))
  have F7_ra_3 := F6_ra_3.other W7 (Or.inr (own_sn_10 hw))
  have F7_ra_4 := F6_ra_4.other W7 (Or.inr (own_sn_11 hw))
  have F7_ra_5 := F6_ra_5.other W7 (Or.inr (own_sn_13 hw))
  have F7_ra_6 := F6_s.other W7 (Or.inr (own_sn_14 hw))
  have F7_ra_8 := F6_ra_8.other W7 (Or.inr (own_sn_12 hw))
  have sz7 := Nat.le_trans sz6 (Keep.of_wr W7).1
  have K7 := K6.wr W7 (Or.inl (by simp))
  have N7 := Fr.snoc X7 N6 PG0
  have F7_s : Fld Z h7 ra own_S "lastLeft" "I" (.int (m2).toInt32) := F6_ra_7.same W7
  obtain ⟨T8, h8, X8, e8, W8, st8⟩ := putF X7 hx hZ hown (host := "") (Or.inl (H 41 rfl)) Via.refl e7 F7_ra_8 A7_ra (Or.inl (H 42 rfl)) (H 13 rfl) (ty := .int) (by decide) rfl rfl (g := (mkF m 39 #[rv ra, rv rw, u0, u0] [(.int (0 : Int32)), (.ref ra)])) rfl rfl (D d7_39)
  have V8_rw := V7_rw.other W8 PN5
  have V8_rl := V7_rl.other W8 PN10
  have V8_rs := V7_rs.other W8 PN14
  have V8_rr := V7_rr.other W8 PN17
  have V8_rg := V7_rg.other W8 PN19
  have V8_rt := V7_rt.other W8 PN20
  have A8_ra := A7_ra.wr W8
  have F8_ra_0 := F7_ra_0.other W8 (Or.inr (own_sn_88 hw))
  have F8_ra_1 := F7_ra_1.other W8 (Or.inr (own_sn_89 hw))
  have F8_ra_2 := F7_ra_2.other W8 (Or.inr (own_sn_90 hw))
  have F8_ra_3 := F7_ra_3.other W8 (Or.inr (own_sn_91 hw))
  have F8_ra_4 := F7_ra_4.other W8 (Or.inr (own_sn_92 hw))
  have F8_ra_5 := F7_ra_5.other W8 (Or.inr (own_sn_93 hw))
  have F8_ra_6 := F7_ra_6.other W8 (Or.inr (own_sn_94 hw))
  have F8_ra_7 := F7_s.other W8 (Or.inr (own_sn_85 hw))
  have sz8 := Nat.le_trans sz7 (Keep.of_wr W8).1
  have K8 := K7.wr W8 (Or.inl (by simp))
  have N8 := Fr.snoc X8 N7 PG0
  have F8_s : Fld Z h8 ra own_S "open" "I" (.int (0 : Int32)) := F7_ra_8.same W8
  obtain ⟨T9, X9, e9, st9⟩ := getF X8 hx hZ hown (host := "") (Or.inl (H 37 rfl)) Via.refl e8 F8_ra_3 (g := (mkF m 46 #[rv ra, rv rw, iv (0 : Int32), u0] [(.ref ra), (.int (0 : Int32))])) rfl rfl (D d7_46)
  obtain ⟨T10, X10, e10, st10⟩ := getF X9 hx hZ hown (host := "") (Or.inl (H 33 rfl)) Via.refl e9 F8_ra_1 (g := (mkF m 60 #[rv ra, rv rw, iv (0 : Int32), iv (3 : Int32)] [(.ref ra)])) rfl rfl (D d7_60)
  have pre12 : ∀ t, Steps p.tables e below (T10.setTop (mkF m 71 #[rv ra, rv rw, iv (0 : Int32), iv (3 : Int32)] [(.int (lcmpW (m3 &&& (1 : Int64)) (0 : Int64))), (.int (0 : Int32)), (.ref rs)])) t → Steps p.tables e below B0 t := by
    intro t k
    refine pre4 t ?_
    show Steps p.tables e below (T1.setTop (mkF m 19 #[rv ra, rv rw, u0, u0] [(.int (if m0 = (1 : Int64) then (1 : Int32) else (0 : Int32))), (.ref ra)])) _
    refine st5 _ ?_
    refine XS.aloadN X5.here hx rfl (D d7_22) rfl rfl ?_
    refine XS.aloadN X5.here hx rfl (D d7_23) rfl rfl ?_
    refine XS.iconst X5.here hx rfl (D d7_24) ?_
    refine own_laload X5 hx hZ e5 V5_rw (show 0 ≤ Int32.toInt (1 : Int32) ∧ Int32.toInt (1 : Int32) < ((9 : Nat) : Int) by decide) (D d7_25) _ ?_
    refine st6 _ ?_
    refine XS.aloadN X6.here hx rfl (D d7_29) rfl rfl ?_
    refine XS.aloadN X6.here hx rfl (D d7_30) rfl rfl ?_
    refine XS.iconst X6.here hx rfl (D d7_31) ?_
    refine own_laload X6 hx hZ e6 V6_rw (show 0 ≤ Int32.toInt (2 : Int32) ∧ Int32.toInt (2 : Int32) < ((9 : Nat) : Int) by decide) (D d7_32) _ ?_
    refine XS.l2i X6.here hx rfl (D d7_33) rfl ?_
    refine st7 _ ?_
    refine XS.aloadN X7.here hx rfl (D d7_37) rfl rfl ?_
    refine XS.iconst X7.here hx rfl (D d7_38) ?_
    refine st8 _ ?_
    refine XS.iconst X8.here hx rfl (D d7_42) ?_
    refine XS.istoreN X8.here hx rfl (D d7_43) rfl (l' := #[rv ra, rv rw, iv (0 : Int32), u0]) rfl ?_
    refine XS.iloadN X8.here hx rfl (D d7_44) rfl ?_
    refine XS.aloadN X8.here hx rfl (D d7_45) rfl rfl ?_
    refine st9 _ ?_
    refine own_alenI X9 hx hZ e9 V8_rg (D d7_49) _ ?_
    show Steps p.tables e below (T9.setTop (mkF m 50 #[rv ra, rv rw, iv (0 : Int32), u0] [(.int (2 : Int32)), (.int (0 : Int32))])) _
    refine XS.icmpNo X9.here hx rfl (D d7_50) rfl (by decide) ?_
    refine XS.iconst X9.here hx rfl (D d7_53) ?_
    refine XS.iconst X9.here hx rfl (D d7_54) ?_
    refine XS.iloadN X9.here hx rfl (D d7_55) rfl ?_
    refine XS.imul X9.here hx rfl (D d7_56) rfl ?_
    refine XS.iadd X9.here hx rfl (D d7_57) rfl ?_
    refine XS.istoreN X9.here hx rfl (D d7_58) rfl (l' := #[rv ra, rv rw, iv (0 : Int32), iv (3 : Int32)]) rfl ?_
    refine XS.aloadN X9.here hx rfl (D d7_59) rfl rfl ?_
    refine st10 _ ?_
    refine XS.iloadN X10.here hx rfl (D d7_63) rfl ?_
    show Steps p.tables e below (T10.setTop (mkF m 64 #[rv ra, rv rw, iv (0 : Int32), iv (3 : Int32)] [(.int (0 : Int32)), (.ref rs)])) _
    refine XS.aloadN X10.here hx rfl (D d7_64) rfl rfl ?_
    refine XS.iloadN X10.here hx rfl (D d7_65) rfl ?_
    refine own_laload X10 hx hZ e10 V8_rw (show 0 ≤ Int32.toInt (3 : Int32) ∧ Int32.toInt (3 : Int32) < ((9 : Nat) : Int) by decide) (D d7_66) _ ?_
    refine XS.lconst X10.here hx rfl (D d7_67) ?_
    refine XS.land X10.here hx rfl (D d7_68) rfl ?_
    refine XS.lconst X10.here hx rfl (D d7_69) ?_
    refine XS.lcmp X10.here hx rfl (D d7_70) rfl ?_
    exact k
  clear X1 e1 N1 pre3 pre4 X5 e5 W5 st5 V5_rw V5_rl V5_rs V5_rr V5_rg V5_rt A5_ra F5_ra_0 F5_ra_1 F5_ra_2 F5_ra_3 F5_ra_4 F5_ra_6 F5_ra_7 F5_ra_8 sz5 K5 N5 F5_s X6 e6 W6 st6 V6_rw V6_rl V6_rs V6_rr V6_rg V6_rt A6_ra F6_ra_0 F6_ra_1 F6_ra_2 F6_ra_3 F6_ra_4 F6_ra_5 F6_ra_7 F6_ra_8 sz6 K6 N6 F6_s X7 e7 W7 st7 V7_rw V7_rl V7_rs V7_rr V7_rg V7_rt A7_ra F7_ra_0 F7_ra_1 F7_ra_2 F7_ra_3 F7_ra_4 F7_ra_5 F7_ra_6 F7_ra_8 sz7 K7 N7 F7_s X8 e8 W8 st8 X9 e9 st9 st10
  have pre13 : ∀ t, Steps p.tables e below (T10.setTop (mkF m 79 #[rv ra, rv rw, iv (0 : Int32), iv (3 : Int32)] [(.int (if (m3 &&& (1 : Int64)) = (0 : Int64) then (0 : Int32) else (1 : Int32))), (.int (0 : Int32)), (.ref rs)])) t → Steps p.tables e below B0 t := by
    by_cases c11 : (m3 &&& (1 : Int64)) = (0 : Int64)
    · try simp only [if_pos c11]
      intro t k
      refine pre12 t ?_
      show Steps p.tables e below (T10.setTop (mkF m 71 #[rv ra, rv rw, iv (0 : Int32), iv (3 : Int32)] [(.int (lcmpW (m3 &&& (1 : Int64)) (0 : Int64))), (.int (0 : Int32)), (.ref rs)])) _
      refine XS.ifYes X10.here hx rfl (pc0 := 71) (pc' := 78) rfl (D d7_71) rfl ((if0 _ _).trans (teq ((lw_eq (m3 &&& (1 : Int64)) (0 : Int64)).mpr c11)).1) (by decide) (by decide) ?_
      refine XS.iconst X10.here hx rfl (D d7_78) ?_
      exact k
    · try simp only [if_neg c11]
      intro t k
      refine pre12 t ?_
      show Steps p.tables e below (T10.setTop (mkF m 71 #[rv ra, rv rw, iv (0 : Int32), iv (3 : Int32)] [(.int (lcmpW (m3 &&& (1 : Int64)) (0 : Int64))), (.int (0 : Int32)), (.ref rs)])) _
      refine XS.ifNo X10.here hx rfl (D d7_71) rfl ((if0 _ _).trans (feq (mt (lw_eq (m3 &&& (1 : Int64)) (0 : Int64)).mp c11)).1) ?_
      refine XS.iconst X10.here hx rfl (D d7_74) ?_
      refine XS.goto X10.here hx rfl (pc0 := 75) (pc' := 79) rfl (D d7_75) (by decide) (by decide) ?_
      exact k
  obtain ⟨T14, h14, X14, e14, W14, V14, st14⟩ := own_bastoreZ X10 hx hZ e10 V8_rs (j := (0 : Int32)) (show 0 ≤ Int32.toInt (0 : Int32) ∧ Int32.toInt (0 : Int32) < ((2 : Nat) : Int) by decide) (x := (if (m3 &&& (1 : Int64)) = (0 : Int64) then (0 : Int32) else (1 : Int32))) (D d7_79)
  have V14_rw := V8_rw.other W14 PN1
  have V14_rl := V8_rl.other W14 PN6
  have V14_rr := V8_rr.other W14 (Ne.symm PN11)
  have V14_rg := V8_rg.other W14 (Ne.symm PN12)
  have V14_rt := V8_rt.other W14 (Ne.symm PN13)
  have A14_ra := A8_ra.wr W14
  have F14_ra_0 := F8_ra_0.other W14 (Or.inl (Ne.symm PN14))
  have F14_ra_1 := F8_ra_1.other W14 (Or.inl (Ne.symm PN14))
  have F14_ra_2 := F8_ra_2.other W14 (Or.inl (Ne.symm PN14))
  have F14_ra_3 := F8_ra_3.other W14 (Or.inl (Ne.symm PN14))
  have F14_ra_4 := F8_ra_4.other W14 (Or.inl (Ne.symm PN14))
  have F14_ra_5 := F8_ra_5.other W14 (Or.inl (Ne.symm PN14))
  have F14_ra_6 := F8_ra_6.other W14 (Or.inl (Ne.symm PN14))
  have F14_ra_7 := F8_ra_7.other W14 (Or.inl (Ne.symm PN14))
  have F14_ra_8 := F8_s.other W14 (Or.inl (Ne.symm PN14))
  have sz14 := Nat.le_trans sz8 (Keep.of_wr W14).1
  have K14 := K8.wr W14 (Or.inl (by simp))
  have N14 := Fr.snoc X14 N8 PG1
  have V14_n : own_AI Z h14 rs .boolean [((if (m3 &&& (1 : Int64)) = (0 : Int64) then (0 : Int32) else (1 : Int32)) &&& 1), bs1] := V14
  obtain ⟨T15, X15, e15, st15⟩ := getF X14 hx hZ hown (host := "") (Or.inl (H 37 rfl)) Via.refl e14 F14_ra_3 (g := (mkF m 81 #[rv ra, rv rw, iv (0 : Int32), iv (3 : Int32)] [(.ref ra)])) rfl rfl (D d7_81)
  have pre17 : ∀ t, Steps p.tables e below (T15.setTop (mkF m 94 #[rv ra, rv rw, iv (0 : Int32), iv (3 : Int32)] [(.int (lcmpW (m3 &&& (2 : Int64)) (0 : Int64))), (.int (0 : Int32)), (.ref rg)])) t → Steps p.tables e below B0 t := by
    intro t k
    refine pre13 t ?_
    show Steps p.tables e below (T10.setTop (mkF m 79 #[rv ra, rv rw, iv (0 : Int32), iv (3 : Int32)] [(.int (if (m3 &&& (1 : Int64)) = (0 : Int64) then (0 : Int32) else (1 : Int32))), (.int (0 : Int32)), (.ref rs)])) _
    refine st14 _ ?_
    refine XS.aloadN X14.here hx rfl (D d7_80) rfl rfl ?_
    refine st15 _ ?_
    refine XS.iloadN X15.here hx rfl (D d7_84) rfl ?_
    refine XS.aloadN X15.here hx rfl (D d7_85) rfl rfl ?_
    refine XS.iloadN X15.here hx rfl (D d7_86) rfl ?_
    refine own_laload X15 hx hZ e15 V14_rw (show 0 ≤ Int32.toInt (3 : Int32) ∧ Int32.toInt (3 : Int32) < ((9 : Nat) : Int) by decide) (D d7_87) _ ?_
    refine X15.ldc2Long hx hown (mvT hZ (H 65 rfl)) (g := (mkF m 88 #[rv ra, rv rw, iv (0 : Int32), iv (3 : Int32)] [(.long m3), (.int (0 : Int32)), (.ref rg)])) rfl (D d7_88) _ ?_
    refine XS.land X15.here hx rfl (D d7_91) rfl ?_
    refine XS.lconst X15.here hx rfl (D d7_92) ?_
    refine XS.lcmp X15.here hx rfl (D d7_93) rfl ?_
    exact k
  clear V8_rw V8_rl V8_rs V8_rr V8_rg V8_rt A8_ra F8_ra_0 F8_ra_1 F8_ra_2 F8_ra_3 F8_ra_4 F8_ra_5 F8_ra_6 F8_ra_7 sz8 K8 N8 F8_s X10 e10 pre12 pre13 X14 e14 W14 V14 st14 st15
  have pre18 : ∀ t, Steps p.tables e below (T15.setTop (mkF m 102 #[rv ra, rv rw, iv (0 : Int32), iv (3 : Int32)] [(.int (if (m3 &&& (2 : Int64)) = (0 : Int64) then (0 : Int32) else (1 : Int32))), (.int (0 : Int32)), (.ref rg)])) t → Steps p.tables e below B0 t := by
    by_cases c16 : (m3 &&& (2 : Int64)) = (0 : Int64)
    · try simp only [if_pos c16]
      intro t k
      refine pre17 t ?_
      show Steps p.tables e below (T15.setTop (mkF m 94 #[rv ra, rv rw, iv (0 : Int32), iv (3 : Int32)] [(.int (lcmpW (m3 &&& (2 : Int64)) (0 : Int64))), (.int (0 : Int32)), (.ref rg)])) _
      refine XS.ifYes X15.here hx rfl (pc0 := 94) (pc' := 101) rfl (D d7_94) rfl ((if0 _ _).trans (teq ((lw_eq (m3 &&& (2 : Int64)) (0 : Int64)).mpr c16)).1) (by decide) (by decide) ?_
      refine XS.iconst X15.here hx rfl (D d7_101) ?_
      exact k
    · try simp only [if_neg c16]
      intro t k
      refine pre17 t ?_
      show Steps p.tables e below (T15.setTop (mkF m 94 #[rv ra, rv rw, iv (0 : Int32), iv (3 : Int32)] [(.int (lcmpW (m3 &&& (2 : Int64)) (0 : Int64))), (.int (0 : Int32)), (.ref rg)])) _
      refine XS.ifNo X15.here hx rfl (D d7_94) rfl ((if0 _ _).trans (feq (mt (lw_eq (m3 &&& (2 : Int64)) (0 : Int64)).mp c16)).1) ?_
      refine XS.iconst X15.here hx rfl (D d7_97) ?_
      refine XS.goto X15.here hx rfl (pc0 := 98) (pc' := 102) rfl (D d7_98) (by decide) (by decide) ?_
      exact k
  obtain ⟨T19, h19, X19, e19, W19, V19, st19⟩ := own_bastoreZ X15 hx hZ e15 V14_rg (j := (0 : Int32)) (show 0 ≤ Int32.toInt (0 : Int32) ∧ Int32.toInt (0 : Int32) < ((2 : Nat) : Int) by decide) (x := (if (m3 &&& (2 : Int64)) = (0 : Int64) then (0 : Int32) else (1 : Int32))) (D d7_102)
  have V19_rw := V14_rw.other W19 PN3
  have V19_rl := V14_rl.other W19 PN8
  have V19_rs := V14_n.other W19 PN12
  have V19_rr := V14_rr.other W19 PN15
  have V19_rt := V14_rt.other W19 (Ne.symm PN18)
  have A19_ra := A14_ra.wr W19
  have F19_ra_0 := F14_ra_0.other W19 (Or.inl (Ne.symm PN19))
  have F19_ra_1 := F14_ra_1.other W19 (Or.inl (Ne.symm PN19))
  have F19_ra_2 := F14_ra_2.other W19 (Or.inl (Ne.symm PN19))
  have F19_ra_3 := F14_ra_3.other W19 (Or.inl (Ne.symm PN19))
  have F19_ra_4 := F14_ra_4.other W19 (Or.inl (Ne.symm PN19))
  have F19_ra_5 := F14_ra_5.other W19 (Or.inl (Ne.symm PN19))
  have F19_ra_6 := F14_ra_6.other W19 (Or.inl (Ne.symm PN19))
  have F19_ra_7 := F14_ra_7.other W19 (Or.inl (Ne.symm PN19))
  have F19_ra_8 := F14_ra_8.other W19 (Or.inl (Ne.symm PN19))
  have sz19 := Nat.le_trans sz14 (Keep.of_wr W19).1
  have K19 := K14.wr W19 (Or.inl (by simp))
  have N19 := Fr.snoc X19 N14 PG2
  have V19_n : own_AI Z h19 rg .boolean [((if (m3 &&& (2 : Int64)) = (0 : Int64) then (0 : Int32) else (1 : Int32)) &&& 1), bg1] := V19
  obtain ⟨T20, X20, e20, st20⟩ := getF X19 hx hZ hown (host := "") (Or.inl (H 39 rfl)) Via.refl e19 F19_ra_4 (g := (mkF m 104 #[rv ra, rv rw, iv (0 : Int32), iv (3 : Int32)] [(.ref ra)])) rfl rfl (D d7_104)
  have pre22 : ∀ t, Steps p.tables e below (T20.setTop (mkF m 117 #[rv ra, rv rw, iv (0 : Int32), iv (3 : Int32)] [(.int (lcmpW (m3 &&& (4 : Int64)) (0 : Int64))), (.int (0 : Int32)), (.ref rt)])) t → Steps p.tables e below B0 t := by
    intro t k
    refine pre18 t ?_
    show Steps p.tables e below (T15.setTop (mkF m 102 #[rv ra, rv rw, iv (0 : Int32), iv (3 : Int32)] [(.int (if (m3 &&& (2 : Int64)) = (0 : Int64) then (0 : Int32) else (1 : Int32))), (.int (0 : Int32)), (.ref rg)])) _
    refine st19 _ ?_
    refine XS.aloadN X19.here hx rfl (D d7_103) rfl rfl ?_
    refine st20 _ ?_
    refine XS.iloadN X20.here hx rfl (D d7_107) rfl ?_
    refine XS.aloadN X20.here hx rfl (D d7_108) rfl rfl ?_
    refine XS.iloadN X20.here hx rfl (D d7_109) rfl ?_
    refine own_laload X20 hx hZ e20 V19_rw (show 0 ≤ Int32.toInt (3 : Int32) ∧ Int32.toInt (3 : Int32) < ((9 : Nat) : Int) by decide) (D d7_110) _ ?_
    refine X20.ldc2Long hx hown (mvT hZ (H 63 rfl)) (g := (mkF m 111 #[rv ra, rv rw, iv (0 : Int32), iv (3 : Int32)] [(.long m3), (.int (0 : Int32)), (.ref rt)])) rfl (D d7_111) _ ?_
    refine XS.land X20.here hx rfl (D d7_114) rfl ?_
    refine XS.lconst X20.here hx rfl (D d7_115) ?_
    refine XS.lcmp X20.here hx rfl (D d7_116) rfl ?_
    exact k
  clear V14_rw V14_rl V14_rr V14_rg V14_rt A14_ra F14_ra_0 F14_ra_1 F14_ra_2 F14_ra_3 F14_ra_4 F14_ra_5 F14_ra_6 F14_ra_7 F14_ra_8 sz14 K14 N14 V14_n X15 e15 pre17 pre18 X19 e19 W19 V19 st19 st20
  have pre23 : ∀ t, Steps p.tables e below (T20.setTop (mkF m 125 #[rv ra, rv rw, iv (0 : Int32), iv (3 : Int32)] [(.int (if (m3 &&& (4 : Int64)) = (0 : Int64) then (0 : Int32) else (1 : Int32))), (.int (0 : Int32)), (.ref rt)])) t → Steps p.tables e below B0 t := by
    by_cases c21 : (m3 &&& (4 : Int64)) = (0 : Int64)
    · try simp only [if_pos c21]
      intro t k
      refine pre22 t ?_
      show Steps p.tables e below (T20.setTop (mkF m 117 #[rv ra, rv rw, iv (0 : Int32), iv (3 : Int32)] [(.int (lcmpW (m3 &&& (4 : Int64)) (0 : Int64))), (.int (0 : Int32)), (.ref rt)])) _
      refine XS.ifYes X20.here hx rfl (pc0 := 117) (pc' := 124) rfl (D d7_117) rfl ((if0 _ _).trans (teq ((lw_eq (m3 &&& (4 : Int64)) (0 : Int64)).mpr c21)).1) (by decide) (by decide) ?_
      refine XS.iconst X20.here hx rfl (D d7_124) ?_
      exact k
    · try simp only [if_neg c21]
      intro t k
      refine pre22 t ?_
      show Steps p.tables e below (T20.setTop (mkF m 117 #[rv ra, rv rw, iv (0 : Int32), iv (3 : Int32)] [(.int (lcmpW (m3 &&& (4 : Int64)) (0 : Int64))), (.int (0 : Int32)), (.ref rt)])) _
      refine XS.ifNo X20.here hx rfl (D d7_117) rfl ((if0 _ _).trans (feq (mt (lw_eq (m3 &&& (4 : Int64)) (0 : Int64)).mp c21)).1) ?_
      refine XS.iconst X20.here hx rfl (D d7_120) ?_
      refine XS.goto X20.here hx rfl (pc0 := 121) (pc' := 125) rfl (D d7_121) (by decide) (by decide) ?_
      exact k
  obtain ⟨T24, h24, X24, e24, W24, V24, st24⟩ := own_bastoreZ X20 hx hZ e20 V19_rt (j := (0 : Int32)) (show 0 ≤ Int32.toInt (0 : Int32) ∧ Int32.toInt (0 : Int32) < ((2 : Nat) : Int) by decide) (x := (if (m3 &&& (4 : Int64)) = (0 : Int64) then (0 : Int32) else (1 : Int32))) (D d7_125)
  have V24_rw := V19_rw.other W24 PN4
  have V24_rl := V19_rl.other W24 PN9
  have V24_rs := V19_rs.other W24 PN13
  have V24_rr := V19_rr.other W24 PN16
  have V24_rg := V19_n.other W24 PN18
  have A24_ra := A19_ra.wr W24
  have F24_ra_0 := F19_ra_0.other W24 (Or.inl (Ne.symm PN20))
  have F24_ra_1 := F19_ra_1.other W24 (Or.inl (Ne.symm PN20))
  have F24_ra_2 := F19_ra_2.other W24 (Or.inl (Ne.symm PN20))
  have F24_ra_3 := F19_ra_3.other W24 (Or.inl (Ne.symm PN20))
  have F24_ra_4 := F19_ra_4.other W24 (Or.inl (Ne.symm PN20))
  have F24_ra_5 := F19_ra_5.other W24 (Or.inl (Ne.symm PN20))
  have F24_ra_6 := F19_ra_6.other W24 (Or.inl (Ne.symm PN20))
  have F24_ra_7 := F19_ra_7.other W24 (Or.inl (Ne.symm PN20))
  have F24_ra_8 := F19_ra_8.other W24 (Or.inl (Ne.symm PN20))
  have sz24 := Nat.le_trans sz19 (Keep.of_wr W24).1
  have K24 := K19.wr W24 (Or.inl (by simp))
  have N24 := Fr.snoc X24 N19 PG3
  have V24_n : own_AI Z h24 rt .boolean [((if (m3 &&& (4 : Int64)) = (0 : Int64) then (0 : Int32) else (1 : Int32)) &&& 1), bt1] := V24
  obtain ⟨T25, X25, e25, st25⟩ := getF X24 hx hZ hown (host := "") (Or.inl (H 30 rfl)) Via.refl e24 F24_ra_0 (g := (mkF m 127 #[rv ra, rv rw, iv (0 : Int32), iv (3 : Int32)] [(.ref ra)])) rfl rfl (D d7_127)
  obtain ⟨T26, h26, X26, e26, W26, V26, st26⟩ := own_lastore X25 hx hZ e25 V24_rl (j := (0 : Int32)) (show 0 ≤ Int32.toInt (0 : Int32) ∧ Int32.toInt (0 : Int32) < ((2 : Nat) : Int) by decide) (x := m4) (D d7_136)
  have V26_rw := V24_rw.other W26 PN0
  have V26_rs := V24_rs.other W26 (Ne.symm PN6)
  have V26_rr := V24_rr.other W26 (Ne.symm PN7)
  have V26_rg := V24_rg.other W26 (Ne.symm PN8)
  have V26_rt := V24_n.other W26 (Ne.symm PN9)
  have A26_ra := A24_ra.wr W26
  have F26_ra_0 := F24_ra_0.other W26 (Or.inl (Ne.symm PN10))
  have F26_ra_1 := F24_ra_1.other W26 (Or.inl (Ne.symm PN10))
  have F26_ra_2 := F24_ra_2.other W26 (Or.inl (Ne.symm PN10))
  have F26_ra_3 := F24_ra_3.other W26 (Or.inl (Ne.symm PN10))
  have F26_ra_4 := F24_ra_4.other W26 (Or.inl (Ne.symm PN10))
  have F26_ra_5 := F24_ra_5.other W26 (Or.inl (Ne.symm PN10))
  have F26_ra_6 := F24_ra_6.other W26 (Or.inl (Ne.symm PN10))
  have F26_ra_7 := F24_ra_7.other W26 (Or.inl (Ne.symm PN10))
  have F26_ra_8 := F24_ra_8.other W26 (Or.inl (Ne.symm PN10))
  have sz26 := Nat.le_trans sz24 (Keep.of_wr W26).1
  have K26 := K24.wr W26 (Or.inl (by simp))
  have N26 := Fr.snoc X26 N24 PG4
  have V26_n : own_AJ Z h26 rl [m4, jl1] := V26
  obtain ⟨T27, X27, e27, st27⟩ := getF X26 hx hZ hown (host := "") (Or.inl (H 35 rfl)) Via.refl e26 F26_ra_2 (g := (mkF m 138 #[rv ra, rv rw, iv (0 : Int32), iv (3 : Int32)] [(.ref ra)])) rfl rfl (D d7_138)
  obtain ⟨T28, h28, X28, e28, W28, V28, st28⟩ := own_lastore X27 hx hZ e27 V26_rr (j := (0 : Int32)) (show 0 ≤ Int32.toInt (0 : Int32) ∧ Int32.toInt (0 : Int32) < ((2 : Nat) : Int) by decide) (x := m5) (D d7_147)
  have V28_rw := V26_rw.other W28 PN2
  have V28_rl := V26_n.other W28 PN7
  have V28_rs := V26_rs.other W28 PN11
  have V28_rg := V26_rg.other W28 (Ne.symm PN15)
  have V28_rt := V26_rt.other W28 (Ne.symm PN16)
  have A28_ra := A26_ra.wr W28
  have F28_ra_0 := F26_ra_0.other W28 (Or.inl (Ne.symm PN17))
  have F28_ra_1 := F26_ra_1.other W28 (Or.inl (Ne.symm PN17))
  have F28_ra_2 := F26_ra_2.other W28 (Or.inl (Ne.symm PN17))
  have F28_ra_3 := F26_ra_3.other W28 (Or.inl (Ne.symm PN17))
  have F28_ra_4 := F26_ra_4.other W28 (Or.inl (Ne.symm PN17))
  have F28_ra_5 := F26_ra_5.other W28 (Or.inl (Ne.symm PN17))
  have F28_ra_6 := F26_ra_6.other W28 (Or.inl (Ne.symm PN17))
  have F28_ra_7 := F26_ra_7.other W28 (Or.inl (Ne.symm PN17))
  have F28_ra_8 := F26_ra_8.other W28 (Or.inl (Ne.symm PN17))
  have sz28 := Nat.le_trans sz26 (Keep.of_wr W28).1
  have K28 := K26.wr W28 (Or.inl (by simp))
  have N28 := Fr.snoc X28 N26 PG5
  have V28_n : own_AJ Z h28 rr [m5, jr1] := V28
  obtain ⟨T29, X29, e29, st29⟩ := getF X28 hx hZ hown (host := "") (Or.inl (H 41 rfl)) Via.refl e28 F28_ra_8 (g := (mkF m 150 #[rv ra, rv rw, iv (0 : Int32), iv (3 : Int32)] [(.ref ra), (.ref ra)])) rfl rfl (D d7_150)
  obtain ⟨T30, X30, e30, st30⟩ := getF X29 hx hZ hown (host := "") (Or.inl (H 37 rfl)) Via.refl e29 F28_ra_3 (g := (mkF m 154 #[rv ra, rv rw, iv (0 : Int32), iv (3 : Int32)] [(.ref ra), (.int (0 : Int32)), (.ref ra)])) rfl rfl (D d7_154)
  have pre32 : ∀ t, Steps p.tables e below (T30.setTop (mkF m 159 #[rv ra, rv rw, iv (0 : Int32), iv (3 : Int32)] [(.int ((if (m3 &&& (2 : Int64)) = (0 : Int64) then (0 : Int32) else (1 : Int32)) &&& 1)), (.int (0 : Int32)), (.ref ra)])) t → Steps p.tables e below B0 t := by
    intro t k
    refine pre23 t ?_
    show Steps p.tables e below (T20.setTop (mkF m 125 #[rv ra, rv rw, iv (0 : Int32), iv (3 : Int32)] [(.int (if (m3 &&& (4 : Int64)) = (0 : Int64) then (0 : Int32) else (1 : Int32))), (.int (0 : Int32)), (.ref rt)])) _
    refine st24 _ ?_
    refine XS.aloadN X24.here hx rfl (D d7_126) rfl rfl ?_
    refine st25 _ ?_
    refine XS.iloadN X25.here hx rfl (D d7_130) rfl ?_
    refine XS.aloadN X25.here hx rfl (D d7_131) rfl rfl ?_
    refine XS.iloadN X25.here hx rfl (D d7_132) rfl ?_
    refine XS.iconst X25.here hx rfl (D d7_133) ?_
    refine XS.iadd X25.here hx rfl (D d7_134) rfl ?_
    refine own_laload X25 hx hZ e25 V24_rw (show 0 ≤ Int32.toInt (4 : Int32) ∧ Int32.toInt (4 : Int32) < ((9 : Nat) : Int) by decide) (D d7_135) _ ?_
    refine st26 _ ?_
    refine XS.aloadN X26.here hx rfl (D d7_137) rfl rfl ?_
    show Steps p.tables e below (T26.setTop (mkF m 138 #[rv ra, rv rw, iv (0 : Int32), iv (3 : Int32)] [(.ref ra)])) _
    refine st27 _ ?_
    refine XS.iloadN X27.here hx rfl (D d7_141) rfl ?_
    refine XS.aloadN X27.here hx rfl (D d7_142) rfl rfl ?_
    refine XS.iloadN X27.here hx rfl (D d7_143) rfl ?_
    refine XS.iconst X27.here hx rfl (D d7_144) ?_
    refine XS.iadd X27.here hx rfl (D d7_145) rfl ?_
    refine own_laload X27 hx hZ e27 V26_rw (show 0 ≤ Int32.toInt (5 : Int32) ∧ Int32.toInt (5 : Int32) < ((9 : Nat) : Int) by decide) (D d7_146) _ ?_
    refine st28 _ ?_
    refine XS.aloadN X28.here hx rfl (D d7_148) rfl rfl ?_
    refine XS.dup X28.here hx rfl (D d7_149) rfl rfl ?_
    refine st29 _ ?_
    refine XS.aloadN X29.here hx rfl (D d7_153) rfl rfl ?_
    refine st30 _ ?_
    refine XS.iloadN X30.here hx rfl (D d7_157) rfl ?_
    refine own_baloadZ X30 hx hZ e30 V28_rg (show 0 ≤ Int32.toInt (0 : Int32) ∧ Int32.toInt (0 : Int32) < ((2 : Nat) : Int) by decide) (D d7_158) _ ?_
    exact k
  clear V19_rw V19_rl V19_rs V19_rr V19_rt A19_ra F19_ra_0 F19_ra_1 F19_ra_2 F19_ra_3 F19_ra_4 F19_ra_5 F19_ra_6 F19_ra_7 F19_ra_8 sz19 K19 N19 V19_n X20 e20 pre22 pre23 X24 e24 W24 V24 st24 V24_rw V24_rl V24_rs V24_rr V24_rg A24_ra F24_ra_0 F24_ra_1 F24_ra_2 F24_ra_3 F24_ra_4 F24_ra_5 F24_ra_6 F24_ra_7 F24_ra_8 sz24 K24 N24 V24_n X25 e25 st25 X26 e26 W26 V26 st26 V26_rw V26_rs V26_rr V26_rg V26_rt A26_ra F26_ra_0 F26_ra_1 F26_ra_2 F26_ra_3 F26_ra_4 F26_ra_5 F26_ra_6 F26_ra_7 F26_ra_8 sz26 K26 N26 V26_n X27 e27 st27 X28 e28 W28 V28 st28 X29 e29 st29 st30
  have pre33 : ∀ t, Steps p.tables e below (T30.setTop (mkF m 167 #[rv ra, rv rw, iv (0 : Int32), iv (3 : Int32)] [(.int (if ((if (m3 &&& (2 : Int64)) = (0 : Int64) then (0 : Int32) else (1 : Int32)) &&& 1) = (0 : Int32) then (1 : Int32) else (0 : Int32))), (.int (0 : Int32)), (.ref ra)])) t → Steps p.tables e below B0 t := by
    by_cases c31 : ((if (m3 &&& (2 : Int64)) = (0 : Int64) then (0 : Int32) else (1 : Int32)) &&& 1) = (0 : Int32)
    · try simp only [if_pos c31]
      intro t k
      refine pre32 t ?_
      show Steps p.tables e below (T30.setTop (mkF m 159 #[rv ra, rv rw, iv (0 : Int32), iv (3 : Int32)] [(.int ((if (m3 &&& (2 : Int64)) = (0 : Int64) then (0 : Int32) else (1 : Int32)) &&& 1)), (.int (0 : Int32)), (.ref ra)])) _
      refine XS.ifYes X30.here hx rfl (pc0 := 159) (pc' := 166) rfl (D d7_159) rfl ((if0 _ _).trans (teq c31).1) (by decide) (by decide) ?_
      refine XS.iconst X30.here hx rfl (D d7_166) ?_
      exact k
    · try simp only [if_neg c31]
      intro t k
      refine pre32 t ?_
      show Steps p.tables e below (T30.setTop (mkF m 159 #[rv ra, rv rw, iv (0 : Int32), iv (3 : Int32)] [(.int ((if (m3 &&& (2 : Int64)) = (0 : Int64) then (0 : Int32) else (1 : Int32)) &&& 1)), (.int (0 : Int32)), (.ref ra)])) _
      refine XS.ifNo X30.here hx rfl (D d7_159) rfl ((if0 _ _).trans (feq c31).1) ?_
      refine XS.iconst X30.here hx rfl (D d7_162) ?_
      refine XS.goto X30.here hx rfl (pc0 := 163) (pc' := 167) rfl (D d7_163) (by decide) (by decide) ?_
      exact k
  obtain ⟨T34, h34, X34, e34, W34, st34⟩ := putF X30 hx hZ hown (host := "") (Or.inl (H 41 rfl)) Via.refl e30 F28_ra_8 A28_ra (Or.inl (H 42 rfl)) (H 13 rfl) (ty := .int) (by decide) rfl rfl (g := (mkF m 168 #[rv ra, rv rw, iv (0 : Int32), iv (3 : Int32)] [(.int ((0 : Int32) + (if ((if (m3 &&& (2 : Int64)) = (0 : Int64) then (0 : Int32) else (1 : Int32)) &&& 1) = (0 : Int32) then (1 : Int32) else (0 : Int32)))), (.ref ra)])) rfl rfl (D d7_168)
  have V34_rw := V28_rw.other W34 PN5
  have V34_rl := V28_rl.other W34 PN10
  have V34_rs := V28_rs.other W34 PN14
  have V34_rr := V28_n.other W34 PN17
  have V34_rg := V28_rg.other W34 PN19
  have V34_rt := V28_rt.other W34 PN20
  have A34_ra := A28_ra.wr W34
  have F34_ra_0 := F28_ra_0.other W34 (Or.inr (own_sn_88 hw))
  have F34_ra_1 := F28_ra_1.other W34 (Or.inr (own_sn_89 hw))
  have F34_ra_2 := F28_ra_2.other W34 (Or.inr (own_sn_90 hw))
  have F34_ra_3 := F28_ra_3.other W34 (Or.inr (own_sn_91 hw))
  have F34_ra_4 := F28_ra_4.other W34 (Or.inr (own_sn_92 hw))
  have F34_ra_5 := F28_ra_5.other W34 (Or.inr (own_sn_93 hw))
  have F34_ra_6 := F28_ra_6.other W34 (Or.inr (own_sn_94 hw))
  have F34_ra_7 := F28_ra_7.other W34 (Or.inr (own_sn_85 hw))
  have sz34 := Nat.le_trans sz28 (Keep.of_wr W34).1
  have K34 := K28.wr W34 (Or.inl (by simp))
  have N34 := Fr.snoc X34 N28 PG0
  have F34_s : Fld Z h34 ra own_S "open" "I" (.int ((0 : Int32) + (if ((if (m3 &&& (2 : Int64)) = (0 : Int64) then (0 : Int32) else (1 : Int32)) &&& 1) = (0 : Int32) then (1 : Int32) else (0 : Int32)))) := F28_ra_8.same W34
  obtain ⟨T35, X35, e35, st35⟩ := getF X34 hx hZ hown (host := "") (Or.inl (H 37 rfl)) Via.refl e34 F34_ra_3 (g := (mkF m 46 #[rv ra, rv rw, iv (1 : Int32), iv (3 : Int32)] [(.ref ra), (.int (1 : Int32))])) rfl rfl (D d7_46)
  obtain ⟨T36, X36, e36, st36⟩ := getF X35 hx hZ hown (host := "") (Or.inl (H 33 rfl)) Via.refl e35 F34_ra_1 (g := (mkF m 60 #[rv ra, rv rw, iv (1 : Int32), iv (6 : Int32)] [(.ref ra)])) rfl rfl (D d7_60)
  have pre38 : ∀ t, Steps p.tables e below (T36.setTop (mkF m 71 #[rv ra, rv rw, iv (1 : Int32), iv (6 : Int32)] [(.int (lcmpW (m6 &&& (1 : Int64)) (0 : Int64))), (.int (1 : Int32)), (.ref rs)])) t → Steps p.tables e below B0 t := by
    intro t k
    refine pre33 t ?_
    show Steps p.tables e below (T30.setTop (mkF m 167 #[rv ra, rv rw, iv (0 : Int32), iv (3 : Int32)] [(.int (if ((if (m3 &&& (2 : Int64)) = (0 : Int64) then (0 : Int32) else (1 : Int32)) &&& 1) = (0 : Int32) then (1 : Int32) else (0 : Int32))), (.int (0 : Int32)), (.ref ra)])) _
    refine XS.iadd X30.here hx rfl (D d7_167) rfl ?_
    refine st34 _ ?_
    refine XS.iinc X34.here hx rfl (D d7_171) rfl (l' := #[rv ra, rv rw, iv (1 : Int32), iv (3 : Int32)]) rfl ?_
    refine XS.goto X34.here hx rfl (pc0 := 174) (pc' := 44) rfl (D d7_174) (by decide) (by decide) ?_
    refine XS.iloadN X34.here hx rfl (D d7_44) rfl ?_
    refine XS.aloadN X34.here hx rfl (D d7_45) rfl rfl ?_
    refine st35 _ ?_
    refine own_alenI X35 hx hZ e35 V34_rg (D d7_49) _ ?_
    show Steps p.tables e below (T35.setTop (mkF m 50 #[rv ra, rv rw, iv (1 : Int32), iv (3 : Int32)] [(.int (2 : Int32)), (.int (1 : Int32))])) _
    refine XS.icmpNo X35.here hx rfl (D d7_50) rfl (by decide) ?_
    refine XS.iconst X35.here hx rfl (D d7_53) ?_
    refine XS.iconst X35.here hx rfl (D d7_54) ?_
    refine XS.iloadN X35.here hx rfl (D d7_55) rfl ?_
    refine XS.imul X35.here hx rfl (D d7_56) rfl ?_
    refine XS.iadd X35.here hx rfl (D d7_57) rfl ?_
    refine XS.istoreN X35.here hx rfl (D d7_58) rfl (l' := #[rv ra, rv rw, iv (1 : Int32), iv (6 : Int32)]) rfl ?_
    refine XS.aloadN X35.here hx rfl (D d7_59) rfl rfl ?_
    refine st36 _ ?_
    refine XS.iloadN X36.here hx rfl (D d7_63) rfl ?_
    refine XS.aloadN X36.here hx rfl (D d7_64) rfl rfl ?_
    refine XS.iloadN X36.here hx rfl (D d7_65) rfl ?_
    refine own_laload X36 hx hZ e36 V34_rw (show 0 ≤ Int32.toInt (6 : Int32) ∧ Int32.toInt (6 : Int32) < ((9 : Nat) : Int) by decide) (D d7_66) _ ?_
    refine XS.lconst X36.here hx rfl (D d7_67) ?_
    refine XS.land X36.here hx rfl (D d7_68) rfl ?_
    refine XS.lconst X36.here hx rfl (D d7_69) ?_
    refine XS.lcmp X36.here hx rfl (D d7_70) rfl ?_
    exact k
  clear V28_rw V28_rl V28_rs V28_rg V28_rt A28_ra F28_ra_0 F28_ra_1 F28_ra_2 F28_ra_3 F28_ra_4 F28_ra_5 F28_ra_6 F28_ra_7 F28_ra_8 sz28 K28 N28 V28_n X30 e30 pre32 pre33 X34 e34 W34 st34 X35 e35 st35 st36
  have pre39 : ∀ t, Steps p.tables e below (T36.setTop (mkF m 79 #[rv ra, rv rw, iv (1 : Int32), iv (6 : Int32)] [(.int (if (m6 &&& (1 : Int64)) = (0 : Int64) then (0 : Int32) else (1 : Int32))), (.int (1 : Int32)), (.ref rs)])) t → Steps p.tables e below B0 t := by
    by_cases c37 : (m6 &&& (1 : Int64)) = (0 : Int64)
    · try simp only [if_pos c37]
      intro t k
      refine pre38 t ?_
      show Steps p.tables e below (T36.setTop (mkF m 71 #[rv ra, rv rw, iv (1 : Int32), iv (6 : Int32)] [(.int (lcmpW (m6 &&& (1 : Int64)) (0 : Int64))), (.int (1 : Int32)), (.ref rs)])) _
      refine XS.ifYes X36.here hx rfl (pc0 := 71) (pc' := 78) rfl (D d7_71) rfl ((if0 _ _).trans (teq ((lw_eq (m6 &&& (1 : Int64)) (0 : Int64)).mpr c37)).1) (by decide) (by decide) ?_
      refine XS.iconst X36.here hx rfl (D d7_78) ?_
      exact k
    · try simp only [if_neg c37]
      intro t k
      refine pre38 t ?_
      show Steps p.tables e below (T36.setTop (mkF m 71 #[rv ra, rv rw, iv (1 : Int32), iv (6 : Int32)] [(.int (lcmpW (m6 &&& (1 : Int64)) (0 : Int64))), (.int (1 : Int32)), (.ref rs)])) _
      refine XS.ifNo X36.here hx rfl (D d7_71) rfl ((if0 _ _).trans (feq (mt (lw_eq (m6 &&& (1 : Int64)) (0 : Int64)).mp c37)).1) ?_
      refine XS.iconst X36.here hx rfl (D d7_74) ?_
      show Steps p.tables e below (T36.setTop (mkF m 75 #[rv ra, rv rw, iv (1 : Int32), iv (6 : Int32)] [(.int (1 : Int32)), (.int (1 : Int32)), (.ref rs)])) _
      refine XS.goto X36.here hx rfl (pc0 := 75) (pc' := 79) rfl (D d7_75) (by decide) (by decide) ?_
      exact k
  obtain ⟨T40, h40, X40, e40, W40, V40, st40⟩ := own_bastoreZ X36 hx hZ e36 V34_rs (j := (1 : Int32)) (show 0 ≤ Int32.toInt (1 : Int32) ∧ Int32.toInt (1 : Int32) < ((2 : Nat) : Int) by decide) (x := (if (m6 &&& (1 : Int64)) = (0 : Int64) then (0 : Int32) else (1 : Int32))) (D d7_79)
  have V40_rw := V34_rw.other W40 PN1
  have V40_rl := V34_rl.other W40 PN6
  have V40_rr := V34_rr.other W40 (Ne.symm PN11)
  have V40_rg := V34_rg.other W40 (Ne.symm PN12)
  have V40_rt := V34_rt.other W40 (Ne.symm PN13)
  have A40_ra := A34_ra.wr W40
  have F40_ra_0 := F34_ra_0.other W40 (Or.inl (Ne.symm PN14))
  have F40_ra_1 := F34_ra_1.other W40 (Or.inl (Ne.symm PN14))
  have F40_ra_2 := F34_ra_2.other W40 (Or.inl (Ne.symm PN14))
  have F40_ra_3 := F34_ra_3.other W40 (Or.inl (Ne.symm PN14))
  have F40_ra_4 := F34_ra_4.other W40 (Or.inl (Ne.symm PN14))
  have F40_ra_5 := F34_ra_5.other W40 (Or.inl (Ne.symm PN14))
  have F40_ra_6 := F34_ra_6.other W40 (Or.inl (Ne.symm PN14))
  have F40_ra_7 := F34_ra_7.other W40 (Or.inl (Ne.symm PN14))
  have F40_ra_8 := F34_s.other W40 (Or.inl (Ne.symm PN14))
  have sz40 := Nat.le_trans sz34 (Keep.of_wr W40).1
  have K40 := K34.wr W40 (Or.inl (by simp))
  have N40 := Fr.snoc X40 N34 PG1
  have V40_n : own_AI Z h40 rs .boolean [((if (m3 &&& (1 : Int64)) = (0 : Int64) then (0 : Int32) else (1 : Int32)) &&& 1), ((if (m6 &&& (1 : Int64)) = (0 : Int64) then (0 : Int32) else (1 : Int32)) &&& 1)] := V40
  obtain ⟨T41, X41, e41, st41⟩ := getF X40 hx hZ hown (host := "") (Or.inl (H 37 rfl)) Via.refl e40 F40_ra_3 (g := (mkF m 81 #[rv ra, rv rw, iv (1 : Int32), iv (6 : Int32)] [(.ref ra)])) rfl rfl (D d7_81)
  have pre43 : ∀ t, Steps p.tables e below (T41.setTop (mkF m 94 #[rv ra, rv rw, iv (1 : Int32), iv (6 : Int32)] [(.int (lcmpW (m6 &&& (2 : Int64)) (0 : Int64))), (.int (1 : Int32)), (.ref rg)])) t → Steps p.tables e below B0 t := by
    intro t k
    refine pre39 t ?_
    show Steps p.tables e below (T36.setTop (mkF m 79 #[rv ra, rv rw, iv (1 : Int32), iv (6 : Int32)] [(.int (if (m6 &&& (1 : Int64)) = (0 : Int64) then (0 : Int32) else (1 : Int32))), (.int (1 : Int32)), (.ref rs)])) _
    refine st40 _ ?_
    show Steps p.tables e below (T40.setTop (mkF m 80 #[rv ra, rv rw, iv (1 : Int32), iv (6 : Int32)] [])) _
    refine XS.aloadN X40.here hx rfl (D d7_80) rfl rfl ?_
    refine st41 _ ?_
    refine XS.iloadN X41.here hx rfl (D d7_84) rfl ?_
    refine XS.aloadN X41.here hx rfl (D d7_85) rfl rfl ?_
    refine XS.iloadN X41.here hx rfl (D d7_86) rfl ?_
    refine own_laload X41 hx hZ e41 V40_rw (show 0 ≤ Int32.toInt (6 : Int32) ∧ Int32.toInt (6 : Int32) < ((9 : Nat) : Int) by decide) (D d7_87) _ ?_
    refine X41.ldc2Long hx hown (mvT hZ (H 65 rfl)) (g := (mkF m 88 #[rv ra, rv rw, iv (1 : Int32), iv (6 : Int32)] [(.long m6), (.int (1 : Int32)), (.ref rg)])) rfl (D d7_88) _ ?_
    refine XS.land X41.here hx rfl (D d7_91) rfl ?_
    refine XS.lconst X41.here hx rfl (D d7_92) ?_
    refine XS.lcmp X41.here hx rfl (D d7_93) rfl ?_
    exact k
  clear V34_rw V34_rl V34_rs V34_rr V34_rg V34_rt A34_ra F34_ra_0 F34_ra_1 F34_ra_2 F34_ra_3 F34_ra_4 F34_ra_5 F34_ra_6 F34_ra_7 sz34 K34 N34 F34_s X36 e36 pre38 pre39 X40 e40 W40 V40 st40 st41
  have pre44 : ∀ t, Steps p.tables e below (T41.setTop (mkF m 102 #[rv ra, rv rw, iv (1 : Int32), iv (6 : Int32)] [(.int (if (m6 &&& (2 : Int64)) = (0 : Int64) then (0 : Int32) else (1 : Int32))), (.int (1 : Int32)), (.ref rg)])) t → Steps p.tables e below B0 t := by
    by_cases c42 : (m6 &&& (2 : Int64)) = (0 : Int64)
    · try simp only [if_pos c42]
      intro t k
      refine pre43 t ?_
      show Steps p.tables e below (T41.setTop (mkF m 94 #[rv ra, rv rw, iv (1 : Int32), iv (6 : Int32)] [(.int (lcmpW (m6 &&& (2 : Int64)) (0 : Int64))), (.int (1 : Int32)), (.ref rg)])) _
      refine XS.ifYes X41.here hx rfl (pc0 := 94) (pc' := 101) rfl (D d7_94) rfl ((if0 _ _).trans (teq ((lw_eq (m6 &&& (2 : Int64)) (0 : Int64)).mpr c42)).1) (by decide) (by decide) ?_
      refine XS.iconst X41.here hx rfl (D d7_101) ?_
      exact k
    · try simp only [if_neg c42]
      intro t k
      refine pre43 t ?_
      show Steps p.tables e below (T41.setTop (mkF m 94 #[rv ra, rv rw, iv (1 : Int32), iv (6 : Int32)] [(.int (lcmpW (m6 &&& (2 : Int64)) (0 : Int64))), (.int (1 : Int32)), (.ref rg)])) _
      refine XS.ifNo X41.here hx rfl (D d7_94) rfl ((if0 _ _).trans (feq (mt (lw_eq (m6 &&& (2 : Int64)) (0 : Int64)).mp c42)).1) ?_
      refine XS.iconst X41.here hx rfl (D d7_97) ?_
      refine XS.goto X41.here hx rfl (pc0 := 98) (pc' := 102) rfl (D d7_98) (by decide) (by decide) ?_
      exact k
  obtain ⟨T45, h45, X45, e45, W45, V45, st45⟩ := own_bastoreZ X41 hx hZ e41 V40_rg (j := (1 : Int32)) (show 0 ≤ Int32.toInt (1 : Int32) ∧ Int32.toInt (1 : Int32) < ((2 : Nat) : Int) by decide) (x := (if (m6 &&& (2 : Int64)) = (0 : Int64) then (0 : Int32) else (1 : Int32))) (D d7_102)
  have V45_rw := V40_rw.other W45 PN3
  have V45_rl := V40_rl.other W45 PN8
  have V45_rs := V40_n.other W45 PN12
  have V45_rr := V40_rr.other W45 PN15
  have V45_rt := V40_rt.other W45 (Ne.symm PN18)
  have A45_ra := A40_ra.wr W45
  have F45_ra_0 := F40_ra_0.other W45 (Or.inl (Ne.symm PN19))
  have F45_ra_1 := F40_ra_1.other W45 (Or.inl (Ne.symm PN19))
  have F45_ra_2 := F40_ra_2.other W45 (Or.inl (Ne.symm PN19))
  have F45_ra_3 := F40_ra_3.other W45 (Or.inl (Ne.symm PN19))
  have F45_ra_4 := F40_ra_4.other W45 (Or.inl (Ne.symm PN19))
  have F45_ra_5 := F40_ra_5.other W45 (Or.inl (Ne.symm PN19))
  have F45_ra_6 := F40_ra_6.other W45 (Or.inl (Ne.symm PN19))
  have F45_ra_7 := F40_ra_7.other W45 (Or.inl (Ne.symm PN19))
  have F45_ra_8 := F40_ra_8.other W45 (Or.inl (Ne.symm PN19))
  have sz45 := Nat.le_trans sz40 (Keep.of_wr W45).1
  have K45 := K40.wr W45 (Or.inl (by simp))
  have N45 := Fr.snoc X45 N40 PG2
  have V45_n : own_AI Z h45 rg .boolean [((if (m3 &&& (2 : Int64)) = (0 : Int64) then (0 : Int32) else (1 : Int32)) &&& 1), ((if (m6 &&& (2 : Int64)) = (0 : Int64) then (0 : Int32) else (1 : Int32)) &&& 1)] := V45
  obtain ⟨T46, X46, e46, st46⟩ := getF X45 hx hZ hown (host := "") (Or.inl (H 39 rfl)) Via.refl e45 F45_ra_4 (g := (mkF m 104 #[rv ra, rv rw, iv (1 : Int32), iv (6 : Int32)] [(.ref ra)])) rfl rfl (D d7_104)
  have pre48 : ∀ t, Steps p.tables e below (T46.setTop (mkF m 117 #[rv ra, rv rw, iv (1 : Int32), iv (6 : Int32)] [(.int (lcmpW (m6 &&& (4 : Int64)) (0 : Int64))), (.int (1 : Int32)), (.ref rt)])) t → Steps p.tables e below B0 t := by
    intro t k
    refine pre44 t ?_
    show Steps p.tables e below (T41.setTop (mkF m 102 #[rv ra, rv rw, iv (1 : Int32), iv (6 : Int32)] [(.int (if (m6 &&& (2 : Int64)) = (0 : Int64) then (0 : Int32) else (1 : Int32))), (.int (1 : Int32)), (.ref rg)])) _
    refine st45 _ ?_
    refine XS.aloadN X45.here hx rfl (D d7_103) rfl rfl ?_
    refine st46 _ ?_
    refine XS.iloadN X46.here hx rfl (D d7_107) rfl ?_
    refine XS.aloadN X46.here hx rfl (D d7_108) rfl rfl ?_
    refine XS.iloadN X46.here hx rfl (D d7_109) rfl ?_
    refine own_laload X46 hx hZ e46 V45_rw (show 0 ≤ Int32.toInt (6 : Int32) ∧ Int32.toInt (6 : Int32) < ((9 : Nat) : Int) by decide) (D d7_110) _ ?_
    refine X46.ldc2Long hx hown (mvT hZ (H 63 rfl)) (g := (mkF m 111 #[rv ra, rv rw, iv (1 : Int32), iv (6 : Int32)] [(.long m6), (.int (1 : Int32)), (.ref rt)])) rfl (D d7_111) _ ?_
    refine XS.land X46.here hx rfl (D d7_114) rfl ?_
    refine XS.lconst X46.here hx rfl (D d7_115) ?_
    refine XS.lcmp X46.here hx rfl (D d7_116) rfl ?_
    exact k
  clear V40_rw V40_rl V40_rr V40_rg V40_rt A40_ra F40_ra_0 F40_ra_1 F40_ra_2 F40_ra_3 F40_ra_4 F40_ra_5 F40_ra_6 F40_ra_7 F40_ra_8 sz40 K40 N40 V40_n X41 e41 pre43 pre44 X45 e45 W45 V45 st45 st46
  have pre49 : ∀ t, Steps p.tables e below (T46.setTop (mkF m 125 #[rv ra, rv rw, iv (1 : Int32), iv (6 : Int32)] [(.int (if (m6 &&& (4 : Int64)) = (0 : Int64) then (0 : Int32) else (1 : Int32))), (.int (1 : Int32)), (.ref rt)])) t → Steps p.tables e below B0 t := by
    by_cases c47 : (m6 &&& (4 : Int64)) = (0 : Int64)
    · try simp only [if_pos c47]
      intro t k
      refine pre48 t ?_
      show Steps p.tables e below (T46.setTop (mkF m 117 #[rv ra, rv rw, iv (1 : Int32), iv (6 : Int32)] [(.int (lcmpW (m6 &&& (4 : Int64)) (0 : Int64))), (.int (1 : Int32)), (.ref rt)])) _
      refine XS.ifYes X46.here hx rfl (pc0 := 117) (pc' := 124) rfl (D d7_117) rfl ((if0 _ _).trans (teq ((lw_eq (m6 &&& (4 : Int64)) (0 : Int64)).mpr c47)).1) (by decide) (by decide) ?_
      refine XS.iconst X46.here hx rfl (D d7_124) ?_
      exact k
    · try simp only [if_neg c47]
      intro t k
      refine pre48 t ?_
      show Steps p.tables e below (T46.setTop (mkF m 117 #[rv ra, rv rw, iv (1 : Int32), iv (6 : Int32)] [(.int (lcmpW (m6 &&& (4 : Int64)) (0 : Int64))), (.int (1 : Int32)), (.ref rt)])) _
      refine XS.ifNo X46.here hx rfl (D d7_117) rfl ((if0 _ _).trans (feq (mt (lw_eq (m6 &&& (4 : Int64)) (0 : Int64)).mp c47)).1) ?_
      refine XS.iconst X46.here hx rfl (D d7_120) ?_
      refine XS.goto X46.here hx rfl (pc0 := 121) (pc' := 125) rfl (D d7_121) (by decide) (by decide) ?_
      exact k
  obtain ⟨T50, h50, X50, e50, W50, V50, st50⟩ := own_bastoreZ X46 hx hZ e46 V45_rt (j := (1 : Int32)) (show 0 ≤ Int32.toInt (1 : Int32) ∧ Int32.toInt (1 : Int32) < ((2 : Nat) : Int) by decide) (x := (if (m6 &&& (4 : Int64)) = (0 : Int64) then (0 : Int32) else (1 : Int32))) (D d7_125)
  have V50_rw := V45_rw.other W50 PN4
  have V50_rl := V45_rl.other W50 PN9
  have V50_rs := V45_rs.other W50 PN13
  have V50_rr := V45_rr.other W50 PN16
  have V50_rg := V45_n.other W50 PN18
  have A50_ra := A45_ra.wr W50
  have F50_ra_0 := F45_ra_0.other W50 (Or.inl (Ne.symm PN20))
  have F50_ra_1 := F45_ra_1.other W50 (Or.inl (Ne.symm PN20))
  have F50_ra_2 := F45_ra_2.other W50 (Or.inl (Ne.symm PN20))
  have F50_ra_3 := F45_ra_3.other W50 (Or.inl (Ne.symm PN20))
  have F50_ra_4 := F45_ra_4.other W50 (Or.inl (Ne.symm PN20))
  have F50_ra_5 := F45_ra_5.other W50 (Or.inl (Ne.symm PN20))
  have F50_ra_6 := F45_ra_6.other W50 (Or.inl (Ne.symm PN20))
  have F50_ra_7 := F45_ra_7.other W50 (Or.inl (Ne.symm PN20))
  have F50_ra_8 := F45_ra_8.other W50 (Or.inl (Ne.symm PN20))
  have sz50 := Nat.le_trans sz45 (Keep.of_wr W50).1
  have K50 := K45.wr W50 (Or.inl (by simp))
  have N50 := Fr.snoc X50 N45 PG3
  have V50_n : own_AI Z h50 rt .boolean [((if (m3 &&& (4 : Int64)) = (0 : Int64) then (0 : Int32) else (1 : Int32)) &&& 1), ((if (m6 &&& (4 : Int64)) = (0 : Int64) then (0 : Int32) else (1 : Int32)) &&& 1)] := V50
  obtain ⟨T51, X51, e51, st51⟩ := getF X50 hx hZ hown (host := "") (Or.inl (H 30 rfl)) Via.refl e50 F50_ra_0 (g := (mkF m 127 #[rv ra, rv rw, iv (1 : Int32), iv (6 : Int32)] [(.ref ra)])) rfl rfl (D d7_127)
  obtain ⟨T52, h52, X52, e52, W52, V52, st52⟩ := own_lastore X51 hx hZ e51 V50_rl (j := (1 : Int32)) (show 0 ≤ Int32.toInt (1 : Int32) ∧ Int32.toInt (1 : Int32) < ((2 : Nat) : Int) by decide) (x := m7) (D d7_136)
  have V52_rw := V50_rw.other W52 PN0
  have V52_rs := V50_rs.other W52 (Ne.symm PN6)
  have V52_rr := V50_rr.other W52 (Ne.symm PN7)
  have V52_rg := V50_rg.other W52 (Ne.symm PN8)
  have V52_rt := V50_n.other W52 (Ne.symm PN9)
  have A52_ra := A50_ra.wr W52
  have F52_ra_0 := F50_ra_0.other W52 (Or.inl (Ne.symm PN10))
  have F52_ra_1 := F50_ra_1.other W52 (Or.inl (Ne.symm PN10))
  have F52_ra_2 := F50_ra_2.other W52 (Or.inl (Ne.symm PN10))
  have F52_ra_3 := F50_ra_3.other W52 (Or.inl (Ne.symm PN10))
  have F52_ra_4 := F50_ra_4.other W52 (Or.inl (Ne.symm PN10))
  have F52_ra_5 := F50_ra_5.other W52 (Or.inl (Ne.symm PN10))
  have F52_ra_6 := F50_ra_6.other W52 (Or.inl (Ne.symm PN10))
  have F52_ra_7 := F50_ra_7.other W52 (Or.inl (Ne.symm PN10))
  have F52_ra_8 := F50_ra_8.other W52 (Or.inl (Ne.symm PN10))
  have sz52 := Nat.le_trans sz50 (Keep.of_wr W52).1
  have K52 := K50.wr W52 (Or.inl (by simp))
  have N52 := Fr.snoc X52 N50 PG4
  have V52_n : own_AJ Z h52 rl [m4, m7] := V52
  obtain ⟨T53, X53, e53, st53⟩ := getF X52 hx hZ hown (host := "") (Or.inl (H 35 rfl)) Via.refl e52 F52_ra_2 (g := (mkF m 138 #[rv ra, rv rw, iv (1 : Int32), iv (6 : Int32)] [(.ref ra)])) rfl rfl (D d7_138)
  obtain ⟨T54, h54, X54, e54, W54, V54, st54⟩ := own_lastore X53 hx hZ e53 V52_rr (j := (1 : Int32)) (show 0 ≤ Int32.toInt (1 : Int32) ∧ Int32.toInt (1 : Int32) < ((2 : Nat) : Int) by decide) (x := m8) (D d7_147)
  have V54_rw := V52_rw.other W54 PN2
  have V54_rl := V52_n.other W54 PN7
  have V54_rs := V52_rs.other W54 PN11
  have V54_rg := V52_rg.other W54 (Ne.symm PN15)
  have V54_rt := V52_rt.other W54 (Ne.symm PN16)
  have A54_ra := A52_ra.wr W54
  have F54_ra_0 := F52_ra_0.other W54 (Or.inl (Ne.symm PN17))
  have F54_ra_1 := F52_ra_1.other W54 (Or.inl (Ne.symm PN17))
  have F54_ra_2 := F52_ra_2.other W54 (Or.inl (Ne.symm PN17))
  have F54_ra_3 := F52_ra_3.other W54 (Or.inl (Ne.symm PN17))
  have F54_ra_4 := F52_ra_4.other W54 (Or.inl (Ne.symm PN17))
  have F54_ra_5 := F52_ra_5.other W54 (Or.inl (Ne.symm PN17))
  have F54_ra_6 := F52_ra_6.other W54 (Or.inl (Ne.symm PN17))
  have F54_ra_7 := F52_ra_7.other W54 (Or.inl (Ne.symm PN17))
  have F54_ra_8 := F52_ra_8.other W54 (Or.inl (Ne.symm PN17))
  have sz54 := Nat.le_trans sz52 (Keep.of_wr W54).1
  have K54 := K52.wr W54 (Or.inl (by simp))
  have N54 := Fr.snoc X54 N52 PG5
  have V54_n : own_AJ Z h54 rr [m5, m8] := V54
  obtain ⟨T55, X55, e55, st55⟩ := getF X54 hx hZ hown (host := "") (Or.inl (H 41 rfl)) Via.refl e54 F54_ra_8 (g := (mkF m 150 #[rv ra, rv rw, iv (1 : Int32), iv (6 : Int32)] [(.ref ra), (.ref ra)])) rfl rfl (D d7_150)
  obtain ⟨T56, X56, e56, st56⟩ := getF X55 hx hZ hown (host := "") (Or.inl (H 37 rfl)) Via.refl e55 F54_ra_3 (g := (mkF m 154 #[rv ra, rv rw, iv (1 : Int32), iv (6 : Int32)] [(.ref ra), (.int ((0 : Int32) + (if ((if (m3 &&& (2 : Int64)) = (0 : Int64) then (0 : Int32) else (1 : Int32)) &&& 1) = (0 : Int32) then (1 : Int32) else (0 : Int32)))), (.ref ra)])) rfl rfl (D d7_154)
  have pre58 : ∀ t, Steps p.tables e below (T56.setTop (mkF m 159 #[rv ra, rv rw, iv (1 : Int32), iv (6 : Int32)] [(.int ((if (m6 &&& (2 : Int64)) = (0 : Int64) then (0 : Int32) else (1 : Int32)) &&& 1)), (.int ((0 : Int32) + (if ((if (m3 &&& (2 : Int64)) = (0 : Int64) then (0 : Int32) else (1 : Int32)) &&& 1) = (0 : Int32) then (1 : Int32) else (0 : Int32)))), (.ref ra)])) t → Steps p.tables e below B0 t := by
    intro t k
    refine pre49 t ?_
    show Steps p.tables e below (T46.setTop (mkF m 125 #[rv ra, rv rw, iv (1 : Int32), iv (6 : Int32)] [(.int (if (m6 &&& (4 : Int64)) = (0 : Int64) then (0 : Int32) else (1 : Int32))), (.int (1 : Int32)), (.ref rt)])) _
    refine st50 _ ?_
    refine XS.aloadN X50.here hx rfl (D d7_126) rfl rfl ?_
    refine st51 _ ?_
    refine XS.iloadN X51.here hx rfl (D d7_130) rfl ?_
    refine XS.aloadN X51.here hx rfl (D d7_131) rfl rfl ?_
    refine XS.iloadN X51.here hx rfl (D d7_132) rfl ?_
    refine XS.iconst X51.here hx rfl (D d7_133) ?_
    refine XS.iadd X51.here hx rfl (D d7_134) rfl ?_
    refine own_laload X51 hx hZ e51 V50_rw (show 0 ≤ Int32.toInt (7 : Int32) ∧ Int32.toInt (7 : Int32) < ((9 : Nat) : Int) by decide) (D d7_135) _ ?_
    refine st52 _ ?_
    refine XS.aloadN X52.here hx rfl (D d7_137) rfl rfl ?_
    refine st53 _ ?_
    refine XS.iloadN X53.here hx rfl (D d7_141) rfl ?_
    refine XS.aloadN X53.here hx rfl (D d7_142) rfl rfl ?_
    refine XS.iloadN X53.here hx rfl (D d7_143) rfl ?_
    refine XS.iconst X53.here hx rfl (D d7_144) ?_
    refine XS.iadd X53.here hx rfl (D d7_145) rfl ?_
    refine own_laload X53 hx hZ e53 V52_rw (show 0 ≤ Int32.toInt (8 : Int32) ∧ Int32.toInt (8 : Int32) < ((9 : Nat) : Int) by decide) (D d7_146) _ ?_
    refine st54 _ ?_
    show Steps p.tables e below (T54.setTop (mkF m 148 #[rv ra, rv rw, iv (1 : Int32), iv (6 : Int32)] [])) _
    refine XS.aloadN X54.here hx rfl (D d7_148) rfl rfl ?_
    refine XS.dup X54.here hx rfl (D d7_149) rfl rfl ?_
    refine st55 _ ?_
    refine XS.aloadN X55.here hx rfl (D d7_153) rfl rfl ?_
    refine st56 _ ?_
    refine XS.iloadN X56.here hx rfl (D d7_157) rfl ?_
    refine own_baloadZ X56 hx hZ e56 V54_rg (show 0 ≤ Int32.toInt (1 : Int32) ∧ Int32.toInt (1 : Int32) < ((2 : Nat) : Int) by decide) (D d7_158) _ ?_
    exact k
  clear V45_rw V45_rl V45_rs V45_rr V45_rt A45_ra F45_ra_0 F45_ra_1 F45_ra_2 F45_ra_3 F45_ra_4 F45_ra_5 F45_ra_6 F45_ra_7 F45_ra_8 sz45 K45 N45 V45_n X46 e46 pre48 pre49 X50 e50 W50 V50 st50 V50_rw V50_rl V50_rs V50_rr V50_rg A50_ra F50_ra_0 F50_ra_1 F50_ra_2 F50_ra_3 F50_ra_4 F50_ra_5 F50_ra_6 F50_ra_7 F50_ra_8 sz50 K50 N50 V50_n X51 e51 st51 X52 e52 W52 V52 st52 V52_rw V52_rs V52_rr V52_rg V52_rt A52_ra F52_ra_0 F52_ra_1 F52_ra_2 F52_ra_3 F52_ra_4 F52_ra_5 F52_ra_6 F52_ra_7 F52_ra_8 sz52 K52 N52 V52_n X53 e53 st53 X54 e54 W54 V54 st54 X55 e55 st55 st56
  have pre59 : ∀ t, Steps p.tables e below (T56.setTop (mkF m 167 #[rv ra, rv rw, iv (1 : Int32), iv (6 : Int32)] [(.int (if ((if (m6 &&& (2 : Int64)) = (0 : Int64) then (0 : Int32) else (1 : Int32)) &&& 1) = (0 : Int32) then (1 : Int32) else (0 : Int32))), (.int ((0 : Int32) + (if ((if (m3 &&& (2 : Int64)) = (0 : Int64) then (0 : Int32) else (1 : Int32)) &&& 1) = (0 : Int32) then (1 : Int32) else (0 : Int32)))), (.ref ra)])) t → Steps p.tables e below B0 t := by
    by_cases c57 : ((if (m6 &&& (2 : Int64)) = (0 : Int64) then (0 : Int32) else (1 : Int32)) &&& 1) = (0 : Int32)
    · try simp only [if_pos c57]
      intro t k
      refine pre58 t ?_
      show Steps p.tables e below (T56.setTop (mkF m 159 #[rv ra, rv rw, iv (1 : Int32), iv (6 : Int32)] [(.int ((if (m6 &&& (2 : Int64)) = (0 : Int64) then (0 : Int32) else (1 : Int32)) &&& 1)), (.int ((0 : Int32) + (if ((if (m3 &&& (2 : Int64)) = (0 : Int64) then (0 : Int32) else (1 : Int32)) &&& 1) = (0 : Int32) then (1 : Int32) else (0 : Int32)))), (.ref ra)])) _
      refine XS.ifYes X56.here hx rfl (pc0 := 159) (pc' := 166) rfl (D d7_159) rfl ((if0 _ _).trans (teq c57).1) (by decide) (by decide) ?_
      refine XS.iconst X56.here hx rfl (D d7_166) ?_
      exact k
    · try simp only [if_neg c57]
      intro t k
      refine pre58 t ?_
      show Steps p.tables e below (T56.setTop (mkF m 159 #[rv ra, rv rw, iv (1 : Int32), iv (6 : Int32)] [(.int ((if (m6 &&& (2 : Int64)) = (0 : Int64) then (0 : Int32) else (1 : Int32)) &&& 1)), (.int ((0 : Int32) + (if ((if (m3 &&& (2 : Int64)) = (0 : Int64) then (0 : Int32) else (1 : Int32)) &&& 1) = (0 : Int32) then (1 : Int32) else (0 : Int32)))), (.ref ra)])) _
      refine XS.ifNo X56.here hx rfl (D d7_159) rfl ((if0 _ _).trans (feq c57).1) ?_
      refine XS.iconst X56.here hx rfl (D d7_162) ?_
      refine XS.goto X56.here hx rfl (pc0 := 163) (pc' := 167) rfl (D d7_163) (by decide) (by decide) ?_
      exact k
  obtain ⟨T60, h60, X60, e60, W60, st60⟩ := putF X56 hx hZ hown (host := "") (Or.inl (H 41 rfl)) Via.refl e56 F54_ra_8 A54_ra (Or.inl (H 42 rfl)) (H 13 rfl) (ty := .int) (by decide) rfl rfl (g := (mkF m 168 #[rv ra, rv rw, iv (1 : Int32), iv (6 : Int32)] [(.int (((0 : Int32) + (if ((if (m3 &&& (2 : Int64)) = (0 : Int64) then (0 : Int32) else (1 : Int32)) &&& 1) = (0 : Int32) then (1 : Int32) else (0 : Int32))) + (if ((if (m6 &&& (2 : Int64)) = (0 : Int64) then (0 : Int32) else (1 : Int32)) &&& 1) = (0 : Int32) then (1 : Int32) else (0 : Int32)))), (.ref ra)])) rfl rfl (D d7_168)
  have V60_rw := V54_rw.other W60 PN5
  have V60_rl := V54_rl.other W60 PN10
  have V60_rs := V54_rs.other W60 PN14
  have V60_rr := V54_n.other W60 PN17
  have V60_rg := V54_rg.other W60 PN19
  have V60_rt := V54_rt.other W60 PN20
  have A60_ra := A54_ra.wr W60
  have F60_ra_0 := F54_ra_0.other W60 (Or.inr (own_sn_88 hw))
  have F60_ra_1 := F54_ra_1.other W60 (Or.inr (own_sn_89 hw))
  have F60_ra_2 := F54_ra_2.other W60 (Or.inr (own_sn_90 hw))
  have F60_ra_3 := F54_ra_3.other W60 (Or.inr (own_sn_91 hw))
  have F60_ra_4 := F54_ra_4.other W60 (Or.inr (own_sn_92 hw))
  have F60_ra_5 := F54_ra_5.other W60 (Or.inr (own_sn_93 hw))
  have F60_ra_6 := F54_ra_6.other W60 (Or.inr (own_sn_94 hw))
  have F60_ra_7 := F54_ra_7.other W60 (Or.inr (own_sn_85 hw))
  have sz60 := Nat.le_trans sz54 (Keep.of_wr W60).1
  have K60 := K54.wr W60 (Or.inl (by simp))
  have N60 := Fr.snoc X60 N54 PG0
  have F60_s : Fld Z h60 ra own_S "open" "I" (.int (((0 : Int32) + (if ((if (m3 &&& (2 : Int64)) = (0 : Int64) then (0 : Int32) else (1 : Int32)) &&& 1) = (0 : Int32) then (1 : Int32) else (0 : Int32))) + (if ((if (m6 &&& (2 : Int64)) = (0 : Int64) then (0 : Int32) else (1 : Int32)) &&& 1) = (0 : Int32) then (1 : Int32) else (0 : Int32)))) := F54_ra_8.same W60
  obtain ⟨T61, X61, e61, st61⟩ := getF X60 hx hZ hown (host := "") (Or.inl (H 37 rfl)) Via.refl e60 F60_ra_3 (g := (mkF m 46 #[rv ra, rv rw, iv (2 : Int32), iv (6 : Int32)] [(.ref ra), (.int (2 : Int32))])) rfl rfl (D d7_46)
  obtain ⟨fs, hr, hrun, hended, hW, hsame⟩ := X61.leave (v := none) (fun _ => rfl) hlk
  refine ⟨_, _, pre59 _ ?_, hrun, hended, _, _, rfl, ?_, ⟨_, rfl⟩, hW, hsame.mono (by decide) (by decide)⟩
  · show Steps p.tables e below (T56.setTop (mkF m 167 #[rv ra, rv rw, iv (1 : Int32), iv (6 : Int32)] [(.int (if ((if (m6 &&& (2 : Int64)) = (0 : Int64) then (0 : Int32) else (1 : Int32)) &&& 1) = (0 : Int32) then (1 : Int32) else (0 : Int32))), (.int ((0 : Int32) + (if ((if (m3 &&& (2 : Int64)) = (0 : Int64) then (0 : Int32) else (1 : Int32)) &&& 1) = (0 : Int32) then (1 : Int32) else (0 : Int32)))), (.ref ra)])) _
    refine XS.iadd X56.here hx rfl (D d7_167) rfl ?_
    refine st60 _ ?_
    refine XS.iinc X60.here hx rfl (D d7_171) rfl (l' := #[rv ra, rv rw, iv (2 : Int32), iv (6 : Int32)]) rfl ?_
    refine XS.goto X60.here hx rfl (pc0 := 174) (pc' := 44) rfl (D d7_174) (by decide) (by decide) ?_
    refine XS.iloadN X60.here hx rfl (D d7_44) rfl ?_
    refine XS.aloadN X60.here hx rfl (D d7_45) rfl rfl ?_
    refine st61 _ ?_
    refine own_alenI X61 hx hZ e61 V60_rg (D d7_49) _ ?_
    show Steps p.tables e below (T61.setTop (mkF m 50 #[rv ra, rv rw, iv (2 : Int32), iv (6 : Int32)] [(.int (2 : Int32)), (.int (2 : Int32))])) _
    refine XS.icmpYes X61.here hx rfl (pc0 := 50) (pc' := 177) rfl (D d7_50) rfl (by decide) (by decide) (by decide) ?_
    show Steps p.tables e below (T61.setTop (mkF m 177 #[rv ra, rv rw, iv (2 : Int32), iv (6 : Int32)] [])) _
    exact X61.returnOut hx Bd.returns (D d7_177) hr
  · show Q7_2 Z ra rw rl rs rr rg rt sd lt ll op m0 m1 m2 m3 m4 m5 m6 m7 m8 jl0 jl1 jr0 jr1 bs0 bs1 bg0 bg1 bt0 bt1 h0 n0 _ T61.heap _
    rw [e61]
    exact ⟨rfl, N60, K60, A60_ra, F60_ra_0, F60_ra_1, F60_ra_2, F60_ra_3, F60_ra_4, F60_ra_5, F60_ra_6, F60_ra_7, V60_rw, V60_rl, V60_rs, V60_rr, V60_rg, V60_rt⟩
theorem ef_4_3 (m : MethodId) (ra : Addr) : entryFrame m #[(.ref ra), (.int (3 : Int32)), (.long (1 : Int64)), (.int (0 : Int32))] 5 = mkF m 0 #[rv ra, iv (3 : Int32), jv (1 : Int64), s2, iv (0 : Int32)] [] := by first | (simp [entryFrame, mkF, argsToLocals, Value.category, maxLocals]; done) | rfl
def Q4_3 (Z : State) (ra : Addr)  (h0 : Heap) (n0 : Nat) (v : Option Value) (h : Heap) (L : List Loc) : Prop := v = none ∧ Fr n0 L ∧ ∃ rl rs rr rg rt : Addr, (h0.size ≤ rl ∧ h0.size ≤ rs ∧ h0.size ≤ rr ∧ h0.size ≤ rg ∧ h0.size ≤ rt) ∧ (rl ≠ rs ∧ rl ≠ rr ∧ rl ≠ rg ∧ rl ≠ rt ∧ rs ≠ rr ∧ rs ≠ rg ∧ rs ≠ rt ∧ rr ≠ rg ∧ rr ≠ rt ∧ rg ≠ rt) ∧ Keep h0 h [ra] ∧ Exa Z h ra "com/example/tributary/tributary/io/Silence" ∧ Fld Z h ra own_S "last" "[J" (.ref rl) ∧ Fld Z h ra own_S "sent" "[Z" (.ref rs) ∧ Fld Z h ra own_S "runs" "[J" (.ref rr) ∧ Fld Z h ra own_S "gone" "[Z" (.ref rg) ∧ Fld Z h ra own_S "stopped" "[Z" (.ref rt) ∧ Fld Z h ra own_S "open" "I" (.int (3 : Int32)) ∧ Fld Z h ra own_S "lastLeft" "I" (.int (-1 : Int32)) ∧ Fld Z h ra own_S "started" "Z" (.int (0 : Int32)) ∧ Fld Z h ra own_S "latest" "J" (.long (0 : Int64)) ∧ own_AJ Z h rl [(0 : Int64), (0 : Int64), (0 : Int64)] ∧ own_AI Z h rs .boolean [(0 : Int32), (0 : Int32), (0 : Int32)] ∧ own_AJ Z h rr [(0 : Int64), (0 : Int64), (0 : Int64)] ∧ own_AI Z h rg .boolean [(0 : Int32), (0 : Int32), (0 : Int32)] ∧ own_AI Z h rt .boolean [(0 : Int32), (0 : Int32), (0 : Int32)]
set_option maxRecDepth 65536 in
set_option maxHeartbeats 40000000 in
theorem rm4_3 (l : Launch) (Z : State) (a0 : Array Value) (hw : ∀ d ∈ tables_1, d.before a0 Z = true) (ws : List Jvm.Cond) (ra : Addr)  (h0 : Heap) (n0 : Nat) (Z0 : n0 ≤ h0.size) (PE0 : Exa Z h0 ra "com/example/tributary/tributary/io/Silence") (PF0 : Fld Z h0 ra own_S "lastLeft" "I" (.int (0 : Int32))) (PF1 : Fld Z h0 ra own_S "limit" "J" (.long (0 : Int64))) (PF2 : Fld Z h0 ra own_S "includesLast" "Z" (.int (0 : Int32))) (PF3 : Fld Z h0 ra own_S "last" "[J" .null) (PF4 : Fld Z h0 ra own_S "sent" "[Z" .null) (PF5 : Fld Z h0 ra own_S "runs" "[J" .null) (PF6 : Fld Z h0 ra own_S "gone" "[Z" .null) (PF7 : Fld Z h0 ra own_S "stopped" "[Z" .null) (PF8 : Fld Z h0 ra own_S "open" "I" (.int (0 : Int32))) (PF9 : Fld Z h0 ra own_S "started" "Z" (.int (0 : Int32))) (PF10 : Fld Z h0 ra own_S "latest" "J" (.long (0 : Int64))) (PG0 : n0 ≤ ra) :
    MetFree l (⟨"com/example/tributary/tributary/io/Silence", "<init>", "(IJZ)V"⟩ : MethodName) (head1 (Jvm.Cond.code (⟨"com/example/tributary/tributary/io/Silence", "<init>", "(IJZ)V"⟩ : MethodName) prog_43_method_2_code 5 none :: ws) ({ frames := 1, cells := 5, slots := 15, locals := 12 } : Room)) (fun a U => a = #[(.ref ra), (.int (3 : Int32)), (.long (1 : Int64)), (.int (0 : Int32))] ∧ Z.Warmed39 U.vm ∧ U.heap = h0) (fun _ _ _ _ _ => True) (fun _ U o U' => ∃ v L, o = .returned v ∧ Q4_3 Z ra h0 n0 v U'.heap L ∧ FrameEnd U o U' L ({ frames := 1, cells := 5, slots := 15, locals := 12 } : Room).cells ({ frames := 1, cells := 5, slots := 15, locals := 12 } : Room).slots) := by
  refine MetFree.of_bodySF (plainFor_of_name pn_4) hisR ?_
  intro p e s m args below meth c s₁ Bd hml0 hP hK
  obtain ⟨rfl, hZ, hh⟩ := hP
  have hx := Bd.exec
  have hby := Bd.bytes
  have hml : c.maxLocals = 5 := hml0
  have hown : s.vm.findClass "com/example/tributary/tributary/io/Silence" = some m.cls := findClass_of_methodNamed Bd.named
  have hnm := (name_of_methodNamed Bd.named Bd.method).1
  have X0 : Stand p l e ({ frames := 1, cells := 5, slots := 15, locals := 12 } : Room) s m #[(.ref ra), (.int (3 : Int32)), (.long (1 : Int64)), (.int (0 : Int32))] below meth c s₁ [] 0 0 := Stand.of_body Bd
  have hlk : meth.locks = false := by first | exact BodyLoose.notSynchronized (by assumption) | exact Body.notSynchronized (by assumption)
  have e0 : s₁.heap = h0 := by rw [← hh, Bd.state]; rfl
  have N0 := Fr.nil n0
  have pre0 : ∀ t, Steps p.tables e below (s₁.setTop (mkF m 0 #[rv ra, iv (3 : Int32), jv (1 : Int64), s2, iv (0 : Int32)] [])) t → Steps p.tables e below (s₁.setTop (entryFrame m #[(.ref ra), (.int (3 : Int32)), (.long (1 : Int64)), (.int (0 : Int32))] 5)) t := fun t k => castTop (ef_4_3 m ra) k
  generalize s₁.setTop (entryFrame m #[(.ref ra), (.int (3 : Int32)), (.long (1 : Int64)), (.int (0 : Int32))] 5) = B0 at pre0 ⊢
  have H : ∀ (i : Nat) {d : Jvm.Cond}, tables_1[i]? = some d → d.before a0 Z = true := fun i d q => hw d (List.mem_of_getElem? q)
  have D : ∀ {pc : Nat} {r : Except DecodeError (Instr × Nat)}, decode prog_43_method_2_code pc = r → decode c.code pc = r := fun q => hb hby q
  obtain ⟨T1, X1, e1, st1⟩ := initO X0 hx hZ hown (H 21 rfl) (H 22 rfl) (H 23 rfl) e0 (g := (mkF m 1 #[rv ra, iv (3 : Int32), jv (1 : Int64), s2, iv (0 : Int32)] [(.ref ra)])) rfl (by rw [hml]; rfl) rfl (D d4_1) (by decide) (W := 0) (by show 2 * 0 + _ ≤ _; exact Nat.le_of_eq rfl) (by decide)
  obtain ⟨T2, h2, X2, e2, W2, st2⟩ := putF X1 hx hZ hown (host := "") (Or.inl (H 24 rfl)) Via.refl e1 PF0 PE0 (Or.inl (H 25 rfl)) (H 13 rfl) (ty := .int) (by decide) rfl rfl (g := (mkF m 6 #[rv ra, iv (3 : Int32), jv (1 : Int64), s2, iv (0 : Int32)] [(.int (-1 : Int32)), (.ref ra)])) rfl rfl (D d4_6)
  have A2_ra := PE0.wr W2
  have F2_ra_1 := PF1.other W2 (Or.inr (own_sn_5 hw))
  have F2_ra_2 := PF2.other W2 (Or.inr (own_sn_6 hw))
  have F2_ra_3 := PF3.other W2 (Or.inr (own_sn_7 hw))
  have F2_ra_4 := PF4.other W2 (Or.inr (own_sn_8 hw))
  have F2_ra_5 := PF5.other W2 (Or.inr (own_sn_9 hw))
  have F2_ra_6 := PF6.other W2 (Or.inr (own_sn_10 hw))
  have F2_ra_7 := PF7.other W2 (Or.inr (own_sn_11 hw))
  have F2_ra_8 := PF8.other W2 (Or.inr (own_sn_12 hw))
  have F2_ra_9 := PF9.other W2 (Or.inr (own_sn_13 hw))
  have F2_ra_10 := PF10.other W2 (Or.inr (own_sn_14 hw))
  have sz2 := Nat.le_trans Z0 (Keep.of_wr W2).1
  have K2 := (Keep.refl h0 ([ra] : List Addr)).wr W2 (Or.inl (by simp))
  have N2 := Fr.snoc X2 N0 PG0
  have F2_s : Fld Z h2 ra own_S "lastLeft" "I" (.int (-1 : Int32)) := PF0.same W2
  obtain ⟨T3, h3, X3, e3, W3, st3⟩ := putF X2 hx hZ hown (host := "") (Or.inl (H 26 rfl)) Via.refl e2 F2_ra_1 A2_ra (Or.inr ⟨(H 27 rfl), rfl, hnm⟩) (H 13 rfl) (ty := .long) (by decide) rfl rfl (g := (mkF m 46 #[rv ra, iv (3 : Int32), jv (1 : Int64), s2, iv (0 : Int32)] [(.long (1 : Int64)), (.ref ra)])) rfl rfl (D d4_46)
  have A3_ra := A2_ra.wr W3
  have F3_ra_0 := F2_s.other W3 (Or.inr (own_sn_15 hw))
  have F3_ra_2 := F2_ra_2.other W3 (Or.inr (own_sn_16 hw))
  have F3_ra_3 := F2_ra_3.other W3 (Or.inr (own_sn_17 hw))
  have F3_ra_4 := F2_ra_4.other W3 (Or.inr (own_sn_18 hw))
  have F3_ra_5 := F2_ra_5.other W3 (Or.inr (own_sn_19 hw))
  have F3_ra_6 := F2_ra_6.other W3 (Or.inr (own_sn_20 hw))
  have F3_ra_7 := F2_ra_7.other W3 (Or.inr (own_sn_21 hw))
  have F3_ra_8 := F2_ra_8.other W3 (Or.inr (own_sn_22 hw))
  have F3_ra_9 := F2_ra_9.other W3 (Or.inr (own_sn_23 hw))
  have F3_ra_10 := F2_ra_10.other W3 (Or.inr (own_sn_24 hw))
  have sz3 := Nat.le_trans sz2 (Keep.of_wr W3).1
  have K3 := K2.wr W3 (Or.inl (by simp))
  have N3 := Fr.snoc X3 N2 PG0
  have F3_s : Fld Z h3 ra own_S "limit" "J" (.long (1 : Int64)) := F2_ra_1.same W3
  obtain ⟨T4, h4, X4, e4, W4, st4⟩ := putF X3 hx hZ hown (host := "") (Or.inl (H 28 rfl)) Via.refl e3 F3_ra_2 A3_ra (Or.inr ⟨(H 29 rfl), rfl, hnm⟩) (H 13 rfl) (ty := .boolean) (by decide) rfl rfl (g := (mkF m 52 #[rv ra, iv (3 : Int32), jv (1 : Int64), s2, iv (0 : Int32)] [(.int (0 : Int32)), (.ref ra)])) rfl rfl (D d4_52)
  have A4_ra := A3_ra.wr W4
  have F4_ra_0 := F3_ra_0.other W4 (Or.inr (own_sn_25 hw))
  have F4_ra_1 := F3_s.other W4 (Or.inr (own_sn_26 hw))
  have F4_ra_3 := F3_ra_3.other W4 (Or.inr (own_sn_27 hw))
  have F4_ra_4 := F3_ra_4.other W4 (Or.inr (own_sn_28 hw))
  have F4_ra_5 := F3_ra_5.other W4 (Or.inr (own_sn_29 hw))
  have F4_ra_6 := F3_ra_6.other W4 (Or.inr (own_sn_30 hw))
  have F4_ra_7 := F3_ra_7.other W4 (Or.inr (own_sn_31 hw))
  have F4_ra_8 := F3_ra_8.other W4 (Or.inr (own_sn_32 hw))
  have F4_ra_9 := F3_ra_9.other W4 (Or.inr (own_sn_33 hw))
  have F4_ra_10 := F3_ra_10.other W4 (Or.inr (own_sn_34 hw))
  have sz4 := Nat.le_trans sz3 (Keep.of_wr W4).1
  have K4 := K3.wr W4 (Or.inl (by simp))
  have N4 := Fr.snoc X4 N3 PG0
  have F4_s : Fld Z h4 ra own_S "includesLast" "Z" (.int (0 : Int32)) := F3_ra_2.same W4
  obtain ⟨T5, h5, cA5, X5, e5, E5, A5, st5⟩ := newP X4 hx hZ (aty := .long) (H 11 rfl) e4 (g := (mkF m 57 #[rv ra, iv (3 : Int32), jv (1 : Int64), s2, iv (0 : Int32)] [(.int (3 : Int32)), (.ref ra)])) rfl (D d4_57) rfl (by decide) (cap := 3) (by decide) (by decide) (by decide) (by decide)
  obtain ⟨a5, g5⟩ : ∃ z, z = h4.size := ⟨_, rfl⟩
  rw [← g5] at A5 st5
  have ne_ra_a5 : ra ≠ a5 := g5 ▸ Nat.ne_of_lt A4_ra.lt
  have ge_a5 : n0 ≤ a5 := g5 ▸ sz4
  have go_a5 : h0.size ≤ a5 := g5 ▸ K4.1
  have A5_ra := A4_ra.ext E5
  have F5_ra_0 := F4_ra_0.ext E5
  have F5_ra_1 := F4_ra_1.ext E5
  have F5_ra_2 := F4_s.ext E5
  have F5_ra_3 := F4_ra_3.ext E5
  have F5_ra_4 := F4_ra_4.ext E5
  have F5_ra_5 := F4_ra_5.ext E5
  have F5_ra_6 := F4_ra_6.ext E5
  have F5_ra_7 := F4_ra_7.ext E5
  have F5_ra_8 := F4_ra_8.ext E5
  have F5_ra_9 := F4_ra_9.ext E5
  have F5_ra_10 := F4_ra_10.ext E5
  have sz5 := Nat.le_trans sz4 E5.1
  have K5 : Keep h0 h5 [ra] := K4.ext E5
  have V5_n : own_AJ Z h5 a5 [(0 : Int64), (0 : Int64), (0 : Int64)] := own_AJ_new A5 (k := 3) (by decide)
  obtain ⟨T6, h6, X6, e6, W6, st6⟩ := putF X5 hx hZ hown (host := "") (Or.inl (H 30 rfl)) Via.refl e5 F5_ra_3 A5_ra (Or.inr ⟨(H 31 rfl), rfl, hnm⟩) (H 13 rfl) (ty := (.array .long)) (by decide) rfl rfl (g := (mkF m 59 #[rv ra, iv (3 : Int32), jv (1 : Int64), s2, iv (0 : Int32)] [(.ref a5), (.ref ra)])) rfl rfl (D d4_59)
  have V6_a5 := V5_n.other W6 (Ne.symm ne_ra_a5)
  have A6_ra := A5_ra.wr W6
  have F6_ra_0 := F5_ra_0.other W6 (Or.inr (own_sn_35 hw))
  have F6_ra_1 := F5_ra_1.other W6 (Or.inr (own_sn_36 hw))
  have F6_ra_2 := F5_ra_2.other W6 (Or.inr (own_sn_37 hw))
  have F6_ra_4 := F5_ra_4.other W6 (Or.inr (own_sn_38 hw))
  have F6_ra_5 := F5_ra_5.other W6 (Or.inr (own_sn_39 hw))
  have F6_ra_6 := F5_ra_6.other W6 (Or.inr (own_sn_40 hw))
  have F6_ra_7 := F5_ra_7.other W6 (Or.inr (own_sn_41 hw))
  have F6_ra_8 := F5_ra_8.other W6 (Or.inr (own_sn_42 hw))
  have F6_ra_9 := F5_ra_9.other W6 (Or.inr (own_sn_43 hw))
  have F6_ra_10 := F5_ra_10.other W6 (Or.inr (own_sn_44 hw))
  have sz6 := Nat.le_trans sz5 (Keep.of_wr W6).1
  have K6 := K5.wr W6 (Or.inl (by simp))
  have N6 := Fr.snoc X6 N4 PG0
  have F6_s : Fld Z h6 ra own_S "last" "[J" (.ref a5) := F5_ra_3.same W6
  obtain ⟨T7, h7, cA7, X7, e7, E7, A7, st7⟩ := newP X6 hx hZ (aty := .boolean) (H 32 rfl) e6 (g := (mkF m 64 #[rv ra, iv (3 : Int32), jv (1 : Int64), s2, iv (0 : Int32)] [(.int (3 : Int32)), (.ref ra)])) rfl (D d4_64) rfl (by decide) (cap := 3) (by decide) (by decide) (by decide) (by decide)
  obtain ⟨a7, g7⟩ : ∃ z, z = h6.size := ⟨_, rfl⟩
  rw [← g7] at A7 st7
  have ne_a5_a7 : a5 ≠ a7 := g7 ▸ Nat.ne_of_lt V6_a5.lt
  have ne_ra_a7 : ra ≠ a7 := g7 ▸ Nat.ne_of_lt A6_ra.lt
  have ge_a7 : n0 ≤ a7 := g7 ▸ sz6
  have go_a7 : h0.size ≤ a7 := g7 ▸ K6.1
  have V7_a5 := V6_a5.ext E7
  have A7_ra := A6_ra.ext E7
  have F7_ra_0 := F6_ra_0.ext E7
  have F7_ra_1 := F6_ra_1.ext E7
  have F7_ra_2 := F6_ra_2.ext E7
  have F7_ra_3 := F6_s.ext E7
  have F7_ra_4 := F6_ra_4.ext E7
  have F7_ra_5 := F6_ra_5.ext E7
  have F7_ra_6 := F6_ra_6.ext E7
  have F7_ra_7 := F6_ra_7.ext E7
  have F7_ra_8 := F6_ra_8.ext E7
  have F7_ra_9 := F6_ra_9.ext E7
  have F7_ra_10 := F6_ra_10.ext E7
  have sz7 := Nat.le_trans sz6 E7.1
  have K7 : Keep h0 h7 [ra] := K6.ext E7
  have V7_n : own_AI Z h7 a7 .boolean [(0 : Int32), (0 : Int32), (0 : Int32)] := own_AIboolean_new A7 (k := 3) (by decide)
  obtain ⟨T8, h8, X8, e8, W8, st8⟩ := putF X7 hx hZ hown (host := "") (Or.inl (H 33 rfl)) Via.refl e7 F7_ra_4 A7_ra (Or.inr ⟨(H 34 rfl), rfl, hnm⟩) (H 13 rfl) (ty := (.array .boolean)) (by decide) rfl rfl (g := (mkF m 66 #[rv ra, iv (3 : Int32), jv (1 : Int64), s2, iv (0 : Int32)] [(.ref a7), (.ref ra)])) rfl rfl (D d4_66)
  have V8_a5 := V7_a5.other W8 (Ne.symm ne_ra_a5)
  have V8_a7 := V7_n.other W8 (Ne.symm ne_ra_a7)
  have A8_ra := A7_ra.wr W8
  have F8_ra_0 := F7_ra_0.other W8 (Or.inr (own_sn_45 hw))
  have F8_ra_1 := F7_ra_1.other W8 (Or.inr (own_sn_46 hw))
  have F8_ra_2 := F7_ra_2.other W8 (Or.inr (own_sn_47 hw))
  have F8_ra_3 := F7_ra_3.other W8 (Or.inr (own_sn_48 hw))
  have F8_ra_5 := F7_ra_5.other W8 (Or.inr (own_sn_49 hw))
  have F8_ra_6 := F7_ra_6.other W8 (Or.inr (own_sn_50 hw))
  have F8_ra_7 := F7_ra_7.other W8 (Or.inr (own_sn_51 hw))
  have F8_ra_8 := F7_ra_8.other W8 (Or.inr (own_sn_52 hw))
  have F8_ra_9 := F7_ra_9.other W8 (Or.inr (own_sn_53 hw))
  have F8_ra_10 := F7_ra_10.other W8 (Or.inr (own_sn_54 hw))
  have sz8 := Nat.le_trans sz7 (Keep.of_wr W8).1
  have K8 := K7.wr W8 (Or.inl (by simp))
  have N8 := Fr.snoc X8 N6 PG0
  have F8_s : Fld Z h8 ra own_S "sent" "[Z" (.ref a7) := F7_ra_4.same W8
  obtain ⟨T9, h9, cA9, X9, e9, E9, A9, st9⟩ := newP X8 hx hZ (aty := .long) (H 11 rfl) e8 (g := (mkF m 71 #[rv ra, iv (3 : Int32), jv (1 : Int64), s2, iv (0 : Int32)] [(.int (3 : Int32)), (.ref ra)])) rfl (D d4_71) rfl (by decide) (cap := 3) (by decide) (by decide) (by decide) (by decide)
  obtain ⟨a9, g9⟩ : ∃ z, z = h8.size := ⟨_, rfl⟩
  rw [← g9] at A9 st9
  have ne_a5_a9 : a5 ≠ a9 := g9 ▸ Nat.ne_of_lt V8_a5.lt
  have ne_a7_a9 : a7 ≠ a9 := g9 ▸ Nat.ne_of_lt V8_a7.lt
  have ne_ra_a9 : ra ≠ a9 := g9 ▸ Nat.ne_of_lt A8_ra.lt
  have ge_a9 : n0 ≤ a9 := g9 ▸ sz8
  have go_a9 : h0.size ≤ a9 := g9 ▸ K8.1
  have V9_a5 := V8_a5.ext E9
  have V9_a7 := V8_a7.ext E9
  have A9_ra := A8_ra.ext E9
  have F9_ra_0 := F8_ra_0.ext E9
  have F9_ra_1 := F8_ra_1.ext E9
  have F9_ra_2 := F8_ra_2.ext E9
  have F9_ra_3 := F8_ra_3.ext E9
  have F9_ra_4 := F8_s.ext E9
  have F9_ra_5 := F8_ra_5.ext E9
  have F9_ra_6 := F8_ra_6.ext E9
  have F9_ra_7 := F8_ra_7.ext E9
  have F9_ra_8 := F8_ra_8.ext E9
  have F9_ra_9 := F8_ra_9.ext E9
  have F9_ra_10 := F8_ra_10.ext E9
  have sz9 := Nat.le_trans sz8 E9.1
  have K9 : Keep h0 h9 [ra] := K8.ext E9
  have V9_n : own_AJ Z h9 a9 [(0 : Int64), (0 : Int64), (0 : Int64)] := own_AJ_new A9 (k := 3) (by decide)
  obtain ⟨T10, h10, X10, e10, W10, st10⟩ := putF X9 hx hZ hown (host := "") (Or.inl (H 35 rfl)) Via.refl e9 F9_ra_5 A9_ra (Or.inr ⟨(H 36 rfl), rfl, hnm⟩) (H 13 rfl) (ty := (.array .long)) (by decide) rfl rfl (g := (mkF m 73 #[rv ra, iv (3 : Int32), jv (1 : Int64), s2, iv (0 : Int32)] [(.ref a9), (.ref ra)])) rfl rfl (D d4_73)
  have V10_a5 := V9_a5.other W10 (Ne.symm ne_ra_a5)
  have V10_a7 := V9_a7.other W10 (Ne.symm ne_ra_a7)
  have V10_a9 := V9_n.other W10 (Ne.symm ne_ra_a9)
  have A10_ra := A9_ra.wr W10
  have F10_ra_0 := F9_ra_0.other W10 (Or.inr (own_sn_55 hw))
  have F10_ra_1 := F9_ra_1.other W10 (Or.inr (own_sn_56 hw))
  have F10_ra_2 := F9_ra_2.other W10 (Or.inr (own_sn_57 hw))
  have F10_ra_3 := F9_ra_3.other W10 (Or.inr (own_sn_58 hw))
  have F10_ra_4 := F9_ra_4.other W10 (Or.inr (own_sn_59 hw))
  have F10_ra_6 := F9_ra_6.other W10 (Or.inr (own_sn_60 hw))
  have F10_ra_7 := F9_ra_7.other W10 (Or.inr (own_sn_61 hw))
  have F10_ra_8 := F9_ra_8.other W10 (Or.inr (own_sn_62 hw))
  have F10_ra_9 := F9_ra_9.other W10 (Or.inr (own_sn_63 hw))
  have F10_ra_10 := F9_ra_10.other W10 (Or.inr (own_sn_64 hw))
  have sz10 := Nat.le_trans sz9 (Keep.of_wr W10).1
  have K10 := K9.wr W10 (Or.inl (by simp))
  have N10 := Fr.snoc X10 N8 PG0
  have F10_s : Fld Z h10 ra own_S "runs" "[J" (.ref a9) := F9_ra_5.same W10
  obtain ⟨T11, h11, cA11, X11, e11, E11, A11, st11⟩ := newP X10 hx hZ (aty := .boolean) (H 32 rfl) e10 (g := (mkF m 78 #[rv ra, iv (3 : Int32), jv (1 : Int64), s2, iv (0 : Int32)] [(.int (3 : Int32)), (.ref ra)])) rfl (D d4_78) rfl (by decide) (cap := 3) (by decide) (by decide) (by decide) (by decide)
  obtain ⟨a11, g11⟩ : ∃ z, z = h10.size := ⟨_, rfl⟩
  rw [← g11] at A11 st11
  have ne_a5_a11 : a5 ≠ a11 := g11 ▸ Nat.ne_of_lt V10_a5.lt
  have ne_a7_a11 : a7 ≠ a11 := g11 ▸ Nat.ne_of_lt V10_a7.lt
  have ne_a9_a11 : a9 ≠ a11 := g11 ▸ Nat.ne_of_lt V10_a9.lt
  have ne_ra_a11 : ra ≠ a11 := g11 ▸ Nat.ne_of_lt A10_ra.lt
  have ge_a11 : n0 ≤ a11 := g11 ▸ sz10
  have go_a11 : h0.size ≤ a11 := g11 ▸ K10.1
  have V11_a5 := V10_a5.ext E11
  have V11_a7 := V10_a7.ext E11
  have V11_a9 := V10_a9.ext E11
  have A11_ra := A10_ra.ext E11
  have F11_ra_0 := F10_ra_0.ext E11
  have F11_ra_1 := F10_ra_1.ext E11
  have F11_ra_2 := F10_ra_2.ext E11
  have F11_ra_3 := F10_ra_3.ext E11
  have F11_ra_4 := F10_ra_4.ext E11
  have F11_ra_5 := F10_s.ext E11
  have F11_ra_6 := F10_ra_6.ext E11
  have F11_ra_7 := F10_ra_7.ext E11
  have F11_ra_8 := F10_ra_8.ext E11
  have F11_ra_9 := F10_ra_9.ext E11
  have F11_ra_10 := F10_ra_10.ext E11
  have sz11 := Nat.le_trans sz10 E11.1
  have K11 : Keep h0 h11 [ra] := K10.ext E11
  have V11_n : own_AI Z h11 a11 .boolean [(0 : Int32), (0 : Int32), (0 : Int32)] := own_AIboolean_new A11 (k := 3) (by decide)
  obtain ⟨T12, h12, X12, e12, W12, st12⟩ := putF X11 hx hZ hown (host := "") (Or.inl (H 37 rfl)) Via.refl e11 F11_ra_6 A11_ra (Or.inr ⟨(H 38 rfl), rfl, hnm⟩) (H 13 rfl) (ty := (.array .boolean)) (by decide) rfl rfl (g := (mkF m 80 #[rv ra, iv (3 : Int32), jv (1 : Int64), s2, iv (0 : Int32)] [(.ref a11), (.ref ra)])) rfl rfl (D d4_80)
  have V12_a5 := V11_a5.other W12 (Ne.symm ne_ra_a5)
  have V12_a7 := V11_a7.other W12 (Ne.symm ne_ra_a7)
  have V12_a9 := V11_a9.other W12 (Ne.symm ne_ra_a9)
  have V12_a11 := V11_n.other W12 (Ne.symm ne_ra_a11)
  have A12_ra := A11_ra.wr W12
  have F12_ra_0 := F11_ra_0.other W12 (Or.inr (own_sn_65 hw))
  have F12_ra_1 := F11_ra_1.other W12 (Or.inr (own_sn_66 hw))
  have F12_ra_2 := F11_ra_2.other W12 (Or.inr (own_sn_67 hw))
  have F12_ra_3 := F11_ra_3.other W12 (Or.inr (own_sn_68 hw))
  have F12_ra_4 := F11_ra_4.other W12 (Or.inr (own_sn_69 hw))
  have F12_ra_5 := F11_ra_5.other W12 (Or.inr (own_sn_70 hw))
  have F12_ra_7 := F11_ra_7.other W12 (Or.inr (own_sn_71 hw))
  have F12_ra_8 := F11_ra_8.other W12 (Or.inr (own_sn_72 hw))
  have F12_ra_9 := F11_ra_9.other W12 (Or.inr (own_sn_73 hw))
  have F12_ra_10 := F11_ra_10.other W12 (Or.inr (own_sn_74 hw))
  have sz12 := Nat.le_trans sz11 (Keep.of_wr W12).1
  have K12 := K11.wr W12 (Or.inl (by simp))
  have N12 := Fr.snoc X12 N10 PG0
  have F12_s : Fld Z h12 ra own_S "gone" "[Z" (.ref a11) := F11_ra_6.same W12
  obtain ⟨T13, h13, cA13, X13, e13, E13, A13, st13⟩ := newP X12 hx hZ (aty := .boolean) (H 32 rfl) e12 (g := (mkF m 85 #[rv ra, iv (3 : Int32), jv (1 : Int64), s2, iv (0 : Int32)] [(.int (3 : Int32)), (.ref ra)])) rfl (D d4_85) rfl (by decide) (cap := 3) (by decide) (by decide) (by decide) (by decide)
  obtain ⟨a13, g13⟩ : ∃ z, z = h12.size := ⟨_, rfl⟩
  rw [← g13] at A13 st13
  have ne_a5_a13 : a5 ≠ a13 := g13 ▸ Nat.ne_of_lt V12_a5.lt
  have ne_a7_a13 : a7 ≠ a13 := g13 ▸ Nat.ne_of_lt V12_a7.lt
  have ne_a9_a13 : a9 ≠ a13 := g13 ▸ Nat.ne_of_lt V12_a9.lt
  have ne_a11_a13 : a11 ≠ a13 := g13 ▸ Nat.ne_of_lt V12_a11.lt
  have ne_ra_a13 : ra ≠ a13 := g13 ▸ Nat.ne_of_lt A12_ra.lt
  have ge_a13 : n0 ≤ a13 := g13 ▸ sz12
  have go_a13 : h0.size ≤ a13 := g13 ▸ K12.1
  have V13_a5 := V12_a5.ext E13
  have V13_a7 := V12_a7.ext E13
  have V13_a9 := V12_a9.ext E13
  have V13_a11 := V12_a11.ext E13
  have A13_ra := A12_ra.ext E13
  have F13_ra_0 := F12_ra_0.ext E13
  have F13_ra_1 := F12_ra_1.ext E13
  have F13_ra_2 := F12_ra_2.ext E13
  have F13_ra_3 := F12_ra_3.ext E13
  have F13_ra_4 := F12_ra_4.ext E13
  have F13_ra_5 := F12_ra_5.ext E13
  have F13_ra_6 := F12_s.ext E13
  have F13_ra_7 := F12_ra_7.ext E13
  have F13_ra_8 := F12_ra_8.ext E13
  have F13_ra_9 := F12_ra_9.ext E13
  have F13_ra_10 := F12_ra_10.ext E13
  have sz13 := Nat.le_trans sz12 E13.1
  have K13 : Keep h0 h13 [ra] := K12.ext E13
  have V13_n : own_AI Z h13 a13 .boolean [(0 : Int32), (0 : Int32), (0 : Int32)] := own_AIboolean_new A13 (k := 3) (by decide)
  obtain ⟨T14, h14, X14, e14, W14, st14⟩ := putF X13 hx hZ hown (host := "") (Or.inl (H 39 rfl)) Via.refl e13 F13_ra_7 A13_ra (Or.inr ⟨(H 40 rfl), rfl, hnm⟩) (H 13 rfl) (ty := (.array .boolean)) (by decide) rfl rfl (g := (mkF m 87 #[rv ra, iv (3 : Int32), jv (1 : Int64), s2, iv (0 : Int32)] [(.ref a13), (.ref ra)])) rfl rfl (D d4_87)
  have V14_a5 := V13_a5.other W14 (Ne.symm ne_ra_a5)
  have V14_a7 := V13_a7.other W14 (Ne.symm ne_ra_a7)
  have V14_a9 := V13_a9.other W14 (Ne.symm ne_ra_a9)
  have V14_a11 := V13_a11.other W14 (Ne.symm ne_ra_a11)
  have V14_a13 := V13_n.other W14 (Ne.symm ne_ra_a13)
  have A14_ra := A13_ra.wr W14
  have F14_ra_0 := F13_ra_0.other W14 (Or.inr (own_sn_75 hw))
  have F14_ra_1 := F13_ra_1.other W14 (Or.inr (own_sn_76 hw))
  have F14_ra_2 := F13_ra_2.other W14 (Or.inr (own_sn_77 hw))
  have F14_ra_3 := F13_ra_3.other W14 (Or.inr (own_sn_78 hw))
  have F14_ra_4 := F13_ra_4.other W14 (Or.inr (own_sn_79 hw))
  have F14_ra_5 := F13_ra_5.other W14 (Or.inr (own_sn_80 hw))
  have F14_ra_6 := F13_ra_6.other W14 (Or.inr (own_sn_81 hw))
  have F14_ra_8 := F13_ra_8.other W14 (Or.inr (own_sn_82 hw))
  have F14_ra_9 := F13_ra_9.other W14 (Or.inr (own_sn_83 hw))
  have F14_ra_10 := F13_ra_10.other W14 (Or.inr (own_sn_84 hw))
  have sz14 := Nat.le_trans sz13 (Keep.of_wr W14).1
  have K14 := K13.wr W14 (Or.inl (by simp))
  have N14 := Fr.snoc X14 N12 PG0
  have F14_s : Fld Z h14 ra own_S "stopped" "[Z" (.ref a13) := F13_ra_7.same W14
  obtain ⟨T15, h15, X15, e15, W15, st15⟩ := putF X14 hx hZ hown (host := "") (Or.inl (H 41 rfl)) Via.refl e14 F14_ra_8 A14_ra (Or.inl (H 42 rfl)) (H 13 rfl) (ty := .int) (by decide) rfl rfl (g := (mkF m 92 #[rv ra, iv (3 : Int32), jv (1 : Int64), s2, iv (0 : Int32)] [(.int (3 : Int32)), (.ref ra)])) rfl rfl (D d4_92)
  have V15_a5 := V14_a5.other W15 (Ne.symm ne_ra_a5)
  have V15_a7 := V14_a7.other W15 (Ne.symm ne_ra_a7)
  have V15_a9 := V14_a9.other W15 (Ne.symm ne_ra_a9)
  have V15_a11 := V14_a11.other W15 (Ne.symm ne_ra_a11)
  have V15_a13 := V14_a13.other W15 (Ne.symm ne_ra_a13)
  have A15_ra := A14_ra.wr W15
  have F15_ra_0 := F14_ra_0.other W15 (Or.inr (own_sn_85 hw))
  have F15_ra_1 := F14_ra_1.other W15 (Or.inr (own_sn_86 hw))
  have F15_ra_2 := F14_ra_2.other W15 (Or.inr (own_sn_87 hw))
  have F15_ra_3 := F14_ra_3.other W15 (Or.inr (own_sn_88 hw))
  have F15_ra_4 := F14_ra_4.other W15 (Or.inr (own_sn_89 hw))
  have F15_ra_5 := F14_ra_5.other W15 (Or.inr (own_sn_90 hw))
  have F15_ra_6 := F14_ra_6.other W15 (Or.inr (own_sn_91 hw))
  have F15_ra_7 := F14_s.other W15 (Or.inr (own_sn_92 hw))
  have F15_ra_9 := F14_ra_9.other W15 (Or.inr (own_sn_93 hw))
  have F15_ra_10 := F14_ra_10.other W15 (Or.inr (own_sn_94 hw))
  have sz15 := Nat.le_trans sz14 (Keep.of_wr W15).1
  have K15 := K14.wr W15 (Or.inl (by simp))
  have N15 := Fr.snoc X15 N14 PG0
  have F15_s : Fld Z h15 ra own_S "open" "I" (.int (3 : Int32)) := F14_ra_8.same W15
  obtain ⟨fs, hr, hrun, hended, hW, hsame⟩ := X15.leave (v := none) (fun _ => rfl) hlk
  refine ⟨_, _, pre0 _ ?_, hrun, hended, _, _, rfl, ?_, ⟨_, rfl⟩, hW, hsame.mono (by decide) (by decide)⟩
  · show Steps p.tables e below (s₁.setTop (mkF m 0 #[rv ra, iv (3 : Int32), jv (1 : Int64), s2, iv (0 : Int32)] [])) _
    refine XS.aloadN X0.here hx rfl (D d4_0) rfl rfl ?_
    refine st1 _ ?_
    refine XS.aloadN X1.here hx rfl (D d4_4) rfl rfl ?_
    refine XS.iconst X1.here hx rfl (D d4_5) ?_
    refine st2 _ ?_
    refine XS.iloadN X2.here hx rfl (D d4_9) rfl ?_
    refine XS.iconst X2.here hx rfl (D d4_10) ?_
    show Steps p.tables e below (T2.setTop (mkF m 11 #[rv ra, iv (3 : Int32), jv (1 : Int64), s2, iv (0 : Int32)] [(.int (1 : Int32)), (.int (3 : Int32))])) _
    refine XS.icmpYes X2.here hx rfl (pc0 := 11) (pc' := 24) rfl (D d4_11) rfl (by decide) (by decide) (by decide) ?_
    refine XS.lloadN X2.here hx rfl (D d4_24) rfl ?_
    refine XS.lconst X2.here hx rfl (D d4_25) ?_
    refine XS.lcmp X2.here hx rfl (D d4_26) rfl ?_
    show Steps p.tables e below (T2.setTop (mkF m 27 #[rv ra, iv (3 : Int32), jv (1 : Int64), s2, iv (0 : Int32)] [(.int (lcmpW (1 : Int64) (1 : Int64)))])) _
    refine XS.ifYes X2.here hx rfl (pc0 := 27) (pc' := 44) rfl (D d4_27) rfl ((if0 _ _).trans (flt (mt (lw_lt (1 : Int64) (1 : Int64)).mp (by decide))).2.1) (by decide) (by decide) ?_
    refine XS.aloadN X2.here hx rfl (D d4_44) rfl rfl ?_
    refine XS.lloadN X2.here hx rfl (D d4_45) rfl ?_
    refine st3 _ ?_
    refine XS.aloadN X3.here hx rfl (D d4_49) rfl rfl ?_
    refine XS.iload X3.here hx rfl (D d4_50) rfl ?_
    refine st4 _ ?_
    refine XS.aloadN X4.here hx rfl (D d4_55) rfl rfl ?_
    refine XS.iloadN X4.here hx rfl (D d4_56) rfl ?_
    refine st5 _ ?_
    refine st6 _ ?_
    refine XS.aloadN X6.here hx rfl (D d4_62) rfl rfl ?_
    refine XS.iloadN X6.here hx rfl (D d4_63) rfl ?_
    refine st7 _ ?_
    refine st8 _ ?_
    refine XS.aloadN X8.here hx rfl (D d4_69) rfl rfl ?_
    refine XS.iloadN X8.here hx rfl (D d4_70) rfl ?_
    refine st9 _ ?_
    refine st10 _ ?_
    refine XS.aloadN X10.here hx rfl (D d4_76) rfl rfl ?_
    refine XS.iloadN X10.here hx rfl (D d4_77) rfl ?_
    refine st11 _ ?_
    refine st12 _ ?_
    refine XS.aloadN X12.here hx rfl (D d4_83) rfl rfl ?_
    refine XS.iloadN X12.here hx rfl (D d4_84) rfl ?_
    refine st13 _ ?_
    refine st14 _ ?_
    refine XS.aloadN X14.here hx rfl (D d4_90) rfl rfl ?_
    refine XS.iloadN X14.here hx rfl (D d4_91) rfl ?_
    refine st15 _ ?_
    show Steps p.tables e below (T15.setTop (mkF m 95 #[rv ra, iv (3 : Int32), jv (1 : Int64), s2, iv (0 : Int32)] [])) _
    exact X15.returnOut hx Bd.returns (D d4_95) hr
  · show Q4_3 Z ra h0 n0 _ T15.heap _
    rw [e15]
    exact ⟨rfl, N15, a5, a7, a9, a11, a13, ⟨go_a5, go_a7, go_a9, go_a11, go_a13⟩, ⟨ne_a5_a7, ne_a5_a9, ne_a5_a11, ne_a5_a13, ne_a7_a9, ne_a7_a11, ne_a7_a13, ne_a9_a11, ne_a9_a13, ne_a11_a13⟩, K15, A15_ra, F15_ra_3, F15_ra_4, F15_ra_5, F15_ra_6, F15_ra_7, F15_s, F15_ra_0, F15_ra_9, F15_ra_10, V15_a5, V15_a7, V15_a9, V15_a11, V15_a13⟩
theorem ef_3_3 (m : MethodId) (ra : Addr) : entryFrame m #[(.ref ra), (.int (3 : Int32)), (.long (1 : Int64))] 4 = mkF m 0 #[rv ra, iv (3 : Int32), jv (1 : Int64), s2] [] := by first | (simp [entryFrame, mkF, argsToLocals, Value.category, maxLocals]; done) | rfl
def Q3_3 (Z : State) (ra : Addr)  (h0 : Heap) (n0 : Nat) (v : Option Value) (h : Heap) (L : List Loc) : Prop := v = none ∧ Fr n0 L ∧ ∃ rl rs rr rg rt : Addr, (h0.size ≤ rl ∧ h0.size ≤ rs ∧ h0.size ≤ rr ∧ h0.size ≤ rg ∧ h0.size ≤ rt) ∧ (rl ≠ rs ∧ rl ≠ rr ∧ rl ≠ rg ∧ rl ≠ rt ∧ rs ≠ rr ∧ rs ≠ rg ∧ rs ≠ rt ∧ rr ≠ rg ∧ rr ≠ rt ∧ rg ≠ rt) ∧ Keep h0 h [ra] ∧ Exa Z h ra "com/example/tributary/tributary/io/Silence" ∧ Fld Z h ra own_S "last" "[J" (.ref rl) ∧ Fld Z h ra own_S "sent" "[Z" (.ref rs) ∧ Fld Z h ra own_S "runs" "[J" (.ref rr) ∧ Fld Z h ra own_S "gone" "[Z" (.ref rg) ∧ Fld Z h ra own_S "stopped" "[Z" (.ref rt) ∧ Fld Z h ra own_S "open" "I" (.int (3 : Int32)) ∧ Fld Z h ra own_S "lastLeft" "I" (.int (-1 : Int32)) ∧ Fld Z h ra own_S "started" "Z" (.int (0 : Int32)) ∧ Fld Z h ra own_S "latest" "J" (.long (0 : Int64)) ∧ own_AJ Z h rl [(0 : Int64), (0 : Int64), (0 : Int64)] ∧ own_AI Z h rs .boolean [(0 : Int32), (0 : Int32), (0 : Int32)] ∧ own_AJ Z h rr [(0 : Int64), (0 : Int64), (0 : Int64)] ∧ own_AI Z h rg .boolean [(0 : Int32), (0 : Int32), (0 : Int32)] ∧ own_AI Z h rt .boolean [(0 : Int32), (0 : Int32), (0 : Int32)]
set_option maxRecDepth 65536 in
set_option maxHeartbeats 40000000 in
theorem rm3_3 (l : Launch) (Z : State) (a0 : Array Value) (hw : ∀ d ∈ tables_1, d.before a0 Z = true) (ws : List Jvm.Cond) (ra : Addr)  (h0 : Heap) (n0 : Nat) (Z0 : n0 ≤ h0.size) (PE0 : Exa Z h0 ra "com/example/tributary/tributary/io/Silence") (PF0 : Fld Z h0 ra own_S "lastLeft" "I" (.int (0 : Int32))) (PF1 : Fld Z h0 ra own_S "limit" "J" (.long (0 : Int64))) (PF2 : Fld Z h0 ra own_S "includesLast" "Z" (.int (0 : Int32))) (PF3 : Fld Z h0 ra own_S "last" "[J" .null) (PF4 : Fld Z h0 ra own_S "sent" "[Z" .null) (PF5 : Fld Z h0 ra own_S "runs" "[J" .null) (PF6 : Fld Z h0 ra own_S "gone" "[Z" .null) (PF7 : Fld Z h0 ra own_S "stopped" "[Z" .null) (PF8 : Fld Z h0 ra own_S "open" "I" (.int (0 : Int32))) (PF9 : Fld Z h0 ra own_S "started" "Z" (.int (0 : Int32))) (PF10 : Fld Z h0 ra own_S "latest" "J" (.long (0 : Int64))) (PG0 : n0 ≤ ra) :
    MetFree l (⟨"com/example/tributary/tributary/io/Silence", "<init>", "(IJ)V"⟩ : MethodName) (head1 (Jvm.Cond.code (⟨"com/example/tributary/tributary/io/Silence", "<init>", "(IJ)V"⟩ : MethodName) prog_43_method_1_code 4 none :: ws) ({ frames := 2, cells := 5, slots := 15, locals := 28 } : Room)) (fun a U => a = #[(.ref ra), (.int (3 : Int32)), (.long (1 : Int64))] ∧ Z.Warmed39 U.vm ∧ U.heap = h0) (fun _ _ _ _ _ => True) (fun _ U o U' => ∃ v L, o = .returned v ∧ Q3_3 Z ra h0 n0 v U'.heap L ∧ FrameEnd U o U' L ({ frames := 2, cells := 5, slots := 15, locals := 28 } : Room).cells ({ frames := 2, cells := 5, slots := 15, locals := 28 } : Room).slots) := by
  refine MetFree.of_bodySF (plainFor_of_name pn_4) hisR ?_
  intro p e s m args below meth c s₁ Bd hml0 hP hK
  obtain ⟨rfl, hZ, hh⟩ := hP
  have hx := Bd.exec
  have hby := Bd.bytes
  have hml : c.maxLocals = 4 := hml0
  have hown : s.vm.findClass "com/example/tributary/tributary/io/Silence" = some m.cls := findClass_of_methodNamed Bd.named
  have hnm := (name_of_methodNamed Bd.named Bd.method).1
  have X0 : Stand p l e ({ frames := 2, cells := 5, slots := 15, locals := 28 } : Room) s m #[(.ref ra), (.int (3 : Int32)), (.long (1 : Int64))] below meth c s₁ [] 0 0 := Stand.of_body Bd
  have hlk : meth.locks = false := by first | exact BodyLoose.notSynchronized (by assumption) | exact Body.notSynchronized (by assumption)
  have e0 : s₁.heap = h0 := by rw [← hh, Bd.state]; rfl
  have N0 := Fr.nil n0
  have pre0 : ∀ t, Steps p.tables e below (s₁.setTop (mkF m 0 #[rv ra, iv (3 : Int32), jv (1 : Int64), s2] [])) t → Steps p.tables e below (s₁.setTop (entryFrame m #[(.ref ra), (.int (3 : Int32)), (.long (1 : Int64))] 4)) t := fun t k => castTop (ef_3_3 m ra) k
  generalize s₁.setTop (entryFrame m #[(.ref ra), (.int (3 : Int32)), (.long (1 : Int64))] 4) = B0 at pre0 ⊢
  have H : ∀ (i : Nat) {d : Jvm.Cond}, tables_1[i]? = some d → d.before a0 Z = true := fun i d q => hw d (List.mem_of_getElem? q)
  have D : ∀ {pc : Nat} {r : Except DecodeError (Instr × Nat)}, decode prog_43_method_1_code pc = r → decode c.code pc = r := fun q => hb hby q
  obtain ⟨_, _, ⟨T1, L1, k1, n1⟩, -, X1, ⟨Lc1, hQ1, l1, y1, z1⟩, st1⟩ := X0.specialBack hx (y := (⟨"com/example/tributary/tributary/io/Silence", "<init>", "(IJZ)V"⟩ : MethodName)) rfl hown (mvT hZ (H 18 rfl)) (mvT hZ (H 19 rfl)) (mvT hZ (H 20 rfl)) (by decide) (backOf (W := 0) (rm4_3 l Z a0 hw [] ra  h0 n0 Z0 PE0 PF0 PF1 PF2 PF3 PF4 PF5 PF6 PF7 PF8 PF9 PF10 PG0 ) hZ (H 20 rfl) (H 14 rfl) (by decide) (by decide)) (g := (mkF m 4 #[rv ra, iv (3 : Int32), jv (1 : Int64), s2] [(.int (0 : Int32)), (.long (1 : Int64)), (.int (3 : Int32)), (.ref ra)])) rfl (by rw [hml]; rfl) (Steps.refl _) (a := ra) (argsL := [(.int (3 : Int32)), (.long (1 : Int64)), (.int (0 : Int32))]) (rest := []) (lenOf pd_96 rfl) rfl (by show 2 * 0 + _ ≤ _; exact Nat.le_of_eq rfl) (D d3_4) (fun _ _ => ⟨rfl, e0, (by decide : 0 + 5 ≤ _), (by decide : 0 + 15 ≤ _)⟩)
  dsimp only [Pt.U, Pt.locs, Pt.cells, Pt.slots] at X1 l1 y1 z1 st1 hQ1
  replace y1 : k1 = 5 := y1
  replace z1 : n1 = 15 := z1
  replace l1 := l1.symm; replace y1 := y1.symm; replace z1 := z1.symm; subst l1 y1 z1
  obtain ⟨rfl, N1q, rl1, rs1, rr1, rg1, rt1, ⟨go_rl1, go_rs1, go_rr1, go_rg1, go_rt1⟩, ⟨ne_rl1_rs1, ne_rl1_rr1, ne_rl1_rg1, ne_rl1_rt1, ne_rs1_rr1, ne_rs1_rg1, ne_rs1_rt1, ne_rr1_rg1, ne_rr1_rt1, ne_rg1_rt1⟩, K1, A1_o0, F1_o0, F1_o1, F1_o2, F1_o3, F1_o4, F1_o5, F1_o6, F1_o7, F1_o8, V1_o0, V1_o1, V1_o2, V1_o3, V1_o4⟩ := hQ1
  obtain ⟨h1, e1⟩ : ∃ z, T1.heap = z := ⟨_, rfl⟩
  rw [e1] at K1 A1_o0 F1_o0 F1_o1 F1_o2 F1_o3 F1_o4 F1_o5 F1_o6 F1_o7 F1_o8 V1_o0 V1_o1 V1_o2 V1_o3 V1_o4
  have ne_ra_rl1 : ra ≠ rl1 := Nat.ne_of_lt (Nat.lt_of_lt_of_le PE0.lt go_rl1)
  have ge_rl1 : n0 ≤ rl1 := Nat.le_trans Z0 go_rl1
  have gO_rl1 : h0.size ≤ rl1 := Nat.le_trans (Keep.refl h0 [ra]).1 go_rl1
  have ne_ra_rs1 : ra ≠ rs1 := Nat.ne_of_lt (Nat.lt_of_lt_of_le PE0.lt go_rs1)
  have ge_rs1 : n0 ≤ rs1 := Nat.le_trans Z0 go_rs1
  have gO_rs1 : h0.size ≤ rs1 := Nat.le_trans (Keep.refl h0 [ra]).1 go_rs1
  have ne_ra_rr1 : ra ≠ rr1 := Nat.ne_of_lt (Nat.lt_of_lt_of_le PE0.lt go_rr1)
  have ge_rr1 : n0 ≤ rr1 := Nat.le_trans Z0 go_rr1
  have gO_rr1 : h0.size ≤ rr1 := Nat.le_trans (Keep.refl h0 [ra]).1 go_rr1
  have ne_ra_rg1 : ra ≠ rg1 := Nat.ne_of_lt (Nat.lt_of_lt_of_le PE0.lt go_rg1)
  have ge_rg1 : n0 ≤ rg1 := Nat.le_trans Z0 go_rg1
  have gO_rg1 : h0.size ≤ rg1 := Nat.le_trans (Keep.refl h0 [ra]).1 go_rg1
  have ne_ra_rt1 : ra ≠ rt1 := Nat.ne_of_lt (Nat.lt_of_lt_of_le PE0.lt go_rt1)
  have ge_rt1 : n0 ≤ rt1 := Nat.le_trans Z0 go_rt1
  have gO_rt1 : h0.size ≤ rt1 := Nat.le_trans (Keep.refl h0 [ra]).1 go_rt1
  have A1_ra := PE0.keep K1
  have sz1 : n0 ≤ h1.size := Nat.le_trans Z0 K1.1
  have KK1 : Keep h0 h1 [ra] := (Keep.refl h0 [ra]).trans K1 (allS (Or.inl (by simp)) all0)
  have N1 := Fr.app N0 N1q
  obtain ⟨fs, hr, hrun, hended, hW, hsame⟩ := X1.leave (v := none) (fun _ => rfl) hlk
  refine ⟨_, _, pre0 _ ?_, hrun, hended, _, _, rfl, ?_, ⟨_, rfl⟩, hW, hsame.mono (by decide) (by decide)⟩
  · show Steps p.tables e below (s₁.setTop (mkF m 0 #[rv ra, iv (3 : Int32), jv (1 : Int64), s2] [])) _
    refine XS.aloadN X0.here hx rfl (D d3_0) rfl rfl ?_
    refine XS.iloadN X0.here hx rfl (D d3_1) rfl ?_
    refine XS.lloadN X0.here hx rfl (D d3_2) rfl ?_
    refine XS.iconst X0.here hx rfl (D d3_3) ?_
    refine st1.trans ?_
    show Steps p.tables e below (T1.setTop (mkF m 7 #[rv ra, iv (3 : Int32), jv (1 : Int64), s2] [])) _
    exact X1.returnOut hx Bd.returns (D d3_7) hr
  · show Q3_3 Z ra h0 n0 _ T1.heap _
    rw [e1]
    exact ⟨rfl, N1, rl1, rs1, rr1, rg1, rt1, ⟨gO_rl1, gO_rs1, gO_rr1, gO_rg1, gO_rt1⟩, ⟨ne_rl1_rs1, ne_rl1_rr1, ne_rl1_rg1, ne_rl1_rt1, ne_rs1_rr1, ne_rs1_rg1, ne_rs1_rt1, ne_rr1_rg1, ne_rr1_rt1, ne_rg1_rt1⟩, KK1, A1_o0, F1_o0, F1_o1, F1_o2, F1_o3, F1_o4, F1_o5, F1_o6, F1_o7, F1_o8, V1_o0, V1_o1, V1_o2, V1_o3, V1_o4⟩
theorem ef_6_3 (m : MethodId) (ra : Addr) : entryFrame m #[(.ref ra)] 4 = mkF m 0 #[rv ra, u0, u0, u0] [] := by first | (simp [entryFrame, mkF, argsToLocals, Value.category, maxLocals]; done) | rfl
def Q6_3 (Z : State) (ra : Addr) (rl : Addr) (rs : Addr) (rr : Addr) (rg : Addr) (rt : Addr) (sd : Int32) (lt : Int64) (ll : Int32) (jl0 : Int64) (jl1 : Int64) (jl2 : Int64) (jr0 : Int64) (jr1 : Int64) (jr2 : Int64) (bs0 : Int32) (bs1 : Int32) (bs2 : Int32) (bg0 : Int32) (bg1 : Int32) (bg2 : Int32) (bt0 : Int32) (bt1 : Int32) (bt2 : Int32) (h0 : Heap) (n0 : Nat) (v : Option Value) (h : Heap) (L : List Loc) : Prop := v = some (.ref h0.size) ∧ Fr n0 L ∧ Keep h0 h [] ∧ own_AJ Z h h0.size [(if sd = (0 : Int32) then (0 : Int64) else (1 : Int64)), lt, (ll).toInt64, (((if bs0 = (0 : Int32) then (0 : Int64) else (1 : Int64)) ||| (if bg0 = (0 : Int32) then (0 : Int64) else (2 : Int64))) ||| (if bt0 = (0 : Int32) then (0 : Int64) else (4 : Int64))), jl0, jr0, (((if bs1 = (0 : Int32) then (0 : Int64) else (1 : Int64)) ||| (if bg1 = (0 : Int32) then (0 : Int64) else (2 : Int64))) ||| (if bt1 = (0 : Int32) then (0 : Int64) else (4 : Int64))), jl1, jr1, (((if bs2 = (0 : Int32) then (0 : Int64) else (1 : Int64)) ||| (if bg2 = (0 : Int32) then (0 : Int64) else (2 : Int64))) ||| (if bt2 = (0 : Int32) then (0 : Int64) else (4 : Int64))), jl2, jr2]
set_option maxRecDepth 65536 in
set_option maxHeartbeats 40000000 in
theorem rm6_3 (l : Launch) (Z : State) (a0 : Array Value) (hw : ∀ d ∈ tables_1, d.before a0 Z = true) (ws : List Jvm.Cond) (ra : Addr) (rl : Addr) (rs : Addr) (rr : Addr) (rg : Addr) (rt : Addr) (sd : Int32) (lt : Int64) (ll : Int32) (jl0 : Int64) (jl1 : Int64) (jl2 : Int64) (jr0 : Int64) (jr1 : Int64) (jr2 : Int64) (bs0 : Int32) (bs1 : Int32) (bs2 : Int32) (bg0 : Int32) (bg1 : Int32) (bg2 : Int32) (bt0 : Int32) (bt1 : Int32) (bt2 : Int32) (h0 : Heap) (n0 : Nat) (Z0 : n0 ≤ h0.size) (PA0 : own_AJ Z h0 rl [jl0, jl1, jl2]) (PA1 : own_AI Z h0 rs .boolean [bs0, bs1, bs2]) (PA2 : own_AJ Z h0 rr [jr0, jr1, jr2]) (PA3 : own_AI Z h0 rg .boolean [bg0, bg1, bg2]) (PA4 : own_AI Z h0 rt .boolean [bt0, bt1, bt2]) (PE0 : Exa Z h0 ra "com/example/tributary/tributary/io/Silence") (PF0 : Fld Z h0 ra own_S "last" "[J" (.ref rl)) (PF1 : Fld Z h0 ra own_S "sent" "[Z" (.ref rs)) (PF2 : Fld Z h0 ra own_S "runs" "[J" (.ref rr)) (PF3 : Fld Z h0 ra own_S "gone" "[Z" (.ref rg)) (PF4 : Fld Z h0 ra own_S "stopped" "[Z" (.ref rt)) (PF5 : Fld Z h0 ra own_S "started" "Z" (.int sd)) (PF6 : Fld Z h0 ra own_S "latest" "J" (.long lt)) (PF7 : Fld Z h0 ra own_S "lastLeft" "I" (.int ll)) :
    MetFree l (⟨"com/example/tributary/tributary/io/Silence", "measured", "()[J"⟩ : MethodName) (head1 (Jvm.Cond.code (⟨"com/example/tributary/tributary/io/Silence", "measured", "()[J"⟩ : MethodName) prog_43_method_8_code 4 (some (.array .long)) :: ws) ({ frames := 0, cells := 1, slots := 12, locals := 0 } : Room)) (fun a U => a = #[(.ref ra)] ∧ Z.Warmed39 U.vm ∧ U.heap = h0) (fun _ _ _ _ _ => True) (fun _ U o U' => ∃ v L, o = .returned v ∧ Q6_3 Z ra rl rs rr rg rt sd lt ll jl0 jl1 jl2 jr0 jr1 jr2 bs0 bs1 bs2 bg0 bg1 bg2 bt0 bt1 bt2 h0 n0 v U'.heap L ∧ FrameEnd U o U' L ({ frames := 0, cells := 1, slots := 12, locals := 0 } : Room).cells ({ frames := 0, cells := 1, slots := 12, locals := 0 } : Room).slots) := by
  refine MetFree.of_bodySF (plainFor_of_name pn_4) hisR ?_
  intro p e s m args below meth c s₁ Bd hml0 hP hK
  obtain ⟨rfl, hZ, hh⟩ := hP
  have hx := Bd.exec
  have hby := Bd.bytes
  have hml : c.maxLocals = 4 := hml0
  have hown : s.vm.findClass "com/example/tributary/tributary/io/Silence" = some m.cls := findClass_of_methodNamed Bd.named
  have hnm := (name_of_methodNamed Bd.named Bd.method).1
  have X0 : Stand p l e ({ frames := 0, cells := 1, slots := 12, locals := 0 } : Room) s m #[(.ref ra)] below meth c s₁ [] 0 0 := Stand.of_body Bd
  have hlk : meth.locks = false := by first | exact BodyLoose.notSynchronized (by assumption) | exact Body.notSynchronized (by assumption)
  have e0 : s₁.heap = h0 := by rw [← hh, Bd.state]; rfl
  have N0 := Fr.nil n0
  have pre0 : ∀ t, Steps p.tables e below (s₁.setTop (mkF m 0 #[rv ra, u0, u0, u0] [])) t → Steps p.tables e below (s₁.setTop (entryFrame m #[(.ref ra)] 4)) t := fun t k => castTop (ef_6_3 m ra) k
  generalize s₁.setTop (entryFrame m #[(.ref ra)] 4) = B0 at pre0 ⊢
  have H : ∀ (i : Nat) {d : Jvm.Cond}, tables_1[i]? = some d → d.before a0 Z = true := fun i d q => hw d (List.mem_of_getElem? q)
  have D : ∀ {pc : Nat} {r : Except DecodeError (Instr × Nat)}, decode prog_43_method_8_code pc = r → decode c.code pc = r := fun q => hb hby q
  obtain ⟨T1, X1, e1, st1⟩ := getF X0 hx hZ hown (host := "") (Or.inl (H 37 rfl)) Via.refl e0 PF3 (g := (mkF m 3 #[rv ra, u0, u0, u0] [(.ref ra), (.int (3 : Int32)), (.int (3 : Int32))])) rfl rfl (D d6_3)
  obtain ⟨T2, h2, cA2, X2, e2, E2, A2, st2⟩ := newP X1 hx hZ (aty := .long) (H 11 rfl) e1 (g := (mkF m 9 #[rv ra, u0, u0, u0] [(.int (12 : Int32))])) rfl (D d6_9) rfl (by decide) (cap := 12) (by decide) (by decide) (by decide) (by decide)
  obtain ⟨a2, g2⟩ : ∃ z, z = h0.size := ⟨_, rfl⟩
  rw [← g2] at A2 st2
  have ne_rl_a2 : rl ≠ a2 := g2 ▸ Nat.ne_of_lt PA0.lt
  have ne_rs_a2 : rs ≠ a2 := g2 ▸ Nat.ne_of_lt PA1.lt
  have ne_rr_a2 : rr ≠ a2 := g2 ▸ Nat.ne_of_lt PA2.lt
  have ne_rg_a2 : rg ≠ a2 := g2 ▸ Nat.ne_of_lt PA3.lt
  have ne_rt_a2 : rt ≠ a2 := g2 ▸ Nat.ne_of_lt PA4.lt
  have ne_ra_a2 : ra ≠ a2 := g2 ▸ Nat.ne_of_lt PE0.lt
  have ge_a2 : n0 ≤ a2 := g2 ▸ Z0
  have go_a2 : h0.size ≤ a2 := g2 ▸ (Keep.refl h0 []).1
  have V2_rl := PA0.ext E2
  have V2_rs := PA1.ext E2
  have V2_rr := PA2.ext E2
  have V2_rg := PA3.ext E2
  have V2_rt := PA4.ext E2
  have A2_ra := PE0.ext E2
  have F2_ra_0 := PF0.ext E2
  have F2_ra_1 := PF1.ext E2
  have F2_ra_2 := PF2.ext E2
  have F2_ra_3 := PF3.ext E2
  have F2_ra_4 := PF4.ext E2
  have F2_ra_5 := PF5.ext E2
  have F2_ra_6 := PF6.ext E2
  have F2_ra_7 := PF7.ext E2
  have sz2 := Nat.le_trans Z0 E2.1
  have K2 : Keep h0 h2 [] := (Keep.refl h0 []).ext E2
  have V2_n : own_AJ Z h2 a2 [(0 : Int64), (0 : Int64), (0 : Int64), (0 : Int64), (0 : Int64), (0 : Int64), (0 : Int64), (0 : Int64), (0 : Int64), (0 : Int64), (0 : Int64), (0 : Int64)] := own_AJ_new A2 (k := 12) (by decide)
  obtain ⟨T3, X3, e3, st3⟩ := getF X2 hx hZ hown (host := "") (Or.inl (H 48 rfl)) Via.refl e2 F2_ra_5 (g := (mkF m 15 #[rv ra, rv a2, u0, u0] [(.ref ra), (.int (0 : Int32)), (.ref a2)])) rfl rfl (D d6_15)
  have pre5 : ∀ t, Steps p.tables e below (T3.setTop (mkF m 18 #[rv ra, rv a2, u0, u0] [(.int sd), (.int (0 : Int32)), (.ref a2)])) t → Steps p.tables e below B0 t := by
    intro t k
    refine pre0 t ?_
    show Steps p.tables e below (s₁.setTop (mkF m 0 #[rv ra, u0, u0, u0] [])) _
    refine XS.iconst X0.here hx rfl (D d6_0) ?_
    refine XS.iconst X0.here hx rfl (D d6_1) ?_
    refine XS.aloadN X0.here hx rfl (D d6_2) rfl rfl ?_
    refine st1 _ ?_
    refine own_alenI X1 hx hZ e1 PA3 (D d6_6) _ ?_
    refine XS.imul X1.here hx rfl (D d6_7) rfl ?_
    refine XS.iadd X1.here hx rfl (D d6_8) rfl ?_
    refine st2 _ ?_
    refine XS.astoreN X2.here hx rfl (D d6_11) rfl rfl (l' := #[rv ra, rv a2, u0, u0]) rfl ?_
    refine XS.aloadN X2.here hx rfl (D d6_12) rfl rfl ?_
    refine XS.iconst X2.here hx rfl (D d6_13) ?_
    refine XS.aloadN X2.here hx rfl (D d6_14) rfl rfl ?_
    refine st3 _ ?_
    exact k
  clear X1 e1 st1 X2 e2 E2 A2 st2 st3
  have pre6 : ∀ t, Steps p.tables e below (T3.setTop (mkF m 26 #[rv ra, rv a2, u0, u0] [(.long (if sd = (0 : Int32) then (0 : Int64) else (1 : Int64))), (.int (0 : Int32)), (.ref a2)])) t → Steps p.tables e below B0 t := by
    by_cases c4 : sd = (0 : Int32)
    · try simp only [if_pos c4]
      intro t k
      refine pre5 t ?_
      show Steps p.tables e below (T3.setTop (mkF m 18 #[rv ra, rv a2, u0, u0] [(.int sd), (.int (0 : Int32)), (.ref a2)])) _
      refine XS.ifYes X3.here hx rfl (pc0 := 18) (pc' := 25) rfl (D d6_18) rfl ((if0 _ _).trans (teq c4).1) (by decide) (by decide) ?_
      refine XS.lconst X3.here hx rfl (D d6_25) ?_
      exact k
    · try simp only [if_neg c4]
      intro t k
      refine pre5 t ?_
      show Steps p.tables e below (T3.setTop (mkF m 18 #[rv ra, rv a2, u0, u0] [(.int sd), (.int (0 : Int32)), (.ref a2)])) _
      refine XS.ifNo X3.here hx rfl (D d6_18) rfl ((if0 _ _).trans (feq c4).1) ?_
      refine XS.lconst X3.here hx rfl (D d6_21) ?_
      refine XS.goto X3.here hx rfl (pc0 := 22) (pc' := 26) rfl (D d6_22) (by decide) (by decide) ?_
      exact k
  obtain ⟨T7, h7, X7, e7, W7, V7, st7⟩ := own_lastore X3 hx hZ e3 V2_n (j := (0 : Int32)) (show 0 ≤ Int32.toInt (0 : Int32) ∧ Int32.toInt (0 : Int32) < ((12 : Nat) : Int) by decide) (x := (if sd = (0 : Int32) then (0 : Int64) else (1 : Int64))) (D d6_26)
  have V7_rl := V2_rl.other W7 ne_rl_a2
  have V7_rs := V2_rs.other W7 ne_rs_a2
  have V7_rr := V2_rr.other W7 ne_rr_a2
  have V7_rg := V2_rg.other W7 ne_rg_a2
  have V7_rt := V2_rt.other W7 ne_rt_a2
  have A7_ra := A2_ra.wr W7
  have F7_ra_0 := F2_ra_0.other W7 (Or.inl ne_ra_a2)
  have F7_ra_1 := F2_ra_1.other W7 (Or.inl ne_ra_a2)
  have F7_ra_2 := F2_ra_2.other W7 (Or.inl ne_ra_a2)
  have F7_ra_3 := F2_ra_3.other W7 (Or.inl ne_ra_a2)
  have F7_ra_4 := F2_ra_4.other W7 (Or.inl ne_ra_a2)
  have F7_ra_5 := F2_ra_5.other W7 (Or.inl ne_ra_a2)
  have F7_ra_6 := F2_ra_6.other W7 (Or.inl ne_ra_a2)
  have F7_ra_7 := F2_ra_7.other W7 (Or.inl ne_ra_a2)
  have sz7 := Nat.le_trans sz2 (Keep.of_wr W7).1
  have K7 := K2.wr W7 (Or.inr go_a2)
  have N7 := Fr.snoc X7 N0 ge_a2
  have V7_n : own_AJ Z h7 a2 [(if sd = (0 : Int32) then (0 : Int64) else (1 : Int64)), (0 : Int64), (0 : Int64), (0 : Int64), (0 : Int64), (0 : Int64), (0 : Int64), (0 : Int64), (0 : Int64), (0 : Int64), (0 : Int64), (0 : Int64)] := V7
  obtain ⟨T8, X8, e8, st8⟩ := getF X7 hx hZ hown (host := "") (Or.inl (H 50 rfl)) Via.refl e7 F7_ra_6 (g := (mkF m 30 #[rv ra, rv a2, u0, u0] [(.ref ra), (.int (1 : Int32)), (.ref a2)])) rfl rfl (D d6_30)
  obtain ⟨T9, h9, X9, e9, W9, V9, st9⟩ := own_lastore X8 hx hZ e8 V7_n (j := (1 : Int32)) (show 0 ≤ Int32.toInt (1 : Int32) ∧ Int32.toInt (1 : Int32) < ((12 : Nat) : Int) by decide) (x := lt) (D d6_33)
  have V9_rl := V7_rl.other W9 ne_rl_a2
  have V9_rs := V7_rs.other W9 ne_rs_a2
  have V9_rr := V7_rr.other W9 ne_rr_a2
  have V9_rg := V7_rg.other W9 ne_rg_a2
  have V9_rt := V7_rt.other W9 ne_rt_a2
  have A9_ra := A7_ra.wr W9
  have F9_ra_0 := F7_ra_0.other W9 (Or.inl ne_ra_a2)
  have F9_ra_1 := F7_ra_1.other W9 (Or.inl ne_ra_a2)
  have F9_ra_2 := F7_ra_2.other W9 (Or.inl ne_ra_a2)
  have F9_ra_3 := F7_ra_3.other W9 (Or.inl ne_ra_a2)
  have F9_ra_4 := F7_ra_4.other W9 (Or.inl ne_ra_a2)
  have F9_ra_5 := F7_ra_5.other W9 (Or.inl ne_ra_a2)
  have F9_ra_6 := F7_ra_6.other W9 (Or.inl ne_ra_a2)
  have F9_ra_7 := F7_ra_7.other W9 (Or.inl ne_ra_a2)
  have sz9 := Nat.le_trans sz7 (Keep.of_wr W9).1
  have K9 := K7.wr W9 (Or.inr go_a2)
  have N9 := Fr.snoc X9 N7 ge_a2
  have V9_n : own_AJ Z h9 a2 [(if sd = (0 : Int32) then (0 : Int64) else (1 : Int64)), lt, (0 : Int64), (0 : Int64), (0 : Int64), (0 : Int64), (0 : Int64), (0 : Int64), (0 : Int64), (0 : Int64), (0 : Int64), (0 : Int64)] := V9
  obtain ⟨T10, X10, e10, st10⟩ := getF X9 hx hZ hown (host := "") (Or.inl (H 24 rfl)) Via.refl e9 F9_ra_7 (g := (mkF m 37 #[rv ra, rv a2, u0, u0] [(.ref ra), (.int (2 : Int32)), (.ref a2)])) rfl rfl (D d6_37)
  obtain ⟨T11, h11, X11, e11, W11, V11, st11⟩ := own_lastore X10 hx hZ e10 V9_n (j := (2 : Int32)) (show 0 ≤ Int32.toInt (2 : Int32) ∧ Int32.toInt (2 : Int32) < ((12 : Nat) : Int) by decide) (x := (ll).toInt64) (D d6_41)
  have V11_rl := V9_rl.other W11 ne_rl_a2
  have V11_rs := V9_rs.other W11 ne_rs_a2
  have V11_rr := V9_rr.other W11 ne_rr_a2
  have V11_rg := V9_rg.other W11 ne_rg_a2
  have V11_rt := V9_rt.other W11 ne_rt_a2
  have A11_ra := A9_ra.wr W11
  have F11_ra_0 := F9_ra_0.other W11 (Or.inl ne_ra_a2)
  have F11_ra_1 := F9_ra_1.other W11 (Or.inl ne_ra_a2)
  have F11_ra_2 := F9_ra_2.other W11 (Or.inl ne_ra_a2)
  have F11_ra_3 := F9_ra_3.other W11 (Or.inl ne_ra_a2)
  have F11_ra_4 := F9_ra_4.other W11 (Or.inl ne_ra_a2)
  have F11_ra_5 := F9_ra_5.other W11 (Or.inl ne_ra_a2)
  have F11_ra_6 := F9_ra_6.other W11 (Or.inl ne_ra_a2)
  have F11_ra_7 := F9_ra_7.other W11 (Or.inl ne_ra_a2)
  have sz11 := Nat.le_trans sz9 (Keep.of_wr W11).1
  have K11 := K9.wr W11 (Or.inr go_a2)
  have N11 := Fr.snoc X11 N9 ge_a2
  have V11_n : own_AJ Z h11 a2 [(if sd = (0 : Int32) then (0 : Int64) else (1 : Int64)), lt, (ll).toInt64, (0 : Int64), (0 : Int64), (0 : Int64), (0 : Int64), (0 : Int64), (0 : Int64), (0 : Int64), (0 : Int64), (0 : Int64)] := V11
  obtain ⟨T12, X12, e12, st12⟩ := getF X11 hx hZ hown (host := "") (Or.inl (H 37 rfl)) Via.refl e11 F11_ra_3 (g := (mkF m 46 #[rv ra, rv a2, iv (0 : Int32), u0] [(.ref ra), (.int (0 : Int32))])) rfl rfl (D d6_46)
  obtain ⟨T13, X13, e13, st13⟩ := getF X12 hx hZ hown (host := "") (Or.inl (H 33 rfl)) Via.refl e12 F11_ra_1 (g := (mkF m 62 #[rv ra, rv a2, iv (0 : Int32), iv (3 : Int32)] [(.ref ra), (.int (3 : Int32)), (.ref a2)])) rfl rfl (D d6_62)
  have pre15 : ∀ t, Steps p.tables e below (T13.setTop (mkF m 67 #[rv ra, rv a2, iv (0 : Int32), iv (3 : Int32)] [(.int bs0), (.int (3 : Int32)), (.ref a2)])) t → Steps p.tables e below B0 t := by
    intro t k
    refine pre6 t ?_
    show Steps p.tables e below (T3.setTop (mkF m 26 #[rv ra, rv a2, u0, u0] [(.long (if sd = (0 : Int32) then (0 : Int64) else (1 : Int64))), (.int (0 : Int32)), (.ref a2)])) _
    refine st7 _ ?_
    refine XS.aloadN X7.here hx rfl (D d6_27) rfl rfl ?_
    refine XS.iconst X7.here hx rfl (D d6_28) ?_
    refine XS.aloadN X7.here hx rfl (D d6_29) rfl rfl ?_
    refine st8 _ ?_
    refine st9 _ ?_
    refine XS.aloadN X9.here hx rfl (D d6_34) rfl rfl ?_
    refine XS.iconst X9.here hx rfl (D d6_35) ?_
    refine XS.aloadN X9.here hx rfl (D d6_36) rfl rfl ?_
    refine st10 _ ?_
    refine XS.i2l X10.here hx rfl (D d6_40) rfl ?_
    refine st11 _ ?_
    refine XS.iconst X11.here hx rfl (D d6_42) ?_
    refine XS.istoreN X11.here hx rfl (D d6_43) rfl (l' := #[rv ra, rv a2, iv (0 : Int32), u0]) rfl ?_
    refine XS.iloadN X11.here hx rfl (D d6_44) rfl ?_
    refine XS.aloadN X11.here hx rfl (D d6_45) rfl rfl ?_
    refine st12 _ ?_
    refine own_alenI X12 hx hZ e12 V11_rg (D d6_49) _ ?_
    show Steps p.tables e below (T12.setTop (mkF m 50 #[rv ra, rv a2, iv (0 : Int32), u0] [(.int (3 : Int32)), (.int (0 : Int32))])) _
    refine XS.icmpNo X12.here hx rfl (D d6_50) rfl (by decide) ?_
    refine XS.iconst X12.here hx rfl (D d6_53) ?_
    refine XS.iconst X12.here hx rfl (D d6_54) ?_
    refine XS.iloadN X12.here hx rfl (D d6_55) rfl ?_
    refine XS.imul X12.here hx rfl (D d6_56) rfl ?_
    refine XS.iadd X12.here hx rfl (D d6_57) rfl ?_
    refine XS.istoreN X12.here hx rfl (D d6_58) rfl (l' := #[rv ra, rv a2, iv (0 : Int32), iv (3 : Int32)]) rfl ?_
    refine XS.aloadN X12.here hx rfl (D d6_59) rfl rfl ?_
    refine XS.iloadN X12.here hx rfl (D d6_60) rfl ?_
    show Steps p.tables e below (T12.setTop (mkF m 61 #[rv ra, rv a2, iv (0 : Int32), iv (3 : Int32)] [(.int (3 : Int32)), (.ref a2)])) _
    refine XS.aloadN X12.here hx rfl (D d6_61) rfl rfl ?_
    refine st13 _ ?_
    refine XS.iloadN X13.here hx rfl (D d6_65) rfl ?_
    refine own_baloadZ X13 hx hZ e13 V11_rs (show 0 ≤ Int32.toInt (0 : Int32) ∧ Int32.toInt (0 : Int32) < ((3 : Nat) : Int) by decide) (D d6_66) _ ?_
    exact k
  clear V2_rl V2_rs V2_rr V2_rg V2_rt A2_ra F2_ra_0 F2_ra_1 F2_ra_2 F2_ra_3 F2_ra_4 F2_ra_5 F2_ra_6 F2_ra_7 sz2 K2 V2_n X3 e3 pre5 pre6 X7 e7 W7 V7 st7 V7_rl V7_rs V7_rr V7_rg V7_rt A7_ra F7_ra_0 F7_ra_1 F7_ra_2 F7_ra_3 F7_ra_4 F7_ra_5 F7_ra_6 F7_ra_7 sz7 K7 N7 V7_n X8 e8 st8 X9 e9 W9 V9 st9 V9_rl V9_rs V9_rr V9_rg V9_rt A9_ra F9_ra_0 F9_ra_1 F9_ra_2 F9_ra_3 F9_ra_4 F9_ra_5 F9_ra_6 F9_ra_7 sz9 K9 N9 V9_n X10 e10 st10 X11 e11 W11 V11 st11 X12 e12 st12 st13
  have pre16 : ∀ t, Steps p.tables e below (T13.setTop (mkF m 75 #[rv ra, rv a2, iv (0 : Int32), iv (3 : Int32)] [(.long (if bs0 = (0 : Int32) then (0 : Int64) else (1 : Int64))), (.int (3 : Int32)), (.ref a2)])) t → Steps p.tables e below B0 t := by
    by_cases c14 : bs0 = (0 : Int32)
    · try simp only [if_pos c14]
      intro t k
      refine pre15 t ?_
      show Steps p.tables e below (T13.setTop (mkF m 67 #[rv ra, rv a2, iv (0 : Int32), iv (3 : Int32)] [(.int bs0), (.int (3 : Int32)), (.ref a2)])) _
      refine XS.ifYes X13.here hx rfl (pc0 := 67) (pc' := 74) rfl (D d6_67) rfl ((if0 _ _).trans (teq c14).1) (by decide) (by decide) ?_
      refine XS.lconst X13.here hx rfl (D d6_74) ?_
      exact k
    · try simp only [if_neg c14]
      intro t k
      refine pre15 t ?_
      show Steps p.tables e below (T13.setTop (mkF m 67 #[rv ra, rv a2, iv (0 : Int32), iv (3 : Int32)] [(.int bs0), (.int (3 : Int32)), (.ref a2)])) _
      refine XS.ifNo X13.here hx rfl (D d6_67) rfl ((if0 _ _).trans (feq c14).1) ?_
      refine XS.lconst X13.here hx rfl (D d6_70) ?_
      refine XS.goto X13.here hx rfl (pc0 := 71) (pc' := 75) rfl (D d6_71) (by decide) (by decide) ?_
      exact k
  obtain ⟨T17, X17, e17, st17⟩ := getF X13 hx hZ hown (host := "") (Or.inl (H 37 rfl)) Via.refl e13 F11_ra_3 (g := (mkF m 76 #[rv ra, rv a2, iv (0 : Int32), iv (3 : Int32)] [(.ref ra), (.long (if bs0 = (0 : Int32) then (0 : Int64) else (1 : Int64))), (.int (3 : Int32)), (.ref a2)])) rfl rfl (D d6_76)
  have pre19 : ∀ t, Steps p.tables e below (T17.setTop (mkF m 81 #[rv ra, rv a2, iv (0 : Int32), iv (3 : Int32)] [(.int bg0), (.long (if bs0 = (0 : Int32) then (0 : Int64) else (1 : Int64))), (.int (3 : Int32)), (.ref a2)])) t → Steps p.tables e below B0 t := by
    intro t k
    refine pre16 t ?_
    show Steps p.tables e below (T13.setTop (mkF m 75 #[rv ra, rv a2, iv (0 : Int32), iv (3 : Int32)] [(.long (if bs0 = (0 : Int32) then (0 : Int64) else (1 : Int64))), (.int (3 : Int32)), (.ref a2)])) _
    refine XS.aloadN X13.here hx rfl (D d6_75) rfl rfl ?_
    refine st17 _ ?_
    refine XS.iloadN X17.here hx rfl (D d6_79) rfl ?_
    refine own_baloadZ X17 hx hZ e17 V11_rg (show 0 ≤ Int32.toInt (0 : Int32) ∧ Int32.toInt (0 : Int32) < ((3 : Nat) : Int) by decide) (D d6_80) _ ?_
    exact k
  clear X13 e13 pre15 pre16 st17
  have pre20 : ∀ t, Steps p.tables e below (T17.setTop (mkF m 91 #[rv ra, rv a2, iv (0 : Int32), iv (3 : Int32)] [(.long (if bg0 = (0 : Int32) then (0 : Int64) else (2 : Int64))), (.long (if bs0 = (0 : Int32) then (0 : Int64) else (1 : Int64))), (.int (3 : Int32)), (.ref a2)])) t → Steps p.tables e below B0 t := by
    by_cases c18 : bg0 = (0 : Int32)
    · try simp only [if_pos c18]
      intro t k
      refine pre19 t ?_
      show Steps p.tables e below (T17.setTop (mkF m 81 #[rv ra, rv a2, iv (0 : Int32), iv (3 : Int32)] [(.int bg0), (.long (if bs0 = (0 : Int32) then (0 : Int64) else (1 : Int64))), (.int (3 : Int32)), (.ref a2)])) _
      refine XS.ifYes X17.here hx rfl (pc0 := 81) (pc' := 90) rfl (D d6_81) rfl ((if0 _ _).trans (teq c18).1) (by decide) (by decide) ?_
      refine XS.lconst X17.here hx rfl (D d6_90) ?_
      exact k
    · try simp only [if_neg c18]
      intro t k
      refine pre19 t ?_
      show Steps p.tables e below (T17.setTop (mkF m 81 #[rv ra, rv a2, iv (0 : Int32), iv (3 : Int32)] [(.int bg0), (.long (if bs0 = (0 : Int32) then (0 : Int64) else (1 : Int64))), (.int (3 : Int32)), (.ref a2)])) _
      refine XS.ifNo X17.here hx rfl (D d6_81) rfl ((if0 _ _).trans (feq c18).1) ?_
      refine X17.ldc2Long hx hown (mvT hZ (H 65 rfl)) (g := (mkF m 84 #[rv ra, rv a2, iv (0 : Int32), iv (3 : Int32)] [(.long (if bs0 = (0 : Int32) then (0 : Int64) else (1 : Int64))), (.int (3 : Int32)), (.ref a2)])) rfl (D d6_84) _ ?_
      refine XS.goto X17.here hx rfl (pc0 := 87) (pc' := 91) rfl (D d6_87) (by decide) (by decide) ?_
      exact k
  obtain ⟨T21, h21, X21, e21, W21, V21, st21⟩ := own_lastore X17 hx hZ e17 V11_n (j := (3 : Int32)) (show 0 ≤ Int32.toInt (3 : Int32) ∧ Int32.toInt (3 : Int32) < ((12 : Nat) : Int) by decide) (x := ((if bs0 = (0 : Int32) then (0 : Int64) else (1 : Int64)) ||| (if bg0 = (0 : Int32) then (0 : Int64) else (2 : Int64)))) (D d6_92)
  have V21_rl := V11_rl.other W21 ne_rl_a2
  have V21_rs := V11_rs.other W21 ne_rs_a2
  have V21_rr := V11_rr.other W21 ne_rr_a2
  have V21_rg := V11_rg.other W21 ne_rg_a2
  have V21_rt := V11_rt.other W21 ne_rt_a2
  have A21_ra := A11_ra.wr W21
  have F21_ra_0 := F11_ra_0.other W21 (Or.inl ne_ra_a2)
  have F21_ra_1 := F11_ra_1.other W21 (Or.inl ne_ra_a2)
  have F21_ra_2 := F11_ra_2.other W21 (Or.inl ne_ra_a2)
  have F21_ra_3 := F11_ra_3.other W21 (Or.inl ne_ra_a2)
  have F21_ra_4 := F11_ra_4.other W21 (Or.inl ne_ra_a2)
  have F21_ra_5 := F11_ra_5.other W21 (Or.inl ne_ra_a2)
  have F21_ra_6 := F11_ra_6.other W21 (Or.inl ne_ra_a2)
  have F21_ra_7 := F11_ra_7.other W21 (Or.inl ne_ra_a2)
  have sz21 := Nat.le_trans sz11 (Keep.of_wr W21).1
  have K21 := K11.wr W21 (Or.inr go_a2)
  have N21 := Fr.snoc X21 N11 ge_a2
  have V21_n : own_AJ Z h21 a2 [(if sd = (0 : Int32) then (0 : Int64) else (1 : Int64)), lt, (ll).toInt64, ((if bs0 = (0 : Int32) then (0 : Int64) else (1 : Int64)) ||| (if bg0 = (0 : Int32) then (0 : Int64) else (2 : Int64))), (0 : Int64), (0 : Int64), (0 : Int64), (0 : Int64), (0 : Int64), (0 : Int64), (0 : Int64), (0 : Int64)] := V21
  obtain ⟨T22, X22, e22, st22⟩ := getF X21 hx hZ hown (host := "") (Or.inl (H 39 rfl)) Via.refl e21 F21_ra_4 (g := (mkF m 98 #[rv ra, rv a2, iv (0 : Int32), iv (3 : Int32)] [(.ref ra), (.long ((if bs0 = (0 : Int32) then (0 : Int64) else (1 : Int64)) ||| (if bg0 = (0 : Int32) then (0 : Int64) else (2 : Int64)))), (.int (3 : Int32)), (.ref a2)])) rfl rfl (D d6_98)
  have pre24 : ∀ t, Steps p.tables e below (T22.setTop (mkF m 103 #[rv ra, rv a2, iv (0 : Int32), iv (3 : Int32)] [(.int bt0), (.long ((if bs0 = (0 : Int32) then (0 : Int64) else (1 : Int64)) ||| (if bg0 = (0 : Int32) then (0 : Int64) else (2 : Int64)))), (.int (3 : Int32)), (.ref a2)])) t → Steps p.tables e below B0 t := by
    intro t k
    refine pre20 t ?_
    show Steps p.tables e below (T17.setTop (mkF m 91 #[rv ra, rv a2, iv (0 : Int32), iv (3 : Int32)] [(.long (if bg0 = (0 : Int32) then (0 : Int64) else (2 : Int64))), (.long (if bs0 = (0 : Int32) then (0 : Int64) else (1 : Int64))), (.int (3 : Int32)), (.ref a2)])) _
    refine XS.lor X17.here hx rfl (D d6_91) rfl ?_
    refine st21 _ ?_
    refine XS.aloadN X21.here hx rfl (D d6_93) rfl rfl ?_
    refine XS.iloadN X21.here hx rfl (D d6_94) rfl ?_
    refine Jvm.Free.XT.dup2 X21.here hx rfl (D d6_95) rfl rfl rfl ?_
    refine own_laload X21 hx hZ e21 V21_n (show 0 ≤ Int32.toInt (3 : Int32) ∧ Int32.toInt (3 : Int32) < ((12 : Nat) : Int) by decide) (D d6_96) _ ?_
    refine XS.aloadN X21.here hx rfl (D d6_97) rfl rfl ?_
    refine st22 _ ?_
    refine XS.iloadN X22.here hx rfl (D d6_101) rfl ?_
    refine own_baloadZ X22 hx hZ e22 V21_rt (show 0 ≤ Int32.toInt (0 : Int32) ∧ Int32.toInt (0 : Int32) < ((3 : Nat) : Int) by decide) (D d6_102) _ ?_
    exact k
  clear V11_rl V11_rs V11_rr V11_rg V11_rt A11_ra F11_ra_0 F11_ra_1 F11_ra_2 F11_ra_3 F11_ra_4 F11_ra_5 F11_ra_6 F11_ra_7 sz11 K11 N11 V11_n X17 e17 pre19 pre20 X21 e21 W21 V21 st21 st22
  have pre25 : ∀ t, Steps p.tables e below (T22.setTop (mkF m 113 #[rv ra, rv a2, iv (0 : Int32), iv (3 : Int32)] [(.long (if bt0 = (0 : Int32) then (0 : Int64) else (4 : Int64))), (.long ((if bs0 = (0 : Int32) then (0 : Int64) else (1 : Int64)) ||| (if bg0 = (0 : Int32) then (0 : Int64) else (2 : Int64)))), (.int (3 : Int32)), (.ref a2)])) t → Steps p.tables e below B0 t := by
    by_cases c23 : bt0 = (0 : Int32)
    · try simp only [if_pos c23]
      intro t k
      refine pre24 t ?_
      show Steps p.tables e below (T22.setTop (mkF m 103 #[rv ra, rv a2, iv (0 : Int32), iv (3 : Int32)] [(.int bt0), (.long ((if bs0 = (0 : Int32) then (0 : Int64) else (1 : Int64)) ||| (if bg0 = (0 : Int32) then (0 : Int64) else (2 : Int64)))), (.int (3 : Int32)), (.ref a2)])) _
      refine XS.ifYes X22.here hx rfl (pc0 := 103) (pc' := 112) rfl (D d6_103) rfl ((if0 _ _).trans (teq c23).1) (by decide) (by decide) ?_
      refine XS.lconst X22.here hx rfl (D d6_112) ?_
      exact k
    · try simp only [if_neg c23]
      intro t k
      refine pre24 t ?_
      show Steps p.tables e below (T22.setTop (mkF m 103 #[rv ra, rv a2, iv (0 : Int32), iv (3 : Int32)] [(.int bt0), (.long ((if bs0 = (0 : Int32) then (0 : Int64) else (1 : Int64)) ||| (if bg0 = (0 : Int32) then (0 : Int64) else (2 : Int64)))), (.int (3 : Int32)), (.ref a2)])) _
      refine XS.ifNo X22.here hx rfl (D d6_103) rfl ((if0 _ _).trans (feq c23).1) ?_
      refine X22.ldc2Long hx hown (mvT hZ (H 63 rfl)) (g := (mkF m 106 #[rv ra, rv a2, iv (0 : Int32), iv (3 : Int32)] [(.long ((if bs0 = (0 : Int32) then (0 : Int64) else (1 : Int64)) ||| (if bg0 = (0 : Int32) then (0 : Int64) else (2 : Int64)))), (.int (3 : Int32)), (.ref a2)])) rfl (D d6_106) _ ?_
      refine XS.goto X22.here hx rfl (pc0 := 109) (pc' := 113) rfl (D d6_109) (by decide) (by decide) ?_
      exact k
  obtain ⟨T26, h26, X26, e26, W26, V26, st26⟩ := own_lastore X22 hx hZ e22 V21_n (j := (3 : Int32)) (show 0 ≤ Int32.toInt (3 : Int32) ∧ Int32.toInt (3 : Int32) < ((12 : Nat) : Int) by decide) (x := (((if bs0 = (0 : Int32) then (0 : Int64) else (1 : Int64)) ||| (if bg0 = (0 : Int32) then (0 : Int64) else (2 : Int64))) ||| (if bt0 = (0 : Int32) then (0 : Int64) else (4 : Int64)))) (D d6_114)
  have V26_rl := V21_rl.other W26 ne_rl_a2
  have V26_rs := V21_rs.other W26 ne_rs_a2
  have V26_rr := V21_rr.other W26 ne_rr_a2
  have V26_rg := V21_rg.other W26 ne_rg_a2
  have V26_rt := V21_rt.other W26 ne_rt_a2
  have A26_ra := A21_ra.wr W26
  have F26_ra_0 := F21_ra_0.other W26 (Or.inl ne_ra_a2)
  have F26_ra_1 := F21_ra_1.other W26 (Or.inl ne_ra_a2)
  have F26_ra_2 := F21_ra_2.other W26 (Or.inl ne_ra_a2)
  have F26_ra_3 := F21_ra_3.other W26 (Or.inl ne_ra_a2)
  have F26_ra_4 := F21_ra_4.other W26 (Or.inl ne_ra_a2)
  have F26_ra_5 := F21_ra_5.other W26 (Or.inl ne_ra_a2)
  have F26_ra_6 := F21_ra_6.other W26 (Or.inl ne_ra_a2)
  have F26_ra_7 := F21_ra_7.other W26 (Or.inl ne_ra_a2)
  have sz26 := Nat.le_trans sz21 (Keep.of_wr W26).1
  have K26 := K21.wr W26 (Or.inr go_a2)
  have N26 := Fr.snoc X26 N21 ge_a2
  have V26_n : own_AJ Z h26 a2 [(if sd = (0 : Int32) then (0 : Int64) else (1 : Int64)), lt, (ll).toInt64, (((if bs0 = (0 : Int32) then (0 : Int64) else (1 : Int64)) ||| (if bg0 = (0 : Int32) then (0 : Int64) else (2 : Int64))) ||| (if bt0 = (0 : Int32) then (0 : Int64) else (4 : Int64))), (0 : Int64), (0 : Int64), (0 : Int64), (0 : Int64), (0 : Int64), (0 : Int64), (0 : Int64), (0 : Int64)] := V26
  obtain ⟨T27, X27, e27, st27⟩ := getF X26 hx hZ hown (host := "") (Or.inl (H 30 rfl)) Via.refl e26 F26_ra_0 (g := (mkF m 120 #[rv ra, rv a2, iv (0 : Int32), iv (3 : Int32)] [(.ref ra), (.int (4 : Int32)), (.ref a2)])) rfl rfl (D d6_120)
  obtain ⟨T28, h28, X28, e28, W28, V28, st28⟩ := own_lastore X27 hx hZ e27 V26_n (j := (4 : Int32)) (show 0 ≤ Int32.toInt (4 : Int32) ∧ Int32.toInt (4 : Int32) < ((12 : Nat) : Int) by decide) (x := jl0) (D d6_125)
  have V28_rl := V26_rl.other W28 ne_rl_a2
  have V28_rs := V26_rs.other W28 ne_rs_a2
  have V28_rr := V26_rr.other W28 ne_rr_a2
  have V28_rg := V26_rg.other W28 ne_rg_a2
  have V28_rt := V26_rt.other W28 ne_rt_a2
  have A28_ra := A26_ra.wr W28
  have F28_ra_0 := F26_ra_0.other W28 (Or.inl ne_ra_a2)
  have F28_ra_1 := F26_ra_1.other W28 (Or.inl ne_ra_a2)
  have F28_ra_2 := F26_ra_2.other W28 (Or.inl ne_ra_a2)
  have F28_ra_3 := F26_ra_3.other W28 (Or.inl ne_ra_a2)
  have F28_ra_4 := F26_ra_4.other W28 (Or.inl ne_ra_a2)
  have F28_ra_5 := F26_ra_5.other W28 (Or.inl ne_ra_a2)
  have F28_ra_6 := F26_ra_6.other W28 (Or.inl ne_ra_a2)
  have F28_ra_7 := F26_ra_7.other W28 (Or.inl ne_ra_a2)
  have sz28 := Nat.le_trans sz26 (Keep.of_wr W28).1
  have K28 := K26.wr W28 (Or.inr go_a2)
  have N28 := Fr.snoc X28 N26 ge_a2
  have V28_n : own_AJ Z h28 a2 [(if sd = (0 : Int32) then (0 : Int64) else (1 : Int64)), lt, (ll).toInt64, (((if bs0 = (0 : Int32) then (0 : Int64) else (1 : Int64)) ||| (if bg0 = (0 : Int32) then (0 : Int64) else (2 : Int64))) ||| (if bt0 = (0 : Int32) then (0 : Int64) else (4 : Int64))), jl0, (0 : Int64), (0 : Int64), (0 : Int64), (0 : Int64), (0 : Int64), (0 : Int64), (0 : Int64)] := V28
  obtain ⟨T29, X29, e29, st29⟩ := getF X28 hx hZ hown (host := "") (Or.inl (H 35 rfl)) Via.refl e28 F28_ra_2 (g := (mkF m 131 #[rv ra, rv a2, iv (0 : Int32), iv (3 : Int32)] [(.ref ra), (.int (5 : Int32)), (.ref a2)])) rfl rfl (D d6_131)
  obtain ⟨T30, h30, X30, e30, W30, V30, st30⟩ := own_lastore X29 hx hZ e29 V28_n (j := (5 : Int32)) (show 0 ≤ Int32.toInt (5 : Int32) ∧ Int32.toInt (5 : Int32) < ((12 : Nat) : Int) by decide) (x := jr0) (D d6_136)
  have V30_rl := V28_rl.other W30 ne_rl_a2
  have V30_rs := V28_rs.other W30 ne_rs_a2
  have V30_rr := V28_rr.other W30 ne_rr_a2
  have V30_rg := V28_rg.other W30 ne_rg_a2
  have V30_rt := V28_rt.other W30 ne_rt_a2
  have A30_ra := A28_ra.wr W30
  have F30_ra_0 := F28_ra_0.other W30 (Or.inl ne_ra_a2)
  have F30_ra_1 := F28_ra_1.other W30 (Or.inl ne_ra_a2)
  have F30_ra_2 := F28_ra_2.other W30 (Or.inl ne_ra_a2)
  have F30_ra_3 := F28_ra_3.other W30 (Or.inl ne_ra_a2)
  have F30_ra_4 := F28_ra_4.other W30 (Or.inl ne_ra_a2)
  have F30_ra_5 := F28_ra_5.other W30 (Or.inl ne_ra_a2)
  have F30_ra_6 := F28_ra_6.other W30 (Or.inl ne_ra_a2)
  have F30_ra_7 := F28_ra_7.other W30 (Or.inl ne_ra_a2)
  have sz30 := Nat.le_trans sz28 (Keep.of_wr W30).1
  have K30 := K28.wr W30 (Or.inr go_a2)
  have N30 := Fr.snoc X30 N28 ge_a2
  have V30_n : own_AJ Z h30 a2 [(if sd = (0 : Int32) then (0 : Int64) else (1 : Int64)), lt, (ll).toInt64, (((if bs0 = (0 : Int32) then (0 : Int64) else (1 : Int64)) ||| (if bg0 = (0 : Int32) then (0 : Int64) else (2 : Int64))) ||| (if bt0 = (0 : Int32) then (0 : Int64) else (4 : Int64))), jl0, jr0, (0 : Int64), (0 : Int64), (0 : Int64), (0 : Int64), (0 : Int64), (0 : Int64)] := V30
  obtain ⟨T31, X31, e31, st31⟩ := getF X30 hx hZ hown (host := "") (Or.inl (H 37 rfl)) Via.refl e30 F30_ra_3 (g := (mkF m 46 #[rv ra, rv a2, iv (1 : Int32), iv (3 : Int32)] [(.ref ra), (.int (1 : Int32))])) rfl rfl (D d6_46)
  obtain ⟨T32, X32, e32, st32⟩ := getF X31 hx hZ hown (host := "") (Or.inl (H 33 rfl)) Via.refl e31 F30_ra_1 (g := (mkF m 62 #[rv ra, rv a2, iv (1 : Int32), iv (6 : Int32)] [(.ref ra), (.int (6 : Int32)), (.ref a2)])) rfl rfl (D d6_62)
  have pre34 : ∀ t, Steps p.tables e below (T32.setTop (mkF m 67 #[rv ra, rv a2, iv (1 : Int32), iv (6 : Int32)] [(.int bs1), (.int (6 : Int32)), (.ref a2)])) t → Steps p.tables e below B0 t := by
    intro t k
    refine pre25 t ?_
    show Steps p.tables e below (T22.setTop (mkF m 113 #[rv ra, rv a2, iv (0 : Int32), iv (3 : Int32)] [(.long (if bt0 = (0 : Int32) then (0 : Int64) else (4 : Int64))), (.long ((if bs0 = (0 : Int32) then (0 : Int64) else (1 : Int64)) ||| (if bg0 = (0 : Int32) then (0 : Int64) else (2 : Int64)))), (.int (3 : Int32)), (.ref a2)])) _
    refine XS.lor X22.here hx rfl (D d6_113) rfl ?_
    refine st26 _ ?_
    refine XS.aloadN X26.here hx rfl (D d6_115) rfl rfl ?_
    refine XS.iloadN X26.here hx rfl (D d6_116) rfl ?_
    refine XS.iconst X26.here hx rfl (D d6_117) ?_
    refine XS.iadd X26.here hx rfl (D d6_118) rfl ?_
    refine XS.aloadN X26.here hx rfl (D d6_119) rfl rfl ?_
    refine st27 _ ?_
    refine XS.iloadN X27.here hx rfl (D d6_123) rfl ?_
    refine own_laload X27 hx hZ e27 V26_rl (show 0 ≤ Int32.toInt (0 : Int32) ∧ Int32.toInt (0 : Int32) < ((3 : Nat) : Int) by decide) (D d6_124) _ ?_
    refine st28 _ ?_
    refine XS.aloadN X28.here hx rfl (D d6_126) rfl rfl ?_
    refine XS.iloadN X28.here hx rfl (D d6_127) rfl ?_
    refine XS.iconst X28.here hx rfl (D d6_128) ?_
    refine XS.iadd X28.here hx rfl (D d6_129) rfl ?_
    refine XS.aloadN X28.here hx rfl (D d6_130) rfl rfl ?_
    refine st29 _ ?_
    refine XS.iloadN X29.here hx rfl (D d6_134) rfl ?_
    refine own_laload X29 hx hZ e29 V28_rr (show 0 ≤ Int32.toInt (0 : Int32) ∧ Int32.toInt (0 : Int32) < ((3 : Nat) : Int) by decide) (D d6_135) _ ?_
    refine st30 _ ?_
    refine XS.iinc X30.here hx rfl (D d6_137) rfl (l' := #[rv ra, rv a2, iv (1 : Int32), iv (3 : Int32)]) rfl ?_
    refine XS.goto X30.here hx rfl (pc0 := 140) (pc' := 44) rfl (D d6_140) (by decide) (by decide) ?_
    show Steps p.tables e below (T30.setTop (mkF m 44 #[rv ra, rv a2, iv (1 : Int32), iv (3 : Int32)] [])) _
    refine XS.iloadN X30.here hx rfl (D d6_44) rfl ?_
    refine XS.aloadN X30.here hx rfl (D d6_45) rfl rfl ?_
    refine st31 _ ?_
    refine own_alenI X31 hx hZ e31 V30_rg (D d6_49) _ ?_
    show Steps p.tables e below (T31.setTop (mkF m 50 #[rv ra, rv a2, iv (1 : Int32), iv (3 : Int32)] [(.int (3 : Int32)), (.int (1 : Int32))])) _
    refine XS.icmpNo X31.here hx rfl (D d6_50) rfl (by decide) ?_
    refine XS.iconst X31.here hx rfl (D d6_53) ?_
    refine XS.iconst X31.here hx rfl (D d6_54) ?_
    refine XS.iloadN X31.here hx rfl (D d6_55) rfl ?_
    refine XS.imul X31.here hx rfl (D d6_56) rfl ?_
    refine XS.iadd X31.here hx rfl (D d6_57) rfl ?_
    refine XS.istoreN X31.here hx rfl (D d6_58) rfl (l' := #[rv ra, rv a2, iv (1 : Int32), iv (6 : Int32)]) rfl ?_
    refine XS.aloadN X31.here hx rfl (D d6_59) rfl rfl ?_
    refine XS.iloadN X31.here hx rfl (D d6_60) rfl ?_
    refine XS.aloadN X31.here hx rfl (D d6_61) rfl rfl ?_
    refine st32 _ ?_
    refine XS.iloadN X32.here hx rfl (D d6_65) rfl ?_
    refine own_baloadZ X32 hx hZ e32 V30_rs (show 0 ≤ Int32.toInt (1 : Int32) ∧ Int32.toInt (1 : Int32) < ((3 : Nat) : Int) by decide) (D d6_66) _ ?_
    exact k
  clear V21_rl V21_rs V21_rr V21_rg V21_rt A21_ra F21_ra_0 F21_ra_1 F21_ra_2 F21_ra_3 F21_ra_4 F21_ra_5 F21_ra_6 F21_ra_7 sz21 K21 N21 V21_n X22 e22 pre24 pre25 X26 e26 W26 V26 st26 V26_rl V26_rs V26_rr V26_rg V26_rt A26_ra F26_ra_0 F26_ra_1 F26_ra_2 F26_ra_3 F26_ra_4 F26_ra_5 F26_ra_6 F26_ra_7 sz26 K26 N26 V26_n X27 e27 st27 X28 e28 W28 V28 st28 V28_rl V28_rs V28_rr V28_rg V28_rt A28_ra F28_ra_0 F28_ra_1 F28_ra_2 F28_ra_3 F28_ra_4 F28_ra_5 F28_ra_6 F28_ra_7 sz28 K28 N28 V28_n X29 e29 st29 X30 e30 W30 V30 st30 X31 e31 st31 st32
  have pre35 : ∀ t, Steps p.tables e below (T32.setTop (mkF m 75 #[rv ra, rv a2, iv (1 : Int32), iv (6 : Int32)] [(.long (if bs1 = (0 : Int32) then (0 : Int64) else (1 : Int64))), (.int (6 : Int32)), (.ref a2)])) t → Steps p.tables e below B0 t := by
    by_cases c33 : bs1 = (0 : Int32)
    · try simp only [if_pos c33]
      intro t k
      refine pre34 t ?_
      show Steps p.tables e below (T32.setTop (mkF m 67 #[rv ra, rv a2, iv (1 : Int32), iv (6 : Int32)] [(.int bs1), (.int (6 : Int32)), (.ref a2)])) _
      refine XS.ifYes X32.here hx rfl (pc0 := 67) (pc' := 74) rfl (D d6_67) rfl ((if0 _ _).trans (teq c33).1) (by decide) (by decide) ?_
      refine XS.lconst X32.here hx rfl (D d6_74) ?_
      exact k
    · try simp only [if_neg c33]
      intro t k
      refine pre34 t ?_
      show Steps p.tables e below (T32.setTop (mkF m 67 #[rv ra, rv a2, iv (1 : Int32), iv (6 : Int32)] [(.int bs1), (.int (6 : Int32)), (.ref a2)])) _
      refine XS.ifNo X32.here hx rfl (D d6_67) rfl ((if0 _ _).trans (feq c33).1) ?_
      refine XS.lconst X32.here hx rfl (D d6_70) ?_
      refine XS.goto X32.here hx rfl (pc0 := 71) (pc' := 75) rfl (D d6_71) (by decide) (by decide) ?_
      exact k
  obtain ⟨T36, X36, e36, st36⟩ := getF X32 hx hZ hown (host := "") (Or.inl (H 37 rfl)) Via.refl e32 F30_ra_3 (g := (mkF m 76 #[rv ra, rv a2, iv (1 : Int32), iv (6 : Int32)] [(.ref ra), (.long (if bs1 = (0 : Int32) then (0 : Int64) else (1 : Int64))), (.int (6 : Int32)), (.ref a2)])) rfl rfl (D d6_76)
  have pre38 : ∀ t, Steps p.tables e below (T36.setTop (mkF m 81 #[rv ra, rv a2, iv (1 : Int32), iv (6 : Int32)] [(.int bg1), (.long (if bs1 = (0 : Int32) then (0 : Int64) else (1 : Int64))), (.int (6 : Int32)), (.ref a2)])) t → Steps p.tables e below B0 t := by
    intro t k
    refine pre35 t ?_
    show Steps p.tables e below (T32.setTop (mkF m 75 #[rv ra, rv a2, iv (1 : Int32), iv (6 : Int32)] [(.long (if bs1 = (0 : Int32) then (0 : Int64) else (1 : Int64))), (.int (6 : Int32)), (.ref a2)])) _
    refine XS.aloadN X32.here hx rfl (D d6_75) rfl rfl ?_
    refine st36 _ ?_
    refine XS.iloadN X36.here hx rfl (D d6_79) rfl ?_
    refine own_baloadZ X36 hx hZ e36 V30_rg (show 0 ≤ Int32.toInt (1 : Int32) ∧ Int32.toInt (1 : Int32) < ((3 : Nat) : Int) by decide) (D d6_80) _ ?_
    exact k
  clear X32 e32 pre34 pre35 st36
  have pre39 : ∀ t, Steps p.tables e below (T36.setTop (mkF m 91 #[rv ra, rv a2, iv (1 : Int32), iv (6 : Int32)] [(.long (if bg1 = (0 : Int32) then (0 : Int64) else (2 : Int64))), (.long (if bs1 = (0 : Int32) then (0 : Int64) else (1 : Int64))), (.int (6 : Int32)), (.ref a2)])) t → Steps p.tables e below B0 t := by
    by_cases c37 : bg1 = (0 : Int32)
    · try simp only [if_pos c37]
      intro t k
      refine pre38 t ?_
      show Steps p.tables e below (T36.setTop (mkF m 81 #[rv ra, rv a2, iv (1 : Int32), iv (6 : Int32)] [(.int bg1), (.long (if bs1 = (0 : Int32) then (0 : Int64) else (1 : Int64))), (.int (6 : Int32)), (.ref a2)])) _
      refine XS.ifYes X36.here hx rfl (pc0 := 81) (pc' := 90) rfl (D d6_81) rfl ((if0 _ _).trans (teq c37).1) (by decide) (by decide) ?_
      refine XS.lconst X36.here hx rfl (D d6_90) ?_
      exact k
    · try simp only [if_neg c37]
      intro t k
      refine pre38 t ?_
      show Steps p.tables e below (T36.setTop (mkF m 81 #[rv ra, rv a2, iv (1 : Int32), iv (6 : Int32)] [(.int bg1), (.long (if bs1 = (0 : Int32) then (0 : Int64) else (1 : Int64))), (.int (6 : Int32)), (.ref a2)])) _
      refine XS.ifNo X36.here hx rfl (D d6_81) rfl ((if0 _ _).trans (feq c37).1) ?_
      refine X36.ldc2Long hx hown (mvT hZ (H 65 rfl)) (g := (mkF m 84 #[rv ra, rv a2, iv (1 : Int32), iv (6 : Int32)] [(.long (if bs1 = (0 : Int32) then (0 : Int64) else (1 : Int64))), (.int (6 : Int32)), (.ref a2)])) rfl (D d6_84) _ ?_
      refine XS.goto X36.here hx rfl (pc0 := 87) (pc' := 91) rfl (D d6_87) (by decide) (by decide) ?_
      exact k
  obtain ⟨T40, h40, X40, e40, W40, V40, st40⟩ := own_lastore X36 hx hZ e36 V30_n (j := (6 : Int32)) (show 0 ≤ Int32.toInt (6 : Int32) ∧ Int32.toInt (6 : Int32) < ((12 : Nat) : Int) by decide) (x := ((if bs1 = (0 : Int32) then (0 : Int64) else (1 : Int64)) ||| (if bg1 = (0 : Int32) then (0 : Int64) else (2 : Int64)))) (D d6_92)
  have V40_rl := V30_rl.other W40 ne_rl_a2
  have V40_rs := V30_rs.other W40 ne_rs_a2
  have V40_rr := V30_rr.other W40 ne_rr_a2
  have V40_rg := V30_rg.other W40 ne_rg_a2
  have V40_rt := V30_rt.other W40 ne_rt_a2
  have A40_ra := A30_ra.wr W40
  have F40_ra_0 := F30_ra_0.other W40 (Or.inl ne_ra_a2)
  have F40_ra_1 := F30_ra_1.other W40 (Or.inl ne_ra_a2)
  have F40_ra_2 := F30_ra_2.other W40 (Or.inl ne_ra_a2)
  have F40_ra_3 := F30_ra_3.other W40 (Or.inl ne_ra_a2)
  have F40_ra_4 := F30_ra_4.other W40 (Or.inl ne_ra_a2)
  have F40_ra_5 := F30_ra_5.other W40 (Or.inl ne_ra_a2)
  have F40_ra_6 := F30_ra_6.other W40 (Or.inl ne_ra_a2)
  have F40_ra_7 := F30_ra_7.other W40 (Or.inl ne_ra_a2)
  have sz40 := Nat.le_trans sz30 (Keep.of_wr W40).1
  have K40 := K30.wr W40 (Or.inr go_a2)
  have N40 := Fr.snoc X40 N30 ge_a2
  have V40_n : own_AJ Z h40 a2 [(if sd = (0 : Int32) then (0 : Int64) else (1 : Int64)), lt, (ll).toInt64, (((if bs0 = (0 : Int32) then (0 : Int64) else (1 : Int64)) ||| (if bg0 = (0 : Int32) then (0 : Int64) else (2 : Int64))) ||| (if bt0 = (0 : Int32) then (0 : Int64) else (4 : Int64))), jl0, jr0, ((if bs1 = (0 : Int32) then (0 : Int64) else (1 : Int64)) ||| (if bg1 = (0 : Int32) then (0 : Int64) else (2 : Int64))), (0 : Int64), (0 : Int64), (0 : Int64), (0 : Int64), (0 : Int64)] := V40
  obtain ⟨T41, X41, e41, st41⟩ := getF X40 hx hZ hown (host := "") (Or.inl (H 39 rfl)) Via.refl e40 F40_ra_4 (g := (mkF m 98 #[rv ra, rv a2, iv (1 : Int32), iv (6 : Int32)] [(.ref ra), (.long ((if bs1 = (0 : Int32) then (0 : Int64) else (1 : Int64)) ||| (if bg1 = (0 : Int32) then (0 : Int64) else (2 : Int64)))), (.int (6 : Int32)), (.ref a2)])) rfl rfl (D d6_98)
  have pre43 : ∀ t, Steps p.tables e below (T41.setTop (mkF m 103 #[rv ra, rv a2, iv (1 : Int32), iv (6 : Int32)] [(.int bt1), (.long ((if bs1 = (0 : Int32) then (0 : Int64) else (1 : Int64)) ||| (if bg1 = (0 : Int32) then (0 : Int64) else (2 : Int64)))), (.int (6 : Int32)), (.ref a2)])) t → Steps p.tables e below B0 t := by
    intro t k
    refine pre39 t ?_
    show Steps p.tables e below (T36.setTop (mkF m 91 #[rv ra, rv a2, iv (1 : Int32), iv (6 : Int32)] [(.long (if bg1 = (0 : Int32) then (0 : Int64) else (2 : Int64))), (.long (if bs1 = (0 : Int32) then (0 : Int64) else (1 : Int64))), (.int (6 : Int32)), (.ref a2)])) _
    refine XS.lor X36.here hx rfl (D d6_91) rfl ?_
    refine st40 _ ?_
    refine XS.aloadN X40.here hx rfl (D d6_93) rfl rfl ?_
    refine XS.iloadN X40.here hx rfl (D d6_94) rfl ?_
    refine Jvm.Free.XT.dup2 X40.here hx rfl (D d6_95) rfl rfl rfl ?_
    refine own_laload X40 hx hZ e40 V40_n (show 0 ≤ Int32.toInt (6 : Int32) ∧ Int32.toInt (6 : Int32) < ((12 : Nat) : Int) by decide) (D d6_96) _ ?_
    refine XS.aloadN X40.here hx rfl (D d6_97) rfl rfl ?_
    refine st41 _ ?_
    refine XS.iloadN X41.here hx rfl (D d6_101) rfl ?_
    refine own_baloadZ X41 hx hZ e41 V40_rt (show 0 ≤ Int32.toInt (1 : Int32) ∧ Int32.toInt (1 : Int32) < ((3 : Nat) : Int) by decide) (D d6_102) _ ?_
    exact k
  clear V30_rl V30_rs V30_rr V30_rg V30_rt A30_ra F30_ra_0 F30_ra_1 F30_ra_2 F30_ra_3 F30_ra_4 F30_ra_5 F30_ra_6 F30_ra_7 sz30 K30 N30 V30_n X36 e36 pre38 pre39 X40 e40 W40 V40 st40 st41
  have pre44 : ∀ t, Steps p.tables e below (T41.setTop (mkF m 113 #[rv ra, rv a2, iv (1 : Int32), iv (6 : Int32)] [(.long (if bt1 = (0 : Int32) then (0 : Int64) else (4 : Int64))), (.long ((if bs1 = (0 : Int32) then (0 : Int64) else (1 : Int64)) ||| (if bg1 = (0 : Int32) then (0 : Int64) else (2 : Int64)))), (.int (6 : Int32)), (.ref a2)])) t → Steps p.tables e below B0 t := by
    by_cases c42 : bt1 = (0 : Int32)
    · try simp only [if_pos c42]
      intro t k
      refine pre43 t ?_
      show Steps p.tables e below (T41.setTop (mkF m 103 #[rv ra, rv a2, iv (1 : Int32), iv (6 : Int32)] [(.int bt1), (.long ((if bs1 = (0 : Int32) then (0 : Int64) else (1 : Int64)) ||| (if bg1 = (0 : Int32) then (0 : Int64) else (2 : Int64)))), (.int (6 : Int32)), (.ref a2)])) _
      refine XS.ifYes X41.here hx rfl (pc0 := 103) (pc' := 112) rfl (D d6_103) rfl ((if0 _ _).trans (teq c42).1) (by decide) (by decide) ?_
      refine XS.lconst X41.here hx rfl (D d6_112) ?_
      exact k
    · try simp only [if_neg c42]
      intro t k
      refine pre43 t ?_
      show Steps p.tables e below (T41.setTop (mkF m 103 #[rv ra, rv a2, iv (1 : Int32), iv (6 : Int32)] [(.int bt1), (.long ((if bs1 = (0 : Int32) then (0 : Int64) else (1 : Int64)) ||| (if bg1 = (0 : Int32) then (0 : Int64) else (2 : Int64)))), (.int (6 : Int32)), (.ref a2)])) _
      refine XS.ifNo X41.here hx rfl (D d6_103) rfl ((if0 _ _).trans (feq c42).1) ?_
      refine X41.ldc2Long hx hown (mvT hZ (H 63 rfl)) (g := (mkF m 106 #[rv ra, rv a2, iv (1 : Int32), iv (6 : Int32)] [(.long ((if bs1 = (0 : Int32) then (0 : Int64) else (1 : Int64)) ||| (if bg1 = (0 : Int32) then (0 : Int64) else (2 : Int64)))), (.int (6 : Int32)), (.ref a2)])) rfl (D d6_106) _ ?_
      refine XS.goto X41.here hx rfl (pc0 := 109) (pc' := 113) rfl (D d6_109) (by decide) (by decide) ?_
      exact k
  obtain ⟨T45, h45, X45, e45, W45, V45, st45⟩ := own_lastore X41 hx hZ e41 V40_n (j := (6 : Int32)) (show 0 ≤ Int32.toInt (6 : Int32) ∧ Int32.toInt (6 : Int32) < ((12 : Nat) : Int) by decide) (x := (((if bs1 = (0 : Int32) then (0 : Int64) else (1 : Int64)) ||| (if bg1 = (0 : Int32) then (0 : Int64) else (2 : Int64))) ||| (if bt1 = (0 : Int32) then (0 : Int64) else (4 : Int64)))) (D d6_114)
  have V45_rl := V40_rl.other W45 ne_rl_a2
  have V45_rs := V40_rs.other W45 ne_rs_a2
  have V45_rr := V40_rr.other W45 ne_rr_a2
  have V45_rg := V40_rg.other W45 ne_rg_a2
  have V45_rt := V40_rt.other W45 ne_rt_a2
  have A45_ra := A40_ra.wr W45
  have F45_ra_0 := F40_ra_0.other W45 (Or.inl ne_ra_a2)
  have F45_ra_1 := F40_ra_1.other W45 (Or.inl ne_ra_a2)
  have F45_ra_2 := F40_ra_2.other W45 (Or.inl ne_ra_a2)
  have F45_ra_3 := F40_ra_3.other W45 (Or.inl ne_ra_a2)
  have F45_ra_4 := F40_ra_4.other W45 (Or.inl ne_ra_a2)
  have F45_ra_5 := F40_ra_5.other W45 (Or.inl ne_ra_a2)
  have F45_ra_6 := F40_ra_6.other W45 (Or.inl ne_ra_a2)
  have F45_ra_7 := F40_ra_7.other W45 (Or.inl ne_ra_a2)
  have sz45 := Nat.le_trans sz40 (Keep.of_wr W45).1
  have K45 := K40.wr W45 (Or.inr go_a2)
  have N45 := Fr.snoc X45 N40 ge_a2
  have V45_n : own_AJ Z h45 a2 [(if sd = (0 : Int32) then (0 : Int64) else (1 : Int64)), lt, (ll).toInt64, (((if bs0 = (0 : Int32) then (0 : Int64) else (1 : Int64)) ||| (if bg0 = (0 : Int32) then (0 : Int64) else (2 : Int64))) ||| (if bt0 = (0 : Int32) then (0 : Int64) else (4 : Int64))), jl0, jr0, (((if bs1 = (0 : Int32) then (0 : Int64) else (1 : Int64)) ||| (if bg1 = (0 : Int32) then (0 : Int64) else (2 : Int64))) ||| (if bt1 = (0 : Int32) then (0 : Int64) else (4 : Int64))), (0 : Int64), (0 : Int64), (0 : Int64), (0 : Int64), (0 : Int64)] := V45
  obtain ⟨T46, X46, e46, st46⟩ := getF X45 hx hZ hown (host := "") (Or.inl (H 30 rfl)) Via.refl e45 F45_ra_0 (g := (mkF m 120 #[rv ra, rv a2, iv (1 : Int32), iv (6 : Int32)] [(.ref ra), (.int (7 : Int32)), (.ref a2)])) rfl rfl (D d6_120)
  obtain ⟨T47, h47, X47, e47, W47, V47, st47⟩ := own_lastore X46 hx hZ e46 V45_n (j := (7 : Int32)) (show 0 ≤ Int32.toInt (7 : Int32) ∧ Int32.toInt (7 : Int32) < ((12 : Nat) : Int) by decide) (x := jl1) (D d6_125)
  have V47_rl := V45_rl.other W47 ne_rl_a2
  have V47_rs := V45_rs.other W47 ne_rs_a2
  have V47_rr := V45_rr.other W47 ne_rr_a2
  have V47_rg := V45_rg.other W47 ne_rg_a2
  have V47_rt := V45_rt.other W47 ne_rt_a2
  have A47_ra := A45_ra.wr W47
  have F47_ra_0 := F45_ra_0.other W47 (Or.inl ne_ra_a2)
  have F47_ra_1 := F45_ra_1.other W47 (Or.inl ne_ra_a2)
  have F47_ra_2 := F45_ra_2.other W47 (Or.inl ne_ra_a2)
  have F47_ra_3 := F45_ra_3.other W47 (Or.inl ne_ra_a2)
  have F47_ra_4 := F45_ra_4.other W47 (Or.inl ne_ra_a2)
  have F47_ra_5 := F45_ra_5.other W47 (Or.inl ne_ra_a2)
  have F47_ra_6 := F45_ra_6.other W47 (Or.inl ne_ra_a2)
  have F47_ra_7 := F45_ra_7.other W47 (Or.inl ne_ra_a2)
  have sz47 := Nat.le_trans sz45 (Keep.of_wr W47).1
  have K47 := K45.wr W47 (Or.inr go_a2)
  have N47 := Fr.snoc X47 N45 ge_a2
  have V47_n : own_AJ Z h47 a2 [(if sd = (0 : Int32) then (0 : Int64) else (1 : Int64)), lt, (ll).toInt64, (((if bs0 = (0 : Int32) then (0 : Int64) else (1 : Int64)) ||| (if bg0 = (0 : Int32) then (0 : Int64) else (2 : Int64))) ||| (if bt0 = (0 : Int32) then (0 : Int64) else (4 : Int64))), jl0, jr0, (((if bs1 = (0 : Int32) then (0 : Int64) else (1 : Int64)) ||| (if bg1 = (0 : Int32) then (0 : Int64) else (2 : Int64))) ||| (if bt1 = (0 : Int32) then (0 : Int64) else (4 : Int64))), jl1, (0 : Int64), (0 : Int64), (0 : Int64), (0 : Int64)] := V47
  obtain ⟨T48, X48, e48, st48⟩ := getF X47 hx hZ hown (host := "") (Or.inl (H 35 rfl)) Via.refl e47 F47_ra_2 (g := (mkF m 131 #[rv ra, rv a2, iv (1 : Int32), iv (6 : Int32)] [(.ref ra), (.int (8 : Int32)), (.ref a2)])) rfl rfl (D d6_131)
  obtain ⟨T49, h49, X49, e49, W49, V49, st49⟩ := own_lastore X48 hx hZ e48 V47_n (j := (8 : Int32)) (show 0 ≤ Int32.toInt (8 : Int32) ∧ Int32.toInt (8 : Int32) < ((12 : Nat) : Int) by decide) (x := jr1) (D d6_136)
  have V49_rl := V47_rl.other W49 ne_rl_a2
  have V49_rs := V47_rs.other W49 ne_rs_a2
  have V49_rr := V47_rr.other W49 ne_rr_a2
  have V49_rg := V47_rg.other W49 ne_rg_a2
  have V49_rt := V47_rt.other W49 ne_rt_a2
  have A49_ra := A47_ra.wr W49
  have F49_ra_0 := F47_ra_0.other W49 (Or.inl ne_ra_a2)
  have F49_ra_1 := F47_ra_1.other W49 (Or.inl ne_ra_a2)
  have F49_ra_2 := F47_ra_2.other W49 (Or.inl ne_ra_a2)
  have F49_ra_3 := F47_ra_3.other W49 (Or.inl ne_ra_a2)
  have F49_ra_4 := F47_ra_4.other W49 (Or.inl ne_ra_a2)
  have F49_ra_5 := F47_ra_5.other W49 (Or.inl ne_ra_a2)
  have F49_ra_6 := F47_ra_6.other W49 (Or.inl ne_ra_a2)
  have F49_ra_7 := F47_ra_7.other W49 (Or.inl ne_ra_a2)
  have sz49 := Nat.le_trans sz47 (Keep.of_wr W49).1
  have K49 := K47.wr W49 (Or.inr go_a2)
  have N49 := Fr.snoc X49 N47 ge_a2
  have V49_n : own_AJ Z h49 a2 [(if sd = (0 : Int32) then (0 : Int64) else (1 : Int64)), lt, (ll).toInt64, (((if bs0 = (0 : Int32) then (0 : Int64) else (1 : Int64)) ||| (if bg0 = (0 : Int32) then (0 : Int64) else (2 : Int64))) ||| (if bt0 = (0 : Int32) then (0 : Int64) else (4 : Int64))), jl0, jr0, (((if bs1 = (0 : Int32) then (0 : Int64) else (1 : Int64)) ||| (if bg1 = (0 : Int32) then (0 : Int64) else (2 : Int64))) ||| (if bt1 = (0 : Int32) then (0 : Int64) else (4 : Int64))), jl1, jr1, (0 : Int64), (0 : Int64), (0 : Int64)] := V49
  obtain ⟨T50, X50, e50, st50⟩ := getF X49 hx hZ hown (host := "") (Or.inl (H 37 rfl)) Via.refl e49 F49_ra_3 (g := (mkF m 46 #[rv ra, rv a2, iv (2 : Int32), iv (6 : Int32)] [(.ref ra), (.int (2 : Int32))])) rfl rfl (D d6_46)
  obtain ⟨T51, X51, e51, st51⟩ := getF X50 hx hZ hown (host := "") (Or.inl (H 33 rfl)) Via.refl e50 F49_ra_1 (g := (mkF m 62 #[rv ra, rv a2, iv (2 : Int32), iv (9 : Int32)] [(.ref ra), (.int (9 : Int32)), (.ref a2)])) rfl rfl (D d6_62)
  have pre53 : ∀ t, Steps p.tables e below (T51.setTop (mkF m 67 #[rv ra, rv a2, iv (2 : Int32), iv (9 : Int32)] [(.int bs2), (.int (9 : Int32)), (.ref a2)])) t → Steps p.tables e below B0 t := by
    intro t k
    refine pre44 t ?_
    show Steps p.tables e below (T41.setTop (mkF m 113 #[rv ra, rv a2, iv (1 : Int32), iv (6 : Int32)] [(.long (if bt1 = (0 : Int32) then (0 : Int64) else (4 : Int64))), (.long ((if bs1 = (0 : Int32) then (0 : Int64) else (1 : Int64)) ||| (if bg1 = (0 : Int32) then (0 : Int64) else (2 : Int64)))), (.int (6 : Int32)), (.ref a2)])) _
    refine XS.lor X41.here hx rfl (D d6_113) rfl ?_
    refine st45 _ ?_
    refine XS.aloadN X45.here hx rfl (D d6_115) rfl rfl ?_
    refine XS.iloadN X45.here hx rfl (D d6_116) rfl ?_
    refine XS.iconst X45.here hx rfl (D d6_117) ?_
    refine XS.iadd X45.here hx rfl (D d6_118) rfl ?_
    refine XS.aloadN X45.here hx rfl (D d6_119) rfl rfl ?_
    refine st46 _ ?_
    refine XS.iloadN X46.here hx rfl (D d6_123) rfl ?_
    refine own_laload X46 hx hZ e46 V45_rl (show 0 ≤ Int32.toInt (1 : Int32) ∧ Int32.toInt (1 : Int32) < ((3 : Nat) : Int) by decide) (D d6_124) _ ?_
    show Steps p.tables e below (T46.setTop (mkF m 125 #[rv ra, rv a2, iv (1 : Int32), iv (6 : Int32)] [(.long jl1), (.int (7 : Int32)), (.ref a2)])) _
    refine st47 _ ?_
    refine XS.aloadN X47.here hx rfl (D d6_126) rfl rfl ?_
    refine XS.iloadN X47.here hx rfl (D d6_127) rfl ?_
    refine XS.iconst X47.here hx rfl (D d6_128) ?_
    refine XS.iadd X47.here hx rfl (D d6_129) rfl ?_
    refine XS.aloadN X47.here hx rfl (D d6_130) rfl rfl ?_
    refine st48 _ ?_
    refine XS.iloadN X48.here hx rfl (D d6_134) rfl ?_
    refine own_laload X48 hx hZ e48 V47_rr (show 0 ≤ Int32.toInt (1 : Int32) ∧ Int32.toInt (1 : Int32) < ((3 : Nat) : Int) by decide) (D d6_135) _ ?_
    refine st49 _ ?_
    refine XS.iinc X49.here hx rfl (D d6_137) rfl (l' := #[rv ra, rv a2, iv (2 : Int32), iv (6 : Int32)]) rfl ?_
    refine XS.goto X49.here hx rfl (pc0 := 140) (pc' := 44) rfl (D d6_140) (by decide) (by decide) ?_
    refine XS.iloadN X49.here hx rfl (D d6_44) rfl ?_
    refine XS.aloadN X49.here hx rfl (D d6_45) rfl rfl ?_
    refine st50 _ ?_
    refine own_alenI X50 hx hZ e50 V49_rg (D d6_49) _ ?_
    show Steps p.tables e below (T50.setTop (mkF m 50 #[rv ra, rv a2, iv (2 : Int32), iv (6 : Int32)] [(.int (3 : Int32)), (.int (2 : Int32))])) _
    refine XS.icmpNo X50.here hx rfl (D d6_50) rfl (by decide) ?_
    refine XS.iconst X50.here hx rfl (D d6_53) ?_
    refine XS.iconst X50.here hx rfl (D d6_54) ?_
    refine XS.iloadN X50.here hx rfl (D d6_55) rfl ?_
    refine XS.imul X50.here hx rfl (D d6_56) rfl ?_
    refine XS.iadd X50.here hx rfl (D d6_57) rfl ?_
    refine XS.istoreN X50.here hx rfl (D d6_58) rfl (l' := #[rv ra, rv a2, iv (2 : Int32), iv (9 : Int32)]) rfl ?_
    refine XS.aloadN X50.here hx rfl (D d6_59) rfl rfl ?_
    refine XS.iloadN X50.here hx rfl (D d6_60) rfl ?_
    refine XS.aloadN X50.here hx rfl (D d6_61) rfl rfl ?_
    refine st51 _ ?_
    refine XS.iloadN X51.here hx rfl (D d6_65) rfl ?_
    refine own_baloadZ X51 hx hZ e51 V49_rs (show 0 ≤ Int32.toInt (2 : Int32) ∧ Int32.toInt (2 : Int32) < ((3 : Nat) : Int) by decide) (D d6_66) _ ?_
    exact k
  clear V40_rl V40_rs V40_rr V40_rg V40_rt A40_ra F40_ra_0 F40_ra_1 F40_ra_2 F40_ra_3 F40_ra_4 F40_ra_5 F40_ra_6 F40_ra_7 sz40 K40 N40 V40_n X41 e41 pre43 pre44 X45 e45 W45 V45 st45 V45_rl V45_rs V45_rr V45_rg V45_rt A45_ra F45_ra_0 F45_ra_1 F45_ra_2 F45_ra_3 F45_ra_4 F45_ra_5 F45_ra_6 F45_ra_7 sz45 K45 N45 V45_n X46 e46 st46 X47 e47 W47 V47 st47 V47_rl V47_rs V47_rr V47_rg V47_rt A47_ra F47_ra_0 F47_ra_1 F47_ra_2 F47_ra_3 F47_ra_4 F47_ra_5 F47_ra_6 F47_ra_7 sz47 K47 N47 V47_n X48 e48 st48 X49 e49 W49 V49 st49 X50 e50 st50 st51
  have pre54 : ∀ t, Steps p.tables e below (T51.setTop (mkF m 75 #[rv ra, rv a2, iv (2 : Int32), iv (9 : Int32)] [(.long (if bs2 = (0 : Int32) then (0 : Int64) else (1 : Int64))), (.int (9 : Int32)), (.ref a2)])) t → Steps p.tables e below B0 t := by
    by_cases c52 : bs2 = (0 : Int32)
    · try simp only [if_pos c52]
      intro t k
      refine pre53 t ?_
      show Steps p.tables e below (T51.setTop (mkF m 67 #[rv ra, rv a2, iv (2 : Int32), iv (9 : Int32)] [(.int bs2), (.int (9 : Int32)), (.ref a2)])) _
      refine XS.ifYes X51.here hx rfl (pc0 := 67) (pc' := 74) rfl (D d6_67) rfl ((if0 _ _).trans (teq c52).1) (by decide) (by decide) ?_
      refine XS.lconst X51.here hx rfl (D d6_74) ?_
      exact k
    · try simp only [if_neg c52]
      intro t k
      refine pre53 t ?_
      show Steps p.tables e below (T51.setTop (mkF m 67 #[rv ra, rv a2, iv (2 : Int32), iv (9 : Int32)] [(.int bs2), (.int (9 : Int32)), (.ref a2)])) _
      refine XS.ifNo X51.here hx rfl (D d6_67) rfl ((if0 _ _).trans (feq c52).1) ?_
      refine XS.lconst X51.here hx rfl (D d6_70) ?_
      refine XS.goto X51.here hx rfl (pc0 := 71) (pc' := 75) rfl (D d6_71) (by decide) (by decide) ?_
      exact k
  obtain ⟨T55, X55, e55, st55⟩ := getF X51 hx hZ hown (host := "") (Or.inl (H 37 rfl)) Via.refl e51 F49_ra_3 (g := (mkF m 76 #[rv ra, rv a2, iv (2 : Int32), iv (9 : Int32)] [(.ref ra), (.long (if bs2 = (0 : Int32) then (0 : Int64) else (1 : Int64))), (.int (9 : Int32)), (.ref a2)])) rfl rfl (D d6_76)
  have pre57 : ∀ t, Steps p.tables e below (T55.setTop (mkF m 81 #[rv ra, rv a2, iv (2 : Int32), iv (9 : Int32)] [(.int bg2), (.long (if bs2 = (0 : Int32) then (0 : Int64) else (1 : Int64))), (.int (9 : Int32)), (.ref a2)])) t → Steps p.tables e below B0 t := by
    intro t k
    refine pre54 t ?_
    show Steps p.tables e below (T51.setTop (mkF m 75 #[rv ra, rv a2, iv (2 : Int32), iv (9 : Int32)] [(.long (if bs2 = (0 : Int32) then (0 : Int64) else (1 : Int64))), (.int (9 : Int32)), (.ref a2)])) _
    refine XS.aloadN X51.here hx rfl (D d6_75) rfl rfl ?_
    refine st55 _ ?_
    refine XS.iloadN X55.here hx rfl (D d6_79) rfl ?_
    refine own_baloadZ X55 hx hZ e55 V49_rg (show 0 ≤ Int32.toInt (2 : Int32) ∧ Int32.toInt (2 : Int32) < ((3 : Nat) : Int) by decide) (D d6_80) _ ?_
    exact k
  clear X51 e51 pre53 pre54 st55
  have pre58 : ∀ t, Steps p.tables e below (T55.setTop (mkF m 91 #[rv ra, rv a2, iv (2 : Int32), iv (9 : Int32)] [(.long (if bg2 = (0 : Int32) then (0 : Int64) else (2 : Int64))), (.long (if bs2 = (0 : Int32) then (0 : Int64) else (1 : Int64))), (.int (9 : Int32)), (.ref a2)])) t → Steps p.tables e below B0 t := by
    by_cases c56 : bg2 = (0 : Int32)
    · try simp only [if_pos c56]
      intro t k
      refine pre57 t ?_
      show Steps p.tables e below (T55.setTop (mkF m 81 #[rv ra, rv a2, iv (2 : Int32), iv (9 : Int32)] [(.int bg2), (.long (if bs2 = (0 : Int32) then (0 : Int64) else (1 : Int64))), (.int (9 : Int32)), (.ref a2)])) _
      refine XS.ifYes X55.here hx rfl (pc0 := 81) (pc' := 90) rfl (D d6_81) rfl ((if0 _ _).trans (teq c56).1) (by decide) (by decide) ?_
      refine XS.lconst X55.here hx rfl (D d6_90) ?_
      exact k
    · try simp only [if_neg c56]
      intro t k
      refine pre57 t ?_
      show Steps p.tables e below (T55.setTop (mkF m 81 #[rv ra, rv a2, iv (2 : Int32), iv (9 : Int32)] [(.int bg2), (.long (if bs2 = (0 : Int32) then (0 : Int64) else (1 : Int64))), (.int (9 : Int32)), (.ref a2)])) _
      refine XS.ifNo X55.here hx rfl (D d6_81) rfl ((if0 _ _).trans (feq c56).1) ?_
      refine X55.ldc2Long hx hown (mvT hZ (H 65 rfl)) (g := (mkF m 84 #[rv ra, rv a2, iv (2 : Int32), iv (9 : Int32)] [(.long (if bs2 = (0 : Int32) then (0 : Int64) else (1 : Int64))), (.int (9 : Int32)), (.ref a2)])) rfl (D d6_84) _ ?_
      refine XS.goto X55.here hx rfl (pc0 := 87) (pc' := 91) rfl (D d6_87) (by decide) (by decide) ?_
      exact k
  obtain ⟨T59, h59, X59, e59, W59, V59, st59⟩ := own_lastore X55 hx hZ e55 V49_n (j := (9 : Int32)) (show 0 ≤ Int32.toInt (9 : Int32) ∧ Int32.toInt (9 : Int32) < ((12 : Nat) : Int) by decide) (x := ((if bs2 = (0 : Int32) then (0 : Int64) else (1 : Int64)) ||| (if bg2 = (0 : Int32) then (0 : Int64) else (2 : Int64)))) (D d6_92)
  have V59_rl := V49_rl.other W59 ne_rl_a2
  have V59_rs := V49_rs.other W59 ne_rs_a2
  have V59_rr := V49_rr.other W59 ne_rr_a2
  have V59_rg := V49_rg.other W59 ne_rg_a2
  have V59_rt := V49_rt.other W59 ne_rt_a2
  have A59_ra := A49_ra.wr W59
  have F59_ra_0 := F49_ra_0.other W59 (Or.inl ne_ra_a2)
  have F59_ra_1 := F49_ra_1.other W59 (Or.inl ne_ra_a2)
  have F59_ra_2 := F49_ra_2.other W59 (Or.inl ne_ra_a2)
  have F59_ra_3 := F49_ra_3.other W59 (Or.inl ne_ra_a2)
  have F59_ra_4 := F49_ra_4.other W59 (Or.inl ne_ra_a2)
  have F59_ra_5 := F49_ra_5.other W59 (Or.inl ne_ra_a2)
  have F59_ra_6 := F49_ra_6.other W59 (Or.inl ne_ra_a2)
  have F59_ra_7 := F49_ra_7.other W59 (Or.inl ne_ra_a2)
  have sz59 := Nat.le_trans sz49 (Keep.of_wr W59).1
  have K59 := K49.wr W59 (Or.inr go_a2)
  have N59 := Fr.snoc X59 N49 ge_a2
  have V59_n : own_AJ Z h59 a2 [(if sd = (0 : Int32) then (0 : Int64) else (1 : Int64)), lt, (ll).toInt64, (((if bs0 = (0 : Int32) then (0 : Int64) else (1 : Int64)) ||| (if bg0 = (0 : Int32) then (0 : Int64) else (2 : Int64))) ||| (if bt0 = (0 : Int32) then (0 : Int64) else (4 : Int64))), jl0, jr0, (((if bs1 = (0 : Int32) then (0 : Int64) else (1 : Int64)) ||| (if bg1 = (0 : Int32) then (0 : Int64) else (2 : Int64))) ||| (if bt1 = (0 : Int32) then (0 : Int64) else (4 : Int64))), jl1, jr1, ((if bs2 = (0 : Int32) then (0 : Int64) else (1 : Int64)) ||| (if bg2 = (0 : Int32) then (0 : Int64) else (2 : Int64))), (0 : Int64), (0 : Int64)] := V59
  obtain ⟨T60, X60, e60, st60⟩ := getF X59 hx hZ hown (host := "") (Or.inl (H 39 rfl)) Via.refl e59 F59_ra_4 (g := (mkF m 98 #[rv ra, rv a2, iv (2 : Int32), iv (9 : Int32)] [(.ref ra), (.long ((if bs2 = (0 : Int32) then (0 : Int64) else (1 : Int64)) ||| (if bg2 = (0 : Int32) then (0 : Int64) else (2 : Int64)))), (.int (9 : Int32)), (.ref a2)])) rfl rfl (D d6_98)
  have pre62 : ∀ t, Steps p.tables e below (T60.setTop (mkF m 103 #[rv ra, rv a2, iv (2 : Int32), iv (9 : Int32)] [(.int bt2), (.long ((if bs2 = (0 : Int32) then (0 : Int64) else (1 : Int64)) ||| (if bg2 = (0 : Int32) then (0 : Int64) else (2 : Int64)))), (.int (9 : Int32)), (.ref a2)])) t → Steps p.tables e below B0 t := by
    intro t k
    refine pre58 t ?_
    show Steps p.tables e below (T55.setTop (mkF m 91 #[rv ra, rv a2, iv (2 : Int32), iv (9 : Int32)] [(.long (if bg2 = (0 : Int32) then (0 : Int64) else (2 : Int64))), (.long (if bs2 = (0 : Int32) then (0 : Int64) else (1 : Int64))), (.int (9 : Int32)), (.ref a2)])) _
    refine XS.lor X55.here hx rfl (D d6_91) rfl ?_
    refine st59 _ ?_
    refine XS.aloadN X59.here hx rfl (D d6_93) rfl rfl ?_
    refine XS.iloadN X59.here hx rfl (D d6_94) rfl ?_
    refine Jvm.Free.XT.dup2 X59.here hx rfl (D d6_95) rfl rfl rfl ?_
    refine own_laload X59 hx hZ e59 V59_n (show 0 ≤ Int32.toInt (9 : Int32) ∧ Int32.toInt (9 : Int32) < ((12 : Nat) : Int) by decide) (D d6_96) _ ?_
    refine XS.aloadN X59.here hx rfl (D d6_97) rfl rfl ?_
    refine st60 _ ?_
    show Steps p.tables e below (T60.setTop (mkF m 101 #[rv ra, rv a2, iv (2 : Int32), iv (9 : Int32)] [(.ref rt), (.long ((if bs2 = (0 : Int32) then (0 : Int64) else (1 : Int64)) ||| (if bg2 = (0 : Int32) then (0 : Int64) else (2 : Int64)))), (.int (9 : Int32)), (.ref a2)])) _
    refine XS.iloadN X60.here hx rfl (D d6_101) rfl ?_
    refine own_baloadZ X60 hx hZ e60 V59_rt (show 0 ≤ Int32.toInt (2 : Int32) ∧ Int32.toInt (2 : Int32) < ((3 : Nat) : Int) by decide) (D d6_102) _ ?_
    exact k
  clear V49_rl V49_rs V49_rr V49_rg V49_rt A49_ra F49_ra_0 F49_ra_1 F49_ra_2 F49_ra_3 F49_ra_4 F49_ra_5 F49_ra_6 F49_ra_7 sz49 K49 N49 V49_n X55 e55 pre57 pre58 X59 e59 W59 V59 st59 st60
  have pre63 : ∀ t, Steps p.tables e below (T60.setTop (mkF m 113 #[rv ra, rv a2, iv (2 : Int32), iv (9 : Int32)] [(.long (if bt2 = (0 : Int32) then (0 : Int64) else (4 : Int64))), (.long ((if bs2 = (0 : Int32) then (0 : Int64) else (1 : Int64)) ||| (if bg2 = (0 : Int32) then (0 : Int64) else (2 : Int64)))), (.int (9 : Int32)), (.ref a2)])) t → Steps p.tables e below B0 t := by
    by_cases c61 : bt2 = (0 : Int32)
    · try simp only [if_pos c61]
      intro t k
      refine pre62 t ?_
      show Steps p.tables e below (T60.setTop (mkF m 103 #[rv ra, rv a2, iv (2 : Int32), iv (9 : Int32)] [(.int bt2), (.long ((if bs2 = (0 : Int32) then (0 : Int64) else (1 : Int64)) ||| (if bg2 = (0 : Int32) then (0 : Int64) else (2 : Int64)))), (.int (9 : Int32)), (.ref a2)])) _
      refine XS.ifYes X60.here hx rfl (pc0 := 103) (pc' := 112) rfl (D d6_103) rfl ((if0 _ _).trans (teq c61).1) (by decide) (by decide) ?_
      refine XS.lconst X60.here hx rfl (D d6_112) ?_
      exact k
    · try simp only [if_neg c61]
      intro t k
      refine pre62 t ?_
      show Steps p.tables e below (T60.setTop (mkF m 103 #[rv ra, rv a2, iv (2 : Int32), iv (9 : Int32)] [(.int bt2), (.long ((if bs2 = (0 : Int32) then (0 : Int64) else (1 : Int64)) ||| (if bg2 = (0 : Int32) then (0 : Int64) else (2 : Int64)))), (.int (9 : Int32)), (.ref a2)])) _
      refine XS.ifNo X60.here hx rfl (D d6_103) rfl ((if0 _ _).trans (feq c61).1) ?_
      refine X60.ldc2Long hx hown (mvT hZ (H 63 rfl)) (g := (mkF m 106 #[rv ra, rv a2, iv (2 : Int32), iv (9 : Int32)] [(.long ((if bs2 = (0 : Int32) then (0 : Int64) else (1 : Int64)) ||| (if bg2 = (0 : Int32) then (0 : Int64) else (2 : Int64)))), (.int (9 : Int32)), (.ref a2)])) rfl (D d6_106) _ ?_
      refine XS.goto X60.here hx rfl (pc0 := 109) (pc' := 113) rfl (D d6_109) (by decide) (by decide) ?_
      exact k
  obtain ⟨T64, h64, X64, e64, W64, V64, st64⟩ := own_lastore X60 hx hZ e60 V59_n (j := (9 : Int32)) (show 0 ≤ Int32.toInt (9 : Int32) ∧ Int32.toInt (9 : Int32) < ((12 : Nat) : Int) by decide) (x := (((if bs2 = (0 : Int32) then (0 : Int64) else (1 : Int64)) ||| (if bg2 = (0 : Int32) then (0 : Int64) else (2 : Int64))) ||| (if bt2 = (0 : Int32) then (0 : Int64) else (4 : Int64)))) (D d6_114)
  have V64_rl := V59_rl.other W64 ne_rl_a2
  have V64_rs := V59_rs.other W64 ne_rs_a2
  have V64_rr := V59_rr.other W64 ne_rr_a2
  have V64_rg := V59_rg.other W64 ne_rg_a2
  have V64_rt := V59_rt.other W64 ne_rt_a2
  have A64_ra := A59_ra.wr W64
  have F64_ra_0 := F59_ra_0.other W64 (Or.inl ne_ra_a2)
  have F64_ra_1 := F59_ra_1.other W64 (Or.inl ne_ra_a2)
  have F64_ra_2 := F59_ra_2.other W64 (Or.inl ne_ra_a2)
  have F64_ra_3 := F59_ra_3.other W64 (Or.inl ne_ra_a2)
  have F64_ra_4 := F59_ra_4.other W64 (Or.inl ne_ra_a2)
  have F64_ra_5 := F59_ra_5.other W64 (Or.inl ne_ra_a2)
  have F64_ra_6 := F59_ra_6.other W64 (Or.inl ne_ra_a2)
  have F64_ra_7 := F59_ra_7.other W64 (Or.inl ne_ra_a2)
  have sz64 := Nat.le_trans sz59 (Keep.of_wr W64).1
  have K64 := K59.wr W64 (Or.inr go_a2)
  have N64 := Fr.snoc X64 N59 ge_a2
  have V64_n : own_AJ Z h64 a2 [(if sd = (0 : Int32) then (0 : Int64) else (1 : Int64)), lt, (ll).toInt64, (((if bs0 = (0 : Int32) then (0 : Int64) else (1 : Int64)) ||| (if bg0 = (0 : Int32) then (0 : Int64) else (2 : Int64))) ||| (if bt0 = (0 : Int32) then (0 : Int64) else (4 : Int64))), jl0, jr0, (((if bs1 = (0 : Int32) then (0 : Int64) else (1 : Int64)) ||| (if bg1 = (0 : Int32) then (0 : Int64) else (2 : Int64))) ||| (if bt1 = (0 : Int32) then (0 : Int64) else (4 : Int64))), jl1, jr1, (((if bs2 = (0 : Int32) then (0 : Int64) else (1 : Int64)) ||| (if bg2 = (0 : Int32) then (0 : Int64) else (2 : Int64))) ||| (if bt2 = (0 : Int32) then (0 : Int64) else (4 : Int64))), (0 : Int64), (0 : Int64)] := V64
  obtain ⟨T65, X65, e65, st65⟩ := getF X64 hx hZ hown (host := "") (Or.inl (H 30 rfl)) Via.refl e64 F64_ra_0 (g := (mkF m 120 #[rv ra, rv a2, iv (2 : Int32), iv (9 : Int32)] [(.ref ra), (.int (10 : Int32)), (.ref a2)])) rfl rfl (D d6_120)
  obtain ⟨T66, h66, X66, e66, W66, V66, st66⟩ := own_lastore X65 hx hZ e65 V64_n (j := (10 : Int32)) (show 0 ≤ Int32.toInt (10 : Int32) ∧ Int32.toInt (10 : Int32) < ((12 : Nat) : Int) by decide) (x := jl2) (D d6_125)
  have V66_rl := V64_rl.other W66 ne_rl_a2
  have V66_rs := V64_rs.other W66 ne_rs_a2
  have V66_rr := V64_rr.other W66 ne_rr_a2
  have V66_rg := V64_rg.other W66 ne_rg_a2
  have V66_rt := V64_rt.other W66 ne_rt_a2
  have A66_ra := A64_ra.wr W66
  have F66_ra_0 := F64_ra_0.other W66 (Or.inl ne_ra_a2)
  have F66_ra_1 := F64_ra_1.other W66 (Or.inl ne_ra_a2)
  have F66_ra_2 := F64_ra_2.other W66 (Or.inl ne_ra_a2)
  have F66_ra_3 := F64_ra_3.other W66 (Or.inl ne_ra_a2)
  have F66_ra_4 := F64_ra_4.other W66 (Or.inl ne_ra_a2)
  have F66_ra_5 := F64_ra_5.other W66 (Or.inl ne_ra_a2)
  have F66_ra_6 := F64_ra_6.other W66 (Or.inl ne_ra_a2)
  have F66_ra_7 := F64_ra_7.other W66 (Or.inl ne_ra_a2)
  have sz66 := Nat.le_trans sz64 (Keep.of_wr W66).1
  have K66 := K64.wr W66 (Or.inr go_a2)
  have N66 := Fr.snoc X66 N64 ge_a2
  have V66_n : own_AJ Z h66 a2 [(if sd = (0 : Int32) then (0 : Int64) else (1 : Int64)), lt, (ll).toInt64, (((if bs0 = (0 : Int32) then (0 : Int64) else (1 : Int64)) ||| (if bg0 = (0 : Int32) then (0 : Int64) else (2 : Int64))) ||| (if bt0 = (0 : Int32) then (0 : Int64) else (4 : Int64))), jl0, jr0, (((if bs1 = (0 : Int32) then (0 : Int64) else (1 : Int64)) ||| (if bg1 = (0 : Int32) then (0 : Int64) else (2 : Int64))) ||| (if bt1 = (0 : Int32) then (0 : Int64) else (4 : Int64))), jl1, jr1, (((if bs2 = (0 : Int32) then (0 : Int64) else (1 : Int64)) ||| (if bg2 = (0 : Int32) then (0 : Int64) else (2 : Int64))) ||| (if bt2 = (0 : Int32) then (0 : Int64) else (4 : Int64))), jl2, (0 : Int64)] := V66
  obtain ⟨T67, X67, e67, st67⟩ := getF X66 hx hZ hown (host := "") (Or.inl (H 35 rfl)) Via.refl e66 F66_ra_2 (g := (mkF m 131 #[rv ra, rv a2, iv (2 : Int32), iv (9 : Int32)] [(.ref ra), (.int (11 : Int32)), (.ref a2)])) rfl rfl (D d6_131)
  obtain ⟨T68, h68, X68, e68, W68, V68, st68⟩ := own_lastore X67 hx hZ e67 V66_n (j := (11 : Int32)) (show 0 ≤ Int32.toInt (11 : Int32) ∧ Int32.toInt (11 : Int32) < ((12 : Nat) : Int) by decide) (x := jr2) (D d6_136)
  have V68_rl := V66_rl.other W68 ne_rl_a2
  have V68_rs := V66_rs.other W68 ne_rs_a2
  have V68_rr := V66_rr.other W68 ne_rr_a2
  have V68_rg := V66_rg.other W68 ne_rg_a2
  have V68_rt := V66_rt.other W68 ne_rt_a2
  have A68_ra := A66_ra.wr W68
  have F68_ra_0 := F66_ra_0.other W68 (Or.inl ne_ra_a2)
  have F68_ra_1 := F66_ra_1.other W68 (Or.inl ne_ra_a2)
  have F68_ra_2 := F66_ra_2.other W68 (Or.inl ne_ra_a2)
  have F68_ra_3 := F66_ra_3.other W68 (Or.inl ne_ra_a2)
  have F68_ra_4 := F66_ra_4.other W68 (Or.inl ne_ra_a2)
  have F68_ra_5 := F66_ra_5.other W68 (Or.inl ne_ra_a2)
  have F68_ra_6 := F66_ra_6.other W68 (Or.inl ne_ra_a2)
  have F68_ra_7 := F66_ra_7.other W68 (Or.inl ne_ra_a2)
  have sz68 := Nat.le_trans sz66 (Keep.of_wr W68).1
  have K68 := K66.wr W68 (Or.inr go_a2)
  have N68 := Fr.snoc X68 N66 ge_a2
  have V68_n : own_AJ Z h68 a2 [(if sd = (0 : Int32) then (0 : Int64) else (1 : Int64)), lt, (ll).toInt64, (((if bs0 = (0 : Int32) then (0 : Int64) else (1 : Int64)) ||| (if bg0 = (0 : Int32) then (0 : Int64) else (2 : Int64))) ||| (if bt0 = (0 : Int32) then (0 : Int64) else (4 : Int64))), jl0, jr0, (((if bs1 = (0 : Int32) then (0 : Int64) else (1 : Int64)) ||| (if bg1 = (0 : Int32) then (0 : Int64) else (2 : Int64))) ||| (if bt1 = (0 : Int32) then (0 : Int64) else (4 : Int64))), jl1, jr1, (((if bs2 = (0 : Int32) then (0 : Int64) else (1 : Int64)) ||| (if bg2 = (0 : Int32) then (0 : Int64) else (2 : Int64))) ||| (if bt2 = (0 : Int32) then (0 : Int64) else (4 : Int64))), jl2, jr2] := V68
  obtain ⟨T69, X69, e69, st69⟩ := getF X68 hx hZ hown (host := "") (Or.inl (H 37 rfl)) Via.refl e68 F68_ra_3 (g := (mkF m 46 #[rv ra, rv a2, iv (3 : Int32), iv (9 : Int32)] [(.ref ra), (.int (3 : Int32))])) rfl rfl (D d6_46)
  obtain ⟨fs, hr, hrun, hended, hW, hsame⟩ := X69.leave (v := some (.ref a2)) (fun h => by rw [Bd.returns] at h; cases h) hlk
  refine ⟨_, _, pre63 _ ?_, hrun, hended, _, _, rfl, ?_, ⟨_, rfl⟩, hW, hsame.mono (by decide) (by decide)⟩
  · show Steps p.tables e below (T60.setTop (mkF m 113 #[rv ra, rv a2, iv (2 : Int32), iv (9 : Int32)] [(.long (if bt2 = (0 : Int32) then (0 : Int64) else (4 : Int64))), (.long ((if bs2 = (0 : Int32) then (0 : Int64) else (1 : Int64)) ||| (if bg2 = (0 : Int32) then (0 : Int64) else (2 : Int64)))), (.int (9 : Int32)), (.ref a2)])) _
    refine XS.lor X60.here hx rfl (D d6_113) rfl ?_
    refine st64 _ ?_
    refine XS.aloadN X64.here hx rfl (D d6_115) rfl rfl ?_
    refine XS.iloadN X64.here hx rfl (D d6_116) rfl ?_
    refine XS.iconst X64.here hx rfl (D d6_117) ?_
    refine XS.iadd X64.here hx rfl (D d6_118) rfl ?_
    refine XS.aloadN X64.here hx rfl (D d6_119) rfl rfl ?_
    refine st65 _ ?_
    refine XS.iloadN X65.here hx rfl (D d6_123) rfl ?_
    refine own_laload X65 hx hZ e65 V64_rl (show 0 ≤ Int32.toInt (2 : Int32) ∧ Int32.toInt (2 : Int32) < ((3 : Nat) : Int) by decide) (D d6_124) _ ?_
    refine st66 _ ?_
    refine XS.aloadN X66.here hx rfl (D d6_126) rfl rfl ?_
    refine XS.iloadN X66.here hx rfl (D d6_127) rfl ?_
    refine XS.iconst X66.here hx rfl (D d6_128) ?_
    refine XS.iadd X66.here hx rfl (D d6_129) rfl ?_
    refine XS.aloadN X66.here hx rfl (D d6_130) rfl rfl ?_
    refine st67 _ ?_
    refine XS.iloadN X67.here hx rfl (D d6_134) rfl ?_
    refine own_laload X67 hx hZ e67 V66_rr (show 0 ≤ Int32.toInt (2 : Int32) ∧ Int32.toInt (2 : Int32) < ((3 : Nat) : Int) by decide) (D d6_135) _ ?_
    refine st68 _ ?_
    refine XS.iinc X68.here hx rfl (D d6_137) rfl (l' := #[rv ra, rv a2, iv (3 : Int32), iv (9 : Int32)]) rfl ?_
    refine XS.goto X68.here hx rfl (pc0 := 140) (pc' := 44) rfl (D d6_140) (by decide) (by decide) ?_
    refine XS.iloadN X68.here hx rfl (D d6_44) rfl ?_
    refine XS.aloadN X68.here hx rfl (D d6_45) rfl rfl ?_
    refine st69 _ ?_
    refine own_alenI X69 hx hZ e69 V68_rg (D d6_49) _ ?_
    show Steps p.tables e below (T69.setTop (mkF m 50 #[rv ra, rv a2, iv (3 : Int32), iv (9 : Int32)] [(.int (3 : Int32)), (.int (3 : Int32))])) _
    refine XS.icmpYes X69.here hx rfl (pc0 := 50) (pc' := 143) rfl (D d6_50) rfl (by decide) (by decide) (by decide) ?_
    refine XS.aloadN X69.here hx rfl (D d6_143) rfl rfl ?_
    show Steps p.tables e below (T69.setTop (mkF m 144 #[rv ra, rv a2, iv (3 : Int32), iv (9 : Int32)] [(.ref a2)])) _
    exact retOut X69 hx Bd.returns rfl (Or.inr (Or.inr (Or.inr (Or.inr ⟨rfl, rfl, rfl⟩)))) (D d6_144) hr
  · show Q6_3 Z ra rl rs rr rg rt sd lt ll jl0 jl1 jl2 jr0 jr1 jr2 bs0 bs1 bs2 bg0 bg1 bg2 bt0 bt1 bt2 h0 n0 _ T69.heap _
    rw [e69]
    exact ⟨by rw [g2], N68, K68, (by rw [← g2]; exact V68_n)⟩
theorem own_ix3 {x : Int64} (h1 : ¬ x < (0 : Int64)) (h2 : x < (3 : Int64)) : 0 ≤ (((3 : Int32) + ((3 : Int32) * (x).toInt32))).toInt ∧ (((3 : Int32) + ((3 : Int32) * (x).toInt32))).toInt < (12 : Nat) := by
  rw [Int64.lt_iff_toInt_lt] at h1 h2
  have e0 : (0 : Int64).toInt = 0 := by decide
  have en : (3 : Int64).toInt = 3 := by decide
  have e3 : (3 : Int32).toInt = 3 := by decide
  have a := own_l2i (x := x) (by omega)
  have b := own_imul (x := 3) (y := x.toInt32) (by rw [e3]; omega)
  rw [e3] at b
  have c := own_iadd (x := 3) (y := 3 * x.toInt32) (by omega)
  omega
theorem ef_8_3 (m : MethodId) (ra : Addr) (rw : Addr) : entryFrame m #[(.ref ra), (.ref rw)] 8 = mkF m 0 #[rv ra, rv rw, u0, u0, u0, u0, u0, u0] [] := by first | (simp [entryFrame, mkF, argsToLocals, Value.category, maxLocals]; done) | rfl
def Q8_3 (Z : State) (ra : Addr) (rw : Addr) (rg : Addr) (m0 : Int64) (m1 : Int64) (m2 : Int64) (m3 : Int64) (m4 : Int64) (m5 : Int64) (m6 : Int64) (m7 : Int64) (m8 : Int64) (m9 : Int64) (m10 : Int64) (m11 : Int64) (bg0 : Int32) (bg1 : Int32) (bg2 : Int32) (h0 : Heap) (n0 : Nat) (v : Option Value) (h : Heap) (L : List Loc) : Prop := v = none ∧ Fr n0 L ∧ h = h0
set_option maxRecDepth 65536 in
set_option maxHeartbeats 40000000 in
theorem rm8_3 (l : Launch) (Z : State) (a0 : Array Value) (hw : ∀ d ∈ tables_1, d.before a0 Z = true) (ws : List Jvm.Cond) (ra : Addr) (rw : Addr) (rg : Addr) (m0 : Int64) (m1 : Int64) (m2 : Int64) (m3 : Int64) (m4 : Int64) (m5 : Int64) (m6 : Int64) (m7 : Int64) (m8 : Int64) (m9 : Int64) (m10 : Int64) (m11 : Int64) (bg0 : Int32) (bg1 : Int32) (bg2 : Int32) (h0 : Heap) (n0 : Nat) (Z0 : n0 ≤ h0.size) (PA0 : own_AJ Z h0 rw [m0, m1, m2, m3, m4, m5, m6, m7, m8, m9, m10, m11]) (PA1 : own_AI Z h0 rg .boolean [bg0, bg1, bg2]) (PE0 : Exa Z h0 ra "com/example/tributary/tributary/io/Silence") (PF0 : Fld Z h0 ra own_S "gone" "[Z" (.ref rg)) (H0 : m0 = (0 : Int64) ∨ m0 = (1 : Int64)) (H2 : ¬ m2 < (-1 : Int64) ∧ m2 < (3 : Int64)) (HF0 : ¬ m3 < (0 : Int64) ∧ ¬ (7 : Int64) < m3 ∧ (if (m3 &&& (4 : Int64)) = (0 : Int64) then (0 : Int32) else (if (m3 &&& (2 : Int64)) = (0 : Int64) then (1 : Int32) else (0 : Int32))) = (0 : Int32) ∧ (if (m3 &&& (1 : Int64)) = (0 : Int64) then (0 : Int32) else (if m0 = (0 : Int64) then (1 : Int32) else (0 : Int32))) = (0 : Int32)) (HF1 : ¬ m6 < (0 : Int64) ∧ ¬ (7 : Int64) < m6 ∧ (if (m6 &&& (4 : Int64)) = (0 : Int64) then (0 : Int32) else (if (m6 &&& (2 : Int64)) = (0 : Int64) then (1 : Int32) else (0 : Int32))) = (0 : Int32) ∧ (if (m6 &&& (1 : Int64)) = (0 : Int64) then (0 : Int32) else (if m0 = (0 : Int64) then (1 : Int32) else (0 : Int32))) = (0 : Int32)) (HF2 : ¬ m9 < (0 : Int64) ∧ ¬ (7 : Int64) < m9 ∧ (if (m9 &&& (4 : Int64)) = (0 : Int64) then (0 : Int32) else (if (m9 &&& (2 : Int64)) = (0 : Int64) then (1 : Int32) else (0 : Int32))) = (0 : Int32) ∧ (if (m9 &&& (1 : Int64)) = (0 : Int64) then (0 : Int32) else (if m0 = (0 : Int64) then (1 : Int32) else (0 : Int32))) = (0 : Int32)) (HL : ¬ m2 < (0 : Int64) → ¬ ((([m0, m1, m2, m3, m4, m5, m6, m7, m8, m9, m10, m11] : List Int64).getD (((3 : Int32) + ((3 : Int32) * (m2).toInt32))).toInt.toNat 0) &&& (4 : Int64)) = (0 : Int64)) :
    MetFree l (⟨"com/example/tributary/tributary/io/Silence", "requireMeasured", "([J)V"⟩ : MethodName) (head1 (Jvm.Cond.code (⟨"com/example/tributary/tributary/io/Silence", "requireMeasured", "([J)V"⟩ : MethodName) prog_43_method_18_code 8 none :: ws) ({ frames := 0, cells := 0, slots := 0, locals := 0 } : Room)) (fun a U => a = #[(.ref ra), (.ref rw)] ∧ Z.Warmed39 U.vm ∧ U.heap = h0) (fun _ _ _ _ _ => True) (fun _ U o U' => ∃ v L, o = .returned v ∧ Q8_3 Z ra rw rg m0 m1 m2 m3 m4 m5 m6 m7 m8 m9 m10 m11 bg0 bg1 bg2 h0 n0 v U'.heap L ∧ FrameEnd U o U' L ({ frames := 0, cells := 0, slots := 0, locals := 0 } : Room).cells ({ frames := 0, cells := 0, slots := 0, locals := 0 } : Room).slots) := by
  refine MetFree.of_bodySF (plainFor_of_name pn_4) hisR ?_
  intro p e s m args below meth c s₁ Bd hml0 hP hK
  obtain ⟨rfl, hZ, hh⟩ := hP
  have hx := Bd.exec
  have hby := Bd.bytes
  have hml : c.maxLocals = 8 := hml0
  have hown : s.vm.findClass "com/example/tributary/tributary/io/Silence" = some m.cls := findClass_of_methodNamed Bd.named
  have hnm := (name_of_methodNamed Bd.named Bd.method).1
  have X0 : Stand p l e ({ frames := 0, cells := 0, slots := 0, locals := 0 } : Room) s m #[(.ref ra), (.ref rw)] below meth c s₁ [] 0 0 := Stand.of_body Bd
  have hlk : meth.locks = false := by first | exact BodyLoose.notSynchronized (by assumption) | exact Body.notSynchronized (by assumption)
  have e0 : s₁.heap = h0 := by rw [← hh, Bd.state]; rfl
  have N0 := Fr.nil n0
  have pre0 : ∀ t, Steps p.tables e below (s₁.setTop (mkF m 0 #[rv ra, rv rw, u0, u0, u0, u0, u0, u0] [])) t → Steps p.tables e below (s₁.setTop (entryFrame m #[(.ref ra), (.ref rw)] 8)) t := fun t k => castTop (ef_8_3 m ra rw) k
  generalize s₁.setTop (entryFrame m #[(.ref ra), (.ref rw)] 8) = B0 at pre0 ⊢
  have H : ∀ (i : Nat) {d : Jvm.Cond}, tables_1[i]? = some d → d.before a0 Z = true := fun i d q => hw d (List.mem_of_getElem? q)
  have D : ∀ {pc : Nat} {r : Except DecodeError (Instr × Nat)}, decode prog_43_method_18_code pc = r → decode c.code pc = r := fun q => hb hby q
  obtain ⟨T1, X1, e1, st1⟩ := getF X0 hx hZ hown (host := "") (Or.inl (H 37 rfl)) Via.refl e0 PF0 (g := (mkF m 7 #[rv ra, rv rw, .val .null, u0, u0, u0, u0, u0] [(.ref ra), (.int (3 : Int32)), (.int (3 : Int32)), (.int (12 : Int32))])) rfl rfl (D d8_7)
  have pre3 : ∀ t, Steps p.tables e below (T1.setTop (mkF m 41 #[rv ra, rv rw, .val .null, u0, u0, u0, u0, u0] [(.int (lcmpW m0 (0 : Int64)))])) t → Steps p.tables e below B0 t := by
    intro t k
    refine pre0 t ?_
    show Steps p.tables e below (s₁.setTop (mkF m 0 #[rv ra, rv rw, u0, u0, u0, u0, u0, u0] [])) _
    refine XS.aconstNull X0.here hx rfl (D d8_0) ?_
    refine XS.astoreN X0.here hx rfl (D d8_1) rfl rfl (l' := #[rv ra, rv rw, .val .null, u0, u0, u0, u0, u0]) rfl ?_
    refine XS.aloadN X0.here hx rfl (D d8_2) rfl rfl ?_
    refine own_alenJ X0 hx hZ e0 PA0 (D d8_3) _ ?_
    refine XS.iconst X0.here hx rfl (D d8_4) ?_
    refine XS.iconst X0.here hx rfl (D d8_5) ?_
    refine XS.aloadN X0.here hx rfl (D d8_6) rfl rfl ?_
    refine st1 _ ?_
    refine own_alenI X1 hx hZ e1 PA1 (D d8_10) _ ?_
    refine XS.imul X1.here hx rfl (D d8_11) rfl ?_
    refine XS.iadd X1.here hx rfl (D d8_12) rfl ?_
    show Steps p.tables e below (T1.setTop (mkF m 13 #[rv ra, rv rw, .val .null, u0, u0, u0, u0, u0] [(.int (12 : Int32)), (.int (12 : Int32))])) _
    refine XS.icmpYes X1.here hx rfl (pc0 := 13) (pc' := 36) rfl (D d8_13) rfl (by decide) (by decide) (by decide) ?_
    refine XS.aloadN X1.here hx rfl (D d8_36) rfl rfl ?_
    refine XS.iconst X1.here hx rfl (D d8_37) ?_
    refine own_laload X1 hx hZ e1 PA0 (show 0 ≤ Int32.toInt (0 : Int32) ∧ Int32.toInt (0 : Int32) < ((12 : Nat) : Int) by decide) (D d8_38) _ ?_
    refine XS.lconst X1.here hx rfl (D d8_39) ?_
    refine XS.lcmp X1.here hx rfl (D d8_40) rfl ?_
    exact k
  clear st1
  have pre5 : ∀ t, Steps p.tables e below (T1.setTop (mkF m 64 #[rv ra, rv rw, .val .null, u0, u0, u0, u0, u0] [])) t → Steps p.tables e below B0 t := by
    by_cases c2 : m0 = (0 : Int64)
    · try simp only [if_pos c2]
      intro t k
      refine pre3 t ?_
      show Steps p.tables e below (T1.setTop (mkF m 41 #[rv ra, rv rw, .val .null, u0, u0, u0, u0, u0] [(.int (lcmpW m0 (0 : Int64)))])) _
      refine XS.ifYes X1.here hx rfl (pc0 := 41) (pc' := 64) rfl (D d8_41) rfl ((if0 _ _).trans (teq ((lw_eq m0 (0 : Int64)).mpr c2)).1) (by decide) (by decide) ?_
      exact k
    · try simp only [if_neg c2]
      have c4 : m0 = (1 : Int64) := (H0.resolve_left ‹_›)
      intro t k
      refine pre3 t ?_
      show Steps p.tables e below (T1.setTop (mkF m 41 #[rv ra, rv rw, .val .null, u0, u0, u0, u0, u0] [(.int (lcmpW m0 (0 : Int64)))])) _
      refine XS.ifNo X1.here hx rfl (D d8_41) rfl ((if0 _ _).trans (feq (mt (lw_eq m0 (0 : Int64)).mp c2)).1) ?_
      refine XS.aloadN X1.here hx rfl (D d8_44) rfl rfl ?_
      refine XS.iconst X1.here hx rfl (D d8_45) ?_
      refine own_laload X1 hx hZ e1 PA0 (show 0 ≤ Int32.toInt (0 : Int32) ∧ Int32.toInt (0 : Int32) < ((12 : Nat) : Int) by decide) (D d8_46) _ ?_
      refine XS.lconst X1.here hx rfl (D d8_47) ?_
      refine XS.lcmp X1.here hx rfl (D d8_48) rfl ?_
      show Steps p.tables e below (T1.setTop (mkF m 49 #[rv ra, rv rw, .val .null, u0, u0, u0, u0, u0] [(.int (lcmpW m0 (1 : Int64)))])) _
      refine XS.ifYes X1.here hx rfl (pc0 := 49) (pc' := 64) rfl (D d8_49) rfl ((if0 _ _).trans (teq ((lw_eq m0 (1 : Int64)).mpr c4)).1) (by decide) (by decide) ?_
      exact k
  have c6 : ¬ (m2 < (-1 : Int64)) := H2.1
  obtain ⟨T7, X7, e7, st7⟩ := getF X1 hx hZ hown (host := "") (Or.inl (H 37 rfl)) Via.refl e1 PF0 (g := (mkF m 78 #[rv ra, rv rw, .val .null, u0, u0, u0, u0, u0] [(.ref ra), (.long m2)])) rfl rfl (D d8_78)
  have c8 : m2 < (3 : Int64) := H2.2
  obtain ⟨T9, X9, e9, st9⟩ := getF X7 hx hZ hown (host := "") (Or.inl (H 37 rfl)) Via.refl e7 PF0 (g := (mkF m 104 #[rv ra, rv rw, .val .null, iv (0 : Int32), u0, u0, u0, u0] [(.ref ra), (.int (0 : Int32))])) rfl rfl (D d8_104)
  have pre11 : ∀ t, Steps p.tables e below (T9.setTop (mkF m 128 #[rv ra, rv rw, .val .null, iv (0 : Int32), jv m3, s2, u0, u0] [(.int (lcmpW (m3 &&& (4 : Int64)) (0 : Int64)))])) t → Steps p.tables e below B0 t := by
    intro t k
    refine pre5 t ?_
    show Steps p.tables e below (T1.setTop (mkF m 64 #[rv ra, rv rw, .val .null, u0, u0, u0, u0, u0] [])) _
    refine XS.aloadN X1.here hx rfl (D d8_64) rfl rfl ?_
    refine XS.iconst X1.here hx rfl (D d8_65) ?_
    refine own_laload X1 hx hZ e1 PA0 (show 0 ≤ Int32.toInt (2 : Int32) ∧ Int32.toInt (2 : Int32) < ((12 : Nat) : Int) by decide) (D d8_66) _ ?_
    refine X1.ldc2Long hx hown (mvT hZ (H 62 rfl)) (g := (mkF m 67 #[rv ra, rv rw, .val .null, u0, u0, u0, u0, u0] [(.long m2)])) rfl (D d8_67) _ ?_
    refine XS.lcmp X1.here hx rfl (D d8_70) rfl ?_
    show Steps p.tables e below (T1.setTop (mkF m 71 #[rv ra, rv rw, .val .null, u0, u0, u0, u0, u0] [(.int (lcmpW m2 (-1 : Int64)))])) _
    refine XS.ifNo X1.here hx rfl (D d8_71) rfl ((if0 _ _).trans (flt (mt (lw_lt m2 (-1 : Int64)).mp c6)).1) ?_
    refine XS.aloadN X1.here hx rfl (D d8_74) rfl rfl ?_
    refine XS.iconst X1.here hx rfl (D d8_75) ?_
    refine own_laload X1 hx hZ e1 PA0 (show 0 ≤ Int32.toInt (2 : Int32) ∧ Int32.toInt (2 : Int32) < ((12 : Nat) : Int) by decide) (D d8_76) _ ?_
    refine XS.aloadN X1.here hx rfl (D d8_77) rfl rfl ?_
    refine st7 _ ?_
    refine own_alenI X7 hx hZ e7 PA1 (D d8_81) _ ?_
    refine XS.i2l X7.here hx rfl (D d8_82) rfl ?_
    refine XS.lcmp X7.here hx rfl (D d8_83) rfl ?_
    show Steps p.tables e below (T7.setTop (mkF m 84 #[rv ra, rv rw, .val .null, u0, u0, u0, u0, u0] [(.int (lcmpW m2 (3 : Int64)))])) _
    refine XS.ifYes X7.here hx rfl (pc0 := 84) (pc' := 96) rfl (D d8_84) rfl ((if0 _ _).trans (tlt ((lw_lt m2 (3 : Int64)).mpr c8)).1) (by decide) (by decide) ?_
    refine XS.iconst X7.here hx rfl (D d8_96) ?_
    refine XS.istoreN X7.here hx rfl (D d8_97) rfl (l' := #[rv ra, rv rw, .val .null, iv (0 : Int32), u0, u0, u0, u0]) rfl ?_
    refine XS.aloadN X7.here hx rfl (D d8_98) rfl rfl ?_
    show Steps p.tables e below (T7.setTop (mkF m 99 #[rv ra, rv rw, .val .null, iv (0 : Int32), u0, u0, u0, u0] [.null])) _
    refine XS.ifnonnullNo X7.here hx rfl (D d8_99) rfl ?_
    refine XS.iloadN X7.here hx rfl (D d8_102) rfl ?_
    refine XS.aloadN X7.here hx rfl (D d8_103) rfl rfl ?_
    refine st9 _ ?_
    refine own_alenI X9 hx hZ e9 PA1 (D d8_107) _ ?_
    show Steps p.tables e below (T9.setTop (mkF m 108 #[rv ra, rv rw, .val .null, iv (0 : Int32), u0, u0, u0, u0] [(.int (3 : Int32)), (.int (0 : Int32))])) _
    refine XS.icmpNo X9.here hx rfl (D d8_108) rfl (by decide) ?_
    refine XS.aloadN X9.here hx rfl (D d8_111) rfl rfl ?_
    refine XS.iconst X9.here hx rfl (D d8_112) ?_
    refine XS.iconst X9.here hx rfl (D d8_113) ?_
    show Steps p.tables e below (T9.setTop (mkF m 114 #[rv ra, rv rw, .val .null, iv (0 : Int32), u0, u0, u0, u0] [(.int (3 : Int32)), (.int (3 : Int32)), (.ref rw)])) _
    refine XS.iloadN X9.here hx rfl (D d8_114) rfl ?_
    refine XS.imul X9.here hx rfl (D d8_115) rfl ?_
    refine XS.iadd X9.here hx rfl (D d8_116) rfl ?_
    refine own_laload X9 hx hZ e9 PA0 (show 0 ≤ Int32.toInt (3 : Int32) ∧ Int32.toInt (3 : Int32) < ((12 : Nat) : Int) by decide) (D d8_117) _ ?_
    refine XS.lstore X9.here hx rfl (D d8_118) rfl (l' := #[rv ra, rv rw, .val .null, iv (0 : Int32), jv m3, s2, u0, u0]) rfl ?_
    refine XS.lload X9.here hx rfl (D d8_120) rfl ?_
    refine X9.ldc2Long hx hown (mvT hZ (H 63 rfl)) (g := (mkF m 122 #[rv ra, rv rw, .val .null, iv (0 : Int32), jv m3, s2, u0, u0] [(.long m3)])) rfl (D d8_122) _ ?_
    refine XS.land X9.here hx rfl (D d8_125) rfl ?_
    refine XS.lconst X9.here hx rfl (D d8_126) ?_
    refine XS.lcmp X9.here hx rfl (D d8_127) rfl ?_
    exact k
  clear X1 e1 pre3 pre5 X7 e7 st7 st9
  have pre15 : ∀ t, Steps p.tables e below (T9.setTop (mkF m 147 #[rv ra, rv rw, .val .null, iv (0 : Int32), jv m3, s2, u0, u0] [(.int (if (m3 &&& (4 : Int64)) = (0 : Int64) then (0 : Int32) else (if (m3 &&& (2 : Int64)) = (0 : Int64) then (1 : Int32) else (0 : Int32))))])) t → Steps p.tables e below B0 t := by
    by_cases c10 : (m3 &&& (4 : Int64)) = (0 : Int64)
    · try simp only [if_pos c10]
      intro t k
      refine pre11 t ?_
      show Steps p.tables e below (T9.setTop (mkF m 128 #[rv ra, rv rw, .val .null, iv (0 : Int32), jv m3, s2, u0, u0] [(.int (lcmpW (m3 &&& (4 : Int64)) (0 : Int64)))])) _
      refine XS.ifYes X9.here hx rfl (pc0 := 128) (pc' := 146) rfl (D d8_128) rfl ((if0 _ _).trans (teq ((lw_eq (m3 &&& (4 : Int64)) (0 : Int64)).mpr c10)).1) (by decide) (by decide) ?_
      refine XS.iconst X9.here hx rfl (D d8_146) ?_
      exact k
    · try simp only [if_neg c10]
      have pre13 : ∀ t, Steps p.tables e below (T9.setTop (mkF m 139 #[rv ra, rv rw, .val .null, iv (0 : Int32), jv m3, s2, u0, u0] [(.int (lcmpW (m3 &&& (2 : Int64)) (0 : Int64)))])) t → Steps p.tables e below B0 t := by
        intro t k
        refine pre11 t ?_
        show Steps p.tables e below (T9.setTop (mkF m 128 #[rv ra, rv rw, .val .null, iv (0 : Int32), jv m3, s2, u0, u0] [(.int (lcmpW (m3 &&& (4 : Int64)) (0 : Int64)))])) _
        refine XS.ifNo X9.here hx rfl (D d8_128) rfl ((if0 _ _).trans (feq (mt (lw_eq (m3 &&& (4 : Int64)) (0 : Int64)).mp c10)).1) ?_
        refine XS.lload X9.here hx rfl (D d8_131) rfl ?_
        refine X9.ldc2Long hx hown (mvT hZ (H 65 rfl)) (g := (mkF m 133 #[rv ra, rv rw, .val .null, iv (0 : Int32), jv m3, s2, u0, u0] [(.long m3)])) rfl (D d8_133) _ ?_
        refine XS.land X9.here hx rfl (D d8_136) rfl ?_
        refine XS.lconst X9.here hx rfl (D d8_137) ?_
        refine XS.lcmp X9.here hx rfl (D d8_138) rfl ?_
        exact k
      clear pre11
      have pre14 : ∀ t, Steps p.tables e below (T9.setTop (mkF m 147 #[rv ra, rv rw, .val .null, iv (0 : Int32), jv m3, s2, u0, u0] [(.int (if (m3 &&& (2 : Int64)) = (0 : Int64) then (1 : Int32) else (0 : Int32)))])) t → Steps p.tables e below B0 t := by
        by_cases c12 : (m3 &&& (2 : Int64)) = (0 : Int64)
        · try simp only [if_pos c12]
          intro t k
          refine pre13 t ?_
          show Steps p.tables e below (T9.setTop (mkF m 139 #[rv ra, rv rw, .val .null, iv (0 : Int32), jv m3, s2, u0, u0] [(.int (lcmpW (m3 &&& (2 : Int64)) (0 : Int64)))])) _
          refine XS.ifNo X9.here hx rfl (D d8_139) rfl ((if0 _ _).trans (teq ((lw_eq (m3 &&& (2 : Int64)) (0 : Int64)).mpr c12)).2) ?_
          refine XS.iconst X9.here hx rfl (D d8_142) ?_
          refine XS.goto X9.here hx rfl (pc0 := 143) (pc' := 147) rfl (D d8_143) (by decide) (by decide) ?_
          exact k
        · try simp only [if_neg c12]
          intro t k
          refine pre13 t ?_
          show Steps p.tables e below (T9.setTop (mkF m 139 #[rv ra, rv rw, .val .null, iv (0 : Int32), jv m3, s2, u0, u0] [(.int (lcmpW (m3 &&& (2 : Int64)) (0 : Int64)))])) _
          refine XS.ifYes X9.here hx rfl (pc0 := 139) (pc' := 146) rfl (D d8_139) rfl ((if0 _ _).trans (feq (mt (lw_eq (m3 &&& (2 : Int64)) (0 : Int64)).mp c12)).2) (by decide) (by decide) ?_
          refine XS.iconst X9.here hx rfl (D d8_146) ?_
          exact k
      intro t k
      refine pre14 t ?_
      exact k
  obtain ⟨v16, hv16⟩ : ∃ z : Int32, z = (if (m3 &&& (4 : Int64)) = (0 : Int64) then (0 : Int32) else (if (m3 &&& (2 : Int64)) = (0 : Int64) then (1 : Int32) else (0 : Int32))) := ⟨_, rfl⟩
  have pre17 : ∀ t, Steps p.tables e below (T9.setTop (mkF m 147 #[rv ra, rv rw, .val .null, iv (0 : Int32), jv m3, s2, u0, u0] [(.int v16)])) t → Steps p.tables e below B0 t := by
    rw [hv16]
    intro t k
    refine pre15 t ?_
    exact k
  have pre19 : ∀ t, Steps p.tables e below (T9.setTop (mkF m 155 #[rv ra, rv rw, .val .null, iv (0 : Int32), jv m3, s2, iv v16, u0] [(.int (lcmpW (m3 &&& (1 : Int64)) (0 : Int64)))])) t → Steps p.tables e below B0 t := by
    intro t k
    refine pre17 t ?_
    show Steps p.tables e below (T9.setTop (mkF m 147 #[rv ra, rv rw, .val .null, iv (0 : Int32), jv m3, s2, u0, u0] [(.int v16)])) _
    refine XS.istore X9.here hx rfl (D d8_147) rfl (l' := #[rv ra, rv rw, .val .null, iv (0 : Int32), jv m3, s2, iv v16, u0]) rfl ?_
    refine XS.lload X9.here hx rfl (D d8_149) rfl ?_
    refine XS.lconst X9.here hx rfl (D d8_151) ?_
    refine XS.land X9.here hx rfl (D d8_152) rfl ?_
    refine XS.lconst X9.here hx rfl (D d8_153) ?_
    refine XS.lcmp X9.here hx rfl (D d8_154) rfl ?_
    exact k
  clear pre11 pre15 pre17
  have pre23 : ∀ t, Steps p.tables e below (T9.setTop (mkF m 171 #[rv ra, rv rw, .val .null, iv (0 : Int32), jv m3, s2, iv v16, u0] [(.int (if (m3 &&& (1 : Int64)) = (0 : Int64) then (0 : Int32) else (if m0 = (0 : Int64) then (1 : Int32) else (0 : Int32))))])) t → Steps p.tables e below B0 t := by
    by_cases c18 : (m3 &&& (1 : Int64)) = (0 : Int64)
    · try simp only [if_pos c18]
      intro t k
      refine pre19 t ?_
      show Steps p.tables e below (T9.setTop (mkF m 155 #[rv ra, rv rw, .val .null, iv (0 : Int32), jv m3, s2, iv v16, u0] [(.int (lcmpW (m3 &&& (1 : Int64)) (0 : Int64)))])) _
      refine XS.ifYes X9.here hx rfl (pc0 := 155) (pc' := 170) rfl (D d8_155) rfl ((if0 _ _).trans (teq ((lw_eq (m3 &&& (1 : Int64)) (0 : Int64)).mpr c18)).1) (by decide) (by decide) ?_
      refine XS.iconst X9.here hx rfl (D d8_170) ?_
      exact k
    · try simp only [if_neg c18]
      have pre21 : ∀ t, Steps p.tables e below (T9.setTop (mkF m 163 #[rv ra, rv rw, .val .null, iv (0 : Int32), jv m3, s2, iv v16, u0] [(.int (lcmpW m0 (0 : Int64)))])) t → Steps p.tables e below B0 t := by
        intro t k
        refine pre19 t ?_
        show Steps p.tables e below (T9.setTop (mkF m 155 #[rv ra, rv rw, .val .null, iv (0 : Int32), jv m3, s2, iv v16, u0] [(.int (lcmpW (m3 &&& (1 : Int64)) (0 : Int64)))])) _
        refine XS.ifNo X9.here hx rfl (D d8_155) rfl ((if0 _ _).trans (feq (mt (lw_eq (m3 &&& (1 : Int64)) (0 : Int64)).mp c18)).1) ?_
        refine XS.aloadN X9.here hx rfl (D d8_158) rfl rfl ?_
        refine XS.iconst X9.here hx rfl (D d8_159) ?_
        refine own_laload X9 hx hZ e9 PA0 (show 0 ≤ Int32.toInt (0 : Int32) ∧ Int32.toInt (0 : Int32) < ((12 : Nat) : Int) by decide) (D d8_160) _ ?_
        refine XS.lconst X9.here hx rfl (D d8_161) ?_
        refine XS.lcmp X9.here hx rfl (D d8_162) rfl ?_
        exact k
      clear pre19
      have pre22 : ∀ t, Steps p.tables e below (T9.setTop (mkF m 171 #[rv ra, rv rw, .val .null, iv (0 : Int32), jv m3, s2, iv v16, u0] [(.int (if m0 = (0 : Int64) then (1 : Int32) else (0 : Int32)))])) t → Steps p.tables e below B0 t := by
        by_cases c20 : m0 = (0 : Int64)
        · try simp only [if_pos c20]
          intro t k
          refine pre21 t ?_
          show Steps p.tables e below (T9.setTop (mkF m 163 #[rv ra, rv rw, .val .null, iv (0 : Int32), jv m3, s2, iv v16, u0] [(.int (lcmpW m0 (0 : Int64)))])) _
          refine XS.ifNo X9.here hx rfl (D d8_163) rfl ((if0 _ _).trans (teq ((lw_eq m0 (0 : Int64)).mpr c20)).2) ?_
          refine XS.iconst X9.here hx rfl (D d8_166) ?_
          refine XS.goto X9.here hx rfl (pc0 := 167) (pc' := 171) rfl (D d8_167) (by decide) (by decide) ?_
          exact k
        · try simp only [if_neg c20]
          intro t k
          refine pre21 t ?_
          show Steps p.tables e below (T9.setTop (mkF m 163 #[rv ra, rv rw, .val .null, iv (0 : Int32), jv m3, s2, iv v16, u0] [(.int (lcmpW m0 (0 : Int64)))])) _
          refine XS.ifYes X9.here hx rfl (pc0 := 163) (pc' := 170) rfl (D d8_163) rfl ((if0 _ _).trans (feq (mt (lw_eq m0 (0 : Int64)).mp c20)).2) (by decide) (by decide) ?_
          refine XS.iconst X9.here hx rfl (D d8_170) ?_
          exact k
      intro t k
      refine pre22 t ?_
      exact k
  obtain ⟨v24, hv24⟩ : ∃ z : Int32, z = (if (m3 &&& (1 : Int64)) = (0 : Int64) then (0 : Int32) else (if m0 = (0 : Int64) then (1 : Int32) else (0 : Int32))) := ⟨_, rfl⟩
  have pre25 : ∀ t, Steps p.tables e below (T9.setTop (mkF m 171 #[rv ra, rv rw, .val .null, iv (0 : Int32), jv m3, s2, iv v16, u0] [(.int v24)])) t → Steps p.tables e below B0 t := by
    rw [hv24]
    intro t k
    refine pre23 t ?_
    exact k
  have c26 : ¬ (m3 < (0 : Int64)) := HF0.1
  have c27 : ¬ ((7 : Int64) < m3) := HF0.2.1
  have c28 : v16 = (0 : Int32) := (by rw [hv16]; exact HF0.2.2.1)
  have c29 : v24 = (0 : Int32) := (by rw [hv24]; exact HF0.2.2.2)
  obtain ⟨T30, X30, e30, st30⟩ := getF X9 hx hZ hown (host := "") (Or.inl (H 37 rfl)) Via.refl e9 PF0 (g := (mkF m 104 #[rv ra, rv rw, .val .null, iv (1 : Int32), jv m3, s2, iv v16, iv v24] [(.ref ra), (.int (1 : Int32))])) rfl rfl (D d8_104)
  have pre32 : ∀ t, Steps p.tables e below (T30.setTop (mkF m 128 #[rv ra, rv rw, .val .null, iv (1 : Int32), jv m6, s2, iv v16, iv v24] [(.int (lcmpW (m6 &&& (4 : Int64)) (0 : Int64)))])) t → Steps p.tables e below B0 t := by
    intro t k
    refine pre25 t ?_
    show Steps p.tables e below (T9.setTop (mkF m 171 #[rv ra, rv rw, .val .null, iv (0 : Int32), jv m3, s2, iv v16, u0] [(.int v24)])) _
    refine XS.istore X9.here hx rfl (D d8_171) rfl (l' := #[rv ra, rv rw, .val .null, iv (0 : Int32), jv m3, s2, iv v16, iv v24]) rfl ?_
    refine XS.lload X9.here hx rfl (D d8_173) rfl ?_
    refine XS.lconst X9.here hx rfl (D d8_175) ?_
    refine XS.lcmp X9.here hx rfl (D d8_176) rfl ?_
    show Steps p.tables e below (T9.setTop (mkF m 177 #[rv ra, rv rw, .val .null, iv (0 : Int32), jv m3, s2, iv v16, iv v24] [(.int (lcmpW m3 (0 : Int64)))])) _
    refine XS.ifNo X9.here hx rfl (D d8_177) rfl ((if0 _ _).trans (flt (mt (lw_lt m3 (0 : Int64)).mp c26)).1) ?_
    refine XS.lload X9.here hx rfl (D d8_180) rfl ?_
    refine X9.ldc2Long hx hown (mvT hZ (H 64 rfl)) (g := (mkF m 182 #[rv ra, rv rw, .val .null, iv (0 : Int32), jv m3, s2, iv v16, iv v24] [(.long m3)])) rfl (D d8_182) _ ?_
    refine XS.lcmp X9.here hx rfl (D d8_185) rfl ?_
    show Steps p.tables e below (T9.setTop (mkF m 186 #[rv ra, rv rw, .val .null, iv (0 : Int32), jv m3, s2, iv v16, iv v24] [(.int (lcmpW m3 (7 : Int64)))])) _
    refine XS.ifNo X9.here hx rfl (D d8_186) rfl ((if0 _ _).trans (flt (mt (lw_gt m3 (7 : Int64)).mp c27)).2.2.1) ?_
    refine XS.iload X9.here hx rfl (D d8_189) rfl ?_
    show Steps p.tables e below (T9.setTop (mkF m 191 #[rv ra, rv rw, .val .null, iv (0 : Int32), jv m3, s2, iv v16, iv v24] [(.int v16)])) _
    refine XS.ifNo X9.here hx rfl (D d8_191) rfl ((if0 _ _).trans (teq c28).2) ?_
    refine XS.iload X9.here hx rfl (D d8_194) rfl ?_
    show Steps p.tables e below (T9.setTop (mkF m 196 #[rv ra, rv rw, .val .null, iv (0 : Int32), jv m3, s2, iv v16, iv v24] [(.int v24)])) _
    refine XS.ifYes X9.here hx rfl (pc0 := 196) (pc' := 208) rfl (D d8_196) rfl ((if0 _ _).trans (teq c29).1) (by decide) (by decide) ?_
    refine XS.iinc X9.here hx rfl (D d8_208) rfl (l' := #[rv ra, rv rw, .val .null, iv (1 : Int32), jv m3, s2, iv v16, iv v24]) rfl ?_
    refine XS.goto X9.here hx rfl (pc0 := 211) (pc' := 98) rfl (D d8_211) (by decide) (by decide) ?_
    refine XS.aloadN X9.here hx rfl (D d8_98) rfl rfl ?_
    show Steps p.tables e below (T9.setTop (mkF m 99 #[rv ra, rv rw, .val .null, iv (1 : Int32), jv m3, s2, iv v16, iv v24] [.null])) _
    refine XS.ifnonnullNo X9.here hx rfl (D d8_99) rfl ?_
    refine XS.iloadN X9.here hx rfl (D d8_102) rfl ?_
    refine XS.aloadN X9.here hx rfl (D d8_103) rfl rfl ?_
    refine st30 _ ?_
    refine own_alenI X30 hx hZ e30 PA1 (D d8_107) _ ?_
    show Steps p.tables e below (T30.setTop (mkF m 108 #[rv ra, rv rw, .val .null, iv (1 : Int32), jv m3, s2, iv v16, iv v24] [(.int (3 : Int32)), (.int (1 : Int32))])) _
    refine XS.icmpNo X30.here hx rfl (D d8_108) rfl (by decide) ?_
    refine XS.aloadN X30.here hx rfl (D d8_111) rfl rfl ?_
    refine XS.iconst X30.here hx rfl (D d8_112) ?_
    refine XS.iconst X30.here hx rfl (D d8_113) ?_
    refine XS.iloadN X30.here hx rfl (D d8_114) rfl ?_
    refine XS.imul X30.here hx rfl (D d8_115) rfl ?_
    refine XS.iadd X30.here hx rfl (D d8_116) rfl ?_
    refine own_laload X30 hx hZ e30 PA0 (show 0 ≤ Int32.toInt (6 : Int32) ∧ Int32.toInt (6 : Int32) < ((12 : Nat) : Int) by decide) (D d8_117) _ ?_
    refine XS.lstore X30.here hx rfl (D d8_118) rfl (l' := #[rv ra, rv rw, .val .null, iv (1 : Int32), jv m6, s2, iv v16, iv v24]) rfl ?_
    show Steps p.tables e below (T30.setTop (mkF m 120 #[rv ra, rv rw, .val .null, iv (1 : Int32), jv m6, s2, iv v16, iv v24] [])) _
    refine XS.lload X30.here hx rfl (D d8_120) rfl ?_
    refine X30.ldc2Long hx hown (mvT hZ (H 63 rfl)) (g := (mkF m 122 #[rv ra, rv rw, .val .null, iv (1 : Int32), jv m6, s2, iv v16, iv v24] [(.long m6)])) rfl (D d8_122) _ ?_
    refine XS.land X30.here hx rfl (D d8_125) rfl ?_
    refine XS.lconst X30.here hx rfl (D d8_126) ?_
    refine XS.lcmp X30.here hx rfl (D d8_127) rfl ?_
    exact k
  clear X9 e9 pre19 pre23 pre25 st30
  have pre36 : ∀ t, Steps p.tables e below (T30.setTop (mkF m 147 #[rv ra, rv rw, .val .null, iv (1 : Int32), jv m6, s2, iv v16, iv v24] [(.int (if (m6 &&& (4 : Int64)) = (0 : Int64) then (0 : Int32) else (if (m6 &&& (2 : Int64)) = (0 : Int64) then (1 : Int32) else (0 : Int32))))])) t → Steps p.tables e below B0 t := by
    by_cases c31 : (m6 &&& (4 : Int64)) = (0 : Int64)
    · try simp only [if_pos c31]
      intro t k
      refine pre32 t ?_
      show Steps p.tables e below (T30.setTop (mkF m 128 #[rv ra, rv rw, .val .null, iv (1 : Int32), jv m6, s2, iv v16, iv v24] [(.int (lcmpW (m6 &&& (4 : Int64)) (0 : Int64)))])) _
      refine XS.ifYes X30.here hx rfl (pc0 := 128) (pc' := 146) rfl (D d8_128) rfl ((if0 _ _).trans (teq ((lw_eq (m6 &&& (4 : Int64)) (0 : Int64)).mpr c31)).1) (by decide) (by decide) ?_
      refine XS.iconst X30.here hx rfl (D d8_146) ?_
      exact k
    · try simp only [if_neg c31]
      have pre34 : ∀ t, Steps p.tables e below (T30.setTop (mkF m 139 #[rv ra, rv rw, .val .null, iv (1 : Int32), jv m6, s2, iv v16, iv v24] [(.int (lcmpW (m6 &&& (2 : Int64)) (0 : Int64)))])) t → Steps p.tables e below B0 t := by
        intro t k
        refine pre32 t ?_
        show Steps p.tables e below (T30.setTop (mkF m 128 #[rv ra, rv rw, .val .null, iv (1 : Int32), jv m6, s2, iv v16, iv v24] [(.int (lcmpW (m6 &&& (4 : Int64)) (0 : Int64)))])) _
        refine XS.ifNo X30.here hx rfl (D d8_128) rfl ((if0 _ _).trans (feq (mt (lw_eq (m6 &&& (4 : Int64)) (0 : Int64)).mp c31)).1) ?_
        refine XS.lload X30.here hx rfl (D d8_131) rfl ?_
        refine X30.ldc2Long hx hown (mvT hZ (H 65 rfl)) (g := (mkF m 133 #[rv ra, rv rw, .val .null, iv (1 : Int32), jv m6, s2, iv v16, iv v24] [(.long m6)])) rfl (D d8_133) _ ?_
        refine XS.land X30.here hx rfl (D d8_136) rfl ?_
        refine XS.lconst X30.here hx rfl (D d8_137) ?_
        refine XS.lcmp X30.here hx rfl (D d8_138) rfl ?_
        exact k
      clear pre32
      have pre35 : ∀ t, Steps p.tables e below (T30.setTop (mkF m 147 #[rv ra, rv rw, .val .null, iv (1 : Int32), jv m6, s2, iv v16, iv v24] [(.int (if (m6 &&& (2 : Int64)) = (0 : Int64) then (1 : Int32) else (0 : Int32)))])) t → Steps p.tables e below B0 t := by
        by_cases c33 : (m6 &&& (2 : Int64)) = (0 : Int64)
        · try simp only [if_pos c33]
          intro t k
          refine pre34 t ?_
          show Steps p.tables e below (T30.setTop (mkF m 139 #[rv ra, rv rw, .val .null, iv (1 : Int32), jv m6, s2, iv v16, iv v24] [(.int (lcmpW (m6 &&& (2 : Int64)) (0 : Int64)))])) _
          refine XS.ifNo X30.here hx rfl (D d8_139) rfl ((if0 _ _).trans (teq ((lw_eq (m6 &&& (2 : Int64)) (0 : Int64)).mpr c33)).2) ?_
          refine XS.iconst X30.here hx rfl (D d8_142) ?_
          refine XS.goto X30.here hx rfl (pc0 := 143) (pc' := 147) rfl (D d8_143) (by decide) (by decide) ?_
          exact k
        · try simp only [if_neg c33]
          intro t k
          refine pre34 t ?_
          show Steps p.tables e below (T30.setTop (mkF m 139 #[rv ra, rv rw, .val .null, iv (1 : Int32), jv m6, s2, iv v16, iv v24] [(.int (lcmpW (m6 &&& (2 : Int64)) (0 : Int64)))])) _
          refine XS.ifYes X30.here hx rfl (pc0 := 139) (pc' := 146) rfl (D d8_139) rfl ((if0 _ _).trans (feq (mt (lw_eq (m6 &&& (2 : Int64)) (0 : Int64)).mp c33)).2) (by decide) (by decide) ?_
          refine XS.iconst X30.here hx rfl (D d8_146) ?_
          exact k
      intro t k
      refine pre35 t ?_
      exact k
  obtain ⟨v37, hv37⟩ : ∃ z : Int32, z = (if (m6 &&& (4 : Int64)) = (0 : Int64) then (0 : Int32) else (if (m6 &&& (2 : Int64)) = (0 : Int64) then (1 : Int32) else (0 : Int32))) := ⟨_, rfl⟩
  have pre38 : ∀ t, Steps p.tables e below (T30.setTop (mkF m 147 #[rv ra, rv rw, .val .null, iv (1 : Int32), jv m6, s2, iv v16, iv v24] [(.int v37)])) t → Steps p.tables e below B0 t := by
    rw [hv37]
    intro t k
    refine pre36 t ?_
    exact k
  have pre40 : ∀ t, Steps p.tables e below (T30.setTop (mkF m 155 #[rv ra, rv rw, .val .null, iv (1 : Int32), jv m6, s2, iv v37, iv v24] [(.int (lcmpW (m6 &&& (1 : Int64)) (0 : Int64)))])) t → Steps p.tables e below B0 t := by
    intro t k
    refine pre38 t ?_
    show Steps p.tables e below (T30.setTop (mkF m 147 #[rv ra, rv rw, .val .null, iv (1 : Int32), jv m6, s2, iv v16, iv v24] [(.int v37)])) _
    refine XS.istore X30.here hx rfl (D d8_147) rfl (l' := #[rv ra, rv rw, .val .null, iv (1 : Int32), jv m6, s2, iv v37, iv v24]) rfl ?_
    refine XS.lload X30.here hx rfl (D d8_149) rfl ?_
    refine XS.lconst X30.here hx rfl (D d8_151) ?_
    refine XS.land X30.here hx rfl (D d8_152) rfl ?_
    refine XS.lconst X30.here hx rfl (D d8_153) ?_
    refine XS.lcmp X30.here hx rfl (D d8_154) rfl ?_
    exact k
  clear pre32 pre36 pre38
  have pre44 : ∀ t, Steps p.tables e below (T30.setTop (mkF m 171 #[rv ra, rv rw, .val .null, iv (1 : Int32), jv m6, s2, iv v37, iv v24] [(.int (if (m6 &&& (1 : Int64)) = (0 : Int64) then (0 : Int32) else (if m0 = (0 : Int64) then (1 : Int32) else (0 : Int32))))])) t → Steps p.tables e below B0 t := by
    by_cases c39 : (m6 &&& (1 : Int64)) = (0 : Int64)
    · try simp only [if_pos c39]
      intro t k
      refine pre40 t ?_
      show Steps p.tables e below (T30.setTop (mkF m 155 #[rv ra, rv rw, .val .null, iv (1 : Int32), jv m6, s2, iv v37, iv v24] [(.int (lcmpW (m6 &&& (1 : Int64)) (0 : Int64)))])) _
      refine XS.ifYes X30.here hx rfl (pc0 := 155) (pc' := 170) rfl (D d8_155) rfl ((if0 _ _).trans (teq ((lw_eq (m6 &&& (1 : Int64)) (0 : Int64)).mpr c39)).1) (by decide) (by decide) ?_
      refine XS.iconst X30.here hx rfl (D d8_170) ?_
      exact k
    · try simp only [if_neg c39]
      have pre42 : ∀ t, Steps p.tables e below (T30.setTop (mkF m 163 #[rv ra, rv rw, .val .null, iv (1 : Int32), jv m6, s2, iv v37, iv v24] [(.int (lcmpW m0 (0 : Int64)))])) t → Steps p.tables e below B0 t := by
        intro t k
        refine pre40 t ?_
        show Steps p.tables e below (T30.setTop (mkF m 155 #[rv ra, rv rw, .val .null, iv (1 : Int32), jv m6, s2, iv v37, iv v24] [(.int (lcmpW (m6 &&& (1 : Int64)) (0 : Int64)))])) _
        refine XS.ifNo X30.here hx rfl (D d8_155) rfl ((if0 _ _).trans (feq (mt (lw_eq (m6 &&& (1 : Int64)) (0 : Int64)).mp c39)).1) ?_
        refine XS.aloadN X30.here hx rfl (D d8_158) rfl rfl ?_
        refine XS.iconst X30.here hx rfl (D d8_159) ?_
        refine own_laload X30 hx hZ e30 PA0 (show 0 ≤ Int32.toInt (0 : Int32) ∧ Int32.toInt (0 : Int32) < ((12 : Nat) : Int) by decide) (D d8_160) _ ?_
        refine XS.lconst X30.here hx rfl (D d8_161) ?_
        refine XS.lcmp X30.here hx rfl (D d8_162) rfl ?_
        exact k
      clear pre40
      have pre43 : ∀ t, Steps p.tables e below (T30.setTop (mkF m 171 #[rv ra, rv rw, .val .null, iv (1 : Int32), jv m6, s2, iv v37, iv v24] [(.int (if m0 = (0 : Int64) then (1 : Int32) else (0 : Int32)))])) t → Steps p.tables e below B0 t := by
        by_cases c41 : m0 = (0 : Int64)
        · try simp only [if_pos c41]
          intro t k
          refine pre42 t ?_
          show Steps p.tables e below (T30.setTop (mkF m 163 #[rv ra, rv rw, .val .null, iv (1 : Int32), jv m6, s2, iv v37, iv v24] [(.int (lcmpW m0 (0 : Int64)))])) _
          refine XS.ifNo X30.here hx rfl (D d8_163) rfl ((if0 _ _).trans (teq ((lw_eq m0 (0 : Int64)).mpr c41)).2) ?_
          refine XS.iconst X30.here hx rfl (D d8_166) ?_
          refine XS.goto X30.here hx rfl (pc0 := 167) (pc' := 171) rfl (D d8_167) (by decide) (by decide) ?_
          exact k
        · try simp only [if_neg c41]
          intro t k
          refine pre42 t ?_
          show Steps p.tables e below (T30.setTop (mkF m 163 #[rv ra, rv rw, .val .null, iv (1 : Int32), jv m6, s2, iv v37, iv v24] [(.int (lcmpW m0 (0 : Int64)))])) _
          refine XS.ifYes X30.here hx rfl (pc0 := 163) (pc' := 170) rfl (D d8_163) rfl ((if0 _ _).trans (feq (mt (lw_eq m0 (0 : Int64)).mp c41)).2) (by decide) (by decide) ?_
          refine XS.iconst X30.here hx rfl (D d8_170) ?_
          exact k
      intro t k
      refine pre43 t ?_
      exact k
  obtain ⟨v45, hv45⟩ : ∃ z : Int32, z = (if (m6 &&& (1 : Int64)) = (0 : Int64) then (0 : Int32) else (if m0 = (0 : Int64) then (1 : Int32) else (0 : Int32))) := ⟨_, rfl⟩
  have pre46 : ∀ t, Steps p.tables e below (T30.setTop (mkF m 171 #[rv ra, rv rw, .val .null, iv (1 : Int32), jv m6, s2, iv v37, iv v24] [(.int v45)])) t → Steps p.tables e below B0 t := by
    rw [hv45]
    intro t k
    refine pre44 t ?_
    exact k
  have c47 : ¬ (m6 < (0 : Int64)) := HF1.1
  have c48 : ¬ ((7 : Int64) < m6) := HF1.2.1
  have c49 : v37 = (0 : Int32) := (by rw [hv37]; exact HF1.2.2.1)
  have c50 : v45 = (0 : Int32) := (by rw [hv45]; exact HF1.2.2.2)
  obtain ⟨T51, X51, e51, st51⟩ := getF X30 hx hZ hown (host := "") (Or.inl (H 37 rfl)) Via.refl e30 PF0 (g := (mkF m 104 #[rv ra, rv rw, .val .null, iv (2 : Int32), jv m6, s2, iv v37, iv v45] [(.ref ra), (.int (2 : Int32))])) rfl rfl (D d8_104)
  have pre53 : ∀ t, Steps p.tables e below (T51.setTop (mkF m 128 #[rv ra, rv rw, .val .null, iv (2 : Int32), jv m9, s2, iv v37, iv v45] [(.int (lcmpW (m9 &&& (4 : Int64)) (0 : Int64)))])) t → Steps p.tables e below B0 t := by
    intro t k
    refine pre46 t ?_
    show Steps p.tables e below (T30.setTop (mkF m 171 #[rv ra, rv rw, .val .null, iv (1 : Int32), jv m6, s2, iv v37, iv v24] [(.int v45)])) _
    refine XS.istore X30.here hx rfl (D d8_171) rfl (l' := #[rv ra, rv rw, .val .null, iv (1 : Int32), jv m6, s2, iv v37, iv v45]) rfl ?_
    refine XS.lload X30.here hx rfl (D d8_173) rfl ?_
    refine XS.lconst X30.here hx rfl (D d8_175) ?_
    refine XS.lcmp X30.here hx rfl (D d8_176) rfl ?_
    show Steps p.tables e below (T30.setTop (mkF m 177 #[rv ra, rv rw, .val .null, iv (1 : Int32), jv m6, s2, iv v37, iv v45] [(.int (lcmpW m6 (0 : Int64)))])) _
    refine XS.ifNo X30.here hx rfl (D d8_177) rfl ((if0 _ _).trans (flt (mt (lw_lt m6 (0 : Int64)).mp c47)).1) ?_
    refine XS.lload X30.here hx rfl (D d8_180) rfl ?_
    refine X30.ldc2Long hx hown (mvT hZ (H 64 rfl)) (g := (mkF m 182 #[rv ra, rv rw, .val .null, iv (1 : Int32), jv m6, s2, iv v37, iv v45] [(.long m6)])) rfl (D d8_182) _ ?_
    refine XS.lcmp X30.here hx rfl (D d8_185) rfl ?_
    show Steps p.tables e below (T30.setTop (mkF m 186 #[rv ra, rv rw, .val .null, iv (1 : Int32), jv m6, s2, iv v37, iv v45] [(.int (lcmpW m6 (7 : Int64)))])) _
    refine XS.ifNo X30.here hx rfl (D d8_186) rfl ((if0 _ _).trans (flt (mt (lw_gt m6 (7 : Int64)).mp c48)).2.2.1) ?_
    refine XS.iload X30.here hx rfl (D d8_189) rfl ?_
    show Steps p.tables e below (T30.setTop (mkF m 191 #[rv ra, rv rw, .val .null, iv (1 : Int32), jv m6, s2, iv v37, iv v45] [(.int v37)])) _
    refine XS.ifNo X30.here hx rfl (D d8_191) rfl ((if0 _ _).trans (teq c49).2) ?_
    refine XS.iload X30.here hx rfl (D d8_194) rfl ?_
    show Steps p.tables e below (T30.setTop (mkF m 196 #[rv ra, rv rw, .val .null, iv (1 : Int32), jv m6, s2, iv v37, iv v45] [(.int v45)])) _
    refine XS.ifYes X30.here hx rfl (pc0 := 196) (pc' := 208) rfl (D d8_196) rfl ((if0 _ _).trans (teq c50).1) (by decide) (by decide) ?_
    refine XS.iinc X30.here hx rfl (D d8_208) rfl (l' := #[rv ra, rv rw, .val .null, iv (2 : Int32), jv m6, s2, iv v37, iv v45]) rfl ?_
    refine XS.goto X30.here hx rfl (pc0 := 211) (pc' := 98) rfl (D d8_211) (by decide) (by decide) ?_
    refine XS.aloadN X30.here hx rfl (D d8_98) rfl rfl ?_
    show Steps p.tables e below (T30.setTop (mkF m 99 #[rv ra, rv rw, .val .null, iv (2 : Int32), jv m6, s2, iv v37, iv v45] [.null])) _
    refine XS.ifnonnullNo X30.here hx rfl (D d8_99) rfl ?_
    refine XS.iloadN X30.here hx rfl (D d8_102) rfl ?_
    refine XS.aloadN X30.here hx rfl (D d8_103) rfl rfl ?_
    refine st51 _ ?_
    refine own_alenI X51 hx hZ e51 PA1 (D d8_107) _ ?_
    show Steps p.tables e below (T51.setTop (mkF m 108 #[rv ra, rv rw, .val .null, iv (2 : Int32), jv m6, s2, iv v37, iv v45] [(.int (3 : Int32)), (.int (2 : Int32))])) _
    refine XS.icmpNo X51.here hx rfl (D d8_108) rfl (by decide) ?_
    refine XS.aloadN X51.here hx rfl (D d8_111) rfl rfl ?_
    refine XS.iconst X51.here hx rfl (D d8_112) ?_
    refine XS.iconst X51.here hx rfl (D d8_113) ?_
    refine XS.iloadN X51.here hx rfl (D d8_114) rfl ?_
    refine XS.imul X51.here hx rfl (D d8_115) rfl ?_
    refine XS.iadd X51.here hx rfl (D d8_116) rfl ?_
    refine own_laload X51 hx hZ e51 PA0 (show 0 ≤ Int32.toInt (9 : Int32) ∧ Int32.toInt (9 : Int32) < ((12 : Nat) : Int) by decide) (D d8_117) _ ?_
    refine XS.lstore X51.here hx rfl (D d8_118) rfl (l' := #[rv ra, rv rw, .val .null, iv (2 : Int32), jv m9, s2, iv v37, iv v45]) rfl ?_
    refine XS.lload X51.here hx rfl (D d8_120) rfl ?_
    refine X51.ldc2Long hx hown (mvT hZ (H 63 rfl)) (g := (mkF m 122 #[rv ra, rv rw, .val .null, iv (2 : Int32), jv m9, s2, iv v37, iv v45] [(.long m9)])) rfl (D d8_122) _ ?_
    refine XS.land X51.here hx rfl (D d8_125) rfl ?_
    refine XS.lconst X51.here hx rfl (D d8_126) ?_
    refine XS.lcmp X51.here hx rfl (D d8_127) rfl ?_
    exact k
  clear X30 e30 pre40 pre44 pre46 st51
  have pre57 : ∀ t, Steps p.tables e below (T51.setTop (mkF m 147 #[rv ra, rv rw, .val .null, iv (2 : Int32), jv m9, s2, iv v37, iv v45] [(.int (if (m9 &&& (4 : Int64)) = (0 : Int64) then (0 : Int32) else (if (m9 &&& (2 : Int64)) = (0 : Int64) then (1 : Int32) else (0 : Int32))))])) t → Steps p.tables e below B0 t := by
    by_cases c52 : (m9 &&& (4 : Int64)) = (0 : Int64)
    · try simp only [if_pos c52]
      intro t k
      refine pre53 t ?_
      show Steps p.tables e below (T51.setTop (mkF m 128 #[rv ra, rv rw, .val .null, iv (2 : Int32), jv m9, s2, iv v37, iv v45] [(.int (lcmpW (m9 &&& (4 : Int64)) (0 : Int64)))])) _
      refine XS.ifYes X51.here hx rfl (pc0 := 128) (pc' := 146) rfl (D d8_128) rfl ((if0 _ _).trans (teq ((lw_eq (m9 &&& (4 : Int64)) (0 : Int64)).mpr c52)).1) (by decide) (by decide) ?_
      show Steps p.tables e below (T51.setTop (mkF m 146 #[rv ra, rv rw, .val .null, iv (2 : Int32), jv m9, s2, iv v37, iv v45] [])) _
      refine XS.iconst X51.here hx rfl (D d8_146) ?_
      exact k
    · try simp only [if_neg c52]
      have pre55 : ∀ t, Steps p.tables e below (T51.setTop (mkF m 139 #[rv ra, rv rw, .val .null, iv (2 : Int32), jv m9, s2, iv v37, iv v45] [(.int (lcmpW (m9 &&& (2 : Int64)) (0 : Int64)))])) t → Steps p.tables e below B0 t := by
        intro t k
        refine pre53 t ?_
        show Steps p.tables e below (T51.setTop (mkF m 128 #[rv ra, rv rw, .val .null, iv (2 : Int32), jv m9, s2, iv v37, iv v45] [(.int (lcmpW (m9 &&& (4 : Int64)) (0 : Int64)))])) _
        refine XS.ifNo X51.here hx rfl (D d8_128) rfl ((if0 _ _).trans (feq (mt (lw_eq (m9 &&& (4 : Int64)) (0 : Int64)).mp c52)).1) ?_
        show Steps p.tables e below (T51.setTop (mkF m 131 #[rv ra, rv rw, .val .null, iv (2 : Int32), jv m9, s2, iv v37, iv v45] [])) _
        refine XS.lload X51.here hx rfl (D d8_131) rfl ?_
        refine X51.ldc2Long hx hown (mvT hZ (H 65 rfl)) (g := (mkF m 133 #[rv ra, rv rw, .val .null, iv (2 : Int32), jv m9, s2, iv v37, iv v45] [(.long m9)])) rfl (D d8_133) _ ?_
        refine XS.land X51.here hx rfl (D d8_136) rfl ?_
        refine XS.lconst X51.here hx rfl (D d8_137) ?_
        refine XS.lcmp X51.here hx rfl (D d8_138) rfl ?_
        exact k
      clear pre53
      have pre56 : ∀ t, Steps p.tables e below (T51.setTop (mkF m 147 #[rv ra, rv rw, .val .null, iv (2 : Int32), jv m9, s2, iv v37, iv v45] [(.int (if (m9 &&& (2 : Int64)) = (0 : Int64) then (1 : Int32) else (0 : Int32)))])) t → Steps p.tables e below B0 t := by
        by_cases c54 : (m9 &&& (2 : Int64)) = (0 : Int64)
        · try simp only [if_pos c54]
          intro t k
          refine pre55 t ?_
          show Steps p.tables e below (T51.setTop (mkF m 139 #[rv ra, rv rw, .val .null, iv (2 : Int32), jv m9, s2, iv v37, iv v45] [(.int (lcmpW (m9 &&& (2 : Int64)) (0 : Int64)))])) _
          refine XS.ifNo X51.here hx rfl (D d8_139) rfl ((if0 _ _).trans (teq ((lw_eq (m9 &&& (2 : Int64)) (0 : Int64)).mpr c54)).2) ?_
          refine XS.iconst X51.here hx rfl (D d8_142) ?_
          refine XS.goto X51.here hx rfl (pc0 := 143) (pc' := 147) rfl (D d8_143) (by decide) (by decide) ?_
          exact k
        · try simp only [if_neg c54]
          intro t k
          refine pre55 t ?_
          show Steps p.tables e below (T51.setTop (mkF m 139 #[rv ra, rv rw, .val .null, iv (2 : Int32), jv m9, s2, iv v37, iv v45] [(.int (lcmpW (m9 &&& (2 : Int64)) (0 : Int64)))])) _
          refine XS.ifYes X51.here hx rfl (pc0 := 139) (pc' := 146) rfl (D d8_139) rfl ((if0 _ _).trans (feq (mt (lw_eq (m9 &&& (2 : Int64)) (0 : Int64)).mp c54)).2) (by decide) (by decide) ?_
          refine XS.iconst X51.here hx rfl (D d8_146) ?_
          exact k
      intro t k
      refine pre56 t ?_
      exact k
  obtain ⟨v58, hv58⟩ : ∃ z : Int32, z = (if (m9 &&& (4 : Int64)) = (0 : Int64) then (0 : Int32) else (if (m9 &&& (2 : Int64)) = (0 : Int64) then (1 : Int32) else (0 : Int32))) := ⟨_, rfl⟩
  have pre59 : ∀ t, Steps p.tables e below (T51.setTop (mkF m 147 #[rv ra, rv rw, .val .null, iv (2 : Int32), jv m9, s2, iv v37, iv v45] [(.int v58)])) t → Steps p.tables e below B0 t := by
    rw [hv58]
    intro t k
    refine pre57 t ?_
    exact k
  have pre61 : ∀ t, Steps p.tables e below (T51.setTop (mkF m 155 #[rv ra, rv rw, .val .null, iv (2 : Int32), jv m9, s2, iv v58, iv v45] [(.int (lcmpW (m9 &&& (1 : Int64)) (0 : Int64)))])) t → Steps p.tables e below B0 t := by
    intro t k
    refine pre59 t ?_
    show Steps p.tables e below (T51.setTop (mkF m 147 #[rv ra, rv rw, .val .null, iv (2 : Int32), jv m9, s2, iv v37, iv v45] [(.int v58)])) _
    refine XS.istore X51.here hx rfl (D d8_147) rfl (l' := #[rv ra, rv rw, .val .null, iv (2 : Int32), jv m9, s2, iv v58, iv v45]) rfl ?_
    refine XS.lload X51.here hx rfl (D d8_149) rfl ?_
    refine XS.lconst X51.here hx rfl (D d8_151) ?_
    refine XS.land X51.here hx rfl (D d8_152) rfl ?_
    refine XS.lconst X51.here hx rfl (D d8_153) ?_
    refine XS.lcmp X51.here hx rfl (D d8_154) rfl ?_
    exact k
  clear pre53 pre57 pre59
  have pre65 : ∀ t, Steps p.tables e below (T51.setTop (mkF m 171 #[rv ra, rv rw, .val .null, iv (2 : Int32), jv m9, s2, iv v58, iv v45] [(.int (if (m9 &&& (1 : Int64)) = (0 : Int64) then (0 : Int32) else (if m0 = (0 : Int64) then (1 : Int32) else (0 : Int32))))])) t → Steps p.tables e below B0 t := by
    by_cases c60 : (m9 &&& (1 : Int64)) = (0 : Int64)
    · try simp only [if_pos c60]
      intro t k
      refine pre61 t ?_
      show Steps p.tables e below (T51.setTop (mkF m 155 #[rv ra, rv rw, .val .null, iv (2 : Int32), jv m9, s2, iv v58, iv v45] [(.int (lcmpW (m9 &&& (1 : Int64)) (0 : Int64)))])) _
      refine XS.ifYes X51.here hx rfl (pc0 := 155) (pc' := 170) rfl (D d8_155) rfl ((if0 _ _).trans (teq ((lw_eq (m9 &&& (1 : Int64)) (0 : Int64)).mpr c60)).1) (by decide) (by decide) ?_
      refine XS.iconst X51.here hx rfl (D d8_170) ?_
      exact k
    · try simp only [if_neg c60]
      have pre63 : ∀ t, Steps p.tables e below (T51.setTop (mkF m 163 #[rv ra, rv rw, .val .null, iv (2 : Int32), jv m9, s2, iv v58, iv v45] [(.int (lcmpW m0 (0 : Int64)))])) t → Steps p.tables e below B0 t := by
        intro t k
        refine pre61 t ?_
        show Steps p.tables e below (T51.setTop (mkF m 155 #[rv ra, rv rw, .val .null, iv (2 : Int32), jv m9, s2, iv v58, iv v45] [(.int (lcmpW (m9 &&& (1 : Int64)) (0 : Int64)))])) _
        refine XS.ifNo X51.here hx rfl (D d8_155) rfl ((if0 _ _).trans (feq (mt (lw_eq (m9 &&& (1 : Int64)) (0 : Int64)).mp c60)).1) ?_
        refine XS.aloadN X51.here hx rfl (D d8_158) rfl rfl ?_
        refine XS.iconst X51.here hx rfl (D d8_159) ?_
        refine own_laload X51 hx hZ e51 PA0 (show 0 ≤ Int32.toInt (0 : Int32) ∧ Int32.toInt (0 : Int32) < ((12 : Nat) : Int) by decide) (D d8_160) _ ?_
        refine XS.lconst X51.here hx rfl (D d8_161) ?_
        refine XS.lcmp X51.here hx rfl (D d8_162) rfl ?_
        exact k
      clear pre61
      have pre64 : ∀ t, Steps p.tables e below (T51.setTop (mkF m 171 #[rv ra, rv rw, .val .null, iv (2 : Int32), jv m9, s2, iv v58, iv v45] [(.int (if m0 = (0 : Int64) then (1 : Int32) else (0 : Int32)))])) t → Steps p.tables e below B0 t := by
        by_cases c62 : m0 = (0 : Int64)
        · try simp only [if_pos c62]
          intro t k
          refine pre63 t ?_
          show Steps p.tables e below (T51.setTop (mkF m 163 #[rv ra, rv rw, .val .null, iv (2 : Int32), jv m9, s2, iv v58, iv v45] [(.int (lcmpW m0 (0 : Int64)))])) _
          refine XS.ifNo X51.here hx rfl (D d8_163) rfl ((if0 _ _).trans (teq ((lw_eq m0 (0 : Int64)).mpr c62)).2) ?_
          refine XS.iconst X51.here hx rfl (D d8_166) ?_
          refine XS.goto X51.here hx rfl (pc0 := 167) (pc' := 171) rfl (D d8_167) (by decide) (by decide) ?_
          exact k
        · try simp only [if_neg c62]
          intro t k
          refine pre63 t ?_
          show Steps p.tables e below (T51.setTop (mkF m 163 #[rv ra, rv rw, .val .null, iv (2 : Int32), jv m9, s2, iv v58, iv v45] [(.int (lcmpW m0 (0 : Int64)))])) _
          refine XS.ifYes X51.here hx rfl (pc0 := 163) (pc' := 170) rfl (D d8_163) rfl ((if0 _ _).trans (feq (mt (lw_eq m0 (0 : Int64)).mp c62)).2) (by decide) (by decide) ?_
          refine XS.iconst X51.here hx rfl (D d8_170) ?_
          exact k
      intro t k
      refine pre64 t ?_
      exact k
  obtain ⟨v66, hv66⟩ : ∃ z : Int32, z = (if (m9 &&& (1 : Int64)) = (0 : Int64) then (0 : Int32) else (if m0 = (0 : Int64) then (1 : Int32) else (0 : Int32))) := ⟨_, rfl⟩
  have pre67 : ∀ t, Steps p.tables e below (T51.setTop (mkF m 171 #[rv ra, rv rw, .val .null, iv (2 : Int32), jv m9, s2, iv v58, iv v45] [(.int v66)])) t → Steps p.tables e below B0 t := by
    rw [hv66]
    intro t k
    refine pre65 t ?_
    exact k
  have c68 : ¬ (m9 < (0 : Int64)) := HF2.1
  have c69 : ¬ ((7 : Int64) < m9) := HF2.2.1
  have c70 : v58 = (0 : Int32) := (by rw [hv58]; exact HF2.2.2.1)
  have c71 : v66 = (0 : Int32) := (by rw [hv66]; exact HF2.2.2.2)
  obtain ⟨T72, X72, e72, st72⟩ := getF X51 hx hZ hown (host := "") (Or.inl (H 37 rfl)) Via.refl e51 PF0 (g := (mkF m 104 #[rv ra, rv rw, .val .null, iv (3 : Int32), jv m9, s2, iv v58, iv v66] [(.ref ra), (.int (3 : Int32))])) rfl rfl (D d8_104)
  have pre73 : ∀ t, Steps p.tables e below (T72.setTop (mkF m 223 #[rv ra, rv rw, .val .null, iv (3 : Int32), jv m9, s2, iv v58, iv v66] [(.int (lcmpW m2 (0 : Int64)))])) t → Steps p.tables e below B0 t := by
    intro t k
    refine pre67 t ?_
    show Steps p.tables e below (T51.setTop (mkF m 171 #[rv ra, rv rw, .val .null, iv (2 : Int32), jv m9, s2, iv v58, iv v45] [(.int v66)])) _
    refine XS.istore X51.here hx rfl (D d8_171) rfl (l' := #[rv ra, rv rw, .val .null, iv (2 : Int32), jv m9, s2, iv v58, iv v66]) rfl ?_
    refine XS.lload X51.here hx rfl (D d8_173) rfl ?_
    refine XS.lconst X51.here hx rfl (D d8_175) ?_
    refine XS.lcmp X51.here hx rfl (D d8_176) rfl ?_
    show Steps p.tables e below (T51.setTop (mkF m 177 #[rv ra, rv rw, .val .null, iv (2 : Int32), jv m9, s2, iv v58, iv v66] [(.int (lcmpW m9 (0 : Int64)))])) _
    refine XS.ifNo X51.here hx rfl (D d8_177) rfl ((if0 _ _).trans (flt (mt (lw_lt m9 (0 : Int64)).mp c68)).1) ?_
    refine XS.lload X51.here hx rfl (D d8_180) rfl ?_
    refine X51.ldc2Long hx hown (mvT hZ (H 64 rfl)) (g := (mkF m 182 #[rv ra, rv rw, .val .null, iv (2 : Int32), jv m9, s2, iv v58, iv v66] [(.long m9)])) rfl (D d8_182) _ ?_
    refine XS.lcmp X51.here hx rfl (D d8_185) rfl ?_
    show Steps p.tables e below (T51.setTop (mkF m 186 #[rv ra, rv rw, .val .null, iv (2 : Int32), jv m9, s2, iv v58, iv v66] [(.int (lcmpW m9 (7 : Int64)))])) _
    refine XS.ifNo X51.here hx rfl (D d8_186) rfl ((if0 _ _).trans (flt (mt (lw_gt m9 (7 : Int64)).mp c69)).2.2.1) ?_
    refine XS.iload X51.here hx rfl (D d8_189) rfl ?_
    show Steps p.tables e below (T51.setTop (mkF m 191 #[rv ra, rv rw, .val .null, iv (2 : Int32), jv m9, s2, iv v58, iv v66] [(.int v58)])) _
    refine XS.ifNo X51.here hx rfl (D d8_191) rfl ((if0 _ _).trans (teq c70).2) ?_
    refine XS.iload X51.here hx rfl (D d8_194) rfl ?_
    show Steps p.tables e below (T51.setTop (mkF m 196 #[rv ra, rv rw, .val .null, iv (2 : Int32), jv m9, s2, iv v58, iv v66] [(.int v66)])) _
    refine XS.ifYes X51.here hx rfl (pc0 := 196) (pc' := 208) rfl (D d8_196) rfl ((if0 _ _).trans (teq c71).1) (by decide) (by decide) ?_
    refine XS.iinc X51.here hx rfl (D d8_208) rfl (l' := #[rv ra, rv rw, .val .null, iv (3 : Int32), jv m9, s2, iv v58, iv v66]) rfl ?_
    refine XS.goto X51.here hx rfl (pc0 := 211) (pc' := 98) rfl (D d8_211) (by decide) (by decide) ?_
    refine XS.aloadN X51.here hx rfl (D d8_98) rfl rfl ?_
    show Steps p.tables e below (T51.setTop (mkF m 99 #[rv ra, rv rw, .val .null, iv (3 : Int32), jv m9, s2, iv v58, iv v66] [.null])) _
    refine XS.ifnonnullNo X51.here hx rfl (D d8_99) rfl ?_
    refine XS.iloadN X51.here hx rfl (D d8_102) rfl ?_
    refine XS.aloadN X51.here hx rfl (D d8_103) rfl rfl ?_
    refine st72 _ ?_
    refine own_alenI X72 hx hZ e72 PA1 (D d8_107) _ ?_
    show Steps p.tables e below (T72.setTop (mkF m 108 #[rv ra, rv rw, .val .null, iv (3 : Int32), jv m9, s2, iv v58, iv v66] [(.int (3 : Int32)), (.int (3 : Int32))])) _
    refine XS.icmpYes X72.here hx rfl (pc0 := 108) (pc' := 214) rfl (D d8_108) rfl (by decide) (by decide) (by decide) ?_
    refine XS.aloadN X72.here hx rfl (D d8_214) rfl rfl ?_
    show Steps p.tables e below (T72.setTop (mkF m 215 #[rv ra, rv rw, .val .null, iv (3 : Int32), jv m9, s2, iv v58, iv v66] [.null])) _
    refine XS.ifnonnullNo X72.here hx rfl (D d8_215) rfl ?_
    refine XS.aloadN X72.here hx rfl (D d8_218) rfl rfl ?_
    refine XS.iconst X72.here hx rfl (D d8_219) ?_
    refine own_laload X72 hx hZ e72 PA0 (show 0 ≤ Int32.toInt (2 : Int32) ∧ Int32.toInt (2 : Int32) < ((12 : Nat) : Int) by decide) (D d8_220) _ ?_
    refine XS.lconst X72.here hx rfl (D d8_221) ?_
    refine XS.lcmp X72.here hx rfl (D d8_222) rfl ?_
    exact k
  clear X51 e51 pre61 pre65 pre67 st72
  by_cases c74 : m2 < (0 : Int64)
  · obtain ⟨fs, hr, hrun, hended, hW, hsame⟩ := X72.leave (v := none) (fun _ => rfl) hlk
    refine ⟨_, _, pre73 _ ?_, hrun, hended, _, _, rfl, ?_, ⟨_, rfl⟩, hW, hsame.mono (by decide) (by decide)⟩
    · show Steps p.tables e below (T72.setTop (mkF m 223 #[rv ra, rv rw, .val .null, iv (3 : Int32), jv m9, s2, iv v58, iv v66] [(.int (lcmpW m2 (0 : Int64)))])) _
      refine XS.ifYes X72.here hx rfl (pc0 := 223) (pc' := 254) rfl (D d8_223) rfl ((if0 _ _).trans (tlt ((lw_lt m2 (0 : Int64)).mpr c74)).1) (by decide) (by decide) ?_
      refine XS.aloadN X72.here hx rfl (D d8_254) rfl rfl ?_
      show Steps p.tables e below (T72.setTop (mkF m 255 #[rv ra, rv rw, .val .null, iv (3 : Int32), jv m9, s2, iv v58, iv v66] [.null])) _
      refine XS.ifnullYes X72.here hx rfl (pc0 := 255) (pc' := 272) rfl (D d8_255) rfl (by decide) (by decide) ?_
      show Steps p.tables e below (T72.setTop (mkF m 272 #[rv ra, rv rw, .val .null, iv (3 : Int32), jv m9, s2, iv v58, iv v66] [])) _
      exact X72.returnOut hx Bd.returns (D d8_272) hr
    · show Q8_3 Z ra rw rg m0 m1 m2 m3 m4 m5 m6 m7 m8 m9 m10 m11 bg0 bg1 bg2 h0 n0 _ T72.heap _
      rw [e72]
      exact ⟨rfl, N0, rfl⟩
  · have in_235_75 : 0 ≤ (((3 : Int32) + ((3 : Int32) * (m2).toInt32))).toInt ∧ (((3 : Int32) + ((3 : Int32) * (m2).toInt32))).toInt < (12 : Nat) := (own_ix3 ‹_› H2.2)
    obtain ⟨v76, hv76⟩ : ∃ z : Int64, z = (([m0, m1, m2, m3, m4, m5, m6, m7, m8, m9, m10, m11] : List Int64).getD (((3 : Int32) + ((3 : Int32) * (m2).toInt32))).toInt.toNat 0) := ⟨_, rfl⟩
    have pre77 : ∀ t, Steps p.tables e below (T72.setTop (mkF m 236 #[rv ra, rv rw, .val .null, iv (3 : Int32), jv m9, s2, iv v58, iv v66] [(.long v76)])) t → Steps p.tables e below B0 t := by
      rw [hv76]
      intro t k
      refine pre73 t ?_
      show Steps p.tables e below (T72.setTop (mkF m 223 #[rv ra, rv rw, .val .null, iv (3 : Int32), jv m9, s2, iv v58, iv v66] [(.int (lcmpW m2 (0 : Int64)))])) _
      refine XS.ifNo X72.here hx rfl (D d8_223) rfl ((if0 _ _).trans (flt (mt (lw_lt m2 (0 : Int64)).mp c74)).1) ?_
      refine XS.aloadN X72.here hx rfl (D d8_226) rfl rfl ?_
      refine XS.iconst X72.here hx rfl (D d8_227) ?_
      refine XS.iconst X72.here hx rfl (D d8_228) ?_
      refine XS.aloadN X72.here hx rfl (D d8_229) rfl rfl ?_
      refine XS.iconst X72.here hx rfl (D d8_230) ?_
      refine own_laload X72 hx hZ e72 PA0 (show 0 ≤ Int32.toInt (2 : Int32) ∧ Int32.toInt (2 : Int32) < ((12 : Nat) : Int) by decide) (D d8_231) _ ?_
      refine XS.l2i X72.here hx rfl (D d8_232) rfl ?_
      refine XS.imul X72.here hx rfl (D d8_233) rfl ?_
      refine XS.iadd X72.here hx rfl (D d8_234) rfl ?_
      refine own_laload X72 hx hZ e72 PA0 in_235_75 (D d8_235) _ ?_
      exact k
    have c78 : ¬ ((v76 &&& (4 : Int64)) = (0 : Int64)) := (by rw [hv76]; exact HL ‹_›)
    obtain ⟨fs, hr, hrun, hended, hW, hsame⟩ := X72.leave (v := none) (fun _ => rfl) hlk
    refine ⟨_, _, pre77 _ ?_, hrun, hended, _, _, rfl, ?_, ⟨_, rfl⟩, hW, hsame.mono (by decide) (by decide)⟩
    · show Steps p.tables e below (T72.setTop (mkF m 236 #[rv ra, rv rw, .val .null, iv (3 : Int32), jv m9, s2, iv v58, iv v66] [(.long v76)])) _
      refine XS.lstoreN X72.here hx rfl (D d8_236) rfl (l' := #[rv ra, rv rw, .val .null, jv v76, s2, u0, iv v58, iv v66]) rfl ?_
      refine XS.lloadN X72.here hx rfl (D d8_237) rfl ?_
      show Steps p.tables e below (T72.setTop (mkF m 238 #[rv ra, rv rw, .val .null, jv v76, s2, u0, iv v58, iv v66] [(.long v76)])) _
      refine X72.ldc2Long hx hown (mvT hZ (H 63 rfl)) (g := (mkF m 238 #[rv ra, rv rw, .val .null, jv v76, s2, u0, iv v58, iv v66] [(.long v76)])) rfl (D d8_238) _ ?_
      refine XS.land X72.here hx rfl (D d8_241) rfl ?_
      refine XS.lconst X72.here hx rfl (D d8_242) ?_
      refine XS.lcmp X72.here hx rfl (D d8_243) rfl ?_
      show Steps p.tables e below (T72.setTop (mkF m 244 #[rv ra, rv rw, .val .null, jv v76, s2, u0, iv v58, iv v66] [(.int (lcmpW (v76 &&& (4 : Int64)) (0 : Int64)))])) _
      refine XS.ifYes X72.here hx rfl (pc0 := 244) (pc' := 252) rfl (D d8_244) rfl ((if0 _ _).trans (feq (mt (lw_eq (v76 &&& (4 : Int64)) (0 : Int64)).mp c78)).2) (by decide) (by decide) ?_
      refine XS.aconstNull X72.here hx rfl (D d8_252) ?_
      refine XS.astoreN X72.here hx rfl (D d8_253) rfl rfl (l' := #[rv ra, rv rw, .val .null, jv v76, s2, u0, iv v58, iv v66]) rfl ?_
      refine XS.aloadN X72.here hx rfl (D d8_254) rfl rfl ?_
      show Steps p.tables e below (T72.setTop (mkF m 255 #[rv ra, rv rw, .val .null, jv v76, s2, u0, iv v58, iv v66] [.null])) _
      refine XS.ifnullYes X72.here hx rfl (pc0 := 255) (pc' := 272) rfl (D d8_255) rfl (by decide) (by decide) ?_
      show Steps p.tables e below (T72.setTop (mkF m 272 #[rv ra, rv rw, .val .null, jv v76, s2, u0, iv v58, iv v66] [])) _
      exact X72.returnOut hx Bd.returns (D d8_272) hr
    · show Q8_3 Z ra rw rg m0 m1 m2 m3 m4 m5 m6 m7 m8 m9 m10 m11 bg0 bg1 bg2 h0 n0 _ T72.heap _
      rw [e72]
      exact ⟨rfl, N0, rfl⟩
theorem ef_7_3 (m : MethodId) (ra : Addr) (rw : Addr) : entryFrame m #[(.ref ra), (.ref rw)] 4 = mkF m 0 #[rv ra, rv rw, u0, u0] [] := by first | (simp [entryFrame, mkF, argsToLocals, Value.category, maxLocals]; done) | rfl
def Q7_3 (Z : State) (ra : Addr) (rw : Addr) (rl : Addr) (rs : Addr) (rr : Addr) (rg : Addr) (rt : Addr) (sd : Int32) (lt : Int64) (ll : Int32) (op : Int32) (m0 : Int64) (m1 : Int64) (m2 : Int64) (m3 : Int64) (m4 : Int64) (m5 : Int64) (m6 : Int64) (m7 : Int64) (m8 : Int64) (m9 : Int64) (m10 : Int64) (m11 : Int64) (jl0 : Int64) (jl1 : Int64) (jl2 : Int64) (jr0 : Int64) (jr1 : Int64) (jr2 : Int64) (bs0 : Int32) (bs1 : Int32) (bs2 : Int32) (bg0 : Int32) (bg1 : Int32) (bg2 : Int32) (bt0 : Int32) (bt1 : Int32) (bt2 : Int32) (h0 : Heap) (n0 : Nat) (v : Option Value) (h : Heap) (L : List Loc) : Prop := v = none ∧ Fr n0 L ∧ Keep h0 h [ra, rs, rg, rt, rl, rr] ∧ Exa Z h ra "com/example/tributary/tributary/io/Silence" ∧ Fld Z h ra own_S "last" "[J" (.ref rl) ∧ Fld Z h ra own_S "sent" "[Z" (.ref rs) ∧ Fld Z h ra own_S "runs" "[J" (.ref rr) ∧ Fld Z h ra own_S "gone" "[Z" (.ref rg) ∧ Fld Z h ra own_S "stopped" "[Z" (.ref rt) ∧ Fld Z h ra own_S "started" "Z" (.int (if m0 = (1 : Int64) then (1 : Int32) else (0 : Int32))) ∧ Fld Z h ra own_S "latest" "J" (.long m1) ∧ Fld Z h ra own_S "lastLeft" "I" (.int (m2).toInt32) ∧ own_AJ Z h rw [m0, m1, m2, m3, m4, m5, m6, m7, m8, m9, m10, m11] ∧ own_AJ Z h rl [m4, m7, m10] ∧ own_AI Z h rs .boolean [((if (m3 &&& (1 : Int64)) = (0 : Int64) then (0 : Int32) else (1 : Int32)) &&& 1), ((if (m6 &&& (1 : Int64)) = (0 : Int64) then (0 : Int32) else (1 : Int32)) &&& 1), ((if (m9 &&& (1 : Int64)) = (0 : Int64) then (0 : Int32) else (1 : Int32)) &&& 1)] ∧ own_AJ Z h rr [m5, m8, m11] ∧ own_AI Z h rg .boolean [((if (m3 &&& (2 : Int64)) = (0 : Int64) then (0 : Int32) else (1 : Int32)) &&& 1), ((if (m6 &&& (2 : Int64)) = (0 : Int64) then (0 : Int32) else (1 : Int32)) &&& 1), ((if (m9 &&& (2 : Int64)) = (0 : Int64) then (0 : Int32) else (1 : Int32)) &&& 1)] ∧ own_AI Z h rt .boolean [((if (m3 &&& (4 : Int64)) = (0 : Int64) then (0 : Int32) else (1 : Int32)) &&& 1), ((if (m6 &&& (4 : Int64)) = (0 : Int64) then (0 : Int32) else (1 : Int32)) &&& 1), ((if (m9 &&& (4 : Int64)) = (0 : Int64) then (0 : Int32) else (1 : Int32)) &&& 1)]
set_option maxRecDepth 65536 in
set_option maxHeartbeats 40000000 in
theorem rm7_3 (l : Launch) (Z : State) (a0 : Array Value) (hw : ∀ d ∈ tables_1, d.before a0 Z = true) (ws : List Jvm.Cond) (ra : Addr) (rw : Addr) (rl : Addr) (rs : Addr) (rr : Addr) (rg : Addr) (rt : Addr) (sd : Int32) (lt : Int64) (ll : Int32) (op : Int32) (m0 : Int64) (m1 : Int64) (m2 : Int64) (m3 : Int64) (m4 : Int64) (m5 : Int64) (m6 : Int64) (m7 : Int64) (m8 : Int64) (m9 : Int64) (m10 : Int64) (m11 : Int64) (jl0 : Int64) (jl1 : Int64) (jl2 : Int64) (jr0 : Int64) (jr1 : Int64) (jr2 : Int64) (bs0 : Int32) (bs1 : Int32) (bs2 : Int32) (bg0 : Int32) (bg1 : Int32) (bg2 : Int32) (bt0 : Int32) (bt1 : Int32) (bt2 : Int32) (h0 : Heap) (n0 : Nat) (Z0 : n0 ≤ h0.size) (PA0 : own_AJ Z h0 rw [m0, m1, m2, m3, m4, m5, m6, m7, m8, m9, m10, m11]) (PA1 : own_AJ Z h0 rl [jl0, jl1, jl2]) (PA2 : own_AI Z h0 rs .boolean [bs0, bs1, bs2]) (PA3 : own_AJ Z h0 rr [jr0, jr1, jr2]) (PA4 : own_AI Z h0 rg .boolean [bg0, bg1, bg2]) (PA5 : own_AI Z h0 rt .boolean [bt0, bt1, bt2]) (PE0 : Exa Z h0 ra "com/example/tributary/tributary/io/Silence") (PF0 : Fld Z h0 ra own_S "last" "[J" (.ref rl)) (PF1 : Fld Z h0 ra own_S "sent" "[Z" (.ref rs)) (PF2 : Fld Z h0 ra own_S "runs" "[J" (.ref rr)) (PF3 : Fld Z h0 ra own_S "gone" "[Z" (.ref rg)) (PF4 : Fld Z h0 ra own_S "stopped" "[Z" (.ref rt)) (PF5 : Fld Z h0 ra own_S "started" "Z" (.int sd)) (PF6 : Fld Z h0 ra own_S "latest" "J" (.long lt)) (PF7 : Fld Z h0 ra own_S "lastLeft" "I" (.int ll)) (PF8 : Fld Z h0 ra own_S "open" "I" (.int op)) (PG0 : n0 ≤ ra) (PG1 : n0 ≤ rs) (PG2 : n0 ≤ rg) (PG3 : n0 ≤ rt) (PG4 : n0 ≤ rl) (PG5 : n0 ≤ rr) (PN0 : rw ≠ rl) (PN1 : rw ≠ rs) (PN2 : rw ≠ rr) (PN3 : rw ≠ rg) (PN4 : rw ≠ rt) (PN5 : rw ≠ ra) (PN6 : rl ≠ rs) (PN7 : rl ≠ rr) (PN8 : rl ≠ rg) (PN9 : rl ≠ rt) (PN10 : rl ≠ ra) (PN11 : rs ≠ rr) (PN12 : rs ≠ rg) (PN13 : rs ≠ rt) (PN14 : rs ≠ ra) (PN15 : rr ≠ rg) (PN16 : rr ≠ rt) (PN17 : rr ≠ ra) (PN18 : rg ≠ rt) (PN19 : rg ≠ ra) (PN20 : rt ≠ ra) (H0 : m0 = (0 : Int64) ∨ m0 = (1 : Int64)) (H2 : ¬ m2 < (-1 : Int64) ∧ m2 < (3 : Int64)) (HF0 : ¬ m3 < (0 : Int64) ∧ ¬ (7 : Int64) < m3 ∧ (if (m3 &&& (4 : Int64)) = (0 : Int64) then (0 : Int32) else (if (m3 &&& (2 : Int64)) = (0 : Int64) then (1 : Int32) else (0 : Int32))) = (0 : Int32) ∧ (if (m3 &&& (1 : Int64)) = (0 : Int64) then (0 : Int32) else (if m0 = (0 : Int64) then (1 : Int32) else (0 : Int32))) = (0 : Int32)) (HF1 : ¬ m6 < (0 : Int64) ∧ ¬ (7 : Int64) < m6 ∧ (if (m6 &&& (4 : Int64)) = (0 : Int64) then (0 : Int32) else (if (m6 &&& (2 : Int64)) = (0 : Int64) then (1 : Int32) else (0 : Int32))) = (0 : Int32) ∧ (if (m6 &&& (1 : Int64)) = (0 : Int64) then (0 : Int32) else (if m0 = (0 : Int64) then (1 : Int32) else (0 : Int32))) = (0 : Int32)) (HF2 : ¬ m9 < (0 : Int64) ∧ ¬ (7 : Int64) < m9 ∧ (if (m9 &&& (4 : Int64)) = (0 : Int64) then (0 : Int32) else (if (m9 &&& (2 : Int64)) = (0 : Int64) then (1 : Int32) else (0 : Int32))) = (0 : Int32) ∧ (if (m9 &&& (1 : Int64)) = (0 : Int64) then (0 : Int32) else (if m0 = (0 : Int64) then (1 : Int32) else (0 : Int32))) = (0 : Int32)) (HL : ¬ m2 < (0 : Int64) → ¬ ((([m0, m1, m2, m3, m4, m5, m6, m7, m8, m9, m10, m11] : List Int64).getD (((3 : Int32) + ((3 : Int32) * (m2).toInt32))).toInt.toNat 0) &&& (4 : Int64)) = (0 : Int64)) :
    MetFree l (⟨"com/example/tributary/tributary/io/Silence", "resume", "([J)V"⟩ : MethodName) (head1 (Jvm.Cond.code (⟨"com/example/tributary/tributary/io/Silence", "resume", "([J)V"⟩ : MethodName) prog_43_method_9_code 4 none :: ws) ({ frames := 1, cells := 0, slots := 0, locals := 19 } : Room)) (fun a U => a = #[(.ref ra), (.ref rw)] ∧ Z.Warmed39 U.vm ∧ U.heap = h0) (fun _ _ _ _ _ => True) (fun _ U o U' => ∃ v L, o = .returned v ∧ Q7_3 Z ra rw rl rs rr rg rt sd lt ll op m0 m1 m2 m3 m4 m5 m6 m7 m8 m9 m10 m11 jl0 jl1 jl2 jr0 jr1 jr2 bs0 bs1 bs2 bg0 bg1 bg2 bt0 bt1 bt2 h0 n0 v U'.heap L ∧ FrameEnd U o U' L ({ frames := 1, cells := 0, slots := 0, locals := 19 } : Room).cells ({ frames := 1, cells := 0, slots := 0, locals := 19 } : Room).slots) := by
  refine MetFree.of_bodySF (plainFor_of_name pn_4) hisR ?_
  intro p e s m args below meth c s₁ Bd hml0 hP hK
  obtain ⟨rfl, hZ, hh⟩ := hP
  have hx := Bd.exec
  have hby := Bd.bytes
  have hml : c.maxLocals = 4 := hml0
  have hown : s.vm.findClass "com/example/tributary/tributary/io/Silence" = some m.cls := findClass_of_methodNamed Bd.named
  have hnm := (name_of_methodNamed Bd.named Bd.method).1
  have X0 : Stand p l e ({ frames := 1, cells := 0, slots := 0, locals := 19 } : Room) s m #[(.ref ra), (.ref rw)] below meth c s₁ [] 0 0 := Stand.of_body Bd
  have hlk : meth.locks = false := by first | exact BodyLoose.notSynchronized (by assumption) | exact Body.notSynchronized (by assumption)
  have e0 : s₁.heap = h0 := by rw [← hh, Bd.state]; rfl
  have N0 := Fr.nil n0
  have pre0 : ∀ t, Steps p.tables e below (s₁.setTop (mkF m 0 #[rv ra, rv rw, u0, u0] [])) t → Steps p.tables e below (s₁.setTop (entryFrame m #[(.ref ra), (.ref rw)] 4)) t := fun t k => castTop (ef_7_3 m ra rw) k
  generalize s₁.setTop (entryFrame m #[(.ref ra), (.ref rw)] 4) = B0 at pre0 ⊢
  have H : ∀ (i : Nat) {d : Jvm.Cond}, tables_1[i]? = some d → d.before a0 Z = true := fun i d q => hw d (List.mem_of_getElem? q)
  have D : ∀ {pc : Nat} {r : Except DecodeError (Instr × Nat)}, decode prog_43_method_9_code pc = r → decode c.code pc = r := fun q => hb hby q
  obtain ⟨cq1, q1, q1'⟩ := PE0.cell
  obtain ⟨_, _, ⟨T1, L1, k1, n1⟩, -, X1, ⟨Lc1, hQ1, l1, y1, z1⟩, st1⟩ := own_privateBack X0 hx (y := (⟨"com/example/tributary/tributary/io/Silence", "requireMeasured", "([J)V"⟩ : MethodName)) (y' := (⟨"com/example/tributary/tributary/io/Silence", "measured", "()[J"⟩ : MethodName)) rfl hown (mvT hZ (H 58 rfl)) (mvT hZ (H 59 rfl)) (mvT hZ (H 46 rfl)) (Cond.privateMethod_at (mvP hZ (H 60 rfl) (args := #[]))) (mvT hZ (H 61 rfl)) (by decide) (backOf (W := 0) (rm8_3 l Z a0 hw [] ra rw rg m0 m1 m2 m3 m4 m5 m6 m7 m8 m9 m10 m11 bg0 bg1 bg2 h0 n0 Z0 PA0 PA4 PE0 PF3 H0 H2 HF0 HF1 HF2 HL) hZ (H 61 rfl) (H 14 rfl) (by decide) (by decide)) (g := (mkF m 2 #[rv ra, rv rw, u0, u0] [(.ref rw), (.ref ra)])) rfl (by rw [hml]; rfl) (Steps.refl _) (a := ra) (by rw [e0]; exact q1) q1' (argsL := [(.ref rw)]) (rest := []) (lenOf pd_100 rfl) rfl (by show 2 * 0 + _ ≤ _; exact Nat.le_of_eq rfl) (D d7_2) (fun _ _ => ⟨rfl, e0, (by decide : 0 + 0 ≤ _), (by decide : 0 + 0 ≤ _)⟩)
  dsimp only [Pt.U, Pt.locs, Pt.cells, Pt.slots] at X1 l1 y1 z1 st1 hQ1
  replace y1 : k1 = 0 := y1
  replace z1 : n1 = 0 := z1
  replace l1 := l1.symm; replace y1 := y1.symm; replace z1 := z1.symm; subst l1 y1 z1
  obtain ⟨rfl, N1q, e1⟩ := hQ1
  have N1 := Fr.app N0 N1q
  have pre3 : ∀ t, Steps p.tables e below (T1.setTop (mkF m 11 #[rv ra, rv rw, u0, u0] [(.int (lcmpW m0 (1 : Int64))), (.ref ra)])) t → Steps p.tables e below B0 t := by
    intro t k
    refine pre0 t ?_
    show Steps p.tables e below (s₁.setTop (mkF m 0 #[rv ra, rv rw, u0, u0] [])) _
    refine XS.aloadN X0.here hx rfl (D d7_0) rfl rfl ?_
    refine XS.aloadN X0.here hx rfl (D d7_1) rfl rfl ?_
    refine st1.trans ?_
    refine XS.aloadN X1.here hx rfl (D d7_5) rfl rfl ?_
    refine XS.aloadN X1.here hx rfl (D d7_6) rfl rfl ?_
    refine XS.iconst X1.here hx rfl (D d7_7) ?_
    refine own_laload X1 hx hZ e1 PA0 (show 0 ≤ Int32.toInt (0 : Int32) ∧ Int32.toInt (0 : Int32) < ((12 : Nat) : Int) by decide) (D d7_8) _ ?_
    refine XS.lconst X1.here hx rfl (D d7_9) ?_
    refine XS.lcmp X1.here hx rfl (D d7_10) rfl ?_
    exact k
  clear st1 N1q
  have pre4 : ∀ t, Steps p.tables e below (T1.setTop (mkF m 19 #[rv ra, rv rw, u0, u0] [(.int (if m0 = (1 : Int64) then (1 : Int32) else (0 : Int32))), (.ref ra)])) t → Steps p.tables e below B0 t := by
    by_cases c2 : m0 = (1 : Int64)
    · try simp only [if_pos c2]
      intro t k
      refine pre3 t ?_
      show Steps p.tables e below (T1.setTop (mkF m 11 #[rv ra, rv rw, u0, u0] [(.int (lcmpW m0 (1 : Int64))), (.ref ra)])) _
      refine XS.ifNo X1.here hx rfl (D d7_11) rfl ((if0 _ _).trans (teq ((lw_eq m0 (1 : Int64)).mpr c2)).2) ?_
      refine XS.iconst X1.here hx rfl (D d7_14) ?_
      refine XS.goto X1.here hx rfl (pc0 := 15) (pc' := 19) rfl (D d7_15) (by decide) (by decide) ?_
      exact k
    · try simp only [if_neg c2]
      intro t k
      refine pre3 t ?_
      show Steps p.tables e below (T1.setTop (mkF m 11 #[rv ra, rv rw, u0, u0] [(.int (lcmpW m0 (1 : Int64))), (.ref ra)])) _
      refine XS.ifYes X1.here hx rfl (pc0 := 11) (pc' := 18) rfl (D d7_11) rfl ((if0 _ _).trans (feq (mt (lw_eq m0 (1 : Int64)).mp c2)).2) (by decide) (by decide) ?_
      refine XS.iconst X1.here hx rfl (D d7_18) ?_
      exact k
  obtain ⟨T5, h5, X5, e5, W5, st5⟩ := putF X1 hx hZ hown (host := "") (Or.inl (H 48 rfl)) Via.refl e1 PF5 PE0 (Or.inl (H 49 rfl)) (H 13 rfl) (ty := .boolean) (by decide) (own_nb _ _ _ (by decide) (by decide)) (own_fb _ _ _ (by decide) (by decide)) (g := (mkF m 19 #[rv ra, rv rw, u0, u0] [(.int (if m0 = (1 : Int64) then (1 : Int32) else (0 : Int32))), (.ref ra)])) rfl rfl (D d7_19)
  have V5_rw := PA0.other W5 PN5
  have V5_rl := PA1.other W5 PN10
  have V5_rs := PA2.other W5 PN14
  have V5_rr := PA3.other W5 PN17
  have V5_rg := PA4.other W5 PN19
  have V5_rt := PA5.other W5 PN20
  have A5_ra := PE0.wr W5
  have F5_ra_0 := PF0.other W5 (Or.inr (own_sn_101 hw))
  have F5_ra_1 := PF1.other W5 (Or.inr (own_sn_102 hw))
  have F5_ra_2 := PF2.other W5 (Or.inr (own_sn_103 hw))
  have F5_ra_3 := PF3.other W5 (Or.inr (own_sn_104 hw))
  have F5_ra_4 := PF4.other W5 (Or.inr (own_sn_105 hw))
  have F5_ra_6 := PF6.other W5 (Or.inr (own_sn_106 hw))
  have F5_ra_7 := PF7.other W5 (Or.inr (own_sn_107 hw))
  have F5_ra_8 := PF8.other W5 (Or.inr (own_sn_108 hw))
  have sz5 := Nat.le_trans Z0 (Keep.of_wr W5).1
  have K5 := (Keep.refl h0 ([ra, rs, rg, rt, rl, rr] : List Addr)).wr W5 (Or.inl (by simp))
  have N5 := Fr.snoc X5 N1 PG0
  have F5_s : Fld Z h5 ra own_S "started" "Z" (.int (if m0 = (1 : Int64) then (1 : Int32) else (0 : Int32))) := PF5.same W5
  obtain ⟨T6, h6, X6, e6, W6, st6⟩ := putF X5 hx hZ hown (host := "") (Or.inl (H 50 rfl)) Via.refl e5 F5_ra_6 A5_ra (Or.inl (H 51 rfl)) (H 13 rfl) (ty := .long) (by decide) rfl rfl (g := (mkF m 26 #[rv ra, rv rw, u0, u0] [(.long m1), (.ref ra)])) rfl rfl (D d7_26)
  have V6_rw := V5_rw.other W6 PN5
  have V6_rl := V5_rl.other W6 PN10
  have V6_rs := V5_rs.other W6 PN14
  have V6_rr := V5_rr.other W6 PN17
  have V6_rg := V5_rg.other W6 PN19
  have V6_rt := V5_rt.other W6 PN20
  have A6_ra := A5_ra.wr W6
  have F6_ra_0 := F5_ra_0.other W6 (Or.inr (own_sn_109 hw))
  have F6_ra_1 := F5_ra_1.other W6 (Or.inr (own_sn_110 hw))
  have F6_ra_2 := F5_ra_2.other W6 (Or.inr (own_sn_111 hw))
  have F6_ra_3 := F5_ra_3.other W6 (Or.inr (own_sn_112 hw))
  have F6_ra_4 := F5_ra_4.other W6 (Or.inr (own_sn_113 hw))
  have F6_ra_5 := F5_s.other W6 (Or.inr (own_sn_114 hw))
  have F6_ra_7 := F5_ra_7.other W6 (Or.inr (own_sn_115 hw))
  have F6_ra_8 := F5_ra_8.other W6 (Or.inr (own_sn_116 hw))
  have sz6 := Nat.le_trans sz5 (Keep.of_wr W6).1
  have K6 := K5.wr W6 (Or.inl (by simp))
  have N6 := Fr.snoc X6 N5 PG0
  have F6_s : Fld Z h6 ra own_S "latest" "J" (.long m1) := F5_ra_6.same W6
  obtain ⟨T7, h7, X7, e7, W7, st7⟩ := putF X6 hx hZ hown (host := "") (Or.inl (H 24 rfl)) Via.refl e6 F6_ra_7 A6_ra (Or.inl (H 25 rfl)) (H 13 rfl) (ty := .int) (by decide) rfl rfl (g := (mkF m 34 #[rv ra, rv rw, u0, u0] [(.int (m2).toInt32), (.ref ra)])) rfl rfl (D d7_34)
  have V7_rw := V6_rw.other W7 PN5
  have V7_rl := V6_rl.other W7 PN10
  have V7_rs := V6_rs.other W7 PN14
  have V7_rr := V6_rr.other W7 PN17
  have V7_rg := V6_rg.other W7 PN19
  have V7_rt := V6_rt.other W7 PN20
  have A7_ra := A6_ra.wr W7
  have F7_ra_0 := F6_ra_0.other W7 (Or.inr (own_sn_7 hw))
  have F7_ra_1 := F6_ra_1.other W7 (Or.inr (own_sn_8 hw))
  have F7_ra_2 := F6_ra_2.other W7 (Or.inr (own_sn_9 hw))
  have F7_ra_3 := F6_ra_3.other W7 (Or.inr (own_sn_10 hw))
  have F7_ra_4 := F6_ra_4.other W7 (Or.inr (own_sn_11 hw))
  have F7_ra_5 := F6_ra_5.other W7 (Or.inr (own_sn_13 hw))
  have F7_ra_6 := F6_s.other W7 (Or.inr (own_sn_14 hw))
  have F7_ra_8 := F6_ra_8.other W7 (Or.inr (own_sn_12 hw))
  have sz7 := Nat.le_trans sz6 (Keep.of_wr W7).1
  have K7 := K6.wr W7 (Or.inl (by simp))
  have N7 := Fr.snoc X7 N6 PG0
  have F7_s : Fld Z h7 ra own_S "lastLeft" "I" (.int (m2).toInt32) := F6_ra_7.same W7
  obtain ⟨T8, h8, X8, e8, W8, st8⟩ := putF X7 hx hZ hown (host := "") (Or.inl (H 41 rfl)) Via.refl e7 F7_ra_8 A7_ra (Or.inl (H 42 rfl)) (H 13 rfl) (ty := .int) (by decide) rfl rfl (g := (mkF m 39 #[rv ra, rv rw, u0, u0] [(.int (0 : Int32)), (.ref ra)])) rfl rfl (D d7_39)
  have V8_rw := V7_rw.other W8 PN5
  have V8_rl := V7_rl.other W8 PN10
  have V8_rs := V7_rs.other W8 PN14
  have V8_rr := V7_rr.other W8 PN17
  have V8_rg := V7_rg.other W8 PN19
  have V8_rt := V7_rt.other W8 PN20
  have A8_ra := A7_ra.wr W8
  have F8_ra_0 := F7_ra_0.other W8 (Or.inr (own_sn_88 hw))
  have F8_ra_1 := F7_ra_1.other W8 (Or.inr (own_sn_89 hw))
  have F8_ra_2 := F7_ra_2.other W8 (Or.inr (own_sn_90 hw))
  have F8_ra_3 := F7_ra_3.other W8 (Or.inr (own_sn_91 hw))
  have F8_ra_4 := F7_ra_4.other W8 (Or.inr (own_sn_92 hw))
  have F8_ra_5 := F7_ra_5.other W8 (Or.inr (own_sn_93 hw))
  have F8_ra_6 := F7_ra_6.other W8 (Or.inr (own_sn_94 hw))
  have F8_ra_7 := F7_s.other W8 (Or.inr (own_sn_85 hw))
  have sz8 := Nat.le_trans sz7 (Keep.of_wr W8).1
  have K8 := K7.wr W8 (Or.inl (by simp))
  have N8 := Fr.snoc X8 N7 PG0
  have F8_s : Fld Z h8 ra own_S "open" "I" (.int (0 : Int32)) := F7_ra_8.same W8
  obtain ⟨T9, X9, e9, st9⟩ := getF X8 hx hZ hown (host := "") (Or.inl (H 37 rfl)) Via.refl e8 F8_ra_3 (g := (mkF m 46 #[rv ra, rv rw, iv (0 : Int32), u0] [(.ref ra), (.int (0 : Int32))])) rfl rfl (D d7_46)
  obtain ⟨T10, X10, e10, st10⟩ := getF X9 hx hZ hown (host := "") (Or.inl (H 33 rfl)) Via.refl e9 F8_ra_1 (g := (mkF m 60 #[rv ra, rv rw, iv (0 : Int32), iv (3 : Int32)] [(.ref ra)])) rfl rfl (D d7_60)
  have pre12 : ∀ t, Steps p.tables e below (T10.setTop (mkF m 71 #[rv ra, rv rw, iv (0 : Int32), iv (3 : Int32)] [(.int (lcmpW (m3 &&& (1 : Int64)) (0 : Int64))), (.int (0 : Int32)), (.ref rs)])) t → Steps p.tables e below B0 t := by
    intro t k
    refine pre4 t ?_
    show Steps p.tables e below (T1.setTop (mkF m 19 #[rv ra, rv rw, u0, u0] [(.int (if m0 = (1 : Int64) then (1 : Int32) else (0 : Int32))), (.ref ra)])) _
    refine st5 _ ?_
    refine XS.aloadN X5.here hx rfl (D d7_22) rfl rfl ?_
    refine XS.aloadN X5.here hx rfl (D d7_23) rfl rfl ?_
    refine XS.iconst X5.here hx rfl (D d7_24) ?_
    refine own_laload X5 hx hZ e5 V5_rw (show 0 ≤ Int32.toInt (1 : Int32) ∧ Int32.toInt (1 : Int32) < ((12 : Nat) : Int) by decide) (D d7_25) _ ?_
    refine st6 _ ?_
    refine XS.aloadN X6.here hx rfl (D d7_29) rfl rfl ?_
    refine XS.aloadN X6.here hx rfl (D d7_30) rfl rfl ?_
    refine XS.iconst X6.here hx rfl (D d7_31) ?_
    refine own_laload X6 hx hZ e6 V6_rw (show 0 ≤ Int32.toInt (2 : Int32) ∧ Int32.toInt (2 : Int32) < ((12 : Nat) : Int) by decide) (D d7_32) _ ?_
    refine XS.l2i X6.here hx rfl (D d7_33) rfl ?_
    refine st7 _ ?_
    refine XS.aloadN X7.here hx rfl (D d7_37) rfl rfl ?_
    refine XS.iconst X7.here hx rfl (D d7_38) ?_
    refine st8 _ ?_
    refine XS.iconst X8.here hx rfl (D d7_42) ?_
    refine XS.istoreN X8.here hx rfl (D d7_43) rfl (l' := #[rv ra, rv rw, iv (0 : Int32), u0]) rfl ?_
    refine XS.iloadN X8.here hx rfl (D d7_44) rfl ?_
    refine XS.aloadN X8.here hx rfl (D d7_45) rfl rfl ?_
    refine st9 _ ?_
    refine own_alenI X9 hx hZ e9 V8_rg (D d7_49) _ ?_
    show Steps p.tables e below (T9.setTop (mkF m 50 #[rv ra, rv rw, iv (0 : Int32), u0] [(.int (3 : Int32)), (.int (0 : Int32))])) _
    refine XS.icmpNo X9.here hx rfl (D d7_50) rfl (by decide) ?_
    refine XS.iconst X9.here hx rfl (D d7_53) ?_
    refine XS.iconst X9.here hx rfl (D d7_54) ?_
    refine XS.iloadN X9.here hx rfl (D d7_55) rfl ?_
    refine XS.imul X9.here hx rfl (D d7_56) rfl ?_
    refine XS.iadd X9.here hx rfl (D d7_57) rfl ?_
    refine XS.istoreN X9.here hx rfl (D d7_58) rfl (l' := #[rv ra, rv rw, iv (0 : Int32), iv (3 : Int32)]) rfl ?_
    refine XS.aloadN X9.here hx rfl (D d7_59) rfl rfl ?_
    refine st10 _ ?_
    refine XS.iloadN X10.here hx rfl (D d7_63) rfl ?_
    show Steps p.tables e below (T10.setTop (mkF m 64 #[rv ra, rv rw, iv (0 : Int32), iv (3 : Int32)] [(.int (0 : Int32)), (.ref rs)])) _
    refine XS.aloadN X10.here hx rfl (D d7_64) rfl rfl ?_
    refine XS.iloadN X10.here hx rfl (D d7_65) rfl ?_
    refine own_laload X10 hx hZ e10 V8_rw (show 0 ≤ Int32.toInt (3 : Int32) ∧ Int32.toInt (3 : Int32) < ((12 : Nat) : Int) by decide) (D d7_66) _ ?_
    refine XS.lconst X10.here hx rfl (D d7_67) ?_
    refine XS.land X10.here hx rfl (D d7_68) rfl ?_
    refine XS.lconst X10.here hx rfl (D d7_69) ?_
    refine XS.lcmp X10.here hx rfl (D d7_70) rfl ?_
    exact k
  clear X1 e1 N1 pre3 pre4 X5 e5 W5 st5 V5_rw V5_rl V5_rs V5_rr V5_rg V5_rt A5_ra F5_ra_0 F5_ra_1 F5_ra_2 F5_ra_3 F5_ra_4 F5_ra_6 F5_ra_7 F5_ra_8 sz5 K5 N5 F5_s X6 e6 W6 st6 V6_rw V6_rl V6_rs V6_rr V6_rg V6_rt A6_ra F6_ra_0 F6_ra_1 F6_ra_2 F6_ra_3 F6_ra_4 F6_ra_5 F6_ra_7 F6_ra_8 sz6 K6 N6 F6_s X7 e7 W7 st7 V7_rw V7_rl V7_rs V7_rr V7_rg V7_rt A7_ra F7_ra_0 F7_ra_1 F7_ra_2 F7_ra_3 F7_ra_4 F7_ra_5 F7_ra_6 F7_ra_8 sz7 K7 N7 F7_s X8 e8 W8 st8 X9 e9 st9 st10
  have pre13 : ∀ t, Steps p.tables e below (T10.setTop (mkF m 79 #[rv ra, rv rw, iv (0 : Int32), iv (3 : Int32)] [(.int (if (m3 &&& (1 : Int64)) = (0 : Int64) then (0 : Int32) else (1 : Int32))), (.int (0 : Int32)), (.ref rs)])) t → Steps p.tables e below B0 t := by
    by_cases c11 : (m3 &&& (1 : Int64)) = (0 : Int64)
    · try simp only [if_pos c11]
      intro t k
      refine pre12 t ?_
      show Steps p.tables e below (T10.setTop (mkF m 71 #[rv ra, rv rw, iv (0 : Int32), iv (3 : Int32)] [(.int (lcmpW (m3 &&& (1 : Int64)) (0 : Int64))), (.int (0 : Int32)), (.ref rs)])) _
      refine XS.ifYes X10.here hx rfl (pc0 := 71) (pc' := 78) rfl (D d7_71) rfl ((if0 _ _).trans (teq ((lw_eq (m3 &&& (1 : Int64)) (0 : Int64)).mpr c11)).1) (by decide) (by decide) ?_
      refine XS.iconst X10.here hx rfl (D d7_78) ?_
      exact k
    · try simp only [if_neg c11]
      intro t k
      refine pre12 t ?_
      show Steps p.tables e below (T10.setTop (mkF m 71 #[rv ra, rv rw, iv (0 : Int32), iv (3 : Int32)] [(.int (lcmpW (m3 &&& (1 : Int64)) (0 : Int64))), (.int (0 : Int32)), (.ref rs)])) _
      refine XS.ifNo X10.here hx rfl (D d7_71) rfl ((if0 _ _).trans (feq (mt (lw_eq (m3 &&& (1 : Int64)) (0 : Int64)).mp c11)).1) ?_
      refine XS.iconst X10.here hx rfl (D d7_74) ?_
      refine XS.goto X10.here hx rfl (pc0 := 75) (pc' := 79) rfl (D d7_75) (by decide) (by decide) ?_
      exact k
  obtain ⟨T14, h14, X14, e14, W14, V14, st14⟩ := own_bastoreZ X10 hx hZ e10 V8_rs (j := (0 : Int32)) (show 0 ≤ Int32.toInt (0 : Int32) ∧ Int32.toInt (0 : Int32) < ((3 : Nat) : Int) by decide) (x := (if (m3 &&& (1 : Int64)) = (0 : Int64) then (0 : Int32) else (1 : Int32))) (D d7_79)
  have V14_rw := V8_rw.other W14 PN1
  have V14_rl := V8_rl.other W14 PN6
  have V14_rr := V8_rr.other W14 (Ne.symm PN11)
  have V14_rg := V8_rg.other W14 (Ne.symm PN12)
  have V14_rt := V8_rt.other W14 (Ne.symm PN13)
  have A14_ra := A8_ra.wr W14
  have F14_ra_0 := F8_ra_0.other W14 (Or.inl (Ne.symm PN14))
  have F14_ra_1 := F8_ra_1.other W14 (Or.inl (Ne.symm PN14))
  have F14_ra_2 := F8_ra_2.other W14 (Or.inl (Ne.symm PN14))
  have F14_ra_3 := F8_ra_3.other W14 (Or.inl (Ne.symm PN14))
  have F14_ra_4 := F8_ra_4.other W14 (Or.inl (Ne.symm PN14))
  have F14_ra_5 := F8_ra_5.other W14 (Or.inl (Ne.symm PN14))
  have F14_ra_6 := F8_ra_6.other W14 (Or.inl (Ne.symm PN14))
  have F14_ra_7 := F8_ra_7.other W14 (Or.inl (Ne.symm PN14))
  have F14_ra_8 := F8_s.other W14 (Or.inl (Ne.symm PN14))
  have sz14 := Nat.le_trans sz8 (Keep.of_wr W14).1
  have K14 := K8.wr W14 (Or.inl (by simp))
  have N14 := Fr.snoc X14 N8 PG1
  have V14_n : own_AI Z h14 rs .boolean [((if (m3 &&& (1 : Int64)) = (0 : Int64) then (0 : Int32) else (1 : Int32)) &&& 1), bs1, bs2] := V14
  obtain ⟨T15, X15, e15, st15⟩ := getF X14 hx hZ hown (host := "") (Or.inl (H 37 rfl)) Via.refl e14 F14_ra_3 (g := (mkF m 81 #[rv ra, rv rw, iv (0 : Int32), iv (3 : Int32)] [(.ref ra)])) rfl rfl (D d7_81)
  have pre17 : ∀ t, Steps p.tables e below (T15.setTop (mkF m 94 #[rv ra, rv rw, iv (0 : Int32), iv (3 : Int32)] [(.int (lcmpW (m3 &&& (2 : Int64)) (0 : Int64))), (.int (0 : Int32)), (.ref rg)])) t → Steps p.tables e below B0 t := by
    intro t k
    refine pre13 t ?_
    show Steps p.tables e below (T10.setTop (mkF m 79 #[rv ra, rv rw, iv (0 : Int32), iv (3 : Int32)] [(.int (if (m3 &&& (1 : Int64)) = (0 : Int64) then (0 : Int32) else (1 : Int32))), (.int (0 : Int32)), (.ref rs)])) _
    refine st14 _ ?_
    refine XS.aloadN X14.here hx rfl (D d7_80) rfl rfl ?_
    refine st15 _ ?_
    refine XS.iloadN X15.here hx rfl (D d7_84) rfl ?_
    refine XS.aloadN X15.here hx rfl (D d7_85) rfl rfl ?_
    refine XS.iloadN X15.here hx rfl (D d7_86) rfl ?_
    refine own_laload X15 hx hZ e15 V14_rw (show 0 ≤ Int32.toInt (3 : Int32) ∧ Int32.toInt (3 : Int32) < ((12 : Nat) : Int) by decide) (D d7_87) _ ?_
    refine X15.ldc2Long hx hown (mvT hZ (H 65 rfl)) (g := (mkF m 88 #[rv ra, rv rw, iv (0 : Int32), iv (3 : Int32)] [(.long m3), (.int (0 : Int32)), (.ref rg)])) rfl (D d7_88) _ ?_
    refine XS.land X15.here hx rfl (D d7_91) rfl ?_
    refine XS.lconst X15.here hx rfl (D d7_92) ?_
    refine XS.lcmp X15.here hx rfl (D d7_93) rfl ?_
    exact k
  clear V8_rw V8_rl V8_rs V8_rr V8_rg V8_rt A8_ra F8_ra_0 F8_ra_1 F8_ra_2 F8_ra_3 F8_ra_4 F8_ra_5 F8_ra_6 F8_ra_7 sz8 K8 N8 F8_s X10 e10 pre12 pre13 X14 e14 W14 V14 st14 st15
  have pre18 : ∀ t, Steps p.tables e below (T15.setTop (mkF m 102 #[rv ra, rv rw, iv (0 : Int32), iv (3 : Int32)] [(.int (if (m3 &&& (2 : Int64)) = (0 : Int64) then (0 : Int32) else (1 : Int32))), (.int (0 : Int32)), (.ref rg)])) t → Steps p.tables e below B0 t := by
    by_cases c16 : (m3 &&& (2 : Int64)) = (0 : Int64)
    · try simp only [if_pos c16]
      intro t k
      refine pre17 t ?_
      show Steps p.tables e below (T15.setTop (mkF m 94 #[rv ra, rv rw, iv (0 : Int32), iv (3 : Int32)] [(.int (lcmpW (m3 &&& (2 : Int64)) (0 : Int64))), (.int (0 : Int32)), (.ref rg)])) _
      refine XS.ifYes X15.here hx rfl (pc0 := 94) (pc' := 101) rfl (D d7_94) rfl ((if0 _ _).trans (teq ((lw_eq (m3 &&& (2 : Int64)) (0 : Int64)).mpr c16)).1) (by decide) (by decide) ?_
      refine XS.iconst X15.here hx rfl (D d7_101) ?_
      exact k
    · try simp only [if_neg c16]
      intro t k
      refine pre17 t ?_
      show Steps p.tables e below (T15.setTop (mkF m 94 #[rv ra, rv rw, iv (0 : Int32), iv (3 : Int32)] [(.int (lcmpW (m3 &&& (2 : Int64)) (0 : Int64))), (.int (0 : Int32)), (.ref rg)])) _
      refine XS.ifNo X15.here hx rfl (D d7_94) rfl ((if0 _ _).trans (feq (mt (lw_eq (m3 &&& (2 : Int64)) (0 : Int64)).mp c16)).1) ?_
      refine XS.iconst X15.here hx rfl (D d7_97) ?_
      refine XS.goto X15.here hx rfl (pc0 := 98) (pc' := 102) rfl (D d7_98) (by decide) (by decide) ?_
      exact k
  obtain ⟨T19, h19, X19, e19, W19, V19, st19⟩ := own_bastoreZ X15 hx hZ e15 V14_rg (j := (0 : Int32)) (show 0 ≤ Int32.toInt (0 : Int32) ∧ Int32.toInt (0 : Int32) < ((3 : Nat) : Int) by decide) (x := (if (m3 &&& (2 : Int64)) = (0 : Int64) then (0 : Int32) else (1 : Int32))) (D d7_102)
  have V19_rw := V14_rw.other W19 PN3
  have V19_rl := V14_rl.other W19 PN8
  have V19_rs := V14_n.other W19 PN12
  have V19_rr := V14_rr.other W19 PN15
  have V19_rt := V14_rt.other W19 (Ne.symm PN18)
  have A19_ra := A14_ra.wr W19
  have F19_ra_0 := F14_ra_0.other W19 (Or.inl (Ne.symm PN19))
  have F19_ra_1 := F14_ra_1.other W19 (Or.inl (Ne.symm PN19))
  have F19_ra_2 := F14_ra_2.other W19 (Or.inl (Ne.symm PN19))
  have F19_ra_3 := F14_ra_3.other W19 (Or.inl (Ne.symm PN19))
  have F19_ra_4 := F14_ra_4.other W19 (Or.inl (Ne.symm PN19))
  have F19_ra_5 := F14_ra_5.other W19 (Or.inl (Ne.symm PN19))
  have F19_ra_6 := F14_ra_6.other W19 (Or.inl (Ne.symm PN19))
  have F19_ra_7 := F14_ra_7.other W19 (Or.inl (Ne.symm PN19))
  have F19_ra_8 := F14_ra_8.other W19 (Or.inl (Ne.symm PN19))
  have sz19 := Nat.le_trans sz14 (Keep.of_wr W19).1
  have K19 := K14.wr W19 (Or.inl (by simp))
  have N19 := Fr.snoc X19 N14 PG2
  have V19_n : own_AI Z h19 rg .boolean [((if (m3 &&& (2 : Int64)) = (0 : Int64) then (0 : Int32) else (1 : Int32)) &&& 1), bg1, bg2] := V19
  obtain ⟨T20, X20, e20, st20⟩ := getF X19 hx hZ hown (host := "") (Or.inl (H 39 rfl)) Via.refl e19 F19_ra_4 (g := (mkF m 104 #[rv ra, rv rw, iv (0 : Int32), iv (3 : Int32)] [(.ref ra)])) rfl rfl (D d7_104)
  have pre22 : ∀ t, Steps p.tables e below (T20.setTop (mkF m 117 #[rv ra, rv rw, iv (0 : Int32), iv (3 : Int32)] [(.int (lcmpW (m3 &&& (4 : Int64)) (0 : Int64))), (.int (0 : Int32)), (.ref rt)])) t → Steps p.tables e below B0 t := by
    intro t k
    refine pre18 t ?_
    show Steps p.tables e below (T15.setTop (mkF m 102 #[rv ra, rv rw, iv (0 : Int32), iv (3 : Int32)] [(.int (if (m3 &&& (2 : Int64)) = (0 : Int64) then (0 : Int32) else (1 : Int32))), (.int (0 : Int32)), (.ref rg)])) _
    refine st19 _ ?_
    refine XS.aloadN X19.here hx rfl (D d7_103) rfl rfl ?_
    refine st20 _ ?_
    refine XS.iloadN X20.here hx rfl (D d7_107) rfl ?_
    refine XS.aloadN X20.here hx rfl (D d7_108) rfl rfl ?_
    refine XS.iloadN X20.here hx rfl (D d7_109) rfl ?_
    refine own_laload X20 hx hZ e20 V19_rw (show 0 ≤ Int32.toInt (3 : Int32) ∧ Int32.toInt (3 : Int32) < ((12 : Nat) : Int) by decide) (D d7_110) _ ?_
    refine X20.ldc2Long hx hown (mvT hZ (H 63 rfl)) (g := (mkF m 111 #[rv ra, rv rw, iv (0 : Int32), iv (3 : Int32)] [(.long m3), (.int (0 : Int32)), (.ref rt)])) rfl (D d7_111) _ ?_
    refine XS.land X20.here hx rfl (D d7_114) rfl ?_
    refine XS.lconst X20.here hx rfl (D d7_115) ?_
    refine XS.lcmp X20.here hx rfl (D d7_116) rfl ?_
    exact k
  clear V14_rw V14_rl V14_rr V14_rg V14_rt A14_ra F14_ra_0 F14_ra_1 F14_ra_2 F14_ra_3 F14_ra_4 F14_ra_5 F14_ra_6 F14_ra_7 F14_ra_8 sz14 K14 N14 V14_n X15 e15 pre17 pre18 X19 e19 W19 V19 st19 st20
  have pre23 : ∀ t, Steps p.tables e below (T20.setTop (mkF m 125 #[rv ra, rv rw, iv (0 : Int32), iv (3 : Int32)] [(.int (if (m3 &&& (4 : Int64)) = (0 : Int64) then (0 : Int32) else (1 : Int32))), (.int (0 : Int32)), (.ref rt)])) t → Steps p.tables e below B0 t := by
    by_cases c21 : (m3 &&& (4 : Int64)) = (0 : Int64)
    · try simp only [if_pos c21]
      intro t k
      refine pre22 t ?_
      show Steps p.tables e below (T20.setTop (mkF m 117 #[rv ra, rv rw, iv (0 : Int32), iv (3 : Int32)] [(.int (lcmpW (m3 &&& (4 : Int64)) (0 : Int64))), (.int (0 : Int32)), (.ref rt)])) _
      refine XS.ifYes X20.here hx rfl (pc0 := 117) (pc' := 124) rfl (D d7_117) rfl ((if0 _ _).trans (teq ((lw_eq (m3 &&& (4 : Int64)) (0 : Int64)).mpr c21)).1) (by decide) (by decide) ?_
      refine XS.iconst X20.here hx rfl (D d7_124) ?_
      exact k
    · try simp only [if_neg c21]
      intro t k
      refine pre22 t ?_
      show Steps p.tables e below (T20.setTop (mkF m 117 #[rv ra, rv rw, iv (0 : Int32), iv (3 : Int32)] [(.int (lcmpW (m3 &&& (4 : Int64)) (0 : Int64))), (.int (0 : Int32)), (.ref rt)])) _
      refine XS.ifNo X20.here hx rfl (D d7_117) rfl ((if0 _ _).trans (feq (mt (lw_eq (m3 &&& (4 : Int64)) (0 : Int64)).mp c21)).1) ?_
      refine XS.iconst X20.here hx rfl (D d7_120) ?_
      refine XS.goto X20.here hx rfl (pc0 := 121) (pc' := 125) rfl (D d7_121) (by decide) (by decide) ?_
      exact k
  obtain ⟨T24, h24, X24, e24, W24, V24, st24⟩ := own_bastoreZ X20 hx hZ e20 V19_rt (j := (0 : Int32)) (show 0 ≤ Int32.toInt (0 : Int32) ∧ Int32.toInt (0 : Int32) < ((3 : Nat) : Int) by decide) (x := (if (m3 &&& (4 : Int64)) = (0 : Int64) then (0 : Int32) else (1 : Int32))) (D d7_125)
  have V24_rw := V19_rw.other W24 PN4
  have V24_rl := V19_rl.other W24 PN9
  have V24_rs := V19_rs.other W24 PN13
  have V24_rr := V19_rr.other W24 PN16
  have V24_rg := V19_n.other W24 PN18
  have A24_ra := A19_ra.wr W24
  have F24_ra_0 := F19_ra_0.other W24 (Or.inl (Ne.symm PN20))
  have F24_ra_1 := F19_ra_1.other W24 (Or.inl (Ne.symm PN20))
  have F24_ra_2 := F19_ra_2.other W24 (Or.inl (Ne.symm PN20))
  have F24_ra_3 := F19_ra_3.other W24 (Or.inl (Ne.symm PN20))
  have F24_ra_4 := F19_ra_4.other W24 (Or.inl (Ne.symm PN20))
  have F24_ra_5 := F19_ra_5.other W24 (Or.inl (Ne.symm PN20))
  have F24_ra_6 := F19_ra_6.other W24 (Or.inl (Ne.symm PN20))
  have F24_ra_7 := F19_ra_7.other W24 (Or.inl (Ne.symm PN20))
  have F24_ra_8 := F19_ra_8.other W24 (Or.inl (Ne.symm PN20))
  have sz24 := Nat.le_trans sz19 (Keep.of_wr W24).1
  have K24 := K19.wr W24 (Or.inl (by simp))
  have N24 := Fr.snoc X24 N19 PG3
  have V24_n : own_AI Z h24 rt .boolean [((if (m3 &&& (4 : Int64)) = (0 : Int64) then (0 : Int32) else (1 : Int32)) &&& 1), bt1, bt2] := V24
  obtain ⟨T25, X25, e25, st25⟩ := getF X24 hx hZ hown (host := "") (Or.inl (H 30 rfl)) Via.refl e24 F24_ra_0 (g := (mkF m 127 #[rv ra, rv rw, iv (0 : Int32), iv (3 : Int32)] [(.ref ra)])) rfl rfl (D d7_127)
  obtain ⟨T26, h26, X26, e26, W26, V26, st26⟩ := own_lastore X25 hx hZ e25 V24_rl (j := (0 : Int32)) (show 0 ≤ Int32.toInt (0 : Int32) ∧ Int32.toInt (0 : Int32) < ((3 : Nat) : Int) by decide) (x := m4) (D d7_136)
  have V26_rw := V24_rw.other W26 PN0
  have V26_rs := V24_rs.other W26 (Ne.symm PN6)
  have V26_rr := V24_rr.other W26 (Ne.symm PN7)
  have V26_rg := V24_rg.other W26 (Ne.symm PN8)
  have V26_rt := V24_n.other W26 (Ne.symm PN9)
  have A26_ra := A24_ra.wr W26
  have F26_ra_0 := F24_ra_0.other W26 (Or.inl (Ne.symm PN10))
  have F26_ra_1 := F24_ra_1.other W26 (Or.inl (Ne.symm PN10))
  have F26_ra_2 := F24_ra_2.other W26 (Or.inl (Ne.symm PN10))
  have F26_ra_3 := F24_ra_3.other W26 (Or.inl (Ne.symm PN10))
  have F26_ra_4 := F24_ra_4.other W26 (Or.inl (Ne.symm PN10))
  have F26_ra_5 := F24_ra_5.other W26 (Or.inl (Ne.symm PN10))
  have F26_ra_6 := F24_ra_6.other W26 (Or.inl (Ne.symm PN10))
  have F26_ra_7 := F24_ra_7.other W26 (Or.inl (Ne.symm PN10))
  have F26_ra_8 := F24_ra_8.other W26 (Or.inl (Ne.symm PN10))
  have sz26 := Nat.le_trans sz24 (Keep.of_wr W26).1
  have K26 := K24.wr W26 (Or.inl (by simp))
  have N26 := Fr.snoc X26 N24 PG4
  have V26_n : own_AJ Z h26 rl [m4, jl1, jl2] := V26
  obtain ⟨T27, X27, e27, st27⟩ := getF X26 hx hZ hown (host := "") (Or.inl (H 35 rfl)) Via.refl e26 F26_ra_2 (g := (mkF m 138 #[rv ra, rv rw, iv (0 : Int32), iv (3 : Int32)] [(.ref ra)])) rfl rfl (D d7_138)
  obtain ⟨T28, h28, X28, e28, W28, V28, st28⟩ := own_lastore X27 hx hZ e27 V26_rr (j := (0 : Int32)) (show 0 ≤ Int32.toInt (0 : Int32) ∧ Int32.toInt (0 : Int32) < ((3 : Nat) : Int) by decide) (x := m5) (D d7_147)
  have V28_rw := V26_rw.other W28 PN2
  have V28_rl := V26_n.other W28 PN7
  have V28_rs := V26_rs.other W28 PN11
  have V28_rg := V26_rg.other W28 (Ne.symm PN15)
  have V28_rt := V26_rt.other W28 (Ne.symm PN16)
  have A28_ra := A26_ra.wr W28
  have F28_ra_0 := F26_ra_0.other W28 (Or.inl (Ne.symm PN17))
  have F28_ra_1 := F26_ra_1.other W28 (Or.inl (Ne.symm PN17))
  have F28_ra_2 := F26_ra_2.other W28 (Or.inl (Ne.symm PN17))
  have F28_ra_3 := F26_ra_3.other W28 (Or.inl (Ne.symm PN17))
  have F28_ra_4 := F26_ra_4.other W28 (Or.inl (Ne.symm PN17))
  have F28_ra_5 := F26_ra_5.other W28 (Or.inl (Ne.symm PN17))
  have F28_ra_6 := F26_ra_6.other W28 (Or.inl (Ne.symm PN17))
  have F28_ra_7 := F26_ra_7.other W28 (Or.inl (Ne.symm PN17))
  have F28_ra_8 := F26_ra_8.other W28 (Or.inl (Ne.symm PN17))
  have sz28 := Nat.le_trans sz26 (Keep.of_wr W28).1
  have K28 := K26.wr W28 (Or.inl (by simp))
  have N28 := Fr.snoc X28 N26 PG5
  have V28_n : own_AJ Z h28 rr [m5, jr1, jr2] := V28
  obtain ⟨T29, X29, e29, st29⟩ := getF X28 hx hZ hown (host := "") (Or.inl (H 41 rfl)) Via.refl e28 F28_ra_8 (g := (mkF m 150 #[rv ra, rv rw, iv (0 : Int32), iv (3 : Int32)] [(.ref ra), (.ref ra)])) rfl rfl (D d7_150)
  obtain ⟨T30, X30, e30, st30⟩ := getF X29 hx hZ hown (host := "") (Or.inl (H 37 rfl)) Via.refl e29 F28_ra_3 (g := (mkF m 154 #[rv ra, rv rw, iv (0 : Int32), iv (3 : Int32)] [(.ref ra), (.int (0 : Int32)), (.ref ra)])) rfl rfl (D d7_154)
  have pre32 : ∀ t, Steps p.tables e below (T30.setTop (mkF m 159 #[rv ra, rv rw, iv (0 : Int32), iv (3 : Int32)] [(.int ((if (m3 &&& (2 : Int64)) = (0 : Int64) then (0 : Int32) else (1 : Int32)) &&& 1)), (.int (0 : Int32)), (.ref ra)])) t → Steps p.tables e below B0 t := by
    intro t k
    refine pre23 t ?_
    show Steps p.tables e below (T20.setTop (mkF m 125 #[rv ra, rv rw, iv (0 : Int32), iv (3 : Int32)] [(.int (if (m3 &&& (4 : Int64)) = (0 : Int64) then (0 : Int32) else (1 : Int32))), (.int (0 : Int32)), (.ref rt)])) _
    refine st24 _ ?_
    refine XS.aloadN X24.here hx rfl (D d7_126) rfl rfl ?_
    refine st25 _ ?_
    refine XS.iloadN X25.here hx rfl (D d7_130) rfl ?_
    refine XS.aloadN X25.here hx rfl (D d7_131) rfl rfl ?_
    refine XS.iloadN X25.here hx rfl (D d7_132) rfl ?_
    refine XS.iconst X25.here hx rfl (D d7_133) ?_
    refine XS.iadd X25.here hx rfl (D d7_134) rfl ?_
    refine own_laload X25 hx hZ e25 V24_rw (show 0 ≤ Int32.toInt (4 : Int32) ∧ Int32.toInt (4 : Int32) < ((12 : Nat) : Int) by decide) (D d7_135) _ ?_
    refine st26 _ ?_
    refine XS.aloadN X26.here hx rfl (D d7_137) rfl rfl ?_
    show Steps p.tables e below (T26.setTop (mkF m 138 #[rv ra, rv rw, iv (0 : Int32), iv (3 : Int32)] [(.ref ra)])) _
    refine st27 _ ?_
    refine XS.iloadN X27.here hx rfl (D d7_141) rfl ?_
    refine XS.aloadN X27.here hx rfl (D d7_142) rfl rfl ?_
    refine XS.iloadN X27.here hx rfl (D d7_143) rfl ?_
    refine XS.iconst X27.here hx rfl (D d7_144) ?_
    refine XS.iadd X27.here hx rfl (D d7_145) rfl ?_
    refine own_laload X27 hx hZ e27 V26_rw (show 0 ≤ Int32.toInt (5 : Int32) ∧ Int32.toInt (5 : Int32) < ((12 : Nat) : Int) by decide) (D d7_146) _ ?_
    refine st28 _ ?_
    refine XS.aloadN X28.here hx rfl (D d7_148) rfl rfl ?_
    refine XS.dup X28.here hx rfl (D d7_149) rfl rfl ?_
    refine st29 _ ?_
    refine XS.aloadN X29.here hx rfl (D d7_153) rfl rfl ?_
    refine st30 _ ?_
    refine XS.iloadN X30.here hx rfl (D d7_157) rfl ?_
    refine own_baloadZ X30 hx hZ e30 V28_rg (show 0 ≤ Int32.toInt (0 : Int32) ∧ Int32.toInt (0 : Int32) < ((3 : Nat) : Int) by decide) (D d7_158) _ ?_
    exact k
  clear V19_rw V19_rl V19_rs V19_rr V19_rt A19_ra F19_ra_0 F19_ra_1 F19_ra_2 F19_ra_3 F19_ra_4 F19_ra_5 F19_ra_6 F19_ra_7 F19_ra_8 sz19 K19 N19 V19_n X20 e20 pre22 pre23 X24 e24 W24 V24 st24 V24_rw V24_rl V24_rs V24_rr V24_rg A24_ra F24_ra_0 F24_ra_1 F24_ra_2 F24_ra_3 F24_ra_4 F24_ra_5 F24_ra_6 F24_ra_7 F24_ra_8 sz24 K24 N24 V24_n X25 e25 st25 X26 e26 W26 V26 st26 V26_rw V26_rs V26_rr V26_rg V26_rt A26_ra F26_ra_0 F26_ra_1 F26_ra_2 F26_ra_3 F26_ra_4 F26_ra_5 F26_ra_6 F26_ra_7 F26_ra_8 sz26 K26 N26 V26_n X27 e27 st27 X28 e28 W28 V28 st28 X29 e29 st29 st30
  have pre33 : ∀ t, Steps p.tables e below (T30.setTop (mkF m 167 #[rv ra, rv rw, iv (0 : Int32), iv (3 : Int32)] [(.int (if ((if (m3 &&& (2 : Int64)) = (0 : Int64) then (0 : Int32) else (1 : Int32)) &&& 1) = (0 : Int32) then (1 : Int32) else (0 : Int32))), (.int (0 : Int32)), (.ref ra)])) t → Steps p.tables e below B0 t := by
    by_cases c31 : ((if (m3 &&& (2 : Int64)) = (0 : Int64) then (0 : Int32) else (1 : Int32)) &&& 1) = (0 : Int32)
    · try simp only [if_pos c31]
      intro t k
      refine pre32 t ?_
      show Steps p.tables e below (T30.setTop (mkF m 159 #[rv ra, rv rw, iv (0 : Int32), iv (3 : Int32)] [(.int ((if (m3 &&& (2 : Int64)) = (0 : Int64) then (0 : Int32) else (1 : Int32)) &&& 1)), (.int (0 : Int32)), (.ref ra)])) _
      refine XS.ifYes X30.here hx rfl (pc0 := 159) (pc' := 166) rfl (D d7_159) rfl ((if0 _ _).trans (teq c31).1) (by decide) (by decide) ?_
      refine XS.iconst X30.here hx rfl (D d7_166) ?_
      exact k
    · try simp only [if_neg c31]
      intro t k
      refine pre32 t ?_
      show Steps p.tables e below (T30.setTop (mkF m 159 #[rv ra, rv rw, iv (0 : Int32), iv (3 : Int32)] [(.int ((if (m3 &&& (2 : Int64)) = (0 : Int64) then (0 : Int32) else (1 : Int32)) &&& 1)), (.int (0 : Int32)), (.ref ra)])) _
      refine XS.ifNo X30.here hx rfl (D d7_159) rfl ((if0 _ _).trans (feq c31).1) ?_
      refine XS.iconst X30.here hx rfl (D d7_162) ?_
      refine XS.goto X30.here hx rfl (pc0 := 163) (pc' := 167) rfl (D d7_163) (by decide) (by decide) ?_
      exact k
  obtain ⟨T34, h34, X34, e34, W34, st34⟩ := putF X30 hx hZ hown (host := "") (Or.inl (H 41 rfl)) Via.refl e30 F28_ra_8 A28_ra (Or.inl (H 42 rfl)) (H 13 rfl) (ty := .int) (by decide) rfl rfl (g := (mkF m 168 #[rv ra, rv rw, iv (0 : Int32), iv (3 : Int32)] [(.int ((0 : Int32) + (if ((if (m3 &&& (2 : Int64)) = (0 : Int64) then (0 : Int32) else (1 : Int32)) &&& 1) = (0 : Int32) then (1 : Int32) else (0 : Int32)))), (.ref ra)])) rfl rfl (D d7_168)
  have V34_rw := V28_rw.other W34 PN5
  have V34_rl := V28_rl.other W34 PN10
  have V34_rs := V28_rs.other W34 PN14
  have V34_rr := V28_n.other W34 PN17
  have V34_rg := V28_rg.other W34 PN19
  have V34_rt := V28_rt.other W34 PN20
  have A34_ra := A28_ra.wr W34
  have F34_ra_0 := F28_ra_0.other W34 (Or.inr (own_sn_88 hw))
  have F34_ra_1 := F28_ra_1.other W34 (Or.inr (own_sn_89 hw))
  have F34_ra_2 := F28_ra_2.other W34 (Or.inr (own_sn_90 hw))
  have F34_ra_3 := F28_ra_3.other W34 (Or.inr (own_sn_91 hw))
  have F34_ra_4 := F28_ra_4.other W34 (Or.inr (own_sn_92 hw))
  have F34_ra_5 := F28_ra_5.other W34 (Or.inr (own_sn_93 hw))
  have F34_ra_6 := F28_ra_6.other W34 (Or.inr (own_sn_94 hw))
  have F34_ra_7 := F28_ra_7.other W34 (Or.inr (own_sn_85 hw))
  have sz34 := Nat.le_trans sz28 (Keep.of_wr W34).1
  have K34 := K28.wr W34 (Or.inl (by simp))
  have N34 := Fr.snoc X34 N28 PG0
  have F34_s : Fld Z h34 ra own_S "open" "I" (.int ((0 : Int32) + (if ((if (m3 &&& (2 : Int64)) = (0 : Int64) then (0 : Int32) else (1 : Int32)) &&& 1) = (0 : Int32) then (1 : Int32) else (0 : Int32)))) := F28_ra_8.same W34
  obtain ⟨T35, X35, e35, st35⟩ := getF X34 hx hZ hown (host := "") (Or.inl (H 37 rfl)) Via.refl e34 F34_ra_3 (g := (mkF m 46 #[rv ra, rv rw, iv (1 : Int32), iv (3 : Int32)] [(.ref ra), (.int (1 : Int32))])) rfl rfl (D d7_46)
  obtain ⟨T36, X36, e36, st36⟩ := getF X35 hx hZ hown (host := "") (Or.inl (H 33 rfl)) Via.refl e35 F34_ra_1 (g := (mkF m 60 #[rv ra, rv rw, iv (1 : Int32), iv (6 : Int32)] [(.ref ra)])) rfl rfl (D d7_60)
  have pre38 : ∀ t, Steps p.tables e below (T36.setTop (mkF m 71 #[rv ra, rv rw, iv (1 : Int32), iv (6 : Int32)] [(.int (lcmpW (m6 &&& (1 : Int64)) (0 : Int64))), (.int (1 : Int32)), (.ref rs)])) t → Steps p.tables e below B0 t := by
    intro t k
    refine pre33 t ?_
    show Steps p.tables e below (T30.setTop (mkF m 167 #[rv ra, rv rw, iv (0 : Int32), iv (3 : Int32)] [(.int (if ((if (m3 &&& (2 : Int64)) = (0 : Int64) then (0 : Int32) else (1 : Int32)) &&& 1) = (0 : Int32) then (1 : Int32) else (0 : Int32))), (.int (0 : Int32)), (.ref ra)])) _
    refine XS.iadd X30.here hx rfl (D d7_167) rfl ?_
    refine st34 _ ?_
    refine XS.iinc X34.here hx rfl (D d7_171) rfl (l' := #[rv ra, rv rw, iv (1 : Int32), iv (3 : Int32)]) rfl ?_
    refine XS.goto X34.here hx rfl (pc0 := 174) (pc' := 44) rfl (D d7_174) (by decide) (by decide) ?_
    refine XS.iloadN X34.here hx rfl (D d7_44) rfl ?_
    refine XS.aloadN X34.here hx rfl (D d7_45) rfl rfl ?_
    refine st35 _ ?_
    refine own_alenI X35 hx hZ e35 V34_rg (D d7_49) _ ?_
    show Steps p.tables e below (T35.setTop (mkF m 50 #[rv ra, rv rw, iv (1 : Int32), iv (3 : Int32)] [(.int (3 : Int32)), (.int (1 : Int32))])) _
    refine XS.icmpNo X35.here hx rfl (D d7_50) rfl (by decide) ?_
    refine XS.iconst X35.here hx rfl (D d7_53) ?_
    refine XS.iconst X35.here hx rfl (D d7_54) ?_
    refine XS.iloadN X35.here hx rfl (D d7_55) rfl ?_
    refine XS.imul X35.here hx rfl (D d7_56) rfl ?_
    refine XS.iadd X35.here hx rfl (D d7_57) rfl ?_
    refine XS.istoreN X35.here hx rfl (D d7_58) rfl (l' := #[rv ra, rv rw, iv (1 : Int32), iv (6 : Int32)]) rfl ?_
    refine XS.aloadN X35.here hx rfl (D d7_59) rfl rfl ?_
    refine st36 _ ?_
    refine XS.iloadN X36.here hx rfl (D d7_63) rfl ?_
    refine XS.aloadN X36.here hx rfl (D d7_64) rfl rfl ?_
    refine XS.iloadN X36.here hx rfl (D d7_65) rfl ?_
    refine own_laload X36 hx hZ e36 V34_rw (show 0 ≤ Int32.toInt (6 : Int32) ∧ Int32.toInt (6 : Int32) < ((12 : Nat) : Int) by decide) (D d7_66) _ ?_
    refine XS.lconst X36.here hx rfl (D d7_67) ?_
    refine XS.land X36.here hx rfl (D d7_68) rfl ?_
    refine XS.lconst X36.here hx rfl (D d7_69) ?_
    refine XS.lcmp X36.here hx rfl (D d7_70) rfl ?_
    exact k
  clear V28_rw V28_rl V28_rs V28_rg V28_rt A28_ra F28_ra_0 F28_ra_1 F28_ra_2 F28_ra_3 F28_ra_4 F28_ra_5 F28_ra_6 F28_ra_7 F28_ra_8 sz28 K28 N28 V28_n X30 e30 pre32 pre33 X34 e34 W34 st34 X35 e35 st35 st36
  have pre39 : ∀ t, Steps p.tables e below (T36.setTop (mkF m 79 #[rv ra, rv rw, iv (1 : Int32), iv (6 : Int32)] [(.int (if (m6 &&& (1 : Int64)) = (0 : Int64) then (0 : Int32) else (1 : Int32))), (.int (1 : Int32)), (.ref rs)])) t → Steps p.tables e below B0 t := by
    by_cases c37 : (m6 &&& (1 : Int64)) = (0 : Int64)
    · try simp only [if_pos c37]
      intro t k
      refine pre38 t ?_
      show Steps p.tables e below (T36.setTop (mkF m 71 #[rv ra, rv rw, iv (1 : Int32), iv (6 : Int32)] [(.int (lcmpW (m6 &&& (1 : Int64)) (0 : Int64))), (.int (1 : Int32)), (.ref rs)])) _
      refine XS.ifYes X36.here hx rfl (pc0 := 71) (pc' := 78) rfl (D d7_71) rfl ((if0 _ _).trans (teq ((lw_eq (m6 &&& (1 : Int64)) (0 : Int64)).mpr c37)).1) (by decide) (by decide) ?_
      refine XS.iconst X36.here hx rfl (D d7_78) ?_
      exact k
    · try simp only [if_neg c37]
      intro t k
      refine pre38 t ?_
      show Steps p.tables e below (T36.setTop (mkF m 71 #[rv ra, rv rw, iv (1 : Int32), iv (6 : Int32)] [(.int (lcmpW (m6 &&& (1 : Int64)) (0 : Int64))), (.int (1 : Int32)), (.ref rs)])) _
      refine XS.ifNo X36.here hx rfl (D d7_71) rfl ((if0 _ _).trans (feq (mt (lw_eq (m6 &&& (1 : Int64)) (0 : Int64)).mp c37)).1) ?_
      refine XS.iconst X36.here hx rfl (D d7_74) ?_
      show Steps p.tables e below (T36.setTop (mkF m 75 #[rv ra, rv rw, iv (1 : Int32), iv (6 : Int32)] [(.int (1 : Int32)), (.int (1 : Int32)), (.ref rs)])) _
      refine XS.goto X36.here hx rfl (pc0 := 75) (pc' := 79) rfl (D d7_75) (by decide) (by decide) ?_
      exact k
  obtain ⟨T40, h40, X40, e40, W40, V40, st40⟩ := own_bastoreZ X36 hx hZ e36 V34_rs (j := (1 : Int32)) (show 0 ≤ Int32.toInt (1 : Int32) ∧ Int32.toInt (1 : Int32) < ((3 : Nat) : Int) by decide) (x := (if (m6 &&& (1 : Int64)) = (0 : Int64) then (0 : Int32) else (1 : Int32))) (D d7_79)
  have V40_rw := V34_rw.other W40 PN1
  have V40_rl := V34_rl.other W40 PN6
  have V40_rr := V34_rr.other W40 (Ne.symm PN11)
  have V40_rg := V34_rg.other W40 (Ne.symm PN12)
  have V40_rt := V34_rt.other W40 (Ne.symm PN13)
  have A40_ra := A34_ra.wr W40
  have F40_ra_0 := F34_ra_0.other W40 (Or.inl (Ne.symm PN14))
  have F40_ra_1 := F34_ra_1.other W40 (Or.inl (Ne.symm PN14))
  have F40_ra_2 := F34_ra_2.other W40 (Or.inl (Ne.symm PN14))
  have F40_ra_3 := F34_ra_3.other W40 (Or.inl (Ne.symm PN14))
  have F40_ra_4 := F34_ra_4.other W40 (Or.inl (Ne.symm PN14))
  have F40_ra_5 := F34_ra_5.other W40 (Or.inl (Ne.symm PN14))
  have F40_ra_6 := F34_ra_6.other W40 (Or.inl (Ne.symm PN14))
  have F40_ra_7 := F34_ra_7.other W40 (Or.inl (Ne.symm PN14))
  have F40_ra_8 := F34_s.other W40 (Or.inl (Ne.symm PN14))
  have sz40 := Nat.le_trans sz34 (Keep.of_wr W40).1
  have K40 := K34.wr W40 (Or.inl (by simp))
  have N40 := Fr.snoc X40 N34 PG1
  have V40_n : own_AI Z h40 rs .boolean [((if (m3 &&& (1 : Int64)) = (0 : Int64) then (0 : Int32) else (1 : Int32)) &&& 1), ((if (m6 &&& (1 : Int64)) = (0 : Int64) then (0 : Int32) else (1 : Int32)) &&& 1), bs2] := V40
  obtain ⟨T41, X41, e41, st41⟩ := getF X40 hx hZ hown (host := "") (Or.inl (H 37 rfl)) Via.refl e40 F40_ra_3 (g := (mkF m 81 #[rv ra, rv rw, iv (1 : Int32), iv (6 : Int32)] [(.ref ra)])) rfl rfl (D d7_81)
  have pre43 : ∀ t, Steps p.tables e below (T41.setTop (mkF m 94 #[rv ra, rv rw, iv (1 : Int32), iv (6 : Int32)] [(.int (lcmpW (m6 &&& (2 : Int64)) (0 : Int64))), (.int (1 : Int32)), (.ref rg)])) t → Steps p.tables e below B0 t := by
    intro t k
    refine pre39 t ?_
    show Steps p.tables e below (T36.setTop (mkF m 79 #[rv ra, rv rw, iv (1 : Int32), iv (6 : Int32)] [(.int (if (m6 &&& (1 : Int64)) = (0 : Int64) then (0 : Int32) else (1 : Int32))), (.int (1 : Int32)), (.ref rs)])) _
    refine st40 _ ?_
    show Steps p.tables e below (T40.setTop (mkF m 80 #[rv ra, rv rw, iv (1 : Int32), iv (6 : Int32)] [])) _
    refine XS.aloadN X40.here hx rfl (D d7_80) rfl rfl ?_
    refine st41 _ ?_
    refine XS.iloadN X41.here hx rfl (D d7_84) rfl ?_
    refine XS.aloadN X41.here hx rfl (D d7_85) rfl rfl ?_
    refine XS.iloadN X41.here hx rfl (D d7_86) rfl ?_
    refine own_laload X41 hx hZ e41 V40_rw (show 0 ≤ Int32.toInt (6 : Int32) ∧ Int32.toInt (6 : Int32) < ((12 : Nat) : Int) by decide) (D d7_87) _ ?_
    refine X41.ldc2Long hx hown (mvT hZ (H 65 rfl)) (g := (mkF m 88 #[rv ra, rv rw, iv (1 : Int32), iv (6 : Int32)] [(.long m6), (.int (1 : Int32)), (.ref rg)])) rfl (D d7_88) _ ?_
    refine XS.land X41.here hx rfl (D d7_91) rfl ?_
    refine XS.lconst X41.here hx rfl (D d7_92) ?_
    refine XS.lcmp X41.here hx rfl (D d7_93) rfl ?_
    exact k
  clear V34_rw V34_rl V34_rs V34_rr V34_rg V34_rt A34_ra F34_ra_0 F34_ra_1 F34_ra_2 F34_ra_3 F34_ra_4 F34_ra_5 F34_ra_6 F34_ra_7 sz34 K34 N34 F34_s X36 e36 pre38 pre39 X40 e40 W40 V40 st40 st41
  have pre44 : ∀ t, Steps p.tables e below (T41.setTop (mkF m 102 #[rv ra, rv rw, iv (1 : Int32), iv (6 : Int32)] [(.int (if (m6 &&& (2 : Int64)) = (0 : Int64) then (0 : Int32) else (1 : Int32))), (.int (1 : Int32)), (.ref rg)])) t → Steps p.tables e below B0 t := by
    by_cases c42 : (m6 &&& (2 : Int64)) = (0 : Int64)
    · try simp only [if_pos c42]
      intro t k
      refine pre43 t ?_
      show Steps p.tables e below (T41.setTop (mkF m 94 #[rv ra, rv rw, iv (1 : Int32), iv (6 : Int32)] [(.int (lcmpW (m6 &&& (2 : Int64)) (0 : Int64))), (.int (1 : Int32)), (.ref rg)])) _
      refine XS.ifYes X41.here hx rfl (pc0 := 94) (pc' := 101) rfl (D d7_94) rfl ((if0 _ _).trans (teq ((lw_eq (m6 &&& (2 : Int64)) (0 : Int64)).mpr c42)).1) (by decide) (by decide) ?_
      refine XS.iconst X41.here hx rfl (D d7_101) ?_
      exact k
    · try simp only [if_neg c42]
      intro t k
      refine pre43 t ?_
      show Steps p.tables e below (T41.setTop (mkF m 94 #[rv ra, rv rw, iv (1 : Int32), iv (6 : Int32)] [(.int (lcmpW (m6 &&& (2 : Int64)) (0 : Int64))), (.int (1 : Int32)), (.ref rg)])) _
      refine XS.ifNo X41.here hx rfl (D d7_94) rfl ((if0 _ _).trans (feq (mt (lw_eq (m6 &&& (2 : Int64)) (0 : Int64)).mp c42)).1) ?_
      refine XS.iconst X41.here hx rfl (D d7_97) ?_
      refine XS.goto X41.here hx rfl (pc0 := 98) (pc' := 102) rfl (D d7_98) (by decide) (by decide) ?_
      exact k
  obtain ⟨T45, h45, X45, e45, W45, V45, st45⟩ := own_bastoreZ X41 hx hZ e41 V40_rg (j := (1 : Int32)) (show 0 ≤ Int32.toInt (1 : Int32) ∧ Int32.toInt (1 : Int32) < ((3 : Nat) : Int) by decide) (x := (if (m6 &&& (2 : Int64)) = (0 : Int64) then (0 : Int32) else (1 : Int32))) (D d7_102)
  have V45_rw := V40_rw.other W45 PN3
  have V45_rl := V40_rl.other W45 PN8
  have V45_rs := V40_n.other W45 PN12
  have V45_rr := V40_rr.other W45 PN15
  have V45_rt := V40_rt.other W45 (Ne.symm PN18)
  have A45_ra := A40_ra.wr W45
  have F45_ra_0 := F40_ra_0.other W45 (Or.inl (Ne.symm PN19))
  have F45_ra_1 := F40_ra_1.other W45 (Or.inl (Ne.symm PN19))
  have F45_ra_2 := F40_ra_2.other W45 (Or.inl (Ne.symm PN19))
  have F45_ra_3 := F40_ra_3.other W45 (Or.inl (Ne.symm PN19))
  have F45_ra_4 := F40_ra_4.other W45 (Or.inl (Ne.symm PN19))
  have F45_ra_5 := F40_ra_5.other W45 (Or.inl (Ne.symm PN19))
  have F45_ra_6 := F40_ra_6.other W45 (Or.inl (Ne.symm PN19))
  have F45_ra_7 := F40_ra_7.other W45 (Or.inl (Ne.symm PN19))
  have F45_ra_8 := F40_ra_8.other W45 (Or.inl (Ne.symm PN19))
  have sz45 := Nat.le_trans sz40 (Keep.of_wr W45).1
  have K45 := K40.wr W45 (Or.inl (by simp))
  have N45 := Fr.snoc X45 N40 PG2
  have V45_n : own_AI Z h45 rg .boolean [((if (m3 &&& (2 : Int64)) = (0 : Int64) then (0 : Int32) else (1 : Int32)) &&& 1), ((if (m6 &&& (2 : Int64)) = (0 : Int64) then (0 : Int32) else (1 : Int32)) &&& 1), bg2] := V45
  obtain ⟨T46, X46, e46, st46⟩ := getF X45 hx hZ hown (host := "") (Or.inl (H 39 rfl)) Via.refl e45 F45_ra_4 (g := (mkF m 104 #[rv ra, rv rw, iv (1 : Int32), iv (6 : Int32)] [(.ref ra)])) rfl rfl (D d7_104)
  have pre48 : ∀ t, Steps p.tables e below (T46.setTop (mkF m 117 #[rv ra, rv rw, iv (1 : Int32), iv (6 : Int32)] [(.int (lcmpW (m6 &&& (4 : Int64)) (0 : Int64))), (.int (1 : Int32)), (.ref rt)])) t → Steps p.tables e below B0 t := by
    intro t k
    refine pre44 t ?_
    show Steps p.tables e below (T41.setTop (mkF m 102 #[rv ra, rv rw, iv (1 : Int32), iv (6 : Int32)] [(.int (if (m6 &&& (2 : Int64)) = (0 : Int64) then (0 : Int32) else (1 : Int32))), (.int (1 : Int32)), (.ref rg)])) _
    refine st45 _ ?_
    refine XS.aloadN X45.here hx rfl (D d7_103) rfl rfl ?_
    refine st46 _ ?_
    refine XS.iloadN X46.here hx rfl (D d7_107) rfl ?_
    refine XS.aloadN X46.here hx rfl (D d7_108) rfl rfl ?_
    refine XS.iloadN X46.here hx rfl (D d7_109) rfl ?_
    refine own_laload X46 hx hZ e46 V45_rw (show 0 ≤ Int32.toInt (6 : Int32) ∧ Int32.toInt (6 : Int32) < ((12 : Nat) : Int) by decide) (D d7_110) _ ?_
    refine X46.ldc2Long hx hown (mvT hZ (H 63 rfl)) (g := (mkF m 111 #[rv ra, rv rw, iv (1 : Int32), iv (6 : Int32)] [(.long m6), (.int (1 : Int32)), (.ref rt)])) rfl (D d7_111) _ ?_
    refine XS.land X46.here hx rfl (D d7_114) rfl ?_
    refine XS.lconst X46.here hx rfl (D d7_115) ?_
    refine XS.lcmp X46.here hx rfl (D d7_116) rfl ?_
    exact k
  clear V40_rw V40_rl V40_rr V40_rg V40_rt A40_ra F40_ra_0 F40_ra_1 F40_ra_2 F40_ra_3 F40_ra_4 F40_ra_5 F40_ra_6 F40_ra_7 F40_ra_8 sz40 K40 N40 V40_n X41 e41 pre43 pre44 X45 e45 W45 V45 st45 st46
  have pre49 : ∀ t, Steps p.tables e below (T46.setTop (mkF m 125 #[rv ra, rv rw, iv (1 : Int32), iv (6 : Int32)] [(.int (if (m6 &&& (4 : Int64)) = (0 : Int64) then (0 : Int32) else (1 : Int32))), (.int (1 : Int32)), (.ref rt)])) t → Steps p.tables e below B0 t := by
    by_cases c47 : (m6 &&& (4 : Int64)) = (0 : Int64)
    · try simp only [if_pos c47]
      intro t k
      refine pre48 t ?_
      show Steps p.tables e below (T46.setTop (mkF m 117 #[rv ra, rv rw, iv (1 : Int32), iv (6 : Int32)] [(.int (lcmpW (m6 &&& (4 : Int64)) (0 : Int64))), (.int (1 : Int32)), (.ref rt)])) _
      refine XS.ifYes X46.here hx rfl (pc0 := 117) (pc' := 124) rfl (D d7_117) rfl ((if0 _ _).trans (teq ((lw_eq (m6 &&& (4 : Int64)) (0 : Int64)).mpr c47)).1) (by decide) (by decide) ?_
      refine XS.iconst X46.here hx rfl (D d7_124) ?_
      exact k
    · try simp only [if_neg c47]
      intro t k
      refine pre48 t ?_
      show Steps p.tables e below (T46.setTop (mkF m 117 #[rv ra, rv rw, iv (1 : Int32), iv (6 : Int32)] [(.int (lcmpW (m6 &&& (4 : Int64)) (0 : Int64))), (.int (1 : Int32)), (.ref rt)])) _
      refine XS.ifNo X46.here hx rfl (D d7_117) rfl ((if0 _ _).trans (feq (mt (lw_eq (m6 &&& (4 : Int64)) (0 : Int64)).mp c47)).1) ?_
      refine XS.iconst X46.here hx rfl (D d7_120) ?_
      refine XS.goto X46.here hx rfl (pc0 := 121) (pc' := 125) rfl (D d7_121) (by decide) (by decide) ?_
      exact k
  obtain ⟨T50, h50, X50, e50, W50, V50, st50⟩ := own_bastoreZ X46 hx hZ e46 V45_rt (j := (1 : Int32)) (show 0 ≤ Int32.toInt (1 : Int32) ∧ Int32.toInt (1 : Int32) < ((3 : Nat) : Int) by decide) (x := (if (m6 &&& (4 : Int64)) = (0 : Int64) then (0 : Int32) else (1 : Int32))) (D d7_125)
  have V50_rw := V45_rw.other W50 PN4
  have V50_rl := V45_rl.other W50 PN9
  have V50_rs := V45_rs.other W50 PN13
  have V50_rr := V45_rr.other W50 PN16
  have V50_rg := V45_n.other W50 PN18
  have A50_ra := A45_ra.wr W50
  have F50_ra_0 := F45_ra_0.other W50 (Or.inl (Ne.symm PN20))
  have F50_ra_1 := F45_ra_1.other W50 (Or.inl (Ne.symm PN20))
  have F50_ra_2 := F45_ra_2.other W50 (Or.inl (Ne.symm PN20))
  have F50_ra_3 := F45_ra_3.other W50 (Or.inl (Ne.symm PN20))
  have F50_ra_4 := F45_ra_4.other W50 (Or.inl (Ne.symm PN20))
  have F50_ra_5 := F45_ra_5.other W50 (Or.inl (Ne.symm PN20))
  have F50_ra_6 := F45_ra_6.other W50 (Or.inl (Ne.symm PN20))
  have F50_ra_7 := F45_ra_7.other W50 (Or.inl (Ne.symm PN20))
  have F50_ra_8 := F45_ra_8.other W50 (Or.inl (Ne.symm PN20))
  have sz50 := Nat.le_trans sz45 (Keep.of_wr W50).1
  have K50 := K45.wr W50 (Or.inl (by simp))
  have N50 := Fr.snoc X50 N45 PG3
  have V50_n : own_AI Z h50 rt .boolean [((if (m3 &&& (4 : Int64)) = (0 : Int64) then (0 : Int32) else (1 : Int32)) &&& 1), ((if (m6 &&& (4 : Int64)) = (0 : Int64) then (0 : Int32) else (1 : Int32)) &&& 1), bt2] := V50
  obtain ⟨T51, X51, e51, st51⟩ := getF X50 hx hZ hown (host := "") (Or.inl (H 30 rfl)) Via.refl e50 F50_ra_0 (g := (mkF m 127 #[rv ra, rv rw, iv (1 : Int32), iv (6 : Int32)] [(.ref ra)])) rfl rfl (D d7_127)
  obtain ⟨T52, h52, X52, e52, W52, V52, st52⟩ := own_lastore X51 hx hZ e51 V50_rl (j := (1 : Int32)) (show 0 ≤ Int32.toInt (1 : Int32) ∧ Int32.toInt (1 : Int32) < ((3 : Nat) : Int) by decide) (x := m7) (D d7_136)
  have V52_rw := V50_rw.other W52 PN0
  have V52_rs := V50_rs.other W52 (Ne.symm PN6)
  have V52_rr := V50_rr.other W52 (Ne.symm PN7)
  have V52_rg := V50_rg.other W52 (Ne.symm PN8)
  have V52_rt := V50_n.other W52 (Ne.symm PN9)
  have A52_ra := A50_ra.wr W52
  have F52_ra_0 := F50_ra_0.other W52 (Or.inl (Ne.symm PN10))
  have F52_ra_1 := F50_ra_1.other W52 (Or.inl (Ne.symm PN10))
  have F52_ra_2 := F50_ra_2.other W52 (Or.inl (Ne.symm PN10))
  have F52_ra_3 := F50_ra_3.other W52 (Or.inl (Ne.symm PN10))
  have F52_ra_4 := F50_ra_4.other W52 (Or.inl (Ne.symm PN10))
  have F52_ra_5 := F50_ra_5.other W52 (Or.inl (Ne.symm PN10))
  have F52_ra_6 := F50_ra_6.other W52 (Or.inl (Ne.symm PN10))
  have F52_ra_7 := F50_ra_7.other W52 (Or.inl (Ne.symm PN10))
  have F52_ra_8 := F50_ra_8.other W52 (Or.inl (Ne.symm PN10))
  have sz52 := Nat.le_trans sz50 (Keep.of_wr W52).1
  have K52 := K50.wr W52 (Or.inl (by simp))
  have N52 := Fr.snoc X52 N50 PG4
  have V52_n : own_AJ Z h52 rl [m4, m7, jl2] := V52
  obtain ⟨T53, X53, e53, st53⟩ := getF X52 hx hZ hown (host := "") (Or.inl (H 35 rfl)) Via.refl e52 F52_ra_2 (g := (mkF m 138 #[rv ra, rv rw, iv (1 : Int32), iv (6 : Int32)] [(.ref ra)])) rfl rfl (D d7_138)
  obtain ⟨T54, h54, X54, e54, W54, V54, st54⟩ := own_lastore X53 hx hZ e53 V52_rr (j := (1 : Int32)) (show 0 ≤ Int32.toInt (1 : Int32) ∧ Int32.toInt (1 : Int32) < ((3 : Nat) : Int) by decide) (x := m8) (D d7_147)
  have V54_rw := V52_rw.other W54 PN2
  have V54_rl := V52_n.other W54 PN7
  have V54_rs := V52_rs.other W54 PN11
  have V54_rg := V52_rg.other W54 (Ne.symm PN15)
  have V54_rt := V52_rt.other W54 (Ne.symm PN16)
  have A54_ra := A52_ra.wr W54
  have F54_ra_0 := F52_ra_0.other W54 (Or.inl (Ne.symm PN17))
  have F54_ra_1 := F52_ra_1.other W54 (Or.inl (Ne.symm PN17))
  have F54_ra_2 := F52_ra_2.other W54 (Or.inl (Ne.symm PN17))
  have F54_ra_3 := F52_ra_3.other W54 (Or.inl (Ne.symm PN17))
  have F54_ra_4 := F52_ra_4.other W54 (Or.inl (Ne.symm PN17))
  have F54_ra_5 := F52_ra_5.other W54 (Or.inl (Ne.symm PN17))
  have F54_ra_6 := F52_ra_6.other W54 (Or.inl (Ne.symm PN17))
  have F54_ra_7 := F52_ra_7.other W54 (Or.inl (Ne.symm PN17))
  have F54_ra_8 := F52_ra_8.other W54 (Or.inl (Ne.symm PN17))
  have sz54 := Nat.le_trans sz52 (Keep.of_wr W54).1
  have K54 := K52.wr W54 (Or.inl (by simp))
  have N54 := Fr.snoc X54 N52 PG5
  have V54_n : own_AJ Z h54 rr [m5, m8, jr2] := V54
  obtain ⟨T55, X55, e55, st55⟩ := getF X54 hx hZ hown (host := "") (Or.inl (H 41 rfl)) Via.refl e54 F54_ra_8 (g := (mkF m 150 #[rv ra, rv rw, iv (1 : Int32), iv (6 : Int32)] [(.ref ra), (.ref ra)])) rfl rfl (D d7_150)
  obtain ⟨T56, X56, e56, st56⟩ := getF X55 hx hZ hown (host := "") (Or.inl (H 37 rfl)) Via.refl e55 F54_ra_3 (g := (mkF m 154 #[rv ra, rv rw, iv (1 : Int32), iv (6 : Int32)] [(.ref ra), (.int ((0 : Int32) + (if ((if (m3 &&& (2 : Int64)) = (0 : Int64) then (0 : Int32) else (1 : Int32)) &&& 1) = (0 : Int32) then (1 : Int32) else (0 : Int32)))), (.ref ra)])) rfl rfl (D d7_154)
  have pre58 : ∀ t, Steps p.tables e below (T56.setTop (mkF m 159 #[rv ra, rv rw, iv (1 : Int32), iv (6 : Int32)] [(.int ((if (m6 &&& (2 : Int64)) = (0 : Int64) then (0 : Int32) else (1 : Int32)) &&& 1)), (.int ((0 : Int32) + (if ((if (m3 &&& (2 : Int64)) = (0 : Int64) then (0 : Int32) else (1 : Int32)) &&& 1) = (0 : Int32) then (1 : Int32) else (0 : Int32)))), (.ref ra)])) t → Steps p.tables e below B0 t := by
    intro t k
    refine pre49 t ?_
    show Steps p.tables e below (T46.setTop (mkF m 125 #[rv ra, rv rw, iv (1 : Int32), iv (6 : Int32)] [(.int (if (m6 &&& (4 : Int64)) = (0 : Int64) then (0 : Int32) else (1 : Int32))), (.int (1 : Int32)), (.ref rt)])) _
    refine st50 _ ?_
    refine XS.aloadN X50.here hx rfl (D d7_126) rfl rfl ?_
    refine st51 _ ?_
    refine XS.iloadN X51.here hx rfl (D d7_130) rfl ?_
    refine XS.aloadN X51.here hx rfl (D d7_131) rfl rfl ?_
    refine XS.iloadN X51.here hx rfl (D d7_132) rfl ?_
    refine XS.iconst X51.here hx rfl (D d7_133) ?_
    refine XS.iadd X51.here hx rfl (D d7_134) rfl ?_
    refine own_laload X51 hx hZ e51 V50_rw (show 0 ≤ Int32.toInt (7 : Int32) ∧ Int32.toInt (7 : Int32) < ((12 : Nat) : Int) by decide) (D d7_135) _ ?_
    refine st52 _ ?_
    refine XS.aloadN X52.here hx rfl (D d7_137) rfl rfl ?_
    refine st53 _ ?_
    refine XS.iloadN X53.here hx rfl (D d7_141) rfl ?_
    refine XS.aloadN X53.here hx rfl (D d7_142) rfl rfl ?_
    refine XS.iloadN X53.here hx rfl (D d7_143) rfl ?_
    refine XS.iconst X53.here hx rfl (D d7_144) ?_
    refine XS.iadd X53.here hx rfl (D d7_145) rfl ?_
    refine own_laload X53 hx hZ e53 V52_rw (show 0 ≤ Int32.toInt (8 : Int32) ∧ Int32.toInt (8 : Int32) < ((12 : Nat) : Int) by decide) (D d7_146) _ ?_
    refine st54 _ ?_
    show Steps p.tables e below (T54.setTop (mkF m 148 #[rv ra, rv rw, iv (1 : Int32), iv (6 : Int32)] [])) _
    refine XS.aloadN X54.here hx rfl (D d7_148) rfl rfl ?_
    refine XS.dup X54.here hx rfl (D d7_149) rfl rfl ?_
    refine st55 _ ?_
    refine XS.aloadN X55.here hx rfl (D d7_153) rfl rfl ?_
    refine st56 _ ?_
    refine XS.iloadN X56.here hx rfl (D d7_157) rfl ?_
    refine own_baloadZ X56 hx hZ e56 V54_rg (show 0 ≤ Int32.toInt (1 : Int32) ∧ Int32.toInt (1 : Int32) < ((3 : Nat) : Int) by decide) (D d7_158) _ ?_
    exact k
  clear V45_rw V45_rl V45_rs V45_rr V45_rt A45_ra F45_ra_0 F45_ra_1 F45_ra_2 F45_ra_3 F45_ra_4 F45_ra_5 F45_ra_6 F45_ra_7 F45_ra_8 sz45 K45 N45 V45_n X46 e46 pre48 pre49 X50 e50 W50 V50 st50 V50_rw V50_rl V50_rs V50_rr V50_rg A50_ra F50_ra_0 F50_ra_1 F50_ra_2 F50_ra_3 F50_ra_4 F50_ra_5 F50_ra_6 F50_ra_7 F50_ra_8 sz50 K50 N50 V50_n X51 e51 st51 X52 e52 W52 V52 st52 V52_rw V52_rs V52_rr V52_rg V52_rt A52_ra F52_ra_0 F52_ra_1 F52_ra_2 F52_ra_3 F52_ra_4 F52_ra_5 F52_ra_6 F52_ra_7 F52_ra_8 sz52 K52 N52 V52_n X53 e53 st53 X54 e54 W54 V54 st54 X55 e55 st55 st56
  have pre59 : ∀ t, Steps p.tables e below (T56.setTop (mkF m 167 #[rv ra, rv rw, iv (1 : Int32), iv (6 : Int32)] [(.int (if ((if (m6 &&& (2 : Int64)) = (0 : Int64) then (0 : Int32) else (1 : Int32)) &&& 1) = (0 : Int32) then (1 : Int32) else (0 : Int32))), (.int ((0 : Int32) + (if ((if (m3 &&& (2 : Int64)) = (0 : Int64) then (0 : Int32) else (1 : Int32)) &&& 1) = (0 : Int32) then (1 : Int32) else (0 : Int32)))), (.ref ra)])) t → Steps p.tables e below B0 t := by
    by_cases c57 : ((if (m6 &&& (2 : Int64)) = (0 : Int64) then (0 : Int32) else (1 : Int32)) &&& 1) = (0 : Int32)
    · try simp only [if_pos c57]
      intro t k
      refine pre58 t ?_
      show Steps p.tables e below (T56.setTop (mkF m 159 #[rv ra, rv rw, iv (1 : Int32), iv (6 : Int32)] [(.int ((if (m6 &&& (2 : Int64)) = (0 : Int64) then (0 : Int32) else (1 : Int32)) &&& 1)), (.int ((0 : Int32) + (if ((if (m3 &&& (2 : Int64)) = (0 : Int64) then (0 : Int32) else (1 : Int32)) &&& 1) = (0 : Int32) then (1 : Int32) else (0 : Int32)))), (.ref ra)])) _
      refine XS.ifYes X56.here hx rfl (pc0 := 159) (pc' := 166) rfl (D d7_159) rfl ((if0 _ _).trans (teq c57).1) (by decide) (by decide) ?_
      refine XS.iconst X56.here hx rfl (D d7_166) ?_
      exact k
    · try simp only [if_neg c57]
      intro t k
      refine pre58 t ?_
      show Steps p.tables e below (T56.setTop (mkF m 159 #[rv ra, rv rw, iv (1 : Int32), iv (6 : Int32)] [(.int ((if (m6 &&& (2 : Int64)) = (0 : Int64) then (0 : Int32) else (1 : Int32)) &&& 1)), (.int ((0 : Int32) + (if ((if (m3 &&& (2 : Int64)) = (0 : Int64) then (0 : Int32) else (1 : Int32)) &&& 1) = (0 : Int32) then (1 : Int32) else (0 : Int32)))), (.ref ra)])) _
      refine XS.ifNo X56.here hx rfl (D d7_159) rfl ((if0 _ _).trans (feq c57).1) ?_
      refine XS.iconst X56.here hx rfl (D d7_162) ?_
      refine XS.goto X56.here hx rfl (pc0 := 163) (pc' := 167) rfl (D d7_163) (by decide) (by decide) ?_
      exact k
  obtain ⟨T60, h60, X60, e60, W60, st60⟩ := putF X56 hx hZ hown (host := "") (Or.inl (H 41 rfl)) Via.refl e56 F54_ra_8 A54_ra (Or.inl (H 42 rfl)) (H 13 rfl) (ty := .int) (by decide) rfl rfl (g := (mkF m 168 #[rv ra, rv rw, iv (1 : Int32), iv (6 : Int32)] [(.int (((0 : Int32) + (if ((if (m3 &&& (2 : Int64)) = (0 : Int64) then (0 : Int32) else (1 : Int32)) &&& 1) = (0 : Int32) then (1 : Int32) else (0 : Int32))) + (if ((if (m6 &&& (2 : Int64)) = (0 : Int64) then (0 : Int32) else (1 : Int32)) &&& 1) = (0 : Int32) then (1 : Int32) else (0 : Int32)))), (.ref ra)])) rfl rfl (D d7_168)
  have V60_rw := V54_rw.other W60 PN5
  have V60_rl := V54_rl.other W60 PN10
  have V60_rs := V54_rs.other W60 PN14
  have V60_rr := V54_n.other W60 PN17
  have V60_rg := V54_rg.other W60 PN19
  have V60_rt := V54_rt.other W60 PN20
  have A60_ra := A54_ra.wr W60
  have F60_ra_0 := F54_ra_0.other W60 (Or.inr (own_sn_88 hw))
  have F60_ra_1 := F54_ra_1.other W60 (Or.inr (own_sn_89 hw))
  have F60_ra_2 := F54_ra_2.other W60 (Or.inr (own_sn_90 hw))
  have F60_ra_3 := F54_ra_3.other W60 (Or.inr (own_sn_91 hw))
  have F60_ra_4 := F54_ra_4.other W60 (Or.inr (own_sn_92 hw))
  have F60_ra_5 := F54_ra_5.other W60 (Or.inr (own_sn_93 hw))
  have F60_ra_6 := F54_ra_6.other W60 (Or.inr (own_sn_94 hw))
  have F60_ra_7 := F54_ra_7.other W60 (Or.inr (own_sn_85 hw))
  have sz60 := Nat.le_trans sz54 (Keep.of_wr W60).1
  have K60 := K54.wr W60 (Or.inl (by simp))
  have N60 := Fr.snoc X60 N54 PG0
  have F60_s : Fld Z h60 ra own_S "open" "I" (.int (((0 : Int32) + (if ((if (m3 &&& (2 : Int64)) = (0 : Int64) then (0 : Int32) else (1 : Int32)) &&& 1) = (0 : Int32) then (1 : Int32) else (0 : Int32))) + (if ((if (m6 &&& (2 : Int64)) = (0 : Int64) then (0 : Int32) else (1 : Int32)) &&& 1) = (0 : Int32) then (1 : Int32) else (0 : Int32)))) := F54_ra_8.same W60
  obtain ⟨T61, X61, e61, st61⟩ := getF X60 hx hZ hown (host := "") (Or.inl (H 37 rfl)) Via.refl e60 F60_ra_3 (g := (mkF m 46 #[rv ra, rv rw, iv (2 : Int32), iv (6 : Int32)] [(.ref ra), (.int (2 : Int32))])) rfl rfl (D d7_46)
  obtain ⟨T62, X62, e62, st62⟩ := getF X61 hx hZ hown (host := "") (Or.inl (H 33 rfl)) Via.refl e61 F60_ra_1 (g := (mkF m 60 #[rv ra, rv rw, iv (2 : Int32), iv (9 : Int32)] [(.ref ra)])) rfl rfl (D d7_60)
  have pre64 : ∀ t, Steps p.tables e below (T62.setTop (mkF m 71 #[rv ra, rv rw, iv (2 : Int32), iv (9 : Int32)] [(.int (lcmpW (m9 &&& (1 : Int64)) (0 : Int64))), (.int (2 : Int32)), (.ref rs)])) t → Steps p.tables e below B0 t := by
    intro t k
    refine pre59 t ?_
    show Steps p.tables e below (T56.setTop (mkF m 167 #[rv ra, rv rw, iv (1 : Int32), iv (6 : Int32)] [(.int (if ((if (m6 &&& (2 : Int64)) = (0 : Int64) then (0 : Int32) else (1 : Int32)) &&& 1) = (0 : Int32) then (1 : Int32) else (0 : Int32))), (.int ((0 : Int32) + (if ((if (m3 &&& (2 : Int64)) = (0 : Int64) then (0 : Int32) else (1 : Int32)) &&& 1) = (0 : Int32) then (1 : Int32) else (0 : Int32)))), (.ref ra)])) _
    refine XS.iadd X56.here hx rfl (D d7_167) rfl ?_
    refine st60 _ ?_
    refine XS.iinc X60.here hx rfl (D d7_171) rfl (l' := #[rv ra, rv rw, iv (2 : Int32), iv (6 : Int32)]) rfl ?_
    refine XS.goto X60.here hx rfl (pc0 := 174) (pc' := 44) rfl (D d7_174) (by decide) (by decide) ?_
    refine XS.iloadN X60.here hx rfl (D d7_44) rfl ?_
    refine XS.aloadN X60.here hx rfl (D d7_45) rfl rfl ?_
    refine st61 _ ?_
    refine own_alenI X61 hx hZ e61 V60_rg (D d7_49) _ ?_
    show Steps p.tables e below (T61.setTop (mkF m 50 #[rv ra, rv rw, iv (2 : Int32), iv (6 : Int32)] [(.int (3 : Int32)), (.int (2 : Int32))])) _
    refine XS.icmpNo X61.here hx rfl (D d7_50) rfl (by decide) ?_
    refine XS.iconst X61.here hx rfl (D d7_53) ?_
    refine XS.iconst X61.here hx rfl (D d7_54) ?_
    refine XS.iloadN X61.here hx rfl (D d7_55) rfl ?_
    refine XS.imul X61.here hx rfl (D d7_56) rfl ?_
    refine XS.iadd X61.here hx rfl (D d7_57) rfl ?_
    refine XS.istoreN X61.here hx rfl (D d7_58) rfl (l' := #[rv ra, rv rw, iv (2 : Int32), iv (9 : Int32)]) rfl ?_
    refine XS.aloadN X61.here hx rfl (D d7_59) rfl rfl ?_
    refine st62 _ ?_
    refine XS.iloadN X62.here hx rfl (D d7_63) rfl ?_
    refine XS.aloadN X62.here hx rfl (D d7_64) rfl rfl ?_
    refine XS.iloadN X62.here hx rfl (D d7_65) rfl ?_
    refine own_laload X62 hx hZ e62 V60_rw (show 0 ≤ Int32.toInt (9 : Int32) ∧ Int32.toInt (9 : Int32) < ((12 : Nat) : Int) by decide) (D d7_66) _ ?_
    refine XS.lconst X62.here hx rfl (D d7_67) ?_
    refine XS.land X62.here hx rfl (D d7_68) rfl ?_
    refine XS.lconst X62.here hx rfl (D d7_69) ?_
    refine XS.lcmp X62.here hx rfl (D d7_70) rfl ?_
    exact k
  clear V54_rw V54_rl V54_rs V54_rg V54_rt A54_ra F54_ra_0 F54_ra_1 F54_ra_2 F54_ra_3 F54_ra_4 F54_ra_5 F54_ra_6 F54_ra_7 F54_ra_8 sz54 K54 N54 V54_n X56 e56 pre58 pre59 X60 e60 W60 st60 X61 e61 st61 st62
  have pre65 : ∀ t, Steps p.tables e below (T62.setTop (mkF m 79 #[rv ra, rv rw, iv (2 : Int32), iv (9 : Int32)] [(.int (if (m9 &&& (1 : Int64)) = (0 : Int64) then (0 : Int32) else (1 : Int32))), (.int (2 : Int32)), (.ref rs)])) t → Steps p.tables e below B0 t := by
    by_cases c63 : (m9 &&& (1 : Int64)) = (0 : Int64)
    · try simp only [if_pos c63]
      intro t k
      refine pre64 t ?_
      show Steps p.tables e below (T62.setTop (mkF m 71 #[rv ra, rv rw, iv (2 : Int32), iv (9 : Int32)] [(.int (lcmpW (m9 &&& (1 : Int64)) (0 : Int64))), (.int (2 : Int32)), (.ref rs)])) _
      refine XS.ifYes X62.here hx rfl (pc0 := 71) (pc' := 78) rfl (D d7_71) rfl ((if0 _ _).trans (teq ((lw_eq (m9 &&& (1 : Int64)) (0 : Int64)).mpr c63)).1) (by decide) (by decide) ?_
      refine XS.iconst X62.here hx rfl (D d7_78) ?_
      exact k
    · try simp only [if_neg c63]
      intro t k
      refine pre64 t ?_
      show Steps p.tables e below (T62.setTop (mkF m 71 #[rv ra, rv rw, iv (2 : Int32), iv (9 : Int32)] [(.int (lcmpW (m9 &&& (1 : Int64)) (0 : Int64))), (.int (2 : Int32)), (.ref rs)])) _
      refine XS.ifNo X62.here hx rfl (D d7_71) rfl ((if0 _ _).trans (feq (mt (lw_eq (m9 &&& (1 : Int64)) (0 : Int64)).mp c63)).1) ?_
      refine XS.iconst X62.here hx rfl (D d7_74) ?_
      refine XS.goto X62.here hx rfl (pc0 := 75) (pc' := 79) rfl (D d7_75) (by decide) (by decide) ?_
      exact k
  obtain ⟨T66, h66, X66, e66, W66, V66, st66⟩ := own_bastoreZ X62 hx hZ e62 V60_rs (j := (2 : Int32)) (show 0 ≤ Int32.toInt (2 : Int32) ∧ Int32.toInt (2 : Int32) < ((3 : Nat) : Int) by decide) (x := (if (m9 &&& (1 : Int64)) = (0 : Int64) then (0 : Int32) else (1 : Int32))) (D d7_79)
  have V66_rw := V60_rw.other W66 PN1
  have V66_rl := V60_rl.other W66 PN6
  have V66_rr := V60_rr.other W66 (Ne.symm PN11)
  have V66_rg := V60_rg.other W66 (Ne.symm PN12)
  have V66_rt := V60_rt.other W66 (Ne.symm PN13)
  have A66_ra := A60_ra.wr W66
  have F66_ra_0 := F60_ra_0.other W66 (Or.inl (Ne.symm PN14))
  have F66_ra_1 := F60_ra_1.other W66 (Or.inl (Ne.symm PN14))
  have F66_ra_2 := F60_ra_2.other W66 (Or.inl (Ne.symm PN14))
  have F66_ra_3 := F60_ra_3.other W66 (Or.inl (Ne.symm PN14))
  have F66_ra_4 := F60_ra_4.other W66 (Or.inl (Ne.symm PN14))
  have F66_ra_5 := F60_ra_5.other W66 (Or.inl (Ne.symm PN14))
  have F66_ra_6 := F60_ra_6.other W66 (Or.inl (Ne.symm PN14))
  have F66_ra_7 := F60_ra_7.other W66 (Or.inl (Ne.symm PN14))
  have F66_ra_8 := F60_s.other W66 (Or.inl (Ne.symm PN14))
  have sz66 := Nat.le_trans sz60 (Keep.of_wr W66).1
  have K66 := K60.wr W66 (Or.inl (by simp))
  have N66 := Fr.snoc X66 N60 PG1
  have V66_n : own_AI Z h66 rs .boolean [((if (m3 &&& (1 : Int64)) = (0 : Int64) then (0 : Int32) else (1 : Int32)) &&& 1), ((if (m6 &&& (1 : Int64)) = (0 : Int64) then (0 : Int32) else (1 : Int32)) &&& 1), ((if (m9 &&& (1 : Int64)) = (0 : Int64) then (0 : Int32) else (1 : Int32)) &&& 1)] := V66
  obtain ⟨T67, X67, e67, st67⟩ := getF X66 hx hZ hown (host := "") (Or.inl (H 37 rfl)) Via.refl e66 F66_ra_3 (g := (mkF m 81 #[rv ra, rv rw, iv (2 : Int32), iv (9 : Int32)] [(.ref ra)])) rfl rfl (D d7_81)
  have pre69 : ∀ t, Steps p.tables e below (T67.setTop (mkF m 94 #[rv ra, rv rw, iv (2 : Int32), iv (9 : Int32)] [(.int (lcmpW (m9 &&& (2 : Int64)) (0 : Int64))), (.int (2 : Int32)), (.ref rg)])) t → Steps p.tables e below B0 t := by
    intro t k
    refine pre65 t ?_
    show Steps p.tables e below (T62.setTop (mkF m 79 #[rv ra, rv rw, iv (2 : Int32), iv (9 : Int32)] [(.int (if (m9 &&& (1 : Int64)) = (0 : Int64) then (0 : Int32) else (1 : Int32))), (.int (2 : Int32)), (.ref rs)])) _
    refine st66 _ ?_
    refine XS.aloadN X66.here hx rfl (D d7_80) rfl rfl ?_
    refine st67 _ ?_
    refine XS.iloadN X67.here hx rfl (D d7_84) rfl ?_
    refine XS.aloadN X67.here hx rfl (D d7_85) rfl rfl ?_
    refine XS.iloadN X67.here hx rfl (D d7_86) rfl ?_
    refine own_laload X67 hx hZ e67 V66_rw (show 0 ≤ Int32.toInt (9 : Int32) ∧ Int32.toInt (9 : Int32) < ((12 : Nat) : Int) by decide) (D d7_87) _ ?_
    refine X67.ldc2Long hx hown (mvT hZ (H 65 rfl)) (g := (mkF m 88 #[rv ra, rv rw, iv (2 : Int32), iv (9 : Int32)] [(.long m9), (.int (2 : Int32)), (.ref rg)])) rfl (D d7_88) _ ?_
    refine XS.land X67.here hx rfl (D d7_91) rfl ?_
    show Steps p.tables e below (T67.setTop (mkF m 92 #[rv ra, rv rw, iv (2 : Int32), iv (9 : Int32)] [(.long (m9 &&& (2 : Int64))), (.int (2 : Int32)), (.ref rg)])) _
    refine XS.lconst X67.here hx rfl (D d7_92) ?_
    refine XS.lcmp X67.here hx rfl (D d7_93) rfl ?_
    exact k
  clear V60_rw V60_rl V60_rs V60_rr V60_rg V60_rt A60_ra F60_ra_0 F60_ra_1 F60_ra_2 F60_ra_3 F60_ra_4 F60_ra_5 F60_ra_6 F60_ra_7 sz60 K60 N60 F60_s X62 e62 pre64 pre65 X66 e66 W66 V66 st66 st67
  have pre70 : ∀ t, Steps p.tables e below (T67.setTop (mkF m 102 #[rv ra, rv rw, iv (2 : Int32), iv (9 : Int32)] [(.int (if (m9 &&& (2 : Int64)) = (0 : Int64) then (0 : Int32) else (1 : Int32))), (.int (2 : Int32)), (.ref rg)])) t → Steps p.tables e below B0 t := by
    by_cases c68 : (m9 &&& (2 : Int64)) = (0 : Int64)
    · try simp only [if_pos c68]
      intro t k
      refine pre69 t ?_
      show Steps p.tables e below (T67.setTop (mkF m 94 #[rv ra, rv rw, iv (2 : Int32), iv (9 : Int32)] [(.int (lcmpW (m9 &&& (2 : Int64)) (0 : Int64))), (.int (2 : Int32)), (.ref rg)])) _
      refine XS.ifYes X67.here hx rfl (pc0 := 94) (pc' := 101) rfl (D d7_94) rfl ((if0 _ _).trans (teq ((lw_eq (m9 &&& (2 : Int64)) (0 : Int64)).mpr c68)).1) (by decide) (by decide) ?_
      refine XS.iconst X67.here hx rfl (D d7_101) ?_
      exact k
    · try simp only [if_neg c68]
      intro t k
      refine pre69 t ?_
      show Steps p.tables e below (T67.setTop (mkF m 94 #[rv ra, rv rw, iv (2 : Int32), iv (9 : Int32)] [(.int (lcmpW (m9 &&& (2 : Int64)) (0 : Int64))), (.int (2 : Int32)), (.ref rg)])) _
      refine XS.ifNo X67.here hx rfl (D d7_94) rfl ((if0 _ _).trans (feq (mt (lw_eq (m9 &&& (2 : Int64)) (0 : Int64)).mp c68)).1) ?_
      refine XS.iconst X67.here hx rfl (D d7_97) ?_
      refine XS.goto X67.here hx rfl (pc0 := 98) (pc' := 102) rfl (D d7_98) (by decide) (by decide) ?_
      exact k
  obtain ⟨T71, h71, X71, e71, W71, V71, st71⟩ := own_bastoreZ X67 hx hZ e67 V66_rg (j := (2 : Int32)) (show 0 ≤ Int32.toInt (2 : Int32) ∧ Int32.toInt (2 : Int32) < ((3 : Nat) : Int) by decide) (x := (if (m9 &&& (2 : Int64)) = (0 : Int64) then (0 : Int32) else (1 : Int32))) (D d7_102)
  have V71_rw := V66_rw.other W71 PN3
  have V71_rl := V66_rl.other W71 PN8
  have V71_rs := V66_n.other W71 PN12
  have V71_rr := V66_rr.other W71 PN15
  have V71_rt := V66_rt.other W71 (Ne.symm PN18)
  have A71_ra := A66_ra.wr W71
  have F71_ra_0 := F66_ra_0.other W71 (Or.inl (Ne.symm PN19))
  have F71_ra_1 := F66_ra_1.other W71 (Or.inl (Ne.symm PN19))
  have F71_ra_2 := F66_ra_2.other W71 (Or.inl (Ne.symm PN19))
  have F71_ra_3 := F66_ra_3.other W71 (Or.inl (Ne.symm PN19))
  have F71_ra_4 := F66_ra_4.other W71 (Or.inl (Ne.symm PN19))
  have F71_ra_5 := F66_ra_5.other W71 (Or.inl (Ne.symm PN19))
  have F71_ra_6 := F66_ra_6.other W71 (Or.inl (Ne.symm PN19))
  have F71_ra_7 := F66_ra_7.other W71 (Or.inl (Ne.symm PN19))
  have F71_ra_8 := F66_ra_8.other W71 (Or.inl (Ne.symm PN19))
  have sz71 := Nat.le_trans sz66 (Keep.of_wr W71).1
  have K71 := K66.wr W71 (Or.inl (by simp))
  have N71 := Fr.snoc X71 N66 PG2
  have V71_n : own_AI Z h71 rg .boolean [((if (m3 &&& (2 : Int64)) = (0 : Int64) then (0 : Int32) else (1 : Int32)) &&& 1), ((if (m6 &&& (2 : Int64)) = (0 : Int64) then (0 : Int32) else (1 : Int32)) &&& 1), ((if (m9 &&& (2 : Int64)) = (0 : Int64) then (0 : Int32) else (1 : Int32)) &&& 1)] := V71
  obtain ⟨T72, X72, e72, st72⟩ := getF X71 hx hZ hown (host := "") (Or.inl (H 39 rfl)) Via.refl e71 F71_ra_4 (g := (mkF m 104 #[rv ra, rv rw, iv (2 : Int32), iv (9 : Int32)] [(.ref ra)])) rfl rfl (D d7_104)
  have pre74 : ∀ t, Steps p.tables e below (T72.setTop (mkF m 117 #[rv ra, rv rw, iv (2 : Int32), iv (9 : Int32)] [(.int (lcmpW (m9 &&& (4 : Int64)) (0 : Int64))), (.int (2 : Int32)), (.ref rt)])) t → Steps p.tables e below B0 t := by
    intro t k
    refine pre70 t ?_
    show Steps p.tables e below (T67.setTop (mkF m 102 #[rv ra, rv rw, iv (2 : Int32), iv (9 : Int32)] [(.int (if (m9 &&& (2 : Int64)) = (0 : Int64) then (0 : Int32) else (1 : Int32))), (.int (2 : Int32)), (.ref rg)])) _
    refine st71 _ ?_
    refine XS.aloadN X71.here hx rfl (D d7_103) rfl rfl ?_
    refine st72 _ ?_
    refine XS.iloadN X72.here hx rfl (D d7_107) rfl ?_
    refine XS.aloadN X72.here hx rfl (D d7_108) rfl rfl ?_
    refine XS.iloadN X72.here hx rfl (D d7_109) rfl ?_
    refine own_laload X72 hx hZ e72 V71_rw (show 0 ≤ Int32.toInt (9 : Int32) ∧ Int32.toInt (9 : Int32) < ((12 : Nat) : Int) by decide) (D d7_110) _ ?_
    refine X72.ldc2Long hx hown (mvT hZ (H 63 rfl)) (g := (mkF m 111 #[rv ra, rv rw, iv (2 : Int32), iv (9 : Int32)] [(.long m9), (.int (2 : Int32)), (.ref rt)])) rfl (D d7_111) _ ?_
    refine XS.land X72.here hx rfl (D d7_114) rfl ?_
    refine XS.lconst X72.here hx rfl (D d7_115) ?_
    refine XS.lcmp X72.here hx rfl (D d7_116) rfl ?_
    exact k
  clear V66_rw V66_rl V66_rr V66_rg V66_rt A66_ra F66_ra_0 F66_ra_1 F66_ra_2 F66_ra_3 F66_ra_4 F66_ra_5 F66_ra_6 F66_ra_7 F66_ra_8 sz66 K66 N66 V66_n X67 e67 pre69 pre70 X71 e71 W71 V71 st71 st72
  have pre75 : ∀ t, Steps p.tables e below (T72.setTop (mkF m 125 #[rv ra, rv rw, iv (2 : Int32), iv (9 : Int32)] [(.int (if (m9 &&& (4 : Int64)) = (0 : Int64) then (0 : Int32) else (1 : Int32))), (.int (2 : Int32)), (.ref rt)])) t → Steps p.tables e below B0 t := by
    by_cases c73 : (m9 &&& (4 : Int64)) = (0 : Int64)
    · try simp only [if_pos c73]
      intro t k
      refine pre74 t ?_
      show Steps p.tables e below (T72.setTop (mkF m 117 #[rv ra, rv rw, iv (2 : Int32), iv (9 : Int32)] [(.int (lcmpW (m9 &&& (4 : Int64)) (0 : Int64))), (.int (2 : Int32)), (.ref rt)])) _
      refine XS.ifYes X72.here hx rfl (pc0 := 117) (pc' := 124) rfl (D d7_117) rfl ((if0 _ _).trans (teq ((lw_eq (m9 &&& (4 : Int64)) (0 : Int64)).mpr c73)).1) (by decide) (by decide) ?_
      refine XS.iconst X72.here hx rfl (D d7_124) ?_
      exact k
    · try simp only [if_neg c73]
      intro t k
      refine pre74 t ?_
      show Steps p.tables e below (T72.setTop (mkF m 117 #[rv ra, rv rw, iv (2 : Int32), iv (9 : Int32)] [(.int (lcmpW (m9 &&& (4 : Int64)) (0 : Int64))), (.int (2 : Int32)), (.ref rt)])) _
      refine XS.ifNo X72.here hx rfl (D d7_117) rfl ((if0 _ _).trans (feq (mt (lw_eq (m9 &&& (4 : Int64)) (0 : Int64)).mp c73)).1) ?_
      refine XS.iconst X72.here hx rfl (D d7_120) ?_
      refine XS.goto X72.here hx rfl (pc0 := 121) (pc' := 125) rfl (D d7_121) (by decide) (by decide) ?_
      exact k
  obtain ⟨T76, h76, X76, e76, W76, V76, st76⟩ := own_bastoreZ X72 hx hZ e72 V71_rt (j := (2 : Int32)) (show 0 ≤ Int32.toInt (2 : Int32) ∧ Int32.toInt (2 : Int32) < ((3 : Nat) : Int) by decide) (x := (if (m9 &&& (4 : Int64)) = (0 : Int64) then (0 : Int32) else (1 : Int32))) (D d7_125)
  have V76_rw := V71_rw.other W76 PN4
  have V76_rl := V71_rl.other W76 PN9
  have V76_rs := V71_rs.other W76 PN13
  have V76_rr := V71_rr.other W76 PN16
  have V76_rg := V71_n.other W76 PN18
  have A76_ra := A71_ra.wr W76
  have F76_ra_0 := F71_ra_0.other W76 (Or.inl (Ne.symm PN20))
  have F76_ra_1 := F71_ra_1.other W76 (Or.inl (Ne.symm PN20))
  have F76_ra_2 := F71_ra_2.other W76 (Or.inl (Ne.symm PN20))
  have F76_ra_3 := F71_ra_3.other W76 (Or.inl (Ne.symm PN20))
  have F76_ra_4 := F71_ra_4.other W76 (Or.inl (Ne.symm PN20))
  have F76_ra_5 := F71_ra_5.other W76 (Or.inl (Ne.symm PN20))
  have F76_ra_6 := F71_ra_6.other W76 (Or.inl (Ne.symm PN20))
  have F76_ra_7 := F71_ra_7.other W76 (Or.inl (Ne.symm PN20))
  have F76_ra_8 := F71_ra_8.other W76 (Or.inl (Ne.symm PN20))
  have sz76 := Nat.le_trans sz71 (Keep.of_wr W76).1
  have K76 := K71.wr W76 (Or.inl (by simp))
  have N76 := Fr.snoc X76 N71 PG3
  have V76_n : own_AI Z h76 rt .boolean [((if (m3 &&& (4 : Int64)) = (0 : Int64) then (0 : Int32) else (1 : Int32)) &&& 1), ((if (m6 &&& (4 : Int64)) = (0 : Int64) then (0 : Int32) else (1 : Int32)) &&& 1), ((if (m9 &&& (4 : Int64)) = (0 : Int64) then (0 : Int32) else (1 : Int32)) &&& 1)] := V76
  obtain ⟨T77, X77, e77, st77⟩ := getF X76 hx hZ hown (host := "") (Or.inl (H 30 rfl)) Via.refl e76 F76_ra_0 (g := (mkF m 127 #[rv ra, rv rw, iv (2 : Int32), iv (9 : Int32)] [(.ref ra)])) rfl rfl (D d7_127)
  obtain ⟨T78, h78, X78, e78, W78, V78, st78⟩ := own_lastore X77 hx hZ e77 V76_rl (j := (2 : Int32)) (show 0 ≤ Int32.toInt (2 : Int32) ∧ Int32.toInt (2 : Int32) < ((3 : Nat) : Int) by decide) (x := m10) (D d7_136)
  have V78_rw := V76_rw.other W78 PN0
  have V78_rs := V76_rs.other W78 (Ne.symm PN6)
  have V78_rr := V76_rr.other W78 (Ne.symm PN7)
  have V78_rg := V76_rg.other W78 (Ne.symm PN8)
  have V78_rt := V76_n.other W78 (Ne.symm PN9)
  have A78_ra := A76_ra.wr W78
  have F78_ra_0 := F76_ra_0.other W78 (Or.inl (Ne.symm PN10))
  have F78_ra_1 := F76_ra_1.other W78 (Or.inl (Ne.symm PN10))
  have F78_ra_2 := F76_ra_2.other W78 (Or.inl (Ne.symm PN10))
  have F78_ra_3 := F76_ra_3.other W78 (Or.inl (Ne.symm PN10))
  have F78_ra_4 := F76_ra_4.other W78 (Or.inl (Ne.symm PN10))
  have F78_ra_5 := F76_ra_5.other W78 (Or.inl (Ne.symm PN10))
  have F78_ra_6 := F76_ra_6.other W78 (Or.inl (Ne.symm PN10))
  have F78_ra_7 := F76_ra_7.other W78 (Or.inl (Ne.symm PN10))
  have F78_ra_8 := F76_ra_8.other W78 (Or.inl (Ne.symm PN10))
  have sz78 := Nat.le_trans sz76 (Keep.of_wr W78).1
  have K78 := K76.wr W78 (Or.inl (by simp))
  have N78 := Fr.snoc X78 N76 PG4
  have V78_n : own_AJ Z h78 rl [m4, m7, m10] := V78
  obtain ⟨T79, X79, e79, st79⟩ := getF X78 hx hZ hown (host := "") (Or.inl (H 35 rfl)) Via.refl e78 F78_ra_2 (g := (mkF m 138 #[rv ra, rv rw, iv (2 : Int32), iv (9 : Int32)] [(.ref ra)])) rfl rfl (D d7_138)
  obtain ⟨T80, h80, X80, e80, W80, V80, st80⟩ := own_lastore X79 hx hZ e79 V78_rr (j := (2 : Int32)) (show 0 ≤ Int32.toInt (2 : Int32) ∧ Int32.toInt (2 : Int32) < ((3 : Nat) : Int) by decide) (x := m11) (D d7_147)
  have V80_rw := V78_rw.other W80 PN2
  have V80_rl := V78_n.other W80 PN7
  have V80_rs := V78_rs.other W80 PN11
  have V80_rg := V78_rg.other W80 (Ne.symm PN15)
  have V80_rt := V78_rt.other W80 (Ne.symm PN16)
  have A80_ra := A78_ra.wr W80
  have F80_ra_0 := F78_ra_0.other W80 (Or.inl (Ne.symm PN17))
  have F80_ra_1 := F78_ra_1.other W80 (Or.inl (Ne.symm PN17))
  have F80_ra_2 := F78_ra_2.other W80 (Or.inl (Ne.symm PN17))
  have F80_ra_3 := F78_ra_3.other W80 (Or.inl (Ne.symm PN17))
  have F80_ra_4 := F78_ra_4.other W80 (Or.inl (Ne.symm PN17))
  have F80_ra_5 := F78_ra_5.other W80 (Or.inl (Ne.symm PN17))
  have F80_ra_6 := F78_ra_6.other W80 (Or.inl (Ne.symm PN17))
  have F80_ra_7 := F78_ra_7.other W80 (Or.inl (Ne.symm PN17))
  have F80_ra_8 := F78_ra_8.other W80 (Or.inl (Ne.symm PN17))
  have sz80 := Nat.le_trans sz78 (Keep.of_wr W80).1
  have K80 := K78.wr W80 (Or.inl (by simp))
  have N80 := Fr.snoc X80 N78 PG5
  have V80_n : own_AJ Z h80 rr [m5, m8, m11] := V80
  obtain ⟨T81, X81, e81, st81⟩ := getF X80 hx hZ hown (host := "") (Or.inl (H 41 rfl)) Via.refl e80 F80_ra_8 (g := (mkF m 150 #[rv ra, rv rw, iv (2 : Int32), iv (9 : Int32)] [(.ref ra), (.ref ra)])) rfl rfl (D d7_150)
  obtain ⟨T82, X82, e82, st82⟩ := getF X81 hx hZ hown (host := "") (Or.inl (H 37 rfl)) Via.refl e81 F80_ra_3 (g := (mkF m 154 #[rv ra, rv rw, iv (2 : Int32), iv (9 : Int32)] [(.ref ra), (.int (((0 : Int32) + (if ((if (m3 &&& (2 : Int64)) = (0 : Int64) then (0 : Int32) else (1 : Int32)) &&& 1) = (0 : Int32) then (1 : Int32) else (0 : Int32))) + (if ((if (m6 &&& (2 : Int64)) = (0 : Int64) then (0 : Int32) else (1 : Int32)) &&& 1) = (0 : Int32) then (1 : Int32) else (0 : Int32)))), (.ref ra)])) rfl rfl (D d7_154)
  have pre84 : ∀ t, Steps p.tables e below (T82.setTop (mkF m 159 #[rv ra, rv rw, iv (2 : Int32), iv (9 : Int32)] [(.int ((if (m9 &&& (2 : Int64)) = (0 : Int64) then (0 : Int32) else (1 : Int32)) &&& 1)), (.int (((0 : Int32) + (if ((if (m3 &&& (2 : Int64)) = (0 : Int64) then (0 : Int32) else (1 : Int32)) &&& 1) = (0 : Int32) then (1 : Int32) else (0 : Int32))) + (if ((if (m6 &&& (2 : Int64)) = (0 : Int64) then (0 : Int32) else (1 : Int32)) &&& 1) = (0 : Int32) then (1 : Int32) else (0 : Int32)))), (.ref ra)])) t → Steps p.tables e below B0 t := by
    intro t k
    refine pre75 t ?_
    show Steps p.tables e below (T72.setTop (mkF m 125 #[rv ra, rv rw, iv (2 : Int32), iv (9 : Int32)] [(.int (if (m9 &&& (4 : Int64)) = (0 : Int64) then (0 : Int32) else (1 : Int32))), (.int (2 : Int32)), (.ref rt)])) _
    refine st76 _ ?_
    refine XS.aloadN X76.here hx rfl (D d7_126) rfl rfl ?_
    refine st77 _ ?_
    refine XS.iloadN X77.here hx rfl (D d7_130) rfl ?_
    refine XS.aloadN X77.here hx rfl (D d7_131) rfl rfl ?_
    refine XS.iloadN X77.here hx rfl (D d7_132) rfl ?_
    refine XS.iconst X77.here hx rfl (D d7_133) ?_
    refine XS.iadd X77.here hx rfl (D d7_134) rfl ?_
    refine own_laload X77 hx hZ e77 V76_rw (show 0 ≤ Int32.toInt (10 : Int32) ∧ Int32.toInt (10 : Int32) < ((12 : Nat) : Int) by decide) (D d7_135) _ ?_
    refine st78 _ ?_
    refine XS.aloadN X78.here hx rfl (D d7_137) rfl rfl ?_
    refine st79 _ ?_
    refine XS.iloadN X79.here hx rfl (D d7_141) rfl ?_
    refine XS.aloadN X79.here hx rfl (D d7_142) rfl rfl ?_
    refine XS.iloadN X79.here hx rfl (D d7_143) rfl ?_
    refine XS.iconst X79.here hx rfl (D d7_144) ?_
    refine XS.iadd X79.here hx rfl (D d7_145) rfl ?_
    refine own_laload X79 hx hZ e79 V78_rw (show 0 ≤ Int32.toInt (11 : Int32) ∧ Int32.toInt (11 : Int32) < ((12 : Nat) : Int) by decide) (D d7_146) _ ?_
    refine st80 _ ?_
    refine XS.aloadN X80.here hx rfl (D d7_148) rfl rfl ?_
    refine XS.dup X80.here hx rfl (D d7_149) rfl rfl ?_
    refine st81 _ ?_
    refine XS.aloadN X81.here hx rfl (D d7_153) rfl rfl ?_
    refine st82 _ ?_
    refine XS.iloadN X82.here hx rfl (D d7_157) rfl ?_
    refine own_baloadZ X82 hx hZ e82 V80_rg (show 0 ≤ Int32.toInt (2 : Int32) ∧ Int32.toInt (2 : Int32) < ((3 : Nat) : Int) by decide) (D d7_158) _ ?_
    exact k
  clear V71_rw V71_rl V71_rs V71_rr V71_rt A71_ra F71_ra_0 F71_ra_1 F71_ra_2 F71_ra_3 F71_ra_4 F71_ra_5 F71_ra_6 F71_ra_7 F71_ra_8 sz71 K71 N71 V71_n X72 e72 pre74 pre75 X76 e76 W76 V76 st76 V76_rw V76_rl V76_rs V76_rr V76_rg A76_ra F76_ra_0 F76_ra_1 F76_ra_2 F76_ra_3 F76_ra_4 F76_ra_5 F76_ra_6 F76_ra_7 F76_ra_8 sz76 K76 N76 V76_n X77 e77 st77 X78 e78 W78 V78 st78 V78_rw V78_rs V78_rr V78_rg V78_rt A78_ra F78_ra_0 F78_ra_1 F78_ra_2 F78_ra_3 F78_ra_4 F78_ra_5 F78_ra_6 F78_ra_7 F78_ra_8 sz78 K78 N78 V78_n X79 e79 st79 X80 e80 W80 V80 st80 X81 e81 st81 st82
  have pre85 : ∀ t, Steps p.tables e below (T82.setTop (mkF m 167 #[rv ra, rv rw, iv (2 : Int32), iv (9 : Int32)] [(.int (if ((if (m9 &&& (2 : Int64)) = (0 : Int64) then (0 : Int32) else (1 : Int32)) &&& 1) = (0 : Int32) then (1 : Int32) else (0 : Int32))), (.int (((0 : Int32) + (if ((if (m3 &&& (2 : Int64)) = (0 : Int64) then (0 : Int32) else (1 : Int32)) &&& 1) = (0 : Int32) then (1 : Int32) else (0 : Int32))) + (if ((if (m6 &&& (2 : Int64)) = (0 : Int64) then (0 : Int32) else (1 : Int32)) &&& 1) = (0 : Int32) then (1 : Int32) else (0 : Int32)))), (.ref ra)])) t → Steps p.tables e below B0 t := by
    by_cases c83 : ((if (m9 &&& (2 : Int64)) = (0 : Int64) then (0 : Int32) else (1 : Int32)) &&& 1) = (0 : Int32)
    · try simp only [if_pos c83]
      intro t k
      refine pre84 t ?_
      show Steps p.tables e below (T82.setTop (mkF m 159 #[rv ra, rv rw, iv (2 : Int32), iv (9 : Int32)] [(.int ((if (m9 &&& (2 : Int64)) = (0 : Int64) then (0 : Int32) else (1 : Int32)) &&& 1)), (.int (((0 : Int32) + (if ((if (m3 &&& (2 : Int64)) = (0 : Int64) then (0 : Int32) else (1 : Int32)) &&& 1) = (0 : Int32) then (1 : Int32) else (0 : Int32))) + (if ((if (m6 &&& (2 : Int64)) = (0 : Int64) then (0 : Int32) else (1 : Int32)) &&& 1) = (0 : Int32) then (1 : Int32) else (0 : Int32)))), (.ref ra)])) _
      refine XS.ifYes X82.here hx rfl (pc0 := 159) (pc' := 166) rfl (D d7_159) rfl ((if0 _ _).trans (teq c83).1) (by decide) (by decide) ?_
      refine XS.iconst X82.here hx rfl (D d7_166) ?_
      exact k
    · try simp only [if_neg c83]
      intro t k
      refine pre84 t ?_
      show Steps p.tables e below (T82.setTop (mkF m 159 #[rv ra, rv rw, iv (2 : Int32), iv (9 : Int32)] [(.int ((if (m9 &&& (2 : Int64)) = (0 : Int64) then (0 : Int32) else (1 : Int32)) &&& 1)), (.int (((0 : Int32) + (if ((if (m3 &&& (2 : Int64)) = (0 : Int64) then (0 : Int32) else (1 : Int32)) &&& 1) = (0 : Int32) then (1 : Int32) else (0 : Int32))) + (if ((if (m6 &&& (2 : Int64)) = (0 : Int64) then (0 : Int32) else (1 : Int32)) &&& 1) = (0 : Int32) then (1 : Int32) else (0 : Int32)))), (.ref ra)])) _
      refine XS.ifNo X82.here hx rfl (D d7_159) rfl ((if0 _ _).trans (feq c83).1) ?_
      refine XS.iconst X82.here hx rfl (D d7_162) ?_
      show Steps p.tables e below (T82.setTop (mkF m 163 #[rv ra, rv rw, iv (2 : Int32), iv (9 : Int32)] [(.int (0 : Int32)), (.int (((0 : Int32) + (if ((if (m3 &&& (2 : Int64)) = (0 : Int64) then (0 : Int32) else (1 : Int32)) &&& 1) = (0 : Int32) then (1 : Int32) else (0 : Int32))) + (if ((if (m6 &&& (2 : Int64)) = (0 : Int64) then (0 : Int32) else (1 : Int32)) &&& 1) = (0 : Int32) then (1 : Int32) else (0 : Int32)))), (.ref ra)])) _
      refine XS.goto X82.here hx rfl (pc0 := 163) (pc' := 167) rfl (D d7_163) (by decide) (by decide) ?_
      exact k
  obtain ⟨T86, h86, X86, e86, W86, st86⟩ := putF X82 hx hZ hown (host := "") (Or.inl (H 41 rfl)) Via.refl e82 F80_ra_8 A80_ra (Or.inl (H 42 rfl)) (H 13 rfl) (ty := .int) (by decide) rfl rfl (g := (mkF m 168 #[rv ra, rv rw, iv (2 : Int32), iv (9 : Int32)] [(.int ((((0 : Int32) + (if ((if (m3 &&& (2 : Int64)) = (0 : Int64) then (0 : Int32) else (1 : Int32)) &&& 1) = (0 : Int32) then (1 : Int32) else (0 : Int32))) + (if ((if (m6 &&& (2 : Int64)) = (0 : Int64) then (0 : Int32) else (1 : Int32)) &&& 1) = (0 : Int32) then (1 : Int32) else (0 : Int32))) + (if ((if (m9 &&& (2 : Int64)) = (0 : Int64) then (0 : Int32) else (1 : Int32)) &&& 1) = (0 : Int32) then (1 : Int32) else (0 : Int32)))), (.ref ra)])) rfl rfl (D d7_168)
  have V86_rw := V80_rw.other W86 PN5
  have V86_rl := V80_rl.other W86 PN10
  have V86_rs := V80_rs.other W86 PN14
  have V86_rr := V80_n.other W86 PN17
  have V86_rg := V80_rg.other W86 PN19
  have V86_rt := V80_rt.other W86 PN20
  have A86_ra := A80_ra.wr W86
  have F86_ra_0 := F80_ra_0.other W86 (Or.inr (own_sn_88 hw))
  have F86_ra_1 := F80_ra_1.other W86 (Or.inr (own_sn_89 hw))
  have F86_ra_2 := F80_ra_2.other W86 (Or.inr (own_sn_90 hw))
  have F86_ra_3 := F80_ra_3.other W86 (Or.inr (own_sn_91 hw))
  have F86_ra_4 := F80_ra_4.other W86 (Or.inr (own_sn_92 hw))
  have F86_ra_5 := F80_ra_5.other W86 (Or.inr (own_sn_93 hw))
  have F86_ra_6 := F80_ra_6.other W86 (Or.inr (own_sn_94 hw))
  have F86_ra_7 := F80_ra_7.other W86 (Or.inr (own_sn_85 hw))
  have sz86 := Nat.le_trans sz80 (Keep.of_wr W86).1
  have K86 := K80.wr W86 (Or.inl (by simp))
  have N86 := Fr.snoc X86 N80 PG0
  have F86_s : Fld Z h86 ra own_S "open" "I" (.int ((((0 : Int32) + (if ((if (m3 &&& (2 : Int64)) = (0 : Int64) then (0 : Int32) else (1 : Int32)) &&& 1) = (0 : Int32) then (1 : Int32) else (0 : Int32))) + (if ((if (m6 &&& (2 : Int64)) = (0 : Int64) then (0 : Int32) else (1 : Int32)) &&& 1) = (0 : Int32) then (1 : Int32) else (0 : Int32))) + (if ((if (m9 &&& (2 : Int64)) = (0 : Int64) then (0 : Int32) else (1 : Int32)) &&& 1) = (0 : Int32) then (1 : Int32) else (0 : Int32)))) := F80_ra_8.same W86
  obtain ⟨T87, X87, e87, st87⟩ := getF X86 hx hZ hown (host := "") (Or.inl (H 37 rfl)) Via.refl e86 F86_ra_3 (g := (mkF m 46 #[rv ra, rv rw, iv (3 : Int32), iv (9 : Int32)] [(.ref ra), (.int (3 : Int32))])) rfl rfl (D d7_46)
  obtain ⟨fs, hr, hrun, hended, hW, hsame⟩ := X87.leave (v := none) (fun _ => rfl) hlk
  refine ⟨_, _, pre85 _ ?_, hrun, hended, _, _, rfl, ?_, ⟨_, rfl⟩, hW, hsame.mono (by decide) (by decide)⟩
  · show Steps p.tables e below (T82.setTop (mkF m 167 #[rv ra, rv rw, iv (2 : Int32), iv (9 : Int32)] [(.int (if ((if (m9 &&& (2 : Int64)) = (0 : Int64) then (0 : Int32) else (1 : Int32)) &&& 1) = (0 : Int32) then (1 : Int32) else (0 : Int32))), (.int (((0 : Int32) + (if ((if (m3 &&& (2 : Int64)) = (0 : Int64) then (0 : Int32) else (1 : Int32)) &&& 1) = (0 : Int32) then (1 : Int32) else (0 : Int32))) + (if ((if (m6 &&& (2 : Int64)) = (0 : Int64) then (0 : Int32) else (1 : Int32)) &&& 1) = (0 : Int32) then (1 : Int32) else (0 : Int32)))), (.ref ra)])) _
    refine XS.iadd X82.here hx rfl (D d7_167) rfl ?_
    show Steps p.tables e below (T82.setTop (mkF m 168 #[rv ra, rv rw, iv (2 : Int32), iv (9 : Int32)] [(.int ((((0 : Int32) + (if ((if (m3 &&& (2 : Int64)) = (0 : Int64) then (0 : Int32) else (1 : Int32)) &&& 1) = (0 : Int32) then (1 : Int32) else (0 : Int32))) + (if ((if (m6 &&& (2 : Int64)) = (0 : Int64) then (0 : Int32) else (1 : Int32)) &&& 1) = (0 : Int32) then (1 : Int32) else (0 : Int32))) + (if ((if (m9 &&& (2 : Int64)) = (0 : Int64) then (0 : Int32) else (1 : Int32)) &&& 1) = (0 : Int32) then (1 : Int32) else (0 : Int32)))), (.ref ra)])) _
    refine st86 _ ?_
    refine XS.iinc X86.here hx rfl (D d7_171) rfl (l' := #[rv ra, rv rw, iv (3 : Int32), iv (9 : Int32)]) rfl ?_
    refine XS.goto X86.here hx rfl (pc0 := 174) (pc' := 44) rfl (D d7_174) (by decide) (by decide) ?_
    refine XS.iloadN X86.here hx rfl (D d7_44) rfl ?_
    refine XS.aloadN X86.here hx rfl (D d7_45) rfl rfl ?_
    refine st87 _ ?_
    refine own_alenI X87 hx hZ e87 V86_rg (D d7_49) _ ?_
    show Steps p.tables e below (T87.setTop (mkF m 50 #[rv ra, rv rw, iv (3 : Int32), iv (9 : Int32)] [(.int (3 : Int32)), (.int (3 : Int32))])) _
    refine XS.icmpYes X87.here hx rfl (pc0 := 50) (pc' := 177) rfl (D d7_50) rfl (by decide) (by decide) (by decide) ?_
    show Steps p.tables e below (T87.setTop (mkF m 177 #[rv ra, rv rw, iv (3 : Int32), iv (9 : Int32)] [])) _
    exact X87.returnOut hx Bd.returns (D d7_177) hr
  · show Q7_3 Z ra rw rl rs rr rg rt sd lt ll op m0 m1 m2 m3 m4 m5 m6 m7 m8 m9 m10 m11 jl0 jl1 jl2 jr0 jr1 jr2 bs0 bs1 bs2 bg0 bg1 bg2 bt0 bt1 bt2 h0 n0 _ T87.heap _
    rw [e87]
    exact ⟨rfl, N86, K86, A86_ra, F86_ra_0, F86_ra_1, F86_ra_2, F86_ra_3, F86_ra_4, F86_ra_5, F86_ra_6, F86_ra_7, V86_rw, V86_rl, V86_rs, V86_rr, V86_rg, V86_rt⟩
theorem own_atin {i : Int32} {n k : Nat} (hl : n ≤ 100) (e : n = k) (h1 : 0 ≤ i.toInt) (h : i < n.toInt32) : 0 ≤ i.toInt ∧ i.toInt < (k : Nat) := by
  rw [Int32.lt_iff_toInt_lt, len_toInt (by omega)] at h
  subst e
  exact ⟨h1, h⟩
theorem d9_0 : decode method_4_code 0 = .ok (.iload_n 2, 1) := by decide +kernel
theorem d9_1 : decode method_4_code 1 = .ok (.aload_n 0, 1) := by decide +kernel
theorem d9_2 : decode method_4_code 2 = .ok (.arraylength, 1) := by decide +kernel
theorem d9_3 : decode method_4_code 3 = .ok (.if_icmp .ge 13, 3) := by decide +kernel
theorem d9_6 : decode method_4_code 6 = .ok (.aload_n 0, 1) := by decide +kernel
theorem d9_7 : decode method_4_code 7 = .ok (.iload_n 2, 1) := by decide +kernel
theorem d9_8 : decode method_4_code 8 = .ok (.laload, 1) := by decide +kernel
theorem d9_9 : decode method_4_code 9 = .ok (.aload_n 1, 1) := by decide +kernel
theorem d9_10 : decode method_4_code 10 = .ok (.iload_n 2, 1) := by decide +kernel
theorem d9_11 : decode method_4_code 11 = .ok (.laload, 1) := by decide +kernel
theorem d9_12 : decode method_4_code 12 = .ok (.lcmp, 1) := by decide +kernel
theorem d9_13 : decode method_4_code 13 = .ok (.ifCond .ne 7, 3) := by decide +kernel
theorem d9_16 : decode method_4_code 16 = .ok (.iconst 1, 1) := by decide +kernel
theorem d9_17 : decode method_4_code 17 = .ok (.goto 4, 3) := by decide +kernel
theorem d9_20 : decode method_4_code 20 = .ok (.iconst 0, 1) := by decide +kernel
theorem d9_21 : decode method_4_code 21 = .ok (.ireturn, 1) := by decide +kernel
theorem ef_9 (m : MethodId) (rx : Addr) (ry : Addr) (q2 : Int32) : entryFrame m #[(.ref rx), (.ref ry), (.int q2)] 3 = mkF m 0 #[rv rx, rv ry, iv q2] [] := by first | (simp [entryFrame, mkF, argsToLocals, Value.category, maxLocals]; done) | rfl
def own_f9 (q2 : Int32) (xs : List Int64) (ys : List Int64) : Int32 := (if q2 < (xs.length).toInt32 then (if (xs.getD (q2).toInt.toNat 0) = (ys.getD (q2).toInt.toNat 0) then (1 : Int32) else (0 : Int32)) else (1 : Int32))
def Q9 (Z : State) (rx : Addr) (ry : Addr) (q2 : Int32) (xs : List Int64) (ys : List Int64) (h0 : Heap) (n0 : Nat) (v : Option Value) (h : Heap) (L : List Loc) : Prop := v = some (.int (own_f9 q2 xs ys)) ∧ Fr n0 L ∧ h = h0
set_option maxRecDepth 65536 in
set_option maxHeartbeats 40000000 in
theorem rm9 (l : Launch) (Z : State) (a0 : Array Value) (hw : ∀ d ∈ tables_1, d.before a0 Z = true) (ws : List Jvm.Cond) (rx : Addr) (ry : Addr) (q2 : Int32) (xs : List Int64) (ys : List Int64) (h0 : Heap) (n0 : Nat) (Z0 : n0 ≤ h0.size) (PA0 : own_AJ Z h0 rx xs) (PA1 : own_AJ Z h0 ry ys) (hl : xs.length ≤ 100) (he : xs.length = ys.length) (h1 : 0 ≤ (q2).toInt) :
    MetFree l (⟨"com/example/tributary/tributary/io/SilenceMeasuredPinLaw", "at", "([J[JI)Z"⟩ : MethodName) (head1 (Jvm.Cond.code (⟨"com/example/tributary/tributary/io/SilenceMeasuredPinLaw", "at", "([J[JI)Z"⟩ : MethodName) method_4_code 3 (some .boolean) :: ws) ({ frames := 0, cells := 0, slots := 0, locals := 0 } : Room)) (fun a U => a = #[(.ref rx), (.ref ry), (.int q2)] ∧ Z.Warmed39 U.vm ∧ U.heap = h0) (fun _ _ _ _ _ => True) (fun _ U o U' => ∃ v L, o = .returned v ∧ Q9 Z rx ry q2 xs ys h0 n0 v U'.heap L ∧ FrameEnd U o U' L ({ frames := 0, cells := 0, slots := 0, locals := 0 } : Room).cells ({ frames := 0, cells := 0, slots := 0, locals := 0 } : Room).slots) := by
  refine MetFree.of_bodySF (plainFor_of_name pn_2) hisR ?_
  intro p e s m args below meth c s₁ Bd hml0 hP hK
  obtain ⟨rfl, hZ, hh⟩ := hP
  have hx := Bd.exec
  have hby := Bd.bytes
  have hml : c.maxLocals = 3 := hml0
  have hown : s.vm.findClass "com/example/tributary/tributary/io/SilenceMeasuredPinLaw" = some m.cls := findClass_of_methodNamed Bd.named
  have hnm := (name_of_methodNamed Bd.named Bd.method).1
  have X0 : Stand p l e ({ frames := 0, cells := 0, slots := 0, locals := 0 } : Room) s m #[(.ref rx), (.ref ry), (.int q2)] below meth c s₁ [] 0 0 := Stand.of_body Bd
  have hlk : meth.locks = false := by first | exact BodyLoose.notSynchronized (by assumption) | exact Body.notSynchronized (by assumption)
  have e0 : s₁.heap = h0 := by rw [← hh, Bd.state]; rfl
  have N0 := Fr.nil n0
  have pre0 : ∀ t, Steps p.tables e below (s₁.setTop (mkF m 0 #[rv rx, rv ry, iv q2] [])) t → Steps p.tables e below (s₁.setTop (entryFrame m #[(.ref rx), (.ref ry), (.int q2)] 3)) t := fun t k => castTop (ef_9 m rx ry q2) k
  generalize s₁.setTop (entryFrame m #[(.ref rx), (.ref ry), (.int q2)] 3) = B0 at pre0 ⊢
  have H : ∀ (i : Nat) {d : Jvm.Cond}, tables_1[i]? = some d → d.before a0 Z = true := fun i d q => hw d (List.mem_of_getElem? q)
  have D : ∀ {pc : Nat} {r : Except DecodeError (Instr × Nat)}, decode method_4_code pc = r → decode c.code pc = r := fun q => hb hby q
  have pre1 : ∀ t, Steps p.tables e below (s₁.setTop (mkF m 3 #[rv rx, rv ry, iv q2] [(.int (xs.length).toInt32), (.int q2)])) t → Steps p.tables e below B0 t := by
    intro t k
    refine pre0 t ?_
    show Steps p.tables e below (s₁.setTop (mkF m 0 #[rv rx, rv ry, iv q2] [])) _
    refine XS.iloadN X0.here hx rfl (D d9_0) rfl ?_
    refine XS.aloadN X0.here hx rfl (D d9_1) rfl rfl ?_
    refine own_alenJ X0 hx hZ e0 PA0 (D d9_2) _ ?_
    exact k
  by_cases c2 : q2 < (xs.length).toInt32
  · have in_8_3 : 0 ≤ (q2).toInt ∧ (q2).toInt < (xs.length : Nat) := (own_atin hl rfl h1 (by assumption))
    have in_11_4 : 0 ≤ (q2).toInt ∧ (q2).toInt < (ys.length : Nat) := (own_atin hl he h1 (by assumption))
    have pre5 : ∀ t, Steps p.tables e below (s₁.setTop (mkF m 13 #[rv rx, rv ry, iv q2] [(.int (lcmpW (xs.getD (q2).toInt.toNat 0) (ys.getD (q2).toInt.toNat 0)))])) t → Steps p.tables e below B0 t := by
      intro t k
      refine pre1 t ?_
      show Steps p.tables e below (s₁.setTop (mkF m 3 #[rv rx, rv ry, iv q2] [(.int (xs.length).toInt32), (.int q2)])) _
      refine XS.icmpNo X0.here hx rfl (D d9_3) rfl ((tlt c2).2.1) ?_
      refine XS.aloadN X0.here hx rfl (D d9_6) rfl rfl ?_
      refine XS.iloadN X0.here hx rfl (D d9_7) rfl ?_
      refine own_laload X0 hx hZ e0 PA0 in_8_3 (D d9_8) _ ?_
      refine XS.aloadN X0.here hx rfl (D d9_9) rfl rfl ?_
      refine XS.iloadN X0.here hx rfl (D d9_10) rfl ?_
      refine own_laload X0 hx hZ e0 PA1 in_11_4 (D d9_11) _ ?_
      refine XS.lcmp X0.here hx rfl (D d9_12) rfl ?_
      exact k
    clear pre1
    by_cases c6 : (xs.getD (q2).toInt.toNat 0) = (ys.getD (q2).toInt.toNat 0)
    · obtain ⟨fs, hr, hrun, hended, hW, hsame⟩ := X0.leave (v := some (.int (1 : Int32))) (fun h => by rw [Bd.returns] at h; cases h) hlk
      refine ⟨_, _, pre5 _ ?_, hrun, hended, _, _, rfl, ?_, ⟨_, rfl⟩, hW, hsame.mono (by decide) (by decide)⟩
      · show Steps p.tables e below (s₁.setTop (mkF m 13 #[rv rx, rv ry, iv q2] [(.int (lcmpW (xs.getD (q2).toInt.toNat 0) (ys.getD (q2).toInt.toNat 0)))])) _
        refine XS.ifNo X0.here hx rfl (D d9_13) rfl ((if0 _ _).trans (teq ((lw_eq (xs.getD (q2).toInt.toNat 0) (ys.getD (q2).toInt.toNat 0)).mpr c6)).2) ?_
        refine XS.iconst X0.here hx rfl (D d9_16) ?_
        refine XS.goto X0.here hx rfl (pc0 := 17) (pc' := 21) rfl (D d9_17) (by decide) (by decide) ?_
        show Steps p.tables e below (s₁.setTop (mkF m 21 #[rv rx, rv ry, iv q2] [(.int (1 : Int32))])) _
        exact retN X0 hx (t := .boolean) Bd.returns (by simp) (D d9_21) hr
      · show Q9 Z rx ry q2 xs ys h0 n0 _ s₁.heap _
        rw [e0]
        exact ⟨by simp only [own_f9, if_pos c2, if_pos c6], N0, rfl⟩
    · obtain ⟨fs, hr, hrun, hended, hW, hsame⟩ := X0.leave (v := some (.int (0 : Int32))) (fun h => by rw [Bd.returns] at h; cases h) hlk
      refine ⟨_, _, pre5 _ ?_, hrun, hended, _, _, rfl, ?_, ⟨_, rfl⟩, hW, hsame.mono (by decide) (by decide)⟩
      · show Steps p.tables e below (s₁.setTop (mkF m 13 #[rv rx, rv ry, iv q2] [(.int (lcmpW (xs.getD (q2).toInt.toNat 0) (ys.getD (q2).toInt.toNat 0)))])) _
        refine XS.ifYes X0.here hx rfl (pc0 := 13) (pc' := 20) rfl (D d9_13) rfl ((if0 _ _).trans (feq (mt (lw_eq (xs.getD (q2).toInt.toNat 0) (ys.getD (q2).toInt.toNat 0)).mp c6)).2) (by decide) (by decide) ?_
        refine XS.iconst X0.here hx rfl (D d9_20) ?_
        show Steps p.tables e below (s₁.setTop (mkF m 21 #[rv rx, rv ry, iv q2] [(.int (0 : Int32))])) _
        exact retN X0 hx (t := .boolean) Bd.returns (by simp) (D d9_21) hr
      · show Q9 Z rx ry q2 xs ys h0 n0 _ s₁.heap _
        rw [e0]
        exact ⟨by simp only [own_f9, if_pos c2, if_neg c6], N0, rfl⟩
  · obtain ⟨fs, hr, hrun, hended, hW, hsame⟩ := X0.leave (v := some (.int (1 : Int32))) (fun h => by rw [Bd.returns] at h; cases h) hlk
    refine ⟨_, _, pre1 _ ?_, hrun, hended, _, _, rfl, ?_, ⟨_, rfl⟩, hW, hsame.mono (by decide) (by decide)⟩
    · show Steps p.tables e below (s₁.setTop (mkF m 3 #[rv rx, rv ry, iv q2] [(.int (xs.length).toInt32), (.int q2)])) _
      refine XS.icmpYes X0.here hx rfl (pc0 := 3) (pc' := 16) rfl (D d9_3) rfl ((flt c2).2.1) (by decide) (by decide) ?_
      refine XS.iconst X0.here hx rfl (D d9_16) ?_
      refine XS.goto X0.here hx rfl (pc0 := 17) (pc' := 21) rfl (D d9_17) (by decide) (by decide) ?_
      show Steps p.tables e below (s₁.setTop (mkF m 21 #[rv rx, rv ry, iv q2] [(.int (1 : Int32))])) _
      exact retN X0 hx (t := .boolean) Bd.returns (by simp) (D d9_21) hr
    · show Q9 Z rx ry q2 xs ys h0 n0 _ s₁.heap _
      rw [e0]
      exact ⟨by simp only [own_f9, if_neg c2], N0, rfl⟩
theorem own_same (i : Int32) (xs : List Int64) : own_f9 i xs xs = 1 := by
  rw [own_f9, if_pos rfl, ite_self]
theorem own_notz (i : Int32) (xs : List Int64) : ¬ (own_f9 i xs xs = 0) := by rw [own_same]; decide
theorem own_three {x v : Int32} (h : v = 1 + own_f1 (x &&& 3) 2) : v = 1 ∨ v = 2 ∨ v = 3 := by
  have a := own_mask x 3 2 (by decide) (by decide)
  have b : ∃ k : Fin 4, x &&& 3 = Int32.ofNat k.1 := by
    refine ⟨⟨(x &&& 3).toInt.toNat, by omega⟩, ?_⟩
    apply Int32.toInt_inj.mp
    rw [Int32.toInt_ofNat_of_lt (by show (x &&& 3).toInt.toNat < 2 ^ 31; omega)]
    show (x &&& 3).toInt = ((x &&& 3).toInt.toNat : Int)
    omega
  obtain ⟨k, hk⟩ := b
  rw [hk] at h
  have all : ∀ k : Fin 4, 1 + own_f1 (Int32.ofNat k.1) 2 = 1 ∨ 1 + own_f1 (Int32.ofNat k.1) 2 = 2 ∨ 1 + own_f1 (Int32.ofNat k.1) 2 = 3 := by decide +kernel
  rw [h]; exact all k
theorem own_st {x : Int32} {S : Int64} (h : S = (x &&& 1).toInt64) : S = 0 ∨ S = 1 := by
  have a := own_mask x 1 1 (by decide) (by decide)
  have e0 : (0 : Int64).toInt = 0 := by decide
  have e1 : (1 : Int64).toInt = 1 := by decide
  rw [← Int64.toInt_inj, ← Int64.toInt_inj, h, own_i2l, e0, e1]
  omega
theorem own_left {x : Int32} {v L : Int64} {n : Int32} {N : Int64} {k : Int} (hn : n.toInt = k) (hN : N.toInt = k) (hk : 0 ≤ k ∧ k ≤ 10) (h : v = ((x &&& 3) - 1).toInt64) (hL : L = if v < n.toInt64 then v else (-1 : Int64)) : ¬ L < (-1 : Int64) ∧ L < N := by
  have a := own_mask x 3 2 (by decide) (by decide)
  have e1 : (1 : Int32).toInt = 1 := by decide
  have em : (-1 : Int64).toInt = -1 := by decide
  have s := own_isub (x := x &&& 3) (y := 1) (by omega)
  have hv : v.toInt = (x &&& 3).toInt - 1 := by rw [h, own_i2l, s, e1]
  rw [Int64.lt_iff_toInt_lt, Int64.lt_iff_toInt_lt, em, hN, hL]
  by_cases c : v < n.toInt64
  · rw [if_pos c]; rw [Int64.lt_iff_toInt_lt, own_i2l] at c; omega
  · rw [if_neg c, em]; omega
theorem own_left2 {L N : Int64} {k : Int} (hN : N.toInt = k) (hk : k ≤ 10) (h : ¬ L < (-1 : Int64) ∧ L < N) : L.toInt32.toInt64 = L := by
  have em : (-1 : Int64).toInt = -1 := by decide
  rw [Int64.lt_iff_toInt_lt, Int64.lt_iff_toInt_lt, em, hN] at h
  apply Int64.toInt_inj.mp
  rw [own_i2l, own_l2i (by omega)]
theorem own_seven (x : Int32) : ∃ k : Fin 8, (x &&& 7).toInt64 = Int64.ofNat k.1 := by
  have a := own_mask x 7 3 (by decide) (by decide)
  refine ⟨⟨(x &&& 7).toInt.toNat, by omega⟩, ?_⟩
  apply Int64.toInt_inj.mp
  rw [own_i2l, Int64.toInt_ofNat_of_lt (by show (x &&& 7).toInt.toNat < 2 ^ 63; omega)]
  show (x &&& 7).toInt = ((x &&& 7).toInt.toNat : Int)
  omega
def own_good (F S : Int64) : Prop := ¬ F < (0 : Int64) ∧ ¬ (7 : Int64) < F ∧ (if (F &&& (4 : Int64)) = (0 : Int64) then (0 : Int32) else (if (F &&& (2 : Int64)) = (0 : Int64) then (1 : Int32) else (0 : Int32))) = (0 : Int32) ∧ (if (F &&& (1 : Int64)) = (0 : Int64) then (0 : Int32) else (if S = (0 : Int64) then (1 : Int32) else (0 : Int32))) = (0 : Int32)
def own_again (F : Int64) : Int64 := (((if ((if (F &&& (1 : Int64)) = (0 : Int64) then (0 : Int32) else (1 : Int32)) &&& 1) = (0 : Int32) then (0 : Int64) else (1 : Int64)) ||| (if ((if (F &&& (2 : Int64)) = (0 : Int64) then (0 : Int32) else (1 : Int32)) &&& 1) = (0 : Int32) then (0 : Int64) else (2 : Int64))) ||| (if ((if (F &&& (4 : Int64)) = (0 : Int64) then (0 : Int32) else (1 : Int32)) &&& 1) = (0 : Int32) then (0 : Int64) else (4 : Int64)))
instance (F S : Int64) : Decidable (own_good F S) := by unfold own_good; infer_instance
theorem own_all : ∀ k : Fin 8, ∀ b : Bool, ∀ s : Bool, own_good (own_f2 (if b then Int64.ofNat k.1 ||| 6 else Int64.ofNat k.1) (if s then 1 else 0)) (if s then 1 else 0) ∧ own_again (own_f2 (if b then Int64.ofNat k.1 ||| 6 else Int64.ofNat k.1) (if s then 1 else 0)) = own_f2 (if b then Int64.ofNat k.1 ||| 6 else Int64.ofNat k.1) (if s then 1 else 0) ∧ (b = true → ¬ (own_f2 (if b then Int64.ofNat k.1 ||| 6 else Int64.ofNat k.1) (if s then 1 else 0) &&& (4 : Int64)) = 0) := by decide +kernel
theorem own_flag {x : Int32} {g G F S L i : Int64} (hg : g = (x &&& 7).toInt64) (hG : G = if L = i then (g ||| 6) else g) (hF : F = own_f2 G S) (hS : S = 0 ∨ S = 1) : own_good F S ∧ own_again F = F ∧ (L = i → ¬ (F &&& (4 : Int64)) = 0) := by
  obtain ⟨k, hk⟩ := own_seven x
  rw [hk] at hg
  subst hg
  have hs : ∃ s : Bool, S = if s then 1 else 0 := by
    rcases hS with rfl | rfl
    · exact ⟨false, rfl⟩
    · exact ⟨true, rfl⟩
  obtain ⟨s, rfl⟩ := hs
  obtain ⟨a1, a2, -⟩ := own_all k false s
  obtain ⟨b1, b2, b3⟩ := own_all k true s
  by_cases c : L = i
  · rw [if_pos c] at hG
    rw [hF, hG]
    exact ⟨b1, b2, fun _ => b3 rfl⟩
  · rw [if_neg c] at hG
    rw [hF, hG]
    exact ⟨a1, a2, fun q => absurd q c⟩
theorem own_s01 {S : Int64} (h : S = 0 ∨ S = 1) : (if (if S = (1 : Int64) then (1 : Int32) else (0 : Int32)) = (0 : Int32) then (0 : Int64) else (1 : Int64)) = S := by
  rcases h with rfl | rfl <;> decide
theorem own_hl1 {m0 m1 L F0 x0 y0 : Int64} (h : ¬ L < (-1 : Int64) ∧ L < (1 : Int64)) (g0 : L = 0 → ¬ (F0 &&& (4 : Int64)) = 0) : ¬ L < (0 : Int64) → ¬ ((([m0, m1, L, F0, x0, y0] : List Int64).getD (((3 : Int32) + ((3 : Int32) * (L).toInt32))).toInt.toNat 0) &&& (4 : Int64)) = (0 : Int64) := by
  intro h0
  have e0 : (0 : Int64).toInt = 0 := by decide
  have en : (1 : Int64).toInt = 1 := by decide
  have hc : L = 0 := by
    rw [Int64.lt_iff_toInt_lt, e0] at h0
    have h2 := h.2
    rw [Int64.lt_iff_toInt_lt, en] at h2
    simp only [← Int64.toInt_inj]
    have e1 : (1 : Int64).toInt = 1 := by decide
    have e2 : (2 : Int64).toInt = 2 := by decide
    omega
  rcases hc with hc
  · have q := g0 hc
    subst hc
    exact q
theorem own_hl2 {m0 m1 L F0 F1 x0 x1 y0 y1 : Int64} (h : ¬ L < (-1 : Int64) ∧ L < (2 : Int64)) (g0 : L = 0 → ¬ (F0 &&& (4 : Int64)) = 0) (g1 : L = 1 → ¬ (F1 &&& (4 : Int64)) = 0) : ¬ L < (0 : Int64) → ¬ ((([m0, m1, L, F0, x0, y0, F1, x1, y1] : List Int64).getD (((3 : Int32) + ((3 : Int32) * (L).toInt32))).toInt.toNat 0) &&& (4 : Int64)) = (0 : Int64) := by
  intro h0
  have e0 : (0 : Int64).toInt = 0 := by decide
  have en : (2 : Int64).toInt = 2 := by decide
  have hc : L = 0 ∨ L = 1 := by
    rw [Int64.lt_iff_toInt_lt, e0] at h0
    have h2 := h.2
    rw [Int64.lt_iff_toInt_lt, en] at h2
    simp only [← Int64.toInt_inj]
    have e1 : (1 : Int64).toInt = 1 := by decide
    have e2 : (2 : Int64).toInt = 2 := by decide
    omega
  rcases hc with hc | hc
  · have q := g0 hc
    subst hc
    exact q
  · have q := g1 hc
    subst hc
    exact q
theorem own_hl3 {m0 m1 L F0 F1 F2 x0 x1 x2 y0 y1 y2 : Int64} (h : ¬ L < (-1 : Int64) ∧ L < (3 : Int64)) (g0 : L = 0 → ¬ (F0 &&& (4 : Int64)) = 0) (g1 : L = 1 → ¬ (F1 &&& (4 : Int64)) = 0) (g2 : L = 2 → ¬ (F2 &&& (4 : Int64)) = 0) : ¬ L < (0 : Int64) → ¬ ((([m0, m1, L, F0, x0, y0, F1, x1, y1, F2, x2, y2] : List Int64).getD (((3 : Int32) + ((3 : Int32) * (L).toInt32))).toInt.toNat 0) &&& (4 : Int64)) = (0 : Int64) := by
  intro h0
  have e0 : (0 : Int64).toInt = 0 := by decide
  have en : (3 : Int64).toInt = 3 := by decide
  have hc : L = 0 ∨ L = 1 ∨ L = 2 := by
    rw [Int64.lt_iff_toInt_lt, e0] at h0
    have h2 := h.2
    rw [Int64.lt_iff_toInt_lt, en] at h2
    simp only [← Int64.toInt_inj]
    have e1 : (1 : Int64).toInt = 1 := by decide
    have e2 : (2 : Int64).toInt = 2 := by decide
    omega
  rcases hc with hc | hc | hc
  · have q := g0 hc
    subst hc
    exact q
  · have q := g1 hc
    subst hc
    exact q
  · have q := g2 hc
    subst hc
    exact q
theorem ef_0 (m : MethodId) (q0 : Int32) (q1 : Int64) (q2 : Int64) (q3 : Int64) (q4 : Int64) (q5 : Int64) : entryFrame m #[(.int q0), (.long q1), (.long q2), (.long q3), (.long q4), (.long q5)] maxLocals = mkF m 0 #[iv q0, jv q1, s2, jv q2, s2, jv q3, s2, jv q4, s2, jv q5, s2, u0, u0, u0, u0, u0, u0, u0, u0, u0, u0, u0, u0, u0, u0, u0, u0, u0] [] := by first | (simp [entryFrame, mkF, argsToLocals, Value.category, maxLocals]; done) | rfl
theorem pd_118 : parseMethodDescriptor "(II)I" = some ⟨[.int, .int], some .int⟩ := by decide +kernel
theorem pd_119 : parseMethodDescriptor "(JJ)J" = some ⟨[.long, .long], some .long⟩ := by decide +kernel
theorem pd_120 : parseMethodDescriptor "(IJ)V" = some ⟨[.int, .long], none⟩ := by decide +kernel
theorem pd_121 : parseMethodDescriptor "()[J" = some ⟨[], some (.array .long)⟩ := by decide +kernel
theorem pd_122 : parseMethodDescriptor "([J[JI)Z" = some ⟨[(.array .long), (.array .long), .int], some .boolean⟩ := by decide +kernel
def own_f0 (q0 : Int32) (q1 : Int64) (q2 : Int64) (q3 : Int64) (q4 : Int64) (q5 : Int64) : Int32 := let v2 := ((1 : Int32) + (own_f1 ((((q0).toUInt32 >>> ((12 : Int32) &&& 31).toUInt32).toInt32 &&& (3 : Int32))) ((2 : Int32))))
  let v4 := ((q0 &&& (1 : Int32))).toInt64
  let v6 := ((((q0).toUInt32 >>> ((1 : Int32) &&& 31).toUInt32).toInt32 &&& (7 : Int32))).toInt64
  let v8 := ((((q0).toUInt32 >>> ((4 : Int32) &&& 31).toUInt32).toInt32 &&& (7 : Int32))).toInt64
  let v10 := ((((q0).toUInt32 >>> ((7 : Int32) &&& 31).toUInt32).toInt32 &&& (7 : Int32))).toInt64
  let v12 := (((((q0).toUInt32 >>> ((10 : Int32) &&& 31).toUInt32).toInt32 &&& (3 : Int32)) - (1 : Int32))).toInt64
  let v17 := (if v12 < (v2).toInt64 then v12 else (-1 : Int64))
  let v22 := (if v17 = (0 : Int64) then (v6 ||| (6 : Int64)) else v6)
  let v27 := (if v17 = (1 : Int64) then (v8 ||| (6 : Int64)) else v8)
  let v32 := (if v17 = (2 : Int64) then (v10 ||| (6 : Int64)) else v10)
  let v35 := (own_f2 v22 v4)
  let v38 := (own_f2 v27 v4)
  let v41 := (own_f2 v32 v4)
  (if v2 = (1 : Int32) then (1 : Int32) else (if v2 = (2 : Int32) then (1 : Int32) else (1 : Int32)))
def Q0 (Z : State) (q0 : Int32) (q1 : Int64) (q2 : Int64) (q3 : Int64) (q4 : Int64) (q5 : Int64)  (h0 : Heap) (n0 : Nat) (v : Option Value) (h : Heap) (L : List Loc) : Prop := v = some (.int (own_f0 q0 q1 q2 q3 q4 q5)) ∧ Fr n0 L
set_option maxRecDepth 65536 in
set_option maxHeartbeats 40000000 in
theorem rm0 (l : Launch) (Z : State) (a0 : Array Value) (hw : ∀ d ∈ tables_1, d.before a0 Z = true) (ws : List Jvm.Cond) (q0 : Int32) (q1 : Int64) (q2 : Int64) (q3 : Int64) (q4 : Int64) (q5 : Int64)  (h0 : Heap) (n0 : Nat) (Z0 : n0 ≤ h0.size)  :
    MetFree l x (head1 (Jvm.Cond.code x code maxLocals ret :: ws) room_1) (fun a U => a = #[(.int q0), (.long q1), (.long q2), (.long q3), (.long q4), (.long q5)] ∧ Z.Warmed39 U.vm ∧ U.heap = h0) (fun _ _ _ _ _ => True) (fun _ U o U' => ∃ v L, o = .returned v ∧ Q0 Z q0 q1 q2 q3 q4 q5 h0 n0 v U'.heap L ∧ FrameEnd U o U' L room_1.cells room_1.slots) := by
  refine MetFree.of_bodySF (plainFor_of_name pn_2) hisR ?_
  intro p e s m args below meth c s₁ Bd hml0 hP hK
  obtain ⟨rfl, hZ, hh⟩ := hP
  have hx := Bd.exec
  have hby := Bd.bytes
  have hml : c.maxLocals = 28 := hml0
  have hown : s.vm.findClass "com/example/tributary/tributary/io/SilenceMeasuredPinLaw" = some m.cls := findClass_of_methodNamed Bd.named
  have hnm := (name_of_methodNamed Bd.named Bd.method).1
  have X0 : Stand p l e room_1 s m #[(.int q0), (.long q1), (.long q2), (.long q3), (.long q4), (.long q5)] below meth c s₁ [] 0 0 := Stand.of_body Bd
  have hlk : meth.locks = false := by first | exact BodyLoose.notSynchronized (by assumption) | exact Body.notSynchronized (by assumption)
  have e0 : s₁.heap = h0 := by rw [← hh, Bd.state]; rfl
  have N0 := Fr.nil n0
  have pre0 : ∀ t, Steps p.tables e below (s₁.setTop (mkF m 0 #[iv q0, jv q1, s2, jv q2, s2, jv q3, s2, jv q4, s2, jv q5, s2, u0, u0, u0, u0, u0, u0, u0, u0, u0, u0, u0, u0, u0, u0, u0, u0, u0] [])) t → Steps p.tables e below (s₁.setTop (entryFrame m #[(.int q0), (.long q1), (.long q2), (.long q3), (.long q4), (.long q5)] maxLocals)) t := fun t k => castTop (ef_0 m q0 q1 q2 q3 q4 q5) k
  generalize s₁.setTop (entryFrame m #[(.int q0), (.long q1), (.long q2), (.long q3), (.long q4), (.long q5)] maxLocals) = B0 at pre0 ⊢
  have H : ∀ (i : Nat) {d : Jvm.Cond}, tables_1[i]? = some d → d.before a0 Z = true := fun i d q => hw d (List.mem_of_getElem? q)
  have D : ∀ {pc : Nat} {r : Except DecodeError (Instr × Nat)}, decode code pc = r → decode c.code pc = r := fun q => hb hby q
  obtain ⟨_, _, ⟨T1, L1, k1, n1⟩, -, X1, ⟨Lc1, hQ1, l1, y1, z1⟩, st1⟩ := Jvm.LawKit.callS X0 hx (y := (⟨"java/lang/Math", "min", "(II)I"⟩ : MethodName)) hown (mvT hZ (H 0 rfl)) (mvT hZ (H 1 rfl)) (mvT hZ (H 2 rfl)) (mvT hZ (H 3 rfl)) (by decide) (backOf (W := 1) (rm1 l Z a0 hw [] (((q0).toUInt32 >>> ((12 : Int32) &&& 31).toUInt32).toInt32 &&& (3 : Int32)) (2 : Int32)  h0 n0 Z0 ) hZ (H 3 rfl) (H 2 rfl) (by decide) (by decide)) (g := (mkF m 8 #[iv q0, jv q1, s2, jv q2, s2, jv q3, s2, jv q4, s2, jv q5, s2, u0, u0, u0, u0, u0, u0, u0, u0, u0, u0, u0, u0, u0, u0, u0, u0, u0] [(.int (2 : Int32)), (.int (((q0).toUInt32 >>> ((12 : Int32) &&& 31).toUInt32).toInt32 &&& (3 : Int32))), (.int (1 : Int32))])) rfl (by rw [hml]; rfl) (argsL := [(.int (((q0).toUInt32 >>> ((12 : Int32) &&& 31).toUInt32).toInt32 &&& (3 : Int32))), (.int (2 : Int32))]) (rest := [(.int (1 : Int32))]) (lenOf pd_118 rfl) rfl (by show 2 * 0 + _ ≤ _; exact Nat.le_of_eq rfl) (D at_8) (fun _ _ => ⟨rfl, e0, (by decide : 0 + 0 ≤ _), (by decide : 0 + 0 ≤ _)⟩)
  dsimp only [Pt.U, Pt.locs, Pt.cells, Pt.slots] at X1 l1 y1 z1 st1 hQ1
  replace y1 : k1 = 0 := y1
  replace z1 : n1 = 0 := z1
  replace l1 := l1.symm; replace y1 := y1.symm; replace z1 := z1.symm; subst l1 y1 z1
  obtain ⟨rfl, N1q, e1⟩ := hQ1
  have N1 := Fr.app N0 N1q
  obtain ⟨v2, hv2⟩ : ∃ z : Int32, z = ((1 : Int32) + (own_f1 ((((q0).toUInt32 >>> ((12 : Int32) &&& 31).toUInt32).toInt32 &&& (3 : Int32))) ((2 : Int32)))) := ⟨_, rfl⟩
  have pre3 : ∀ t, Steps p.tables e below (T1.setTop (mkF m 12 #[iv q0, jv q1, s2, jv q2, s2, jv q3, s2, jv q4, s2, jv q5, s2, u0, u0, u0, u0, u0, u0, u0, u0, u0, u0, u0, u0, u0, u0, u0, u0, u0] [(.int v2)])) t → Steps p.tables e below B0 t := by
    rw [hv2]
    intro t k
    refine pre0 t ?_
    show Steps p.tables e below (s₁.setTop (mkF m 0 #[iv q0, jv q1, s2, jv q2, s2, jv q3, s2, jv q4, s2, jv q5, s2, u0, u0, u0, u0, u0, u0, u0, u0, u0, u0, u0, u0, u0, u0, u0, u0, u0] [])) _
    refine XS.iconst X0.here hx rfl (D at_0) ?_
    refine XS.iloadN X0.here hx rfl (D at_1) rfl ?_
    refine XS.bipush X0.here hx rfl (D at_2) ?_
    refine XS.iushr X0.here hx rfl (D at_4) rfl ?_
    refine XS.iconst X0.here hx rfl (D at_5) ?_
    refine XS.iand X0.here hx rfl (D at_6) rfl ?_
    refine XS.iconst X0.here hx rfl (D at_7) ?_
    refine st1 _ ?_
    refine XS.iadd X1.here hx rfl (D at_11) rfl ?_
    exact k
  obtain ⟨v4, hv4⟩ : ∃ z : Int64, z = ((q0 &&& (1 : Int32))).toInt64 := ⟨_, rfl⟩
  have pre5 : ∀ t, Steps p.tables e below (T1.setTop (mkF m 18 #[iv q0, jv q1, s2, jv q2, s2, jv q3, s2, jv q4, s2, jv q5, s2, iv v2, u0, u0, u0, u0, u0, u0, u0, u0, u0, u0, u0, u0, u0, u0, u0, u0] [(.long v4)])) t → Steps p.tables e below B0 t := by
    rw [hv4]
    intro t k
    refine pre3 t ?_
    show Steps p.tables e below (T1.setTop (mkF m 12 #[iv q0, jv q1, s2, jv q2, s2, jv q3, s2, jv q4, s2, jv q5, s2, u0, u0, u0, u0, u0, u0, u0, u0, u0, u0, u0, u0, u0, u0, u0, u0, u0] [(.int v2)])) _
    refine XS.istore X1.here hx rfl (D at_12) rfl (l' := #[iv q0, jv q1, s2, jv q2, s2, jv q3, s2, jv q4, s2, jv q5, s2, iv v2, u0, u0, u0, u0, u0, u0, u0, u0, u0, u0, u0, u0, u0, u0, u0, u0]) rfl ?_
    refine XS.iloadN X1.here hx rfl (D at_14) rfl ?_
    refine XS.iconst X1.here hx rfl (D at_15) ?_
    refine XS.iand X1.here hx rfl (D at_16) rfl ?_
    refine XS.i2l X1.here hx rfl (D at_17) rfl ?_
    exact k
  obtain ⟨v6, hv6⟩ : ∃ z : Int64, z = ((((q0).toUInt32 >>> ((1 : Int32) &&& 31).toUInt32).toInt32 &&& (7 : Int32))).toInt64 := ⟨_, rfl⟩
  have pre7 : ∀ t, Steps p.tables e below (T1.setTop (mkF m 27 #[iv q0, jv q1, s2, jv q2, s2, jv q3, s2, jv q4, s2, jv q5, s2, iv v2, jv v4, s2, u0, u0, u0, u0, u0, u0, u0, u0, u0, u0, u0, u0, u0, u0] [(.long v6)])) t → Steps p.tables e below B0 t := by
    rw [hv6]
    intro t k
    refine pre5 t ?_
    show Steps p.tables e below (T1.setTop (mkF m 18 #[iv q0, jv q1, s2, jv q2, s2, jv q3, s2, jv q4, s2, jv q5, s2, iv v2, u0, u0, u0, u0, u0, u0, u0, u0, u0, u0, u0, u0, u0, u0, u0, u0] [(.long v4)])) _
    refine XS.lstore X1.here hx rfl (D at_18) rfl (l' := #[iv q0, jv q1, s2, jv q2, s2, jv q3, s2, jv q4, s2, jv q5, s2, iv v2, jv v4, s2, u0, u0, u0, u0, u0, u0, u0, u0, u0, u0, u0, u0, u0, u0]) rfl ?_
    refine XS.iloadN X1.here hx rfl (D at_20) rfl ?_
    refine XS.iconst X1.here hx rfl (D at_21) ?_
    refine XS.iushr X1.here hx rfl (D at_22) rfl ?_
    refine XS.bipush X1.here hx rfl (D at_23) ?_
    refine XS.iand X1.here hx rfl (D at_25) rfl ?_
    refine XS.i2l X1.here hx rfl (D at_26) rfl ?_
    exact k
  obtain ⟨v8, hv8⟩ : ∃ z : Int64, z = ((((q0).toUInt32 >>> ((4 : Int32) &&& 31).toUInt32).toInt32 &&& (7 : Int32))).toInt64 := ⟨_, rfl⟩
  have pre9 : ∀ t, Steps p.tables e below (T1.setTop (mkF m 36 #[iv q0, jv q1, s2, jv q2, s2, jv q3, s2, jv q4, s2, jv q5, s2, iv v2, jv v4, s2, jv v6, s2, u0, u0, u0, u0, u0, u0, u0, u0, u0, u0, u0, u0] [(.long v8)])) t → Steps p.tables e below B0 t := by
    rw [hv8]
    intro t k
    refine pre7 t ?_
    show Steps p.tables e below (T1.setTop (mkF m 27 #[iv q0, jv q1, s2, jv q2, s2, jv q3, s2, jv q4, s2, jv q5, s2, iv v2, jv v4, s2, u0, u0, u0, u0, u0, u0, u0, u0, u0, u0, u0, u0, u0, u0] [(.long v6)])) _
    refine XS.lstore X1.here hx rfl (D at_27) rfl (l' := #[iv q0, jv q1, s2, jv q2, s2, jv q3, s2, jv q4, s2, jv q5, s2, iv v2, jv v4, s2, jv v6, s2, u0, u0, u0, u0, u0, u0, u0, u0, u0, u0, u0, u0]) rfl ?_
    refine XS.iloadN X1.here hx rfl (D at_29) rfl ?_
    refine XS.iconst X1.here hx rfl (D at_30) ?_
    refine XS.iushr X1.here hx rfl (D at_31) rfl ?_
    refine XS.bipush X1.here hx rfl (D at_32) ?_
    refine XS.iand X1.here hx rfl (D at_34) rfl ?_
    refine XS.i2l X1.here hx rfl (D at_35) rfl ?_
    exact k
  obtain ⟨v10, hv10⟩ : ∃ z : Int64, z = ((((q0).toUInt32 >>> ((7 : Int32) &&& 31).toUInt32).toInt32 &&& (7 : Int32))).toInt64 := ⟨_, rfl⟩
  have pre11 : ∀ t, Steps p.tables e below (T1.setTop (mkF m 46 #[iv q0, jv q1, s2, jv q2, s2, jv q3, s2, jv q4, s2, jv q5, s2, iv v2, jv v4, s2, jv v6, s2, jv v8, s2, u0, u0, u0, u0, u0, u0, u0, u0, u0, u0] [(.long v10)])) t → Steps p.tables e below B0 t := by
    rw [hv10]
    intro t k
    refine pre9 t ?_
    show Steps p.tables e below (T1.setTop (mkF m 36 #[iv q0, jv q1, s2, jv q2, s2, jv q3, s2, jv q4, s2, jv q5, s2, iv v2, jv v4, s2, jv v6, s2, u0, u0, u0, u0, u0, u0, u0, u0, u0, u0, u0, u0] [(.long v8)])) _
    refine XS.lstore X1.here hx rfl (D at_36) rfl (l' := #[iv q0, jv q1, s2, jv q2, s2, jv q3, s2, jv q4, s2, jv q5, s2, iv v2, jv v4, s2, jv v6, s2, jv v8, s2, u0, u0, u0, u0, u0, u0, u0, u0, u0, u0]) rfl ?_
    refine XS.iloadN X1.here hx rfl (D at_38) rfl ?_
    refine XS.bipush X1.here hx rfl (D at_39) ?_
    refine XS.iushr X1.here hx rfl (D at_41) rfl ?_
    refine XS.bipush X1.here hx rfl (D at_42) ?_
    refine XS.iand X1.here hx rfl (D at_44) rfl ?_
    refine XS.i2l X1.here hx rfl (D at_45) rfl ?_
    exact k
  obtain ⟨v12, hv12⟩ : ∃ z : Int64, z = (((((q0).toUInt32 >>> ((10 : Int32) &&& 31).toUInt32).toInt32 &&& (3 : Int32)) - (1 : Int32))).toInt64 := ⟨_, rfl⟩
  have pre13 : ∀ t, Steps p.tables e below (T1.setTop (mkF m 57 #[iv q0, jv q1, s2, jv q2, s2, jv q3, s2, jv q4, s2, jv q5, s2, iv v2, jv v4, s2, jv v6, s2, jv v8, s2, jv v10, s2, u0, u0, u0, u0, u0, u0, u0, u0] [(.long v12)])) t → Steps p.tables e below B0 t := by
    rw [hv12]
    intro t k
    refine pre11 t ?_
    show Steps p.tables e below (T1.setTop (mkF m 46 #[iv q0, jv q1, s2, jv q2, s2, jv q3, s2, jv q4, s2, jv q5, s2, iv v2, jv v4, s2, jv v6, s2, jv v8, s2, u0, u0, u0, u0, u0, u0, u0, u0, u0, u0] [(.long v10)])) _
    refine XS.lstore X1.here hx rfl (D at_46) rfl (l' := #[iv q0, jv q1, s2, jv q2, s2, jv q3, s2, jv q4, s2, jv q5, s2, iv v2, jv v4, s2, jv v6, s2, jv v8, s2, jv v10, s2, u0, u0, u0, u0, u0, u0, u0, u0]) rfl ?_
    refine XS.iloadN X1.here hx rfl (D at_48) rfl ?_
    refine XS.bipush X1.here hx rfl (D at_49) ?_
    refine XS.iushr X1.here hx rfl (D at_51) rfl ?_
    show Steps p.tables e below (T1.setTop (mkF m 52 #[iv q0, jv q1, s2, jv q2, s2, jv q3, s2, jv q4, s2, jv q5, s2, iv v2, jv v4, s2, jv v6, s2, jv v8, s2, jv v10, s2, u0, u0, u0, u0, u0, u0, u0, u0] [(.int ((q0).toUInt32 >>> ((10 : Int32) &&& 31).toUInt32).toInt32)])) _
    refine XS.iconst X1.here hx rfl (D at_52) ?_
    refine XS.iand X1.here hx rfl (D at_53) rfl ?_
    refine XS.iconst X1.here hx rfl (D at_54) ?_
    refine XS.isub X1.here hx rfl (D at_55) rfl ?_
    refine XS.i2l X1.here hx rfl (D at_56) rfl ?_
    exact k
  have pre15 : ∀ t, Steps p.tables e below (T1.setTop (mkF m 65 #[iv q0, jv q1, s2, jv q2, s2, jv q3, s2, jv q4, s2, jv q5, s2, iv v2, jv v4, s2, jv v6, s2, jv v8, s2, jv v10, s2, jv v12, s2, u0, u0, u0, u0, u0, u0] [(.int (lcmpW v12 (v2).toInt64))])) t → Steps p.tables e below B0 t := by
    intro t k
    refine pre13 t ?_
    show Steps p.tables e below (T1.setTop (mkF m 57 #[iv q0, jv q1, s2, jv q2, s2, jv q3, s2, jv q4, s2, jv q5, s2, iv v2, jv v4, s2, jv v6, s2, jv v8, s2, jv v10, s2, u0, u0, u0, u0, u0, u0, u0, u0] [(.long v12)])) _
    refine XS.lstore X1.here hx rfl (D at_57) rfl (l' := #[iv q0, jv q1, s2, jv q2, s2, jv q3, s2, jv q4, s2, jv q5, s2, iv v2, jv v4, s2, jv v6, s2, jv v8, s2, jv v10, s2, jv v12, s2, u0, u0, u0, u0, u0, u0]) rfl ?_
    refine XS.lload X1.here hx rfl (D at_59) rfl ?_
    refine XS.iload X1.here hx rfl (D at_61) rfl ?_
    refine XS.i2l X1.here hx rfl (D at_63) rfl ?_
    refine XS.lcmp X1.here hx rfl (D at_64) rfl ?_
    exact k
  clear st1 N1q pre3 pre5 pre7 pre9 pre11 pre13
  have pre16 : ∀ t, Steps p.tables e below (T1.setTop (mkF m 73 #[iv q0, jv q1, s2, jv q2, s2, jv q3, s2, jv q4, s2, jv q5, s2, iv v2, jv v4, s2, jv v6, s2, jv v8, s2, jv v10, s2, jv (if v12 < (v2).toInt64 then v12 else (-1 : Int64)), s2, u0, u0, u0, u0, u0, u0] [])) t → Steps p.tables e below B0 t := by
    by_cases c14 : v12 < (v2).toInt64
    · try simp only [if_pos c14]
      intro t k
      refine pre15 t ?_
      show Steps p.tables e below (T1.setTop (mkF m 65 #[iv q0, jv q1, s2, jv q2, s2, jv q3, s2, jv q4, s2, jv q5, s2, iv v2, jv v4, s2, jv v6, s2, jv v8, s2, jv v10, s2, jv v12, s2, u0, u0, u0, u0, u0, u0] [(.int (lcmpW v12 (v2).toInt64))])) _
      refine XS.ifYes X1.here hx rfl (pc0 := 65) (pc' := 73) rfl (D at_65) rfl ((if0 _ _).trans (tlt ((lw_lt v12 (v2).toInt64).mpr c14)).1) (by decide) (by decide) ?_
      exact k
    · try simp only [if_neg c14]
      intro t k
      refine pre15 t ?_
      show Steps p.tables e below (T1.setTop (mkF m 65 #[iv q0, jv q1, s2, jv q2, s2, jv q3, s2, jv q4, s2, jv q5, s2, iv v2, jv v4, s2, jv v6, s2, jv v8, s2, jv v10, s2, jv v12, s2, u0, u0, u0, u0, u0, u0] [(.int (lcmpW v12 (v2).toInt64))])) _
      refine XS.ifNo X1.here hx rfl (D at_65) rfl ((if0 _ _).trans (flt (mt (lw_lt v12 (v2).toInt64).mp c14)).1) ?_
      refine X1.ldc2Long hx hown (mvT hZ (H 52 rfl)) (g := (mkF m 68 #[iv q0, jv q1, s2, jv q2, s2, jv q3, s2, jv q4, s2, jv q5, s2, iv v2, jv v4, s2, jv v6, s2, jv v8, s2, jv v10, s2, jv v12, s2, u0, u0, u0, u0, u0, u0] [])) rfl (D at_68) _ ?_
      refine XS.lstore X1.here hx rfl (D at_71) rfl (l' := #[iv q0, jv q1, s2, jv q2, s2, jv q3, s2, jv q4, s2, jv q5, s2, iv v2, jv v4, s2, jv v6, s2, jv v8, s2, jv v10, s2, jv (-1 : Int64), s2, u0, u0, u0, u0, u0, u0]) rfl ?_
      exact k
  obtain ⟨v17, hv17⟩ : ∃ z : Int64, z = (if v12 < (v2).toInt64 then v12 else (-1 : Int64)) := ⟨_, rfl⟩
  have pre18 : ∀ t, Steps p.tables e below (T1.setTop (mkF m 73 #[iv q0, jv q1, s2, jv q2, s2, jv q3, s2, jv q4, s2, jv q5, s2, iv v2, jv v4, s2, jv v6, s2, jv v8, s2, jv v10, s2, jv v17, s2, u0, u0, u0, u0, u0, u0] [])) t → Steps p.tables e below B0 t := by
    rw [hv17]
    exact pre16
  have pre20 : ∀ t, Steps p.tables e below (T1.setTop (mkF m 77 #[iv q0, jv q1, s2, jv q2, s2, jv q3, s2, jv q4, s2, jv q5, s2, iv v2, jv v4, s2, jv v6, s2, jv v8, s2, jv v10, s2, jv v17, s2, u0, u0, u0, u0, u0, u0] [(.int (lcmpW v17 (0 : Int64)))])) t → Steps p.tables e below B0 t := by
    intro t k
    refine pre18 t ?_
    show Steps p.tables e below (T1.setTop (mkF m 73 #[iv q0, jv q1, s2, jv q2, s2, jv q3, s2, jv q4, s2, jv q5, s2, iv v2, jv v4, s2, jv v6, s2, jv v8, s2, jv v10, s2, jv v17, s2, u0, u0, u0, u0, u0, u0] [])) _
    refine XS.lload X1.here hx rfl (D at_73) rfl ?_
    refine XS.lconst X1.here hx rfl (D at_75) ?_
    refine XS.lcmp X1.here hx rfl (D at_76) rfl ?_
    exact k
  clear pre15 pre16 pre18
  have pre21 : ∀ t, Steps p.tables e below (T1.setTop (mkF m 88 #[iv q0, jv q1, s2, jv q2, s2, jv q3, s2, jv q4, s2, jv q5, s2, iv v2, jv v4, s2, jv (if v17 = (0 : Int64) then (v6 ||| (6 : Int64)) else v6), s2, jv v8, s2, jv v10, s2, jv v17, s2, u0, u0, u0, u0, u0, u0] [])) t → Steps p.tables e below B0 t := by
    by_cases c19 : v17 = (0 : Int64)
    · try simp only [if_pos c19]
      intro t k
      refine pre20 t ?_
      show Steps p.tables e below (T1.setTop (mkF m 77 #[iv q0, jv q1, s2, jv q2, s2, jv q3, s2, jv q4, s2, jv q5, s2, iv v2, jv v4, s2, jv v6, s2, jv v8, s2, jv v10, s2, jv v17, s2, u0, u0, u0, u0, u0, u0] [(.int (lcmpW v17 (0 : Int64)))])) _
      refine XS.ifNo X1.here hx rfl (D at_77) rfl ((if0 _ _).trans (teq ((lw_eq v17 (0 : Int64)).mpr c19)).2) ?_
      refine XS.lload X1.here hx rfl (D at_80) rfl ?_
      refine X1.ldc2Long hx hown (mvT hZ (H 69 rfl)) (g := (mkF m 82 #[iv q0, jv q1, s2, jv q2, s2, jv q3, s2, jv q4, s2, jv q5, s2, iv v2, jv v4, s2, jv v6, s2, jv v8, s2, jv v10, s2, jv v17, s2, u0, u0, u0, u0, u0, u0] [(.long v6)])) rfl (D at_82) _ ?_
      refine XS.lor X1.here hx rfl (D at_85) rfl ?_
      refine XS.lstore X1.here hx rfl (D at_86) rfl (l' := #[iv q0, jv q1, s2, jv q2, s2, jv q3, s2, jv q4, s2, jv q5, s2, iv v2, jv v4, s2, jv (v6 ||| (6 : Int64)), s2, jv v8, s2, jv v10, s2, jv v17, s2, u0, u0, u0, u0, u0, u0]) rfl ?_
      exact k
    · try simp only [if_neg c19]
      intro t k
      refine pre20 t ?_
      show Steps p.tables e below (T1.setTop (mkF m 77 #[iv q0, jv q1, s2, jv q2, s2, jv q3, s2, jv q4, s2, jv q5, s2, iv v2, jv v4, s2, jv v6, s2, jv v8, s2, jv v10, s2, jv v17, s2, u0, u0, u0, u0, u0, u0] [(.int (lcmpW v17 (0 : Int64)))])) _
      refine XS.ifYes X1.here hx rfl (pc0 := 77) (pc' := 88) rfl (D at_77) rfl ((if0 _ _).trans (feq (mt (lw_eq v17 (0 : Int64)).mp c19)).2) (by decide) (by decide) ?_
      exact k
  obtain ⟨v22, hv22⟩ : ∃ z : Int64, z = (if v17 = (0 : Int64) then (v6 ||| (6 : Int64)) else v6) := ⟨_, rfl⟩
  have pre23 : ∀ t, Steps p.tables e below (T1.setTop (mkF m 88 #[iv q0, jv q1, s2, jv q2, s2, jv q3, s2, jv q4, s2, jv q5, s2, iv v2, jv v4, s2, jv v22, s2, jv v8, s2, jv v10, s2, jv v17, s2, u0, u0, u0, u0, u0, u0] [])) t → Steps p.tables e below B0 t := by
    rw [hv22]
    exact pre21
  have pre25 : ∀ t, Steps p.tables e below (T1.setTop (mkF m 92 #[iv q0, jv q1, s2, jv q2, s2, jv q3, s2, jv q4, s2, jv q5, s2, iv v2, jv v4, s2, jv v22, s2, jv v8, s2, jv v10, s2, jv v17, s2, u0, u0, u0, u0, u0, u0] [(.int (lcmpW v17 (1 : Int64)))])) t → Steps p.tables e below B0 t := by
    intro t k
    refine pre23 t ?_
    show Steps p.tables e below (T1.setTop (mkF m 88 #[iv q0, jv q1, s2, jv q2, s2, jv q3, s2, jv q4, s2, jv q5, s2, iv v2, jv v4, s2, jv v22, s2, jv v8, s2, jv v10, s2, jv v17, s2, u0, u0, u0, u0, u0, u0] [])) _
    refine XS.lload X1.here hx rfl (D at_88) rfl ?_
    refine XS.lconst X1.here hx rfl (D at_90) ?_
    refine XS.lcmp X1.here hx rfl (D at_91) rfl ?_
    exact k
  clear pre20 pre21 pre23
  have pre26 : ∀ t, Steps p.tables e below (T1.setTop (mkF m 103 #[iv q0, jv q1, s2, jv q2, s2, jv q3, s2, jv q4, s2, jv q5, s2, iv v2, jv v4, s2, jv v22, s2, jv (if v17 = (1 : Int64) then (v8 ||| (6 : Int64)) else v8), s2, jv v10, s2, jv v17, s2, u0, u0, u0, u0, u0, u0] [])) t → Steps p.tables e below B0 t := by
    by_cases c24 : v17 = (1 : Int64)
    · try simp only [if_pos c24]
      intro t k
      refine pre25 t ?_
      show Steps p.tables e below (T1.setTop (mkF m 92 #[iv q0, jv q1, s2, jv q2, s2, jv q3, s2, jv q4, s2, jv q5, s2, iv v2, jv v4, s2, jv v22, s2, jv v8, s2, jv v10, s2, jv v17, s2, u0, u0, u0, u0, u0, u0] [(.int (lcmpW v17 (1 : Int64)))])) _
      refine XS.ifNo X1.here hx rfl (D at_92) rfl ((if0 _ _).trans (teq ((lw_eq v17 (1 : Int64)).mpr c24)).2) ?_
      refine XS.lload X1.here hx rfl (D at_95) rfl ?_
      refine X1.ldc2Long hx hown (mvT hZ (H 69 rfl)) (g := (mkF m 97 #[iv q0, jv q1, s2, jv q2, s2, jv q3, s2, jv q4, s2, jv q5, s2, iv v2, jv v4, s2, jv v22, s2, jv v8, s2, jv v10, s2, jv v17, s2, u0, u0, u0, u0, u0, u0] [(.long v8)])) rfl (D at_97) _ ?_
      refine XS.lor X1.here hx rfl (D at_100) rfl ?_
      refine XS.lstore X1.here hx rfl (D at_101) rfl (l' := #[iv q0, jv q1, s2, jv q2, s2, jv q3, s2, jv q4, s2, jv q5, s2, iv v2, jv v4, s2, jv v22, s2, jv (v8 ||| (6 : Int64)), s2, jv v10, s2, jv v17, s2, u0, u0, u0, u0, u0, u0]) rfl ?_
      exact k
    · try simp only [if_neg c24]
      intro t k
      refine pre25 t ?_
      show Steps p.tables e below (T1.setTop (mkF m 92 #[iv q0, jv q1, s2, jv q2, s2, jv q3, s2, jv q4, s2, jv q5, s2, iv v2, jv v4, s2, jv v22, s2, jv v8, s2, jv v10, s2, jv v17, s2, u0, u0, u0, u0, u0, u0] [(.int (lcmpW v17 (1 : Int64)))])) _
      refine XS.ifYes X1.here hx rfl (pc0 := 92) (pc' := 103) rfl (D at_92) rfl ((if0 _ _).trans (feq (mt (lw_eq v17 (1 : Int64)).mp c24)).2) (by decide) (by decide) ?_
      exact k
  obtain ⟨v27, hv27⟩ : ∃ z : Int64, z = (if v17 = (1 : Int64) then (v8 ||| (6 : Int64)) else v8) := ⟨_, rfl⟩
  have pre28 : ∀ t, Steps p.tables e below (T1.setTop (mkF m 103 #[iv q0, jv q1, s2, jv q2, s2, jv q3, s2, jv q4, s2, jv q5, s2, iv v2, jv v4, s2, jv v22, s2, jv v27, s2, jv v10, s2, jv v17, s2, u0, u0, u0, u0, u0, u0] [])) t → Steps p.tables e below B0 t := by
    rw [hv27]
    exact pre26
  have pre30 : ∀ t, Steps p.tables e below (T1.setTop (mkF m 109 #[iv q0, jv q1, s2, jv q2, s2, jv q3, s2, jv q4, s2, jv q5, s2, iv v2, jv v4, s2, jv v22, s2, jv v27, s2, jv v10, s2, jv v17, s2, u0, u0, u0, u0, u0, u0] [(.int (lcmpW v17 (2 : Int64)))])) t → Steps p.tables e below B0 t := by
    intro t k
    refine pre28 t ?_
    show Steps p.tables e below (T1.setTop (mkF m 103 #[iv q0, jv q1, s2, jv q2, s2, jv q3, s2, jv q4, s2, jv q5, s2, iv v2, jv v4, s2, jv v22, s2, jv v27, s2, jv v10, s2, jv v17, s2, u0, u0, u0, u0, u0, u0] [])) _
    refine XS.lload X1.here hx rfl (D at_103) rfl ?_
    refine X1.ldc2Long hx hown (mvT hZ (H 4 rfl)) (g := (mkF m 105 #[iv q0, jv q1, s2, jv q2, s2, jv q3, s2, jv q4, s2, jv q5, s2, iv v2, jv v4, s2, jv v22, s2, jv v27, s2, jv v10, s2, jv v17, s2, u0, u0, u0, u0, u0, u0] [(.long v17)])) rfl (D at_105) _ ?_
    refine XS.lcmp X1.here hx rfl (D at_108) rfl ?_
    exact k
  clear pre25 pre26 pre28
  have pre31 : ∀ t, Steps p.tables e below (T1.setTop (mkF m 120 #[iv q0, jv q1, s2, jv q2, s2, jv q3, s2, jv q4, s2, jv q5, s2, iv v2, jv v4, s2, jv v22, s2, jv v27, s2, jv (if v17 = (2 : Int64) then (v10 ||| (6 : Int64)) else v10), s2, jv v17, s2, u0, u0, u0, u0, u0, u0] [])) t → Steps p.tables e below B0 t := by
    by_cases c29 : v17 = (2 : Int64)
    · try simp only [if_pos c29]
      intro t k
      refine pre30 t ?_
      show Steps p.tables e below (T1.setTop (mkF m 109 #[iv q0, jv q1, s2, jv q2, s2, jv q3, s2, jv q4, s2, jv q5, s2, iv v2, jv v4, s2, jv v22, s2, jv v27, s2, jv v10, s2, jv v17, s2, u0, u0, u0, u0, u0, u0] [(.int (lcmpW v17 (2 : Int64)))])) _
      refine XS.ifNo X1.here hx rfl (D at_109) rfl ((if0 _ _).trans (teq ((lw_eq v17 (2 : Int64)).mpr c29)).2) ?_
      refine XS.lload X1.here hx rfl (D at_112) rfl ?_
      refine X1.ldc2Long hx hown (mvT hZ (H 69 rfl)) (g := (mkF m 114 #[iv q0, jv q1, s2, jv q2, s2, jv q3, s2, jv q4, s2, jv q5, s2, iv v2, jv v4, s2, jv v22, s2, jv v27, s2, jv v10, s2, jv v17, s2, u0, u0, u0, u0, u0, u0] [(.long v10)])) rfl (D at_114) _ ?_
      refine XS.lor X1.here hx rfl (D at_117) rfl ?_
      refine XS.lstore X1.here hx rfl (D at_118) rfl (l' := #[iv q0, jv q1, s2, jv q2, s2, jv q3, s2, jv q4, s2, jv q5, s2, iv v2, jv v4, s2, jv v22, s2, jv v27, s2, jv (v10 ||| (6 : Int64)), s2, jv v17, s2, u0, u0, u0, u0, u0, u0]) rfl ?_
      exact k
    · try simp only [if_neg c29]
      intro t k
      refine pre30 t ?_
      show Steps p.tables e below (T1.setTop (mkF m 109 #[iv q0, jv q1, s2, jv q2, s2, jv q3, s2, jv q4, s2, jv q5, s2, iv v2, jv v4, s2, jv v22, s2, jv v27, s2, jv v10, s2, jv v17, s2, u0, u0, u0, u0, u0, u0] [(.int (lcmpW v17 (2 : Int64)))])) _
      refine XS.ifYes X1.here hx rfl (pc0 := 109) (pc' := 120) rfl (D at_109) rfl ((if0 _ _).trans (feq (mt (lw_eq v17 (2 : Int64)).mp c29)).2) (by decide) (by decide) ?_
      exact k
  obtain ⟨v32, hv32⟩ : ∃ z : Int64, z = (if v17 = (2 : Int64) then (v10 ||| (6 : Int64)) else v10) := ⟨_, rfl⟩
  have pre33 : ∀ t, Steps p.tables e below (T1.setTop (mkF m 120 #[iv q0, jv q1, s2, jv q2, s2, jv q3, s2, jv q4, s2, jv q5, s2, iv v2, jv v4, s2, jv v22, s2, jv v27, s2, jv v32, s2, jv v17, s2, u0, u0, u0, u0, u0, u0] [])) t → Steps p.tables e below B0 t := by
    rw [hv32]
    exact pre31
  obtain ⟨_, _, ⟨T34, L34, k34, n34⟩, -, X34, ⟨Lc34, hQ34, l34, y34, z34⟩, st34⟩ := Jvm.LawKit.callS X1 hx (y := (⟨"com/example/tributary/tributary/io/SilenceMeasuredPinLaw", "fix", "(JJ)J"⟩ : MethodName)) hown (mvT hZ (H 5 rfl)) (mvT hZ (H 6 rfl)) (mvT hZ (H 7 rfl)) (mvT hZ (H 8 rfl)) (by decide) (backOf (W := 0) (rm2 l Z a0 hw [] v22 v4  h0 n0 Z0 ) hZ (H 8 rfl) (H 7 rfl) (by decide) (by decide)) (g := (mkF m 124 #[iv q0, jv q1, s2, jv q2, s2, jv q3, s2, jv q4, s2, jv q5, s2, iv v2, jv v4, s2, jv v22, s2, jv v27, s2, jv v32, s2, jv v17, s2, u0, u0, u0, u0, u0, u0] [(.long v4), (.long v22)])) rfl (by rw [hml]; rfl) (argsL := [(.long v22), (.long v4)]) (rest := []) (lenOf pd_119 rfl) rfl (by show 2 * 0 + _ ≤ _; exact Nat.le_of_eq rfl) (D at_124) (fun _ _ => ⟨rfl, e1, (by decide : 0 + 0 ≤ _), (by decide : 0 + 0 ≤ _)⟩)
  dsimp only [Pt.U, Pt.locs, Pt.cells, Pt.slots] at X34 l34 y34 z34 st34 hQ34
  replace y34 : k34 = 0 := y34
  replace z34 : n34 = 0 := z34
  replace l34 := l34.symm; replace y34 := y34.symm; replace z34 := z34.symm; subst l34 y34 z34
  obtain ⟨rfl, N34q, e34⟩ := hQ34
  have N34 := Fr.app N1 N34q
  obtain ⟨v35, hv35⟩ : ∃ z : Int64, z = (own_f2 v22 v4) := ⟨_, rfl⟩
  have pre36 : ∀ t, Steps p.tables e below (T34.setTop (mkF m 127 #[iv q0, jv q1, s2, jv q2, s2, jv q3, s2, jv q4, s2, jv q5, s2, iv v2, jv v4, s2, jv v22, s2, jv v27, s2, jv v32, s2, jv v17, s2, u0, u0, u0, u0, u0, u0] [(.long v35)])) t → Steps p.tables e below B0 t := by
    rw [hv35]
    intro t k
    refine pre33 t ?_
    show Steps p.tables e below (T1.setTop (mkF m 120 #[iv q0, jv q1, s2, jv q2, s2, jv q3, s2, jv q4, s2, jv q5, s2, iv v2, jv v4, s2, jv v22, s2, jv v27, s2, jv v32, s2, jv v17, s2, u0, u0, u0, u0, u0, u0] [])) _
    refine XS.lload X1.here hx rfl (D at_120) rfl ?_
    refine XS.lload X1.here hx rfl (D at_122) rfl ?_
    refine st34 _ ?_
    exact k
  obtain ⟨_, _, ⟨T37, L37, k37, n37⟩, -, X37, ⟨Lc37, hQ37, l37, y37, z37⟩, st37⟩ := Jvm.LawKit.callS X34 hx (y := (⟨"com/example/tributary/tributary/io/SilenceMeasuredPinLaw", "fix", "(JJ)J"⟩ : MethodName)) hown (mvT hZ (H 5 rfl)) (mvT hZ (H 6 rfl)) (mvT hZ (H 7 rfl)) (mvT hZ (H 8 rfl)) (by decide) (backOf (W := 0) (rm2 l Z a0 hw [] v27 v4  h0 n0 Z0 ) hZ (H 8 rfl) (H 7 rfl) (by decide) (by decide)) (g := (mkF m 133 #[iv q0, jv q1, s2, jv q2, s2, jv q3, s2, jv q4, s2, jv q5, s2, iv v2, jv v4, s2, jv v35, s2, jv v27, s2, jv v32, s2, jv v17, s2, u0, u0, u0, u0, u0, u0] [(.long v4), (.long v27)])) rfl (by rw [hml]; rfl) (argsL := [(.long v27), (.long v4)]) (rest := []) (lenOf pd_119 rfl) rfl (by show 2 * 0 + _ ≤ _; exact Nat.le_of_eq rfl) (D at_133) (fun _ _ => ⟨rfl, e34, (by decide : 0 + 0 ≤ _), (by decide : 0 + 0 ≤ _)⟩)
  dsimp only [Pt.U, Pt.locs, Pt.cells, Pt.slots] at X37 l37 y37 z37 st37 hQ37
  replace y37 : k37 = 0 := y37
  replace z37 : n37 = 0 := z37
  replace l37 := l37.symm; replace y37 := y37.symm; replace z37 := z37.symm; subst l37 y37 z37
  obtain ⟨rfl, N37q, e37⟩ := hQ37
  have N37 := Fr.app N34 N37q
  obtain ⟨v38, hv38⟩ : ∃ z : Int64, z = (own_f2 v27 v4) := ⟨_, rfl⟩
  have pre39 : ∀ t, Steps p.tables e below (T37.setTop (mkF m 136 #[iv q0, jv q1, s2, jv q2, s2, jv q3, s2, jv q4, s2, jv q5, s2, iv v2, jv v4, s2, jv v35, s2, jv v27, s2, jv v32, s2, jv v17, s2, u0, u0, u0, u0, u0, u0] [(.long v38)])) t → Steps p.tables e below B0 t := by
    rw [hv38]
    intro t k
    refine pre36 t ?_
    show Steps p.tables e below (T34.setTop (mkF m 127 #[iv q0, jv q1, s2, jv q2, s2, jv q3, s2, jv q4, s2, jv q5, s2, iv v2, jv v4, s2, jv v22, s2, jv v27, s2, jv v32, s2, jv v17, s2, u0, u0, u0, u0, u0, u0] [(.long v35)])) _
    refine XS.lstore X34.here hx rfl (D at_127) rfl (l' := #[iv q0, jv q1, s2, jv q2, s2, jv q3, s2, jv q4, s2, jv q5, s2, iv v2, jv v4, s2, jv v35, s2, jv v27, s2, jv v32, s2, jv v17, s2, u0, u0, u0, u0, u0, u0]) rfl ?_
    refine XS.lload X34.here hx rfl (D at_129) rfl ?_
    refine XS.lload X34.here hx rfl (D at_131) rfl ?_
    refine st37 _ ?_
    exact k
  obtain ⟨_, _, ⟨T40, L40, k40, n40⟩, -, X40, ⟨Lc40, hQ40, l40, y40, z40⟩, st40⟩ := Jvm.LawKit.callS X37 hx (y := (⟨"com/example/tributary/tributary/io/SilenceMeasuredPinLaw", "fix", "(JJ)J"⟩ : MethodName)) hown (mvT hZ (H 5 rfl)) (mvT hZ (H 6 rfl)) (mvT hZ (H 7 rfl)) (mvT hZ (H 8 rfl)) (by decide) (backOf (W := 0) (rm2 l Z a0 hw [] v32 v4  h0 n0 Z0 ) hZ (H 8 rfl) (H 7 rfl) (by decide) (by decide)) (g := (mkF m 142 #[iv q0, jv q1, s2, jv q2, s2, jv q3, s2, jv q4, s2, jv q5, s2, iv v2, jv v4, s2, jv v35, s2, jv v38, s2, jv v32, s2, jv v17, s2, u0, u0, u0, u0, u0, u0] [(.long v4), (.long v32)])) rfl (by rw [hml]; rfl) (argsL := [(.long v32), (.long v4)]) (rest := []) (lenOf pd_119 rfl) rfl (by show 2 * 0 + _ ≤ _; exact Nat.le_of_eq rfl) (D at_142) (fun _ _ => ⟨rfl, e37, (by decide : 0 + 0 ≤ _), (by decide : 0 + 0 ≤ _)⟩)
  dsimp only [Pt.U, Pt.locs, Pt.cells, Pt.slots] at X40 l40 y40 z40 st40 hQ40
  replace y40 : k40 = 0 := y40
  replace z40 : n40 = 0 := z40
  replace l40 := l40.symm; replace y40 := y40.symm; replace z40 := z40.symm; subst l40 y40 z40
  obtain ⟨rfl, N40q, e40⟩ := hQ40
  have N40 := Fr.app N37 N40q
  obtain ⟨v41, hv41⟩ : ∃ z : Int64, z = (own_f2 v32 v4) := ⟨_, rfl⟩
  have pre42 : ∀ t, Steps p.tables e below (T40.setTop (mkF m 145 #[iv q0, jv q1, s2, jv q2, s2, jv q3, s2, jv q4, s2, jv q5, s2, iv v2, jv v4, s2, jv v35, s2, jv v38, s2, jv v32, s2, jv v17, s2, u0, u0, u0, u0, u0, u0] [(.long v41)])) t → Steps p.tables e below B0 t := by
    rw [hv41]
    intro t k
    refine pre39 t ?_
    show Steps p.tables e below (T37.setTop (mkF m 136 #[iv q0, jv q1, s2, jv q2, s2, jv q3, s2, jv q4, s2, jv q5, s2, iv v2, jv v4, s2, jv v35, s2, jv v27, s2, jv v32, s2, jv v17, s2, u0, u0, u0, u0, u0, u0] [(.long v38)])) _
    refine XS.lstore X37.here hx rfl (D at_136) rfl (l' := #[iv q0, jv q1, s2, jv q2, s2, jv q3, s2, jv q4, s2, jv q5, s2, iv v2, jv v4, s2, jv v35, s2, jv v38, s2, jv v32, s2, jv v17, s2, u0, u0, u0, u0, u0, u0]) rfl ?_
    refine XS.lload X37.here hx rfl (D at_138) rfl ?_
    refine XS.lload X37.here hx rfl (D at_140) rfl ?_
    refine st40 _ ?_
    exact k
  have pre43 : ∀ t, Steps p.tables e below (T40.setTop (mkF m 147 #[iv q0, jv q1, s2, jv q2, s2, jv q3, s2, jv q4, s2, jv q5, s2, iv v2, jv v4, s2, jv v35, s2, jv v38, s2, jv v41, s2, jv v17, s2, u0, u0, u0, u0, u0, u0] [])) t → Steps p.tables e below B0 t := by
    intro t k
    refine pre42 t ?_
    show Steps p.tables e below (T40.setTop (mkF m 145 #[iv q0, jv q1, s2, jv q2, s2, jv q3, s2, jv q4, s2, jv q5, s2, iv v2, jv v4, s2, jv v35, s2, jv v38, s2, jv v32, s2, jv v17, s2, u0, u0, u0, u0, u0, u0] [(.long v41)])) _
    refine XS.lstore X40.here hx rfl (D at_145) rfl (l' := #[iv q0, jv q1, s2, jv q2, s2, jv q3, s2, jv q4, s2, jv q5, s2, iv v2, jv v4, s2, jv v35, s2, jv v38, s2, jv v41, s2, jv v17, s2, u0, u0, u0, u0, u0, u0]) rfl ?_
    exact k
  clear X1 e1 N1 pre30 pre31 pre33 X34 st34 N34q e34 N34 pre36 X37 st37 N37q e37 N37 pre39 st40 N40q pre42
  rcases own_three hv2 with rfl | rfl | rfl
  · obtain ⟨T44, h44, cA44, X44, e44, E44, A44, st44⟩ := newP X40 hx hZ (aty := .long) (H 11 rfl) e40 (g := (mkF m 155 #[iv q0, jv q1, s2, jv q2, s2, jv q3, s2, jv q4, s2, jv q5, s2, iv (1 : Int32), jv v4, s2, jv v35, s2, jv v38, s2, jv v41, s2, jv v17, s2, u0, u0, u0, u0, u0, u0] [(.int (6 : Int32))])) rfl (D at_155) rfl (by decide) (cap := 6) (by decide) (by decide) (by decide) (by decide)
    obtain ⟨a44, g44⟩ : ∃ z, z = h0.size := ⟨_, rfl⟩
    rw [← g44] at A44 st44
    have ge_a44 : n0 ≤ a44 := g44 ▸ Z0
    have sz44 := Nat.le_trans Z0 E44.1
    have V44_n : own_AJ Z h44 a44 [(0 : Int64), (0 : Int64), (0 : Int64), (0 : Int64), (0 : Int64), (0 : Int64)] := own_AJ_new A44 (k := 6) (by decide)
    obtain ⟨T45, h45, X45, e45, W45, V45, st45⟩ := own_lastore X44 hx hZ e44 V44_n (j := (0 : Int32)) (show 0 ≤ Int32.toInt (0 : Int32) ∧ Int32.toInt (0 : Int32) < ((6 : Nat) : Int) by decide) (x := v4) (D at_184)
    have sz45 := Nat.le_trans sz44 (Keep.of_wr W45).1
    have N45 := Fr.snoc X45 N40 ge_a44
    have V45_n : own_AJ Z h45 a44 [v4, (0 : Int64), (0 : Int64), (0 : Int64), (0 : Int64), (0 : Int64)] := V45
    obtain ⟨T46, h46, X46, e46, W46, V46, st46⟩ := own_lastore X45 hx hZ e45 V45_n (j := (1 : Int32)) (show 0 ≤ Int32.toInt (1 : Int32) ∧ Int32.toInt (1 : Int32) < ((6 : Nat) : Int) by decide) (x := q1) (D at_189)
    have sz46 := Nat.le_trans sz45 (Keep.of_wr W46).1
    have N46 := Fr.snoc X46 N45 ge_a44
    have V46_n : own_AJ Z h46 a44 [v4, q1, (0 : Int64), (0 : Int64), (0 : Int64), (0 : Int64)] := V46
    obtain ⟨T47, h47, X47, e47, W47, V47, st47⟩ := own_lastore X46 hx hZ e46 V46_n (j := (2 : Int32)) (show 0 ≤ Int32.toInt (2 : Int32) ∧ Int32.toInt (2 : Int32) < ((6 : Nat) : Int) by decide) (x := v17) (D at_195)
    have sz47 := Nat.le_trans sz46 (Keep.of_wr W47).1
    have N47 := Fr.snoc X47 N46 ge_a44
    have V47_n : own_AJ Z h47 a44 [v4, q1, v17, (0 : Int64), (0 : Int64), (0 : Int64)] := V47
    obtain ⟨T48, h48, X48, e48, W48, V48, st48⟩ := own_lastore X47 hx hZ e47 V47_n (j := (3 : Int32)) (show 0 ≤ Int32.toInt (3 : Int32) ∧ Int32.toInt (3 : Int32) < ((6 : Nat) : Int) by decide) (x := v35) (D at_201)
    have sz48 := Nat.le_trans sz47 (Keep.of_wr W48).1
    have N48 := Fr.snoc X48 N47 ge_a44
    have V48_n : own_AJ Z h48 a44 [v4, q1, v17, v35, (0 : Int64), (0 : Int64)] := V48
    obtain ⟨T49, h49, X49, e49, W49, V49, st49⟩ := own_lastore X48 hx hZ e48 V48_n (j := (4 : Int32)) (show 0 ≤ Int32.toInt (4 : Int32) ∧ Int32.toInt (4 : Int32) < ((6 : Nat) : Int) by decide) (x := q2) (D at_206)
    have sz49 := Nat.le_trans sz48 (Keep.of_wr W49).1
    have N49 := Fr.snoc X49 N48 ge_a44
    have V49_n : own_AJ Z h49 a44 [v4, q1, v17, v35, q2, (0 : Int64)] := V49
    obtain ⟨T50, h50, X50, e50, W50, V50, st50⟩ := own_lastore X49 hx hZ e49 V49_n (j := (5 : Int32)) (show 0 ≤ Int32.toInt (5 : Int32) ∧ Int32.toInt (5 : Int32) < ((6 : Nat) : Int) by decide) (x := q3) (D at_212)
    have sz50 := Nat.le_trans sz49 (Keep.of_wr W50).1
    have N50 := Fr.snoc X50 N49 ge_a44
    have V50_n : own_AJ Z h50 a44 [v4, q1, v17, v35, q2, q3] := V50
    obtain ⟨T51, h51, X51, e51, E51, A51, D51, -, st51⟩ := newO X50 hx hZ hown (H 12 rfl) (H 13 rfl) (H 14 rfl) e50 (g := (mkF m 274 #[iv q0, jv q1, s2, jv q2, s2, jv q3, s2, jv q4, s2, jv q5, s2, iv (1 : Int32), jv v4, s2, jv v35, s2, jv v38, s2, jv v41, s2, jv v17, s2, rv a44, u0, u0, u0, u0, u0] [])) rfl (D at_274) (by decide) (by decide)
    obtain ⟨a51, g51⟩ : ∃ z, z = h50.size := ⟨_, rfl⟩
    rw [← g51] at A51 D51 st51
    have ne_a44_a51 : a44 ≠ a51 := g51 ▸ Nat.ne_of_lt V50_n.lt
    have ge_a51 : n0 ≤ a51 := g51 ▸ sz50
    have V51_a44 := V50_n.ext E51
    have sz51 := Nat.le_trans sz50 E51.1
    have F51_n0 : Fld Z h51 a51 own_S "lastLeft" "I" (.int (0 : Int32)) := D51 (Or.inl (H 25 rfl)) (ty := .int) (by decide)
    have F51_n1 : Fld Z h51 a51 own_S "limit" "J" (.long (0 : Int64)) := D51 (Or.inr (H 27 rfl)) (ty := .long) (by decide)
    have F51_n2 : Fld Z h51 a51 own_S "includesLast" "Z" (.int (0 : Int32)) := D51 (Or.inr (H 29 rfl)) (ty := .boolean) (by decide)
    have F51_n3 : Fld Z h51 a51 own_S "last" "[J" .null := D51 (Or.inr (H 31 rfl)) (ty := (.array .long)) (by decide)
    have F51_n4 : Fld Z h51 a51 own_S "sent" "[Z" .null := D51 (Or.inr (H 34 rfl)) (ty := (.array .boolean)) (by decide)
    have F51_n5 : Fld Z h51 a51 own_S "runs" "[J" .null := D51 (Or.inr (H 36 rfl)) (ty := (.array .long)) (by decide)
    have F51_n6 : Fld Z h51 a51 own_S "gone" "[Z" .null := D51 (Or.inr (H 38 rfl)) (ty := (.array .boolean)) (by decide)
    have F51_n7 : Fld Z h51 a51 own_S "stopped" "[Z" .null := D51 (Or.inr (H 40 rfl)) (ty := (.array .boolean)) (by decide)
    have F51_n8 : Fld Z h51 a51 own_S "open" "I" (.int (0 : Int32)) := D51 (Or.inl (H 42 rfl)) (ty := .int) (by decide)
    have F51_n9 : Fld Z h51 a51 own_S "started" "Z" (.int (0 : Int32)) := D51 (Or.inl (H 49 rfl)) (ty := .boolean) (by decide)
    have F51_n10 : Fld Z h51 a51 own_S "latest" "J" (.long (0 : Int64)) := D51 (Or.inl (H 51 rfl)) (ty := .long) (by decide)
    obtain ⟨_, _, ⟨T52, L52, k52, n52⟩, -, X52, ⟨Lc52, hQ52, l52, y52, z52⟩, st52⟩ := X51.specialBack hx (y := (⟨"com/example/tributary/tributary/io/Silence", "<init>", "(IJ)V"⟩ : MethodName)) rfl hown (mvT hZ (H 15 rfl)) (mvT hZ (H 16 rfl)) (mvT hZ (H 17 rfl)) (by decide) (backOf (W := 1) (rm3_1 l Z a0 hw [] a51  h51 n0 sz51 A51 F51_n0 F51_n1 F51_n2 F51_n3 F51_n4 F51_n5 F51_n6 F51_n7 F51_n8 F51_n9 F51_n10 ge_a51 ) hZ (H 17 rfl) (H 14 rfl) (by decide) (by decide)) (g := (mkF m 281 #[iv q0, jv q1, s2, jv q2, s2, jv q3, s2, jv q4, s2, jv q5, s2, iv (1 : Int32), jv v4, s2, jv v35, s2, jv v38, s2, jv v41, s2, jv v17, s2, rv a44, u0, u0, u0, u0, u0] [(.long (1 : Int64)), (.int (1 : Int32)), (.ref a51), (.ref a51)])) rfl (by rw [hml]; rfl) (Steps.refl _) (a := a51) (argsL := [(.int (1 : Int32)), (.long (1 : Int64))]) (rest := [(.ref a51)]) (lenOf pd_120 rfl) rfl (by show 2 * 0 + _ ≤ _; exact Nat.le_of_eq rfl) (D at_281) (fun _ _ => ⟨rfl, e51, (by decide : 2 + 5 ≤ _), (by decide : 17 + 5 ≤ _)⟩)
    dsimp only [Pt.U, Pt.locs, Pt.cells, Pt.slots] at X52 l52 y52 z52 st52 hQ52
    replace y52 : k52 = 7 := y52
    replace z52 : n52 = 22 := z52
    replace l52 := l52.symm; replace y52 := y52.symm; replace z52 := z52.symm; subst l52 y52 z52
    obtain ⟨rfl, N52q, rl52, rs52, rr52, rg52, rt52, ⟨go_rl52, go_rs52, go_rr52, go_rg52, go_rt52⟩, ⟨ne_rl52_rs52, ne_rl52_rr52, ne_rl52_rg52, ne_rl52_rt52, ne_rs52_rr52, ne_rs52_rg52, ne_rs52_rt52, ne_rr52_rg52, ne_rr52_rt52, ne_rg52_rt52⟩, K52, A52_o0, F52_o0, F52_o1, F52_o2, F52_o3, F52_o4, F52_o5, F52_o6, F52_o7, F52_o8, V52_o0, V52_o1, V52_o2, V52_o3, V52_o4⟩ := hQ52
    obtain ⟨h52, e52⟩ : ∃ z, T52.heap = z := ⟨_, rfl⟩
    rw [e52] at K52 A52_o0 F52_o0 F52_o1 F52_o2 F52_o3 F52_o4 F52_o5 F52_o6 F52_o7 F52_o8 V52_o0 V52_o1 V52_o2 V52_o3 V52_o4
    have ne_a44_rl52 : a44 ≠ rl52 := Nat.ne_of_lt (Nat.lt_of_lt_of_le V51_a44.lt go_rl52)
    have ne_a51_rl52 : a51 ≠ rl52 := Nat.ne_of_lt (Nat.lt_of_lt_of_le A51.lt go_rl52)
    have ge_rl52 : n0 ≤ rl52 := Nat.le_trans sz51 go_rl52
    have ne_a44_rs52 : a44 ≠ rs52 := Nat.ne_of_lt (Nat.lt_of_lt_of_le V51_a44.lt go_rs52)
    have ne_a51_rs52 : a51 ≠ rs52 := Nat.ne_of_lt (Nat.lt_of_lt_of_le A51.lt go_rs52)
    have ge_rs52 : n0 ≤ rs52 := Nat.le_trans sz51 go_rs52
    have ne_a44_rr52 : a44 ≠ rr52 := Nat.ne_of_lt (Nat.lt_of_lt_of_le V51_a44.lt go_rr52)
    have ne_a51_rr52 : a51 ≠ rr52 := Nat.ne_of_lt (Nat.lt_of_lt_of_le A51.lt go_rr52)
    have ge_rr52 : n0 ≤ rr52 := Nat.le_trans sz51 go_rr52
    have ne_a44_rg52 : a44 ≠ rg52 := Nat.ne_of_lt (Nat.lt_of_lt_of_le V51_a44.lt go_rg52)
    have ne_a51_rg52 : a51 ≠ rg52 := Nat.ne_of_lt (Nat.lt_of_lt_of_le A51.lt go_rg52)
    have ge_rg52 : n0 ≤ rg52 := Nat.le_trans sz51 go_rg52
    have ne_a44_rt52 : a44 ≠ rt52 := Nat.ne_of_lt (Nat.lt_of_lt_of_le V51_a44.lt go_rt52)
    have ne_a51_rt52 : a51 ≠ rt52 := Nat.ne_of_lt (Nat.lt_of_lt_of_le A51.lt go_rt52)
    have ge_rt52 : n0 ≤ rt52 := Nat.le_trans sz51 go_rt52
    have V52_a44 := V51_a44.keep K52 (ninS ne_a44_a51 nin0)
    have A52_a51 := A51.keep K52
    have sz52 : n0 ≤ h52.size := Nat.le_trans sz51 K52.1
    have N52 := Fr.app N50 N52q
    obtain ⟨cq53, kq53, q53a, q53b, q53c⟩ := isOf hZ e52 A52_o0
    obtain ⟨_, _, ⟨T53, L53, k53, n53⟩, -, X53, ⟨Lc53, hQ53, l53, y53, z53⟩, st53⟩ := X52.virtualBack hx (y := (⟨"com/example/tributary/tributary/io/Silence", "measured", "()[J"⟩ : MethodName)) (z := (⟨"com/example/tributary/tributary/io/Silence", "measured", "()[J"⟩ : MethodName)) hown (mvT hZ (H 43 rfl)) (mvT hZ (H 44 rfl)) (notFace_of_selects (args := #[]) (mvT hZ (H 46 rfl))) (mvT hZ (H 46 rfl)) (mvT hZ (H 45 rfl)) (by decide) (backOf (W := 0) (rm6_1 l Z a0 hw [] a51 rl52 rs52 rr52 rg52 rt52 ((0 : Int32)) ((0 : Int64)) ((-1 : Int32)) ((0 : Int64)) ((0 : Int64)) ((0 : Int32)) ((0 : Int32)) ((0 : Int32)) h52 n0 sz52 V52_o0 V52_o1 V52_o2 V52_o3 V52_o4 A52_o0 F52_o0 F52_o1 F52_o2 F52_o3 F52_o4 F52_o7 F52_o8 F52_o6 ) hZ (H 47 rfl) (H 14 rfl) (by decide) (by decide)) q53a q53c (g := (mkF m 288 #[iv q0, jv q1, s2, jv q2, s2, jv q3, s2, jv q4, s2, jv q5, s2, iv (1 : Int32), jv v4, s2, jv v35, s2, jv v38, s2, jv v41, s2, jv v17, s2, rv a44, rv a51, u0, u0, u0, u0] [(.ref a51)])) rfl (by rw [hml]; rfl) (Steps.refl _) (argsL := []) (rest := []) (lenOf pd_121 rfl) rfl (by show 2 * 0 + _ ≤ _; exact Nat.le_of_eq rfl) (D at_288) (fun _ _ => ⟨rfl, e52, (by decide : 7 + 1 ≤ _), (by decide : 22 + 6 ≤ _)⟩)
    dsimp only [Pt.U, Pt.locs, Pt.cells, Pt.slots] at X53 l53 y53 z53 st53 hQ53
    replace y53 : k53 = 8 := y53
    replace z53 : n53 = 28 := z53
    replace l53 := l53.symm; replace y53 := y53.symm; replace z53 := z53.symm; subst l53 y53 z53
    obtain ⟨rfl, N53q, K53, R53⟩ := hQ53
    obtain ⟨h53, e53⟩ : ∃ z, T53.heap = z := ⟨_, rfl⟩
    rw [e53] at K53 R53
    obtain ⟨a53, g53⟩ : ∃ z, z = h52.size := ⟨_, rfl⟩
    rw [← g53] at R53 st53
    have ne_a44_a53 : a44 ≠ a53 := g53 ▸ Nat.ne_of_lt V52_a44.lt
    have ne_rl52_a53 : rl52 ≠ a53 := g53 ▸ Nat.ne_of_lt V52_o0.lt
    have ne_rs52_a53 : rs52 ≠ a53 := g53 ▸ Nat.ne_of_lt V52_o1.lt
    have ne_rr52_a53 : rr52 ≠ a53 := g53 ▸ Nat.ne_of_lt V52_o2.lt
    have ne_rg52_a53 : rg52 ≠ a53 := g53 ▸ Nat.ne_of_lt V52_o3.lt
    have ne_rt52_a53 : rt52 ≠ a53 := g53 ▸ Nat.ne_of_lt V52_o4.lt
    have ne_a51_a53 : a51 ≠ a53 := g53 ▸ Nat.ne_of_lt A52_o0.lt
    have ge_a53 : n0 ≤ a53 := g53 ▸ sz52
    have V53_a44 := V52_a44.keep K53 nin0
    have V53_rl52 := V52_o0.keep K53 nin0
    have V53_rs52 := V52_o1.keep K53 nin0
    have V53_rr52 := V52_o2.keep K53 nin0
    have V53_rg52 := V52_o3.keep K53 nin0
    have V53_rt52 := V52_o4.keep K53 nin0
    have A53_a51 := A52_o0.keep K53
    have F53_a51_0 := F52_o0.keep K53 nin0
    have F53_a51_1 := F52_o1.keep K53 nin0
    have F53_a51_2 := F52_o2.keep K53 nin0
    have F53_a51_3 := F52_o3.keep K53 nin0
    have F53_a51_4 := F52_o4.keep K53 nin0
    have F53_a51_5 := F52_o5.keep K53 nin0
    have F53_a51_6 := F52_o6.keep K53 nin0
    have F53_a51_7 := F52_o7.keep K53 nin0
    have F53_a51_8 := F52_o8.keep K53 nin0
    have sz53 : n0 ≤ h53.size := Nat.le_trans sz52 K53.1
    have N53 := Fr.app N52 N53q
    have c54 : (if ((0 : Int32)) = (0 : Int32) then (0 : Int64) else (1 : Int64)) = (0 : Int64) := (by decide)
    have c55 : ((0 : Int64)) = (0 : Int64) := (by decide)
    have c56 : (((-1 : Int32))).toInt64 = (-1 : Int64) := (by decide)
    have pre57 : ∀ t, Steps p.tables e below (T53.setTop (mkF m 334 #[iv q0, jv q1, s2, jv q2, s2, jv q3, s2, jv q4, s2, jv q5, s2, iv (1 : Int32), jv v4, s2, jv v35, s2, jv v38, s2, jv v41, s2, jv v17, s2, rv a44, rv a51, rv a53, u0, u0, u0] [(.int (3 : Int32)), (.ref a53)])) t → Steps p.tables e below B0 t := by
      intro t k
      refine pre43 t ?_
      show Steps p.tables e below (T40.setTop (mkF m 147 #[iv q0, jv q1, s2, jv q2, s2, jv q3, s2, jv q4, s2, jv q5, s2, iv (1 : Int32), jv v4, s2, jv v35, s2, jv v38, s2, jv v41, s2, jv v17, s2, u0, u0, u0, u0, u0, u0] [])) _
      refine XS.iload X40.here hx rfl (D at_147) rfl ?_
      refine XS.iconst X40.here hx rfl (D at_149) ?_
      show Steps p.tables e below (T40.setTop (mkF m 150 #[iv q0, jv q1, s2, jv q2, s2, jv q3, s2, jv q4, s2, jv q5, s2, iv (1 : Int32), jv v4, s2, jv v35, s2, jv v38, s2, jv v41, s2, jv v17, s2, u0, u0, u0, u0, u0, u0] [(.int (1 : Int32)), (.int (1 : Int32))])) _
      refine XS.icmpNo X40.here hx rfl (D at_150) rfl (by decide) ?_
      refine XS.bipush X40.here hx rfl (D at_153) ?_
      refine st44 _ ?_
      refine XS.goto X44.here hx rfl (pc0 := 157) (pc' := 177) rfl (D at_157) (by decide) (by decide) ?_
      refine XS.astore X44.here hx rfl (D at_177) rfl rfl (l' := #[iv q0, jv q1, s2, jv q2, s2, jv q3, s2, jv q4, s2, jv q5, s2, iv (1 : Int32), jv v4, s2, jv v35, s2, jv v38, s2, jv v41, s2, jv v17, s2, rv a44, u0, u0, u0, u0, u0]) rfl ?_
      refine XS.aload X44.here hx rfl (D at_179) rfl rfl ?_
      refine XS.iconst X44.here hx rfl (D at_181) ?_
      refine XS.lload X44.here hx rfl (D at_182) rfl ?_
      show Steps p.tables e below (T44.setTop (mkF m 184 #[iv q0, jv q1, s2, jv q2, s2, jv q3, s2, jv q4, s2, jv q5, s2, iv (1 : Int32), jv v4, s2, jv v35, s2, jv v38, s2, jv v41, s2, jv v17, s2, rv a44, u0, u0, u0, u0, u0] [(.long v4), (.int (0 : Int32)), (.ref a44)])) _
      refine st45 _ ?_
      refine XS.aload X45.here hx rfl (D at_185) rfl rfl ?_
      refine XS.iconst X45.here hx rfl (D at_187) ?_
      refine XS.lloadN X45.here hx rfl (D at_188) rfl ?_
      refine st46 _ ?_
      refine XS.aload X46.here hx rfl (D at_190) rfl rfl ?_
      refine XS.iconst X46.here hx rfl (D at_192) ?_
      refine XS.lload X46.here hx rfl (D at_193) rfl ?_
      refine st47 _ ?_
      refine XS.aload X47.here hx rfl (D at_196) rfl rfl ?_
      refine XS.iconst X47.here hx rfl (D at_198) ?_
      refine XS.lload X47.here hx rfl (D at_199) rfl ?_
      refine st48 _ ?_
      refine XS.aload X48.here hx rfl (D at_202) rfl rfl ?_
      refine XS.iconst X48.here hx rfl (D at_204) ?_
      refine XS.lloadN X48.here hx rfl (D at_205) rfl ?_
      refine st49 _ ?_
      refine XS.aload X49.here hx rfl (D at_207) rfl rfl ?_
      refine XS.iconst X49.here hx rfl (D at_209) ?_
      refine XS.lload X49.here hx rfl (D at_210) rfl ?_
      refine st50 _ ?_
      refine XS.iload X50.here hx rfl (D at_213) rfl ?_
      refine XS.iconst X50.here hx rfl (D at_215) ?_
      show Steps p.tables e below (T50.setTop (mkF m 216 #[iv q0, jv q1, s2, jv q2, s2, jv q3, s2, jv q4, s2, jv q5, s2, iv (1 : Int32), jv v4, s2, jv v35, s2, jv v38, s2, jv v41, s2, jv v17, s2, rv a44, u0, u0, u0, u0, u0] [(.int (2 : Int32)), (.int (1 : Int32))])) _
      refine XS.icmpYes X50.here hx rfl (pc0 := 216) (pc' := 240) rfl (D at_216) rfl (by decide) (by decide) (by decide) ?_
      refine XS.iload X50.here hx rfl (D at_240) rfl ?_
      refine XS.iconst X50.here hx rfl (D at_242) ?_
      show Steps p.tables e below (T50.setTop (mkF m 243 #[iv q0, jv q1, s2, jv q2, s2, jv q3, s2, jv q4, s2, jv q5, s2, iv (1 : Int32), jv v4, s2, jv v35, s2, jv v38, s2, jv v41, s2, jv v17, s2, rv a44, u0, u0, u0, u0, u0] [(.int (3 : Int32)), (.int (1 : Int32))])) _
      refine XS.icmpYes X50.here hx rfl (pc0 := 243) (pc' := 274) rfl (D at_243) rfl (by decide) (by decide) (by decide) ?_
      refine st51 _ ?_
      refine XS.dup X51.here hx rfl (D at_277) rfl rfl ?_
      refine XS.iload X51.here hx rfl (D at_278) rfl ?_
      refine XS.lconst X51.here hx rfl (D at_280) ?_
      refine st52.trans ?_
      refine XS.astore X52.here hx rfl (D at_284) rfl rfl (l' := #[iv q0, jv q1, s2, jv q2, s2, jv q3, s2, jv q4, s2, jv q5, s2, iv (1 : Int32), jv v4, s2, jv v35, s2, jv v38, s2, jv v41, s2, jv v17, s2, rv a44, rv a51, u0, u0, u0, u0]) rfl ?_
      refine XS.aload X52.here hx rfl (D at_286) rfl rfl ?_
      refine st53.trans ?_
      refine XS.astore X53.here hx rfl (D at_291) rfl rfl (l' := #[iv q0, jv q1, s2, jv q2, s2, jv q3, s2, jv q4, s2, jv q5, s2, iv (1 : Int32), jv v4, s2, jv v35, s2, jv v38, s2, jv v41, s2, jv v17, s2, rv a44, rv a51, rv a53, u0, u0, u0]) rfl ?_
      refine XS.aload X53.here hx rfl (D at_293) rfl rfl ?_
      refine own_alenJ X53 hx hZ e53 R53 (D at_295) _ ?_
      refine XS.aload X53.here hx rfl (D at_296) rfl rfl ?_
      refine own_alenJ X53 hx hZ e53 V53_a44 (D at_298) _ ?_
      show Steps p.tables e below (T53.setTop (mkF m 299 #[iv q0, jv q1, s2, jv q2, s2, jv q3, s2, jv q4, s2, jv q5, s2, iv (1 : Int32), jv v4, s2, jv v35, s2, jv v38, s2, jv v41, s2, jv v17, s2, rv a44, rv a51, rv a53, u0, u0, u0] [(.int (6 : Int32)), (.int (6 : Int32))])) _
      refine XS.icmpNo X53.here hx rfl (D at_299) rfl (by decide) ?_
      refine XS.aload X53.here hx rfl (D at_302) rfl rfl ?_
      refine XS.iconst X53.here hx rfl (D at_304) ?_
      show Steps p.tables e below (T53.setTop (mkF m 305 #[iv q0, jv q1, s2, jv q2, s2, jv q3, s2, jv q4, s2, jv q5, s2, iv (1 : Int32), jv v4, s2, jv v35, s2, jv v38, s2, jv v41, s2, jv v17, s2, rv a44, rv a51, rv a53, u0, u0, u0] [(.int (0 : Int32)), (.ref a53)])) _
      refine own_laload X53 hx hZ e53 R53 (show 0 ≤ Int32.toInt (0 : Int32) ∧ Int32.toInt (0 : Int32) < ((6 : Nat) : Int) by decide) (D at_305) _ ?_
      refine XS.lconst X53.here hx rfl (D at_306) ?_
      refine XS.lcmp X53.here hx rfl (D at_307) rfl ?_
      show Steps p.tables e below (T53.setTop (mkF m 308 #[iv q0, jv q1, s2, jv q2, s2, jv q3, s2, jv q4, s2, jv q5, s2, iv (1 : Int32), jv v4, s2, jv v35, s2, jv v38, s2, jv v41, s2, jv v17, s2, rv a44, rv a51, rv a53, u0, u0, u0] [(.int (lcmpW (if ((0 : Int32)) = (0 : Int32) then (0 : Int64) else (1 : Int64)) (0 : Int64)))])) _
      refine XS.ifNo X53.here hx rfl (D at_308) rfl ((if0 _ _).trans (teq ((lw_eq (if ((0 : Int32)) = (0 : Int32) then (0 : Int64) else (1 : Int64)) (0 : Int64)).mpr c54)).2) ?_
      refine XS.aload X53.here hx rfl (D at_311) rfl rfl ?_
      refine XS.iconst X53.here hx rfl (D at_313) ?_
      refine own_laload X53 hx hZ e53 R53 (show 0 ≤ Int32.toInt (1 : Int32) ∧ Int32.toInt (1 : Int32) < ((6 : Nat) : Int) by decide) (D at_314) _ ?_
      refine XS.lconst X53.here hx rfl (D at_315) ?_
      refine XS.lcmp X53.here hx rfl (D at_316) rfl ?_
      show Steps p.tables e below (T53.setTop (mkF m 317 #[iv q0, jv q1, s2, jv q2, s2, jv q3, s2, jv q4, s2, jv q5, s2, iv (1 : Int32), jv v4, s2, jv v35, s2, jv v38, s2, jv v41, s2, jv v17, s2, rv a44, rv a51, rv a53, u0, u0, u0] [(.int (lcmpW ((0 : Int64)) (0 : Int64)))])) _
      refine XS.ifNo X53.here hx rfl (D at_317) rfl ((if0 _ _).trans (teq ((lw_eq ((0 : Int64)) (0 : Int64)).mpr c55)).2) ?_
      refine XS.aload X53.here hx rfl (D at_320) rfl rfl ?_
      refine XS.iconst X53.here hx rfl (D at_322) ?_
      refine own_laload X53 hx hZ e53 R53 (show 0 ≤ Int32.toInt (2 : Int32) ∧ Int32.toInt (2 : Int32) < ((6 : Nat) : Int) by decide) (D at_323) _ ?_
      refine X53.ldc2Long hx hown (mvT hZ (H 52 rfl)) (g := (mkF m 324 #[iv q0, jv q1, s2, jv q2, s2, jv q3, s2, jv q4, s2, jv q5, s2, iv (1 : Int32), jv v4, s2, jv v35, s2, jv v38, s2, jv v41, s2, jv v17, s2, rv a44, rv a51, rv a53, u0, u0, u0] [(.long (((-1 : Int32))).toInt64)])) rfl (D at_324) _ ?_
      refine XS.lcmp X53.here hx rfl (D at_327) rfl ?_
      show Steps p.tables e below (T53.setTop (mkF m 328 #[iv q0, jv q1, s2, jv q2, s2, jv q3, s2, jv q4, s2, jv q5, s2, iv (1 : Int32), jv v4, s2, jv v35, s2, jv v38, s2, jv v41, s2, jv v17, s2, rv a44, rv a51, rv a53, u0, u0, u0] [(.int (lcmpW (((-1 : Int32))).toInt64 (-1 : Int64)))])) _
      refine XS.ifNo X53.here hx rfl (D at_328) rfl ((if0 _ _).trans (teq ((lw_eq (((-1 : Int32))).toInt64 (-1 : Int64)).mpr c56)).2) ?_
      refine XS.aload X53.here hx rfl (D at_331) rfl rfl ?_
      refine XS.iconst X53.here hx rfl (D at_333) ?_
      exact k
    clear X40 e40 N40 pre43 X44 e44 E44 A44 st44 sz44 V44_n X45 e45 W45 V45 st45 sz45 N45 V45_n X46 e46 W46 V46 st46 sz46 N46 V46_n X47 e47 W47 V47 st47 sz47 N47 V47_n X48 e48 W48 V48 st48 sz48 N48 V48_n X49 e49 W49 V49 st49 sz49 N49 V49_n X50 e50 W50 V50 st50 sz50 N50 V50_n X51 e51 E51 A51 D51 st51 V51_a44 sz51 F51_n0 F51_n1 F51_n2 F51_n3 F51_n4 F51_n5 F51_n6 F51_n7 F51_n8 F51_n9 F51_n10 X52 st52 N52q K52 A52_o0 F52_o0 F52_o1 F52_o2 F52_o3 F52_o4 F52_o5 F52_o6 F52_o7 F52_o8 V52_o0 V52_o1 V52_o2 V52_o3 V52_o4 e52 V52_a44 A52_a51 sz52 N52 st53 N53q K53
    have c58 : (((if ((0 : Int32)) = (0 : Int32) then (0 : Int64) else (1 : Int64)) ||| (if ((0 : Int32)) = (0 : Int32) then (0 : Int64) else (2 : Int64))) ||| (if ((0 : Int32)) = (0 : Int32) then (0 : Int64) else (4 : Int64))) = (0 : Int64) := (by decide)
    have hS := own_st hv4
    have hLL := own_left (N := 1) (n := 1) (k := 1) (by decide) (by decide) (by decide) hv12 hv17
    have hF0 := own_flag hv6 hv22 hv35 hS
    obtain ⟨cq59, kq59, q59a, q59b, q59c⟩ := isOf hZ e53 A53_a51
    obtain ⟨_, _, ⟨T59, L59, k59, n59⟩, -, X59, ⟨Lc59, hQ59, l59, y59, z59⟩, st59⟩ := X53.virtualBack hx (y := (⟨"com/example/tributary/tributary/io/Silence", "resume", "([J)V"⟩ : MethodName)) (z := (⟨"com/example/tributary/tributary/io/Silence", "resume", "([J)V"⟩ : MethodName)) hown (mvT hZ (H 53 rfl)) (mvT hZ (H 54 rfl)) (notFace_of_selects (args := #[]) (mvT hZ (H 56 rfl))) (mvT hZ (H 56 rfl)) (mvT hZ (H 55 rfl)) (by decide) (backOf (W := 0) (rm7_1 l Z a0 hw [] a51 a44 rl52 rs52 rr52 rg52 rt52 ((0 : Int32)) ((0 : Int64)) ((-1 : Int32)) ((1 : Int32)) v4 q1 v17 v35 q2 q3 ((0 : Int64)) ((0 : Int64)) ((0 : Int32)) ((0 : Int32)) ((0 : Int32)) h53 n0 sz53 V53_a44 V53_rl52 V53_rs52 V53_rr52 V53_rg52 V53_rt52 A53_a51 F53_a51_0 F53_a51_1 F53_a51_2 F53_a51_3 F53_a51_4 F53_a51_7 F53_a51_8 F53_a51_6 F53_a51_5 ge_a51 ge_rs52 ge_rg52 ge_rt52 ge_rl52 ge_rr52 ne_a44_rl52 ne_a44_rs52 ne_a44_rr52 ne_a44_rg52 ne_a44_rt52 ne_a44_a51 ne_rl52_rs52 ne_rl52_rr52 ne_rl52_rg52 ne_rl52_rt52 (Ne.symm ne_a51_rl52) ne_rs52_rr52 ne_rs52_rg52 ne_rs52_rt52 (Ne.symm ne_a51_rs52) ne_rr52_rg52 ne_rr52_rt52 (Ne.symm ne_a51_rr52) ne_rg52_rt52 (Ne.symm ne_a51_rg52) (Ne.symm ne_a51_rt52) hS hLL hF0.1 (own_hl1 hLL hF0.2.2)) hZ (H 57 rfl) (H 14 rfl) (by decide) (by decide)) q59a q59c (g := (mkF m 351 #[iv q0, jv q1, s2, jv q2, s2, jv q3, s2, jv q4, s2, jv q5, s2, iv (1 : Int32), jv v4, s2, jv v35, s2, jv v38, s2, jv v41, s2, jv v17, s2, rv a44, rv a51, rv a53, iv (1 : Int32), u0, u0] [(.ref a44), (.ref a51)])) rfl (by rw [hml]; rfl) (Steps.refl _) (argsL := [(.ref a44)]) (rest := []) (lenOf pd_100 rfl) rfl (by show 2 * 0 + _ ≤ _; exact Nat.le_of_eq rfl) (D at_351) (fun _ _ => ⟨rfl, e53, (by decide : 8 + 0 ≤ _), (by decide : 28 + 0 ≤ _)⟩)
    dsimp only [Pt.U, Pt.locs, Pt.cells, Pt.slots] at X59 l59 y59 z59 st59 hQ59
    replace y59 : k59 = 8 := y59
    replace z59 : n59 = 28 := z59
    replace l59 := l59.symm; replace y59 := y59.symm; replace z59 := z59.symm; subst l59 y59 z59
    obtain ⟨rfl, N59q, K59, A59_o0, F59_o0, F59_o1, F59_o2, F59_o3, F59_o4, F59_o5, F59_o6, F59_o7, V59_o0, V59_o1, V59_o2, V59_o3, V59_o4, V59_o5⟩ := hQ59
    obtain ⟨h59, e59⟩ : ∃ z, T59.heap = z := ⟨_, rfl⟩
    rw [e59] at K59 A59_o0 F59_o0 F59_o1 F59_o2 F59_o3 F59_o4 F59_o5 F59_o6 F59_o7 V59_o0 V59_o1 V59_o2 V59_o3 V59_o4 V59_o5
    have V59_a44 := V53_a44.keep K59 (ninS ne_a44_a51 (ninS ne_a44_rs52 (ninS ne_a44_rg52 (ninS ne_a44_rt52 (ninS ne_a44_rl52 (ninS ne_a44_rr52 nin0))))))
    have V59_a53 := R53.keep K59 (ninS (Ne.symm ne_a51_a53) (ninS (Ne.symm ne_rs52_a53) (ninS (Ne.symm ne_rg52_a53) (ninS (Ne.symm ne_rt52_a53) (ninS (Ne.symm ne_rl52_a53) (ninS (Ne.symm ne_rr52_a53) nin0))))))
    have A59_a51 := A53_a51.keep K59
    have sz59 : n0 ≤ h59.size := Nat.le_trans sz53 K59.1
    have N59 := Fr.app N53 N59q
    obtain ⟨cq60, kq60, q60a, q60b, q60c⟩ := isOf hZ e59 A59_o0
    obtain ⟨_, _, ⟨T60, L60, k60, n60⟩, -, X60, ⟨Lc60, hQ60, l60, y60, z60⟩, st60⟩ := X59.virtualBack hx (y := (⟨"com/example/tributary/tributary/io/Silence", "measured", "()[J"⟩ : MethodName)) (z := (⟨"com/example/tributary/tributary/io/Silence", "measured", "()[J"⟩ : MethodName)) hown (mvT hZ (H 43 rfl)) (mvT hZ (H 44 rfl)) (notFace_of_selects (args := #[]) (mvT hZ (H 46 rfl))) (mvT hZ (H 46 rfl)) (mvT hZ (H 45 rfl)) (by decide) (backOf (W := 0) (rm6_1 l Z a0 hw [] a51 rl52 rs52 rr52 rg52 rt52 ((if v4 = (1 : Int64) then (1 : Int32) else (0 : Int32))) q1 ((v17).toInt32) q2 q3 (((if (v35 &&& (1 : Int64)) = (0 : Int64) then (0 : Int32) else (1 : Int32)) &&& 1)) (((if (v35 &&& (2 : Int64)) = (0 : Int64) then (0 : Int32) else (1 : Int32)) &&& 1)) (((if (v35 &&& (4 : Int64)) = (0 : Int64) then (0 : Int32) else (1 : Int32)) &&& 1)) h59 n0 sz59 V59_o1 V59_o2 V59_o3 V59_o4 V59_o5 A59_o0 F59_o0 F59_o1 F59_o2 F59_o3 F59_o4 F59_o5 F59_o6 F59_o7 ) hZ (H 47 rfl) (H 14 rfl) (by decide) (by decide)) q60a q60c (g := (mkF m 356 #[iv q0, jv q1, s2, jv q2, s2, jv q3, s2, jv q4, s2, jv q5, s2, iv (1 : Int32), jv v4, s2, jv v35, s2, jv v38, s2, jv v41, s2, jv v17, s2, rv a44, rv a51, rv a53, iv (1 : Int32), u0, u0] [(.ref a51)])) rfl (by rw [hml]; rfl) (Steps.refl _) (argsL := []) (rest := []) (lenOf pd_121 rfl) rfl (by show 2 * 0 + _ ≤ _; exact Nat.le_of_eq rfl) (D at_356) (fun _ _ => ⟨rfl, e59, (by decide : 8 + 1 ≤ _), (by decide : 28 + 6 ≤ _)⟩)
    dsimp only [Pt.U, Pt.locs, Pt.cells, Pt.slots] at X60 l60 y60 z60 st60 hQ60
    replace y60 : k60 = 9 := y60
    replace z60 : n60 = 34 := z60
    replace l60 := l60.symm; replace y60 := y60.symm; replace z60 := z60.symm; subst l60 y60 z60
    obtain ⟨rfl, N60q, K60, R60⟩ := hQ60
    obtain ⟨h60, e60⟩ : ∃ z, T60.heap = z := ⟨_, rfl⟩
    rw [e60] at K60 R60
    obtain ⟨a60, g60⟩ : ∃ z, z = h59.size := ⟨_, rfl⟩
    rw [← g60] at R60 st60
    have ne_a44_a60 : a44 ≠ a60 := g60 ▸ Nat.ne_of_lt V59_o0.lt
    have ne_rl52_a60 : rl52 ≠ a60 := g60 ▸ Nat.ne_of_lt V59_o1.lt
    have ne_rs52_a60 : rs52 ≠ a60 := g60 ▸ Nat.ne_of_lt V59_o2.lt
    have ne_rr52_a60 : rr52 ≠ a60 := g60 ▸ Nat.ne_of_lt V59_o3.lt
    have ne_rg52_a60 : rg52 ≠ a60 := g60 ▸ Nat.ne_of_lt V59_o4.lt
    have ne_rt52_a60 : rt52 ≠ a60 := g60 ▸ Nat.ne_of_lt V59_o5.lt
    have ne_a53_a60 : a53 ≠ a60 := g60 ▸ Nat.ne_of_lt V59_a53.lt
    have ne_a51_a60 : a51 ≠ a60 := g60 ▸ Nat.ne_of_lt A59_o0.lt
    have ge_a60 : n0 ≤ a60 := g60 ▸ sz59
    have V60_a44 := V59_o0.keep K60 nin0
    have V60_rl52 := V59_o1.keep K60 nin0
    have V60_rs52 := V59_o2.keep K60 nin0
    have V60_rr52 := V59_o3.keep K60 nin0
    have V60_rg52 := V59_o4.keep K60 nin0
    have V60_rt52 := V59_o5.keep K60 nin0
    have V60_a53 := V59_a53.keep K60 nin0
    have A60_a51 := A59_o0.keep K60
    have F60_a51_0 := F59_o0.keep K60 nin0
    have F60_a51_1 := F59_o1.keep K60 nin0
    have F60_a51_2 := F59_o2.keep K60 nin0
    have F60_a51_3 := F59_o3.keep K60 nin0
    have F60_a51_4 := F59_o4.keep K60 nin0
    have F60_a51_5 := F59_o5.keep K60 nin0
    have F60_a51_6 := F59_o6.keep K60 nin0
    have F60_a51_7 := F59_o7.keep K60 nin0
    have sz60 : n0 ≤ h60.size := Nat.le_trans sz59 K60.1
    have N60 := Fr.app N59 N60q
    have q61_0 : (if ((if v4 = (1 : Int64) then (1 : Int32) else (0 : Int32))) = (0 : Int32) then (0 : Int64) else (1 : Int64)) = v4 := own_s01 hS
    have q61_2 : (((v17).toInt32)).toInt64 = v17 := own_left2 (N := 1) (k := 1) (by decide) (by decide) hLL
    have q61_3 : (((if (((if (v35 &&& (1 : Int64)) = (0 : Int64) then (0 : Int32) else (1 : Int32)) &&& 1)) = (0 : Int32) then (0 : Int64) else (1 : Int64)) ||| (if (((if (v35 &&& (2 : Int64)) = (0 : Int64) then (0 : Int32) else (1 : Int32)) &&& 1)) = (0 : Int32) then (0 : Int64) else (2 : Int64))) ||| (if (((if (v35 &&& (4 : Int64)) = (0 : Int64) then (0 : Int32) else (1 : Int32)) &&& 1)) = (0 : Int32) then (0 : Int64) else (4 : Int64))) = v35 := hF0.2.1
    have V61_a : own_AJ Z h60 a60 [v4, q1, v17, v35, q2, q3] := by have w := R60; rw [q61_0, q61_2, q61_3] at w; exact w
    obtain ⟨_, _, ⟨T62, L62, k62, n62⟩, -, X62, ⟨Lc62, hQ62, l62, y62, z62⟩, st62⟩ := Jvm.LawKit.callS X60 hx (y := (⟨"com/example/tributary/tributary/io/SilenceMeasuredPinLaw", "at", "([J[JI)Z"⟩ : MethodName)) hown (mvT hZ (H 66 rfl)) (mvT hZ (H 67 rfl)) (mvT hZ (H 7 rfl)) (mvT hZ (H 68 rfl)) (by decide) (backOf (W := 0) (rm9 l Z a0 hw [] a60 a44 (0 : Int32) [v4, q1, v17, v35, q2, q3] [v4, q1, v17, v35, q2, q3] h60 n0 sz60 V61_a V60_a44 (show 6 ≤ 100 by decide) rfl (by decide)) hZ (H 68 rfl) (H 7 rfl) (by decide) (by decide)) (g := (mkF m 375 #[iv q0, jv q1, s2, jv q2, s2, jv q3, s2, jv q4, s2, jv q5, s2, iv (1 : Int32), jv v4, s2, jv v35, s2, jv v38, s2, jv v41, s2, jv v17, s2, rv a44, rv a51, rv a53, iv (1 : Int32), rv a60, u0] [(.int (0 : Int32)), (.ref a44), (.ref a60)])) rfl (by rw [hml]; rfl) (argsL := [(.ref a60), (.ref a44), (.int (0 : Int32))]) (rest := []) (lenOf pd_122 rfl) rfl (by show 2 * 0 + _ ≤ _; exact Nat.le_of_eq rfl) (D at_375) (fun _ _ => ⟨rfl, e60, (by decide : 9 + 0 ≤ _), (by decide : 34 + 0 ≤ _)⟩)
    dsimp only [Pt.U, Pt.locs, Pt.cells, Pt.slots] at X62 l62 y62 z62 st62 hQ62
    replace y62 : k62 = 9 := y62
    replace z62 : n62 = 34 := z62
    replace l62 := l62.symm; replace y62 := y62.symm; replace z62 := z62.symm; subst l62 y62 z62
    obtain ⟨rfl, N62q, e62⟩ := hQ62
    have N62 := Fr.app N60 N62q
    have c63 : ¬ ((own_f9 ((0 : Int32)) [v4, q1, v17, v35, q2, q3] [v4, q1, v17, v35, q2, q3]) = (0 : Int32)) := (own_notz _ _)
    obtain ⟨_, _, ⟨T64, L64, k64, n64⟩, -, X64, ⟨Lc64, hQ64, l64, y64, z64⟩, st64⟩ := Jvm.LawKit.callS X62 hx (y := (⟨"com/example/tributary/tributary/io/SilenceMeasuredPinLaw", "at", "([J[JI)Z"⟩ : MethodName)) hown (mvT hZ (H 66 rfl)) (mvT hZ (H 67 rfl)) (mvT hZ (H 7 rfl)) (mvT hZ (H 68 rfl)) (by decide) (backOf (W := 0) (rm9 l Z a0 hw [] a60 a44 (1 : Int32) [v4, q1, v17, v35, q2, q3] [v4, q1, v17, v35, q2, q3] h60 n0 sz60 V61_a V60_a44 (show 6 ≤ 100 by decide) rfl (by decide)) hZ (H 68 rfl) (H 7 rfl) (by decide) (by decide)) (g := (mkF m 386 #[iv q0, jv q1, s2, jv q2, s2, jv q3, s2, jv q4, s2, jv q5, s2, iv (1 : Int32), jv v4, s2, jv v35, s2, jv v38, s2, jv v41, s2, jv v17, s2, rv a44, rv a51, rv a53, iv (1 : Int32), rv a60, u0] [(.int (1 : Int32)), (.ref a44), (.ref a60)])) rfl (by rw [hml]; rfl) (argsL := [(.ref a60), (.ref a44), (.int (1 : Int32))]) (rest := []) (lenOf pd_122 rfl) rfl (by show 2 * 0 + _ ≤ _; exact Nat.le_of_eq rfl) (D at_386) (fun _ _ => ⟨rfl, e62, (by decide : 9 + 0 ≤ _), (by decide : 34 + 0 ≤ _)⟩)
    dsimp only [Pt.U, Pt.locs, Pt.cells, Pt.slots] at X64 l64 y64 z64 st64 hQ64
    replace y64 : k64 = 9 := y64
    replace z64 : n64 = 34 := z64
    replace l64 := l64.symm; replace y64 := y64.symm; replace z64 := z64.symm; subst l64 y64 z64
    obtain ⟨rfl, N64q, e64⟩ := hQ64
    have N64 := Fr.app N62 N64q
    have c65 : ¬ ((own_f9 ((1 : Int32)) [v4, q1, v17, v35, q2, q3] [v4, q1, v17, v35, q2, q3]) = (0 : Int32)) := (own_notz _ _)
    obtain ⟨_, _, ⟨T66, L66, k66, n66⟩, -, X66, ⟨Lc66, hQ66, l66, y66, z66⟩, st66⟩ := Jvm.LawKit.callS X64 hx (y := (⟨"com/example/tributary/tributary/io/SilenceMeasuredPinLaw", "at", "([J[JI)Z"⟩ : MethodName)) hown (mvT hZ (H 66 rfl)) (mvT hZ (H 67 rfl)) (mvT hZ (H 7 rfl)) (mvT hZ (H 68 rfl)) (by decide) (backOf (W := 0) (rm9 l Z a0 hw [] a60 a44 (2 : Int32) [v4, q1, v17, v35, q2, q3] [v4, q1, v17, v35, q2, q3] h60 n0 sz60 V61_a V60_a44 (show 6 ≤ 100 by decide) rfl (by decide)) hZ (H 68 rfl) (H 7 rfl) (by decide) (by decide)) (g := (mkF m 397 #[iv q0, jv q1, s2, jv q2, s2, jv q3, s2, jv q4, s2, jv q5, s2, iv (1 : Int32), jv v4, s2, jv v35, s2, jv v38, s2, jv v41, s2, jv v17, s2, rv a44, rv a51, rv a53, iv (1 : Int32), rv a60, u0] [(.int (2 : Int32)), (.ref a44), (.ref a60)])) rfl (by rw [hml]; rfl) (argsL := [(.ref a60), (.ref a44), (.int (2 : Int32))]) (rest := []) (lenOf pd_122 rfl) rfl (by show 2 * 0 + _ ≤ _; exact Nat.le_of_eq rfl) (D at_397) (fun _ _ => ⟨rfl, e64, (by decide : 9 + 0 ≤ _), (by decide : 34 + 0 ≤ _)⟩)
    dsimp only [Pt.U, Pt.locs, Pt.cells, Pt.slots] at X66 l66 y66 z66 st66 hQ66
    replace y66 : k66 = 9 := y66
    replace z66 : n66 = 34 := z66
    replace l66 := l66.symm; replace y66 := y66.symm; replace z66 := z66.symm; subst l66 y66 z66
    obtain ⟨rfl, N66q, e66⟩ := hQ66
    have N66 := Fr.app N64 N66q
    have c67 : ¬ ((own_f9 ((2 : Int32)) [v4, q1, v17, v35, q2, q3] [v4, q1, v17, v35, q2, q3]) = (0 : Int32)) := (own_notz _ _)
    obtain ⟨_, _, ⟨T68, L68, k68, n68⟩, -, X68, ⟨Lc68, hQ68, l68, y68, z68⟩, st68⟩ := Jvm.LawKit.callS X66 hx (y := (⟨"com/example/tributary/tributary/io/SilenceMeasuredPinLaw", "at", "([J[JI)Z"⟩ : MethodName)) hown (mvT hZ (H 66 rfl)) (mvT hZ (H 67 rfl)) (mvT hZ (H 7 rfl)) (mvT hZ (H 68 rfl)) (by decide) (backOf (W := 0) (rm9 l Z a0 hw [] a60 a44 (3 : Int32) [v4, q1, v17, v35, q2, q3] [v4, q1, v17, v35, q2, q3] h60 n0 sz60 V61_a V60_a44 (show 6 ≤ 100 by decide) rfl (by decide)) hZ (H 68 rfl) (H 7 rfl) (by decide) (by decide)) (g := (mkF m 408 #[iv q0, jv q1, s2, jv q2, s2, jv q3, s2, jv q4, s2, jv q5, s2, iv (1 : Int32), jv v4, s2, jv v35, s2, jv v38, s2, jv v41, s2, jv v17, s2, rv a44, rv a51, rv a53, iv (1 : Int32), rv a60, u0] [(.int (3 : Int32)), (.ref a44), (.ref a60)])) rfl (by rw [hml]; rfl) (argsL := [(.ref a60), (.ref a44), (.int (3 : Int32))]) (rest := []) (lenOf pd_122 rfl) rfl (by show 2 * 0 + _ ≤ _; exact Nat.le_of_eq rfl) (D at_408) (fun _ _ => ⟨rfl, e66, (by decide : 9 + 0 ≤ _), (by decide : 34 + 0 ≤ _)⟩)
    dsimp only [Pt.U, Pt.locs, Pt.cells, Pt.slots] at X68 l68 y68 z68 st68 hQ68
    replace y68 : k68 = 9 := y68
    replace z68 : n68 = 34 := z68
    replace l68 := l68.symm; replace y68 := y68.symm; replace z68 := z68.symm; subst l68 y68 z68
    obtain ⟨rfl, N68q, e68⟩ := hQ68
    have N68 := Fr.app N66 N68q
    have c69 : ¬ ((own_f9 ((3 : Int32)) [v4, q1, v17, v35, q2, q3] [v4, q1, v17, v35, q2, q3]) = (0 : Int32)) := (own_notz _ _)
    obtain ⟨_, _, ⟨T70, L70, k70, n70⟩, -, X70, ⟨Lc70, hQ70, l70, y70, z70⟩, st70⟩ := Jvm.LawKit.callS X68 hx (y := (⟨"com/example/tributary/tributary/io/SilenceMeasuredPinLaw", "at", "([J[JI)Z"⟩ : MethodName)) hown (mvT hZ (H 66 rfl)) (mvT hZ (H 67 rfl)) (mvT hZ (H 7 rfl)) (mvT hZ (H 68 rfl)) (by decide) (backOf (W := 0) (rm9 l Z a0 hw [] a60 a44 (4 : Int32) [v4, q1, v17, v35, q2, q3] [v4, q1, v17, v35, q2, q3] h60 n0 sz60 V61_a V60_a44 (show 6 ≤ 100 by decide) rfl (by decide)) hZ (H 68 rfl) (H 7 rfl) (by decide) (by decide)) (g := (mkF m 419 #[iv q0, jv q1, s2, jv q2, s2, jv q3, s2, jv q4, s2, jv q5, s2, iv (1 : Int32), jv v4, s2, jv v35, s2, jv v38, s2, jv v41, s2, jv v17, s2, rv a44, rv a51, rv a53, iv (1 : Int32), rv a60, u0] [(.int (4 : Int32)), (.ref a44), (.ref a60)])) rfl (by rw [hml]; rfl) (argsL := [(.ref a60), (.ref a44), (.int (4 : Int32))]) (rest := []) (lenOf pd_122 rfl) rfl (by show 2 * 0 + _ ≤ _; exact Nat.le_of_eq rfl) (D at_419) (fun _ _ => ⟨rfl, e68, (by decide : 9 + 0 ≤ _), (by decide : 34 + 0 ≤ _)⟩)
    dsimp only [Pt.U, Pt.locs, Pt.cells, Pt.slots] at X70 l70 y70 z70 st70 hQ70
    replace y70 : k70 = 9 := y70
    replace z70 : n70 = 34 := z70
    replace l70 := l70.symm; replace y70 := y70.symm; replace z70 := z70.symm; subst l70 y70 z70
    obtain ⟨rfl, N70q, e70⟩ := hQ70
    have N70 := Fr.app N68 N70q
    have c71 : ¬ ((own_f9 ((4 : Int32)) [v4, q1, v17, v35, q2, q3] [v4, q1, v17, v35, q2, q3]) = (0 : Int32)) := (own_notz _ _)
    obtain ⟨_, _, ⟨T72, L72, k72, n72⟩, -, X72, ⟨Lc72, hQ72, l72, y72, z72⟩, st72⟩ := Jvm.LawKit.callS X70 hx (y := (⟨"com/example/tributary/tributary/io/SilenceMeasuredPinLaw", "at", "([J[JI)Z"⟩ : MethodName)) hown (mvT hZ (H 66 rfl)) (mvT hZ (H 67 rfl)) (mvT hZ (H 7 rfl)) (mvT hZ (H 68 rfl)) (by decide) (backOf (W := 0) (rm9 l Z a0 hw [] a60 a44 (5 : Int32) [v4, q1, v17, v35, q2, q3] [v4, q1, v17, v35, q2, q3] h60 n0 sz60 V61_a V60_a44 (show 6 ≤ 100 by decide) rfl (by decide)) hZ (H 68 rfl) (H 7 rfl) (by decide) (by decide)) (g := (mkF m 430 #[iv q0, jv q1, s2, jv q2, s2, jv q3, s2, jv q4, s2, jv q5, s2, iv (1 : Int32), jv v4, s2, jv v35, s2, jv v38, s2, jv v41, s2, jv v17, s2, rv a44, rv a51, rv a53, iv (1 : Int32), rv a60, u0] [(.int (5 : Int32)), (.ref a44), (.ref a60)])) rfl (by rw [hml]; rfl) (argsL := [(.ref a60), (.ref a44), (.int (5 : Int32))]) (rest := []) (lenOf pd_122 rfl) rfl (by show 2 * 0 + _ ≤ _; exact Nat.le_of_eq rfl) (D at_430) (fun _ _ => ⟨rfl, e70, (by decide : 9 + 0 ≤ _), (by decide : 34 + 0 ≤ _)⟩)
    dsimp only [Pt.U, Pt.locs, Pt.cells, Pt.slots] at X72 l72 y72 z72 st72 hQ72
    replace y72 : k72 = 9 := y72
    replace z72 : n72 = 34 := z72
    replace l72 := l72.symm; replace y72 := y72.symm; replace z72 := z72.symm; subst l72 y72 z72
    obtain ⟨rfl, N72q, e72⟩ := hQ72
    have N72 := Fr.app N70 N72q
    have c73 : ¬ ((own_f9 ((5 : Int32)) [v4, q1, v17, v35, q2, q3] [v4, q1, v17, v35, q2, q3]) = (0 : Int32)) := (own_notz _ _)
    obtain ⟨_, _, ⟨T74, L74, k74, n74⟩, -, X74, ⟨Lc74, hQ74, l74, y74, z74⟩, st74⟩ := Jvm.LawKit.callS X72 hx (y := (⟨"com/example/tributary/tributary/io/SilenceMeasuredPinLaw", "at", "([J[JI)Z"⟩ : MethodName)) hown (mvT hZ (H 66 rfl)) (mvT hZ (H 67 rfl)) (mvT hZ (H 7 rfl)) (mvT hZ (H 68 rfl)) (by decide) (backOf (W := 0) (rm9 l Z a0 hw [] a60 a44 (6 : Int32) [v4, q1, v17, v35, q2, q3] [v4, q1, v17, v35, q2, q3] h60 n0 sz60 V61_a V60_a44 (show 6 ≤ 100 by decide) rfl (by decide)) hZ (H 68 rfl) (H 7 rfl) (by decide) (by decide)) (g := (mkF m 442 #[iv q0, jv q1, s2, jv q2, s2, jv q3, s2, jv q4, s2, jv q5, s2, iv (1 : Int32), jv v4, s2, jv v35, s2, jv v38, s2, jv v41, s2, jv v17, s2, rv a44, rv a51, rv a53, iv (1 : Int32), rv a60, u0] [(.int (6 : Int32)), (.ref a44), (.ref a60)])) rfl (by rw [hml]; rfl) (argsL := [(.ref a60), (.ref a44), (.int (6 : Int32))]) (rest := []) (lenOf pd_122 rfl) rfl (by show 2 * 0 + _ ≤ _; exact Nat.le_of_eq rfl) (D at_442) (fun _ _ => ⟨rfl, e72, (by decide : 9 + 0 ≤ _), (by decide : 34 + 0 ≤ _)⟩)
    dsimp only [Pt.U, Pt.locs, Pt.cells, Pt.slots] at X74 l74 y74 z74 st74 hQ74
    replace y74 : k74 = 9 := y74
    replace z74 : n74 = 34 := z74
    replace l74 := l74.symm; replace y74 := y74.symm; replace z74 := z74.symm; subst l74 y74 z74
    obtain ⟨rfl, N74q, e74⟩ := hQ74
    have N74 := Fr.app N72 N74q
    have c75 : ¬ ((own_f9 ((6 : Int32)) [v4, q1, v17, v35, q2, q3] [v4, q1, v17, v35, q2, q3]) = (0 : Int32)) := (own_notz _ _)
    obtain ⟨_, _, ⟨T76, L76, k76, n76⟩, -, X76, ⟨Lc76, hQ76, l76, y76, z76⟩, st76⟩ := Jvm.LawKit.callS X74 hx (y := (⟨"com/example/tributary/tributary/io/SilenceMeasuredPinLaw", "at", "([J[JI)Z"⟩ : MethodName)) hown (mvT hZ (H 66 rfl)) (mvT hZ (H 67 rfl)) (mvT hZ (H 7 rfl)) (mvT hZ (H 68 rfl)) (by decide) (backOf (W := 0) (rm9 l Z a0 hw [] a60 a44 (7 : Int32) [v4, q1, v17, v35, q2, q3] [v4, q1, v17, v35, q2, q3] h60 n0 sz60 V61_a V60_a44 (show 6 ≤ 100 by decide) rfl (by decide)) hZ (H 68 rfl) (H 7 rfl) (by decide) (by decide)) (g := (mkF m 454 #[iv q0, jv q1, s2, jv q2, s2, jv q3, s2, jv q4, s2, jv q5, s2, iv (1 : Int32), jv v4, s2, jv v35, s2, jv v38, s2, jv v41, s2, jv v17, s2, rv a44, rv a51, rv a53, iv (1 : Int32), rv a60, u0] [(.int (7 : Int32)), (.ref a44), (.ref a60)])) rfl (by rw [hml]; rfl) (argsL := [(.ref a60), (.ref a44), (.int (7 : Int32))]) (rest := []) (lenOf pd_122 rfl) rfl (by show 2 * 0 + _ ≤ _; exact Nat.le_of_eq rfl) (D at_454) (fun _ _ => ⟨rfl, e74, (by decide : 9 + 0 ≤ _), (by decide : 34 + 0 ≤ _)⟩)
    dsimp only [Pt.U, Pt.locs, Pt.cells, Pt.slots] at X76 l76 y76 z76 st76 hQ76
    replace y76 : k76 = 9 := y76
    replace z76 : n76 = 34 := z76
    replace l76 := l76.symm; replace y76 := y76.symm; replace z76 := z76.symm; subst l76 y76 z76
    obtain ⟨rfl, N76q, e76⟩ := hQ76
    have N76 := Fr.app N74 N76q
    have c77 : ¬ ((own_f9 ((7 : Int32)) [v4, q1, v17, v35, q2, q3] [v4, q1, v17, v35, q2, q3]) = (0 : Int32)) := (own_notz _ _)
    obtain ⟨_, _, ⟨T78, L78, k78, n78⟩, -, X78, ⟨Lc78, hQ78, l78, y78, z78⟩, st78⟩ := Jvm.LawKit.callS X76 hx (y := (⟨"com/example/tributary/tributary/io/SilenceMeasuredPinLaw", "at", "([J[JI)Z"⟩ : MethodName)) hown (mvT hZ (H 66 rfl)) (mvT hZ (H 67 rfl)) (mvT hZ (H 7 rfl)) (mvT hZ (H 68 rfl)) (by decide) (backOf (W := 0) (rm9 l Z a0 hw [] a60 a44 (8 : Int32) [v4, q1, v17, v35, q2, q3] [v4, q1, v17, v35, q2, q3] h60 n0 sz60 V61_a V60_a44 (show 6 ≤ 100 by decide) rfl (by decide)) hZ (H 68 rfl) (H 7 rfl) (by decide) (by decide)) (g := (mkF m 466 #[iv q0, jv q1, s2, jv q2, s2, jv q3, s2, jv q4, s2, jv q5, s2, iv (1 : Int32), jv v4, s2, jv v35, s2, jv v38, s2, jv v41, s2, jv v17, s2, rv a44, rv a51, rv a53, iv (1 : Int32), rv a60, u0] [(.int (8 : Int32)), (.ref a44), (.ref a60)])) rfl (by rw [hml]; rfl) (argsL := [(.ref a60), (.ref a44), (.int (8 : Int32))]) (rest := []) (lenOf pd_122 rfl) rfl (by show 2 * 0 + _ ≤ _; exact Nat.le_of_eq rfl) (D at_466) (fun _ _ => ⟨rfl, e76, (by decide : 9 + 0 ≤ _), (by decide : 34 + 0 ≤ _)⟩)
    dsimp only [Pt.U, Pt.locs, Pt.cells, Pt.slots] at X78 l78 y78 z78 st78 hQ78
    replace y78 : k78 = 9 := y78
    replace z78 : n78 = 34 := z78
    replace l78 := l78.symm; replace y78 := y78.symm; replace z78 := z78.symm; subst l78 y78 z78
    obtain ⟨rfl, N78q, e78⟩ := hQ78
    have N78 := Fr.app N76 N78q
    have c79 : ¬ ((own_f9 ((8 : Int32)) [v4, q1, v17, v35, q2, q3] [v4, q1, v17, v35, q2, q3]) = (0 : Int32)) := (own_notz _ _)
    obtain ⟨_, _, ⟨T80, L80, k80, n80⟩, -, X80, ⟨Lc80, hQ80, l80, y80, z80⟩, st80⟩ := Jvm.LawKit.callS X78 hx (y := (⟨"com/example/tributary/tributary/io/SilenceMeasuredPinLaw", "at", "([J[JI)Z"⟩ : MethodName)) hown (mvT hZ (H 66 rfl)) (mvT hZ (H 67 rfl)) (mvT hZ (H 7 rfl)) (mvT hZ (H 68 rfl)) (by decide) (backOf (W := 0) (rm9 l Z a0 hw [] a60 a44 (9 : Int32) [v4, q1, v17, v35, q2, q3] [v4, q1, v17, v35, q2, q3] h60 n0 sz60 V61_a V60_a44 (show 6 ≤ 100 by decide) rfl (by decide)) hZ (H 68 rfl) (H 7 rfl) (by decide) (by decide)) (g := (mkF m 478 #[iv q0, jv q1, s2, jv q2, s2, jv q3, s2, jv q4, s2, jv q5, s2, iv (1 : Int32), jv v4, s2, jv v35, s2, jv v38, s2, jv v41, s2, jv v17, s2, rv a44, rv a51, rv a53, iv (1 : Int32), rv a60, u0] [(.int (9 : Int32)), (.ref a44), (.ref a60)])) rfl (by rw [hml]; rfl) (argsL := [(.ref a60), (.ref a44), (.int (9 : Int32))]) (rest := []) (lenOf pd_122 rfl) rfl (by show 2 * 0 + _ ≤ _; exact Nat.le_of_eq rfl) (D at_478) (fun _ _ => ⟨rfl, e78, (by decide : 9 + 0 ≤ _), (by decide : 34 + 0 ≤ _)⟩)
    dsimp only [Pt.U, Pt.locs, Pt.cells, Pt.slots] at X80 l80 y80 z80 st80 hQ80
    replace y80 : k80 = 9 := y80
    replace z80 : n80 = 34 := z80
    replace l80 := l80.symm; replace y80 := y80.symm; replace z80 := z80.symm; subst l80 y80 z80
    obtain ⟨rfl, N80q, e80⟩ := hQ80
    have N80 := Fr.app N78 N80q
    have c81 : ¬ ((own_f9 ((9 : Int32)) [v4, q1, v17, v35, q2, q3] [v4, q1, v17, v35, q2, q3]) = (0 : Int32)) := (own_notz _ _)
    have pre82 : ∀ t, Steps p.tables e below (T80.setTop (mkF m 484 #[iv q0, jv q1, s2, jv q2, s2, jv q3, s2, jv q4, s2, jv q5, s2, iv (1 : Int32), jv v4, s2, jv v35, s2, jv v38, s2, jv v41, s2, jv v17, s2, rv a44, rv a51, rv a53, iv (1 : Int32), rv a60, u0] [])) t → Steps p.tables e below B0 t := by
      intro t k
      refine pre57 t ?_
      show Steps p.tables e below (T53.setTop (mkF m 334 #[iv q0, jv q1, s2, jv q2, s2, jv q3, s2, jv q4, s2, jv q5, s2, iv (1 : Int32), jv v4, s2, jv v35, s2, jv v38, s2, jv v41, s2, jv v17, s2, rv a44, rv a51, rv a53, u0, u0, u0] [(.int (3 : Int32)), (.ref a53)])) _
      refine own_laload X53 hx hZ e53 R53 (show 0 ≤ Int32.toInt (3 : Int32) ∧ Int32.toInt (3 : Int32) < ((6 : Nat) : Int) by decide) (D at_334) _ ?_
      refine XS.lconst X53.here hx rfl (D at_335) ?_
      refine XS.lcmp X53.here hx rfl (D at_336) rfl ?_
      show Steps p.tables e below (T53.setTop (mkF m 337 #[iv q0, jv q1, s2, jv q2, s2, jv q3, s2, jv q4, s2, jv q5, s2, iv (1 : Int32), jv v4, s2, jv v35, s2, jv v38, s2, jv v41, s2, jv v17, s2, rv a44, rv a51, rv a53, u0, u0, u0] [(.int (lcmpW (((if ((0 : Int32)) = (0 : Int32) then (0 : Int64) else (1 : Int64)) ||| (if ((0 : Int32)) = (0 : Int32) then (0 : Int64) else (2 : Int64))) ||| (if ((0 : Int32)) = (0 : Int32) then (0 : Int64) else (4 : Int64))) (0 : Int64)))])) _
      refine XS.ifNo X53.here hx rfl (D at_337) rfl ((if0 _ _).trans (teq ((lw_eq (((if ((0 : Int32)) = (0 : Int32) then (0 : Int64) else (1 : Int64)) ||| (if ((0 : Int32)) = (0 : Int32) then (0 : Int64) else (2 : Int64))) ||| (if ((0 : Int32)) = (0 : Int32) then (0 : Int64) else (4 : Int64))) (0 : Int64)).mpr c58)).2) ?_
      refine XS.iconst X53.here hx rfl (D at_340) ?_
      refine XS.goto X53.here hx rfl (pc0 := 341) (pc' := 345) rfl (D at_341) (by decide) (by decide) ?_
      refine XS.istore X53.here hx rfl (D at_345) rfl (l' := #[iv q0, jv q1, s2, jv q2, s2, jv q3, s2, jv q4, s2, jv q5, s2, iv (1 : Int32), jv v4, s2, jv v35, s2, jv v38, s2, jv v41, s2, jv v17, s2, rv a44, rv a51, rv a53, iv (1 : Int32), u0, u0]) rfl ?_
      refine XS.aload X53.here hx rfl (D at_347) rfl rfl ?_
      refine XS.aload X53.here hx rfl (D at_349) rfl rfl ?_
      refine st59.trans ?_
      refine XS.aload X59.here hx rfl (D at_354) rfl rfl ?_
      refine st60.trans ?_
      refine XS.astore X60.here hx rfl (D at_359) rfl rfl (l' := #[iv q0, jv q1, s2, jv q2, s2, jv q3, s2, jv q4, s2, jv q5, s2, iv (1 : Int32), jv v4, s2, jv v35, s2, jv v38, s2, jv v41, s2, jv v17, s2, rv a44, rv a51, rv a53, iv (1 : Int32), rv a60, u0]) rfl ?_
      refine XS.aload X60.here hx rfl (D at_361) rfl rfl ?_
      refine own_alenJ X60 hx hZ e60 V61_a (D at_363) _ ?_
      refine XS.aload X60.here hx rfl (D at_364) rfl rfl ?_
      refine own_alenJ X60 hx hZ e60 V60_a44 (D at_366) _ ?_
      show Steps p.tables e below (T60.setTop (mkF m 367 #[iv q0, jv q1, s2, jv q2, s2, jv q3, s2, jv q4, s2, jv q5, s2, iv (1 : Int32), jv v4, s2, jv v35, s2, jv v38, s2, jv v41, s2, jv v17, s2, rv a44, rv a51, rv a53, iv (1 : Int32), rv a60, u0] [(.int (6 : Int32)), (.int (6 : Int32))])) _
      refine XS.icmpNo X60.here hx rfl (D at_367) rfl (by decide) ?_
      refine XS.aload X60.here hx rfl (D at_370) rfl rfl ?_
      refine XS.aload X60.here hx rfl (D at_372) rfl rfl ?_
      refine XS.iconst X60.here hx rfl (D at_374) ?_
      refine st62 _ ?_
      show Steps p.tables e below (T62.setTop (mkF m 378 #[iv q0, jv q1, s2, jv q2, s2, jv q3, s2, jv q4, s2, jv q5, s2, iv (1 : Int32), jv v4, s2, jv v35, s2, jv v38, s2, jv v41, s2, jv v17, s2, rv a44, rv a51, rv a53, iv (1 : Int32), rv a60, u0] [(.int (own_f9 ((0 : Int32)) [v4, q1, v17, v35, q2, q3] [v4, q1, v17, v35, q2, q3]))])) _
      refine XS.ifNo X62.here hx rfl (D at_378) rfl ((if0 _ _).trans (feq c63).1) ?_
      refine XS.aload X62.here hx rfl (D at_381) rfl rfl ?_
      refine XS.aload X62.here hx rfl (D at_383) rfl rfl ?_
      refine XS.iconst X62.here hx rfl (D at_385) ?_
      refine st64 _ ?_
      show Steps p.tables e below (T64.setTop (mkF m 389 #[iv q0, jv q1, s2, jv q2, s2, jv q3, s2, jv q4, s2, jv q5, s2, iv (1 : Int32), jv v4, s2, jv v35, s2, jv v38, s2, jv v41, s2, jv v17, s2, rv a44, rv a51, rv a53, iv (1 : Int32), rv a60, u0] [(.int (own_f9 ((1 : Int32)) [v4, q1, v17, v35, q2, q3] [v4, q1, v17, v35, q2, q3]))])) _
      refine XS.ifNo X64.here hx rfl (D at_389) rfl ((if0 _ _).trans (feq c65).1) ?_
      refine XS.aload X64.here hx rfl (D at_392) rfl rfl ?_
      show Steps p.tables e below (T64.setTop (mkF m 394 #[iv q0, jv q1, s2, jv q2, s2, jv q3, s2, jv q4, s2, jv q5, s2, iv (1 : Int32), jv v4, s2, jv v35, s2, jv v38, s2, jv v41, s2, jv v17, s2, rv a44, rv a51, rv a53, iv (1 : Int32), rv a60, u0] [(.ref a60)])) _
      refine XS.aload X64.here hx rfl (D at_394) rfl rfl ?_
      refine XS.iconst X64.here hx rfl (D at_396) ?_
      refine st66 _ ?_
      show Steps p.tables e below (T66.setTop (mkF m 400 #[iv q0, jv q1, s2, jv q2, s2, jv q3, s2, jv q4, s2, jv q5, s2, iv (1 : Int32), jv v4, s2, jv v35, s2, jv v38, s2, jv v41, s2, jv v17, s2, rv a44, rv a51, rv a53, iv (1 : Int32), rv a60, u0] [(.int (own_f9 ((2 : Int32)) [v4, q1, v17, v35, q2, q3] [v4, q1, v17, v35, q2, q3]))])) _
      refine XS.ifNo X66.here hx rfl (D at_400) rfl ((if0 _ _).trans (feq c67).1) ?_
      refine XS.aload X66.here hx rfl (D at_403) rfl rfl ?_
      refine XS.aload X66.here hx rfl (D at_405) rfl rfl ?_
      refine XS.iconst X66.here hx rfl (D at_407) ?_
      refine st68 _ ?_
      show Steps p.tables e below (T68.setTop (mkF m 411 #[iv q0, jv q1, s2, jv q2, s2, jv q3, s2, jv q4, s2, jv q5, s2, iv (1 : Int32), jv v4, s2, jv v35, s2, jv v38, s2, jv v41, s2, jv v17, s2, rv a44, rv a51, rv a53, iv (1 : Int32), rv a60, u0] [(.int (own_f9 ((3 : Int32)) [v4, q1, v17, v35, q2, q3] [v4, q1, v17, v35, q2, q3]))])) _
      refine XS.ifNo X68.here hx rfl (D at_411) rfl ((if0 _ _).trans (feq c69).1) ?_
      refine XS.aload X68.here hx rfl (D at_414) rfl rfl ?_
      refine XS.aload X68.here hx rfl (D at_416) rfl rfl ?_
      refine XS.iconst X68.here hx rfl (D at_418) ?_
      refine st70 _ ?_
      show Steps p.tables e below (T70.setTop (mkF m 422 #[iv q0, jv q1, s2, jv q2, s2, jv q3, s2, jv q4, s2, jv q5, s2, iv (1 : Int32), jv v4, s2, jv v35, s2, jv v38, s2, jv v41, s2, jv v17, s2, rv a44, rv a51, rv a53, iv (1 : Int32), rv a60, u0] [(.int (own_f9 ((4 : Int32)) [v4, q1, v17, v35, q2, q3] [v4, q1, v17, v35, q2, q3]))])) _
      refine XS.ifNo X70.here hx rfl (D at_422) rfl ((if0 _ _).trans (feq c71).1) ?_
      refine XS.aload X70.here hx rfl (D at_425) rfl rfl ?_
      refine XS.aload X70.here hx rfl (D at_427) rfl rfl ?_
      refine XS.iconst X70.here hx rfl (D at_429) ?_
      refine st72 _ ?_
      show Steps p.tables e below (T72.setTop (mkF m 433 #[iv q0, jv q1, s2, jv q2, s2, jv q3, s2, jv q4, s2, jv q5, s2, iv (1 : Int32), jv v4, s2, jv v35, s2, jv v38, s2, jv v41, s2, jv v17, s2, rv a44, rv a51, rv a53, iv (1 : Int32), rv a60, u0] [(.int (own_f9 ((5 : Int32)) [v4, q1, v17, v35, q2, q3] [v4, q1, v17, v35, q2, q3]))])) _
      refine XS.ifNo X72.here hx rfl (D at_433) rfl ((if0 _ _).trans (feq c73).1) ?_
      refine XS.aload X72.here hx rfl (D at_436) rfl rfl ?_
      refine XS.aload X72.here hx rfl (D at_438) rfl rfl ?_
      refine XS.bipush X72.here hx rfl (D at_440) ?_
      refine st74 _ ?_
      show Steps p.tables e below (T74.setTop (mkF m 445 #[iv q0, jv q1, s2, jv q2, s2, jv q3, s2, jv q4, s2, jv q5, s2, iv (1 : Int32), jv v4, s2, jv v35, s2, jv v38, s2, jv v41, s2, jv v17, s2, rv a44, rv a51, rv a53, iv (1 : Int32), rv a60, u0] [(.int (own_f9 ((6 : Int32)) [v4, q1, v17, v35, q2, q3] [v4, q1, v17, v35, q2, q3]))])) _
      refine XS.ifNo X74.here hx rfl (D at_445) rfl ((if0 _ _).trans (feq c75).1) ?_
      refine XS.aload X74.here hx rfl (D at_448) rfl rfl ?_
      refine XS.aload X74.here hx rfl (D at_450) rfl rfl ?_
      refine XS.bipush X74.here hx rfl (D at_452) ?_
      refine st76 _ ?_
      show Steps p.tables e below (T76.setTop (mkF m 457 #[iv q0, jv q1, s2, jv q2, s2, jv q3, s2, jv q4, s2, jv q5, s2, iv (1 : Int32), jv v4, s2, jv v35, s2, jv v38, s2, jv v41, s2, jv v17, s2, rv a44, rv a51, rv a53, iv (1 : Int32), rv a60, u0] [(.int (own_f9 ((7 : Int32)) [v4, q1, v17, v35, q2, q3] [v4, q1, v17, v35, q2, q3]))])) _
      refine XS.ifNo X76.here hx rfl (D at_457) rfl ((if0 _ _).trans (feq c77).1) ?_
      refine XS.aload X76.here hx rfl (D at_460) rfl rfl ?_
      refine XS.aload X76.here hx rfl (D at_462) rfl rfl ?_
      refine XS.bipush X76.here hx rfl (D at_464) ?_
      refine st78 _ ?_
      show Steps p.tables e below (T78.setTop (mkF m 469 #[iv q0, jv q1, s2, jv q2, s2, jv q3, s2, jv q4, s2, jv q5, s2, iv (1 : Int32), jv v4, s2, jv v35, s2, jv v38, s2, jv v41, s2, jv v17, s2, rv a44, rv a51, rv a53, iv (1 : Int32), rv a60, u0] [(.int (own_f9 ((8 : Int32)) [v4, q1, v17, v35, q2, q3] [v4, q1, v17, v35, q2, q3]))])) _
      refine XS.ifNo X78.here hx rfl (D at_469) rfl ((if0 _ _).trans (feq c79).1) ?_
      refine XS.aload X78.here hx rfl (D at_472) rfl rfl ?_
      refine XS.aload X78.here hx rfl (D at_474) rfl rfl ?_
      refine XS.bipush X78.here hx rfl (D at_476) ?_
      refine st80 _ ?_
      show Steps p.tables e below (T80.setTop (mkF m 481 #[iv q0, jv q1, s2, jv q2, s2, jv q3, s2, jv q4, s2, jv q5, s2, iv (1 : Int32), jv v4, s2, jv v35, s2, jv v38, s2, jv v41, s2, jv v17, s2, rv a44, rv a51, rv a53, iv (1 : Int32), rv a60, u0] [(.int (own_f9 ((9 : Int32)) [v4, q1, v17, v35, q2, q3] [v4, q1, v17, v35, q2, q3]))])) _
      refine XS.ifNo X80.here hx rfl (D at_481) rfl ((if0 _ _).trans (feq c81).1) ?_
      exact k
    clear X53 R53 e53 V53_a44 V53_rl52 V53_rs52 V53_rr52 V53_rg52 V53_rt52 A53_a51 F53_a51_0 F53_a51_1 F53_a51_2 F53_a51_3 F53_a51_4 F53_a51_5 F53_a51_6 F53_a51_7 F53_a51_8 sz53 N53 pre57 X59 st59 N59q K59 A59_o0 F59_o0 F59_o1 F59_o2 F59_o3 F59_o4 F59_o5 F59_o6 F59_o7 V59_o0 V59_o1 V59_o2 V59_o3 V59_o4 V59_o5 e59 V59_a44 V59_a53 A59_a51 sz59 N59 X60 st60 N60q K60 R60 e60 N60 X62 st62 N62q e62 N62 X64 st64 N64q e64 N64 X66 st66 N66q e66 N66 X68 st68 N68q e68 N68 X70 st70 N70q e70 N70 X72 st72 N72q e72 N72 X74 st74 N74q e74 N74 X76 st76 N76q e76 N76 X78 st78 N78q e78 N78 st80 N80q
    obtain ⟨_, _, ⟨T83, L83, k83, n83⟩, -, X83, ⟨Lc83, hQ83, l83, y83, z83⟩, st83⟩ := Jvm.LawKit.callS X80 hx (y := (⟨"com/example/tributary/tributary/io/SilenceMeasuredPinLaw", "at", "([J[JI)Z"⟩ : MethodName)) hown (mvT hZ (H 66 rfl)) (mvT hZ (H 67 rfl)) (mvT hZ (H 7 rfl)) (mvT hZ (H 68 rfl)) (by decide) (backOf (W := 0) (rm9 l Z a0 hw [] a60 a44 (10 : Int32) [v4, q1, v17, v35, q2, q3] [v4, q1, v17, v35, q2, q3] h60 n0 sz60 V61_a V60_a44 (show 6 ≤ 100 by decide) rfl (by decide)) hZ (H 68 rfl) (H 7 rfl) (by decide) (by decide)) (g := (mkF m 490 #[iv q0, jv q1, s2, jv q2, s2, jv q3, s2, jv q4, s2, jv q5, s2, iv (1 : Int32), jv v4, s2, jv v35, s2, jv v38, s2, jv v41, s2, jv v17, s2, rv a44, rv a51, rv a53, iv (1 : Int32), rv a60, u0] [(.int (10 : Int32)), (.ref a44), (.ref a60)])) rfl (by rw [hml]; rfl) (argsL := [(.ref a60), (.ref a44), (.int (10 : Int32))]) (rest := []) (lenOf pd_122 rfl) rfl (by show 2 * 0 + _ ≤ _; exact Nat.le_of_eq rfl) (D at_490) (fun _ _ => ⟨rfl, e80, (by decide : 9 + 0 ≤ _), (by decide : 34 + 0 ≤ _)⟩)
    dsimp only [Pt.U, Pt.locs, Pt.cells, Pt.slots] at X83 l83 y83 z83 st83 hQ83
    replace y83 : k83 = 9 := y83
    replace z83 : n83 = 34 := z83
    replace l83 := l83.symm; replace y83 := y83.symm; replace z83 := z83.symm; subst l83 y83 z83
    obtain ⟨rfl, N83q, e83⟩ := hQ83
    have N83 := Fr.app N80 N83q
    have c84 : ¬ ((own_f9 ((10 : Int32)) [v4, q1, v17, v35, q2, q3] [v4, q1, v17, v35, q2, q3]) = (0 : Int32)) := (own_notz _ _)
    obtain ⟨_, _, ⟨T85, L85, k85, n85⟩, -, X85, ⟨Lc85, hQ85, l85, y85, z85⟩, st85⟩ := Jvm.LawKit.callS X83 hx (y := (⟨"com/example/tributary/tributary/io/SilenceMeasuredPinLaw", "at", "([J[JI)Z"⟩ : MethodName)) hown (mvT hZ (H 66 rfl)) (mvT hZ (H 67 rfl)) (mvT hZ (H 7 rfl)) (mvT hZ (H 68 rfl)) (by decide) (backOf (W := 0) (rm9 l Z a0 hw [] a60 a44 (11 : Int32) [v4, q1, v17, v35, q2, q3] [v4, q1, v17, v35, q2, q3] h60 n0 sz60 V61_a V60_a44 (show 6 ≤ 100 by decide) rfl (by decide)) hZ (H 68 rfl) (H 7 rfl) (by decide) (by decide)) (g := (mkF m 502 #[iv q0, jv q1, s2, jv q2, s2, jv q3, s2, jv q4, s2, jv q5, s2, iv (1 : Int32), jv v4, s2, jv v35, s2, jv v38, s2, jv v41, s2, jv v17, s2, rv a44, rv a51, rv a53, iv (1 : Int32), rv a60, u0] [(.int (11 : Int32)), (.ref a44), (.ref a60)])) rfl (by rw [hml]; rfl) (argsL := [(.ref a60), (.ref a44), (.int (11 : Int32))]) (rest := []) (lenOf pd_122 rfl) rfl (by show 2 * 0 + _ ≤ _; exact Nat.le_of_eq rfl) (D at_502) (fun _ _ => ⟨rfl, e83, (by decide : 9 + 0 ≤ _), (by decide : 34 + 0 ≤ _)⟩)
    dsimp only [Pt.U, Pt.locs, Pt.cells, Pt.slots] at X85 l85 y85 z85 st85 hQ85
    replace y85 : k85 = 9 := y85
    replace z85 : n85 = 34 := z85
    replace l85 := l85.symm; replace y85 := y85.symm; replace z85 := z85.symm; subst l85 y85 z85
    obtain ⟨rfl, N85q, e85⟩ := hQ85
    have N85 := Fr.app N83 N85q
    have c86 : ¬ ((own_f9 ((11 : Int32)) [v4, q1, v17, v35, q2, q3] [v4, q1, v17, v35, q2, q3]) = (0 : Int32)) := (own_notz _ _)
    obtain ⟨fs, hr, hrun, hended, hW, hsame⟩ := X85.leave (v := some (.int (1 : Int32))) (fun h => by rw [Bd.returns] at h; cases h) hlk
    refine ⟨_, _, pre82 _ ?_, hrun, hended, _, _, rfl, ?_, ⟨_, rfl⟩, hW, hsame.mono (by decide) (by decide)⟩
    · show Steps p.tables e below (T80.setTop (mkF m 484 #[iv q0, jv q1, s2, jv q2, s2, jv q3, s2, jv q4, s2, jv q5, s2, iv (1 : Int32), jv v4, s2, jv v35, s2, jv v38, s2, jv v41, s2, jv v17, s2, rv a44, rv a51, rv a53, iv (1 : Int32), rv a60, u0] [])) _
      refine XS.aload X80.here hx rfl (D at_484) rfl rfl ?_
      refine XS.aload X80.here hx rfl (D at_486) rfl rfl ?_
      refine XS.bipush X80.here hx rfl (D at_488) ?_
      refine st83 _ ?_
      show Steps p.tables e below (T83.setTop (mkF m 493 #[iv q0, jv q1, s2, jv q2, s2, jv q3, s2, jv q4, s2, jv q5, s2, iv (1 : Int32), jv v4, s2, jv v35, s2, jv v38, s2, jv v41, s2, jv v17, s2, rv a44, rv a51, rv a53, iv (1 : Int32), rv a60, u0] [(.int (own_f9 ((10 : Int32)) [v4, q1, v17, v35, q2, q3] [v4, q1, v17, v35, q2, q3]))])) _
      refine XS.ifNo X83.here hx rfl (D at_493) rfl ((if0 _ _).trans (feq c84).1) ?_
      refine XS.aload X83.here hx rfl (D at_496) rfl rfl ?_
      refine XS.aload X83.here hx rfl (D at_498) rfl rfl ?_
      refine XS.bipush X83.here hx rfl (D at_500) ?_
      refine st85 _ ?_
      show Steps p.tables e below (T85.setTop (mkF m 505 #[iv q0, jv q1, s2, jv q2, s2, jv q3, s2, jv q4, s2, jv q5, s2, iv (1 : Int32), jv v4, s2, jv v35, s2, jv v38, s2, jv v41, s2, jv v17, s2, rv a44, rv a51, rv a53, iv (1 : Int32), rv a60, u0] [(.int (own_f9 ((11 : Int32)) [v4, q1, v17, v35, q2, q3] [v4, q1, v17, v35, q2, q3]))])) _
      refine XS.ifNo X85.here hx rfl (D at_505) rfl ((if0 _ _).trans (feq c86).1) ?_
      refine XS.iconst X85.here hx rfl (D at_508) ?_
      show Steps p.tables e below (T85.setTop (mkF m 509 #[iv q0, jv q1, s2, jv q2, s2, jv q3, s2, jv q4, s2, jv q5, s2, iv (1 : Int32), jv v4, s2, jv v35, s2, jv v38, s2, jv v41, s2, jv v17, s2, rv a44, rv a51, rv a53, iv (1 : Int32), rv a60, u0] [(.int (1 : Int32))])) _
      refine XS.goto X85.here hx rfl (pc0 := 509) (pc' := 513) rfl (D at_509) (by decide) (by decide) ?_
      refine XS.istore X85.here hx rfl (D at_513) rfl (l' := #[iv q0, jv q1, s2, jv q2, s2, jv q3, s2, jv q4, s2, jv q5, s2, iv (1 : Int32), jv v4, s2, jv v35, s2, jv v38, s2, jv v41, s2, jv v17, s2, rv a44, rv a51, rv a53, iv (1 : Int32), rv a60, iv (1 : Int32)]) rfl ?_
      refine XS.iload X85.here hx rfl (D at_515) rfl ?_
      show Steps p.tables e below (T85.setTop (mkF m 517 #[iv q0, jv q1, s2, jv q2, s2, jv q3, s2, jv q4, s2, jv q5, s2, iv (1 : Int32), jv v4, s2, jv v35, s2, jv v38, s2, jv v41, s2, jv v17, s2, rv a44, rv a51, rv a53, iv (1 : Int32), rv a60, iv (1 : Int32)] [(.int (1 : Int32))])) _
      refine XS.ifNo X85.here hx rfl (D at_517) rfl (by decide) ?_
      refine XS.iload X85.here hx rfl (D at_520) rfl ?_
      show Steps p.tables e below (T85.setTop (mkF m 522 #[iv q0, jv q1, s2, jv q2, s2, jv q3, s2, jv q4, s2, jv q5, s2, iv (1 : Int32), jv v4, s2, jv v35, s2, jv v38, s2, jv v41, s2, jv v17, s2, rv a44, rv a51, rv a53, iv (1 : Int32), rv a60, iv (1 : Int32)] [(.int (1 : Int32))])) _
      refine XS.ifNo X85.here hx rfl (D at_522) rfl (by decide) ?_
      refine XS.aload X85.here hx rfl (D at_525) rfl rfl ?_
      refine XS.aload X85.here hx rfl (D at_527) rfl rfl ?_
      refine XS.acmpNo X85.here hx rfl (D at_529) rfl (by simp [if_acmp.holds, (Ne.symm ne_a44_a60)]) ?_
      refine XS.aload X85.here hx rfl (D at_532) rfl rfl ?_
      refine XS.aload X85.here hx rfl (D at_534) rfl rfl ?_
      refine XS.acmpNo X85.here hx rfl (D at_536) rfl (by simp [if_acmp.holds, (Ne.symm ne_a53_a60)]) ?_
      refine XS.iconst X85.here hx rfl (D at_539) ?_
      refine XS.goto X85.here hx rfl (pc0 := 540) (pc' := 544) rfl (D at_540) (by decide) (by decide) ?_
      show Steps p.tables e below (T85.setTop (mkF m 544 #[iv q0, jv q1, s2, jv q2, s2, jv q3, s2, jv q4, s2, jv q5, s2, iv (1 : Int32), jv v4, s2, jv v35, s2, jv v38, s2, jv v41, s2, jv v17, s2, rv a44, rv a51, rv a53, iv (1 : Int32), rv a60, iv (1 : Int32)] [(.int (1 : Int32))])) _
      exact retN X85 hx (t := .boolean) Bd.returns (by simp) (D at_544) hr
    · show Q0 Z q0 q1 q2 q3 q4 q5 h0 n0 _ T85.heap _
      rw [e85]
      exact ⟨by have w_hv41 := hv41.symm; subst w_hv41; have w_hv38 := hv38.symm; subst w_hv38; have w_hv35 := hv35.symm; subst w_hv35; have w_hv32 := hv32.symm; subst w_hv32; have w_hv27 := hv27.symm; subst w_hv27; have w_hv22 := hv22.symm; subst w_hv22; have w_hv17 := hv17.symm; subst w_hv17; have w_hv12 := hv12.symm; subst w_hv12; have w_hv10 := hv10.symm; subst w_hv10; have w_hv8 := hv8.symm; subst w_hv8; have w_hv6 := hv6.symm; subst w_hv6; have w_hv4 := hv4.symm; subst w_hv4; simp only [own_f0, ← hv2, if_pos (rfl : (1 : Int32) = (1 : Int32)), if_true, if_false], N85⟩
  · obtain ⟨T87, h87, cA87, X87, e87, E87, A87, st87⟩ := newP X40 hx hZ (aty := .long) (H 11 rfl) e40 (g := (mkF m 168 #[iv q0, jv q1, s2, jv q2, s2, jv q3, s2, jv q4, s2, jv q5, s2, iv (2 : Int32), jv v4, s2, jv v35, s2, jv v38, s2, jv v41, s2, jv v17, s2, u0, u0, u0, u0, u0, u0] [(.int (9 : Int32))])) rfl (D at_168) rfl (by decide) (cap := 9) (by decide) (by decide) (by decide) (by decide)
    obtain ⟨a87, g87⟩ : ∃ z, z = h0.size := ⟨_, rfl⟩
    rw [← g87] at A87 st87
    have ge_a87 : n0 ≤ a87 := g87 ▸ Z0
    have sz87 := Nat.le_trans Z0 E87.1
    have V87_n : own_AJ Z h87 a87 [(0 : Int64), (0 : Int64), (0 : Int64), (0 : Int64), (0 : Int64), (0 : Int64), (0 : Int64), (0 : Int64), (0 : Int64)] := own_AJ_new A87 (k := 9) (by decide)
    obtain ⟨T88, h88, X88, e88, W88, V88, st88⟩ := own_lastore X87 hx hZ e87 V87_n (j := (0 : Int32)) (show 0 ≤ Int32.toInt (0 : Int32) ∧ Int32.toInt (0 : Int32) < ((9 : Nat) : Int) by decide) (x := v4) (D at_184)
    have sz88 := Nat.le_trans sz87 (Keep.of_wr W88).1
    have N88 := Fr.snoc X88 N40 ge_a87
    have V88_n : own_AJ Z h88 a87 [v4, (0 : Int64), (0 : Int64), (0 : Int64), (0 : Int64), (0 : Int64), (0 : Int64), (0 : Int64), (0 : Int64)] := V88
    obtain ⟨T89, h89, X89, e89, W89, V89, st89⟩ := own_lastore X88 hx hZ e88 V88_n (j := (1 : Int32)) (show 0 ≤ Int32.toInt (1 : Int32) ∧ Int32.toInt (1 : Int32) < ((9 : Nat) : Int) by decide) (x := q1) (D at_189)
    have sz89 := Nat.le_trans sz88 (Keep.of_wr W89).1
    have N89 := Fr.snoc X89 N88 ge_a87
    have V89_n : own_AJ Z h89 a87 [v4, q1, (0 : Int64), (0 : Int64), (0 : Int64), (0 : Int64), (0 : Int64), (0 : Int64), (0 : Int64)] := V89
    obtain ⟨T90, h90, X90, e90, W90, V90, st90⟩ := own_lastore X89 hx hZ e89 V89_n (j := (2 : Int32)) (show 0 ≤ Int32.toInt (2 : Int32) ∧ Int32.toInt (2 : Int32) < ((9 : Nat) : Int) by decide) (x := v17) (D at_195)
    have sz90 := Nat.le_trans sz89 (Keep.of_wr W90).1
    have N90 := Fr.snoc X90 N89 ge_a87
    have V90_n : own_AJ Z h90 a87 [v4, q1, v17, (0 : Int64), (0 : Int64), (0 : Int64), (0 : Int64), (0 : Int64), (0 : Int64)] := V90
    obtain ⟨T91, h91, X91, e91, W91, V91, st91⟩ := own_lastore X90 hx hZ e90 V90_n (j := (3 : Int32)) (show 0 ≤ Int32.toInt (3 : Int32) ∧ Int32.toInt (3 : Int32) < ((9 : Nat) : Int) by decide) (x := v35) (D at_201)
    have sz91 := Nat.le_trans sz90 (Keep.of_wr W91).1
    have N91 := Fr.snoc X91 N90 ge_a87
    have V91_n : own_AJ Z h91 a87 [v4, q1, v17, v35, (0 : Int64), (0 : Int64), (0 : Int64), (0 : Int64), (0 : Int64)] := V91
    obtain ⟨T92, h92, X92, e92, W92, V92, st92⟩ := own_lastore X91 hx hZ e91 V91_n (j := (4 : Int32)) (show 0 ≤ Int32.toInt (4 : Int32) ∧ Int32.toInt (4 : Int32) < ((9 : Nat) : Int) by decide) (x := q2) (D at_206)
    have sz92 := Nat.le_trans sz91 (Keep.of_wr W92).1
    have N92 := Fr.snoc X92 N91 ge_a87
    have V92_n : own_AJ Z h92 a87 [v4, q1, v17, v35, q2, (0 : Int64), (0 : Int64), (0 : Int64), (0 : Int64)] := V92
    obtain ⟨T93, h93, X93, e93, W93, V93, st93⟩ := own_lastore X92 hx hZ e92 V92_n (j := (5 : Int32)) (show 0 ≤ Int32.toInt (5 : Int32) ∧ Int32.toInt (5 : Int32) < ((9 : Nat) : Int) by decide) (x := q3) (D at_212)
    have sz93 := Nat.le_trans sz92 (Keep.of_wr W93).1
    have N93 := Fr.snoc X93 N92 ge_a87
    have V93_n : own_AJ Z h93 a87 [v4, q1, v17, v35, q2, q3, (0 : Int64), (0 : Int64), (0 : Int64)] := V93
    obtain ⟨T94, h94, X94, e94, W94, V94, st94⟩ := own_lastore X93 hx hZ e93 V93_n (j := (6 : Int32)) (show 0 ≤ Int32.toInt (6 : Int32) ∧ Int32.toInt (6 : Int32) < ((9 : Nat) : Int) by decide) (x := v38) (D at_225)
    have sz94 := Nat.le_trans sz93 (Keep.of_wr W94).1
    have N94 := Fr.snoc X94 N93 ge_a87
    have V94_n : own_AJ Z h94 a87 [v4, q1, v17, v35, q2, q3, v38, (0 : Int64), (0 : Int64)] := V94
    obtain ⟨T95, h95, X95, e95, W95, V95, st95⟩ := own_lastore X94 hx hZ e94 V94_n (j := (7 : Int32)) (show 0 ≤ Int32.toInt (7 : Int32) ∧ Int32.toInt (7 : Int32) < ((9 : Nat) : Int) by decide) (x := q4) (D at_232)
    have sz95 := Nat.le_trans sz94 (Keep.of_wr W95).1
    have N95 := Fr.snoc X95 N94 ge_a87
    have V95_n : own_AJ Z h95 a87 [v4, q1, v17, v35, q2, q3, v38, q4, (0 : Int64)] := V95
    obtain ⟨T96, h96, X96, e96, W96, V96, st96⟩ := own_lastore X95 hx hZ e95 V95_n (j := (8 : Int32)) (show 0 ≤ Int32.toInt (8 : Int32) ∧ Int32.toInt (8 : Int32) < ((9 : Nat) : Int) by decide) (x := q5) (D at_239)
    have sz96 := Nat.le_trans sz95 (Keep.of_wr W96).1
    have N96 := Fr.snoc X96 N95 ge_a87
    have V96_n : own_AJ Z h96 a87 [v4, q1, v17, v35, q2, q3, v38, q4, q5] := V96
    obtain ⟨T97, h97, X97, e97, E97, A97, D97, -, st97⟩ := newO X96 hx hZ hown (H 12 rfl) (H 13 rfl) (H 14 rfl) e96 (g := (mkF m 274 #[iv q0, jv q1, s2, jv q2, s2, jv q3, s2, jv q4, s2, jv q5, s2, iv (2 : Int32), jv v4, s2, jv v35, s2, jv v38, s2, jv v41, s2, jv v17, s2, rv a87, u0, u0, u0, u0, u0] [])) rfl (D at_274) (by decide) (by decide)
    obtain ⟨a97, g97⟩ : ∃ z, z = h96.size := ⟨_, rfl⟩
    rw [← g97] at A97 D97 st97
    have ne_a87_a97 : a87 ≠ a97 := g97 ▸ Nat.ne_of_lt V96_n.lt
    have ge_a97 : n0 ≤ a97 := g97 ▸ sz96
    have V97_a87 := V96_n.ext E97
    have sz97 := Nat.le_trans sz96 E97.1
    have F97_n0 : Fld Z h97 a97 own_S "lastLeft" "I" (.int (0 : Int32)) := D97 (Or.inl (H 25 rfl)) (ty := .int) (by decide)
    have F97_n1 : Fld Z h97 a97 own_S "limit" "J" (.long (0 : Int64)) := D97 (Or.inr (H 27 rfl)) (ty := .long) (by decide)
    have F97_n2 : Fld Z h97 a97 own_S "includesLast" "Z" (.int (0 : Int32)) := D97 (Or.inr (H 29 rfl)) (ty := .boolean) (by decide)
    have F97_n3 : Fld Z h97 a97 own_S "last" "[J" .null := D97 (Or.inr (H 31 rfl)) (ty := (.array .long)) (by decide)
    have F97_n4 : Fld Z h97 a97 own_S "sent" "[Z" .null := D97 (Or.inr (H 34 rfl)) (ty := (.array .boolean)) (by decide)
    have F97_n5 : Fld Z h97 a97 own_S "runs" "[J" .null := D97 (Or.inr (H 36 rfl)) (ty := (.array .long)) (by decide)
    have F97_n6 : Fld Z h97 a97 own_S "gone" "[Z" .null := D97 (Or.inr (H 38 rfl)) (ty := (.array .boolean)) (by decide)
    have F97_n7 : Fld Z h97 a97 own_S "stopped" "[Z" .null := D97 (Or.inr (H 40 rfl)) (ty := (.array .boolean)) (by decide)
    have F97_n8 : Fld Z h97 a97 own_S "open" "I" (.int (0 : Int32)) := D97 (Or.inl (H 42 rfl)) (ty := .int) (by decide)
    have F97_n9 : Fld Z h97 a97 own_S "started" "Z" (.int (0 : Int32)) := D97 (Or.inl (H 49 rfl)) (ty := .boolean) (by decide)
    have F97_n10 : Fld Z h97 a97 own_S "latest" "J" (.long (0 : Int64)) := D97 (Or.inl (H 51 rfl)) (ty := .long) (by decide)
    obtain ⟨_, _, ⟨T98, L98, k98, n98⟩, -, X98, ⟨Lc98, hQ98, l98, y98, z98⟩, st98⟩ := X97.specialBack hx (y := (⟨"com/example/tributary/tributary/io/Silence", "<init>", "(IJ)V"⟩ : MethodName)) rfl hown (mvT hZ (H 15 rfl)) (mvT hZ (H 16 rfl)) (mvT hZ (H 17 rfl)) (by decide) (backOf (W := 1) (rm3_2 l Z a0 hw [] a97  h97 n0 sz97 A97 F97_n0 F97_n1 F97_n2 F97_n3 F97_n4 F97_n5 F97_n6 F97_n7 F97_n8 F97_n9 F97_n10 ge_a97 ) hZ (H 17 rfl) (H 14 rfl) (by decide) (by decide)) (g := (mkF m 281 #[iv q0, jv q1, s2, jv q2, s2, jv q3, s2, jv q4, s2, jv q5, s2, iv (2 : Int32), jv v4, s2, jv v35, s2, jv v38, s2, jv v41, s2, jv v17, s2, rv a87, u0, u0, u0, u0, u0] [(.long (1 : Int64)), (.int (2 : Int32)), (.ref a97), (.ref a97)])) rfl (by rw [hml]; rfl) (Steps.refl _) (a := a97) (argsL := [(.int (2 : Int32)), (.long (1 : Int64))]) (rest := [(.ref a97)]) (lenOf pd_120 rfl) rfl (by show 2 * 0 + _ ≤ _; exact Nat.le_of_eq rfl) (D at_281) (fun _ _ => ⟨rfl, e97, (by decide : 2 + 5 ≤ _), (by decide : 20 + 10 ≤ _)⟩)
    dsimp only [Pt.U, Pt.locs, Pt.cells, Pt.slots] at X98 l98 y98 z98 st98 hQ98
    replace y98 : k98 = 7 := y98
    replace z98 : n98 = 30 := z98
    replace l98 := l98.symm; replace y98 := y98.symm; replace z98 := z98.symm; subst l98 y98 z98
    obtain ⟨rfl, N98q, rl98, rs98, rr98, rg98, rt98, ⟨go_rl98, go_rs98, go_rr98, go_rg98, go_rt98⟩, ⟨ne_rl98_rs98, ne_rl98_rr98, ne_rl98_rg98, ne_rl98_rt98, ne_rs98_rr98, ne_rs98_rg98, ne_rs98_rt98, ne_rr98_rg98, ne_rr98_rt98, ne_rg98_rt98⟩, K98, A98_o0, F98_o0, F98_o1, F98_o2, F98_o3, F98_o4, F98_o5, F98_o6, F98_o7, F98_o8, V98_o0, V98_o1, V98_o2, V98_o3, V98_o4⟩ := hQ98
    obtain ⟨h98, e98⟩ : ∃ z, T98.heap = z := ⟨_, rfl⟩
    rw [e98] at K98 A98_o0 F98_o0 F98_o1 F98_o2 F98_o3 F98_o4 F98_o5 F98_o6 F98_o7 F98_o8 V98_o0 V98_o1 V98_o2 V98_o3 V98_o4
    have ne_a87_rl98 : a87 ≠ rl98 := Nat.ne_of_lt (Nat.lt_of_lt_of_le V97_a87.lt go_rl98)
    have ne_a97_rl98 : a97 ≠ rl98 := Nat.ne_of_lt (Nat.lt_of_lt_of_le A97.lt go_rl98)
    have ge_rl98 : n0 ≤ rl98 := Nat.le_trans sz97 go_rl98
    have ne_a87_rs98 : a87 ≠ rs98 := Nat.ne_of_lt (Nat.lt_of_lt_of_le V97_a87.lt go_rs98)
    have ne_a97_rs98 : a97 ≠ rs98 := Nat.ne_of_lt (Nat.lt_of_lt_of_le A97.lt go_rs98)
    have ge_rs98 : n0 ≤ rs98 := Nat.le_trans sz97 go_rs98
    have ne_a87_rr98 : a87 ≠ rr98 := Nat.ne_of_lt (Nat.lt_of_lt_of_le V97_a87.lt go_rr98)
    have ne_a97_rr98 : a97 ≠ rr98 := Nat.ne_of_lt (Nat.lt_of_lt_of_le A97.lt go_rr98)
    have ge_rr98 : n0 ≤ rr98 := Nat.le_trans sz97 go_rr98
    have ne_a87_rg98 : a87 ≠ rg98 := Nat.ne_of_lt (Nat.lt_of_lt_of_le V97_a87.lt go_rg98)
    have ne_a97_rg98 : a97 ≠ rg98 := Nat.ne_of_lt (Nat.lt_of_lt_of_le A97.lt go_rg98)
    have ge_rg98 : n0 ≤ rg98 := Nat.le_trans sz97 go_rg98
    have ne_a87_rt98 : a87 ≠ rt98 := Nat.ne_of_lt (Nat.lt_of_lt_of_le V97_a87.lt go_rt98)
    have ne_a97_rt98 : a97 ≠ rt98 := Nat.ne_of_lt (Nat.lt_of_lt_of_le A97.lt go_rt98)
    have ge_rt98 : n0 ≤ rt98 := Nat.le_trans sz97 go_rt98
    have V98_a87 := V97_a87.keep K98 (ninS ne_a87_a97 nin0)
    have A98_a97 := A97.keep K98
    have sz98 : n0 ≤ h98.size := Nat.le_trans sz97 K98.1
    have N98 := Fr.app N96 N98q
    obtain ⟨cq99, kq99, q99a, q99b, q99c⟩ := isOf hZ e98 A98_o0
    obtain ⟨_, _, ⟨T99, L99, k99, n99⟩, -, X99, ⟨Lc99, hQ99, l99, y99, z99⟩, st99⟩ := X98.virtualBack hx (y := (⟨"com/example/tributary/tributary/io/Silence", "measured", "()[J"⟩ : MethodName)) (z := (⟨"com/example/tributary/tributary/io/Silence", "measured", "()[J"⟩ : MethodName)) hown (mvT hZ (H 43 rfl)) (mvT hZ (H 44 rfl)) (notFace_of_selects (args := #[]) (mvT hZ (H 46 rfl))) (mvT hZ (H 46 rfl)) (mvT hZ (H 45 rfl)) (by decide) (backOf (W := 0) (rm6_2 l Z a0 hw [] a97 rl98 rs98 rr98 rg98 rt98 ((0 : Int32)) ((0 : Int64)) ((-1 : Int32)) ((0 : Int64)) ((0 : Int64)) ((0 : Int64)) ((0 : Int64)) ((0 : Int32)) ((0 : Int32)) ((0 : Int32)) ((0 : Int32)) ((0 : Int32)) ((0 : Int32)) h98 n0 sz98 V98_o0 V98_o1 V98_o2 V98_o3 V98_o4 A98_o0 F98_o0 F98_o1 F98_o2 F98_o3 F98_o4 F98_o7 F98_o8 F98_o6 ) hZ (H 47 rfl) (H 14 rfl) (by decide) (by decide)) q99a q99c (g := (mkF m 288 #[iv q0, jv q1, s2, jv q2, s2, jv q3, s2, jv q4, s2, jv q5, s2, iv (2 : Int32), jv v4, s2, jv v35, s2, jv v38, s2, jv v41, s2, jv v17, s2, rv a87, rv a97, u0, u0, u0, u0] [(.ref a97)])) rfl (by rw [hml]; rfl) (Steps.refl _) (argsL := []) (rest := []) (lenOf pd_121 rfl) rfl (by show 2 * 0 + _ ≤ _; exact Nat.le_of_eq rfl) (D at_288) (fun _ _ => ⟨rfl, e98, (by decide : 7 + 1 ≤ _), (by decide : 30 + 9 ≤ _)⟩)
    dsimp only [Pt.U, Pt.locs, Pt.cells, Pt.slots] at X99 l99 y99 z99 st99 hQ99
    replace y99 : k99 = 8 := y99
    replace z99 : n99 = 39 := z99
    replace l99 := l99.symm; replace y99 := y99.symm; replace z99 := z99.symm; subst l99 y99 z99
    obtain ⟨rfl, N99q, K99, R99⟩ := hQ99
    obtain ⟨h99, e99⟩ : ∃ z, T99.heap = z := ⟨_, rfl⟩
    rw [e99] at K99 R99
    obtain ⟨a99, g99⟩ : ∃ z, z = h98.size := ⟨_, rfl⟩
    rw [← g99] at R99 st99
    have ne_a87_a99 : a87 ≠ a99 := g99 ▸ Nat.ne_of_lt V98_a87.lt
    have ne_rl98_a99 : rl98 ≠ a99 := g99 ▸ Nat.ne_of_lt V98_o0.lt
    have ne_rs98_a99 : rs98 ≠ a99 := g99 ▸ Nat.ne_of_lt V98_o1.lt
    have ne_rr98_a99 : rr98 ≠ a99 := g99 ▸ Nat.ne_of_lt V98_o2.lt
    have ne_rg98_a99 : rg98 ≠ a99 := g99 ▸ Nat.ne_of_lt V98_o3.lt
    have ne_rt98_a99 : rt98 ≠ a99 := g99 ▸ Nat.ne_of_lt V98_o4.lt
    have ne_a97_a99 : a97 ≠ a99 := g99 ▸ Nat.ne_of_lt A98_o0.lt
    have ge_a99 : n0 ≤ a99 := g99 ▸ sz98
    have V99_a87 := V98_a87.keep K99 nin0
    have V99_rl98 := V98_o0.keep K99 nin0
    have V99_rs98 := V98_o1.keep K99 nin0
    have V99_rr98 := V98_o2.keep K99 nin0
    have V99_rg98 := V98_o3.keep K99 nin0
    have V99_rt98 := V98_o4.keep K99 nin0
    have A99_a97 := A98_o0.keep K99
    have F99_a97_0 := F98_o0.keep K99 nin0
    have F99_a97_1 := F98_o1.keep K99 nin0
    have F99_a97_2 := F98_o2.keep K99 nin0
    have F99_a97_3 := F98_o3.keep K99 nin0
    have F99_a97_4 := F98_o4.keep K99 nin0
    have F99_a97_5 := F98_o5.keep K99 nin0
    have F99_a97_6 := F98_o6.keep K99 nin0
    have F99_a97_7 := F98_o7.keep K99 nin0
    have F99_a97_8 := F98_o8.keep K99 nin0
    have sz99 : n0 ≤ h99.size := Nat.le_trans sz98 K99.1
    have N99 := Fr.app N98 N99q
    have c100 : (if ((0 : Int32)) = (0 : Int32) then (0 : Int64) else (1 : Int64)) = (0 : Int64) := (by decide)
    have pre101 : ∀ t, Steps p.tables e below (T99.setTop (mkF m 311 #[iv q0, jv q1, s2, jv q2, s2, jv q3, s2, jv q4, s2, jv q5, s2, iv (2 : Int32), jv v4, s2, jv v35, s2, jv v38, s2, jv v41, s2, jv v17, s2, rv a87, rv a97, rv a99, u0, u0, u0] [])) t → Steps p.tables e below B0 t := by
      intro t k
      refine pre43 t ?_
      show Steps p.tables e below (T40.setTop (mkF m 147 #[iv q0, jv q1, s2, jv q2, s2, jv q3, s2, jv q4, s2, jv q5, s2, iv (2 : Int32), jv v4, s2, jv v35, s2, jv v38, s2, jv v41, s2, jv v17, s2, u0, u0, u0, u0, u0, u0] [])) _
      refine XS.iload X40.here hx rfl (D at_147) rfl ?_
      refine XS.iconst X40.here hx rfl (D at_149) ?_
      show Steps p.tables e below (T40.setTop (mkF m 150 #[iv q0, jv q1, s2, jv q2, s2, jv q3, s2, jv q4, s2, jv q5, s2, iv (2 : Int32), jv v4, s2, jv v35, s2, jv v38, s2, jv v41, s2, jv v17, s2, u0, u0, u0, u0, u0, u0] [(.int (1 : Int32)), (.int (2 : Int32))])) _
      refine XS.icmpYes X40.here hx rfl (pc0 := 150) (pc' := 160) rfl (D at_150) rfl (by decide) (by decide) (by decide) ?_
      refine XS.iload X40.here hx rfl (D at_160) rfl ?_
      refine XS.iconst X40.here hx rfl (D at_162) ?_
      show Steps p.tables e below (T40.setTop (mkF m 163 #[iv q0, jv q1, s2, jv q2, s2, jv q3, s2, jv q4, s2, jv q5, s2, iv (2 : Int32), jv v4, s2, jv v35, s2, jv v38, s2, jv v41, s2, jv v17, s2, u0, u0, u0, u0, u0, u0] [(.int (2 : Int32)), (.int (2 : Int32))])) _
      refine XS.icmpNo X40.here hx rfl (D at_163) rfl (by decide) ?_
      refine XS.bipush X40.here hx rfl (D at_166) ?_
      refine st87 _ ?_
      refine XS.goto X87.here hx rfl (pc0 := 170) (pc' := 177) rfl (D at_170) (by decide) (by decide) ?_
      refine XS.astore X87.here hx rfl (D at_177) rfl rfl (l' := #[iv q0, jv q1, s2, jv q2, s2, jv q3, s2, jv q4, s2, jv q5, s2, iv (2 : Int32), jv v4, s2, jv v35, s2, jv v38, s2, jv v41, s2, jv v17, s2, rv a87, u0, u0, u0, u0, u0]) rfl ?_
      refine XS.aload X87.here hx rfl (D at_179) rfl rfl ?_
      show Steps p.tables e below (T87.setTop (mkF m 181 #[iv q0, jv q1, s2, jv q2, s2, jv q3, s2, jv q4, s2, jv q5, s2, iv (2 : Int32), jv v4, s2, jv v35, s2, jv v38, s2, jv v41, s2, jv v17, s2, rv a87, u0, u0, u0, u0, u0] [(.ref a87)])) _
      refine XS.iconst X87.here hx rfl (D at_181) ?_
      refine XS.lload X87.here hx rfl (D at_182) rfl ?_
      refine st88 _ ?_
      refine XS.aload X88.here hx rfl (D at_185) rfl rfl ?_
      refine XS.iconst X88.here hx rfl (D at_187) ?_
      refine XS.lloadN X88.here hx rfl (D at_188) rfl ?_
      refine st89 _ ?_
      refine XS.aload X89.here hx rfl (D at_190) rfl rfl ?_
      refine XS.iconst X89.here hx rfl (D at_192) ?_
      refine XS.lload X89.here hx rfl (D at_193) rfl ?_
      refine st90 _ ?_
      refine XS.aload X90.here hx rfl (D at_196) rfl rfl ?_
      refine XS.iconst X90.here hx rfl (D at_198) ?_
      refine XS.lload X90.here hx rfl (D at_199) rfl ?_
      refine st91 _ ?_
      refine XS.aload X91.here hx rfl (D at_202) rfl rfl ?_
      refine XS.iconst X91.here hx rfl (D at_204) ?_
      refine XS.lloadN X91.here hx rfl (D at_205) rfl ?_
      refine st92 _ ?_
      refine XS.aload X92.here hx rfl (D at_207) rfl rfl ?_
      refine XS.iconst X92.here hx rfl (D at_209) ?_
      refine XS.lload X92.here hx rfl (D at_210) rfl ?_
      refine st93 _ ?_
      refine XS.iload X93.here hx rfl (D at_213) rfl ?_
      refine XS.iconst X93.here hx rfl (D at_215) ?_
      show Steps p.tables e below (T93.setTop (mkF m 216 #[iv q0, jv q1, s2, jv q2, s2, jv q3, s2, jv q4, s2, jv q5, s2, iv (2 : Int32), jv v4, s2, jv v35, s2, jv v38, s2, jv v41, s2, jv v17, s2, rv a87, u0, u0, u0, u0, u0] [(.int (2 : Int32)), (.int (2 : Int32))])) _
      refine XS.icmpNo X93.here hx rfl (D at_216) rfl (by decide) ?_
      refine XS.aload X93.here hx rfl (D at_219) rfl rfl ?_
      refine XS.bipush X93.here hx rfl (D at_221) ?_
      refine XS.lload X93.here hx rfl (D at_223) rfl ?_
      refine st94 _ ?_
      refine XS.aload X94.here hx rfl (D at_226) rfl rfl ?_
      refine XS.bipush X94.here hx rfl (D at_228) ?_
      refine XS.lload X94.here hx rfl (D at_230) rfl ?_
      refine st95 _ ?_
      refine XS.aload X95.here hx rfl (D at_233) rfl rfl ?_
      refine XS.bipush X95.here hx rfl (D at_235) ?_
      refine XS.lload X95.here hx rfl (D at_237) rfl ?_
      refine st96 _ ?_
      refine XS.iload X96.here hx rfl (D at_240) rfl ?_
      refine XS.iconst X96.here hx rfl (D at_242) ?_
      show Steps p.tables e below (T96.setTop (mkF m 243 #[iv q0, jv q1, s2, jv q2, s2, jv q3, s2, jv q4, s2, jv q5, s2, iv (2 : Int32), jv v4, s2, jv v35, s2, jv v38, s2, jv v41, s2, jv v17, s2, rv a87, u0, u0, u0, u0, u0] [(.int (3 : Int32)), (.int (2 : Int32))])) _
      refine XS.icmpYes X96.here hx rfl (pc0 := 243) (pc' := 274) rfl (D at_243) rfl (by decide) (by decide) (by decide) ?_
      refine st97 _ ?_
      show Steps p.tables e below (T97.setTop (mkF m 277 #[iv q0, jv q1, s2, jv q2, s2, jv q3, s2, jv q4, s2, jv q5, s2, iv (2 : Int32), jv v4, s2, jv v35, s2, jv v38, s2, jv v41, s2, jv v17, s2, rv a87, u0, u0, u0, u0, u0] [(.ref a97)])) _
      refine XS.dup X97.here hx rfl (D at_277) rfl rfl ?_
      refine XS.iload X97.here hx rfl (D at_278) rfl ?_
      refine XS.lconst X97.here hx rfl (D at_280) ?_
      refine st98.trans ?_
      refine XS.astore X98.here hx rfl (D at_284) rfl rfl (l' := #[iv q0, jv q1, s2, jv q2, s2, jv q3, s2, jv q4, s2, jv q5, s2, iv (2 : Int32), jv v4, s2, jv v35, s2, jv v38, s2, jv v41, s2, jv v17, s2, rv a87, rv a97, u0, u0, u0, u0]) rfl ?_
      refine XS.aload X98.here hx rfl (D at_286) rfl rfl ?_
      refine st99.trans ?_
      refine XS.astore X99.here hx rfl (D at_291) rfl rfl (l' := #[iv q0, jv q1, s2, jv q2, s2, jv q3, s2, jv q4, s2, jv q5, s2, iv (2 : Int32), jv v4, s2, jv v35, s2, jv v38, s2, jv v41, s2, jv v17, s2, rv a87, rv a97, rv a99, u0, u0, u0]) rfl ?_
      refine XS.aload X99.here hx rfl (D at_293) rfl rfl ?_
      refine own_alenJ X99 hx hZ e99 R99 (D at_295) _ ?_
      refine XS.aload X99.here hx rfl (D at_296) rfl rfl ?_
      refine own_alenJ X99 hx hZ e99 V99_a87 (D at_298) _ ?_
      show Steps p.tables e below (T99.setTop (mkF m 299 #[iv q0, jv q1, s2, jv q2, s2, jv q3, s2, jv q4, s2, jv q5, s2, iv (2 : Int32), jv v4, s2, jv v35, s2, jv v38, s2, jv v41, s2, jv v17, s2, rv a87, rv a97, rv a99, u0, u0, u0] [(.int (9 : Int32)), (.int (9 : Int32))])) _
      refine XS.icmpNo X99.here hx rfl (D at_299) rfl (by decide) ?_
      refine XS.aload X99.here hx rfl (D at_302) rfl rfl ?_
      refine XS.iconst X99.here hx rfl (D at_304) ?_
      refine own_laload X99 hx hZ e99 R99 (show 0 ≤ Int32.toInt (0 : Int32) ∧ Int32.toInt (0 : Int32) < ((9 : Nat) : Int) by decide) (D at_305) _ ?_
      refine XS.lconst X99.here hx rfl (D at_306) ?_
      refine XS.lcmp X99.here hx rfl (D at_307) rfl ?_
      show Steps p.tables e below (T99.setTop (mkF m 308 #[iv q0, jv q1, s2, jv q2, s2, jv q3, s2, jv q4, s2, jv q5, s2, iv (2 : Int32), jv v4, s2, jv v35, s2, jv v38, s2, jv v41, s2, jv v17, s2, rv a87, rv a97, rv a99, u0, u0, u0] [(.int (lcmpW (if ((0 : Int32)) = (0 : Int32) then (0 : Int64) else (1 : Int64)) (0 : Int64)))])) _
      refine XS.ifNo X99.here hx rfl (D at_308) rfl ((if0 _ _).trans (teq ((lw_eq (if ((0 : Int32)) = (0 : Int32) then (0 : Int64) else (1 : Int64)) (0 : Int64)).mpr c100)).2) ?_
      exact k
    clear X40 e40 N40 pre43 X87 e87 E87 A87 st87 sz87 V87_n X88 e88 W88 V88 st88 sz88 N88 V88_n X89 e89 W89 V89 st89 sz89 N89 V89_n X90 e90 W90 V90 st90 sz90 N90 V90_n X91 e91 W91 V91 st91 sz91 N91 V91_n X92 e92 W92 V92 st92 sz92 N92 V92_n X93 e93 W93 V93 st93 sz93 N93 V93_n X94 e94 W94 V94 st94 sz94 N94 V94_n X95 e95 W95 V95 st95 sz95 N95 V95_n X96 e96 W96 V96 st96 sz96 N96 V96_n X97 e97 E97 A97 D97 st97 V97_a87 sz97 F97_n0 F97_n1 F97_n2 F97_n3 F97_n4 F97_n5 F97_n6 F97_n7 F97_n8 F97_n9 F97_n10 X98 st98 N98q K98 A98_o0 F98_o0 F98_o1 F98_o2 F98_o3 F98_o4 F98_o5 F98_o6 F98_o7 F98_o8 V98_o0 V98_o1 V98_o2 V98_o3 V98_o4 e98 V98_a87 A98_a97 sz98 N98 st99 N99q K99
    have c102 : ((0 : Int64)) = (0 : Int64) := (by decide)
    have c103 : (((-1 : Int32))).toInt64 = (-1 : Int64) := (by decide)
    have c104 : (((if ((0 : Int32)) = (0 : Int32) then (0 : Int64) else (1 : Int64)) ||| (if ((0 : Int32)) = (0 : Int32) then (0 : Int64) else (2 : Int64))) ||| (if ((0 : Int32)) = (0 : Int32) then (0 : Int64) else (4 : Int64))) = (0 : Int64) := (by decide)
    have hS := own_st hv4
    have hLL := own_left (N := 2) (n := 2) (k := 2) (by decide) (by decide) (by decide) hv12 hv17
    have hF0 := own_flag hv6 hv22 hv35 hS
    have hF1 := own_flag hv8 hv27 hv38 hS
    obtain ⟨cq105, kq105, q105a, q105b, q105c⟩ := isOf hZ e99 A99_a97
    obtain ⟨_, _, ⟨T105, L105, k105, n105⟩, -, X105, ⟨Lc105, hQ105, l105, y105, z105⟩, st105⟩ := X99.virtualBack hx (y := (⟨"com/example/tributary/tributary/io/Silence", "resume", "([J)V"⟩ : MethodName)) (z := (⟨"com/example/tributary/tributary/io/Silence", "resume", "([J)V"⟩ : MethodName)) hown (mvT hZ (H 53 rfl)) (mvT hZ (H 54 rfl)) (notFace_of_selects (args := #[]) (mvT hZ (H 56 rfl))) (mvT hZ (H 56 rfl)) (mvT hZ (H 55 rfl)) (by decide) (backOf (W := 0) (rm7_2 l Z a0 hw [] a97 a87 rl98 rs98 rr98 rg98 rt98 ((0 : Int32)) ((0 : Int64)) ((-1 : Int32)) ((2 : Int32)) v4 q1 v17 v35 q2 q3 v38 q4 q5 ((0 : Int64)) ((0 : Int64)) ((0 : Int64)) ((0 : Int64)) ((0 : Int32)) ((0 : Int32)) ((0 : Int32)) ((0 : Int32)) ((0 : Int32)) ((0 : Int32)) h99 n0 sz99 V99_a87 V99_rl98 V99_rs98 V99_rr98 V99_rg98 V99_rt98 A99_a97 F99_a97_0 F99_a97_1 F99_a97_2 F99_a97_3 F99_a97_4 F99_a97_7 F99_a97_8 F99_a97_6 F99_a97_5 ge_a97 ge_rs98 ge_rg98 ge_rt98 ge_rl98 ge_rr98 ne_a87_rl98 ne_a87_rs98 ne_a87_rr98 ne_a87_rg98 ne_a87_rt98 ne_a87_a97 ne_rl98_rs98 ne_rl98_rr98 ne_rl98_rg98 ne_rl98_rt98 (Ne.symm ne_a97_rl98) ne_rs98_rr98 ne_rs98_rg98 ne_rs98_rt98 (Ne.symm ne_a97_rs98) ne_rr98_rg98 ne_rr98_rt98 (Ne.symm ne_a97_rr98) ne_rg98_rt98 (Ne.symm ne_a97_rg98) (Ne.symm ne_a97_rt98) hS hLL hF0.1 hF1.1 (own_hl2 hLL hF0.2.2 hF1.2.2)) hZ (H 57 rfl) (H 14 rfl) (by decide) (by decide)) q105a q105c (g := (mkF m 351 #[iv q0, jv q1, s2, jv q2, s2, jv q3, s2, jv q4, s2, jv q5, s2, iv (2 : Int32), jv v4, s2, jv v35, s2, jv v38, s2, jv v41, s2, jv v17, s2, rv a87, rv a97, rv a99, iv (1 : Int32), u0, u0] [(.ref a87), (.ref a97)])) rfl (by rw [hml]; rfl) (Steps.refl _) (argsL := [(.ref a87)]) (rest := []) (lenOf pd_100 rfl) rfl (by show 2 * 0 + _ ≤ _; exact Nat.le_of_eq rfl) (D at_351) (fun _ _ => ⟨rfl, e99, (by decide : 8 + 0 ≤ _), (by decide : 39 + 0 ≤ _)⟩)
    dsimp only [Pt.U, Pt.locs, Pt.cells, Pt.slots] at X105 l105 y105 z105 st105 hQ105
    replace y105 : k105 = 8 := y105
    replace z105 : n105 = 39 := z105
    replace l105 := l105.symm; replace y105 := y105.symm; replace z105 := z105.symm; subst l105 y105 z105
    obtain ⟨rfl, N105q, K105, A105_o0, F105_o0, F105_o1, F105_o2, F105_o3, F105_o4, F105_o5, F105_o6, F105_o7, V105_o0, V105_o1, V105_o2, V105_o3, V105_o4, V105_o5⟩ := hQ105
    obtain ⟨h105, e105⟩ : ∃ z, T105.heap = z := ⟨_, rfl⟩
    rw [e105] at K105 A105_o0 F105_o0 F105_o1 F105_o2 F105_o3 F105_o4 F105_o5 F105_o6 F105_o7 V105_o0 V105_o1 V105_o2 V105_o3 V105_o4 V105_o5
    have V105_a87 := V99_a87.keep K105 (ninS ne_a87_a97 (ninS ne_a87_rs98 (ninS ne_a87_rg98 (ninS ne_a87_rt98 (ninS ne_a87_rl98 (ninS ne_a87_rr98 nin0))))))
    have V105_a99 := R99.keep K105 (ninS (Ne.symm ne_a97_a99) (ninS (Ne.symm ne_rs98_a99) (ninS (Ne.symm ne_rg98_a99) (ninS (Ne.symm ne_rt98_a99) (ninS (Ne.symm ne_rl98_a99) (ninS (Ne.symm ne_rr98_a99) nin0))))))
    have A105_a97 := A99_a97.keep K105
    have sz105 : n0 ≤ h105.size := Nat.le_trans sz99 K105.1
    have N105 := Fr.app N99 N105q
    obtain ⟨cq106, kq106, q106a, q106b, q106c⟩ := isOf hZ e105 A105_o0
    obtain ⟨_, _, ⟨T106, L106, k106, n106⟩, -, X106, ⟨Lc106, hQ106, l106, y106, z106⟩, st106⟩ := X105.virtualBack hx (y := (⟨"com/example/tributary/tributary/io/Silence", "measured", "()[J"⟩ : MethodName)) (z := (⟨"com/example/tributary/tributary/io/Silence", "measured", "()[J"⟩ : MethodName)) hown (mvT hZ (H 43 rfl)) (mvT hZ (H 44 rfl)) (notFace_of_selects (args := #[]) (mvT hZ (H 46 rfl))) (mvT hZ (H 46 rfl)) (mvT hZ (H 45 rfl)) (by decide) (backOf (W := 0) (rm6_2 l Z a0 hw [] a97 rl98 rs98 rr98 rg98 rt98 ((if v4 = (1 : Int64) then (1 : Int32) else (0 : Int32))) q1 ((v17).toInt32) q2 q4 q3 q5 (((if (v35 &&& (1 : Int64)) = (0 : Int64) then (0 : Int32) else (1 : Int32)) &&& 1)) (((if (v38 &&& (1 : Int64)) = (0 : Int64) then (0 : Int32) else (1 : Int32)) &&& 1)) (((if (v35 &&& (2 : Int64)) = (0 : Int64) then (0 : Int32) else (1 : Int32)) &&& 1)) (((if (v38 &&& (2 : Int64)) = (0 : Int64) then (0 : Int32) else (1 : Int32)) &&& 1)) (((if (v35 &&& (4 : Int64)) = (0 : Int64) then (0 : Int32) else (1 : Int32)) &&& 1)) (((if (v38 &&& (4 : Int64)) = (0 : Int64) then (0 : Int32) else (1 : Int32)) &&& 1)) h105 n0 sz105 V105_o1 V105_o2 V105_o3 V105_o4 V105_o5 A105_o0 F105_o0 F105_o1 F105_o2 F105_o3 F105_o4 F105_o5 F105_o6 F105_o7 ) hZ (H 47 rfl) (H 14 rfl) (by decide) (by decide)) q106a q106c (g := (mkF m 356 #[iv q0, jv q1, s2, jv q2, s2, jv q3, s2, jv q4, s2, jv q5, s2, iv (2 : Int32), jv v4, s2, jv v35, s2, jv v38, s2, jv v41, s2, jv v17, s2, rv a87, rv a97, rv a99, iv (1 : Int32), u0, u0] [(.ref a97)])) rfl (by rw [hml]; rfl) (Steps.refl _) (argsL := []) (rest := []) (lenOf pd_121 rfl) rfl (by show 2 * 0 + _ ≤ _; exact Nat.le_of_eq rfl) (D at_356) (fun _ _ => ⟨rfl, e105, (by decide : 8 + 1 ≤ _), (by decide : 39 + 9 ≤ _)⟩)
    dsimp only [Pt.U, Pt.locs, Pt.cells, Pt.slots] at X106 l106 y106 z106 st106 hQ106
    replace y106 : k106 = 9 := y106
    replace z106 : n106 = 48 := z106
    replace l106 := l106.symm; replace y106 := y106.symm; replace z106 := z106.symm; subst l106 y106 z106
    obtain ⟨rfl, N106q, K106, R106⟩ := hQ106
    obtain ⟨h106, e106⟩ : ∃ z, T106.heap = z := ⟨_, rfl⟩
    rw [e106] at K106 R106
    obtain ⟨a106, g106⟩ : ∃ z, z = h105.size := ⟨_, rfl⟩
    rw [← g106] at R106 st106
    have ne_a87_a106 : a87 ≠ a106 := g106 ▸ Nat.ne_of_lt V105_o0.lt
    have ne_rl98_a106 : rl98 ≠ a106 := g106 ▸ Nat.ne_of_lt V105_o1.lt
    have ne_rs98_a106 : rs98 ≠ a106 := g106 ▸ Nat.ne_of_lt V105_o2.lt
    have ne_rr98_a106 : rr98 ≠ a106 := g106 ▸ Nat.ne_of_lt V105_o3.lt
    have ne_rg98_a106 : rg98 ≠ a106 := g106 ▸ Nat.ne_of_lt V105_o4.lt
    have ne_rt98_a106 : rt98 ≠ a106 := g106 ▸ Nat.ne_of_lt V105_o5.lt
    have ne_a99_a106 : a99 ≠ a106 := g106 ▸ Nat.ne_of_lt V105_a99.lt
    have ne_a97_a106 : a97 ≠ a106 := g106 ▸ Nat.ne_of_lt A105_o0.lt
    have ge_a106 : n0 ≤ a106 := g106 ▸ sz105
    have V106_a87 := V105_o0.keep K106 nin0
    have V106_rl98 := V105_o1.keep K106 nin0
    have V106_rs98 := V105_o2.keep K106 nin0
    have V106_rr98 := V105_o3.keep K106 nin0
    have V106_rg98 := V105_o4.keep K106 nin0
    have V106_rt98 := V105_o5.keep K106 nin0
    have V106_a99 := V105_a99.keep K106 nin0
    have A106_a97 := A105_o0.keep K106
    have F106_a97_0 := F105_o0.keep K106 nin0
    have F106_a97_1 := F105_o1.keep K106 nin0
    have F106_a97_2 := F105_o2.keep K106 nin0
    have F106_a97_3 := F105_o3.keep K106 nin0
    have F106_a97_4 := F105_o4.keep K106 nin0
    have F106_a97_5 := F105_o5.keep K106 nin0
    have F106_a97_6 := F105_o6.keep K106 nin0
    have F106_a97_7 := F105_o7.keep K106 nin0
    have sz106 : n0 ≤ h106.size := Nat.le_trans sz105 K106.1
    have N106 := Fr.app N105 N106q
    have q107_0 : (if ((if v4 = (1 : Int64) then (1 : Int32) else (0 : Int32))) = (0 : Int32) then (0 : Int64) else (1 : Int64)) = v4 := own_s01 hS
    have q107_2 : (((v17).toInt32)).toInt64 = v17 := own_left2 (N := 2) (k := 2) (by decide) (by decide) hLL
    have q107_3 : (((if (((if (v35 &&& (1 : Int64)) = (0 : Int64) then (0 : Int32) else (1 : Int32)) &&& 1)) = (0 : Int32) then (0 : Int64) else (1 : Int64)) ||| (if (((if (v35 &&& (2 : Int64)) = (0 : Int64) then (0 : Int32) else (1 : Int32)) &&& 1)) = (0 : Int32) then (0 : Int64) else (2 : Int64))) ||| (if (((if (v35 &&& (4 : Int64)) = (0 : Int64) then (0 : Int32) else (1 : Int32)) &&& 1)) = (0 : Int32) then (0 : Int64) else (4 : Int64))) = v35 := hF0.2.1
    have q107_6 : (((if (((if (v38 &&& (1 : Int64)) = (0 : Int64) then (0 : Int32) else (1 : Int32)) &&& 1)) = (0 : Int32) then (0 : Int64) else (1 : Int64)) ||| (if (((if (v38 &&& (2 : Int64)) = (0 : Int64) then (0 : Int32) else (1 : Int32)) &&& 1)) = (0 : Int32) then (0 : Int64) else (2 : Int64))) ||| (if (((if (v38 &&& (4 : Int64)) = (0 : Int64) then (0 : Int32) else (1 : Int32)) &&& 1)) = (0 : Int32) then (0 : Int64) else (4 : Int64))) = v38 := hF1.2.1
    have V107_a : own_AJ Z h106 a106 [v4, q1, v17, v35, q2, q3, v38, q4, q5] := by have w := R106; rw [q107_0, q107_2, q107_3, q107_6] at w; exact w
    obtain ⟨_, _, ⟨T108, L108, k108, n108⟩, -, X108, ⟨Lc108, hQ108, l108, y108, z108⟩, st108⟩ := Jvm.LawKit.callS X106 hx (y := (⟨"com/example/tributary/tributary/io/SilenceMeasuredPinLaw", "at", "([J[JI)Z"⟩ : MethodName)) hown (mvT hZ (H 66 rfl)) (mvT hZ (H 67 rfl)) (mvT hZ (H 7 rfl)) (mvT hZ (H 68 rfl)) (by decide) (backOf (W := 0) (rm9 l Z a0 hw [] a106 a87 (0 : Int32) [v4, q1, v17, v35, q2, q3, v38, q4, q5] [v4, q1, v17, v35, q2, q3, v38, q4, q5] h106 n0 sz106 V107_a V106_a87 (show 9 ≤ 100 by decide) rfl (by decide)) hZ (H 68 rfl) (H 7 rfl) (by decide) (by decide)) (g := (mkF m 375 #[iv q0, jv q1, s2, jv q2, s2, jv q3, s2, jv q4, s2, jv q5, s2, iv (2 : Int32), jv v4, s2, jv v35, s2, jv v38, s2, jv v41, s2, jv v17, s2, rv a87, rv a97, rv a99, iv (1 : Int32), rv a106, u0] [(.int (0 : Int32)), (.ref a87), (.ref a106)])) rfl (by rw [hml]; rfl) (argsL := [(.ref a106), (.ref a87), (.int (0 : Int32))]) (rest := []) (lenOf pd_122 rfl) rfl (by show 2 * 0 + _ ≤ _; exact Nat.le_of_eq rfl) (D at_375) (fun _ _ => ⟨rfl, e106, (by decide : 9 + 0 ≤ _), (by decide : 48 + 0 ≤ _)⟩)
    dsimp only [Pt.U, Pt.locs, Pt.cells, Pt.slots] at X108 l108 y108 z108 st108 hQ108
    replace y108 : k108 = 9 := y108
    replace z108 : n108 = 48 := z108
    replace l108 := l108.symm; replace y108 := y108.symm; replace z108 := z108.symm; subst l108 y108 z108
    obtain ⟨rfl, N108q, e108⟩ := hQ108
    have N108 := Fr.app N106 N108q
    have c109 : ¬ ((own_f9 ((0 : Int32)) [v4, q1, v17, v35, q2, q3, v38, q4, q5] [v4, q1, v17, v35, q2, q3, v38, q4, q5]) = (0 : Int32)) := (own_notz _ _)
    obtain ⟨_, _, ⟨T110, L110, k110, n110⟩, -, X110, ⟨Lc110, hQ110, l110, y110, z110⟩, st110⟩ := Jvm.LawKit.callS X108 hx (y := (⟨"com/example/tributary/tributary/io/SilenceMeasuredPinLaw", "at", "([J[JI)Z"⟩ : MethodName)) hown (mvT hZ (H 66 rfl)) (mvT hZ (H 67 rfl)) (mvT hZ (H 7 rfl)) (mvT hZ (H 68 rfl)) (by decide) (backOf (W := 0) (rm9 l Z a0 hw [] a106 a87 (1 : Int32) [v4, q1, v17, v35, q2, q3, v38, q4, q5] [v4, q1, v17, v35, q2, q3, v38, q4, q5] h106 n0 sz106 V107_a V106_a87 (show 9 ≤ 100 by decide) rfl (by decide)) hZ (H 68 rfl) (H 7 rfl) (by decide) (by decide)) (g := (mkF m 386 #[iv q0, jv q1, s2, jv q2, s2, jv q3, s2, jv q4, s2, jv q5, s2, iv (2 : Int32), jv v4, s2, jv v35, s2, jv v38, s2, jv v41, s2, jv v17, s2, rv a87, rv a97, rv a99, iv (1 : Int32), rv a106, u0] [(.int (1 : Int32)), (.ref a87), (.ref a106)])) rfl (by rw [hml]; rfl) (argsL := [(.ref a106), (.ref a87), (.int (1 : Int32))]) (rest := []) (lenOf pd_122 rfl) rfl (by show 2 * 0 + _ ≤ _; exact Nat.le_of_eq rfl) (D at_386) (fun _ _ => ⟨rfl, e108, (by decide : 9 + 0 ≤ _), (by decide : 48 + 0 ≤ _)⟩)
    dsimp only [Pt.U, Pt.locs, Pt.cells, Pt.slots] at X110 l110 y110 z110 st110 hQ110
    replace y110 : k110 = 9 := y110
    replace z110 : n110 = 48 := z110
    replace l110 := l110.symm; replace y110 := y110.symm; replace z110 := z110.symm; subst l110 y110 z110
    obtain ⟨rfl, N110q, e110⟩ := hQ110
    have N110 := Fr.app N108 N110q
    have c111 : ¬ ((own_f9 ((1 : Int32)) [v4, q1, v17, v35, q2, q3, v38, q4, q5] [v4, q1, v17, v35, q2, q3, v38, q4, q5]) = (0 : Int32)) := (own_notz _ _)
    obtain ⟨_, _, ⟨T112, L112, k112, n112⟩, -, X112, ⟨Lc112, hQ112, l112, y112, z112⟩, st112⟩ := Jvm.LawKit.callS X110 hx (y := (⟨"com/example/tributary/tributary/io/SilenceMeasuredPinLaw", "at", "([J[JI)Z"⟩ : MethodName)) hown (mvT hZ (H 66 rfl)) (mvT hZ (H 67 rfl)) (mvT hZ (H 7 rfl)) (mvT hZ (H 68 rfl)) (by decide) (backOf (W := 0) (rm9 l Z a0 hw [] a106 a87 (2 : Int32) [v4, q1, v17, v35, q2, q3, v38, q4, q5] [v4, q1, v17, v35, q2, q3, v38, q4, q5] h106 n0 sz106 V107_a V106_a87 (show 9 ≤ 100 by decide) rfl (by decide)) hZ (H 68 rfl) (H 7 rfl) (by decide) (by decide)) (g := (mkF m 397 #[iv q0, jv q1, s2, jv q2, s2, jv q3, s2, jv q4, s2, jv q5, s2, iv (2 : Int32), jv v4, s2, jv v35, s2, jv v38, s2, jv v41, s2, jv v17, s2, rv a87, rv a97, rv a99, iv (1 : Int32), rv a106, u0] [(.int (2 : Int32)), (.ref a87), (.ref a106)])) rfl (by rw [hml]; rfl) (argsL := [(.ref a106), (.ref a87), (.int (2 : Int32))]) (rest := []) (lenOf pd_122 rfl) rfl (by show 2 * 0 + _ ≤ _; exact Nat.le_of_eq rfl) (D at_397) (fun _ _ => ⟨rfl, e110, (by decide : 9 + 0 ≤ _), (by decide : 48 + 0 ≤ _)⟩)
    dsimp only [Pt.U, Pt.locs, Pt.cells, Pt.slots] at X112 l112 y112 z112 st112 hQ112
    replace y112 : k112 = 9 := y112
    replace z112 : n112 = 48 := z112
    replace l112 := l112.symm; replace y112 := y112.symm; replace z112 := z112.symm; subst l112 y112 z112
    obtain ⟨rfl, N112q, e112⟩ := hQ112
    have N112 := Fr.app N110 N112q
    have c113 : ¬ ((own_f9 ((2 : Int32)) [v4, q1, v17, v35, q2, q3, v38, q4, q5] [v4, q1, v17, v35, q2, q3, v38, q4, q5]) = (0 : Int32)) := (own_notz _ _)
    obtain ⟨_, _, ⟨T114, L114, k114, n114⟩, -, X114, ⟨Lc114, hQ114, l114, y114, z114⟩, st114⟩ := Jvm.LawKit.callS X112 hx (y := (⟨"com/example/tributary/tributary/io/SilenceMeasuredPinLaw", "at", "([J[JI)Z"⟩ : MethodName)) hown (mvT hZ (H 66 rfl)) (mvT hZ (H 67 rfl)) (mvT hZ (H 7 rfl)) (mvT hZ (H 68 rfl)) (by decide) (backOf (W := 0) (rm9 l Z a0 hw [] a106 a87 (3 : Int32) [v4, q1, v17, v35, q2, q3, v38, q4, q5] [v4, q1, v17, v35, q2, q3, v38, q4, q5] h106 n0 sz106 V107_a V106_a87 (show 9 ≤ 100 by decide) rfl (by decide)) hZ (H 68 rfl) (H 7 rfl) (by decide) (by decide)) (g := (mkF m 408 #[iv q0, jv q1, s2, jv q2, s2, jv q3, s2, jv q4, s2, jv q5, s2, iv (2 : Int32), jv v4, s2, jv v35, s2, jv v38, s2, jv v41, s2, jv v17, s2, rv a87, rv a97, rv a99, iv (1 : Int32), rv a106, u0] [(.int (3 : Int32)), (.ref a87), (.ref a106)])) rfl (by rw [hml]; rfl) (argsL := [(.ref a106), (.ref a87), (.int (3 : Int32))]) (rest := []) (lenOf pd_122 rfl) rfl (by show 2 * 0 + _ ≤ _; exact Nat.le_of_eq rfl) (D at_408) (fun _ _ => ⟨rfl, e112, (by decide : 9 + 0 ≤ _), (by decide : 48 + 0 ≤ _)⟩)
    dsimp only [Pt.U, Pt.locs, Pt.cells, Pt.slots] at X114 l114 y114 z114 st114 hQ114
    replace y114 : k114 = 9 := y114
    replace z114 : n114 = 48 := z114
    replace l114 := l114.symm; replace y114 := y114.symm; replace z114 := z114.symm; subst l114 y114 z114
    obtain ⟨rfl, N114q, e114⟩ := hQ114
    have N114 := Fr.app N112 N114q
    have c115 : ¬ ((own_f9 ((3 : Int32)) [v4, q1, v17, v35, q2, q3, v38, q4, q5] [v4, q1, v17, v35, q2, q3, v38, q4, q5]) = (0 : Int32)) := (own_notz _ _)
    obtain ⟨_, _, ⟨T116, L116, k116, n116⟩, -, X116, ⟨Lc116, hQ116, l116, y116, z116⟩, st116⟩ := Jvm.LawKit.callS X114 hx (y := (⟨"com/example/tributary/tributary/io/SilenceMeasuredPinLaw", "at", "([J[JI)Z"⟩ : MethodName)) hown (mvT hZ (H 66 rfl)) (mvT hZ (H 67 rfl)) (mvT hZ (H 7 rfl)) (mvT hZ (H 68 rfl)) (by decide) (backOf (W := 0) (rm9 l Z a0 hw [] a106 a87 (4 : Int32) [v4, q1, v17, v35, q2, q3, v38, q4, q5] [v4, q1, v17, v35, q2, q3, v38, q4, q5] h106 n0 sz106 V107_a V106_a87 (show 9 ≤ 100 by decide) rfl (by decide)) hZ (H 68 rfl) (H 7 rfl) (by decide) (by decide)) (g := (mkF m 419 #[iv q0, jv q1, s2, jv q2, s2, jv q3, s2, jv q4, s2, jv q5, s2, iv (2 : Int32), jv v4, s2, jv v35, s2, jv v38, s2, jv v41, s2, jv v17, s2, rv a87, rv a97, rv a99, iv (1 : Int32), rv a106, u0] [(.int (4 : Int32)), (.ref a87), (.ref a106)])) rfl (by rw [hml]; rfl) (argsL := [(.ref a106), (.ref a87), (.int (4 : Int32))]) (rest := []) (lenOf pd_122 rfl) rfl (by show 2 * 0 + _ ≤ _; exact Nat.le_of_eq rfl) (D at_419) (fun _ _ => ⟨rfl, e114, (by decide : 9 + 0 ≤ _), (by decide : 48 + 0 ≤ _)⟩)
    dsimp only [Pt.U, Pt.locs, Pt.cells, Pt.slots] at X116 l116 y116 z116 st116 hQ116
    replace y116 : k116 = 9 := y116
    replace z116 : n116 = 48 := z116
    replace l116 := l116.symm; replace y116 := y116.symm; replace z116 := z116.symm; subst l116 y116 z116
    obtain ⟨rfl, N116q, e116⟩ := hQ116
    have N116 := Fr.app N114 N116q
    have c117 : ¬ ((own_f9 ((4 : Int32)) [v4, q1, v17, v35, q2, q3, v38, q4, q5] [v4, q1, v17, v35, q2, q3, v38, q4, q5]) = (0 : Int32)) := (own_notz _ _)
    obtain ⟨_, _, ⟨T118, L118, k118, n118⟩, -, X118, ⟨Lc118, hQ118, l118, y118, z118⟩, st118⟩ := Jvm.LawKit.callS X116 hx (y := (⟨"com/example/tributary/tributary/io/SilenceMeasuredPinLaw", "at", "([J[JI)Z"⟩ : MethodName)) hown (mvT hZ (H 66 rfl)) (mvT hZ (H 67 rfl)) (mvT hZ (H 7 rfl)) (mvT hZ (H 68 rfl)) (by decide) (backOf (W := 0) (rm9 l Z a0 hw [] a106 a87 (5 : Int32) [v4, q1, v17, v35, q2, q3, v38, q4, q5] [v4, q1, v17, v35, q2, q3, v38, q4, q5] h106 n0 sz106 V107_a V106_a87 (show 9 ≤ 100 by decide) rfl (by decide)) hZ (H 68 rfl) (H 7 rfl) (by decide) (by decide)) (g := (mkF m 430 #[iv q0, jv q1, s2, jv q2, s2, jv q3, s2, jv q4, s2, jv q5, s2, iv (2 : Int32), jv v4, s2, jv v35, s2, jv v38, s2, jv v41, s2, jv v17, s2, rv a87, rv a97, rv a99, iv (1 : Int32), rv a106, u0] [(.int (5 : Int32)), (.ref a87), (.ref a106)])) rfl (by rw [hml]; rfl) (argsL := [(.ref a106), (.ref a87), (.int (5 : Int32))]) (rest := []) (lenOf pd_122 rfl) rfl (by show 2 * 0 + _ ≤ _; exact Nat.le_of_eq rfl) (D at_430) (fun _ _ => ⟨rfl, e116, (by decide : 9 + 0 ≤ _), (by decide : 48 + 0 ≤ _)⟩)
    dsimp only [Pt.U, Pt.locs, Pt.cells, Pt.slots] at X118 l118 y118 z118 st118 hQ118
    replace y118 : k118 = 9 := y118
    replace z118 : n118 = 48 := z118
    replace l118 := l118.symm; replace y118 := y118.symm; replace z118 := z118.symm; subst l118 y118 z118
    obtain ⟨rfl, N118q, e118⟩ := hQ118
    have N118 := Fr.app N116 N118q
    have c119 : ¬ ((own_f9 ((5 : Int32)) [v4, q1, v17, v35, q2, q3, v38, q4, q5] [v4, q1, v17, v35, q2, q3, v38, q4, q5]) = (0 : Int32)) := (own_notz _ _)
    obtain ⟨_, _, ⟨T120, L120, k120, n120⟩, -, X120, ⟨Lc120, hQ120, l120, y120, z120⟩, st120⟩ := Jvm.LawKit.callS X118 hx (y := (⟨"com/example/tributary/tributary/io/SilenceMeasuredPinLaw", "at", "([J[JI)Z"⟩ : MethodName)) hown (mvT hZ (H 66 rfl)) (mvT hZ (H 67 rfl)) (mvT hZ (H 7 rfl)) (mvT hZ (H 68 rfl)) (by decide) (backOf (W := 0) (rm9 l Z a0 hw [] a106 a87 (6 : Int32) [v4, q1, v17, v35, q2, q3, v38, q4, q5] [v4, q1, v17, v35, q2, q3, v38, q4, q5] h106 n0 sz106 V107_a V106_a87 (show 9 ≤ 100 by decide) rfl (by decide)) hZ (H 68 rfl) (H 7 rfl) (by decide) (by decide)) (g := (mkF m 442 #[iv q0, jv q1, s2, jv q2, s2, jv q3, s2, jv q4, s2, jv q5, s2, iv (2 : Int32), jv v4, s2, jv v35, s2, jv v38, s2, jv v41, s2, jv v17, s2, rv a87, rv a97, rv a99, iv (1 : Int32), rv a106, u0] [(.int (6 : Int32)), (.ref a87), (.ref a106)])) rfl (by rw [hml]; rfl) (argsL := [(.ref a106), (.ref a87), (.int (6 : Int32))]) (rest := []) (lenOf pd_122 rfl) rfl (by show 2 * 0 + _ ≤ _; exact Nat.le_of_eq rfl) (D at_442) (fun _ _ => ⟨rfl, e118, (by decide : 9 + 0 ≤ _), (by decide : 48 + 0 ≤ _)⟩)
    dsimp only [Pt.U, Pt.locs, Pt.cells, Pt.slots] at X120 l120 y120 z120 st120 hQ120
    replace y120 : k120 = 9 := y120
    replace z120 : n120 = 48 := z120
    replace l120 := l120.symm; replace y120 := y120.symm; replace z120 := z120.symm; subst l120 y120 z120
    obtain ⟨rfl, N120q, e120⟩ := hQ120
    have N120 := Fr.app N118 N120q
    have c121 : ¬ ((own_f9 ((6 : Int32)) [v4, q1, v17, v35, q2, q3, v38, q4, q5] [v4, q1, v17, v35, q2, q3, v38, q4, q5]) = (0 : Int32)) := (own_notz _ _)
    have pre122 : ∀ t, Steps p.tables e below (T120.setTop (mkF m 450 #[iv q0, jv q1, s2, jv q2, s2, jv q3, s2, jv q4, s2, jv q5, s2, iv (2 : Int32), jv v4, s2, jv v35, s2, jv v38, s2, jv v41, s2, jv v17, s2, rv a87, rv a97, rv a99, iv (1 : Int32), rv a106, u0] [(.ref a106)])) t → Steps p.tables e below B0 t := by
      intro t k
      refine pre101 t ?_
      show Steps p.tables e below (T99.setTop (mkF m 311 #[iv q0, jv q1, s2, jv q2, s2, jv q3, s2, jv q4, s2, jv q5, s2, iv (2 : Int32), jv v4, s2, jv v35, s2, jv v38, s2, jv v41, s2, jv v17, s2, rv a87, rv a97, rv a99, u0, u0, u0] [])) _
      refine XS.aload X99.here hx rfl (D at_311) rfl rfl ?_
      refine XS.iconst X99.here hx rfl (D at_313) ?_
      refine own_laload X99 hx hZ e99 R99 (show 0 ≤ Int32.toInt (1 : Int32) ∧ Int32.toInt (1 : Int32) < ((9 : Nat) : Int) by decide) (D at_314) _ ?_
      refine XS.lconst X99.here hx rfl (D at_315) ?_
      refine XS.lcmp X99.here hx rfl (D at_316) rfl ?_
      show Steps p.tables e below (T99.setTop (mkF m 317 #[iv q0, jv q1, s2, jv q2, s2, jv q3, s2, jv q4, s2, jv q5, s2, iv (2 : Int32), jv v4, s2, jv v35, s2, jv v38, s2, jv v41, s2, jv v17, s2, rv a87, rv a97, rv a99, u0, u0, u0] [(.int (lcmpW ((0 : Int64)) (0 : Int64)))])) _
      refine XS.ifNo X99.here hx rfl (D at_317) rfl ((if0 _ _).trans (teq ((lw_eq ((0 : Int64)) (0 : Int64)).mpr c102)).2) ?_
      refine XS.aload X99.here hx rfl (D at_320) rfl rfl ?_
      refine XS.iconst X99.here hx rfl (D at_322) ?_
      refine own_laload X99 hx hZ e99 R99 (show 0 ≤ Int32.toInt (2 : Int32) ∧ Int32.toInt (2 : Int32) < ((9 : Nat) : Int) by decide) (D at_323) _ ?_
      refine X99.ldc2Long hx hown (mvT hZ (H 52 rfl)) (g := (mkF m 324 #[iv q0, jv q1, s2, jv q2, s2, jv q3, s2, jv q4, s2, jv q5, s2, iv (2 : Int32), jv v4, s2, jv v35, s2, jv v38, s2, jv v41, s2, jv v17, s2, rv a87, rv a97, rv a99, u0, u0, u0] [(.long (((-1 : Int32))).toInt64)])) rfl (D at_324) _ ?_
      refine XS.lcmp X99.here hx rfl (D at_327) rfl ?_
      show Steps p.tables e below (T99.setTop (mkF m 328 #[iv q0, jv q1, s2, jv q2, s2, jv q3, s2, jv q4, s2, jv q5, s2, iv (2 : Int32), jv v4, s2, jv v35, s2, jv v38, s2, jv v41, s2, jv v17, s2, rv a87, rv a97, rv a99, u0, u0, u0] [(.int (lcmpW (((-1 : Int32))).toInt64 (-1 : Int64)))])) _
      refine XS.ifNo X99.here hx rfl (D at_328) rfl ((if0 _ _).trans (teq ((lw_eq (((-1 : Int32))).toInt64 (-1 : Int64)).mpr c103)).2) ?_
      refine XS.aload X99.here hx rfl (D at_331) rfl rfl ?_
      refine XS.iconst X99.here hx rfl (D at_333) ?_
      refine own_laload X99 hx hZ e99 R99 (show 0 ≤ Int32.toInt (3 : Int32) ∧ Int32.toInt (3 : Int32) < ((9 : Nat) : Int) by decide) (D at_334) _ ?_
      refine XS.lconst X99.here hx rfl (D at_335) ?_
      refine XS.lcmp X99.here hx rfl (D at_336) rfl ?_
      show Steps p.tables e below (T99.setTop (mkF m 337 #[iv q0, jv q1, s2, jv q2, s2, jv q3, s2, jv q4, s2, jv q5, s2, iv (2 : Int32), jv v4, s2, jv v35, s2, jv v38, s2, jv v41, s2, jv v17, s2, rv a87, rv a97, rv a99, u0, u0, u0] [(.int (lcmpW (((if ((0 : Int32)) = (0 : Int32) then (0 : Int64) else (1 : Int64)) ||| (if ((0 : Int32)) = (0 : Int32) then (0 : Int64) else (2 : Int64))) ||| (if ((0 : Int32)) = (0 : Int32) then (0 : Int64) else (4 : Int64))) (0 : Int64)))])) _
      refine XS.ifNo X99.here hx rfl (D at_337) rfl ((if0 _ _).trans (teq ((lw_eq (((if ((0 : Int32)) = (0 : Int32) then (0 : Int64) else (1 : Int64)) ||| (if ((0 : Int32)) = (0 : Int32) then (0 : Int64) else (2 : Int64))) ||| (if ((0 : Int32)) = (0 : Int32) then (0 : Int64) else (4 : Int64))) (0 : Int64)).mpr c104)).2) ?_
      refine XS.iconst X99.here hx rfl (D at_340) ?_
      refine XS.goto X99.here hx rfl (pc0 := 341) (pc' := 345) rfl (D at_341) (by decide) (by decide) ?_
      refine XS.istore X99.here hx rfl (D at_345) rfl (l' := #[iv q0, jv q1, s2, jv q2, s2, jv q3, s2, jv q4, s2, jv q5, s2, iv (2 : Int32), jv v4, s2, jv v35, s2, jv v38, s2, jv v41, s2, jv v17, s2, rv a87, rv a97, rv a99, iv (1 : Int32), u0, u0]) rfl ?_
      refine XS.aload X99.here hx rfl (D at_347) rfl rfl ?_
      refine XS.aload X99.here hx rfl (D at_349) rfl rfl ?_
      refine st105.trans ?_
      refine XS.aload X105.here hx rfl (D at_354) rfl rfl ?_
      refine st106.trans ?_
      show Steps p.tables e below (T106.setTop (mkF m 359 #[iv q0, jv q1, s2, jv q2, s2, jv q3, s2, jv q4, s2, jv q5, s2, iv (2 : Int32), jv v4, s2, jv v35, s2, jv v38, s2, jv v41, s2, jv v17, s2, rv a87, rv a97, rv a99, iv (1 : Int32), u0, u0] [(.ref a106)])) _
      refine XS.astore X106.here hx rfl (D at_359) rfl rfl (l' := #[iv q0, jv q1, s2, jv q2, s2, jv q3, s2, jv q4, s2, jv q5, s2, iv (2 : Int32), jv v4, s2, jv v35, s2, jv v38, s2, jv v41, s2, jv v17, s2, rv a87, rv a97, rv a99, iv (1 : Int32), rv a106, u0]) rfl ?_
      refine XS.aload X106.here hx rfl (D at_361) rfl rfl ?_
      refine own_alenJ X106 hx hZ e106 V107_a (D at_363) _ ?_
      refine XS.aload X106.here hx rfl (D at_364) rfl rfl ?_
      refine own_alenJ X106 hx hZ e106 V106_a87 (D at_366) _ ?_
      show Steps p.tables e below (T106.setTop (mkF m 367 #[iv q0, jv q1, s2, jv q2, s2, jv q3, s2, jv q4, s2, jv q5, s2, iv (2 : Int32), jv v4, s2, jv v35, s2, jv v38, s2, jv v41, s2, jv v17, s2, rv a87, rv a97, rv a99, iv (1 : Int32), rv a106, u0] [(.int (9 : Int32)), (.int (9 : Int32))])) _
      refine XS.icmpNo X106.here hx rfl (D at_367) rfl (by decide) ?_
      refine XS.aload X106.here hx rfl (D at_370) rfl rfl ?_
      refine XS.aload X106.here hx rfl (D at_372) rfl rfl ?_
      refine XS.iconst X106.here hx rfl (D at_374) ?_
      refine st108 _ ?_
      show Steps p.tables e below (T108.setTop (mkF m 378 #[iv q0, jv q1, s2, jv q2, s2, jv q3, s2, jv q4, s2, jv q5, s2, iv (2 : Int32), jv v4, s2, jv v35, s2, jv v38, s2, jv v41, s2, jv v17, s2, rv a87, rv a97, rv a99, iv (1 : Int32), rv a106, u0] [(.int (own_f9 ((0 : Int32)) [v4, q1, v17, v35, q2, q3, v38, q4, q5] [v4, q1, v17, v35, q2, q3, v38, q4, q5]))])) _
      refine XS.ifNo X108.here hx rfl (D at_378) rfl ((if0 _ _).trans (feq c109).1) ?_
      refine XS.aload X108.here hx rfl (D at_381) rfl rfl ?_
      refine XS.aload X108.here hx rfl (D at_383) rfl rfl ?_
      refine XS.iconst X108.here hx rfl (D at_385) ?_
      refine st110 _ ?_
      show Steps p.tables e below (T110.setTop (mkF m 389 #[iv q0, jv q1, s2, jv q2, s2, jv q3, s2, jv q4, s2, jv q5, s2, iv (2 : Int32), jv v4, s2, jv v35, s2, jv v38, s2, jv v41, s2, jv v17, s2, rv a87, rv a97, rv a99, iv (1 : Int32), rv a106, u0] [(.int (own_f9 ((1 : Int32)) [v4, q1, v17, v35, q2, q3, v38, q4, q5] [v4, q1, v17, v35, q2, q3, v38, q4, q5]))])) _
      refine XS.ifNo X110.here hx rfl (D at_389) rfl ((if0 _ _).trans (feq c111).1) ?_
      refine XS.aload X110.here hx rfl (D at_392) rfl rfl ?_
      refine XS.aload X110.here hx rfl (D at_394) rfl rfl ?_
      refine XS.iconst X110.here hx rfl (D at_396) ?_
      refine st112 _ ?_
      show Steps p.tables e below (T112.setTop (mkF m 400 #[iv q0, jv q1, s2, jv q2, s2, jv q3, s2, jv q4, s2, jv q5, s2, iv (2 : Int32), jv v4, s2, jv v35, s2, jv v38, s2, jv v41, s2, jv v17, s2, rv a87, rv a97, rv a99, iv (1 : Int32), rv a106, u0] [(.int (own_f9 ((2 : Int32)) [v4, q1, v17, v35, q2, q3, v38, q4, q5] [v4, q1, v17, v35, q2, q3, v38, q4, q5]))])) _
      refine XS.ifNo X112.here hx rfl (D at_400) rfl ((if0 _ _).trans (feq c113).1) ?_
      refine XS.aload X112.here hx rfl (D at_403) rfl rfl ?_
      refine XS.aload X112.here hx rfl (D at_405) rfl rfl ?_
      refine XS.iconst X112.here hx rfl (D at_407) ?_
      refine st114 _ ?_
      show Steps p.tables e below (T114.setTop (mkF m 411 #[iv q0, jv q1, s2, jv q2, s2, jv q3, s2, jv q4, s2, jv q5, s2, iv (2 : Int32), jv v4, s2, jv v35, s2, jv v38, s2, jv v41, s2, jv v17, s2, rv a87, rv a97, rv a99, iv (1 : Int32), rv a106, u0] [(.int (own_f9 ((3 : Int32)) [v4, q1, v17, v35, q2, q3, v38, q4, q5] [v4, q1, v17, v35, q2, q3, v38, q4, q5]))])) _
      refine XS.ifNo X114.here hx rfl (D at_411) rfl ((if0 _ _).trans (feq c115).1) ?_
      refine XS.aload X114.here hx rfl (D at_414) rfl rfl ?_
      refine XS.aload X114.here hx rfl (D at_416) rfl rfl ?_
      refine XS.iconst X114.here hx rfl (D at_418) ?_
      refine st116 _ ?_
      show Steps p.tables e below (T116.setTop (mkF m 422 #[iv q0, jv q1, s2, jv q2, s2, jv q3, s2, jv q4, s2, jv q5, s2, iv (2 : Int32), jv v4, s2, jv v35, s2, jv v38, s2, jv v41, s2, jv v17, s2, rv a87, rv a97, rv a99, iv (1 : Int32), rv a106, u0] [(.int (own_f9 ((4 : Int32)) [v4, q1, v17, v35, q2, q3, v38, q4, q5] [v4, q1, v17, v35, q2, q3, v38, q4, q5]))])) _
      refine XS.ifNo X116.here hx rfl (D at_422) rfl ((if0 _ _).trans (feq c117).1) ?_
      refine XS.aload X116.here hx rfl (D at_425) rfl rfl ?_
      refine XS.aload X116.here hx rfl (D at_427) rfl rfl ?_
      refine XS.iconst X116.here hx rfl (D at_429) ?_
      refine st118 _ ?_
      show Steps p.tables e below (T118.setTop (mkF m 433 #[iv q0, jv q1, s2, jv q2, s2, jv q3, s2, jv q4, s2, jv q5, s2, iv (2 : Int32), jv v4, s2, jv v35, s2, jv v38, s2, jv v41, s2, jv v17, s2, rv a87, rv a97, rv a99, iv (1 : Int32), rv a106, u0] [(.int (own_f9 ((5 : Int32)) [v4, q1, v17, v35, q2, q3, v38, q4, q5] [v4, q1, v17, v35, q2, q3, v38, q4, q5]))])) _
      refine XS.ifNo X118.here hx rfl (D at_433) rfl ((if0 _ _).trans (feq c119).1) ?_
      refine XS.aload X118.here hx rfl (D at_436) rfl rfl ?_
      refine XS.aload X118.here hx rfl (D at_438) rfl rfl ?_
      refine XS.bipush X118.here hx rfl (D at_440) ?_
      refine st120 _ ?_
      show Steps p.tables e below (T120.setTop (mkF m 445 #[iv q0, jv q1, s2, jv q2, s2, jv q3, s2, jv q4, s2, jv q5, s2, iv (2 : Int32), jv v4, s2, jv v35, s2, jv v38, s2, jv v41, s2, jv v17, s2, rv a87, rv a97, rv a99, iv (1 : Int32), rv a106, u0] [(.int (own_f9 ((6 : Int32)) [v4, q1, v17, v35, q2, q3, v38, q4, q5] [v4, q1, v17, v35, q2, q3, v38, q4, q5]))])) _
      refine XS.ifNo X120.here hx rfl (D at_445) rfl ((if0 _ _).trans (feq c121).1) ?_
      refine XS.aload X120.here hx rfl (D at_448) rfl rfl ?_
      exact k
    clear X99 R99 e99 V99_a87 V99_rl98 V99_rs98 V99_rr98 V99_rg98 V99_rt98 A99_a97 F99_a97_0 F99_a97_1 F99_a97_2 F99_a97_3 F99_a97_4 F99_a97_5 F99_a97_6 F99_a97_7 F99_a97_8 sz99 N99 pre101 X105 st105 N105q K105 A105_o0 F105_o0 F105_o1 F105_o2 F105_o3 F105_o4 F105_o5 F105_o6 F105_o7 V105_o0 V105_o1 V105_o2 V105_o3 V105_o4 V105_o5 e105 V105_a87 V105_a99 A105_a97 sz105 N105 X106 st106 N106q K106 R106 e106 N106 X108 st108 N108q e108 N108 X110 st110 N110q e110 N110 X112 st112 N112q e112 N112 X114 st114 N114q e114 N114 X116 st116 N116q e116 N116 X118 st118 N118q e118 N118 st120 N120q
    obtain ⟨_, _, ⟨T123, L123, k123, n123⟩, -, X123, ⟨Lc123, hQ123, l123, y123, z123⟩, st123⟩ := Jvm.LawKit.callS X120 hx (y := (⟨"com/example/tributary/tributary/io/SilenceMeasuredPinLaw", "at", "([J[JI)Z"⟩ : MethodName)) hown (mvT hZ (H 66 rfl)) (mvT hZ (H 67 rfl)) (mvT hZ (H 7 rfl)) (mvT hZ (H 68 rfl)) (by decide) (backOf (W := 0) (rm9 l Z a0 hw [] a106 a87 (7 : Int32) [v4, q1, v17, v35, q2, q3, v38, q4, q5] [v4, q1, v17, v35, q2, q3, v38, q4, q5] h106 n0 sz106 V107_a V106_a87 (show 9 ≤ 100 by decide) rfl (by decide)) hZ (H 68 rfl) (H 7 rfl) (by decide) (by decide)) (g := (mkF m 454 #[iv q0, jv q1, s2, jv q2, s2, jv q3, s2, jv q4, s2, jv q5, s2, iv (2 : Int32), jv v4, s2, jv v35, s2, jv v38, s2, jv v41, s2, jv v17, s2, rv a87, rv a97, rv a99, iv (1 : Int32), rv a106, u0] [(.int (7 : Int32)), (.ref a87), (.ref a106)])) rfl (by rw [hml]; rfl) (argsL := [(.ref a106), (.ref a87), (.int (7 : Int32))]) (rest := []) (lenOf pd_122 rfl) rfl (by show 2 * 0 + _ ≤ _; exact Nat.le_of_eq rfl) (D at_454) (fun _ _ => ⟨rfl, e120, (by decide : 9 + 0 ≤ _), (by decide : 48 + 0 ≤ _)⟩)
    dsimp only [Pt.U, Pt.locs, Pt.cells, Pt.slots] at X123 l123 y123 z123 st123 hQ123
    replace y123 : k123 = 9 := y123
    replace z123 : n123 = 48 := z123
    replace l123 := l123.symm; replace y123 := y123.symm; replace z123 := z123.symm; subst l123 y123 z123
    obtain ⟨rfl, N123q, e123⟩ := hQ123
    have N123 := Fr.app N120 N123q
    have c124 : ¬ ((own_f9 ((7 : Int32)) [v4, q1, v17, v35, q2, q3, v38, q4, q5] [v4, q1, v17, v35, q2, q3, v38, q4, q5]) = (0 : Int32)) := (own_notz _ _)
    obtain ⟨_, _, ⟨T125, L125, k125, n125⟩, -, X125, ⟨Lc125, hQ125, l125, y125, z125⟩, st125⟩ := Jvm.LawKit.callS X123 hx (y := (⟨"com/example/tributary/tributary/io/SilenceMeasuredPinLaw", "at", "([J[JI)Z"⟩ : MethodName)) hown (mvT hZ (H 66 rfl)) (mvT hZ (H 67 rfl)) (mvT hZ (H 7 rfl)) (mvT hZ (H 68 rfl)) (by decide) (backOf (W := 0) (rm9 l Z a0 hw [] a106 a87 (8 : Int32) [v4, q1, v17, v35, q2, q3, v38, q4, q5] [v4, q1, v17, v35, q2, q3, v38, q4, q5] h106 n0 sz106 V107_a V106_a87 (show 9 ≤ 100 by decide) rfl (by decide)) hZ (H 68 rfl) (H 7 rfl) (by decide) (by decide)) (g := (mkF m 466 #[iv q0, jv q1, s2, jv q2, s2, jv q3, s2, jv q4, s2, jv q5, s2, iv (2 : Int32), jv v4, s2, jv v35, s2, jv v38, s2, jv v41, s2, jv v17, s2, rv a87, rv a97, rv a99, iv (1 : Int32), rv a106, u0] [(.int (8 : Int32)), (.ref a87), (.ref a106)])) rfl (by rw [hml]; rfl) (argsL := [(.ref a106), (.ref a87), (.int (8 : Int32))]) (rest := []) (lenOf pd_122 rfl) rfl (by show 2 * 0 + _ ≤ _; exact Nat.le_of_eq rfl) (D at_466) (fun _ _ => ⟨rfl, e123, (by decide : 9 + 0 ≤ _), (by decide : 48 + 0 ≤ _)⟩)
    dsimp only [Pt.U, Pt.locs, Pt.cells, Pt.slots] at X125 l125 y125 z125 st125 hQ125
    replace y125 : k125 = 9 := y125
    replace z125 : n125 = 48 := z125
    replace l125 := l125.symm; replace y125 := y125.symm; replace z125 := z125.symm; subst l125 y125 z125
    obtain ⟨rfl, N125q, e125⟩ := hQ125
    have N125 := Fr.app N123 N125q
    have c126 : ¬ ((own_f9 ((8 : Int32)) [v4, q1, v17, v35, q2, q3, v38, q4, q5] [v4, q1, v17, v35, q2, q3, v38, q4, q5]) = (0 : Int32)) := (own_notz _ _)
    obtain ⟨_, _, ⟨T127, L127, k127, n127⟩, -, X127, ⟨Lc127, hQ127, l127, y127, z127⟩, st127⟩ := Jvm.LawKit.callS X125 hx (y := (⟨"com/example/tributary/tributary/io/SilenceMeasuredPinLaw", "at", "([J[JI)Z"⟩ : MethodName)) hown (mvT hZ (H 66 rfl)) (mvT hZ (H 67 rfl)) (mvT hZ (H 7 rfl)) (mvT hZ (H 68 rfl)) (by decide) (backOf (W := 0) (rm9 l Z a0 hw [] a106 a87 (9 : Int32) [v4, q1, v17, v35, q2, q3, v38, q4, q5] [v4, q1, v17, v35, q2, q3, v38, q4, q5] h106 n0 sz106 V107_a V106_a87 (show 9 ≤ 100 by decide) rfl (by decide)) hZ (H 68 rfl) (H 7 rfl) (by decide) (by decide)) (g := (mkF m 478 #[iv q0, jv q1, s2, jv q2, s2, jv q3, s2, jv q4, s2, jv q5, s2, iv (2 : Int32), jv v4, s2, jv v35, s2, jv v38, s2, jv v41, s2, jv v17, s2, rv a87, rv a97, rv a99, iv (1 : Int32), rv a106, u0] [(.int (9 : Int32)), (.ref a87), (.ref a106)])) rfl (by rw [hml]; rfl) (argsL := [(.ref a106), (.ref a87), (.int (9 : Int32))]) (rest := []) (lenOf pd_122 rfl) rfl (by show 2 * 0 + _ ≤ _; exact Nat.le_of_eq rfl) (D at_478) (fun _ _ => ⟨rfl, e125, (by decide : 9 + 0 ≤ _), (by decide : 48 + 0 ≤ _)⟩)
    dsimp only [Pt.U, Pt.locs, Pt.cells, Pt.slots] at X127 l127 y127 z127 st127 hQ127
    replace y127 : k127 = 9 := y127
    replace z127 : n127 = 48 := z127
    replace l127 := l127.symm; replace y127 := y127.symm; replace z127 := z127.symm; subst l127 y127 z127
    obtain ⟨rfl, N127q, e127⟩ := hQ127
    have N127 := Fr.app N125 N127q
    have c128 : ¬ ((own_f9 ((9 : Int32)) [v4, q1, v17, v35, q2, q3, v38, q4, q5] [v4, q1, v17, v35, q2, q3, v38, q4, q5]) = (0 : Int32)) := (own_notz _ _)
    obtain ⟨_, _, ⟨T129, L129, k129, n129⟩, -, X129, ⟨Lc129, hQ129, l129, y129, z129⟩, st129⟩ := Jvm.LawKit.callS X127 hx (y := (⟨"com/example/tributary/tributary/io/SilenceMeasuredPinLaw", "at", "([J[JI)Z"⟩ : MethodName)) hown (mvT hZ (H 66 rfl)) (mvT hZ (H 67 rfl)) (mvT hZ (H 7 rfl)) (mvT hZ (H 68 rfl)) (by decide) (backOf (W := 0) (rm9 l Z a0 hw [] a106 a87 (10 : Int32) [v4, q1, v17, v35, q2, q3, v38, q4, q5] [v4, q1, v17, v35, q2, q3, v38, q4, q5] h106 n0 sz106 V107_a V106_a87 (show 9 ≤ 100 by decide) rfl (by decide)) hZ (H 68 rfl) (H 7 rfl) (by decide) (by decide)) (g := (mkF m 490 #[iv q0, jv q1, s2, jv q2, s2, jv q3, s2, jv q4, s2, jv q5, s2, iv (2 : Int32), jv v4, s2, jv v35, s2, jv v38, s2, jv v41, s2, jv v17, s2, rv a87, rv a97, rv a99, iv (1 : Int32), rv a106, u0] [(.int (10 : Int32)), (.ref a87), (.ref a106)])) rfl (by rw [hml]; rfl) (argsL := [(.ref a106), (.ref a87), (.int (10 : Int32))]) (rest := []) (lenOf pd_122 rfl) rfl (by show 2 * 0 + _ ≤ _; exact Nat.le_of_eq rfl) (D at_490) (fun _ _ => ⟨rfl, e127, (by decide : 9 + 0 ≤ _), (by decide : 48 + 0 ≤ _)⟩)
    dsimp only [Pt.U, Pt.locs, Pt.cells, Pt.slots] at X129 l129 y129 z129 st129 hQ129
    replace y129 : k129 = 9 := y129
    replace z129 : n129 = 48 := z129
    replace l129 := l129.symm; replace y129 := y129.symm; replace z129 := z129.symm; subst l129 y129 z129
    obtain ⟨rfl, N129q, e129⟩ := hQ129
    have N129 := Fr.app N127 N129q
    have c130 : ¬ ((own_f9 ((10 : Int32)) [v4, q1, v17, v35, q2, q3, v38, q4, q5] [v4, q1, v17, v35, q2, q3, v38, q4, q5]) = (0 : Int32)) := (own_notz _ _)
    obtain ⟨_, _, ⟨T131, L131, k131, n131⟩, -, X131, ⟨Lc131, hQ131, l131, y131, z131⟩, st131⟩ := Jvm.LawKit.callS X129 hx (y := (⟨"com/example/tributary/tributary/io/SilenceMeasuredPinLaw", "at", "([J[JI)Z"⟩ : MethodName)) hown (mvT hZ (H 66 rfl)) (mvT hZ (H 67 rfl)) (mvT hZ (H 7 rfl)) (mvT hZ (H 68 rfl)) (by decide) (backOf (W := 0) (rm9 l Z a0 hw [] a106 a87 (11 : Int32) [v4, q1, v17, v35, q2, q3, v38, q4, q5] [v4, q1, v17, v35, q2, q3, v38, q4, q5] h106 n0 sz106 V107_a V106_a87 (show 9 ≤ 100 by decide) rfl (by decide)) hZ (H 68 rfl) (H 7 rfl) (by decide) (by decide)) (g := (mkF m 502 #[iv q0, jv q1, s2, jv q2, s2, jv q3, s2, jv q4, s2, jv q5, s2, iv (2 : Int32), jv v4, s2, jv v35, s2, jv v38, s2, jv v41, s2, jv v17, s2, rv a87, rv a97, rv a99, iv (1 : Int32), rv a106, u0] [(.int (11 : Int32)), (.ref a87), (.ref a106)])) rfl (by rw [hml]; rfl) (argsL := [(.ref a106), (.ref a87), (.int (11 : Int32))]) (rest := []) (lenOf pd_122 rfl) rfl (by show 2 * 0 + _ ≤ _; exact Nat.le_of_eq rfl) (D at_502) (fun _ _ => ⟨rfl, e129, (by decide : 9 + 0 ≤ _), (by decide : 48 + 0 ≤ _)⟩)
    dsimp only [Pt.U, Pt.locs, Pt.cells, Pt.slots] at X131 l131 y131 z131 st131 hQ131
    replace y131 : k131 = 9 := y131
    replace z131 : n131 = 48 := z131
    replace l131 := l131.symm; replace y131 := y131.symm; replace z131 := z131.symm; subst l131 y131 z131
    obtain ⟨rfl, N131q, e131⟩ := hQ131
    have N131 := Fr.app N129 N131q
    have c132 : ¬ ((own_f9 ((11 : Int32)) [v4, q1, v17, v35, q2, q3, v38, q4, q5] [v4, q1, v17, v35, q2, q3, v38, q4, q5]) = (0 : Int32)) := (own_notz _ _)
    obtain ⟨fs, hr, hrun, hended, hW, hsame⟩ := X131.leave (v := some (.int (1 : Int32))) (fun h => by rw [Bd.returns] at h; cases h) hlk
    refine ⟨_, _, pre122 _ ?_, hrun, hended, _, _, rfl, ?_, ⟨_, rfl⟩, hW, hsame.mono (by decide) (by decide)⟩
    · show Steps p.tables e below (T120.setTop (mkF m 450 #[iv q0, jv q1, s2, jv q2, s2, jv q3, s2, jv q4, s2, jv q5, s2, iv (2 : Int32), jv v4, s2, jv v35, s2, jv v38, s2, jv v41, s2, jv v17, s2, rv a87, rv a97, rv a99, iv (1 : Int32), rv a106, u0] [(.ref a106)])) _
      refine XS.aload X120.here hx rfl (D at_450) rfl rfl ?_
      refine XS.bipush X120.here hx rfl (D at_452) ?_
      refine st123 _ ?_
      show Steps p.tables e below (T123.setTop (mkF m 457 #[iv q0, jv q1, s2, jv q2, s2, jv q3, s2, jv q4, s2, jv q5, s2, iv (2 : Int32), jv v4, s2, jv v35, s2, jv v38, s2, jv v41, s2, jv v17, s2, rv a87, rv a97, rv a99, iv (1 : Int32), rv a106, u0] [(.int (own_f9 ((7 : Int32)) [v4, q1, v17, v35, q2, q3, v38, q4, q5] [v4, q1, v17, v35, q2, q3, v38, q4, q5]))])) _
      refine XS.ifNo X123.here hx rfl (D at_457) rfl ((if0 _ _).trans (feq c124).1) ?_
      refine XS.aload X123.here hx rfl (D at_460) rfl rfl ?_
      refine XS.aload X123.here hx rfl (D at_462) rfl rfl ?_
      refine XS.bipush X123.here hx rfl (D at_464) ?_
      show Steps p.tables e below (T123.setTop (mkF m 466 #[iv q0, jv q1, s2, jv q2, s2, jv q3, s2, jv q4, s2, jv q5, s2, iv (2 : Int32), jv v4, s2, jv v35, s2, jv v38, s2, jv v41, s2, jv v17, s2, rv a87, rv a97, rv a99, iv (1 : Int32), rv a106, u0] [(.int (8 : Int32)), (.ref a87), (.ref a106)])) _
      refine st125 _ ?_
      show Steps p.tables e below (T125.setTop (mkF m 469 #[iv q0, jv q1, s2, jv q2, s2, jv q3, s2, jv q4, s2, jv q5, s2, iv (2 : Int32), jv v4, s2, jv v35, s2, jv v38, s2, jv v41, s2, jv v17, s2, rv a87, rv a97, rv a99, iv (1 : Int32), rv a106, u0] [(.int (own_f9 ((8 : Int32)) [v4, q1, v17, v35, q2, q3, v38, q4, q5] [v4, q1, v17, v35, q2, q3, v38, q4, q5]))])) _
      refine XS.ifNo X125.here hx rfl (D at_469) rfl ((if0 _ _).trans (feq c126).1) ?_
      refine XS.aload X125.here hx rfl (D at_472) rfl rfl ?_
      refine XS.aload X125.here hx rfl (D at_474) rfl rfl ?_
      refine XS.bipush X125.here hx rfl (D at_476) ?_
      refine st127 _ ?_
      show Steps p.tables e below (T127.setTop (mkF m 481 #[iv q0, jv q1, s2, jv q2, s2, jv q3, s2, jv q4, s2, jv q5, s2, iv (2 : Int32), jv v4, s2, jv v35, s2, jv v38, s2, jv v41, s2, jv v17, s2, rv a87, rv a97, rv a99, iv (1 : Int32), rv a106, u0] [(.int (own_f9 ((9 : Int32)) [v4, q1, v17, v35, q2, q3, v38, q4, q5] [v4, q1, v17, v35, q2, q3, v38, q4, q5]))])) _
      refine XS.ifNo X127.here hx rfl (D at_481) rfl ((if0 _ _).trans (feq c128).1) ?_
      refine XS.aload X127.here hx rfl (D at_484) rfl rfl ?_
      refine XS.aload X127.here hx rfl (D at_486) rfl rfl ?_
      refine XS.bipush X127.here hx rfl (D at_488) ?_
      refine st129 _ ?_
      show Steps p.tables e below (T129.setTop (mkF m 493 #[iv q0, jv q1, s2, jv q2, s2, jv q3, s2, jv q4, s2, jv q5, s2, iv (2 : Int32), jv v4, s2, jv v35, s2, jv v38, s2, jv v41, s2, jv v17, s2, rv a87, rv a97, rv a99, iv (1 : Int32), rv a106, u0] [(.int (own_f9 ((10 : Int32)) [v4, q1, v17, v35, q2, q3, v38, q4, q5] [v4, q1, v17, v35, q2, q3, v38, q4, q5]))])) _
      refine XS.ifNo X129.here hx rfl (D at_493) rfl ((if0 _ _).trans (feq c130).1) ?_
      refine XS.aload X129.here hx rfl (D at_496) rfl rfl ?_
      refine XS.aload X129.here hx rfl (D at_498) rfl rfl ?_
      refine XS.bipush X129.here hx rfl (D at_500) ?_
      refine st131 _ ?_
      show Steps p.tables e below (T131.setTop (mkF m 505 #[iv q0, jv q1, s2, jv q2, s2, jv q3, s2, jv q4, s2, jv q5, s2, iv (2 : Int32), jv v4, s2, jv v35, s2, jv v38, s2, jv v41, s2, jv v17, s2, rv a87, rv a97, rv a99, iv (1 : Int32), rv a106, u0] [(.int (own_f9 ((11 : Int32)) [v4, q1, v17, v35, q2, q3, v38, q4, q5] [v4, q1, v17, v35, q2, q3, v38, q4, q5]))])) _
      refine XS.ifNo X131.here hx rfl (D at_505) rfl ((if0 _ _).trans (feq c132).1) ?_
      refine XS.iconst X131.here hx rfl (D at_508) ?_
      refine XS.goto X131.here hx rfl (pc0 := 509) (pc' := 513) rfl (D at_509) (by decide) (by decide) ?_
      refine XS.istore X131.here hx rfl (D at_513) rfl (l' := #[iv q0, jv q1, s2, jv q2, s2, jv q3, s2, jv q4, s2, jv q5, s2, iv (2 : Int32), jv v4, s2, jv v35, s2, jv v38, s2, jv v41, s2, jv v17, s2, rv a87, rv a97, rv a99, iv (1 : Int32), rv a106, iv (1 : Int32)]) rfl ?_
      refine XS.iload X131.here hx rfl (D at_515) rfl ?_
      show Steps p.tables e below (T131.setTop (mkF m 517 #[iv q0, jv q1, s2, jv q2, s2, jv q3, s2, jv q4, s2, jv q5, s2, iv (2 : Int32), jv v4, s2, jv v35, s2, jv v38, s2, jv v41, s2, jv v17, s2, rv a87, rv a97, rv a99, iv (1 : Int32), rv a106, iv (1 : Int32)] [(.int (1 : Int32))])) _
      refine XS.ifNo X131.here hx rfl (D at_517) rfl (by decide) ?_
      refine XS.iload X131.here hx rfl (D at_520) rfl ?_
      show Steps p.tables e below (T131.setTop (mkF m 522 #[iv q0, jv q1, s2, jv q2, s2, jv q3, s2, jv q4, s2, jv q5, s2, iv (2 : Int32), jv v4, s2, jv v35, s2, jv v38, s2, jv v41, s2, jv v17, s2, rv a87, rv a97, rv a99, iv (1 : Int32), rv a106, iv (1 : Int32)] [(.int (1 : Int32))])) _
      refine XS.ifNo X131.here hx rfl (D at_522) rfl (by decide) ?_
      refine XS.aload X131.here hx rfl (D at_525) rfl rfl ?_
      refine XS.aload X131.here hx rfl (D at_527) rfl rfl ?_
      refine XS.acmpNo X131.here hx rfl (D at_529) rfl (by simp [if_acmp.holds, (Ne.symm ne_a87_a106)]) ?_
      refine XS.aload X131.here hx rfl (D at_532) rfl rfl ?_
      refine XS.aload X131.here hx rfl (D at_534) rfl rfl ?_
      refine XS.acmpNo X131.here hx rfl (D at_536) rfl (by simp [if_acmp.holds, (Ne.symm ne_a99_a106)]) ?_
      refine XS.iconst X131.here hx rfl (D at_539) ?_
      refine XS.goto X131.here hx rfl (pc0 := 540) (pc' := 544) rfl (D at_540) (by decide) (by decide) ?_
      show Steps p.tables e below (T131.setTop (mkF m 544 #[iv q0, jv q1, s2, jv q2, s2, jv q3, s2, jv q4, s2, jv q5, s2, iv (2 : Int32), jv v4, s2, jv v35, s2, jv v38, s2, jv v41, s2, jv v17, s2, rv a87, rv a97, rv a99, iv (1 : Int32), rv a106, iv (1 : Int32)] [(.int (1 : Int32))])) _
      exact retN X131 hx (t := .boolean) Bd.returns (by simp) (D at_544) hr
    · show Q0 Z q0 q1 q2 q3 q4 q5 h0 n0 _ T131.heap _
      rw [e131]
      exact ⟨by have w_hv41 := hv41.symm; subst w_hv41; have w_hv38 := hv38.symm; subst w_hv38; have w_hv35 := hv35.symm; subst w_hv35; have w_hv32 := hv32.symm; subst w_hv32; have w_hv27 := hv27.symm; subst w_hv27; have w_hv22 := hv22.symm; subst w_hv22; have w_hv17 := hv17.symm; subst w_hv17; have w_hv12 := hv12.symm; subst w_hv12; have w_hv10 := hv10.symm; subst w_hv10; have w_hv8 := hv8.symm; subst w_hv8; have w_hv6 := hv6.symm; subst w_hv6; have w_hv4 := hv4.symm; subst w_hv4; simp only [own_f0, ← hv2, if_neg (by decide : ¬ ((2 : Int32) = (1 : Int32))), if_pos (rfl : (2 : Int32) = (2 : Int32)), if_true, if_false], N131⟩
  · obtain ⟨T133, h133, cA133, X133, e133, E133, A133, st133⟩ := newP X40 hx hZ (aty := .long) (H 11 rfl) e40 (g := (mkF m 175 #[iv q0, jv q1, s2, jv q2, s2, jv q3, s2, jv q4, s2, jv q5, s2, iv (3 : Int32), jv v4, s2, jv v35, s2, jv v38, s2, jv v41, s2, jv v17, s2, u0, u0, u0, u0, u0, u0] [(.int (12 : Int32))])) rfl (D at_175) rfl (by decide) (cap := 12) (by decide) (by decide) (by decide) (by decide)
    obtain ⟨a133, g133⟩ : ∃ z, z = h0.size := ⟨_, rfl⟩
    rw [← g133] at A133 st133
    have ge_a133 : n0 ≤ a133 := g133 ▸ Z0
    have sz133 := Nat.le_trans Z0 E133.1
    have V133_n : own_AJ Z h133 a133 [(0 : Int64), (0 : Int64), (0 : Int64), (0 : Int64), (0 : Int64), (0 : Int64), (0 : Int64), (0 : Int64), (0 : Int64), (0 : Int64), (0 : Int64), (0 : Int64)] := own_AJ_new A133 (k := 12) (by decide)
    obtain ⟨T134, h134, X134, e134, W134, V134, st134⟩ := own_lastore X133 hx hZ e133 V133_n (j := (0 : Int32)) (show 0 ≤ Int32.toInt (0 : Int32) ∧ Int32.toInt (0 : Int32) < ((12 : Nat) : Int) by decide) (x := v4) (D at_184)
    have sz134 := Nat.le_trans sz133 (Keep.of_wr W134).1
    have N134 := Fr.snoc X134 N40 ge_a133
    have V134_n : own_AJ Z h134 a133 [v4, (0 : Int64), (0 : Int64), (0 : Int64), (0 : Int64), (0 : Int64), (0 : Int64), (0 : Int64), (0 : Int64), (0 : Int64), (0 : Int64), (0 : Int64)] := V134
    obtain ⟨T135, h135, X135, e135, W135, V135, st135⟩ := own_lastore X134 hx hZ e134 V134_n (j := (1 : Int32)) (show 0 ≤ Int32.toInt (1 : Int32) ∧ Int32.toInt (1 : Int32) < ((12 : Nat) : Int) by decide) (x := q1) (D at_189)
    have sz135 := Nat.le_trans sz134 (Keep.of_wr W135).1
    have N135 := Fr.snoc X135 N134 ge_a133
    have V135_n : own_AJ Z h135 a133 [v4, q1, (0 : Int64), (0 : Int64), (0 : Int64), (0 : Int64), (0 : Int64), (0 : Int64), (0 : Int64), (0 : Int64), (0 : Int64), (0 : Int64)] := V135
    obtain ⟨T136, h136, X136, e136, W136, V136, st136⟩ := own_lastore X135 hx hZ e135 V135_n (j := (2 : Int32)) (show 0 ≤ Int32.toInt (2 : Int32) ∧ Int32.toInt (2 : Int32) < ((12 : Nat) : Int) by decide) (x := v17) (D at_195)
    have sz136 := Nat.le_trans sz135 (Keep.of_wr W136).1
    have N136 := Fr.snoc X136 N135 ge_a133
    have V136_n : own_AJ Z h136 a133 [v4, q1, v17, (0 : Int64), (0 : Int64), (0 : Int64), (0 : Int64), (0 : Int64), (0 : Int64), (0 : Int64), (0 : Int64), (0 : Int64)] := V136
    obtain ⟨T137, h137, X137, e137, W137, V137, st137⟩ := own_lastore X136 hx hZ e136 V136_n (j := (3 : Int32)) (show 0 ≤ Int32.toInt (3 : Int32) ∧ Int32.toInt (3 : Int32) < ((12 : Nat) : Int) by decide) (x := v35) (D at_201)
    have sz137 := Nat.le_trans sz136 (Keep.of_wr W137).1
    have N137 := Fr.snoc X137 N136 ge_a133
    have V137_n : own_AJ Z h137 a133 [v4, q1, v17, v35, (0 : Int64), (0 : Int64), (0 : Int64), (0 : Int64), (0 : Int64), (0 : Int64), (0 : Int64), (0 : Int64)] := V137
    obtain ⟨T138, h138, X138, e138, W138, V138, st138⟩ := own_lastore X137 hx hZ e137 V137_n (j := (4 : Int32)) (show 0 ≤ Int32.toInt (4 : Int32) ∧ Int32.toInt (4 : Int32) < ((12 : Nat) : Int) by decide) (x := q2) (D at_206)
    have sz138 := Nat.le_trans sz137 (Keep.of_wr W138).1
    have N138 := Fr.snoc X138 N137 ge_a133
    have V138_n : own_AJ Z h138 a133 [v4, q1, v17, v35, q2, (0 : Int64), (0 : Int64), (0 : Int64), (0 : Int64), (0 : Int64), (0 : Int64), (0 : Int64)] := V138
    obtain ⟨T139, h139, X139, e139, W139, V139, st139⟩ := own_lastore X138 hx hZ e138 V138_n (j := (5 : Int32)) (show 0 ≤ Int32.toInt (5 : Int32) ∧ Int32.toInt (5 : Int32) < ((12 : Nat) : Int) by decide) (x := q3) (D at_212)
    have sz139 := Nat.le_trans sz138 (Keep.of_wr W139).1
    have N139 := Fr.snoc X139 N138 ge_a133
    have V139_n : own_AJ Z h139 a133 [v4, q1, v17, v35, q2, q3, (0 : Int64), (0 : Int64), (0 : Int64), (0 : Int64), (0 : Int64), (0 : Int64)] := V139
    obtain ⟨T140, h140, X140, e140, W140, V140, st140⟩ := own_lastore X139 hx hZ e139 V139_n (j := (6 : Int32)) (show 0 ≤ Int32.toInt (6 : Int32) ∧ Int32.toInt (6 : Int32) < ((12 : Nat) : Int) by decide) (x := v38) (D at_225)
    have sz140 := Nat.le_trans sz139 (Keep.of_wr W140).1
    have N140 := Fr.snoc X140 N139 ge_a133
    have V140_n : own_AJ Z h140 a133 [v4, q1, v17, v35, q2, q3, v38, (0 : Int64), (0 : Int64), (0 : Int64), (0 : Int64), (0 : Int64)] := V140
    obtain ⟨T141, h141, X141, e141, W141, V141, st141⟩ := own_lastore X140 hx hZ e140 V140_n (j := (7 : Int32)) (show 0 ≤ Int32.toInt (7 : Int32) ∧ Int32.toInt (7 : Int32) < ((12 : Nat) : Int) by decide) (x := q4) (D at_232)
    have sz141 := Nat.le_trans sz140 (Keep.of_wr W141).1
    have N141 := Fr.snoc X141 N140 ge_a133
    have V141_n : own_AJ Z h141 a133 [v4, q1, v17, v35, q2, q3, v38, q4, (0 : Int64), (0 : Int64), (0 : Int64), (0 : Int64)] := V141
    obtain ⟨T142, h142, X142, e142, W142, V142, st142⟩ := own_lastore X141 hx hZ e141 V141_n (j := (8 : Int32)) (show 0 ≤ Int32.toInt (8 : Int32) ∧ Int32.toInt (8 : Int32) < ((12 : Nat) : Int) by decide) (x := q5) (D at_239)
    have sz142 := Nat.le_trans sz141 (Keep.of_wr W142).1
    have N142 := Fr.snoc X142 N141 ge_a133
    have V142_n : own_AJ Z h142 a133 [v4, q1, v17, v35, q2, q3, v38, q4, q5, (0 : Int64), (0 : Int64), (0 : Int64)] := V142
    obtain ⟨T143, h143, X143, e143, W143, V143, st143⟩ := own_lastore X142 hx hZ e142 V142_n (j := (9 : Int32)) (show 0 ≤ Int32.toInt (9 : Int32) ∧ Int32.toInt (9 : Int32) < ((12 : Nat) : Int) by decide) (x := v41) (D at_252)
    have sz143 := Nat.le_trans sz142 (Keep.of_wr W143).1
    have N143 := Fr.snoc X143 N142 ge_a133
    have V143_n : own_AJ Z h143 a133 [v4, q1, v17, v35, q2, q3, v38, q4, q5, v41, (0 : Int64), (0 : Int64)] := V143
    obtain ⟨T144, h144, X144, e144, W144, V144, st144⟩ := own_lastore X143 hx hZ e143 V143_n (j := (10 : Int32)) (show 0 ≤ Int32.toInt (10 : Int32) ∧ Int32.toInt (10 : Int32) < ((12 : Nat) : Int) by decide) (x := (q2 ^^^ (-1 : Int64))) (D at_262)
    have sz144 := Nat.le_trans sz143 (Keep.of_wr W144).1
    have N144 := Fr.snoc X144 N143 ge_a133
    have V144_n : own_AJ Z h144 a133 [v4, q1, v17, v35, q2, q3, v38, q4, q5, v41, (q2 ^^^ (-1 : Int64)), (0 : Int64)] := V144
    obtain ⟨T145, h145, X145, e145, W145, V145, st145⟩ := own_lastore X144 hx hZ e144 V144_n (j := (11 : Int32)) (show 0 ≤ Int32.toInt (11 : Int32) ∧ Int32.toInt (11 : Int32) < ((12 : Nat) : Int) by decide) (x := (q3 ^^^ (-1 : Int64))) (D at_273)
    have sz145 := Nat.le_trans sz144 (Keep.of_wr W145).1
    have N145 := Fr.snoc X145 N144 ge_a133
    have V145_n : own_AJ Z h145 a133 [v4, q1, v17, v35, q2, q3, v38, q4, q5, v41, (q2 ^^^ (-1 : Int64)), (q3 ^^^ (-1 : Int64))] := V145
    obtain ⟨T146, h146, X146, e146, E146, A146, D146, -, st146⟩ := newO X145 hx hZ hown (H 12 rfl) (H 13 rfl) (H 14 rfl) e145 (g := (mkF m 274 #[iv q0, jv q1, s2, jv q2, s2, jv q3, s2, jv q4, s2, jv q5, s2, iv (3 : Int32), jv v4, s2, jv v35, s2, jv v38, s2, jv v41, s2, jv v17, s2, rv a133, u0, u0, u0, u0, u0] [])) rfl (D at_274) (by decide) (by decide)
    obtain ⟨a146, g146⟩ : ∃ z, z = h145.size := ⟨_, rfl⟩
    rw [← g146] at A146 D146 st146
    have ne_a133_a146 : a133 ≠ a146 := g146 ▸ Nat.ne_of_lt V145_n.lt
    have ge_a146 : n0 ≤ a146 := g146 ▸ sz145
    have V146_a133 := V145_n.ext E146
    have sz146 := Nat.le_trans sz145 E146.1
    have F146_n0 : Fld Z h146 a146 own_S "lastLeft" "I" (.int (0 : Int32)) := D146 (Or.inl (H 25 rfl)) (ty := .int) (by decide)
    have F146_n1 : Fld Z h146 a146 own_S "limit" "J" (.long (0 : Int64)) := D146 (Or.inr (H 27 rfl)) (ty := .long) (by decide)
    have F146_n2 : Fld Z h146 a146 own_S "includesLast" "Z" (.int (0 : Int32)) := D146 (Or.inr (H 29 rfl)) (ty := .boolean) (by decide)
    have F146_n3 : Fld Z h146 a146 own_S "last" "[J" .null := D146 (Or.inr (H 31 rfl)) (ty := (.array .long)) (by decide)
    have F146_n4 : Fld Z h146 a146 own_S "sent" "[Z" .null := D146 (Or.inr (H 34 rfl)) (ty := (.array .boolean)) (by decide)
    have F146_n5 : Fld Z h146 a146 own_S "runs" "[J" .null := D146 (Or.inr (H 36 rfl)) (ty := (.array .long)) (by decide)
    have F146_n6 : Fld Z h146 a146 own_S "gone" "[Z" .null := D146 (Or.inr (H 38 rfl)) (ty := (.array .boolean)) (by decide)
    have F146_n7 : Fld Z h146 a146 own_S "stopped" "[Z" .null := D146 (Or.inr (H 40 rfl)) (ty := (.array .boolean)) (by decide)
    have F146_n8 : Fld Z h146 a146 own_S "open" "I" (.int (0 : Int32)) := D146 (Or.inl (H 42 rfl)) (ty := .int) (by decide)
    have F146_n9 : Fld Z h146 a146 own_S "started" "Z" (.int (0 : Int32)) := D146 (Or.inl (H 49 rfl)) (ty := .boolean) (by decide)
    have F146_n10 : Fld Z h146 a146 own_S "latest" "J" (.long (0 : Int64)) := D146 (Or.inl (H 51 rfl)) (ty := .long) (by decide)
    obtain ⟨_, _, ⟨T147, L147, k147, n147⟩, -, X147, ⟨Lc147, hQ147, l147, y147, z147⟩, st147⟩ := X146.specialBack hx (y := (⟨"com/example/tributary/tributary/io/Silence", "<init>", "(IJ)V"⟩ : MethodName)) rfl hown (mvT hZ (H 15 rfl)) (mvT hZ (H 16 rfl)) (mvT hZ (H 17 rfl)) (by decide) (backOf (W := 1) (rm3_3 l Z a0 hw [] a146  h146 n0 sz146 A146 F146_n0 F146_n1 F146_n2 F146_n3 F146_n4 F146_n5 F146_n6 F146_n7 F146_n8 F146_n9 F146_n10 ge_a146 ) hZ (H 17 rfl) (H 14 rfl) (by decide) (by decide)) (g := (mkF m 281 #[iv q0, jv q1, s2, jv q2, s2, jv q3, s2, jv q4, s2, jv q5, s2, iv (3 : Int32), jv v4, s2, jv v35, s2, jv v38, s2, jv v41, s2, jv v17, s2, rv a133, u0, u0, u0, u0, u0] [(.long (1 : Int64)), (.int (3 : Int32)), (.ref a146), (.ref a146)])) rfl (by rw [hml]; rfl) (Steps.refl _) (a := a146) (argsL := [(.int (3 : Int32)), (.long (1 : Int64))]) (rest := [(.ref a146)]) (lenOf pd_120 rfl) rfl (by show 2 * 0 + _ ≤ _; exact Nat.le_of_eq rfl) (D at_281) (fun _ _ => ⟨rfl, e146, (by decide : 2 + 5 ≤ _), (by decide : 23 + 15 ≤ _)⟩)
    dsimp only [Pt.U, Pt.locs, Pt.cells, Pt.slots] at X147 l147 y147 z147 st147 hQ147
    replace y147 : k147 = 7 := y147
    replace z147 : n147 = 38 := z147
    replace l147 := l147.symm; replace y147 := y147.symm; replace z147 := z147.symm; subst l147 y147 z147
    obtain ⟨rfl, N147q, rl147, rs147, rr147, rg147, rt147, ⟨go_rl147, go_rs147, go_rr147, go_rg147, go_rt147⟩, ⟨ne_rl147_rs147, ne_rl147_rr147, ne_rl147_rg147, ne_rl147_rt147, ne_rs147_rr147, ne_rs147_rg147, ne_rs147_rt147, ne_rr147_rg147, ne_rr147_rt147, ne_rg147_rt147⟩, K147, A147_o0, F147_o0, F147_o1, F147_o2, F147_o3, F147_o4, F147_o5, F147_o6, F147_o7, F147_o8, V147_o0, V147_o1, V147_o2, V147_o3, V147_o4⟩ := hQ147
    obtain ⟨h147, e147⟩ : ∃ z, T147.heap = z := ⟨_, rfl⟩
    rw [e147] at K147 A147_o0 F147_o0 F147_o1 F147_o2 F147_o3 F147_o4 F147_o5 F147_o6 F147_o7 F147_o8 V147_o0 V147_o1 V147_o2 V147_o3 V147_o4
    have ne_a133_rl147 : a133 ≠ rl147 := Nat.ne_of_lt (Nat.lt_of_lt_of_le V146_a133.lt go_rl147)
    have ne_a146_rl147 : a146 ≠ rl147 := Nat.ne_of_lt (Nat.lt_of_lt_of_le A146.lt go_rl147)
    have ge_rl147 : n0 ≤ rl147 := Nat.le_trans sz146 go_rl147
    have ne_a133_rs147 : a133 ≠ rs147 := Nat.ne_of_lt (Nat.lt_of_lt_of_le V146_a133.lt go_rs147)
    have ne_a146_rs147 : a146 ≠ rs147 := Nat.ne_of_lt (Nat.lt_of_lt_of_le A146.lt go_rs147)
    have ge_rs147 : n0 ≤ rs147 := Nat.le_trans sz146 go_rs147
    have ne_a133_rr147 : a133 ≠ rr147 := Nat.ne_of_lt (Nat.lt_of_lt_of_le V146_a133.lt go_rr147)
    have ne_a146_rr147 : a146 ≠ rr147 := Nat.ne_of_lt (Nat.lt_of_lt_of_le A146.lt go_rr147)
    have ge_rr147 : n0 ≤ rr147 := Nat.le_trans sz146 go_rr147
    have ne_a133_rg147 : a133 ≠ rg147 := Nat.ne_of_lt (Nat.lt_of_lt_of_le V146_a133.lt go_rg147)
    have ne_a146_rg147 : a146 ≠ rg147 := Nat.ne_of_lt (Nat.lt_of_lt_of_le A146.lt go_rg147)
    have ge_rg147 : n0 ≤ rg147 := Nat.le_trans sz146 go_rg147
    have ne_a133_rt147 : a133 ≠ rt147 := Nat.ne_of_lt (Nat.lt_of_lt_of_le V146_a133.lt go_rt147)
    have ne_a146_rt147 : a146 ≠ rt147 := Nat.ne_of_lt (Nat.lt_of_lt_of_le A146.lt go_rt147)
    have ge_rt147 : n0 ≤ rt147 := Nat.le_trans sz146 go_rt147
    have V147_a133 := V146_a133.keep K147 (ninS ne_a133_a146 nin0)
    have A147_a146 := A146.keep K147
    have sz147 : n0 ≤ h147.size := Nat.le_trans sz146 K147.1
    have N147 := Fr.app N145 N147q
    have pre148 : ∀ t, Steps p.tables e below (T147.setTop (mkF m 288 #[iv q0, jv q1, s2, jv q2, s2, jv q3, s2, jv q4, s2, jv q5, s2, iv (3 : Int32), jv v4, s2, jv v35, s2, jv v38, s2, jv v41, s2, jv v17, s2, rv a133, rv a146, u0, u0, u0, u0] [(.ref a146)])) t → Steps p.tables e below B0 t := by
      intro t k
      refine pre43 t ?_
      show Steps p.tables e below (T40.setTop (mkF m 147 #[iv q0, jv q1, s2, jv q2, s2, jv q3, s2, jv q4, s2, jv q5, s2, iv (3 : Int32), jv v4, s2, jv v35, s2, jv v38, s2, jv v41, s2, jv v17, s2, u0, u0, u0, u0, u0, u0] [])) _
      refine XS.iload X40.here hx rfl (D at_147) rfl ?_
      refine XS.iconst X40.here hx rfl (D at_149) ?_
      show Steps p.tables e below (T40.setTop (mkF m 150 #[iv q0, jv q1, s2, jv q2, s2, jv q3, s2, jv q4, s2, jv q5, s2, iv (3 : Int32), jv v4, s2, jv v35, s2, jv v38, s2, jv v41, s2, jv v17, s2, u0, u0, u0, u0, u0, u0] [(.int (1 : Int32)), (.int (3 : Int32))])) _
      refine XS.icmpYes X40.here hx rfl (pc0 := 150) (pc' := 160) rfl (D at_150) rfl (by decide) (by decide) (by decide) ?_
      refine XS.iload X40.here hx rfl (D at_160) rfl ?_
      refine XS.iconst X40.here hx rfl (D at_162) ?_
      show Steps p.tables e below (T40.setTop (mkF m 163 #[iv q0, jv q1, s2, jv q2, s2, jv q3, s2, jv q4, s2, jv q5, s2, iv (3 : Int32), jv v4, s2, jv v35, s2, jv v38, s2, jv v41, s2, jv v17, s2, u0, u0, u0, u0, u0, u0] [(.int (2 : Int32)), (.int (3 : Int32))])) _
      refine XS.icmpYes X40.here hx rfl (pc0 := 163) (pc' := 173) rfl (D at_163) rfl (by decide) (by decide) (by decide) ?_
      refine XS.bipush X40.here hx rfl (D at_173) ?_
      refine st133 _ ?_
      refine XS.astore X133.here hx rfl (D at_177) rfl rfl (l' := #[iv q0, jv q1, s2, jv q2, s2, jv q3, s2, jv q4, s2, jv q5, s2, iv (3 : Int32), jv v4, s2, jv v35, s2, jv v38, s2, jv v41, s2, jv v17, s2, rv a133, u0, u0, u0, u0, u0]) rfl ?_
      refine XS.aload X133.here hx rfl (D at_179) rfl rfl ?_
      refine XS.iconst X133.here hx rfl (D at_181) ?_
      show Steps p.tables e below (T133.setTop (mkF m 182 #[iv q0, jv q1, s2, jv q2, s2, jv q3, s2, jv q4, s2, jv q5, s2, iv (3 : Int32), jv v4, s2, jv v35, s2, jv v38, s2, jv v41, s2, jv v17, s2, rv a133, u0, u0, u0, u0, u0] [(.int (0 : Int32)), (.ref a133)])) _
      refine XS.lload X133.here hx rfl (D at_182) rfl ?_
      refine st134 _ ?_
      refine XS.aload X134.here hx rfl (D at_185) rfl rfl ?_
      refine XS.iconst X134.here hx rfl (D at_187) ?_
      refine XS.lloadN X134.here hx rfl (D at_188) rfl ?_
      refine st135 _ ?_
      refine XS.aload X135.here hx rfl (D at_190) rfl rfl ?_
      refine XS.iconst X135.here hx rfl (D at_192) ?_
      refine XS.lload X135.here hx rfl (D at_193) rfl ?_
      refine st136 _ ?_
      refine XS.aload X136.here hx rfl (D at_196) rfl rfl ?_
      refine XS.iconst X136.here hx rfl (D at_198) ?_
      refine XS.lload X136.here hx rfl (D at_199) rfl ?_
      refine st137 _ ?_
      refine XS.aload X137.here hx rfl (D at_202) rfl rfl ?_
      refine XS.iconst X137.here hx rfl (D at_204) ?_
      refine XS.lloadN X137.here hx rfl (D at_205) rfl ?_
      refine st138 _ ?_
      refine XS.aload X138.here hx rfl (D at_207) rfl rfl ?_
      refine XS.iconst X138.here hx rfl (D at_209) ?_
      refine XS.lload X138.here hx rfl (D at_210) rfl ?_
      refine st139 _ ?_
      refine XS.iload X139.here hx rfl (D at_213) rfl ?_
      refine XS.iconst X139.here hx rfl (D at_215) ?_
      show Steps p.tables e below (T139.setTop (mkF m 216 #[iv q0, jv q1, s2, jv q2, s2, jv q3, s2, jv q4, s2, jv q5, s2, iv (3 : Int32), jv v4, s2, jv v35, s2, jv v38, s2, jv v41, s2, jv v17, s2, rv a133, u0, u0, u0, u0, u0] [(.int (2 : Int32)), (.int (3 : Int32))])) _
      refine XS.icmpNo X139.here hx rfl (D at_216) rfl (by decide) ?_
      refine XS.aload X139.here hx rfl (D at_219) rfl rfl ?_
      refine XS.bipush X139.here hx rfl (D at_221) ?_
      refine XS.lload X139.here hx rfl (D at_223) rfl ?_
      refine st140 _ ?_
      refine XS.aload X140.here hx rfl (D at_226) rfl rfl ?_
      refine XS.bipush X140.here hx rfl (D at_228) ?_
      refine XS.lload X140.here hx rfl (D at_230) rfl ?_
      refine st141 _ ?_
      refine XS.aload X141.here hx rfl (D at_233) rfl rfl ?_
      refine XS.bipush X141.here hx rfl (D at_235) ?_
      refine XS.lload X141.here hx rfl (D at_237) rfl ?_
      refine st142 _ ?_
      refine XS.iload X142.here hx rfl (D at_240) rfl ?_
      refine XS.iconst X142.here hx rfl (D at_242) ?_
      show Steps p.tables e below (T142.setTop (mkF m 243 #[iv q0, jv q1, s2, jv q2, s2, jv q3, s2, jv q4, s2, jv q5, s2, iv (3 : Int32), jv v4, s2, jv v35, s2, jv v38, s2, jv v41, s2, jv v17, s2, rv a133, u0, u0, u0, u0, u0] [(.int (3 : Int32)), (.int (3 : Int32))])) _
      refine XS.icmpNo X142.here hx rfl (D at_243) rfl (by decide) ?_
      refine XS.aload X142.here hx rfl (D at_246) rfl rfl ?_
      refine XS.bipush X142.here hx rfl (D at_248) ?_
      show Steps p.tables e below (T142.setTop (mkF m 250 #[iv q0, jv q1, s2, jv q2, s2, jv q3, s2, jv q4, s2, jv q5, s2, iv (3 : Int32), jv v4, s2, jv v35, s2, jv v38, s2, jv v41, s2, jv v17, s2, rv a133, u0, u0, u0, u0, u0] [(.int (9 : Int32)), (.ref a133)])) _
      refine XS.lload X142.here hx rfl (D at_250) rfl ?_
      refine st143 _ ?_
      refine XS.aload X143.here hx rfl (D at_253) rfl rfl ?_
      refine XS.bipush X143.here hx rfl (D at_255) ?_
      refine XS.lloadN X143.here hx rfl (D at_257) rfl ?_
      refine X143.ldc2Long hx hown (mvT hZ (H 52 rfl)) (g := (mkF m 258 #[iv q0, jv q1, s2, jv q2, s2, jv q3, s2, jv q4, s2, jv q5, s2, iv (3 : Int32), jv v4, s2, jv v35, s2, jv v38, s2, jv v41, s2, jv v17, s2, rv a133, u0, u0, u0, u0, u0] [(.long q2), (.int (10 : Int32)), (.ref a133)])) rfl (D at_258) _ ?_
      refine XS.lxor X143.here hx rfl (D at_261) rfl ?_
      refine st144 _ ?_
      refine XS.aload X144.here hx rfl (D at_263) rfl rfl ?_
      refine XS.bipush X144.here hx rfl (D at_265) ?_
      refine XS.lload X144.here hx rfl (D at_267) rfl ?_
      refine X144.ldc2Long hx hown (mvT hZ (H 52 rfl)) (g := (mkF m 269 #[iv q0, jv q1, s2, jv q2, s2, jv q3, s2, jv q4, s2, jv q5, s2, iv (3 : Int32), jv v4, s2, jv v35, s2, jv v38, s2, jv v41, s2, jv v17, s2, rv a133, u0, u0, u0, u0, u0] [(.long q3), (.int (11 : Int32)), (.ref a133)])) rfl (D at_269) _ ?_
      refine XS.lxor X144.here hx rfl (D at_272) rfl ?_
      refine st145 _ ?_
      refine st146 _ ?_
      refine XS.dup X146.here hx rfl (D at_277) rfl rfl ?_
      refine XS.iload X146.here hx rfl (D at_278) rfl ?_
      refine XS.lconst X146.here hx rfl (D at_280) ?_
      refine st147.trans ?_
      refine XS.astore X147.here hx rfl (D at_284) rfl rfl (l' := #[iv q0, jv q1, s2, jv q2, s2, jv q3, s2, jv q4, s2, jv q5, s2, iv (3 : Int32), jv v4, s2, jv v35, s2, jv v38, s2, jv v41, s2, jv v17, s2, rv a133, rv a146, u0, u0, u0, u0]) rfl ?_
      refine XS.aload X147.here hx rfl (D at_286) rfl rfl ?_
      exact k
    clear X40 e40 N40 pre43 X133 e133 E133 A133 st133 sz133 V133_n X134 e134 W134 V134 st134 sz134 N134 V134_n X135 e135 W135 V135 st135 sz135 N135 V135_n X136 e136 W136 V136 st136 sz136 N136 V136_n X137 e137 W137 V137 st137 sz137 N137 V137_n X138 e138 W138 V138 st138 sz138 N138 V138_n X139 e139 W139 V139 st139 sz139 N139 V139_n X140 e140 W140 V140 st140 sz140 N140 V140_n X141 e141 W141 V141 st141 sz141 N141 V141_n X142 e142 W142 V142 st142 sz142 N142 V142_n X143 e143 W143 V143 st143 sz143 N143 V143_n X144 e144 W144 V144 st144 sz144 N144 V144_n X145 e145 W145 V145 st145 sz145 N145 V145_n X146 e146 E146 A146 D146 st146 V146_a133 sz146 F146_n0 F146_n1 F146_n2 F146_n3 F146_n4 F146_n5 F146_n6 F146_n7 F146_n8 F146_n9 F146_n10 st147 N147q K147 A147_a146
    obtain ⟨cq149, kq149, q149a, q149b, q149c⟩ := isOf hZ e147 A147_o0
    obtain ⟨_, _, ⟨T149, L149, k149, n149⟩, -, X149, ⟨Lc149, hQ149, l149, y149, z149⟩, st149⟩ := X147.virtualBack hx (y := (⟨"com/example/tributary/tributary/io/Silence", "measured", "()[J"⟩ : MethodName)) (z := (⟨"com/example/tributary/tributary/io/Silence", "measured", "()[J"⟩ : MethodName)) hown (mvT hZ (H 43 rfl)) (mvT hZ (H 44 rfl)) (notFace_of_selects (args := #[]) (mvT hZ (H 46 rfl))) (mvT hZ (H 46 rfl)) (mvT hZ (H 45 rfl)) (by decide) (backOf (W := 0) (rm6_3 l Z a0 hw [] a146 rl147 rs147 rr147 rg147 rt147 ((0 : Int32)) ((0 : Int64)) ((-1 : Int32)) ((0 : Int64)) ((0 : Int64)) ((0 : Int64)) ((0 : Int64)) ((0 : Int64)) ((0 : Int64)) ((0 : Int32)) ((0 : Int32)) ((0 : Int32)) ((0 : Int32)) ((0 : Int32)) ((0 : Int32)) ((0 : Int32)) ((0 : Int32)) ((0 : Int32)) h147 n0 sz147 V147_o0 V147_o1 V147_o2 V147_o3 V147_o4 A147_o0 F147_o0 F147_o1 F147_o2 F147_o3 F147_o4 F147_o7 F147_o8 F147_o6 ) hZ (H 47 rfl) (H 14 rfl) (by decide) (by decide)) q149a q149c (g := (mkF m 288 #[iv q0, jv q1, s2, jv q2, s2, jv q3, s2, jv q4, s2, jv q5, s2, iv (3 : Int32), jv v4, s2, jv v35, s2, jv v38, s2, jv v41, s2, jv v17, s2, rv a133, rv a146, u0, u0, u0, u0] [(.ref a146)])) rfl (by rw [hml]; rfl) (Steps.refl _) (argsL := []) (rest := []) (lenOf pd_121 rfl) rfl (by show 2 * 0 + _ ≤ _; exact Nat.le_of_eq rfl) (D at_288) (fun _ _ => ⟨rfl, e147, (by decide : 7 + 1 ≤ _), (by decide : 38 + 12 ≤ _)⟩)
    dsimp only [Pt.U, Pt.locs, Pt.cells, Pt.slots] at X149 l149 y149 z149 st149 hQ149
    replace y149 : k149 = 8 := y149
    replace z149 : n149 = 50 := z149
    replace l149 := l149.symm; replace y149 := y149.symm; replace z149 := z149.symm; subst l149 y149 z149
    obtain ⟨rfl, N149q, K149, R149⟩ := hQ149
    obtain ⟨h149, e149⟩ : ∃ z, T149.heap = z := ⟨_, rfl⟩
    rw [e149] at K149 R149
    obtain ⟨a149, g149⟩ : ∃ z, z = h147.size := ⟨_, rfl⟩
    rw [← g149] at R149 st149
    have ne_a133_a149 : a133 ≠ a149 := g149 ▸ Nat.ne_of_lt V147_a133.lt
    have ne_rl147_a149 : rl147 ≠ a149 := g149 ▸ Nat.ne_of_lt V147_o0.lt
    have ne_rs147_a149 : rs147 ≠ a149 := g149 ▸ Nat.ne_of_lt V147_o1.lt
    have ne_rr147_a149 : rr147 ≠ a149 := g149 ▸ Nat.ne_of_lt V147_o2.lt
    have ne_rg147_a149 : rg147 ≠ a149 := g149 ▸ Nat.ne_of_lt V147_o3.lt
    have ne_rt147_a149 : rt147 ≠ a149 := g149 ▸ Nat.ne_of_lt V147_o4.lt
    have ne_a146_a149 : a146 ≠ a149 := g149 ▸ Nat.ne_of_lt A147_o0.lt
    have ge_a149 : n0 ≤ a149 := g149 ▸ sz147
    have V149_a133 := V147_a133.keep K149 nin0
    have V149_rl147 := V147_o0.keep K149 nin0
    have V149_rs147 := V147_o1.keep K149 nin0
    have V149_rr147 := V147_o2.keep K149 nin0
    have V149_rg147 := V147_o3.keep K149 nin0
    have V149_rt147 := V147_o4.keep K149 nin0
    have A149_a146 := A147_o0.keep K149
    have F149_a146_0 := F147_o0.keep K149 nin0
    have F149_a146_1 := F147_o1.keep K149 nin0
    have F149_a146_2 := F147_o2.keep K149 nin0
    have F149_a146_3 := F147_o3.keep K149 nin0
    have F149_a146_4 := F147_o4.keep K149 nin0
    have F149_a146_5 := F147_o5.keep K149 nin0
    have F149_a146_6 := F147_o6.keep K149 nin0
    have F149_a146_7 := F147_o7.keep K149 nin0
    have F149_a146_8 := F147_o8.keep K149 nin0
    have sz149 : n0 ≤ h149.size := Nat.le_trans sz147 K149.1
    have N149 := Fr.app N147 N149q
    have c150 : (if ((0 : Int32)) = (0 : Int32) then (0 : Int64) else (1 : Int64)) = (0 : Int64) := (by decide)
    have c151 : ((0 : Int64)) = (0 : Int64) := (by decide)
    have c152 : (((-1 : Int32))).toInt64 = (-1 : Int64) := (by decide)
    have c153 : (((if ((0 : Int32)) = (0 : Int32) then (0 : Int64) else (1 : Int64)) ||| (if ((0 : Int32)) = (0 : Int32) then (0 : Int64) else (2 : Int64))) ||| (if ((0 : Int32)) = (0 : Int32) then (0 : Int64) else (4 : Int64))) = (0 : Int64) := (by decide)
    have hS := own_st hv4
    have hLL := own_left (N := 3) (n := 3) (k := 3) (by decide) (by decide) (by decide) hv12 hv17
    have hF0 := own_flag hv6 hv22 hv35 hS
    have hF1 := own_flag hv8 hv27 hv38 hS
    have hF2 := own_flag hv10 hv32 hv41 hS
    obtain ⟨cq154, kq154, q154a, q154b, q154c⟩ := isOf hZ e149 A149_a146
    obtain ⟨_, _, ⟨T154, L154, k154, n154⟩, -, X154, ⟨Lc154, hQ154, l154, y154, z154⟩, st154⟩ := X149.virtualBack hx (y := (⟨"com/example/tributary/tributary/io/Silence", "resume", "([J)V"⟩ : MethodName)) (z := (⟨"com/example/tributary/tributary/io/Silence", "resume", "([J)V"⟩ : MethodName)) hown (mvT hZ (H 53 rfl)) (mvT hZ (H 54 rfl)) (notFace_of_selects (args := #[]) (mvT hZ (H 56 rfl))) (mvT hZ (H 56 rfl)) (mvT hZ (H 55 rfl)) (by decide) (backOf (W := 0) (rm7_3 l Z a0 hw [] a146 a133 rl147 rs147 rr147 rg147 rt147 ((0 : Int32)) ((0 : Int64)) ((-1 : Int32)) ((3 : Int32)) v4 q1 v17 v35 q2 q3 v38 q4 q5 v41 ((q2 ^^^ (-1 : Int64))) ((q3 ^^^ (-1 : Int64))) ((0 : Int64)) ((0 : Int64)) ((0 : Int64)) ((0 : Int64)) ((0 : Int64)) ((0 : Int64)) ((0 : Int32)) ((0 : Int32)) ((0 : Int32)) ((0 : Int32)) ((0 : Int32)) ((0 : Int32)) ((0 : Int32)) ((0 : Int32)) ((0 : Int32)) h149 n0 sz149 V149_a133 V149_rl147 V149_rs147 V149_rr147 V149_rg147 V149_rt147 A149_a146 F149_a146_0 F149_a146_1 F149_a146_2 F149_a146_3 F149_a146_4 F149_a146_7 F149_a146_8 F149_a146_6 F149_a146_5 ge_a146 ge_rs147 ge_rg147 ge_rt147 ge_rl147 ge_rr147 ne_a133_rl147 ne_a133_rs147 ne_a133_rr147 ne_a133_rg147 ne_a133_rt147 ne_a133_a146 ne_rl147_rs147 ne_rl147_rr147 ne_rl147_rg147 ne_rl147_rt147 (Ne.symm ne_a146_rl147) ne_rs147_rr147 ne_rs147_rg147 ne_rs147_rt147 (Ne.symm ne_a146_rs147) ne_rr147_rg147 ne_rr147_rt147 (Ne.symm ne_a146_rr147) ne_rg147_rt147 (Ne.symm ne_a146_rg147) (Ne.symm ne_a146_rt147) hS hLL hF0.1 hF1.1 hF2.1 (own_hl3 hLL hF0.2.2 hF1.2.2 hF2.2.2)) hZ (H 57 rfl) (H 14 rfl) (by decide) (by decide)) q154a q154c (g := (mkF m 351 #[iv q0, jv q1, s2, jv q2, s2, jv q3, s2, jv q4, s2, jv q5, s2, iv (3 : Int32), jv v4, s2, jv v35, s2, jv v38, s2, jv v41, s2, jv v17, s2, rv a133, rv a146, rv a149, iv (1 : Int32), u0, u0] [(.ref a133), (.ref a146)])) rfl (by rw [hml]; rfl) (Steps.refl _) (argsL := [(.ref a133)]) (rest := []) (lenOf pd_100 rfl) rfl (by show 2 * 0 + _ ≤ _; exact Nat.le_of_eq rfl) (D at_351) (fun _ _ => ⟨rfl, e149, (by decide : 8 + 0 ≤ _), (by decide : 50 + 0 ≤ _)⟩)
    dsimp only [Pt.U, Pt.locs, Pt.cells, Pt.slots] at X154 l154 y154 z154 st154 hQ154
    replace y154 : k154 = 8 := y154
    replace z154 : n154 = 50 := z154
    replace l154 := l154.symm; replace y154 := y154.symm; replace z154 := z154.symm; subst l154 y154 z154
    obtain ⟨rfl, N154q, K154, A154_o0, F154_o0, F154_o1, F154_o2, F154_o3, F154_o4, F154_o5, F154_o6, F154_o7, V154_o0, V154_o1, V154_o2, V154_o3, V154_o4, V154_o5⟩ := hQ154
    obtain ⟨h154, e154⟩ : ∃ z, T154.heap = z := ⟨_, rfl⟩
    rw [e154] at K154 A154_o0 F154_o0 F154_o1 F154_o2 F154_o3 F154_o4 F154_o5 F154_o6 F154_o7 V154_o0 V154_o1 V154_o2 V154_o3 V154_o4 V154_o5
    have V154_a133 := V149_a133.keep K154 (ninS ne_a133_a146 (ninS ne_a133_rs147 (ninS ne_a133_rg147 (ninS ne_a133_rt147 (ninS ne_a133_rl147 (ninS ne_a133_rr147 nin0))))))
    have V154_a149 := R149.keep K154 (ninS (Ne.symm ne_a146_a149) (ninS (Ne.symm ne_rs147_a149) (ninS (Ne.symm ne_rg147_a149) (ninS (Ne.symm ne_rt147_a149) (ninS (Ne.symm ne_rl147_a149) (ninS (Ne.symm ne_rr147_a149) nin0))))))
    have A154_a146 := A149_a146.keep K154
    have sz154 : n0 ≤ h154.size := Nat.le_trans sz149 K154.1
    have N154 := Fr.app N149 N154q
    obtain ⟨cq155, kq155, q155a, q155b, q155c⟩ := isOf hZ e154 A154_o0
    obtain ⟨_, _, ⟨T155, L155, k155, n155⟩, -, X155, ⟨Lc155, hQ155, l155, y155, z155⟩, st155⟩ := X154.virtualBack hx (y := (⟨"com/example/tributary/tributary/io/Silence", "measured", "()[J"⟩ : MethodName)) (z := (⟨"com/example/tributary/tributary/io/Silence", "measured", "()[J"⟩ : MethodName)) hown (mvT hZ (H 43 rfl)) (mvT hZ (H 44 rfl)) (notFace_of_selects (args := #[]) (mvT hZ (H 46 rfl))) (mvT hZ (H 46 rfl)) (mvT hZ (H 45 rfl)) (by decide) (backOf (W := 0) (rm6_3 l Z a0 hw [] a146 rl147 rs147 rr147 rg147 rt147 ((if v4 = (1 : Int64) then (1 : Int32) else (0 : Int32))) q1 ((v17).toInt32) q2 q4 (((q2 ^^^ (-1 : Int64)))) q3 q5 (((q3 ^^^ (-1 : Int64)))) (((if (v35 &&& (1 : Int64)) = (0 : Int64) then (0 : Int32) else (1 : Int32)) &&& 1)) (((if (v38 &&& (1 : Int64)) = (0 : Int64) then (0 : Int32) else (1 : Int32)) &&& 1)) (((if (v41 &&& (1 : Int64)) = (0 : Int64) then (0 : Int32) else (1 : Int32)) &&& 1)) (((if (v35 &&& (2 : Int64)) = (0 : Int64) then (0 : Int32) else (1 : Int32)) &&& 1)) (((if (v38 &&& (2 : Int64)) = (0 : Int64) then (0 : Int32) else (1 : Int32)) &&& 1)) (((if (v41 &&& (2 : Int64)) = (0 : Int64) then (0 : Int32) else (1 : Int32)) &&& 1)) (((if (v35 &&& (4 : Int64)) = (0 : Int64) then (0 : Int32) else (1 : Int32)) &&& 1)) (((if (v38 &&& (4 : Int64)) = (0 : Int64) then (0 : Int32) else (1 : Int32)) &&& 1)) (((if (v41 &&& (4 : Int64)) = (0 : Int64) then (0 : Int32) else (1 : Int32)) &&& 1)) h154 n0 sz154 V154_o1 V154_o2 V154_o3 V154_o4 V154_o5 A154_o0 F154_o0 F154_o1 F154_o2 F154_o3 F154_o4 F154_o5 F154_o6 F154_o7 ) hZ (H 47 rfl) (H 14 rfl) (by decide) (by decide)) q155a q155c (g := (mkF m 356 #[iv q0, jv q1, s2, jv q2, s2, jv q3, s2, jv q4, s2, jv q5, s2, iv (3 : Int32), jv v4, s2, jv v35, s2, jv v38, s2, jv v41, s2, jv v17, s2, rv a133, rv a146, rv a149, iv (1 : Int32), u0, u0] [(.ref a146)])) rfl (by rw [hml]; rfl) (Steps.refl _) (argsL := []) (rest := []) (lenOf pd_121 rfl) rfl (by show 2 * 0 + _ ≤ _; exact Nat.le_of_eq rfl) (D at_356) (fun _ _ => ⟨rfl, e154, (by decide : 8 + 1 ≤ _), (by decide : 50 + 12 ≤ _)⟩)
    dsimp only [Pt.U, Pt.locs, Pt.cells, Pt.slots] at X155 l155 y155 z155 st155 hQ155
    replace y155 : k155 = 9 := y155
    replace z155 : n155 = 62 := z155
    replace l155 := l155.symm; replace y155 := y155.symm; replace z155 := z155.symm; subst l155 y155 z155
    obtain ⟨rfl, N155q, K155, R155⟩ := hQ155
    obtain ⟨h155, e155⟩ : ∃ z, T155.heap = z := ⟨_, rfl⟩
    rw [e155] at K155 R155
    obtain ⟨a155, g155⟩ : ∃ z, z = h154.size := ⟨_, rfl⟩
    rw [← g155] at R155 st155
    have ne_a133_a155 : a133 ≠ a155 := g155 ▸ Nat.ne_of_lt V154_o0.lt
    have ne_rl147_a155 : rl147 ≠ a155 := g155 ▸ Nat.ne_of_lt V154_o1.lt
    have ne_rs147_a155 : rs147 ≠ a155 := g155 ▸ Nat.ne_of_lt V154_o2.lt
    have ne_rr147_a155 : rr147 ≠ a155 := g155 ▸ Nat.ne_of_lt V154_o3.lt
    have ne_rg147_a155 : rg147 ≠ a155 := g155 ▸ Nat.ne_of_lt V154_o4.lt
    have ne_rt147_a155 : rt147 ≠ a155 := g155 ▸ Nat.ne_of_lt V154_o5.lt
    have ne_a149_a155 : a149 ≠ a155 := g155 ▸ Nat.ne_of_lt V154_a149.lt
    have ne_a146_a155 : a146 ≠ a155 := g155 ▸ Nat.ne_of_lt A154_o0.lt
    have ge_a155 : n0 ≤ a155 := g155 ▸ sz154
    have V155_a133 := V154_o0.keep K155 nin0
    have V155_rl147 := V154_o1.keep K155 nin0
    have V155_rs147 := V154_o2.keep K155 nin0
    have V155_rr147 := V154_o3.keep K155 nin0
    have V155_rg147 := V154_o4.keep K155 nin0
    have V155_rt147 := V154_o5.keep K155 nin0
    have V155_a149 := V154_a149.keep K155 nin0
    have A155_a146 := A154_o0.keep K155
    have F155_a146_0 := F154_o0.keep K155 nin0
    have F155_a146_1 := F154_o1.keep K155 nin0
    have F155_a146_2 := F154_o2.keep K155 nin0
    have F155_a146_3 := F154_o3.keep K155 nin0
    have F155_a146_4 := F154_o4.keep K155 nin0
    have F155_a146_5 := F154_o5.keep K155 nin0
    have F155_a146_6 := F154_o6.keep K155 nin0
    have F155_a146_7 := F154_o7.keep K155 nin0
    have sz155 : n0 ≤ h155.size := Nat.le_trans sz154 K155.1
    have N155 := Fr.app N154 N155q
    have q156_0 : (if ((if v4 = (1 : Int64) then (1 : Int32) else (0 : Int32))) = (0 : Int32) then (0 : Int64) else (1 : Int64)) = v4 := own_s01 hS
    have q156_2 : (((v17).toInt32)).toInt64 = v17 := own_left2 (N := 3) (k := 3) (by decide) (by decide) hLL
    have q156_3 : (((if (((if (v35 &&& (1 : Int64)) = (0 : Int64) then (0 : Int32) else (1 : Int32)) &&& 1)) = (0 : Int32) then (0 : Int64) else (1 : Int64)) ||| (if (((if (v35 &&& (2 : Int64)) = (0 : Int64) then (0 : Int32) else (1 : Int32)) &&& 1)) = (0 : Int32) then (0 : Int64) else (2 : Int64))) ||| (if (((if (v35 &&& (4 : Int64)) = (0 : Int64) then (0 : Int32) else (1 : Int32)) &&& 1)) = (0 : Int32) then (0 : Int64) else (4 : Int64))) = v35 := hF0.2.1
    have q156_6 : (((if (((if (v38 &&& (1 : Int64)) = (0 : Int64) then (0 : Int32) else (1 : Int32)) &&& 1)) = (0 : Int32) then (0 : Int64) else (1 : Int64)) ||| (if (((if (v38 &&& (2 : Int64)) = (0 : Int64) then (0 : Int32) else (1 : Int32)) &&& 1)) = (0 : Int32) then (0 : Int64) else (2 : Int64))) ||| (if (((if (v38 &&& (4 : Int64)) = (0 : Int64) then (0 : Int32) else (1 : Int32)) &&& 1)) = (0 : Int32) then (0 : Int64) else (4 : Int64))) = v38 := hF1.2.1
    have q156_9 : (((if (((if (v41 &&& (1 : Int64)) = (0 : Int64) then (0 : Int32) else (1 : Int32)) &&& 1)) = (0 : Int32) then (0 : Int64) else (1 : Int64)) ||| (if (((if (v41 &&& (2 : Int64)) = (0 : Int64) then (0 : Int32) else (1 : Int32)) &&& 1)) = (0 : Int32) then (0 : Int64) else (2 : Int64))) ||| (if (((if (v41 &&& (4 : Int64)) = (0 : Int64) then (0 : Int32) else (1 : Int32)) &&& 1)) = (0 : Int32) then (0 : Int64) else (4 : Int64))) = v41 := hF2.2.1
    have q156_10 : (((q2 ^^^ (-1 : Int64)))) = ((q2 ^^^ (-1 : Int64))) := rfl
    have q156_11 : (((q3 ^^^ (-1 : Int64)))) = ((q3 ^^^ (-1 : Int64))) := rfl
    have V156_a : own_AJ Z h155 a155 [v4, q1, v17, v35, q2, q3, v38, q4, q5, v41, ((q2 ^^^ (-1 : Int64))), ((q3 ^^^ (-1 : Int64)))] := by have w := R155; rw [q156_0, q156_2, q156_3, q156_6, q156_9, q156_10, q156_11] at w; exact w
    obtain ⟨_, _, ⟨T157, L157, k157, n157⟩, -, X157, ⟨Lc157, hQ157, l157, y157, z157⟩, st157⟩ := Jvm.LawKit.callS X155 hx (y := (⟨"com/example/tributary/tributary/io/SilenceMeasuredPinLaw", "at", "([J[JI)Z"⟩ : MethodName)) hown (mvT hZ (H 66 rfl)) (mvT hZ (H 67 rfl)) (mvT hZ (H 7 rfl)) (mvT hZ (H 68 rfl)) (by decide) (backOf (W := 0) (rm9 l Z a0 hw [] a155 a133 (0 : Int32) [v4, q1, v17, v35, q2, q3, v38, q4, q5, v41, ((q2 ^^^ (-1 : Int64))), ((q3 ^^^ (-1 : Int64)))] [v4, q1, v17, v35, q2, q3, v38, q4, q5, v41, ((q2 ^^^ (-1 : Int64))), ((q3 ^^^ (-1 : Int64)))] h155 n0 sz155 V156_a V155_a133 (show 12 ≤ 100 by decide) rfl (by decide)) hZ (H 68 rfl) (H 7 rfl) (by decide) (by decide)) (g := (mkF m 375 #[iv q0, jv q1, s2, jv q2, s2, jv q3, s2, jv q4, s2, jv q5, s2, iv (3 : Int32), jv v4, s2, jv v35, s2, jv v38, s2, jv v41, s2, jv v17, s2, rv a133, rv a146, rv a149, iv (1 : Int32), rv a155, u0] [(.int (0 : Int32)), (.ref a133), (.ref a155)])) rfl (by rw [hml]; rfl) (argsL := [(.ref a155), (.ref a133), (.int (0 : Int32))]) (rest := []) (lenOf pd_122 rfl) rfl (by show 2 * 0 + _ ≤ _; exact Nat.le_of_eq rfl) (D at_375) (fun _ _ => ⟨rfl, e155, (by decide : 9 + 0 ≤ _), (by decide : 62 + 0 ≤ _)⟩)
    dsimp only [Pt.U, Pt.locs, Pt.cells, Pt.slots] at X157 l157 y157 z157 st157 hQ157
    replace y157 : k157 = 9 := y157
    replace z157 : n157 = 62 := z157
    replace l157 := l157.symm; replace y157 := y157.symm; replace z157 := z157.symm; subst l157 y157 z157
    obtain ⟨rfl, N157q, e157⟩ := hQ157
    have N157 := Fr.app N155 N157q
    have c158 : ¬ ((own_f9 ((0 : Int32)) [v4, q1, v17, v35, q2, q3, v38, q4, q5, v41, ((q2 ^^^ (-1 : Int64))), ((q3 ^^^ (-1 : Int64)))] [v4, q1, v17, v35, q2, q3, v38, q4, q5, v41, ((q2 ^^^ (-1 : Int64))), ((q3 ^^^ (-1 : Int64)))]) = (0 : Int32)) := (own_notz _ _)
    obtain ⟨_, _, ⟨T159, L159, k159, n159⟩, -, X159, ⟨Lc159, hQ159, l159, y159, z159⟩, st159⟩ := Jvm.LawKit.callS X157 hx (y := (⟨"com/example/tributary/tributary/io/SilenceMeasuredPinLaw", "at", "([J[JI)Z"⟩ : MethodName)) hown (mvT hZ (H 66 rfl)) (mvT hZ (H 67 rfl)) (mvT hZ (H 7 rfl)) (mvT hZ (H 68 rfl)) (by decide) (backOf (W := 0) (rm9 l Z a0 hw [] a155 a133 (1 : Int32) [v4, q1, v17, v35, q2, q3, v38, q4, q5, v41, ((q2 ^^^ (-1 : Int64))), ((q3 ^^^ (-1 : Int64)))] [v4, q1, v17, v35, q2, q3, v38, q4, q5, v41, ((q2 ^^^ (-1 : Int64))), ((q3 ^^^ (-1 : Int64)))] h155 n0 sz155 V156_a V155_a133 (show 12 ≤ 100 by decide) rfl (by decide)) hZ (H 68 rfl) (H 7 rfl) (by decide) (by decide)) (g := (mkF m 386 #[iv q0, jv q1, s2, jv q2, s2, jv q3, s2, jv q4, s2, jv q5, s2, iv (3 : Int32), jv v4, s2, jv v35, s2, jv v38, s2, jv v41, s2, jv v17, s2, rv a133, rv a146, rv a149, iv (1 : Int32), rv a155, u0] [(.int (1 : Int32)), (.ref a133), (.ref a155)])) rfl (by rw [hml]; rfl) (argsL := [(.ref a155), (.ref a133), (.int (1 : Int32))]) (rest := []) (lenOf pd_122 rfl) rfl (by show 2 * 0 + _ ≤ _; exact Nat.le_of_eq rfl) (D at_386) (fun _ _ => ⟨rfl, e157, (by decide : 9 + 0 ≤ _), (by decide : 62 + 0 ≤ _)⟩)
    dsimp only [Pt.U, Pt.locs, Pt.cells, Pt.slots] at X159 l159 y159 z159 st159 hQ159
    replace y159 : k159 = 9 := y159
    replace z159 : n159 = 62 := z159
    replace l159 := l159.symm; replace y159 := y159.symm; replace z159 := z159.symm; subst l159 y159 z159
    obtain ⟨rfl, N159q, e159⟩ := hQ159
    have N159 := Fr.app N157 N159q
    have c160 : ¬ ((own_f9 ((1 : Int32)) [v4, q1, v17, v35, q2, q3, v38, q4, q5, v41, ((q2 ^^^ (-1 : Int64))), ((q3 ^^^ (-1 : Int64)))] [v4, q1, v17, v35, q2, q3, v38, q4, q5, v41, ((q2 ^^^ (-1 : Int64))), ((q3 ^^^ (-1 : Int64)))]) = (0 : Int32)) := (own_notz _ _)
    obtain ⟨_, _, ⟨T161, L161, k161, n161⟩, -, X161, ⟨Lc161, hQ161, l161, y161, z161⟩, st161⟩ := Jvm.LawKit.callS X159 hx (y := (⟨"com/example/tributary/tributary/io/SilenceMeasuredPinLaw", "at", "([J[JI)Z"⟩ : MethodName)) hown (mvT hZ (H 66 rfl)) (mvT hZ (H 67 rfl)) (mvT hZ (H 7 rfl)) (mvT hZ (H 68 rfl)) (by decide) (backOf (W := 0) (rm9 l Z a0 hw [] a155 a133 (2 : Int32) [v4, q1, v17, v35, q2, q3, v38, q4, q5, v41, ((q2 ^^^ (-1 : Int64))), ((q3 ^^^ (-1 : Int64)))] [v4, q1, v17, v35, q2, q3, v38, q4, q5, v41, ((q2 ^^^ (-1 : Int64))), ((q3 ^^^ (-1 : Int64)))] h155 n0 sz155 V156_a V155_a133 (show 12 ≤ 100 by decide) rfl (by decide)) hZ (H 68 rfl) (H 7 rfl) (by decide) (by decide)) (g := (mkF m 397 #[iv q0, jv q1, s2, jv q2, s2, jv q3, s2, jv q4, s2, jv q5, s2, iv (3 : Int32), jv v4, s2, jv v35, s2, jv v38, s2, jv v41, s2, jv v17, s2, rv a133, rv a146, rv a149, iv (1 : Int32), rv a155, u0] [(.int (2 : Int32)), (.ref a133), (.ref a155)])) rfl (by rw [hml]; rfl) (argsL := [(.ref a155), (.ref a133), (.int (2 : Int32))]) (rest := []) (lenOf pd_122 rfl) rfl (by show 2 * 0 + _ ≤ _; exact Nat.le_of_eq rfl) (D at_397) (fun _ _ => ⟨rfl, e159, (by decide : 9 + 0 ≤ _), (by decide : 62 + 0 ≤ _)⟩)
    dsimp only [Pt.U, Pt.locs, Pt.cells, Pt.slots] at X161 l161 y161 z161 st161 hQ161
    replace y161 : k161 = 9 := y161
    replace z161 : n161 = 62 := z161
    replace l161 := l161.symm; replace y161 := y161.symm; replace z161 := z161.symm; subst l161 y161 z161
    obtain ⟨rfl, N161q, e161⟩ := hQ161
    have N161 := Fr.app N159 N161q
    have c162 : ¬ ((own_f9 ((2 : Int32)) [v4, q1, v17, v35, q2, q3, v38, q4, q5, v41, ((q2 ^^^ (-1 : Int64))), ((q3 ^^^ (-1 : Int64)))] [v4, q1, v17, v35, q2, q3, v38, q4, q5, v41, ((q2 ^^^ (-1 : Int64))), ((q3 ^^^ (-1 : Int64)))]) = (0 : Int32)) := (own_notz _ _)
    obtain ⟨_, _, ⟨T163, L163, k163, n163⟩, -, X163, ⟨Lc163, hQ163, l163, y163, z163⟩, st163⟩ := Jvm.LawKit.callS X161 hx (y := (⟨"com/example/tributary/tributary/io/SilenceMeasuredPinLaw", "at", "([J[JI)Z"⟩ : MethodName)) hown (mvT hZ (H 66 rfl)) (mvT hZ (H 67 rfl)) (mvT hZ (H 7 rfl)) (mvT hZ (H 68 rfl)) (by decide) (backOf (W := 0) (rm9 l Z a0 hw [] a155 a133 (3 : Int32) [v4, q1, v17, v35, q2, q3, v38, q4, q5, v41, ((q2 ^^^ (-1 : Int64))), ((q3 ^^^ (-1 : Int64)))] [v4, q1, v17, v35, q2, q3, v38, q4, q5, v41, ((q2 ^^^ (-1 : Int64))), ((q3 ^^^ (-1 : Int64)))] h155 n0 sz155 V156_a V155_a133 (show 12 ≤ 100 by decide) rfl (by decide)) hZ (H 68 rfl) (H 7 rfl) (by decide) (by decide)) (g := (mkF m 408 #[iv q0, jv q1, s2, jv q2, s2, jv q3, s2, jv q4, s2, jv q5, s2, iv (3 : Int32), jv v4, s2, jv v35, s2, jv v38, s2, jv v41, s2, jv v17, s2, rv a133, rv a146, rv a149, iv (1 : Int32), rv a155, u0] [(.int (3 : Int32)), (.ref a133), (.ref a155)])) rfl (by rw [hml]; rfl) (argsL := [(.ref a155), (.ref a133), (.int (3 : Int32))]) (rest := []) (lenOf pd_122 rfl) rfl (by show 2 * 0 + _ ≤ _; exact Nat.le_of_eq rfl) (D at_408) (fun _ _ => ⟨rfl, e161, (by decide : 9 + 0 ≤ _), (by decide : 62 + 0 ≤ _)⟩)
    dsimp only [Pt.U, Pt.locs, Pt.cells, Pt.slots] at X163 l163 y163 z163 st163 hQ163
    replace y163 : k163 = 9 := y163
    replace z163 : n163 = 62 := z163
    replace l163 := l163.symm; replace y163 := y163.symm; replace z163 := z163.symm; subst l163 y163 z163
    obtain ⟨rfl, N163q, e163⟩ := hQ163
    have N163 := Fr.app N161 N163q
    have c164 : ¬ ((own_f9 ((3 : Int32)) [v4, q1, v17, v35, q2, q3, v38, q4, q5, v41, ((q2 ^^^ (-1 : Int64))), ((q3 ^^^ (-1 : Int64)))] [v4, q1, v17, v35, q2, q3, v38, q4, q5, v41, ((q2 ^^^ (-1 : Int64))), ((q3 ^^^ (-1 : Int64)))]) = (0 : Int32)) := (own_notz _ _)
    obtain ⟨_, _, ⟨T165, L165, k165, n165⟩, -, X165, ⟨Lc165, hQ165, l165, y165, z165⟩, st165⟩ := Jvm.LawKit.callS X163 hx (y := (⟨"com/example/tributary/tributary/io/SilenceMeasuredPinLaw", "at", "([J[JI)Z"⟩ : MethodName)) hown (mvT hZ (H 66 rfl)) (mvT hZ (H 67 rfl)) (mvT hZ (H 7 rfl)) (mvT hZ (H 68 rfl)) (by decide) (backOf (W := 0) (rm9 l Z a0 hw [] a155 a133 (4 : Int32) [v4, q1, v17, v35, q2, q3, v38, q4, q5, v41, ((q2 ^^^ (-1 : Int64))), ((q3 ^^^ (-1 : Int64)))] [v4, q1, v17, v35, q2, q3, v38, q4, q5, v41, ((q2 ^^^ (-1 : Int64))), ((q3 ^^^ (-1 : Int64)))] h155 n0 sz155 V156_a V155_a133 (show 12 ≤ 100 by decide) rfl (by decide)) hZ (H 68 rfl) (H 7 rfl) (by decide) (by decide)) (g := (mkF m 419 #[iv q0, jv q1, s2, jv q2, s2, jv q3, s2, jv q4, s2, jv q5, s2, iv (3 : Int32), jv v4, s2, jv v35, s2, jv v38, s2, jv v41, s2, jv v17, s2, rv a133, rv a146, rv a149, iv (1 : Int32), rv a155, u0] [(.int (4 : Int32)), (.ref a133), (.ref a155)])) rfl (by rw [hml]; rfl) (argsL := [(.ref a155), (.ref a133), (.int (4 : Int32))]) (rest := []) (lenOf pd_122 rfl) rfl (by show 2 * 0 + _ ≤ _; exact Nat.le_of_eq rfl) (D at_419) (fun _ _ => ⟨rfl, e163, (by decide : 9 + 0 ≤ _), (by decide : 62 + 0 ≤ _)⟩)
    dsimp only [Pt.U, Pt.locs, Pt.cells, Pt.slots] at X165 l165 y165 z165 st165 hQ165
    replace y165 : k165 = 9 := y165
    replace z165 : n165 = 62 := z165
    replace l165 := l165.symm; replace y165 := y165.symm; replace z165 := z165.symm; subst l165 y165 z165
    obtain ⟨rfl, N165q, e165⟩ := hQ165
    have N165 := Fr.app N163 N165q
    have pre166 : ∀ t, Steps p.tables e below (T165.setTop (mkF m 422 #[iv q0, jv q1, s2, jv q2, s2, jv q3, s2, jv q4, s2, jv q5, s2, iv (3 : Int32), jv v4, s2, jv v35, s2, jv v38, s2, jv v41, s2, jv v17, s2, rv a133, rv a146, rv a149, iv (1 : Int32), rv a155, u0] [(.int (own_f9 ((4 : Int32)) [v4, q1, v17, v35, q2, q3, v38, q4, q5, v41, ((q2 ^^^ (-1 : Int64))), ((q3 ^^^ (-1 : Int64)))] [v4, q1, v17, v35, q2, q3, v38, q4, q5, v41, ((q2 ^^^ (-1 : Int64))), ((q3 ^^^ (-1 : Int64)))]))])) t → Steps p.tables e below B0 t := by
      intro t k
      refine pre148 t ?_
      show Steps p.tables e below (T147.setTop (mkF m 288 #[iv q0, jv q1, s2, jv q2, s2, jv q3, s2, jv q4, s2, jv q5, s2, iv (3 : Int32), jv v4, s2, jv v35, s2, jv v38, s2, jv v41, s2, jv v17, s2, rv a133, rv a146, u0, u0, u0, u0] [(.ref a146)])) _
      refine st149.trans ?_
      refine XS.astore X149.here hx rfl (D at_291) rfl rfl (l' := #[iv q0, jv q1, s2, jv q2, s2, jv q3, s2, jv q4, s2, jv q5, s2, iv (3 : Int32), jv v4, s2, jv v35, s2, jv v38, s2, jv v41, s2, jv v17, s2, rv a133, rv a146, rv a149, u0, u0, u0]) rfl ?_
      refine XS.aload X149.here hx rfl (D at_293) rfl rfl ?_
      refine own_alenJ X149 hx hZ e149 R149 (D at_295) _ ?_
      refine XS.aload X149.here hx rfl (D at_296) rfl rfl ?_
      refine own_alenJ X149 hx hZ e149 V149_a133 (D at_298) _ ?_
      show Steps p.tables e below (T149.setTop (mkF m 299 #[iv q0, jv q1, s2, jv q2, s2, jv q3, s2, jv q4, s2, jv q5, s2, iv (3 : Int32), jv v4, s2, jv v35, s2, jv v38, s2, jv v41, s2, jv v17, s2, rv a133, rv a146, rv a149, u0, u0, u0] [(.int (12 : Int32)), (.int (12 : Int32))])) _
      refine XS.icmpNo X149.here hx rfl (D at_299) rfl (by decide) ?_
      refine XS.aload X149.here hx rfl (D at_302) rfl rfl ?_
      refine XS.iconst X149.here hx rfl (D at_304) ?_
      refine own_laload X149 hx hZ e149 R149 (show 0 ≤ Int32.toInt (0 : Int32) ∧ Int32.toInt (0 : Int32) < ((12 : Nat) : Int) by decide) (D at_305) _ ?_
      refine XS.lconst X149.here hx rfl (D at_306) ?_
      refine XS.lcmp X149.here hx rfl (D at_307) rfl ?_
      show Steps p.tables e below (T149.setTop (mkF m 308 #[iv q0, jv q1, s2, jv q2, s2, jv q3, s2, jv q4, s2, jv q5, s2, iv (3 : Int32), jv v4, s2, jv v35, s2, jv v38, s2, jv v41, s2, jv v17, s2, rv a133, rv a146, rv a149, u0, u0, u0] [(.int (lcmpW (if ((0 : Int32)) = (0 : Int32) then (0 : Int64) else (1 : Int64)) (0 : Int64)))])) _
      refine XS.ifNo X149.here hx rfl (D at_308) rfl ((if0 _ _).trans (teq ((lw_eq (if ((0 : Int32)) = (0 : Int32) then (0 : Int64) else (1 : Int64)) (0 : Int64)).mpr c150)).2) ?_
      refine XS.aload X149.here hx rfl (D at_311) rfl rfl ?_
      refine XS.iconst X149.here hx rfl (D at_313) ?_
      refine own_laload X149 hx hZ e149 R149 (show 0 ≤ Int32.toInt (1 : Int32) ∧ Int32.toInt (1 : Int32) < ((12 : Nat) : Int) by decide) (D at_314) _ ?_
      refine XS.lconst X149.here hx rfl (D at_315) ?_
      refine XS.lcmp X149.here hx rfl (D at_316) rfl ?_
      show Steps p.tables e below (T149.setTop (mkF m 317 #[iv q0, jv q1, s2, jv q2, s2, jv q3, s2, jv q4, s2, jv q5, s2, iv (3 : Int32), jv v4, s2, jv v35, s2, jv v38, s2, jv v41, s2, jv v17, s2, rv a133, rv a146, rv a149, u0, u0, u0] [(.int (lcmpW ((0 : Int64)) (0 : Int64)))])) _
      refine XS.ifNo X149.here hx rfl (D at_317) rfl ((if0 _ _).trans (teq ((lw_eq ((0 : Int64)) (0 : Int64)).mpr c151)).2) ?_
      refine XS.aload X149.here hx rfl (D at_320) rfl rfl ?_
      refine XS.iconst X149.here hx rfl (D at_322) ?_
      refine own_laload X149 hx hZ e149 R149 (show 0 ≤ Int32.toInt (2 : Int32) ∧ Int32.toInt (2 : Int32) < ((12 : Nat) : Int) by decide) (D at_323) _ ?_
      show Steps p.tables e below (T149.setTop (mkF m 324 #[iv q0, jv q1, s2, jv q2, s2, jv q3, s2, jv q4, s2, jv q5, s2, iv (3 : Int32), jv v4, s2, jv v35, s2, jv v38, s2, jv v41, s2, jv v17, s2, rv a133, rv a146, rv a149, u0, u0, u0] [(.long (((-1 : Int32))).toInt64)])) _
      refine X149.ldc2Long hx hown (mvT hZ (H 52 rfl)) (g := (mkF m 324 #[iv q0, jv q1, s2, jv q2, s2, jv q3, s2, jv q4, s2, jv q5, s2, iv (3 : Int32), jv v4, s2, jv v35, s2, jv v38, s2, jv v41, s2, jv v17, s2, rv a133, rv a146, rv a149, u0, u0, u0] [(.long (((-1 : Int32))).toInt64)])) rfl (D at_324) _ ?_
      refine XS.lcmp X149.here hx rfl (D at_327) rfl ?_
      show Steps p.tables e below (T149.setTop (mkF m 328 #[iv q0, jv q1, s2, jv q2, s2, jv q3, s2, jv q4, s2, jv q5, s2, iv (3 : Int32), jv v4, s2, jv v35, s2, jv v38, s2, jv v41, s2, jv v17, s2, rv a133, rv a146, rv a149, u0, u0, u0] [(.int (lcmpW (((-1 : Int32))).toInt64 (-1 : Int64)))])) _
      refine XS.ifNo X149.here hx rfl (D at_328) rfl ((if0 _ _).trans (teq ((lw_eq (((-1 : Int32))).toInt64 (-1 : Int64)).mpr c152)).2) ?_
      refine XS.aload X149.here hx rfl (D at_331) rfl rfl ?_
      refine XS.iconst X149.here hx rfl (D at_333) ?_
      refine own_laload X149 hx hZ e149 R149 (show 0 ≤ Int32.toInt (3 : Int32) ∧ Int32.toInt (3 : Int32) < ((12 : Nat) : Int) by decide) (D at_334) _ ?_
      refine XS.lconst X149.here hx rfl (D at_335) ?_
      refine XS.lcmp X149.here hx rfl (D at_336) rfl ?_
      show Steps p.tables e below (T149.setTop (mkF m 337 #[iv q0, jv q1, s2, jv q2, s2, jv q3, s2, jv q4, s2, jv q5, s2, iv (3 : Int32), jv v4, s2, jv v35, s2, jv v38, s2, jv v41, s2, jv v17, s2, rv a133, rv a146, rv a149, u0, u0, u0] [(.int (lcmpW (((if ((0 : Int32)) = (0 : Int32) then (0 : Int64) else (1 : Int64)) ||| (if ((0 : Int32)) = (0 : Int32) then (0 : Int64) else (2 : Int64))) ||| (if ((0 : Int32)) = (0 : Int32) then (0 : Int64) else (4 : Int64))) (0 : Int64)))])) _
      refine XS.ifNo X149.here hx rfl (D at_337) rfl ((if0 _ _).trans (teq ((lw_eq (((if ((0 : Int32)) = (0 : Int32) then (0 : Int64) else (1 : Int64)) ||| (if ((0 : Int32)) = (0 : Int32) then (0 : Int64) else (2 : Int64))) ||| (if ((0 : Int32)) = (0 : Int32) then (0 : Int64) else (4 : Int64))) (0 : Int64)).mpr c153)).2) ?_
      refine XS.iconst X149.here hx rfl (D at_340) ?_
      refine XS.goto X149.here hx rfl (pc0 := 341) (pc' := 345) rfl (D at_341) (by decide) (by decide) ?_
      refine XS.istore X149.here hx rfl (D at_345) rfl (l' := #[iv q0, jv q1, s2, jv q2, s2, jv q3, s2, jv q4, s2, jv q5, s2, iv (3 : Int32), jv v4, s2, jv v35, s2, jv v38, s2, jv v41, s2, jv v17, s2, rv a133, rv a146, rv a149, iv (1 : Int32), u0, u0]) rfl ?_
      refine XS.aload X149.here hx rfl (D at_347) rfl rfl ?_
      refine XS.aload X149.here hx rfl (D at_349) rfl rfl ?_
      refine st154.trans ?_
      refine XS.aload X154.here hx rfl (D at_354) rfl rfl ?_
      refine st155.trans ?_
      refine XS.astore X155.here hx rfl (D at_359) rfl rfl (l' := #[iv q0, jv q1, s2, jv q2, s2, jv q3, s2, jv q4, s2, jv q5, s2, iv (3 : Int32), jv v4, s2, jv v35, s2, jv v38, s2, jv v41, s2, jv v17, s2, rv a133, rv a146, rv a149, iv (1 : Int32), rv a155, u0]) rfl ?_
      refine XS.aload X155.here hx rfl (D at_361) rfl rfl ?_
      refine own_alenJ X155 hx hZ e155 V156_a (D at_363) _ ?_
      refine XS.aload X155.here hx rfl (D at_364) rfl rfl ?_
      refine own_alenJ X155 hx hZ e155 V155_a133 (D at_366) _ ?_
      show Steps p.tables e below (T155.setTop (mkF m 367 #[iv q0, jv q1, s2, jv q2, s2, jv q3, s2, jv q4, s2, jv q5, s2, iv (3 : Int32), jv v4, s2, jv v35, s2, jv v38, s2, jv v41, s2, jv v17, s2, rv a133, rv a146, rv a149, iv (1 : Int32), rv a155, u0] [(.int (12 : Int32)), (.int (12 : Int32))])) _
      refine XS.icmpNo X155.here hx rfl (D at_367) rfl (by decide) ?_
      refine XS.aload X155.here hx rfl (D at_370) rfl rfl ?_
      refine XS.aload X155.here hx rfl (D at_372) rfl rfl ?_
      refine XS.iconst X155.here hx rfl (D at_374) ?_
      refine st157 _ ?_
      show Steps p.tables e below (T157.setTop (mkF m 378 #[iv q0, jv q1, s2, jv q2, s2, jv q3, s2, jv q4, s2, jv q5, s2, iv (3 : Int32), jv v4, s2, jv v35, s2, jv v38, s2, jv v41, s2, jv v17, s2, rv a133, rv a146, rv a149, iv (1 : Int32), rv a155, u0] [(.int (own_f9 ((0 : Int32)) [v4, q1, v17, v35, q2, q3, v38, q4, q5, v41, ((q2 ^^^ (-1 : Int64))), ((q3 ^^^ (-1 : Int64)))] [v4, q1, v17, v35, q2, q3, v38, q4, q5, v41, ((q2 ^^^ (-1 : Int64))), ((q3 ^^^ (-1 : Int64)))]))])) _
      refine XS.ifNo X157.here hx rfl (D at_378) rfl ((if0 _ _).trans (feq c158).1) ?_
      refine XS.aload X157.here hx rfl (D at_381) rfl rfl ?_
      refine XS.aload X157.here hx rfl (D at_383) rfl rfl ?_
      refine XS.iconst X157.here hx rfl (D at_385) ?_
      refine st159 _ ?_
      show Steps p.tables e below (T159.setTop (mkF m 389 #[iv q0, jv q1, s2, jv q2, s2, jv q3, s2, jv q4, s2, jv q5, s2, iv (3 : Int32), jv v4, s2, jv v35, s2, jv v38, s2, jv v41, s2, jv v17, s2, rv a133, rv a146, rv a149, iv (1 : Int32), rv a155, u0] [(.int (own_f9 ((1 : Int32)) [v4, q1, v17, v35, q2, q3, v38, q4, q5, v41, ((q2 ^^^ (-1 : Int64))), ((q3 ^^^ (-1 : Int64)))] [v4, q1, v17, v35, q2, q3, v38, q4, q5, v41, ((q2 ^^^ (-1 : Int64))), ((q3 ^^^ (-1 : Int64)))]))])) _
      refine XS.ifNo X159.here hx rfl (D at_389) rfl ((if0 _ _).trans (feq c160).1) ?_
      refine XS.aload X159.here hx rfl (D at_392) rfl rfl ?_
      refine XS.aload X159.here hx rfl (D at_394) rfl rfl ?_
      refine XS.iconst X159.here hx rfl (D at_396) ?_
      refine st161 _ ?_
      show Steps p.tables e below (T161.setTop (mkF m 400 #[iv q0, jv q1, s2, jv q2, s2, jv q3, s2, jv q4, s2, jv q5, s2, iv (3 : Int32), jv v4, s2, jv v35, s2, jv v38, s2, jv v41, s2, jv v17, s2, rv a133, rv a146, rv a149, iv (1 : Int32), rv a155, u0] [(.int (own_f9 ((2 : Int32)) [v4, q1, v17, v35, q2, q3, v38, q4, q5, v41, ((q2 ^^^ (-1 : Int64))), ((q3 ^^^ (-1 : Int64)))] [v4, q1, v17, v35, q2, q3, v38, q4, q5, v41, ((q2 ^^^ (-1 : Int64))), ((q3 ^^^ (-1 : Int64)))]))])) _
      refine XS.ifNo X161.here hx rfl (D at_400) rfl ((if0 _ _).trans (feq c162).1) ?_
      refine XS.aload X161.here hx rfl (D at_403) rfl rfl ?_
      refine XS.aload X161.here hx rfl (D at_405) rfl rfl ?_
      refine XS.iconst X161.here hx rfl (D at_407) ?_
      refine st163 _ ?_
      show Steps p.tables e below (T163.setTop (mkF m 411 #[iv q0, jv q1, s2, jv q2, s2, jv q3, s2, jv q4, s2, jv q5, s2, iv (3 : Int32), jv v4, s2, jv v35, s2, jv v38, s2, jv v41, s2, jv v17, s2, rv a133, rv a146, rv a149, iv (1 : Int32), rv a155, u0] [(.int (own_f9 ((3 : Int32)) [v4, q1, v17, v35, q2, q3, v38, q4, q5, v41, ((q2 ^^^ (-1 : Int64))), ((q3 ^^^ (-1 : Int64)))] [v4, q1, v17, v35, q2, q3, v38, q4, q5, v41, ((q2 ^^^ (-1 : Int64))), ((q3 ^^^ (-1 : Int64)))]))])) _
      refine XS.ifNo X163.here hx rfl (D at_411) rfl ((if0 _ _).trans (feq c164).1) ?_
      refine XS.aload X163.here hx rfl (D at_414) rfl rfl ?_
      refine XS.aload X163.here hx rfl (D at_416) rfl rfl ?_
      refine XS.iconst X163.here hx rfl (D at_418) ?_
      refine st165 _ ?_
      exact k
    clear X147 A147_o0 F147_o0 F147_o1 F147_o2 F147_o3 F147_o4 F147_o5 F147_o6 F147_o7 F147_o8 V147_o0 V147_o1 V147_o2 V147_o3 V147_o4 e147 V147_a133 sz147 N147 pre148 X149 st149 N149q K149 R149 e149 V149_a133 V149_rl147 V149_rs147 V149_rr147 V149_rg147 V149_rt147 A149_a146 F149_a146_0 F149_a146_1 F149_a146_2 F149_a146_3 F149_a146_4 F149_a146_5 F149_a146_6 F149_a146_7 F149_a146_8 sz149 N149 X154 st154 N154q K154 A154_o0 F154_o0 F154_o1 F154_o2 F154_o3 F154_o4 F154_o5 F154_o6 F154_o7 V154_o0 V154_o1 V154_o2 V154_o3 V154_o4 V154_o5 e154 V154_a133 V154_a149 A154_a146 sz154 N154 X155 st155 N155q K155 R155 e155 N155 X157 st157 N157q e157 N157 X159 st159 N159q e159 N159 X161 st161 N161q e161 N161 X163 st163 N163q e163 N163 st165 N165q
    have c167 : ¬ ((own_f9 ((4 : Int32)) [v4, q1, v17, v35, q2, q3, v38, q4, q5, v41, ((q2 ^^^ (-1 : Int64))), ((q3 ^^^ (-1 : Int64)))] [v4, q1, v17, v35, q2, q3, v38, q4, q5, v41, ((q2 ^^^ (-1 : Int64))), ((q3 ^^^ (-1 : Int64)))]) = (0 : Int32)) := (own_notz _ _)
    obtain ⟨_, _, ⟨T168, L168, k168, n168⟩, -, X168, ⟨Lc168, hQ168, l168, y168, z168⟩, st168⟩ := Jvm.LawKit.callS X165 hx (y := (⟨"com/example/tributary/tributary/io/SilenceMeasuredPinLaw", "at", "([J[JI)Z"⟩ : MethodName)) hown (mvT hZ (H 66 rfl)) (mvT hZ (H 67 rfl)) (mvT hZ (H 7 rfl)) (mvT hZ (H 68 rfl)) (by decide) (backOf (W := 0) (rm9 l Z a0 hw [] a155 a133 (5 : Int32) [v4, q1, v17, v35, q2, q3, v38, q4, q5, v41, ((q2 ^^^ (-1 : Int64))), ((q3 ^^^ (-1 : Int64)))] [v4, q1, v17, v35, q2, q3, v38, q4, q5, v41, ((q2 ^^^ (-1 : Int64))), ((q3 ^^^ (-1 : Int64)))] h155 n0 sz155 V156_a V155_a133 (show 12 ≤ 100 by decide) rfl (by decide)) hZ (H 68 rfl) (H 7 rfl) (by decide) (by decide)) (g := (mkF m 430 #[iv q0, jv q1, s2, jv q2, s2, jv q3, s2, jv q4, s2, jv q5, s2, iv (3 : Int32), jv v4, s2, jv v35, s2, jv v38, s2, jv v41, s2, jv v17, s2, rv a133, rv a146, rv a149, iv (1 : Int32), rv a155, u0] [(.int (5 : Int32)), (.ref a133), (.ref a155)])) rfl (by rw [hml]; rfl) (argsL := [(.ref a155), (.ref a133), (.int (5 : Int32))]) (rest := []) (lenOf pd_122 rfl) rfl (by show 2 * 0 + _ ≤ _; exact Nat.le_of_eq rfl) (D at_430) (fun _ _ => ⟨rfl, e165, (by decide : 9 + 0 ≤ _), (by decide : 62 + 0 ≤ _)⟩)
    dsimp only [Pt.U, Pt.locs, Pt.cells, Pt.slots] at X168 l168 y168 z168 st168 hQ168
    replace y168 : k168 = 9 := y168
    replace z168 : n168 = 62 := z168
    replace l168 := l168.symm; replace y168 := y168.symm; replace z168 := z168.symm; subst l168 y168 z168
    obtain ⟨rfl, N168q, e168⟩ := hQ168
    have N168 := Fr.app N165 N168q
    have c169 : ¬ ((own_f9 ((5 : Int32)) [v4, q1, v17, v35, q2, q3, v38, q4, q5, v41, ((q2 ^^^ (-1 : Int64))), ((q3 ^^^ (-1 : Int64)))] [v4, q1, v17, v35, q2, q3, v38, q4, q5, v41, ((q2 ^^^ (-1 : Int64))), ((q3 ^^^ (-1 : Int64)))]) = (0 : Int32)) := (own_notz _ _)
    obtain ⟨_, _, ⟨T170, L170, k170, n170⟩, -, X170, ⟨Lc170, hQ170, l170, y170, z170⟩, st170⟩ := Jvm.LawKit.callS X168 hx (y := (⟨"com/example/tributary/tributary/io/SilenceMeasuredPinLaw", "at", "([J[JI)Z"⟩ : MethodName)) hown (mvT hZ (H 66 rfl)) (mvT hZ (H 67 rfl)) (mvT hZ (H 7 rfl)) (mvT hZ (H 68 rfl)) (by decide) (backOf (W := 0) (rm9 l Z a0 hw [] a155 a133 (6 : Int32) [v4, q1, v17, v35, q2, q3, v38, q4, q5, v41, ((q2 ^^^ (-1 : Int64))), ((q3 ^^^ (-1 : Int64)))] [v4, q1, v17, v35, q2, q3, v38, q4, q5, v41, ((q2 ^^^ (-1 : Int64))), ((q3 ^^^ (-1 : Int64)))] h155 n0 sz155 V156_a V155_a133 (show 12 ≤ 100 by decide) rfl (by decide)) hZ (H 68 rfl) (H 7 rfl) (by decide) (by decide)) (g := (mkF m 442 #[iv q0, jv q1, s2, jv q2, s2, jv q3, s2, jv q4, s2, jv q5, s2, iv (3 : Int32), jv v4, s2, jv v35, s2, jv v38, s2, jv v41, s2, jv v17, s2, rv a133, rv a146, rv a149, iv (1 : Int32), rv a155, u0] [(.int (6 : Int32)), (.ref a133), (.ref a155)])) rfl (by rw [hml]; rfl) (argsL := [(.ref a155), (.ref a133), (.int (6 : Int32))]) (rest := []) (lenOf pd_122 rfl) rfl (by show 2 * 0 + _ ≤ _; exact Nat.le_of_eq rfl) (D at_442) (fun _ _ => ⟨rfl, e168, (by decide : 9 + 0 ≤ _), (by decide : 62 + 0 ≤ _)⟩)
    dsimp only [Pt.U, Pt.locs, Pt.cells, Pt.slots] at X170 l170 y170 z170 st170 hQ170
    replace y170 : k170 = 9 := y170
    replace z170 : n170 = 62 := z170
    replace l170 := l170.symm; replace y170 := y170.symm; replace z170 := z170.symm; subst l170 y170 z170
    obtain ⟨rfl, N170q, e170⟩ := hQ170
    have N170 := Fr.app N168 N170q
    have c171 : ¬ ((own_f9 ((6 : Int32)) [v4, q1, v17, v35, q2, q3, v38, q4, q5, v41, ((q2 ^^^ (-1 : Int64))), ((q3 ^^^ (-1 : Int64)))] [v4, q1, v17, v35, q2, q3, v38, q4, q5, v41, ((q2 ^^^ (-1 : Int64))), ((q3 ^^^ (-1 : Int64)))]) = (0 : Int32)) := (own_notz _ _)
    obtain ⟨_, _, ⟨T172, L172, k172, n172⟩, -, X172, ⟨Lc172, hQ172, l172, y172, z172⟩, st172⟩ := Jvm.LawKit.callS X170 hx (y := (⟨"com/example/tributary/tributary/io/SilenceMeasuredPinLaw", "at", "([J[JI)Z"⟩ : MethodName)) hown (mvT hZ (H 66 rfl)) (mvT hZ (H 67 rfl)) (mvT hZ (H 7 rfl)) (mvT hZ (H 68 rfl)) (by decide) (backOf (W := 0) (rm9 l Z a0 hw [] a155 a133 (7 : Int32) [v4, q1, v17, v35, q2, q3, v38, q4, q5, v41, ((q2 ^^^ (-1 : Int64))), ((q3 ^^^ (-1 : Int64)))] [v4, q1, v17, v35, q2, q3, v38, q4, q5, v41, ((q2 ^^^ (-1 : Int64))), ((q3 ^^^ (-1 : Int64)))] h155 n0 sz155 V156_a V155_a133 (show 12 ≤ 100 by decide) rfl (by decide)) hZ (H 68 rfl) (H 7 rfl) (by decide) (by decide)) (g := (mkF m 454 #[iv q0, jv q1, s2, jv q2, s2, jv q3, s2, jv q4, s2, jv q5, s2, iv (3 : Int32), jv v4, s2, jv v35, s2, jv v38, s2, jv v41, s2, jv v17, s2, rv a133, rv a146, rv a149, iv (1 : Int32), rv a155, u0] [(.int (7 : Int32)), (.ref a133), (.ref a155)])) rfl (by rw [hml]; rfl) (argsL := [(.ref a155), (.ref a133), (.int (7 : Int32))]) (rest := []) (lenOf pd_122 rfl) rfl (by show 2 * 0 + _ ≤ _; exact Nat.le_of_eq rfl) (D at_454) (fun _ _ => ⟨rfl, e170, (by decide : 9 + 0 ≤ _), (by decide : 62 + 0 ≤ _)⟩)
    dsimp only [Pt.U, Pt.locs, Pt.cells, Pt.slots] at X172 l172 y172 z172 st172 hQ172
    replace y172 : k172 = 9 := y172
    replace z172 : n172 = 62 := z172
    replace l172 := l172.symm; replace y172 := y172.symm; replace z172 := z172.symm; subst l172 y172 z172
    obtain ⟨rfl, N172q, e172⟩ := hQ172
    have N172 := Fr.app N170 N172q
    have c173 : ¬ ((own_f9 ((7 : Int32)) [v4, q1, v17, v35, q2, q3, v38, q4, q5, v41, ((q2 ^^^ (-1 : Int64))), ((q3 ^^^ (-1 : Int64)))] [v4, q1, v17, v35, q2, q3, v38, q4, q5, v41, ((q2 ^^^ (-1 : Int64))), ((q3 ^^^ (-1 : Int64)))]) = (0 : Int32)) := (own_notz _ _)
    obtain ⟨_, _, ⟨T174, L174, k174, n174⟩, -, X174, ⟨Lc174, hQ174, l174, y174, z174⟩, st174⟩ := Jvm.LawKit.callS X172 hx (y := (⟨"com/example/tributary/tributary/io/SilenceMeasuredPinLaw", "at", "([J[JI)Z"⟩ : MethodName)) hown (mvT hZ (H 66 rfl)) (mvT hZ (H 67 rfl)) (mvT hZ (H 7 rfl)) (mvT hZ (H 68 rfl)) (by decide) (backOf (W := 0) (rm9 l Z a0 hw [] a155 a133 (8 : Int32) [v4, q1, v17, v35, q2, q3, v38, q4, q5, v41, ((q2 ^^^ (-1 : Int64))), ((q3 ^^^ (-1 : Int64)))] [v4, q1, v17, v35, q2, q3, v38, q4, q5, v41, ((q2 ^^^ (-1 : Int64))), ((q3 ^^^ (-1 : Int64)))] h155 n0 sz155 V156_a V155_a133 (show 12 ≤ 100 by decide) rfl (by decide)) hZ (H 68 rfl) (H 7 rfl) (by decide) (by decide)) (g := (mkF m 466 #[iv q0, jv q1, s2, jv q2, s2, jv q3, s2, jv q4, s2, jv q5, s2, iv (3 : Int32), jv v4, s2, jv v35, s2, jv v38, s2, jv v41, s2, jv v17, s2, rv a133, rv a146, rv a149, iv (1 : Int32), rv a155, u0] [(.int (8 : Int32)), (.ref a133), (.ref a155)])) rfl (by rw [hml]; rfl) (argsL := [(.ref a155), (.ref a133), (.int (8 : Int32))]) (rest := []) (lenOf pd_122 rfl) rfl (by show 2 * 0 + _ ≤ _; exact Nat.le_of_eq rfl) (D at_466) (fun _ _ => ⟨rfl, e172, (by decide : 9 + 0 ≤ _), (by decide : 62 + 0 ≤ _)⟩)
    dsimp only [Pt.U, Pt.locs, Pt.cells, Pt.slots] at X174 l174 y174 z174 st174 hQ174
    replace y174 : k174 = 9 := y174
    replace z174 : n174 = 62 := z174
    replace l174 := l174.symm; replace y174 := y174.symm; replace z174 := z174.symm; subst l174 y174 z174
    obtain ⟨rfl, N174q, e174⟩ := hQ174
    have N174 := Fr.app N172 N174q
    have c175 : ¬ ((own_f9 ((8 : Int32)) [v4, q1, v17, v35, q2, q3, v38, q4, q5, v41, ((q2 ^^^ (-1 : Int64))), ((q3 ^^^ (-1 : Int64)))] [v4, q1, v17, v35, q2, q3, v38, q4, q5, v41, ((q2 ^^^ (-1 : Int64))), ((q3 ^^^ (-1 : Int64)))]) = (0 : Int32)) := (own_notz _ _)
    obtain ⟨_, _, ⟨T176, L176, k176, n176⟩, -, X176, ⟨Lc176, hQ176, l176, y176, z176⟩, st176⟩ := Jvm.LawKit.callS X174 hx (y := (⟨"com/example/tributary/tributary/io/SilenceMeasuredPinLaw", "at", "([J[JI)Z"⟩ : MethodName)) hown (mvT hZ (H 66 rfl)) (mvT hZ (H 67 rfl)) (mvT hZ (H 7 rfl)) (mvT hZ (H 68 rfl)) (by decide) (backOf (W := 0) (rm9 l Z a0 hw [] a155 a133 (9 : Int32) [v4, q1, v17, v35, q2, q3, v38, q4, q5, v41, ((q2 ^^^ (-1 : Int64))), ((q3 ^^^ (-1 : Int64)))] [v4, q1, v17, v35, q2, q3, v38, q4, q5, v41, ((q2 ^^^ (-1 : Int64))), ((q3 ^^^ (-1 : Int64)))] h155 n0 sz155 V156_a V155_a133 (show 12 ≤ 100 by decide) rfl (by decide)) hZ (H 68 rfl) (H 7 rfl) (by decide) (by decide)) (g := (mkF m 478 #[iv q0, jv q1, s2, jv q2, s2, jv q3, s2, jv q4, s2, jv q5, s2, iv (3 : Int32), jv v4, s2, jv v35, s2, jv v38, s2, jv v41, s2, jv v17, s2, rv a133, rv a146, rv a149, iv (1 : Int32), rv a155, u0] [(.int (9 : Int32)), (.ref a133), (.ref a155)])) rfl (by rw [hml]; rfl) (argsL := [(.ref a155), (.ref a133), (.int (9 : Int32))]) (rest := []) (lenOf pd_122 rfl) rfl (by show 2 * 0 + _ ≤ _; exact Nat.le_of_eq rfl) (D at_478) (fun _ _ => ⟨rfl, e174, (by decide : 9 + 0 ≤ _), (by decide : 62 + 0 ≤ _)⟩)
    dsimp only [Pt.U, Pt.locs, Pt.cells, Pt.slots] at X176 l176 y176 z176 st176 hQ176
    replace y176 : k176 = 9 := y176
    replace z176 : n176 = 62 := z176
    replace l176 := l176.symm; replace y176 := y176.symm; replace z176 := z176.symm; subst l176 y176 z176
    obtain ⟨rfl, N176q, e176⟩ := hQ176
    have N176 := Fr.app N174 N176q
    have c177 : ¬ ((own_f9 ((9 : Int32)) [v4, q1, v17, v35, q2, q3, v38, q4, q5, v41, ((q2 ^^^ (-1 : Int64))), ((q3 ^^^ (-1 : Int64)))] [v4, q1, v17, v35, q2, q3, v38, q4, q5, v41, ((q2 ^^^ (-1 : Int64))), ((q3 ^^^ (-1 : Int64)))]) = (0 : Int32)) := (own_notz _ _)
    obtain ⟨_, _, ⟨T178, L178, k178, n178⟩, -, X178, ⟨Lc178, hQ178, l178, y178, z178⟩, st178⟩ := Jvm.LawKit.callS X176 hx (y := (⟨"com/example/tributary/tributary/io/SilenceMeasuredPinLaw", "at", "([J[JI)Z"⟩ : MethodName)) hown (mvT hZ (H 66 rfl)) (mvT hZ (H 67 rfl)) (mvT hZ (H 7 rfl)) (mvT hZ (H 68 rfl)) (by decide) (backOf (W := 0) (rm9 l Z a0 hw [] a155 a133 (10 : Int32) [v4, q1, v17, v35, q2, q3, v38, q4, q5, v41, ((q2 ^^^ (-1 : Int64))), ((q3 ^^^ (-1 : Int64)))] [v4, q1, v17, v35, q2, q3, v38, q4, q5, v41, ((q2 ^^^ (-1 : Int64))), ((q3 ^^^ (-1 : Int64)))] h155 n0 sz155 V156_a V155_a133 (show 12 ≤ 100 by decide) rfl (by decide)) hZ (H 68 rfl) (H 7 rfl) (by decide) (by decide)) (g := (mkF m 490 #[iv q0, jv q1, s2, jv q2, s2, jv q3, s2, jv q4, s2, jv q5, s2, iv (3 : Int32), jv v4, s2, jv v35, s2, jv v38, s2, jv v41, s2, jv v17, s2, rv a133, rv a146, rv a149, iv (1 : Int32), rv a155, u0] [(.int (10 : Int32)), (.ref a133), (.ref a155)])) rfl (by rw [hml]; rfl) (argsL := [(.ref a155), (.ref a133), (.int (10 : Int32))]) (rest := []) (lenOf pd_122 rfl) rfl (by show 2 * 0 + _ ≤ _; exact Nat.le_of_eq rfl) (D at_490) (fun _ _ => ⟨rfl, e176, (by decide : 9 + 0 ≤ _), (by decide : 62 + 0 ≤ _)⟩)
    dsimp only [Pt.U, Pt.locs, Pt.cells, Pt.slots] at X178 l178 y178 z178 st178 hQ178
    replace y178 : k178 = 9 := y178
    replace z178 : n178 = 62 := z178
    replace l178 := l178.symm; replace y178 := y178.symm; replace z178 := z178.symm; subst l178 y178 z178
    obtain ⟨rfl, N178q, e178⟩ := hQ178
    have N178 := Fr.app N176 N178q
    have c179 : ¬ ((own_f9 ((10 : Int32)) [v4, q1, v17, v35, q2, q3, v38, q4, q5, v41, ((q2 ^^^ (-1 : Int64))), ((q3 ^^^ (-1 : Int64)))] [v4, q1, v17, v35, q2, q3, v38, q4, q5, v41, ((q2 ^^^ (-1 : Int64))), ((q3 ^^^ (-1 : Int64)))]) = (0 : Int32)) := (own_notz _ _)
    obtain ⟨_, _, ⟨T180, L180, k180, n180⟩, -, X180, ⟨Lc180, hQ180, l180, y180, z180⟩, st180⟩ := Jvm.LawKit.callS X178 hx (y := (⟨"com/example/tributary/tributary/io/SilenceMeasuredPinLaw", "at", "([J[JI)Z"⟩ : MethodName)) hown (mvT hZ (H 66 rfl)) (mvT hZ (H 67 rfl)) (mvT hZ (H 7 rfl)) (mvT hZ (H 68 rfl)) (by decide) (backOf (W := 0) (rm9 l Z a0 hw [] a155 a133 (11 : Int32) [v4, q1, v17, v35, q2, q3, v38, q4, q5, v41, ((q2 ^^^ (-1 : Int64))), ((q3 ^^^ (-1 : Int64)))] [v4, q1, v17, v35, q2, q3, v38, q4, q5, v41, ((q2 ^^^ (-1 : Int64))), ((q3 ^^^ (-1 : Int64)))] h155 n0 sz155 V156_a V155_a133 (show 12 ≤ 100 by decide) rfl (by decide)) hZ (H 68 rfl) (H 7 rfl) (by decide) (by decide)) (g := (mkF m 502 #[iv q0, jv q1, s2, jv q2, s2, jv q3, s2, jv q4, s2, jv q5, s2, iv (3 : Int32), jv v4, s2, jv v35, s2, jv v38, s2, jv v41, s2, jv v17, s2, rv a133, rv a146, rv a149, iv (1 : Int32), rv a155, u0] [(.int (11 : Int32)), (.ref a133), (.ref a155)])) rfl (by rw [hml]; rfl) (argsL := [(.ref a155), (.ref a133), (.int (11 : Int32))]) (rest := []) (lenOf pd_122 rfl) rfl (by show 2 * 0 + _ ≤ _; exact Nat.le_of_eq rfl) (D at_502) (fun _ _ => ⟨rfl, e178, (by decide : 9 + 0 ≤ _), (by decide : 62 + 0 ≤ _)⟩)
    dsimp only [Pt.U, Pt.locs, Pt.cells, Pt.slots] at X180 l180 y180 z180 st180 hQ180
    replace y180 : k180 = 9 := y180
    replace z180 : n180 = 62 := z180
    replace l180 := l180.symm; replace y180 := y180.symm; replace z180 := z180.symm; subst l180 y180 z180
    obtain ⟨rfl, N180q, e180⟩ := hQ180
    have N180 := Fr.app N178 N180q
    have c181 : ¬ ((own_f9 ((11 : Int32)) [v4, q1, v17, v35, q2, q3, v38, q4, q5, v41, ((q2 ^^^ (-1 : Int64))), ((q3 ^^^ (-1 : Int64)))] [v4, q1, v17, v35, q2, q3, v38, q4, q5, v41, ((q2 ^^^ (-1 : Int64))), ((q3 ^^^ (-1 : Int64)))]) = (0 : Int32)) := (own_notz _ _)
    obtain ⟨fs, hr, hrun, hended, hW, hsame⟩ := X180.leave (v := some (.int (1 : Int32))) (fun h => by rw [Bd.returns] at h; cases h) hlk
    refine ⟨_, _, pre166 _ ?_, hrun, hended, _, _, rfl, ?_, ⟨_, rfl⟩, hW, hsame.mono (by decide) (by decide)⟩
    · show Steps p.tables e below (T165.setTop (mkF m 422 #[iv q0, jv q1, s2, jv q2, s2, jv q3, s2, jv q4, s2, jv q5, s2, iv (3 : Int32), jv v4, s2, jv v35, s2, jv v38, s2, jv v41, s2, jv v17, s2, rv a133, rv a146, rv a149, iv (1 : Int32), rv a155, u0] [(.int (own_f9 ((4 : Int32)) [v4, q1, v17, v35, q2, q3, v38, q4, q5, v41, ((q2 ^^^ (-1 : Int64))), ((q3 ^^^ (-1 : Int64)))] [v4, q1, v17, v35, q2, q3, v38, q4, q5, v41, ((q2 ^^^ (-1 : Int64))), ((q3 ^^^ (-1 : Int64)))]))])) _
      refine XS.ifNo X165.here hx rfl (D at_422) rfl ((if0 _ _).trans (feq c167).1) ?_
      show Steps p.tables e below (T165.setTop (mkF m 425 #[iv q0, jv q1, s2, jv q2, s2, jv q3, s2, jv q4, s2, jv q5, s2, iv (3 : Int32), jv v4, s2, jv v35, s2, jv v38, s2, jv v41, s2, jv v17, s2, rv a133, rv a146, rv a149, iv (1 : Int32), rv a155, u0] [])) _
      refine XS.aload X165.here hx rfl (D at_425) rfl rfl ?_
      refine XS.aload X165.here hx rfl (D at_427) rfl rfl ?_
      refine XS.iconst X165.here hx rfl (D at_429) ?_
      refine st168 _ ?_
      show Steps p.tables e below (T168.setTop (mkF m 433 #[iv q0, jv q1, s2, jv q2, s2, jv q3, s2, jv q4, s2, jv q5, s2, iv (3 : Int32), jv v4, s2, jv v35, s2, jv v38, s2, jv v41, s2, jv v17, s2, rv a133, rv a146, rv a149, iv (1 : Int32), rv a155, u0] [(.int (own_f9 ((5 : Int32)) [v4, q1, v17, v35, q2, q3, v38, q4, q5, v41, ((q2 ^^^ (-1 : Int64))), ((q3 ^^^ (-1 : Int64)))] [v4, q1, v17, v35, q2, q3, v38, q4, q5, v41, ((q2 ^^^ (-1 : Int64))), ((q3 ^^^ (-1 : Int64)))]))])) _
      refine XS.ifNo X168.here hx rfl (D at_433) rfl ((if0 _ _).trans (feq c169).1) ?_
      refine XS.aload X168.here hx rfl (D at_436) rfl rfl ?_
      refine XS.aload X168.here hx rfl (D at_438) rfl rfl ?_
      refine XS.bipush X168.here hx rfl (D at_440) ?_
      refine st170 _ ?_
      show Steps p.tables e below (T170.setTop (mkF m 445 #[iv q0, jv q1, s2, jv q2, s2, jv q3, s2, jv q4, s2, jv q5, s2, iv (3 : Int32), jv v4, s2, jv v35, s2, jv v38, s2, jv v41, s2, jv v17, s2, rv a133, rv a146, rv a149, iv (1 : Int32), rv a155, u0] [(.int (own_f9 ((6 : Int32)) [v4, q1, v17, v35, q2, q3, v38, q4, q5, v41, ((q2 ^^^ (-1 : Int64))), ((q3 ^^^ (-1 : Int64)))] [v4, q1, v17, v35, q2, q3, v38, q4, q5, v41, ((q2 ^^^ (-1 : Int64))), ((q3 ^^^ (-1 : Int64)))]))])) _
      refine XS.ifNo X170.here hx rfl (D at_445) rfl ((if0 _ _).trans (feq c171).1) ?_
      refine XS.aload X170.here hx rfl (D at_448) rfl rfl ?_
      refine XS.aload X170.here hx rfl (D at_450) rfl rfl ?_
      refine XS.bipush X170.here hx rfl (D at_452) ?_
      refine st172 _ ?_
      show Steps p.tables e below (T172.setTop (mkF m 457 #[iv q0, jv q1, s2, jv q2, s2, jv q3, s2, jv q4, s2, jv q5, s2, iv (3 : Int32), jv v4, s2, jv v35, s2, jv v38, s2, jv v41, s2, jv v17, s2, rv a133, rv a146, rv a149, iv (1 : Int32), rv a155, u0] [(.int (own_f9 ((7 : Int32)) [v4, q1, v17, v35, q2, q3, v38, q4, q5, v41, ((q2 ^^^ (-1 : Int64))), ((q3 ^^^ (-1 : Int64)))] [v4, q1, v17, v35, q2, q3, v38, q4, q5, v41, ((q2 ^^^ (-1 : Int64))), ((q3 ^^^ (-1 : Int64)))]))])) _
      refine XS.ifNo X172.here hx rfl (D at_457) rfl ((if0 _ _).trans (feq c173).1) ?_
      refine XS.aload X172.here hx rfl (D at_460) rfl rfl ?_
      refine XS.aload X172.here hx rfl (D at_462) rfl rfl ?_
      refine XS.bipush X172.here hx rfl (D at_464) ?_
      refine st174 _ ?_
      show Steps p.tables e below (T174.setTop (mkF m 469 #[iv q0, jv q1, s2, jv q2, s2, jv q3, s2, jv q4, s2, jv q5, s2, iv (3 : Int32), jv v4, s2, jv v35, s2, jv v38, s2, jv v41, s2, jv v17, s2, rv a133, rv a146, rv a149, iv (1 : Int32), rv a155, u0] [(.int (own_f9 ((8 : Int32)) [v4, q1, v17, v35, q2, q3, v38, q4, q5, v41, ((q2 ^^^ (-1 : Int64))), ((q3 ^^^ (-1 : Int64)))] [v4, q1, v17, v35, q2, q3, v38, q4, q5, v41, ((q2 ^^^ (-1 : Int64))), ((q3 ^^^ (-1 : Int64)))]))])) _
      refine XS.ifNo X174.here hx rfl (D at_469) rfl ((if0 _ _).trans (feq c175).1) ?_
      refine XS.aload X174.here hx rfl (D at_472) rfl rfl ?_
      refine XS.aload X174.here hx rfl (D at_474) rfl rfl ?_
      refine XS.bipush X174.here hx rfl (D at_476) ?_
      refine st176 _ ?_
      show Steps p.tables e below (T176.setTop (mkF m 481 #[iv q0, jv q1, s2, jv q2, s2, jv q3, s2, jv q4, s2, jv q5, s2, iv (3 : Int32), jv v4, s2, jv v35, s2, jv v38, s2, jv v41, s2, jv v17, s2, rv a133, rv a146, rv a149, iv (1 : Int32), rv a155, u0] [(.int (own_f9 ((9 : Int32)) [v4, q1, v17, v35, q2, q3, v38, q4, q5, v41, ((q2 ^^^ (-1 : Int64))), ((q3 ^^^ (-1 : Int64)))] [v4, q1, v17, v35, q2, q3, v38, q4, q5, v41, ((q2 ^^^ (-1 : Int64))), ((q3 ^^^ (-1 : Int64)))]))])) _
      refine XS.ifNo X176.here hx rfl (D at_481) rfl ((if0 _ _).trans (feq c177).1) ?_
      refine XS.aload X176.here hx rfl (D at_484) rfl rfl ?_
      refine XS.aload X176.here hx rfl (D at_486) rfl rfl ?_
      refine XS.bipush X176.here hx rfl (D at_488) ?_
      refine st178 _ ?_
      show Steps p.tables e below (T178.setTop (mkF m 493 #[iv q0, jv q1, s2, jv q2, s2, jv q3, s2, jv q4, s2, jv q5, s2, iv (3 : Int32), jv v4, s2, jv v35, s2, jv v38, s2, jv v41, s2, jv v17, s2, rv a133, rv a146, rv a149, iv (1 : Int32), rv a155, u0] [(.int (own_f9 ((10 : Int32)) [v4, q1, v17, v35, q2, q3, v38, q4, q5, v41, ((q2 ^^^ (-1 : Int64))), ((q3 ^^^ (-1 : Int64)))] [v4, q1, v17, v35, q2, q3, v38, q4, q5, v41, ((q2 ^^^ (-1 : Int64))), ((q3 ^^^ (-1 : Int64)))]))])) _
      refine XS.ifNo X178.here hx rfl (D at_493) rfl ((if0 _ _).trans (feq c179).1) ?_
      refine XS.aload X178.here hx rfl (D at_496) rfl rfl ?_
      refine XS.aload X178.here hx rfl (D at_498) rfl rfl ?_
      refine XS.bipush X178.here hx rfl (D at_500) ?_
      refine st180 _ ?_
      show Steps p.tables e below (T180.setTop (mkF m 505 #[iv q0, jv q1, s2, jv q2, s2, jv q3, s2, jv q4, s2, jv q5, s2, iv (3 : Int32), jv v4, s2, jv v35, s2, jv v38, s2, jv v41, s2, jv v17, s2, rv a133, rv a146, rv a149, iv (1 : Int32), rv a155, u0] [(.int (own_f9 ((11 : Int32)) [v4, q1, v17, v35, q2, q3, v38, q4, q5, v41, ((q2 ^^^ (-1 : Int64))), ((q3 ^^^ (-1 : Int64)))] [v4, q1, v17, v35, q2, q3, v38, q4, q5, v41, ((q2 ^^^ (-1 : Int64))), ((q3 ^^^ (-1 : Int64)))]))])) _
      refine XS.ifNo X180.here hx rfl (D at_505) rfl ((if0 _ _).trans (feq c181).1) ?_
      refine XS.iconst X180.here hx rfl (D at_508) ?_
      refine XS.goto X180.here hx rfl (pc0 := 509) (pc' := 513) rfl (D at_509) (by decide) (by decide) ?_
      refine XS.istore X180.here hx rfl (D at_513) rfl (l' := #[iv q0, jv q1, s2, jv q2, s2, jv q3, s2, jv q4, s2, jv q5, s2, iv (3 : Int32), jv v4, s2, jv v35, s2, jv v38, s2, jv v41, s2, jv v17, s2, rv a133, rv a146, rv a149, iv (1 : Int32), rv a155, iv (1 : Int32)]) rfl ?_
      refine XS.iload X180.here hx rfl (D at_515) rfl ?_
      show Steps p.tables e below (T180.setTop (mkF m 517 #[iv q0, jv q1, s2, jv q2, s2, jv q3, s2, jv q4, s2, jv q5, s2, iv (3 : Int32), jv v4, s2, jv v35, s2, jv v38, s2, jv v41, s2, jv v17, s2, rv a133, rv a146, rv a149, iv (1 : Int32), rv a155, iv (1 : Int32)] [(.int (1 : Int32))])) _
      refine XS.ifNo X180.here hx rfl (D at_517) rfl (by decide) ?_
      refine XS.iload X180.here hx rfl (D at_520) rfl ?_
      show Steps p.tables e below (T180.setTop (mkF m 522 #[iv q0, jv q1, s2, jv q2, s2, jv q3, s2, jv q4, s2, jv q5, s2, iv (3 : Int32), jv v4, s2, jv v35, s2, jv v38, s2, jv v41, s2, jv v17, s2, rv a133, rv a146, rv a149, iv (1 : Int32), rv a155, iv (1 : Int32)] [(.int (1 : Int32))])) _
      refine XS.ifNo X180.here hx rfl (D at_522) rfl (by decide) ?_
      refine XS.aload X180.here hx rfl (D at_525) rfl rfl ?_
      refine XS.aload X180.here hx rfl (D at_527) rfl rfl ?_
      refine XS.acmpNo X180.here hx rfl (D at_529) rfl (by simp [if_acmp.holds, (Ne.symm ne_a133_a155)]) ?_
      refine XS.aload X180.here hx rfl (D at_532) rfl rfl ?_
      refine XS.aload X180.here hx rfl (D at_534) rfl rfl ?_
      refine XS.acmpNo X180.here hx rfl (D at_536) rfl (by simp [if_acmp.holds, (Ne.symm ne_a149_a155)]) ?_
      refine XS.iconst X180.here hx rfl (D at_539) ?_
      show Steps p.tables e below (T180.setTop (mkF m 540 #[iv q0, jv q1, s2, jv q2, s2, jv q3, s2, jv q4, s2, jv q5, s2, iv (3 : Int32), jv v4, s2, jv v35, s2, jv v38, s2, jv v41, s2, jv v17, s2, rv a133, rv a146, rv a149, iv (1 : Int32), rv a155, iv (1 : Int32)] [(.int (1 : Int32))])) _
      refine XS.goto X180.here hx rfl (pc0 := 540) (pc' := 544) rfl (D at_540) (by decide) (by decide) ?_
      show Steps p.tables e below (T180.setTop (mkF m 544 #[iv q0, jv q1, s2, jv q2, s2, jv q3, s2, jv q4, s2, jv q5, s2, iv (3 : Int32), jv v4, s2, jv v35, s2, jv v38, s2, jv v41, s2, jv v17, s2, rv a133, rv a146, rv a149, iv (1 : Int32), rv a155, iv (1 : Int32)] [(.int (1 : Int32))])) _
      exact retN X180 hx (t := .boolean) Bd.returns (by simp) (D at_544) hr
    · show Q0 Z q0 q1 q2 q3 q4 q5 h0 n0 _ T180.heap _
      rw [e180]
      exact ⟨by have w_hv41 := hv41.symm; subst w_hv41; have w_hv38 := hv38.symm; subst w_hv38; have w_hv35 := hv35.symm; subst w_hv35; have w_hv32 := hv32.symm; subst w_hv32; have w_hv27 := hv27.symm; subst w_hv27; have w_hv22 := hv22.symm; subst w_hv22; have w_hv17 := hv17.symm; subst w_hv17; have w_hv12 := hv12.symm; subst w_hv12; have w_hv10 := hv10.symm; subst w_hv10; have w_hv8 := hv8.symm; subst w_hv8; have w_hv6 := hv6.symm; subst w_hv6; have w_hv4 := hv4.symm; subst w_hv4; simp only [own_f0, ← hv2, if_neg (by decide : ¬ ((3 : Int32) = (1 : Int32))), if_neg (by decide : ¬ ((3 : Int32) = (2 : Int32))), if_true, if_false], N180⟩

theorem own_plain (q0 : Int32) (q1 q2 q3 q4 q5 : Int64) : own_f0 q0 q1 q2 q3 q4 q5 = 1 := by
  simp only [own_f0, ite_self]

set_option maxRecDepth 65536 in
set_option maxHeartbeats 40000000 in
theorem comes_1 {Post : Tables → Env → Array Value → State → Outcome → State → Prop} (hpost : ∀ tb e args s v u, (limb_1_1.after args s (.returned v) u = true ∧ limb_1_2.after args s (.returned v) u = true ∧ True) → FrameEnd s (.returned v) u (Jvm.fieldLocs frame_1_writes args s ++ Jvm.arrayLocs frame_1_arrays args s ++ Jvm.staticLocs frame_1_statics s) 32 192 → Post tb e args s (.returned v) u) :
    ArmFor flags0 classFile x code maxLocals ret World_1 tables_1 room_1 Calls_1 rest_1 Pre_1 Post := by
  intro l hfl _ _ p e ha hc hk s m args below hf hA hF happ hP
  obtain ⟨hcalls, hrest, hpre⟩ := hP
  obtain ⟨-, -, -, hnamed, -, -, -, hat⟩ := (Spec.applies_iff hf).mp happ
  obtain ⟨hg, hn⟩ := and_e (Cond.before_iff.mp (show (Jvm.Cond.and given_1 narrow_1).before args s = true from hpre))
  obtain ⟨gc, gr0⟩ := and_e hg
  obtain ⟨w0, w1, w2, w3, w4, w5, rfl⟩ : ∃ w0 w1 w2 w3 w4 w5 : Value, args = #[w0, w1, w2, w3, w4, w5] := by
    have hs : args.size = 6 := by simpa [Cond.value, given_1] using gc
    obtain ⟨L⟩ := args
    match L, hs with
    | [w0, w1, w2, w3, w4, w5], _ => exact ⟨w0, w1, w2, w3, w4, w5, rfl⟩
  have hw := fun d (hd : d ∈ tables_1) => atoms_spec (ws := Jvm.Cond.code x code maxLocals ret :: tables_1) hat d (List.mem_cons_of_mem _ hd)
  obtain ⟨g0, gr1⟩ := and_e gr0
  obtain ⟨i0, ei0⟩ := is_v g0
  obtain rfl : w0 = (.int i0) := Option.some.inj ei0
  obtain ⟨g1, gr2⟩ := and_e gr1
  obtain ⟨i1, ei1⟩ := isL_v g1
  obtain rfl : w1 = (.long i1) := Option.some.inj ei1
  obtain ⟨g2, gr3⟩ := and_e gr2
  obtain ⟨i2, ei2⟩ := isL_v g2
  obtain rfl : w2 = (.long i2) := Option.some.inj ei2
  obtain ⟨g3, gr4⟩ := and_e gr3
  obtain ⟨i3, ei3⟩ := isL_v g3
  obtain rfl : w3 = (.long i3) := Option.some.inj ei3
  obtain ⟨g4, gr5⟩ := and_e gr4
  obtain ⟨i4, ei4⟩ := isL_v g4
  obtain rfl : w4 = (.long i4) := Option.some.inj ei4
  obtain ⟨i5, ei5⟩ := isL_v gr5
  obtain rfl : w5 = (.long i5) := Option.some.inj ei5
  obtain ⟨n, o, h1, h2, h3, _, L, rfl, ⟨hv, N⟩, hq⟩ := rm0 l s _ hw tables_1 i0 i1 i2 i3 i4 i5 s.heap s.heap.size (Nat.le_refl _) p e ha hc hk s m _ below hf ((Spec.applies_iff_loose hf).mp happ).1 ⟨rfl, State.Warmed39.refl s, rfl⟩ trivial
  rw [own_plain] at hv
  subst hv
  refine ⟨n, _, h1, h2, h3, hpost _ _ _ _ _ _ ⟨Cond.after_iff.mpr rfl, Cond.after_iff.mpr (eq_i res_at (Term.int_eval (1)) rfl), trivial⟩ ⟨hq.1, hq.2.1, (hq.2.2.sift fun y hy => Or.inr (N y hy)).mono (by decide) (by decide)⟩⟩
theorem main_1_1 : Claimed_1_1 := comes_1 fun _ _ _ _ _ _ h hF => ⟨h.1, hF⟩
theorem main_1_2 : Claimed_1_2 := comes_1 fun _ _ _ _ _ _ h hF => ⟨h.2.1, hF⟩
end Jvm.Pilot.@@N@@
namespace Jvm.Pilot.@@N@@
open Jvm Jvm.ClassFile Sem Op Lib Jvm.Free Jvm.Stand Jvm.Pilot.@@N@@.Jvm.D
/-! MADE BY PROGRAM (witnessworld.py) out of the Statement's table words and the real class files: 14 classes; the members and pool entries that the words name. The judged class is class 1, her method 1. -/
namespace start1
open Jvm.ClassFile
def u (s : String) : CpInfo := .utf8 (stringToUtf16 s)
/-- a pool by its gaps: so many unusable entries, then the entry; so many at the end -/
def gap : Nat → List CpInfo → List CpInfo
  | 0, r => r
  | n + 1, r => .unusable :: gap n r
def poolList (es : List (Nat × CpInfo)) (last : Nat) : List CpInfo := es.foldr (fun e r => gap e.1 (e.2 :: r)) (gap last [])
def pool (es : List (Nat × CpInfo)) (last : Nat) : Array CpInfo := ⟨poolList es last⟩
def fileOf (pool : Array CpInfo) (this : Nat) (attrs : Array Attribute := #[]) (ms : Array MethodInfo := #[]) (fl : Nat := 33) (sup : Nat := 0) (ifs : Array Nat := #[]) (fds : Array FieldInfo := #[]) : ClassFile where
  minorVersion := 0
  majorVersion := 65
  constantPool := pool
  accessFlags := fl
  thisClass := this
  superClass := sup
  interfaces := ifs
  fields := fds
  methods := ms
  attributes := attrs
def plain (name : String) (sup : Option ClassId) : Class where
  name := name
  kind := .ordinary
  loader := none
  accessFlags := 33
  super := sup
  interfaces := #[]
  cf := none
  fields := #[]
  methods := #[]
  instanceTypes := #[]
  staticTypes := #[]
  resolved := #[]
  callSites := []
  init := .initialized
  statics := none
  mirror := none

def pool0 : Array CpInfo := pool [(5, u "<init>"), (0, u "()V"), (1, .class_ 10), (1, u "java/lang/Object")] 113

def k0c0 : Code := { maxStack := 0, maxLocals := 1, code := object_method_1_code, exceptionTable := #[], attributes := #[] }
def k0m0 : Method := { name := "<init>", desc := "()V", sig := { parameters := [], returnType := none }, accessFlags := 1, code := some k0c0 }
/-- java/lang/Object -/
def k0 : Class := { plain "java/lang/Object" none with
  accessFlags := 33
  interfaces := #[]
  cf := some (fileOf pool0 8 #[] #[{ accessFlags := 1, nameIndex := 5, descriptorIndex := 6, attributes := #[] }] 33 0 #[] #[])
  fields := #[]
  methods := #[k0m0]
  instanceTypes := #[]
  staticTypes := #[]
  resolved := Array.replicate 124 none
  statics := none }

def pool1 : Array CpInfo := pool [(2, .class_ 4), (1, u "java/lang/Object"), (0, u "<init>"), (0, u "()V"), (0, .methodref 8 9), (0, .class_ 10), (0, .nameAndType 11 12), (0, u "java/lang/Math"), (0, u "min"), (0, u "(II)I"), (0, .long 18446744073709551615), (1, .long 6), (1, .long 2), (1, .methodref 20 21), (0, .class_ 22), (0, .nameAndType 23 24), (0, u "com/example/tributary/tributary/io/SilenceMeasuredPinLaw"), (0, u "fix"), (0, u "(JJ)J"), (0, .class_ 26), (0, u "com/example/tributary/tributary/io/Silence"), (0, .methodref 25 28), (0, .nameAndType 5 29), (0, u "(IJ)V"), (0, .methodref 25 31), (0, .nameAndType 32 33), (0, u "measured"), (0, u "()[J"), (0, .methodref 25 35), (0, .nameAndType 36 37), (0, u "resume"), (0, u "([J)V"), (0, .methodref 20 39), (0, .nameAndType 40 41), (0, u "at"), (0, u "([J[JI)Z"), (0, .long 4), (1, .long 18446744073709551614), (3, u "law"), (0, u "(IJJJJJ)Z")] 5

def k1m0 : Method := { name := "<init>", desc := "()V", sig := { parameters := [], returnType := none }, accessFlags := 1, code := none }
def k1c1 : Code := { maxStack := 6, maxLocals := 28, code := code, exceptionTable := #[], attributes := #[] }
def k1m1 : Method := { name := "law", desc := "(IJJJJJ)Z", sig := { parameters := [.int, .long, .long, .long, .long, .long], returnType := some .boolean }, accessFlags := 9, code := some k1c1 }
def k1c2 : Code := { maxStack := 4, maxLocals := 6, code := method_3_code, exceptionTable := #[], attributes := #[] }
def k1m2 : Method := { name := "fix", desc := "(JJ)J", sig := { parameters := [.long, .long], returnType := some .long }, accessFlags := 10, code := some k1c2 }
def k1c3 : Code := { maxStack := 4, maxLocals := 3, code := method_4_code, exceptionTable := #[], attributes := #[] }
def k1m3 : Method := { name := "at", desc := "([J[JI)Z", sig := { parameters := [(.array .long), (.array .long), .int], returnType := some .boolean }, accessFlags := 10, code := some k1c3 }
/-- com/example/tributary/tributary/io/SilenceMeasuredPinLaw -/
def k1 : Class := { plain "com/example/tributary/tributary/io/SilenceMeasuredPinLaw" (some 0) with
  accessFlags := 49
  interfaces := #[]
  cf := some (fileOf pool1 20 #[] #[{ accessFlags := 1, nameIndex := 5, descriptorIndex := 6, attributes := #[] }, { accessFlags := 9, nameIndex := 48, descriptorIndex := 49, attributes := #[] }, { accessFlags := 10, nameIndex := 23, descriptorIndex := 24, attributes := #[] }, { accessFlags := 10, nameIndex := 40, descriptorIndex := 41, attributes := #[] }] 49 2 #[] #[])
  fields := #[]
  methods := #[k1m0, k1m1, k1m2, k1m3]
  instanceTypes := #[]
  staticTypes := #[]
  resolved := Array.replicate 55 none
  statics := none }

def pool2 : Array CpInfo := pool [(1, .class_ 2), (0, u "java/lang/Math"), (1, .class_ 6), (1, u "java/lang/Object"), (0, u "<init>"), (0, u "()V"), (89, .class_ 100), (1, u "java/lang/Math$RandomNumberGeneratorHolder"), (71, u "negativeZeroFloatBits"), (0, u "J"), (2, u "negativeZeroDoubleBits"), (24, u "min"), (43, u "$assertionsDisabled"), (0, u "Z"), (88, u "(II)I"), (2, u "twoToTheDoubleScaleDown"), (0, u "D"), (4, u "twoToTheDoubleScaleUp"), (9, u "E"), (3, u "PI"), (2, u "TAU"), (2, u "DEGREES_TO_RADIANS"), (0, u "RADIANS_TO_DEGREES")] 94

def k2m0 : Method := { name := "<init>", desc := "()V", sig := { parameters := [], returnType := none }, accessFlags := 2, code := none }
def k2c1 : Code := { maxStack := 2, maxLocals := 2, code := jdk_29_method_69_code, exceptionTable := #[], attributes := #[] }
def k2m1 : Method := { name := "min", desc := "(II)I", sig := { parameters := [.int, .int], returnType := some .int }, accessFlags := 9, code := some k2c1 }
/-- java/lang/Math -/
def k2 : Class := { plain "java/lang/Math" (some 0) with
  accessFlags := 49
  interfaces := #[]
  cf := some (fileOf pool2 1 #[.nestMembers #[98]] #[{ accessFlags := 2, nameIndex := 7, descriptorIndex := 8, attributes := #[] }, { accessFlags := 9, nameIndex := 201, descriptorIndex := 335, attributes := #[] }] 49 4 #[] #[{ accessFlags := 25, nameIndex := 354, descriptorIndex := 339, attributes := #[] }, { accessFlags := 25, nameIndex := 358, descriptorIndex := 339, attributes := #[] }, { accessFlags := 25, nameIndex := 361, descriptorIndex := 339, attributes := #[] }, { accessFlags := 26, nameIndex := 364, descriptorIndex := 339, attributes := #[] }, { accessFlags := 26, nameIndex := 365, descriptorIndex := 339, attributes := #[] }, { accessFlags := 26, nameIndex := 172, descriptorIndex := 173, attributes := #[] }, { accessFlags := 26, nameIndex := 176, descriptorIndex := 173, attributes := #[] }, { accessFlags := 8, nameIndex := 344, descriptorIndex := 339, attributes := #[] }, { accessFlags := 8, nameIndex := 338, descriptorIndex := 339, attributes := #[] }, { accessFlags := 4120, nameIndex := 245, descriptorIndex := 246, attributes := #[] }])
  fields := #[{ name := "E", type := .double, accessFlags := 25, slot := 0, constantValue := 0 }, { name := "PI", type := .double, accessFlags := 25, slot := 1, constantValue := 0 }, { name := "TAU", type := .double, accessFlags := 25, slot := 2, constantValue := 0 }, { name := "DEGREES_TO_RADIANS", type := .double, accessFlags := 26, slot := 3, constantValue := 0 }, { name := "RADIANS_TO_DEGREES", type := .double, accessFlags := 26, slot := 4, constantValue := 0 }, { name := "negativeZeroFloatBits", type := .long, accessFlags := 26, slot := 5, constantValue := 0 }, { name := "negativeZeroDoubleBits", type := .long, accessFlags := 26, slot := 6, constantValue := 0 }, { name := "twoToTheDoubleScaleUp", type := .double, accessFlags := 8, slot := 7, constantValue := 0 }, { name := "twoToTheDoubleScaleDown", type := .double, accessFlags := 8, slot := 8, constantValue := 0 }, { name := "$assertionsDisabled", type := .boolean, accessFlags := 4120, slot := 9, constantValue := 0 }]
  methods := #[k2m0, k2m1]
  instanceTypes := #[]
  staticTypes := #[.double, .double, .double, .double, .double, .long, .long, .double, .double, .boolean]
  resolved := Array.replicate 460 none
  statics := none }

def pool3 : Array CpInfo := pool [(1, .methodref 2 3), (0, .class_ 4), (0, .nameAndType 5 6), (0, u "com/example/tributary/tributary/io/Silence"), (0, u "<init>"), (0, u "(IJZ)V"), (0, .methodref 8 9), (0, .class_ 10), (0, .nameAndType 5 11), (0, u "java/lang/Object"), (0, u "()V"), (0, .fieldref 2 13), (0, .nameAndType 14 15), (0, u "lastLeft"), (0, u "I"), (11, .fieldref 2 28), (0, .nameAndType 29 30), (0, u "limit"), (0, u "J"), (0, .fieldref 2 32), (0, .nameAndType 33 34), (0, u "includesLast"), (0, u "Z"), (0, .fieldref 2 36), (0, .nameAndType 37 38), (0, u "last"), (0, u "[J"), (0, .fieldref 2 40), (0, .nameAndType 41 42), (0, u "sent"), (0, u "[Z"), (0, .fieldref 2 44), (0, .nameAndType 45 38), (0, u "runs"), (0, .fieldref 2 47), (0, .nameAndType 48 42), (0, u "gone"), (0, .fieldref 2 50), (0, .nameAndType 51 42), (0, u "stopped"), (0, .fieldref 2 53), (0, .nameAndType 54 15), (0, u "open"), (4, .fieldref 2 60), (0, .nameAndType 61 34), (0, u "started"), (0, .fieldref 2 63), (0, .nameAndType 64 30), (0, u "latest"), (17, .long 2), (1, .long 4), (1, .methodref 2 87), (0, .nameAndType 88 89), (0, u "requireMeasured"), (0, u "([J)V"), (65, .long 18446744073709551615), (2, .long 7), (20, u "MEASURES"), (2, u "SENT"), (2, u "GONE"), (0, u "STOPPED"), (0, u "(IJ)V"), (11, u "measured"), (0, u "()[J"), (1, u "resume")] 49

def k3c0 : Code := { maxStack := 5, maxLocals := 4, code := prog_43_method_1_code, exceptionTable := #[], attributes := #[] }
def k3m0 : Method := { name := "<init>", desc := "(IJ)V", sig := { parameters := [.int, .long], returnType := none }, accessFlags := 1, code := some k3c0 }
def k3c1 : Code := { maxStack := 4, maxLocals := 5, code := prog_43_method_2_code, exceptionTable := #[], attributes := #[] }
def k3m1 : Method := { name := "<init>", desc := "(IJZ)V", sig := { parameters := [.int, .long, .boolean], returnType := none }, accessFlags := 2, code := some k3c1 }
def k3c2 : Code := { maxStack := 6, maxLocals := 4, code := prog_43_method_8_code, exceptionTable := #[], attributes := #[] }
def k3m2 : Method := { name := "measured", desc := "()[J", sig := { parameters := [], returnType := some (.array .long) }, accessFlags := 1, code := some k3c2 }
def k3c3 : Code := { maxStack := 6, maxLocals := 4, code := prog_43_method_9_code, exceptionTable := #[], attributes := #[] }
def k3m3 : Method := { name := "resume", desc := "([J)V", sig := { parameters := [(.array .long)], returnType := none }, accessFlags := 1, code := some k3c3 }
def k3c4 : Code := { maxStack := 5, maxLocals := 8, code := prog_43_method_18_code, exceptionTable := #[], attributes := #[] }
def k3m4 : Method := { name := "requireMeasured", desc := "([J)V", sig := { parameters := [(.array .long)], returnType := none }, accessFlags := 2, code := some k3c4 }
/-- com/example/tributary/tributary/io/Silence -/
def k3 : Class := { plain "com/example/tributary/tributary/io/Silence" (some 0) with
  accessFlags := 49
  interfaces := #[]
  cf := some (fileOf pool3 2 #[] #[{ accessFlags := 1, nameIndex := 5, descriptorIndex := 187, attributes := #[] }, { accessFlags := 2, nameIndex := 5, descriptorIndex := 6, attributes := #[] }, { accessFlags := 1, nameIndex := 199, descriptorIndex := 200, attributes := #[] }, { accessFlags := 1, nameIndex := 202, descriptorIndex := 89, attributes := #[] }, { accessFlags := 2, nameIndex := 88, descriptorIndex := 89, attributes := #[] }] 49 8 #[] #[{ accessFlags := 26, nameIndex := 179, descriptorIndex := 15, attributes := #[] }, { accessFlags := 26, nameIndex := 182, descriptorIndex := 30, attributes := #[] }, { accessFlags := 26, nameIndex := 185, descriptorIndex := 30, attributes := #[] }, { accessFlags := 26, nameIndex := 186, descriptorIndex := 30, attributes := #[] }, { accessFlags := 18, nameIndex := 29, descriptorIndex := 30, attributes := #[] }, { accessFlags := 18, nameIndex := 33, descriptorIndex := 34, attributes := #[] }, { accessFlags := 18, nameIndex := 37, descriptorIndex := 38, attributes := #[] }, { accessFlags := 18, nameIndex := 41, descriptorIndex := 42, attributes := #[] }, { accessFlags := 18, nameIndex := 45, descriptorIndex := 38, attributes := #[] }, { accessFlags := 18, nameIndex := 48, descriptorIndex := 42, attributes := #[] }, { accessFlags := 18, nameIndex := 51, descriptorIndex := 42, attributes := #[] }, { accessFlags := 2, nameIndex := 54, descriptorIndex := 15, attributes := #[] }, { accessFlags := 2, nameIndex := 14, descriptorIndex := 15, attributes := #[] }, { accessFlags := 2, nameIndex := 61, descriptorIndex := 34, attributes := #[] }, { accessFlags := 2, nameIndex := 64, descriptorIndex := 30, attributes := #[] }])
  fields := #[{ name := "MEASURES", type := .int, accessFlags := 26, slot := 0, constantValue := 0 }, { name := "SENT", type := .long, accessFlags := 26, slot := 1, constantValue := 0 }, { name := "GONE", type := .long, accessFlags := 26, slot := 2, constantValue := 0 }, { name := "STOPPED", type := .long, accessFlags := 26, slot := 3, constantValue := 0 }, { name := "limit", type := .long, accessFlags := 18, slot := 0, constantValue := 0 }, { name := "includesLast", type := .boolean, accessFlags := 18, slot := 1, constantValue := 0 }, { name := "last", type := (.array .long), accessFlags := 18, slot := 2, constantValue := 0 }, { name := "sent", type := (.array .boolean), accessFlags := 18, slot := 3, constantValue := 0 }, { name := "runs", type := (.array .long), accessFlags := 18, slot := 4, constantValue := 0 }, { name := "gone", type := (.array .boolean), accessFlags := 18, slot := 5, constantValue := 0 }, { name := "stopped", type := (.array .boolean), accessFlags := 18, slot := 6, constantValue := 0 }, { name := "open", type := .int, accessFlags := 2, slot := 7, constantValue := 0 }, { name := "lastLeft", type := .int, accessFlags := 2, slot := 8, constantValue := 0 }, { name := "started", type := .boolean, accessFlags := 2, slot := 9, constantValue := 0 }, { name := "latest", type := .long, accessFlags := 2, slot := 10, constantValue := 0 }]
  methods := #[k3m0, k3m1, k3m2, k3m3, k3m4]
  instanceTypes := #[.long, .boolean, (.array .long), (.array .boolean), (.array .long), (.array .boolean), (.array .boolean), .int, .int, .boolean, .long]
  staticTypes := #[.int, .long, .long, .long]
  resolved := Array.replicate 252 none
  statics := none }

def pool4 : Array CpInfo := pool [(1, u "java/lang/Cloneable"), (0, .class_ 1), (0, u "java/lang/Object"), (0, .class_ 3)] 3

/-- java/lang/Cloneable -/
def k4 : Class := { plain "java/lang/Cloneable" (some 0) with
  accessFlags := 1537
  interfaces := #[]
  cf := some (fileOf pool4 2 #[] #[] 1537 4 #[] #[])
  fields := #[]
  methods := #[]
  instanceTypes := #[]
  staticTypes := #[]
  resolved := Array.replicate 8 none
  statics := none }

def pool5 : Array CpInfo := pool [(1, u "java/io/Serializable"), (0, .class_ 1), (0, u "java/lang/Object"), (0, .class_ 3)] 3

/-- java/io/Serializable -/
def k5 : Class := { plain "java/io/Serializable" (some 0) with
  accessFlags := 1537
  interfaces := #[]
  cf := some (fileOf pool5 2 #[] #[] 1537 4 #[] #[])
  fields := #[]
  methods := #[]
  instanceTypes := #[]
  staticTypes := #[]
  resolved := Array.replicate 8 none
  statics := none }

/-- the primitive boolean -/
def k6 : Class := { plain "boolean" none with kind := .primitive 'Z', accessFlags := 0x411 }
/-- [Z -/
def k7 : Class := { plain "[Z" (some 0) with kind := .array 6 .boolean, interfaces := #[4, 5], accessFlags := 1041 }

/-- the primitive byte -/
def k8 : Class := { plain "byte" none with kind := .primitive 'B', accessFlags := 0x411 }
/-- [B -/
def k9 : Class := { plain "[B" (some 0) with kind := .array 8 .byte, interfaces := #[4, 5], accessFlags := 1041 }

/-- the primitive int -/
def k10 : Class := { plain "int" none with kind := .primitive 'I', accessFlags := 0x411 }
/-- [I -/
def k11 : Class := { plain "[I" (some 0) with kind := .array 10 .int, interfaces := #[4, 5], accessFlags := 1041 }

/-- the primitive long -/
def k12 : Class := { plain "long" none with kind := .primitive 'J', accessFlags := 0x411 }
/-- [J -/
def k13 : Class := { plain "[J" (some 0) with kind := .array 12 .long, interfaces := #[4, 5], accessFlags := 1041 }

def heap : Heap := #[]
def classes : Array Class := #[k0, k1, k2, k3, k4, k5, k6, k7, k8, k9, k10, k11, k12, k13]
def interned : List (Array UInt16 × Addr) := []
def slotsUsed : Nat := 0
def theMethod : MethodId := ⟨1, 1⟩
def args0 : Array Value := #[.int 5, .long 1, .long 2, .long 3, .long 4, .long 5]
def aboutOver (below : List Frame) : State where
  vm := { classes := classes, interned := interned.toArray }
  heap := heap
  slotsUsed := slotsUsed
  threads := #[{ frames := .invoking theMethod args0 :: below }]
def below0 : List Frame := [.native { method := ⟨0, 0⟩, args := #[] }]
def about1 : State := aboutOver below0
def p0 : Program := .bare "" "" ""
def e0 : Env := launch0.env 0 0 0
theorem w_frames : about1.frames = Frame.invoking theMethod args0 :: below0 := rfl
set_option maxRecDepth 65536 in
theorem w_args : argsFit about1.vm theMethod args0 = true := by decide +kernel
set_option maxRecDepth 65536 in
theorem w_heap : heapFits about1 = true := by decide +kernel
set_option maxRecDepth 65536 in
theorem w_runnable : about1.curStatus? = some .runnable := by decide +kernel
set_option maxRecDepth 65536 in
theorem w_alone : about1.alone = true := by decide +kernel
set_option maxRecDepth 65536 in
theorem w_named : about1.methodNamed? x = some theMethod := by decide +kernel
set_option maxRecDepth 65536 in
theorem w_hears : about1.hears theMethod below0 = true := by decide +kernel
set_option maxRecDepth 65536 in
theorem w_ripe : about1.ripe theMethod args0 below0 = true := by decide +kernel
theorem w_running : about1.status = .running := rfl
set_option maxRecDepth 65536 in
theorem w_room : about1.hasRoom e0.platform room_1 = true :=
  launch0.hasRoom_least _ room_1 (by decide +kernel) (by decide +kernel) (by decide +kernel) (by decide +kernel) (by decide +kernel) (by decide +kernel)
theorem allAtoms_all (ts : List Jvm.Cond) (a : Array Jvm.Value) (st : Jvm.State) : (allAtoms ts).before a st = ts.all (fun c => c.before a st) := by
  induction ts with
  | nil => rfl
  | cons c t ih =>
    show (Jvm.Cond.and c (allAtoms t)).before a st = _
    rw [Jvm.Cond.before_and, ih, List.all_cons]
def words1 : List Jvm.Cond := Jvm.Cond.code x code maxLocals ret :: tables_1
/-- a 'code' word, met by the world's own term for the bytes: nothing is compared byte by byte -/
theorem code_word {y : MethodName} {bytes : ByteArray} {mx : Nat} {rt : Option FieldType} {a : Array Value} {s : State} {m : MethodId} {meth : Method} {c : Code} (h1 : s.methodNamed? y = some m) (h2 : s.vm.method? m = some meth) (h3 : meth.code = some c) (h4 : c.code = bytes)
    (h5 : (c.maxLocals == mx && c.exceptionTable.isEmpty && decide (c.maxStack ≤ mostOperands) && decide (meth.sig.returnType = rt) && !meth.locks && decide (parseMethodDescriptor y.desc = some meth.sig)) = true) : (Jvm.Cond.code y bytes mx rt).before a s = true := by
  simp only [Bool.and_eq_true, beq_iff_eq, Bool.not_eq_true', decide_eq_true_eq] at h5
  obtain ⟨⟨⟨⟨⟨g1, g2⟩, g3⟩, g4⟩, g5⟩, g6⟩ := h5
  simp [Cond.before, Cond.holds, Cond.value, h1, h2, h3, h4, g1, g2, g3, g4, g5, g6]
def isCode : Jvm.Cond → Bool
  | .code _ _ _ _ => true
  | _ => false
theorem all_split {L : List Jvm.Cond} {P : Jvm.Cond → Bool} (h1 : L.all (fun c => isCode c || P c) = true) (h2 : ∀ c ∈ L.filter isCode, P c = true) : L.all P = true := by
  refine List.all_eq_true.mpr fun c hc => ?_
  have h := List.all_eq_true.mp h1 c hc
  rcases Bool.eq_false_or_eq_true (isCode c) with hi | hi
  · exact h2 c (List.mem_filter.mpr ⟨hc, hi⟩)
  · simpa [hi] using h
set_option maxRecDepth 65536 in
theorem w_c0 : (Jvm.Cond.code x code maxLocals ret).before args0 about1 = true := code_word (m := ⟨1, 1⟩) (meth := k1m1) (c := k1c1) (by decide +kernel) rfl rfl rfl (by decide +kernel)
set_option maxRecDepth 65536 in
theorem w_c1 : (Jvm.Cond.code ({ cls := "java/lang/Math", name := "min", desc := "(II)I" } : Jvm.MethodName) jdk_29_method_69_code (2 : Nat) (Option.some Jvm.ClassFile.FieldType.int)).before args0 about1 = true := code_word (m := ⟨2, 1⟩) (meth := k2m1) (c := k2c1) (by decide +kernel) rfl rfl rfl (by decide +kernel)
set_option maxRecDepth 65536 in
theorem w_c2 : (Jvm.Cond.code ({ cls := "com/example/tributary/tributary/io/SilenceMeasuredPinLaw", name := "fix", desc := "(JJ)J" } : Jvm.MethodName) method_3_code (6 : Nat) (Option.some Jvm.ClassFile.FieldType.long)).before args0 about1 = true := code_word (m := ⟨1, 2⟩) (meth := k1m2) (c := k1c2) (by decide +kernel) rfl rfl rfl (by decide +kernel)
set_option maxRecDepth 65536 in
theorem w_c3 : (Jvm.Cond.code ({ cls := "com/example/tributary/tributary/io/Silence", name := "<init>", desc := "(IJ)V" } : Jvm.MethodName) prog_43_method_1_code (4 : Nat) (Option.none : Option Jvm.ClassFile.FieldType)).before args0 about1 = true := code_word (m := ⟨3, 0⟩) (meth := k3m0) (c := k3c0) (by decide +kernel) rfl rfl rfl (by decide +kernel)
set_option maxRecDepth 65536 in
theorem w_c4 : (Jvm.Cond.code ({ cls := "com/example/tributary/tributary/io/Silence", name := "<init>", desc := "(IJZ)V" } : Jvm.MethodName) prog_43_method_2_code (5 : Nat) (Option.none : Option Jvm.ClassFile.FieldType)).before args0 about1 = true := code_word (m := ⟨3, 1⟩) (meth := k3m1) (c := k3c1) (by decide +kernel) rfl rfl rfl (by decide +kernel)
set_option maxRecDepth 65536 in
theorem w_c5 : (Jvm.Cond.code ({ cls := "java/lang/Object", name := "<init>", desc := "()V" } : Jvm.MethodName) object_method_1_code (1 : Nat) (Option.none : Option Jvm.ClassFile.FieldType)).before args0 about1 = true := code_word (m := ⟨0, 0⟩) (meth := k0m0) (c := k0c0) (by decide +kernel) rfl rfl rfl (by decide +kernel)
set_option maxRecDepth 65536 in
theorem w_c6 : (Jvm.Cond.code ({ cls := "com/example/tributary/tributary/io/Silence", name := "measured", desc := "()[J" } : Jvm.MethodName) prog_43_method_8_code (4 : Nat) (Option.some (Jvm.ClassFile.FieldType.array Jvm.ClassFile.FieldType.long))).before args0 about1 = true := code_word (m := ⟨3, 2⟩) (meth := k3m2) (c := k3c2) (by decide +kernel) rfl rfl rfl (by decide +kernel)
set_option maxRecDepth 65536 in
theorem w_c7 : (Jvm.Cond.code ({ cls := "com/example/tributary/tributary/io/Silence", name := "resume", desc := "([J)V" } : Jvm.MethodName) prog_43_method_9_code (4 : Nat) (Option.none : Option Jvm.ClassFile.FieldType)).before args0 about1 = true := code_word (m := ⟨3, 3⟩) (meth := k3m3) (c := k3c3) (by decide +kernel) rfl rfl rfl (by decide +kernel)
set_option maxRecDepth 65536 in
theorem w_c8 : (Jvm.Cond.code ({ cls := "com/example/tributary/tributary/io/Silence", name := "requireMeasured", desc := "([J)V" } : Jvm.MethodName) prog_43_method_18_code (8 : Nat) (Option.none : Option Jvm.ClassFile.FieldType)).before args0 about1 = true := code_word (m := ⟨3, 4⟩) (meth := k3m4) (c := k3c4) (by decide +kernel) rfl rfl rfl (by decide +kernel)
set_option maxRecDepth 65536 in
theorem w_c9 : (Jvm.Cond.code ({ cls := "com/example/tributary/tributary/io/SilenceMeasuredPinLaw", name := "at", desc := "([J[JI)Z" } : Jvm.MethodName) method_4_code (3 : Nat) (Option.some Jvm.ClassFile.FieldType.boolean)).before args0 about1 = true := code_word (m := ⟨1, 3⟩) (meth := k1m3) (c := k1c3) (by decide +kernel) rfl rfl rfl (by decide +kernel)
def codes1 : List Jvm.Cond := [Jvm.Cond.code x code maxLocals ret, Jvm.Cond.code ({ cls := "java/lang/Math", name := "min", desc := "(II)I" } : Jvm.MethodName) jdk_29_method_69_code (2 : Nat) (Option.some Jvm.ClassFile.FieldType.int), Jvm.Cond.code ({ cls := "com/example/tributary/tributary/io/SilenceMeasuredPinLaw", name := "fix", desc := "(JJ)J" } : Jvm.MethodName) method_3_code (6 : Nat) (Option.some Jvm.ClassFile.FieldType.long), Jvm.Cond.code ({ cls := "com/example/tributary/tributary/io/Silence", name := "<init>", desc := "(IJ)V" } : Jvm.MethodName) prog_43_method_1_code (4 : Nat) (Option.none : Option Jvm.ClassFile.FieldType), Jvm.Cond.code ({ cls := "com/example/tributary/tributary/io/Silence", name := "<init>", desc := "(IJZ)V" } : Jvm.MethodName) prog_43_method_2_code (5 : Nat) (Option.none : Option Jvm.ClassFile.FieldType), Jvm.Cond.code ({ cls := "java/lang/Object", name := "<init>", desc := "()V" } : Jvm.MethodName) object_method_1_code (1 : Nat) (Option.none : Option Jvm.ClassFile.FieldType), Jvm.Cond.code ({ cls := "com/example/tributary/tributary/io/Silence", name := "measured", desc := "()[J" } : Jvm.MethodName) prog_43_method_8_code (4 : Nat) (Option.some (Jvm.ClassFile.FieldType.array Jvm.ClassFile.FieldType.long)), Jvm.Cond.code ({ cls := "com/example/tributary/tributary/io/Silence", name := "resume", desc := "([J)V" } : Jvm.MethodName) prog_43_method_9_code (4 : Nat) (Option.none : Option Jvm.ClassFile.FieldType), Jvm.Cond.code ({ cls := "com/example/tributary/tributary/io/Silence", name := "requireMeasured", desc := "([J)V" } : Jvm.MethodName) prog_43_method_18_code (8 : Nat) (Option.none : Option Jvm.ClassFile.FieldType), Jvm.Cond.code ({ cls := "com/example/tributary/tributary/io/SilenceMeasuredPinLaw", name := "at", desc := "([J[JI)Z" } : Jvm.MethodName) method_4_code (3 : Nat) (Option.some Jvm.ClassFile.FieldType.boolean)]
set_option maxRecDepth 65536 in
theorem codes_eq : words1.filter isCode = codes1 := rfl
theorem w_codes : ∀ c ∈ words1.filter isCode, c.before args0 about1 = true := by
  rw [codes_eq]
  intro c hc
  simp only [codes1, List.mem_cons, List.not_mem_nil, or_false] at hc
  rcases hc with rfl | rfl | rfl | rfl | rfl | rfl | rfl | rfl | rfl | rfl
  · exact w_c0
  · exact w_c1
  · exact w_c2
  · exact w_c3
  · exact w_c4
  · exact w_c5
  · exact w_c6
  · exact w_c7
  · exact w_c8
  · exact w_c9
set_option maxRecDepth 65536 in
theorem w_t1 : (words1.take 24).all (fun c => isCode c || c.before args0 about1) = true := by decide +kernel
set_option maxRecDepth 65536 in
theorem w_t2 : ((words1.drop 24).take 24).all (fun c => isCode c || c.before args0 about1) = true := by decide +kernel
set_option maxRecDepth 65536 in
theorem w_t3 : ((words1.drop 24).drop 24).all (fun c => isCode c || c.before args0 about1) = true := by decide +kernel
theorem w_tables : (allAtoms (Jvm.Cond.code x code maxLocals ret :: tables_1)).before args0 about1 = true := by
  rw [allAtoms_all]
  show words1.all (fun c => c.before args0 about1) = true
  refine all_split ?_ w_codes
  rw [← List.take_append_drop 24 words1, List.all_append, w_t1, ← List.take_append_drop 24 (words1.drop 24), List.all_append, w_t2, w_t3]
  rfl
set_option maxRecDepth 65536 in
theorem w_case : (Jvm.Cond.and given_1 narrow_1).before args0 about1 = true := by decide +kernel
theorem w_applies : (headSpec (Jvm.Cond.code x code maxLocals ret :: tables_1) room_1).applies x e0.platform about1 = true :=
  (Spec.applies_iff w_frames).mpr ⟨w_running, w_runnable, w_alone, w_named, w_hears, w_ripe, w_room, w_tables⟩
theorem atStart : AtStart classFile x code maxLocals ret World_1 tables_1 room_1 Calls_1 rest_1 Pre_1 launch0 p0 e0 about1 theMethod args0 below0 :=
  ⟨lists_1, trivial, launch0.admits_env _ _ _, launch0.least_env, fairChoices_fair.cas, fairChoices_fair.clock, w_frames, w_args, w_heap, w_applies, trivial, trivial, w_case⟩
end start1
theorem witness_1 : WitnessClaimed_1 := ⟨start1.p0, start1.e0, start1.about1, start1.theMethod, start1.args0, start1.below0, start1.atStart⟩
end Jvm.Pilot.@@N@@
