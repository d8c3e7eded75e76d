import JvmDerived
import JvmDerived.Pilot.@@N@@Statement
import JvmDerived.Pilot.@@N@@Code
set_option linter.unusedVariables false
set_option linter.unusedSimpArgs false
namespace Jvm.RoadKit
open Sem ClassFile Op Lib Jvm.Stand Jvm.Free Jvm.LawKit
section New
variable {p : Program} {l : Launch} {e : Env} {R : Room} {s : State} {m : MethodId} {args : Array Value} {below : List Frame} {meth : Method} {c : Code} {T : State} {locs : List Loc} {cells slots : Nat}
theorem retI (X : Stand p l e R s m args below meth c T locs cells slots) (hx : p.tables.exec = Jvm.exec) {pc : Nat} {Ls : Array Slot} {z : Int32} {rest : List Value} (hret : meth.sig.returnType = some .int) (hd : decode c.code pc = .ok (.ireturn, 1)) {fs : List Frame}
    (hl : ∀ (f : JFrame) (acts : List Action), f.method = m → f.locked = none → f.entered = [] → (doReturn e (T.setTop f) acts (some (.int z))).1 = T.setFrames fs) : Steps p.tables e below (T.setTop (mkF m pc Ls (.int z :: rest))) (T.setFrames fs) := by
  have hm' : T.vm.method? m = some meth := X.method'
  have hn : narrow .int (.int z) = .int z := rfl
  show Steps p.tables e below (T.setTop { method := m, pc := pc, locals := Ls, stack := _ :: rest, locked := none }) _
  jvm_step X.here [X.here.top, hx, hd, hm', hret, hn]
  first | (intro acts; rw [hl _ acts rfl rfl rfl]) | rw [hl _ _ rfl rfl rfl]
  exact Steps.refl _
end New
end Jvm.RoadKit
namespace Jvm.Pilot.@@N@@
open Jvm Jvm.ClassFile Sem Op Lib Jvm.Free Jvm.Stand Jvm.LawKit Jvm.RoadKit Bundle Jvm.Pilot.@@N@@.Jvm.D
abbrev jv (x : Int64) : Slot := .val (.long x)
abbrev s2 : Slot := .second
abbrev u0 : Slot := .unset
section OwnKit
variable {p : Program} {l : Launch} {e : Env} {R : Room} {s : State} {m : MethodId} {args : Array Value} {below : List Frame} {meth : Method} {c : Code} {T : State} {locs : List Loc} {cells slots : Nat} {Z : State} {h h' : Heap}
theorem own_lremM {g : JFrame} {target : State} (X : Stand p l e R s m args below meth c T locs cells slots) (hx : p.tables.exec = Jvm.exec) (hg : g.method = m) {x y : Int64} {rest : List Value} (hd : decode c.code g.pc = .ok (.lrem, 1)) (hs : g.stack = .long y :: .long x :: rest) (hy : y ≠ 0)
    (hr : Steps p.tables e below (T.setTop { g with pc := g.pc + 1, stack := .long (x % y) :: rest }) target) : Steps p.tables e below (T.setTop g) target :=
  XS.lrem X.here hx hg hd hs hy (by rw [lrem_mod]; exact hr)
/-- an array, by the list of its values -/
def own_A (Z : State) (h : Heap) (a : Addr) (ty : FieldType) (vs : List Value) : Prop := ∃ c : Cell, Arr Z h a c ty ∧ c.slots = vs.toArray
def own_AJ (Z : State) (h : Heap) (a : Addr) (xs : List Int64) : Prop := own_A Z h a .long (xs.map .long)
def own_AI (Z : State) (h : Heap) (a : Addr) (ty : FieldType) (xs : List Int32) : Prop := own_A Z h a ty (xs.map .int)
section Facts
variable {a b : Addr} {ty : FieldType} {vs : List Value} {xs : List Int64} {ys : List Int32} {sl : Nat} {v : Value} {ws : List Addr}
theorem own_A.ext (F : own_A Z h a ty vs) (E : Ext h h') : own_A Z h' a ty vs := by obtain ⟨c, A, r⟩ := F; exact ⟨c, A.ext E, r⟩
theorem own_A.other (F : own_A Z h b ty vs) (W : Wr h h' a sl v) (q : b ≠ a) : own_A Z h' b ty vs := by obtain ⟨c, A, r⟩ := F; exact ⟨c, A.other W q, r⟩
theorem own_A.keep (F : own_A Z h a ty vs) (K : Keep h h' ws) (q : a ∉ ws) : own_A Z h' a ty vs := by obtain ⟨c, A, r⟩ := F; exact ⟨c, ⟨K.2.1 a c A.1 q, A.2⟩, r⟩
theorem own_A.lt (F : own_A Z h a ty vs) : a < h.size := by obtain ⟨c, A, -⟩ := F; exact A.lt
theorem own_AJ.ext (F : own_AJ Z h a xs) (E : Ext h h') : own_AJ Z h' a xs := own_A.ext F E
theorem own_AJ.other (F : own_AJ Z h b xs) (W : Wr h h' a sl v) (q : b ≠ a) : own_AJ Z h' b xs := own_A.other F W q
theorem own_AJ.keep (F : own_AJ Z h a xs) (K : Keep h h' ws) (q : a ∉ ws) : own_AJ Z h' a xs := own_A.keep F K q
theorem own_AJ.lt (F : own_AJ Z h a xs) : a < h.size := own_A.lt F
theorem own_AI.ext (F : own_AI Z h a ty ys) (E : Ext h h') : own_AI Z h' a ty ys := own_A.ext F E
theorem own_AI.other (F : own_AI Z h b ty ys) (W : Wr h h' a sl v) (q : b ≠ a) : own_AI Z h' b ty ys := own_A.other F W q
theorem own_AI.keep (F : own_AI Z h a ty ys) (K : Keep h h' ws) (q : a ∉ ws) : own_AI Z h' a ty ys := own_A.keep F K q
theorem own_AI.lt (F : own_AI Z h a ty ys) : a < h.size := own_A.lt F
theorem own_A.set (F : own_A Z h a ty vs) {k : Nat} (W : Wr h h' a k v) : own_A Z h' a ty (vs.set k v) := by
  obtain ⟨c, A, r⟩ := F
  refine ⟨c.setSlot k v, A.same W, ?_⟩
  simp [Cell.setSlot, r]
theorem own_A_new {cA : ClassId} {n : Int32} {k : Nat} (A : Arr Z h a (newA cA ty n) ty) (hk : n.toNatClampNeg = k) : own_A Z h a ty (List.replicate k (defaultValue ty)) := by
  subst hk
  exact ⟨_, A, by simp [newA]⟩
theorem own_AJ_new {cA : ClassId} {n : Int32} {k : Nat} (A : Arr Z h a (newA cA .long n) .long) (hk : n.toNatClampNeg = k) : own_AJ Z h a (List.replicate k 0) := by
  have q := own_A_new A hk
  rw [own_AJ, List.map_replicate]; exact q
theorem own_AIint_new {cA : ClassId} {n : Int32} {k : Nat} (A : Arr Z h a (newA cA .int n) .int) (hk : n.toNatClampNeg = k) : own_AI Z h a .int (List.replicate k 0) := by
  have q := own_A_new A hk
  rw [own_AI, List.map_replicate]; exact q
theorem own_AIbyte_new {cA : ClassId} {n : Int32} {k : Nat} (A : Arr Z h a (newA cA .byte n) .byte) (hk : n.toNatClampNeg = k) : own_AI Z h a .byte (List.replicate k 0) := by
  have q := own_A_new A hk
  rw [own_AI, List.map_replicate]; exact q
theorem own_AIboolean_new {cA : ClassId} {n : Int32} {k : Nat} (A : Arr Z h a (newA cA .boolean n) .boolean) (hk : n.toNatClampNeg = k) : own_AI Z h a .boolean (List.replicate k 0) := by
  have q := own_A_new A hk
  rw [own_AI, List.map_replicate]; exact q
theorem own_inb {cl : Cell} {j : Int32} (r : cl.slots = vs.toArray) (hj : 0 ≤ j.toInt ∧ j.toInt < (vs.length : Nat)) : ¬ (j < 0 ∨ cl.slots.size ≤ j.toNatClampNeg) ∧ j.toNatClampNeg = j.toInt.toNat := by
  have e : j.toNatClampNeg = j.toInt.toNat := rfl
  refine ⟨fun q => ?_, e⟩
  rcases q with q | q
  · rw [Int32.lt_iff_toInt_lt] at q
    have : (0 : Int32).toInt = 0 := by decide
    omega
  · rw [r, e] at q
    simp at q
    omega
end Facts
theorem own_at? {α : Type} (f : α → Value) (xs : List α) (k : Nat) (d : α) (hk : k < xs.length) : (xs.map f).toArray[k]? = some (f (xs.getD k d)) := by
  simp [List.getD, hk]
/-- a private method by invokevirtual; that its class is no interface is told by a 'selects' word of another method of the class -/
theorem own_privateBack (X : Stand p l e R s m args below meth c T locs cells slots) (hexec : p.tables.exec = Jvm.exec) {own : String} {index : Nat} {y y' : MethodName} {bytes : ByteArray} {maxL : Nat} {ret : Option FieldType} (hyy : y'.cls = y.cls)
    (hown : s.vm.findClass own = some m.cls) (hlink : (Cond.methodLink own index y).before args s = true) (hinst : (Cond.instanceMethod y).before args s = true) (hsel : (Cond.selects y'.cls y' y').before args s = true)
    (hpriv : s.PrivateAt y) (hcode : (Cond.code y bytes maxL ret).before args s = true) (hy : y.cls ≠ "java/lang/invoke/MethodHandle" ∧ y.cls ≠ "java/lang/invoke/VarHandle")
    {W : Nat} {Pre : Pt → Array Value → Prop} {Post : Pt → Array Value → Option Value → Pt → Prop} (hK : Back l R p e below s args y 3 W Pre Post)
    {g : JFrame} (hg : g.method = m) (hsize : g.locals.size = c.maxLocals) {s₀ : State} (hcome : Steps p.tables e below s₀ (T.setTop g)) {a : Addr} {cell : Cell} (hcell : T.heap[a]? = some cell) (hobj : ∀ q, cell.vm ≠ .statics q)
    {argsL rest : List Value} (hlen : ∀ sig, parseMethodDescriptor y.desc = some sig → argsL.length = sig.parameters.length)
    (hstack : g.stack = argsL.reverse ++ .ref a :: rest) (hW : 2 * g.monitorRoom + (rest.map fun v => v.category).sum ≤ W) (hdg : decode c.code g.pc = .ok (.invokevirtual index, 3))
    (hpre : ∀ vm₁, s.WarmedH vm₁ → Pre ⟨T.setVm vm₁, locs, cells, slots⟩ (.ref a :: argsL).toArray) :
    ∃ (v : Option Value) (vm₁ : Vm) (B : Pt), s.WarmedH vm₁ ∧ Stand p l e R s m args below meth c B.U B.locs B.cells B.slots ∧ Post ⟨T.setVm vm₁, locs, cells, slots⟩ (.ref a :: argsL).toArray v B ∧
      Steps p.tables e below s₀ (B.U.setTop { g with pc := g.pc + 3, stack := v.toList ++ rest }) := by
  obtain ⟨-, -, m2, -, -, q3, -, kP, hk, hni⟩ := Cond.selects_spec hsel
  have h2 := findClass_of_methodNamed q3
  rw [hyy] at h2
  exact X.privateBack hexec hown hlink hinst (selects_self_of_private h2 hk hni hpriv hinst hy) hpriv hcode hy hK hg hsize hcome hcell hobj hlen hstack hW hdg hpre
section Loads
variable {a : Addr} {xs : List Int64} {ys : List Int32} {j : Int32} {pc : Nat} {Ls : Array Slot} {rest : List Value}
theorem own_laload (X : Stand p l e R s m args below meth c T locs cells slots) (hx : p.tables.exec = Jvm.exec) (hZ : Z.Warmed39 s.vm) (eT : T.heap = h) (A : own_AJ Z h a xs) (hj : 0 ≤ j.toInt ∧ j.toInt < (xs.length : Nat)) (hd : decode c.code pc = .ok (.laload, 1)) (target : State)
    (hr : Steps p.tables e below (T.setTop (mkF m (pc + 1) Ls (.long (xs.getD j.toInt.toNat 0) :: rest))) target) : Steps p.tables e below (T.setTop (mkF m pc Ls (.int j :: .ref a :: rest))) target := by
  obtain ⟨cl, A, r⟩ := A
  obtain ⟨q1, q2⟩ := own_inb (j := j) r (by simpa using hj)
  refine X.laload hx (by rw [eT]; exact A.1) (State.isArrayOf_alike hZ.alike A.2.1) A.2.2 q1 (v := .long (xs.getD j.toInt.toNat 0)) ?_ (g := mkF m pc Ls (.int j :: .ref a :: rest)) rfl rfl hd target hr
  rw [q2, r]
  exact own_at? _ xs _ 0 (by omega)
theorem own_iaload (X : Stand p l e R s m args below meth c T locs cells slots) (hx : p.tables.exec = Jvm.exec) (hZ : Z.Warmed39 s.vm) (eT : T.heap = h) (A : own_AI Z h a .int ys) (hj : 0 ≤ j.toInt ∧ j.toInt < (ys.length : Nat)) (hd : decode c.code pc = .ok (.iaload, 1)) (target : State)
    (hr : Steps p.tables e below (T.setTop (mkF m (pc + 1) Ls (.int (ys.getD j.toInt.toNat 0) :: rest))) target) : Steps p.tables e below (T.setTop (mkF m pc Ls (.int j :: .ref a :: rest))) target := by
  obtain ⟨cl, A, r⟩ := A
  obtain ⟨q1, q2⟩ := own_inb (j := j) r (by simpa using hj)
  refine X.iaload hx (by rw [eT]; exact A.1) (State.isArrayOf_alike hZ.alike A.2.1) A.2.2 q1 (v := .int (ys.getD j.toInt.toNat 0)) ?_ (g := mkF m pc Ls (.int j :: .ref a :: rest)) rfl rfl hd target hr
  rw [q2, r]
  exact own_at? _ ys _ 0 (by omega)
theorem own_baloadB (X : Stand p l e R s m args below meth c T locs cells slots) (hx : p.tables.exec = Jvm.exec) (hZ : Z.Warmed39 s.vm) (eT : T.heap = h) (A : own_AI Z h a .byte ys) (hj : 0 ≤ j.toInt ∧ j.toInt < (ys.length : Nat)) (hd : decode c.code pc = .ok (.baload, 1)) (target : State)
    (hr : Steps p.tables e below (T.setTop (mkF m (pc + 1) Ls (.int (ys.getD j.toInt.toNat 0) :: rest))) target) : Steps p.tables e below (T.setTop (mkF m pc Ls (.int j :: .ref a :: rest))) target := by
  obtain ⟨cl, A, r⟩ := A
  obtain ⟨q1, q2⟩ := own_inb (j := j) r (by simpa using hj)
  refine X.baloadBytes hx (by rw [eT]; exact A.1) (State.isArrayOf_alike hZ.alike A.2.1) A.2.2 q1 (v := .int (ys.getD j.toInt.toNat 0)) ?_ (g := mkF m pc Ls (.int j :: .ref a :: rest)) rfl rfl hd target hr
  rw [q2, r]
  exact own_at? _ ys _ 0 (by omega)
theorem own_baloadZ (X : Stand p l e R s m args below meth c T locs cells slots) (hx : p.tables.exec = Jvm.exec) (hZ : Z.Warmed39 s.vm) (eT : T.heap = h) (A : own_AI Z h a .boolean ys) (hj : 0 ≤ j.toInt ∧ j.toInt < (ys.length : Nat)) (hd : decode c.code pc = .ok (.baload, 1)) (target : State)
    (hr : Steps p.tables e below (T.setTop (mkF m (pc + 1) Ls (.int (ys.getD j.toInt.toNat 0) :: rest))) target) : Steps p.tables e below (T.setTop (mkF m pc Ls (.int j :: .ref a :: rest))) target := by
  obtain ⟨cl, A, r⟩ := A
  obtain ⟨q1, q2⟩ := own_inb (j := j) r (by simpa using hj)
  refine X.baloadBooleans hx (by rw [eT]; exact A.1) (State.isArrayOf_alike hZ.alike A.2.1) A.2.2 q1 (v := .int (ys.getD j.toInt.toNat 0)) ?_ (g := mkF m pc Ls (.int j :: .ref a :: rest)) rfl rfl hd target hr
  rw [q2, r]
  exact own_at? _ ys _ 0 (by omega)
theorem own_alenJ (X : Stand p l e R s m args below meth c T locs cells slots) (hx : p.tables.exec = Jvm.exec) (hZ : Z.Warmed39 s.vm) (eT : T.heap = h) (A : own_AJ Z h a xs) (hd : decode c.code pc = .ok (.arraylength, 1)) (target : State)
    (hr : Steps p.tables e below (T.setTop (mkF m (pc + 1) Ls (.int xs.length.toInt32 :: rest))) target) : Steps p.tables e below (T.setTop (mkF m pc Ls (.ref a :: rest))) target := by
  obtain ⟨cl, A, r⟩ := A
  refine X.arraylength hx (by rw [eT]; exact A.1) (State.isArrayOf_alike hZ.alike A.2.1) (g := mkF m pc Ls (.ref a :: rest)) rfl rfl hd target ?_
  rw [r]
  simpa using hr
theorem own_alenI {ty : FieldType} (X : Stand p l e R s m args below meth c T locs cells slots) (hx : p.tables.exec = Jvm.exec) (hZ : Z.Warmed39 s.vm) (eT : T.heap = h) (A : own_AI Z h a ty ys) (hd : decode c.code pc = .ok (.arraylength, 1)) (target : State)
    (hr : Steps p.tables e below (T.setTop (mkF m (pc + 1) Ls (.int ys.length.toInt32 :: rest))) target) : Steps p.tables e below (T.setTop (mkF m pc Ls (.ref a :: rest))) target := by
  obtain ⟨cl, A, r⟩ := A
  refine X.arraylength hx (by rw [eT]; exact A.1) (State.isArrayOf_alike hZ.alike A.2.1) (g := mkF m pc Ls (.ref a :: rest)) rfl rfl hd target ?_
  rw [r]
  simpa using hr
theorem own_lastore (X : Stand p l e R s m args below meth c T locs cells slots) (hx : p.tables.exec = Jvm.exec) (hZ : Z.Warmed39 s.vm) (eT : T.heap = h) (A : own_AJ Z h a xs) (hj : 0 ≤ j.toInt ∧ j.toInt < (xs.length : Nat)) {x : Int64} (hd : decode c.code pc = .ok (.lastore, 1)) :
    ∃ T' h', Stand p l e R s m args below meth c T' (locs ++ [⟨a, j.toInt.toNat⟩]) cells slots ∧ T'.heap = h' ∧ Wr h h' a j.toInt.toNat (.long x) ∧ own_AJ Z h' a (xs.set j.toInt.toNat x) ∧ ∀ {Ls : Array Slot} {rest : List Value} (target : State), Steps p.tables e below (T'.setTop (mkF m (pc + 1) Ls rest)) target → Steps p.tables e below (T.setTop (mkF m pc Ls (.long x :: .int j :: .ref a :: rest))) target := by
  obtain ⟨cl, B, r⟩ := A
  obtain ⟨q1, q2⟩ := own_inb (j := j) r (by simpa using hj)
  have W : Wr h (T.setCell a (cl.setSlot j.toInt.toNat (.long x))).heap a j.toInt.toNat (.long x) := ⟨cl, B.1, B.plain, Nat.lt_of_not_le fun q => q1 (Or.inr q), by rw [← eT]; rfl⟩
  have key := fun (Ls : Array Slot) (rest : List Value) => X.lastore hx (by rw [eT]; exact B.1) (State.isArrayOf_alike hZ.alike B.2.1) B.2.2 q1 (x := x) (g := mkF m pc Ls (.long x :: .int j :: .ref a :: rest)) rfl (rest := rest) rfl hd
  exact ⟨_, _, (key #[] []).1, rfl, W, (by have := own_A.set ⟨cl, B, r⟩ W; rw [own_AJ, List.map_set]; exact this), fun {Ls rest} => (key Ls rest).2⟩
theorem own_iastore (X : Stand p l e R s m args below meth c T locs cells slots) (hx : p.tables.exec = Jvm.exec) (hZ : Z.Warmed39 s.vm) (eT : T.heap = h) (A : own_AI Z h a .int ys) (hj : 0 ≤ j.toInt ∧ j.toInt < (ys.length : Nat)) {x : Int32} (hd : decode c.code pc = .ok (.iastore, 1)) :
    ∃ T' h', Stand p l e R s m args below meth c T' (locs ++ [⟨a, j.toInt.toNat⟩]) cells slots ∧ T'.heap = h' ∧ Wr h h' a j.toInt.toNat (.int x) ∧ own_AI Z h' a .int (ys.set j.toInt.toNat x) ∧ ∀ {Ls : Array Slot} {rest : List Value} (target : State), Steps p.tables e below (T'.setTop (mkF m (pc + 1) Ls rest)) target → Steps p.tables e below (T.setTop (mkF m pc Ls (.int x :: .int j :: .ref a :: rest))) target := by
  obtain ⟨cl, B, r⟩ := A
  obtain ⟨q1, q2⟩ := own_inb (j := j) r (by simpa using hj)
  have W : Wr h (T.setCell a (cl.setSlot j.toInt.toNat (.int x))).heap a j.toInt.toNat (.int x) := ⟨cl, B.1, B.plain, Nat.lt_of_not_le fun q => q1 (Or.inr q), by rw [← eT]; rfl⟩
  have key := fun (Ls : Array Slot) (rest : List Value) => X.iastore hx (by rw [eT]; exact B.1) (State.isArrayOf_alike hZ.alike B.2.1) B.2.2 q1 (x := x) (g := mkF m pc Ls (.int x :: .int j :: .ref a :: rest)) rfl (rest := rest) rfl hd
  exact ⟨_, _, (key #[] []).1, rfl, W, (by have := own_A.set ⟨cl, B, r⟩ W; rw [own_AI, List.map_set]; exact this), fun {Ls rest} => (key Ls rest).2⟩
theorem own_bastoreB (X : Stand p l e R s m args below meth c T locs cells slots) (hx : p.tables.exec = Jvm.exec) (hZ : Z.Warmed39 s.vm) (eT : T.heap = h) (A : own_AI Z h a .byte ys) (hj : 0 ≤ j.toInt ∧ j.toInt < (ys.length : Nat)) {x : Int32} (hd : decode c.code pc = .ok (.bastore, 1)) :
    ∃ T' h', Stand p l e R s m args below meth c T' (locs ++ [⟨a, j.toInt.toNat⟩]) cells slots ∧ T'.heap = h' ∧ Wr h h' a j.toInt.toNat (.int x.toInt8.toInt32) ∧ own_AI Z h' a .byte (ys.set j.toInt.toNat x.toInt8.toInt32) ∧ ∀ {Ls : Array Slot} {rest : List Value} (target : State), Steps p.tables e below (T'.setTop (mkF m (pc + 1) Ls rest)) target → Steps p.tables e below (T.setTop (mkF m pc Ls (.int x :: .int j :: .ref a :: rest))) target := by
  obtain ⟨cl, B, r⟩ := A
  obtain ⟨q1, q2⟩ := own_inb (j := j) r (by simpa using hj)
  have W : Wr h (T.setCell a (cl.setSlot j.toInt.toNat (.int x.toInt8.toInt32))).heap a j.toInt.toNat (.int x.toInt8.toInt32) := ⟨cl, B.1, B.plain, Nat.lt_of_not_le fun q => q1 (Or.inr q), by rw [← eT]; rfl⟩
  have key := fun (Ls : Array Slot) (rest : List Value) => bastoreB X hx (by rw [eT]; exact B.1) (State.isArrayOf_alike hZ.alike B.2.1) B.2.2 q1 (x := x) (g := mkF m pc Ls (.int x :: .int j :: .ref a :: rest)) rfl (rest := rest) rfl hd
  exact ⟨_, _, (key #[] []).1, rfl, W, (by have := own_A.set ⟨cl, B, r⟩ W; rw [own_AI, List.map_set]; exact this), fun {Ls rest} => (key Ls rest).2⟩
theorem own_bastoreZ (X : Stand p l e R s m args below meth c T locs cells slots) (hx : p.tables.exec = Jvm.exec) (hZ : Z.Warmed39 s.vm) (eT : T.heap = h) (A : own_AI Z h a .boolean ys) (hj : 0 ≤ j.toInt ∧ j.toInt < (ys.length : Nat)) {x : Int32} (hd : decode c.code pc = .ok (.bastore, 1)) :
    ∃ T' h', Stand p l e R s m args below meth c T' (locs ++ [⟨a, j.toInt.toNat⟩]) cells slots ∧ T'.heap = h' ∧ Wr h h' a j.toInt.toNat (.int (x &&& 1)) ∧ own_AI Z h' a .boolean (ys.set j.toInt.toNat (x &&& 1)) ∧ ∀ {Ls : Array Slot} {rest : List Value} (target : State), Steps p.tables e below (T'.setTop (mkF m (pc + 1) Ls rest)) target → Steps p.tables e below (T.setTop (mkF m pc Ls (.int x :: .int j :: .ref a :: rest))) target := by
  obtain ⟨cl, B, r⟩ := A
  obtain ⟨q1, q2⟩ := own_inb (j := j) r (by simpa using hj)
  have W : Wr h (T.setCell a (cl.setSlot j.toInt.toNat (.int (x &&& 1)))).heap a j.toInt.toNat (.int (x &&& 1)) := ⟨cl, B.1, B.plain, Nat.lt_of_not_le fun q => q1 (Or.inr q), by rw [← eT]; rfl⟩
  have key := fun (Ls : Array Slot) (rest : List Value) => bastoreZ X hx (by rw [eT]; exact B.1) (State.isArrayOf_alike hZ.alike B.2.1) B.2.2 q1 (x := x) (g := mkF m pc Ls (.int x :: .int j :: .ref a :: rest)) rfl (rest := rest) rfl hd
  exact ⟨_, _, (key #[] []).1, rfl, W, (by have := own_A.set ⟨cl, B, r⟩ W; rw [own_AI, List.map_set]; exact this), fun {Ls rest} => (key Ls rest).2⟩
end Loads
end OwnKit
theorem own_bm32 {x : Int} (h1 : -2147483648 ≤ x) (h2 : x < 2147483648) : x.bmod (2 ^ 32) = x := by
  rw [Int.bmod_def]; split <;> omega
theorem own_bm64 {x : Int} (h1 : -9223372036854775808 ≤ x) (h2 : x < 9223372036854775808) : x.bmod (2 ^ 64) = x := by
  rw [Int.bmod_def]; split <;> omega
theorem own_r32 (x : Int32) : -2147483648 ≤ x.toInt ∧ x.toInt < 2147483648 := ⟨x.le_toInt, x.toInt_lt⟩
theorem own_r64 (x : Int64) : -9223372036854775808 ≤ x.toInt ∧ x.toInt < 9223372036854775808 := ⟨x.le_toInt, x.toInt_lt⟩
theorem own_iadd {x y : Int32} (h : -2147483648 ≤ x.toInt + y.toInt ∧ x.toInt + y.toInt < 2147483648) : (x + y).toInt = x.toInt + y.toInt := by rw [Int32.toInt_add]; exact own_bm32 h.1 h.2
theorem own_isub {x y : Int32} (h : -2147483648 ≤ x.toInt - y.toInt ∧ x.toInt - y.toInt < 2147483648) : (x - y).toInt = x.toInt - y.toInt := by rw [Int32.toInt_sub]; exact own_bm32 h.1 h.2
theorem own_imul {x y : Int32} (h : -2147483648 ≤ x.toInt * y.toInt ∧ x.toInt * y.toInt < 2147483648) : (x * y).toInt = x.toInt * y.toInt := by rw [Int32.toInt_mul]; exact own_bm32 h.1 h.2
theorem own_ladd {x y : Int64} (h : -9223372036854775808 ≤ x.toInt + y.toInt ∧ x.toInt + y.toInt < 9223372036854775808) : (x + y).toInt = x.toInt + y.toInt := by rw [Int64.toInt_add]; exact own_bm64 h.1 h.2
theorem own_lsub {x y : Int64} (h : -9223372036854775808 ≤ x.toInt - y.toInt ∧ x.toInt - y.toInt < 9223372036854775808) : (x - y).toInt = x.toInt - y.toInt := by rw [Int64.toInt_sub]; exact own_bm64 h.1 h.2
theorem own_lmul {x y : Int64} (h : -9223372036854775808 ≤ x.toInt * y.toInt ∧ x.toInt * y.toInt < 9223372036854775808) : (x * y).toInt = x.toInt * y.toInt := by rw [Int64.toInt_mul]; exact own_bm64 h.1 h.2
theorem own_i2l (x : Int32) : x.toInt64.toInt = x.toInt := Int32.toInt_toInt64 x
theorem own_l2i {x : Int64} (h : -2147483648 ≤ x.toInt ∧ x.toInt < 2147483648) : x.toInt32.toInt = x.toInt := by rw [Int64.toInt_toInt32]; exact own_bm32 h.1 h.2
theorem own_irem {x y : Int32} (h : 0 ≤ x.toInt) : (x % y).toInt = x.toInt % y.toInt := by rw [Int32.toInt_mod]; exact Int.tmod_eq_emod_of_nonneg h
theorem own_lrem {x y : Int64} (h : 0 ≤ x.toInt) : (x % y).toInt = x.toInt % y.toInt := by rw [Int64.toInt_mod]; exact Int.tmod_eq_emod_of_nonneg h
theorem own_idiv {x y : Int32} (h : 0 ≤ x.toInt) (hy : 0 ≤ y.toInt) : (x / y).toInt = x.toInt / y.toInt := by
  rw [Int32.toInt_div_of_ne_right x y (fun q => by rw [q] at hy; revert hy; decide)]; exact Int.tdiv_eq_ediv_of_nonneg h
theorem own_ldiv {x y : Int64} (h : 0 ≤ x.toInt) (hy : 0 ≤ y.toInt) : (x / y).toInt = x.toInt / y.toInt := by
  rw [Int64.toInt_div_of_ne_right x y (fun q => by rw [q] at hy; revert hy; decide)]; exact Int.tdiv_eq_ediv_of_nonneg h
/-- a mask of k bits -/
theorem own_mask (x m : Int32) (k : Nat) (hk : k ≤ 31) (hm : m.toBitVec.toNat = 2 ^ k - 1) : (x &&& m).toInt = x.toInt % (2 ^ k : Nat) := by
  have hp : 2 ^ k ≤ 2 ^ 31 := Nat.pow_le_pow_right (by decide) hk
  have hp0 : 0 < 2 ^ k := Nat.pow_pos (by decide)
  have e : (x &&& m).toBitVec.toNat = x.toBitVec.toNat % 2 ^ k := by rw [Int32.toBitVec_and, BitVec.toNat_and, hm, Nat.and_two_pow_sub_one_eq_mod]
  have l := Nat.mod_lt x.toBitVec.toNat hp0
  rw [← Int32.toInt_toBitVec, ← Int32.toInt_toBitVec, BitVec.toInt_eq_toNat_cond, e, if_pos (by omega), BitVec.toInt_eq_toNat_cond]
  split
  · simp
  · rename_i q
    have d : (2 ^ k : Nat) ∣ 2 ^ 32 := Nat.pow_dvd_pow 2 (by omega)
    obtain ⟨c, hc⟩ := d
    have hc' : ((2 ^ 32 : Nat) : Int) = ((2 ^ k : Nat) : Int) * (c : Int) := by rw [hc]; simp
    rw [hc', Int.sub_mul_emod_self_left]; simp
theorem own_ushr (x : Int64) (y : Int32) (k : Nat) (hk : (y &&& 0x3f).toInt64.toBitVec.toNat % 64 = k) (h0 : 0 < k) : (((x).toUInt64 >>> (y &&& 0x3f).toInt64.toUInt64).toInt64).toInt = (x.toInt % 18446744073709551616) / (2 ^ k : Nat) := by
  have e : (((x).toUInt64 >>> (y &&& 0x3f).toInt64.toUInt64).toInt64).toBitVec = x.toBitVec >>> k := by rw [← hk]; simp
  have hl := x.toBitVec.isLt
  have hp0 : 0 < 2 ^ k := Nat.pow_pos (by decide)
  have h2 : 2 ^ 1 ≤ 2 ^ k := Nat.pow_le_pow_right (by decide) h0
  have hd : x.toBitVec.toNat / 2 ^ k ≤ x.toBitVec.toNat / 2 := Nat.div_le_div_left h2 (by decide)
  have t : x.toInt % 18446744073709551616 = (x.toBitVec.toNat : Int) := by
    rw [← Int64.toInt_toBitVec, BitVec.toInt_eq_toNat_cond]; split <;> omega
  rw [t, ← Int64.toInt_toBitVec, e, BitVec.toInt_eq_toNat_cond, BitVec.toNat_ushiftRight, Nat.shiftRight_eq_div_pow, if_pos (by omega)]
  simp
theorem own_shl (x : Int64) (y : Int32) (k : Nat) (hk : y.toBitVec.toNat % 64 = k) (h : -9223372036854775808 ≤ x.toInt * (2 ^ k : Nat) ∧ x.toInt * (2 ^ k : Nat) < 9223372036854775808) : (x <<< (y &&& 0x3f).toInt64).toInt = x.toInt * (2 ^ k : Nat) := by
  have q := c_lshl x y k hk
  have r := own_r64 (x <<< (y &&& 0x3f).toInt64)
  generalize x.toInt * (2 ^ k : Nat) = z at *
  omega
theorem own_nzL {x : Int32} (h : ¬ x = 0) : ¬ x.toInt64 = 0 := fun q => h (Int32.toInt_inj.mp (by rw [← own_i2l, q]; rfl))
theorem own_nzP {x : Int32} (h : 1 ≤ x.toInt) : ¬ x = 0 := fun q => by rw [q] at h; revert h; decide
theorem own_fA {t n : Int32} {k : Int} (h : t < n) (q : n.toInt - 1 = k) : t.toInt ≤ k := by rw [Int32.lt_iff_toInt_lt] at h; omega
theorem own_fB {t n : Int32} {k : Int} (h : ¬ n < t) (q : n.toInt = k) : t.toInt ≤ k := by rw [Int32.lt_iff_toInt_lt] at h; omega
theorem own_fC {t n : Int32} {k : Int} (h : n < t) (q : n.toInt + 1 = k) : k ≤ t.toInt := by rw [Int32.lt_iff_toInt_lt] at h; omega
theorem own_fD {t n : Int32} {k : Int} (h : ¬ t < n) (q : n.toInt = k) : k ≤ t.toInt := by rw [Int32.lt_iff_toInt_lt] at h; omega
theorem own_fE {t n : Int32} {k : Int} (h : t = n) (q : n.toInt = k) : t.toInt ≤ k := by rw [h]; omega
theorem own_fF {t n : Int32} {k : Int} (h : t = n) (q : n.toInt = k) : k ≤ t.toInt := by rw [h]; omega
theorem own_g1 {t m : Int32} {k : Int} (h : t.toInt ≤ k) (q : k < m.toInt) : t < m := by rw [Int32.lt_iff_toInt_lt]; omega
theorem own_g2 {t m : Int32} {k : Int} (h : t.toInt ≤ k) (q : k ≤ m.toInt) : ¬ m < t := by rw [Int32.lt_iff_toInt_lt]; omega
theorem own_g3 {t m : Int32} {k : Int} (h : t.toInt ≤ k) (q : k < m.toInt) : ¬ t = m := fun e => by rw [e] at h; omega
theorem own_g4 {t m : Int32} {k : Int} (h : k ≤ t.toInt) (q : m.toInt ≤ k) : ¬ t < m := by rw [Int32.lt_iff_toInt_lt]; omega
theorem own_g5 {t m : Int32} {k : Int} (h : k ≤ t.toInt) (q : m.toInt < k) : m < t := by rw [Int32.lt_iff_toInt_lt]; omega
theorem own_g6 {t m : Int32} {k : Int} (h : k ≤ t.toInt) (q : m.toInt < k) : ¬ t = m := fun e => by rw [e] at h; omega
theorem own_g7 {t m : Int32} {k : Int} (h : k ≤ t.toInt) (h' : t.toInt ≤ k) (q : m.toInt = k) : t = m := Int32.toInt_inj.mp (by omega)
theorem own_ne {x n : Int32} {k : Int} (h : ¬ x = n) (q : n.toInt = k) : k ≠ x.toInt := fun e => h (Int32.toInt_inj.mp (by omega))
theorem own_gs1 {α : Type} (xs : List α) (n : Nat) (v d : α) (h : n < xs.length) : (xs.set n v).getD n d = v := by simp [List.getD, h]
theorem own_gs2 {α : Type} (xs : List α) (n j : Nat) (v d : α) (h : n ≠ j) : (xs.set n v).getD j d = xs.getD j d := by simp [List.getD, List.getElem?_set, h]
/-- n digits at c -/
def own_ok (bs : List Int32) (c n : Int32) : Prop := (n = 1 ∨ n = 2 ∨ n = 3 ∨ n = 4) ∧ 0 ≤ c.toInt ∧ c.toInt + n.toInt ≤ bs.length ∧ bs.length ≤ 1000 ∧ ∀ i : Nat, c.toInt ≤ i → (i : Int) < c.toInt + n.toInt → 48 ≤ (bs.getD i 0).toInt ∧ (bs.getD i 0).toInt ≤ 57
def own_d (bs : List Int32) (c : Int32) (i : Nat) : Int64 := ((bs.getD (c.toInt.toNat + i) 0) - (48 : Int32)).toInt64
def own_num (bs : List Int32) (c n : Int32) : Int64 :=
  if n = 1 then own_d bs c 0 else if n = 2 then own_d bs c 0 * 10 + own_d bs c 1 else if n = 3 then (own_d bs c 0 * 10 + own_d bs c 1) * 10 + own_d bs c 2 else ((own_d bs c 0 * 10 + own_d bs c 1) * 10 + own_d bs c 2) * 10 + own_d bs c 3
section
variable {bs : List Int32} {c n : Int32}
theorem own_ok.n14 (K : own_ok bs c n) : 1 ≤ n.toInt ∧ n.toInt ≤ 4 := by
  rcases K.1 with h | h | h | h <;> rw [h] <;> decide
theorem own_ok.dg (K : own_ok bs c n) {j : Int32} (h1 : c.toInt ≤ j.toInt) (h2 : j.toInt < c.toInt + n.toInt) : 48 ≤ (bs.getD j.toInt.toNat 0).toInt ∧ (bs.getD j.toInt.toNat 0).toInt ≤ 57 := by
  have a := K.2.1
  exact K.2.2.2.2 _ (by omega) (by omega)
theorem own_ok.inb (K : own_ok bs c n) {j : Int32} (h1 : c.toInt ≤ j.toInt) (h2 : j.toInt < c.toInt + n.toInt) : 0 ≤ j.toInt ∧ j.toInt < (bs.length : Nat) := by
  obtain ⟨-, a, b, d, -⟩ := K
  omega
theorem own_nx (K : own_ok bs c n) {u v : Int32} {i : Int} (hv : v = u + 1) (hu : u.toInt = c.toInt + i) (h0 : 0 ≤ i) (h4 : i ≤ 100) : v.toInt = c.toInt + (i + 1) := by
  obtain ⟨-, a, b, d, -⟩ := id K
  have e := K.n14
  have o : (1 : Int32).toInt = 1 := by decide
  rw [hv, own_iadd (by rw [hu, o]; omega), hu, o]; omega
theorem own_add (K : own_ok bs c n) : (c + n).toInt = c.toInt + n.toInt := by
  obtain ⟨-, a, b, d, -⟩ := id K
  have e := K.n14
  exact own_iadd (by omega)
theorem own_to (K : own_ok bs c n) {t : Int32} (h : t = c + n) : t.toInt = c.toInt + n.toInt := by rw [h]; exact own_add K
theorem own_ofto (K : own_ok bs c n) {t : Int32} (h : t.toInt = c.toInt + n.toInt) : t = c + n := Int32.toInt_inj.mp (by rw [own_add K, h])
theorem own_addsub (x y : Int32) : x + y - x = y := by grind
theorem own_ndig {x m : Int32} (h : 48 ≤ x.toInt ∧ x.toInt ≤ 57) (q : m.toInt < 48 ∨ 57 < m.toInt) : ¬ x = m := fun e => by rw [e] at h; omega
theorem own_db {v x : Int32} (hv : v = x - 48) (hx : 48 ≤ x.toInt ∧ x.toInt ≤ 57) : 0 ≤ v.toInt ∧ v.toInt ≤ 9 := by
  have o : (48 : Int32).toInt = 48 := by decide
  rw [hv, own_isub (by rw [o]; omega), o]; omega
theorem own_rb0 {r : Int64} {d : Int32} (hr : r = (0 : Int64) - d.toInt64) (hd : 0 ≤ d.toInt ∧ d.toInt ≤ 9) : -9 ≤ r.toInt ∧ r.toInt ≤ 0 := by
  have o : (0 : Int64).toInt = 0 := by decide
  rw [hr, own_lsub (by rw [o, own_i2l]; omega), o, own_i2l]; omega
theorem own_rb {r r' : Int64} {d : Int32} (K : Int) (hr : r' = r * (10 : Int64) - d.toInt64) (hd : 0 ≤ d.toInt ∧ d.toInt ≤ 9) (h : -K ≤ r.toInt ∧ r.toInt ≤ 0) (hK : K ≤ 100000) : -(10 * K + 9) ≤ r'.toInt ∧ r'.toInt ≤ 0 := by
  have o : (10 : Int64).toInt = 10 := by decide
  have m : (r * 10).toInt = r.toInt * 10 := by rw [own_lmul (by rw [o]; omega), o]
  rw [hr, own_lsub (by rw [m, own_i2l]; omega), m, own_i2l]; omega
theorem own_lim {r : Int64} {d : Int32} (hd : 0 ≤ d.toInt ∧ d.toInt ≤ 9) (hr : -100000 ≤ r.toInt) : ¬ r < ((-9223372036854775807 : Int64) + d.toInt64) / (10 : Int64) := by
  rw [Int64.lt_iff_toInt_lt, Int64.toInt_div]
  have o : (10 : Int64).toInt = 10 := by decide
  have q : (-9223372036854775807 : Int64).toInt = -9223372036854775807 := by decide
  rw [own_ladd (by rw [q, own_i2l]; omega), q, o, own_i2l]
  have e : (-9223372036854775807 + d.toInt).tdiv 10 = -((9223372036854775807 - d.toInt) / 10) := by
    rw [show -9223372036854775807 + d.toInt = -(9223372036854775807 - d.toInt) by omega, Int.neg_tdiv, Int.tdiv_eq_ediv_of_nonneg (by omega)]
  rw [e, own_bm64 (by omega) (by omega)]
  omega
theorem own_ix (K : own_ok bs c n) {j : Int32} {i : Nat} (h : j.toInt = c.toInt + i) : bs.getD j.toInt.toNat 0 = bs.getD (c.toInt.toNat + i) 0 := by
  have a := K.2.1
  rw [show j.toInt.toNat = c.toInt.toNat + i by omega]
theorem own_pl (K : own_ok bs c n) (i : Int32) (h0 : 0 ≤ i.toInt) (h4 : i.toInt ≤ 100) : (c + i).toInt = c.toInt + i.toInt := by
  obtain ⟨-, a, b, d, -⟩ := id K
  have e := K.n14
  exact own_iadd (by omega)
theorem own_n1 (h : n = 1) : own_num bs c n = own_d bs c 0 := by rw [own_num, if_pos h]
theorem own_n2 (h : n = 2) : own_num bs c n = own_d bs c 0 * 10 + own_d bs c 1 := by rw [own_num, h, if_neg (by decide), if_pos rfl]
theorem own_n3 (h : n = 3) : own_num bs c n = (own_d bs c 0 * 10 + own_d bs c 1) * 10 + own_d bs c 2 := by rw [own_num, h, if_neg (by decide), if_neg (by decide), if_pos rfl]
theorem own_n4 (h : n = 4) : own_num bs c n = ((own_d bs c 0 * 10 + own_d bs c 1) * 10 + own_d bs c 2) * 10 + own_d bs c 3 := by rw [own_num, h, if_neg (by decide), if_neg (by decide), if_neg (by decide)]
theorem own_dd (K : own_ok bs c n) {j v : Int32} {i : Nat} (hv : v = bs.getD j.toInt.toNat 0 - 48) (h : j.toInt = c.toInt + i) : v.toInt64 = own_d bs c i := by rw [hv, own_ix K h]; rfl
theorem own_d0 : (bs.getD c.toInt.toNat 0 - 48).toInt64 = own_d bs c 0 := rfl
theorem own_di (K : own_ok bs c n) (k : Int32) {i : Nat} (h : k.toInt = i) (h4 : i ≤ 100) : (bs.getD (c + k).toInt.toNat 0 - 48).toInt64 = own_d bs c i := by
  rw [own_ix K (i := i) (by rw [own_pl K k (by omega) (by omega), h])]; rfl
theorem own_al1 (a : Int64) : -((0 : Int64) - a) = a := by grind
theorem own_al2 (a b : Int64) : -(((0 : Int64) - a) * 10 - b) = a * 10 + b := by grind
theorem own_al3 (a b d : Int64) : -((((0 : Int64) - a) * 10 - b) * 10 - d) = (a * 10 + b) * 10 + d := by grind
theorem own_al4 (a b d e : Int64) : -(((((0 : Int64) - a) * 10 - b) * 10 - d) * 10 - e) = ((a * 10 + b) * 10 + d) * 10 + e := by grind
end
theorem own_ornn {a b : Int32} (ha : 0 ≤ a.toInt) (hb : 0 ≤ b.toInt) : 0 ≤ (a ||| b).toInt := by
  have q : (a ||| b).toBitVec.msb = false := by
    rw [Int32.toBitVec_or, BitVec.msb_or, BitVec.msb_eq_toInt, BitVec.msb_eq_toInt]
    have h1 : ¬ a.toBitVec.toInt < 0 := by change ¬ a.toInt < 0; omega
    have h2 : ¬ b.toBitVec.toInt < 0 := by change ¬ b.toInt < 0; omega
    rw [decide_eq_false h1, decide_eq_false h2]; rfl
  rw [BitVec.msb_eq_toInt] at q
  have := of_decide_eq_false q
  change ¬ (a ||| b).toInt < 0 at this
  omega
theorem own_and15 (y : Int64) : 0 ≤ (y &&& 15).toInt ∧ (y &&& 15).toInt ≤ 15 := by
  have e : (y &&& 15).toBitVec.toNat = y.toBitVec.toNat &&& 15 := by rw [Int64.toBitVec_and, BitVec.toNat_and]; rfl
  have l : y.toBitVec.toNat &&& 15 ≤ 15 := Nat.and_le_right
  have t : (y &&& 15).toInt = ((y &&& 15).toBitVec.toNat : Int) := BitVec.toInt_eq_toNat_of_lt (by rw [e]; omega)
  rw [t, e]; omega
theorem own_b8 {x : Int32} (h : -128 ≤ x.toInt ∧ x.toInt < 128) : x.toInt8.toInt32 = x := Int32.toInt_inj.mp (by
  rw [Int8.toInt_toInt32, Int32.toInt_toInt8]
  rw [Int.bmod_eq_of_le] <;> omega)
theorem own_digv (y : Int64) : 48 ≤ ((48 : Int32) + ((y &&& 15) % 10).toInt32).toInt ∧ ((48 : Int32) + ((y &&& 15) % 10).toInt32).toInt ≤ 57 := by
  have a := own_and15 y
  have o : (10 : Int64).toInt = 10 := by decide
  have r : ((y &&& 15) % 10).toInt = (y &&& 15).toInt % 10 := by rw [own_lrem a.1, o]
  have l : ((y &&& 15) % 10).toInt32.toInt = (y &&& 15).toInt % 10 := by rw [own_l2i (by rw [r]; omega), r]
  have q : (48 : Int32).toInt = 48 := by decide
  rw [own_iadd (by rw [l, q]; omega), l, q]; omega
-- the law's lists
def own_LN (bs : List Int32) (p : Int32) : List Int32 := (bs.set p.toInt.toNat (83 : Int32)).set (p + (1 : Int32)).toInt.toNat (44 : Int32)
def own_LA (bs : List Int32) (f a p : Int32) : List Int32 := (((bs.set f.toInt.toNat (64 : Int32)).set ((f + a) + (1 : Int32)).toInt.toNat (44 : Int32)).set p.toInt.toNat (83 : Int32)).set (p + (1 : Int32)).toInt.toNat (44 : Int32)
def own_all (bs : List Int32) : Prop := bs.length = 20 ∧ ∀ i : Nat, i < 20 → 48 ≤ (bs.getD i 0).toInt ∧ (bs.getD i 0).toInt ≤ 57
theorem own_s {x y : Int32} {i j : Int} (hx : x.toInt = i) (hy : y.toInt = j) (h : 0 ≤ i ∧ i ≤ 1000 ∧ 0 ≤ j ∧ j ≤ 1000) : (x + y).toInt = i + j := by rw [own_iadd (by omega), hx, hy]
theorem own_k14 (k : Int32) (h : 1 ≤ k.toInt ∧ k.toInt ≤ 4) : k = 1 ∨ k = 2 ∨ k = 3 ∨ k = 4 := by
  have : k.toInt = 1 ∨ k.toInt = 2 ∨ k.toInt = 3 ∨ k.toInt = 4 := by omega
  rcases this with q | q | q | q
  · exact Or.inl (Int32.toInt_inj.mp q)
  · exact Or.inr (Or.inl (Int32.toInt_inj.mp q))
  · exact Or.inr (Or.inr (Or.inl (Int32.toInt_inj.mp q)))
  · exact Or.inr (Or.inr (Or.inr (Int32.toInt_inj.mp q)))
theorem own_factN {bs : List Int32} {p k : Int32} (B : own_all bs) (hp : 0 ≤ p.toInt ∧ p.toInt ≤ 7) (hk : 1 ≤ k.toInt ∧ k.toInt ≤ 4) :
    (own_LN bs p).length = 20 ∧ own_ok (own_LN bs p) (p + 2) k ∧ (own_LN bs p).getD p.toInt.toNat 0 = 83 ∧ (own_LN bs p).getD (p + (1 : Int32)).toInt.toNat 0 = 44 ∧ True := by
  obtain ⟨L, D⟩ := B
  have p1 : (p + (1 : Int32)).toInt = p.toInt + 1 := own_s rfl (by decide) (by omega)
  have p2 : (p + (2 : Int32)).toInt = p.toInt + 2 := own_s rfl (by decide) (by omega)
  have len : (own_LN bs p).length = 20 := by simp [own_LN, L]
  refine ⟨len, ⟨own_k14 k hk, by omega, by omega, by omega, fun i h1 h2 => ?_⟩, ?_, ?_, trivial⟩
  · unfold own_LN
    rw [own_gs2 _ _ _ _ _ (by omega), own_gs2 _ _ _ _ _ (by omega)]
    exact D i (by omega)
  · unfold own_LN
    rw [own_gs2 _ _ _ _ _ (by omega), own_gs1 _ _ _ _ (by omega)]
  · unfold own_LN
    rw [own_gs1 _ _ _ _ (by rw [List.length_set]; omega)]
theorem own_factA {bs : List Int32} {f a p k : Int32} (B : own_all bs) (hf : 0 ≤ f.toInt ∧ f.toInt ≤ 7) (ha : 1 ≤ a.toInt ∧ a.toInt ≤ 4) (hk : 1 ≤ k.toInt ∧ k.toInt ≤ 4) (hp : p = (f + a) + (2 : Int32)) :
    (own_LA bs f a p).length = 20 ∧ own_ok (own_LA bs f a p) (p + 2) k ∧ (own_LA bs f a p).getD p.toInt.toNat 0 = 83 ∧ (own_LA bs f a p).getD (p + (1 : Int32)).toInt.toNat 0 = 44 ∧
      own_ok (own_LA bs f a p) (f + 1) a ∧ (own_LA bs f a p).getD f.toInt.toNat 0 = 64 ∧ (own_LA bs f a p).getD ((f + 1) + a).toInt.toNat 0 = 44 ∧ p = ((f + 1) + a) + 1 ∧ p.toInt = f.toInt + a.toInt + 2 := by
  obtain ⟨L, D⟩ := B
  have fa : (f + a).toInt = f.toInt + a.toInt := own_s rfl rfl (by omega)
  have pp : p.toInt = f.toInt + a.toInt + 2 := by rw [hp]; exact own_s fa (by decide) (by omega)
  have p1 : (p + (1 : Int32)).toInt = p.toInt + 1 := own_s rfl (by decide) (by omega)
  have p2 : (p + (2 : Int32)).toInt = p.toInt + 2 := own_s rfl (by decide) (by omega)
  have f1 : (f + (1 : Int32)).toInt = f.toInt + 1 := own_s rfl (by decide) (by omega)
  have f1a : ((f + (1 : Int32)) + a).toInt = f.toInt + 1 + a.toInt := own_s f1 rfl (by omega)
  have fa1 : ((f + a) + (1 : Int32)).toInt = f.toInt + a.toInt + 1 := own_s fa (by decide) (by omega)
  have f1a1 : (((f + (1 : Int32)) + a) + (1 : Int32)).toInt = f.toInt + 1 + a.toInt + 1 := own_s f1a (by decide) (by omega)
  have len : (own_LA bs f a p).length = 20 := by simp [own_LA, L]
  refine ⟨len, ⟨own_k14 k hk, by omega, by omega, by omega, fun i h1 h2 => ?_⟩, ?_, ?_, ⟨own_k14 a ha, by omega, by omega, by omega, fun i h1 h2 => ?_⟩, ?_, ?_, Int32.toInt_inj.mp (by omega), pp⟩
  · unfold own_LA
    rw [own_gs2 _ _ _ _ _ (by omega), own_gs2 _ _ _ _ _ (by omega), own_gs2 _ _ _ _ _ (by omega), own_gs2 _ _ _ _ _ (by omega)]
    exact D i (by omega)
  · unfold own_LA
    rw [own_gs2 _ _ _ _ _ (by omega), own_gs1 _ _ _ _ (by simp only [List.length_set]; omega)]
  · unfold own_LA
    rw [own_gs1 _ _ _ _ (by simp only [List.length_set]; omega)]
  · unfold own_LA
    rw [own_gs2 _ _ _ _ _ (by omega), own_gs2 _ _ _ _ _ (by omega), own_gs2 _ _ _ _ _ (by omega), own_gs2 _ _ _ _ _ (by omega)]
    exact D i (by omega)
  · unfold own_LA
    rw [own_gs2 _ _ _ _ _ (by omega), own_gs2 _ _ _ _ _ (by omega), own_gs2 _ _ _ _ _ (by omega), own_gs1 _ _ _ _ (by omega)]
  · unfold own_LA
    rw [own_gs2 _ _ _ _ _ (by omega), own_gs2 _ _ _ _ _ (by omega), show ((f + 1) + a).toInt.toNat = ((f + a) + (1 : Int32)).toInt.toNat by omega, own_gs1 _ _ _ _ (by simp only [List.length_set]; omega)]
section
variable {bs : List Int32} {c n : Int32}
theorem own_len32 (h : bs.length ≤ 1000) : bs.length.toInt32.toInt = bs.length := by
  show (Int32.ofNat bs.length).toInt = _
  rw [Int32.toInt_ofNat']; exact own_bm32 (by omega) (by omega)
theorem own_cfs1 (K : own_ok bs c n) : ¬ ((bs.length.toInt32 ||| c) ||| n) < (0 : Int32) := by
  have l := own_len32 K.2.2.2.1
  have q := own_ornn (own_ornn (a := bs.length.toInt32) (b := c) (by omega) K.2.1) (b := n) (by have := K.n14; omega)
  rw [Int32.lt_iff_toInt_lt]
  have o : (0 : Int32).toInt = 0 := by decide
  omega
theorem own_cfs2 (K : own_ok bs c n) : ¬ (bs.length.toInt32 - c) < n := by
  have l := own_len32 K.2.2.2.1
  obtain ⟨-, a, b, d, -⟩ := id K
  have e := K.n14
  rw [Int32.lt_iff_toInt_lt, own_isub (by omega)]
  omega
theorem own_in (K : own_ok bs c n) (i : Int32) (h0 : 0 ≤ i.toInt) (h : i.toInt < n.toInt) : 0 ≤ (c + i).toInt ∧ (c + i).toInt < (bs.length : Nat) := by
  obtain ⟨-, a, b, d, -⟩ := id K
  have e := K.n14
  rw [own_pl K i h0 (by omega)]; omega
theorem own_t19 (K : own_ok bs c n) {te : Int32} (h : te.toInt = c.toInt + n.toInt) : ¬ (19 : Int32) < te - c := by
  obtain ⟨-, a, b, d, -⟩ := id K
  have e := K.n14
  have o : (19 : Int32).toInt = 19 := by decide
  rw [Int32.lt_iff_toInt_lt, own_isub (by omega)]
  omega
theorem own_p12 (hx : 0 ≤ c.toInt) (K : own_ok bs (c + (2 : Int32)) n) : (c + (2 : Int32)).toInt = c.toInt + 2 ∧ (c + (1 : Int32)).toInt = c.toInt + 1 := by
  have o : (2 : Int32).toInt = 2 := by decide
  have o1 : (1 : Int32).toInt = 1 := by decide
  have r := own_r32 c
  by_cases h : c.toInt < 2147483646
  · rw [own_iadd (by omega), own_iadd (by omega), o, o1]; omega
  · exfalso
    have e : (c + 2).toInt < 0 := by
      rw [Int32.toInt_add, o]
      have : c.toInt = 2147483646 ∨ c.toInt = 2147483647 := by omega
      rcases this with q | q <;> rw [q] <;> decide
    have := K.2.1
    omega
theorem own_e10 {le : Int32} (K : own_ok bs (c + (2 : Int32)) n) (hx : 0 ≤ c.toInt) (h : le = (c + (2 : Int32)) + n) : ¬ (le - c) < (2 : Int32) := by
  obtain ⟨p2, -⟩ := own_p12 hx K
  have t := own_to K h
  obtain ⟨-, a, b, d, -⟩ := id K
  have e := K.n14
  have o : (2 : Int32).toInt = 2 := by decide
  rw [Int32.lt_iff_toInt_lt, own_isub (by omega), o]; omega
theorem own_e23 (K : own_ok bs (c + (2 : Int32)) n) (hx : 0 ≤ c.toInt) : 0 ≤ (c + (1 : Int32)).toInt ∧ (c + (1 : Int32)).toInt < (bs.length : Nat) := by
  obtain ⟨p2, p1⟩ := own_p12 hx K
  obtain ⟨-, a, b, d, -⟩ := id K
  have e := K.n14
  omega
theorem own_e37 (K : own_ok bs (c + (2 : Int32)) n) (hx : 0 ≤ c.toInt) : 0 ≤ c.toInt ∧ c.toInt < (bs.length : Nat) := by
  obtain ⟨p2, p1⟩ := own_p12 hx K
  obtain ⟨-, a, b, d, -⟩ := id K
  have e := K.n14
  omega
end
theorem own_01 {v : Int32} {P : Prop} [Decidable P] (h : v = (if P then (0 : Int32) else (1 : Int32))) : v = 0 ∨ v = 1 := by
  by_cases q : P
  · rw [if_pos q] at h; exact Or.inl h
  · rw [if_neg q] at h; exact Or.inr h
theorem own_mem {bs : List Int32} {P : Int32 → Prop} (h : ∀ x ∈ bs, P x) (i : Nat) (hi : i < bs.length) : P (bs.getD i 0) := by
  have e : bs.getD i 0 = bs[i] := by simp [List.getD, hi]
  rw [e]; exact h _ (List.getElem_mem hi)
theorem own_bf {v x : Int32} (h : v = x &&& (7 : Int32)) : 0 ≤ v.toInt ∧ v.toInt ≤ 7 := by
  have a := own_mask x 7 3 (by decide) (by decide)
  rw [← h] at a; omega
theorem own_bk {v x : Int32} (h : v = (x &&& (3 : Int32)) + (1 : Int32)) : 1 ≤ v.toInt ∧ v.toInt ≤ 4 := by
  have a := own_mask x 3 2 (by decide) (by decide)
  have o : (1 : Int32).toInt = 1 := by decide
  rw [h, own_iadd (by omega), o]; omega

theorem own_strAtoms {Z : State} {a0 : Array Value} (hw : ∀ d ∈ tables_1, d.before a0 Z = true) : ∀ a ∈ Bundle.stringAtoms, a.before a0 Z = true :=
  List.forall_mem_cons.2 ⟨hw _ (List.mem_of_getElem? (i := 40) rfl), List.forall_mem_cons.2 ⟨hw _ (List.mem_of_getElem? (i := 41) rfl), List.forall_mem_cons.2 ⟨hw _ (List.mem_of_getElem? (i := 0) rfl), List.forall_mem_cons.2 ⟨hw _ (List.mem_of_getElem? (i := 42) rfl), List.forall_mem_cons.2 ⟨hw _ (List.mem_of_getElem? (i := 43) rfl), List.forall_mem_cons.2 ⟨hw _ (List.mem_of_getElem? (i := 44) rfl), List.forall_mem_cons.2 ⟨hw _ (List.mem_of_getElem? (i := 45) rfl), fun _ q => nomatch q⟩⟩⟩⟩⟩⟩⟩
theorem own_wrsz {h h' : Heap} {a : Addr} {sl : Nat} {v : Value} (W : Wr h h' a sl v) : h'.size = h.size := by
  obtain ⟨c0, -, -, -, rfl⟩ := W
  exact Array.size_setIfInBounds
/-- a private method with an exception table, by invokevirtual (own_privateBack, over codeWith) -/
theorem own_privateBackW {p : Program} {l : Launch} {e : Env} {R : Room} {s : State} {m : MethodId} {args : Array Value} {below : List Frame} {meth : Method} {c : Code} {T : State} {locs : List Loc} {cells slots : Nat} (X : Stand p l e R s m args below meth c T locs cells slots) (hexec : p.tables.exec = Jvm.exec) {own : String} {index : Nat} {y y' : MethodName} {bytes : ByteArray} {maxL : Nat} {ret : Option FieldType} {hs : List (Nat × Nat × Nat × Nat)} (hyy : y'.cls = y.cls)
    (hown : s.vm.findClass own = some m.cls) (hlink : (Cond.methodLink own index y).before args s = true) (hinst : (Cond.instanceMethod y).before args s = true) (hsel : (Cond.selects y'.cls y' y').before args s = true)
    (hpriv : s.PrivateAt y) (hcode : (Cond.codeWith y bytes maxL ret hs).before args s = true) (hy : y.cls ≠ "java/lang/invoke/MethodHandle" ∧ y.cls ≠ "java/lang/invoke/VarHandle")
    {W : Nat} {Pre : Pt → Array Value → Prop} {Post : Pt → Array Value → Option Value → Pt → Prop} (hK : Back l R p e below s args y 3 W Pre Post)
    {g : JFrame} (hg : g.method = m) (hsize : g.locals.size = c.maxLocals) {s₀ : State} (hcome : Steps p.tables e below s₀ (T.setTop g)) {a : Addr} {cell : Cell} (hcell : T.heap[a]? = some cell) (hobj : ∀ q, cell.vm ≠ .statics q)
    {argsL rest : List Value} (hlen : ∀ sig, parseMethodDescriptor y.desc = some sig → argsL.length = sig.parameters.length)
    (hstack : g.stack = argsL.reverse ++ .ref a :: rest) (hW : 2 * g.monitorRoom + (rest.map fun v => v.category).sum ≤ W) (hdg : decode c.code g.pc = .ok (.invokevirtual index, 3))
    (hpre : ∀ vm₁, s.WarmedH vm₁ → Pre ⟨T.setVm vm₁, locs, cells, slots⟩ (.ref a :: argsL).toArray) :
    ∃ (v : Option Value) (vm₁ : Vm) (B : Pt), s.WarmedH vm₁ ∧ Stand p l e R s m args below meth c B.U B.locs B.cells B.slots ∧ Post ⟨T.setVm vm₁, locs, cells, slots⟩ (.ref a :: argsL).toArray v B ∧
      Steps p.tables e below s₀ (B.U.setTop { g with pc := g.pc + 3, stack := v.toList ++ rest }) := by
  obtain ⟨-, -, m2, -, -, q3, -, kP, hkP, hni⟩ := Cond.selects_spec hsel
  have h2 := findClass_of_methodNamed q3
  rw [hyy] at h2
  obtain ⟨mk, methM, hnamed, hmethM, hstM, habM⟩ := Cond.instanceMethod_spec hinst
  obtain ⟨mk', meth', -, w1, w2, -, -, -, -, -, -, hsig⟩ := Cond.codeWith_spec hcode
  cases hnamed.symm.trans w1
  cases hmethM.symm.trans w2
  have em : m2.cls = mk.cls := Option.some.inj (h2.symm.trans (findClass_of_methodNamed hnamed))
  rw [em] at hkP
  have sel : selectMethod e.platform s.vm cell.cls mk = .method mk := selectMethod_private hmethM (hpriv mk methM hnamed hmethM)
  obtain ⟨vm₁, Y, go⟩ := X.invokevirtual hexec hown hlink hnamed hmethM hstM hkP hni hy (a := a) (cell := cell) hcell hobj sel hmethM habM hkP hni (g := g) hg (argsL := argsL) (rest := rest) (hlen _ hsig) hstack hdg
  obtain ⟨v, B, Y', post, more⟩ := hK m meth c ⟨T.setVm vm₁, locs, cells, slots⟩ { g with stack := rest } (.invokevirtual index) mk (.ref a :: argsL).toArray Y hg hsize hdg hW (Y.named hnamed) (hpre vm₁ Y.warmed)
  exact ⟨v, vm₁, B, Y.warmed, Y', post, (hcome.trans (go _ fun acts => by rw [doInvoke_state]; exact Steps.refl _)).trans more⟩
theorem d1_0 : decode method_2_code 0 = .ok (.bipush 48, 2) := by decide +kernel
theorem d1_2 : decode method_2_code 2 = .ok (.lload_n 0, 1) := by decide +kernel
theorem d1_3 : decode method_2_code 3 = .ok (.iconst 3, 1) := by decide +kernel
theorem d1_4 : decode method_2_code 4 = .ok (.iload_n 2, 1) := by decide +kernel
theorem d1_5 : decode method_2_code 5 = .ok (.imul, 1) := by decide +kernel
theorem d1_6 : decode method_2_code 6 = .ok (.bipush 61, 2) := by decide +kernel
theorem d1_8 : decode method_2_code 8 = .ok (.irem, 1) := by decide +kernel
theorem d1_9 : decode method_2_code 9 = .ok (.lushr, 1) := by decide +kernel
theorem d1_10 : decode method_2_code 10 = .ok (.ldc2_w 7, 3) := by decide +kernel
theorem d1_13 : decode method_2_code 13 = .ok (.land, 1) := by decide +kernel
theorem d1_14 : decode method_2_code 14 = .ok (.ldc2_w 9, 3) := by decide +kernel
theorem d1_17 : decode method_2_code 17 = .ok (.lrem, 1) := by decide +kernel
theorem d1_18 : decode method_2_code 18 = .ok (.l2i, 1) := by decide +kernel
theorem d1_19 : decode method_2_code 19 = .ok (.iadd, 1) := by decide +kernel
theorem d1_20 : decode method_2_code 20 = .ok (.i2b, 1) := by decide +kernel
theorem d1_21 : decode method_2_code 21 = .ok (.ireturn, 1) := by decide +kernel
theorem pn_1 : plainName "com/example/tributary/tributary/io/LineFormatBeginPinLaw" = true := by first | (simp [plainName, overriddenIn]; done) | decide +kernel
theorem ef_1 (m : MethodId) (q0 : Int64) (q1 : Int32) : entryFrame m #[(.long q0), (.int q1)] 3 = mkF m 0 #[jv q0, s2, iv q1] [] := by first | (simp [entryFrame, mkF, argsToLocals, Value.category, maxLocals]; done) | rfl
def own_f1 (q0 : Int64) (q1 : Int32) : Int32 := (nar .byte (((48 : Int32) + (((((q0).toUInt64 >>> ((((3 : Int32) * q1) % (61 : Int32)) &&& 0x3f).toInt64.toUInt64).toInt64 &&& (15 : Int64)) % (10 : Int64))).toInt32)).toInt8.toInt32)
def Q1 (Z : State) (q0 : Int64) (q1 : Int32)  (h0 : Heap) (n0 : Nat) (v : Option Value) (h : Heap) (L : List Loc) : Prop := v = some (.int (own_f1 q0 q1)) ∧ Fr n0 L ∧ h = h0
set_option maxRecDepth 65536 in
set_option maxHeartbeats 40000000 in
theorem rm1 (l : Launch) (Z : State) (a0 : Array Value) (hw : ∀ d ∈ tables_1, d.before a0 Z = true) (ws : List Jvm.Cond) (q0 : Int64) (q1 : Int32)  (h0 : Heap) (n0 : Nat) (Z0 : n0 ≤ h0.size)  :
    MetFree l (⟨"com/example/tributary/tributary/io/LineFormatBeginPinLaw", "dig", "(JI)B"⟩ : MethodName) (head1 (Jvm.Cond.code (⟨"com/example/tributary/tributary/io/LineFormatBeginPinLaw", "dig", "(JI)B"⟩ : MethodName) method_2_code 3 (some .byte) :: ws) ({ frames := 0, cells := 0, slots := 0, locals := 0 } : Room)) (fun a U => a = #[(.long q0), (.int q1)] ∧ Z.Warmed39 U.vm ∧ U.heap = h0) (fun _ _ _ _ _ => True) (fun _ U o U' => ∃ v L, o = .returned v ∧ Q1 Z q0 q1 h0 n0 v U'.heap L ∧ FrameEnd U o U' L ({ frames := 0, cells := 0, slots := 0, locals := 0 } : Room).cells ({ frames := 0, cells := 0, slots := 0, locals := 0 } : Room).slots) := by
  refine MetFree.of_bodySF (plainFor_of_name pn_1) hisR ?_
  intro p e s m args below meth c s₁ Bd hml0 hP hK
  obtain ⟨rfl, hZ, hh⟩ := hP
  have hx := Bd.exec
  have hby := Bd.bytes
  have hml : c.maxLocals = 3 := hml0
  have hown : s.vm.findClass "com/example/tributary/tributary/io/LineFormatBeginPinLaw" = some m.cls := findClass_of_methodNamed Bd.named
  have hnm := (name_of_methodNamed Bd.named Bd.method).1
  have X0 : Stand p l e ({ frames := 0, cells := 0, slots := 0, locals := 0 } : Room) s m #[(.long q0), (.int q1)] below meth c s₁ [] 0 0 := Stand.of_body Bd
  have hlk : meth.locks = false := by first | exact BodyLoose.notSynchronized (by assumption) | exact Body.notSynchronized (by assumption)
  have e0 : s₁.heap = h0 := by rw [← hh, Bd.state]; rfl
  have N0 := Fr.nil n0
  have pre0 : ∀ t, Steps p.tables e below (s₁.setTop (mkF m 0 #[jv q0, s2, iv q1] [])) t → Steps p.tables e below (s₁.setTop (entryFrame m #[(.long q0), (.int q1)] 3)) t := fun t k => castTop (ef_1 m q0 q1) k
  generalize s₁.setTop (entryFrame m #[(.long q0), (.int q1)] 3) = B0 at pre0 ⊢
  have H : ∀ (i : Nat) {d : Jvm.Cond}, tables_1[i]? = some d → d.before a0 Z = true := fun i d q => hw d (List.mem_of_getElem? q)
  have D : ∀ {pc : Nat} {r : Except DecodeError (Instr × Nat)}, decode method_2_code pc = r → decode c.code pc = r := fun q => hb hby q
  obtain ⟨fs, hr, hrun, hended, hW, hsame⟩ := X0.leave (v := some (.int (nar .byte (((48 : Int32) + (((((q0).toUInt64 >>> ((((3 : Int32) * q1) % (61 : Int32)) &&& 0x3f).toInt64.toUInt64).toInt64 &&& (15 : Int64)) % (10 : Int64))).toInt32)).toInt8.toInt32))) (fun h => by rw [Bd.returns] at h; cases h) hlk
  refine ⟨_, _, pre0 _ ?_, hrun, hended, _, _, rfl, ?_, ⟨_, rfl⟩, hW, hsame.mono (by decide) (by decide)⟩
  · show Steps p.tables e below (s₁.setTop (mkF m 0 #[jv q0, s2, iv q1] [])) _
    refine XS.bipush X0.here hx rfl (D d1_0) ?_
    refine XS.lloadN X0.here hx rfl (D d1_2) rfl ?_
    refine XS.iconst X0.here hx rfl (D d1_3) ?_
    refine XS.iloadN X0.here hx rfl (D d1_4) rfl ?_
    refine XS.imul X0.here hx rfl (D d1_5) rfl ?_
    refine XS.bipush X0.here hx rfl (D d1_6) ?_
    refine iremM X0 hx rfl (D d1_8) rfl (by decide) ?_
    show Steps p.tables e below (s₁.setTop (mkF m 9 #[jv q0, s2, iv q1] [(.int (((3 : Int32) * q1) % (61 : Int32))), (.long q0), (.int (48 : Int32))])) _
    refine XS.lushr X0.here hx rfl (D d1_9) rfl ?_
    refine X0.ldc2Long hx hown (mvT hZ (H 5 rfl)) (g := (mkF m 10 #[jv q0, s2, iv q1] [(.long ((q0).toUInt64 >>> ((((3 : Int32) * q1) % (61 : Int32)) &&& 0x3f).toInt64.toUInt64).toInt64), (.int (48 : Int32))])) rfl (D d1_10) _ ?_
    refine XS.land X0.here hx rfl (D d1_13) rfl ?_
    refine X0.ldc2Long hx hown (mvT hZ (H 6 rfl)) (g := (mkF m 14 #[jv q0, s2, iv q1] [(.long (((q0).toUInt64 >>> ((((3 : Int32) * q1) % (61 : Int32)) &&& 0x3f).toInt64.toUInt64).toInt64 &&& (15 : Int64))), (.int (48 : Int32))])) rfl (D d1_14) _ ?_
    refine own_lremM X0 hx rfl (D d1_17) rfl (by decide) ?_
    refine XS.l2i X0.here hx rfl (D d1_18) rfl ?_
    refine XS.iadd X0.here hx rfl (D d1_19) rfl ?_
    refine XS.i2b X0.here hx rfl (D d1_20) rfl ?_
    show Steps p.tables e below (s₁.setTop (mkF m 21 #[jv q0, s2, iv q1] [(.int (((48 : Int32) + (((((q0).toUInt64 >>> ((((3 : Int32) * q1) % (61 : Int32)) &&& 0x3f).toInt64.toUInt64).toInt64 &&& (15 : Int64)) % (10 : Int64))).toInt32)).toInt8.toInt32)])) _
    exact retN X0 hx (t := .byte) Bd.returns (by simp) (D d1_21) hr
  · show Q1 Z q0 q1 h0 n0 _ s₁.heap _
    rw [e0]
    exact ⟨by rfl, N0, rfl⟩
theorem own_f1e (y : Int64) : nar .byte (((48 : Int32) + ((y &&& (15 : Int64)) % (10 : Int64)).toInt32).toInt8.toInt32) = (48 : Int32) + ((y &&& (15 : Int64)) % (10 : Int64)).toInt32 := by
  have a := own_digv y
  have b := own_b8 (x := (48 : Int32) + ((y &&& (15 : Int64)) % (10 : Int64)).toInt32) (by omega)
  rw [b]; exact b
theorem own_f1d (q0 : Int64) (i : Int32) : 48 ≤ (own_f1 q0 i).toInt8.toInt32.toInt ∧ (own_f1 q0 i).toInt8.toInt32.toInt ≤ 57 := by
  have e : ∃ y, own_f1 q0 i = (48 : Int32) + ((y &&& (15 : Int64)) % (10 : Int64)).toInt32 := ⟨_, own_f1e _⟩
  obtain ⟨y, e⟩ := e
  have a := own_digv y
  rw [e, own_b8 (by omega)]; exact a
def own_B (q0 : Int64) : List Int32 := [(own_f1 q0 (0 : Int32)).toInt8.toInt32, (own_f1 q0 (1 : Int32)).toInt8.toInt32, (own_f1 q0 (2 : Int32)).toInt8.toInt32, (own_f1 q0 (3 : Int32)).toInt8.toInt32, (own_f1 q0 (4 : Int32)).toInt8.toInt32, (own_f1 q0 (5 : Int32)).toInt8.toInt32, (own_f1 q0 (6 : Int32)).toInt8.toInt32, (own_f1 q0 (7 : Int32)).toInt8.toInt32, (own_f1 q0 (8 : Int32)).toInt8.toInt32, (own_f1 q0 (9 : Int32)).toInt8.toInt32, (own_f1 q0 (10 : Int32)).toInt8.toInt32, (own_f1 q0 (11 : Int32)).toInt8.toInt32, (own_f1 q0 (12 : Int32)).toInt8.toInt32, (own_f1 q0 (13 : Int32)).toInt8.toInt32, (own_f1 q0 (14 : Int32)).toInt8.toInt32, (own_f1 q0 (15 : Int32)).toInt8.toInt32, (own_f1 q0 (16 : Int32)).toInt8.toInt32, (own_f1 q0 (17 : Int32)).toInt8.toInt32, (own_f1 q0 (18 : Int32)).toInt8.toInt32, (own_f1 q0 (19 : Int32)).toInt8.toInt32]
theorem own_Ball (q0 : Int64) : own_all (own_B q0) := ⟨rfl, fun i hi => own_mem (P := fun x => 48 ≤ x.toInt ∧ x.toInt ≤ 57) (fun x hx => by
  simp only [own_B, List.mem_cons, List.not_mem_nil, or_false] at hx
  rcases hx with rfl | rfl | rfl | rfl | rfl | rfl | rfl | rfl | rfl | rfl | rfl | rfl | rfl | rfl | rfl | rfl | rfl | rfl | rfl | rfl <;> exact own_f1d q0 _) i hi⟩
theorem d13_0 : decode prog_64_method_1_code 0 = .ok (.aload_n 0, 1) := by decide +kernel
theorem d13_1 : decode prog_64_method_1_code 1 = .ok (.invokespecial 3, 3) := by decide +kernel
theorem d13_4 : decode prog_64_method_1_code 4 = .ok (.aload_n 0, 1) := by decide +kernel
theorem d13_5 : decode prog_64_method_1_code 5 = .ok (.lload_n 1, 1) := by decide +kernel
theorem d13_6 : decode prog_64_method_1_code 6 = .ok (.putfield 9, 3) := by decide +kernel
theorem d13_9 : decode prog_64_method_1_code 9 = .ok (.aload_n 0, 1) := by decide +kernel
theorem d13_10 : decode prog_64_method_1_code 10 = .ok (.iload_n 3, 1) := by decide +kernel
theorem d13_11 : decode prog_64_method_1_code 11 = .ok (.putfield 13, 3) := by decide +kernel
theorem d13_14 : decode prog_64_method_1_code 14 = .ok (.return_, 1) := by decide +kernel
theorem pn_3 : plainName "com/example/tributary/tributary/model/Time" = true := by first | (simp [plainName, overriddenIn]; done) | decide +kernel
theorem ef_13 (m : MethodId) (ra : Addr) (q1 : Int64) : entryFrame m #[(.ref ra), (.long q1), (.int (0 : Int32))] 4 = mkF m 0 #[rv ra, jv q1, s2, iv (0 : Int32)] [] := by first | (simp [entryFrame, mkF, argsToLocals, Value.category, maxLocals]; done) | rfl
theorem own_sn_4 {Z : State} {a0 : Array Value} (hw : ∀ d ∈ tables_1, d.before a0 Z = true) : Jvm.RoadKit.slotOf Z "com/example/tributary/tributary/model/Time" "infinite" "Z" ≠ Jvm.RoadKit.slotOf Z "com/example/tributary/tributary/model/Time" "value" "J" := slot_ne (a0 := a0) (C := "com/example/tributary/tributary/model/Time") (Or.inr (hw _ (List.mem_of_getElem? (i := 83) rfl))) (Or.inr (hw _ (List.mem_of_getElem? (i := 81) rfl))) (by decide) (t := .boolean) (t' := .long) (by decide) (by decide)
theorem own_sn_5 {Z : State} {a0 : Array Value} (hw : ∀ d ∈ tables_1, d.before a0 Z = true) : Jvm.RoadKit.slotOf Z "com/example/tributary/tributary/model/Time" "value" "J" ≠ Jvm.RoadKit.slotOf Z "com/example/tributary/tributary/model/Time" "infinite" "Z" := slot_ne (a0 := a0) (C := "com/example/tributary/tributary/model/Time") (Or.inr (hw _ (List.mem_of_getElem? (i := 81) rfl))) (Or.inr (hw _ (List.mem_of_getElem? (i := 83) rfl))) (by decide) (t := .long) (t' := .boolean) (by decide) (by decide)
def Q13 (Z : State) (ra : Addr) (q1 : Int64)  (h0 : Heap) (n0 : Nat) (v : Option Value) (h : Heap) (L : List Loc) : Prop := v = none ∧ Fr n0 L ∧ Keep h0 h [ra] ∧ Exa Z h ra "com/example/tributary/tributary/model/Time" ∧ Fld Z h ra "com/example/tributary/tributary/model/Time" "value" "J" (.long q1) ∧ Fld Z h ra "com/example/tributary/tributary/model/Time" "infinite" "Z" (.int (0 : Int32))
set_option maxRecDepth 65536 in
set_option maxHeartbeats 40000000 in
theorem rm13 (l : Launch) (Z : State) (a0 : Array Value) (hw : ∀ d ∈ tables_1, d.before a0 Z = true) (ws : List Jvm.Cond) (ra : Addr) (q1 : Int64)  (h0 : Heap) (n0 : Nat) (Z0 : n0 ≤ h0.size) (PE0 : Exa Z h0 ra "com/example/tributary/tributary/model/Time") (PF0 : Fld Z h0 ra "com/example/tributary/tributary/model/Time" "value" "J" (.long (0 : Int64))) (PF1 : Fld Z h0 ra "com/example/tributary/tributary/model/Time" "infinite" "Z" (.int (0 : Int32))) (PG0 : n0 ≤ ra) :
    MetFree l (⟨"com/example/tributary/tributary/model/Time", "<init>", "(JZ)V"⟩ : MethodName) (head1 (Jvm.Cond.code (⟨"com/example/tributary/tributary/model/Time", "<init>", "(JZ)V"⟩ : MethodName) prog_64_method_1_code 4 none :: ws) ({ frames := 1, cells := 0, slots := 0, locals := 12 } : Room)) (fun a U => a = #[(.ref ra), (.long q1), (.int (0 : Int32))] ∧ Z.Warmed39 U.vm ∧ U.heap = h0) (fun _ _ _ _ _ => True) (fun _ U o U' => ∃ v L, o = .returned v ∧ Q13 Z ra q1 h0 n0 v U'.heap L ∧ FrameEnd U o U' L ({ frames := 1, cells := 0, slots := 0, locals := 12 } : Room).cells ({ frames := 1, cells := 0, slots := 0, locals := 12 } : Room).slots) := by
  refine MetFree.of_bodySF (plainFor_of_name pn_3) hisR ?_
  intro p e s m args below meth c s₁ Bd hml0 hP hK
  obtain ⟨rfl, hZ, hh⟩ := hP
  have hx := Bd.exec
  have hby := Bd.bytes
  have hml : c.maxLocals = 4 := hml0
  have hown : s.vm.findClass "com/example/tributary/tributary/model/Time" = some m.cls := findClass_of_methodNamed Bd.named
  have hnm := (name_of_methodNamed Bd.named Bd.method).1
  have X0 : Stand p l e ({ frames := 1, cells := 0, slots := 0, locals := 12 } : Room) s m #[(.ref ra), (.long q1), (.int (0 : Int32))] below meth c s₁ [] 0 0 := Stand.of_body Bd
  have hlk : meth.locks = false := by first | exact BodyLoose.notSynchronized (by assumption) | exact Body.notSynchronized (by assumption)
  have e0 : s₁.heap = h0 := by rw [← hh, Bd.state]; rfl
  have N0 := Fr.nil n0
  have pre0 : ∀ t, Steps p.tables e below (s₁.setTop (mkF m 0 #[rv ra, jv q1, s2, iv (0 : Int32)] [])) t → Steps p.tables e below (s₁.setTop (entryFrame m #[(.ref ra), (.long q1), (.int (0 : Int32))] 4)) t := fun t k => castTop (ef_13 m ra q1) k
  generalize s₁.setTop (entryFrame m #[(.ref ra), (.long q1), (.int (0 : Int32))] 4) = B0 at pre0 ⊢
  have H : ∀ (i : Nat) {d : Jvm.Cond}, tables_1[i]? = some d → d.before a0 Z = true := fun i d q => hw d (List.mem_of_getElem? q)
  have D : ∀ {pc : Nat} {r : Except DecodeError (Instr × Nat)}, decode prog_64_method_1_code pc = r → decode c.code pc = r := fun q => hb hby q
  obtain ⟨T1, X1, e1, st1⟩ := initO X0 hx hZ hown (H 79 rfl) (H 14 rfl) (H 15 rfl) e0 (g := (mkF m 1 #[rv ra, jv q1, s2, iv (0 : Int32)] [(.ref ra)])) rfl (by rw [hml]; rfl) rfl (D d13_1) (by decide) (W := 0) (by show 2 * 0 + _ ≤ _; exact Nat.le_of_eq rfl) (by decide)
  obtain ⟨T2, h2, X2, e2, W2, st2⟩ := putF X1 hx hZ hown (host := "") (Or.inl (H 80 rfl)) Via.refl e1 PF0 PE0 (Or.inr ⟨(H 81 rfl), rfl, hnm⟩) (H 75 rfl) (ty := .long) (by decide) rfl rfl (g := (mkF m 6 #[rv ra, jv q1, s2, iv (0 : Int32)] [(.long q1), (.ref ra)])) rfl rfl (D d13_6)
  have A2_ra := PE0.wr W2
  have F2_ra_1 := PF1.other W2 (Or.inr (own_sn_4 hw))
  have sz2 := Nat.le_trans Z0 (Keep.of_wr W2).1
  have K2 := (Keep.refl h0 ([ra] : List Addr)).wr W2 (Or.inl (by simp))
  have N2 := Fr.snoc X2 N0 PG0
  have F2_s : Fld Z h2 ra "com/example/tributary/tributary/model/Time" "value" "J" (.long q1) := PF0.same W2
  obtain ⟨T3, h3, X3, e3, W3, st3⟩ := putF X2 hx hZ hown (host := "") (Or.inl (H 82 rfl)) Via.refl e2 F2_ra_1 A2_ra (Or.inr ⟨(H 83 rfl), rfl, hnm⟩) (H 75 rfl) (ty := .boolean) (by decide) rfl rfl (g := (mkF m 11 #[rv ra, jv q1, s2, iv (0 : Int32)] [(.int (0 : Int32)), (.ref ra)])) rfl rfl (D d13_11)
  have A3_ra := A2_ra.wr W3
  have F3_ra_0 := F2_s.other W3 (Or.inr (own_sn_5 hw))
  have sz3 := Nat.le_trans sz2 (Keep.of_wr W3).1
  have K3 := K2.wr W3 (Or.inl (by simp))
  have N3 := Fr.snoc X3 N2 PG0
  have F3_s : Fld Z h3 ra "com/example/tributary/tributary/model/Time" "infinite" "Z" (.int (0 : Int32)) := F2_ra_1.same W3
  obtain ⟨fs, hr, hrun, hended, hW, hsame⟩ := X3.leave (v := none) (fun _ => rfl) hlk
  refine ⟨_, _, pre0 _ ?_, hrun, hended, _, _, rfl, ?_, ⟨_, rfl⟩, hW, hsame.mono (by decide) (by decide)⟩
  · show Steps p.tables e below (s₁.setTop (mkF m 0 #[rv ra, jv q1, s2, iv (0 : Int32)] [])) _
    refine XS.aloadN X0.here hx rfl (D d13_0) rfl rfl ?_
    refine st1 _ ?_
    refine XS.aloadN X1.here hx rfl (D d13_4) rfl rfl ?_
    refine XS.lloadN X1.here hx rfl (D d13_5) rfl ?_
    refine st2 _ ?_
    refine XS.aloadN X2.here hx rfl (D d13_9) rfl rfl ?_
    refine XS.iloadN X2.here hx rfl (D d13_10) rfl ?_
    show Steps p.tables e below (T2.setTop (mkF m 11 #[rv ra, jv q1, s2, iv (0 : Int32)] [(.int (0 : Int32)), (.ref ra)])) _
    refine st3 _ ?_
    show Steps p.tables e below (T3.setTop (mkF m 14 #[rv ra, jv q1, s2, iv (0 : Int32)] [])) _
    exact X3.returnOut hx Bd.returns (D d13_14) hr
  · show Q13 Z ra q1 h0 n0 _ T3.heap _
    rw [e3]
    exact ⟨rfl, N3, K3, A3_ra, F3_ra_0, F3_s⟩
theorem d12_0 : decode prog_64_method_2_code 0 = .ok (.new 1, 3) := by decide +kernel
theorem d12_3 : decode prog_64_method_2_code 3 = .ok (.dup, 1) := by decide +kernel
theorem d12_4 : decode prog_64_method_2_code 4 = .ok (.lload_n 0, 1) := by decide +kernel
theorem d12_5 : decode prog_64_method_2_code 5 = .ok (.iconst 0, 1) := by decide +kernel
theorem d12_6 : decode prog_64_method_2_code 6 = .ok (.invokespecial 17, 3) := by decide +kernel
theorem d12_9 : decode prog_64_method_2_code 9 = .ok (.areturn, 1) := by decide +kernel
theorem ef_12 (m : MethodId) (q0 : Int64) : entryFrame m #[(.long q0)] 2 = mkF m 0 #[jv q0, s2] [] := by first | (simp [entryFrame, mkF, argsToLocals, Value.category, maxLocals]; done) | rfl
theorem pd_7 : parseMethodDescriptor "(JZ)V" = some ⟨[.long, .boolean], none⟩ := by decide +kernel
def Q12 (Z : State) (q0 : Int64)  (h0 : Heap) (n0 : Nat) (v : Option Value) (h : Heap) (L : List Loc) : Prop := v = some (.ref h0.size) ∧ Fr n0 L ∧ Keep h0 h [] ∧ Exa Z h h0.size "com/example/tributary/tributary/model/Time" ∧ Fld Z h h0.size "com/example/tributary/tributary/model/Time" "value" "J" (.long q0) ∧ Fld Z h h0.size "com/example/tributary/tributary/model/Time" "infinite" "Z" (.int (0 : Int32))
set_option maxRecDepth 65536 in
set_option maxHeartbeats 40000000 in
theorem rm12 (l : Launch) (Z : State) (a0 : Array Value) (hw : ∀ d ∈ tables_1, d.before a0 Z = true) (ws : List Jvm.Cond) (q0 : Int64)  (h0 : Heap) (n0 : Nat) (Z0 : n0 ≤ h0.size)  :
    MetFree l (⟨"com/example/tributary/tributary/model/Time", "of", "(J)Lcom/example/tributary/tributary/model/Time;"⟩ : MethodName) (head1 (Jvm.Cond.code (⟨"com/example/tributary/tributary/model/Time", "of", "(J)Lcom/example/tributary/tributary/model/Time;"⟩ : MethodName) prog_64_method_2_code 2 (some (.object "com/example/tributary/tributary/model/Time")) :: ws) ({ frames := 2, cells := 1, slots := 2, locals := 28 } : Room)) (fun a U => a = #[(.long q0)] ∧ Z.Warmed39 U.vm ∧ U.heap = h0) (fun _ _ _ _ _ => True) (fun _ U o U' => ∃ v L, o = .returned v ∧ Q12 Z q0 h0 n0 v U'.heap L ∧ FrameEnd U o U' L ({ frames := 2, cells := 1, slots := 2, locals := 28 } : Room).cells ({ frames := 2, cells := 1, slots := 2, locals := 28 } : Room).slots) := by
  refine MetFree.of_bodySF (plainFor_of_name pn_3) hisR ?_
  intro p e s m args below meth c s₁ Bd hml0 hP hK
  obtain ⟨rfl, hZ, hh⟩ := hP
  have hx := Bd.exec
  have hby := Bd.bytes
  have hml : c.maxLocals = 2 := hml0
  have hown : s.vm.findClass "com/example/tributary/tributary/model/Time" = some m.cls := findClass_of_methodNamed Bd.named
  have hnm := (name_of_methodNamed Bd.named Bd.method).1
  have X0 : Stand p l e ({ frames := 2, cells := 1, slots := 2, locals := 28 } : Room) s m #[(.long q0)] below meth c s₁ [] 0 0 := Stand.of_body Bd
  have hlk : meth.locks = false := by first | exact BodyLoose.notSynchronized (by assumption) | exact Body.notSynchronized (by assumption)
  have e0 : s₁.heap = h0 := by rw [← hh, Bd.state]; rfl
  have N0 := Fr.nil n0
  have pre0 : ∀ t, Steps p.tables e below (s₁.setTop (mkF m 0 #[jv q0, s2] [])) t → Steps p.tables e below (s₁.setTop (entryFrame m #[(.long q0)] 2)) t := fun t k => castTop (ef_12 m q0) k
  generalize s₁.setTop (entryFrame m #[(.long q0)] 2) = B0 at pre0 ⊢
  have H : ∀ (i : Nat) {d : Jvm.Cond}, tables_1[i]? = some d → d.before a0 Z = true := fun i d q => hw d (List.mem_of_getElem? q)
  have D : ∀ {pc : Nat} {r : Except DecodeError (Instr × Nat)}, decode prog_64_method_2_code pc = r → decode c.code pc = r := fun q => hb hby q
  obtain ⟨T1, h1, X1, e1, E1, A1, D1, -, st1⟩ := newO X0 hx hZ hown (H 74 rfl) (H 75 rfl) (H 56 rfl) e0 (g := (mkF m 0 #[jv q0, s2] [])) rfl (D d12_0) (by decide) (by decide)
  obtain ⟨a1, g1⟩ : ∃ z, z = h0.size := ⟨_, rfl⟩
  rw [← g1] at A1 D1 st1
  have ge_a1 : n0 ≤ a1 := g1 ▸ Z0
  have go_a1 : h0.size ≤ a1 := g1 ▸ (Keep.refl h0 []).1
  have sz1 := Nat.le_trans Z0 E1.1
  have K1 : Keep h0 h1 [] := (Keep.refl h0 []).ext E1
  have F1_n0 : Fld Z h1 a1 "com/example/tributary/tributary/model/Time" "value" "J" (.long (0 : Int64)) := D1 (Or.inr (H 81 rfl)) (ty := .long) (by decide)
  have F1_n1 : Fld Z h1 a1 "com/example/tributary/tributary/model/Time" "infinite" "Z" (.int (0 : Int32)) := D1 (Or.inr (H 83 rfl)) (ty := .boolean) (by decide)
  obtain ⟨_, _, ⟨T2, L2, k2, n2⟩, -, X2, ⟨Lc2, hQ2, l2, y2, z2⟩, st2⟩ := X1.specialBack hx (y := (⟨"com/example/tributary/tributary/model/Time", "<init>", "(JZ)V"⟩ : MethodName)) rfl hown (mvT hZ (H 76 rfl)) (mvT hZ (H 77 rfl)) (mvT hZ (H 78 rfl)) (by decide) (backOf (W := 1) (rm13 l Z a0 hw [] a1 q0  h1 n0 sz1 A1 F1_n0 F1_n1 ge_a1 ) hZ (H 78 rfl) (H 56 rfl) (by decide) (by decide)) (g := (mkF m 6 #[jv q0, s2] [(.int (0 : Int32)), (.long q0), (.ref a1), (.ref a1)])) rfl (by rw [hml]; rfl) (Steps.refl _) (a := a1) (argsL := [(.long q0), (.int (0 : Int32))]) (rest := [(.ref a1)]) (lenOf pd_7 rfl) rfl (by show 2 * 0 + _ ≤ _; exact Nat.le_of_eq rfl) (D d12_6) (fun _ _ => ⟨rfl, e1, (by decide : 1 + 0 ≤ _), (by decide : 2 + 0 ≤ _)⟩)
  dsimp only [Pt.U, Pt.locs, Pt.cells, Pt.slots] at X2 l2 y2 z2 st2 hQ2
  replace y2 : k2 = 1 := y2
  replace z2 : n2 = 2 := z2
  replace l2 := l2.symm; replace y2 := y2.symm; replace z2 := z2.symm; subst l2 y2 z2
  obtain ⟨rfl, N2q, K2, A2_o0, F2_o0, F2_o1⟩ := hQ2
  obtain ⟨h2, e2⟩ : ∃ z, T2.heap = z := ⟨_, rfl⟩
  rw [e2] at K2 A2_o0 F2_o0 F2_o1
  have A2_a1 := A1.keep K2
  have sz2 : n0 ≤ h2.size := Nat.le_trans sz1 K2.1
  have KK2 : Keep h0 h2 [] := K1.trans K2 (allS (Or.inr go_a1) all0)
  have N2 := Fr.app N0 N2q
  obtain ⟨fs, hr, hrun, hended, hW, hsame⟩ := X2.leave (v := some (.ref a1)) (fun h => by rw [Bd.returns] at h; cases h) hlk
  refine ⟨_, _, pre0 _ ?_, hrun, hended, _, _, rfl, ?_, ⟨_, rfl⟩, hW, hsame.mono (by decide) (by decide)⟩
  · show Steps p.tables e below (s₁.setTop (mkF m 0 #[jv q0, s2] [])) _
    refine st1 _ ?_
    refine XS.dup X1.here hx rfl (D d12_3) rfl rfl ?_
    refine XS.lloadN X1.here hx rfl (D d12_4) rfl ?_
    refine XS.iconst X1.here hx rfl (D d12_5) ?_
    refine st2.trans ?_
    show Steps p.tables e below (T2.setTop (mkF m 9 #[jv q0, s2] [(.ref a1)])) _
    exact retOut X2 hx Bd.returns rfl (Or.inr (Or.inr (Or.inr (Or.inr ⟨rfl, rfl, rfl⟩)))) (D d12_9) hr
  · show Q12 Z q0 h0 n0 _ T2.heap _
    rw [e2]
    exact ⟨by rw [g1], N2, KK2, (by rw [← g1]; exact A2_o0), (by rw [← g1]; exact F2_o0), (by rw [← g1]; exact F2_o1)⟩
theorem d14_0 : decode prog_64_method_7_code 0 = .ok (.aload_n 0, 1) := by decide +kernel
theorem d14_1 : decode prog_64_method_7_code 1 = .ok (.getfield 13, 3) := by decide +kernel
theorem d14_4 : decode prog_64_method_7_code 4 = .ok (.ireturn, 1) := by decide +kernel
theorem ef_14 (m : MethodId) (ra : Addr) : entryFrame m #[(.ref ra)] 1 = mkF m 0 #[rv ra] [] := by first | (simp [entryFrame, mkF, argsToLocals, Value.category, maxLocals]; done) | rfl
def Q14 (Z : State) (ra : Addr)  (h0 : Heap) (n0 : Nat) (v : Option Value) (h : Heap) (L : List Loc) : Prop := v = some (.int (0 : Int32)) ∧ Fr n0 L ∧ h = h0
set_option maxRecDepth 65536 in
set_option maxHeartbeats 40000000 in
theorem rm14 (l : Launch) (Z : State) (a0 : Array Value) (hw : ∀ d ∈ tables_1, d.before a0 Z = true) (ws : List Jvm.Cond) (ra : Addr)  (h0 : Heap) (n0 : Nat) (Z0 : n0 ≤ h0.size) (PE0 : Exa Z h0 ra "com/example/tributary/tributary/model/Time") (PF0 : Fld Z h0 ra "com/example/tributary/tributary/model/Time" "infinite" "Z" (.int (0 : Int32))) :
    MetFree l (⟨"com/example/tributary/tributary/model/Time", "isInfinite", "()Z"⟩ : MethodName) (head1 (Jvm.Cond.code (⟨"com/example/tributary/tributary/model/Time", "isInfinite", "()Z"⟩ : MethodName) prog_64_method_7_code 1 (some .boolean) :: ws) ({ frames := 0, cells := 0, slots := 0, locals := 0 } : Room)) (fun a U => a = #[(.ref ra)] ∧ Z.Warmed39 U.vm ∧ U.heap = h0) (fun _ _ _ _ _ => True) (fun _ U o U' => ∃ v L, o = .returned v ∧ Q14 Z ra h0 n0 v U'.heap L ∧ FrameEnd U o U' L ({ frames := 0, cells := 0, slots := 0, locals := 0 } : Room).cells ({ frames := 0, cells := 0, slots := 0, locals := 0 } : Room).slots) := by
  refine MetFree.of_bodySF (plainFor_of_name pn_3) hisR ?_
  intro p e s m args below meth c s₁ Bd hml0 hP hK
  obtain ⟨rfl, hZ, hh⟩ := hP
  have hx := Bd.exec
  have hby := Bd.bytes
  have hml : c.maxLocals = 1 := hml0
  have hown : s.vm.findClass "com/example/tributary/tributary/model/Time" = some m.cls := findClass_of_methodNamed Bd.named
  have hnm := (name_of_methodNamed Bd.named Bd.method).1
  have X0 : Stand p l e ({ frames := 0, cells := 0, slots := 0, locals := 0 } : Room) s m #[(.ref ra)] below meth c s₁ [] 0 0 := Stand.of_body Bd
  have hlk : meth.locks = false := by first | exact BodyLoose.notSynchronized (by assumption) | exact Body.notSynchronized (by assumption)
  have e0 : s₁.heap = h0 := by rw [← hh, Bd.state]; rfl
  have N0 := Fr.nil n0
  have pre0 : ∀ t, Steps p.tables e below (s₁.setTop (mkF m 0 #[rv ra] [])) t → Steps p.tables e below (s₁.setTop (entryFrame m #[(.ref ra)] 1)) t := fun t k => castTop (ef_14 m ra) k
  generalize s₁.setTop (entryFrame m #[(.ref ra)] 1) = B0 at pre0 ⊢
  have H : ∀ (i : Nat) {d : Jvm.Cond}, tables_1[i]? = some d → d.before a0 Z = true := fun i d q => hw d (List.mem_of_getElem? q)
  have D : ∀ {pc : Nat} {r : Except DecodeError (Instr × Nat)}, decode prog_64_method_7_code pc = r → decode c.code pc = r := fun q => hb hby q
  obtain ⟨T1, X1, e1, st1⟩ := getF X0 hx hZ hown (host := "") (Or.inl (H 82 rfl)) Via.refl e0 PF0 (g := (mkF m 1 #[rv ra] [(.ref ra)])) rfl rfl (D d14_1)
  obtain ⟨fs, hr, hrun, hended, hW, hsame⟩ := X1.leave (v := some (.int (0 : Int32))) (fun h => by rw [Bd.returns] at h; cases h) hlk
  refine ⟨_, _, pre0 _ ?_, hrun, hended, _, _, rfl, ?_, ⟨_, rfl⟩, hW, hsame.mono (by decide) (by decide)⟩
  · show Steps p.tables e below (s₁.setTop (mkF m 0 #[rv ra] [])) _
    refine XS.aloadN X0.here hx rfl (D d14_0) rfl rfl ?_
    refine st1 _ ?_
    show Steps p.tables e below (T1.setTop (mkF m 4 #[rv ra] [(.int (0 : Int32))])) _
    exact retN X1 hx (t := .boolean) Bd.returns (by simp) (D d14_4) hr
  · show Q14 Z ra h0 n0 _ T1.heap _
    rw [e1]
    exact ⟨rfl, N0, rfl⟩
theorem d15_0 : decode prog_64_method_8_code 0 = .ok (.aload_n 0, 1) := by decide +kernel
theorem d15_1 : decode prog_64_method_8_code 1 = .ok (.getfield 13, 3) := by decide +kernel
theorem d15_4 : decode prog_64_method_8_code 4 = .ok (.ifCond .eq 13, 3) := by decide +kernel
theorem d15_7 : decode prog_64_method_8_code 7 = .ok (.new 76, 3) := by decide +kernel
theorem d15_10 : decode prog_64_method_8_code 10 = .ok (.dup, 1) := by decide +kernel
theorem d15_11 : decode prog_64_method_8_code 11 = .ok (.ldc 78, 2) := by decide +kernel
theorem d15_13 : decode prog_64_method_8_code 13 = .ok (.invokespecial 80, 3) := by decide +kernel
theorem d15_16 : decode prog_64_method_8_code 16 = .ok (.athrow, 1) := by decide +kernel
theorem d15_17 : decode prog_64_method_8_code 17 = .ok (.aload_n 0, 1) := by decide +kernel
theorem d15_18 : decode prog_64_method_8_code 18 = .ok (.getfield 9, 3) := by decide +kernel
theorem d15_21 : decode prog_64_method_8_code 21 = .ok (.lreturn, 1) := by decide +kernel
theorem ef_15 (m : MethodId) (ra : Addr) : entryFrame m #[(.ref ra)] 1 = mkF m 0 #[rv ra] [] := by first | (simp [entryFrame, mkF, argsToLocals, Value.category, maxLocals]; done) | rfl
def Q15 (Z : State) (ra : Addr) (v0 : Int64) (h0 : Heap) (n0 : Nat) (v : Option Value) (h : Heap) (L : List Loc) : Prop := v = some (.long v0) ∧ Fr n0 L ∧ h = h0
set_option maxRecDepth 65536 in
set_option maxHeartbeats 40000000 in
theorem rm15 (l : Launch) (Z : State) (a0 : Array Value) (hw : ∀ d ∈ tables_1, d.before a0 Z = true) (ws : List Jvm.Cond) (ra : Addr) (v0 : Int64) (h0 : Heap) (n0 : Nat) (Z0 : n0 ≤ h0.size) (PE0 : Exa Z h0 ra "com/example/tributary/tributary/model/Time") (PF0 : Fld Z h0 ra "com/example/tributary/tributary/model/Time" "infinite" "Z" (.int (0 : Int32))) (PF1 : Fld Z h0 ra "com/example/tributary/tributary/model/Time" "value" "J" (.long v0)) :
    MetFree l (⟨"com/example/tributary/tributary/model/Time", "value", "()J"⟩ : MethodName) (head1 (Jvm.Cond.code (⟨"com/example/tributary/tributary/model/Time", "value", "()J"⟩ : MethodName) prog_64_method_8_code 1 (some .long) :: ws) ({ frames := 0, cells := 0, slots := 0, locals := 0 } : Room)) (fun a U => a = #[(.ref ra)] ∧ Z.Warmed39 U.vm ∧ U.heap = h0) (fun _ _ _ _ _ => True) (fun _ U o U' => ∃ v L, o = .returned v ∧ Q15 Z ra v0 h0 n0 v U'.heap L ∧ FrameEnd U o U' L ({ frames := 0, cells := 0, slots := 0, locals := 0 } : Room).cells ({ frames := 0, cells := 0, slots := 0, locals := 0 } : Room).slots) := by
  refine MetFree.of_bodySF (plainFor_of_name pn_3) hisR ?_
  intro p e s m args below meth c s₁ Bd hml0 hP hK
  obtain ⟨rfl, hZ, hh⟩ := hP
  have hx := Bd.exec
  have hby := Bd.bytes
  have hml : c.maxLocals = 1 := hml0
  have hown : s.vm.findClass "com/example/tributary/tributary/model/Time" = some m.cls := findClass_of_methodNamed Bd.named
  have hnm := (name_of_methodNamed Bd.named Bd.method).1
  have X0 : Stand p l e ({ frames := 0, cells := 0, slots := 0, locals := 0 } : Room) s m #[(.ref ra)] below meth c s₁ [] 0 0 := Stand.of_body Bd
  have hlk : meth.locks = false := by first | exact BodyLoose.notSynchronized (by assumption) | exact Body.notSynchronized (by assumption)
  have e0 : s₁.heap = h0 := by rw [← hh, Bd.state]; rfl
  have N0 := Fr.nil n0
  have pre0 : ∀ t, Steps p.tables e below (s₁.setTop (mkF m 0 #[rv ra] [])) t → Steps p.tables e below (s₁.setTop (entryFrame m #[(.ref ra)] 1)) t := fun t k => castTop (ef_15 m ra) k
  generalize s₁.setTop (entryFrame m #[(.ref ra)] 1) = B0 at pre0 ⊢
  have H : ∀ (i : Nat) {d : Jvm.Cond}, tables_1[i]? = some d → d.before a0 Z = true := fun i d q => hw d (List.mem_of_getElem? q)
  have D : ∀ {pc : Nat} {r : Except DecodeError (Instr × Nat)}, decode prog_64_method_8_code pc = r → decode c.code pc = r := fun q => hb hby q
  obtain ⟨T1, X1, e1, st1⟩ := getF X0 hx hZ hown (host := "") (Or.inl (H 82 rfl)) Via.refl e0 PF0 (g := (mkF m 1 #[rv ra] [(.ref ra)])) rfl rfl (D d15_1)
  obtain ⟨T2, X2, e2, st2⟩ := getF X1 hx hZ hown (host := "") (Or.inl (H 80 rfl)) Via.refl e1 PF1 (g := (mkF m 18 #[rv ra] [(.ref ra)])) rfl rfl (D d15_18)
  obtain ⟨fs, hr, hrun, hended, hW, hsame⟩ := X2.leave (v := some (.long v0)) (fun h => by rw [Bd.returns] at h; cases h) hlk
  refine ⟨_, _, pre0 _ ?_, hrun, hended, _, _, rfl, ?_, ⟨_, rfl⟩, hW, hsame.mono (by decide) (by decide)⟩
  · show Steps p.tables e below (s₁.setTop (mkF m 0 #[rv ra] [])) _
    refine XS.aloadN X0.here hx rfl (D d15_0) rfl rfl ?_
    refine st1 _ ?_
    show Steps p.tables e below (T1.setTop (mkF m 4 #[rv ra] [(.int (0 : Int32))])) _
    refine XS.ifYes X1.here hx rfl (pc0 := 4) (pc' := 17) rfl (D d15_4) rfl (by decide) (by decide) (by decide) ?_
    refine XS.aloadN X1.here hx rfl (D d15_17) rfl rfl ?_
    refine st2 _ ?_
    show Steps p.tables e below (T2.setTop (mkF m 21 #[rv ra] [(.long v0)])) _
    exact X2.lreturnOut hx Bd.returns (D d15_21) hr
  · show Q15 Z ra v0 h0 n0 _ T2.heap _
    rw [e2]
    exact ⟨rfl, N0, rfl⟩
theorem d11_0 : decode prog_64_method_5_code 0 = .ok (.iload_n 1, 1) := by decide +kernel
theorem d11_1 : decode prog_64_method_5_code 1 = .ok (.iload_n 2, 1) := by decide +kernel
theorem d11_2 : decode prog_64_method_5_code 2 = .ok (.if_icmp .ge 15, 3) := by decide +kernel
theorem d11_5 : decode prog_64_method_5_code 5 = .ok (.aload_n 0, 1) := by decide +kernel
theorem d11_6 : decode prog_64_method_5_code 6 = .ok (.iload_n 1, 1) := by decide +kernel
theorem d11_7 : decode prog_64_method_5_code 7 = .ok (.baload, 1) := by decide +kernel
theorem d11_8 : decode prog_64_method_5_code 8 = .ok (.bipush 45, 2) := by decide +kernel
theorem d11_10 : decode prog_64_method_5_code 10 = .ok (.if_icmp .ne 7, 3) := by decide +kernel
theorem d11_13 : decode prog_64_method_5_code 13 = .ok (.iconst 1, 1) := by decide +kernel
theorem d11_14 : decode prog_64_method_5_code 14 = .ok (.goto 4, 3) := by decide +kernel
theorem d11_17 : decode prog_64_method_5_code 17 = .ok (.iconst 0, 1) := by decide +kernel
theorem d11_18 : decode prog_64_method_5_code 18 = .ok (.istore_n 3, 1) := by decide +kernel
theorem d11_19 : decode prog_64_method_5_code 19 = .ok (.iload_n 3, 1) := by decide +kernel
theorem d11_20 : decode prog_64_method_5_code 20 = .ok (.ifCond .eq 9, 3) := by decide +kernel
theorem d11_23 : decode prog_64_method_5_code 23 = .ok (.iload_n 1, 1) := by decide +kernel
theorem d11_24 : decode prog_64_method_5_code 24 = .ok (.iconst 1, 1) := by decide +kernel
theorem d11_25 : decode prog_64_method_5_code 25 = .ok (.iadd, 1) := by decide +kernel
theorem d11_26 : decode prog_64_method_5_code 26 = .ok (.goto 4, 3) := by decide +kernel
theorem d11_29 : decode prog_64_method_5_code 29 = .ok (.iload_n 1, 1) := by decide +kernel
theorem d11_30 : decode prog_64_method_5_code 30 = .ok (.istore 4, 2) := by decide +kernel
theorem d11_32 : decode prog_64_method_5_code 32 = .ok (.iload 4, 2) := by decide +kernel
theorem d11_34 : decode prog_64_method_5_code 34 = .ok (.iload_n 2, 1) := by decide +kernel
theorem d11_35 : decode prog_64_method_5_code 35 = .ok (.if_icmp .ne 7, 3) := by decide +kernel
theorem d11_38 : decode prog_64_method_5_code 38 = .ok (.invokestatic 53, 3) := by decide +kernel
theorem d11_41 : decode prog_64_method_5_code 41 = .ok (.athrow, 1) := by decide +kernel
theorem d11_42 : decode prog_64_method_5_code 42 = .ok (.iload_n 3, 1) := by decide +kernel
theorem d11_43 : decode prog_64_method_5_code 43 = .ok (.ifCond .eq 9, 3) := by decide +kernel
theorem d11_46 : decode prog_64_method_5_code 46 = .ok (.ldc2_w 59, 3) := by decide +kernel
theorem d11_49 : decode prog_64_method_5_code 49 = .ok (.goto 6, 3) := by decide +kernel
theorem d11_52 : decode prog_64_method_5_code 52 = .ok (.ldc2_w 61, 3) := by decide +kernel
theorem d11_55 : decode prog_64_method_5_code 55 = .ok (.lstore 5, 2) := by decide +kernel
theorem d11_57 : decode prog_64_method_5_code 57 = .ok (.lconst 0, 1) := by decide +kernel
theorem d11_58 : decode prog_64_method_5_code 58 = .ok (.lstore 7, 2) := by decide +kernel
theorem d11_60 : decode prog_64_method_5_code 60 = .ok (.iconst 0, 1) := by decide +kernel
theorem d11_61 : decode prog_64_method_5_code 61 = .ok (.istore 9, 2) := by decide +kernel
theorem d11_63 : decode prog_64_method_5_code 63 = .ok (.iload 4, 2) := by decide +kernel
theorem d11_65 : decode prog_64_method_5_code 65 = .ok (.istore 10, 2) := by decide +kernel
theorem d11_67 : decode prog_64_method_5_code 67 = .ok (.iload 10, 2) := by decide +kernel
theorem d11_69 : decode prog_64_method_5_code 69 = .ok (.iload_n 2, 1) := by decide +kernel
theorem d11_70 : decode prog_64_method_5_code 70 = .ok (.if_icmp .ge 73, 3) := by decide +kernel
theorem d11_73 : decode prog_64_method_5_code 73 = .ok (.aload_n 0, 1) := by decide +kernel
theorem d11_74 : decode prog_64_method_5_code 74 = .ok (.iload 10, 2) := by decide +kernel
theorem d11_76 : decode prog_64_method_5_code 76 = .ok (.baload, 1) := by decide +kernel
theorem d11_77 : decode prog_64_method_5_code 77 = .ok (.bipush 48, 2) := by decide +kernel
theorem d11_79 : decode prog_64_method_5_code 79 = .ok (.isub, 1) := by decide +kernel
theorem d11_80 : decode prog_64_method_5_code 80 = .ok (.istore 11, 2) := by decide +kernel
theorem d11_82 : decode prog_64_method_5_code 82 = .ok (.iload 11, 2) := by decide +kernel
theorem d11_84 : decode prog_64_method_5_code 84 = .ok (.ifCond .lt 10, 3) := by decide +kernel
theorem d11_87 : decode prog_64_method_5_code 87 = .ok (.iload 11, 2) := by decide +kernel
theorem d11_89 : decode prog_64_method_5_code 89 = .ok (.bipush 9, 2) := by decide +kernel
theorem d11_91 : decode prog_64_method_5_code 91 = .ok (.if_icmp .le 7, 3) := by decide +kernel
theorem d11_94 : decode prog_64_method_5_code 94 = .ok (.invokestatic 53, 3) := by decide +kernel
theorem d11_97 : decode prog_64_method_5_code 97 = .ok (.athrow, 1) := by decide +kernel
theorem d11_98 : decode prog_64_method_5_code 98 = .ok (.iload 9, 2) := by decide +kernel
theorem d11_100 : decode prog_64_method_5_code 100 = .ok (.ifCond .ne 19, 3) := by decide +kernel
theorem d11_103 : decode prog_64_method_5_code 103 = .ok (.lload 7, 2) := by decide +kernel
theorem d11_105 : decode prog_64_method_5_code 105 = .ok (.lload 5, 2) := by decide +kernel
theorem d11_107 : decode prog_64_method_5_code 107 = .ok (.iload 11, 2) := by decide +kernel
theorem d11_109 : decode prog_64_method_5_code 109 = .ok (.i2l, 1) := by decide +kernel
theorem d11_110 : decode prog_64_method_5_code 110 = .ok (.ladd, 1) := by decide +kernel
theorem d11_111 : decode prog_64_method_5_code 111 = .ok (.ldc2_w 63, 3) := by decide +kernel
theorem d11_114 : decode prog_64_method_5_code 114 = .ok (.ldiv, 1) := by decide +kernel
theorem d11_115 : decode prog_64_method_5_code 115 = .ok (.lcmp, 1) := by decide +kernel
theorem d11_116 : decode prog_64_method_5_code 116 = .ok (.ifCond .ge 9, 3) := by decide +kernel
theorem d11_119 : decode prog_64_method_5_code 119 = .ok (.iconst 1, 1) := by decide +kernel
theorem d11_120 : decode prog_64_method_5_code 120 = .ok (.istore 9, 2) := by decide +kernel
theorem d11_122 : decode prog_64_method_5_code 122 = .ok (.goto 15, 3) := by decide +kernel
theorem d11_125 : decode prog_64_method_5_code 125 = .ok (.lload 7, 2) := by decide +kernel
theorem d11_127 : decode prog_64_method_5_code 127 = .ok (.ldc2_w 63, 3) := by decide +kernel
theorem d11_130 : decode prog_64_method_5_code 130 = .ok (.lmul, 1) := by decide +kernel
theorem d11_131 : decode prog_64_method_5_code 131 = .ok (.iload 11, 2) := by decide +kernel
theorem d11_133 : decode prog_64_method_5_code 133 = .ok (.i2l, 1) := by decide +kernel
theorem d11_134 : decode prog_64_method_5_code 134 = .ok (.lsub, 1) := by decide +kernel
theorem d11_135 : decode prog_64_method_5_code 135 = .ok (.lstore 7, 2) := by decide +kernel
theorem d11_137 : decode prog_64_method_5_code 137 = .ok (.iinc 10 1, 3) := by decide +kernel
theorem d11_140 : decode prog_64_method_5_code 140 = .ok (.goto (-73), 3) := by decide +kernel
theorem d11_143 : decode prog_64_method_5_code 143 = .ok (.iload_n 2, 1) := by decide +kernel
theorem d11_144 : decode prog_64_method_5_code 144 = .ok (.iload 4, 2) := by decide +kernel
theorem d11_146 : decode prog_64_method_5_code 146 = .ok (.isub, 1) := by decide +kernel
theorem d11_147 : decode prog_64_method_5_code 147 = .ok (.bipush 19, 2) := by decide +kernel
theorem d11_149 : decode prog_64_method_5_code 149 = .ok (.if_icmp .le 13, 3) := by decide +kernel
theorem d11_152 : decode prog_64_method_5_code 152 = .ok (.new 65, 3) := by decide +kernel
theorem d11_155 : decode prog_64_method_5_code 155 = .ok (.dup, 1) := by decide +kernel
theorem d11_156 : decode prog_64_method_5_code 156 = .ok (.ldc 67, 2) := by decide +kernel
theorem d11_158 : decode prog_64_method_5_code 158 = .ok (.invokespecial 69, 3) := by decide +kernel
theorem d11_161 : decode prog_64_method_5_code 161 = .ok (.athrow, 1) := by decide +kernel
theorem d11_162 : decode prog_64_method_5_code 162 = .ok (.iload 9, 2) := by decide +kernel
theorem d11_164 : decode prog_64_method_5_code 164 = .ok (.ifCond .eq 13, 3) := by decide +kernel
theorem d11_167 : decode prog_64_method_5_code 167 = .ok (.new 65, 3) := by decide +kernel
theorem d11_170 : decode prog_64_method_5_code 170 = .ok (.dup, 1) := by decide +kernel
theorem d11_171 : decode prog_64_method_5_code 171 = .ok (.ldc 72, 2) := by decide +kernel
theorem d11_173 : decode prog_64_method_5_code 173 = .ok (.invokespecial 69, 3) := by decide +kernel
theorem d11_176 : decode prog_64_method_5_code 176 = .ok (.athrow, 1) := by decide +kernel
theorem d11_177 : decode prog_64_method_5_code 177 = .ok (.iload_n 3, 1) := by decide +kernel
theorem d11_178 : decode prog_64_method_5_code 178 = .ok (.ifCond .eq 8, 3) := by decide +kernel
theorem d11_181 : decode prog_64_method_5_code 181 = .ok (.lload 7, 2) := by decide +kernel
theorem d11_183 : decode prog_64_method_5_code 183 = .ok (.goto 6, 3) := by decide +kernel
theorem d11_186 : decode prog_64_method_5_code 186 = .ok (.lload 7, 2) := by decide +kernel
theorem d11_188 : decode prog_64_method_5_code 188 = .ok (.lneg, 1) := by decide +kernel
theorem d11_189 : decode prog_64_method_5_code 189 = .ok (.lreturn, 1) := by decide +kernel
theorem ef_11 (m : MethodId) (ra : Addr) (x0 : Int32) (te : Int32) : entryFrame m #[(.ref ra), (.int x0), (.int te)] 12 = mkF m 0 #[rv ra, iv x0, iv te, u0, u0, u0, u0, u0, u0, u0, u0, u0] [] := by first | (simp [entryFrame, mkF, argsToLocals, Value.category, maxLocals]; done) | rfl
def Q11 (Z : State) (ra : Addr) (x0 : Int32) (te : Int32) (bs : List Int32) (kn : Int32) (h0 : Heap) (n0 : Nat) (v : Option Value) (h : Heap) (L : List Loc) : Prop := v = some (.long (own_num bs x0 kn)) ∧ Fr n0 L ∧ h = h0
set_option maxRecDepth 65536 in
set_option maxHeartbeats 40000000 in
theorem rm11 (l : Launch) (Z : State) (a0 : Array Value) (hw : ∀ d ∈ tables_1, d.before a0 Z = true) (ws : List Jvm.Cond) (ra : Addr) (x0 : Int32) (te : Int32) (bs : List Int32) (kn : Int32) (h0 : Heap) (n0 : Nat) (Z0 : n0 ≤ h0.size) (PA0 : own_AI Z h0 ra .byte bs) (OK : own_ok bs x0 kn) (HT : te = x0 + kn) :
    MetFree l (⟨"com/example/tributary/tributary/model/Time", "value", "([BII)J"⟩ : MethodName) (head1 (Jvm.Cond.code (⟨"com/example/tributary/tributary/model/Time", "value", "([BII)J"⟩ : MethodName) prog_64_method_5_code 12 (some .long) :: ws) ({ frames := 0, cells := 0, slots := 0, locals := 0 } : Room)) (fun a U => a = #[(.ref ra), (.int x0), (.int te)] ∧ Z.Warmed39 U.vm ∧ U.heap = h0) (fun _ _ _ _ _ => True) (fun _ U o U' => ∃ v L, o = .returned v ∧ Q11 Z ra x0 te bs kn h0 n0 v U'.heap L ∧ FrameEnd U o U' L ({ frames := 0, cells := 0, slots := 0, locals := 0 } : Room).cells ({ frames := 0, cells := 0, slots := 0, locals := 0 } : Room).slots) := by
  refine MetFree.of_bodySF (plainFor_of_name pn_3) hisR ?_
  intro p e s m args below meth c s₁ Bd hml0 hP hK
  obtain ⟨rfl, hZ, hh⟩ := hP
  have hx := Bd.exec
  have hby := Bd.bytes
  have hml : c.maxLocals = 12 := hml0
  have hown : s.vm.findClass "com/example/tributary/tributary/model/Time" = some m.cls := findClass_of_methodNamed Bd.named
  have hnm := (name_of_methodNamed Bd.named Bd.method).1
  have X0 : Stand p l e ({ frames := 0, cells := 0, slots := 0, locals := 0 } : Room) s m #[(.ref ra), (.int x0), (.int te)] below meth c s₁ [] 0 0 := Stand.of_body Bd
  have hlk : meth.locks = false := by first | exact BodyLoose.notSynchronized (by assumption) | exact Body.notSynchronized (by assumption)
  have e0 : s₁.heap = h0 := by rw [← hh, Bd.state]; rfl
  have N0 := Fr.nil n0
  have pre0 : ∀ t, Steps p.tables e below (s₁.setTop (mkF m 0 #[rv ra, iv x0, iv te, u0, u0, u0, u0, u0, u0, u0, u0, u0] [])) t → Steps p.tables e below (s₁.setTop (entryFrame m #[(.ref ra), (.int x0), (.int te)] 12)) t := fun t k => castTop (ef_11 m ra x0 te) k
  generalize s₁.setTop (entryFrame m #[(.ref ra), (.int x0), (.int te)] 12) = B0 at pre0 ⊢
  have H : ∀ (i : Nat) {d : Jvm.Cond}, tables_1[i]? = some d → d.before a0 Z = true := fun i d q => hw d (List.mem_of_getElem? q)
  have D : ∀ {pc : Nat} {r : Except DecodeError (Instr × Nat)}, decode prog_64_method_5_code pc = r → decode c.code pc = r := fun q => hb hby q
  have ft := own_to OK HT
  rcases OK.1 with hk | hk | hk | hk
  · have nn : kn.toInt = 1 := by rw [hk]; decide
    have c1 : x0 < te := Int32.lt_iff_toInt_lt.mpr (by omega)
    have in_7_2 : 0 ≤ (x0).toInt ∧ (x0).toInt < (bs.length : Nat) := (OK.inb (by omega) (by omega))
    have c3 : ¬ ((bs.getD (x0).toInt.toNat 0) = (45 : Int32)) := own_ndig (OK.dg (j := x0) (by omega) (by omega)) (by decide)
    have c4 : ¬ (x0 = te) := (fun q => by have := congrArg Int32.toInt q; omega)
    have pre5 : ∀ t, Steps p.tables e below (s₁.setTop (mkF m 55 #[rv ra, iv x0, iv te, iv (0 : Int32), iv x0, u0, u0, u0, u0, u0, u0, u0] [(.long (-9223372036854775807 : Int64))])) t → Steps p.tables e below B0 t := by
      intro t k
      refine pre0 t ?_
      show Steps p.tables e below (s₁.setTop (mkF m 0 #[rv ra, iv x0, iv te, u0, u0, u0, u0, u0, u0, u0, u0, u0] [])) _
      refine XS.iloadN X0.here hx rfl (D d11_0) rfl ?_
      refine XS.iloadN X0.here hx rfl (D d11_1) rfl ?_
      show Steps p.tables e below (s₁.setTop (mkF m 2 #[rv ra, iv x0, iv te, u0, u0, u0, u0, u0, u0, u0, u0, u0] [(.int te), (.int x0)])) _
      refine XS.icmpNo X0.here hx rfl (D d11_2) rfl ((tlt c1).2.1) ?_
      refine XS.aloadN X0.here hx rfl (D d11_5) rfl rfl ?_
      refine XS.iloadN X0.here hx rfl (D d11_6) rfl ?_
      refine own_baloadB X0 hx hZ e0 PA0 in_7_2 (D d11_7) _ ?_
      refine XS.bipush X0.here hx rfl (D d11_8) ?_
      show Steps p.tables e below (s₁.setTop (mkF m 10 #[rv ra, iv x0, iv te, u0, u0, u0, u0, u0, u0, u0, u0, u0] [(.int (45 : Int32)), (.int (bs.getD (x0).toInt.toNat 0))])) _
      refine XS.icmpYes X0.here hx rfl (pc0 := 10) (pc' := 17) rfl (D d11_10) rfl ((feq c3).2) (by decide) (by decide) ?_
      refine XS.iconst X0.here hx rfl (D d11_17) ?_
      show Steps p.tables e below (s₁.setTop (mkF m 18 #[rv ra, iv x0, iv te, u0, u0, u0, u0, u0, u0, u0, u0, u0] [(.int (0 : Int32))])) _
      refine XS.istoreN X0.here hx rfl (D d11_18) rfl (l' := #[rv ra, iv x0, iv te, iv (0 : Int32), u0, u0, u0, u0, u0, u0, u0, u0]) rfl ?_
      refine XS.iloadN X0.here hx rfl (D d11_19) rfl ?_
      show Steps p.tables e below (s₁.setTop (mkF m 20 #[rv ra, iv x0, iv te, iv (0 : Int32), u0, u0, u0, u0, u0, u0, u0, u0] [(.int (0 : Int32))])) _
      refine XS.ifYes X0.here hx rfl (pc0 := 20) (pc' := 29) rfl (D d11_20) rfl (by decide) (by decide) (by decide) ?_
      refine XS.iloadN X0.here hx rfl (D d11_29) rfl ?_
      refine XS.istore X0.here hx rfl (D d11_30) rfl (l' := #[rv ra, iv x0, iv te, iv (0 : Int32), iv x0, u0, u0, u0, u0, u0, u0, u0]) rfl ?_
      refine XS.iload X0.here hx rfl (D d11_32) rfl ?_
      refine XS.iloadN X0.here hx rfl (D d11_34) rfl ?_
      show Steps p.tables e below (s₁.setTop (mkF m 35 #[rv ra, iv x0, iv te, iv (0 : Int32), iv x0, u0, u0, u0, u0, u0, u0, u0] [(.int te), (.int x0)])) _
      refine XS.icmpYes X0.here hx rfl (pc0 := 35) (pc' := 42) rfl (D d11_35) rfl ((feq c4).2) (by decide) (by decide) ?_
      refine XS.iloadN X0.here hx rfl (D d11_42) rfl ?_
      show Steps p.tables e below (s₁.setTop (mkF m 43 #[rv ra, iv x0, iv te, iv (0 : Int32), iv x0, u0, u0, u0, u0, u0, u0, u0] [(.int (0 : Int32))])) _
      refine XS.ifYes X0.here hx rfl (pc0 := 43) (pc' := 52) rfl (D d11_43) rfl (by decide) (by decide) (by decide) ?_
      refine X0.ldc2Long hx hown (mvT hZ (H 69 rfl)) (g := (mkF m 52 #[rv ra, iv x0, iv te, iv (0 : Int32), iv x0, u0, u0, u0, u0, u0, u0, u0] [])) rfl (D d11_52) _ ?_
      exact k
    have f_x0 : x0.toInt = x0.toInt + 0 := by omega
    have in_76_6 : 0 ≤ (x0).toInt ∧ (x0).toInt < (bs.length : Nat) := (OK.inb (by omega) (by omega))
    obtain ⟨v7, hv7⟩ : ∃ z : Int32, z = ((bs.getD (x0).toInt.toNat 0) - (48 : Int32)) := ⟨_, rfl⟩
    have pre8 : ∀ t, Steps p.tables e below (s₁.setTop (mkF m 80 #[rv ra, iv x0, iv te, iv (0 : Int32), iv x0, jv (-9223372036854775807 : Int64), s2, jv (0 : Int64), s2, iv (0 : Int32), iv x0, u0] [(.int v7)])) t → Steps p.tables e below B0 t := by
      rw [hv7]
      intro t k
      refine pre5 t ?_
      show Steps p.tables e below (s₁.setTop (mkF m 55 #[rv ra, iv x0, iv te, iv (0 : Int32), iv x0, u0, u0, u0, u0, u0, u0, u0] [(.long (-9223372036854775807 : Int64))])) _
      refine XS.lstore X0.here hx rfl (D d11_55) rfl (l' := #[rv ra, iv x0, iv te, iv (0 : Int32), iv x0, jv (-9223372036854775807 : Int64), s2, u0, u0, u0, u0, u0]) rfl ?_
      refine XS.lconst X0.here hx rfl (D d11_57) ?_
      refine XS.lstore X0.here hx rfl (D d11_58) rfl (l' := #[rv ra, iv x0, iv te, iv (0 : Int32), iv x0, jv (-9223372036854775807 : Int64), s2, jv (0 : Int64), s2, u0, u0, u0]) rfl ?_
      refine XS.iconst X0.here hx rfl (D d11_60) ?_
      refine XS.istore X0.here hx rfl (D d11_61) rfl (l' := #[rv ra, iv x0, iv te, iv (0 : Int32), iv x0, jv (-9223372036854775807 : Int64), s2, jv (0 : Int64), s2, iv (0 : Int32), u0, u0]) rfl ?_
      refine XS.iload X0.here hx rfl (D d11_63) rfl ?_
      refine XS.istore X0.here hx rfl (D d11_65) rfl (l' := #[rv ra, iv x0, iv te, iv (0 : Int32), iv x0, jv (-9223372036854775807 : Int64), s2, jv (0 : Int64), s2, iv (0 : Int32), iv x0, u0]) rfl ?_
      refine XS.iload X0.here hx rfl (D d11_67) rfl ?_
      show Steps p.tables e below (s₁.setTop (mkF m 69 #[rv ra, iv x0, iv te, iv (0 : Int32), iv x0, jv (-9223372036854775807 : Int64), s2, jv (0 : Int64), s2, iv (0 : Int32), iv x0, u0] [(.int x0)])) _
      refine XS.iloadN X0.here hx rfl (D d11_69) rfl ?_
      show Steps p.tables e below (s₁.setTop (mkF m 70 #[rv ra, iv x0, iv te, iv (0 : Int32), iv x0, jv (-9223372036854775807 : Int64), s2, jv (0 : Int64), s2, iv (0 : Int32), iv x0, u0] [(.int te), (.int x0)])) _
      refine XS.icmpNo X0.here hx rfl (D d11_70) rfl ((tlt c1).2.1) ?_
      refine XS.aloadN X0.here hx rfl (D d11_73) rfl rfl ?_
      refine XS.iload X0.here hx rfl (D d11_74) rfl ?_
      refine own_baloadB X0 hx hZ e0 PA0 in_76_6 (D d11_76) _ ?_
      refine XS.bipush X0.here hx rfl (D d11_77) ?_
      refine XS.isub X0.here hx rfl (D d11_79) rfl ?_
      exact k
    have db_v7 := own_db hv7 (OK.dg (j := x0) (by omega) (by omega))
    have de_v7 : v7.toInt64 = own_d bs x0 0 := own_dd OK hv7 (by omega)
    have c9 : ¬ (v7 < (0 : Int32)) := own_g4 db_v7.1 (by decide)
    have c10 : ¬ ((9 : Int32) < v7) := own_g2 db_v7.2 (by decide)
    have c11 : ¬ ((0 : Int64) < (((-9223372036854775807 : Int64) + (v7).toInt64) / (10 : Int64))) := own_lim db_v7 (by first | decide | omega)
    have pre12 : ∀ t, Steps p.tables e below (s₁.setTop (mkF m 131 #[rv ra, iv x0, iv te, iv (0 : Int32), iv x0, jv (-9223372036854775807 : Int64), s2, jv (0 : Int64), s2, iv (0 : Int32), iv x0, iv v7] [(.long (0 : Int64))])) t → Steps p.tables e below B0 t := by
      intro t k
      refine pre8 t ?_
      show Steps p.tables e below (s₁.setTop (mkF m 80 #[rv ra, iv x0, iv te, iv (0 : Int32), iv x0, jv (-9223372036854775807 : Int64), s2, jv (0 : Int64), s2, iv (0 : Int32), iv x0, u0] [(.int v7)])) _
      refine XS.istore X0.here hx rfl (D d11_80) rfl (l' := #[rv ra, iv x0, iv te, iv (0 : Int32), iv x0, jv (-9223372036854775807 : Int64), s2, jv (0 : Int64), s2, iv (0 : Int32), iv x0, iv v7]) rfl ?_
      refine XS.iload X0.here hx rfl (D d11_82) rfl ?_
      show Steps p.tables e below (s₁.setTop (mkF m 84 #[rv ra, iv x0, iv te, iv (0 : Int32), iv x0, jv (-9223372036854775807 : Int64), s2, jv (0 : Int64), s2, iv (0 : Int32), iv x0, iv v7] [(.int v7)])) _
      refine XS.ifNo X0.here hx rfl (D d11_84) rfl ((if0 _ _).trans (flt c9).1) ?_
      show Steps p.tables e below (s₁.setTop (mkF m 87 #[rv ra, iv x0, iv te, iv (0 : Int32), iv x0, jv (-9223372036854775807 : Int64), s2, jv (0 : Int64), s2, iv (0 : Int32), iv x0, iv v7] [])) _
      refine XS.iload X0.here hx rfl (D d11_87) rfl ?_
      refine XS.bipush X0.here hx rfl (D d11_89) ?_
      show Steps p.tables e below (s₁.setTop (mkF m 91 #[rv ra, iv x0, iv te, iv (0 : Int32), iv x0, jv (-9223372036854775807 : Int64), s2, jv (0 : Int64), s2, iv (0 : Int32), iv x0, iv v7] [(.int (9 : Int32)), (.int v7)])) _
      refine XS.icmpYes X0.here hx rfl (pc0 := 91) (pc' := 98) rfl (D d11_91) rfl ((flt c10).2.2.2) (by decide) (by decide) ?_
      refine XS.iload X0.here hx rfl (D d11_98) rfl ?_
      show Steps p.tables e below (s₁.setTop (mkF m 100 #[rv ra, iv x0, iv te, iv (0 : Int32), iv x0, jv (-9223372036854775807 : Int64), s2, jv (0 : Int64), s2, iv (0 : Int32), iv x0, iv v7] [(.int (0 : Int32))])) _
      refine XS.ifNo X0.here hx rfl (D d11_100) rfl (by decide) ?_
      refine XS.lload X0.here hx rfl (D d11_103) rfl ?_
      refine XS.lload X0.here hx rfl (D d11_105) rfl ?_
      refine XS.iload X0.here hx rfl (D d11_107) rfl ?_
      refine XS.i2l X0.here hx rfl (D d11_109) rfl ?_
      refine XS.ladd X0.here hx rfl (D d11_110) rfl ?_
      show Steps p.tables e below (s₁.setTop (mkF m 111 #[rv ra, iv x0, iv te, iv (0 : Int32), iv x0, jv (-9223372036854775807 : Int64), s2, jv (0 : Int64), s2, iv (0 : Int32), iv x0, iv v7] [(.long ((-9223372036854775807 : Int64) + (v7).toInt64)), (.long (0 : Int64))])) _
      refine X0.ldc2Long hx hown (mvT hZ (H 70 rfl)) (g := (mkF m 111 #[rv ra, iv x0, iv te, iv (0 : Int32), iv x0, jv (-9223372036854775807 : Int64), s2, jv (0 : Int64), s2, iv (0 : Int32), iv x0, iv v7] [(.long ((-9223372036854775807 : Int64) + (v7).toInt64)), (.long (0 : Int64))])) rfl (D d11_111) _ ?_
      refine XS.ldiv X0.here hx rfl (D d11_114) rfl (by decide) ?_
      refine XS.lcmp X0.here hx rfl (D d11_115) rfl ?_
      show Steps p.tables e below (s₁.setTop (mkF m 116 #[rv ra, iv x0, iv te, iv (0 : Int32), iv x0, jv (-9223372036854775807 : Int64), s2, jv (0 : Int64), s2, iv (0 : Int32), iv x0, iv v7] [(.int (lcmpW (0 : Int64) (((-9223372036854775807 : Int64) + (v7).toInt64) / (10 : Int64))))])) _
      refine XS.ifYes X0.here hx rfl (pc0 := 116) (pc' := 125) rfl (D d11_116) rfl ((if0 _ _).trans (flt (mt (lw_lt (0 : Int64) (((-9223372036854775807 : Int64) + (v7).toInt64) / (10 : Int64))).mp c11)).2.1) (by decide) (by decide) ?_
      refine XS.lload X0.here hx rfl (D d11_125) rfl ?_
      refine X0.ldc2Long hx hown (mvT hZ (H 70 rfl)) (g := (mkF m 127 #[rv ra, iv x0, iv te, iv (0 : Int32), iv x0, jv (-9223372036854775807 : Int64), s2, jv (0 : Int64), s2, iv (0 : Int32), iv x0, iv v7] [(.long (0 : Int64))])) rfl (D d11_127) _ ?_
      refine XS.lmul X0.here hx rfl (D d11_130) rfl ?_
      exact k
    clear pre5 pre8
    obtain ⟨v13, hv13⟩ : ∃ z : Int64, z = ((0 : Int64) - (v7).toInt64) := ⟨_, rfl⟩
    have pre14 : ∀ t, Steps p.tables e below (s₁.setTop (mkF m 135 #[rv ra, iv x0, iv te, iv (0 : Int32), iv x0, jv (-9223372036854775807 : Int64), s2, jv (0 : Int64), s2, iv (0 : Int32), iv x0, iv v7] [(.long v13)])) t → Steps p.tables e below B0 t := by
      rw [hv13]
      intro t k
      refine pre12 t ?_
      show Steps p.tables e below (s₁.setTop (mkF m 131 #[rv ra, iv x0, iv te, iv (0 : Int32), iv x0, jv (-9223372036854775807 : Int64), s2, jv (0 : Int64), s2, iv (0 : Int32), iv x0, iv v7] [(.long (0 : Int64))])) _
      refine XS.iload X0.here hx rfl (D d11_131) rfl ?_
      refine XS.i2l X0.here hx rfl (D d11_133) rfl ?_
      show Steps p.tables e below (s₁.setTop (mkF m 134 #[rv ra, iv x0, iv te, iv (0 : Int32), iv x0, jv (-9223372036854775807 : Int64), s2, jv (0 : Int64), s2, iv (0 : Int32), iv x0, iv v7] [(.long (v7).toInt64), (.long (0 : Int64))])) _
      refine XS.lsub X0.here hx rfl (D d11_134) rfl ?_
      exact k
    have rb_v13 := own_rb0 hv13 db_v7
    obtain ⟨v15, hv15⟩ : ∃ z : Int32, z = (x0 + (1 : Int32)) := ⟨_, rfl⟩
    have pre16 : ∀ t, Steps p.tables e below (s₁.setTop (mkF m 67 #[rv ra, iv x0, iv te, iv (0 : Int32), iv x0, jv (-9223372036854775807 : Int64), s2, jv v13, s2, iv (0 : Int32), iv (x0 + (1 : Int32)), iv v7] [])) t → Steps p.tables e below B0 t := by
      intro t k
      refine pre14 t ?_
      show Steps p.tables e below (s₁.setTop (mkF m 135 #[rv ra, iv x0, iv te, iv (0 : Int32), iv x0, jv (-9223372036854775807 : Int64), s2, jv (0 : Int64), s2, iv (0 : Int32), iv x0, iv v7] [(.long v13)])) _
      refine XS.lstore X0.here hx rfl (D d11_135) rfl (l' := #[rv ra, iv x0, iv te, iv (0 : Int32), iv x0, jv (-9223372036854775807 : Int64), s2, jv v13, s2, iv (0 : Int32), iv x0, iv v7]) rfl ?_
      refine XS.iinc X0.here hx rfl (D d11_137) rfl (l' := #[rv ra, iv x0, iv te, iv (0 : Int32), iv x0, jv (-9223372036854775807 : Int64), s2, jv v13, s2, iv (0 : Int32), iv (x0 + (1 : Int32)), iv v7]) rfl ?_
      refine XS.goto X0.here hx rfl (pc0 := 140) (pc' := 67) rfl (D d11_140) (by decide) (by decide) ?_
      exact k
    clear pre12 pre14
    have pre17 : ∀ t, Steps p.tables e below (s₁.setTop (mkF m 67 #[rv ra, iv x0, iv te, iv (0 : Int32), iv x0, jv (-9223372036854775807 : Int64), s2, jv v13, s2, iv (0 : Int32), iv v15, iv v7] [])) t → Steps p.tables e below B0 t := by
      rw [hv15]
      exact pre16
    have f_v15 : v15.toInt = x0.toInt + 1 := by have q := own_nx OK hv15 f_x0 (by decide) (by decide); omega
    have c18 : ¬ (v15 < te) := (fun q => by have := Int32.lt_iff_toInt_lt.mp q; omega)
    have c19 : ¬ ((19 : Int32) < (te - x0)) := own_t19 OK ft
    obtain ⟨fs, hr, hrun, hended, hW, hsame⟩ := X0.leave (v := some (.long (-v13))) (fun h => by rw [Bd.returns] at h; cases h) hlk
    refine ⟨_, _, pre17 _ ?_, hrun, hended, _, _, rfl, ?_, ⟨_, rfl⟩, hW, hsame.mono (by decide) (by decide)⟩
    · show Steps p.tables e below (s₁.setTop (mkF m 67 #[rv ra, iv x0, iv te, iv (0 : Int32), iv x0, jv (-9223372036854775807 : Int64), s2, jv v13, s2, iv (0 : Int32), iv v15, iv v7] [])) _
      refine XS.iload X0.here hx rfl (D d11_67) rfl ?_
      refine XS.iloadN X0.here hx rfl (D d11_69) rfl ?_
      show Steps p.tables e below (s₁.setTop (mkF m 70 #[rv ra, iv x0, iv te, iv (0 : Int32), iv x0, jv (-9223372036854775807 : Int64), s2, jv v13, s2, iv (0 : Int32), iv v15, iv v7] [(.int te), (.int v15)])) _
      refine XS.icmpYes X0.here hx rfl (pc0 := 70) (pc' := 143) rfl (D d11_70) rfl ((flt c18).2.1) (by decide) (by decide) ?_
      refine XS.iloadN X0.here hx rfl (D d11_143) rfl ?_
      refine XS.iload X0.here hx rfl (D d11_144) rfl ?_
      show Steps p.tables e below (s₁.setTop (mkF m 146 #[rv ra, iv x0, iv te, iv (0 : Int32), iv x0, jv (-9223372036854775807 : Int64), s2, jv v13, s2, iv (0 : Int32), iv v15, iv v7] [(.int x0), (.int te)])) _
      refine XS.isub X0.here hx rfl (D d11_146) rfl ?_
      refine XS.bipush X0.here hx rfl (D d11_147) ?_
      show Steps p.tables e below (s₁.setTop (mkF m 149 #[rv ra, iv x0, iv te, iv (0 : Int32), iv x0, jv (-9223372036854775807 : Int64), s2, jv v13, s2, iv (0 : Int32), iv v15, iv v7] [(.int (19 : Int32)), (.int (te - x0))])) _
      refine XS.icmpYes X0.here hx rfl (pc0 := 149) (pc' := 162) rfl (D d11_149) rfl ((flt c19).2.2.2) (by decide) (by decide) ?_
      refine XS.iload X0.here hx rfl (D d11_162) rfl ?_
      show Steps p.tables e below (s₁.setTop (mkF m 164 #[rv ra, iv x0, iv te, iv (0 : Int32), iv x0, jv (-9223372036854775807 : Int64), s2, jv v13, s2, iv (0 : Int32), iv v15, iv v7] [(.int (0 : Int32))])) _
      refine XS.ifYes X0.here hx rfl (pc0 := 164) (pc' := 177) rfl (D d11_164) rfl (by decide) (by decide) (by decide) ?_
      refine XS.iloadN X0.here hx rfl (D d11_177) rfl ?_
      show Steps p.tables e below (s₁.setTop (mkF m 178 #[rv ra, iv x0, iv te, iv (0 : Int32), iv x0, jv (-9223372036854775807 : Int64), s2, jv v13, s2, iv (0 : Int32), iv v15, iv v7] [(.int (0 : Int32))])) _
      refine XS.ifYes X0.here hx rfl (pc0 := 178) (pc' := 186) rfl (D d11_178) rfl (by decide) (by decide) (by decide) ?_
      refine XS.lload X0.here hx rfl (D d11_186) rfl ?_
      refine XS.lneg X0.here hx rfl (D d11_188) rfl ?_
      show Steps p.tables e below (s₁.setTop (mkF m 189 #[rv ra, iv x0, iv te, iv (0 : Int32), iv x0, jv (-9223372036854775807 : Int64), s2, jv v13, s2, iv (0 : Int32), iv v15, iv v7] [(.long (-v13))])) _
      exact X0.lreturnOut hx Bd.returns (D d11_189) hr
    · show Q11 Z ra x0 te bs kn h0 n0 _ s₁.heap _
      rw [e0]
      exact ⟨by rw [own_n1 hk, hv13, de_v7, own_al1], N0, rfl⟩
  · have nn : kn.toInt = 2 := by rw [hk]; decide
    have c20 : x0 < te := Int32.lt_iff_toInt_lt.mpr (by omega)
    have in_7_21 : 0 ≤ (x0).toInt ∧ (x0).toInt < (bs.length : Nat) := (OK.inb (by omega) (by omega))
    have c22 : ¬ ((bs.getD (x0).toInt.toNat 0) = (45 : Int32)) := own_ndig (OK.dg (j := x0) (by omega) (by omega)) (by decide)
    have c23 : ¬ (x0 = te) := (fun q => by have := congrArg Int32.toInt q; omega)
    have pre24 : ∀ t, Steps p.tables e below (s₁.setTop (mkF m 55 #[rv ra, iv x0, iv te, iv (0 : Int32), iv x0, u0, u0, u0, u0, u0, u0, u0] [(.long (-9223372036854775807 : Int64))])) t → Steps p.tables e below B0 t := by
      intro t k
      refine pre0 t ?_
      show Steps p.tables e below (s₁.setTop (mkF m 0 #[rv ra, iv x0, iv te, u0, u0, u0, u0, u0, u0, u0, u0, u0] [])) _
      refine XS.iloadN X0.here hx rfl (D d11_0) rfl ?_
      refine XS.iloadN X0.here hx rfl (D d11_1) rfl ?_
      show Steps p.tables e below (s₁.setTop (mkF m 2 #[rv ra, iv x0, iv te, u0, u0, u0, u0, u0, u0, u0, u0, u0] [(.int te), (.int x0)])) _
      refine XS.icmpNo X0.here hx rfl (D d11_2) rfl ((tlt c20).2.1) ?_
      refine XS.aloadN X0.here hx rfl (D d11_5) rfl rfl ?_
      refine XS.iloadN X0.here hx rfl (D d11_6) rfl ?_
      refine own_baloadB X0 hx hZ e0 PA0 in_7_21 (D d11_7) _ ?_
      refine XS.bipush X0.here hx rfl (D d11_8) ?_
      show Steps p.tables e below (s₁.setTop (mkF m 10 #[rv ra, iv x0, iv te, u0, u0, u0, u0, u0, u0, u0, u0, u0] [(.int (45 : Int32)), (.int (bs.getD (x0).toInt.toNat 0))])) _
      refine XS.icmpYes X0.here hx rfl (pc0 := 10) (pc' := 17) rfl (D d11_10) rfl ((feq c22).2) (by decide) (by decide) ?_
      refine XS.iconst X0.here hx rfl (D d11_17) ?_
      show Steps p.tables e below (s₁.setTop (mkF m 18 #[rv ra, iv x0, iv te, u0, u0, u0, u0, u0, u0, u0, u0, u0] [(.int (0 : Int32))])) _
      refine XS.istoreN X0.here hx rfl (D d11_18) rfl (l' := #[rv ra, iv x0, iv te, iv (0 : Int32), u0, u0, u0, u0, u0, u0, u0, u0]) rfl ?_
      refine XS.iloadN X0.here hx rfl (D d11_19) rfl ?_
      show Steps p.tables e below (s₁.setTop (mkF m 20 #[rv ra, iv x0, iv te, iv (0 : Int32), u0, u0, u0, u0, u0, u0, u0, u0] [(.int (0 : Int32))])) _
      refine XS.ifYes X0.here hx rfl (pc0 := 20) (pc' := 29) rfl (D d11_20) rfl (by decide) (by decide) (by decide) ?_
      refine XS.iloadN X0.here hx rfl (D d11_29) rfl ?_
      refine XS.istore X0.here hx rfl (D d11_30) rfl (l' := #[rv ra, iv x0, iv te, iv (0 : Int32), iv x0, u0, u0, u0, u0, u0, u0, u0]) rfl ?_
      refine XS.iload X0.here hx rfl (D d11_32) rfl ?_
      refine XS.iloadN X0.here hx rfl (D d11_34) rfl ?_
      show Steps p.tables e below (s₁.setTop (mkF m 35 #[rv ra, iv x0, iv te, iv (0 : Int32), iv x0, u0, u0, u0, u0, u0, u0, u0] [(.int te), (.int x0)])) _
      refine XS.icmpYes X0.here hx rfl (pc0 := 35) (pc' := 42) rfl (D d11_35) rfl ((feq c23).2) (by decide) (by decide) ?_
      refine XS.iloadN X0.here hx rfl (D d11_42) rfl ?_
      show Steps p.tables e below (s₁.setTop (mkF m 43 #[rv ra, iv x0, iv te, iv (0 : Int32), iv x0, u0, u0, u0, u0, u0, u0, u0] [(.int (0 : Int32))])) _
      refine XS.ifYes X0.here hx rfl (pc0 := 43) (pc' := 52) rfl (D d11_43) rfl (by decide) (by decide) (by decide) ?_
      refine X0.ldc2Long hx hown (mvT hZ (H 69 rfl)) (g := (mkF m 52 #[rv ra, iv x0, iv te, iv (0 : Int32), iv x0, u0, u0, u0, u0, u0, u0, u0] [])) rfl (D d11_52) _ ?_
      exact k
    have f_x0 : x0.toInt = x0.toInt + 0 := by omega
    have in_76_25 : 0 ≤ (x0).toInt ∧ (x0).toInt < (bs.length : Nat) := (OK.inb (by omega) (by omega))
    obtain ⟨v26, hv26⟩ : ∃ z : Int32, z = ((bs.getD (x0).toInt.toNat 0) - (48 : Int32)) := ⟨_, rfl⟩
    have pre27 : ∀ t, Steps p.tables e below (s₁.setTop (mkF m 80 #[rv ra, iv x0, iv te, iv (0 : Int32), iv x0, jv (-9223372036854775807 : Int64), s2, jv (0 : Int64), s2, iv (0 : Int32), iv x0, u0] [(.int v26)])) t → Steps p.tables e below B0 t := by
      rw [hv26]
      intro t k
      refine pre24 t ?_
      show Steps p.tables e below (s₁.setTop (mkF m 55 #[rv ra, iv x0, iv te, iv (0 : Int32), iv x0, u0, u0, u0, u0, u0, u0, u0] [(.long (-9223372036854775807 : Int64))])) _
      refine XS.lstore X0.here hx rfl (D d11_55) rfl (l' := #[rv ra, iv x0, iv te, iv (0 : Int32), iv x0, jv (-9223372036854775807 : Int64), s2, u0, u0, u0, u0, u0]) rfl ?_
      refine XS.lconst X0.here hx rfl (D d11_57) ?_
      refine XS.lstore X0.here hx rfl (D d11_58) rfl (l' := #[rv ra, iv x0, iv te, iv (0 : Int32), iv x0, jv (-9223372036854775807 : Int64), s2, jv (0 : Int64), s2, u0, u0, u0]) rfl ?_
      refine XS.iconst X0.here hx rfl (D d11_60) ?_
      refine XS.istore X0.here hx rfl (D d11_61) rfl (l' := #[rv ra, iv x0, iv te, iv (0 : Int32), iv x0, jv (-9223372036854775807 : Int64), s2, jv (0 : Int64), s2, iv (0 : Int32), u0, u0]) rfl ?_
      refine XS.iload X0.here hx rfl (D d11_63) rfl ?_
      refine XS.istore X0.here hx rfl (D d11_65) rfl (l' := #[rv ra, iv x0, iv te, iv (0 : Int32), iv x0, jv (-9223372036854775807 : Int64), s2, jv (0 : Int64), s2, iv (0 : Int32), iv x0, u0]) rfl ?_
      refine XS.iload X0.here hx rfl (D d11_67) rfl ?_
      show Steps p.tables e below (s₁.setTop (mkF m 69 #[rv ra, iv x0, iv te, iv (0 : Int32), iv x0, jv (-9223372036854775807 : Int64), s2, jv (0 : Int64), s2, iv (0 : Int32), iv x0, u0] [(.int x0)])) _
      refine XS.iloadN X0.here hx rfl (D d11_69) rfl ?_
      show Steps p.tables e below (s₁.setTop (mkF m 70 #[rv ra, iv x0, iv te, iv (0 : Int32), iv x0, jv (-9223372036854775807 : Int64), s2, jv (0 : Int64), s2, iv (0 : Int32), iv x0, u0] [(.int te), (.int x0)])) _
      refine XS.icmpNo X0.here hx rfl (D d11_70) rfl ((tlt c20).2.1) ?_
      refine XS.aloadN X0.here hx rfl (D d11_73) rfl rfl ?_
      refine XS.iload X0.here hx rfl (D d11_74) rfl ?_
      refine own_baloadB X0 hx hZ e0 PA0 in_76_25 (D d11_76) _ ?_
      refine XS.bipush X0.here hx rfl (D d11_77) ?_
      refine XS.isub X0.here hx rfl (D d11_79) rfl ?_
      exact k
    have db_v26 := own_db hv26 (OK.dg (j := x0) (by omega) (by omega))
    have de_v26 : v26.toInt64 = own_d bs x0 0 := own_dd OK hv26 (by omega)
    have c28 : ¬ (v26 < (0 : Int32)) := own_g4 db_v26.1 (by decide)
    have c29 : ¬ ((9 : Int32) < v26) := own_g2 db_v26.2 (by decide)
    have c30 : ¬ ((0 : Int64) < (((-9223372036854775807 : Int64) + (v26).toInt64) / (10 : Int64))) := own_lim db_v26 (by first | decide | omega)
    have pre31 : ∀ t, Steps p.tables e below (s₁.setTop (mkF m 131 #[rv ra, iv x0, iv te, iv (0 : Int32), iv x0, jv (-9223372036854775807 : Int64), s2, jv (0 : Int64), s2, iv (0 : Int32), iv x0, iv v26] [(.long (0 : Int64))])) t → Steps p.tables e below B0 t := by
      intro t k
      refine pre27 t ?_
      show Steps p.tables e below (s₁.setTop (mkF m 80 #[rv ra, iv x0, iv te, iv (0 : Int32), iv x0, jv (-9223372036854775807 : Int64), s2, jv (0 : Int64), s2, iv (0 : Int32), iv x0, u0] [(.int v26)])) _
      refine XS.istore X0.here hx rfl (D d11_80) rfl (l' := #[rv ra, iv x0, iv te, iv (0 : Int32), iv x0, jv (-9223372036854775807 : Int64), s2, jv (0 : Int64), s2, iv (0 : Int32), iv x0, iv v26]) rfl ?_
      refine XS.iload X0.here hx rfl (D d11_82) rfl ?_
      show Steps p.tables e below (s₁.setTop (mkF m 84 #[rv ra, iv x0, iv te, iv (0 : Int32), iv x0, jv (-9223372036854775807 : Int64), s2, jv (0 : Int64), s2, iv (0 : Int32), iv x0, iv v26] [(.int v26)])) _
      refine XS.ifNo X0.here hx rfl (D d11_84) rfl ((if0 _ _).trans (flt c28).1) ?_
      show Steps p.tables e below (s₁.setTop (mkF m 87 #[rv ra, iv x0, iv te, iv (0 : Int32), iv x0, jv (-9223372036854775807 : Int64), s2, jv (0 : Int64), s2, iv (0 : Int32), iv x0, iv v26] [])) _
      refine XS.iload X0.here hx rfl (D d11_87) rfl ?_
      refine XS.bipush X0.here hx rfl (D d11_89) ?_
      show Steps p.tables e below (s₁.setTop (mkF m 91 #[rv ra, iv x0, iv te, iv (0 : Int32), iv x0, jv (-9223372036854775807 : Int64), s2, jv (0 : Int64), s2, iv (0 : Int32), iv x0, iv v26] [(.int (9 : Int32)), (.int v26)])) _
      refine XS.icmpYes X0.here hx rfl (pc0 := 91) (pc' := 98) rfl (D d11_91) rfl ((flt c29).2.2.2) (by decide) (by decide) ?_
      refine XS.iload X0.here hx rfl (D d11_98) rfl ?_
      show Steps p.tables e below (s₁.setTop (mkF m 100 #[rv ra, iv x0, iv te, iv (0 : Int32), iv x0, jv (-9223372036854775807 : Int64), s2, jv (0 : Int64), s2, iv (0 : Int32), iv x0, iv v26] [(.int (0 : Int32))])) _
      refine XS.ifNo X0.here hx rfl (D d11_100) rfl (by decide) ?_
      refine XS.lload X0.here hx rfl (D d11_103) rfl ?_
      refine XS.lload X0.here hx rfl (D d11_105) rfl ?_
      refine XS.iload X0.here hx rfl (D d11_107) rfl ?_
      refine XS.i2l X0.here hx rfl (D d11_109) rfl ?_
      refine XS.ladd X0.here hx rfl (D d11_110) rfl ?_
      show Steps p.tables e below (s₁.setTop (mkF m 111 #[rv ra, iv x0, iv te, iv (0 : Int32), iv x0, jv (-9223372036854775807 : Int64), s2, jv (0 : Int64), s2, iv (0 : Int32), iv x0, iv v26] [(.long ((-9223372036854775807 : Int64) + (v26).toInt64)), (.long (0 : Int64))])) _
      refine X0.ldc2Long hx hown (mvT hZ (H 70 rfl)) (g := (mkF m 111 #[rv ra, iv x0, iv te, iv (0 : Int32), iv x0, jv (-9223372036854775807 : Int64), s2, jv (0 : Int64), s2, iv (0 : Int32), iv x0, iv v26] [(.long ((-9223372036854775807 : Int64) + (v26).toInt64)), (.long (0 : Int64))])) rfl (D d11_111) _ ?_
      refine XS.ldiv X0.here hx rfl (D d11_114) rfl (by decide) ?_
      refine XS.lcmp X0.here hx rfl (D d11_115) rfl ?_
      show Steps p.tables e below (s₁.setTop (mkF m 116 #[rv ra, iv x0, iv te, iv (0 : Int32), iv x0, jv (-9223372036854775807 : Int64), s2, jv (0 : Int64), s2, iv (0 : Int32), iv x0, iv v26] [(.int (lcmpW (0 : Int64) (((-9223372036854775807 : Int64) + (v26).toInt64) / (10 : Int64))))])) _
      refine XS.ifYes X0.here hx rfl (pc0 := 116) (pc' := 125) rfl (D d11_116) rfl ((if0 _ _).trans (flt (mt (lw_lt (0 : Int64) (((-9223372036854775807 : Int64) + (v26).toInt64) / (10 : Int64))).mp c30)).2.1) (by decide) (by decide) ?_
      refine XS.lload X0.here hx rfl (D d11_125) rfl ?_
      refine X0.ldc2Long hx hown (mvT hZ (H 70 rfl)) (g := (mkF m 127 #[rv ra, iv x0, iv te, iv (0 : Int32), iv x0, jv (-9223372036854775807 : Int64), s2, jv (0 : Int64), s2, iv (0 : Int32), iv x0, iv v26] [(.long (0 : Int64))])) rfl (D d11_127) _ ?_
      refine XS.lmul X0.here hx rfl (D d11_130) rfl ?_
      exact k
    clear pre24 pre27
    obtain ⟨v32, hv32⟩ : ∃ z : Int64, z = ((0 : Int64) - (v26).toInt64) := ⟨_, rfl⟩
    have pre33 : ∀ t, Steps p.tables e below (s₁.setTop (mkF m 135 #[rv ra, iv x0, iv te, iv (0 : Int32), iv x0, jv (-9223372036854775807 : Int64), s2, jv (0 : Int64), s2, iv (0 : Int32), iv x0, iv v26] [(.long v32)])) t → Steps p.tables e below B0 t := by
      rw [hv32]
      intro t k
      refine pre31 t ?_
      show Steps p.tables e below (s₁.setTop (mkF m 131 #[rv ra, iv x0, iv te, iv (0 : Int32), iv x0, jv (-9223372036854775807 : Int64), s2, jv (0 : Int64), s2, iv (0 : Int32), iv x0, iv v26] [(.long (0 : Int64))])) _
      refine XS.iload X0.here hx rfl (D d11_131) rfl ?_
      refine XS.i2l X0.here hx rfl (D d11_133) rfl ?_
      show Steps p.tables e below (s₁.setTop (mkF m 134 #[rv ra, iv x0, iv te, iv (0 : Int32), iv x0, jv (-9223372036854775807 : Int64), s2, jv (0 : Int64), s2, iv (0 : Int32), iv x0, iv v26] [(.long (v26).toInt64), (.long (0 : Int64))])) _
      refine XS.lsub X0.here hx rfl (D d11_134) rfl ?_
      exact k
    have rb_v32 := own_rb0 hv32 db_v26
    obtain ⟨v34, hv34⟩ : ∃ z : Int32, z = (x0 + (1 : Int32)) := ⟨_, rfl⟩
    have pre35 : ∀ t, Steps p.tables e below (s₁.setTop (mkF m 67 #[rv ra, iv x0, iv te, iv (0 : Int32), iv x0, jv (-9223372036854775807 : Int64), s2, jv v32, s2, iv (0 : Int32), iv (x0 + (1 : Int32)), iv v26] [])) t → Steps p.tables e below B0 t := by
      intro t k
      refine pre33 t ?_
      show Steps p.tables e below (s₁.setTop (mkF m 135 #[rv ra, iv x0, iv te, iv (0 : Int32), iv x0, jv (-9223372036854775807 : Int64), s2, jv (0 : Int64), s2, iv (0 : Int32), iv x0, iv v26] [(.long v32)])) _
      refine XS.lstore X0.here hx rfl (D d11_135) rfl (l' := #[rv ra, iv x0, iv te, iv (0 : Int32), iv x0, jv (-9223372036854775807 : Int64), s2, jv v32, s2, iv (0 : Int32), iv x0, iv v26]) rfl ?_
      refine XS.iinc X0.here hx rfl (D d11_137) rfl (l' := #[rv ra, iv x0, iv te, iv (0 : Int32), iv x0, jv (-9223372036854775807 : Int64), s2, jv v32, s2, iv (0 : Int32), iv (x0 + (1 : Int32)), iv v26]) rfl ?_
      refine XS.goto X0.here hx rfl (pc0 := 140) (pc' := 67) rfl (D d11_140) (by decide) (by decide) ?_
      exact k
    clear pre31 pre33
    have pre36 : ∀ t, Steps p.tables e below (s₁.setTop (mkF m 67 #[rv ra, iv x0, iv te, iv (0 : Int32), iv x0, jv (-9223372036854775807 : Int64), s2, jv v32, s2, iv (0 : Int32), iv v34, iv v26] [])) t → Steps p.tables e below B0 t := by
      rw [hv34]
      exact pre35
    have f_v34 : v34.toInt = x0.toInt + 1 := by have q := own_nx OK hv34 f_x0 (by decide) (by decide); omega
    have c37 : v34 < te := Int32.lt_iff_toInt_lt.mpr (by omega)
    have in_76_38 : 0 ≤ (v34).toInt ∧ (v34).toInt < (bs.length : Nat) := (OK.inb (by omega) (by omega))
    obtain ⟨v39, hv39⟩ : ∃ z : Int32, z = ((bs.getD (v34).toInt.toNat 0) - (48 : Int32)) := ⟨_, rfl⟩
    have pre40 : ∀ t, Steps p.tables e below (s₁.setTop (mkF m 80 #[rv ra, iv x0, iv te, iv (0 : Int32), iv x0, jv (-9223372036854775807 : Int64), s2, jv v32, s2, iv (0 : Int32), iv v34, iv v26] [(.int v39)])) t → Steps p.tables e below B0 t := by
      rw [hv39]
      intro t k
      refine pre36 t ?_
      show Steps p.tables e below (s₁.setTop (mkF m 67 #[rv ra, iv x0, iv te, iv (0 : Int32), iv x0, jv (-9223372036854775807 : Int64), s2, jv v32, s2, iv (0 : Int32), iv v34, iv v26] [])) _
      refine XS.iload X0.here hx rfl (D d11_67) rfl ?_
      refine XS.iloadN X0.here hx rfl (D d11_69) rfl ?_
      show Steps p.tables e below (s₁.setTop (mkF m 70 #[rv ra, iv x0, iv te, iv (0 : Int32), iv x0, jv (-9223372036854775807 : Int64), s2, jv v32, s2, iv (0 : Int32), iv v34, iv v26] [(.int te), (.int v34)])) _
      refine XS.icmpNo X0.here hx rfl (D d11_70) rfl ((tlt c37).2.1) ?_
      refine XS.aloadN X0.here hx rfl (D d11_73) rfl rfl ?_
      refine XS.iload X0.here hx rfl (D d11_74) rfl ?_
      show Steps p.tables e below (s₁.setTop (mkF m 76 #[rv ra, iv x0, iv te, iv (0 : Int32), iv x0, jv (-9223372036854775807 : Int64), s2, jv v32, s2, iv (0 : Int32), iv v34, iv v26] [(.int v34), (.ref ra)])) _
      refine own_baloadB X0 hx hZ e0 PA0 in_76_38 (D d11_76) _ ?_
      refine XS.bipush X0.here hx rfl (D d11_77) ?_
      refine XS.isub X0.here hx rfl (D d11_79) rfl ?_
      exact k
    have db_v39 := own_db hv39 (OK.dg (j := v34) (by omega) (by omega))
    have de_v39 : v39.toInt64 = own_d bs x0 1 := own_dd OK hv39 (by omega)
    have c41 : ¬ (v39 < (0 : Int32)) := own_g4 db_v39.1 (by decide)
    have c42 : ¬ ((9 : Int32) < v39) := own_g2 db_v39.2 (by decide)
    have c43 : ¬ (v32 < (((-9223372036854775807 : Int64) + (v39).toInt64) / (10 : Int64))) := own_lim db_v39 (by first | decide | omega)
    have pre44 : ∀ t, Steps p.tables e below (s₁.setTop (mkF m 131 #[rv ra, iv x0, iv te, iv (0 : Int32), iv x0, jv (-9223372036854775807 : Int64), s2, jv v32, s2, iv (0 : Int32), iv v34, iv v39] [(.long (v32 * (10 : Int64)))])) t → Steps p.tables e below B0 t := by
      intro t k
      refine pre40 t ?_
      show Steps p.tables e below (s₁.setTop (mkF m 80 #[rv ra, iv x0, iv te, iv (0 : Int32), iv x0, jv (-9223372036854775807 : Int64), s2, jv v32, s2, iv (0 : Int32), iv v34, iv v26] [(.int v39)])) _
      refine XS.istore X0.here hx rfl (D d11_80) rfl (l' := #[rv ra, iv x0, iv te, iv (0 : Int32), iv x0, jv (-9223372036854775807 : Int64), s2, jv v32, s2, iv (0 : Int32), iv v34, iv v39]) rfl ?_
      refine XS.iload X0.here hx rfl (D d11_82) rfl ?_
      show Steps p.tables e below (s₁.setTop (mkF m 84 #[rv ra, iv x0, iv te, iv (0 : Int32), iv x0, jv (-9223372036854775807 : Int64), s2, jv v32, s2, iv (0 : Int32), iv v34, iv v39] [(.int v39)])) _
      refine XS.ifNo X0.here hx rfl (D d11_84) rfl ((if0 _ _).trans (flt c41).1) ?_
      refine XS.iload X0.here hx rfl (D d11_87) rfl ?_
      refine XS.bipush X0.here hx rfl (D d11_89) ?_
      show Steps p.tables e below (s₁.setTop (mkF m 91 #[rv ra, iv x0, iv te, iv (0 : Int32), iv x0, jv (-9223372036854775807 : Int64), s2, jv v32, s2, iv (0 : Int32), iv v34, iv v39] [(.int (9 : Int32)), (.int v39)])) _
      refine XS.icmpYes X0.here hx rfl (pc0 := 91) (pc' := 98) rfl (D d11_91) rfl ((flt c42).2.2.2) (by decide) (by decide) ?_
      refine XS.iload X0.here hx rfl (D d11_98) rfl ?_
      show Steps p.tables e below (s₁.setTop (mkF m 100 #[rv ra, iv x0, iv te, iv (0 : Int32), iv x0, jv (-9223372036854775807 : Int64), s2, jv v32, s2, iv (0 : Int32), iv v34, iv v39] [(.int (0 : Int32))])) _
      refine XS.ifNo X0.here hx rfl (D d11_100) rfl (by decide) ?_
      show Steps p.tables e below (s₁.setTop (mkF m 103 #[rv ra, iv x0, iv te, iv (0 : Int32), iv x0, jv (-9223372036854775807 : Int64), s2, jv v32, s2, iv (0 : Int32), iv v34, iv v39] [])) _
      refine XS.lload X0.here hx rfl (D d11_103) rfl ?_
      refine XS.lload X0.here hx rfl (D d11_105) rfl ?_
      refine XS.iload X0.here hx rfl (D d11_107) rfl ?_
      refine XS.i2l X0.here hx rfl (D d11_109) rfl ?_
      refine XS.ladd X0.here hx rfl (D d11_110) rfl ?_
      refine X0.ldc2Long hx hown (mvT hZ (H 70 rfl)) (g := (mkF m 111 #[rv ra, iv x0, iv te, iv (0 : Int32), iv x0, jv (-9223372036854775807 : Int64), s2, jv v32, s2, iv (0 : Int32), iv v34, iv v39] [(.long ((-9223372036854775807 : Int64) + (v39).toInt64)), (.long v32)])) rfl (D d11_111) _ ?_
      refine XS.ldiv X0.here hx rfl (D d11_114) rfl (by decide) ?_
      refine XS.lcmp X0.here hx rfl (D d11_115) rfl ?_
      show Steps p.tables e below (s₁.setTop (mkF m 116 #[rv ra, iv x0, iv te, iv (0 : Int32), iv x0, jv (-9223372036854775807 : Int64), s2, jv v32, s2, iv (0 : Int32), iv v34, iv v39] [(.int (lcmpW v32 (((-9223372036854775807 : Int64) + (v39).toInt64) / (10 : Int64))))])) _
      refine XS.ifYes X0.here hx rfl (pc0 := 116) (pc' := 125) rfl (D d11_116) rfl ((if0 _ _).trans (flt (mt (lw_lt v32 (((-9223372036854775807 : Int64) + (v39).toInt64) / (10 : Int64))).mp c43)).2.1) (by decide) (by decide) ?_
      show Steps p.tables e below (s₁.setTop (mkF m 125 #[rv ra, iv x0, iv te, iv (0 : Int32), iv x0, jv (-9223372036854775807 : Int64), s2, jv v32, s2, iv (0 : Int32), iv v34, iv v39] [])) _
      refine XS.lload X0.here hx rfl (D d11_125) rfl ?_
      refine X0.ldc2Long hx hown (mvT hZ (H 70 rfl)) (g := (mkF m 127 #[rv ra, iv x0, iv te, iv (0 : Int32), iv x0, jv (-9223372036854775807 : Int64), s2, jv v32, s2, iv (0 : Int32), iv v34, iv v39] [(.long v32)])) rfl (D d11_127) _ ?_
      refine XS.lmul X0.here hx rfl (D d11_130) rfl ?_
      exact k
    clear pre35 pre36 pre40
    obtain ⟨v45, hv45⟩ : ∃ z : Int64, z = ((v32 * (10 : Int64)) - (v39).toInt64) := ⟨_, rfl⟩
    have pre46 : ∀ t, Steps p.tables e below (s₁.setTop (mkF m 135 #[rv ra, iv x0, iv te, iv (0 : Int32), iv x0, jv (-9223372036854775807 : Int64), s2, jv v32, s2, iv (0 : Int32), iv v34, iv v39] [(.long v45)])) t → Steps p.tables e below B0 t := by
      rw [hv45]
      intro t k
      refine pre44 t ?_
      show Steps p.tables e below (s₁.setTop (mkF m 131 #[rv ra, iv x0, iv te, iv (0 : Int32), iv x0, jv (-9223372036854775807 : Int64), s2, jv v32, s2, iv (0 : Int32), iv v34, iv v39] [(.long (v32 * (10 : Int64)))])) _
      refine XS.iload X0.here hx rfl (D d11_131) rfl ?_
      refine XS.i2l X0.here hx rfl (D d11_133) rfl ?_
      refine XS.lsub X0.here hx rfl (D d11_134) rfl ?_
      exact k
    have rb_v45 : -99 ≤ v45.toInt ∧ v45.toInt ≤ 0 := by have q := own_rb 9 hv45 db_v39 rb_v32 (by decide); omega
    obtain ⟨v47, hv47⟩ : ∃ z : Int32, z = (v34 + (1 : Int32)) := ⟨_, rfl⟩
    have pre48 : ∀ t, Steps p.tables e below (s₁.setTop (mkF m 67 #[rv ra, iv x0, iv te, iv (0 : Int32), iv x0, jv (-9223372036854775807 : Int64), s2, jv v45, s2, iv (0 : Int32), iv (v34 + (1 : Int32)), iv v39] [])) t → Steps p.tables e below B0 t := by
      intro t k
      refine pre46 t ?_
      show Steps p.tables e below (s₁.setTop (mkF m 135 #[rv ra, iv x0, iv te, iv (0 : Int32), iv x0, jv (-9223372036854775807 : Int64), s2, jv v32, s2, iv (0 : Int32), iv v34, iv v39] [(.long v45)])) _
      refine XS.lstore X0.here hx rfl (D d11_135) rfl (l' := #[rv ra, iv x0, iv te, iv (0 : Int32), iv x0, jv (-9223372036854775807 : Int64), s2, jv v45, s2, iv (0 : Int32), iv v34, iv v39]) rfl ?_
      refine XS.iinc X0.here hx rfl (D d11_137) rfl (l' := #[rv ra, iv x0, iv te, iv (0 : Int32), iv x0, jv (-9223372036854775807 : Int64), s2, jv v45, s2, iv (0 : Int32), iv (v34 + (1 : Int32)), iv v39]) rfl ?_
      show Steps p.tables e below (s₁.setTop (mkF m 140 #[rv ra, iv x0, iv te, iv (0 : Int32), iv x0, jv (-9223372036854775807 : Int64), s2, jv v45, s2, iv (0 : Int32), iv (v34 + (1 : Int32)), iv v39] [])) _
      refine XS.goto X0.here hx rfl (pc0 := 140) (pc' := 67) rfl (D d11_140) (by decide) (by decide) ?_
      exact k
    clear pre44 pre46
    have pre49 : ∀ t, Steps p.tables e below (s₁.setTop (mkF m 67 #[rv ra, iv x0, iv te, iv (0 : Int32), iv x0, jv (-9223372036854775807 : Int64), s2, jv v45, s2, iv (0 : Int32), iv v47, iv v39] [])) t → Steps p.tables e below B0 t := by
      rw [hv47]
      exact pre48
    have f_v47 : v47.toInt = x0.toInt + 2 := by have q := own_nx OK hv47 f_v34 (by decide) (by decide); omega
    have c50 : ¬ (v47 < te) := (fun q => by have := Int32.lt_iff_toInt_lt.mp q; omega)
    have c51 : ¬ ((19 : Int32) < (te - x0)) := own_t19 OK ft
    obtain ⟨fs, hr, hrun, hended, hW, hsame⟩ := X0.leave (v := some (.long (-v45))) (fun h => by rw [Bd.returns] at h; cases h) hlk
    refine ⟨_, _, pre49 _ ?_, hrun, hended, _, _, rfl, ?_, ⟨_, rfl⟩, hW, hsame.mono (by decide) (by decide)⟩
    · show Steps p.tables e below (s₁.setTop (mkF m 67 #[rv ra, iv x0, iv te, iv (0 : Int32), iv x0, jv (-9223372036854775807 : Int64), s2, jv v45, s2, iv (0 : Int32), iv v47, iv v39] [])) _
      refine XS.iload X0.here hx rfl (D d11_67) rfl ?_
      refine XS.iloadN X0.here hx rfl (D d11_69) rfl ?_
      show Steps p.tables e below (s₁.setTop (mkF m 70 #[rv ra, iv x0, iv te, iv (0 : Int32), iv x0, jv (-9223372036854775807 : Int64), s2, jv v45, s2, iv (0 : Int32), iv v47, iv v39] [(.int te), (.int v47)])) _
      refine XS.icmpYes X0.here hx rfl (pc0 := 70) (pc' := 143) rfl (D d11_70) rfl ((flt c50).2.1) (by decide) (by decide) ?_
      refine XS.iloadN X0.here hx rfl (D d11_143) rfl ?_
      refine XS.iload X0.here hx rfl (D d11_144) rfl ?_
      refine XS.isub X0.here hx rfl (D d11_146) rfl ?_
      refine XS.bipush X0.here hx rfl (D d11_147) ?_
      show Steps p.tables e below (s₁.setTop (mkF m 149 #[rv ra, iv x0, iv te, iv (0 : Int32), iv x0, jv (-9223372036854775807 : Int64), s2, jv v45, s2, iv (0 : Int32), iv v47, iv v39] [(.int (19 : Int32)), (.int (te - x0))])) _
      refine XS.icmpYes X0.here hx rfl (pc0 := 149) (pc' := 162) rfl (D d11_149) rfl ((flt c51).2.2.2) (by decide) (by decide) ?_
      refine XS.iload X0.here hx rfl (D d11_162) rfl ?_
      show Steps p.tables e below (s₁.setTop (mkF m 164 #[rv ra, iv x0, iv te, iv (0 : Int32), iv x0, jv (-9223372036854775807 : Int64), s2, jv v45, s2, iv (0 : Int32), iv v47, iv v39] [(.int (0 : Int32))])) _
      refine XS.ifYes X0.here hx rfl (pc0 := 164) (pc' := 177) rfl (D d11_164) rfl (by decide) (by decide) (by decide) ?_
      show Steps p.tables e below (s₁.setTop (mkF m 177 #[rv ra, iv x0, iv te, iv (0 : Int32), iv x0, jv (-9223372036854775807 : Int64), s2, jv v45, s2, iv (0 : Int32), iv v47, iv v39] [])) _
      refine XS.iloadN X0.here hx rfl (D d11_177) rfl ?_
      show Steps p.tables e below (s₁.setTop (mkF m 178 #[rv ra, iv x0, iv te, iv (0 : Int32), iv x0, jv (-9223372036854775807 : Int64), s2, jv v45, s2, iv (0 : Int32), iv v47, iv v39] [(.int (0 : Int32))])) _
      refine XS.ifYes X0.here hx rfl (pc0 := 178) (pc' := 186) rfl (D d11_178) rfl (by decide) (by decide) (by decide) ?_
      refine XS.lload X0.here hx rfl (D d11_186) rfl ?_
      refine XS.lneg X0.here hx rfl (D d11_188) rfl ?_
      show Steps p.tables e below (s₁.setTop (mkF m 189 #[rv ra, iv x0, iv te, iv (0 : Int32), iv x0, jv (-9223372036854775807 : Int64), s2, jv v45, s2, iv (0 : Int32), iv v47, iv v39] [(.long (-v45))])) _
      exact X0.lreturnOut hx Bd.returns (D d11_189) hr
    · show Q11 Z ra x0 te bs kn h0 n0 _ s₁.heap _
      rw [e0]
      exact ⟨by rw [own_n2 hk, hv45, hv32, de_v26, de_v39, own_al2], N0, rfl⟩
  · have nn : kn.toInt = 3 := by rw [hk]; decide
    have c52 : x0 < te := Int32.lt_iff_toInt_lt.mpr (by omega)
    have in_7_53 : 0 ≤ (x0).toInt ∧ (x0).toInt < (bs.length : Nat) := (OK.inb (by omega) (by omega))
    have c54 : ¬ ((bs.getD (x0).toInt.toNat 0) = (45 : Int32)) := own_ndig (OK.dg (j := x0) (by omega) (by omega)) (by decide)
    have c55 : ¬ (x0 = te) := (fun q => by have := congrArg Int32.toInt q; omega)
    have pre56 : ∀ t, Steps p.tables e below (s₁.setTop (mkF m 55 #[rv ra, iv x0, iv te, iv (0 : Int32), iv x0, u0, u0, u0, u0, u0, u0, u0] [(.long (-9223372036854775807 : Int64))])) t → Steps p.tables e below B0 t := by
      intro t k
      refine pre0 t ?_
      show Steps p.tables e below (s₁.setTop (mkF m 0 #[rv ra, iv x0, iv te, u0, u0, u0, u0, u0, u0, u0, u0, u0] [])) _
      refine XS.iloadN X0.here hx rfl (D d11_0) rfl ?_
      refine XS.iloadN X0.here hx rfl (D d11_1) rfl ?_
      show Steps p.tables e below (s₁.setTop (mkF m 2 #[rv ra, iv x0, iv te, u0, u0, u0, u0, u0, u0, u0, u0, u0] [(.int te), (.int x0)])) _
      refine XS.icmpNo X0.here hx rfl (D d11_2) rfl ((tlt c52).2.1) ?_
      refine XS.aloadN X0.here hx rfl (D d11_5) rfl rfl ?_
      refine XS.iloadN X0.here hx rfl (D d11_6) rfl ?_
      refine own_baloadB X0 hx hZ e0 PA0 in_7_53 (D d11_7) _ ?_
      refine XS.bipush X0.here hx rfl (D d11_8) ?_
      show Steps p.tables e below (s₁.setTop (mkF m 10 #[rv ra, iv x0, iv te, u0, u0, u0, u0, u0, u0, u0, u0, u0] [(.int (45 : Int32)), (.int (bs.getD (x0).toInt.toNat 0))])) _
      refine XS.icmpYes X0.here hx rfl (pc0 := 10) (pc' := 17) rfl (D d11_10) rfl ((feq c54).2) (by decide) (by decide) ?_
      refine XS.iconst X0.here hx rfl (D d11_17) ?_
      show Steps p.tables e below (s₁.setTop (mkF m 18 #[rv ra, iv x0, iv te, u0, u0, u0, u0, u0, u0, u0, u0, u0] [(.int (0 : Int32))])) _
      refine XS.istoreN X0.here hx rfl (D d11_18) rfl (l' := #[rv ra, iv x0, iv te, iv (0 : Int32), u0, u0, u0, u0, u0, u0, u0, u0]) rfl ?_
      refine XS.iloadN X0.here hx rfl (D d11_19) rfl ?_
      show Steps p.tables e below (s₁.setTop (mkF m 20 #[rv ra, iv x0, iv te, iv (0 : Int32), u0, u0, u0, u0, u0, u0, u0, u0] [(.int (0 : Int32))])) _
      refine XS.ifYes X0.here hx rfl (pc0 := 20) (pc' := 29) rfl (D d11_20) rfl (by decide) (by decide) (by decide) ?_
      refine XS.iloadN X0.here hx rfl (D d11_29) rfl ?_
      refine XS.istore X0.here hx rfl (D d11_30) rfl (l' := #[rv ra, iv x0, iv te, iv (0 : Int32), iv x0, u0, u0, u0, u0, u0, u0, u0]) rfl ?_
      refine XS.iload X0.here hx rfl (D d11_32) rfl ?_
      refine XS.iloadN X0.here hx rfl (D d11_34) rfl ?_
      show Steps p.tables e below (s₁.setTop (mkF m 35 #[rv ra, iv x0, iv te, iv (0 : Int32), iv x0, u0, u0, u0, u0, u0, u0, u0] [(.int te), (.int x0)])) _
      refine XS.icmpYes X0.here hx rfl (pc0 := 35) (pc' := 42) rfl (D d11_35) rfl ((feq c55).2) (by decide) (by decide) ?_
      refine XS.iloadN X0.here hx rfl (D d11_42) rfl ?_
      show Steps p.tables e below (s₁.setTop (mkF m 43 #[rv ra, iv x0, iv te, iv (0 : Int32), iv x0, u0, u0, u0, u0, u0, u0, u0] [(.int (0 : Int32))])) _
      refine XS.ifYes X0.here hx rfl (pc0 := 43) (pc' := 52) rfl (D d11_43) rfl (by decide) (by decide) (by decide) ?_
      refine X0.ldc2Long hx hown (mvT hZ (H 69 rfl)) (g := (mkF m 52 #[rv ra, iv x0, iv te, iv (0 : Int32), iv x0, u0, u0, u0, u0, u0, u0, u0] [])) rfl (D d11_52) _ ?_
      exact k
    have f_x0 : x0.toInt = x0.toInt + 0 := by omega
    have in_76_57 : 0 ≤ (x0).toInt ∧ (x0).toInt < (bs.length : Nat) := (OK.inb (by omega) (by omega))
    obtain ⟨v58, hv58⟩ : ∃ z : Int32, z = ((bs.getD (x0).toInt.toNat 0) - (48 : Int32)) := ⟨_, rfl⟩
    have pre59 : ∀ t, Steps p.tables e below (s₁.setTop (mkF m 80 #[rv ra, iv x0, iv te, iv (0 : Int32), iv x0, jv (-9223372036854775807 : Int64), s2, jv (0 : Int64), s2, iv (0 : Int32), iv x0, u0] [(.int v58)])) t → Steps p.tables e below B0 t := by
      rw [hv58]
      intro t k
      refine pre56 t ?_
      show Steps p.tables e below (s₁.setTop (mkF m 55 #[rv ra, iv x0, iv te, iv (0 : Int32), iv x0, u0, u0, u0, u0, u0, u0, u0] [(.long (-9223372036854775807 : Int64))])) _
      refine XS.lstore X0.here hx rfl (D d11_55) rfl (l' := #[rv ra, iv x0, iv te, iv (0 : Int32), iv x0, jv (-9223372036854775807 : Int64), s2, u0, u0, u0, u0, u0]) rfl ?_
      refine XS.lconst X0.here hx rfl (D d11_57) ?_
      refine XS.lstore X0.here hx rfl (D d11_58) rfl (l' := #[rv ra, iv x0, iv te, iv (0 : Int32), iv x0, jv (-9223372036854775807 : Int64), s2, jv (0 : Int64), s2, u0, u0, u0]) rfl ?_
      refine XS.iconst X0.here hx rfl (D d11_60) ?_
      refine XS.istore X0.here hx rfl (D d11_61) rfl (l' := #[rv ra, iv x0, iv te, iv (0 : Int32), iv x0, jv (-9223372036854775807 : Int64), s2, jv (0 : Int64), s2, iv (0 : Int32), u0, u0]) rfl ?_
      refine XS.iload X0.here hx rfl (D d11_63) rfl ?_
      refine XS.istore X0.here hx rfl (D d11_65) rfl (l' := #[rv ra, iv x0, iv te, iv (0 : Int32), iv x0, jv (-9223372036854775807 : Int64), s2, jv (0 : Int64), s2, iv (0 : Int32), iv x0, u0]) rfl ?_
      refine XS.iload X0.here hx rfl (D d11_67) rfl ?_
      show Steps p.tables e below (s₁.setTop (mkF m 69 #[rv ra, iv x0, iv te, iv (0 : Int32), iv x0, jv (-9223372036854775807 : Int64), s2, jv (0 : Int64), s2, iv (0 : Int32), iv x0, u0] [(.int x0)])) _
      refine XS.iloadN X0.here hx rfl (D d11_69) rfl ?_
      show Steps p.tables e below (s₁.setTop (mkF m 70 #[rv ra, iv x0, iv te, iv (0 : Int32), iv x0, jv (-9223372036854775807 : Int64), s2, jv (0 : Int64), s2, iv (0 : Int32), iv x0, u0] [(.int te), (.int x0)])) _
      refine XS.icmpNo X0.here hx rfl (D d11_70) rfl ((tlt c52).2.1) ?_
      refine XS.aloadN X0.here hx rfl (D d11_73) rfl rfl ?_
      refine XS.iload X0.here hx rfl (D d11_74) rfl ?_
      refine own_baloadB X0 hx hZ e0 PA0 in_76_57 (D d11_76) _ ?_
      refine XS.bipush X0.here hx rfl (D d11_77) ?_
      refine XS.isub X0.here hx rfl (D d11_79) rfl ?_
      exact k
    have db_v58 := own_db hv58 (OK.dg (j := x0) (by omega) (by omega))
    have de_v58 : v58.toInt64 = own_d bs x0 0 := own_dd OK hv58 (by omega)
    have c60 : ¬ (v58 < (0 : Int32)) := own_g4 db_v58.1 (by decide)
    have c61 : ¬ ((9 : Int32) < v58) := own_g2 db_v58.2 (by decide)
    have c62 : ¬ ((0 : Int64) < (((-9223372036854775807 : Int64) + (v58).toInt64) / (10 : Int64))) := own_lim db_v58 (by first | decide | omega)
    have pre63 : ∀ t, Steps p.tables e below (s₁.setTop (mkF m 131 #[rv ra, iv x0, iv te, iv (0 : Int32), iv x0, jv (-9223372036854775807 : Int64), s2, jv (0 : Int64), s2, iv (0 : Int32), iv x0, iv v58] [(.long (0 : Int64))])) t → Steps p.tables e below B0 t := by
      intro t k
      refine pre59 t ?_
      show Steps p.tables e below (s₁.setTop (mkF m 80 #[rv ra, iv x0, iv te, iv (0 : Int32), iv x0, jv (-9223372036854775807 : Int64), s2, jv (0 : Int64), s2, iv (0 : Int32), iv x0, u0] [(.int v58)])) _
      refine XS.istore X0.here hx rfl (D d11_80) rfl (l' := #[rv ra, iv x0, iv te, iv (0 : Int32), iv x0, jv (-9223372036854775807 : Int64), s2, jv (0 : Int64), s2, iv (0 : Int32), iv x0, iv v58]) rfl ?_
      refine XS.iload X0.here hx rfl (D d11_82) rfl ?_
      show Steps p.tables e below (s₁.setTop (mkF m 84 #[rv ra, iv x0, iv te, iv (0 : Int32), iv x0, jv (-9223372036854775807 : Int64), s2, jv (0 : Int64), s2, iv (0 : Int32), iv x0, iv v58] [(.int v58)])) _
      refine XS.ifNo X0.here hx rfl (D d11_84) rfl ((if0 _ _).trans (flt c60).1) ?_
      show Steps p.tables e below (s₁.setTop (mkF m 87 #[rv ra, iv x0, iv te, iv (0 : Int32), iv x0, jv (-9223372036854775807 : Int64), s2, jv (0 : Int64), s2, iv (0 : Int32), iv x0, iv v58] [])) _
      refine XS.iload X0.here hx rfl (D d11_87) rfl ?_
      refine XS.bipush X0.here hx rfl (D d11_89) ?_
      show Steps p.tables e below (s₁.setTop (mkF m 91 #[rv ra, iv x0, iv te, iv (0 : Int32), iv x0, jv (-9223372036854775807 : Int64), s2, jv (0 : Int64), s2, iv (0 : Int32), iv x0, iv v58] [(.int (9 : Int32)), (.int v58)])) _
      refine XS.icmpYes X0.here hx rfl (pc0 := 91) (pc' := 98) rfl (D d11_91) rfl ((flt c61).2.2.2) (by decide) (by decide) ?_
      refine XS.iload X0.here hx rfl (D d11_98) rfl ?_
      show Steps p.tables e below (s₁.setTop (mkF m 100 #[rv ra, iv x0, iv te, iv (0 : Int32), iv x0, jv (-9223372036854775807 : Int64), s2, jv (0 : Int64), s2, iv (0 : Int32), iv x0, iv v58] [(.int (0 : Int32))])) _
      refine XS.ifNo X0.here hx rfl (D d11_100) rfl (by decide) ?_
      refine XS.lload X0.here hx rfl (D d11_103) rfl ?_
      refine XS.lload X0.here hx rfl (D d11_105) rfl ?_
      refine XS.iload X0.here hx rfl (D d11_107) rfl ?_
      refine XS.i2l X0.here hx rfl (D d11_109) rfl ?_
      refine XS.ladd X0.here hx rfl (D d11_110) rfl ?_
      show Steps p.tables e below (s₁.setTop (mkF m 111 #[rv ra, iv x0, iv te, iv (0 : Int32), iv x0, jv (-9223372036854775807 : Int64), s2, jv (0 : Int64), s2, iv (0 : Int32), iv x0, iv v58] [(.long ((-9223372036854775807 : Int64) + (v58).toInt64)), (.long (0 : Int64))])) _
      refine X0.ldc2Long hx hown (mvT hZ (H 70 rfl)) (g := (mkF m 111 #[rv ra, iv x0, iv te, iv (0 : Int32), iv x0, jv (-9223372036854775807 : Int64), s2, jv (0 : Int64), s2, iv (0 : Int32), iv x0, iv v58] [(.long ((-9223372036854775807 : Int64) + (v58).toInt64)), (.long (0 : Int64))])) rfl (D d11_111) _ ?_
      refine XS.ldiv X0.here hx rfl (D d11_114) rfl (by decide) ?_
      refine XS.lcmp X0.here hx rfl (D d11_115) rfl ?_
      show Steps p.tables e below (s₁.setTop (mkF m 116 #[rv ra, iv x0, iv te, iv (0 : Int32), iv x0, jv (-9223372036854775807 : Int64), s2, jv (0 : Int64), s2, iv (0 : Int32), iv x0, iv v58] [(.int (lcmpW (0 : Int64) (((-9223372036854775807 : Int64) + (v58).toInt64) / (10 : Int64))))])) _
      refine XS.ifYes X0.here hx rfl (pc0 := 116) (pc' := 125) rfl (D d11_116) rfl ((if0 _ _).trans (flt (mt (lw_lt (0 : Int64) (((-9223372036854775807 : Int64) + (v58).toInt64) / (10 : Int64))).mp c62)).2.1) (by decide) (by decide) ?_
      refine XS.lload X0.here hx rfl (D d11_125) rfl ?_
      refine X0.ldc2Long hx hown (mvT hZ (H 70 rfl)) (g := (mkF m 127 #[rv ra, iv x0, iv te, iv (0 : Int32), iv x0, jv (-9223372036854775807 : Int64), s2, jv (0 : Int64), s2, iv (0 : Int32), iv x0, iv v58] [(.long (0 : Int64))])) rfl (D d11_127) _ ?_
      refine XS.lmul X0.here hx rfl (D d11_130) rfl ?_
      exact k
    clear pre56 pre59
    obtain ⟨v64, hv64⟩ : ∃ z : Int64, z = ((0 : Int64) - (v58).toInt64) := ⟨_, rfl⟩
    have pre65 : ∀ t, Steps p.tables e below (s₁.setTop (mkF m 135 #[rv ra, iv x0, iv te, iv (0 : Int32), iv x0, jv (-9223372036854775807 : Int64), s2, jv (0 : Int64), s2, iv (0 : Int32), iv x0, iv v58] [(.long v64)])) t → Steps p.tables e below B0 t := by
      rw [hv64]
      intro t k
      refine pre63 t ?_
      show Steps p.tables e below (s₁.setTop (mkF m 131 #[rv ra, iv x0, iv te, iv (0 : Int32), iv x0, jv (-9223372036854775807 : Int64), s2, jv (0 : Int64), s2, iv (0 : Int32), iv x0, iv v58] [(.long (0 : Int64))])) _
      refine XS.iload X0.here hx rfl (D d11_131) rfl ?_
      refine XS.i2l X0.here hx rfl (D d11_133) rfl ?_
      show Steps p.tables e below (s₁.setTop (mkF m 134 #[rv ra, iv x0, iv te, iv (0 : Int32), iv x0, jv (-9223372036854775807 : Int64), s2, jv (0 : Int64), s2, iv (0 : Int32), iv x0, iv v58] [(.long (v58).toInt64), (.long (0 : Int64))])) _
      refine XS.lsub X0.here hx rfl (D d11_134) rfl ?_
      exact k
    have rb_v64 := own_rb0 hv64 db_v58
    obtain ⟨v66, hv66⟩ : ∃ z : Int32, z = (x0 + (1 : Int32)) := ⟨_, rfl⟩
    have pre67 : ∀ t, Steps p.tables e below (s₁.setTop (mkF m 67 #[rv ra, iv x0, iv te, iv (0 : Int32), iv x0, jv (-9223372036854775807 : Int64), s2, jv v64, s2, iv (0 : Int32), iv (x0 + (1 : Int32)), iv v58] [])) t → Steps p.tables e below B0 t := by
      intro t k
      refine pre65 t ?_
      show Steps p.tables e below (s₁.setTop (mkF m 135 #[rv ra, iv x0, iv te, iv (0 : Int32), iv x0, jv (-9223372036854775807 : Int64), s2, jv (0 : Int64), s2, iv (0 : Int32), iv x0, iv v58] [(.long v64)])) _
      refine XS.lstore X0.here hx rfl (D d11_135) rfl (l' := #[rv ra, iv x0, iv te, iv (0 : Int32), iv x0, jv (-9223372036854775807 : Int64), s2, jv v64, s2, iv (0 : Int32), iv x0, iv v58]) rfl ?_
      refine XS.iinc X0.here hx rfl (D d11_137) rfl (l' := #[rv ra, iv x0, iv te, iv (0 : Int32), iv x0, jv (-9223372036854775807 : Int64), s2, jv v64, s2, iv (0 : Int32), iv (x0 + (1 : Int32)), iv v58]) rfl ?_
      refine XS.goto X0.here hx rfl (pc0 := 140) (pc' := 67) rfl (D d11_140) (by decide) (by decide) ?_
      exact k
    clear pre63 pre65
    have pre68 : ∀ t, Steps p.tables e below (s₁.setTop (mkF m 67 #[rv ra, iv x0, iv te, iv (0 : Int32), iv x0, jv (-9223372036854775807 : Int64), s2, jv v64, s2, iv (0 : Int32), iv v66, iv v58] [])) t → Steps p.tables e below B0 t := by
      rw [hv66]
      exact pre67
    have f_v66 : v66.toInt = x0.toInt + 1 := by have q := own_nx OK hv66 f_x0 (by decide) (by decide); omega
    have c69 : v66 < te := Int32.lt_iff_toInt_lt.mpr (by omega)
    have in_76_70 : 0 ≤ (v66).toInt ∧ (v66).toInt < (bs.length : Nat) := (OK.inb (by omega) (by omega))
    obtain ⟨v71, hv71⟩ : ∃ z : Int32, z = ((bs.getD (v66).toInt.toNat 0) - (48 : Int32)) := ⟨_, rfl⟩
    have pre72 : ∀ t, Steps p.tables e below (s₁.setTop (mkF m 80 #[rv ra, iv x0, iv te, iv (0 : Int32), iv x0, jv (-9223372036854775807 : Int64), s2, jv v64, s2, iv (0 : Int32), iv v66, iv v58] [(.int v71)])) t → Steps p.tables e below B0 t := by
      rw [hv71]
      intro t k
      refine pre68 t ?_
      show Steps p.tables e below (s₁.setTop (mkF m 67 #[rv ra, iv x0, iv te, iv (0 : Int32), iv x0, jv (-9223372036854775807 : Int64), s2, jv v64, s2, iv (0 : Int32), iv v66, iv v58] [])) _
      refine XS.iload X0.here hx rfl (D d11_67) rfl ?_
      refine XS.iloadN X0.here hx rfl (D d11_69) rfl ?_
      show Steps p.tables e below (s₁.setTop (mkF m 70 #[rv ra, iv x0, iv te, iv (0 : Int32), iv x0, jv (-9223372036854775807 : Int64), s2, jv v64, s2, iv (0 : Int32), iv v66, iv v58] [(.int te), (.int v66)])) _
      refine XS.icmpNo X0.here hx rfl (D d11_70) rfl ((tlt c69).2.1) ?_
      refine XS.aloadN X0.here hx rfl (D d11_73) rfl rfl ?_
      refine XS.iload X0.here hx rfl (D d11_74) rfl ?_
      show Steps p.tables e below (s₁.setTop (mkF m 76 #[rv ra, iv x0, iv te, iv (0 : Int32), iv x0, jv (-9223372036854775807 : Int64), s2, jv v64, s2, iv (0 : Int32), iv v66, iv v58] [(.int v66), (.ref ra)])) _
      refine own_baloadB X0 hx hZ e0 PA0 in_76_70 (D d11_76) _ ?_
      refine XS.bipush X0.here hx rfl (D d11_77) ?_
      refine XS.isub X0.here hx rfl (D d11_79) rfl ?_
      exact k
    have db_v71 := own_db hv71 (OK.dg (j := v66) (by omega) (by omega))
    have de_v71 : v71.toInt64 = own_d bs x0 1 := own_dd OK hv71 (by omega)
    have c73 : ¬ (v71 < (0 : Int32)) := own_g4 db_v71.1 (by decide)
    have c74 : ¬ ((9 : Int32) < v71) := own_g2 db_v71.2 (by decide)
    have c75 : ¬ (v64 < (((-9223372036854775807 : Int64) + (v71).toInt64) / (10 : Int64))) := own_lim db_v71 (by first | decide | omega)
    have pre76 : ∀ t, Steps p.tables e below (s₁.setTop (mkF m 131 #[rv ra, iv x0, iv te, iv (0 : Int32), iv x0, jv (-9223372036854775807 : Int64), s2, jv v64, s2, iv (0 : Int32), iv v66, iv v71] [(.long (v64 * (10 : Int64)))])) t → Steps p.tables e below B0 t := by
      intro t k
      refine pre72 t ?_
      show Steps p.tables e below (s₁.setTop (mkF m 80 #[rv ra, iv x0, iv te, iv (0 : Int32), iv x0, jv (-9223372036854775807 : Int64), s2, jv v64, s2, iv (0 : Int32), iv v66, iv v58] [(.int v71)])) _
      refine XS.istore X0.here hx rfl (D d11_80) rfl (l' := #[rv ra, iv x0, iv te, iv (0 : Int32), iv x0, jv (-9223372036854775807 : Int64), s2, jv v64, s2, iv (0 : Int32), iv v66, iv v71]) rfl ?_
      refine XS.iload X0.here hx rfl (D d11_82) rfl ?_
      show Steps p.tables e below (s₁.setTop (mkF m 84 #[rv ra, iv x0, iv te, iv (0 : Int32), iv x0, jv (-9223372036854775807 : Int64), s2, jv v64, s2, iv (0 : Int32), iv v66, iv v71] [(.int v71)])) _
      refine XS.ifNo X0.here hx rfl (D d11_84) rfl ((if0 _ _).trans (flt c73).1) ?_
      refine XS.iload X0.here hx rfl (D d11_87) rfl ?_
      refine XS.bipush X0.here hx rfl (D d11_89) ?_
      show Steps p.tables e below (s₁.setTop (mkF m 91 #[rv ra, iv x0, iv te, iv (0 : Int32), iv x0, jv (-9223372036854775807 : Int64), s2, jv v64, s2, iv (0 : Int32), iv v66, iv v71] [(.int (9 : Int32)), (.int v71)])) _
      refine XS.icmpYes X0.here hx rfl (pc0 := 91) (pc' := 98) rfl (D d11_91) rfl ((flt c74).2.2.2) (by decide) (by decide) ?_
      refine XS.iload X0.here hx rfl (D d11_98) rfl ?_
      show Steps p.tables e below (s₁.setTop (mkF m 100 #[rv ra, iv x0, iv te, iv (0 : Int32), iv x0, jv (-9223372036854775807 : Int64), s2, jv v64, s2, iv (0 : Int32), iv v66, iv v71] [(.int (0 : Int32))])) _
      refine XS.ifNo X0.here hx rfl (D d11_100) rfl (by decide) ?_
      show Steps p.tables e below (s₁.setTop (mkF m 103 #[rv ra, iv x0, iv te, iv (0 : Int32), iv x0, jv (-9223372036854775807 : Int64), s2, jv v64, s2, iv (0 : Int32), iv v66, iv v71] [])) _
      refine XS.lload X0.here hx rfl (D d11_103) rfl ?_
      refine XS.lload X0.here hx rfl (D d11_105) rfl ?_
      refine XS.iload X0.here hx rfl (D d11_107) rfl ?_
      refine XS.i2l X0.here hx rfl (D d11_109) rfl ?_
      refine XS.ladd X0.here hx rfl (D d11_110) rfl ?_
      refine X0.ldc2Long hx hown (mvT hZ (H 70 rfl)) (g := (mkF m 111 #[rv ra, iv x0, iv te, iv (0 : Int32), iv x0, jv (-9223372036854775807 : Int64), s2, jv v64, s2, iv (0 : Int32), iv v66, iv v71] [(.long ((-9223372036854775807 : Int64) + (v71).toInt64)), (.long v64)])) rfl (D d11_111) _ ?_
      refine XS.ldiv X0.here hx rfl (D d11_114) rfl (by decide) ?_
      refine XS.lcmp X0.here hx rfl (D d11_115) rfl ?_
      show Steps p.tables e below (s₁.setTop (mkF m 116 #[rv ra, iv x0, iv te, iv (0 : Int32), iv x0, jv (-9223372036854775807 : Int64), s2, jv v64, s2, iv (0 : Int32), iv v66, iv v71] [(.int (lcmpW v64 (((-9223372036854775807 : Int64) + (v71).toInt64) / (10 : Int64))))])) _
      refine XS.ifYes X0.here hx rfl (pc0 := 116) (pc' := 125) rfl (D d11_116) rfl ((if0 _ _).trans (flt (mt (lw_lt v64 (((-9223372036854775807 : Int64) + (v71).toInt64) / (10 : Int64))).mp c75)).2.1) (by decide) (by decide) ?_
      show Steps p.tables e below (s₁.setTop (mkF m 125 #[rv ra, iv x0, iv te, iv (0 : Int32), iv x0, jv (-9223372036854775807 : Int64), s2, jv v64, s2, iv (0 : Int32), iv v66, iv v71] [])) _
      refine XS.lload X0.here hx rfl (D d11_125) rfl ?_
      refine X0.ldc2Long hx hown (mvT hZ (H 70 rfl)) (g := (mkF m 127 #[rv ra, iv x0, iv te, iv (0 : Int32), iv x0, jv (-9223372036854775807 : Int64), s2, jv v64, s2, iv (0 : Int32), iv v66, iv v71] [(.long v64)])) rfl (D d11_127) _ ?_
      refine XS.lmul X0.here hx rfl (D d11_130) rfl ?_
      exact k
    clear pre67 pre68 pre72
    obtain ⟨v77, hv77⟩ : ∃ z : Int64, z = ((v64 * (10 : Int64)) - (v71).toInt64) := ⟨_, rfl⟩
    have pre78 : ∀ t, Steps p.tables e below (s₁.setTop (mkF m 135 #[rv ra, iv x0, iv te, iv (0 : Int32), iv x0, jv (-9223372036854775807 : Int64), s2, jv v64, s2, iv (0 : Int32), iv v66, iv v71] [(.long v77)])) t → Steps p.tables e below B0 t := by
      rw [hv77]
      intro t k
      refine pre76 t ?_
      show Steps p.tables e below (s₁.setTop (mkF m 131 #[rv ra, iv x0, iv te, iv (0 : Int32), iv x0, jv (-9223372036854775807 : Int64), s2, jv v64, s2, iv (0 : Int32), iv v66, iv v71] [(.long (v64 * (10 : Int64)))])) _
      refine XS.iload X0.here hx rfl (D d11_131) rfl ?_
      refine XS.i2l X0.here hx rfl (D d11_133) rfl ?_
      refine XS.lsub X0.here hx rfl (D d11_134) rfl ?_
      exact k
    have rb_v77 : -99 ≤ v77.toInt ∧ v77.toInt ≤ 0 := by have q := own_rb 9 hv77 db_v71 rb_v64 (by decide); omega
    obtain ⟨v79, hv79⟩ : ∃ z : Int32, z = (v66 + (1 : Int32)) := ⟨_, rfl⟩
    have pre80 : ∀ t, Steps p.tables e below (s₁.setTop (mkF m 67 #[rv ra, iv x0, iv te, iv (0 : Int32), iv x0, jv (-9223372036854775807 : Int64), s2, jv v77, s2, iv (0 : Int32), iv (v66 + (1 : Int32)), iv v71] [])) t → Steps p.tables e below B0 t := by
      intro t k
      refine pre78 t ?_
      show Steps p.tables e below (s₁.setTop (mkF m 135 #[rv ra, iv x0, iv te, iv (0 : Int32), iv x0, jv (-9223372036854775807 : Int64), s2, jv v64, s2, iv (0 : Int32), iv v66, iv v71] [(.long v77)])) _
      refine XS.lstore X0.here hx rfl (D d11_135) rfl (l' := #[rv ra, iv x0, iv te, iv (0 : Int32), iv x0, jv (-9223372036854775807 : Int64), s2, jv v77, s2, iv (0 : Int32), iv v66, iv v71]) rfl ?_
      refine XS.iinc X0.here hx rfl (D d11_137) rfl (l' := #[rv ra, iv x0, iv te, iv (0 : Int32), iv x0, jv (-9223372036854775807 : Int64), s2, jv v77, s2, iv (0 : Int32), iv (v66 + (1 : Int32)), iv v71]) rfl ?_
      show Steps p.tables e below (s₁.setTop (mkF m 140 #[rv ra, iv x0, iv te, iv (0 : Int32), iv x0, jv (-9223372036854775807 : Int64), s2, jv v77, s2, iv (0 : Int32), iv (v66 + (1 : Int32)), iv v71] [])) _
      refine XS.goto X0.here hx rfl (pc0 := 140) (pc' := 67) rfl (D d11_140) (by decide) (by decide) ?_
      exact k
    clear pre76 pre78
    have pre81 : ∀ t, Steps p.tables e below (s₁.setTop (mkF m 67 #[rv ra, iv x0, iv te, iv (0 : Int32), iv x0, jv (-9223372036854775807 : Int64), s2, jv v77, s2, iv (0 : Int32), iv v79, iv v71] [])) t → Steps p.tables e below B0 t := by
      rw [hv79]
      exact pre80
    have f_v79 : v79.toInt = x0.toInt + 2 := by have q := own_nx OK hv79 f_v66 (by decide) (by decide); omega
    have c82 : v79 < te := Int32.lt_iff_toInt_lt.mpr (by omega)
    have in_76_83 : 0 ≤ (v79).toInt ∧ (v79).toInt < (bs.length : Nat) := (OK.inb (by omega) (by omega))
    obtain ⟨v84, hv84⟩ : ∃ z : Int32, z = ((bs.getD (v79).toInt.toNat 0) - (48 : Int32)) := ⟨_, rfl⟩
    have pre85 : ∀ t, Steps p.tables e below (s₁.setTop (mkF m 80 #[rv ra, iv x0, iv te, iv (0 : Int32), iv x0, jv (-9223372036854775807 : Int64), s2, jv v77, s2, iv (0 : Int32), iv v79, iv v71] [(.int v84)])) t → Steps p.tables e below B0 t := by
      rw [hv84]
      intro t k
      refine pre81 t ?_
      show Steps p.tables e below (s₁.setTop (mkF m 67 #[rv ra, iv x0, iv te, iv (0 : Int32), iv x0, jv (-9223372036854775807 : Int64), s2, jv v77, s2, iv (0 : Int32), iv v79, iv v71] [])) _
      refine XS.iload X0.here hx rfl (D d11_67) rfl ?_
      refine XS.iloadN X0.here hx rfl (D d11_69) rfl ?_
      show Steps p.tables e below (s₁.setTop (mkF m 70 #[rv ra, iv x0, iv te, iv (0 : Int32), iv x0, jv (-9223372036854775807 : Int64), s2, jv v77, s2, iv (0 : Int32), iv v79, iv v71] [(.int te), (.int v79)])) _
      refine XS.icmpNo X0.here hx rfl (D d11_70) rfl ((tlt c82).2.1) ?_
      refine XS.aloadN X0.here hx rfl (D d11_73) rfl rfl ?_
      refine XS.iload X0.here hx rfl (D d11_74) rfl ?_
      refine own_baloadB X0 hx hZ e0 PA0 in_76_83 (D d11_76) _ ?_
      refine XS.bipush X0.here hx rfl (D d11_77) ?_
      refine XS.isub X0.here hx rfl (D d11_79) rfl ?_
      exact k
    have db_v84 := own_db hv84 (OK.dg (j := v79) (by omega) (by omega))
    have de_v84 : v84.toInt64 = own_d bs x0 2 := own_dd OK hv84 (by omega)
    have c86 : ¬ (v84 < (0 : Int32)) := own_g4 db_v84.1 (by decide)
    have c87 : ¬ ((9 : Int32) < v84) := own_g2 db_v84.2 (by decide)
    have c88 : ¬ (v77 < (((-9223372036854775807 : Int64) + (v84).toInt64) / (10 : Int64))) := own_lim db_v84 (by first | decide | omega)
    have pre89 : ∀ t, Steps p.tables e below (s₁.setTop (mkF m 133 #[rv ra, iv x0, iv te, iv (0 : Int32), iv x0, jv (-9223372036854775807 : Int64), s2, jv v77, s2, iv (0 : Int32), iv v79, iv v84] [(.int v84), (.long (v77 * (10 : Int64)))])) t → Steps p.tables e below B0 t := by
      intro t k
      refine pre85 t ?_
      show Steps p.tables e below (s₁.setTop (mkF m 80 #[rv ra, iv x0, iv te, iv (0 : Int32), iv x0, jv (-9223372036854775807 : Int64), s2, jv v77, s2, iv (0 : Int32), iv v79, iv v71] [(.int v84)])) _
      refine XS.istore X0.here hx rfl (D d11_80) rfl (l' := #[rv ra, iv x0, iv te, iv (0 : Int32), iv x0, jv (-9223372036854775807 : Int64), s2, jv v77, s2, iv (0 : Int32), iv v79, iv v84]) rfl ?_
      refine XS.iload X0.here hx rfl (D d11_82) rfl ?_
      show Steps p.tables e below (s₁.setTop (mkF m 84 #[rv ra, iv x0, iv te, iv (0 : Int32), iv x0, jv (-9223372036854775807 : Int64), s2, jv v77, s2, iv (0 : Int32), iv v79, iv v84] [(.int v84)])) _
      refine XS.ifNo X0.here hx rfl (D d11_84) rfl ((if0 _ _).trans (flt c86).1) ?_
      refine XS.iload X0.here hx rfl (D d11_87) rfl ?_
      refine XS.bipush X0.here hx rfl (D d11_89) ?_
      show Steps p.tables e below (s₁.setTop (mkF m 91 #[rv ra, iv x0, iv te, iv (0 : Int32), iv x0, jv (-9223372036854775807 : Int64), s2, jv v77, s2, iv (0 : Int32), iv v79, iv v84] [(.int (9 : Int32)), (.int v84)])) _
      refine XS.icmpYes X0.here hx rfl (pc0 := 91) (pc' := 98) rfl (D d11_91) rfl ((flt c87).2.2.2) (by decide) (by decide) ?_
      refine XS.iload X0.here hx rfl (D d11_98) rfl ?_
      show Steps p.tables e below (s₁.setTop (mkF m 100 #[rv ra, iv x0, iv te, iv (0 : Int32), iv x0, jv (-9223372036854775807 : Int64), s2, jv v77, s2, iv (0 : Int32), iv v79, iv v84] [(.int (0 : Int32))])) _
      refine XS.ifNo X0.here hx rfl (D d11_100) rfl (by decide) ?_
      refine XS.lload X0.here hx rfl (D d11_103) rfl ?_
      refine XS.lload X0.here hx rfl (D d11_105) rfl ?_
      refine XS.iload X0.here hx rfl (D d11_107) rfl ?_
      show Steps p.tables e below (s₁.setTop (mkF m 109 #[rv ra, iv x0, iv te, iv (0 : Int32), iv x0, jv (-9223372036854775807 : Int64), s2, jv v77, s2, iv (0 : Int32), iv v79, iv v84] [(.int v84), (.long (-9223372036854775807 : Int64)), (.long v77)])) _
      refine XS.i2l X0.here hx rfl (D d11_109) rfl ?_
      refine XS.ladd X0.here hx rfl (D d11_110) rfl ?_
      refine X0.ldc2Long hx hown (mvT hZ (H 70 rfl)) (g := (mkF m 111 #[rv ra, iv x0, iv te, iv (0 : Int32), iv x0, jv (-9223372036854775807 : Int64), s2, jv v77, s2, iv (0 : Int32), iv v79, iv v84] [(.long ((-9223372036854775807 : Int64) + (v84).toInt64)), (.long v77)])) rfl (D d11_111) _ ?_
      refine XS.ldiv X0.here hx rfl (D d11_114) rfl (by decide) ?_
      refine XS.lcmp X0.here hx rfl (D d11_115) rfl ?_
      show Steps p.tables e below (s₁.setTop (mkF m 116 #[rv ra, iv x0, iv te, iv (0 : Int32), iv x0, jv (-9223372036854775807 : Int64), s2, jv v77, s2, iv (0 : Int32), iv v79, iv v84] [(.int (lcmpW v77 (((-9223372036854775807 : Int64) + (v84).toInt64) / (10 : Int64))))])) _
      refine XS.ifYes X0.here hx rfl (pc0 := 116) (pc' := 125) rfl (D d11_116) rfl ((if0 _ _).trans (flt (mt (lw_lt v77 (((-9223372036854775807 : Int64) + (v84).toInt64) / (10 : Int64))).mp c88)).2.1) (by decide) (by decide) ?_
      refine XS.lload X0.here hx rfl (D d11_125) rfl ?_
      refine X0.ldc2Long hx hown (mvT hZ (H 70 rfl)) (g := (mkF m 127 #[rv ra, iv x0, iv te, iv (0 : Int32), iv x0, jv (-9223372036854775807 : Int64), s2, jv v77, s2, iv (0 : Int32), iv v79, iv v84] [(.long v77)])) rfl (D d11_127) _ ?_
      refine XS.lmul X0.here hx rfl (D d11_130) rfl ?_
      show Steps p.tables e below (s₁.setTop (mkF m 131 #[rv ra, iv x0, iv te, iv (0 : Int32), iv x0, jv (-9223372036854775807 : Int64), s2, jv v77, s2, iv (0 : Int32), iv v79, iv v84] [(.long (v77 * (10 : Int64)))])) _
      refine XS.iload X0.here hx rfl (D d11_131) rfl ?_
      exact k
    clear pre80 pre81 pre85
    obtain ⟨v90, hv90⟩ : ∃ z : Int64, z = ((v77 * (10 : Int64)) - (v84).toInt64) := ⟨_, rfl⟩
    have pre91 : ∀ t, Steps p.tables e below (s₁.setTop (mkF m 135 #[rv ra, iv x0, iv te, iv (0 : Int32), iv x0, jv (-9223372036854775807 : Int64), s2, jv v77, s2, iv (0 : Int32), iv v79, iv v84] [(.long v90)])) t → Steps p.tables e below B0 t := by
      rw [hv90]
      intro t k
      refine pre89 t ?_
      show Steps p.tables e below (s₁.setTop (mkF m 133 #[rv ra, iv x0, iv te, iv (0 : Int32), iv x0, jv (-9223372036854775807 : Int64), s2, jv v77, s2, iv (0 : Int32), iv v79, iv v84] [(.int v84), (.long (v77 * (10 : Int64)))])) _
      refine XS.i2l X0.here hx rfl (D d11_133) rfl ?_
      refine XS.lsub X0.here hx rfl (D d11_134) rfl ?_
      exact k
    have rb_v90 : -999 ≤ v90.toInt ∧ v90.toInt ≤ 0 := by have q := own_rb 99 hv90 db_v84 rb_v77 (by decide); omega
    obtain ⟨v92, hv92⟩ : ∃ z : Int32, z = (v79 + (1 : Int32)) := ⟨_, rfl⟩
    have pre93 : ∀ t, Steps p.tables e below (s₁.setTop (mkF m 67 #[rv ra, iv x0, iv te, iv (0 : Int32), iv x0, jv (-9223372036854775807 : Int64), s2, jv v90, s2, iv (0 : Int32), iv (v79 + (1 : Int32)), iv v84] [])) t → Steps p.tables e below B0 t := by
      intro t k
      refine pre91 t ?_
      show Steps p.tables e below (s₁.setTop (mkF m 135 #[rv ra, iv x0, iv te, iv (0 : Int32), iv x0, jv (-9223372036854775807 : Int64), s2, jv v77, s2, iv (0 : Int32), iv v79, iv v84] [(.long v90)])) _
      refine XS.lstore X0.here hx rfl (D d11_135) rfl (l' := #[rv ra, iv x0, iv te, iv (0 : Int32), iv x0, jv (-9223372036854775807 : Int64), s2, jv v90, s2, iv (0 : Int32), iv v79, iv v84]) rfl ?_
      refine XS.iinc X0.here hx rfl (D d11_137) rfl (l' := #[rv ra, iv x0, iv te, iv (0 : Int32), iv x0, jv (-9223372036854775807 : Int64), s2, jv v90, s2, iv (0 : Int32), iv (v79 + (1 : Int32)), iv v84]) rfl ?_
      refine XS.goto X0.here hx rfl (pc0 := 140) (pc' := 67) rfl (D d11_140) (by decide) (by decide) ?_
      exact k
    clear pre89 pre91
    have pre94 : ∀ t, Steps p.tables e below (s₁.setTop (mkF m 67 #[rv ra, iv x0, iv te, iv (0 : Int32), iv x0, jv (-9223372036854775807 : Int64), s2, jv v90, s2, iv (0 : Int32), iv v92, iv v84] [])) t → Steps p.tables e below B0 t := by
      rw [hv92]
      exact pre93
    have f_v92 : v92.toInt = x0.toInt + 3 := by have q := own_nx OK hv92 f_v79 (by decide) (by decide); omega
    have c95 : ¬ (v92 < te) := (fun q => by have := Int32.lt_iff_toInt_lt.mp q; omega)
    have c96 : ¬ ((19 : Int32) < (te - x0)) := own_t19 OK ft
    obtain ⟨fs, hr, hrun, hended, hW, hsame⟩ := X0.leave (v := some (.long (-v90))) (fun h => by rw [Bd.returns] at h; cases h) hlk
    refine ⟨_, _, pre94 _ ?_, hrun, hended, _, _, rfl, ?_, ⟨_, rfl⟩, hW, hsame.mono (by decide) (by decide)⟩
    · show Steps p.tables e below (s₁.setTop (mkF m 67 #[rv ra, iv x0, iv te, iv (0 : Int32), iv x0, jv (-9223372036854775807 : Int64), s2, jv v90, s2, iv (0 : Int32), iv v92, iv v84] [])) _
      refine XS.iload X0.here hx rfl (D d11_67) rfl ?_
      refine XS.iloadN X0.here hx rfl (D d11_69) rfl ?_
      show Steps p.tables e below (s₁.setTop (mkF m 70 #[rv ra, iv x0, iv te, iv (0 : Int32), iv x0, jv (-9223372036854775807 : Int64), s2, jv v90, s2, iv (0 : Int32), iv v92, iv v84] [(.int te), (.int v92)])) _
      refine XS.icmpYes X0.here hx rfl (pc0 := 70) (pc' := 143) rfl (D d11_70) rfl ((flt c95).2.1) (by decide) (by decide) ?_
      show Steps p.tables e below (s₁.setTop (mkF m 143 #[rv ra, iv x0, iv te, iv (0 : Int32), iv x0, jv (-9223372036854775807 : Int64), s2, jv v90, s2, iv (0 : Int32), iv v92, iv v84] [])) _
      refine XS.iloadN X0.here hx rfl (D d11_143) rfl ?_
      refine XS.iload X0.here hx rfl (D d11_144) rfl ?_
      refine XS.isub X0.here hx rfl (D d11_146) rfl ?_
      refine XS.bipush X0.here hx rfl (D d11_147) ?_
      show Steps p.tables e below (s₁.setTop (mkF m 149 #[rv ra, iv x0, iv te, iv (0 : Int32), iv x0, jv (-9223372036854775807 : Int64), s2, jv v90, s2, iv (0 : Int32), iv v92, iv v84] [(.int (19 : Int32)), (.int (te - x0))])) _
      refine XS.icmpYes X0.here hx rfl (pc0 := 149) (pc' := 162) rfl (D d11_149) rfl ((flt c96).2.2.2) (by decide) (by decide) ?_
      refine XS.iload X0.here hx rfl (D d11_162) rfl ?_
      show Steps p.tables e below (s₁.setTop (mkF m 164 #[rv ra, iv x0, iv te, iv (0 : Int32), iv x0, jv (-9223372036854775807 : Int64), s2, jv v90, s2, iv (0 : Int32), iv v92, iv v84] [(.int (0 : Int32))])) _
      refine XS.ifYes X0.here hx rfl (pc0 := 164) (pc' := 177) rfl (D d11_164) rfl (by decide) (by decide) (by decide) ?_
      refine XS.iloadN X0.here hx rfl (D d11_177) rfl ?_
      show Steps p.tables e below (s₁.setTop (mkF m 178 #[rv ra, iv x0, iv te, iv (0 : Int32), iv x0, jv (-9223372036854775807 : Int64), s2, jv v90, s2, iv (0 : Int32), iv v92, iv v84] [(.int (0 : Int32))])) _
      refine XS.ifYes X0.here hx rfl (pc0 := 178) (pc' := 186) rfl (D d11_178) rfl (by decide) (by decide) (by decide) ?_
      refine XS.lload X0.here hx rfl (D d11_186) rfl ?_
      refine XS.lneg X0.here hx rfl (D d11_188) rfl ?_
      show Steps p.tables e below (s₁.setTop (mkF m 189 #[rv ra, iv x0, iv te, iv (0 : Int32), iv x0, jv (-9223372036854775807 : Int64), s2, jv v90, s2, iv (0 : Int32), iv v92, iv v84] [(.long (-v90))])) _
      exact X0.lreturnOut hx Bd.returns (D d11_189) hr
    · show Q11 Z ra x0 te bs kn h0 n0 _ s₁.heap _
      rw [e0]
      exact ⟨by rw [own_n3 hk, hv90, hv77, hv64, de_v58, de_v71, de_v84, own_al3], N0, rfl⟩
  · have nn : kn.toInt = 4 := by rw [hk]; decide
    have c97 : x0 < te := Int32.lt_iff_toInt_lt.mpr (by omega)
    have in_7_98 : 0 ≤ (x0).toInt ∧ (x0).toInt < (bs.length : Nat) := (OK.inb (by omega) (by omega))
    have c99 : ¬ ((bs.getD (x0).toInt.toNat 0) = (45 : Int32)) := own_ndig (OK.dg (j := x0) (by omega) (by omega)) (by decide)
    have c100 : ¬ (x0 = te) := (fun q => by have := congrArg Int32.toInt q; omega)
    have pre101 : ∀ t, Steps p.tables e below (s₁.setTop (mkF m 55 #[rv ra, iv x0, iv te, iv (0 : Int32), iv x0, u0, u0, u0, u0, u0, u0, u0] [(.long (-9223372036854775807 : Int64))])) t → Steps p.tables e below B0 t := by
      intro t k
      refine pre0 t ?_
      show Steps p.tables e below (s₁.setTop (mkF m 0 #[rv ra, iv x0, iv te, u0, u0, u0, u0, u0, u0, u0, u0, u0] [])) _
      refine XS.iloadN X0.here hx rfl (D d11_0) rfl ?_
      refine XS.iloadN X0.here hx rfl (D d11_1) rfl ?_
      show Steps p.tables e below (s₁.setTop (mkF m 2 #[rv ra, iv x0, iv te, u0, u0, u0, u0, u0, u0, u0, u0, u0] [(.int te), (.int x0)])) _
      refine XS.icmpNo X0.here hx rfl (D d11_2) rfl ((tlt c97).2.1) ?_
      refine XS.aloadN X0.here hx rfl (D d11_5) rfl rfl ?_
      refine XS.iloadN X0.here hx rfl (D d11_6) rfl ?_
      refine own_baloadB X0 hx hZ e0 PA0 in_7_98 (D d11_7) _ ?_
      refine XS.bipush X0.here hx rfl (D d11_8) ?_
      show Steps p.tables e below (s₁.setTop (mkF m 10 #[rv ra, iv x0, iv te, u0, u0, u0, u0, u0, u0, u0, u0, u0] [(.int (45 : Int32)), (.int (bs.getD (x0).toInt.toNat 0))])) _
      refine XS.icmpYes X0.here hx rfl (pc0 := 10) (pc' := 17) rfl (D d11_10) rfl ((feq c99).2) (by decide) (by decide) ?_
      refine XS.iconst X0.here hx rfl (D d11_17) ?_
      show Steps p.tables e below (s₁.setTop (mkF m 18 #[rv ra, iv x0, iv te, u0, u0, u0, u0, u0, u0, u0, u0, u0] [(.int (0 : Int32))])) _
      refine XS.istoreN X0.here hx rfl (D d11_18) rfl (l' := #[rv ra, iv x0, iv te, iv (0 : Int32), u0, u0, u0, u0, u0, u0, u0, u0]) rfl ?_
      refine XS.iloadN X0.here hx rfl (D d11_19) rfl ?_
      show Steps p.tables e below (s₁.setTop (mkF m 20 #[rv ra, iv x0, iv te, iv (0 : Int32), u0, u0, u0, u0, u0, u0, u0, u0] [(.int (0 : Int32))])) _
      refine XS.ifYes X0.here hx rfl (pc0 := 20) (pc' := 29) rfl (D d11_20) rfl (by decide) (by decide) (by decide) ?_
      refine XS.iloadN X0.here hx rfl (D d11_29) rfl ?_
      refine XS.istore X0.here hx rfl (D d11_30) rfl (l' := #[rv ra, iv x0, iv te, iv (0 : Int32), iv x0, u0, u0, u0, u0, u0, u0, u0]) rfl ?_
      refine XS.iload X0.here hx rfl (D d11_32) rfl ?_
      refine XS.iloadN X0.here hx rfl (D d11_34) rfl ?_
      show Steps p.tables e below (s₁.setTop (mkF m 35 #[rv ra, iv x0, iv te, iv (0 : Int32), iv x0, u0, u0, u0, u0, u0, u0, u0] [(.int te), (.int x0)])) _
      refine XS.icmpYes X0.here hx rfl (pc0 := 35) (pc' := 42) rfl (D d11_35) rfl ((feq c100).2) (by decide) (by decide) ?_
      refine XS.iloadN X0.here hx rfl (D d11_42) rfl ?_
      show Steps p.tables e below (s₁.setTop (mkF m 43 #[rv ra, iv x0, iv te, iv (0 : Int32), iv x0, u0, u0, u0, u0, u0, u0, u0] [(.int (0 : Int32))])) _
      refine XS.ifYes X0.here hx rfl (pc0 := 43) (pc' := 52) rfl (D d11_43) rfl (by decide) (by decide) (by decide) ?_
      refine X0.ldc2Long hx hown (mvT hZ (H 69 rfl)) (g := (mkF m 52 #[rv ra, iv x0, iv te, iv (0 : Int32), iv x0, u0, u0, u0, u0, u0, u0, u0] [])) rfl (D d11_52) _ ?_
      exact k
    have f_x0 : x0.toInt = x0.toInt + 0 := by omega
    have in_76_102 : 0 ≤ (x0).toInt ∧ (x0).toInt < (bs.length : Nat) := (OK.inb (by omega) (by omega))
    obtain ⟨v103, hv103⟩ : ∃ z : Int32, z = ((bs.getD (x0).toInt.toNat 0) - (48 : Int32)) := ⟨_, rfl⟩
    have pre104 : ∀ t, Steps p.tables e below (s₁.setTop (mkF m 80 #[rv ra, iv x0, iv te, iv (0 : Int32), iv x0, jv (-9223372036854775807 : Int64), s2, jv (0 : Int64), s2, iv (0 : Int32), iv x0, u0] [(.int v103)])) t → Steps p.tables e below B0 t := by
      rw [hv103]
      intro t k
      refine pre101 t ?_
      show Steps p.tables e below (s₁.setTop (mkF m 55 #[rv ra, iv x0, iv te, iv (0 : Int32), iv x0, u0, u0, u0, u0, u0, u0, u0] [(.long (-9223372036854775807 : Int64))])) _
      refine XS.lstore X0.here hx rfl (D d11_55) rfl (l' := #[rv ra, iv x0, iv te, iv (0 : Int32), iv x0, jv (-9223372036854775807 : Int64), s2, u0, u0, u0, u0, u0]) rfl ?_
      refine XS.lconst X0.here hx rfl (D d11_57) ?_
      refine XS.lstore X0.here hx rfl (D d11_58) rfl (l' := #[rv ra, iv x0, iv te, iv (0 : Int32), iv x0, jv (-9223372036854775807 : Int64), s2, jv (0 : Int64), s2, u0, u0, u0]) rfl ?_
      refine XS.iconst X0.here hx rfl (D d11_60) ?_
      refine XS.istore X0.here hx rfl (D d11_61) rfl (l' := #[rv ra, iv x0, iv te, iv (0 : Int32), iv x0, jv (-9223372036854775807 : Int64), s2, jv (0 : Int64), s2, iv (0 : Int32), u0, u0]) rfl ?_
      refine XS.iload X0.here hx rfl (D d11_63) rfl ?_
      refine XS.istore X0.here hx rfl (D d11_65) rfl (l' := #[rv ra, iv x0, iv te, iv (0 : Int32), iv x0, jv (-9223372036854775807 : Int64), s2, jv (0 : Int64), s2, iv (0 : Int32), iv x0, u0]) rfl ?_
      refine XS.iload X0.here hx rfl (D d11_67) rfl ?_
      show Steps p.tables e below (s₁.setTop (mkF m 69 #[rv ra, iv x0, iv te, iv (0 : Int32), iv x0, jv (-9223372036854775807 : Int64), s2, jv (0 : Int64), s2, iv (0 : Int32), iv x0, u0] [(.int x0)])) _
      refine XS.iloadN X0.here hx rfl (D d11_69) rfl ?_
      show Steps p.tables e below (s₁.setTop (mkF m 70 #[rv ra, iv x0, iv te, iv (0 : Int32), iv x0, jv (-9223372036854775807 : Int64), s2, jv (0 : Int64), s2, iv (0 : Int32), iv x0, u0] [(.int te), (.int x0)])) _
      refine XS.icmpNo X0.here hx rfl (D d11_70) rfl ((tlt c97).2.1) ?_
      refine XS.aloadN X0.here hx rfl (D d11_73) rfl rfl ?_
      refine XS.iload X0.here hx rfl (D d11_74) rfl ?_
      refine own_baloadB X0 hx hZ e0 PA0 in_76_102 (D d11_76) _ ?_
      refine XS.bipush X0.here hx rfl (D d11_77) ?_
      refine XS.isub X0.here hx rfl (D d11_79) rfl ?_
      exact k
    have db_v103 := own_db hv103 (OK.dg (j := x0) (by omega) (by omega))
    have de_v103 : v103.toInt64 = own_d bs x0 0 := own_dd OK hv103 (by omega)
    have c105 : ¬ (v103 < (0 : Int32)) := own_g4 db_v103.1 (by decide)
    have c106 : ¬ ((9 : Int32) < v103) := own_g2 db_v103.2 (by decide)
    have c107 : ¬ ((0 : Int64) < (((-9223372036854775807 : Int64) + (v103).toInt64) / (10 : Int64))) := own_lim db_v103 (by first | decide | omega)
    have pre108 : ∀ t, Steps p.tables e below (s₁.setTop (mkF m 131 #[rv ra, iv x0, iv te, iv (0 : Int32), iv x0, jv (-9223372036854775807 : Int64), s2, jv (0 : Int64), s2, iv (0 : Int32), iv x0, iv v103] [(.long (0 : Int64))])) t → Steps p.tables e below B0 t := by
      intro t k
      refine pre104 t ?_
      show Steps p.tables e below (s₁.setTop (mkF m 80 #[rv ra, iv x0, iv te, iv (0 : Int32), iv x0, jv (-9223372036854775807 : Int64), s2, jv (0 : Int64), s2, iv (0 : Int32), iv x0, u0] [(.int v103)])) _
      refine XS.istore X0.here hx rfl (D d11_80) rfl (l' := #[rv ra, iv x0, iv te, iv (0 : Int32), iv x0, jv (-9223372036854775807 : Int64), s2, jv (0 : Int64), s2, iv (0 : Int32), iv x0, iv v103]) rfl ?_
      refine XS.iload X0.here hx rfl (D d11_82) rfl ?_
      show Steps p.tables e below (s₁.setTop (mkF m 84 #[rv ra, iv x0, iv te, iv (0 : Int32), iv x0, jv (-9223372036854775807 : Int64), s2, jv (0 : Int64), s2, iv (0 : Int32), iv x0, iv v103] [(.int v103)])) _
      refine XS.ifNo X0.here hx rfl (D d11_84) rfl ((if0 _ _).trans (flt c105).1) ?_
      show Steps p.tables e below (s₁.setTop (mkF m 87 #[rv ra, iv x0, iv te, iv (0 : Int32), iv x0, jv (-9223372036854775807 : Int64), s2, jv (0 : Int64), s2, iv (0 : Int32), iv x0, iv v103] [])) _
      refine XS.iload X0.here hx rfl (D d11_87) rfl ?_
      refine XS.bipush X0.here hx rfl (D d11_89) ?_
      show Steps p.tables e below (s₁.setTop (mkF m 91 #[rv ra, iv x0, iv te, iv (0 : Int32), iv x0, jv (-9223372036854775807 : Int64), s2, jv (0 : Int64), s2, iv (0 : Int32), iv x0, iv v103] [(.int (9 : Int32)), (.int v103)])) _
      refine XS.icmpYes X0.here hx rfl (pc0 := 91) (pc' := 98) rfl (D d11_91) rfl ((flt c106).2.2.2) (by decide) (by decide) ?_
      refine XS.iload X0.here hx rfl (D d11_98) rfl ?_
      show Steps p.tables e below (s₁.setTop (mkF m 100 #[rv ra, iv x0, iv te, iv (0 : Int32), iv x0, jv (-9223372036854775807 : Int64), s2, jv (0 : Int64), s2, iv (0 : Int32), iv x0, iv v103] [(.int (0 : Int32))])) _
      refine XS.ifNo X0.here hx rfl (D d11_100) rfl (by decide) ?_
      refine XS.lload X0.here hx rfl (D d11_103) rfl ?_
      refine XS.lload X0.here hx rfl (D d11_105) rfl ?_
      refine XS.iload X0.here hx rfl (D d11_107) rfl ?_
      refine XS.i2l X0.here hx rfl (D d11_109) rfl ?_
      refine XS.ladd X0.here hx rfl (D d11_110) rfl ?_
      show Steps p.tables e below (s₁.setTop (mkF m 111 #[rv ra, iv x0, iv te, iv (0 : Int32), iv x0, jv (-9223372036854775807 : Int64), s2, jv (0 : Int64), s2, iv (0 : Int32), iv x0, iv v103] [(.long ((-9223372036854775807 : Int64) + (v103).toInt64)), (.long (0 : Int64))])) _
      refine X0.ldc2Long hx hown (mvT hZ (H 70 rfl)) (g := (mkF m 111 #[rv ra, iv x0, iv te, iv (0 : Int32), iv x0, jv (-9223372036854775807 : Int64), s2, jv (0 : Int64), s2, iv (0 : Int32), iv x0, iv v103] [(.long ((-9223372036854775807 : Int64) + (v103).toInt64)), (.long (0 : Int64))])) rfl (D d11_111) _ ?_
      refine XS.ldiv X0.here hx rfl (D d11_114) rfl (by decide) ?_
      refine XS.lcmp X0.here hx rfl (D d11_115) rfl ?_
      show Steps p.tables e below (s₁.setTop (mkF m 116 #[rv ra, iv x0, iv te, iv (0 : Int32), iv x0, jv (-9223372036854775807 : Int64), s2, jv (0 : Int64), s2, iv (0 : Int32), iv x0, iv v103] [(.int (lcmpW (0 : Int64) (((-9223372036854775807 : Int64) + (v103).toInt64) / (10 : Int64))))])) _
      refine XS.ifYes X0.here hx rfl (pc0 := 116) (pc' := 125) rfl (D d11_116) rfl ((if0 _ _).trans (flt (mt (lw_lt (0 : Int64) (((-9223372036854775807 : Int64) + (v103).toInt64) / (10 : Int64))).mp c107)).2.1) (by decide) (by decide) ?_
      refine XS.lload X0.here hx rfl (D d11_125) rfl ?_
      refine X0.ldc2Long hx hown (mvT hZ (H 70 rfl)) (g := (mkF m 127 #[rv ra, iv x0, iv te, iv (0 : Int32), iv x0, jv (-9223372036854775807 : Int64), s2, jv (0 : Int64), s2, iv (0 : Int32), iv x0, iv v103] [(.long (0 : Int64))])) rfl (D d11_127) _ ?_
      refine XS.lmul X0.here hx rfl (D d11_130) rfl ?_
      exact k
    clear pre101 pre104
    obtain ⟨v109, hv109⟩ : ∃ z : Int64, z = ((0 : Int64) - (v103).toInt64) := ⟨_, rfl⟩
    have pre110 : ∀ t, Steps p.tables e below (s₁.setTop (mkF m 135 #[rv ra, iv x0, iv te, iv (0 : Int32), iv x0, jv (-9223372036854775807 : Int64), s2, jv (0 : Int64), s2, iv (0 : Int32), iv x0, iv v103] [(.long v109)])) t → Steps p.tables e below B0 t := by
      rw [hv109]
      intro t k
      refine pre108 t ?_
      show Steps p.tables e below (s₁.setTop (mkF m 131 #[rv ra, iv x0, iv te, iv (0 : Int32), iv x0, jv (-9223372036854775807 : Int64), s2, jv (0 : Int64), s2, iv (0 : Int32), iv x0, iv v103] [(.long (0 : Int64))])) _
      refine XS.iload X0.here hx rfl (D d11_131) rfl ?_
      refine XS.i2l X0.here hx rfl (D d11_133) rfl ?_
      show Steps p.tables e below (s₁.setTop (mkF m 134 #[rv ra, iv x0, iv te, iv (0 : Int32), iv x0, jv (-9223372036854775807 : Int64), s2, jv (0 : Int64), s2, iv (0 : Int32), iv x0, iv v103] [(.long (v103).toInt64), (.long (0 : Int64))])) _
      refine XS.lsub X0.here hx rfl (D d11_134) rfl ?_
      exact k
    have rb_v109 := own_rb0 hv109 db_v103
    obtain ⟨v111, hv111⟩ : ∃ z : Int32, z = (x0 + (1 : Int32)) := ⟨_, rfl⟩
    have pre112 : ∀ t, Steps p.tables e below (s₁.setTop (mkF m 67 #[rv ra, iv x0, iv te, iv (0 : Int32), iv x0, jv (-9223372036854775807 : Int64), s2, jv v109, s2, iv (0 : Int32), iv (x0 + (1 : Int32)), iv v103] [])) t → Steps p.tables e below B0 t := by
      intro t k
      refine pre110 t ?_
      show Steps p.tables e below (s₁.setTop (mkF m 135 #[rv ra, iv x0, iv te, iv (0 : Int32), iv x0, jv (-9223372036854775807 : Int64), s2, jv (0 : Int64), s2, iv (0 : Int32), iv x0, iv v103] [(.long v109)])) _
      refine XS.lstore X0.here hx rfl (D d11_135) rfl (l' := #[rv ra, iv x0, iv te, iv (0 : Int32), iv x0, jv (-9223372036854775807 : Int64), s2, jv v109, s2, iv (0 : Int32), iv x0, iv v103]) rfl ?_
      refine XS.iinc X0.here hx rfl (D d11_137) rfl (l' := #[rv ra, iv x0, iv te, iv (0 : Int32), iv x0, jv (-9223372036854775807 : Int64), s2, jv v109, s2, iv (0 : Int32), iv (x0 + (1 : Int32)), iv v103]) rfl ?_
      refine XS.goto X0.here hx rfl (pc0 := 140) (pc' := 67) rfl (D d11_140) (by decide) (by decide) ?_
      exact k
    clear pre108 pre110
    have pre113 : ∀ t, Steps p.tables e below (s₁.setTop (mkF m 67 #[rv ra, iv x0, iv te, iv (0 : Int32), iv x0, jv (-9223372036854775807 : Int64), s2, jv v109, s2, iv (0 : Int32), iv v111, iv v103] [])) t → Steps p.tables e below B0 t := by
      rw [hv111]
      exact pre112
    have f_v111 : v111.toInt = x0.toInt + 1 := by have q := own_nx OK hv111 f_x0 (by decide) (by decide); omega
    have c114 : v111 < te := Int32.lt_iff_toInt_lt.mpr (by omega)
    have in_76_115 : 0 ≤ (v111).toInt ∧ (v111).toInt < (bs.length : Nat) := (OK.inb (by omega) (by omega))
    obtain ⟨v116, hv116⟩ : ∃ z : Int32, z = ((bs.getD (v111).toInt.toNat 0) - (48 : Int32)) := ⟨_, rfl⟩
    have pre117 : ∀ t, Steps p.tables e below (s₁.setTop (mkF m 80 #[rv ra, iv x0, iv te, iv (0 : Int32), iv x0, jv (-9223372036854775807 : Int64), s2, jv v109, s2, iv (0 : Int32), iv v111, iv v103] [(.int v116)])) t → Steps p.tables e below B0 t := by
      rw [hv116]
      intro t k
      refine pre113 t ?_
      show Steps p.tables e below (s₁.setTop (mkF m 67 #[rv ra, iv x0, iv te, iv (0 : Int32), iv x0, jv (-9223372036854775807 : Int64), s2, jv v109, s2, iv (0 : Int32), iv v111, iv v103] [])) _
      refine XS.iload X0.here hx rfl (D d11_67) rfl ?_
      refine XS.iloadN X0.here hx rfl (D d11_69) rfl ?_
      show Steps p.tables e below (s₁.setTop (mkF m 70 #[rv ra, iv x0, iv te, iv (0 : Int32), iv x0, jv (-9223372036854775807 : Int64), s2, jv v109, s2, iv (0 : Int32), iv v111, iv v103] [(.int te), (.int v111)])) _
      refine XS.icmpNo X0.here hx rfl (D d11_70) rfl ((tlt c114).2.1) ?_
      refine XS.aloadN X0.here hx rfl (D d11_73) rfl rfl ?_
      refine XS.iload X0.here hx rfl (D d11_74) rfl ?_
      show Steps p.tables e below (s₁.setTop (mkF m 76 #[rv ra, iv x0, iv te, iv (0 : Int32), iv x0, jv (-9223372036854775807 : Int64), s2, jv v109, s2, iv (0 : Int32), iv v111, iv v103] [(.int v111), (.ref ra)])) _
      refine own_baloadB X0 hx hZ e0 PA0 in_76_115 (D d11_76) _ ?_
      refine XS.bipush X0.here hx rfl (D d11_77) ?_
      refine XS.isub X0.here hx rfl (D d11_79) rfl ?_
      exact k
    have db_v116 := own_db hv116 (OK.dg (j := v111) (by omega) (by omega))
    have de_v116 : v116.toInt64 = own_d bs x0 1 := own_dd OK hv116 (by omega)
    have c118 : ¬ (v116 < (0 : Int32)) := own_g4 db_v116.1 (by decide)
    have c119 : ¬ ((9 : Int32) < v116) := own_g2 db_v116.2 (by decide)
    have c120 : ¬ (v109 < (((-9223372036854775807 : Int64) + (v116).toInt64) / (10 : Int64))) := own_lim db_v116 (by first | decide | omega)
    have pre121 : ∀ t, Steps p.tables e below (s₁.setTop (mkF m 131 #[rv ra, iv x0, iv te, iv (0 : Int32), iv x0, jv (-9223372036854775807 : Int64), s2, jv v109, s2, iv (0 : Int32), iv v111, iv v116] [(.long (v109 * (10 : Int64)))])) t → Steps p.tables e below B0 t := by
      intro t k
      refine pre117 t ?_
      show Steps p.tables e below (s₁.setTop (mkF m 80 #[rv ra, iv x0, iv te, iv (0 : Int32), iv x0, jv (-9223372036854775807 : Int64), s2, jv v109, s2, iv (0 : Int32), iv v111, iv v103] [(.int v116)])) _
      refine XS.istore X0.here hx rfl (D d11_80) rfl (l' := #[rv ra, iv x0, iv te, iv (0 : Int32), iv x0, jv (-9223372036854775807 : Int64), s2, jv v109, s2, iv (0 : Int32), iv v111, iv v116]) rfl ?_
      refine XS.iload X0.here hx rfl (D d11_82) rfl ?_
      show Steps p.tables e below (s₁.setTop (mkF m 84 #[rv ra, iv x0, iv te, iv (0 : Int32), iv x0, jv (-9223372036854775807 : Int64), s2, jv v109, s2, iv (0 : Int32), iv v111, iv v116] [(.int v116)])) _
      refine XS.ifNo X0.here hx rfl (D d11_84) rfl ((if0 _ _).trans (flt c118).1) ?_
      refine XS.iload X0.here hx rfl (D d11_87) rfl ?_
      refine XS.bipush X0.here hx rfl (D d11_89) ?_
      show Steps p.tables e below (s₁.setTop (mkF m 91 #[rv ra, iv x0, iv te, iv (0 : Int32), iv x0, jv (-9223372036854775807 : Int64), s2, jv v109, s2, iv (0 : Int32), iv v111, iv v116] [(.int (9 : Int32)), (.int v116)])) _
      refine XS.icmpYes X0.here hx rfl (pc0 := 91) (pc' := 98) rfl (D d11_91) rfl ((flt c119).2.2.2) (by decide) (by decide) ?_
      refine XS.iload X0.here hx rfl (D d11_98) rfl ?_
      show Steps p.tables e below (s₁.setTop (mkF m 100 #[rv ra, iv x0, iv te, iv (0 : Int32), iv x0, jv (-9223372036854775807 : Int64), s2, jv v109, s2, iv (0 : Int32), iv v111, iv v116] [(.int (0 : Int32))])) _
      refine XS.ifNo X0.here hx rfl (D d11_100) rfl (by decide) ?_
      show Steps p.tables e below (s₁.setTop (mkF m 103 #[rv ra, iv x0, iv te, iv (0 : Int32), iv x0, jv (-9223372036854775807 : Int64), s2, jv v109, s2, iv (0 : Int32), iv v111, iv v116] [])) _
      refine XS.lload X0.here hx rfl (D d11_103) rfl ?_
      refine XS.lload X0.here hx rfl (D d11_105) rfl ?_
      refine XS.iload X0.here hx rfl (D d11_107) rfl ?_
      refine XS.i2l X0.here hx rfl (D d11_109) rfl ?_
      refine XS.ladd X0.here hx rfl (D d11_110) rfl ?_
      refine X0.ldc2Long hx hown (mvT hZ (H 70 rfl)) (g := (mkF m 111 #[rv ra, iv x0, iv te, iv (0 : Int32), iv x0, jv (-9223372036854775807 : Int64), s2, jv v109, s2, iv (0 : Int32), iv v111, iv v116] [(.long ((-9223372036854775807 : Int64) + (v116).toInt64)), (.long v109)])) rfl (D d11_111) _ ?_
      refine XS.ldiv X0.here hx rfl (D d11_114) rfl (by decide) ?_
      refine XS.lcmp X0.here hx rfl (D d11_115) rfl ?_
      show Steps p.tables e below (s₁.setTop (mkF m 116 #[rv ra, iv x0, iv te, iv (0 : Int32), iv x0, jv (-9223372036854775807 : Int64), s2, jv v109, s2, iv (0 : Int32), iv v111, iv v116] [(.int (lcmpW v109 (((-9223372036854775807 : Int64) + (v116).toInt64) / (10 : Int64))))])) _
      refine XS.ifYes X0.here hx rfl (pc0 := 116) (pc' := 125) rfl (D d11_116) rfl ((if0 _ _).trans (flt (mt (lw_lt v109 (((-9223372036854775807 : Int64) + (v116).toInt64) / (10 : Int64))).mp c120)).2.1) (by decide) (by decide) ?_
      show Steps p.tables e below (s₁.setTop (mkF m 125 #[rv ra, iv x0, iv te, iv (0 : Int32), iv x0, jv (-9223372036854775807 : Int64), s2, jv v109, s2, iv (0 : Int32), iv v111, iv v116] [])) _
      refine XS.lload X0.here hx rfl (D d11_125) rfl ?_
      refine X0.ldc2Long hx hown (mvT hZ (H 70 rfl)) (g := (mkF m 127 #[rv ra, iv x0, iv te, iv (0 : Int32), iv x0, jv (-9223372036854775807 : Int64), s2, jv v109, s2, iv (0 : Int32), iv v111, iv v116] [(.long v109)])) rfl (D d11_127) _ ?_
      refine XS.lmul X0.here hx rfl (D d11_130) rfl ?_
      exact k
    clear pre112 pre113 pre117
    obtain ⟨v122, hv122⟩ : ∃ z : Int64, z = ((v109 * (10 : Int64)) - (v116).toInt64) := ⟨_, rfl⟩
    have pre123 : ∀ t, Steps p.tables e below (s₁.setTop (mkF m 135 #[rv ra, iv x0, iv te, iv (0 : Int32), iv x0, jv (-9223372036854775807 : Int64), s2, jv v109, s2, iv (0 : Int32), iv v111, iv v116] [(.long v122)])) t → Steps p.tables e below B0 t := by
      rw [hv122]
      intro t k
      refine pre121 t ?_
      show Steps p.tables e below (s₁.setTop (mkF m 131 #[rv ra, iv x0, iv te, iv (0 : Int32), iv x0, jv (-9223372036854775807 : Int64), s2, jv v109, s2, iv (0 : Int32), iv v111, iv v116] [(.long (v109 * (10 : Int64)))])) _
      refine XS.iload X0.here hx rfl (D d11_131) rfl ?_
      refine XS.i2l X0.here hx rfl (D d11_133) rfl ?_
      refine XS.lsub X0.here hx rfl (D d11_134) rfl ?_
      exact k
    have rb_v122 : -99 ≤ v122.toInt ∧ v122.toInt ≤ 0 := by have q := own_rb 9 hv122 db_v116 rb_v109 (by decide); omega
    obtain ⟨v124, hv124⟩ : ∃ z : Int32, z = (v111 + (1 : Int32)) := ⟨_, rfl⟩
    have pre125 : ∀ t, Steps p.tables e below (s₁.setTop (mkF m 67 #[rv ra, iv x0, iv te, iv (0 : Int32), iv x0, jv (-9223372036854775807 : Int64), s2, jv v122, s2, iv (0 : Int32), iv (v111 + (1 : Int32)), iv v116] [])) t → Steps p.tables e below B0 t := by
      intro t k
      refine pre123 t ?_
      show Steps p.tables e below (s₁.setTop (mkF m 135 #[rv ra, iv x0, iv te, iv (0 : Int32), iv x0, jv (-9223372036854775807 : Int64), s2, jv v109, s2, iv (0 : Int32), iv v111, iv v116] [(.long v122)])) _
      refine XS.lstore X0.here hx rfl (D d11_135) rfl (l' := #[rv ra, iv x0, iv te, iv (0 : Int32), iv x0, jv (-9223372036854775807 : Int64), s2, jv v122, s2, iv (0 : Int32), iv v111, iv v116]) rfl ?_
      refine XS.iinc X0.here hx rfl (D d11_137) rfl (l' := #[rv ra, iv x0, iv te, iv (0 : Int32), iv x0, jv (-9223372036854775807 : Int64), s2, jv v122, s2, iv (0 : Int32), iv (v111 + (1 : Int32)), iv v116]) rfl ?_
      show Steps p.tables e below (s₁.setTop (mkF m 140 #[rv ra, iv x0, iv te, iv (0 : Int32), iv x0, jv (-9223372036854775807 : Int64), s2, jv v122, s2, iv (0 : Int32), iv (v111 + (1 : Int32)), iv v116] [])) _
      refine XS.goto X0.here hx rfl (pc0 := 140) (pc' := 67) rfl (D d11_140) (by decide) (by decide) ?_
      exact k
    clear pre121 pre123
    have pre126 : ∀ t, Steps p.tables e below (s₁.setTop (mkF m 67 #[rv ra, iv x0, iv te, iv (0 : Int32), iv x0, jv (-9223372036854775807 : Int64), s2, jv v122, s2, iv (0 : Int32), iv v124, iv v116] [])) t → Steps p.tables e below B0 t := by
      rw [hv124]
      exact pre125
    have f_v124 : v124.toInt = x0.toInt + 2 := by have q := own_nx OK hv124 f_v111 (by decide) (by decide); omega
    have c127 : v124 < te := Int32.lt_iff_toInt_lt.mpr (by omega)
    have in_76_128 : 0 ≤ (v124).toInt ∧ (v124).toInt < (bs.length : Nat) := (OK.inb (by omega) (by omega))
    obtain ⟨v129, hv129⟩ : ∃ z : Int32, z = ((bs.getD (v124).toInt.toNat 0) - (48 : Int32)) := ⟨_, rfl⟩
    have pre130 : ∀ t, Steps p.tables e below (s₁.setTop (mkF m 80 #[rv ra, iv x0, iv te, iv (0 : Int32), iv x0, jv (-9223372036854775807 : Int64), s2, jv v122, s2, iv (0 : Int32), iv v124, iv v116] [(.int v129)])) t → Steps p.tables e below B0 t := by
      rw [hv129]
      intro t k
      refine pre126 t ?_
      show Steps p.tables e below (s₁.setTop (mkF m 67 #[rv ra, iv x0, iv te, iv (0 : Int32), iv x0, jv (-9223372036854775807 : Int64), s2, jv v122, s2, iv (0 : Int32), iv v124, iv v116] [])) _
      refine XS.iload X0.here hx rfl (D d11_67) rfl ?_
      refine XS.iloadN X0.here hx rfl (D d11_69) rfl ?_
      show Steps p.tables e below (s₁.setTop (mkF m 70 #[rv ra, iv x0, iv te, iv (0 : Int32), iv x0, jv (-9223372036854775807 : Int64), s2, jv v122, s2, iv (0 : Int32), iv v124, iv v116] [(.int te), (.int v124)])) _
      refine XS.icmpNo X0.here hx rfl (D d11_70) rfl ((tlt c127).2.1) ?_
      refine XS.aloadN X0.here hx rfl (D d11_73) rfl rfl ?_
      refine XS.iload X0.here hx rfl (D d11_74) rfl ?_
      refine own_baloadB X0 hx hZ e0 PA0 in_76_128 (D d11_76) _ ?_
      refine XS.bipush X0.here hx rfl (D d11_77) ?_
      refine XS.isub X0.here hx rfl (D d11_79) rfl ?_
      exact k
    have db_v129 := own_db hv129 (OK.dg (j := v124) (by omega) (by omega))
    have de_v129 : v129.toInt64 = own_d bs x0 2 := own_dd OK hv129 (by omega)
    have c131 : ¬ (v129 < (0 : Int32)) := own_g4 db_v129.1 (by decide)
    have c132 : ¬ ((9 : Int32) < v129) := own_g2 db_v129.2 (by decide)
    have c133 : ¬ (v122 < (((-9223372036854775807 : Int64) + (v129).toInt64) / (10 : Int64))) := own_lim db_v129 (by first | decide | omega)
    have pre134 : ∀ t, Steps p.tables e below (s₁.setTop (mkF m 133 #[rv ra, iv x0, iv te, iv (0 : Int32), iv x0, jv (-9223372036854775807 : Int64), s2, jv v122, s2, iv (0 : Int32), iv v124, iv v129] [(.int v129), (.long (v122 * (10 : Int64)))])) t → Steps p.tables e below B0 t := by
      intro t k
      refine pre130 t ?_
      show Steps p.tables e below (s₁.setTop (mkF m 80 #[rv ra, iv x0, iv te, iv (0 : Int32), iv x0, jv (-9223372036854775807 : Int64), s2, jv v122, s2, iv (0 : Int32), iv v124, iv v116] [(.int v129)])) _
      refine XS.istore X0.here hx rfl (D d11_80) rfl (l' := #[rv ra, iv x0, iv te, iv (0 : Int32), iv x0, jv (-9223372036854775807 : Int64), s2, jv v122, s2, iv (0 : Int32), iv v124, iv v129]) rfl ?_
      refine XS.iload X0.here hx rfl (D d11_82) rfl ?_
      show Steps p.tables e below (s₁.setTop (mkF m 84 #[rv ra, iv x0, iv te, iv (0 : Int32), iv x0, jv (-9223372036854775807 : Int64), s2, jv v122, s2, iv (0 : Int32), iv v124, iv v129] [(.int v129)])) _
      refine XS.ifNo X0.here hx rfl (D d11_84) rfl ((if0 _ _).trans (flt c131).1) ?_
      refine XS.iload X0.here hx rfl (D d11_87) rfl ?_
      refine XS.bipush X0.here hx rfl (D d11_89) ?_
      show Steps p.tables e below (s₁.setTop (mkF m 91 #[rv ra, iv x0, iv te, iv (0 : Int32), iv x0, jv (-9223372036854775807 : Int64), s2, jv v122, s2, iv (0 : Int32), iv v124, iv v129] [(.int (9 : Int32)), (.int v129)])) _
      refine XS.icmpYes X0.here hx rfl (pc0 := 91) (pc' := 98) rfl (D d11_91) rfl ((flt c132).2.2.2) (by decide) (by decide) ?_
      refine XS.iload X0.here hx rfl (D d11_98) rfl ?_
      show Steps p.tables e below (s₁.setTop (mkF m 100 #[rv ra, iv x0, iv te, iv (0 : Int32), iv x0, jv (-9223372036854775807 : Int64), s2, jv v122, s2, iv (0 : Int32), iv v124, iv v129] [(.int (0 : Int32))])) _
      refine XS.ifNo X0.here hx rfl (D d11_100) rfl (by decide) ?_
      refine XS.lload X0.here hx rfl (D d11_103) rfl ?_
      refine XS.lload X0.here hx rfl (D d11_105) rfl ?_
      refine XS.iload X0.here hx rfl (D d11_107) rfl ?_
      show Steps p.tables e below (s₁.setTop (mkF m 109 #[rv ra, iv x0, iv te, iv (0 : Int32), iv x0, jv (-9223372036854775807 : Int64), s2, jv v122, s2, iv (0 : Int32), iv v124, iv v129] [(.int v129), (.long (-9223372036854775807 : Int64)), (.long v122)])) _
      refine XS.i2l X0.here hx rfl (D d11_109) rfl ?_
      refine XS.ladd X0.here hx rfl (D d11_110) rfl ?_
      refine X0.ldc2Long hx hown (mvT hZ (H 70 rfl)) (g := (mkF m 111 #[rv ra, iv x0, iv te, iv (0 : Int32), iv x0, jv (-9223372036854775807 : Int64), s2, jv v122, s2, iv (0 : Int32), iv v124, iv v129] [(.long ((-9223372036854775807 : Int64) + (v129).toInt64)), (.long v122)])) rfl (D d11_111) _ ?_
      refine XS.ldiv X0.here hx rfl (D d11_114) rfl (by decide) ?_
      refine XS.lcmp X0.here hx rfl (D d11_115) rfl ?_
      show Steps p.tables e below (s₁.setTop (mkF m 116 #[rv ra, iv x0, iv te, iv (0 : Int32), iv x0, jv (-9223372036854775807 : Int64), s2, jv v122, s2, iv (0 : Int32), iv v124, iv v129] [(.int (lcmpW v122 (((-9223372036854775807 : Int64) + (v129).toInt64) / (10 : Int64))))])) _
      refine XS.ifYes X0.here hx rfl (pc0 := 116) (pc' := 125) rfl (D d11_116) rfl ((if0 _ _).trans (flt (mt (lw_lt v122 (((-9223372036854775807 : Int64) + (v129).toInt64) / (10 : Int64))).mp c133)).2.1) (by decide) (by decide) ?_
      refine XS.lload X0.here hx rfl (D d11_125) rfl ?_
      refine X0.ldc2Long hx hown (mvT hZ (H 70 rfl)) (g := (mkF m 127 #[rv ra, iv x0, iv te, iv (0 : Int32), iv x0, jv (-9223372036854775807 : Int64), s2, jv v122, s2, iv (0 : Int32), iv v124, iv v129] [(.long v122)])) rfl (D d11_127) _ ?_
      refine XS.lmul X0.here hx rfl (D d11_130) rfl ?_
      show Steps p.tables e below (s₁.setTop (mkF m 131 #[rv ra, iv x0, iv te, iv (0 : Int32), iv x0, jv (-9223372036854775807 : Int64), s2, jv v122, s2, iv (0 : Int32), iv v124, iv v129] [(.long (v122 * (10 : Int64)))])) _
      refine XS.iload X0.here hx rfl (D d11_131) rfl ?_
      exact k
    clear pre125 pre126 pre130
    obtain ⟨v135, hv135⟩ : ∃ z : Int64, z = ((v122 * (10 : Int64)) - (v129).toInt64) := ⟨_, rfl⟩
    have pre136 : ∀ t, Steps p.tables e below (s₁.setTop (mkF m 135 #[rv ra, iv x0, iv te, iv (0 : Int32), iv x0, jv (-9223372036854775807 : Int64), s2, jv v122, s2, iv (0 : Int32), iv v124, iv v129] [(.long v135)])) t → Steps p.tables e below B0 t := by
      rw [hv135]
      intro t k
      refine pre134 t ?_
      show Steps p.tables e below (s₁.setTop (mkF m 133 #[rv ra, iv x0, iv te, iv (0 : Int32), iv x0, jv (-9223372036854775807 : Int64), s2, jv v122, s2, iv (0 : Int32), iv v124, iv v129] [(.int v129), (.long (v122 * (10 : Int64)))])) _
      refine XS.i2l X0.here hx rfl (D d11_133) rfl ?_
      refine XS.lsub X0.here hx rfl (D d11_134) rfl ?_
      exact k
    have rb_v135 : -999 ≤ v135.toInt ∧ v135.toInt ≤ 0 := by have q := own_rb 99 hv135 db_v129 rb_v122 (by decide); omega
    obtain ⟨v137, hv137⟩ : ∃ z : Int32, z = (v124 + (1 : Int32)) := ⟨_, rfl⟩
    have pre138 : ∀ t, Steps p.tables e below (s₁.setTop (mkF m 67 #[rv ra, iv x0, iv te, iv (0 : Int32), iv x0, jv (-9223372036854775807 : Int64), s2, jv v135, s2, iv (0 : Int32), iv (v124 + (1 : Int32)), iv v129] [])) t → Steps p.tables e below B0 t := by
      intro t k
      refine pre136 t ?_
      show Steps p.tables e below (s₁.setTop (mkF m 135 #[rv ra, iv x0, iv te, iv (0 : Int32), iv x0, jv (-9223372036854775807 : Int64), s2, jv v122, s2, iv (0 : Int32), iv v124, iv v129] [(.long v135)])) _
      refine XS.lstore X0.here hx rfl (D d11_135) rfl (l' := #[rv ra, iv x0, iv te, iv (0 : Int32), iv x0, jv (-9223372036854775807 : Int64), s2, jv v135, s2, iv (0 : Int32), iv v124, iv v129]) rfl ?_
      refine XS.iinc X0.here hx rfl (D d11_137) rfl (l' := #[rv ra, iv x0, iv te, iv (0 : Int32), iv x0, jv (-9223372036854775807 : Int64), s2, jv v135, s2, iv (0 : Int32), iv (v124 + (1 : Int32)), iv v129]) rfl ?_
      refine XS.goto X0.here hx rfl (pc0 := 140) (pc' := 67) rfl (D d11_140) (by decide) (by decide) ?_
      exact k
    clear pre134 pre136
    have pre139 : ∀ t, Steps p.tables e below (s₁.setTop (mkF m 67 #[rv ra, iv x0, iv te, iv (0 : Int32), iv x0, jv (-9223372036854775807 : Int64), s2, jv v135, s2, iv (0 : Int32), iv v137, iv v129] [])) t → Steps p.tables e below B0 t := by
      rw [hv137]
      exact pre138
    have f_v137 : v137.toInt = x0.toInt + 3 := by have q := own_nx OK hv137 f_v124 (by decide) (by decide); omega
    have c140 : v137 < te := Int32.lt_iff_toInt_lt.mpr (by omega)
    have in_76_141 : 0 ≤ (v137).toInt ∧ (v137).toInt < (bs.length : Nat) := (OK.inb (by omega) (by omega))
    obtain ⟨v142, hv142⟩ : ∃ z : Int32, z = ((bs.getD (v137).toInt.toNat 0) - (48 : Int32)) := ⟨_, rfl⟩
    have pre143 : ∀ t, Steps p.tables e below (s₁.setTop (mkF m 80 #[rv ra, iv x0, iv te, iv (0 : Int32), iv x0, jv (-9223372036854775807 : Int64), s2, jv v135, s2, iv (0 : Int32), iv v137, iv v129] [(.int v142)])) t → Steps p.tables e below B0 t := by
      rw [hv142]
      intro t k
      refine pre139 t ?_
      show Steps p.tables e below (s₁.setTop (mkF m 67 #[rv ra, iv x0, iv te, iv (0 : Int32), iv x0, jv (-9223372036854775807 : Int64), s2, jv v135, s2, iv (0 : Int32), iv v137, iv v129] [])) _
      refine XS.iload X0.here hx rfl (D d11_67) rfl ?_
      refine XS.iloadN X0.here hx rfl (D d11_69) rfl ?_
      show Steps p.tables e below (s₁.setTop (mkF m 70 #[rv ra, iv x0, iv te, iv (0 : Int32), iv x0, jv (-9223372036854775807 : Int64), s2, jv v135, s2, iv (0 : Int32), iv v137, iv v129] [(.int te), (.int v137)])) _
      refine XS.icmpNo X0.here hx rfl (D d11_70) rfl ((tlt c140).2.1) ?_
      show Steps p.tables e below (s₁.setTop (mkF m 73 #[rv ra, iv x0, iv te, iv (0 : Int32), iv x0, jv (-9223372036854775807 : Int64), s2, jv v135, s2, iv (0 : Int32), iv v137, iv v129] [])) _
      refine XS.aloadN X0.here hx rfl (D d11_73) rfl rfl ?_
      refine XS.iload X0.here hx rfl (D d11_74) rfl ?_
      refine own_baloadB X0 hx hZ e0 PA0 in_76_141 (D d11_76) _ ?_
      refine XS.bipush X0.here hx rfl (D d11_77) ?_
      refine XS.isub X0.here hx rfl (D d11_79) rfl ?_
      exact k
    have db_v142 := own_db hv142 (OK.dg (j := v137) (by omega) (by omega))
    have de_v142 : v142.toInt64 = own_d bs x0 3 := own_dd OK hv142 (by omega)
    have c144 : ¬ (v142 < (0 : Int32)) := own_g4 db_v142.1 (by decide)
    have c145 : ¬ ((9 : Int32) < v142) := own_g2 db_v142.2 (by decide)
    have c146 : ¬ (v135 < (((-9223372036854775807 : Int64) + (v142).toInt64) / (10 : Int64))) := own_lim db_v142 (by first | decide | omega)
    have pre147 : ∀ t, Steps p.tables e below (s₁.setTop (mkF m 131 #[rv ra, iv x0, iv te, iv (0 : Int32), iv x0, jv (-9223372036854775807 : Int64), s2, jv v135, s2, iv (0 : Int32), iv v137, iv v142] [(.long (v135 * (10 : Int64)))])) t → Steps p.tables e below B0 t := by
      intro t k
      refine pre143 t ?_
      show Steps p.tables e below (s₁.setTop (mkF m 80 #[rv ra, iv x0, iv te, iv (0 : Int32), iv x0, jv (-9223372036854775807 : Int64), s2, jv v135, s2, iv (0 : Int32), iv v137, iv v129] [(.int v142)])) _
      refine XS.istore X0.here hx rfl (D d11_80) rfl (l' := #[rv ra, iv x0, iv te, iv (0 : Int32), iv x0, jv (-9223372036854775807 : Int64), s2, jv v135, s2, iv (0 : Int32), iv v137, iv v142]) rfl ?_
      refine XS.iload X0.here hx rfl (D d11_82) rfl ?_
      show Steps p.tables e below (s₁.setTop (mkF m 84 #[rv ra, iv x0, iv te, iv (0 : Int32), iv x0, jv (-9223372036854775807 : Int64), s2, jv v135, s2, iv (0 : Int32), iv v137, iv v142] [(.int v142)])) _
      refine XS.ifNo X0.here hx rfl (D d11_84) rfl ((if0 _ _).trans (flt c144).1) ?_
      refine XS.iload X0.here hx rfl (D d11_87) rfl ?_
      show Steps p.tables e below (s₁.setTop (mkF m 89 #[rv ra, iv x0, iv te, iv (0 : Int32), iv x0, jv (-9223372036854775807 : Int64), s2, jv v135, s2, iv (0 : Int32), iv v137, iv v142] [(.int v142)])) _
      refine XS.bipush X0.here hx rfl (D d11_89) ?_
      show Steps p.tables e below (s₁.setTop (mkF m 91 #[rv ra, iv x0, iv te, iv (0 : Int32), iv x0, jv (-9223372036854775807 : Int64), s2, jv v135, s2, iv (0 : Int32), iv v137, iv v142] [(.int (9 : Int32)), (.int v142)])) _
      refine XS.icmpYes X0.here hx rfl (pc0 := 91) (pc' := 98) rfl (D d11_91) rfl ((flt c145).2.2.2) (by decide) (by decide) ?_
      refine XS.iload X0.here hx rfl (D d11_98) rfl ?_
      show Steps p.tables e below (s₁.setTop (mkF m 100 #[rv ra, iv x0, iv te, iv (0 : Int32), iv x0, jv (-9223372036854775807 : Int64), s2, jv v135, s2, iv (0 : Int32), iv v137, iv v142] [(.int (0 : Int32))])) _
      refine XS.ifNo X0.here hx rfl (D d11_100) rfl (by decide) ?_
      refine XS.lload X0.here hx rfl (D d11_103) rfl ?_
      refine XS.lload X0.here hx rfl (D d11_105) rfl ?_
      refine XS.iload X0.here hx rfl (D d11_107) rfl ?_
      refine XS.i2l X0.here hx rfl (D d11_109) rfl ?_
      refine XS.ladd X0.here hx rfl (D d11_110) rfl ?_
      refine X0.ldc2Long hx hown (mvT hZ (H 70 rfl)) (g := (mkF m 111 #[rv ra, iv x0, iv te, iv (0 : Int32), iv x0, jv (-9223372036854775807 : Int64), s2, jv v135, s2, iv (0 : Int32), iv v137, iv v142] [(.long ((-9223372036854775807 : Int64) + (v142).toInt64)), (.long v135)])) rfl (D d11_111) _ ?_
      show Steps p.tables e below (s₁.setTop (mkF m 114 #[rv ra, iv x0, iv te, iv (0 : Int32), iv x0, jv (-9223372036854775807 : Int64), s2, jv v135, s2, iv (0 : Int32), iv v137, iv v142] [(.long (10 : Int64)), (.long ((-9223372036854775807 : Int64) + (v142).toInt64)), (.long v135)])) _
      refine XS.ldiv X0.here hx rfl (D d11_114) rfl (by decide) ?_
      refine XS.lcmp X0.here hx rfl (D d11_115) rfl ?_
      show Steps p.tables e below (s₁.setTop (mkF m 116 #[rv ra, iv x0, iv te, iv (0 : Int32), iv x0, jv (-9223372036854775807 : Int64), s2, jv v135, s2, iv (0 : Int32), iv v137, iv v142] [(.int (lcmpW v135 (((-9223372036854775807 : Int64) + (v142).toInt64) / (10 : Int64))))])) _
      refine XS.ifYes X0.here hx rfl (pc0 := 116) (pc' := 125) rfl (D d11_116) rfl ((if0 _ _).trans (flt (mt (lw_lt v135 (((-9223372036854775807 : Int64) + (v142).toInt64) / (10 : Int64))).mp c146)).2.1) (by decide) (by decide) ?_
      refine XS.lload X0.here hx rfl (D d11_125) rfl ?_
      refine X0.ldc2Long hx hown (mvT hZ (H 70 rfl)) (g := (mkF m 127 #[rv ra, iv x0, iv te, iv (0 : Int32), iv x0, jv (-9223372036854775807 : Int64), s2, jv v135, s2, iv (0 : Int32), iv v137, iv v142] [(.long v135)])) rfl (D d11_127) _ ?_
      refine XS.lmul X0.here hx rfl (D d11_130) rfl ?_
      exact k
    clear pre138 pre139 pre143
    obtain ⟨v148, hv148⟩ : ∃ z : Int64, z = ((v135 * (10 : Int64)) - (v142).toInt64) := ⟨_, rfl⟩
    have pre149 : ∀ t, Steps p.tables e below (s₁.setTop (mkF m 135 #[rv ra, iv x0, iv te, iv (0 : Int32), iv x0, jv (-9223372036854775807 : Int64), s2, jv v135, s2, iv (0 : Int32), iv v137, iv v142] [(.long v148)])) t → Steps p.tables e below B0 t := by
      rw [hv148]
      intro t k
      refine pre147 t ?_
      show Steps p.tables e below (s₁.setTop (mkF m 131 #[rv ra, iv x0, iv te, iv (0 : Int32), iv x0, jv (-9223372036854775807 : Int64), s2, jv v135, s2, iv (0 : Int32), iv v137, iv v142] [(.long (v135 * (10 : Int64)))])) _
      refine XS.iload X0.here hx rfl (D d11_131) rfl ?_
      refine XS.i2l X0.here hx rfl (D d11_133) rfl ?_
      refine XS.lsub X0.here hx rfl (D d11_134) rfl ?_
      exact k
    have rb_v148 : -9999 ≤ v148.toInt ∧ v148.toInt ≤ 0 := by have q := own_rb 999 hv148 db_v142 rb_v135 (by decide); omega
    obtain ⟨v150, hv150⟩ : ∃ z : Int32, z = (v137 + (1 : Int32)) := ⟨_, rfl⟩
    have pre151 : ∀ t, Steps p.tables e below (s₁.setTop (mkF m 67 #[rv ra, iv x0, iv te, iv (0 : Int32), iv x0, jv (-9223372036854775807 : Int64), s2, jv v148, s2, iv (0 : Int32), iv (v137 + (1 : Int32)), iv v142] [])) t → Steps p.tables e below B0 t := by
      intro t k
      refine pre149 t ?_
      show Steps p.tables e below (s₁.setTop (mkF m 135 #[rv ra, iv x0, iv te, iv (0 : Int32), iv x0, jv (-9223372036854775807 : Int64), s2, jv v135, s2, iv (0 : Int32), iv v137, iv v142] [(.long v148)])) _
      refine XS.lstore X0.here hx rfl (D d11_135) rfl (l' := #[rv ra, iv x0, iv te, iv (0 : Int32), iv x0, jv (-9223372036854775807 : Int64), s2, jv v148, s2, iv (0 : Int32), iv v137, iv v142]) rfl ?_
      refine XS.iinc X0.here hx rfl (D d11_137) rfl (l' := #[rv ra, iv x0, iv te, iv (0 : Int32), iv x0, jv (-9223372036854775807 : Int64), s2, jv v148, s2, iv (0 : Int32), iv (v137 + (1 : Int32)), iv v142]) rfl ?_
      refine XS.goto X0.here hx rfl (pc0 := 140) (pc' := 67) rfl (D d11_140) (by decide) (by decide) ?_
      exact k
    clear pre147 pre149
    have pre152 : ∀ t, Steps p.tables e below (s₁.setTop (mkF m 67 #[rv ra, iv x0, iv te, iv (0 : Int32), iv x0, jv (-9223372036854775807 : Int64), s2, jv v148, s2, iv (0 : Int32), iv v150, iv v142] [])) t → Steps p.tables e below B0 t := by
      rw [hv150]
      exact pre151
    have f_v150 : v150.toInt = x0.toInt + 4 := by have q := own_nx OK hv150 f_v137 (by decide) (by decide); omega
    have c153 : ¬ (v150 < te) := (fun q => by have := Int32.lt_iff_toInt_lt.mp q; omega)
    have c154 : ¬ ((19 : Int32) < (te - x0)) := own_t19 OK ft
    obtain ⟨fs, hr, hrun, hended, hW, hsame⟩ := X0.leave (v := some (.long (-v148))) (fun h => by rw [Bd.returns] at h; cases h) hlk
    refine ⟨_, _, pre152 _ ?_, hrun, hended, _, _, rfl, ?_, ⟨_, rfl⟩, hW, hsame.mono (by decide) (by decide)⟩
    · show Steps p.tables e below (s₁.setTop (mkF m 67 #[rv ra, iv x0, iv te, iv (0 : Int32), iv x0, jv (-9223372036854775807 : Int64), s2, jv v148, s2, iv (0 : Int32), iv v150, iv v142] [])) _
      refine XS.iload X0.here hx rfl (D d11_67) rfl ?_
      refine XS.iloadN X0.here hx rfl (D d11_69) rfl ?_
      show Steps p.tables e below (s₁.setTop (mkF m 70 #[rv ra, iv x0, iv te, iv (0 : Int32), iv x0, jv (-9223372036854775807 : Int64), s2, jv v148, s2, iv (0 : Int32), iv v150, iv v142] [(.int te), (.int v150)])) _
      refine XS.icmpYes X0.here hx rfl (pc0 := 70) (pc' := 143) rfl (D d11_70) rfl ((flt c153).2.1) (by decide) (by decide) ?_
      refine XS.iloadN X0.here hx rfl (D d11_143) rfl ?_
      refine XS.iload X0.here hx rfl (D d11_144) rfl ?_
      refine XS.isub X0.here hx rfl (D d11_146) rfl ?_
      show Steps p.tables e below (s₁.setTop (mkF m 147 #[rv ra, iv x0, iv te, iv (0 : Int32), iv x0, jv (-9223372036854775807 : Int64), s2, jv v148, s2, iv (0 : Int32), iv v150, iv v142] [(.int (te - x0))])) _
      refine XS.bipush X0.here hx rfl (D d11_147) ?_
      show Steps p.tables e below (s₁.setTop (mkF m 149 #[rv ra, iv x0, iv te, iv (0 : Int32), iv x0, jv (-9223372036854775807 : Int64), s2, jv v148, s2, iv (0 : Int32), iv v150, iv v142] [(.int (19 : Int32)), (.int (te - x0))])) _
      refine XS.icmpYes X0.here hx rfl (pc0 := 149) (pc' := 162) rfl (D d11_149) rfl ((flt c154).2.2.2) (by decide) (by decide) ?_
      refine XS.iload X0.here hx rfl (D d11_162) rfl ?_
      show Steps p.tables e below (s₁.setTop (mkF m 164 #[rv ra, iv x0, iv te, iv (0 : Int32), iv x0, jv (-9223372036854775807 : Int64), s2, jv v148, s2, iv (0 : Int32), iv v150, iv v142] [(.int (0 : Int32))])) _
      refine XS.ifYes X0.here hx rfl (pc0 := 164) (pc' := 177) rfl (D d11_164) rfl (by decide) (by decide) (by decide) ?_
      refine XS.iloadN X0.here hx rfl (D d11_177) rfl ?_
      show Steps p.tables e below (s₁.setTop (mkF m 178 #[rv ra, iv x0, iv te, iv (0 : Int32), iv x0, jv (-9223372036854775807 : Int64), s2, jv v148, s2, iv (0 : Int32), iv v150, iv v142] [(.int (0 : Int32))])) _
      refine XS.ifYes X0.here hx rfl (pc0 := 178) (pc' := 186) rfl (D d11_178) rfl (by decide) (by decide) (by decide) ?_
      refine XS.lload X0.here hx rfl (D d11_186) rfl ?_
      refine XS.lneg X0.here hx rfl (D d11_188) rfl ?_
      show Steps p.tables e below (s₁.setTop (mkF m 189 #[rv ra, iv x0, iv te, iv (0 : Int32), iv x0, jv (-9223372036854775807 : Int64), s2, jv v148, s2, iv (0 : Int32), iv v150, iv v142] [(.long (-v148))])) _
      exact X0.lreturnOut hx Bd.returns (D d11_189) hr
    · show Q11 Z ra x0 te bs kn h0 n0 _ s₁.heap _
      rw [e0]
      exact ⟨by rw [own_n4 hk, hv148, hv135, hv122, hv109, de_v103, de_v116, de_v129, de_v142, own_al4], N0, rfl⟩
theorem d16_0 : decode method_3_code 0 = .ok (.aload_n 0, 1) := by decide +kernel
theorem d16_1 : decode method_3_code 1 = .ok (.iload_n 1, 1) := by decide +kernel
theorem d16_2 : decode method_3_code 2 = .ok (.baload, 1) := by decide +kernel
theorem d16_3 : decode method_3_code 3 = .ok (.bipush 48, 2) := by decide +kernel
theorem d16_5 : decode method_3_code 5 = .ok (.isub, 1) := by decide +kernel
theorem d16_6 : decode method_3_code 6 = .ok (.i2l, 1) := by decide +kernel
theorem d16_7 : decode method_3_code 7 = .ok (.lstore_n 3, 1) := by decide +kernel
theorem d16_8 : decode method_3_code 8 = .ok (.iload_n 2, 1) := by decide +kernel
theorem d16_9 : decode method_3_code 9 = .ok (.iconst 1, 1) := by decide +kernel
theorem d16_10 : decode method_3_code 10 = .ok (.if_icmp .le 19, 3) := by decide +kernel
theorem d16_13 : decode method_3_code 13 = .ok (.lload_n 3, 1) := by decide +kernel
theorem d16_14 : decode method_3_code 14 = .ok (.ldc2_w 9, 3) := by decide +kernel
theorem d16_17 : decode method_3_code 17 = .ok (.lmul, 1) := by decide +kernel
theorem d16_18 : decode method_3_code 18 = .ok (.aload_n 0, 1) := by decide +kernel
theorem d16_19 : decode method_3_code 19 = .ok (.iload_n 1, 1) := by decide +kernel
theorem d16_20 : decode method_3_code 20 = .ok (.iconst 1, 1) := by decide +kernel
theorem d16_21 : decode method_3_code 21 = .ok (.iadd, 1) := by decide +kernel
theorem d16_22 : decode method_3_code 22 = .ok (.baload, 1) := by decide +kernel
theorem d16_23 : decode method_3_code 23 = .ok (.bipush 48, 2) := by decide +kernel
theorem d16_25 : decode method_3_code 25 = .ok (.isub, 1) := by decide +kernel
theorem d16_26 : decode method_3_code 26 = .ok (.i2l, 1) := by decide +kernel
theorem d16_27 : decode method_3_code 27 = .ok (.ladd, 1) := by decide +kernel
theorem d16_28 : decode method_3_code 28 = .ok (.lstore_n 3, 1) := by decide +kernel
theorem d16_29 : decode method_3_code 29 = .ok (.iload_n 2, 1) := by decide +kernel
theorem d16_30 : decode method_3_code 30 = .ok (.iconst 2, 1) := by decide +kernel
theorem d16_31 : decode method_3_code 31 = .ok (.if_icmp .le 19, 3) := by decide +kernel
theorem d16_34 : decode method_3_code 34 = .ok (.lload_n 3, 1) := by decide +kernel
theorem d16_35 : decode method_3_code 35 = .ok (.ldc2_w 9, 3) := by decide +kernel
theorem d16_38 : decode method_3_code 38 = .ok (.lmul, 1) := by decide +kernel
theorem d16_39 : decode method_3_code 39 = .ok (.aload_n 0, 1) := by decide +kernel
theorem d16_40 : decode method_3_code 40 = .ok (.iload_n 1, 1) := by decide +kernel
theorem d16_41 : decode method_3_code 41 = .ok (.iconst 2, 1) := by decide +kernel
theorem d16_42 : decode method_3_code 42 = .ok (.iadd, 1) := by decide +kernel
theorem d16_43 : decode method_3_code 43 = .ok (.baload, 1) := by decide +kernel
theorem d16_44 : decode method_3_code 44 = .ok (.bipush 48, 2) := by decide +kernel
theorem d16_46 : decode method_3_code 46 = .ok (.isub, 1) := by decide +kernel
theorem d16_47 : decode method_3_code 47 = .ok (.i2l, 1) := by decide +kernel
theorem d16_48 : decode method_3_code 48 = .ok (.ladd, 1) := by decide +kernel
theorem d16_49 : decode method_3_code 49 = .ok (.lstore_n 3, 1) := by decide +kernel
theorem d16_50 : decode method_3_code 50 = .ok (.iload_n 2, 1) := by decide +kernel
theorem d16_51 : decode method_3_code 51 = .ok (.iconst 3, 1) := by decide +kernel
theorem d16_52 : decode method_3_code 52 = .ok (.if_icmp .le 19, 3) := by decide +kernel
theorem d16_55 : decode method_3_code 55 = .ok (.lload_n 3, 1) := by decide +kernel
theorem d16_56 : decode method_3_code 56 = .ok (.ldc2_w 9, 3) := by decide +kernel
theorem d16_59 : decode method_3_code 59 = .ok (.lmul, 1) := by decide +kernel
theorem d16_60 : decode method_3_code 60 = .ok (.aload_n 0, 1) := by decide +kernel
theorem d16_61 : decode method_3_code 61 = .ok (.iload_n 1, 1) := by decide +kernel
theorem d16_62 : decode method_3_code 62 = .ok (.iconst 3, 1) := by decide +kernel
theorem d16_63 : decode method_3_code 63 = .ok (.iadd, 1) := by decide +kernel
theorem d16_64 : decode method_3_code 64 = .ok (.baload, 1) := by decide +kernel
theorem d16_65 : decode method_3_code 65 = .ok (.bipush 48, 2) := by decide +kernel
theorem d16_67 : decode method_3_code 67 = .ok (.isub, 1) := by decide +kernel
theorem d16_68 : decode method_3_code 68 = .ok (.i2l, 1) := by decide +kernel
theorem d16_69 : decode method_3_code 69 = .ok (.ladd, 1) := by decide +kernel
theorem d16_70 : decode method_3_code 70 = .ok (.lstore_n 3, 1) := by decide +kernel
theorem d16_71 : decode method_3_code 71 = .ok (.lload_n 3, 1) := by decide +kernel
theorem d16_72 : decode method_3_code 72 = .ok (.lreturn, 1) := by decide +kernel
theorem ef_16 (m : MethodId) (ra : Addr) (x0 : Int32) (kn : Int32) : entryFrame m #[(.ref ra), (.int x0), (.int kn)] 5 = mkF m 0 #[rv ra, iv x0, iv kn, u0, u0] [] := by first | (simp [entryFrame, mkF, argsToLocals, Value.category, maxLocals]; done) | rfl
def Q16 (Z : State) (ra : Addr) (x0 : Int32) (kn : Int32) (bs : List Int32) (h0 : Heap) (n0 : Nat) (v : Option Value) (h : Heap) (L : List Loc) : Prop := v = some (.long (own_num bs x0 kn)) ∧ Fr n0 L ∧ h = h0
set_option maxRecDepth 65536 in
set_option maxHeartbeats 40000000 in
theorem rm16 (l : Launch) (Z : State) (a0 : Array Value) (hw : ∀ d ∈ tables_1, d.before a0 Z = true) (ws : List Jvm.Cond) (ra : Addr) (x0 : Int32) (kn : Int32) (bs : List Int32) (h0 : Heap) (n0 : Nat) (Z0 : n0 ≤ h0.size) (PA0 : own_AI Z h0 ra .byte bs) (OK : own_ok bs x0 kn) :
    MetFree l (⟨"com/example/tributary/tributary/io/LineFormatBeginPinLaw", "num", "([BII)J"⟩ : MethodName) (head1 (Jvm.Cond.code (⟨"com/example/tributary/tributary/io/LineFormatBeginPinLaw", "num", "([BII)J"⟩ : MethodName) method_3_code 5 (some .long) :: ws) ({ frames := 0, cells := 0, slots := 0, locals := 0 } : Room)) (fun a U => a = #[(.ref ra), (.int x0), (.int kn)] ∧ Z.Warmed39 U.vm ∧ U.heap = h0) (fun _ _ _ _ _ => True) (fun _ U o U' => ∃ v L, o = .returned v ∧ Q16 Z ra x0 kn bs h0 n0 v U'.heap L ∧ FrameEnd U o U' L ({ frames := 0, cells := 0, slots := 0, locals := 0 } : Room).cells ({ frames := 0, cells := 0, slots := 0, locals := 0 } : Room).slots) := by
  refine MetFree.of_bodySF (plainFor_of_name pn_1) hisR ?_
  intro p e s m args below meth c s₁ Bd hml0 hP hK
  obtain ⟨rfl, hZ, hh⟩ := hP
  have hx := Bd.exec
  have hby := Bd.bytes
  have hml : c.maxLocals = 5 := hml0
  have hown : s.vm.findClass "com/example/tributary/tributary/io/LineFormatBeginPinLaw" = some m.cls := findClass_of_methodNamed Bd.named
  have hnm := (name_of_methodNamed Bd.named Bd.method).1
  have X0 : Stand p l e ({ frames := 0, cells := 0, slots := 0, locals := 0 } : Room) s m #[(.ref ra), (.int x0), (.int kn)] below meth c s₁ [] 0 0 := Stand.of_body Bd
  have hlk : meth.locks = false := by first | exact BodyLoose.notSynchronized (by assumption) | exact Body.notSynchronized (by assumption)
  have e0 : s₁.heap = h0 := by rw [← hh, Bd.state]; rfl
  have N0 := Fr.nil n0
  have pre0 : ∀ t, Steps p.tables e below (s₁.setTop (mkF m 0 #[rv ra, iv x0, iv kn, u0, u0] [])) t → Steps p.tables e below (s₁.setTop (entryFrame m #[(.ref ra), (.int x0), (.int kn)] 5)) t := fun t k => castTop (ef_16 m ra x0 kn) k
  generalize s₁.setTop (entryFrame m #[(.ref ra), (.int x0), (.int kn)] 5) = B0 at pre0 ⊢
  have H : ∀ (i : Nat) {d : Jvm.Cond}, tables_1[i]? = some d → d.before a0 Z = true := fun i d q => hw d (List.mem_of_getElem? q)
  have D : ∀ {pc : Nat} {r : Except DecodeError (Instr × Nat)}, decode method_3_code pc = r → decode c.code pc = r := fun q => hb hby q
  rcases OK.1 with hk | hk | hk | hk
  · have nn : kn.toInt = 1 := by rw [hk]; decide
    have pre1 : ∀ t, Steps p.tables e below (s₁.setTop (mkF m 0 #[rv ra, iv x0, iv (1 : Int32), u0, u0] [])) t → Steps p.tables e below B0 t := by subst hk; exact pre0
    have in_2_2 : 0 ≤ (x0).toInt ∧ (x0).toInt < (bs.length : Nat) := (OK.inb (by omega) (by omega))
    obtain ⟨v3, hv3⟩ : ∃ z : Int64, z = (((bs.getD (x0).toInt.toNat 0) - (48 : Int32))).toInt64 := ⟨_, rfl⟩
    have pre4 : ∀ t, Steps p.tables e below (s₁.setTop (mkF m 7 #[rv ra, iv x0, iv (1 : Int32), u0, u0] [(.long v3)])) t → Steps p.tables e below B0 t := by
      rw [hv3]
      intro t k
      refine pre1 t ?_
      show Steps p.tables e below (s₁.setTop (mkF m 0 #[rv ra, iv x0, iv (1 : Int32), u0, u0] [])) _
      refine XS.aloadN X0.here hx rfl (D d16_0) rfl rfl ?_
      refine XS.iloadN X0.here hx rfl (D d16_1) rfl ?_
      refine own_baloadB X0 hx hZ e0 PA0 in_2_2 (D d16_2) _ ?_
      refine XS.bipush X0.here hx rfl (D d16_3) ?_
      refine XS.isub X0.here hx rfl (D d16_5) rfl ?_
      refine XS.i2l X0.here hx rfl (D d16_6) rfl ?_
      exact k
    obtain ⟨fs, hr, hrun, hended, hW, hsame⟩ := X0.leave (v := some (.long v3)) (fun h => by rw [Bd.returns] at h; cases h) hlk
    refine ⟨_, _, pre4 _ ?_, hrun, hended, _, _, rfl, ?_, ⟨_, rfl⟩, hW, hsame.mono (by decide) (by decide)⟩
    · show Steps p.tables e below (s₁.setTop (mkF m 7 #[rv ra, iv x0, iv (1 : Int32), u0, u0] [(.long v3)])) _
      refine XS.lstoreN X0.here hx rfl (D d16_7) rfl (l' := #[rv ra, iv x0, iv (1 : Int32), jv v3, s2]) rfl ?_
      show Steps p.tables e below (s₁.setTop (mkF m 8 #[rv ra, iv x0, iv (1 : Int32), jv v3, s2] [])) _
      refine XS.iloadN X0.here hx rfl (D d16_8) rfl ?_
      refine XS.iconst X0.here hx rfl (D d16_9) ?_
      show Steps p.tables e below (s₁.setTop (mkF m 10 #[rv ra, iv x0, iv (1 : Int32), jv v3, s2] [(.int (1 : Int32)), (.int (1 : Int32))])) _
      refine XS.icmpYes X0.here hx rfl (pc0 := 10) (pc' := 29) rfl (D d16_10) rfl (by decide) (by decide) (by decide) ?_
      refine XS.iloadN X0.here hx rfl (D d16_29) rfl ?_
      refine XS.iconst X0.here hx rfl (D d16_30) ?_
      show Steps p.tables e below (s₁.setTop (mkF m 31 #[rv ra, iv x0, iv (1 : Int32), jv v3, s2] [(.int (2 : Int32)), (.int (1 : Int32))])) _
      refine XS.icmpYes X0.here hx rfl (pc0 := 31) (pc' := 50) rfl (D d16_31) rfl (by decide) (by decide) (by decide) ?_
      refine XS.iloadN X0.here hx rfl (D d16_50) rfl ?_
      refine XS.iconst X0.here hx rfl (D d16_51) ?_
      show Steps p.tables e below (s₁.setTop (mkF m 52 #[rv ra, iv x0, iv (1 : Int32), jv v3, s2] [(.int (3 : Int32)), (.int (1 : Int32))])) _
      refine XS.icmpYes X0.here hx rfl (pc0 := 52) (pc' := 71) rfl (D d16_52) rfl (by decide) (by decide) (by decide) ?_
      refine XS.lloadN X0.here hx rfl (D d16_71) rfl ?_
      show Steps p.tables e below (s₁.setTop (mkF m 72 #[rv ra, iv x0, iv (1 : Int32), jv v3, s2] [(.long v3)])) _
      exact X0.lreturnOut hx Bd.returns (D d16_72) hr
    · show Q16 Z ra x0 kn bs h0 n0 _ s₁.heap _
      rw [e0]
      exact ⟨by rw [own_n1 hk, hv3, own_d0 (bs := bs) (c := x0)], N0, rfl⟩
  · have nn : kn.toInt = 2 := by rw [hk]; decide
    have pre5 : ∀ t, Steps p.tables e below (s₁.setTop (mkF m 0 #[rv ra, iv x0, iv (2 : Int32), u0, u0] [])) t → Steps p.tables e below B0 t := by subst hk; exact pre0
    have in_2_6 : 0 ≤ (x0).toInt ∧ (x0).toInt < (bs.length : Nat) := (OK.inb (by omega) (by omega))
    obtain ⟨v7, hv7⟩ : ∃ z : Int64, z = (((bs.getD (x0).toInt.toNat 0) - (48 : Int32))).toInt64 := ⟨_, rfl⟩
    have pre8 : ∀ t, Steps p.tables e below (s₁.setTop (mkF m 7 #[rv ra, iv x0, iv (2 : Int32), u0, u0] [(.long v7)])) t → Steps p.tables e below B0 t := by
      rw [hv7]
      intro t k
      refine pre5 t ?_
      show Steps p.tables e below (s₁.setTop (mkF m 0 #[rv ra, iv x0, iv (2 : Int32), u0, u0] [])) _
      refine XS.aloadN X0.here hx rfl (D d16_0) rfl rfl ?_
      refine XS.iloadN X0.here hx rfl (D d16_1) rfl ?_
      refine own_baloadB X0 hx hZ e0 PA0 in_2_6 (D d16_2) _ ?_
      refine XS.bipush X0.here hx rfl (D d16_3) ?_
      refine XS.isub X0.here hx rfl (D d16_5) rfl ?_
      refine XS.i2l X0.here hx rfl (D d16_6) rfl ?_
      exact k
    have in_22_9 : 0 ≤ ((x0 + (1 : Int32))).toInt ∧ ((x0 + (1 : Int32))).toInt < (bs.length : Nat) := own_in OK (1 : Int32) (by decide) (by rw [nn]; decide)
    obtain ⟨v10, hv10⟩ : ∃ z : Int64, z = ((v7 * (10 : Int64)) + (((bs.getD ((x0 + (1 : Int32))).toInt.toNat 0) - (48 : Int32))).toInt64) := ⟨_, rfl⟩
    have pre11 : ∀ t, Steps p.tables e below (s₁.setTop (mkF m 28 #[rv ra, iv x0, iv (2 : Int32), jv v7, s2] [(.long v10)])) t → Steps p.tables e below B0 t := by
      rw [hv10]
      intro t k
      refine pre8 t ?_
      show Steps p.tables e below (s₁.setTop (mkF m 7 #[rv ra, iv x0, iv (2 : Int32), u0, u0] [(.long v7)])) _
      refine XS.lstoreN X0.here hx rfl (D d16_7) rfl (l' := #[rv ra, iv x0, iv (2 : Int32), jv v7, s2]) rfl ?_
      show Steps p.tables e below (s₁.setTop (mkF m 8 #[rv ra, iv x0, iv (2 : Int32), jv v7, s2] [])) _
      refine XS.iloadN X0.here hx rfl (D d16_8) rfl ?_
      refine XS.iconst X0.here hx rfl (D d16_9) ?_
      show Steps p.tables e below (s₁.setTop (mkF m 10 #[rv ra, iv x0, iv (2 : Int32), jv v7, s2] [(.int (1 : Int32)), (.int (2 : Int32))])) _
      refine XS.icmpNo X0.here hx rfl (D d16_10) rfl (by decide) ?_
      refine XS.lloadN X0.here hx rfl (D d16_13) rfl ?_
      refine X0.ldc2Long hx hown (mvT hZ (H 6 rfl)) (g := (mkF m 14 #[rv ra, iv x0, iv (2 : Int32), jv v7, s2] [(.long v7)])) rfl (D d16_14) _ ?_
      refine XS.lmul X0.here hx rfl (D d16_17) rfl ?_
      refine XS.aloadN X0.here hx rfl (D d16_18) rfl rfl ?_
      refine XS.iloadN X0.here hx rfl (D d16_19) rfl ?_
      refine XS.iconst X0.here hx rfl (D d16_20) ?_
      show Steps p.tables e below (s₁.setTop (mkF m 21 #[rv ra, iv x0, iv (2 : Int32), jv v7, s2] [(.int (1 : Int32)), (.int x0), (.ref ra), (.long (v7 * (10 : Int64)))])) _
      refine XS.iadd X0.here hx rfl (D d16_21) rfl ?_
      refine own_baloadB X0 hx hZ e0 PA0 in_22_9 (D d16_22) _ ?_
      refine XS.bipush X0.here hx rfl (D d16_23) ?_
      refine XS.isub X0.here hx rfl (D d16_25) rfl ?_
      refine XS.i2l X0.here hx rfl (D d16_26) rfl ?_
      refine XS.ladd X0.here hx rfl (D d16_27) rfl ?_
      exact k
    obtain ⟨fs, hr, hrun, hended, hW, hsame⟩ := X0.leave (v := some (.long v10)) (fun h => by rw [Bd.returns] at h; cases h) hlk
    refine ⟨_, _, pre11 _ ?_, hrun, hended, _, _, rfl, ?_, ⟨_, rfl⟩, hW, hsame.mono (by decide) (by decide)⟩
    · show Steps p.tables e below (s₁.setTop (mkF m 28 #[rv ra, iv x0, iv (2 : Int32), jv v7, s2] [(.long v10)])) _
      refine XS.lstoreN X0.here hx rfl (D d16_28) rfl (l' := #[rv ra, iv x0, iv (2 : Int32), jv v10, s2]) rfl ?_
      refine XS.iloadN X0.here hx rfl (D d16_29) rfl ?_
      show Steps p.tables e below (s₁.setTop (mkF m 30 #[rv ra, iv x0, iv (2 : Int32), jv v10, s2] [(.int (2 : Int32))])) _
      refine XS.iconst X0.here hx rfl (D d16_30) ?_
      show Steps p.tables e below (s₁.setTop (mkF m 31 #[rv ra, iv x0, iv (2 : Int32), jv v10, s2] [(.int (2 : Int32)), (.int (2 : Int32))])) _
      refine XS.icmpYes X0.here hx rfl (pc0 := 31) (pc' := 50) rfl (D d16_31) rfl (by decide) (by decide) (by decide) ?_
      refine XS.iloadN X0.here hx rfl (D d16_50) rfl ?_
      refine XS.iconst X0.here hx rfl (D d16_51) ?_
      show Steps p.tables e below (s₁.setTop (mkF m 52 #[rv ra, iv x0, iv (2 : Int32), jv v10, s2] [(.int (3 : Int32)), (.int (2 : Int32))])) _
      refine XS.icmpYes X0.here hx rfl (pc0 := 52) (pc' := 71) rfl (D d16_52) rfl (by decide) (by decide) (by decide) ?_
      refine XS.lloadN X0.here hx rfl (D d16_71) rfl ?_
      show Steps p.tables e below (s₁.setTop (mkF m 72 #[rv ra, iv x0, iv (2 : Int32), jv v10, s2] [(.long v10)])) _
      exact X0.lreturnOut hx Bd.returns (D d16_72) hr
    · show Q16 Z ra x0 kn bs h0 n0 _ s₁.heap _
      rw [e0]
      exact ⟨by rw [own_n2 hk, hv10, hv7, own_d0 (bs := bs) (c := x0), own_di OK (1 : Int32) (i := 1) (by decide) (by decide)], N0, rfl⟩
  · have nn : kn.toInt = 3 := by rw [hk]; decide
    have pre12 : ∀ t, Steps p.tables e below (s₁.setTop (mkF m 0 #[rv ra, iv x0, iv (3 : Int32), u0, u0] [])) t → Steps p.tables e below B0 t := by subst hk; exact pre0
    have in_2_13 : 0 ≤ (x0).toInt ∧ (x0).toInt < (bs.length : Nat) := (OK.inb (by omega) (by omega))
    obtain ⟨v14, hv14⟩ : ∃ z : Int64, z = (((bs.getD (x0).toInt.toNat 0) - (48 : Int32))).toInt64 := ⟨_, rfl⟩
    have pre15 : ∀ t, Steps p.tables e below (s₁.setTop (mkF m 7 #[rv ra, iv x0, iv (3 : Int32), u0, u0] [(.long v14)])) t → Steps p.tables e below B0 t := by
      rw [hv14]
      intro t k
      refine pre12 t ?_
      show Steps p.tables e below (s₁.setTop (mkF m 0 #[rv ra, iv x0, iv (3 : Int32), u0, u0] [])) _
      refine XS.aloadN X0.here hx rfl (D d16_0) rfl rfl ?_
      refine XS.iloadN X0.here hx rfl (D d16_1) rfl ?_
      refine own_baloadB X0 hx hZ e0 PA0 in_2_13 (D d16_2) _ ?_
      refine XS.bipush X0.here hx rfl (D d16_3) ?_
      refine XS.isub X0.here hx rfl (D d16_5) rfl ?_
      refine XS.i2l X0.here hx rfl (D d16_6) rfl ?_
      exact k
    have in_22_16 : 0 ≤ ((x0 + (1 : Int32))).toInt ∧ ((x0 + (1 : Int32))).toInt < (bs.length : Nat) := own_in OK (1 : Int32) (by decide) (by rw [nn]; decide)
    obtain ⟨v17, hv17⟩ : ∃ z : Int64, z = ((v14 * (10 : Int64)) + (((bs.getD ((x0 + (1 : Int32))).toInt.toNat 0) - (48 : Int32))).toInt64) := ⟨_, rfl⟩
    have pre18 : ∀ t, Steps p.tables e below (s₁.setTop (mkF m 28 #[rv ra, iv x0, iv (3 : Int32), jv v14, s2] [(.long v17)])) t → Steps p.tables e below B0 t := by
      rw [hv17]
      intro t k
      refine pre15 t ?_
      show Steps p.tables e below (s₁.setTop (mkF m 7 #[rv ra, iv x0, iv (3 : Int32), u0, u0] [(.long v14)])) _
      refine XS.lstoreN X0.here hx rfl (D d16_7) rfl (l' := #[rv ra, iv x0, iv (3 : Int32), jv v14, s2]) rfl ?_
      show Steps p.tables e below (s₁.setTop (mkF m 8 #[rv ra, iv x0, iv (3 : Int32), jv v14, s2] [])) _
      refine XS.iloadN X0.here hx rfl (D d16_8) rfl ?_
      refine XS.iconst X0.here hx rfl (D d16_9) ?_
      show Steps p.tables e below (s₁.setTop (mkF m 10 #[rv ra, iv x0, iv (3 : Int32), jv v14, s2] [(.int (1 : Int32)), (.int (3 : Int32))])) _
      refine XS.icmpNo X0.here hx rfl (D d16_10) rfl (by decide) ?_
      refine XS.lloadN X0.here hx rfl (D d16_13) rfl ?_
      refine X0.ldc2Long hx hown (mvT hZ (H 6 rfl)) (g := (mkF m 14 #[rv ra, iv x0, iv (3 : Int32), jv v14, s2] [(.long v14)])) rfl (D d16_14) _ ?_
      refine XS.lmul X0.here hx rfl (D d16_17) rfl ?_
      refine XS.aloadN X0.here hx rfl (D d16_18) rfl rfl ?_
      refine XS.iloadN X0.here hx rfl (D d16_19) rfl ?_
      refine XS.iconst X0.here hx rfl (D d16_20) ?_
      show Steps p.tables e below (s₁.setTop (mkF m 21 #[rv ra, iv x0, iv (3 : Int32), jv v14, s2] [(.int (1 : Int32)), (.int x0), (.ref ra), (.long (v14 * (10 : Int64)))])) _
      refine XS.iadd X0.here hx rfl (D d16_21) rfl ?_
      refine own_baloadB X0 hx hZ e0 PA0 in_22_16 (D d16_22) _ ?_
      refine XS.bipush X0.here hx rfl (D d16_23) ?_
      refine XS.isub X0.here hx rfl (D d16_25) rfl ?_
      refine XS.i2l X0.here hx rfl (D d16_26) rfl ?_
      refine XS.ladd X0.here hx rfl (D d16_27) rfl ?_
      exact k
    have in_43_19 : 0 ≤ ((x0 + (2 : Int32))).toInt ∧ ((x0 + (2 : Int32))).toInt < (bs.length : Nat) := own_in OK (2 : Int32) (by decide) (by rw [nn]; decide)
    obtain ⟨v20, hv20⟩ : ∃ z : Int64, z = ((v17 * (10 : Int64)) + (((bs.getD ((x0 + (2 : Int32))).toInt.toNat 0) - (48 : Int32))).toInt64) := ⟨_, rfl⟩
    have pre21 : ∀ t, Steps p.tables e below (s₁.setTop (mkF m 49 #[rv ra, iv x0, iv (3 : Int32), jv v17, s2] [(.long v20)])) t → Steps p.tables e below B0 t := by
      rw [hv20]
      intro t k
      refine pre18 t ?_
      show Steps p.tables e below (s₁.setTop (mkF m 28 #[rv ra, iv x0, iv (3 : Int32), jv v14, s2] [(.long v17)])) _
      refine XS.lstoreN X0.here hx rfl (D d16_28) rfl (l' := #[rv ra, iv x0, iv (3 : Int32), jv v17, s2]) rfl ?_
      refine XS.iloadN X0.here hx rfl (D d16_29) rfl ?_
      show Steps p.tables e below (s₁.setTop (mkF m 30 #[rv ra, iv x0, iv (3 : Int32), jv v17, s2] [(.int (3 : Int32))])) _
      refine XS.iconst X0.here hx rfl (D d16_30) ?_
      show Steps p.tables e below (s₁.setTop (mkF m 31 #[rv ra, iv x0, iv (3 : Int32), jv v17, s2] [(.int (2 : Int32)), (.int (3 : Int32))])) _
      refine XS.icmpNo X0.here hx rfl (D d16_31) rfl (by decide) ?_
      refine XS.lloadN X0.here hx rfl (D d16_34) rfl ?_
      refine X0.ldc2Long hx hown (mvT hZ (H 6 rfl)) (g := (mkF m 35 #[rv ra, iv x0, iv (3 : Int32), jv v17, s2] [(.long v17)])) rfl (D d16_35) _ ?_
      refine XS.lmul X0.here hx rfl (D d16_38) rfl ?_
      refine XS.aloadN X0.here hx rfl (D d16_39) rfl rfl ?_
      refine XS.iloadN X0.here hx rfl (D d16_40) rfl ?_
      refine XS.iconst X0.here hx rfl (D d16_41) ?_
      refine XS.iadd X0.here hx rfl (D d16_42) rfl ?_
      show Steps p.tables e below (s₁.setTop (mkF m 43 #[rv ra, iv x0, iv (3 : Int32), jv v17, s2] [(.int (x0 + (2 : Int32))), (.ref ra), (.long (v17 * (10 : Int64)))])) _
      refine own_baloadB X0 hx hZ e0 PA0 in_43_19 (D d16_43) _ ?_
      refine XS.bipush X0.here hx rfl (D d16_44) ?_
      refine XS.isub X0.here hx rfl (D d16_46) rfl ?_
      refine XS.i2l X0.here hx rfl (D d16_47) rfl ?_
      refine XS.ladd X0.here hx rfl (D d16_48) rfl ?_
      exact k
    obtain ⟨fs, hr, hrun, hended, hW, hsame⟩ := X0.leave (v := some (.long v20)) (fun h => by rw [Bd.returns] at h; cases h) hlk
    refine ⟨_, _, pre21 _ ?_, hrun, hended, _, _, rfl, ?_, ⟨_, rfl⟩, hW, hsame.mono (by decide) (by decide)⟩
    · show Steps p.tables e below (s₁.setTop (mkF m 49 #[rv ra, iv x0, iv (3 : Int32), jv v17, s2] [(.long v20)])) _
      refine XS.lstoreN X0.here hx rfl (D d16_49) rfl (l' := #[rv ra, iv x0, iv (3 : Int32), jv v20, s2]) rfl ?_
      refine XS.iloadN X0.here hx rfl (D d16_50) rfl ?_
      refine XS.iconst X0.here hx rfl (D d16_51) ?_
      show Steps p.tables e below (s₁.setTop (mkF m 52 #[rv ra, iv x0, iv (3 : Int32), jv v20, s2] [(.int (3 : Int32)), (.int (3 : Int32))])) _
      refine XS.icmpYes X0.here hx rfl (pc0 := 52) (pc' := 71) rfl (D d16_52) rfl (by decide) (by decide) (by decide) ?_
      show Steps p.tables e below (s₁.setTop (mkF m 71 #[rv ra, iv x0, iv (3 : Int32), jv v20, s2] [])) _
      refine XS.lloadN X0.here hx rfl (D d16_71) rfl ?_
      show Steps p.tables e below (s₁.setTop (mkF m 72 #[rv ra, iv x0, iv (3 : Int32), jv v20, s2] [(.long v20)])) _
      exact X0.lreturnOut hx Bd.returns (D d16_72) hr
    · show Q16 Z ra x0 kn bs h0 n0 _ s₁.heap _
      rw [e0]
      exact ⟨by rw [own_n3 hk, hv20, hv17, hv14, own_d0 (bs := bs) (c := x0), own_di OK (1 : Int32) (i := 1) (by decide) (by decide), own_di OK (2 : Int32) (i := 2) (by decide) (by decide)], N0, rfl⟩
  · have nn : kn.toInt = 4 := by rw [hk]; decide
    have pre22 : ∀ t, Steps p.tables e below (s₁.setTop (mkF m 0 #[rv ra, iv x0, iv (4 : Int32), u0, u0] [])) t → Steps p.tables e below B0 t := by subst hk; exact pre0
    have in_2_23 : 0 ≤ (x0).toInt ∧ (x0).toInt < (bs.length : Nat) := (OK.inb (by omega) (by omega))
    obtain ⟨v24, hv24⟩ : ∃ z : Int64, z = (((bs.getD (x0).toInt.toNat 0) - (48 : Int32))).toInt64 := ⟨_, rfl⟩
    have pre25 : ∀ t, Steps p.tables e below (s₁.setTop (mkF m 7 #[rv ra, iv x0, iv (4 : Int32), u0, u0] [(.long v24)])) t → Steps p.tables e below B0 t := by
      rw [hv24]
      intro t k
      refine pre22 t ?_
      show Steps p.tables e below (s₁.setTop (mkF m 0 #[rv ra, iv x0, iv (4 : Int32), u0, u0] [])) _
      refine XS.aloadN X0.here hx rfl (D d16_0) rfl rfl ?_
      refine XS.iloadN X0.here hx rfl (D d16_1) rfl ?_
      refine own_baloadB X0 hx hZ e0 PA0 in_2_23 (D d16_2) _ ?_
      refine XS.bipush X0.here hx rfl (D d16_3) ?_
      refine XS.isub X0.here hx rfl (D d16_5) rfl ?_
      refine XS.i2l X0.here hx rfl (D d16_6) rfl ?_
      exact k
    have in_22_26 : 0 ≤ ((x0 + (1 : Int32))).toInt ∧ ((x0 + (1 : Int32))).toInt < (bs.length : Nat) := own_in OK (1 : Int32) (by decide) (by rw [nn]; decide)
    obtain ⟨v27, hv27⟩ : ∃ z : Int64, z = ((v24 * (10 : Int64)) + (((bs.getD ((x0 + (1 : Int32))).toInt.toNat 0) - (48 : Int32))).toInt64) := ⟨_, rfl⟩
    have pre28 : ∀ t, Steps p.tables e below (s₁.setTop (mkF m 28 #[rv ra, iv x0, iv (4 : Int32), jv v24, s2] [(.long v27)])) t → Steps p.tables e below B0 t := by
      rw [hv27]
      intro t k
      refine pre25 t ?_
      show Steps p.tables e below (s₁.setTop (mkF m 7 #[rv ra, iv x0, iv (4 : Int32), u0, u0] [(.long v24)])) _
      refine XS.lstoreN X0.here hx rfl (D d16_7) rfl (l' := #[rv ra, iv x0, iv (4 : Int32), jv v24, s2]) rfl ?_
      show Steps p.tables e below (s₁.setTop (mkF m 8 #[rv ra, iv x0, iv (4 : Int32), jv v24, s2] [])) _
      refine XS.iloadN X0.here hx rfl (D d16_8) rfl ?_
      refine XS.iconst X0.here hx rfl (D d16_9) ?_
      show Steps p.tables e below (s₁.setTop (mkF m 10 #[rv ra, iv x0, iv (4 : Int32), jv v24, s2] [(.int (1 : Int32)), (.int (4 : Int32))])) _
      refine XS.icmpNo X0.here hx rfl (D d16_10) rfl (by decide) ?_
      refine XS.lloadN X0.here hx rfl (D d16_13) rfl ?_
      refine X0.ldc2Long hx hown (mvT hZ (H 6 rfl)) (g := (mkF m 14 #[rv ra, iv x0, iv (4 : Int32), jv v24, s2] [(.long v24)])) rfl (D d16_14) _ ?_
      refine XS.lmul X0.here hx rfl (D d16_17) rfl ?_
      refine XS.aloadN X0.here hx rfl (D d16_18) rfl rfl ?_
      refine XS.iloadN X0.here hx rfl (D d16_19) rfl ?_
      refine XS.iconst X0.here hx rfl (D d16_20) ?_
      show Steps p.tables e below (s₁.setTop (mkF m 21 #[rv ra, iv x0, iv (4 : Int32), jv v24, s2] [(.int (1 : Int32)), (.int x0), (.ref ra), (.long (v24 * (10 : Int64)))])) _
      refine XS.iadd X0.here hx rfl (D d16_21) rfl ?_
      refine own_baloadB X0 hx hZ e0 PA0 in_22_26 (D d16_22) _ ?_
      refine XS.bipush X0.here hx rfl (D d16_23) ?_
      refine XS.isub X0.here hx rfl (D d16_25) rfl ?_
      refine XS.i2l X0.here hx rfl (D d16_26) rfl ?_
      refine XS.ladd X0.here hx rfl (D d16_27) rfl ?_
      exact k
    have in_43_29 : 0 ≤ ((x0 + (2 : Int32))).toInt ∧ ((x0 + (2 : Int32))).toInt < (bs.length : Nat) := own_in OK (2 : Int32) (by decide) (by rw [nn]; decide)
    obtain ⟨v30, hv30⟩ : ∃ z : Int64, z = ((v27 * (10 : Int64)) + (((bs.getD ((x0 + (2 : Int32))).toInt.toNat 0) - (48 : Int32))).toInt64) := ⟨_, rfl⟩
    have pre31 : ∀ t, Steps p.tables e below (s₁.setTop (mkF m 49 #[rv ra, iv x0, iv (4 : Int32), jv v27, s2] [(.long v30)])) t → Steps p.tables e below B0 t := by
      rw [hv30]
      intro t k
      refine pre28 t ?_
      show Steps p.tables e below (s₁.setTop (mkF m 28 #[rv ra, iv x0, iv (4 : Int32), jv v24, s2] [(.long v27)])) _
      refine XS.lstoreN X0.here hx rfl (D d16_28) rfl (l' := #[rv ra, iv x0, iv (4 : Int32), jv v27, s2]) rfl ?_
      refine XS.iloadN X0.here hx rfl (D d16_29) rfl ?_
      show Steps p.tables e below (s₁.setTop (mkF m 30 #[rv ra, iv x0, iv (4 : Int32), jv v27, s2] [(.int (4 : Int32))])) _
      refine XS.iconst X0.here hx rfl (D d16_30) ?_
      show Steps p.tables e below (s₁.setTop (mkF m 31 #[rv ra, iv x0, iv (4 : Int32), jv v27, s2] [(.int (2 : Int32)), (.int (4 : Int32))])) _
      refine XS.icmpNo X0.here hx rfl (D d16_31) rfl (by decide) ?_
      refine XS.lloadN X0.here hx rfl (D d16_34) rfl ?_
      refine X0.ldc2Long hx hown (mvT hZ (H 6 rfl)) (g := (mkF m 35 #[rv ra, iv x0, iv (4 : Int32), jv v27, s2] [(.long v27)])) rfl (D d16_35) _ ?_
      refine XS.lmul X0.here hx rfl (D d16_38) rfl ?_
      refine XS.aloadN X0.here hx rfl (D d16_39) rfl rfl ?_
      refine XS.iloadN X0.here hx rfl (D d16_40) rfl ?_
      refine XS.iconst X0.here hx rfl (D d16_41) ?_
      refine XS.iadd X0.here hx rfl (D d16_42) rfl ?_
      show Steps p.tables e below (s₁.setTop (mkF m 43 #[rv ra, iv x0, iv (4 : Int32), jv v27, s2] [(.int (x0 + (2 : Int32))), (.ref ra), (.long (v27 * (10 : Int64)))])) _
      refine own_baloadB X0 hx hZ e0 PA0 in_43_29 (D d16_43) _ ?_
      refine XS.bipush X0.here hx rfl (D d16_44) ?_
      refine XS.isub X0.here hx rfl (D d16_46) rfl ?_
      refine XS.i2l X0.here hx rfl (D d16_47) rfl ?_
      refine XS.ladd X0.here hx rfl (D d16_48) rfl ?_
      exact k
    have in_64_32 : 0 ≤ ((x0 + (3 : Int32))).toInt ∧ ((x0 + (3 : Int32))).toInt < (bs.length : Nat) := own_in OK (3 : Int32) (by decide) (by rw [nn]; decide)
    obtain ⟨v33, hv33⟩ : ∃ z : Int64, z = ((v30 * (10 : Int64)) + (((bs.getD ((x0 + (3 : Int32))).toInt.toNat 0) - (48 : Int32))).toInt64) := ⟨_, rfl⟩
    have pre34 : ∀ t, Steps p.tables e below (s₁.setTop (mkF m 70 #[rv ra, iv x0, iv (4 : Int32), jv v30, s2] [(.long v33)])) t → Steps p.tables e below B0 t := by
      rw [hv33]
      intro t k
      refine pre31 t ?_
      show Steps p.tables e below (s₁.setTop (mkF m 49 #[rv ra, iv x0, iv (4 : Int32), jv v27, s2] [(.long v30)])) _
      refine XS.lstoreN X0.here hx rfl (D d16_49) rfl (l' := #[rv ra, iv x0, iv (4 : Int32), jv v30, s2]) rfl ?_
      refine XS.iloadN X0.here hx rfl (D d16_50) rfl ?_
      refine XS.iconst X0.here hx rfl (D d16_51) ?_
      show Steps p.tables e below (s₁.setTop (mkF m 52 #[rv ra, iv x0, iv (4 : Int32), jv v30, s2] [(.int (3 : Int32)), (.int (4 : Int32))])) _
      refine XS.icmpNo X0.here hx rfl (D d16_52) rfl (by decide) ?_
      show Steps p.tables e below (s₁.setTop (mkF m 55 #[rv ra, iv x0, iv (4 : Int32), jv v30, s2] [])) _
      refine XS.lloadN X0.here hx rfl (D d16_55) rfl ?_
      refine X0.ldc2Long hx hown (mvT hZ (H 6 rfl)) (g := (mkF m 56 #[rv ra, iv x0, iv (4 : Int32), jv v30, s2] [(.long v30)])) rfl (D d16_56) _ ?_
      refine XS.lmul X0.here hx rfl (D d16_59) rfl ?_
      refine XS.aloadN X0.here hx rfl (D d16_60) rfl rfl ?_
      refine XS.iloadN X0.here hx rfl (D d16_61) rfl ?_
      refine XS.iconst X0.here hx rfl (D d16_62) ?_
      refine XS.iadd X0.here hx rfl (D d16_63) rfl ?_
      refine own_baloadB X0 hx hZ e0 PA0 in_64_32 (D d16_64) _ ?_
      show Steps p.tables e below (s₁.setTop (mkF m 65 #[rv ra, iv x0, iv (4 : Int32), jv v30, s2] [(.int (bs.getD ((x0 + (3 : Int32))).toInt.toNat 0)), (.long (v30 * (10 : Int64)))])) _
      refine XS.bipush X0.here hx rfl (D d16_65) ?_
      refine XS.isub X0.here hx rfl (D d16_67) rfl ?_
      refine XS.i2l X0.here hx rfl (D d16_68) rfl ?_
      refine XS.ladd X0.here hx rfl (D d16_69) rfl ?_
      exact k
    obtain ⟨fs, hr, hrun, hended, hW, hsame⟩ := X0.leave (v := some (.long v33)) (fun h => by rw [Bd.returns] at h; cases h) hlk
    refine ⟨_, _, pre34 _ ?_, hrun, hended, _, _, rfl, ?_, ⟨_, rfl⟩, hW, hsame.mono (by decide) (by decide)⟩
    · show Steps p.tables e below (s₁.setTop (mkF m 70 #[rv ra, iv x0, iv (4 : Int32), jv v30, s2] [(.long v33)])) _
      refine XS.lstoreN X0.here hx rfl (D d16_70) rfl (l' := #[rv ra, iv x0, iv (4 : Int32), jv v33, s2]) rfl ?_
      refine XS.lloadN X0.here hx rfl (D d16_71) rfl ?_
      show Steps p.tables e below (s₁.setTop (mkF m 72 #[rv ra, iv x0, iv (4 : Int32), jv v33, s2] [(.long v33)])) _
      exact X0.lreturnOut hx Bd.returns (D d16_72) hr
    · show Q16 Z ra x0 kn bs h0 n0 _ s₁.heap _
      rw [e0]
      exact ⟨by rw [own_n4 hk, hv33, hv30, hv27, hv24, own_d0 (bs := bs) (c := x0), own_di OK (1 : Int32) (i := 1) (by decide) (by decide), own_di OK (2 : Int32) (i := 2) (by decide) (by decide), own_di OK (3 : Int32) (i := 3) (by decide) (by decide)], N0, rfl⟩
theorem d10_0 : decode jdk_41_method_13_code 0 = .ok (.iload_n 2, 1) := by decide +kernel
theorem d10_1 : decode jdk_41_method_13_code 1 = .ok (.iload_n 0, 1) := by decide +kernel
theorem d10_2 : decode jdk_41_method_13_code 2 = .ok (.ior, 1) := by decide +kernel
theorem d10_3 : decode jdk_41_method_13_code 3 = .ok (.iload_n 1, 1) := by decide +kernel
theorem d10_4 : decode jdk_41_method_13_code 4 = .ok (.ior, 1) := by decide +kernel
theorem d10_5 : decode jdk_41_method_13_code 5 = .ok (.ifCond .lt 10, 3) := by decide +kernel
theorem d10_8 : decode jdk_41_method_13_code 8 = .ok (.iload_n 1, 1) := by decide +kernel
theorem d10_9 : decode jdk_41_method_13_code 9 = .ok (.iload_n 2, 1) := by decide +kernel
theorem d10_10 : decode jdk_41_method_13_code 10 = .ok (.iload_n 0, 1) := by decide +kernel
theorem d10_11 : decode jdk_41_method_13_code 11 = .ok (.isub, 1) := by decide +kernel
theorem d10_12 : decode jdk_41_method_13_code 12 = .ok (.if_icmp .le 11, 3) := by decide +kernel
theorem d10_15 : decode jdk_41_method_13_code 15 = .ok (.aload_n 3, 1) := by decide +kernel
theorem d10_16 : decode jdk_41_method_13_code 16 = .ok (.iload_n 0, 1) := by decide +kernel
theorem d10_17 : decode jdk_41_method_13_code 17 = .ok (.iload_n 1, 1) := by decide +kernel
theorem d10_18 : decode jdk_41_method_13_code 18 = .ok (.iload_n 2, 1) := by decide +kernel
theorem d10_19 : decode jdk_41_method_13_code 19 = .ok (.invokestatic 103, 3) := by decide +kernel
theorem d10_22 : decode jdk_41_method_13_code 22 = .ok (.athrow, 1) := by decide +kernel
theorem d10_23 : decode jdk_41_method_13_code 23 = .ok (.iload_n 0, 1) := by decide +kernel
theorem d10_24 : decode jdk_41_method_13_code 24 = .ok (.ireturn, 1) := by decide +kernel
theorem pn_13 : plainName "jdk/internal/util/Preconditions" = true := by first | (simp [plainName, overriddenIn]; done) | decide +kernel
theorem ef_10 (m : MethodId) (q0 : Int32) (q1 : Int32) (q2 : Int32) : entryFrame m #[(.int q0), (.int q1), (.int q2), .null] 4 = mkF m 0 #[iv q0, iv q1, iv q2, .val .null] [] := by first | (simp [entryFrame, mkF, argsToLocals, Value.category, maxLocals]; done) | rfl
def own_f10 (q0 : Int32) (q1 : Int32) (q2 : Int32) : Int32 := q0
def Q10 (Z : State) (q0 : Int32) (q1 : Int32) (q2 : Int32)  (h0 : Heap) (n0 : Nat) (v : Option Value) (h : Heap) (L : List Loc) : Prop := v = some (.int (own_f10 q0 q1 q2)) ∧ Fr n0 L ∧ h = h0
set_option maxRecDepth 65536 in
set_option maxHeartbeats 40000000 in
theorem rm10 (l : Launch) (Z : State) (a0 : Array Value) (hw : ∀ d ∈ tables_1, d.before a0 Z = true) (ws : List Jvm.Cond) (q0 : Int32) (q1 : Int32) (q2 : Int32)  (h0 : Heap) (n0 : Nat) (Z0 : n0 ≤ h0.size) (H1 : ¬ ((q2 ||| q0) ||| q1) < (0 : Int32)) (H2 : ¬ (q2 - q0) < q1) :
    MetFree l (⟨"jdk/internal/util/Preconditions", "checkFromIndexSize", "(IIILjava/util/function/BiFunction;)I"⟩ : MethodName) (head1 (Jvm.Cond.code (⟨"jdk/internal/util/Preconditions", "checkFromIndexSize", "(IIILjava/util/function/BiFunction;)I"⟩ : MethodName) jdk_41_method_13_code 4 (some .int) :: ws) ({ frames := 0, cells := 0, slots := 0, locals := 0 } : Room)) (fun a U => a = #[(.int q0), (.int q1), (.int q2), .null] ∧ Z.Warmed39 U.vm ∧ U.heap = h0) (fun _ _ _ _ _ => True) (fun _ U o U' => ∃ v L, o = .returned v ∧ Q10 Z q0 q1 q2 h0 n0 v U'.heap L ∧ FrameEnd U o U' L ({ frames := 0, cells := 0, slots := 0, locals := 0 } : Room).cells ({ frames := 0, cells := 0, slots := 0, locals := 0 } : Room).slots) := by
  refine MetFree.of_bodySF (plainFor_of_name pn_13) hisR ?_
  intro p e s m args below meth c s₁ Bd hml0 hP hK
  obtain ⟨rfl, hZ, hh⟩ := hP
  have hx := Bd.exec
  have hby := Bd.bytes
  have hml : c.maxLocals = 4 := hml0
  have hown : s.vm.findClass "jdk/internal/util/Preconditions" = some m.cls := findClass_of_methodNamed Bd.named
  have hnm := (name_of_methodNamed Bd.named Bd.method).1
  have X0 : Stand p l e ({ frames := 0, cells := 0, slots := 0, locals := 0 } : Room) s m #[(.int q0), (.int q1), (.int q2), .null] below meth c s₁ [] 0 0 := Stand.of_body Bd
  have hlk : meth.locks = false := by first | exact BodyLoose.notSynchronized (by assumption) | exact Body.notSynchronized (by assumption)
  have e0 : s₁.heap = h0 := by rw [← hh, Bd.state]; rfl
  have N0 := Fr.nil n0
  have pre0 : ∀ t, Steps p.tables e below (s₁.setTop (mkF m 0 #[iv q0, iv q1, iv q2, .val .null] [])) t → Steps p.tables e below (s₁.setTop (entryFrame m #[(.int q0), (.int q1), (.int q2), .null] 4)) t := fun t k => castTop (ef_10 m q0 q1 q2) k
  generalize s₁.setTop (entryFrame m #[(.int q0), (.int q1), (.int q2), .null] 4) = B0 at pre0 ⊢
  have H : ∀ (i : Nat) {d : Jvm.Cond}, tables_1[i]? = some d → d.before a0 Z = true := fun i d q => hw d (List.mem_of_getElem? q)
  have D : ∀ {pc : Nat} {r : Except DecodeError (Instr × Nat)}, decode jdk_41_method_13_code pc = r → decode c.code pc = r := fun q => hb hby q
  have c1 : ¬ (((q2 ||| q0) ||| q1) < (0 : Int32)) := H1
  have c2 : ¬ ((q2 - q0) < q1) := H2
  obtain ⟨fs, hr, hrun, hended, hW, hsame⟩ := X0.leave (v := some (.int q0)) (fun h => by rw [Bd.returns] at h; cases h) hlk
  refine ⟨_, _, pre0 _ ?_, hrun, hended, _, _, rfl, ?_, ⟨_, rfl⟩, hW, hsame.mono (by decide) (by decide)⟩
  · show Steps p.tables e below (s₁.setTop (mkF m 0 #[iv q0, iv q1, iv q2, .val .null] [])) _
    refine XS.iloadN X0.here hx rfl (D d10_0) rfl ?_
    refine XS.iloadN X0.here hx rfl (D d10_1) rfl ?_
    refine XS.ior X0.here hx rfl (D d10_2) rfl ?_
    refine XS.iloadN X0.here hx rfl (D d10_3) rfl ?_
    refine XS.ior X0.here hx rfl (D d10_4) rfl ?_
    show Steps p.tables e below (s₁.setTop (mkF m 5 #[iv q0, iv q1, iv q2, .val .null] [(.int ((q2 ||| q0) ||| q1))])) _
    refine XS.ifNo X0.here hx rfl (D d10_5) rfl ((if0 _ _).trans (flt c1).1) ?_
    refine XS.iloadN X0.here hx rfl (D d10_8) rfl ?_
    refine XS.iloadN X0.here hx rfl (D d10_9) rfl ?_
    show Steps p.tables e below (s₁.setTop (mkF m 10 #[iv q0, iv q1, iv q2, .val .null] [(.int q2), (.int q1)])) _
    refine XS.iloadN X0.here hx rfl (D d10_10) rfl ?_
    refine XS.isub X0.here hx rfl (D d10_11) rfl ?_
    show Steps p.tables e below (s₁.setTop (mkF m 12 #[iv q0, iv q1, iv q2, .val .null] [(.int (q2 - q0)), (.int q1)])) _
    refine XS.icmpYes X0.here hx rfl (pc0 := 12) (pc' := 23) rfl (D d10_12) rfl ((flt c2).2.2.2) (by decide) (by decide) ?_
    refine XS.iloadN X0.here hx rfl (D d10_23) rfl ?_
    show Steps p.tables e below (s₁.setTop (mkF m 24 #[iv q0, iv q1, iv q2, .val .null] [(.int q0)])) _
    exact retI X0 hx Bd.returns (D d10_24) hr
  · show Q10 Z q0 q1 q2 h0 n0 _ s₁.heap _
    rw [e0]
    exact ⟨by rfl, N0, rfl⟩
theorem d9_0 : decode jdk_31_method_19_code 0 = .ok (.iload_n 0, 1) := by decide +kernel
theorem d9_1 : decode jdk_31_method_19_code 1 = .ok (.iload_n 1, 1) := by decide +kernel
theorem d9_2 : decode jdk_31_method_19_code 2 = .ok (.iload_n 2, 1) := by decide +kernel
theorem d9_3 : decode jdk_31_method_19_code 3 = .ok (.aconst_null, 1) := by decide +kernel
theorem d9_4 : decode jdk_31_method_19_code 4 = .ok (.invokestatic 115, 3) := by decide +kernel
theorem d9_7 : decode jdk_31_method_19_code 7 = .ok (.ireturn, 1) := by decide +kernel
theorem pn_15 : plainName "java/util/Objects" = true := by first | (simp [plainName, overriddenIn]; done) | decide +kernel
theorem ef_9 (m : MethodId) (q0 : Int32) (q1 : Int32) (q2 : Int32) : entryFrame m #[(.int q0), (.int q1), (.int q2)] 3 = mkF m 0 #[iv q0, iv q1, iv q2] [] := by first | (simp [entryFrame, mkF, argsToLocals, Value.category, maxLocals]; done) | rfl
theorem pd_16 : parseMethodDescriptor "(IIILjava/util/function/BiFunction;)I" = some ⟨[.int, .int, .int, (.object "java/util/function/BiFunction")], some .int⟩ := by decide +kernel
def own_f9 (q0 : Int32) (q1 : Int32) (q2 : Int32) : Int32 := (own_f10 q0 q1 q2)
def Q9 (Z : State) (q0 : Int32) (q1 : Int32) (q2 : Int32)  (h0 : Heap) (n0 : Nat) (v : Option Value) (h : Heap) (L : List Loc) : Prop := v = some (.int (own_f9 q0 q1 q2)) ∧ Fr n0 L ∧ h = h0
set_option maxRecDepth 65536 in
set_option maxHeartbeats 40000000 in
theorem rm9 (l : Launch) (Z : State) (a0 : Array Value) (hw : ∀ d ∈ tables_1, d.before a0 Z = true) (ws : List Jvm.Cond) (q0 : Int32) (q1 : Int32) (q2 : Int32)  (h0 : Heap) (n0 : Nat) (Z0 : n0 ≤ h0.size) (H1 : ¬ ((q2 ||| q0) ||| q1) < (0 : Int32)) (H2 : ¬ (q2 - q0) < q1) :
    MetFree l (⟨"java/util/Objects", "checkFromIndexSize", "(III)I"⟩ : MethodName) (head1 (Jvm.Cond.code (⟨"java/util/Objects", "checkFromIndexSize", "(III)I"⟩ : MethodName) jdk_31_method_19_code 3 (some .int) :: ws) ({ frames := 1, cells := 0, slots := 0, locals := 15 } : Room)) (fun a U => a = #[(.int q0), (.int q1), (.int q2)] ∧ Z.Warmed39 U.vm ∧ U.heap = h0) (fun _ _ _ _ _ => True) (fun _ U o U' => ∃ v L, o = .returned v ∧ Q9 Z q0 q1 q2 h0 n0 v U'.heap L ∧ FrameEnd U o U' L ({ frames := 1, cells := 0, slots := 0, locals := 15 } : Room).cells ({ frames := 1, cells := 0, slots := 0, locals := 15 } : Room).slots) := by
  refine MetFree.of_bodySF (plainFor_of_name pn_15) hisR ?_
  intro p e s m args below meth c s₁ Bd hml0 hP hK
  obtain ⟨rfl, hZ, hh⟩ := hP
  have hx := Bd.exec
  have hby := Bd.bytes
  have hml : c.maxLocals = 3 := hml0
  have hown : s.vm.findClass "java/util/Objects" = some m.cls := findClass_of_methodNamed Bd.named
  have hnm := (name_of_methodNamed Bd.named Bd.method).1
  have X0 : Stand p l e ({ frames := 1, cells := 0, slots := 0, locals := 15 } : Room) s m #[(.int q0), (.int q1), (.int q2)] below meth c s₁ [] 0 0 := Stand.of_body Bd
  have hlk : meth.locks = false := by first | exact BodyLoose.notSynchronized (by assumption) | exact Body.notSynchronized (by assumption)
  have e0 : s₁.heap = h0 := by rw [← hh, Bd.state]; rfl
  have N0 := Fr.nil n0
  have pre0 : ∀ t, Steps p.tables e below (s₁.setTop (mkF m 0 #[iv q0, iv q1, iv q2] [])) t → Steps p.tables e below (s₁.setTop (entryFrame m #[(.int q0), (.int q1), (.int q2)] 3)) t := fun t k => castTop (ef_9 m q0 q1 q2) k
  generalize s₁.setTop (entryFrame m #[(.int q0), (.int q1), (.int q2)] 3) = B0 at pre0 ⊢
  have H : ∀ (i : Nat) {d : Jvm.Cond}, tables_1[i]? = some d → d.before a0 Z = true := fun i d q => hw d (List.mem_of_getElem? q)
  have D : ∀ {pc : Nat} {r : Except DecodeError (Instr × Nat)}, decode jdk_31_method_19_code pc = r → decode c.code pc = r := fun q => hb hby q
  obtain ⟨_, _, ⟨T1, L1, k1, n1⟩, -, X1, ⟨Lc1, hQ1, l1, y1, z1⟩, st1⟩ := Jvm.LawKit.callS X0 hx (y := (⟨"jdk/internal/util/Preconditions", "checkFromIndexSize", "(IIILjava/util/function/BiFunction;)I"⟩ : MethodName)) hown (mvT hZ (H 62 rfl)) (mvT hZ (H 63 rfl)) (mvT hZ (H 64 rfl)) (mvT hZ (H 65 rfl)) (by decide) (backOf (W := 0) (rm10 l Z a0 hw [] q0 q1 q2  h0 n0 Z0 H1 H2) hZ (H 65 rfl) (H 64 rfl) (by decide) (by decide)) (g := (mkF m 4 #[iv q0, iv q1, iv q2] [.null, (.int q2), (.int q1), (.int q0)])) rfl (by rw [hml]; rfl) (argsL := [(.int q0), (.int q1), (.int q2), .null]) (rest := []) (lenOf pd_16 rfl) rfl (by show 2 * 0 + _ ≤ _; exact Nat.le_of_eq rfl) (D d9_4) (fun _ _ => ⟨rfl, e0, (by decide : 0 + 0 ≤ _), (by decide : 0 + 0 ≤ _)⟩)
  dsimp only [Pt.U, Pt.locs, Pt.cells, Pt.slots] at X1 l1 y1 z1 st1 hQ1
  replace y1 : k1 = 0 := y1
  replace z1 : n1 = 0 := z1
  replace l1 := l1.symm; replace y1 := y1.symm; replace z1 := z1.symm; subst l1 y1 z1
  obtain ⟨rfl, N1q, e1⟩ := hQ1
  have N1 := Fr.app N0 N1q
  obtain ⟨fs, hr, hrun, hended, hW, hsame⟩ := X1.leave (v := some (.int (own_f10 q0 q1 q2))) (fun h => by rw [Bd.returns] at h; cases h) hlk
  refine ⟨_, _, pre0 _ ?_, hrun, hended, _, _, rfl, ?_, ⟨_, rfl⟩, hW, hsame.mono (by decide) (by decide)⟩
  · show Steps p.tables e below (s₁.setTop (mkF m 0 #[iv q0, iv q1, iv q2] [])) _
    refine XS.iloadN X0.here hx rfl (D d9_0) rfl ?_
    refine XS.iloadN X0.here hx rfl (D d9_1) rfl ?_
    refine XS.iloadN X0.here hx rfl (D d9_2) rfl ?_
    refine XS.aconstNull X0.here hx rfl (D d9_3) ?_
    refine st1 _ ?_
    show Steps p.tables e below (T1.setTop (mkF m 7 #[iv q0, iv q1, iv q2] [(.int (own_f10 q0 q1 q2))])) _
    exact retI X1 hx Bd.returns (D d9_7) hr
  · show Q9 Z q0 q1 q2 h0 n0 _ T1.heap _
    rw [e1]
    exact ⟨by rfl, N1, rfl⟩
theorem d8_0 : decode prog_64_method_4_code 0 = .ok (.iload_n 1, 1) := by decide +kernel
theorem d8_1 : decode prog_64_method_4_code 1 = .ok (.iload_n 2, 1) := by decide +kernel
theorem d8_2 : decode prog_64_method_4_code 2 = .ok (.aload_n 0, 1) := by decide +kernel
theorem d8_3 : decode prog_64_method_4_code 3 = .ok (.arraylength, 1) := by decide +kernel
theorem d8_4 : decode prog_64_method_4_code 4 = .ok (.invokestatic 36, 3) := by decide +kernel
theorem d8_7 : decode prog_64_method_4_code 7 = .ok (.pop, 1) := by decide +kernel
theorem d8_8 : decode prog_64_method_4_code 8 = .ok (.iload_n 2, 1) := by decide +kernel
theorem d8_9 : decode prog_64_method_4_code 9 = .ok (.iconst 3, 1) := by decide +kernel
theorem d8_10 : decode prog_64_method_4_code 10 = .ok (.if_icmp .ne 35, 3) := by decide +kernel
theorem d8_13 : decode prog_64_method_4_code 13 = .ok (.aload_n 0, 1) := by decide +kernel
theorem d8_14 : decode prog_64_method_4_code 14 = .ok (.iload_n 1, 1) := by decide +kernel
theorem d8_15 : decode prog_64_method_4_code 15 = .ok (.baload, 1) := by decide +kernel
theorem d8_16 : decode prog_64_method_4_code 16 = .ok (.bipush 105, 2) := by decide +kernel
theorem d8_18 : decode prog_64_method_4_code 18 = .ok (.if_icmp .ne 27, 3) := by decide +kernel
theorem d8_21 : decode prog_64_method_4_code 21 = .ok (.aload_n 0, 1) := by decide +kernel
theorem d8_22 : decode prog_64_method_4_code 22 = .ok (.iload_n 1, 1) := by decide +kernel
theorem d8_23 : decode prog_64_method_4_code 23 = .ok (.iconst 1, 1) := by decide +kernel
theorem d8_24 : decode prog_64_method_4_code 24 = .ok (.iadd, 1) := by decide +kernel
theorem d8_25 : decode prog_64_method_4_code 25 = .ok (.baload, 1) := by decide +kernel
theorem d8_26 : decode prog_64_method_4_code 26 = .ok (.bipush 110, 2) := by decide +kernel
theorem d8_28 : decode prog_64_method_4_code 28 = .ok (.if_icmp .ne 17, 3) := by decide +kernel
theorem d8_31 : decode prog_64_method_4_code 31 = .ok (.aload_n 0, 1) := by decide +kernel
theorem d8_32 : decode prog_64_method_4_code 32 = .ok (.iload_n 1, 1) := by decide +kernel
theorem d8_33 : decode prog_64_method_4_code 33 = .ok (.iconst 2, 1) := by decide +kernel
theorem d8_34 : decode prog_64_method_4_code 34 = .ok (.iadd, 1) := by decide +kernel
theorem d8_35 : decode prog_64_method_4_code 35 = .ok (.baload, 1) := by decide +kernel
theorem d8_36 : decode prog_64_method_4_code 36 = .ok (.bipush 102, 2) := by decide +kernel
theorem d8_38 : decode prog_64_method_4_code 38 = .ok (.if_icmp .ne 7, 3) := by decide +kernel
theorem d8_41 : decode prog_64_method_4_code 41 = .ok (.iconst 1, 1) := by decide +kernel
theorem d8_42 : decode prog_64_method_4_code 42 = .ok (.goto 4, 3) := by decide +kernel
theorem d8_45 : decode prog_64_method_4_code 45 = .ok (.iconst 0, 1) := by decide +kernel
theorem d8_46 : decode prog_64_method_4_code 46 = .ok (.istore_n 3, 1) := by decide +kernel
theorem d8_47 : decode prog_64_method_4_code 47 = .ok (.iload_n 3, 1) := by decide +kernel
theorem d8_48 : decode prog_64_method_4_code 48 = .ok (.ifCond .eq 9, 3) := by decide +kernel
theorem d8_51 : decode prog_64_method_4_code 51 = .ok (.getstatic 42, 3) := by decide +kernel
theorem d8_54 : decode prog_64_method_4_code 54 = .ok (.goto 14, 3) := by decide +kernel
theorem d8_57 : decode prog_64_method_4_code 57 = .ok (.aload_n 0, 1) := by decide +kernel
theorem d8_58 : decode prog_64_method_4_code 58 = .ok (.iload_n 1, 1) := by decide +kernel
theorem d8_59 : decode prog_64_method_4_code 59 = .ok (.iload_n 1, 1) := by decide +kernel
theorem d8_60 : decode prog_64_method_4_code 60 = .ok (.iload_n 2, 1) := by decide +kernel
theorem d8_61 : decode prog_64_method_4_code 61 = .ok (.iadd, 1) := by decide +kernel
theorem d8_62 : decode prog_64_method_4_code 62 = .ok (.invokestatic 46, 3) := by decide +kernel
theorem d8_65 : decode prog_64_method_4_code 65 = .ok (.invokestatic 49, 3) := by decide +kernel
theorem d8_68 : decode prog_64_method_4_code 68 = .ok (.areturn, 1) := by decide +kernel
theorem ef_8 (m : MethodId) (ra : Addr) (x0 : Int32) (kn : Int32) : entryFrame m #[(.ref ra), (.int x0), (.int kn)] 4 = mkF m 0 #[rv ra, iv x0, iv kn, u0] [] := by first | (simp [entryFrame, mkF, argsToLocals, Value.category, maxLocals]; done) | rfl
theorem pd_18 : parseMethodDescriptor "(III)I" = some ⟨[.int, .int, .int], some .int⟩ := by decide +kernel
theorem pd_19 : parseMethodDescriptor "([BII)J" = some ⟨[(.array .byte), .int, .int], some .long⟩ := by decide +kernel
theorem pd_20 : parseMethodDescriptor "(J)Lcom/example/tributary/tributary/model/Time;" = some ⟨[.long], some (.object "com/example/tributary/tributary/model/Time")⟩ := by decide +kernel
def Q8 (Z : State) (ra : Addr) (x0 : Int32) (kn : Int32) (bs : List Int32) (h0 : Heap) (n0 : Nat) (v : Option Value) (h : Heap) (L : List Loc) : Prop := v = some (.ref h0.size) ∧ Fr n0 L ∧ Keep h0 h [] ∧ Exa Z h h0.size "com/example/tributary/tributary/model/Time" ∧ Fld Z h h0.size "com/example/tributary/tributary/model/Time" "value" "J" (.long (own_num bs x0 kn)) ∧ Fld Z h h0.size "com/example/tributary/tributary/model/Time" "infinite" "Z" (.int (0 : Int32))
set_option maxRecDepth 65536 in
set_option maxHeartbeats 40000000 in
theorem rm8 (l : Launch) (Z : State) (a0 : Array Value) (hw : ∀ d ∈ tables_1, d.before a0 Z = true) (ws : List Jvm.Cond) (ra : Addr) (x0 : Int32) (kn : Int32) (bs : List Int32) (h0 : Heap) (n0 : Nat) (Z0 : n0 ≤ h0.size) (PA0 : own_AI Z h0 ra .byte bs) (OK : own_ok bs x0 kn) :
    MetFree l (⟨"com/example/tributary/tributary/model/Time", "parse", "([BII)Lcom/example/tributary/tributary/model/Time;"⟩ : MethodName) (head1 (Jvm.Cond.code (⟨"com/example/tributary/tributary/model/Time", "parse", "([BII)Lcom/example/tributary/tributary/model/Time;"⟩ : MethodName) prog_64_method_4_code 4 (some (.object "com/example/tributary/tributary/model/Time")) :: ws) ({ frames := 3, cells := 1, slots := 2, locals := 41 } : Room)) (fun a U => a = #[(.ref ra), (.int x0), (.int kn)] ∧ Z.Warmed39 U.vm ∧ U.heap = h0) (fun _ _ _ _ _ => True) (fun _ U o U' => ∃ v L, o = .returned v ∧ Q8 Z ra x0 kn bs h0 n0 v U'.heap L ∧ FrameEnd U o U' L ({ frames := 3, cells := 1, slots := 2, locals := 41 } : Room).cells ({ frames := 3, cells := 1, slots := 2, locals := 41 } : Room).slots) := by
  refine MetFree.of_bodySF (plainFor_of_name pn_3) hisR ?_
  intro p e s m args below meth c s₁ Bd hml0 hP hK
  obtain ⟨rfl, hZ, hh⟩ := hP
  have hx := Bd.exec
  have hby := Bd.bytes
  have hml : c.maxLocals = 4 := hml0
  have hown : s.vm.findClass "com/example/tributary/tributary/model/Time" = some m.cls := findClass_of_methodNamed Bd.named
  have hnm := (name_of_methodNamed Bd.named Bd.method).1
  have X0 : Stand p l e ({ frames := 3, cells := 1, slots := 2, locals := 41 } : Room) s m #[(.ref ra), (.int x0), (.int kn)] below meth c s₁ [] 0 0 := Stand.of_body Bd
  have hlk : meth.locks = false := by first | exact BodyLoose.notSynchronized (by assumption) | exact Body.notSynchronized (by assumption)
  have e0 : s₁.heap = h0 := by rw [← hh, Bd.state]; rfl
  have N0 := Fr.nil n0
  have pre0 : ∀ t, Steps p.tables e below (s₁.setTop (mkF m 0 #[rv ra, iv x0, iv kn, u0] [])) t → Steps p.tables e below (s₁.setTop (entryFrame m #[(.ref ra), (.int x0), (.int kn)] 4)) t := fun t k => castTop (ef_8 m ra x0 kn) k
  generalize s₁.setTop (entryFrame m #[(.ref ra), (.int x0), (.int kn)] 4) = B0 at pre0 ⊢
  have H : ∀ (i : Nat) {d : Jvm.Cond}, tables_1[i]? = some d → d.before a0 Z = true := fun i d q => hw d (List.mem_of_getElem? q)
  have D : ∀ {pc : Nat} {r : Except DecodeError (Instr × Nat)}, decode prog_64_method_4_code pc = r → decode c.code pc = r := fun q => hb hby q
  obtain ⟨_, _, ⟨T1, L1, k1, n1⟩, -, X1, ⟨Lc1, hQ1, l1, y1, z1⟩, st1⟩ := Jvm.LawKit.callS X0 hx (y := (⟨"java/util/Objects", "checkFromIndexSize", "(III)I"⟩ : MethodName)) hown (mvT hZ (H 58 rfl)) (mvT hZ (H 59 rfl)) (mvT hZ (H 60 rfl)) (mvT hZ (H 61 rfl)) (by decide) (backOf (W := 0) (rm9 l Z a0 hw [] x0 kn ((bs.length).toInt32)  h0 n0 Z0 (own_cfs1 OK) (own_cfs2 OK)) hZ (H 61 rfl) (H 60 rfl) (by decide) (by decide)) (g := (mkF m 4 #[rv ra, iv x0, iv kn, u0] [(.int (bs.length).toInt32), (.int kn), (.int x0)])) rfl (by rw [hml]; rfl) (argsL := [(.int x0), (.int kn), (.int (bs.length).toInt32)]) (rest := []) (lenOf pd_18 rfl) rfl (by show 2 * 0 + _ ≤ _; exact Nat.le_of_eq rfl) (D d8_4) (fun _ _ => ⟨rfl, e0, (by decide : 0 + 0 ≤ _), (by decide : 0 + 0 ≤ _)⟩)
  dsimp only [Pt.U, Pt.locs, Pt.cells, Pt.slots] at X1 l1 y1 z1 st1 hQ1
  replace y1 : k1 = 0 := y1
  replace z1 : n1 = 0 := z1
  replace l1 := l1.symm; replace y1 := y1.symm; replace z1 := z1.symm; subst l1 y1 z1
  obtain ⟨rfl, N1q, e1⟩ := hQ1
  have N1 := Fr.app N0 N1q
  have pre3 : ∀ t, Steps p.tables e below (T1.setTop (mkF m 10 #[rv ra, iv x0, iv kn, u0] [(.int (3 : Int32)), (.int kn)])) t → Steps p.tables e below B0 t := by
    intro t k
    refine pre0 t ?_
    show Steps p.tables e below (s₁.setTop (mkF m 0 #[rv ra, iv x0, iv kn, u0] [])) _
    refine XS.iloadN X0.here hx rfl (D d8_0) rfl ?_
    refine XS.iloadN X0.here hx rfl (D d8_1) rfl ?_
    refine XS.aloadN X0.here hx rfl (D d8_2) rfl rfl ?_
    refine own_alenI X0 hx hZ e0 PA0 (D d8_3) _ ?_
    refine st1 _ ?_
    refine XS.pop X1.here hx rfl (D d8_7) rfl rfl ?_
    refine XS.iloadN X1.here hx rfl (D d8_8) rfl ?_
    show Steps p.tables e below (T1.setTop (mkF m 9 #[rv ra, iv x0, iv kn, u0] [(.int kn)])) _
    refine XS.iconst X1.here hx rfl (D d8_9) ?_
    exact k
  clear st1 N1q
  have pre6 : ∀ t, Steps p.tables e below (T1.setTop (mkF m 46 #[rv ra, iv x0, iv kn, u0] [(.int (0 : Int32))])) t → Steps p.tables e below B0 t := by
    by_cases c2 : kn = (3 : Int32)
    · try simp only [if_pos c2]
      have in_15_4 : 0 ≤ (x0).toInt ∧ (x0).toInt < (bs.length : Nat) := (OK.inb (by omega) (by have := OK.n14; omega))
      have c5 : ¬ ((bs.getD (x0).toInt.toNat 0) = (105 : Int32)) := own_ndig (OK.dg (j := x0) (by omega) (by have := OK.n14; omega)) (by decide)
      intro t k
      refine pre3 t ?_
      show Steps p.tables e below (T1.setTop (mkF m 10 #[rv ra, iv x0, iv kn, u0] [(.int (3 : Int32)), (.int kn)])) _
      refine XS.icmpNo X1.here hx rfl (D d8_10) rfl ((teq c2).2) ?_
      refine XS.aloadN X1.here hx rfl (D d8_13) rfl rfl ?_
      refine XS.iloadN X1.here hx rfl (D d8_14) rfl ?_
      refine own_baloadB X1 hx hZ e1 PA0 in_15_4 (D d8_15) _ ?_
      refine XS.bipush X1.here hx rfl (D d8_16) ?_
      show Steps p.tables e below (T1.setTop (mkF m 18 #[rv ra, iv x0, iv kn, u0] [(.int (105 : Int32)), (.int (bs.getD (x0).toInt.toNat 0))])) _
      refine XS.icmpYes X1.here hx rfl (pc0 := 18) (pc' := 45) rfl (D d8_18) rfl ((feq c5).2) (by decide) (by decide) ?_
      refine XS.iconst X1.here hx rfl (D d8_45) ?_
      exact k
    · try simp only [if_neg c2]
      intro t k
      refine pre3 t ?_
      show Steps p.tables e below (T1.setTop (mkF m 10 #[rv ra, iv x0, iv kn, u0] [(.int (3 : Int32)), (.int kn)])) _
      refine XS.icmpYes X1.here hx rfl (pc0 := 10) (pc' := 45) rfl (D d8_10) rfl ((feq c2).2) (by decide) (by decide) ?_
      refine XS.iconst X1.here hx rfl (D d8_45) ?_
      exact k
  obtain ⟨_, _, ⟨T7, L7, k7, n7⟩, -, X7, ⟨Lc7, hQ7, l7, y7, z7⟩, st7⟩ := Jvm.LawKit.callS X1 hx (y := (⟨"com/example/tributary/tributary/model/Time", "value", "([BII)J"⟩ : MethodName)) hown (mvT hZ (H 66 rfl)) (mvT hZ (H 67 rfl)) (mvT hZ (H 56 rfl)) (mvT hZ (H 68 rfl)) (by decide) (backOf (W := 0) (rm11 l Z a0 hw [] ra x0 (x0 + kn) bs kn h0 n0 Z0 PA0 OK rfl) hZ (H 68 rfl) (H 56 rfl) (by decide) (by decide)) (g := (mkF m 62 #[rv ra, iv x0, iv kn, iv (0 : Int32)] [(.int (x0 + kn)), (.int x0), (.ref ra)])) rfl (by rw [hml]; rfl) (argsL := [(.ref ra), (.int x0), (.int (x0 + kn))]) (rest := []) (lenOf pd_19 rfl) rfl (by show 2 * 0 + _ ≤ _; exact Nat.le_of_eq rfl) (D d8_62) (fun _ _ => ⟨rfl, e1, (by decide : 0 + 0 ≤ _), (by decide : 0 + 0 ≤ _)⟩)
  dsimp only [Pt.U, Pt.locs, Pt.cells, Pt.slots] at X7 l7 y7 z7 st7 hQ7
  replace y7 : k7 = 0 := y7
  replace z7 : n7 = 0 := z7
  replace l7 := l7.symm; replace y7 := y7.symm; replace z7 := z7.symm; subst l7 y7 z7
  obtain ⟨rfl, N7q, e7⟩ := hQ7
  have N7 := Fr.app N1 N7q
  obtain ⟨_, _, ⟨T8, L8, k8, n8⟩, -, X8, ⟨Lc8, hQ8, l8, y8, z8⟩, st8⟩ := Jvm.LawKit.callS X7 hx (y := (⟨"com/example/tributary/tributary/model/Time", "of", "(J)Lcom/example/tributary/tributary/model/Time;"⟩ : MethodName)) hown (mvT hZ (H 71 rfl)) (mvT hZ (H 72 rfl)) (mvT hZ (H 56 rfl)) (mvT hZ (H 73 rfl)) (by decide) (backOf (W := 0) (rm12 l Z a0 hw [] (own_num bs x0 kn)  h0 n0 Z0 ) hZ (H 73 rfl) (H 56 rfl) (by decide) (by decide)) (g := (mkF m 65 #[rv ra, iv x0, iv kn, iv (0 : Int32)] [(.long (own_num bs x0 kn))])) rfl (by rw [hml]; rfl) (argsL := [(.long (own_num bs x0 kn))]) (rest := []) (lenOf pd_20 rfl) rfl (by show 2 * 0 + _ ≤ _; exact Nat.le_of_eq rfl) (D d8_65) (fun _ _ => ⟨rfl, e7, (by decide : 0 + 1 ≤ _), (by decide : 0 + 2 ≤ _)⟩)
  dsimp only [Pt.U, Pt.locs, Pt.cells, Pt.slots] at X8 l8 y8 z8 st8 hQ8
  replace y8 : k8 = 1 := y8
  replace z8 : n8 = 2 := z8
  replace l8 := l8.symm; replace y8 := y8.symm; replace z8 := z8.symm; subst l8 y8 z8
  obtain ⟨rfl, N8q, K8, R8, R8_0, R8_1⟩ := hQ8
  obtain ⟨h8, e8⟩ : ∃ z, T8.heap = z := ⟨_, rfl⟩
  rw [e8] at K8 R8 R8_0 R8_1
  obtain ⟨a8, g8⟩ : ∃ z, z = h0.size := ⟨_, rfl⟩
  rw [← g8] at R8 R8_0 R8_1 st8
  have ne_ra_a8 : ra ≠ a8 := g8 ▸ Nat.ne_of_lt PA0.lt
  have ge_a8 : n0 ≤ a8 := g8 ▸ Z0
  have go_a8 : h0.size ≤ a8 := g8 ▸ (Keep.refl h0 []).1
  have V8_ra := PA0.keep K8 nin0
  have sz8 : n0 ≤ h8.size := Nat.le_trans Z0 K8.1
  have KK8 : Keep h0 h8 [] := (Keep.refl h0 []).trans K8 all0
  have N8 := Fr.app N7 N8q
  obtain ⟨fs, hr, hrun, hended, hW, hsame⟩ := X8.leave (v := some (.ref a8)) (fun h => by rw [Bd.returns] at h; cases h) hlk
  refine ⟨_, _, pre6 _ ?_, hrun, hended, _, _, rfl, ?_, ⟨_, rfl⟩, hW, hsame.mono (by decide) (by decide)⟩
  · show Steps p.tables e below (T1.setTop (mkF m 46 #[rv ra, iv x0, iv kn, u0] [(.int (0 : Int32))])) _
    refine XS.istoreN X1.here hx rfl (D d8_46) rfl (l' := #[rv ra, iv x0, iv kn, iv (0 : Int32)]) rfl ?_
    refine XS.iloadN X1.here hx rfl (D d8_47) rfl ?_
    show Steps p.tables e below (T1.setTop (mkF m 48 #[rv ra, iv x0, iv kn, iv (0 : Int32)] [(.int (0 : Int32))])) _
    refine XS.ifYes X1.here hx rfl (pc0 := 48) (pc' := 57) rfl (D d8_48) rfl (by decide) (by decide) (by decide) ?_
    refine XS.aloadN X1.here hx rfl (D d8_57) rfl rfl ?_
    refine XS.iloadN X1.here hx rfl (D d8_58) rfl ?_
    refine XS.iloadN X1.here hx rfl (D d8_59) rfl ?_
    refine XS.iloadN X1.here hx rfl (D d8_60) rfl ?_
    refine XS.iadd X1.here hx rfl (D d8_61) rfl ?_
    show Steps p.tables e below (T1.setTop (mkF m 62 #[rv ra, iv x0, iv kn, iv (0 : Int32)] [(.int (x0 + kn)), (.int x0), (.ref ra)])) _
    refine st7 _ ?_
    refine st8 _ ?_
    show Steps p.tables e below (T8.setTop (mkF m 68 #[rv ra, iv x0, iv kn, iv (0 : Int32)] [(.ref a8)])) _
    exact retOut X8 hx Bd.returns rfl (Or.inr (Or.inr (Or.inr (Or.inr ⟨rfl, rfl, rfl⟩)))) (D d8_68) hr
  · show Q8 Z ra x0 kn bs h0 n0 _ T8.heap _
    rw [e8]
    exact ⟨by rw [g8], N8, KK8, (by rw [← g8]; exact R8), (by rw [← g8]; exact R8_0), (by rw [← g8]; exact R8_1)⟩
theorem d22_0 : decode prog_36_method_10_code 0 = .ok (.aload_n 0, 1) := by decide +kernel
theorem d22_1 : decode prog_36_method_10_code 1 = .ok (.getfield 64, 3) := by decide +kernel
theorem d22_4 : decode prog_36_method_10_code 4 = .ok (.iload_n 2, 1) := by decide +kernel
theorem d22_5 : decode prog_36_method_10_code 5 = .ok (.iload_n 3, 1) := by decide +kernel
theorem d22_6 : decode prog_36_method_10_code 6 = .ok (.iload_n 2, 1) := by decide +kernel
theorem d22_7 : decode prog_36_method_10_code 7 = .ok (.isub, 1) := by decide +kernel
theorem d22_8 : decode prog_36_method_10_code 8 = .ok (.invokestatic 135, 3) := by decide +kernel
theorem d22_11 : decode prog_36_method_10_code 11 = .ok (.astore 5, 2) := by decide +kernel
theorem d22_13 : decode prog_36_method_10_code 13 = .ok (.goto 20, 3) := by decide +kernel
theorem d22_33 : decode prog_36_method_10_code 33 = .ok (.aload 5, 2) := by decide +kernel
theorem d22_35 : decode prog_36_method_10_code 35 = .ok (.invokevirtual 147, 3) := by decide +kernel
theorem d22_38 : decode prog_36_method_10_code 38 = .ok (.ifCond .eq 18, 3) := by decide +kernel
theorem d22_56 : decode prog_36_method_10_code 56 = .ok (.aload 5, 2) := by decide +kernel
theorem d22_58 : decode prog_36_method_10_code 58 = .ok (.areturn, 1) := by decide +kernel
theorem pn_22 : plainName "com/example/tributary/tributary/io/LineFormat" = true := by first | (simp [plainName, overriddenIn]; done) | decide +kernel
theorem ef_22 (m : MethodId) (ra : Addr) (rs : Addr) (x0 : Int32) (te : Int32) (fl : Int32) : entryFrame m #[(.ref ra), (.ref rs), (.int x0), (.int te), (.int fl)] 7 = mkF m 0 #[rv ra, rv rs, iv x0, iv te, iv fl, u0, u0] [] := by first | (simp [entryFrame, mkF, argsToLocals, Value.category, maxLocals]; done) | rfl
theorem pd_23 : parseMethodDescriptor "([BII)Lcom/example/tributary/tributary/model/Time;" = some ⟨[(.array .byte), .int, .int], some (.object "com/example/tributary/tributary/model/Time")⟩ := by decide +kernel
theorem pd_24 : parseMethodDescriptor "()Z" = some ⟨[], some .boolean⟩ := by decide +kernel
def Q22 (Z : State) (ra : Addr) (rs : Addr) (x0 : Int32) (te : Int32) (fl : Int32) (la : Addr) (bs : List Int32) (kn : Int32) (h0 : Heap) (n0 : Nat) (v : Option Value) (h : Heap) (L : List Loc) : Prop := v = some (.ref h0.size) ∧ Fr n0 L ∧ Keep h0 h [] ∧ Exa Z h h0.size "com/example/tributary/tributary/model/Time" ∧ Fld Z h h0.size "com/example/tributary/tributary/model/Time" "value" "J" (.long (own_num bs x0 kn)) ∧ Fld Z h h0.size "com/example/tributary/tributary/model/Time" "infinite" "Z" (.int (0 : Int32))
set_option maxRecDepth 65536 in
set_option maxHeartbeats 40000000 in
theorem rm22 (l : Launch) (Z : State) (a0 : Array Value) (hw : ∀ d ∈ tables_1, d.before a0 Z = true) (ws : List Jvm.Cond) (ra : Addr) (rs : Addr) (x0 : Int32) (te : Int32) (fl : Int32) (la : Addr) (bs : List Int32) (kn : Int32) (h0 : Heap) (n0 : Nat) (Z0 : n0 ≤ h0.size) (PA0 : own_AI Z h0 la .byte bs) (PE0 : Exa Z h0 ra "com/example/tributary/tributary/io/LineFormat") (PF0 : Fld Z h0 ra "com/example/tributary/tributary/io/LineFormat" "line" "[B" (.ref la)) (OK : own_ok bs x0 kn) (HT : te = x0 + kn) :
    MetFree l (⟨"com/example/tributary/tributary/io/LineFormat", "time", "(Ljava/lang/String;IIZ)Lcom/example/tributary/tributary/model/Time;"⟩ : MethodName) (head1 (Jvm.Cond.codeWith (⟨"com/example/tributary/tributary/io/LineFormat", "time", "(Ljava/lang/String;IIZ)Lcom/example/tributary/tributary/model/Time;"⟩ : MethodName) prog_36_method_10_code 7 (some (.object "com/example/tributary/tributary/model/Time")) [(0, 13, 16, 138)] :: ws) ({ frames := 4, cells := 1, slots := 2, locals := 56 } : Room)) (fun a U => a = #[(.ref ra), (.ref rs), (.int x0), (.int te), (.int fl)] ∧ Z.Warmed39 U.vm ∧ U.heap = h0) (fun _ _ _ _ _ => True) (fun _ U o U' => ∃ v L, o = .returned v ∧ Q22 Z ra rs x0 te fl la bs kn h0 n0 v U'.heap L ∧ FrameEnd U o U' L ({ frames := 4, cells := 1, slots := 2, locals := 56 } : Room).cells ({ frames := 4, cells := 1, slots := 2, locals := 56 } : Room).slots) := by
  refine MetFree.of_bodySF (plainFor_of_name pn_22) hisWith ?_
  intro p e s m args below meth c s₁ Bd hml0 hP hK
  obtain ⟨rfl, hZ, hh⟩ := hP
  have hx := Bd.exec
  have hby := Bd.bytes
  have hml : c.maxLocals = 7 := hml0
  have hown : s.vm.findClass "com/example/tributary/tributary/io/LineFormat" = some m.cls := findClass_of_methodNamed Bd.named
  have hnm := (name_of_methodNamed Bd.named Bd.method).1
  have X0 : Stand p l e ({ frames := 4, cells := 1, slots := 2, locals := 56 } : Room) s m #[(.ref ra), (.ref rs), (.int x0), (.int te), (.int fl)] below meth c s₁ [] 0 0 := Stand.of_body Bd
  have hlk : meth.locks = false := by first | exact BodyLoose.notSynchronized (by assumption) | exact Body.notSynchronized (by assumption)
  have e0 : s₁.heap = h0 := by rw [← hh, Bd.state]; rfl
  have N0 := Fr.nil n0
  have pre0 : ∀ t, Steps p.tables e below (s₁.setTop (mkF m 0 #[rv ra, rv rs, iv x0, iv te, iv fl, u0, u0] [])) t → Steps p.tables e below (s₁.setTop (entryFrame m #[(.ref ra), (.ref rs), (.int x0), (.int te), (.int fl)] 7)) t := fun t k => castTop (ef_22 m ra rs x0 te fl) k
  generalize s₁.setTop (entryFrame m #[(.ref ra), (.ref rs), (.int x0), (.int te), (.int fl)] 7) = B0 at pre0 ⊢
  have H : ∀ (i : Nat) {d : Jvm.Cond}, tables_1[i]? = some d → d.before a0 Z = true := fun i d q => hw d (List.mem_of_getElem? q)
  have D : ∀ {pc : Nat} {r : Except DecodeError (Instr × Nat)}, decode prog_36_method_10_code pc = r → decode c.code pc = r := fun q => hb hby q
  obtain ⟨T1, X1, e1, st1⟩ := getF X0 hx hZ hown (host := "") (Or.inl (H 21 rfl)) Via.refl e0 PF0 (g := (mkF m 1 #[rv ra, rv rs, iv x0, iv te, iv fl, u0, u0] [(.ref ra)])) rfl rfl (D d22_1)
  have pre2 : ∀ t, Steps p.tables e below (T1.setTop (mkF m 8 #[rv ra, rv rs, iv x0, iv te, iv fl, u0, u0] [(.int (te - x0)), (.int x0), (.ref la)])) t → Steps p.tables e below B0 t := by
    intro t k
    refine pre0 t ?_
    show Steps p.tables e below (s₁.setTop (mkF m 0 #[rv ra, rv rs, iv x0, iv te, iv fl, u0, u0] [])) _
    refine XS.aloadN X0.here hx rfl (D d22_0) rfl rfl ?_
    refine st1 _ ?_
    refine XS.iloadN X1.here hx rfl (D d22_4) rfl ?_
    refine XS.iloadN X1.here hx rfl (D d22_5) rfl ?_
    refine XS.iloadN X1.here hx rfl (D d22_6) rfl ?_
    refine XS.isub X1.here hx rfl (D d22_7) rfl ?_
    exact k
  clear st1
  have hsub : te - x0 = kn := by rw [HT]; exact own_addsub _ _
  have pre3 : ∀ t, Steps p.tables e below (T1.setTop (mkF m 8 #[rv ra, rv rs, iv x0, iv te, iv fl, u0, u0] [(.int kn), (.int x0), (.ref la)])) t → Steps p.tables e below B0 t := by rw [← hsub]; exact pre2
  obtain ⟨_, _, ⟨T4, L4, k4, n4⟩, -, X4, ⟨Lc4, hQ4, l4, y4, z4⟩, st4⟩ := Jvm.LawKit.callS X1 hx (y := (⟨"com/example/tributary/tributary/model/Time", "parse", "([BII)Lcom/example/tributary/tributary/model/Time;"⟩ : MethodName)) hown (mvT hZ (H 54 rfl)) (mvT hZ (H 55 rfl)) (mvT hZ (H 56 rfl)) (mvT hZ (H 57 rfl)) (by decide) (backOf (W := 0) (rm8 l Z a0 hw [] la x0 kn bs h0 n0 Z0 PA0 OK) hZ (H 57 rfl) (H 56 rfl) (by decide) (by decide)) (g := (mkF m 8 #[rv ra, rv rs, iv x0, iv te, iv fl, u0, u0] [(.int kn), (.int x0), (.ref la)])) rfl (by rw [hml]; rfl) (argsL := [(.ref la), (.int x0), (.int kn)]) (rest := []) (lenOf pd_23 rfl) rfl (by show 2 * 0 + _ ≤ _; exact Nat.le_of_eq rfl) (D d22_8) (fun _ _ => ⟨rfl, e1, (by decide : 0 + 1 ≤ _), (by decide : 0 + 2 ≤ _)⟩)
  dsimp only [Pt.U, Pt.locs, Pt.cells, Pt.slots] at X4 l4 y4 z4 st4 hQ4
  replace y4 : k4 = 1 := y4
  replace z4 : n4 = 2 := z4
  replace l4 := l4.symm; replace y4 := y4.symm; replace z4 := z4.symm; subst l4 y4 z4
  obtain ⟨rfl, N4q, K4, R4, R4_0, R4_1⟩ := hQ4
  obtain ⟨h4, e4⟩ : ∃ z, T4.heap = z := ⟨_, rfl⟩
  rw [e4] at K4 R4 R4_0 R4_1
  obtain ⟨a4, g4⟩ : ∃ z, z = h0.size := ⟨_, rfl⟩
  rw [← g4] at R4 R4_0 R4_1 st4
  have ne_la_a4 : la ≠ a4 := g4 ▸ Nat.ne_of_lt PA0.lt
  have ne_ra_a4 : ra ≠ a4 := g4 ▸ Nat.ne_of_lt PE0.lt
  have ge_a4 : n0 ≤ a4 := g4 ▸ Z0
  have go_a4 : h0.size ≤ a4 := g4 ▸ (Keep.refl h0 []).1
  have V4_la := PA0.keep K4 nin0
  have A4_ra := PE0.keep K4
  have F4_ra_0 := PF0.keep K4 nin0
  have sz4 : n0 ≤ h4.size := Nat.le_trans Z0 K4.1
  have KK4 : Keep h0 h4 [] := (Keep.refl h0 []).trans K4 all0
  have N4 := Fr.app N0 N4q
  obtain ⟨cq5, kq5, q5a, q5b, q5c⟩ := isOf hZ e4 R4
  obtain ⟨_, _, ⟨T5, L5, k5, n5⟩, -, X5, ⟨Lc5, hQ5, l5, y5, z5⟩, st5⟩ := X4.virtualBack hx (y := (⟨"com/example/tributary/tributary/model/Time", "isInfinite", "()Z"⟩ : MethodName)) (z := (⟨"com/example/tributary/tributary/model/Time", "isInfinite", "()Z"⟩ : MethodName)) hown (mvT hZ (H 84 rfl)) (mvT hZ (H 85 rfl)) (notFace_of_selects (args := #[]) (mvT hZ (H 87 rfl))) (mvT hZ (H 87 rfl)) (mvT hZ (H 86 rfl)) (by decide) (backOf (W := 0) (rm14 l Z a0 hw [] a4  h4 n0 sz4 R4 R4_1 ) hZ (H 88 rfl) (H 56 rfl) (by decide) (by decide)) q5a q5c (g := (mkF m 35 #[rv ra, rv rs, iv x0, iv te, iv fl, rv a4, u0] [(.ref a4)])) rfl (by rw [hml]; rfl) (Steps.refl _) (argsL := []) (rest := []) (lenOf pd_24 rfl) rfl (by show 2 * 0 + _ ≤ _; exact Nat.le_of_eq rfl) (D d22_35) (fun _ _ => ⟨rfl, e4, (by decide : 1 + 0 ≤ _), (by decide : 2 + 0 ≤ _)⟩)
  dsimp only [Pt.U, Pt.locs, Pt.cells, Pt.slots] at X5 l5 y5 z5 st5 hQ5
  replace y5 : k5 = 1 := y5
  replace z5 : n5 = 2 := z5
  replace l5 := l5.symm; replace y5 := y5.symm; replace z5 := z5.symm; subst l5 y5 z5
  obtain ⟨rfl, N5q, e5⟩ := hQ5
  have N5 := Fr.app N4 N5q
  obtain ⟨fs, hr, hrun, hended, hW, hsame⟩ := X5.leave (v := some (.ref a4)) (fun h => by rw [Bd.returns] at h; cases h) hlk
  refine ⟨_, _, pre3 _ ?_, hrun, hended, _, _, rfl, ?_, ⟨_, rfl⟩, hW, hsame.mono (by decide) (by decide)⟩
  · show Steps p.tables e below (T1.setTop (mkF m 8 #[rv ra, rv rs, iv x0, iv te, iv fl, u0, u0] [(.int kn), (.int x0), (.ref la)])) _
    refine st4 _ ?_
    show Steps p.tables e below (T4.setTop (mkF m 11 #[rv ra, rv rs, iv x0, iv te, iv fl, u0, u0] [(.ref a4)])) _
    refine XS.astore X4.here hx rfl (D d22_11) rfl rfl (l' := #[rv ra, rv rs, iv x0, iv te, iv fl, rv a4, u0]) rfl ?_
    refine XS.goto X4.here hx rfl (pc0 := 13) (pc' := 33) rfl (D d22_13) (by decide) (by decide) ?_
    refine XS.aload X4.here hx rfl (D d22_33) rfl rfl ?_
    refine st5.trans ?_
    show Steps p.tables e below (T5.setTop (mkF m 38 #[rv ra, rv rs, iv x0, iv te, iv fl, rv a4, u0] [(.int (0 : Int32))])) _
    refine XS.ifYes X5.here hx rfl (pc0 := 38) (pc' := 56) rfl (D d22_38) rfl (by decide) (by decide) (by decide) ?_
    refine XS.aload X5.here hx rfl (D d22_56) rfl rfl ?_
    show Steps p.tables e below (T5.setTop (mkF m 58 #[rv ra, rv rs, iv x0, iv te, iv fl, rv a4, u0] [(.ref a4)])) _
    exact retOut X5 hx Bd.returns rfl (Or.inr (Or.inr (Or.inr (Or.inr ⟨rfl, rfl, rfl⟩)))) (D d22_58) hr
  · show Q22 Z ra rs x0 te fl la bs kn h0 n0 _ T5.heap _
    rw [e5]
    exact ⟨by rw [g4], N5, KK4, (by rw [← g4]; exact R4), (by rw [← g4]; exact R4_0), (by rw [← g4]; exact R4_1)⟩
theorem d7_0 : decode prog_36_method_9_code 0 = .ok (.aload_n 0, 1) := by decide +kernel
theorem d7_1 : decode prog_36_method_9_code 1 = .ok (.getfield 75, 3) := by decide +kernel
theorem d7_4 : decode prog_36_method_9_code 4 = .ok (.istore_n 3, 1) := by decide +kernel
theorem d7_5 : decode prog_36_method_9_code 5 = .ok (.iload_n 3, 1) := by decide +kernel
theorem d7_6 : decode prog_36_method_9_code 6 = .ok (.aload_n 0, 1) := by decide +kernel
theorem d7_7 : decode prog_36_method_9_code 7 = .ok (.getfield 72, 3) := by decide +kernel
theorem d7_10 : decode prog_36_method_9_code 10 = .ok (.if_icmp .ge 20, 3) := by decide +kernel
theorem d7_13 : decode prog_36_method_9_code 13 = .ok (.aload_n 0, 1) := by decide +kernel
theorem d7_14 : decode prog_36_method_9_code 14 = .ok (.getfield 64, 3) := by decide +kernel
theorem d7_17 : decode prog_36_method_9_code 17 = .ok (.iload_n 3, 1) := by decide +kernel
theorem d7_18 : decode prog_36_method_9_code 18 = .ok (.baload, 1) := by decide +kernel
theorem d7_19 : decode prog_36_method_9_code 19 = .ok (.bipush 44, 2) := by decide +kernel
theorem d7_21 : decode prog_36_method_9_code 21 = .ok (.if_icmp .eq 9, 3) := by decide +kernel
theorem d7_24 : decode prog_36_method_9_code 24 = .ok (.iinc 3 1, 3) := by decide +kernel
theorem d7_27 : decode prog_36_method_9_code 27 = .ok (.goto (-22), 3) := by decide +kernel
theorem d7_30 : decode prog_36_method_9_code 30 = .ok (.iload_n 3, 1) := by decide +kernel
theorem d7_31 : decode prog_36_method_9_code 31 = .ok (.aload_n 0, 1) := by decide +kernel
theorem d7_32 : decode prog_36_method_9_code 32 = .ok (.getfield 72, 3) := by decide +kernel
theorem d7_35 : decode prog_36_method_9_code 35 = .ok (.if_icmp .ne 20, 3) := by decide +kernel
theorem d7_38 : decode prog_36_method_9_code 38 = .ok (.aload_n 0, 1) := by decide +kernel
theorem d7_39 : decode prog_36_method_9_code 39 = .ok (.invokevirtual 128, 3) := by decide +kernel
theorem d7_42 : decode prog_36_method_9_code 42 = .ok (.ifCond .ne 13, 3) := by decide +kernel
theorem d7_45 : decode prog_36_method_9_code 45 = .ok (.aload_n 1, 1) := by decide +kernel
theorem d7_46 : decode prog_36_method_9_code 46 = .ok (.invokedynamic 131, 5) := by decide +kernel
theorem d7_51 : decode prog_36_method_9_code 51 = .ok (.invokestatic 124, 3) := by decide +kernel
theorem d7_54 : decode prog_36_method_9_code 54 = .ok (.athrow, 1) := by decide +kernel
theorem d7_55 : decode prog_36_method_9_code 55 = .ok (.aload_n 0, 1) := by decide +kernel
theorem d7_56 : decode prog_36_method_9_code 56 = .ok (.aload_n 1, 1) := by decide +kernel
theorem d7_57 : decode prog_36_method_9_code 57 = .ok (.aload_n 0, 1) := by decide +kernel
theorem d7_58 : decode prog_36_method_9_code 58 = .ok (.getfield 75, 3) := by decide +kernel
theorem d7_61 : decode prog_36_method_9_code 61 = .ok (.iload_n 3, 1) := by decide +kernel
theorem d7_62 : decode prog_36_method_9_code 62 = .ok (.iload_n 2, 1) := by decide +kernel
theorem d7_63 : decode prog_36_method_9_code 63 = .ok (.invokevirtual 115, 3) := by decide +kernel
theorem d7_66 : decode prog_36_method_9_code 66 = .ok (.astore 4, 2) := by decide +kernel
theorem d7_68 : decode prog_36_method_9_code 68 = .ok (.aload_n 0, 1) := by decide +kernel
theorem d7_69 : decode prog_36_method_9_code 69 = .ok (.iload_n 3, 1) := by decide +kernel
theorem d7_70 : decode prog_36_method_9_code 70 = .ok (.iconst 1, 1) := by decide +kernel
theorem d7_71 : decode prog_36_method_9_code 71 = .ok (.iadd, 1) := by decide +kernel
theorem d7_72 : decode prog_36_method_9_code 72 = .ok (.putfield 75, 3) := by decide +kernel
theorem d7_75 : decode prog_36_method_9_code 75 = .ok (.aload 4, 2) := by decide +kernel
theorem d7_77 : decode prog_36_method_9_code 77 = .ok (.areturn, 1) := by decide +kernel
theorem ef_7 (m : MethodId) (ra : Addr) (rs : Addr) (fl : Int32) : entryFrame m #[(.ref ra), (.ref rs), (.int fl)] 5 = mkF m 0 #[rv ra, rv rs, iv fl, u0, u0] [] := by first | (simp [entryFrame, mkF, argsToLocals, Value.category, maxLocals]; done) | rfl
theorem pd_26 : parseMethodDescriptor "(Ljava/lang/String;IIZ)Lcom/example/tributary/tributary/model/Time;" = some ⟨[(.object "java/lang/String"), .int, .int, .boolean], some (.object "com/example/tributary/tributary/model/Time")⟩ := by decide +kernel
theorem own_sn_27 {Z : State} {a0 : Array Value} (hw : ∀ d ∈ tables_1, d.before a0 Z = true) : Jvm.RoadKit.slotOf Z "com/example/tributary/tributary/io/LineFormat" "line" "[B" ≠ Jvm.RoadKit.slotOf Z "com/example/tributary/tributary/io/LineFormat" "cursor" "I" := slot_ne (a0 := a0) (C := "com/example/tributary/tributary/io/LineFormat") (Or.inl (hw _ (List.mem_of_getElem? (i := 22) rfl))) (Or.inl (hw _ (List.mem_of_getElem? (i := 28) rfl))) (by decide) (t := (.array .byte)) (t' := .int) (by decide) (by decide)
theorem own_sn_28 {Z : State} {a0 : Array Value} (hw : ∀ d ∈ tables_1, d.before a0 Z = true) : Jvm.RoadKit.slotOf Z "com/example/tributary/tributary/io/LineFormat" "lineEnd" "I" ≠ Jvm.RoadKit.slotOf Z "com/example/tributary/tributary/io/LineFormat" "cursor" "I" := slot_ne (a0 := a0) (C := "com/example/tributary/tributary/io/LineFormat") (Or.inl (hw _ (List.mem_of_getElem? (i := 26) rfl))) (Or.inl (hw _ (List.mem_of_getElem? (i := 28) rfl))) (by decide) (t := .int) (t' := .int) (by decide) (by decide)
def Q7 (Z : State) (ra : Addr) (rs : Addr) (fl : Int32) (la : Addr) (bs : List Int32) (le : Int32) (x0 : Int32) (kn : Int32) (h0 : Heap) (n0 : Nat) (v : Option Value) (h : Heap) (L : List Loc) : Prop := v = some (.ref h0.size) ∧ Fr n0 L ∧ Keep h0 h [ra] ∧ Exa Z h ra "com/example/tributary/tributary/io/LineFormat" ∧ Fld Z h ra "com/example/tributary/tributary/io/LineFormat" "line" "[B" (.ref la) ∧ Fld Z h ra "com/example/tributary/tributary/io/LineFormat" "lineEnd" "I" (.int le) ∧ Fld Z h ra "com/example/tributary/tributary/io/LineFormat" "cursor" "I" (.int ((x0 + kn) + (1 : Int32))) ∧ Exa Z h h0.size "com/example/tributary/tributary/model/Time" ∧ Fld Z h h0.size "com/example/tributary/tributary/model/Time" "value" "J" (.long (own_num bs x0 kn)) ∧ Fld Z h h0.size "com/example/tributary/tributary/model/Time" "infinite" "Z" (.int (0 : Int32))
set_option maxRecDepth 65536 in
set_option maxHeartbeats 40000000 in
theorem rm7 (l : Launch) (Z : State) (a0 : Array Value) (hw : ∀ d ∈ tables_1, d.before a0 Z = true) (ws : List Jvm.Cond) (ra : Addr) (rs : Addr) (fl : Int32) (la : Addr) (bs : List Int32) (le : Int32) (x0 : Int32) (kn : Int32) (h0 : Heap) (n0 : Nat) (Z0 : n0 ≤ h0.size) (PA0 : own_AI Z h0 la .byte bs) (PE0 : Exa Z h0 ra "com/example/tributary/tributary/io/LineFormat") (PF0 : Fld Z h0 ra "com/example/tributary/tributary/io/LineFormat" "line" "[B" (.ref la)) (PF1 : Fld Z h0 ra "com/example/tributary/tributary/io/LineFormat" "lineEnd" "I" (.int le)) (PF2 : Fld Z h0 ra "com/example/tributary/tributary/io/LineFormat" "cursor" "I" (.int x0)) (PG0 : n0 ≤ ra) (PN0 : la ≠ ra) (OK : own_ok bs x0 kn) (HE : x0.toInt + kn.toInt < le.toInt) (HL : x0.toInt + kn.toInt < (bs.length : Nat)) (H44 : bs.getD (x0 + kn).toInt.toNat 0 = 44) :
    MetFree l (⟨"com/example/tributary/tributary/io/LineFormat", "nextTime", "(Ljava/lang/String;Z)Lcom/example/tributary/tributary/model/Time;"⟩ : MethodName) (head1 (Jvm.Cond.code (⟨"com/example/tributary/tributary/io/LineFormat", "nextTime", "(Ljava/lang/String;Z)Lcom/example/tributary/tributary/model/Time;"⟩ : MethodName) prog_36_method_9_code 5 (some (.object "com/example/tributary/tributary/model/Time")) :: ws) ({ frames := 5, cells := 1, slots := 2, locals := 74 } : Room)) (fun a U => a = #[(.ref ra), (.ref rs), (.int fl)] ∧ Z.Warmed39 U.vm ∧ U.heap = h0) (fun _ _ _ _ _ => True) (fun _ U o U' => ∃ v L, o = .returned v ∧ Q7 Z ra rs fl la bs le x0 kn h0 n0 v U'.heap L ∧ FrameEnd U o U' L ({ frames := 5, cells := 1, slots := 2, locals := 74 } : Room).cells ({ frames := 5, cells := 1, slots := 2, locals := 74 } : Room).slots) := by
  refine MetFree.of_bodySF (plainFor_of_name pn_22) hisR ?_
  intro p e s m args below meth c s₁ Bd hml0 hP hK
  obtain ⟨rfl, hZ, hh⟩ := hP
  have hx := Bd.exec
  have hby := Bd.bytes
  have hml : c.maxLocals = 5 := hml0
  have hown : s.vm.findClass "com/example/tributary/tributary/io/LineFormat" = some m.cls := findClass_of_methodNamed Bd.named
  have hnm := (name_of_methodNamed Bd.named Bd.method).1
  have X0 : Stand p l e ({ frames := 5, cells := 1, slots := 2, locals := 74 } : Room) s m #[(.ref ra), (.ref rs), (.int fl)] below meth c s₁ [] 0 0 := Stand.of_body Bd
  have hlk : meth.locks = false := by first | exact BodyLoose.notSynchronized (by assumption) | exact Body.notSynchronized (by assumption)
  have e0 : s₁.heap = h0 := by rw [← hh, Bd.state]; rfl
  have N0 := Fr.nil n0
  have pre0 : ∀ t, Steps p.tables e below (s₁.setTop (mkF m 0 #[rv ra, rv rs, iv fl, u0, u0] [])) t → Steps p.tables e below (s₁.setTop (entryFrame m #[(.ref ra), (.ref rs), (.int fl)] 5)) t := fun t k => castTop (ef_7 m ra rs fl) k
  generalize s₁.setTop (entryFrame m #[(.ref ra), (.ref rs), (.int fl)] 5) = B0 at pre0 ⊢
  have H : ∀ (i : Nat) {d : Jvm.Cond}, tables_1[i]? = some d → d.before a0 Z = true := fun i d q => hw d (List.mem_of_getElem? q)
  have D : ∀ {pc : Nat} {r : Except DecodeError (Instr × Nat)}, decode prog_36_method_9_code pc = r → decode c.code pc = r := fun q => hb hby q
  have ok0 := OK.2.1
  rcases OK.1 with hk | hk | hk | hk
  · have nn : kn.toInt = 1 := by rw [hk]; decide
    obtain ⟨T1, X1, e1, st1⟩ := getF X0 hx hZ hown (host := "") (Or.inl (H 27 rfl)) Via.refl e0 PF2 (g := (mkF m 1 #[rv ra, rv rs, iv fl, u0, u0] [(.ref ra)])) rfl rfl (D d7_1)
    have f_x0 : x0.toInt = x0.toInt + 0 := by omega
    obtain ⟨T2, X2, e2, st2⟩ := getF X1 hx hZ hown (host := "") (Or.inl (H 25 rfl)) Via.refl e1 PF1 (g := (mkF m 7 #[rv ra, rv rs, iv fl, iv x0, u0] [(.ref ra), (.int x0)])) rfl rfl (D d7_7)
    have c3 : x0 < le := Int32.lt_iff_toInt_lt.mpr (by omega)
    obtain ⟨T4, X4, e4, st4⟩ := getF X2 hx hZ hown (host := "") (Or.inl (H 21 rfl)) Via.refl e2 PF0 (g := (mkF m 14 #[rv ra, rv rs, iv fl, iv x0, u0] [(.ref ra)])) rfl rfl (D d7_14)
    have in_18_5 : 0 ≤ (x0).toInt ∧ (x0).toInt < (bs.length : Nat) := (by omega)
    have c6 : ¬ ((bs.getD (x0).toInt.toNat 0) = (44 : Int32)) := own_ndig (OK.dg (j := x0) (by omega) (by omega)) (by decide)
    obtain ⟨v7, hv7⟩ : ∃ z : Int32, z = (x0 + (1 : Int32)) := ⟨_, rfl⟩
    have pre8 : ∀ t, Steps p.tables e below (T4.setTop (mkF m 5 #[rv ra, rv rs, iv fl, iv (x0 + (1 : Int32)), u0] [])) t → Steps p.tables e below B0 t := by
      intro t k
      refine pre0 t ?_
      show Steps p.tables e below (s₁.setTop (mkF m 0 #[rv ra, rv rs, iv fl, u0, u0] [])) _
      refine XS.aloadN X0.here hx rfl (D d7_0) rfl rfl ?_
      refine st1 _ ?_
      refine XS.istoreN X1.here hx rfl (D d7_4) rfl (l' := #[rv ra, rv rs, iv fl, iv x0, u0]) rfl ?_
      refine XS.iloadN X1.here hx rfl (D d7_5) rfl ?_
      refine XS.aloadN X1.here hx rfl (D d7_6) rfl rfl ?_
      refine st2 _ ?_
      show Steps p.tables e below (T2.setTop (mkF m 10 #[rv ra, rv rs, iv fl, iv x0, u0] [(.int le), (.int x0)])) _
      refine XS.icmpNo X2.here hx rfl (D d7_10) rfl ((tlt c3).2.1) ?_
      refine XS.aloadN X2.here hx rfl (D d7_13) rfl rfl ?_
      show Steps p.tables e below (T2.setTop (mkF m 14 #[rv ra, rv rs, iv fl, iv x0, u0] [(.ref ra)])) _
      refine st4 _ ?_
      refine XS.iloadN X4.here hx rfl (D d7_17) rfl ?_
      refine own_baloadB X4 hx hZ e4 PA0 in_18_5 (D d7_18) _ ?_
      refine XS.bipush X4.here hx rfl (D d7_19) ?_
      show Steps p.tables e below (T4.setTop (mkF m 21 #[rv ra, rv rs, iv fl, iv x0, u0] [(.int (44 : Int32)), (.int (bs.getD (x0).toInt.toNat 0))])) _
      refine XS.icmpNo X4.here hx rfl (D d7_21) rfl ((feq c6).1) ?_
      refine XS.iinc X4.here hx rfl (D d7_24) rfl (l' := #[rv ra, rv rs, iv fl, iv (x0 + (1 : Int32)), u0]) rfl ?_
      refine XS.goto X4.here hx rfl (pc0 := 27) (pc' := 5) rfl (D d7_27) (by decide) (by decide) ?_
      exact k
    clear X1 e1 st1 X2 e2 st2 st4
    have pre9 : ∀ t, Steps p.tables e below (T4.setTop (mkF m 5 #[rv ra, rv rs, iv fl, iv v7, u0] [])) t → Steps p.tables e below B0 t := by
      rw [hv7]
      exact pre8
    have f_v7 : v7.toInt = x0.toInt + 1 := by have q := own_nx OK hv7 f_x0 (by decide) (by decide); omega
    obtain ⟨T10, X10, e10, st10⟩ := getF X4 hx hZ hown (host := "") (Or.inl (H 25 rfl)) Via.refl e4 PF1 (g := (mkF m 7 #[rv ra, rv rs, iv fl, iv v7, u0] [(.ref ra), (.int v7)])) rfl rfl (D d7_7)
    have c11 : v7 < le := Int32.lt_iff_toInt_lt.mpr (by omega)
    obtain ⟨T12, X12, e12, st12⟩ := getF X10 hx hZ hown (host := "") (Or.inl (H 21 rfl)) Via.refl e10 PF0 (g := (mkF m 14 #[rv ra, rv rs, iv fl, iv v7, u0] [(.ref ra)])) rfl rfl (D d7_14)
    have in_18_13 : 0 ≤ (v7).toInt ∧ (v7).toInt < (bs.length : Nat) := (by omega)
    have c14 : (bs.getD (v7).toInt.toNat 0) = (44 : Int32) := by rw [own_ofto OK (t := v7) (by omega)]; exact H44
    have ve_v7 : v7 = x0 + kn := own_ofto OK (by omega)
    obtain ⟨T15, X15, e15, st15⟩ := getF X12 hx hZ hown (host := "") (Or.inl (H 25 rfl)) Via.refl e12 PF1 (g := (mkF m 32 #[rv ra, rv rs, iv fl, iv v7, u0] [(.ref ra), (.int v7)])) rfl rfl (D d7_32)
    have c16 : ¬ (v7 = le) := (fun q => by have := congrArg Int32.toInt q; omega)
    obtain ⟨T17, X17, e17, st17⟩ := getF X15 hx hZ hown (host := "") (Or.inl (H 27 rfl)) Via.refl e15 PF2 (g := (mkF m 58 #[rv ra, rv rs, iv fl, iv v7, u0] [(.ref ra), (.ref rs), (.ref ra)])) rfl rfl (D d7_58)
    obtain ⟨cq18, q18, q18'⟩ := PE0.cell
    obtain ⟨_, _, ⟨T18, L18, k18, n18⟩, -, X18, ⟨Lc18, hQ18, l18, y18, z18⟩, st18⟩ := own_privateBackW X17 hx (y := (⟨"com/example/tributary/tributary/io/LineFormat", "time", "(Ljava/lang/String;IIZ)Lcom/example/tributary/tributary/model/Time;"⟩ : MethodName)) (y' := (⟨"com/example/tributary/tributary/io/LineFormat", "begin", "([BII)V"⟩ : MethodName)) rfl hown (mvT hZ (H 50 rfl)) (mvT hZ (H 51 rfl)) (mvT hZ (H 19 rfl)) (Cond.privateMethod_at (mvP hZ (H 52 rfl) (args := #[]))) (mvT hZ (H 53 rfl)) (by decide) (backOfWith (W := 0) (rm22 l Z a0 hw [] ra rs x0 v7 fl la bs kn h0 n0 Z0 PA0 PE0 PF0 OK ve_v7) hZ (H 53 rfl) (H 9 rfl) (by decide) (by decide)) (g := (mkF m 63 #[rv ra, rv rs, iv fl, iv v7, u0] [(.int fl), (.int v7), (.int x0), (.ref rs), (.ref ra)])) rfl (by rw [hml]; rfl) (Steps.refl _) (a := ra) (by rw [e17]; exact q18) q18' (argsL := [(.ref rs), (.int x0), (.int v7), (.int fl)]) (rest := []) (lenOf pd_26 rfl) rfl (by show 2 * 0 + _ ≤ _; exact Nat.le_of_eq rfl) (D d7_63) (fun _ _ => ⟨rfl, e17, (by decide : 0 + 1 ≤ _), (by decide : 0 + 2 ≤ _)⟩)
    dsimp only [Pt.U, Pt.locs, Pt.cells, Pt.slots] at X18 l18 y18 z18 st18 hQ18
    replace y18 : k18 = 1 := y18
    replace z18 : n18 = 2 := z18
    replace l18 := l18.symm; replace y18 := y18.symm; replace z18 := z18.symm; subst l18 y18 z18
    obtain ⟨rfl, N18q, K18, R18, R18_0, R18_1⟩ := hQ18
    obtain ⟨h18, e18⟩ : ∃ z, T18.heap = z := ⟨_, rfl⟩
    rw [e18] at K18 R18 R18_0 R18_1
    obtain ⟨a18, g18⟩ : ∃ z, z = h0.size := ⟨_, rfl⟩
    rw [← g18] at R18 R18_0 R18_1 st18
    have ne_la_a18 : la ≠ a18 := g18 ▸ Nat.ne_of_lt PA0.lt
    have ne_ra_a18 : ra ≠ a18 := g18 ▸ Nat.ne_of_lt PE0.lt
    have ge_a18 : n0 ≤ a18 := g18 ▸ Z0
    have go_a18 : h0.size ≤ a18 := g18 ▸ (Keep.refl h0 [ra]).1
    have V18_la := PA0.keep K18 nin0
    have A18_ra := PE0.keep K18
    have F18_ra_0 := PF0.keep K18 nin0
    have F18_ra_1 := PF1.keep K18 nin0
    have F18_ra_2 := PF2.keep K18 nin0
    have sz18 : n0 ≤ h18.size := Nat.le_trans Z0 K18.1
    have KK18 : Keep h0 h18 [ra] := (Keep.refl h0 [ra]).trans K18 all0
    have N18 := Fr.app N0 N18q
    have pre19 : ∀ t, Steps p.tables e below (T18.setTop (mkF m 66 #[rv ra, rv rs, iv fl, iv v7, u0] [(.ref a18)])) t → Steps p.tables e below B0 t := by
      intro t k
      refine pre9 t ?_
      show Steps p.tables e below (T4.setTop (mkF m 5 #[rv ra, rv rs, iv fl, iv v7, u0] [])) _
      refine XS.iloadN X4.here hx rfl (D d7_5) rfl ?_
      refine XS.aloadN X4.here hx rfl (D d7_6) rfl rfl ?_
      show Steps p.tables e below (T4.setTop (mkF m 7 #[rv ra, rv rs, iv fl, iv v7, u0] [(.ref ra), (.int v7)])) _
      refine st10 _ ?_
      show Steps p.tables e below (T10.setTop (mkF m 10 #[rv ra, rv rs, iv fl, iv v7, u0] [(.int le), (.int v7)])) _
      refine XS.icmpNo X10.here hx rfl (D d7_10) rfl ((tlt c11).2.1) ?_
      refine XS.aloadN X10.here hx rfl (D d7_13) rfl rfl ?_
      refine st12 _ ?_
      refine XS.iloadN X12.here hx rfl (D d7_17) rfl ?_
      refine own_baloadB X12 hx hZ e12 PA0 in_18_13 (D d7_18) _ ?_
      refine XS.bipush X12.here hx rfl (D d7_19) ?_
      show Steps p.tables e below (T12.setTop (mkF m 21 #[rv ra, rv rs, iv fl, iv v7, u0] [(.int (44 : Int32)), (.int (bs.getD (v7).toInt.toNat 0))])) _
      refine XS.icmpYes X12.here hx rfl (pc0 := 21) (pc' := 30) rfl (D d7_21) rfl ((teq c14).1) (by decide) (by decide) ?_
      refine XS.iloadN X12.here hx rfl (D d7_30) rfl ?_
      refine XS.aloadN X12.here hx rfl (D d7_31) rfl rfl ?_
      show Steps p.tables e below (T12.setTop (mkF m 32 #[rv ra, rv rs, iv fl, iv v7, u0] [(.ref ra), (.int v7)])) _
      refine st15 _ ?_
      show Steps p.tables e below (T15.setTop (mkF m 35 #[rv ra, rv rs, iv fl, iv v7, u0] [(.int le), (.int v7)])) _
      refine XS.icmpYes X15.here hx rfl (pc0 := 35) (pc' := 55) rfl (D d7_35) rfl ((feq c16).2) (by decide) (by decide) ?_
      refine XS.aloadN X15.here hx rfl (D d7_55) rfl rfl ?_
      refine XS.aloadN X15.here hx rfl (D d7_56) rfl rfl ?_
      refine XS.aloadN X15.here hx rfl (D d7_57) rfl rfl ?_
      refine st17 _ ?_
      refine XS.iloadN X17.here hx rfl (D d7_61) rfl ?_
      refine XS.iloadN X17.here hx rfl (D d7_62) rfl ?_
      refine st18.trans ?_
      exact k
    clear X4 e4 pre8 pre9 X10 e10 st10 X12 e12 st12 X15 e15 st15 X17 e17 st17 st18 N18q K18
    obtain ⟨T20, h20, X20, e20, W20, st20⟩ := putF X18 hx hZ hown (host := "") (Or.inl (H 27 rfl)) Via.refl e18 F18_ra_2 A18_ra (Or.inl (H 28 rfl)) (H 8 rfl) (ty := .int) (by decide) rfl rfl (g := (mkF m 72 #[rv ra, rv rs, iv fl, iv v7, rv a18] [(.int (v7 + (1 : Int32))), (.ref ra)])) rfl rfl (D d7_72)
    have V20_la := V18_la.other W20 PN0
    have A20_ra := A18_ra.wr W20
    have F20_ra_0 := F18_ra_0.other W20 (Or.inr (own_sn_27 hw))
    have F20_ra_1 := F18_ra_1.other W20 (Or.inr (own_sn_28 hw))
    have A20_a18 := R18.wr W20
    have F20_a18_0 := R18_0.other W20 (Or.inl (Ne.symm ne_ra_a18))
    have F20_a18_1 := R18_1.other W20 (Or.inl (Ne.symm ne_ra_a18))
    have sz20 := Nat.le_trans sz18 (Keep.of_wr W20).1
    have K20 := KK18.wr W20 (Or.inl (by simp))
    have N20 := Fr.snoc X20 N18 PG0
    have F20_s : Fld Z h20 ra "com/example/tributary/tributary/io/LineFormat" "cursor" "I" (.int (v7 + (1 : Int32))) := F18_ra_2.same W20
    obtain ⟨fs, hr, hrun, hended, hW, hsame⟩ := X20.leave (v := some (.ref a18)) (fun h => by rw [Bd.returns] at h; cases h) hlk
    refine ⟨_, _, pre19 _ ?_, hrun, hended, _, _, rfl, ?_, ⟨_, rfl⟩, hW, hsame.mono (by decide) (by decide)⟩
    · show Steps p.tables e below (T18.setTop (mkF m 66 #[rv ra, rv rs, iv fl, iv v7, u0] [(.ref a18)])) _
      refine XS.astore X18.here hx rfl (D d7_66) rfl rfl (l' := #[rv ra, rv rs, iv fl, iv v7, rv a18]) rfl ?_
      refine XS.aloadN X18.here hx rfl (D d7_68) rfl rfl ?_
      refine XS.iloadN X18.here hx rfl (D d7_69) rfl ?_
      refine XS.iconst X18.here hx rfl (D d7_70) ?_
      refine XS.iadd X18.here hx rfl (D d7_71) rfl ?_
      refine st20 _ ?_
      refine XS.aload X20.here hx rfl (D d7_75) rfl rfl ?_
      show Steps p.tables e below (T20.setTop (mkF m 77 #[rv ra, rv rs, iv fl, iv v7, rv a18] [(.ref a18)])) _
      exact retOut X20 hx Bd.returns rfl (Or.inr (Or.inr (Or.inr (Or.inr ⟨rfl, rfl, rfl⟩)))) (D d7_77) hr
    · show Q7 Z ra rs fl la bs le x0 kn h0 n0 _ T20.heap _
      rw [e20]
      exact ⟨by rw [g18], N20, K20, A20_ra, F20_ra_0, F20_ra_1, (by rw [← ve_v7]; exact F20_s), (by rw [← g18]; exact A20_a18), (by rw [← g18]; exact F20_a18_0), (by rw [← g18]; exact F20_a18_1)⟩
  · have nn : kn.toInt = 2 := by rw [hk]; decide
    obtain ⟨T21, X21, e21, st21⟩ := getF X0 hx hZ hown (host := "") (Or.inl (H 27 rfl)) Via.refl e0 PF2 (g := (mkF m 1 #[rv ra, rv rs, iv fl, u0, u0] [(.ref ra)])) rfl rfl (D d7_1)
    have f_x0 : x0.toInt = x0.toInt + 0 := by omega
    obtain ⟨T22, X22, e22, st22⟩ := getF X21 hx hZ hown (host := "") (Or.inl (H 25 rfl)) Via.refl e21 PF1 (g := (mkF m 7 #[rv ra, rv rs, iv fl, iv x0, u0] [(.ref ra), (.int x0)])) rfl rfl (D d7_7)
    have c23 : x0 < le := Int32.lt_iff_toInt_lt.mpr (by omega)
    obtain ⟨T24, X24, e24, st24⟩ := getF X22 hx hZ hown (host := "") (Or.inl (H 21 rfl)) Via.refl e22 PF0 (g := (mkF m 14 #[rv ra, rv rs, iv fl, iv x0, u0] [(.ref ra)])) rfl rfl (D d7_14)
    have in_18_25 : 0 ≤ (x0).toInt ∧ (x0).toInt < (bs.length : Nat) := (by omega)
    have c26 : ¬ ((bs.getD (x0).toInt.toNat 0) = (44 : Int32)) := own_ndig (OK.dg (j := x0) (by omega) (by omega)) (by decide)
    obtain ⟨v27, hv27⟩ : ∃ z : Int32, z = (x0 + (1 : Int32)) := ⟨_, rfl⟩
    have pre28 : ∀ t, Steps p.tables e below (T24.setTop (mkF m 5 #[rv ra, rv rs, iv fl, iv (x0 + (1 : Int32)), u0] [])) t → Steps p.tables e below B0 t := by
      intro t k
      refine pre0 t ?_
      show Steps p.tables e below (s₁.setTop (mkF m 0 #[rv ra, rv rs, iv fl, u0, u0] [])) _
      refine XS.aloadN X0.here hx rfl (D d7_0) rfl rfl ?_
      refine st21 _ ?_
      refine XS.istoreN X21.here hx rfl (D d7_4) rfl (l' := #[rv ra, rv rs, iv fl, iv x0, u0]) rfl ?_
      refine XS.iloadN X21.here hx rfl (D d7_5) rfl ?_
      refine XS.aloadN X21.here hx rfl (D d7_6) rfl rfl ?_
      refine st22 _ ?_
      show Steps p.tables e below (T22.setTop (mkF m 10 #[rv ra, rv rs, iv fl, iv x0, u0] [(.int le), (.int x0)])) _
      refine XS.icmpNo X22.here hx rfl (D d7_10) rfl ((tlt c23).2.1) ?_
      refine XS.aloadN X22.here hx rfl (D d7_13) rfl rfl ?_
      show Steps p.tables e below (T22.setTop (mkF m 14 #[rv ra, rv rs, iv fl, iv x0, u0] [(.ref ra)])) _
      refine st24 _ ?_
      refine XS.iloadN X24.here hx rfl (D d7_17) rfl ?_
      refine own_baloadB X24 hx hZ e24 PA0 in_18_25 (D d7_18) _ ?_
      refine XS.bipush X24.here hx rfl (D d7_19) ?_
      show Steps p.tables e below (T24.setTop (mkF m 21 #[rv ra, rv rs, iv fl, iv x0, u0] [(.int (44 : Int32)), (.int (bs.getD (x0).toInt.toNat 0))])) _
      refine XS.icmpNo X24.here hx rfl (D d7_21) rfl ((feq c26).1) ?_
      refine XS.iinc X24.here hx rfl (D d7_24) rfl (l' := #[rv ra, rv rs, iv fl, iv (x0 + (1 : Int32)), u0]) rfl ?_
      refine XS.goto X24.here hx rfl (pc0 := 27) (pc' := 5) rfl (D d7_27) (by decide) (by decide) ?_
      exact k
    clear X21 e21 st21 X22 e22 st22 st24
    have pre29 : ∀ t, Steps p.tables e below (T24.setTop (mkF m 5 #[rv ra, rv rs, iv fl, iv v27, u0] [])) t → Steps p.tables e below B0 t := by
      rw [hv27]
      exact pre28
    have f_v27 : v27.toInt = x0.toInt + 1 := by have q := own_nx OK hv27 f_x0 (by decide) (by decide); omega
    obtain ⟨T30, X30, e30, st30⟩ := getF X24 hx hZ hown (host := "") (Or.inl (H 25 rfl)) Via.refl e24 PF1 (g := (mkF m 7 #[rv ra, rv rs, iv fl, iv v27, u0] [(.ref ra), (.int v27)])) rfl rfl (D d7_7)
    have c31 : v27 < le := Int32.lt_iff_toInt_lt.mpr (by omega)
    obtain ⟨T32, X32, e32, st32⟩ := getF X30 hx hZ hown (host := "") (Or.inl (H 21 rfl)) Via.refl e30 PF0 (g := (mkF m 14 #[rv ra, rv rs, iv fl, iv v27, u0] [(.ref ra)])) rfl rfl (D d7_14)
    have in_18_33 : 0 ≤ (v27).toInt ∧ (v27).toInt < (bs.length : Nat) := (by omega)
    have c34 : ¬ ((bs.getD (v27).toInt.toNat 0) = (44 : Int32)) := own_ndig (OK.dg (j := v27) (by omega) (by omega)) (by decide)
    obtain ⟨v35, hv35⟩ : ∃ z : Int32, z = (v27 + (1 : Int32)) := ⟨_, rfl⟩
    have pre36 : ∀ t, Steps p.tables e below (T32.setTop (mkF m 5 #[rv ra, rv rs, iv fl, iv (v27 + (1 : Int32)), u0] [])) t → Steps p.tables e below B0 t := by
      intro t k
      refine pre29 t ?_
      show Steps p.tables e below (T24.setTop (mkF m 5 #[rv ra, rv rs, iv fl, iv v27, u0] [])) _
      refine XS.iloadN X24.here hx rfl (D d7_5) rfl ?_
      refine XS.aloadN X24.here hx rfl (D d7_6) rfl rfl ?_
      show Steps p.tables e below (T24.setTop (mkF m 7 #[rv ra, rv rs, iv fl, iv v27, u0] [(.ref ra), (.int v27)])) _
      refine st30 _ ?_
      show Steps p.tables e below (T30.setTop (mkF m 10 #[rv ra, rv rs, iv fl, iv v27, u0] [(.int le), (.int v27)])) _
      refine XS.icmpNo X30.here hx rfl (D d7_10) rfl ((tlt c31).2.1) ?_
      refine XS.aloadN X30.here hx rfl (D d7_13) rfl rfl ?_
      refine st32 _ ?_
      refine XS.iloadN X32.here hx rfl (D d7_17) rfl ?_
      refine own_baloadB X32 hx hZ e32 PA0 in_18_33 (D d7_18) _ ?_
      refine XS.bipush X32.here hx rfl (D d7_19) ?_
      show Steps p.tables e below (T32.setTop (mkF m 21 #[rv ra, rv rs, iv fl, iv v27, u0] [(.int (44 : Int32)), (.int (bs.getD (v27).toInt.toNat 0))])) _
      refine XS.icmpNo X32.here hx rfl (D d7_21) rfl ((feq c34).1) ?_
      refine XS.iinc X32.here hx rfl (D d7_24) rfl (l' := #[rv ra, rv rs, iv fl, iv (v27 + (1 : Int32)), u0]) rfl ?_
      refine XS.goto X32.here hx rfl (pc0 := 27) (pc' := 5) rfl (D d7_27) (by decide) (by decide) ?_
      exact k
    clear X24 e24 pre28 pre29 X30 e30 st30 st32
    have pre37 : ∀ t, Steps p.tables e below (T32.setTop (mkF m 5 #[rv ra, rv rs, iv fl, iv v35, u0] [])) t → Steps p.tables e below B0 t := by
      rw [hv35]
      exact pre36
    have f_v35 : v35.toInt = x0.toInt + 2 := by have q := own_nx OK hv35 f_v27 (by decide) (by decide); omega
    obtain ⟨T38, X38, e38, st38⟩ := getF X32 hx hZ hown (host := "") (Or.inl (H 25 rfl)) Via.refl e32 PF1 (g := (mkF m 7 #[rv ra, rv rs, iv fl, iv v35, u0] [(.ref ra), (.int v35)])) rfl rfl (D d7_7)
    have c39 : v35 < le := Int32.lt_iff_toInt_lt.mpr (by omega)
    obtain ⟨T40, X40, e40, st40⟩ := getF X38 hx hZ hown (host := "") (Or.inl (H 21 rfl)) Via.refl e38 PF0 (g := (mkF m 14 #[rv ra, rv rs, iv fl, iv v35, u0] [(.ref ra)])) rfl rfl (D d7_14)
    have in_18_41 : 0 ≤ (v35).toInt ∧ (v35).toInt < (bs.length : Nat) := (by omega)
    have c42 : (bs.getD (v35).toInt.toNat 0) = (44 : Int32) := by rw [own_ofto OK (t := v35) (by omega)]; exact H44
    have ve_v35 : v35 = x0 + kn := own_ofto OK (by omega)
    obtain ⟨T43, X43, e43, st43⟩ := getF X40 hx hZ hown (host := "") (Or.inl (H 25 rfl)) Via.refl e40 PF1 (g := (mkF m 32 #[rv ra, rv rs, iv fl, iv v35, u0] [(.ref ra), (.int v35)])) rfl rfl (D d7_32)
    have c44 : ¬ (v35 = le) := (fun q => by have := congrArg Int32.toInt q; omega)
    obtain ⟨T45, X45, e45, st45⟩ := getF X43 hx hZ hown (host := "") (Or.inl (H 27 rfl)) Via.refl e43 PF2 (g := (mkF m 58 #[rv ra, rv rs, iv fl, iv v35, u0] [(.ref ra), (.ref rs), (.ref ra)])) rfl rfl (D d7_58)
    obtain ⟨cq46, q46, q46'⟩ := PE0.cell
    obtain ⟨_, _, ⟨T46, L46, k46, n46⟩, -, X46, ⟨Lc46, hQ46, l46, y46, z46⟩, st46⟩ := own_privateBackW X45 hx (y := (⟨"com/example/tributary/tributary/io/LineFormat", "time", "(Ljava/lang/String;IIZ)Lcom/example/tributary/tributary/model/Time;"⟩ : MethodName)) (y' := (⟨"com/example/tributary/tributary/io/LineFormat", "begin", "([BII)V"⟩ : MethodName)) rfl hown (mvT hZ (H 50 rfl)) (mvT hZ (H 51 rfl)) (mvT hZ (H 19 rfl)) (Cond.privateMethod_at (mvP hZ (H 52 rfl) (args := #[]))) (mvT hZ (H 53 rfl)) (by decide) (backOfWith (W := 0) (rm22 l Z a0 hw [] ra rs x0 v35 fl la bs kn h0 n0 Z0 PA0 PE0 PF0 OK ve_v35) hZ (H 53 rfl) (H 9 rfl) (by decide) (by decide)) (g := (mkF m 63 #[rv ra, rv rs, iv fl, iv v35, u0] [(.int fl), (.int v35), (.int x0), (.ref rs), (.ref ra)])) rfl (by rw [hml]; rfl) (Steps.refl _) (a := ra) (by rw [e45]; exact q46) q46' (argsL := [(.ref rs), (.int x0), (.int v35), (.int fl)]) (rest := []) (lenOf pd_26 rfl) rfl (by show 2 * 0 + _ ≤ _; exact Nat.le_of_eq rfl) (D d7_63) (fun _ _ => ⟨rfl, e45, (by decide : 0 + 1 ≤ _), (by decide : 0 + 2 ≤ _)⟩)
    dsimp only [Pt.U, Pt.locs, Pt.cells, Pt.slots] at X46 l46 y46 z46 st46 hQ46
    replace y46 : k46 = 1 := y46
    replace z46 : n46 = 2 := z46
    replace l46 := l46.symm; replace y46 := y46.symm; replace z46 := z46.symm; subst l46 y46 z46
    obtain ⟨rfl, N46q, K46, R46, R46_0, R46_1⟩ := hQ46
    obtain ⟨h46, e46⟩ : ∃ z, T46.heap = z := ⟨_, rfl⟩
    rw [e46] at K46 R46 R46_0 R46_1
    obtain ⟨a46, g46⟩ : ∃ z, z = h0.size := ⟨_, rfl⟩
    rw [← g46] at R46 R46_0 R46_1 st46
    have ne_la_a46 : la ≠ a46 := g46 ▸ Nat.ne_of_lt PA0.lt
    have ne_ra_a46 : ra ≠ a46 := g46 ▸ Nat.ne_of_lt PE0.lt
    have ge_a46 : n0 ≤ a46 := g46 ▸ Z0
    have go_a46 : h0.size ≤ a46 := g46 ▸ (Keep.refl h0 [ra]).1
    have V46_la := PA0.keep K46 nin0
    have A46_ra := PE0.keep K46
    have F46_ra_0 := PF0.keep K46 nin0
    have F46_ra_1 := PF1.keep K46 nin0
    have F46_ra_2 := PF2.keep K46 nin0
    have sz46 : n0 ≤ h46.size := Nat.le_trans Z0 K46.1
    have KK46 : Keep h0 h46 [ra] := (Keep.refl h0 [ra]).trans K46 all0
    have N46 := Fr.app N0 N46q
    have pre47 : ∀ t, Steps p.tables e below (T46.setTop (mkF m 66 #[rv ra, rv rs, iv fl, iv v35, u0] [(.ref a46)])) t → Steps p.tables e below B0 t := by
      intro t k
      refine pre37 t ?_
      show Steps p.tables e below (T32.setTop (mkF m 5 #[rv ra, rv rs, iv fl, iv v35, u0] [])) _
      refine XS.iloadN X32.here hx rfl (D d7_5) rfl ?_
      refine XS.aloadN X32.here hx rfl (D d7_6) rfl rfl ?_
      refine st38 _ ?_
      show Steps p.tables e below (T38.setTop (mkF m 10 #[rv ra, rv rs, iv fl, iv v35, u0] [(.int le), (.int v35)])) _
      refine XS.icmpNo X38.here hx rfl (D d7_10) rfl ((tlt c39).2.1) ?_
      refine XS.aloadN X38.here hx rfl (D d7_13) rfl rfl ?_
      refine st40 _ ?_
      refine XS.iloadN X40.here hx rfl (D d7_17) rfl ?_
      refine own_baloadB X40 hx hZ e40 PA0 in_18_41 (D d7_18) _ ?_
      refine XS.bipush X40.here hx rfl (D d7_19) ?_
      show Steps p.tables e below (T40.setTop (mkF m 21 #[rv ra, rv rs, iv fl, iv v35, u0] [(.int (44 : Int32)), (.int (bs.getD (v35).toInt.toNat 0))])) _
      refine XS.icmpYes X40.here hx rfl (pc0 := 21) (pc' := 30) rfl (D d7_21) rfl ((teq c42).1) (by decide) (by decide) ?_
      show Steps p.tables e below (T40.setTop (mkF m 30 #[rv ra, rv rs, iv fl, iv v35, u0] [])) _
      refine XS.iloadN X40.here hx rfl (D d7_30) rfl ?_
      refine XS.aloadN X40.here hx rfl (D d7_31) rfl rfl ?_
      refine st43 _ ?_
      show Steps p.tables e below (T43.setTop (mkF m 35 #[rv ra, rv rs, iv fl, iv v35, u0] [(.int le), (.int v35)])) _
      refine XS.icmpYes X43.here hx rfl (pc0 := 35) (pc' := 55) rfl (D d7_35) rfl ((feq c44).2) (by decide) (by decide) ?_
      refine XS.aloadN X43.here hx rfl (D d7_55) rfl rfl ?_
      refine XS.aloadN X43.here hx rfl (D d7_56) rfl rfl ?_
      refine XS.aloadN X43.here hx rfl (D d7_57) rfl rfl ?_
      refine st45 _ ?_
      refine XS.iloadN X45.here hx rfl (D d7_61) rfl ?_
      show Steps p.tables e below (T45.setTop (mkF m 62 #[rv ra, rv rs, iv fl, iv v35, u0] [(.int v35), (.int x0), (.ref rs), (.ref ra)])) _
      refine XS.iloadN X45.here hx rfl (D d7_62) rfl ?_
      refine st46.trans ?_
      exact k
    clear X32 e32 pre36 pre37 X38 e38 st38 X40 e40 st40 X43 e43 st43 X45 e45 st45 st46 N46q K46
    obtain ⟨T48, h48, X48, e48, W48, st48⟩ := putF X46 hx hZ hown (host := "") (Or.inl (H 27 rfl)) Via.refl e46 F46_ra_2 A46_ra (Or.inl (H 28 rfl)) (H 8 rfl) (ty := .int) (by decide) rfl rfl (g := (mkF m 72 #[rv ra, rv rs, iv fl, iv v35, rv a46] [(.int (v35 + (1 : Int32))), (.ref ra)])) rfl rfl (D d7_72)
    have V48_la := V46_la.other W48 PN0
    have A48_ra := A46_ra.wr W48
    have F48_ra_0 := F46_ra_0.other W48 (Or.inr (own_sn_27 hw))
    have F48_ra_1 := F46_ra_1.other W48 (Or.inr (own_sn_28 hw))
    have A48_a46 := R46.wr W48
    have F48_a46_0 := R46_0.other W48 (Or.inl (Ne.symm ne_ra_a46))
    have F48_a46_1 := R46_1.other W48 (Or.inl (Ne.symm ne_ra_a46))
    have sz48 := Nat.le_trans sz46 (Keep.of_wr W48).1
    have K48 := KK46.wr W48 (Or.inl (by simp))
    have N48 := Fr.snoc X48 N46 PG0
    have F48_s : Fld Z h48 ra "com/example/tributary/tributary/io/LineFormat" "cursor" "I" (.int (v35 + (1 : Int32))) := F46_ra_2.same W48
    obtain ⟨fs, hr, hrun, hended, hW, hsame⟩ := X48.leave (v := some (.ref a46)) (fun h => by rw [Bd.returns] at h; cases h) hlk
    refine ⟨_, _, pre47 _ ?_, hrun, hended, _, _, rfl, ?_, ⟨_, rfl⟩, hW, hsame.mono (by decide) (by decide)⟩
    · show Steps p.tables e below (T46.setTop (mkF m 66 #[rv ra, rv rs, iv fl, iv v35, u0] [(.ref a46)])) _
      refine XS.astore X46.here hx rfl (D d7_66) rfl rfl (l' := #[rv ra, rv rs, iv fl, iv v35, rv a46]) rfl ?_
      refine XS.aloadN X46.here hx rfl (D d7_68) rfl rfl ?_
      refine XS.iloadN X46.here hx rfl (D d7_69) rfl ?_
      refine XS.iconst X46.here hx rfl (D d7_70) ?_
      refine XS.iadd X46.here hx rfl (D d7_71) rfl ?_
      refine st48 _ ?_
      show Steps p.tables e below (T48.setTop (mkF m 75 #[rv ra, rv rs, iv fl, iv v35, rv a46] [])) _
      refine XS.aload X48.here hx rfl (D d7_75) rfl rfl ?_
      show Steps p.tables e below (T48.setTop (mkF m 77 #[rv ra, rv rs, iv fl, iv v35, rv a46] [(.ref a46)])) _
      exact retOut X48 hx Bd.returns rfl (Or.inr (Or.inr (Or.inr (Or.inr ⟨rfl, rfl, rfl⟩)))) (D d7_77) hr
    · show Q7 Z ra rs fl la bs le x0 kn h0 n0 _ T48.heap _
      rw [e48]
      exact ⟨by rw [g46], N48, K48, A48_ra, F48_ra_0, F48_ra_1, (by rw [← ve_v35]; exact F48_s), (by rw [← g46]; exact A48_a46), (by rw [← g46]; exact F48_a46_0), (by rw [← g46]; exact F48_a46_1)⟩
  · have nn : kn.toInt = 3 := by rw [hk]; decide
    obtain ⟨T49, X49, e49, st49⟩ := getF X0 hx hZ hown (host := "") (Or.inl (H 27 rfl)) Via.refl e0 PF2 (g := (mkF m 1 #[rv ra, rv rs, iv fl, u0, u0] [(.ref ra)])) rfl rfl (D d7_1)
    have f_x0 : x0.toInt = x0.toInt + 0 := by omega
    obtain ⟨T50, X50, e50, st50⟩ := getF X49 hx hZ hown (host := "") (Or.inl (H 25 rfl)) Via.refl e49 PF1 (g := (mkF m 7 #[rv ra, rv rs, iv fl, iv x0, u0] [(.ref ra), (.int x0)])) rfl rfl (D d7_7)
    have c51 : x0 < le := Int32.lt_iff_toInt_lt.mpr (by omega)
    obtain ⟨T52, X52, e52, st52⟩ := getF X50 hx hZ hown (host := "") (Or.inl (H 21 rfl)) Via.refl e50 PF0 (g := (mkF m 14 #[rv ra, rv rs, iv fl, iv x0, u0] [(.ref ra)])) rfl rfl (D d7_14)
    have in_18_53 : 0 ≤ (x0).toInt ∧ (x0).toInt < (bs.length : Nat) := (by omega)
    have c54 : ¬ ((bs.getD (x0).toInt.toNat 0) = (44 : Int32)) := own_ndig (OK.dg (j := x0) (by omega) (by omega)) (by decide)
    obtain ⟨v55, hv55⟩ : ∃ z : Int32, z = (x0 + (1 : Int32)) := ⟨_, rfl⟩
    have pre56 : ∀ t, Steps p.tables e below (T52.setTop (mkF m 5 #[rv ra, rv rs, iv fl, iv (x0 + (1 : Int32)), u0] [])) t → Steps p.tables e below B0 t := by
      intro t k
      refine pre0 t ?_
      show Steps p.tables e below (s₁.setTop (mkF m 0 #[rv ra, rv rs, iv fl, u0, u0] [])) _
      refine XS.aloadN X0.here hx rfl (D d7_0) rfl rfl ?_
      refine st49 _ ?_
      refine XS.istoreN X49.here hx rfl (D d7_4) rfl (l' := #[rv ra, rv rs, iv fl, iv x0, u0]) rfl ?_
      refine XS.iloadN X49.here hx rfl (D d7_5) rfl ?_
      refine XS.aloadN X49.here hx rfl (D d7_6) rfl rfl ?_
      refine st50 _ ?_
      show Steps p.tables e below (T50.setTop (mkF m 10 #[rv ra, rv rs, iv fl, iv x0, u0] [(.int le), (.int x0)])) _
      refine XS.icmpNo X50.here hx rfl (D d7_10) rfl ((tlt c51).2.1) ?_
      refine XS.aloadN X50.here hx rfl (D d7_13) rfl rfl ?_
      show Steps p.tables e below (T50.setTop (mkF m 14 #[rv ra, rv rs, iv fl, iv x0, u0] [(.ref ra)])) _
      refine st52 _ ?_
      refine XS.iloadN X52.here hx rfl (D d7_17) rfl ?_
      refine own_baloadB X52 hx hZ e52 PA0 in_18_53 (D d7_18) _ ?_
      refine XS.bipush X52.here hx rfl (D d7_19) ?_
      show Steps p.tables e below (T52.setTop (mkF m 21 #[rv ra, rv rs, iv fl, iv x0, u0] [(.int (44 : Int32)), (.int (bs.getD (x0).toInt.toNat 0))])) _
      refine XS.icmpNo X52.here hx rfl (D d7_21) rfl ((feq c54).1) ?_
      refine XS.iinc X52.here hx rfl (D d7_24) rfl (l' := #[rv ra, rv rs, iv fl, iv (x0 + (1 : Int32)), u0]) rfl ?_
      refine XS.goto X52.here hx rfl (pc0 := 27) (pc' := 5) rfl (D d7_27) (by decide) (by decide) ?_
      exact k
    clear X49 e49 st49 X50 e50 st50 st52
    have pre57 : ∀ t, Steps p.tables e below (T52.setTop (mkF m 5 #[rv ra, rv rs, iv fl, iv v55, u0] [])) t → Steps p.tables e below B0 t := by
      rw [hv55]
      exact pre56
    have f_v55 : v55.toInt = x0.toInt + 1 := by have q := own_nx OK hv55 f_x0 (by decide) (by decide); omega
    obtain ⟨T58, X58, e58, st58⟩ := getF X52 hx hZ hown (host := "") (Or.inl (H 25 rfl)) Via.refl e52 PF1 (g := (mkF m 7 #[rv ra, rv rs, iv fl, iv v55, u0] [(.ref ra), (.int v55)])) rfl rfl (D d7_7)
    have c59 : v55 < le := Int32.lt_iff_toInt_lt.mpr (by omega)
    obtain ⟨T60, X60, e60, st60⟩ := getF X58 hx hZ hown (host := "") (Or.inl (H 21 rfl)) Via.refl e58 PF0 (g := (mkF m 14 #[rv ra, rv rs, iv fl, iv v55, u0] [(.ref ra)])) rfl rfl (D d7_14)
    have in_18_61 : 0 ≤ (v55).toInt ∧ (v55).toInt < (bs.length : Nat) := (by omega)
    have c62 : ¬ ((bs.getD (v55).toInt.toNat 0) = (44 : Int32)) := own_ndig (OK.dg (j := v55) (by omega) (by omega)) (by decide)
    obtain ⟨v63, hv63⟩ : ∃ z : Int32, z = (v55 + (1 : Int32)) := ⟨_, rfl⟩
    have pre64 : ∀ t, Steps p.tables e below (T60.setTop (mkF m 5 #[rv ra, rv rs, iv fl, iv (v55 + (1 : Int32)), u0] [])) t → Steps p.tables e below B0 t := by
      intro t k
      refine pre57 t ?_
      show Steps p.tables e below (T52.setTop (mkF m 5 #[rv ra, rv rs, iv fl, iv v55, u0] [])) _
      refine XS.iloadN X52.here hx rfl (D d7_5) rfl ?_
      refine XS.aloadN X52.here hx rfl (D d7_6) rfl rfl ?_
      show Steps p.tables e below (T52.setTop (mkF m 7 #[rv ra, rv rs, iv fl, iv v55, u0] [(.ref ra), (.int v55)])) _
      refine st58 _ ?_
      show Steps p.tables e below (T58.setTop (mkF m 10 #[rv ra, rv rs, iv fl, iv v55, u0] [(.int le), (.int v55)])) _
      refine XS.icmpNo X58.here hx rfl (D d7_10) rfl ((tlt c59).2.1) ?_
      refine XS.aloadN X58.here hx rfl (D d7_13) rfl rfl ?_
      refine st60 _ ?_
      refine XS.iloadN X60.here hx rfl (D d7_17) rfl ?_
      refine own_baloadB X60 hx hZ e60 PA0 in_18_61 (D d7_18) _ ?_
      refine XS.bipush X60.here hx rfl (D d7_19) ?_
      show Steps p.tables e below (T60.setTop (mkF m 21 #[rv ra, rv rs, iv fl, iv v55, u0] [(.int (44 : Int32)), (.int (bs.getD (v55).toInt.toNat 0))])) _
      refine XS.icmpNo X60.here hx rfl (D d7_21) rfl ((feq c62).1) ?_
      refine XS.iinc X60.here hx rfl (D d7_24) rfl (l' := #[rv ra, rv rs, iv fl, iv (v55 + (1 : Int32)), u0]) rfl ?_
      refine XS.goto X60.here hx rfl (pc0 := 27) (pc' := 5) rfl (D d7_27) (by decide) (by decide) ?_
      exact k
    clear X52 e52 pre56 pre57 X58 e58 st58 st60
    have pre65 : ∀ t, Steps p.tables e below (T60.setTop (mkF m 5 #[rv ra, rv rs, iv fl, iv v63, u0] [])) t → Steps p.tables e below B0 t := by
      rw [hv63]
      exact pre64
    have f_v63 : v63.toInt = x0.toInt + 2 := by have q := own_nx OK hv63 f_v55 (by decide) (by decide); omega
    obtain ⟨T66, X66, e66, st66⟩ := getF X60 hx hZ hown (host := "") (Or.inl (H 25 rfl)) Via.refl e60 PF1 (g := (mkF m 7 #[rv ra, rv rs, iv fl, iv v63, u0] [(.ref ra), (.int v63)])) rfl rfl (D d7_7)
    have c67 : v63 < le := Int32.lt_iff_toInt_lt.mpr (by omega)
    obtain ⟨T68, X68, e68, st68⟩ := getF X66 hx hZ hown (host := "") (Or.inl (H 21 rfl)) Via.refl e66 PF0 (g := (mkF m 14 #[rv ra, rv rs, iv fl, iv v63, u0] [(.ref ra)])) rfl rfl (D d7_14)
    have in_18_69 : 0 ≤ (v63).toInt ∧ (v63).toInt < (bs.length : Nat) := (by omega)
    have c70 : ¬ ((bs.getD (v63).toInt.toNat 0) = (44 : Int32)) := own_ndig (OK.dg (j := v63) (by omega) (by omega)) (by decide)
    obtain ⟨v71, hv71⟩ : ∃ z : Int32, z = (v63 + (1 : Int32)) := ⟨_, rfl⟩
    have pre72 : ∀ t, Steps p.tables e below (T68.setTop (mkF m 5 #[rv ra, rv rs, iv fl, iv (v63 + (1 : Int32)), u0] [])) t → Steps p.tables e below B0 t := by
      intro t k
      refine pre65 t ?_
      show Steps p.tables e below (T60.setTop (mkF m 5 #[rv ra, rv rs, iv fl, iv v63, u0] [])) _
      refine XS.iloadN X60.here hx rfl (D d7_5) rfl ?_
      refine XS.aloadN X60.here hx rfl (D d7_6) rfl rfl ?_
      refine st66 _ ?_
      show Steps p.tables e below (T66.setTop (mkF m 10 #[rv ra, rv rs, iv fl, iv v63, u0] [(.int le), (.int v63)])) _
      refine XS.icmpNo X66.here hx rfl (D d7_10) rfl ((tlt c67).2.1) ?_
      refine XS.aloadN X66.here hx rfl (D d7_13) rfl rfl ?_
      refine st68 _ ?_
      refine XS.iloadN X68.here hx rfl (D d7_17) rfl ?_
      refine own_baloadB X68 hx hZ e68 PA0 in_18_69 (D d7_18) _ ?_
      refine XS.bipush X68.here hx rfl (D d7_19) ?_
      show Steps p.tables e below (T68.setTop (mkF m 21 #[rv ra, rv rs, iv fl, iv v63, u0] [(.int (44 : Int32)), (.int (bs.getD (v63).toInt.toNat 0))])) _
      refine XS.icmpNo X68.here hx rfl (D d7_21) rfl ((feq c70).1) ?_
      show Steps p.tables e below (T68.setTop (mkF m 24 #[rv ra, rv rs, iv fl, iv v63, u0] [])) _
      refine XS.iinc X68.here hx rfl (D d7_24) rfl (l' := #[rv ra, rv rs, iv fl, iv (v63 + (1 : Int32)), u0]) rfl ?_
      refine XS.goto X68.here hx rfl (pc0 := 27) (pc' := 5) rfl (D d7_27) (by decide) (by decide) ?_
      exact k
    clear X60 e60 pre64 pre65 X66 e66 st66 st68
    have pre73 : ∀ t, Steps p.tables e below (T68.setTop (mkF m 5 #[rv ra, rv rs, iv fl, iv v71, u0] [])) t → Steps p.tables e below B0 t := by
      rw [hv71]
      exact pre72
    have f_v71 : v71.toInt = x0.toInt + 3 := by have q := own_nx OK hv71 f_v63 (by decide) (by decide); omega
    obtain ⟨T74, X74, e74, st74⟩ := getF X68 hx hZ hown (host := "") (Or.inl (H 25 rfl)) Via.refl e68 PF1 (g := (mkF m 7 #[rv ra, rv rs, iv fl, iv v71, u0] [(.ref ra), (.int v71)])) rfl rfl (D d7_7)
    have c75 : v71 < le := Int32.lt_iff_toInt_lt.mpr (by omega)
    obtain ⟨T76, X76, e76, st76⟩ := getF X74 hx hZ hown (host := "") (Or.inl (H 21 rfl)) Via.refl e74 PF0 (g := (mkF m 14 #[rv ra, rv rs, iv fl, iv v71, u0] [(.ref ra)])) rfl rfl (D d7_14)
    have in_18_77 : 0 ≤ (v71).toInt ∧ (v71).toInt < (bs.length : Nat) := (by omega)
    have c78 : (bs.getD (v71).toInt.toNat 0) = (44 : Int32) := by rw [own_ofto OK (t := v71) (by omega)]; exact H44
    have ve_v71 : v71 = x0 + kn := own_ofto OK (by omega)
    obtain ⟨T79, X79, e79, st79⟩ := getF X76 hx hZ hown (host := "") (Or.inl (H 25 rfl)) Via.refl e76 PF1 (g := (mkF m 32 #[rv ra, rv rs, iv fl, iv v71, u0] [(.ref ra), (.int v71)])) rfl rfl (D d7_32)
    have c80 : ¬ (v71 = le) := (fun q => by have := congrArg Int32.toInt q; omega)
    obtain ⟨T81, X81, e81, st81⟩ := getF X79 hx hZ hown (host := "") (Or.inl (H 27 rfl)) Via.refl e79 PF2 (g := (mkF m 58 #[rv ra, rv rs, iv fl, iv v71, u0] [(.ref ra), (.ref rs), (.ref ra)])) rfl rfl (D d7_58)
    obtain ⟨cq82, q82, q82'⟩ := PE0.cell
    obtain ⟨_, _, ⟨T82, L82, k82, n82⟩, -, X82, ⟨Lc82, hQ82, l82, y82, z82⟩, st82⟩ := own_privateBackW X81 hx (y := (⟨"com/example/tributary/tributary/io/LineFormat", "time", "(Ljava/lang/String;IIZ)Lcom/example/tributary/tributary/model/Time;"⟩ : MethodName)) (y' := (⟨"com/example/tributary/tributary/io/LineFormat", "begin", "([BII)V"⟩ : MethodName)) rfl hown (mvT hZ (H 50 rfl)) (mvT hZ (H 51 rfl)) (mvT hZ (H 19 rfl)) (Cond.privateMethod_at (mvP hZ (H 52 rfl) (args := #[]))) (mvT hZ (H 53 rfl)) (by decide) (backOfWith (W := 0) (rm22 l Z a0 hw [] ra rs x0 v71 fl la bs kn h0 n0 Z0 PA0 PE0 PF0 OK ve_v71) hZ (H 53 rfl) (H 9 rfl) (by decide) (by decide)) (g := (mkF m 63 #[rv ra, rv rs, iv fl, iv v71, u0] [(.int fl), (.int v71), (.int x0), (.ref rs), (.ref ra)])) rfl (by rw [hml]; rfl) (Steps.refl _) (a := ra) (by rw [e81]; exact q82) q82' (argsL := [(.ref rs), (.int x0), (.int v71), (.int fl)]) (rest := []) (lenOf pd_26 rfl) rfl (by show 2 * 0 + _ ≤ _; exact Nat.le_of_eq rfl) (D d7_63) (fun _ _ => ⟨rfl, e81, (by decide : 0 + 1 ≤ _), (by decide : 0 + 2 ≤ _)⟩)
    dsimp only [Pt.U, Pt.locs, Pt.cells, Pt.slots] at X82 l82 y82 z82 st82 hQ82
    replace y82 : k82 = 1 := y82
    replace z82 : n82 = 2 := z82
    replace l82 := l82.symm; replace y82 := y82.symm; replace z82 := z82.symm; subst l82 y82 z82
    obtain ⟨rfl, N82q, K82, R82, R82_0, R82_1⟩ := hQ82
    obtain ⟨h82, e82⟩ : ∃ z, T82.heap = z := ⟨_, rfl⟩
    rw [e82] at K82 R82 R82_0 R82_1
    obtain ⟨a82, g82⟩ : ∃ z, z = h0.size := ⟨_, rfl⟩
    rw [← g82] at R82 R82_0 R82_1 st82
    have ne_la_a82 : la ≠ a82 := g82 ▸ Nat.ne_of_lt PA0.lt
    have ne_ra_a82 : ra ≠ a82 := g82 ▸ Nat.ne_of_lt PE0.lt
    have ge_a82 : n0 ≤ a82 := g82 ▸ Z0
    have go_a82 : h0.size ≤ a82 := g82 ▸ (Keep.refl h0 [ra]).1
    have V82_la := PA0.keep K82 nin0
    have A82_ra := PE0.keep K82
    have F82_ra_0 := PF0.keep K82 nin0
    have F82_ra_1 := PF1.keep K82 nin0
    have F82_ra_2 := PF2.keep K82 nin0
    have sz82 : n0 ≤ h82.size := Nat.le_trans Z0 K82.1
    have KK82 : Keep h0 h82 [ra] := (Keep.refl h0 [ra]).trans K82 all0
    have N82 := Fr.app N0 N82q
    have pre83 : ∀ t, Steps p.tables e below (T82.setTop (mkF m 66 #[rv ra, rv rs, iv fl, iv v71, u0] [(.ref a82)])) t → Steps p.tables e below B0 t := by
      intro t k
      refine pre73 t ?_
      show Steps p.tables e below (T68.setTop (mkF m 5 #[rv ra, rv rs, iv fl, iv v71, u0] [])) _
      refine XS.iloadN X68.here hx rfl (D d7_5) rfl ?_
      refine XS.aloadN X68.here hx rfl (D d7_6) rfl rfl ?_
      refine st74 _ ?_
      show Steps p.tables e below (T74.setTop (mkF m 10 #[rv ra, rv rs, iv fl, iv v71, u0] [(.int le), (.int v71)])) _
      refine XS.icmpNo X74.here hx rfl (D d7_10) rfl ((tlt c75).2.1) ?_
      refine XS.aloadN X74.here hx rfl (D d7_13) rfl rfl ?_
      refine st76 _ ?_
      refine XS.iloadN X76.here hx rfl (D d7_17) rfl ?_
      show Steps p.tables e below (T76.setTop (mkF m 18 #[rv ra, rv rs, iv fl, iv v71, u0] [(.int v71), (.ref la)])) _
      refine own_baloadB X76 hx hZ e76 PA0 in_18_77 (D d7_18) _ ?_
      refine XS.bipush X76.here hx rfl (D d7_19) ?_
      show Steps p.tables e below (T76.setTop (mkF m 21 #[rv ra, rv rs, iv fl, iv v71, u0] [(.int (44 : Int32)), (.int (bs.getD (v71).toInt.toNat 0))])) _
      refine XS.icmpYes X76.here hx rfl (pc0 := 21) (pc' := 30) rfl (D d7_21) rfl ((teq c78).1) (by decide) (by decide) ?_
      refine XS.iloadN X76.here hx rfl (D d7_30) rfl ?_
      refine XS.aloadN X76.here hx rfl (D d7_31) rfl rfl ?_
      refine st79 _ ?_
      show Steps p.tables e below (T79.setTop (mkF m 35 #[rv ra, rv rs, iv fl, iv v71, u0] [(.int le), (.int v71)])) _
      refine XS.icmpYes X79.here hx rfl (pc0 := 35) (pc' := 55) rfl (D d7_35) rfl ((feq c80).2) (by decide) (by decide) ?_
      refine XS.aloadN X79.here hx rfl (D d7_55) rfl rfl ?_
      refine XS.aloadN X79.here hx rfl (D d7_56) rfl rfl ?_
      refine XS.aloadN X79.here hx rfl (D d7_57) rfl rfl ?_
      show Steps p.tables e below (T79.setTop (mkF m 58 #[rv ra, rv rs, iv fl, iv v71, u0] [(.ref ra), (.ref rs), (.ref ra)])) _
      refine st81 _ ?_
      refine XS.iloadN X81.here hx rfl (D d7_61) rfl ?_
      refine XS.iloadN X81.here hx rfl (D d7_62) rfl ?_
      refine st82.trans ?_
      exact k
    clear X68 e68 pre72 pre73 X74 e74 st74 X76 e76 st76 X79 e79 st79 X81 e81 st81 st82 N82q K82
    obtain ⟨T84, h84, X84, e84, W84, st84⟩ := putF X82 hx hZ hown (host := "") (Or.inl (H 27 rfl)) Via.refl e82 F82_ra_2 A82_ra (Or.inl (H 28 rfl)) (H 8 rfl) (ty := .int) (by decide) rfl rfl (g := (mkF m 72 #[rv ra, rv rs, iv fl, iv v71, rv a82] [(.int (v71 + (1 : Int32))), (.ref ra)])) rfl rfl (D d7_72)
    have V84_la := V82_la.other W84 PN0
    have A84_ra := A82_ra.wr W84
    have F84_ra_0 := F82_ra_0.other W84 (Or.inr (own_sn_27 hw))
    have F84_ra_1 := F82_ra_1.other W84 (Or.inr (own_sn_28 hw))
    have A84_a82 := R82.wr W84
    have F84_a82_0 := R82_0.other W84 (Or.inl (Ne.symm ne_ra_a82))
    have F84_a82_1 := R82_1.other W84 (Or.inl (Ne.symm ne_ra_a82))
    have sz84 := Nat.le_trans sz82 (Keep.of_wr W84).1
    have K84 := KK82.wr W84 (Or.inl (by simp))
    have N84 := Fr.snoc X84 N82 PG0
    have F84_s : Fld Z h84 ra "com/example/tributary/tributary/io/LineFormat" "cursor" "I" (.int (v71 + (1 : Int32))) := F82_ra_2.same W84
    obtain ⟨fs, hr, hrun, hended, hW, hsame⟩ := X84.leave (v := some (.ref a82)) (fun h => by rw [Bd.returns] at h; cases h) hlk
    refine ⟨_, _, pre83 _ ?_, hrun, hended, _, _, rfl, ?_, ⟨_, rfl⟩, hW, hsame.mono (by decide) (by decide)⟩
    · show Steps p.tables e below (T82.setTop (mkF m 66 #[rv ra, rv rs, iv fl, iv v71, u0] [(.ref a82)])) _
      refine XS.astore X82.here hx rfl (D d7_66) rfl rfl (l' := #[rv ra, rv rs, iv fl, iv v71, rv a82]) rfl ?_
      refine XS.aloadN X82.here hx rfl (D d7_68) rfl rfl ?_
      refine XS.iloadN X82.here hx rfl (D d7_69) rfl ?_
      refine XS.iconst X82.here hx rfl (D d7_70) ?_
      show Steps p.tables e below (T82.setTop (mkF m 71 #[rv ra, rv rs, iv fl, iv v71, rv a82] [(.int (1 : Int32)), (.int v71), (.ref ra)])) _
      refine XS.iadd X82.here hx rfl (D d7_71) rfl ?_
      refine st84 _ ?_
      refine XS.aload X84.here hx rfl (D d7_75) rfl rfl ?_
      show Steps p.tables e below (T84.setTop (mkF m 77 #[rv ra, rv rs, iv fl, iv v71, rv a82] [(.ref a82)])) _
      exact retOut X84 hx Bd.returns rfl (Or.inr (Or.inr (Or.inr (Or.inr ⟨rfl, rfl, rfl⟩)))) (D d7_77) hr
    · show Q7 Z ra rs fl la bs le x0 kn h0 n0 _ T84.heap _
      rw [e84]
      exact ⟨by rw [g82], N84, K84, A84_ra, F84_ra_0, F84_ra_1, (by rw [← ve_v71]; exact F84_s), (by rw [← g82]; exact A84_a82), (by rw [← g82]; exact F84_a82_0), (by rw [← g82]; exact F84_a82_1)⟩
  · have nn : kn.toInt = 4 := by rw [hk]; decide
    obtain ⟨T85, X85, e85, st85⟩ := getF X0 hx hZ hown (host := "") (Or.inl (H 27 rfl)) Via.refl e0 PF2 (g := (mkF m 1 #[rv ra, rv rs, iv fl, u0, u0] [(.ref ra)])) rfl rfl (D d7_1)
    have f_x0 : x0.toInt = x0.toInt + 0 := by omega
    obtain ⟨T86, X86, e86, st86⟩ := getF X85 hx hZ hown (host := "") (Or.inl (H 25 rfl)) Via.refl e85 PF1 (g := (mkF m 7 #[rv ra, rv rs, iv fl, iv x0, u0] [(.ref ra), (.int x0)])) rfl rfl (D d7_7)
    have c87 : x0 < le := Int32.lt_iff_toInt_lt.mpr (by omega)
    obtain ⟨T88, X88, e88, st88⟩ := getF X86 hx hZ hown (host := "") (Or.inl (H 21 rfl)) Via.refl e86 PF0 (g := (mkF m 14 #[rv ra, rv rs, iv fl, iv x0, u0] [(.ref ra)])) rfl rfl (D d7_14)
    have in_18_89 : 0 ≤ (x0).toInt ∧ (x0).toInt < (bs.length : Nat) := (by omega)
    have c90 : ¬ ((bs.getD (x0).toInt.toNat 0) = (44 : Int32)) := own_ndig (OK.dg (j := x0) (by omega) (by omega)) (by decide)
    obtain ⟨v91, hv91⟩ : ∃ z : Int32, z = (x0 + (1 : Int32)) := ⟨_, rfl⟩
    have pre92 : ∀ t, Steps p.tables e below (T88.setTop (mkF m 5 #[rv ra, rv rs, iv fl, iv (x0 + (1 : Int32)), u0] [])) t → Steps p.tables e below B0 t := by
      intro t k
      refine pre0 t ?_
      show Steps p.tables e below (s₁.setTop (mkF m 0 #[rv ra, rv rs, iv fl, u0, u0] [])) _
      refine XS.aloadN X0.here hx rfl (D d7_0) rfl rfl ?_
      refine st85 _ ?_
      refine XS.istoreN X85.here hx rfl (D d7_4) rfl (l' := #[rv ra, rv rs, iv fl, iv x0, u0]) rfl ?_
      refine XS.iloadN X85.here hx rfl (D d7_5) rfl ?_
      refine XS.aloadN X85.here hx rfl (D d7_6) rfl rfl ?_
      refine st86 _ ?_
      show Steps p.tables e below (T86.setTop (mkF m 10 #[rv ra, rv rs, iv fl, iv x0, u0] [(.int le), (.int x0)])) _
      refine XS.icmpNo X86.here hx rfl (D d7_10) rfl ((tlt c87).2.1) ?_
      refine XS.aloadN X86.here hx rfl (D d7_13) rfl rfl ?_
      show Steps p.tables e below (T86.setTop (mkF m 14 #[rv ra, rv rs, iv fl, iv x0, u0] [(.ref ra)])) _
      refine st88 _ ?_
      refine XS.iloadN X88.here hx rfl (D d7_17) rfl ?_
      refine own_baloadB X88 hx hZ e88 PA0 in_18_89 (D d7_18) _ ?_
      refine XS.bipush X88.here hx rfl (D d7_19) ?_
      show Steps p.tables e below (T88.setTop (mkF m 21 #[rv ra, rv rs, iv fl, iv x0, u0] [(.int (44 : Int32)), (.int (bs.getD (x0).toInt.toNat 0))])) _
      refine XS.icmpNo X88.here hx rfl (D d7_21) rfl ((feq c90).1) ?_
      refine XS.iinc X88.here hx rfl (D d7_24) rfl (l' := #[rv ra, rv rs, iv fl, iv (x0 + (1 : Int32)), u0]) rfl ?_
      refine XS.goto X88.here hx rfl (pc0 := 27) (pc' := 5) rfl (D d7_27) (by decide) (by decide) ?_
      exact k
    clear X85 e85 st85 X86 e86 st86 st88
    have pre93 : ∀ t, Steps p.tables e below (T88.setTop (mkF m 5 #[rv ra, rv rs, iv fl, iv v91, u0] [])) t → Steps p.tables e below B0 t := by
      rw [hv91]
      exact pre92
    have f_v91 : v91.toInt = x0.toInt + 1 := by have q := own_nx OK hv91 f_x0 (by decide) (by decide); omega
    obtain ⟨T94, X94, e94, st94⟩ := getF X88 hx hZ hown (host := "") (Or.inl (H 25 rfl)) Via.refl e88 PF1 (g := (mkF m 7 #[rv ra, rv rs, iv fl, iv v91, u0] [(.ref ra), (.int v91)])) rfl rfl (D d7_7)
    have c95 : v91 < le := Int32.lt_iff_toInt_lt.mpr (by omega)
    obtain ⟨T96, X96, e96, st96⟩ := getF X94 hx hZ hown (host := "") (Or.inl (H 21 rfl)) Via.refl e94 PF0 (g := (mkF m 14 #[rv ra, rv rs, iv fl, iv v91, u0] [(.ref ra)])) rfl rfl (D d7_14)
    have in_18_97 : 0 ≤ (v91).toInt ∧ (v91).toInt < (bs.length : Nat) := (by omega)
    have c98 : ¬ ((bs.getD (v91).toInt.toNat 0) = (44 : Int32)) := own_ndig (OK.dg (j := v91) (by omega) (by omega)) (by decide)
    obtain ⟨v99, hv99⟩ : ∃ z : Int32, z = (v91 + (1 : Int32)) := ⟨_, rfl⟩
    have pre100 : ∀ t, Steps p.tables e below (T96.setTop (mkF m 5 #[rv ra, rv rs, iv fl, iv (v91 + (1 : Int32)), u0] [])) t → Steps p.tables e below B0 t := by
      intro t k
      refine pre93 t ?_
      show Steps p.tables e below (T88.setTop (mkF m 5 #[rv ra, rv rs, iv fl, iv v91, u0] [])) _
      refine XS.iloadN X88.here hx rfl (D d7_5) rfl ?_
      refine XS.aloadN X88.here hx rfl (D d7_6) rfl rfl ?_
      show Steps p.tables e below (T88.setTop (mkF m 7 #[rv ra, rv rs, iv fl, iv v91, u0] [(.ref ra), (.int v91)])) _
      refine st94 _ ?_
      show Steps p.tables e below (T94.setTop (mkF m 10 #[rv ra, rv rs, iv fl, iv v91, u0] [(.int le), (.int v91)])) _
      refine XS.icmpNo X94.here hx rfl (D d7_10) rfl ((tlt c95).2.1) ?_
      refine XS.aloadN X94.here hx rfl (D d7_13) rfl rfl ?_
      refine st96 _ ?_
      refine XS.iloadN X96.here hx rfl (D d7_17) rfl ?_
      refine own_baloadB X96 hx hZ e96 PA0 in_18_97 (D d7_18) _ ?_
      refine XS.bipush X96.here hx rfl (D d7_19) ?_
      show Steps p.tables e below (T96.setTop (mkF m 21 #[rv ra, rv rs, iv fl, iv v91, u0] [(.int (44 : Int32)), (.int (bs.getD (v91).toInt.toNat 0))])) _
      refine XS.icmpNo X96.here hx rfl (D d7_21) rfl ((feq c98).1) ?_
      refine XS.iinc X96.here hx rfl (D d7_24) rfl (l' := #[rv ra, rv rs, iv fl, iv (v91 + (1 : Int32)), u0]) rfl ?_
      refine XS.goto X96.here hx rfl (pc0 := 27) (pc' := 5) rfl (D d7_27) (by decide) (by decide) ?_
      exact k
    clear X88 e88 pre92 pre93 X94 e94 st94 st96
    have pre101 : ∀ t, Steps p.tables e below (T96.setTop (mkF m 5 #[rv ra, rv rs, iv fl, iv v99, u0] [])) t → Steps p.tables e below B0 t := by
      rw [hv99]
      exact pre100
    have f_v99 : v99.toInt = x0.toInt + 2 := by have q := own_nx OK hv99 f_v91 (by decide) (by decide); omega
    obtain ⟨T102, X102, e102, st102⟩ := getF X96 hx hZ hown (host := "") (Or.inl (H 25 rfl)) Via.refl e96 PF1 (g := (mkF m 7 #[rv ra, rv rs, iv fl, iv v99, u0] [(.ref ra), (.int v99)])) rfl rfl (D d7_7)
    have c103 : v99 < le := Int32.lt_iff_toInt_lt.mpr (by omega)
    obtain ⟨T104, X104, e104, st104⟩ := getF X102 hx hZ hown (host := "") (Or.inl (H 21 rfl)) Via.refl e102 PF0 (g := (mkF m 14 #[rv ra, rv rs, iv fl, iv v99, u0] [(.ref ra)])) rfl rfl (D d7_14)
    have in_18_105 : 0 ≤ (v99).toInt ∧ (v99).toInt < (bs.length : Nat) := (by omega)
    have c106 : ¬ ((bs.getD (v99).toInt.toNat 0) = (44 : Int32)) := own_ndig (OK.dg (j := v99) (by omega) (by omega)) (by decide)
    obtain ⟨v107, hv107⟩ : ∃ z : Int32, z = (v99 + (1 : Int32)) := ⟨_, rfl⟩
    have pre108 : ∀ t, Steps p.tables e below (T104.setTop (mkF m 5 #[rv ra, rv rs, iv fl, iv (v99 + (1 : Int32)), u0] [])) t → Steps p.tables e below B0 t := by
      intro t k
      refine pre101 t ?_
      show Steps p.tables e below (T96.setTop (mkF m 5 #[rv ra, rv rs, iv fl, iv v99, u0] [])) _
      refine XS.iloadN X96.here hx rfl (D d7_5) rfl ?_
      refine XS.aloadN X96.here hx rfl (D d7_6) rfl rfl ?_
      refine st102 _ ?_
      show Steps p.tables e below (T102.setTop (mkF m 10 #[rv ra, rv rs, iv fl, iv v99, u0] [(.int le), (.int v99)])) _
      refine XS.icmpNo X102.here hx rfl (D d7_10) rfl ((tlt c103).2.1) ?_
      refine XS.aloadN X102.here hx rfl (D d7_13) rfl rfl ?_
      refine st104 _ ?_
      refine XS.iloadN X104.here hx rfl (D d7_17) rfl ?_
      refine own_baloadB X104 hx hZ e104 PA0 in_18_105 (D d7_18) _ ?_
      refine XS.bipush X104.here hx rfl (D d7_19) ?_
      show Steps p.tables e below (T104.setTop (mkF m 21 #[rv ra, rv rs, iv fl, iv v99, u0] [(.int (44 : Int32)), (.int (bs.getD (v99).toInt.toNat 0))])) _
      refine XS.icmpNo X104.here hx rfl (D d7_21) rfl ((feq c106).1) ?_
      show Steps p.tables e below (T104.setTop (mkF m 24 #[rv ra, rv rs, iv fl, iv v99, u0] [])) _
      refine XS.iinc X104.here hx rfl (D d7_24) rfl (l' := #[rv ra, rv rs, iv fl, iv (v99 + (1 : Int32)), u0]) rfl ?_
      refine XS.goto X104.here hx rfl (pc0 := 27) (pc' := 5) rfl (D d7_27) (by decide) (by decide) ?_
      exact k
    clear X96 e96 pre100 pre101 X102 e102 st102 st104
    have pre109 : ∀ t, Steps p.tables e below (T104.setTop (mkF m 5 #[rv ra, rv rs, iv fl, iv v107, u0] [])) t → Steps p.tables e below B0 t := by
      rw [hv107]
      exact pre108
    have f_v107 : v107.toInt = x0.toInt + 3 := by have q := own_nx OK hv107 f_v99 (by decide) (by decide); omega
    obtain ⟨T110, X110, e110, st110⟩ := getF X104 hx hZ hown (host := "") (Or.inl (H 25 rfl)) Via.refl e104 PF1 (g := (mkF m 7 #[rv ra, rv rs, iv fl, iv v107, u0] [(.ref ra), (.int v107)])) rfl rfl (D d7_7)
    have c111 : v107 < le := Int32.lt_iff_toInt_lt.mpr (by omega)
    obtain ⟨T112, X112, e112, st112⟩ := getF X110 hx hZ hown (host := "") (Or.inl (H 21 rfl)) Via.refl e110 PF0 (g := (mkF m 14 #[rv ra, rv rs, iv fl, iv v107, u0] [(.ref ra)])) rfl rfl (D d7_14)
    have in_18_113 : 0 ≤ (v107).toInt ∧ (v107).toInt < (bs.length : Nat) := (by omega)
    have c114 : ¬ ((bs.getD (v107).toInt.toNat 0) = (44 : Int32)) := own_ndig (OK.dg (j := v107) (by omega) (by omega)) (by decide)
    obtain ⟨v115, hv115⟩ : ∃ z : Int32, z = (v107 + (1 : Int32)) := ⟨_, rfl⟩
    have pre116 : ∀ t, Steps p.tables e below (T112.setTop (mkF m 5 #[rv ra, rv rs, iv fl, iv (v107 + (1 : Int32)), u0] [])) t → Steps p.tables e below B0 t := by
      intro t k
      refine pre109 t ?_
      show Steps p.tables e below (T104.setTop (mkF m 5 #[rv ra, rv rs, iv fl, iv v107, u0] [])) _
      refine XS.iloadN X104.here hx rfl (D d7_5) rfl ?_
      refine XS.aloadN X104.here hx rfl (D d7_6) rfl rfl ?_
      refine st110 _ ?_
      show Steps p.tables e below (T110.setTop (mkF m 10 #[rv ra, rv rs, iv fl, iv v107, u0] [(.int le), (.int v107)])) _
      refine XS.icmpNo X110.here hx rfl (D d7_10) rfl ((tlt c111).2.1) ?_
      refine XS.aloadN X110.here hx rfl (D d7_13) rfl rfl ?_
      refine st112 _ ?_
      refine XS.iloadN X112.here hx rfl (D d7_17) rfl ?_
      show Steps p.tables e below (T112.setTop (mkF m 18 #[rv ra, rv rs, iv fl, iv v107, u0] [(.int v107), (.ref la)])) _
      refine own_baloadB X112 hx hZ e112 PA0 in_18_113 (D d7_18) _ ?_
      refine XS.bipush X112.here hx rfl (D d7_19) ?_
      show Steps p.tables e below (T112.setTop (mkF m 21 #[rv ra, rv rs, iv fl, iv v107, u0] [(.int (44 : Int32)), (.int (bs.getD (v107).toInt.toNat 0))])) _
      refine XS.icmpNo X112.here hx rfl (D d7_21) rfl ((feq c114).1) ?_
      refine XS.iinc X112.here hx rfl (D d7_24) rfl (l' := #[rv ra, rv rs, iv fl, iv (v107 + (1 : Int32)), u0]) rfl ?_
      refine XS.goto X112.here hx rfl (pc0 := 27) (pc' := 5) rfl (D d7_27) (by decide) (by decide) ?_
      exact k
    clear X104 e104 pre108 pre109 X110 e110 st110 st112
    have pre117 : ∀ t, Steps p.tables e below (T112.setTop (mkF m 5 #[rv ra, rv rs, iv fl, iv v115, u0] [])) t → Steps p.tables e below B0 t := by
      rw [hv115]
      exact pre116
    have f_v115 : v115.toInt = x0.toInt + 4 := by have q := own_nx OK hv115 f_v107 (by decide) (by decide); omega
    obtain ⟨T118, X118, e118, st118⟩ := getF X112 hx hZ hown (host := "") (Or.inl (H 25 rfl)) Via.refl e112 PF1 (g := (mkF m 7 #[rv ra, rv rs, iv fl, iv v115, u0] [(.ref ra), (.int v115)])) rfl rfl (D d7_7)
    have c119 : v115 < le := Int32.lt_iff_toInt_lt.mpr (by omega)
    obtain ⟨T120, X120, e120, st120⟩ := getF X118 hx hZ hown (host := "") (Or.inl (H 21 rfl)) Via.refl e118 PF0 (g := (mkF m 14 #[rv ra, rv rs, iv fl, iv v115, u0] [(.ref ra)])) rfl rfl (D d7_14)
    have in_18_121 : 0 ≤ (v115).toInt ∧ (v115).toInt < (bs.length : Nat) := (by omega)
    have c122 : (bs.getD (v115).toInt.toNat 0) = (44 : Int32) := by rw [own_ofto OK (t := v115) (by omega)]; exact H44
    have ve_v115 : v115 = x0 + kn := own_ofto OK (by omega)
    obtain ⟨T123, X123, e123, st123⟩ := getF X120 hx hZ hown (host := "") (Or.inl (H 25 rfl)) Via.refl e120 PF1 (g := (mkF m 32 #[rv ra, rv rs, iv fl, iv v115, u0] [(.ref ra), (.int v115)])) rfl rfl (D d7_32)
    have c124 : ¬ (v115 = le) := (fun q => by have := congrArg Int32.toInt q; omega)
    obtain ⟨T125, X125, e125, st125⟩ := getF X123 hx hZ hown (host := "") (Or.inl (H 27 rfl)) Via.refl e123 PF2 (g := (mkF m 58 #[rv ra, rv rs, iv fl, iv v115, u0] [(.ref ra), (.ref rs), (.ref ra)])) rfl rfl (D d7_58)
    obtain ⟨cq126, q126, q126'⟩ := PE0.cell
    obtain ⟨_, _, ⟨T126, L126, k126, n126⟩, -, X126, ⟨Lc126, hQ126, l126, y126, z126⟩, st126⟩ := own_privateBackW X125 hx (y := (⟨"com/example/tributary/tributary/io/LineFormat", "time", "(Ljava/lang/String;IIZ)Lcom/example/tributary/tributary/model/Time;"⟩ : MethodName)) (y' := (⟨"com/example/tributary/tributary/io/LineFormat", "begin", "([BII)V"⟩ : MethodName)) rfl hown (mvT hZ (H 50 rfl)) (mvT hZ (H 51 rfl)) (mvT hZ (H 19 rfl)) (Cond.privateMethod_at (mvP hZ (H 52 rfl) (args := #[]))) (mvT hZ (H 53 rfl)) (by decide) (backOfWith (W := 0) (rm22 l Z a0 hw [] ra rs x0 v115 fl la bs kn h0 n0 Z0 PA0 PE0 PF0 OK ve_v115) hZ (H 53 rfl) (H 9 rfl) (by decide) (by decide)) (g := (mkF m 63 #[rv ra, rv rs, iv fl, iv v115, u0] [(.int fl), (.int v115), (.int x0), (.ref rs), (.ref ra)])) rfl (by rw [hml]; rfl) (Steps.refl _) (a := ra) (by rw [e125]; exact q126) q126' (argsL := [(.ref rs), (.int x0), (.int v115), (.int fl)]) (rest := []) (lenOf pd_26 rfl) rfl (by show 2 * 0 + _ ≤ _; exact Nat.le_of_eq rfl) (D d7_63) (fun _ _ => ⟨rfl, e125, (by decide : 0 + 1 ≤ _), (by decide : 0 + 2 ≤ _)⟩)
    dsimp only [Pt.U, Pt.locs, Pt.cells, Pt.slots] at X126 l126 y126 z126 st126 hQ126
    replace y126 : k126 = 1 := y126
    replace z126 : n126 = 2 := z126
    replace l126 := l126.symm; replace y126 := y126.symm; replace z126 := z126.symm; subst l126 y126 z126
    obtain ⟨rfl, N126q, K126, R126, R126_0, R126_1⟩ := hQ126
    obtain ⟨h126, e126⟩ : ∃ z, T126.heap = z := ⟨_, rfl⟩
    rw [e126] at K126 R126 R126_0 R126_1
    obtain ⟨a126, g126⟩ : ∃ z, z = h0.size := ⟨_, rfl⟩
    rw [← g126] at R126 R126_0 R126_1 st126
    have ne_la_a126 : la ≠ a126 := g126 ▸ Nat.ne_of_lt PA0.lt
    have ne_ra_a126 : ra ≠ a126 := g126 ▸ Nat.ne_of_lt PE0.lt
    have ge_a126 : n0 ≤ a126 := g126 ▸ Z0
    have go_a126 : h0.size ≤ a126 := g126 ▸ (Keep.refl h0 [ra]).1
    have V126_la := PA0.keep K126 nin0
    have A126_ra := PE0.keep K126
    have F126_ra_0 := PF0.keep K126 nin0
    have F126_ra_1 := PF1.keep K126 nin0
    have F126_ra_2 := PF2.keep K126 nin0
    have sz126 : n0 ≤ h126.size := Nat.le_trans Z0 K126.1
    have KK126 : Keep h0 h126 [ra] := (Keep.refl h0 [ra]).trans K126 all0
    have N126 := Fr.app N0 N126q
    have pre127 : ∀ t, Steps p.tables e below (T126.setTop (mkF m 66 #[rv ra, rv rs, iv fl, iv v115, u0] [(.ref a126)])) t → Steps p.tables e below B0 t := by
      intro t k
      refine pre117 t ?_
      show Steps p.tables e below (T112.setTop (mkF m 5 #[rv ra, rv rs, iv fl, iv v115, u0] [])) _
      refine XS.iloadN X112.here hx rfl (D d7_5) rfl ?_
      refine XS.aloadN X112.here hx rfl (D d7_6) rfl rfl ?_
      refine st118 _ ?_
      show Steps p.tables e below (T118.setTop (mkF m 10 #[rv ra, rv rs, iv fl, iv v115, u0] [(.int le), (.int v115)])) _
      refine XS.icmpNo X118.here hx rfl (D d7_10) rfl ((tlt c119).2.1) ?_
      refine XS.aloadN X118.here hx rfl (D d7_13) rfl rfl ?_
      show Steps p.tables e below (T118.setTop (mkF m 14 #[rv ra, rv rs, iv fl, iv v115, u0] [(.ref ra)])) _
      refine st120 _ ?_
      refine XS.iloadN X120.here hx rfl (D d7_17) rfl ?_
      refine own_baloadB X120 hx hZ e120 PA0 in_18_121 (D d7_18) _ ?_
      refine XS.bipush X120.here hx rfl (D d7_19) ?_
      show Steps p.tables e below (T120.setTop (mkF m 21 #[rv ra, rv rs, iv fl, iv v115, u0] [(.int (44 : Int32)), (.int (bs.getD (v115).toInt.toNat 0))])) _
      refine XS.icmpYes X120.here hx rfl (pc0 := 21) (pc' := 30) rfl (D d7_21) rfl ((teq c122).1) (by decide) (by decide) ?_
      refine XS.iloadN X120.here hx rfl (D d7_30) rfl ?_
      refine XS.aloadN X120.here hx rfl (D d7_31) rfl rfl ?_
      refine st123 _ ?_
      show Steps p.tables e below (T123.setTop (mkF m 35 #[rv ra, rv rs, iv fl, iv v115, u0] [(.int le), (.int v115)])) _
      refine XS.icmpYes X123.here hx rfl (pc0 := 35) (pc' := 55) rfl (D d7_35) rfl ((feq c124).2) (by decide) (by decide) ?_
      refine XS.aloadN X123.here hx rfl (D d7_55) rfl rfl ?_
      show Steps p.tables e below (T123.setTop (mkF m 56 #[rv ra, rv rs, iv fl, iv v115, u0] [(.ref ra)])) _
      refine XS.aloadN X123.here hx rfl (D d7_56) rfl rfl ?_
      refine XS.aloadN X123.here hx rfl (D d7_57) rfl rfl ?_
      refine st125 _ ?_
      refine XS.iloadN X125.here hx rfl (D d7_61) rfl ?_
      refine XS.iloadN X125.here hx rfl (D d7_62) rfl ?_
      refine st126.trans ?_
      exact k
    clear X112 e112 pre116 pre117 X118 e118 st118 X120 e120 st120 X123 e123 st123 X125 e125 st125 st126 N126q K126
    obtain ⟨T128, h128, X128, e128, W128, st128⟩ := putF X126 hx hZ hown (host := "") (Or.inl (H 27 rfl)) Via.refl e126 F126_ra_2 A126_ra (Or.inl (H 28 rfl)) (H 8 rfl) (ty := .int) (by decide) rfl rfl (g := (mkF m 72 #[rv ra, rv rs, iv fl, iv v115, rv a126] [(.int (v115 + (1 : Int32))), (.ref ra)])) rfl rfl (D d7_72)
    have V128_la := V126_la.other W128 PN0
    have A128_ra := A126_ra.wr W128
    have F128_ra_0 := F126_ra_0.other W128 (Or.inr (own_sn_27 hw))
    have F128_ra_1 := F126_ra_1.other W128 (Or.inr (own_sn_28 hw))
    have A128_a126 := R126.wr W128
    have F128_a126_0 := R126_0.other W128 (Or.inl (Ne.symm ne_ra_a126))
    have F128_a126_1 := R126_1.other W128 (Or.inl (Ne.symm ne_ra_a126))
    have sz128 := Nat.le_trans sz126 (Keep.of_wr W128).1
    have K128 := KK126.wr W128 (Or.inl (by simp))
    have N128 := Fr.snoc X128 N126 PG0
    have F128_s : Fld Z h128 ra "com/example/tributary/tributary/io/LineFormat" "cursor" "I" (.int (v115 + (1 : Int32))) := F126_ra_2.same W128
    obtain ⟨fs, hr, hrun, hended, hW, hsame⟩ := X128.leave (v := some (.ref a126)) (fun h => by rw [Bd.returns] at h; cases h) hlk
    refine ⟨_, _, pre127 _ ?_, hrun, hended, _, _, rfl, ?_, ⟨_, rfl⟩, hW, hsame.mono (by decide) (by decide)⟩
    · show Steps p.tables e below (T126.setTop (mkF m 66 #[rv ra, rv rs, iv fl, iv v115, u0] [(.ref a126)])) _
      refine XS.astore X126.here hx rfl (D d7_66) rfl rfl (l' := #[rv ra, rv rs, iv fl, iv v115, rv a126]) rfl ?_
      refine XS.aloadN X126.here hx rfl (D d7_68) rfl rfl ?_
      show Steps p.tables e below (T126.setTop (mkF m 69 #[rv ra, rv rs, iv fl, iv v115, rv a126] [(.ref ra)])) _
      refine XS.iloadN X126.here hx rfl (D d7_69) rfl ?_
      refine XS.iconst X126.here hx rfl (D d7_70) ?_
      refine XS.iadd X126.here hx rfl (D d7_71) rfl ?_
      refine st128 _ ?_
      refine XS.aload X128.here hx rfl (D d7_75) rfl rfl ?_
      show Steps p.tables e below (T128.setTop (mkF m 77 #[rv ra, rv rs, iv fl, iv v115, rv a126] [(.ref a126)])) _
      exact retOut X128 hx Bd.returns rfl (Or.inr (Or.inr (Or.inr (Or.inr ⟨rfl, rfl, rfl⟩)))) (D d7_77) hr
    · show Q7 Z ra rs fl la bs le x0 kn h0 n0 _ T128.heap _
      rw [e128]
      exact ⟨by rw [g126], N128, K128, A128_ra, F128_ra_0, F128_ra_1, (by rw [← ve_v115]; exact F128_s), (by rw [← g126]; exact A128_a126), (by rw [← g126]; exact F128_a126_0), (by rw [← g126]; exact F128_a126_1)⟩
theorem d6_0 : decode prog_36_method_7_code 0 = .ok (.aload_n 0, 1) := by decide +kernel
theorem d6_1 : decode prog_36_method_7_code 1 = .ok (.aload_n 0, 1) := by decide +kernel
theorem d6_2 : decode prog_36_method_7_code 2 = .ok (.getfield 68, 3) := by decide +kernel
theorem d6_5 : decode prog_36_method_7_code 5 = .ok (.iconst 1, 1) := by decide +kernel
theorem d6_6 : decode prog_36_method_7_code 6 = .ok (.iadd, 1) := by decide +kernel
theorem d6_7 : decode prog_36_method_7_code 7 = .ok (.putfield 75, 3) := by decide +kernel
theorem d6_10 : decode prog_36_method_7_code 10 = .ok (.aload_n 0, 1) := by decide +kernel
theorem d6_11 : decode prog_36_method_7_code 11 = .ok (.ldc 78, 2) := by decide +kernel
theorem d6_13 : decode prog_36_method_7_code 13 = .ok (.iconst 0, 1) := by decide +kernel
theorem d6_14 : decode prog_36_method_7_code 14 = .ok (.invokevirtual 80, 3) := by decide +kernel
theorem d6_17 : decode prog_36_method_7_code 17 = .ok (.invokevirtual 84, 3) := by decide +kernel
theorem d6_20 : decode prog_36_method_7_code 20 = .ok (.lreturn, 1) := by decide +kernel
theorem ef_6 (m : MethodId) (ra : Addr) : entryFrame m #[(.ref ra)] 1 = mkF m 0 #[rv ra] [] := by first | (simp [entryFrame, mkF, argsToLocals, Value.category, maxLocals]; done) | rfl
theorem own_sn_30 {Z : State} {a0 : Array Value} (hw : ∀ d ∈ tables_1, d.before a0 Z = true) : Jvm.RoadKit.slotOf Z "com/example/tributary/tributary/io/LineFormat" "lineStart" "I" ≠ Jvm.RoadKit.slotOf Z "com/example/tributary/tributary/io/LineFormat" "cursor" "I" := slot_ne (a0 := a0) (C := "com/example/tributary/tributary/io/LineFormat") (Or.inl (hw _ (List.mem_of_getElem? (i := 24) rfl))) (Or.inl (hw _ (List.mem_of_getElem? (i := 28) rfl))) (by decide) (t := .int) (t' := .int) (by decide) (by decide)
theorem pd_31 : parseMethodDescriptor "(Ljava/lang/String;Z)Lcom/example/tributary/tributary/model/Time;" = some ⟨[(.object "java/lang/String"), .boolean], some (.object "com/example/tributary/tributary/model/Time")⟩ := by decide +kernel
theorem pd_32 : parseMethodDescriptor "()J" = some ⟨[], some .long⟩ := by decide +kernel
def Q6 (Z : State) (ra : Addr) (la : Addr) (bs : List Int32) (ls : Int32) (le : Int32) (oc : Int32) (kn : Int32) (h0 : Heap) (n0 : Nat) (v : Option Value) (h : Heap) (L : List Loc) : Prop := v = some (.long (own_num bs (ls + (1 : Int32)) kn)) ∧ Fr n0 L ∧ Keep h0 h [ra] ∧ Exa Z h ra "com/example/tributary/tributary/io/LineFormat" ∧ Fld Z h ra "com/example/tributary/tributary/io/LineFormat" "line" "[B" (.ref la) ∧ Fld Z h ra "com/example/tributary/tributary/io/LineFormat" "lineEnd" "I" (.int le) ∧ Fld Z h ra "com/example/tributary/tributary/io/LineFormat" "cursor" "I" (.int (((ls + (1 : Int32)) + kn) + (1 : Int32)))
set_option maxRecDepth 65536 in
set_option maxHeartbeats 40000000 in
theorem rm6 (l : Launch) (Z : State) (a0 : Array Value) (hw : ∀ d ∈ tables_1, d.before a0 Z = true) (ws : List Jvm.Cond) (ra : Addr) (la : Addr) (bs : List Int32) (ls : Int32) (le : Int32) (oc : Int32) (kn : Int32) (h0 : Heap) (n0 : Nat) (Z0 : n0 ≤ h0.size) (PA0 : own_AI Z h0 la .byte bs) (PE0 : Exa Z h0 ra "com/example/tributary/tributary/io/LineFormat") (PF0 : Fld Z h0 ra "com/example/tributary/tributary/io/LineFormat" "line" "[B" (.ref la)) (PF1 : Fld Z h0 ra "com/example/tributary/tributary/io/LineFormat" "lineStart" "I" (.int ls)) (PF2 : Fld Z h0 ra "com/example/tributary/tributary/io/LineFormat" "lineEnd" "I" (.int le)) (PF3 : Fld Z h0 ra "com/example/tributary/tributary/io/LineFormat" "cursor" "I" (.int oc)) (PG0 : n0 ≤ ra) (PN0 : la ≠ ra) (OK : own_ok bs (ls + (1 : Int32)) kn) (HE : (ls + (1 : Int32)).toInt + kn.toInt < le.toInt) (HL : (ls + (1 : Int32)).toInt + kn.toInt < (bs.length : Nat)) (H44 : bs.getD ((ls + (1 : Int32)) + kn).toInt.toNat 0 = 44) :
    MetFree l (⟨"com/example/tributary/tributary/io/LineFormat", "arrival", "()J"⟩ : MethodName) (head1 (Jvm.Cond.code (⟨"com/example/tributary/tributary/io/LineFormat", "arrival", "()J"⟩ : MethodName) prog_36_method_7_code 1 (some .long) :: ws) ({ frames := 6, cells := 3, slots := 54, locals := 90 } : Room)) (fun a U => a = #[(.ref ra)] ∧ Z.Warmed39 U.vm ∧ U.heap = h0) (fun _ _ _ _ _ => True) (fun _ U o U' => ∃ v L, o = .returned v ∧ Q6 Z ra la bs ls le oc kn h0 n0 v U'.heap L ∧ ReturnedEndW U o U' L ({ frames := 6, cells := 3, slots := 54, locals := 90 } : Room).cells ({ frames := 6, cells := 3, slots := 54, locals := 90 } : Room).slots) := by
  refine MetFree.of_bodySF (plainFor_of_name pn_22) hisR ?_
  intro p e s m args below meth c s₁ Bd hml0 hP hK
  obtain ⟨rfl, hZ, hh⟩ := hP
  have hx := Bd.exec
  have hby := Bd.bytes
  have hml : c.maxLocals = 1 := hml0
  have hown : s.vm.findClass "com/example/tributary/tributary/io/LineFormat" = some m.cls := findClass_of_methodNamed Bd.named
  have hnm := (name_of_methodNamed Bd.named Bd.method).1
  have hZ : Z.Warmed39 (s.setVm s.vm).vm := hZ
  have hown : (s.setVm s.vm).vm.findClass "com/example/tributary/tributary/io/LineFormat" = some m.cls := hown
  have S0 : s.Since s.vm 0 := (State.WarmedH.refl s).since 0
  have kz0 : 0 ≤ h0.size := Nat.zero_le _
  have X0 : Stand p l e ({ frames := 6, cells := 3, slots := 54, locals := 90 } : Room) (s.setVm s.vm) m #[(.ref ra)] below meth c s₁ [] 0 0 := Stand.of_body Bd
  have hlk : meth.locks = false := by first | exact BodyLoose.notSynchronized (by assumption) | exact Body.notSynchronized (by assumption)
  have e0 : s₁.heap = h0 := by rw [← hh, Bd.state]; rfl
  have N0 := Fr.nil n0
  have pre0 : ∀ t, Steps p.tables e below (s₁.setTop (mkF m 0 #[rv ra] [])) t → Steps p.tables e below (s₁.setTop (entryFrame m #[(.ref ra)] 1)) t := fun t k => castTop (ef_6 m ra) k
  generalize s₁.setTop (entryFrame m #[(.ref ra)] 1) = B0 at pre0 ⊢
  have H : ∀ (i : Nat) {d : Jvm.Cond}, tables_1[i]? = some d → d.before a0 Z = true := fun i d q => hw d (List.mem_of_getElem? q)
  have D : ∀ {pc : Nat} {r : Except DecodeError (Instr × Nat)}, decode prog_36_method_7_code pc = r → decode c.code pc = r := fun q => hb hby q
  obtain ⟨T1, X1, e1, st1⟩ := getF X0 hx hZ hown (host := "") (Or.inl (H 23 rfl)) Via.refl e0 PF1 (g := (mkF m 2 #[rv ra] [(.ref ra), (.ref ra)])) rfl rfl (D d6_2)
  obtain ⟨T2, h2, X2, e2, W2, st2⟩ := putF X1 hx hZ hown (host := "") (Or.inl (H 27 rfl)) Via.refl e1 PF3 PE0 (Or.inl (H 28 rfl)) (H 8 rfl) (ty := .int) (by decide) rfl rfl (g := (mkF m 7 #[rv ra] [(.int (ls + (1 : Int32))), (.ref ra)])) rfl rfl (D d6_7)
  have V2_la := PA0.other W2 PN0
  have A2_ra := PE0.wr W2
  have F2_ra_0 := PF0.other W2 (Or.inr (own_sn_27 hw))
  have F2_ra_1 := PF1.other W2 (Or.inr (own_sn_30 hw))
  have F2_ra_2 := PF2.other W2 (Or.inr (own_sn_28 hw))
  have sz2 := Nat.le_trans Z0 (Keep.of_wr W2).1
  have kz2 := Nat.le_trans kz0 (Keep.of_wr W2).1
  have K2 := (Keep.refl h0 ([ra] : List Addr)).wr W2 (Or.inl (by simp))
  have N2 := Fr.snoc X2 N0 PG0
  have F2_s : Fld Z h2 ra "com/example/tributary/tributary/io/LineFormat" "cursor" "I" (.int (ls + (1 : Int32))) := PF3.same W2
  have pre3 : ∀ t, Steps p.tables e below (T2.setTop (mkF m 11 #[rv ra] [(.ref ra)])) t → Steps p.tables e below B0 t := by
    intro t k
    refine pre0 t ?_
    show Steps p.tables e below (s₁.setTop (mkF m 0 #[rv ra] [])) _
    refine XS.aloadN X0.here hx rfl (D d6_0) rfl rfl ?_
    refine XS.aloadN X0.here hx rfl (D d6_1) rfl rfl ?_
    refine st1 _ ?_
    refine XS.iconst X1.here hx rfl (D d6_5) ?_
    refine XS.iadd X1.here hx rfl (D d6_6) rfl ?_
    refine st2 _ ?_
    refine XS.aloadN X2.here hx rfl (D d6_10) rfl rfl ?_
    exact k
  clear X1 e1 st1 W2 st2
  obtain ⟨as4, T4, h4, kk4, X4, e4, E4, S4, kz4q, hZ, hown, st4⟩ := ldcS X2 hx hZ hown (H 39 rfl) (own_strAtoms hw) e2 S0 kz2 (g := (mkF m 11 #[rv ra] [(.ref ra)])) rfl (D d6_11) (n := 48) (by decide) (by decide) (by decide) (by decide)
  have V4_la := V2_la.ext E4
  have A4_ra := A2_ra.ext E4
  have F4_ra_0 := F2_ra_0.ext E4
  have F4_ra_1 := F2_ra_1.ext E4
  have F4_ra_2 := F2_ra_2.ext E4
  have F4_ra_3 := F2_s.ext E4
  have sz4 := Nat.le_trans sz2 E4.1
  have kz4 := Nat.le_trans kz2 E4.1
  have K4 : Keep h0 h4 [ra] := K2.ext E4
  obtain ⟨cq5, q5, q5'⟩ := A4_ra.cell
  obtain ⟨_, _, ⟨T5, L5, k5, n5⟩, -, X5, ⟨Lc5, hQ5, l5, y5, z5⟩, st5⟩ := own_privateBack X4 hx (y := (⟨"com/example/tributary/tributary/io/LineFormat", "nextTime", "(Ljava/lang/String;Z)Lcom/example/tributary/tributary/model/Time;"⟩ : MethodName)) (y' := (⟨"com/example/tributary/tributary/io/LineFormat", "begin", "([BII)V"⟩ : MethodName)) rfl hown (mvT hZ (H 46 rfl)) (mvT hZ (H 47 rfl)) (mvT hZ (H 19 rfl)) (Cond.privateMethod_at (mvP hZ (H 48 rfl) (args := #[]))) (mvT hZ (H 49 rfl)) (by decide) (backOf (W := 0) (rm7 l Z a0 hw [] ra as4 (0 : Int32) la bs le ((ls + (1 : Int32))) kn h4 n0 sz4 V4_la A4_ra F4_ra_0 F4_ra_2 F4_ra_3 PG0 PN0 OK HE HL H44) hZ (H 49 rfl) (H 9 rfl) (by decide) (by decide)) (g := (mkF m 14 #[rv ra] [(.int (0 : Int32)), (.ref as4), (.ref ra)])) rfl (by rw [hml]; rfl) (Steps.refl _) (a := ra) (by rw [e4]; exact q5) q5' (argsL := [(.ref as4), (.int (0 : Int32))]) (rest := []) (lenOf pd_31 rfl) rfl (by show 2 * 0 + _ ≤ _; exact Nat.le_of_eq rfl) (D d6_14) (fun _ _ => ⟨rfl, e4, (by decide : 2 + 1 ≤ _), (by decide : 52 + 2 ≤ _)⟩)
  dsimp only [Pt.U, Pt.locs, Pt.cells, Pt.slots] at X5 l5 y5 z5 st5 hQ5
  replace y5 : k5 = 3 := y5
  replace z5 : n5 = 54 := z5
  replace l5 := l5.symm; replace y5 := y5.symm; replace z5 := z5.symm; subst l5 y5 z5
  obtain ⟨rfl, N5q, K5, A5_o0, F5_o0, F5_o1, F5_o2, R5, R5_0, R5_1⟩ := hQ5
  obtain ⟨h5, e5⟩ : ∃ z, T5.heap = z := ⟨_, rfl⟩
  rw [e5] at K5 A5_o0 F5_o0 F5_o1 F5_o2 R5 R5_0 R5_1
  obtain ⟨a5, g5⟩ : ∃ z, z = h4.size := ⟨_, rfl⟩
  rw [← g5] at R5 R5_0 R5_1 st5
  have ne_la_a5 : la ≠ a5 := g5 ▸ Nat.ne_of_lt V4_la.lt
  have ne_ra_a5 : ra ≠ a5 := g5 ▸ Nat.ne_of_lt A4_ra.lt
  have ge_a5 : n0 ≤ a5 := g5 ▸ sz4
  have go_a5 : h0.size ≤ a5 := g5 ▸ K4.1
  have V5_la := V4_la.keep K5 (ninS PN0 nin0)
  have A5_ra := A4_ra.keep K5
  have sz5 : n0 ≤ h5.size := Nat.le_trans sz4 K5.1
  have kz5 := Nat.le_trans kz4q K5.1
  have KK5 : Keep h0 h5 [ra] := K4.trans K5 (allS (Or.inl (by simp)) all0)
  have N5 := Fr.app N2 N5q
  obtain ⟨cq6, kq6, q6a, q6b, q6c⟩ := isOf hZ e5 R5
  obtain ⟨_, _, ⟨T6, L6, k6, n6⟩, -, X6, ⟨Lc6, hQ6, l6, y6, z6⟩, st6⟩ := X5.virtualBack hx (y := (⟨"com/example/tributary/tributary/model/Time", "value", "()J"⟩ : MethodName)) (z := (⟨"com/example/tributary/tributary/model/Time", "value", "()J"⟩ : MethodName)) hown (mvT hZ (H 89 rfl)) (mvT hZ (H 90 rfl)) (notFace_of_selects (args := #[]) (mvT hZ (H 92 rfl))) (mvT hZ (H 92 rfl)) (mvT hZ (H 91 rfl)) (by decide) (backOf (W := 0) (rm15 l Z a0 hw [] a5 ((own_num bs ((ls + (1 : Int32))) kn)) h5 n0 sz5 R5 R5_1 R5_0 ) hZ (H 93 rfl) (H 56 rfl) (by decide) (by decide)) q6a q6c (g := (mkF m 17 #[rv ra] [(.ref a5)])) rfl (by rw [hml]; rfl) (Steps.refl _) (argsL := []) (rest := []) (lenOf pd_32 rfl) rfl (by show 2 * 0 + _ ≤ _; exact Nat.le_of_eq rfl) (D d6_17) (fun _ _ => ⟨rfl, e5, (by decide : 3 + 0 ≤ _), (by decide : 54 + 0 ≤ _)⟩)
  dsimp only [Pt.U, Pt.locs, Pt.cells, Pt.slots] at X6 l6 y6 z6 st6 hQ6
  replace y6 : k6 = 3 := y6
  replace z6 : n6 = 54 := z6
  replace l6 := l6.symm; replace y6 := y6.symm; replace z6 := z6.symm; subst l6 y6 z6
  obtain ⟨rfl, N6q, e6⟩ := hQ6
  have N6 := Fr.app N5 N6q
  obtain ⟨fs, hr, hrun, hended, hEw⟩ := X6.leaveW S4 (Nat.le_trans kz5 (Nat.le_of_eq (congrArg Array.size e6.symm))) (v := some (.long (own_num bs ((ls + (1 : Int32))) kn))) (fun h => by rw [Bd.returns] at h; cases h) hlk
  refine ⟨_, _, pre3 _ ?_, hrun, hended, _, _, rfl, ?_, hEw.1, hEw.2.1, hEw.2.2.1, hEw.2.2.2.mono (by decide) (by decide)⟩
  · show Steps p.tables e below (T2.setTop (mkF m 11 #[rv ra] [(.ref ra)])) _
    refine st4 _ ?_
    refine XS.iconst X4.here hx rfl (D d6_13) ?_
    refine st5.trans ?_
    refine st6.trans ?_
    show Steps p.tables e below (T6.setTop (mkF m 20 #[rv ra] [(.long (own_num bs ((ls + (1 : Int32))) kn))])) _
    exact X6.lreturnOut hx Bd.returns (D d6_20) hr
  · show Q6 Z ra la bs ls le oc kn h0 n0 _ T6.heap _
    rw [e6]
    exact ⟨rfl, N6, KK5, A5_o0, F5_o0, F5_o1, F5_o2⟩
theorem d20_0 : decode jdk_31_method_11_code 0 = .ok (.aload_n 0, 1) := by decide +kernel
theorem d20_1 : decode jdk_31_method_11_code 1 = .ok (.ifnonnull 12, 3) := by decide +kernel
theorem d20_4 : decode jdk_31_method_11_code 4 = .ok (.new 84, 3) := by decide +kernel
theorem d20_7 : decode jdk_31_method_11_code 7 = .ok (.dup, 1) := by decide +kernel
theorem d20_8 : decode jdk_31_method_11_code 8 = .ok (.aload_n 1, 1) := by decide +kernel
theorem d20_9 : decode jdk_31_method_11_code 9 = .ok (.invokespecial 87, 3) := by decide +kernel
theorem d20_12 : decode jdk_31_method_11_code 12 = .ok (.athrow, 1) := by decide +kernel
theorem d20_13 : decode jdk_31_method_11_code 13 = .ok (.aload_n 0, 1) := by decide +kernel
theorem d20_14 : decode jdk_31_method_11_code 14 = .ok (.areturn, 1) := by decide +kernel
theorem ef_20 (m : MethodId) (ra : Addr) (rs : Addr) : entryFrame m #[(.ref ra), (.ref rs)] 2 = mkF m 0 #[rv ra, rv rs] [] := by first | (simp [entryFrame, mkF, argsToLocals, Value.category, maxLocals]; done) | rfl
def Q20 (Z : State) (ra : Addr) (rs : Addr)  (h0 : Heap) (n0 : Nat) (v : Option Value) (h : Heap) (L : List Loc) : Prop := v = some (.ref ra) ∧ Fr n0 L ∧ h = h0
set_option maxRecDepth 65536 in
set_option maxHeartbeats 40000000 in
theorem rm20 (l : Launch) (Z : State) (a0 : Array Value) (hw : ∀ d ∈ tables_1, d.before a0 Z = true) (ws : List Jvm.Cond) (ra : Addr) (rs : Addr)  (h0 : Heap) (n0 : Nat) (Z0 : n0 ≤ h0.size)  :
    MetFree l (⟨"java/util/Objects", "requireNonNull", "(Ljava/lang/Object;Ljava/lang/String;)Ljava/lang/Object;"⟩ : MethodName) (head1 (Jvm.Cond.code (⟨"java/util/Objects", "requireNonNull", "(Ljava/lang/Object;Ljava/lang/String;)Ljava/lang/Object;"⟩ : MethodName) jdk_31_method_11_code 2 (some (.object "java/lang/Object")) :: ws) ({ frames := 0, cells := 0, slots := 0, locals := 0 } : Room)) (fun a U => a = #[(.ref ra), (.ref rs)] ∧ Z.Warmed39 U.vm ∧ U.heap = h0) (fun _ _ _ _ _ => True) (fun _ U o U' => ∃ v L, o = .returned v ∧ Q20 Z ra rs h0 n0 v U'.heap L ∧ FrameEnd U o U' L ({ frames := 0, cells := 0, slots := 0, locals := 0 } : Room).cells ({ frames := 0, cells := 0, slots := 0, locals := 0 } : Room).slots) := by
  refine MetFree.of_bodySF (plainFor_of_name pn_15) hisR ?_
  intro p e s m args below meth c s₁ Bd hml0 hP hK
  obtain ⟨rfl, hZ, hh⟩ := hP
  have hx := Bd.exec
  have hby := Bd.bytes
  have hml : c.maxLocals = 2 := hml0
  have hown : s.vm.findClass "java/util/Objects" = some m.cls := findClass_of_methodNamed Bd.named
  have hnm := (name_of_methodNamed Bd.named Bd.method).1
  have X0 : Stand p l e ({ frames := 0, cells := 0, slots := 0, locals := 0 } : Room) s m #[(.ref ra), (.ref rs)] below meth c s₁ [] 0 0 := Stand.of_body Bd
  have hlk : meth.locks = false := by first | exact BodyLoose.notSynchronized (by assumption) | exact Body.notSynchronized (by assumption)
  have e0 : s₁.heap = h0 := by rw [← hh, Bd.state]; rfl
  have N0 := Fr.nil n0
  have pre0 : ∀ t, Steps p.tables e below (s₁.setTop (mkF m 0 #[rv ra, rv rs] [])) t → Steps p.tables e below (s₁.setTop (entryFrame m #[(.ref ra), (.ref rs)] 2)) t := fun t k => castTop (ef_20 m ra rs) k
  generalize s₁.setTop (entryFrame m #[(.ref ra), (.ref rs)] 2) = B0 at pre0 ⊢
  have H : ∀ (i : Nat) {d : Jvm.Cond}, tables_1[i]? = some d → d.before a0 Z = true := fun i d q => hw d (List.mem_of_getElem? q)
  have D : ∀ {pc : Nat} {r : Except DecodeError (Instr × Nat)}, decode jdk_31_method_11_code pc = r → decode c.code pc = r := fun q => hb hby q
  obtain ⟨fs, hr, hrun, hended, hW, hsame⟩ := X0.leave (v := some (.ref ra)) (fun h => by rw [Bd.returns] at h; cases h) hlk
  refine ⟨_, _, pre0 _ ?_, hrun, hended, _, _, rfl, ?_, ⟨_, rfl⟩, hW, hsame.mono (by decide) (by decide)⟩
  · show Steps p.tables e below (s₁.setTop (mkF m 0 #[rv ra, rv rs] [])) _
    refine XS.aloadN X0.here hx rfl (D d20_0) rfl rfl ?_
    show Steps p.tables e below (s₁.setTop (mkF m 1 #[rv ra, rv rs] [(.ref ra)])) _
    refine XS.ifnonnullYes X0.here hx rfl (pc0 := 1) (pc' := 13) rfl (D d20_1) rfl (by decide) (by decide) ?_
    refine XS.aloadN X0.here hx rfl (D d20_13) rfl rfl ?_
    show Steps p.tables e below (s₁.setTop (mkF m 14 #[rv ra, rv rs] [(.ref ra)])) _
    exact retOut X0 hx Bd.returns rfl (Or.inr (Or.inr (Or.inr (Or.inr ⟨rfl, rfl, rfl⟩)))) (D d20_14) hr
  · show Q20 Z ra rs h0 n0 _ s₁.heap _
    rw [e0]
    exact ⟨rfl, N0, rfl⟩
theorem d19_0 : decode jdk_30_method_1_code 0 = .ok (.aload_n 0, 1) := by decide +kernel
theorem d19_1 : decode jdk_30_method_1_code 1 = .ok (.invokespecial 1, 3) := by decide +kernel
theorem d19_4 : decode jdk_30_method_1_code 4 = .ok (.return_, 1) := by decide +kernel
theorem pn_35 : plainName "java/lang/Record" = true := by first | (simp [plainName, overriddenIn]; done) | decide +kernel
theorem ef_19 (m : MethodId) (ra : Addr) : entryFrame m #[(.ref ra)] 1 = mkF m 0 #[rv ra] [] := by first | (simp [entryFrame, mkF, argsToLocals, Value.category, maxLocals]; done) | rfl
def Q19 (Z : State) (ra : Addr)  (h0 : Heap) (n0 : Nat) (v : Option Value) (h : Heap) (L : List Loc) : Prop := v = none ∧ Fr n0 L ∧ h = h0
set_option maxRecDepth 65536 in
set_option maxHeartbeats 40000000 in
theorem rm19 (l : Launch) (Z : State) (a0 : Array Value) (hw : ∀ d ∈ tables_1, d.before a0 Z = true) (ws : List Jvm.Cond) (ra : Addr)  (h0 : Heap) (n0 : Nat) (Z0 : n0 ≤ h0.size)  :
    MetFree l (⟨"java/lang/Record", "<init>", "()V"⟩ : MethodName) (head1 (Jvm.Cond.code (⟨"java/lang/Record", "<init>", "()V"⟩ : MethodName) jdk_30_method_1_code 1 none :: ws) ({ frames := 1, cells := 0, slots := 0, locals := 12 } : Room)) (fun a U => a = #[(.ref ra)] ∧ Z.Warmed39 U.vm ∧ U.heap = h0) (fun _ _ _ _ _ => True) (fun _ U o U' => ∃ v L, o = .returned v ∧ Q19 Z ra h0 n0 v U'.heap L ∧ FrameEnd U o U' L ({ frames := 1, cells := 0, slots := 0, locals := 12 } : Room).cells ({ frames := 1, cells := 0, slots := 0, locals := 12 } : Room).slots) := by
  refine MetFree.of_bodySF (plainFor_of_name pn_35) hisR ?_
  intro p e s m args below meth c s₁ Bd hml0 hP hK
  obtain ⟨rfl, hZ, hh⟩ := hP
  have hx := Bd.exec
  have hby := Bd.bytes
  have hml : c.maxLocals = 1 := hml0
  have hown : s.vm.findClass "java/lang/Record" = some m.cls := findClass_of_methodNamed Bd.named
  have hnm := (name_of_methodNamed Bd.named Bd.method).1
  have X0 : Stand p l e ({ frames := 1, cells := 0, slots := 0, locals := 12 } : Room) s m #[(.ref ra)] below meth c s₁ [] 0 0 := Stand.of_body Bd
  have hlk : meth.locks = false := by first | exact BodyLoose.notSynchronized (by assumption) | exact Body.notSynchronized (by assumption)
  have e0 : s₁.heap = h0 := by rw [← hh, Bd.state]; rfl
  have N0 := Fr.nil n0
  have pre0 : ∀ t, Steps p.tables e below (s₁.setTop (mkF m 0 #[rv ra] [])) t → Steps p.tables e below (s₁.setTop (entryFrame m #[(.ref ra)] 1)) t := fun t k => castTop (ef_19 m ra) k
  generalize s₁.setTop (entryFrame m #[(.ref ra)] 1) = B0 at pre0 ⊢
  have H : ∀ (i : Nat) {d : Jvm.Cond}, tables_1[i]? = some d → d.before a0 Z = true := fun i d q => hw d (List.mem_of_getElem? q)
  have D : ∀ {pc : Nat} {r : Except DecodeError (Instr × Nat)}, decode jdk_30_method_1_code pc = r → decode c.code pc = r := fun q => hb hby q
  obtain ⟨T1, X1, e1, st1⟩ := initO X0 hx hZ hown (H 114 rfl) (H 14 rfl) (H 15 rfl) e0 (g := (mkF m 1 #[rv ra] [(.ref ra)])) rfl (by rw [hml]; rfl) rfl (D d19_1) (by decide) (W := 0) (by show 2 * 0 + _ ≤ _; exact Nat.le_of_eq rfl) (by decide)
  obtain ⟨fs, hr, hrun, hended, hW, hsame⟩ := X1.leave (v := none) (fun _ => rfl) hlk
  refine ⟨_, _, pre0 _ ?_, hrun, hended, _, _, rfl, ?_, ⟨_, rfl⟩, hW, hsame.mono (by decide) (by decide)⟩
  · show Steps p.tables e below (s₁.setTop (mkF m 0 #[rv ra] [])) _
    refine XS.aloadN X0.here hx rfl (D d19_0) rfl rfl ?_
    refine st1 _ ?_
    show Steps p.tables e below (T1.setTop (mkF m 4 #[rv ra] [])) _
    exact X1.returnOut hx Bd.returns (D d19_4) hr
  · show Q19 Z ra h0 n0 _ T1.heap _
    rw [e1]
    exact ⟨rfl, N0, rfl⟩
theorem d18_0 : decode prog_60_method_1_code 0 = .ok (.aload_n 0, 1) := by decide +kernel
theorem d18_1 : decode prog_60_method_1_code 1 = .ok (.invokespecial 1, 3) := by decide +kernel
theorem d18_4 : decode prog_60_method_1_code 4 = .ok (.aload_n 1, 1) := by decide +kernel
theorem d18_5 : decode prog_60_method_1_code 5 = .ok (.ldc 7, 2) := by decide +kernel
theorem d18_7 : decode prog_60_method_1_code 7 = .ok (.invokestatic 9, 3) := by decide +kernel
theorem d18_10 : decode prog_60_method_1_code 10 = .ok (.pop, 1) := by decide +kernel
theorem d18_11 : decode prog_60_method_1_code 11 = .ok (.aload_n 0, 1) := by decide +kernel
theorem d18_12 : decode prog_60_method_1_code 12 = .ok (.aload_n 1, 1) := by decide +kernel
theorem d18_13 : decode prog_60_method_1_code 13 = .ok (.putfield 15, 3) := by decide +kernel
theorem d18_16 : decode prog_60_method_1_code 16 = .ok (.return_, 1) := by decide +kernel
theorem pn_37 : plainName "com/example/tributary/tributary/model/Stable" = true := by first | (simp [plainName, overriddenIn]; done) | decide +kernel
theorem ef_18 (m : MethodId) (ra : Addr) (tm : Addr) : entryFrame m #[(.ref ra), (.ref tm)] 2 = mkF m 0 #[rv ra, rv tm] [] := by first | (simp [entryFrame, mkF, argsToLocals, Value.category, maxLocals]; done) | rfl
theorem pd_38 : parseMethodDescriptor "()V" = some ⟨[], none⟩ := by decide +kernel
theorem pd_39 : parseMethodDescriptor "(Ljava/lang/Object;Ljava/lang/String;)Ljava/lang/Object;" = some ⟨[(.object "java/lang/Object"), (.object "java/lang/String")], some (.object "java/lang/Object")⟩ := by decide +kernel
def Q18 (Z : State) (ra : Addr) (tm : Addr)  (h0 : Heap) (n0 : Nat) (v : Option Value) (h : Heap) (L : List Loc) : Prop := v = none ∧ Fr n0 L ∧ Keep h0 h [ra] ∧ Exa Z h ra "com/example/tributary/tributary/model/Stable" ∧ Fld Z h ra "com/example/tributary/tributary/model/Stable" "time" "Lcom/example/tributary/tributary/model/Time;" (.ref tm)
set_option maxRecDepth 65536 in
set_option maxHeartbeats 40000000 in
theorem rm18 (l : Launch) (Z : State) (a0 : Array Value) (hw : ∀ d ∈ tables_1, d.before a0 Z = true) (ws : List Jvm.Cond) (ra : Addr) (tm : Addr)  (h0 : Heap) (n0 : Nat) (Z0 : n0 ≤ h0.size) (PE0 : Exa Z h0 ra "com/example/tributary/tributary/model/Stable") (PF0 : Fld Z h0 ra "com/example/tributary/tributary/model/Stable" "time" "Lcom/example/tributary/tributary/model/Time;" .null) (PG0 : n0 ≤ ra) :
    MetFree l (⟨"com/example/tributary/tributary/model/Stable", "<init>", "(Lcom/example/tributary/tributary/model/Time;)V"⟩ : MethodName) (head1 (Jvm.Cond.code (⟨"com/example/tributary/tributary/model/Stable", "<init>", "(Lcom/example/tributary/tributary/model/Time;)V"⟩ : MethodName) prog_60_method_1_code 2 none :: ws) ({ frames := 2, cells := 2, slots := 20, locals := 24 } : Room)) (fun a U => a = #[(.ref ra), (.ref tm)] ∧ Z.Warmed39 U.vm ∧ U.heap = h0) (fun _ _ _ _ _ => True) (fun _ U o U' => ∃ v L, o = .returned v ∧ Q18 Z ra tm h0 n0 v U'.heap L ∧ ReturnedEndW U o U' L ({ frames := 2, cells := 2, slots := 20, locals := 24 } : Room).cells ({ frames := 2, cells := 2, slots := 20, locals := 24 } : Room).slots) := by
  refine MetFree.of_bodySF (plainFor_of_name pn_37) hisR ?_
  intro p e s m args below meth c s₁ Bd hml0 hP hK
  obtain ⟨rfl, hZ, hh⟩ := hP
  have hx := Bd.exec
  have hby := Bd.bytes
  have hml : c.maxLocals = 2 := hml0
  have hown : s.vm.findClass "com/example/tributary/tributary/model/Stable" = some m.cls := findClass_of_methodNamed Bd.named
  have hnm := (name_of_methodNamed Bd.named Bd.method).1
  have hZ : Z.Warmed39 (s.setVm s.vm).vm := hZ
  have hown : (s.setVm s.vm).vm.findClass "com/example/tributary/tributary/model/Stable" = some m.cls := hown
  have S0 : s.Since s.vm 0 := (State.WarmedH.refl s).since 0
  have kz0 : 0 ≤ h0.size := Nat.zero_le _
  have X0 : Stand p l e ({ frames := 2, cells := 2, slots := 20, locals := 24 } : Room) (s.setVm s.vm) m #[(.ref ra), (.ref tm)] below meth c s₁ [] 0 0 := Stand.of_body Bd
  have hlk : meth.locks = false := by first | exact BodyLoose.notSynchronized (by assumption) | exact Body.notSynchronized (by assumption)
  have e0 : s₁.heap = h0 := by rw [← hh, Bd.state]; rfl
  have N0 := Fr.nil n0
  have pre0 : ∀ t, Steps p.tables e below (s₁.setTop (mkF m 0 #[rv ra, rv tm] [])) t → Steps p.tables e below (s₁.setTop (entryFrame m #[(.ref ra), (.ref tm)] 2)) t := fun t k => castTop (ef_18 m ra tm) k
  generalize s₁.setTop (entryFrame m #[(.ref ra), (.ref tm)] 2) = B0 at pre0 ⊢
  have H : ∀ (i : Nat) {d : Jvm.Cond}, tables_1[i]? = some d → d.before a0 Z = true := fun i d q => hw d (List.mem_of_getElem? q)
  have D : ∀ {pc : Nat} {r : Except DecodeError (Instr × Nat)}, decode prog_60_method_1_code pc = r → decode c.code pc = r := fun q => hb hby q
  obtain ⟨_, _, ⟨T1, L1, k1, n1⟩, -, X1, ⟨Lc1, hQ1, l1, y1, z1⟩, st1⟩ := X0.specialBack hx (y := (⟨"java/lang/Record", "<init>", "()V"⟩ : MethodName)) rfl hown (mvT hZ (H 109 rfl)) (mvT hZ (H 110 rfl)) (mvT hZ (H 113 rfl)) (by decide) (backOf (W := 0) (rm19 l Z a0 hw [] ra  h0 n0 Z0 ) hZ (H 113 rfl) (H 112 rfl) (by decide) (by decide)) (g := (mkF m 1 #[rv ra, rv tm] [(.ref ra)])) rfl (by rw [hml]; rfl) (Steps.refl _) (a := ra) (argsL := []) (rest := []) (lenOf pd_38 rfl) rfl (by show 2 * 0 + _ ≤ _; exact Nat.le_of_eq rfl) (D d18_1) (fun _ _ => ⟨rfl, e0, (by decide : 0 + 0 ≤ _), (by decide : 0 + 0 ≤ _)⟩)
  dsimp only [Pt.U, Pt.locs, Pt.cells, Pt.slots] at X1 l1 y1 z1 st1 hQ1
  replace y1 : k1 = 0 := y1
  replace z1 : n1 = 0 := z1
  replace l1 := l1.symm; replace y1 := y1.symm; replace z1 := z1.symm; subst l1 y1 z1
  obtain ⟨rfl, N1q, e1⟩ := hQ1
  have N1 := Fr.app N0 N1q
  have pre2 : ∀ t, Steps p.tables e below (T1.setTop (mkF m 5 #[rv ra, rv tm] [(.ref tm)])) t → Steps p.tables e below B0 t := by
    intro t k
    refine pre0 t ?_
    show Steps p.tables e below (s₁.setTop (mkF m 0 #[rv ra, rv tm] [])) _
    refine XS.aloadN X0.here hx rfl (D d18_0) rfl rfl ?_
    refine st1.trans ?_
    refine XS.aloadN X1.here hx rfl (D d18_4) rfl rfl ?_
    exact k
  clear st1 N1q
  obtain ⟨as3, T3, h3, kk3, X3, e3, E3, S3, kz3q, hZ, hown, st3⟩ := ldcS X1 hx hZ hown (H 115 rfl) (own_strAtoms hw) e1 S0 kz0 (g := (mkF m 5 #[rv ra, rv tm] [(.ref tm)])) rfl (D d18_5) (n := 16) (by decide) (by decide) (by decide) (by decide)
  have A3_ra := PE0.ext E3
  have F3_ra_0 := PF0.ext E3
  have sz3 := Nat.le_trans Z0 E3.1
  have kz3 := Nat.le_trans kz0 E3.1
  have K3 : Keep h0 h3 [ra] := (Keep.refl h0 [ra]).ext E3
  obtain ⟨_, _, ⟨T4, L4, k4, n4⟩, -, X4, ⟨Lc4, hQ4, l4, y4, z4⟩, st4⟩ := Jvm.LawKit.callS X3 hx (y := (⟨"java/util/Objects", "requireNonNull", "(Ljava/lang/Object;Ljava/lang/String;)Ljava/lang/Object;"⟩ : MethodName)) hown (mvT hZ (H 116 rfl)) (mvT hZ (H 117 rfl)) (mvT hZ (H 60 rfl)) (mvT hZ (H 118 rfl)) (by decide) (backOf (W := 0) (rm20 l Z a0 hw [] tm as3  h3 n0 sz3 ) hZ (H 118 rfl) (H 60 rfl) (by decide) (by decide)) (g := (mkF m 7 #[rv ra, rv tm] [(.ref as3), (.ref tm)])) rfl (by rw [hml]; rfl) (argsL := [(.ref tm), (.ref as3)]) (rest := []) (lenOf pd_39 rfl) rfl (by show 2 * 0 + _ ≤ _; exact Nat.le_of_eq rfl) (D d18_7) (fun _ _ => ⟨rfl, e3, (by decide : 2 + 0 ≤ _), (by decide : 20 + 0 ≤ _)⟩)
  dsimp only [Pt.U, Pt.locs, Pt.cells, Pt.slots] at X4 l4 y4 z4 st4 hQ4
  replace y4 : k4 = 2 := y4
  replace z4 : n4 = 20 := z4
  replace l4 := l4.symm; replace y4 := y4.symm; replace z4 := z4.symm; subst l4 y4 z4
  obtain ⟨rfl, N4q, e4⟩ := hQ4
  have N4 := Fr.app N1 N4q
  obtain ⟨T5, h5, X5, e5, W5, st5⟩ := putF X4 hx hZ hown (host := "") (Or.inl (H 119 rfl)) Via.refl e4 F3_ra_0 A3_ra (Or.inr ⟨(H 120 rfl), rfl, hnm⟩) (H 103 rfl) (ty := (.object "com/example/tributary/tributary/model/Time")) (by decide) rfl rfl (g := (mkF m 13 #[rv ra, rv tm] [(.ref tm), (.ref ra)])) rfl rfl (D d18_13)
  have A5_ra := A3_ra.wr W5
  have sz5 := Nat.le_trans sz3 (Keep.of_wr W5).1
  have kz5 := Nat.le_trans kz3q (Keep.of_wr W5).1
  have K5 := K3.wr W5 (Or.inl (by simp))
  have N5 := Fr.snoc X5 N4 PG0
  have F5_s : Fld Z h5 ra "com/example/tributary/tributary/model/Stable" "time" "Lcom/example/tributary/tributary/model/Time;" (.ref tm) := F3_ra_0.same W5
  obtain ⟨fs, hr, hrun, hended, hEw⟩ := X5.leaveW S3 (Nat.le_trans kz5 (Nat.le_of_eq (congrArg Array.size e5.symm))) (v := none) (fun _ => rfl) hlk
  refine ⟨_, _, pre2 _ ?_, hrun, hended, _, _, rfl, ?_, hEw.1, hEw.2.1, hEw.2.2.1, hEw.2.2.2.mono (by decide) (by decide)⟩
  · show Steps p.tables e below (T1.setTop (mkF m 5 #[rv ra, rv tm] [(.ref tm)])) _
    refine st3 _ ?_
    refine st4 _ ?_
    refine XS.pop X4.here hx rfl (D d18_10) rfl rfl ?_
    refine XS.aloadN X4.here hx rfl (D d18_11) rfl rfl ?_
    show Steps p.tables e below (T4.setTop (mkF m 12 #[rv ra, rv tm] [(.ref ra)])) _
    refine XS.aloadN X4.here hx rfl (D d18_12) rfl rfl ?_
    refine st5 _ ?_
    show Steps p.tables e below (T5.setTop (mkF m 16 #[rv ra, rv tm] [])) _
    exact X5.returnOut hx Bd.returns (D d18_16) hr
  · show Q18 Z ra tm h0 n0 _ T5.heap _
    rw [e5]
    exact ⟨rfl, N5, K5, A5_ra, F5_s⟩
theorem d21_0 : decode prog_60_method_5_code 0 = .ok (.aload_n 0, 1) := by decide +kernel
theorem d21_1 : decode prog_60_method_5_code 1 = .ok (.getfield 15, 3) := by decide +kernel
theorem d21_4 : decode prog_60_method_5_code 4 = .ok (.areturn, 1) := by decide +kernel
theorem ef_21 (m : MethodId) (ra : Addr) : entryFrame m #[(.ref ra)] 1 = mkF m 0 #[rv ra] [] := by first | (simp [entryFrame, mkF, argsToLocals, Value.category, maxLocals]; done) | rfl
def Q21 (Z : State) (ra : Addr) (tm : Addr) (h0 : Heap) (n0 : Nat) (v : Option Value) (h : Heap) (L : List Loc) : Prop := v = some (.ref tm) ∧ Fr n0 L ∧ h = h0
set_option maxRecDepth 65536 in
set_option maxHeartbeats 40000000 in
theorem rm21 (l : Launch) (Z : State) (a0 : Array Value) (hw : ∀ d ∈ tables_1, d.before a0 Z = true) (ws : List Jvm.Cond) (ra : Addr) (tm : Addr) (h0 : Heap) (n0 : Nat) (Z0 : n0 ≤ h0.size) (PE0 : Exa Z h0 ra "com/example/tributary/tributary/model/Stable") (PF0 : Fld Z h0 ra "com/example/tributary/tributary/model/Stable" "time" "Lcom/example/tributary/tributary/model/Time;" (.ref tm)) :
    MetFree l (⟨"com/example/tributary/tributary/model/Stable", "time", "()Lcom/example/tributary/tributary/model/Time;"⟩ : MethodName) (head1 (Jvm.Cond.code (⟨"com/example/tributary/tributary/model/Stable", "time", "()Lcom/example/tributary/tributary/model/Time;"⟩ : MethodName) prog_60_method_5_code 1 (some (.object "com/example/tributary/tributary/model/Time")) :: ws) ({ frames := 0, cells := 0, slots := 0, locals := 0 } : Room)) (fun a U => a = #[(.ref ra)] ∧ Z.Warmed39 U.vm ∧ U.heap = h0) (fun _ _ _ _ _ => True) (fun _ U o U' => ∃ v L, o = .returned v ∧ Q21 Z ra tm h0 n0 v U'.heap L ∧ FrameEnd U o U' L ({ frames := 0, cells := 0, slots := 0, locals := 0 } : Room).cells ({ frames := 0, cells := 0, slots := 0, locals := 0 } : Room).slots) := by
  refine MetFree.of_bodySF (plainFor_of_name pn_37) hisR ?_
  intro p e s m args below meth c s₁ Bd hml0 hP hK
  obtain ⟨rfl, hZ, hh⟩ := hP
  have hx := Bd.exec
  have hby := Bd.bytes
  have hml : c.maxLocals = 1 := hml0
  have hown : s.vm.findClass "com/example/tributary/tributary/model/Stable" = some m.cls := findClass_of_methodNamed Bd.named
  have hnm := (name_of_methodNamed Bd.named Bd.method).1
  have X0 : Stand p l e ({ frames := 0, cells := 0, slots := 0, locals := 0 } : Room) s m #[(.ref ra)] below meth c s₁ [] 0 0 := Stand.of_body Bd
  have hlk : meth.locks = false := by first | exact BodyLoose.notSynchronized (by assumption) | exact Body.notSynchronized (by assumption)
  have e0 : s₁.heap = h0 := by rw [← hh, Bd.state]; rfl
  have N0 := Fr.nil n0
  have pre0 : ∀ t, Steps p.tables e below (s₁.setTop (mkF m 0 #[rv ra] [])) t → Steps p.tables e below (s₁.setTop (entryFrame m #[(.ref ra)] 1)) t := fun t k => castTop (ef_21 m ra) k
  generalize s₁.setTop (entryFrame m #[(.ref ra)] 1) = B0 at pre0 ⊢
  have H : ∀ (i : Nat) {d : Jvm.Cond}, tables_1[i]? = some d → d.before a0 Z = true := fun i d q => hw d (List.mem_of_getElem? q)
  have D : ∀ {pc : Nat} {r : Except DecodeError (Instr × Nat)}, decode prog_60_method_5_code pc = r → decode c.code pc = r := fun q => hb hby q
  obtain ⟨T1, X1, e1, st1⟩ := getF X0 hx hZ hown (host := "") (Or.inl (H 119 rfl)) Via.refl e0 PF0 (g := (mkF m 1 #[rv ra] [(.ref ra)])) rfl rfl (D d21_1)
  obtain ⟨fs, hr, hrun, hended, hW, hsame⟩ := X1.leave (v := some (.ref tm)) (fun h => by rw [Bd.returns] at h; cases h) hlk
  refine ⟨_, _, pre0 _ ?_, hrun, hended, _, _, rfl, ?_, ⟨_, rfl⟩, hW, hsame.mono (by decide) (by decide)⟩
  · show Steps p.tables e below (s₁.setTop (mkF m 0 #[rv ra] [])) _
    refine XS.aloadN X0.here hx rfl (D d21_0) rfl rfl ?_
    refine st1 _ ?_
    show Steps p.tables e below (T1.setTop (mkF m 4 #[rv ra] [(.ref tm)])) _
    exact retOut X1 hx Bd.returns rfl (Or.inr (Or.inr (Or.inr (Or.inr ⟨rfl, rfl, rfl⟩)))) (D d21_4) hr
  · show Q21 Z ra tm h0 n0 _ T1.heap _
    rw [e1]
    exact ⟨rfl, N0, rfl⟩
theorem d17_0 : decode prog_36_method_8_code 0 = .ok (.aload_n 0, 1) := by decide +kernel
theorem d17_1 : decode prog_36_method_8_code 1 = .ok (.getfield 72, 3) := by decide +kernel
theorem d17_4 : decode prog_36_method_8_code 4 = .ok (.aload_n 0, 1) := by decide +kernel
theorem d17_5 : decode prog_36_method_8_code 5 = .ok (.getfield 75, 3) := by decide +kernel
theorem d17_8 : decode prog_36_method_8_code 8 = .ok (.isub, 1) := by decide +kernel
theorem d17_9 : decode prog_36_method_8_code 9 = .ok (.iconst 2, 1) := by decide +kernel
theorem d17_10 : decode prog_36_method_8_code 10 = .ok (.if_icmp .lt 31, 3) := by decide +kernel
theorem d17_13 : decode prog_36_method_8_code 13 = .ok (.aload_n 0, 1) := by decide +kernel
theorem d17_14 : decode prog_36_method_8_code 14 = .ok (.getfield 64, 3) := by decide +kernel
theorem d17_17 : decode prog_36_method_8_code 17 = .ok (.aload_n 0, 1) := by decide +kernel
theorem d17_18 : decode prog_36_method_8_code 18 = .ok (.getfield 75, 3) := by decide +kernel
theorem d17_21 : decode prog_36_method_8_code 21 = .ok (.iconst 1, 1) := by decide +kernel
theorem d17_22 : decode prog_36_method_8_code 22 = .ok (.iadd, 1) := by decide +kernel
theorem d17_23 : decode prog_36_method_8_code 23 = .ok (.baload, 1) := by decide +kernel
theorem d17_24 : decode prog_36_method_8_code 24 = .ok (.bipush 44, 2) := by decide +kernel
theorem d17_26 : decode prog_36_method_8_code 26 = .ok (.if_icmp .ne 15, 3) := by decide +kernel
theorem d17_29 : decode prog_36_method_8_code 29 = .ok (.aload_n 0, 1) := by decide +kernel
theorem d17_30 : decode prog_36_method_8_code 30 = .ok (.getfield 64, 3) := by decide +kernel
theorem d17_33 : decode prog_36_method_8_code 33 = .ok (.aload_n 0, 1) := by decide +kernel
theorem d17_34 : decode prog_36_method_8_code 34 = .ok (.getfield 75, 3) := by decide +kernel
theorem d17_37 : decode prog_36_method_8_code 37 = .ok (.baload, 1) := by decide +kernel
theorem d17_38 : decode prog_36_method_8_code 38 = .ok (.goto 4, 3) := by decide +kernel
theorem d17_41 : decode prog_36_method_8_code 41 = .ok (.iconst 0, 1) := by decide +kernel
theorem d17_42 : decode prog_36_method_8_code 42 = .ok (.istore_n 2, 1) := by decide +kernel
theorem d17_43 : decode prog_36_method_8_code 43 = .ok (.aload_n 0, 1) := by decide +kernel
theorem d17_44 : decode prog_36_method_8_code 44 = .ok (.dup, 1) := by decide +kernel
theorem d17_45 : decode prog_36_method_8_code 45 = .ok (.getfield 75, 3) := by decide +kernel
theorem d17_48 : decode prog_36_method_8_code 48 = .ok (.iconst 2, 1) := by decide +kernel
theorem d17_49 : decode prog_36_method_8_code 49 = .ok (.iadd, 1) := by decide +kernel
theorem d17_50 : decode prog_36_method_8_code 50 = .ok (.putfield 75, 3) := by decide +kernel
theorem d17_53 : decode prog_36_method_8_code 53 = .ok (.iload_n 2, 1) := by decide +kernel
theorem d17_54 : decode prog_36_method_8_code 54 = .ok (.lookupswitch 142 #[(65, 70), (73, 34), (83, 117)], 34) := by decide +kernel
theorem d17_88 : decode prog_36_method_8_code 88 = .ok (.aload_n 0, 1) := by decide +kernel
theorem d17_89 : decode prog_36_method_8_code 89 = .ok (.ldc 89, 2) := by decide +kernel
theorem d17_91 : decode prog_36_method_8_code 91 = .ok (.iconst 0, 1) := by decide +kernel
theorem d17_92 : decode prog_36_method_8_code 92 = .ok (.invokevirtual 80, 3) := by decide +kernel
theorem d17_95 : decode prog_36_method_8_code 95 = .ok (.astore_n 3, 1) := by decide +kernel
theorem d17_96 : decode prog_36_method_8_code 96 = .ok (.aload_n 0, 1) := by decide +kernel
theorem d17_97 : decode prog_36_method_8_code 97 = .ok (.ldc 91, 2) := by decide +kernel
theorem d17_99 : decode prog_36_method_8_code 99 = .ok (.iconst 1, 1) := by decide +kernel
theorem d17_100 : decode prog_36_method_8_code 100 = .ok (.invokevirtual 80, 3) := by decide +kernel
theorem d17_103 : decode prog_36_method_8_code 103 = .ok (.astore 4, 2) := by decide +kernel
theorem d17_105 : decode prog_36_method_8_code 105 = .ok (.new 93, 3) := by decide +kernel
theorem d17_108 : decode prog_36_method_8_code 108 = .ok (.dup, 1) := by decide +kernel
theorem d17_109 : decode prog_36_method_8_code 109 = .ok (.aload_n 3, 1) := by decide +kernel
theorem d17_110 : decode prog_36_method_8_code 110 = .ok (.aload 4, 2) := by decide +kernel
theorem d17_112 : decode prog_36_method_8_code 112 = .ok (.aload_n 0, 1) := by decide +kernel
theorem d17_113 : decode prog_36_method_8_code 113 = .ok (.aload_n 3, 1) := by decide +kernel
theorem d17_114 : decode prog_36_method_8_code 114 = .ok (.aload_n 1, 1) := by decide +kernel
theorem d17_115 : decode prog_36_method_8_code 115 = .ok (.invokevirtual 95, 3) := by decide +kernel
theorem d17_118 : decode prog_36_method_8_code 118 = .ok (.invokespecial 99, 3) := by decide +kernel
theorem d17_121 : decode prog_36_method_8_code 121 = .ok (.goto 81, 3) := by decide +kernel
theorem d17_124 : decode prog_36_method_8_code 124 = .ok (.aload_n 0, 1) := by decide +kernel
theorem d17_125 : decode prog_36_method_8_code 125 = .ok (.ldc 89, 2) := by decide +kernel
theorem d17_127 : decode prog_36_method_8_code 127 = .ok (.iconst 0, 1) := by decide +kernel
theorem d17_128 : decode prog_36_method_8_code 128 = .ok (.invokevirtual 80, 3) := by decide +kernel
theorem d17_131 : decode prog_36_method_8_code 131 = .ok (.astore_n 3, 1) := by decide +kernel
theorem d17_132 : decode prog_36_method_8_code 132 = .ok (.aload_n 0, 1) := by decide +kernel
theorem d17_133 : decode prog_36_method_8_code 133 = .ok (.ldc 102, 2) := by decide +kernel
theorem d17_135 : decode prog_36_method_8_code 135 = .ok (.iconst 1, 1) := by decide +kernel
theorem d17_136 : decode prog_36_method_8_code 136 = .ok (.invokevirtual 80, 3) := by decide +kernel
theorem d17_139 : decode prog_36_method_8_code 139 = .ok (.astore 4, 2) := by decide +kernel
theorem d17_141 : decode prog_36_method_8_code 141 = .ok (.aload_n 0, 1) := by decide +kernel
theorem d17_142 : decode prog_36_method_8_code 142 = .ok (.ldc 104, 2) := by decide +kernel
theorem d17_144 : decode prog_36_method_8_code 144 = .ok (.iconst 1, 1) := by decide +kernel
theorem d17_145 : decode prog_36_method_8_code 145 = .ok (.invokevirtual 80, 3) := by decide +kernel
theorem d17_148 : decode prog_36_method_8_code 148 = .ok (.astore 5, 2) := by decide +kernel
theorem d17_150 : decode prog_36_method_8_code 150 = .ok (.new 106, 3) := by decide +kernel
theorem d17_153 : decode prog_36_method_8_code 153 = .ok (.dup, 1) := by decide +kernel
theorem d17_154 : decode prog_36_method_8_code 154 = .ok (.aload_n 3, 1) := by decide +kernel
theorem d17_155 : decode prog_36_method_8_code 155 = .ok (.aload 4, 2) := by decide +kernel
theorem d17_157 : decode prog_36_method_8_code 157 = .ok (.aload 5, 2) := by decide +kernel
theorem d17_159 : decode prog_36_method_8_code 159 = .ok (.aload_n 0, 1) := by decide +kernel
theorem d17_160 : decode prog_36_method_8_code 160 = .ok (.aload_n 3, 1) := by decide +kernel
theorem d17_161 : decode prog_36_method_8_code 161 = .ok (.aload_n 1, 1) := by decide +kernel
theorem d17_162 : decode prog_36_method_8_code 162 = .ok (.invokevirtual 95, 3) := by decide +kernel
theorem d17_165 : decode prog_36_method_8_code 165 = .ok (.invokespecial 108, 3) := by decide +kernel
theorem d17_168 : decode prog_36_method_8_code 168 = .ok (.goto 34, 3) := by decide +kernel
theorem d17_171 : decode prog_36_method_8_code 171 = .ok (.new 111, 3) := by decide +kernel
theorem d17_174 : decode prog_36_method_8_code 174 = .ok (.dup, 1) := by decide +kernel
theorem d17_175 : decode prog_36_method_8_code 175 = .ok (.aload_n 0, 1) := by decide +kernel
theorem d17_176 : decode prog_36_method_8_code 176 = .ok (.ldc 113, 2) := by decide +kernel
theorem d17_178 : decode prog_36_method_8_code 178 = .ok (.aload_n 0, 1) := by decide +kernel
theorem d17_179 : decode prog_36_method_8_code 179 = .ok (.getfield 75, 3) := by decide +kernel
theorem d17_182 : decode prog_36_method_8_code 182 = .ok (.aload_n 0, 1) := by decide +kernel
theorem d17_183 : decode prog_36_method_8_code 183 = .ok (.getfield 72, 3) := by decide +kernel
theorem d17_186 : decode prog_36_method_8_code 186 = .ok (.iconst 1, 1) := by decide +kernel
theorem d17_187 : decode prog_36_method_8_code 187 = .ok (.invokevirtual 115, 3) := by decide +kernel
theorem d17_190 : decode prog_36_method_8_code 190 = .ok (.invokespecial 119, 3) := by decide +kernel
theorem d17_193 : decode prog_36_method_8_code 193 = .ok (.goto 9, 3) := by decide +kernel
theorem d17_196 : decode prog_36_method_8_code 196 = .ok (.ldc 122, 2) := by decide +kernel
theorem d17_198 : decode prog_36_method_8_code 198 = .ok (.invokestatic 124, 3) := by decide +kernel
theorem d17_201 : decode prog_36_method_8_code 201 = .ok (.athrow, 1) := by decide +kernel
theorem d17_202 : decode prog_36_method_8_code 202 = .ok (.areturn, 1) := by decide +kernel
theorem ef_17 (m : MethodId) (ra : Addr) : entryFrame m #[(.ref ra), .null] 6 = mkF m 0 #[rv ra, .val .null, u0, u0, u0, u0] [] := by first | (simp [entryFrame, mkF, argsToLocals, Value.category, maxLocals]; done) | rfl
theorem pd_42 : parseMethodDescriptor "(Lcom/example/tributary/tributary/model/Time;)V" = some ⟨[(.object "com/example/tributary/tributary/model/Time")], none⟩ := by decide +kernel
def Q17 (Z : State) (ra : Addr) (la : Addr) (bs : List Int32) (le : Int32) (x0 : Int32) (kn : Int32) (h0 : Heap) (n0 : Nat) (v : Option Value) (h : Heap) (L : List Loc) : Prop := v = some (.ref h0.size) ∧ Fr n0 L ∧ ∃ tm : Addr, (h0.size ≤ tm) ∧ (True) ∧ Keep h0 h [ra] ∧ Exa Z h tm "com/example/tributary/tributary/model/Time" ∧ Fld Z h tm "com/example/tributary/tributary/model/Time" "value" "J" (.long (own_num bs (x0 + (2 : Int32)) kn)) ∧ Fld Z h tm "com/example/tributary/tributary/model/Time" "infinite" "Z" (.int (0 : Int32)) ∧ Exa Z h h0.size "com/example/tributary/tributary/model/Stable" ∧ Fld Z h h0.size "com/example/tributary/tributary/model/Stable" "time" "Lcom/example/tributary/tributary/model/Time;" (.ref tm)
set_option maxRecDepth 65536 in
set_option maxHeartbeats 40000000 in
theorem rm17 (l : Launch) (Z : State) (a0 : Array Value) (hw : ∀ d ∈ tables_1, d.before a0 Z = true) (ws : List Jvm.Cond) (ra : Addr) (la : Addr) (bs : List Int32) (le : Int32) (x0 : Int32) (kn : Int32) (h0 : Heap) (n0 : Nat) (Z0 : n0 ≤ h0.size) (PA0 : own_AI Z h0 la .byte bs) (PE0 : Exa Z h0 ra "com/example/tributary/tributary/io/LineFormat") (PF0 : Fld Z h0 ra "com/example/tributary/tributary/io/LineFormat" "line" "[B" (.ref la)) (PF1 : Fld Z h0 ra "com/example/tributary/tributary/io/LineFormat" "lineEnd" "I" (.int le)) (PF2 : Fld Z h0 ra "com/example/tributary/tributary/io/LineFormat" "cursor" "I" (.int x0)) (PG0 : n0 ≤ ra) (PN0 : la ≠ ra) (OK : own_ok bs (x0 + (2 : Int32)) kn) (HE : le = (x0 + (2 : Int32)) + kn) (HX : 0 ≤ x0.toInt) (H83 : bs.getD (x0).toInt.toNat 0 = 83) (H44 : bs.getD (x0 + (1 : Int32)).toInt.toNat 0 = 44) :
    MetFree l (⟨"com/example/tributary/tributary/io/LineFormat", "element", "(Lcom/example/tributary/tributary/model/HeldPayloads;)Lcom/example/tributary/tributary/model/Element;"⟩ : MethodName) (head1 (Jvm.Cond.code (⟨"com/example/tributary/tributary/io/LineFormat", "element", "(Lcom/example/tributary/tributary/model/HeldPayloads;)Lcom/example/tributary/tributary/model/Element;"⟩ : MethodName) prog_36_method_8_code 6 (some (.object "com/example/tributary/tributary/model/Element")) :: ws) ({ frames := 5, cells := 6, slots := 71, locals := 76 } : Room)) (fun a U => a = #[(.ref ra), .null] ∧ Z.Warmed39 U.vm ∧ U.heap = h0) (fun _ _ _ _ _ => True) (fun _ U o U' => ∃ v L, o = .returned v ∧ Q17 Z ra la bs le x0 kn h0 n0 v U'.heap L ∧ ReturnedEndW U o U' L ({ frames := 5, cells := 6, slots := 71, locals := 76 } : Room).cells ({ frames := 5, cells := 6, slots := 71, locals := 76 } : Room).slots) := by
  refine MetFree.of_bodySF (plainFor_of_name pn_22) hisR ?_
  intro p e s m args below meth c s₁ Bd hml0 hP hK
  obtain ⟨rfl, hZ, hh⟩ := hP
  have hx := Bd.exec
  have hby := Bd.bytes
  have hml : c.maxLocals = 6 := hml0
  have hown : s.vm.findClass "com/example/tributary/tributary/io/LineFormat" = some m.cls := findClass_of_methodNamed Bd.named
  have hnm := (name_of_methodNamed Bd.named Bd.method).1
  have hZ : Z.Warmed39 (s.setVm s.vm).vm := hZ
  have hown : (s.setVm s.vm).vm.findClass "com/example/tributary/tributary/io/LineFormat" = some m.cls := hown
  have S0 : s.Since s.vm 0 := (State.WarmedH.refl s).since 0
  have kz0 : 0 ≤ h0.size := Nat.zero_le _
  have X0 : Stand p l e ({ frames := 5, cells := 6, slots := 71, locals := 76 } : Room) (s.setVm s.vm) m #[(.ref ra), .null] below meth c s₁ [] 0 0 := Stand.of_body Bd
  have hlk : meth.locks = false := by first | exact BodyLoose.notSynchronized (by assumption) | exact Body.notSynchronized (by assumption)
  have e0 : s₁.heap = h0 := by rw [← hh, Bd.state]; rfl
  have N0 := Fr.nil n0
  have pre0 : ∀ t, Steps p.tables e below (s₁.setTop (mkF m 0 #[rv ra, .val .null, u0, u0, u0, u0] [])) t → Steps p.tables e below (s₁.setTop (entryFrame m #[(.ref ra), .null] 6)) t := fun t k => castTop (ef_17 m ra) k
  generalize s₁.setTop (entryFrame m #[(.ref ra), .null] 6) = B0 at pre0 ⊢
  have H : ∀ (i : Nat) {d : Jvm.Cond}, tables_1[i]? = some d → d.before a0 Z = true := fun i d q => hw d (List.mem_of_getElem? q)
  have D : ∀ {pc : Nat} {r : Except DecodeError (Instr × Nat)}, decode prog_36_method_8_code pc = r → decode c.code pc = r := fun q => hb hby q
  obtain ⟨T1, X1, e1, st1⟩ := getF X0 hx hZ hown (host := "") (Or.inl (H 25 rfl)) Via.refl e0 PF1 (g := (mkF m 1 #[rv ra, .val .null, u0, u0, u0, u0] [(.ref ra)])) rfl rfl (D d17_1)
  obtain ⟨T2, X2, e2, st2⟩ := getF X1 hx hZ hown (host := "") (Or.inl (H 27 rfl)) Via.refl e1 PF2 (g := (mkF m 5 #[rv ra, .val .null, u0, u0, u0, u0] [(.ref ra), (.int le)])) rfl rfl (D d17_5)
  have c3 : ¬ ((le - x0) < (2 : Int32)) := own_e10 OK HX HE
  obtain ⟨T4, X4, e4, st4⟩ := getF X2 hx hZ hown (host := "") (Or.inl (H 21 rfl)) Via.refl e2 PF0 (g := (mkF m 14 #[rv ra, .val .null, u0, u0, u0, u0] [(.ref ra)])) rfl rfl (D d17_14)
  obtain ⟨T5, X5, e5, st5⟩ := getF X4 hx hZ hown (host := "") (Or.inl (H 27 rfl)) Via.refl e4 PF2 (g := (mkF m 18 #[rv ra, .val .null, u0, u0, u0, u0] [(.ref ra), (.ref la)])) rfl rfl (D d17_18)
  have in_23_6 : 0 ≤ ((x0 + (1 : Int32))).toInt ∧ ((x0 + (1 : Int32))).toInt < (bs.length : Nat) := own_e23 OK HX
  have c7 : (bs.getD ((x0 + (1 : Int32))).toInt.toNat 0) = (44 : Int32) := H44
  obtain ⟨T8, X8, e8, st8⟩ := getF X5 hx hZ hown (host := "") (Or.inl (H 21 rfl)) Via.refl e5 PF0 (g := (mkF m 30 #[rv ra, .val .null, u0, u0, u0, u0] [(.ref ra)])) rfl rfl (D d17_30)
  obtain ⟨T9, X9, e9, st9⟩ := getF X8 hx hZ hown (host := "") (Or.inl (H 27 rfl)) Via.refl e8 PF2 (g := (mkF m 34 #[rv ra, .val .null, u0, u0, u0, u0] [(.ref ra), (.ref la)])) rfl rfl (D d17_34)
  have in_37_10 : 0 ≤ (x0).toInt ∧ (x0).toInt < (bs.length : Nat) := own_e37 OK HX
  have pre11 : ∀ t, Steps p.tables e below (T9.setTop (mkF m 42 #[rv ra, .val .null, u0, u0, u0, u0] [(.int (bs.getD (x0).toInt.toNat 0))])) t → Steps p.tables e below B0 t := by
    intro t k
    refine pre0 t ?_
    show Steps p.tables e below (s₁.setTop (mkF m 0 #[rv ra, .val .null, u0, u0, u0, u0] [])) _
    refine XS.aloadN X0.here hx rfl (D d17_0) rfl rfl ?_
    refine st1 _ ?_
    refine XS.aloadN X1.here hx rfl (D d17_4) rfl rfl ?_
    refine st2 _ ?_
    refine XS.isub X2.here hx rfl (D d17_8) rfl ?_
    refine XS.iconst X2.here hx rfl (D d17_9) ?_
    show Steps p.tables e below (T2.setTop (mkF m 10 #[rv ra, .val .null, u0, u0, u0, u0] [(.int (2 : Int32)), (.int (le - x0))])) _
    refine XS.icmpNo X2.here hx rfl (D d17_10) rfl ((flt c3).1) ?_
    refine XS.aloadN X2.here hx rfl (D d17_13) rfl rfl ?_
    show Steps p.tables e below (T2.setTop (mkF m 14 #[rv ra, .val .null, u0, u0, u0, u0] [(.ref ra)])) _
    refine st4 _ ?_
    refine XS.aloadN X4.here hx rfl (D d17_17) rfl rfl ?_
    refine st5 _ ?_
    refine XS.iconst X5.here hx rfl (D d17_21) ?_
    refine XS.iadd X5.here hx rfl (D d17_22) rfl ?_
    refine own_baloadB X5 hx hZ e5 PA0 in_23_6 (D d17_23) _ ?_
    refine XS.bipush X5.here hx rfl (D d17_24) ?_
    show Steps p.tables e below (T5.setTop (mkF m 26 #[rv ra, .val .null, u0, u0, u0, u0] [(.int (44 : Int32)), (.int (bs.getD ((x0 + (1 : Int32))).toInt.toNat 0))])) _
    refine XS.icmpNo X5.here hx rfl (D d17_26) rfl ((teq c7).2) ?_
    refine XS.aloadN X5.here hx rfl (D d17_29) rfl rfl ?_
    show Steps p.tables e below (T5.setTop (mkF m 30 #[rv ra, .val .null, u0, u0, u0, u0] [(.ref ra)])) _
    refine st8 _ ?_
    refine XS.aloadN X8.here hx rfl (D d17_33) rfl rfl ?_
    refine st9 _ ?_
    refine own_baloadB X9 hx hZ e9 PA0 in_37_10 (D d17_37) _ ?_
    refine XS.goto X9.here hx rfl (pc0 := 38) (pc' := 42) rfl (D d17_38) (by decide) (by decide) ?_
    exact k
  clear X1 e1 st1 X2 e2 st2 X4 e4 st4 X5 e5 st5 X8 e8 st8 st9
  obtain ⟨v12, hv12⟩ : ∃ z : Int32, z = (bs.getD (x0).toInt.toNat 0) := ⟨_, rfl⟩
  have pre13 : ∀ t, Steps p.tables e below (T9.setTop (mkF m 42 #[rv ra, .val .null, u0, u0, u0, u0] [(.int v12)])) t → Steps p.tables e below B0 t := by
    rw [hv12]
    intro t k
    refine pre11 t ?_
    exact k
  rcases (hv12.trans H83) with rfl
  · obtain ⟨T14, X14, e14, st14⟩ := getF X9 hx hZ hown (host := "") (Or.inl (H 27 rfl)) Via.refl e9 PF2 (g := (mkF m 45 #[rv ra, .val .null, iv (83 : Int32), u0, u0, u0] [(.ref ra), (.ref ra)])) rfl rfl (D d17_45)
    obtain ⟨T15, h15, X15, e15, W15, st15⟩ := putF X14 hx hZ hown (host := "") (Or.inl (H 27 rfl)) Via.refl e14 PF2 PE0 (Or.inl (H 28 rfl)) (H 8 rfl) (ty := .int) (by decide) rfl rfl (g := (mkF m 50 #[rv ra, .val .null, iv (83 : Int32), u0, u0, u0] [(.int (x0 + (2 : Int32))), (.ref ra)])) rfl rfl (D d17_50)
    have V15_la := PA0.other W15 PN0
    have A15_ra := PE0.wr W15
    have F15_ra_0 := PF0.other W15 (Or.inr (own_sn_27 hw))
    have F15_ra_1 := PF1.other W15 (Or.inr (own_sn_28 hw))
    have sz15 := Nat.le_trans Z0 (Keep.of_wr W15).1
    have kz15 := Nat.le_trans kz0 (Keep.of_wr W15).1
    have K15 := (Keep.refl h0 ([ra] : List Addr)).wr W15 (Or.inl (by simp))
    have N15 := Fr.snoc X15 N0 PG0
    have zq15 := (own_wrsz W15).trans rfl
    have F15_s : Fld Z h15 ra "com/example/tributary/tributary/io/LineFormat" "cursor" "I" (.int (x0 + (2 : Int32))) := PF2.same W15
    obtain ⟨T16, h16, X16, e16, E16, A16, D16, -, st16⟩ := newO X15 hx hZ hown (H 102 rfl) (H 103 rfl) (H 104 rfl) e15 (g := (mkF m 171 #[rv ra, .val .null, iv (83 : Int32), u0, u0, u0] [])) rfl (D d17_171) (by decide) (by decide)
    obtain ⟨a16, g16⟩ : ∃ z, z = h15.size := ⟨_, rfl⟩
    rw [← g16] at A16 D16 st16
    have gz16 := g16.trans zq15
    have ne_la_a16 : la ≠ a16 := g16 ▸ Nat.ne_of_lt V15_la.lt
    have ne_ra_a16 : ra ≠ a16 := g16 ▸ Nat.ne_of_lt A15_ra.lt
    have ge_a16 : n0 ≤ a16 := g16 ▸ sz15
    have go_a16 : h0.size ≤ a16 := g16 ▸ K15.1
    have V16_la := V15_la.ext E16
    have A16_ra := A15_ra.ext E16
    have F16_ra_0 := F15_ra_0.ext E16
    have F16_ra_1 := F15_ra_1.ext E16
    have F16_ra_2 := F15_s.ext E16
    have sz16 := Nat.le_trans sz15 E16.1
    have kz16 := Nat.le_trans kz15 E16.1
    have K16 : Keep h0 h16 [ra] := K15.ext E16
    have F16_n0 : Fld Z h16 a16 "com/example/tributary/tributary/model/Stable" "time" "Lcom/example/tributary/tributary/model/Time;" .null := D16 (Or.inr (H 120 rfl)) (ty := (.object "com/example/tributary/tributary/model/Time")) (by decide)
    have pre17 : ∀ t, Steps p.tables e below (T16.setTop (mkF m 176 #[rv ra, .val .null, iv (83 : Int32), u0, u0, u0] [(.ref ra), (.ref a16), (.ref a16)])) t → Steps p.tables e below B0 t := by
      intro t k
      refine pre13 t ?_
      show Steps p.tables e below (T9.setTop (mkF m 42 #[rv ra, .val .null, u0, u0, u0, u0] [(.int (83 : Int32))])) _
      refine XS.istoreN X9.here hx rfl (D d17_42) rfl (l' := #[rv ra, .val .null, iv (83 : Int32), u0, u0, u0]) rfl ?_
      refine XS.aloadN X9.here hx rfl (D d17_43) rfl rfl ?_
      refine XS.dup X9.here hx rfl (D d17_44) rfl rfl ?_
      show Steps p.tables e below (T9.setTop (mkF m 45 #[rv ra, .val .null, iv (83 : Int32), u0, u0, u0] [(.ref ra), (.ref ra)])) _
      refine st14 _ ?_
      refine XS.iconst X14.here hx rfl (D d17_48) ?_
      refine XS.iadd X14.here hx rfl (D d17_49) rfl ?_
      refine st15 _ ?_
      refine XS.iloadN X15.here hx rfl (D d17_53) rfl ?_
      refine X15.lookupswitchHit hx (g := (mkF m 54 #[rv ra, .val .null, iv (83 : Int32), u0, u0, u0] [(.int (83 : Int32))])) rfl rfl (D d17_54) (by decide) (a := 83) (off := 117) (by decide) (show (0 : Int) ≤ ((54 : Nat) : Int) + 117 by decide) _ ?_
      refine st16 _ ?_
      refine XS.dup X16.here hx rfl (D d17_174) rfl rfl ?_
      show Steps p.tables e below (T16.setTop (mkF m 175 #[rv ra, .val .null, iv (83 : Int32), u0, u0, u0] [(.ref a16), (.ref a16)])) _
      refine XS.aloadN X16.here hx rfl (D d17_175) rfl rfl ?_
      exact k
    clear X9 e9 pre11 X14 e14 st14 X15 e15 W15 st15 V15_la A15_ra F15_ra_0 F15_ra_1 sz15 K15 F15_s E16 D16 st16
    obtain ⟨as18, T18, h18, kk18, X18, e18, E18, S18, kz18q, hZ, hown, st18⟩ := ldcS X16 hx hZ hown (H 105 rfl) (own_strAtoms hw) e16 S0 kz16 (g := (mkF m 176 #[rv ra, .val .null, iv (83 : Int32), u0, u0, u0] [(.ref ra), (.ref a16), (.ref a16)])) rfl (D d17_176) (n := 44) (by decide) (by decide) (by decide) (by decide)
    have V18_la := V16_la.ext E18
    have A18_ra := A16_ra.ext E18
    have F18_ra_0 := F16_ra_0.ext E18
    have F18_ra_1 := F16_ra_1.ext E18
    have F18_ra_2 := F16_ra_2.ext E18
    have A18_a16 := A16.ext E18
    have F18_a16_0 := F16_n0.ext E18
    have sz18 := Nat.le_trans sz16 E18.1
    have kz18 := Nat.le_trans kz16 E18.1
    have K18 : Keep h0 h18 [ra] := K16.ext E18
    obtain ⟨T19, X19, e19, st19⟩ := getF X18 hx hZ hown (host := "") (Or.inl (H 27 rfl)) Via.refl e18 F18_ra_2 (g := (mkF m 179 #[rv ra, .val .null, iv (83 : Int32), u0, u0, u0] [(.ref ra), (.ref as18), (.ref ra), (.ref a16), (.ref a16)])) rfl rfl (D d17_179)
    obtain ⟨T20, X20, e20, st20⟩ := getF X19 hx hZ hown (host := "") (Or.inl (H 25 rfl)) Via.refl e19 F18_ra_1 (g := (mkF m 183 #[rv ra, .val .null, iv (83 : Int32), u0, u0, u0] [(.ref ra), (.int (x0 + (2 : Int32))), (.ref as18), (.ref ra), (.ref a16), (.ref a16)])) rfl rfl (D d17_183)
    obtain ⟨cq21, q21, q21'⟩ := A18_ra.cell
    obtain ⟨_, _, ⟨T21, L21, k21, n21⟩, -, X21, ⟨Lc21, hQ21, l21, y21, z21⟩, st21⟩ := own_privateBackW X20 hx (y := (⟨"com/example/tributary/tributary/io/LineFormat", "time", "(Ljava/lang/String;IIZ)Lcom/example/tributary/tributary/model/Time;"⟩ : MethodName)) (y' := (⟨"com/example/tributary/tributary/io/LineFormat", "begin", "([BII)V"⟩ : MethodName)) rfl hown (mvT hZ (H 50 rfl)) (mvT hZ (H 51 rfl)) (mvT hZ (H 19 rfl)) (Cond.privateMethod_at (mvP hZ (H 52 rfl) (args := #[]))) (mvT hZ (H 53 rfl)) (by decide) (backOfWith (W := 2) (rm22 l Z a0 hw [] ra as18 (x0 + (2 : Int32)) le (1 : Int32) la bs kn h18 n0 sz18 V18_la A18_ra F18_ra_0 OK HE) hZ (H 53 rfl) (H 9 rfl) (by decide) (by decide)) (g := (mkF m 187 #[rv ra, .val .null, iv (83 : Int32), u0, u0, u0] [(.int (1 : Int32)), (.int le), (.int (x0 + (2 : Int32))), (.ref as18), (.ref ra), (.ref a16), (.ref a16)])) rfl (by rw [hml]; rfl) (Steps.refl _) (a := ra) (by rw [e20]; exact q21) q21' (argsL := [(.ref as18), (.int (x0 + (2 : Int32))), (.int le), (.int (1 : Int32))]) (rest := [(.ref a16), (.ref a16)]) (lenOf pd_26 rfl) rfl (by show 2 * 0 + _ ≤ _; exact Nat.le_of_eq rfl) (D d17_187) (fun _ _ => ⟨rfl, e20, (by decide : 3 + 1 ≤ _), (by decide : 49 + 2 ≤ _)⟩)
    dsimp only [Pt.U, Pt.locs, Pt.cells, Pt.slots] at X21 l21 y21 z21 st21 hQ21
    replace y21 : k21 = 4 := y21
    replace z21 : n21 = 51 := z21
    replace l21 := l21.symm; replace y21 := y21.symm; replace z21 := z21.symm; subst l21 y21 z21
    obtain ⟨rfl, N21q, K21, R21, R21_0, R21_1⟩ := hQ21
    obtain ⟨h21, e21⟩ : ∃ z, T21.heap = z := ⟨_, rfl⟩
    rw [e21] at K21 R21 R21_0 R21_1
    obtain ⟨a21, g21⟩ : ∃ z, z = h18.size := ⟨_, rfl⟩
    rw [← g21] at R21 R21_0 R21_1 st21
    have ne_la_a21 : la ≠ a21 := g21 ▸ Nat.ne_of_lt V18_la.lt
    have ne_ra_a21 : ra ≠ a21 := g21 ▸ Nat.ne_of_lt A18_ra.lt
    have ne_a16_a21 : a16 ≠ a21 := g21 ▸ Nat.ne_of_lt A18_a16.lt
    have ge_a21 : n0 ≤ a21 := g21 ▸ sz18
    have go_a21 : h0.size ≤ a21 := g21 ▸ K18.1
    have V21_la := V18_la.keep K21 nin0
    have A21_ra := A18_ra.keep K21
    have F21_ra_0 := F18_ra_0.keep K21 nin0
    have F21_ra_1 := F18_ra_1.keep K21 nin0
    have F21_ra_2 := F18_ra_2.keep K21 nin0
    have A21_a16 := A18_a16.keep K21
    have F21_a16_0 := F18_a16_0.keep K21 nin0
    have sz21 : n0 ≤ h21.size := Nat.le_trans sz18 K21.1
    have kz21 := Nat.le_trans kz18q K21.1
    have KK21 : Keep h0 h21 [ra] := K18.trans K21 all0
    have N21 := Fr.app N15 N21q
    have pre23 : ∀ t, Steps p.tables e below (T21.setTop (mkF m 190 #[rv ra, .val .null, iv (83 : Int32), u0, u0, u0] [(.ref a21), (.ref a16), (.ref a16)])) t → Steps p.tables e below B0 t := by
      intro t k
      refine pre17 t ?_
      show Steps p.tables e below (T16.setTop (mkF m 176 #[rv ra, .val .null, iv (83 : Int32), u0, u0, u0] [(.ref ra), (.ref a16), (.ref a16)])) _
      refine st18 _ ?_
      refine XS.aloadN X18.here hx rfl (D d17_178) rfl rfl ?_
      refine st19 _ ?_
      refine XS.aloadN X19.here hx rfl (D d17_182) rfl rfl ?_
      refine st20 _ ?_
      refine XS.iconst X20.here hx rfl (D d17_186) ?_
      refine st21.trans ?_
      exact k
    clear N15 X16 e16 A16 V16_la A16_ra F16_ra_0 F16_ra_1 F16_ra_2 sz16 K16 F16_n0 pre17 X18 e18 E18 st18 V18_la A18_ra F18_ra_0 F18_ra_1 F18_ra_2 A18_a16 F18_a16_0 sz18 K18 X19 e19 st19 X20 e20 st20 st21 N21q K21
    obtain ⟨_, _, ⟨T22, L22, k22, n22⟩, -, X22, S22', kg22, ⟨Lc22, hQ22, l22, y22, z22⟩, st22⟩ := X21.specialBackS hx (y := (⟨"com/example/tributary/tributary/model/Stable", "<init>", "(Lcom/example/tributary/tributary/model/Time;)V"⟩ : MethodName)) rfl hown (mvT hZ (H 106 rfl)) (mvT hZ (H 107 rfl)) (mvT hZ (H 108 rfl)) (by decide) (backOfS (W := 1) (rm18 l Z a0 hw [] a16 a21  h21 n0 sz21 A21_a16 F21_a16_0 ge_a16 ) hZ (H 108 rfl) (H 104 rfl) (by decide) (by decide)) (g := (mkF m 190 #[rv ra, .val .null, iv (83 : Int32), u0, u0, u0] [(.ref a21), (.ref a16), (.ref a16)])) rfl (by rw [hml]; rfl) (Steps.refl _) (a := a16) (argsL := [(.ref a21)]) (rest := [(.ref a16)]) (lenOf pd_42 rfl) rfl (by show 2 * 0 + _ ≤ _; exact Nat.le_of_eq rfl) (D d17_190) (fun _ _ => ⟨rfl, e21, (by decide : 4 + 2 ≤ _), (by decide : 51 + 20 ≤ _)⟩)
    dsimp only [Pt.U, Pt.locs, Pt.cells, Pt.slots] at X22 l22 y22 z22 st22 hQ22 S22' kg22
    obtain ⟨X22, S22, hZ, hown⟩ := rebS S18 (Nat.le_trans kz21 (Nat.le_of_eq (congrArg Array.size e21.symm))) X22 S22' kg22 hZ hown
    replace y22 : k22 = 6 := y22
    replace z22 : n22 = 71 := z22
    replace l22 := l22.symm; replace y22 := y22.symm; replace z22 := z22.symm; subst l22 y22 z22
    obtain ⟨rfl, N22q, K22, A22_o0, F22_o0⟩ := hQ22
    obtain ⟨h22, e22⟩ : ∃ z, T22.heap = z := ⟨_, rfl⟩
    rw [e22] at K22 A22_o0 F22_o0
    have kz22 : T22.heap.size ≤ h22.size := by rw [e22]; exact Nat.le_refl _
    have V22_la := V21_la.keep K22 (ninS ne_la_a16 nin0)
    have A22_ra := A21_ra.keep K22
    have F22_ra_0 := F21_ra_0.keep K22 (ninS ne_ra_a16 nin0)
    have F22_ra_1 := F21_ra_1.keep K22 (ninS ne_ra_a16 nin0)
    have F22_ra_2 := F21_ra_2.keep K22 (ninS ne_ra_a16 nin0)
    have A22_a16 := A21_a16.keep K22
    have A22_a21 := R21.keep K22
    have F22_a21_0 := R21_0.keep K22 (ninS (Ne.symm ne_a16_a21) nin0)
    have F22_a21_1 := R21_1.keep K22 (ninS (Ne.symm ne_a16_a21) nin0)
    have sz22 : n0 ≤ h22.size := Nat.le_trans sz21 K22.1
    have KK22 : Keep h0 h22 [ra] := KK21.trans K22 (allS (Or.inr go_a16) all0)
    have N22 := Fr.app N21 N22q
    obtain ⟨fs, hr, hrun, hended, hEw⟩ := X22.leaveW S22 (Nat.le_trans kz22 (Nat.le_of_eq (congrArg Array.size e22.symm))) (v := some (.ref a16)) (fun h => by rw [Bd.returns] at h; cases h) hlk
    refine ⟨_, _, pre23 _ ?_, hrun, hended, _, _, rfl, ?_, hEw.1, hEw.2.1, hEw.2.2.1, hEw.2.2.2.mono (by decide) (by decide)⟩
    · show Steps p.tables e below (T21.setTop (mkF m 190 #[rv ra, .val .null, iv (83 : Int32), u0, u0, u0] [(.ref a21), (.ref a16), (.ref a16)])) _
      refine st22.trans ?_
      refine XS.goto X22.here hx rfl (pc0 := 193) (pc' := 202) rfl (D d17_193) (by decide) (by decide) ?_
      show Steps p.tables e below (T22.setTop (mkF m 202 #[rv ra, .val .null, iv (83 : Int32), u0, u0, u0] [(.ref a16)])) _
      exact retOut X22 hx Bd.returns rfl (Or.inr (Or.inr (Or.inr (Or.inr ⟨rfl, rfl, rfl⟩)))) (D d17_202) hr
    · show Q17 Z ra la bs le x0 kn h0 n0 _ T22.heap _
      rw [e22]
      exact ⟨by rw [gz16], N22, a21, go_a21, trivial, KK22, A22_a21, F22_a21_0, F22_a21_1, (by rw [← gz16]; exact A22_o0), (by rw [← gz16]; exact F22_o0)⟩
theorem d2_0 : decode prog_36_method_1_code 0 = .ok (.aload_n 0, 1) := by decide +kernel
theorem d2_1 : decode prog_36_method_1_code 1 = .ok (.invokespecial 3, 3) := by decide +kernel
theorem d2_4 : decode prog_36_method_1_code 4 = .ok (.return_, 1) := by decide +kernel
theorem ef_2 (m : MethodId) (ra : Addr) : entryFrame m #[(.ref ra)] 1 = mkF m 0 #[rv ra] [] := by first | (simp [entryFrame, mkF, argsToLocals, Value.category, maxLocals]; done) | rfl
def Q2 (Z : State) (ra : Addr)  (h0 : Heap) (n0 : Nat) (v : Option Value) (h : Heap) (L : List Loc) : Prop := v = none ∧ Fr n0 L ∧ h = h0
set_option maxRecDepth 65536 in
set_option maxHeartbeats 40000000 in
theorem rm2 (l : Launch) (Z : State) (a0 : Array Value) (hw : ∀ d ∈ tables_1, d.before a0 Z = true) (ws : List Jvm.Cond) (ra : Addr)  (h0 : Heap) (n0 : Nat) (Z0 : n0 ≤ h0.size)  :
    MetFree l (⟨"com/example/tributary/tributary/io/LineFormat", "<init>", "()V"⟩ : MethodName) (head1 (Jvm.Cond.code (⟨"com/example/tributary/tributary/io/LineFormat", "<init>", "()V"⟩ : MethodName) prog_36_method_1_code 1 none :: ws) ({ frames := 1, cells := 0, slots := 0, locals := 12 } : Room)) (fun a U => a = #[(.ref ra)] ∧ Z.Warmed39 U.vm ∧ U.heap = h0) (fun _ _ _ _ _ => True) (fun _ U o U' => ∃ v L, o = .returned v ∧ Q2 Z ra h0 n0 v U'.heap L ∧ FrameEnd U o U' L ({ frames := 1, cells := 0, slots := 0, locals := 12 } : Room).cells ({ frames := 1, cells := 0, slots := 0, locals := 12 } : Room).slots) := by
  refine MetFree.of_bodySF (plainFor_of_name pn_22) hisR ?_
  intro p e s m args below meth c s₁ Bd hml0 hP hK
  obtain ⟨rfl, hZ, hh⟩ := hP
  have hx := Bd.exec
  have hby := Bd.bytes
  have hml : c.maxLocals = 1 := hml0
  have hown : s.vm.findClass "com/example/tributary/tributary/io/LineFormat" = some m.cls := findClass_of_methodNamed Bd.named
  have hnm := (name_of_methodNamed Bd.named Bd.method).1
  have X0 : Stand p l e ({ frames := 1, cells := 0, slots := 0, locals := 12 } : Room) s m #[(.ref ra)] below meth c s₁ [] 0 0 := Stand.of_body Bd
  have hlk : meth.locks = false := by first | exact BodyLoose.notSynchronized (by assumption) | exact Body.notSynchronized (by assumption)
  have e0 : s₁.heap = h0 := by rw [← hh, Bd.state]; rfl
  have N0 := Fr.nil n0
  have pre0 : ∀ t, Steps p.tables e below (s₁.setTop (mkF m 0 #[rv ra] [])) t → Steps p.tables e below (s₁.setTop (entryFrame m #[(.ref ra)] 1)) t := fun t k => castTop (ef_2 m ra) k
  generalize s₁.setTop (entryFrame m #[(.ref ra)] 1) = B0 at pre0 ⊢
  have H : ∀ (i : Nat) {d : Jvm.Cond}, tables_1[i]? = some d → d.before a0 Z = true := fun i d q => hw d (List.mem_of_getElem? q)
  have D : ∀ {pc : Nat} {r : Except DecodeError (Instr × Nat)}, decode prog_36_method_1_code pc = r → decode c.code pc = r := fun q => hb hby q
  obtain ⟨T1, X1, e1, st1⟩ := initO X0 hx hZ hown (H 13 rfl) (H 14 rfl) (H 15 rfl) e0 (g := (mkF m 1 #[rv ra] [(.ref ra)])) rfl (by rw [hml]; rfl) rfl (D d2_1) (by decide) (W := 0) (by show 2 * 0 + _ ≤ _; exact Nat.le_of_eq rfl) (by decide)
  obtain ⟨fs, hr, hrun, hended, hW, hsame⟩ := X1.leave (v := none) (fun _ => rfl) hlk
  refine ⟨_, _, pre0 _ ?_, hrun, hended, _, _, rfl, ?_, ⟨_, rfl⟩, hW, hsame.mono (by decide) (by decide)⟩
  · show Steps p.tables e below (s₁.setTop (mkF m 0 #[rv ra] [])) _
    refine XS.aloadN X0.here hx rfl (D d2_0) rfl rfl ?_
    refine st1 _ ?_
    show Steps p.tables e below (T1.setTop (mkF m 4 #[rv ra] [])) _
    exact X1.returnOut hx Bd.returns (D d2_4) hr
  · show Q2 Z ra h0 n0 _ T1.heap _
    rw [e1]
    exact ⟨rfl, N0, rfl⟩
theorem d4_0 : decode prog_36_method_5_code 0 = .ok (.aload_n 0, 1) := by decide +kernel
theorem d4_1 : decode prog_36_method_5_code 1 = .ok (.aload_n 1, 1) := by decide +kernel
theorem d4_2 : decode prog_36_method_5_code 2 = .ok (.putfield 64, 3) := by decide +kernel
theorem d4_5 : decode prog_36_method_5_code 5 = .ok (.aload_n 0, 1) := by decide +kernel
theorem d4_6 : decode prog_36_method_5_code 6 = .ok (.iload_n 2, 1) := by decide +kernel
theorem d4_7 : decode prog_36_method_5_code 7 = .ok (.putfield 68, 3) := by decide +kernel
theorem d4_10 : decode prog_36_method_5_code 10 = .ok (.aload_n 0, 1) := by decide +kernel
theorem d4_11 : decode prog_36_method_5_code 11 = .ok (.iload_n 3, 1) := by decide +kernel
theorem d4_12 : decode prog_36_method_5_code 12 = .ok (.putfield 72, 3) := by decide +kernel
theorem d4_15 : decode prog_36_method_5_code 15 = .ok (.aload_n 0, 1) := by decide +kernel
theorem d4_16 : decode prog_36_method_5_code 16 = .ok (.iload_n 2, 1) := by decide +kernel
theorem d4_17 : decode prog_36_method_5_code 17 = .ok (.putfield 75, 3) := by decide +kernel
theorem d4_20 : decode prog_36_method_5_code 20 = .ok (.return_, 1) := by decide +kernel
theorem ef_4_1 (m : MethodId) (ra : Addr) (la : Addr) (x1 : Int32) (x2 : Int32) : entryFrame m #[(.ref ra), (.ref la), (.int x1), (.int x2)] 4 = mkF m 0 #[rv ra, rv la, iv x1, iv x2] [] := by first | (simp [entryFrame, mkF, argsToLocals, Value.category, maxLocals]; done) | rfl
theorem own_sn_45 {Z : State} {a0 : Array Value} (hw : ∀ d ∈ tables_1, d.before a0 Z = true) : Jvm.RoadKit.slotOf Z "com/example/tributary/tributary/io/LineFormat" "lineStart" "I" ≠ Jvm.RoadKit.slotOf Z "com/example/tributary/tributary/io/LineFormat" "line" "[B" := slot_ne (a0 := a0) (C := "com/example/tributary/tributary/io/LineFormat") (Or.inl (hw _ (List.mem_of_getElem? (i := 24) rfl))) (Or.inl (hw _ (List.mem_of_getElem? (i := 22) rfl))) (by decide) (t := .int) (t' := (.array .byte)) (by decide) (by decide)
theorem own_sn_46 {Z : State} {a0 : Array Value} (hw : ∀ d ∈ tables_1, d.before a0 Z = true) : Jvm.RoadKit.slotOf Z "com/example/tributary/tributary/io/LineFormat" "lineEnd" "I" ≠ Jvm.RoadKit.slotOf Z "com/example/tributary/tributary/io/LineFormat" "line" "[B" := slot_ne (a0 := a0) (C := "com/example/tributary/tributary/io/LineFormat") (Or.inl (hw _ (List.mem_of_getElem? (i := 26) rfl))) (Or.inl (hw _ (List.mem_of_getElem? (i := 22) rfl))) (by decide) (t := .int) (t' := (.array .byte)) (by decide) (by decide)
theorem own_sn_47 {Z : State} {a0 : Array Value} (hw : ∀ d ∈ tables_1, d.before a0 Z = true) : Jvm.RoadKit.slotOf Z "com/example/tributary/tributary/io/LineFormat" "cursor" "I" ≠ Jvm.RoadKit.slotOf Z "com/example/tributary/tributary/io/LineFormat" "line" "[B" := slot_ne (a0 := a0) (C := "com/example/tributary/tributary/io/LineFormat") (Or.inl (hw _ (List.mem_of_getElem? (i := 28) rfl))) (Or.inl (hw _ (List.mem_of_getElem? (i := 22) rfl))) (by decide) (t := .int) (t' := (.array .byte)) (by decide) (by decide)
theorem own_sn_48 {Z : State} {a0 : Array Value} (hw : ∀ d ∈ tables_1, d.before a0 Z = true) : Jvm.RoadKit.slotOf Z "com/example/tributary/tributary/io/LineFormat" "line" "[B" ≠ Jvm.RoadKit.slotOf Z "com/example/tributary/tributary/io/LineFormat" "lineStart" "I" := slot_ne (a0 := a0) (C := "com/example/tributary/tributary/io/LineFormat") (Or.inl (hw _ (List.mem_of_getElem? (i := 22) rfl))) (Or.inl (hw _ (List.mem_of_getElem? (i := 24) rfl))) (by decide) (t := (.array .byte)) (t' := .int) (by decide) (by decide)
theorem own_sn_49 {Z : State} {a0 : Array Value} (hw : ∀ d ∈ tables_1, d.before a0 Z = true) : Jvm.RoadKit.slotOf Z "com/example/tributary/tributary/io/LineFormat" "lineEnd" "I" ≠ Jvm.RoadKit.slotOf Z "com/example/tributary/tributary/io/LineFormat" "lineStart" "I" := slot_ne (a0 := a0) (C := "com/example/tributary/tributary/io/LineFormat") (Or.inl (hw _ (List.mem_of_getElem? (i := 26) rfl))) (Or.inl (hw _ (List.mem_of_getElem? (i := 24) rfl))) (by decide) (t := .int) (t' := .int) (by decide) (by decide)
theorem own_sn_50 {Z : State} {a0 : Array Value} (hw : ∀ d ∈ tables_1, d.before a0 Z = true) : Jvm.RoadKit.slotOf Z "com/example/tributary/tributary/io/LineFormat" "cursor" "I" ≠ Jvm.RoadKit.slotOf Z "com/example/tributary/tributary/io/LineFormat" "lineStart" "I" := slot_ne (a0 := a0) (C := "com/example/tributary/tributary/io/LineFormat") (Or.inl (hw _ (List.mem_of_getElem? (i := 28) rfl))) (Or.inl (hw _ (List.mem_of_getElem? (i := 24) rfl))) (by decide) (t := .int) (t' := .int) (by decide) (by decide)
theorem own_sn_51 {Z : State} {a0 : Array Value} (hw : ∀ d ∈ tables_1, d.before a0 Z = true) : Jvm.RoadKit.slotOf Z "com/example/tributary/tributary/io/LineFormat" "line" "[B" ≠ Jvm.RoadKit.slotOf Z "com/example/tributary/tributary/io/LineFormat" "lineEnd" "I" := slot_ne (a0 := a0) (C := "com/example/tributary/tributary/io/LineFormat") (Or.inl (hw _ (List.mem_of_getElem? (i := 22) rfl))) (Or.inl (hw _ (List.mem_of_getElem? (i := 26) rfl))) (by decide) (t := (.array .byte)) (t' := .int) (by decide) (by decide)
theorem own_sn_52 {Z : State} {a0 : Array Value} (hw : ∀ d ∈ tables_1, d.before a0 Z = true) : Jvm.RoadKit.slotOf Z "com/example/tributary/tributary/io/LineFormat" "lineStart" "I" ≠ Jvm.RoadKit.slotOf Z "com/example/tributary/tributary/io/LineFormat" "lineEnd" "I" := slot_ne (a0 := a0) (C := "com/example/tributary/tributary/io/LineFormat") (Or.inl (hw _ (List.mem_of_getElem? (i := 24) rfl))) (Or.inl (hw _ (List.mem_of_getElem? (i := 26) rfl))) (by decide) (t := .int) (t' := .int) (by decide) (by decide)
theorem own_sn_53 {Z : State} {a0 : Array Value} (hw : ∀ d ∈ tables_1, d.before a0 Z = true) : Jvm.RoadKit.slotOf Z "com/example/tributary/tributary/io/LineFormat" "cursor" "I" ≠ Jvm.RoadKit.slotOf Z "com/example/tributary/tributary/io/LineFormat" "lineEnd" "I" := slot_ne (a0 := a0) (C := "com/example/tributary/tributary/io/LineFormat") (Or.inl (hw _ (List.mem_of_getElem? (i := 28) rfl))) (Or.inl (hw _ (List.mem_of_getElem? (i := 26) rfl))) (by decide) (t := .int) (t' := .int) (by decide) (by decide)
def Q4_1 (Z : State) (ra : Addr) (la : Addr) (x1 : Int32) (x2 : Int32) (o1 : Int32) (o2 : Int32) (o3 : Int32) (h0 : Heap) (n0 : Nat) (v : Option Value) (h : Heap) (L : List Loc) : Prop := v = none ∧ Fr n0 L ∧ Keep h0 h [ra] ∧ Exa Z h ra "com/example/tributary/tributary/io/LineFormat" ∧ Fld Z h ra "com/example/tributary/tributary/io/LineFormat" "line" "[B" (.ref la) ∧ Fld Z h ra "com/example/tributary/tributary/io/LineFormat" "lineStart" "I" (.int x1) ∧ Fld Z h ra "com/example/tributary/tributary/io/LineFormat" "lineEnd" "I" (.int x2) ∧ Fld Z h ra "com/example/tributary/tributary/io/LineFormat" "cursor" "I" (.int x1)
set_option maxRecDepth 65536 in
set_option maxHeartbeats 40000000 in
theorem rm4_1 (l : Launch) (Z : State) (a0 : Array Value) (hw : ∀ d ∈ tables_1, d.before a0 Z = true) (ws : List Jvm.Cond) (ra : Addr) (la : Addr) (x1 : Int32) (x2 : Int32) (o1 : Int32) (o2 : Int32) (o3 : Int32) (h0 : Heap) (n0 : Nat) (Z0 : n0 ≤ h0.size) (PE0 : Exa Z h0 ra "com/example/tributary/tributary/io/LineFormat") (PF0 : Fld Z h0 ra "com/example/tributary/tributary/io/LineFormat" "line" "[B" .null) (PF1 : Fld Z h0 ra "com/example/tributary/tributary/io/LineFormat" "lineStart" "I" (.int o1)) (PF2 : Fld Z h0 ra "com/example/tributary/tributary/io/LineFormat" "lineEnd" "I" (.int o2)) (PF3 : Fld Z h0 ra "com/example/tributary/tributary/io/LineFormat" "cursor" "I" (.int o3)) (PG0 : n0 ≤ ra) :
    MetFree l (⟨"com/example/tributary/tributary/io/LineFormat", "begin", "([BII)V"⟩ : MethodName) (head1 (Jvm.Cond.code (⟨"com/example/tributary/tributary/io/LineFormat", "begin", "([BII)V"⟩ : MethodName) prog_36_method_5_code 4 none :: ws) ({ frames := 0, cells := 0, slots := 0, locals := 0 } : Room)) (fun a U => a = #[(.ref ra), (.ref la), (.int x1), (.int x2)] ∧ Z.Warmed39 U.vm ∧ U.heap = h0) (fun _ _ _ _ _ => True) (fun _ U o U' => ∃ v L, o = .returned v ∧ Q4_1 Z ra la x1 x2 o1 o2 o3 h0 n0 v U'.heap L ∧ FrameEnd U o U' L ({ frames := 0, cells := 0, slots := 0, locals := 0 } : Room).cells ({ frames := 0, cells := 0, slots := 0, locals := 0 } : Room).slots) := by
  refine MetFree.of_bodySF (plainFor_of_name pn_22) hisR ?_
  intro p e s m args below meth c s₁ Bd hml0 hP hK
  obtain ⟨rfl, hZ, hh⟩ := hP
  have hx := Bd.exec
  have hby := Bd.bytes
  have hml : c.maxLocals = 4 := hml0
  have hown : s.vm.findClass "com/example/tributary/tributary/io/LineFormat" = some m.cls := findClass_of_methodNamed Bd.named
  have hnm := (name_of_methodNamed Bd.named Bd.method).1
  have X0 : Stand p l e ({ frames := 0, cells := 0, slots := 0, locals := 0 } : Room) s m #[(.ref ra), (.ref la), (.int x1), (.int x2)] below meth c s₁ [] 0 0 := Stand.of_body Bd
  have hlk : meth.locks = false := by first | exact BodyLoose.notSynchronized (by assumption) | exact Body.notSynchronized (by assumption)
  have e0 : s₁.heap = h0 := by rw [← hh, Bd.state]; rfl
  have N0 := Fr.nil n0
  have pre0 : ∀ t, Steps p.tables e below (s₁.setTop (mkF m 0 #[rv ra, rv la, iv x1, iv x2] [])) t → Steps p.tables e below (s₁.setTop (entryFrame m #[(.ref ra), (.ref la), (.int x1), (.int x2)] 4)) t := fun t k => castTop (ef_4_1 m ra la x1 x2) k
  generalize s₁.setTop (entryFrame m #[(.ref ra), (.ref la), (.int x1), (.int x2)] 4) = B0 at pre0 ⊢
  have H : ∀ (i : Nat) {d : Jvm.Cond}, tables_1[i]? = some d → d.before a0 Z = true := fun i d q => hw d (List.mem_of_getElem? q)
  have D : ∀ {pc : Nat} {r : Except DecodeError (Instr × Nat)}, decode prog_36_method_5_code pc = r → decode c.code pc = r := fun q => hb hby q
  obtain ⟨T1, h1, X1, e1, W1, st1⟩ := putF X0 hx hZ hown (host := "") (Or.inl (H 21 rfl)) Via.refl e0 PF0 PE0 (Or.inl (H 22 rfl)) (H 8 rfl) (ty := (.array .byte)) (by decide) rfl rfl (g := (mkF m 2 #[rv ra, rv la, iv x1, iv x2] [(.ref la), (.ref ra)])) rfl rfl (D d4_2)
  have A1_ra := PE0.wr W1
  have F1_ra_1 := PF1.other W1 (Or.inr (own_sn_45 hw))
  have F1_ra_2 := PF2.other W1 (Or.inr (own_sn_46 hw))
  have F1_ra_3 := PF3.other W1 (Or.inr (own_sn_47 hw))
  have sz1 := Nat.le_trans Z0 (Keep.of_wr W1).1
  have K1 := (Keep.refl h0 ([ra] : List Addr)).wr W1 (Or.inl (by simp))
  have N1 := Fr.snoc X1 N0 PG0
  have F1_s : Fld Z h1 ra "com/example/tributary/tributary/io/LineFormat" "line" "[B" (.ref la) := PF0.same W1
  obtain ⟨T2, h2, X2, e2, W2, st2⟩ := putF X1 hx hZ hown (host := "") (Or.inl (H 23 rfl)) Via.refl e1 F1_ra_1 A1_ra (Or.inl (H 24 rfl)) (H 8 rfl) (ty := .int) (by decide) rfl rfl (g := (mkF m 7 #[rv ra, rv la, iv x1, iv x2] [(.int x1), (.ref ra)])) rfl rfl (D d4_7)
  have A2_ra := A1_ra.wr W2
  have F2_ra_0 := F1_s.other W2 (Or.inr (own_sn_48 hw))
  have F2_ra_2 := F1_ra_2.other W2 (Or.inr (own_sn_49 hw))
  have F2_ra_3 := F1_ra_3.other W2 (Or.inr (own_sn_50 hw))
  have sz2 := Nat.le_trans sz1 (Keep.of_wr W2).1
  have K2 := K1.wr W2 (Or.inl (by simp))
  have N2 := Fr.snoc X2 N1 PG0
  have F2_s : Fld Z h2 ra "com/example/tributary/tributary/io/LineFormat" "lineStart" "I" (.int x1) := F1_ra_1.same W2
  obtain ⟨T3, h3, X3, e3, W3, st3⟩ := putF X2 hx hZ hown (host := "") (Or.inl (H 25 rfl)) Via.refl e2 F2_ra_2 A2_ra (Or.inl (H 26 rfl)) (H 8 rfl) (ty := .int) (by decide) rfl rfl (g := (mkF m 12 #[rv ra, rv la, iv x1, iv x2] [(.int x2), (.ref ra)])) rfl rfl (D d4_12)
  have A3_ra := A2_ra.wr W3
  have F3_ra_0 := F2_ra_0.other W3 (Or.inr (own_sn_51 hw))
  have F3_ra_1 := F2_s.other W3 (Or.inr (own_sn_52 hw))
  have F3_ra_3 := F2_ra_3.other W3 (Or.inr (own_sn_53 hw))
  have sz3 := Nat.le_trans sz2 (Keep.of_wr W3).1
  have K3 := K2.wr W3 (Or.inl (by simp))
  have N3 := Fr.snoc X3 N2 PG0
  have F3_s : Fld Z h3 ra "com/example/tributary/tributary/io/LineFormat" "lineEnd" "I" (.int x2) := F2_ra_2.same W3
  obtain ⟨T4, h4, X4, e4, W4, st4⟩ := putF X3 hx hZ hown (host := "") (Or.inl (H 27 rfl)) Via.refl e3 F3_ra_3 A3_ra (Or.inl (H 28 rfl)) (H 8 rfl) (ty := .int) (by decide) rfl rfl (g := (mkF m 17 #[rv ra, rv la, iv x1, iv x2] [(.int x1), (.ref ra)])) rfl rfl (D d4_17)
  have A4_ra := A3_ra.wr W4
  have F4_ra_0 := F3_ra_0.other W4 (Or.inr (own_sn_27 hw))
  have F4_ra_1 := F3_ra_1.other W4 (Or.inr (own_sn_30 hw))
  have F4_ra_2 := F3_s.other W4 (Or.inr (own_sn_28 hw))
  have sz4 := Nat.le_trans sz3 (Keep.of_wr W4).1
  have K4 := K3.wr W4 (Or.inl (by simp))
  have N4 := Fr.snoc X4 N3 PG0
  have F4_s : Fld Z h4 ra "com/example/tributary/tributary/io/LineFormat" "cursor" "I" (.int x1) := F3_ra_3.same W4
  obtain ⟨fs, hr, hrun, hended, hW, hsame⟩ := X4.leave (v := none) (fun _ => rfl) hlk
  refine ⟨_, _, pre0 _ ?_, hrun, hended, _, _, rfl, ?_, ⟨_, rfl⟩, hW, hsame.mono (by decide) (by decide)⟩
  · show Steps p.tables e below (s₁.setTop (mkF m 0 #[rv ra, rv la, iv x1, iv x2] [])) _
    refine XS.aloadN X0.here hx rfl (D d4_0) rfl rfl ?_
    refine XS.aloadN X0.here hx rfl (D d4_1) rfl rfl ?_
    refine st1 _ ?_
    refine XS.aloadN X1.here hx rfl (D d4_5) rfl rfl ?_
    refine XS.iloadN X1.here hx rfl (D d4_6) rfl ?_
    refine st2 _ ?_
    refine XS.aloadN X2.here hx rfl (D d4_10) rfl rfl ?_
    show Steps p.tables e below (T2.setTop (mkF m 11 #[rv ra, rv la, iv x1, iv x2] [(.ref ra)])) _
    refine XS.iloadN X2.here hx rfl (D d4_11) rfl ?_
    refine st3 _ ?_
    refine XS.aloadN X3.here hx rfl (D d4_15) rfl rfl ?_
    refine XS.iloadN X3.here hx rfl (D d4_16) rfl ?_
    refine st4 _ ?_
    show Steps p.tables e below (T4.setTop (mkF m 20 #[rv ra, rv la, iv x1, iv x2] [])) _
    exact X4.returnOut hx Bd.returns (D d4_20) hr
  · show Q4_1 Z ra la x1 x2 o1 o2 o3 h0 n0 _ T4.heap _
    rw [e4]
    exact ⟨rfl, N4, K4, A4_ra, F4_ra_0, F4_ra_1, F4_ra_2, F4_s⟩
theorem ef_4_2 (m : MethodId) (ra : Addr) (la : Addr) (x1 : Int32) (x2 : Int32) : entryFrame m #[(.ref ra), (.ref la), (.int x1), (.int x2)] 4 = mkF m 0 #[rv ra, rv la, iv x1, iv x2] [] := by first | (simp [entryFrame, mkF, argsToLocals, Value.category, maxLocals]; done) | rfl
def Q4_2 (Z : State) (ra : Addr) (la : Addr) (x1 : Int32) (x2 : Int32) (ol : Addr) (o1 : Int32) (o2 : Int32) (o3 : Int32) (h0 : Heap) (n0 : Nat) (v : Option Value) (h : Heap) (L : List Loc) : Prop := v = none ∧ Fr n0 L ∧ Keep h0 h [ra] ∧ Exa Z h ra "com/example/tributary/tributary/io/LineFormat" ∧ Fld Z h ra "com/example/tributary/tributary/io/LineFormat" "line" "[B" (.ref la) ∧ Fld Z h ra "com/example/tributary/tributary/io/LineFormat" "lineStart" "I" (.int x1) ∧ Fld Z h ra "com/example/tributary/tributary/io/LineFormat" "lineEnd" "I" (.int x2) ∧ Fld Z h ra "com/example/tributary/tributary/io/LineFormat" "cursor" "I" (.int x1)
set_option maxRecDepth 65536 in
set_option maxHeartbeats 40000000 in
theorem rm4_2 (l : Launch) (Z : State) (a0 : Array Value) (hw : ∀ d ∈ tables_1, d.before a0 Z = true) (ws : List Jvm.Cond) (ra : Addr) (la : Addr) (x1 : Int32) (x2 : Int32) (ol : Addr) (o1 : Int32) (o2 : Int32) (o3 : Int32) (h0 : Heap) (n0 : Nat) (Z0 : n0 ≤ h0.size) (PE0 : Exa Z h0 ra "com/example/tributary/tributary/io/LineFormat") (PF0 : Fld Z h0 ra "com/example/tributary/tributary/io/LineFormat" "line" "[B" (.ref ol)) (PF1 : Fld Z h0 ra "com/example/tributary/tributary/io/LineFormat" "lineStart" "I" (.int o1)) (PF2 : Fld Z h0 ra "com/example/tributary/tributary/io/LineFormat" "lineEnd" "I" (.int o2)) (PF3 : Fld Z h0 ra "com/example/tributary/tributary/io/LineFormat" "cursor" "I" (.int o3)) (PG0 : n0 ≤ ra) :
    MetFree l (⟨"com/example/tributary/tributary/io/LineFormat", "begin", "([BII)V"⟩ : MethodName) (head1 (Jvm.Cond.code (⟨"com/example/tributary/tributary/io/LineFormat", "begin", "([BII)V"⟩ : MethodName) prog_36_method_5_code 4 none :: ws) ({ frames := 0, cells := 0, slots := 0, locals := 0 } : Room)) (fun a U => a = #[(.ref ra), (.ref la), (.int x1), (.int x2)] ∧ Z.Warmed39 U.vm ∧ U.heap = h0) (fun _ _ _ _ _ => True) (fun _ U o U' => ∃ v L, o = .returned v ∧ Q4_2 Z ra la x1 x2 ol o1 o2 o3 h0 n0 v U'.heap L ∧ FrameEnd U o U' L ({ frames := 0, cells := 0, slots := 0, locals := 0 } : Room).cells ({ frames := 0, cells := 0, slots := 0, locals := 0 } : Room).slots) := by
  refine MetFree.of_bodySF (plainFor_of_name pn_22) hisR ?_
  intro p e s m args below meth c s₁ Bd hml0 hP hK
  obtain ⟨rfl, hZ, hh⟩ := hP
  have hx := Bd.exec
  have hby := Bd.bytes
  have hml : c.maxLocals = 4 := hml0
  have hown : s.vm.findClass "com/example/tributary/tributary/io/LineFormat" = some m.cls := findClass_of_methodNamed Bd.named
  have hnm := (name_of_methodNamed Bd.named Bd.method).1
  have X0 : Stand p l e ({ frames := 0, cells := 0, slots := 0, locals := 0 } : Room) s m #[(.ref ra), (.ref la), (.int x1), (.int x2)] below meth c s₁ [] 0 0 := Stand.of_body Bd
  have hlk : meth.locks = false := by first | exact BodyLoose.notSynchronized (by assumption) | exact Body.notSynchronized (by assumption)
  have e0 : s₁.heap = h0 := by rw [← hh, Bd.state]; rfl
  have N0 := Fr.nil n0
  have pre0 : ∀ t, Steps p.tables e below (s₁.setTop (mkF m 0 #[rv ra, rv la, iv x1, iv x2] [])) t → Steps p.tables e below (s₁.setTop (entryFrame m #[(.ref ra), (.ref la), (.int x1), (.int x2)] 4)) t := fun t k => castTop (ef_4_2 m ra la x1 x2) k
  generalize s₁.setTop (entryFrame m #[(.ref ra), (.ref la), (.int x1), (.int x2)] 4) = B0 at pre0 ⊢
  have H : ∀ (i : Nat) {d : Jvm.Cond}, tables_1[i]? = some d → d.before a0 Z = true := fun i d q => hw d (List.mem_of_getElem? q)
  have D : ∀ {pc : Nat} {r : Except DecodeError (Instr × Nat)}, decode prog_36_method_5_code pc = r → decode c.code pc = r := fun q => hb hby q
  obtain ⟨T1, h1, X1, e1, W1, st1⟩ := putF X0 hx hZ hown (host := "") (Or.inl (H 21 rfl)) Via.refl e0 PF0 PE0 (Or.inl (H 22 rfl)) (H 8 rfl) (ty := (.array .byte)) (by decide) rfl rfl (g := (mkF m 2 #[rv ra, rv la, iv x1, iv x2] [(.ref la), (.ref ra)])) rfl rfl (D d4_2)
  have A1_ra := PE0.wr W1
  have F1_ra_1 := PF1.other W1 (Or.inr (own_sn_45 hw))
  have F1_ra_2 := PF2.other W1 (Or.inr (own_sn_46 hw))
  have F1_ra_3 := PF3.other W1 (Or.inr (own_sn_47 hw))
  have sz1 := Nat.le_trans Z0 (Keep.of_wr W1).1
  have K1 := (Keep.refl h0 ([ra] : List Addr)).wr W1 (Or.inl (by simp))
  have N1 := Fr.snoc X1 N0 PG0
  have F1_s : Fld Z h1 ra "com/example/tributary/tributary/io/LineFormat" "line" "[B" (.ref la) := PF0.same W1
  obtain ⟨T2, h2, X2, e2, W2, st2⟩ := putF X1 hx hZ hown (host := "") (Or.inl (H 23 rfl)) Via.refl e1 F1_ra_1 A1_ra (Or.inl (H 24 rfl)) (H 8 rfl) (ty := .int) (by decide) rfl rfl (g := (mkF m 7 #[rv ra, rv la, iv x1, iv x2] [(.int x1), (.ref ra)])) rfl rfl (D d4_7)
  have A2_ra := A1_ra.wr W2
  have F2_ra_0 := F1_s.other W2 (Or.inr (own_sn_48 hw))
  have F2_ra_2 := F1_ra_2.other W2 (Or.inr (own_sn_49 hw))
  have F2_ra_3 := F1_ra_3.other W2 (Or.inr (own_sn_50 hw))
  have sz2 := Nat.le_trans sz1 (Keep.of_wr W2).1
  have K2 := K1.wr W2 (Or.inl (by simp))
  have N2 := Fr.snoc X2 N1 PG0
  have F2_s : Fld Z h2 ra "com/example/tributary/tributary/io/LineFormat" "lineStart" "I" (.int x1) := F1_ra_1.same W2
  obtain ⟨T3, h3, X3, e3, W3, st3⟩ := putF X2 hx hZ hown (host := "") (Or.inl (H 25 rfl)) Via.refl e2 F2_ra_2 A2_ra (Or.inl (H 26 rfl)) (H 8 rfl) (ty := .int) (by decide) rfl rfl (g := (mkF m 12 #[rv ra, rv la, iv x1, iv x2] [(.int x2), (.ref ra)])) rfl rfl (D d4_12)
  have A3_ra := A2_ra.wr W3
  have F3_ra_0 := F2_ra_0.other W3 (Or.inr (own_sn_51 hw))
  have F3_ra_1 := F2_s.other W3 (Or.inr (own_sn_52 hw))
  have F3_ra_3 := F2_ra_3.other W3 (Or.inr (own_sn_53 hw))
  have sz3 := Nat.le_trans sz2 (Keep.of_wr W3).1
  have K3 := K2.wr W3 (Or.inl (by simp))
  have N3 := Fr.snoc X3 N2 PG0
  have F3_s : Fld Z h3 ra "com/example/tributary/tributary/io/LineFormat" "lineEnd" "I" (.int x2) := F2_ra_2.same W3
  obtain ⟨T4, h4, X4, e4, W4, st4⟩ := putF X3 hx hZ hown (host := "") (Or.inl (H 27 rfl)) Via.refl e3 F3_ra_3 A3_ra (Or.inl (H 28 rfl)) (H 8 rfl) (ty := .int) (by decide) rfl rfl (g := (mkF m 17 #[rv ra, rv la, iv x1, iv x2] [(.int x1), (.ref ra)])) rfl rfl (D d4_17)
  have A4_ra := A3_ra.wr W4
  have F4_ra_0 := F3_ra_0.other W4 (Or.inr (own_sn_27 hw))
  have F4_ra_1 := F3_ra_1.other W4 (Or.inr (own_sn_30 hw))
  have F4_ra_2 := F3_s.other W4 (Or.inr (own_sn_28 hw))
  have sz4 := Nat.le_trans sz3 (Keep.of_wr W4).1
  have K4 := K3.wr W4 (Or.inl (by simp))
  have N4 := Fr.snoc X4 N3 PG0
  have F4_s : Fld Z h4 ra "com/example/tributary/tributary/io/LineFormat" "cursor" "I" (.int x1) := F3_ra_3.same W4
  obtain ⟨fs, hr, hrun, hended, hW, hsame⟩ := X4.leave (v := none) (fun _ => rfl) hlk
  refine ⟨_, _, pre0 _ ?_, hrun, hended, _, _, rfl, ?_, ⟨_, rfl⟩, hW, hsame.mono (by decide) (by decide)⟩
  · show Steps p.tables e below (s₁.setTop (mkF m 0 #[rv ra, rv la, iv x1, iv x2] [])) _
    refine XS.aloadN X0.here hx rfl (D d4_0) rfl rfl ?_
    refine XS.aloadN X0.here hx rfl (D d4_1) rfl rfl ?_
    refine st1 _ ?_
    refine XS.aloadN X1.here hx rfl (D d4_5) rfl rfl ?_
    refine XS.iloadN X1.here hx rfl (D d4_6) rfl ?_
    refine st2 _ ?_
    refine XS.aloadN X2.here hx rfl (D d4_10) rfl rfl ?_
    show Steps p.tables e below (T2.setTop (mkF m 11 #[rv ra, rv la, iv x1, iv x2] [(.ref ra)])) _
    refine XS.iloadN X2.here hx rfl (D d4_11) rfl ?_
    refine st3 _ ?_
    refine XS.aloadN X3.here hx rfl (D d4_15) rfl rfl ?_
    refine XS.iloadN X3.here hx rfl (D d4_16) rfl ?_
    refine st4 _ ?_
    show Steps p.tables e below (T4.setTop (mkF m 20 #[rv ra, rv la, iv x1, iv x2] [])) _
    exact X4.returnOut hx Bd.returns (D d4_20) hr
  · show Q4_2 Z ra la x1 x2 ol o1 o2 o3 h0 n0 _ T4.heap _
    rw [e4]
    exact ⟨rfl, N4, K4, A4_ra, F4_ra_0, F4_ra_1, F4_ra_2, F4_s⟩
theorem d5_0 : decode prog_36_method_6_code 0 = .ok (.aload_n 0, 1) := by decide +kernel
theorem d5_1 : decode prog_36_method_6_code 1 = .ok (.getfield 64, 3) := by decide +kernel
theorem d5_4 : decode prog_36_method_6_code 4 = .ok (.aload_n 0, 1) := by decide +kernel
theorem d5_5 : decode prog_36_method_6_code 5 = .ok (.getfield 68, 3) := by decide +kernel
theorem d5_8 : decode prog_36_method_6_code 8 = .ok (.baload, 1) := by decide +kernel
theorem d5_9 : decode prog_36_method_6_code 9 = .ok (.bipush 64, 2) := by decide +kernel
theorem d5_11 : decode prog_36_method_6_code 11 = .ok (.if_icmp .ne 7, 3) := by decide +kernel
theorem d5_14 : decode prog_36_method_6_code 14 = .ok (.iconst 1, 1) := by decide +kernel
theorem d5_15 : decode prog_36_method_6_code 15 = .ok (.goto 4, 3) := by decide +kernel
theorem d5_18 : decode prog_36_method_6_code 18 = .ok (.iconst 0, 1) := by decide +kernel
theorem d5_19 : decode prog_36_method_6_code 19 = .ok (.ireturn, 1) := by decide +kernel
theorem ef_5_y (m : MethodId) (ra : Addr) : entryFrame m #[(.ref ra)] 1 = mkF m 0 #[rv ra] [] := by first | (simp [entryFrame, mkF, argsToLocals, Value.category, maxLocals]; done) | rfl
def Q5_y (Z : State) (ra : Addr) (la : Addr) (bs : List Int32) (ls : Int32) (h0 : Heap) (n0 : Nat) (v : Option Value) (h : Heap) (L : List Loc) : Prop := v = some (.int (1 : Int32)) ∧ Fr n0 L ∧ h = h0
set_option maxRecDepth 65536 in
set_option maxHeartbeats 40000000 in
theorem rm5_y (l : Launch) (Z : State) (a0 : Array Value) (hw : ∀ d ∈ tables_1, d.before a0 Z = true) (ws : List Jvm.Cond) (ra : Addr) (la : Addr) (bs : List Int32) (ls : Int32) (h0 : Heap) (n0 : Nat) (Z0 : n0 ≤ h0.size) (PA0 : own_AI Z h0 la .byte bs) (PE0 : Exa Z h0 ra "com/example/tributary/tributary/io/LineFormat") (PF0 : Fld Z h0 ra "com/example/tributary/tributary/io/LineFormat" "line" "[B" (.ref la)) (PF1 : Fld Z h0 ra "com/example/tributary/tributary/io/LineFormat" "lineStart" "I" (.int ls)) (HI : 0 ≤ ls.toInt ∧ ls.toInt < (bs.length : Nat)) (HA : bs.getD (ls).toInt.toNat 0 = 64) :
    MetFree l (⟨"com/example/tributary/tributary/io/LineFormat", "hasArrival", "()Z"⟩ : MethodName) (head1 (Jvm.Cond.code (⟨"com/example/tributary/tributary/io/LineFormat", "hasArrival", "()Z"⟩ : MethodName) prog_36_method_6_code 1 (some .boolean) :: ws) ({ frames := 0, cells := 0, slots := 0, locals := 0 } : Room)) (fun a U => a = #[(.ref ra)] ∧ Z.Warmed39 U.vm ∧ U.heap = h0) (fun _ _ _ _ _ => True) (fun _ U o U' => ∃ v L, o = .returned v ∧ Q5_y Z ra la bs ls h0 n0 v U'.heap L ∧ FrameEnd U o U' L ({ frames := 0, cells := 0, slots := 0, locals := 0 } : Room).cells ({ frames := 0, cells := 0, slots := 0, locals := 0 } : Room).slots) := by
  refine MetFree.of_bodySF (plainFor_of_name pn_22) hisR ?_
  intro p e s m args below meth c s₁ Bd hml0 hP hK
  obtain ⟨rfl, hZ, hh⟩ := hP
  have hx := Bd.exec
  have hby := Bd.bytes
  have hml : c.maxLocals = 1 := hml0
  have hown : s.vm.findClass "com/example/tributary/tributary/io/LineFormat" = some m.cls := findClass_of_methodNamed Bd.named
  have hnm := (name_of_methodNamed Bd.named Bd.method).1
  have X0 : Stand p l e ({ frames := 0, cells := 0, slots := 0, locals := 0 } : Room) s m #[(.ref ra)] below meth c s₁ [] 0 0 := Stand.of_body Bd
  have hlk : meth.locks = false := by first | exact BodyLoose.notSynchronized (by assumption) | exact Body.notSynchronized (by assumption)
  have e0 : s₁.heap = h0 := by rw [← hh, Bd.state]; rfl
  have N0 := Fr.nil n0
  have pre0 : ∀ t, Steps p.tables e below (s₁.setTop (mkF m 0 #[rv ra] [])) t → Steps p.tables e below (s₁.setTop (entryFrame m #[(.ref ra)] 1)) t := fun t k => castTop (ef_5_y m ra) k
  generalize s₁.setTop (entryFrame m #[(.ref ra)] 1) = B0 at pre0 ⊢
  have H : ∀ (i : Nat) {d : Jvm.Cond}, tables_1[i]? = some d → d.before a0 Z = true := fun i d q => hw d (List.mem_of_getElem? q)
  have D : ∀ {pc : Nat} {r : Except DecodeError (Instr × Nat)}, decode prog_36_method_6_code pc = r → decode c.code pc = r := fun q => hb hby q
  obtain ⟨T1, X1, e1, st1⟩ := getF X0 hx hZ hown (host := "") (Or.inl (H 21 rfl)) Via.refl e0 PF0 (g := (mkF m 1 #[rv ra] [(.ref ra)])) rfl rfl (D d5_1)
  obtain ⟨T2, X2, e2, st2⟩ := getF X1 hx hZ hown (host := "") (Or.inl (H 23 rfl)) Via.refl e1 PF1 (g := (mkF m 5 #[rv ra] [(.ref ra), (.ref la)])) rfl rfl (D d5_5)
  have in_8_3 : 0 ≤ (ls).toInt ∧ (ls).toInt < (bs.length : Nat) := HI
  have c4 : (bs.getD (ls).toInt.toNat 0) = (64 : Int32) := HA
  obtain ⟨fs, hr, hrun, hended, hW, hsame⟩ := X2.leave (v := some (.int (1 : Int32))) (fun h => by rw [Bd.returns] at h; cases h) hlk
  refine ⟨_, _, pre0 _ ?_, hrun, hended, _, _, rfl, ?_, ⟨_, rfl⟩, hW, hsame.mono (by decide) (by decide)⟩
  · show Steps p.tables e below (s₁.setTop (mkF m 0 #[rv ra] [])) _
    refine XS.aloadN X0.here hx rfl (D d5_0) rfl rfl ?_
    refine st1 _ ?_
    refine XS.aloadN X1.here hx rfl (D d5_4) rfl rfl ?_
    refine st2 _ ?_
    refine own_baloadB X2 hx hZ e2 PA0 in_8_3 (D d5_8) _ ?_
    refine XS.bipush X2.here hx rfl (D d5_9) ?_
    show Steps p.tables e below (T2.setTop (mkF m 11 #[rv ra] [(.int (64 : Int32)), (.int (bs.getD (ls).toInt.toNat 0))])) _
    refine XS.icmpNo X2.here hx rfl (D d5_11) rfl ((teq c4).2) ?_
    refine XS.iconst X2.here hx rfl (D d5_14) ?_
    show Steps p.tables e below (T2.setTop (mkF m 15 #[rv ra] [(.int (1 : Int32))])) _
    refine XS.goto X2.here hx rfl (pc0 := 15) (pc' := 19) rfl (D d5_15) (by decide) (by decide) ?_
    show Steps p.tables e below (T2.setTop (mkF m 19 #[rv ra] [(.int (1 : Int32))])) _
    exact retN X2 hx (t := .boolean) Bd.returns (by simp) (D d5_19) hr
  · show Q5_y Z ra la bs ls h0 n0 _ T2.heap _
    rw [e2]
    exact ⟨rfl, N0, rfl⟩
theorem ef_5_n (m : MethodId) (ra : Addr) : entryFrame m #[(.ref ra)] 1 = mkF m 0 #[rv ra] [] := by first | (simp [entryFrame, mkF, argsToLocals, Value.category, maxLocals]; done) | rfl
def Q5_n (Z : State) (ra : Addr) (la : Addr) (bs : List Int32) (ls : Int32) (h0 : Heap) (n0 : Nat) (v : Option Value) (h : Heap) (L : List Loc) : Prop := v = some (.int (0 : Int32)) ∧ Fr n0 L ∧ h = h0
set_option maxRecDepth 65536 in
set_option maxHeartbeats 40000000 in
theorem rm5_n (l : Launch) (Z : State) (a0 : Array Value) (hw : ∀ d ∈ tables_1, d.before a0 Z = true) (ws : List Jvm.Cond) (ra : Addr) (la : Addr) (bs : List Int32) (ls : Int32) (h0 : Heap) (n0 : Nat) (Z0 : n0 ≤ h0.size) (PA0 : own_AI Z h0 la .byte bs) (PE0 : Exa Z h0 ra "com/example/tributary/tributary/io/LineFormat") (PF0 : Fld Z h0 ra "com/example/tributary/tributary/io/LineFormat" "line" "[B" (.ref la)) (PF1 : Fld Z h0 ra "com/example/tributary/tributary/io/LineFormat" "lineStart" "I" (.int ls)) (HI : 0 ≤ ls.toInt ∧ ls.toInt < (bs.length : Nat)) (HA : ¬ (bs.getD (ls).toInt.toNat 0 = 64)) :
    MetFree l (⟨"com/example/tributary/tributary/io/LineFormat", "hasArrival", "()Z"⟩ : MethodName) (head1 (Jvm.Cond.code (⟨"com/example/tributary/tributary/io/LineFormat", "hasArrival", "()Z"⟩ : MethodName) prog_36_method_6_code 1 (some .boolean) :: ws) ({ frames := 0, cells := 0, slots := 0, locals := 0 } : Room)) (fun a U => a = #[(.ref ra)] ∧ Z.Warmed39 U.vm ∧ U.heap = h0) (fun _ _ _ _ _ => True) (fun _ U o U' => ∃ v L, o = .returned v ∧ Q5_n Z ra la bs ls h0 n0 v U'.heap L ∧ FrameEnd U o U' L ({ frames := 0, cells := 0, slots := 0, locals := 0 } : Room).cells ({ frames := 0, cells := 0, slots := 0, locals := 0 } : Room).slots) := by
  refine MetFree.of_bodySF (plainFor_of_name pn_22) hisR ?_
  intro p e s m args below meth c s₁ Bd hml0 hP hK
  obtain ⟨rfl, hZ, hh⟩ := hP
  have hx := Bd.exec
  have hby := Bd.bytes
  have hml : c.maxLocals = 1 := hml0
  have hown : s.vm.findClass "com/example/tributary/tributary/io/LineFormat" = some m.cls := findClass_of_methodNamed Bd.named
  have hnm := (name_of_methodNamed Bd.named Bd.method).1
  have X0 : Stand p l e ({ frames := 0, cells := 0, slots := 0, locals := 0 } : Room) s m #[(.ref ra)] below meth c s₁ [] 0 0 := Stand.of_body Bd
  have hlk : meth.locks = false := by first | exact BodyLoose.notSynchronized (by assumption) | exact Body.notSynchronized (by assumption)
  have e0 : s₁.heap = h0 := by rw [← hh, Bd.state]; rfl
  have N0 := Fr.nil n0
  have pre0 : ∀ t, Steps p.tables e below (s₁.setTop (mkF m 0 #[rv ra] [])) t → Steps p.tables e below (s₁.setTop (entryFrame m #[(.ref ra)] 1)) t := fun t k => castTop (ef_5_n m ra) k
  generalize s₁.setTop (entryFrame m #[(.ref ra)] 1) = B0 at pre0 ⊢
  have H : ∀ (i : Nat) {d : Jvm.Cond}, tables_1[i]? = some d → d.before a0 Z = true := fun i d q => hw d (List.mem_of_getElem? q)
  have D : ∀ {pc : Nat} {r : Except DecodeError (Instr × Nat)}, decode prog_36_method_6_code pc = r → decode c.code pc = r := fun q => hb hby q
  obtain ⟨T1, X1, e1, st1⟩ := getF X0 hx hZ hown (host := "") (Or.inl (H 21 rfl)) Via.refl e0 PF0 (g := (mkF m 1 #[rv ra] [(.ref ra)])) rfl rfl (D d5_1)
  obtain ⟨T2, X2, e2, st2⟩ := getF X1 hx hZ hown (host := "") (Or.inl (H 23 rfl)) Via.refl e1 PF1 (g := (mkF m 5 #[rv ra] [(.ref ra), (.ref la)])) rfl rfl (D d5_5)
  have in_8_3 : 0 ≤ (ls).toInt ∧ (ls).toInt < (bs.length : Nat) := HI
  have c4 : ¬ ((bs.getD (ls).toInt.toNat 0) = (64 : Int32)) := HA
  obtain ⟨fs, hr, hrun, hended, hW, hsame⟩ := X2.leave (v := some (.int (0 : Int32))) (fun h => by rw [Bd.returns] at h; cases h) hlk
  refine ⟨_, _, pre0 _ ?_, hrun, hended, _, _, rfl, ?_, ⟨_, rfl⟩, hW, hsame.mono (by decide) (by decide)⟩
  · show Steps p.tables e below (s₁.setTop (mkF m 0 #[rv ra] [])) _
    refine XS.aloadN X0.here hx rfl (D d5_0) rfl rfl ?_
    refine st1 _ ?_
    refine XS.aloadN X1.here hx rfl (D d5_4) rfl rfl ?_
    refine st2 _ ?_
    refine own_baloadB X2 hx hZ e2 PA0 in_8_3 (D d5_8) _ ?_
    refine XS.bipush X2.here hx rfl (D d5_9) ?_
    show Steps p.tables e below (T2.setTop (mkF m 11 #[rv ra] [(.int (64 : Int32)), (.int (bs.getD (ls).toInt.toNat 0))])) _
    refine XS.icmpYes X2.here hx rfl (pc0 := 11) (pc' := 18) rfl (D d5_11) rfl ((feq c4).2) (by decide) (by decide) ?_
    refine XS.iconst X2.here hx rfl (D d5_18) ?_
    show Steps p.tables e below (T2.setTop (mkF m 19 #[rv ra] [(.int (0 : Int32))])) _
    exact retN X2 hx (t := .boolean) Bd.returns (by simp) (D d5_19) hr
  · show Q5_n Z ra la bs ls h0 n0 _ T2.heap _
    rw [e2]
    exact ⟨rfl, N0, rfl⟩
theorem ef_0 (m : MethodId) (q0 : Int64) (q1 : Int32) (q2 : Int32) (q3 : Int32) (q4 : Int32) : entryFrame m #[(.long q0), (.int q1), (.int q2), (.int q3), (.int q4)] maxLocals = mkF m 0 #[jv q0, s2, iv q1, iv q2, iv q3, iv q4, u0, u0, u0, u0, u0, u0, u0, u0, u0, u0, u0, u0, u0, u0, u0] [] := by first | (simp [entryFrame, mkF, argsToLocals, Value.category, maxLocals]; done) | rfl
theorem pd_55 : parseMethodDescriptor "(JI)B" = some ⟨[.long, .int], some .byte⟩ := by decide +kernel
theorem pd_56 : parseMethodDescriptor "([BII)V" = some ⟨[(.array .byte), .int, .int], none⟩ := by decide +kernel
theorem pd_57 : parseMethodDescriptor "(Lcom/example/tributary/tributary/model/HeldPayloads;)Lcom/example/tributary/tributary/model/Element;" = some ⟨[(.object "com/example/tributary/tributary/model/HeldPayloads")], some (.object "com/example/tributary/tributary/model/Element")⟩ := by decide +kernel
theorem pd_58 : parseMethodDescriptor "()Lcom/example/tributary/tributary/model/Time;" = some ⟨[], some (.object "com/example/tributary/tributary/model/Time")⟩ := by decide +kernel
def Q0 (Z : State) (q0 : Int64) (q1 : Int32) (q2 : Int32) (q3 : Int32) (q4 : Int32)  (h0 : Heap) (n0 : Nat) (v : Option Value) (h : Heap) (L : List Loc) : Prop := v = some (.int (1 : Int32)) ∧ Fr n0 L
set_option maxRecDepth 65536 in
set_option maxHeartbeats 40000000 in
theorem rm0 (l : Launch) (Z : State) (a0 : Array Value) (hw : ∀ d ∈ tables_1, d.before a0 Z = true) (ws : List Jvm.Cond) (q0 : Int64) (q1 : Int32) (q2 : Int32) (q3 : Int32) (q4 : Int32)  (h0 : Heap) (n0 : Nat) (Z0 : n0 ≤ h0.size)  :
    MetFree l x (head1 (Jvm.Cond.code x code maxLocals ret :: ws) room_1) (fun a U => a = #[(.long q0), (.int q1), (.int q2), (.int q3), (.int q4)] ∧ Z.Warmed39 U.vm ∧ U.heap = h0) (fun _ _ _ _ _ => True) (fun _ U o U' => ∃ v L, o = .returned v ∧ Q0 Z q0 q1 q2 q3 q4 h0 n0 v U'.heap L ∧ ReturnedEndW U o U' L room_1.cells room_1.slots) := by
  refine MetFree.of_bodySF (plainFor_of_name pn_1) hisR ?_
  intro p e s m args below meth c s₁ Bd hml0 hP hK
  obtain ⟨rfl, hZ, hh⟩ := hP
  have hx := Bd.exec
  have hby := Bd.bytes
  have hml : c.maxLocals = 21 := hml0
  have hown : s.vm.findClass "com/example/tributary/tributary/io/LineFormatBeginPinLaw" = some m.cls := findClass_of_methodNamed Bd.named
  have hnm := (name_of_methodNamed Bd.named Bd.method).1
  have hZ : Z.Warmed39 (s.setVm s.vm).vm := hZ
  have hown : (s.setVm s.vm).vm.findClass "com/example/tributary/tributary/io/LineFormatBeginPinLaw" = some m.cls := hown
  have S0 : s.Since s.vm 0 := (State.WarmedH.refl s).since 0
  have kz0 : 0 ≤ h0.size := Nat.zero_le _
  have X0 : Stand p l e room_1 (s.setVm s.vm) m #[(.long q0), (.int q1), (.int q2), (.int q3), (.int q4)] below meth c s₁ [] 0 0 := Stand.of_body Bd
  have hlk : meth.locks = false := by first | exact BodyLoose.notSynchronized (by assumption) | exact Body.notSynchronized (by assumption)
  have e0 : s₁.heap = h0 := by rw [← hh, Bd.state]; rfl
  have N0 := Fr.nil n0
  have pre0 : ∀ t, Steps p.tables e below (s₁.setTop (mkF m 0 #[jv q0, s2, iv q1, iv q2, iv q3, iv q4, u0, u0, u0, u0, u0, u0, u0, u0, u0, u0, u0, u0, u0, u0, u0] [])) t → Steps p.tables e below (s₁.setTop (entryFrame m #[(.long q0), (.int q1), (.int q2), (.int q3), (.int q4)] maxLocals)) t := fun t k => castTop (ef_0 m q0 q1 q2 q3 q4) k
  generalize s₁.setTop (entryFrame m #[(.long q0), (.int q1), (.int q2), (.int q3), (.int q4)] maxLocals) = B0 at pre0 ⊢
  have H : ∀ (i : Nat) {d : Jvm.Cond}, tables_1[i]? = some d → d.before a0 Z = true := fun i d q => hw d (List.mem_of_getElem? q)
  have D : ∀ {pc : Nat} {r : Except DecodeError (Instr × Nat)}, decode code pc = r → decode c.code pc = r := fun q => hb hby q
  obtain ⟨v1, hv1⟩ : ∃ z : Int32, z = (q1 &&& (7 : Int32)) := ⟨_, rfl⟩
  have pre2 : ∀ t, Steps p.tables e below (s₁.setTop (mkF m 4 #[jv q0, s2, iv q1, iv q2, iv q3, iv q4, u0, u0, u0, u0, u0, u0, u0, u0, u0, u0, u0, u0, u0, u0, u0] [(.int v1)])) t → Steps p.tables e below B0 t := by
    rw [hv1]
    intro t k
    refine pre0 t ?_
    show Steps p.tables e below (s₁.setTop (mkF m 0 #[jv q0, s2, iv q1, iv q2, iv q3, iv q4, u0, u0, u0, u0, u0, u0, u0, u0, u0, u0, u0, u0, u0, u0, u0] [])) _
    refine XS.iloadN X0.here hx rfl (D at_0) rfl ?_
    refine XS.bipush X0.here hx rfl (D at_1) ?_
    refine XS.iand X0.here hx rfl (D at_3) rfl ?_
    exact k
  obtain ⟨v3, hv3⟩ : ∃ z : Int32, z = ((q2 &&& (3 : Int32)) + (1 : Int32)) := ⟨_, rfl⟩
  have pre4 : ∀ t, Steps p.tables e below (s₁.setTop (mkF m 11 #[jv q0, s2, iv q1, iv q2, iv q3, iv q4, iv v1, u0, u0, u0, u0, u0, u0, u0, u0, u0, u0, u0, u0, u0, u0] [(.int v3)])) t → Steps p.tables e below B0 t := by
    rw [hv3]
    intro t k
    refine pre2 t ?_
    show Steps p.tables e below (s₁.setTop (mkF m 4 #[jv q0, s2, iv q1, iv q2, iv q3, iv q4, u0, u0, u0, u0, u0, u0, u0, u0, u0, u0, u0, u0, u0, u0, u0] [(.int v1)])) _
    refine XS.istore X0.here hx rfl (D at_4) rfl (l' := #[jv q0, s2, iv q1, iv q2, iv q3, iv q4, iv v1, u0, u0, u0, u0, u0, u0, u0, u0, u0, u0, u0, u0, u0, u0]) rfl ?_
    refine XS.iloadN X0.here hx rfl (D at_6) rfl ?_
    refine XS.iconst X0.here hx rfl (D at_7) ?_
    refine XS.iand X0.here hx rfl (D at_8) rfl ?_
    show Steps p.tables e below (s₁.setTop (mkF m 9 #[jv q0, s2, iv q1, iv q2, iv q3, iv q4, iv v1, u0, u0, u0, u0, u0, u0, u0, u0, u0, u0, u0, u0, u0, u0] [(.int (q2 &&& (3 : Int32)))])) _
    refine XS.iconst X0.here hx rfl (D at_9) ?_
    refine XS.iadd X0.here hx rfl (D at_10) rfl ?_
    exact k
  obtain ⟨v5, hv5⟩ : ∃ z : Int32, z = ((q3 &&& (3 : Int32)) + (1 : Int32)) := ⟨_, rfl⟩
  have pre6 : ∀ t, Steps p.tables e below (s₁.setTop (mkF m 19 #[jv q0, s2, iv q1, iv q2, iv q3, iv q4, iv v1, iv v3, u0, u0, u0, u0, u0, u0, u0, u0, u0, u0, u0, u0, u0] [(.int v5)])) t → Steps p.tables e below B0 t := by
    rw [hv5]
    intro t k
    refine pre4 t ?_
    show Steps p.tables e below (s₁.setTop (mkF m 11 #[jv q0, s2, iv q1, iv q2, iv q3, iv q4, iv v1, u0, u0, u0, u0, u0, u0, u0, u0, u0, u0, u0, u0, u0, u0] [(.int v3)])) _
    refine XS.istore X0.here hx rfl (D at_11) rfl (l' := #[jv q0, s2, iv q1, iv q2, iv q3, iv q4, iv v1, iv v3, u0, u0, u0, u0, u0, u0, u0, u0, u0, u0, u0, u0, u0]) rfl ?_
    refine XS.iload X0.here hx rfl (D at_13) rfl ?_
    refine XS.iconst X0.here hx rfl (D at_15) ?_
    refine XS.iand X0.here hx rfl (D at_16) rfl ?_
    refine XS.iconst X0.here hx rfl (D at_17) ?_
    refine XS.iadd X0.here hx rfl (D at_18) rfl ?_
    exact k
  have pre8 : ∀ t, Steps p.tables e below (s₁.setTop (mkF m 25 #[jv q0, s2, iv q1, iv q2, iv q3, iv q4, iv v1, iv v3, iv v5, u0, u0, u0, u0, u0, u0, u0, u0, u0, u0, u0, u0] [(.int (q4 &&& (1 : Int32)))])) t → Steps p.tables e below B0 t := by
    intro t k
    refine pre6 t ?_
    show Steps p.tables e below (s₁.setTop (mkF m 19 #[jv q0, s2, iv q1, iv q2, iv q3, iv q4, iv v1, iv v3, u0, u0, u0, u0, u0, u0, u0, u0, u0, u0, u0, u0, u0] [(.int v5)])) _
    refine XS.istore X0.here hx rfl (D at_19) rfl (l' := #[jv q0, s2, iv q1, iv q2, iv q3, iv q4, iv v1, iv v3, iv v5, u0, u0, u0, u0, u0, u0, u0, u0, u0, u0, u0, u0]) rfl ?_
    refine XS.iload X0.here hx rfl (D at_21) rfl ?_
    refine XS.iconst X0.here hx rfl (D at_23) ?_
    refine XS.iand X0.here hx rfl (D at_24) rfl ?_
    exact k
  clear pre2 pre4 pre6
  have pre9 : ∀ t, Steps p.tables e below (s₁.setTop (mkF m 33 #[jv q0, s2, iv q1, iv q2, iv q3, iv q4, iv v1, iv v3, iv v5, u0, u0, u0, u0, u0, u0, u0, u0, u0, u0, u0, u0] [(.int (if (q4 &&& (1 : Int32)) = (0 : Int32) then (0 : Int32) else (1 : Int32)))])) t → Steps p.tables e below B0 t := by
    by_cases c7 : (q4 &&& (1 : Int32)) = (0 : Int32)
    · try simp only [if_pos c7]
      intro t k
      refine pre8 t ?_
      show Steps p.tables e below (s₁.setTop (mkF m 25 #[jv q0, s2, iv q1, iv q2, iv q3, iv q4, iv v1, iv v3, iv v5, u0, u0, u0, u0, u0, u0, u0, u0, u0, u0, u0, u0] [(.int (q4 &&& (1 : Int32)))])) _
      refine XS.ifYes X0.here hx rfl (pc0 := 25) (pc' := 32) rfl (D at_25) rfl ((if0 _ _).trans (teq c7).1) (by decide) (by decide) ?_
      refine XS.iconst X0.here hx rfl (D at_32) ?_
      exact k
    · try simp only [if_neg c7]
      intro t k
      refine pre8 t ?_
      show Steps p.tables e below (s₁.setTop (mkF m 25 #[jv q0, s2, iv q1, iv q2, iv q3, iv q4, iv v1, iv v3, iv v5, u0, u0, u0, u0, u0, u0, u0, u0, u0, u0, u0, u0] [(.int (q4 &&& (1 : Int32)))])) _
      refine XS.ifNo X0.here hx rfl (D at_25) rfl ((if0 _ _).trans (feq c7).1) ?_
      refine XS.iconst X0.here hx rfl (D at_28) ?_
      refine XS.goto X0.here hx rfl (pc0 := 29) (pc' := 33) rfl (D at_29) (by decide) (by decide) ?_
      exact k
  obtain ⟨v10, hv10⟩ : ∃ z : Int32, z = (if (q4 &&& (1 : Int32)) = (0 : Int32) then (0 : Int32) else (1 : Int32)) := ⟨_, rfl⟩
  have pre11 : ∀ t, Steps p.tables e below (s₁.setTop (mkF m 33 #[jv q0, s2, iv q1, iv q2, iv q3, iv q4, iv v1, iv v3, iv v5, u0, u0, u0, u0, u0, u0, u0, u0, u0, u0, u0, u0] [(.int v10)])) t → Steps p.tables e below B0 t := by
    rw [hv10]
    intro t k
    refine pre9 t ?_
    exact k
  obtain ⟨v12, hv12⟩ : ∃ z : Int32, z = (((q4).toUInt32 >>> ((1 : Int32) &&& 31).toUInt32).toInt32 &&& (15 : Int32)) := ⟨_, rfl⟩
  have pre13 : ∀ t, Steps p.tables e below (s₁.setTop (mkF m 42 #[jv q0, s2, iv q1, iv q2, iv q3, iv q4, iv v1, iv v3, iv v5, iv v10, u0, u0, u0, u0, u0, u0, u0, u0, u0, u0, u0] [(.int v12)])) t → Steps p.tables e below B0 t := by
    rw [hv12]
    intro t k
    refine pre11 t ?_
    show Steps p.tables e below (s₁.setTop (mkF m 33 #[jv q0, s2, iv q1, iv q2, iv q3, iv q4, iv v1, iv v3, iv v5, u0, u0, u0, u0, u0, u0, u0, u0, u0, u0, u0, u0] [(.int v10)])) _
    refine XS.istore X0.here hx rfl (D at_33) rfl (l' := #[jv q0, s2, iv q1, iv q2, iv q3, iv q4, iv v1, iv v3, iv v5, iv v10, u0, u0, u0, u0, u0, u0, u0, u0, u0, u0, u0]) rfl ?_
    refine XS.iload X0.here hx rfl (D at_35) rfl ?_
    refine XS.iconst X0.here hx rfl (D at_37) ?_
    refine XS.iushr X0.here hx rfl (D at_38) rfl ?_
    show Steps p.tables e below (s₁.setTop (mkF m 39 #[jv q0, s2, iv q1, iv q2, iv q3, iv q4, iv v1, iv v3, iv v5, iv v10, u0, u0, u0, u0, u0, u0, u0, u0, u0, u0, u0] [(.int ((q4).toUInt32 >>> ((1 : Int32) &&& 31).toUInt32).toInt32)])) _
    refine XS.bipush X0.here hx rfl (D at_39) ?_
    refine XS.iand X0.here hx rfl (D at_41) rfl ?_
    exact k
  obtain ⟨T14, h14, cA14, X14, e14, E14, A14, st14⟩ := newP X0 hx hZ (aty := .byte) (H 0 rfl) e0 (g := (mkF m 46 #[jv q0, s2, iv q1, iv q2, iv q3, iv q4, iv v1, iv v3, iv v5, iv v10, iv v12, u0, u0, u0, u0, u0, u0, u0, u0, u0, u0] [(.int (20 : Int32))])) rfl (D at_46) rfl (by decide) (cap := 20) (by decide) (by decide) (by decide) (by decide)
  obtain ⟨a14, g14⟩ : ∃ z, z = h0.size := ⟨_, rfl⟩
  rw [← g14] at A14 st14
  have ge_a14 : n0 ≤ a14 := g14 ▸ Z0
  have sz14 := Nat.le_trans Z0 E14.1
  have kz14 := Nat.le_trans kz0 E14.1
  have V14_n : own_AI Z h14 a14 .byte [(0 : Int32), (0 : Int32), (0 : Int32), (0 : Int32), (0 : Int32), (0 : Int32), (0 : Int32), (0 : Int32), (0 : Int32), (0 : Int32), (0 : Int32), (0 : Int32), (0 : Int32), (0 : Int32), (0 : Int32), (0 : Int32), (0 : Int32), (0 : Int32), (0 : Int32), (0 : Int32)] := own_AIbyte_new A14 (k := 20) (by decide)
  obtain ⟨_, _, ⟨T15, L15, k15, n15⟩, -, X15, ⟨Lc15, hQ15, l15, y15, z15⟩, st15⟩ := Jvm.LawKit.callS X14 hx (y := (⟨"com/example/tributary/tributary/io/LineFormatBeginPinLaw", "dig", "(JI)B"⟩ : MethodName)) hown (mvT hZ (H 1 rfl)) (mvT hZ (H 2 rfl)) (mvT hZ (H 3 rfl)) (mvT hZ (H 4 rfl)) (by decide) (backOf (W := 2) (rm1 l Z a0 hw [] q0 (0 : Int32)  h14 n0 sz14 ) hZ (H 4 rfl) (H 3 rfl) (by decide) (by decide)) (g := (mkF m 55 #[jv q0, s2, iv q1, iv q2, iv q3, iv q4, iv v1, iv v3, iv v5, iv v10, iv v12, rv a14, u0, u0, u0, u0, u0, u0, u0, u0, u0] [(.int (0 : Int32)), (.long q0), (.int (0 : Int32)), (.ref a14)])) rfl (by rw [hml]; rfl) (argsL := [(.long q0), (.int (0 : Int32))]) (rest := [(.int (0 : Int32)), (.ref a14)]) (lenOf pd_55 rfl) rfl (by show 2 * 0 + _ ≤ _; exact Nat.le_of_eq rfl) (D at_55) (fun _ _ => ⟨rfl, e14, (by decide : 1 + 0 ≤ _), (by decide : 20 + 0 ≤ _)⟩)
  dsimp only [Pt.U, Pt.locs, Pt.cells, Pt.slots] at X15 l15 y15 z15 st15 hQ15
  replace y15 : k15 = 1 := y15
  replace z15 : n15 = 20 := z15
  replace l15 := l15.symm; replace y15 := y15.symm; replace z15 := z15.symm; subst l15 y15 z15
  obtain ⟨rfl, N15q, e15⟩ := hQ15
  have N15 := Fr.app N0 N15q
  obtain ⟨T16, h16, X16, e16, W16, V16, st16⟩ := own_bastoreB X15 hx hZ e15 V14_n (j := (0 : Int32)) (show 0 ≤ Int32.toInt (0 : Int32) ∧ Int32.toInt (0 : Int32) < ((20 : Nat) : Int) by decide) (x := (own_f1 q0 ((0 : Int32)))) (D at_58)
  have sz16 := Nat.le_trans sz14 (Keep.of_wr W16).1
  have kz16 := Nat.le_trans kz14 (Keep.of_wr W16).1
  have N16 := Fr.snoc X16 N15 ge_a14
  have V16_n : own_AI Z h16 a14 .byte [((own_f1 q0 ((0 : Int32)))).toInt8.toInt32, (0 : Int32), (0 : Int32), (0 : Int32), (0 : Int32), (0 : Int32), (0 : Int32), (0 : Int32), (0 : Int32), (0 : Int32), (0 : Int32), (0 : Int32), (0 : Int32), (0 : Int32), (0 : Int32), (0 : Int32), (0 : Int32), (0 : Int32), (0 : Int32), (0 : Int32)] := V16
  obtain ⟨_, _, ⟨T17, L17, k17, n17⟩, -, X17, ⟨Lc17, hQ17, l17, y17, z17⟩, st17⟩ := Jvm.LawKit.callS X16 hx (y := (⟨"com/example/tributary/tributary/io/LineFormatBeginPinLaw", "dig", "(JI)B"⟩ : MethodName)) hown (mvT hZ (H 1 rfl)) (mvT hZ (H 2 rfl)) (mvT hZ (H 3 rfl)) (mvT hZ (H 4 rfl)) (by decide) (backOf (W := 2) (rm1 l Z a0 hw [] q0 (1 : Int32)  h16 n0 sz16 ) hZ (H 4 rfl) (H 3 rfl) (by decide) (by decide)) (g := (mkF m 64 #[jv q0, s2, iv q1, iv q2, iv q3, iv q4, iv v1, iv v3, iv v5, iv v10, iv v12, rv a14, u0, u0, u0, u0, u0, u0, u0, u0, u0] [(.int (1 : Int32)), (.long q0), (.int (1 : Int32)), (.ref a14)])) rfl (by rw [hml]; rfl) (argsL := [(.long q0), (.int (1 : Int32))]) (rest := [(.int (1 : Int32)), (.ref a14)]) (lenOf pd_55 rfl) rfl (by show 2 * 0 + _ ≤ _; exact Nat.le_of_eq rfl) (D at_64) (fun _ _ => ⟨rfl, e16, (by decide : 1 + 0 ≤ _), (by decide : 20 + 0 ≤ _)⟩)
  dsimp only [Pt.U, Pt.locs, Pt.cells, Pt.slots] at X17 l17 y17 z17 st17 hQ17
  replace y17 : k17 = 1 := y17
  replace z17 : n17 = 20 := z17
  replace l17 := l17.symm; replace y17 := y17.symm; replace z17 := z17.symm; subst l17 y17 z17
  obtain ⟨rfl, N17q, e17⟩ := hQ17
  have N17 := Fr.app N16 N17q
  obtain ⟨T18, h18, X18, e18, W18, V18, st18⟩ := own_bastoreB X17 hx hZ e17 V16_n (j := (1 : Int32)) (show 0 ≤ Int32.toInt (1 : Int32) ∧ Int32.toInt (1 : Int32) < ((20 : Nat) : Int) by decide) (x := (own_f1 q0 ((1 : Int32)))) (D at_67)
  have sz18 := Nat.le_trans sz16 (Keep.of_wr W18).1
  have kz18 := Nat.le_trans kz16 (Keep.of_wr W18).1
  have N18 := Fr.snoc X18 N17 ge_a14
  have V18_n : own_AI Z h18 a14 .byte [((own_f1 q0 ((0 : Int32)))).toInt8.toInt32, ((own_f1 q0 ((1 : Int32)))).toInt8.toInt32, (0 : Int32), (0 : Int32), (0 : Int32), (0 : Int32), (0 : Int32), (0 : Int32), (0 : Int32), (0 : Int32), (0 : Int32), (0 : Int32), (0 : Int32), (0 : Int32), (0 : Int32), (0 : Int32), (0 : Int32), (0 : Int32), (0 : Int32), (0 : Int32)] := V18
  obtain ⟨_, _, ⟨T19, L19, k19, n19⟩, -, X19, ⟨Lc19, hQ19, l19, y19, z19⟩, st19⟩ := Jvm.LawKit.callS X18 hx (y := (⟨"com/example/tributary/tributary/io/LineFormatBeginPinLaw", "dig", "(JI)B"⟩ : MethodName)) hown (mvT hZ (H 1 rfl)) (mvT hZ (H 2 rfl)) (mvT hZ (H 3 rfl)) (mvT hZ (H 4 rfl)) (by decide) (backOf (W := 2) (rm1 l Z a0 hw [] q0 (2 : Int32)  h18 n0 sz18 ) hZ (H 4 rfl) (H 3 rfl) (by decide) (by decide)) (g := (mkF m 73 #[jv q0, s2, iv q1, iv q2, iv q3, iv q4, iv v1, iv v3, iv v5, iv v10, iv v12, rv a14, u0, u0, u0, u0, u0, u0, u0, u0, u0] [(.int (2 : Int32)), (.long q0), (.int (2 : Int32)), (.ref a14)])) rfl (by rw [hml]; rfl) (argsL := [(.long q0), (.int (2 : Int32))]) (rest := [(.int (2 : Int32)), (.ref a14)]) (lenOf pd_55 rfl) rfl (by show 2 * 0 + _ ≤ _; exact Nat.le_of_eq rfl) (D at_73) (fun _ _ => ⟨rfl, e18, (by decide : 1 + 0 ≤ _), (by decide : 20 + 0 ≤ _)⟩)
  dsimp only [Pt.U, Pt.locs, Pt.cells, Pt.slots] at X19 l19 y19 z19 st19 hQ19
  replace y19 : k19 = 1 := y19
  replace z19 : n19 = 20 := z19
  replace l19 := l19.symm; replace y19 := y19.symm; replace z19 := z19.symm; subst l19 y19 z19
  obtain ⟨rfl, N19q, e19⟩ := hQ19
  have N19 := Fr.app N18 N19q
  obtain ⟨T20, h20, X20, e20, W20, V20, st20⟩ := own_bastoreB X19 hx hZ e19 V18_n (j := (2 : Int32)) (show 0 ≤ Int32.toInt (2 : Int32) ∧ Int32.toInt (2 : Int32) < ((20 : Nat) : Int) by decide) (x := (own_f1 q0 ((2 : Int32)))) (D at_76)
  have sz20 := Nat.le_trans sz18 (Keep.of_wr W20).1
  have kz20 := Nat.le_trans kz18 (Keep.of_wr W20).1
  have N20 := Fr.snoc X20 N19 ge_a14
  have V20_n : own_AI Z h20 a14 .byte [((own_f1 q0 ((0 : Int32)))).toInt8.toInt32, ((own_f1 q0 ((1 : Int32)))).toInt8.toInt32, ((own_f1 q0 ((2 : Int32)))).toInt8.toInt32, (0 : Int32), (0 : Int32), (0 : Int32), (0 : Int32), (0 : Int32), (0 : Int32), (0 : Int32), (0 : Int32), (0 : Int32), (0 : Int32), (0 : Int32), (0 : Int32), (0 : Int32), (0 : Int32), (0 : Int32), (0 : Int32), (0 : Int32)] := V20
  have pre21 : ∀ t, Steps p.tables e below (T20.setTop (mkF m 79 #[jv q0, s2, iv q1, iv q2, iv q3, iv q4, iv v1, iv v3, iv v5, iv v10, iv v12, rv a14, u0, u0, u0, u0, u0, u0, u0, u0, u0] [(.ref a14)])) t → Steps p.tables e below B0 t := by
    intro t k
    refine pre13 t ?_
    show Steps p.tables e below (s₁.setTop (mkF m 42 #[jv q0, s2, iv q1, iv q2, iv q3, iv q4, iv v1, iv v3, iv v5, iv v10, u0, u0, u0, u0, u0, u0, u0, u0, u0, u0, u0] [(.int v12)])) _
    refine XS.istore X0.here hx rfl (D at_42) rfl (l' := #[jv q0, s2, iv q1, iv q2, iv q3, iv q4, iv v1, iv v3, iv v5, iv v10, iv v12, u0, u0, u0, u0, u0, u0, u0, u0, u0, u0]) rfl ?_
    refine XS.bipush X0.here hx rfl (D at_44) ?_
    refine st14 _ ?_
    refine XS.astore X14.here hx rfl (D at_48) rfl rfl (l' := #[jv q0, s2, iv q1, iv q2, iv q3, iv q4, iv v1, iv v3, iv v5, iv v10, iv v12, rv a14, u0, u0, u0, u0, u0, u0, u0, u0, u0]) rfl ?_
    refine XS.aload X14.here hx rfl (D at_50) rfl rfl ?_
    refine XS.iconst X14.here hx rfl (D at_52) ?_
    show Steps p.tables e below (T14.setTop (mkF m 53 #[jv q0, s2, iv q1, iv q2, iv q3, iv q4, iv v1, iv v3, iv v5, iv v10, iv v12, rv a14, u0, u0, u0, u0, u0, u0, u0, u0, u0] [(.int (0 : Int32)), (.ref a14)])) _
    refine XS.lloadN X14.here hx rfl (D at_53) rfl ?_
    refine XS.iconst X14.here hx rfl (D at_54) ?_
    refine st15 _ ?_
    refine st16 _ ?_
    refine XS.aload X16.here hx rfl (D at_59) rfl rfl ?_
    refine XS.iconst X16.here hx rfl (D at_61) ?_
    refine XS.lloadN X16.here hx rfl (D at_62) rfl ?_
    refine XS.iconst X16.here hx rfl (D at_63) ?_
    show Steps p.tables e below (T16.setTop (mkF m 64 #[jv q0, s2, iv q1, iv q2, iv q3, iv q4, iv v1, iv v3, iv v5, iv v10, iv v12, rv a14, u0, u0, u0, u0, u0, u0, u0, u0, u0] [(.int (1 : Int32)), (.long q0), (.int (1 : Int32)), (.ref a14)])) _
    refine st17 _ ?_
    refine st18 _ ?_
    refine XS.aload X18.here hx rfl (D at_68) rfl rfl ?_
    refine XS.iconst X18.here hx rfl (D at_70) ?_
    refine XS.lloadN X18.here hx rfl (D at_71) rfl ?_
    refine XS.iconst X18.here hx rfl (D at_72) ?_
    refine st19 _ ?_
    refine st20 _ ?_
    show Steps p.tables e below (T20.setTop (mkF m 77 #[jv q0, s2, iv q1, iv q2, iv q3, iv q4, iv v1, iv v3, iv v5, iv v10, iv v12, rv a14, u0, u0, u0, u0, u0, u0, u0, u0, u0] [])) _
    refine XS.aload X20.here hx rfl (D at_77) rfl rfl ?_
    exact k
  clear pre8 pre9 pre11 pre13 X14 e14 E14 A14 st14 sz14 V14_n X15 st15 N15q e15 N15 X16 e16 W16 V16 st16 sz16 N16 V16_n X17 st17 N17q e17 N17 X18 e18 W18 V18 st18 sz18 N18 V18_n X19 st19 N19q e19 N19 W20 V20 st20
  obtain ⟨_, _, ⟨T22, L22, k22, n22⟩, -, X22, ⟨Lc22, hQ22, l22, y22, z22⟩, st22⟩ := Jvm.LawKit.callS X20 hx (y := (⟨"com/example/tributary/tributary/io/LineFormatBeginPinLaw", "dig", "(JI)B"⟩ : MethodName)) hown (mvT hZ (H 1 rfl)) (mvT hZ (H 2 rfl)) (mvT hZ (H 3 rfl)) (mvT hZ (H 4 rfl)) (by decide) (backOf (W := 2) (rm1 l Z a0 hw [] q0 (3 : Int32)  h20 n0 sz20 ) hZ (H 4 rfl) (H 3 rfl) (by decide) (by decide)) (g := (mkF m 82 #[jv q0, s2, iv q1, iv q2, iv q3, iv q4, iv v1, iv v3, iv v5, iv v10, iv v12, rv a14, u0, u0, u0, u0, u0, u0, u0, u0, u0] [(.int (3 : Int32)), (.long q0), (.int (3 : Int32)), (.ref a14)])) rfl (by rw [hml]; rfl) (argsL := [(.long q0), (.int (3 : Int32))]) (rest := [(.int (3 : Int32)), (.ref a14)]) (lenOf pd_55 rfl) rfl (by show 2 * 0 + _ ≤ _; exact Nat.le_of_eq rfl) (D at_82) (fun _ _ => ⟨rfl, e20, (by decide : 1 + 0 ≤ _), (by decide : 20 + 0 ≤ _)⟩)
  dsimp only [Pt.U, Pt.locs, Pt.cells, Pt.slots] at X22 l22 y22 z22 st22 hQ22
  replace y22 : k22 = 1 := y22
  replace z22 : n22 = 20 := z22
  replace l22 := l22.symm; replace y22 := y22.symm; replace z22 := z22.symm; subst l22 y22 z22
  obtain ⟨rfl, N22q, e22⟩ := hQ22
  have N22 := Fr.app N20 N22q
  obtain ⟨T23, h23, X23, e23, W23, V23, st23⟩ := own_bastoreB X22 hx hZ e22 V20_n (j := (3 : Int32)) (show 0 ≤ Int32.toInt (3 : Int32) ∧ Int32.toInt (3 : Int32) < ((20 : Nat) : Int) by decide) (x := (own_f1 q0 ((3 : Int32)))) (D at_85)
  have sz23 := Nat.le_trans sz20 (Keep.of_wr W23).1
  have kz23 := Nat.le_trans kz20 (Keep.of_wr W23).1
  have N23 := Fr.snoc X23 N22 ge_a14
  have V23_n : own_AI Z h23 a14 .byte [((own_f1 q0 ((0 : Int32)))).toInt8.toInt32, ((own_f1 q0 ((1 : Int32)))).toInt8.toInt32, ((own_f1 q0 ((2 : Int32)))).toInt8.toInt32, ((own_f1 q0 ((3 : Int32)))).toInt8.toInt32, (0 : Int32), (0 : Int32), (0 : Int32), (0 : Int32), (0 : Int32), (0 : Int32), (0 : Int32), (0 : Int32), (0 : Int32), (0 : Int32), (0 : Int32), (0 : Int32), (0 : Int32), (0 : Int32), (0 : Int32), (0 : Int32)] := V23
  obtain ⟨_, _, ⟨T24, L24, k24, n24⟩, -, X24, ⟨Lc24, hQ24, l24, y24, z24⟩, st24⟩ := Jvm.LawKit.callS X23 hx (y := (⟨"com/example/tributary/tributary/io/LineFormatBeginPinLaw", "dig", "(JI)B"⟩ : MethodName)) hown (mvT hZ (H 1 rfl)) (mvT hZ (H 2 rfl)) (mvT hZ (H 3 rfl)) (mvT hZ (H 4 rfl)) (by decide) (backOf (W := 2) (rm1 l Z a0 hw [] q0 (4 : Int32)  h23 n0 sz23 ) hZ (H 4 rfl) (H 3 rfl) (by decide) (by decide)) (g := (mkF m 91 #[jv q0, s2, iv q1, iv q2, iv q3, iv q4, iv v1, iv v3, iv v5, iv v10, iv v12, rv a14, u0, u0, u0, u0, u0, u0, u0, u0, u0] [(.int (4 : Int32)), (.long q0), (.int (4 : Int32)), (.ref a14)])) rfl (by rw [hml]; rfl) (argsL := [(.long q0), (.int (4 : Int32))]) (rest := [(.int (4 : Int32)), (.ref a14)]) (lenOf pd_55 rfl) rfl (by show 2 * 0 + _ ≤ _; exact Nat.le_of_eq rfl) (D at_91) (fun _ _ => ⟨rfl, e23, (by decide : 1 + 0 ≤ _), (by decide : 20 + 0 ≤ _)⟩)
  dsimp only [Pt.U, Pt.locs, Pt.cells, Pt.slots] at X24 l24 y24 z24 st24 hQ24
  replace y24 : k24 = 1 := y24
  replace z24 : n24 = 20 := z24
  replace l24 := l24.symm; replace y24 := y24.symm; replace z24 := z24.symm; subst l24 y24 z24
  obtain ⟨rfl, N24q, e24⟩ := hQ24
  have N24 := Fr.app N23 N24q
  obtain ⟨T25, h25, X25, e25, W25, V25, st25⟩ := own_bastoreB X24 hx hZ e24 V23_n (j := (4 : Int32)) (show 0 ≤ Int32.toInt (4 : Int32) ∧ Int32.toInt (4 : Int32) < ((20 : Nat) : Int) by decide) (x := (own_f1 q0 ((4 : Int32)))) (D at_94)
  have sz25 := Nat.le_trans sz23 (Keep.of_wr W25).1
  have kz25 := Nat.le_trans kz23 (Keep.of_wr W25).1
  have N25 := Fr.snoc X25 N24 ge_a14
  have V25_n : own_AI Z h25 a14 .byte [((own_f1 q0 ((0 : Int32)))).toInt8.toInt32, ((own_f1 q0 ((1 : Int32)))).toInt8.toInt32, ((own_f1 q0 ((2 : Int32)))).toInt8.toInt32, ((own_f1 q0 ((3 : Int32)))).toInt8.toInt32, ((own_f1 q0 ((4 : Int32)))).toInt8.toInt32, (0 : Int32), (0 : Int32), (0 : Int32), (0 : Int32), (0 : Int32), (0 : Int32), (0 : Int32), (0 : Int32), (0 : Int32), (0 : Int32), (0 : Int32), (0 : Int32), (0 : Int32), (0 : Int32), (0 : Int32)] := V25
  obtain ⟨_, _, ⟨T26, L26, k26, n26⟩, -, X26, ⟨Lc26, hQ26, l26, y26, z26⟩, st26⟩ := Jvm.LawKit.callS X25 hx (y := (⟨"com/example/tributary/tributary/io/LineFormatBeginPinLaw", "dig", "(JI)B"⟩ : MethodName)) hown (mvT hZ (H 1 rfl)) (mvT hZ (H 2 rfl)) (mvT hZ (H 3 rfl)) (mvT hZ (H 4 rfl)) (by decide) (backOf (W := 2) (rm1 l Z a0 hw [] q0 (5 : Int32)  h25 n0 sz25 ) hZ (H 4 rfl) (H 3 rfl) (by decide) (by decide)) (g := (mkF m 100 #[jv q0, s2, iv q1, iv q2, iv q3, iv q4, iv v1, iv v3, iv v5, iv v10, iv v12, rv a14, u0, u0, u0, u0, u0, u0, u0, u0, u0] [(.int (5 : Int32)), (.long q0), (.int (5 : Int32)), (.ref a14)])) rfl (by rw [hml]; rfl) (argsL := [(.long q0), (.int (5 : Int32))]) (rest := [(.int (5 : Int32)), (.ref a14)]) (lenOf pd_55 rfl) rfl (by show 2 * 0 + _ ≤ _; exact Nat.le_of_eq rfl) (D at_100) (fun _ _ => ⟨rfl, e25, (by decide : 1 + 0 ≤ _), (by decide : 20 + 0 ≤ _)⟩)
  dsimp only [Pt.U, Pt.locs, Pt.cells, Pt.slots] at X26 l26 y26 z26 st26 hQ26
  replace y26 : k26 = 1 := y26
  replace z26 : n26 = 20 := z26
  replace l26 := l26.symm; replace y26 := y26.symm; replace z26 := z26.symm; subst l26 y26 z26
  obtain ⟨rfl, N26q, e26⟩ := hQ26
  have N26 := Fr.app N25 N26q
  obtain ⟨T27, h27, X27, e27, W27, V27, st27⟩ := own_bastoreB X26 hx hZ e26 V25_n (j := (5 : Int32)) (show 0 ≤ Int32.toInt (5 : Int32) ∧ Int32.toInt (5 : Int32) < ((20 : Nat) : Int) by decide) (x := (own_f1 q0 ((5 : Int32)))) (D at_103)
  have sz27 := Nat.le_trans sz25 (Keep.of_wr W27).1
  have kz27 := Nat.le_trans kz25 (Keep.of_wr W27).1
  have N27 := Fr.snoc X27 N26 ge_a14
  have V27_n : own_AI Z h27 a14 .byte [((own_f1 q0 ((0 : Int32)))).toInt8.toInt32, ((own_f1 q0 ((1 : Int32)))).toInt8.toInt32, ((own_f1 q0 ((2 : Int32)))).toInt8.toInt32, ((own_f1 q0 ((3 : Int32)))).toInt8.toInt32, ((own_f1 q0 ((4 : Int32)))).toInt8.toInt32, ((own_f1 q0 ((5 : Int32)))).toInt8.toInt32, (0 : Int32), (0 : Int32), (0 : Int32), (0 : Int32), (0 : Int32), (0 : Int32), (0 : Int32), (0 : Int32), (0 : Int32), (0 : Int32), (0 : Int32), (0 : Int32), (0 : Int32), (0 : Int32)] := V27
  obtain ⟨_, _, ⟨T28, L28, k28, n28⟩, -, X28, ⟨Lc28, hQ28, l28, y28, z28⟩, st28⟩ := Jvm.LawKit.callS X27 hx (y := (⟨"com/example/tributary/tributary/io/LineFormatBeginPinLaw", "dig", "(JI)B"⟩ : MethodName)) hown (mvT hZ (H 1 rfl)) (mvT hZ (H 2 rfl)) (mvT hZ (H 3 rfl)) (mvT hZ (H 4 rfl)) (by decide) (backOf (W := 2) (rm1 l Z a0 hw [] q0 (6 : Int32)  h27 n0 sz27 ) hZ (H 4 rfl) (H 3 rfl) (by decide) (by decide)) (g := (mkF m 111 #[jv q0, s2, iv q1, iv q2, iv q3, iv q4, iv v1, iv v3, iv v5, iv v10, iv v12, rv a14, u0, u0, u0, u0, u0, u0, u0, u0, u0] [(.int (6 : Int32)), (.long q0), (.int (6 : Int32)), (.ref a14)])) rfl (by rw [hml]; rfl) (argsL := [(.long q0), (.int (6 : Int32))]) (rest := [(.int (6 : Int32)), (.ref a14)]) (lenOf pd_55 rfl) rfl (by show 2 * 0 + _ ≤ _; exact Nat.le_of_eq rfl) (D at_111) (fun _ _ => ⟨rfl, e27, (by decide : 1 + 0 ≤ _), (by decide : 20 + 0 ≤ _)⟩)
  dsimp only [Pt.U, Pt.locs, Pt.cells, Pt.slots] at X28 l28 y28 z28 st28 hQ28
  replace y28 : k28 = 1 := y28
  replace z28 : n28 = 20 := z28
  replace l28 := l28.symm; replace y28 := y28.symm; replace z28 := z28.symm; subst l28 y28 z28
  obtain ⟨rfl, N28q, e28⟩ := hQ28
  have N28 := Fr.app N27 N28q
  obtain ⟨T29, h29, X29, e29, W29, V29, st29⟩ := own_bastoreB X28 hx hZ e28 V27_n (j := (6 : Int32)) (show 0 ≤ Int32.toInt (6 : Int32) ∧ Int32.toInt (6 : Int32) < ((20 : Nat) : Int) by decide) (x := (own_f1 q0 ((6 : Int32)))) (D at_114)
  have sz29 := Nat.le_trans sz27 (Keep.of_wr W29).1
  have kz29 := Nat.le_trans kz27 (Keep.of_wr W29).1
  have N29 := Fr.snoc X29 N28 ge_a14
  have V29_n : own_AI Z h29 a14 .byte [((own_f1 q0 ((0 : Int32)))).toInt8.toInt32, ((own_f1 q0 ((1 : Int32)))).toInt8.toInt32, ((own_f1 q0 ((2 : Int32)))).toInt8.toInt32, ((own_f1 q0 ((3 : Int32)))).toInt8.toInt32, ((own_f1 q0 ((4 : Int32)))).toInt8.toInt32, ((own_f1 q0 ((5 : Int32)))).toInt8.toInt32, ((own_f1 q0 ((6 : Int32)))).toInt8.toInt32, (0 : Int32), (0 : Int32), (0 : Int32), (0 : Int32), (0 : Int32), (0 : Int32), (0 : Int32), (0 : Int32), (0 : Int32), (0 : Int32), (0 : Int32), (0 : Int32), (0 : Int32)] := V29
  have pre30 : ∀ t, Steps p.tables e below (T29.setTop (mkF m 117 #[jv q0, s2, iv q1, iv q2, iv q3, iv q4, iv v1, iv v3, iv v5, iv v10, iv v12, rv a14, u0, u0, u0, u0, u0, u0, u0, u0, u0] [(.ref a14)])) t → Steps p.tables e below B0 t := by
    intro t k
    refine pre21 t ?_
    show Steps p.tables e below (T20.setTop (mkF m 79 #[jv q0, s2, iv q1, iv q2, iv q3, iv q4, iv v1, iv v3, iv v5, iv v10, iv v12, rv a14, u0, u0, u0, u0, u0, u0, u0, u0, u0] [(.ref a14)])) _
    refine XS.iconst X20.here hx rfl (D at_79) ?_
    refine XS.lloadN X20.here hx rfl (D at_80) rfl ?_
    refine XS.iconst X20.here hx rfl (D at_81) ?_
    refine st22 _ ?_
    refine st23 _ ?_
    refine XS.aload X23.here hx rfl (D at_86) rfl rfl ?_
    refine XS.iconst X23.here hx rfl (D at_88) ?_
    show Steps p.tables e below (T23.setTop (mkF m 89 #[jv q0, s2, iv q1, iv q2, iv q3, iv q4, iv v1, iv v3, iv v5, iv v10, iv v12, rv a14, u0, u0, u0, u0, u0, u0, u0, u0, u0] [(.int (4 : Int32)), (.ref a14)])) _
    refine XS.lloadN X23.here hx rfl (D at_89) rfl ?_
    refine XS.iconst X23.here hx rfl (D at_90) ?_
    refine st24 _ ?_
    refine st25 _ ?_
    refine XS.aload X25.here hx rfl (D at_95) rfl rfl ?_
    refine XS.iconst X25.here hx rfl (D at_97) ?_
    refine XS.lloadN X25.here hx rfl (D at_98) rfl ?_
    refine XS.iconst X25.here hx rfl (D at_99) ?_
    show Steps p.tables e below (T25.setTop (mkF m 100 #[jv q0, s2, iv q1, iv q2, iv q3, iv q4, iv v1, iv v3, iv v5, iv v10, iv v12, rv a14, u0, u0, u0, u0, u0, u0, u0, u0, u0] [(.int (5 : Int32)), (.long q0), (.int (5 : Int32)), (.ref a14)])) _
    refine st26 _ ?_
    refine st27 _ ?_
    refine XS.aload X27.here hx rfl (D at_104) rfl rfl ?_
    refine XS.bipush X27.here hx rfl (D at_106) ?_
    refine XS.lloadN X27.here hx rfl (D at_108) rfl ?_
    refine XS.bipush X27.here hx rfl (D at_109) ?_
    refine st28 _ ?_
    refine st29 _ ?_
    show Steps p.tables e below (T29.setTop (mkF m 115 #[jv q0, s2, iv q1, iv q2, iv q3, iv q4, iv v1, iv v3, iv v5, iv v10, iv v12, rv a14, u0, u0, u0, u0, u0, u0, u0, u0, u0] [])) _
    refine XS.aload X29.here hx rfl (D at_115) rfl rfl ?_
    exact k
  clear X20 e20 sz20 N20 V20_n pre21 X22 st22 N22q e22 N22 X23 e23 W23 V23 st23 sz23 N23 V23_n X24 st24 N24q e24 N24 X25 e25 W25 V25 st25 sz25 N25 V25_n X26 st26 N26q e26 N26 X27 e27 W27 V27 st27 sz27 N27 V27_n X28 st28 N28q e28 N28 W29 V29 st29
  obtain ⟨_, _, ⟨T31, L31, k31, n31⟩, -, X31, ⟨Lc31, hQ31, l31, y31, z31⟩, st31⟩ := Jvm.LawKit.callS X29 hx (y := (⟨"com/example/tributary/tributary/io/LineFormatBeginPinLaw", "dig", "(JI)B"⟩ : MethodName)) hown (mvT hZ (H 1 rfl)) (mvT hZ (H 2 rfl)) (mvT hZ (H 3 rfl)) (mvT hZ (H 4 rfl)) (by decide) (backOf (W := 2) (rm1 l Z a0 hw [] q0 (7 : Int32)  h29 n0 sz29 ) hZ (H 4 rfl) (H 3 rfl) (by decide) (by decide)) (g := (mkF m 122 #[jv q0, s2, iv q1, iv q2, iv q3, iv q4, iv v1, iv v3, iv v5, iv v10, iv v12, rv a14, u0, u0, u0, u0, u0, u0, u0, u0, u0] [(.int (7 : Int32)), (.long q0), (.int (7 : Int32)), (.ref a14)])) rfl (by rw [hml]; rfl) (argsL := [(.long q0), (.int (7 : Int32))]) (rest := [(.int (7 : Int32)), (.ref a14)]) (lenOf pd_55 rfl) rfl (by show 2 * 0 + _ ≤ _; exact Nat.le_of_eq rfl) (D at_122) (fun _ _ => ⟨rfl, e29, (by decide : 1 + 0 ≤ _), (by decide : 20 + 0 ≤ _)⟩)
  dsimp only [Pt.U, Pt.locs, Pt.cells, Pt.slots] at X31 l31 y31 z31 st31 hQ31
  replace y31 : k31 = 1 := y31
  replace z31 : n31 = 20 := z31
  replace l31 := l31.symm; replace y31 := y31.symm; replace z31 := z31.symm; subst l31 y31 z31
  obtain ⟨rfl, N31q, e31⟩ := hQ31
  have N31 := Fr.app N29 N31q
  obtain ⟨T32, h32, X32, e32, W32, V32, st32⟩ := own_bastoreB X31 hx hZ e31 V29_n (j := (7 : Int32)) (show 0 ≤ Int32.toInt (7 : Int32) ∧ Int32.toInt (7 : Int32) < ((20 : Nat) : Int) by decide) (x := (own_f1 q0 ((7 : Int32)))) (D at_125)
  have sz32 := Nat.le_trans sz29 (Keep.of_wr W32).1
  have kz32 := Nat.le_trans kz29 (Keep.of_wr W32).1
  have N32 := Fr.snoc X32 N31 ge_a14
  have V32_n : own_AI Z h32 a14 .byte [((own_f1 q0 ((0 : Int32)))).toInt8.toInt32, ((own_f1 q0 ((1 : Int32)))).toInt8.toInt32, ((own_f1 q0 ((2 : Int32)))).toInt8.toInt32, ((own_f1 q0 ((3 : Int32)))).toInt8.toInt32, ((own_f1 q0 ((4 : Int32)))).toInt8.toInt32, ((own_f1 q0 ((5 : Int32)))).toInt8.toInt32, ((own_f1 q0 ((6 : Int32)))).toInt8.toInt32, ((own_f1 q0 ((7 : Int32)))).toInt8.toInt32, (0 : Int32), (0 : Int32), (0 : Int32), (0 : Int32), (0 : Int32), (0 : Int32), (0 : Int32), (0 : Int32), (0 : Int32), (0 : Int32), (0 : Int32), (0 : Int32)] := V32
  obtain ⟨_, _, ⟨T33, L33, k33, n33⟩, -, X33, ⟨Lc33, hQ33, l33, y33, z33⟩, st33⟩ := Jvm.LawKit.callS X32 hx (y := (⟨"com/example/tributary/tributary/io/LineFormatBeginPinLaw", "dig", "(JI)B"⟩ : MethodName)) hown (mvT hZ (H 1 rfl)) (mvT hZ (H 2 rfl)) (mvT hZ (H 3 rfl)) (mvT hZ (H 4 rfl)) (by decide) (backOf (W := 2) (rm1 l Z a0 hw [] q0 (8 : Int32)  h32 n0 sz32 ) hZ (H 4 rfl) (H 3 rfl) (by decide) (by decide)) (g := (mkF m 133 #[jv q0, s2, iv q1, iv q2, iv q3, iv q4, iv v1, iv v3, iv v5, iv v10, iv v12, rv a14, u0, u0, u0, u0, u0, u0, u0, u0, u0] [(.int (8 : Int32)), (.long q0), (.int (8 : Int32)), (.ref a14)])) rfl (by rw [hml]; rfl) (argsL := [(.long q0), (.int (8 : Int32))]) (rest := [(.int (8 : Int32)), (.ref a14)]) (lenOf pd_55 rfl) rfl (by show 2 * 0 + _ ≤ _; exact Nat.le_of_eq rfl) (D at_133) (fun _ _ => ⟨rfl, e32, (by decide : 1 + 0 ≤ _), (by decide : 20 + 0 ≤ _)⟩)
  dsimp only [Pt.U, Pt.locs, Pt.cells, Pt.slots] at X33 l33 y33 z33 st33 hQ33
  replace y33 : k33 = 1 := y33
  replace z33 : n33 = 20 := z33
  replace l33 := l33.symm; replace y33 := y33.symm; replace z33 := z33.symm; subst l33 y33 z33
  obtain ⟨rfl, N33q, e33⟩ := hQ33
  have N33 := Fr.app N32 N33q
  obtain ⟨T34, h34, X34, e34, W34, V34, st34⟩ := own_bastoreB X33 hx hZ e33 V32_n (j := (8 : Int32)) (show 0 ≤ Int32.toInt (8 : Int32) ∧ Int32.toInt (8 : Int32) < ((20 : Nat) : Int) by decide) (x := (own_f1 q0 ((8 : Int32)))) (D at_136)
  have sz34 := Nat.le_trans sz32 (Keep.of_wr W34).1
  have kz34 := Nat.le_trans kz32 (Keep.of_wr W34).1
  have N34 := Fr.snoc X34 N33 ge_a14
  have V34_n : own_AI Z h34 a14 .byte [((own_f1 q0 ((0 : Int32)))).toInt8.toInt32, ((own_f1 q0 ((1 : Int32)))).toInt8.toInt32, ((own_f1 q0 ((2 : Int32)))).toInt8.toInt32, ((own_f1 q0 ((3 : Int32)))).toInt8.toInt32, ((own_f1 q0 ((4 : Int32)))).toInt8.toInt32, ((own_f1 q0 ((5 : Int32)))).toInt8.toInt32, ((own_f1 q0 ((6 : Int32)))).toInt8.toInt32, ((own_f1 q0 ((7 : Int32)))).toInt8.toInt32, ((own_f1 q0 ((8 : Int32)))).toInt8.toInt32, (0 : Int32), (0 : Int32), (0 : Int32), (0 : Int32), (0 : Int32), (0 : Int32), (0 : Int32), (0 : Int32), (0 : Int32), (0 : Int32), (0 : Int32)] := V34
  obtain ⟨_, _, ⟨T35, L35, k35, n35⟩, -, X35, ⟨Lc35, hQ35, l35, y35, z35⟩, st35⟩ := Jvm.LawKit.callS X34 hx (y := (⟨"com/example/tributary/tributary/io/LineFormatBeginPinLaw", "dig", "(JI)B"⟩ : MethodName)) hown (mvT hZ (H 1 rfl)) (mvT hZ (H 2 rfl)) (mvT hZ (H 3 rfl)) (mvT hZ (H 4 rfl)) (by decide) (backOf (W := 2) (rm1 l Z a0 hw [] q0 (9 : Int32)  h34 n0 sz34 ) hZ (H 4 rfl) (H 3 rfl) (by decide) (by decide)) (g := (mkF m 144 #[jv q0, s2, iv q1, iv q2, iv q3, iv q4, iv v1, iv v3, iv v5, iv v10, iv v12, rv a14, u0, u0, u0, u0, u0, u0, u0, u0, u0] [(.int (9 : Int32)), (.long q0), (.int (9 : Int32)), (.ref a14)])) rfl (by rw [hml]; rfl) (argsL := [(.long q0), (.int (9 : Int32))]) (rest := [(.int (9 : Int32)), (.ref a14)]) (lenOf pd_55 rfl) rfl (by show 2 * 0 + _ ≤ _; exact Nat.le_of_eq rfl) (D at_144) (fun _ _ => ⟨rfl, e34, (by decide : 1 + 0 ≤ _), (by decide : 20 + 0 ≤ _)⟩)
  dsimp only [Pt.U, Pt.locs, Pt.cells, Pt.slots] at X35 l35 y35 z35 st35 hQ35
  replace y35 : k35 = 1 := y35
  replace z35 : n35 = 20 := z35
  replace l35 := l35.symm; replace y35 := y35.symm; replace z35 := z35.symm; subst l35 y35 z35
  obtain ⟨rfl, N35q, e35⟩ := hQ35
  have N35 := Fr.app N34 N35q
  obtain ⟨T36, h36, X36, e36, W36, V36, st36⟩ := own_bastoreB X35 hx hZ e35 V34_n (j := (9 : Int32)) (show 0 ≤ Int32.toInt (9 : Int32) ∧ Int32.toInt (9 : Int32) < ((20 : Nat) : Int) by decide) (x := (own_f1 q0 ((9 : Int32)))) (D at_147)
  have sz36 := Nat.le_trans sz34 (Keep.of_wr W36).1
  have kz36 := Nat.le_trans kz34 (Keep.of_wr W36).1
  have N36 := Fr.snoc X36 N35 ge_a14
  have V36_n : own_AI Z h36 a14 .byte [((own_f1 q0 ((0 : Int32)))).toInt8.toInt32, ((own_f1 q0 ((1 : Int32)))).toInt8.toInt32, ((own_f1 q0 ((2 : Int32)))).toInt8.toInt32, ((own_f1 q0 ((3 : Int32)))).toInt8.toInt32, ((own_f1 q0 ((4 : Int32)))).toInt8.toInt32, ((own_f1 q0 ((5 : Int32)))).toInt8.toInt32, ((own_f1 q0 ((6 : Int32)))).toInt8.toInt32, ((own_f1 q0 ((7 : Int32)))).toInt8.toInt32, ((own_f1 q0 ((8 : Int32)))).toInt8.toInt32, ((own_f1 q0 ((9 : Int32)))).toInt8.toInt32, (0 : Int32), (0 : Int32), (0 : Int32), (0 : Int32), (0 : Int32), (0 : Int32), (0 : Int32), (0 : Int32), (0 : Int32), (0 : Int32)] := V36
  obtain ⟨_, _, ⟨T37, L37, k37, n37⟩, -, X37, ⟨Lc37, hQ37, l37, y37, z37⟩, st37⟩ := Jvm.LawKit.callS X36 hx (y := (⟨"com/example/tributary/tributary/io/LineFormatBeginPinLaw", "dig", "(JI)B"⟩ : MethodName)) hown (mvT hZ (H 1 rfl)) (mvT hZ (H 2 rfl)) (mvT hZ (H 3 rfl)) (mvT hZ (H 4 rfl)) (by decide) (backOf (W := 2) (rm1 l Z a0 hw [] q0 (10 : Int32)  h36 n0 sz36 ) hZ (H 4 rfl) (H 3 rfl) (by decide) (by decide)) (g := (mkF m 155 #[jv q0, s2, iv q1, iv q2, iv q3, iv q4, iv v1, iv v3, iv v5, iv v10, iv v12, rv a14, u0, u0, u0, u0, u0, u0, u0, u0, u0] [(.int (10 : Int32)), (.long q0), (.int (10 : Int32)), (.ref a14)])) rfl (by rw [hml]; rfl) (argsL := [(.long q0), (.int (10 : Int32))]) (rest := [(.int (10 : Int32)), (.ref a14)]) (lenOf pd_55 rfl) rfl (by show 2 * 0 + _ ≤ _; exact Nat.le_of_eq rfl) (D at_155) (fun _ _ => ⟨rfl, e36, (by decide : 1 + 0 ≤ _), (by decide : 20 + 0 ≤ _)⟩)
  dsimp only [Pt.U, Pt.locs, Pt.cells, Pt.slots] at X37 l37 y37 z37 st37 hQ37
  replace y37 : k37 = 1 := y37
  replace z37 : n37 = 20 := z37
  replace l37 := l37.symm; replace y37 := y37.symm; replace z37 := z37.symm; subst l37 y37 z37
  obtain ⟨rfl, N37q, e37⟩ := hQ37
  have N37 := Fr.app N36 N37q
  obtain ⟨T38, h38, X38, e38, W38, V38, st38⟩ := own_bastoreB X37 hx hZ e37 V36_n (j := (10 : Int32)) (show 0 ≤ Int32.toInt (10 : Int32) ∧ Int32.toInt (10 : Int32) < ((20 : Nat) : Int) by decide) (x := (own_f1 q0 ((10 : Int32)))) (D at_158)
  have sz38 := Nat.le_trans sz36 (Keep.of_wr W38).1
  have kz38 := Nat.le_trans kz36 (Keep.of_wr W38).1
  have N38 := Fr.snoc X38 N37 ge_a14
  have V38_n : own_AI Z h38 a14 .byte [((own_f1 q0 ((0 : Int32)))).toInt8.toInt32, ((own_f1 q0 ((1 : Int32)))).toInt8.toInt32, ((own_f1 q0 ((2 : Int32)))).toInt8.toInt32, ((own_f1 q0 ((3 : Int32)))).toInt8.toInt32, ((own_f1 q0 ((4 : Int32)))).toInt8.toInt32, ((own_f1 q0 ((5 : Int32)))).toInt8.toInt32, ((own_f1 q0 ((6 : Int32)))).toInt8.toInt32, ((own_f1 q0 ((7 : Int32)))).toInt8.toInt32, ((own_f1 q0 ((8 : Int32)))).toInt8.toInt32, ((own_f1 q0 ((9 : Int32)))).toInt8.toInt32, ((own_f1 q0 ((10 : Int32)))).toInt8.toInt32, (0 : Int32), (0 : Int32), (0 : Int32), (0 : Int32), (0 : Int32), (0 : Int32), (0 : Int32), (0 : Int32), (0 : Int32)] := V38
  have pre39 : ∀ t, Steps p.tables e below (T38.setTop (mkF m 161 #[jv q0, s2, iv q1, iv q2, iv q3, iv q4, iv v1, iv v3, iv v5, iv v10, iv v12, rv a14, u0, u0, u0, u0, u0, u0, u0, u0, u0] [(.ref a14)])) t → Steps p.tables e below B0 t := by
    intro t k
    refine pre30 t ?_
    show Steps p.tables e below (T29.setTop (mkF m 117 #[jv q0, s2, iv q1, iv q2, iv q3, iv q4, iv v1, iv v3, iv v5, iv v10, iv v12, rv a14, u0, u0, u0, u0, u0, u0, u0, u0, u0] [(.ref a14)])) _
    refine XS.bipush X29.here hx rfl (D at_117) ?_
    refine XS.lloadN X29.here hx rfl (D at_119) rfl ?_
    refine XS.bipush X29.here hx rfl (D at_120) ?_
    refine st31 _ ?_
    refine st32 _ ?_
    refine XS.aload X32.here hx rfl (D at_126) rfl rfl ?_
    refine XS.bipush X32.here hx rfl (D at_128) ?_
    show Steps p.tables e below (T32.setTop (mkF m 130 #[jv q0, s2, iv q1, iv q2, iv q3, iv q4, iv v1, iv v3, iv v5, iv v10, iv v12, rv a14, u0, u0, u0, u0, u0, u0, u0, u0, u0] [(.int (8 : Int32)), (.ref a14)])) _
    refine XS.lloadN X32.here hx rfl (D at_130) rfl ?_
    refine XS.bipush X32.here hx rfl (D at_131) ?_
    refine st33 _ ?_
    refine st34 _ ?_
    refine XS.aload X34.here hx rfl (D at_137) rfl rfl ?_
    refine XS.bipush X34.here hx rfl (D at_139) ?_
    refine XS.lloadN X34.here hx rfl (D at_141) rfl ?_
    refine XS.bipush X34.here hx rfl (D at_142) ?_
    show Steps p.tables e below (T34.setTop (mkF m 144 #[jv q0, s2, iv q1, iv q2, iv q3, iv q4, iv v1, iv v3, iv v5, iv v10, iv v12, rv a14, u0, u0, u0, u0, u0, u0, u0, u0, u0] [(.int (9 : Int32)), (.long q0), (.int (9 : Int32)), (.ref a14)])) _
    refine st35 _ ?_
    refine st36 _ ?_
    refine XS.aload X36.here hx rfl (D at_148) rfl rfl ?_
    refine XS.bipush X36.here hx rfl (D at_150) ?_
    refine XS.lloadN X36.here hx rfl (D at_152) rfl ?_
    refine XS.bipush X36.here hx rfl (D at_153) ?_
    refine st37 _ ?_
    refine st38 _ ?_
    show Steps p.tables e below (T38.setTop (mkF m 159 #[jv q0, s2, iv q1, iv q2, iv q3, iv q4, iv v1, iv v3, iv v5, iv v10, iv v12, rv a14, u0, u0, u0, u0, u0, u0, u0, u0, u0] [])) _
    refine XS.aload X38.here hx rfl (D at_159) rfl rfl ?_
    exact k
  clear X29 e29 sz29 N29 V29_n pre30 X31 st31 N31q e31 N31 X32 e32 W32 V32 st32 sz32 N32 V32_n X33 st33 N33q e33 N33 X34 e34 W34 V34 st34 sz34 N34 V34_n X35 st35 N35q e35 N35 X36 e36 W36 V36 st36 sz36 N36 V36_n X37 st37 N37q e37 N37 W38 V38 st38
  obtain ⟨_, _, ⟨T40, L40, k40, n40⟩, -, X40, ⟨Lc40, hQ40, l40, y40, z40⟩, st40⟩ := Jvm.LawKit.callS X38 hx (y := (⟨"com/example/tributary/tributary/io/LineFormatBeginPinLaw", "dig", "(JI)B"⟩ : MethodName)) hown (mvT hZ (H 1 rfl)) (mvT hZ (H 2 rfl)) (mvT hZ (H 3 rfl)) (mvT hZ (H 4 rfl)) (by decide) (backOf (W := 2) (rm1 l Z a0 hw [] q0 (11 : Int32)  h38 n0 sz38 ) hZ (H 4 rfl) (H 3 rfl) (by decide) (by decide)) (g := (mkF m 166 #[jv q0, s2, iv q1, iv q2, iv q3, iv q4, iv v1, iv v3, iv v5, iv v10, iv v12, rv a14, u0, u0, u0, u0, u0, u0, u0, u0, u0] [(.int (11 : Int32)), (.long q0), (.int (11 : Int32)), (.ref a14)])) rfl (by rw [hml]; rfl) (argsL := [(.long q0), (.int (11 : Int32))]) (rest := [(.int (11 : Int32)), (.ref a14)]) (lenOf pd_55 rfl) rfl (by show 2 * 0 + _ ≤ _; exact Nat.le_of_eq rfl) (D at_166) (fun _ _ => ⟨rfl, e38, (by decide : 1 + 0 ≤ _), (by decide : 20 + 0 ≤ _)⟩)
  dsimp only [Pt.U, Pt.locs, Pt.cells, Pt.slots] at X40 l40 y40 z40 st40 hQ40
  replace y40 : k40 = 1 := y40
  replace z40 : n40 = 20 := z40
  replace l40 := l40.symm; replace y40 := y40.symm; replace z40 := z40.symm; subst l40 y40 z40
  obtain ⟨rfl, N40q, e40⟩ := hQ40
  have N40 := Fr.app N38 N40q
  obtain ⟨T41, h41, X41, e41, W41, V41, st41⟩ := own_bastoreB X40 hx hZ e40 V38_n (j := (11 : Int32)) (show 0 ≤ Int32.toInt (11 : Int32) ∧ Int32.toInt (11 : Int32) < ((20 : Nat) : Int) by decide) (x := (own_f1 q0 ((11 : Int32)))) (D at_169)
  have sz41 := Nat.le_trans sz38 (Keep.of_wr W41).1
  have kz41 := Nat.le_trans kz38 (Keep.of_wr W41).1
  have N41 := Fr.snoc X41 N40 ge_a14
  have V41_n : own_AI Z h41 a14 .byte [((own_f1 q0 ((0 : Int32)))).toInt8.toInt32, ((own_f1 q0 ((1 : Int32)))).toInt8.toInt32, ((own_f1 q0 ((2 : Int32)))).toInt8.toInt32, ((own_f1 q0 ((3 : Int32)))).toInt8.toInt32, ((own_f1 q0 ((4 : Int32)))).toInt8.toInt32, ((own_f1 q0 ((5 : Int32)))).toInt8.toInt32, ((own_f1 q0 ((6 : Int32)))).toInt8.toInt32, ((own_f1 q0 ((7 : Int32)))).toInt8.toInt32, ((own_f1 q0 ((8 : Int32)))).toInt8.toInt32, ((own_f1 q0 ((9 : Int32)))).toInt8.toInt32, ((own_f1 q0 ((10 : Int32)))).toInt8.toInt32, ((own_f1 q0 ((11 : Int32)))).toInt8.toInt32, (0 : Int32), (0 : Int32), (0 : Int32), (0 : Int32), (0 : Int32), (0 : Int32), (0 : Int32), (0 : Int32)] := V41
  obtain ⟨_, _, ⟨T42, L42, k42, n42⟩, -, X42, ⟨Lc42, hQ42, l42, y42, z42⟩, st42⟩ := Jvm.LawKit.callS X41 hx (y := (⟨"com/example/tributary/tributary/io/LineFormatBeginPinLaw", "dig", "(JI)B"⟩ : MethodName)) hown (mvT hZ (H 1 rfl)) (mvT hZ (H 2 rfl)) (mvT hZ (H 3 rfl)) (mvT hZ (H 4 rfl)) (by decide) (backOf (W := 2) (rm1 l Z a0 hw [] q0 (12 : Int32)  h41 n0 sz41 ) hZ (H 4 rfl) (H 3 rfl) (by decide) (by decide)) (g := (mkF m 177 #[jv q0, s2, iv q1, iv q2, iv q3, iv q4, iv v1, iv v3, iv v5, iv v10, iv v12, rv a14, u0, u0, u0, u0, u0, u0, u0, u0, u0] [(.int (12 : Int32)), (.long q0), (.int (12 : Int32)), (.ref a14)])) rfl (by rw [hml]; rfl) (argsL := [(.long q0), (.int (12 : Int32))]) (rest := [(.int (12 : Int32)), (.ref a14)]) (lenOf pd_55 rfl) rfl (by show 2 * 0 + _ ≤ _; exact Nat.le_of_eq rfl) (D at_177) (fun _ _ => ⟨rfl, e41, (by decide : 1 + 0 ≤ _), (by decide : 20 + 0 ≤ _)⟩)
  dsimp only [Pt.U, Pt.locs, Pt.cells, Pt.slots] at X42 l42 y42 z42 st42 hQ42
  replace y42 : k42 = 1 := y42
  replace z42 : n42 = 20 := z42
  replace l42 := l42.symm; replace y42 := y42.symm; replace z42 := z42.symm; subst l42 y42 z42
  obtain ⟨rfl, N42q, e42⟩ := hQ42
  have N42 := Fr.app N41 N42q
  obtain ⟨T43, h43, X43, e43, W43, V43, st43⟩ := own_bastoreB X42 hx hZ e42 V41_n (j := (12 : Int32)) (show 0 ≤ Int32.toInt (12 : Int32) ∧ Int32.toInt (12 : Int32) < ((20 : Nat) : Int) by decide) (x := (own_f1 q0 ((12 : Int32)))) (D at_180)
  have sz43 := Nat.le_trans sz41 (Keep.of_wr W43).1
  have kz43 := Nat.le_trans kz41 (Keep.of_wr W43).1
  have N43 := Fr.snoc X43 N42 ge_a14
  have V43_n : own_AI Z h43 a14 .byte [((own_f1 q0 ((0 : Int32)))).toInt8.toInt32, ((own_f1 q0 ((1 : Int32)))).toInt8.toInt32, ((own_f1 q0 ((2 : Int32)))).toInt8.toInt32, ((own_f1 q0 ((3 : Int32)))).toInt8.toInt32, ((own_f1 q0 ((4 : Int32)))).toInt8.toInt32, ((own_f1 q0 ((5 : Int32)))).toInt8.toInt32, ((own_f1 q0 ((6 : Int32)))).toInt8.toInt32, ((own_f1 q0 ((7 : Int32)))).toInt8.toInt32, ((own_f1 q0 ((8 : Int32)))).toInt8.toInt32, ((own_f1 q0 ((9 : Int32)))).toInt8.toInt32, ((own_f1 q0 ((10 : Int32)))).toInt8.toInt32, ((own_f1 q0 ((11 : Int32)))).toInt8.toInt32, ((own_f1 q0 ((12 : Int32)))).toInt8.toInt32, (0 : Int32), (0 : Int32), (0 : Int32), (0 : Int32), (0 : Int32), (0 : Int32), (0 : Int32)] := V43
  obtain ⟨_, _, ⟨T44, L44, k44, n44⟩, -, X44, ⟨Lc44, hQ44, l44, y44, z44⟩, st44⟩ := Jvm.LawKit.callS X43 hx (y := (⟨"com/example/tributary/tributary/io/LineFormatBeginPinLaw", "dig", "(JI)B"⟩ : MethodName)) hown (mvT hZ (H 1 rfl)) (mvT hZ (H 2 rfl)) (mvT hZ (H 3 rfl)) (mvT hZ (H 4 rfl)) (by decide) (backOf (W := 2) (rm1 l Z a0 hw [] q0 (13 : Int32)  h43 n0 sz43 ) hZ (H 4 rfl) (H 3 rfl) (by decide) (by decide)) (g := (mkF m 188 #[jv q0, s2, iv q1, iv q2, iv q3, iv q4, iv v1, iv v3, iv v5, iv v10, iv v12, rv a14, u0, u0, u0, u0, u0, u0, u0, u0, u0] [(.int (13 : Int32)), (.long q0), (.int (13 : Int32)), (.ref a14)])) rfl (by rw [hml]; rfl) (argsL := [(.long q0), (.int (13 : Int32))]) (rest := [(.int (13 : Int32)), (.ref a14)]) (lenOf pd_55 rfl) rfl (by show 2 * 0 + _ ≤ _; exact Nat.le_of_eq rfl) (D at_188) (fun _ _ => ⟨rfl, e43, (by decide : 1 + 0 ≤ _), (by decide : 20 + 0 ≤ _)⟩)
  dsimp only [Pt.U, Pt.locs, Pt.cells, Pt.slots] at X44 l44 y44 z44 st44 hQ44
  replace y44 : k44 = 1 := y44
  replace z44 : n44 = 20 := z44
  replace l44 := l44.symm; replace y44 := y44.symm; replace z44 := z44.symm; subst l44 y44 z44
  obtain ⟨rfl, N44q, e44⟩ := hQ44
  have N44 := Fr.app N43 N44q
  obtain ⟨T45, h45, X45, e45, W45, V45, st45⟩ := own_bastoreB X44 hx hZ e44 V43_n (j := (13 : Int32)) (show 0 ≤ Int32.toInt (13 : Int32) ∧ Int32.toInt (13 : Int32) < ((20 : Nat) : Int) by decide) (x := (own_f1 q0 ((13 : Int32)))) (D at_191)
  have sz45 := Nat.le_trans sz43 (Keep.of_wr W45).1
  have kz45 := Nat.le_trans kz43 (Keep.of_wr W45).1
  have N45 := Fr.snoc X45 N44 ge_a14
  have V45_n : own_AI Z h45 a14 .byte [((own_f1 q0 ((0 : Int32)))).toInt8.toInt32, ((own_f1 q0 ((1 : Int32)))).toInt8.toInt32, ((own_f1 q0 ((2 : Int32)))).toInt8.toInt32, ((own_f1 q0 ((3 : Int32)))).toInt8.toInt32, ((own_f1 q0 ((4 : Int32)))).toInt8.toInt32, ((own_f1 q0 ((5 : Int32)))).toInt8.toInt32, ((own_f1 q0 ((6 : Int32)))).toInt8.toInt32, ((own_f1 q0 ((7 : Int32)))).toInt8.toInt32, ((own_f1 q0 ((8 : Int32)))).toInt8.toInt32, ((own_f1 q0 ((9 : Int32)))).toInt8.toInt32, ((own_f1 q0 ((10 : Int32)))).toInt8.toInt32, ((own_f1 q0 ((11 : Int32)))).toInt8.toInt32, ((own_f1 q0 ((12 : Int32)))).toInt8.toInt32, ((own_f1 q0 ((13 : Int32)))).toInt8.toInt32, (0 : Int32), (0 : Int32), (0 : Int32), (0 : Int32), (0 : Int32), (0 : Int32)] := V45
  obtain ⟨_, _, ⟨T46, L46, k46, n46⟩, -, X46, ⟨Lc46, hQ46, l46, y46, z46⟩, st46⟩ := Jvm.LawKit.callS X45 hx (y := (⟨"com/example/tributary/tributary/io/LineFormatBeginPinLaw", "dig", "(JI)B"⟩ : MethodName)) hown (mvT hZ (H 1 rfl)) (mvT hZ (H 2 rfl)) (mvT hZ (H 3 rfl)) (mvT hZ (H 4 rfl)) (by decide) (backOf (W := 2) (rm1 l Z a0 hw [] q0 (14 : Int32)  h45 n0 sz45 ) hZ (H 4 rfl) (H 3 rfl) (by decide) (by decide)) (g := (mkF m 199 #[jv q0, s2, iv q1, iv q2, iv q3, iv q4, iv v1, iv v3, iv v5, iv v10, iv v12, rv a14, u0, u0, u0, u0, u0, u0, u0, u0, u0] [(.int (14 : Int32)), (.long q0), (.int (14 : Int32)), (.ref a14)])) rfl (by rw [hml]; rfl) (argsL := [(.long q0), (.int (14 : Int32))]) (rest := [(.int (14 : Int32)), (.ref a14)]) (lenOf pd_55 rfl) rfl (by show 2 * 0 + _ ≤ _; exact Nat.le_of_eq rfl) (D at_199) (fun _ _ => ⟨rfl, e45, (by decide : 1 + 0 ≤ _), (by decide : 20 + 0 ≤ _)⟩)
  dsimp only [Pt.U, Pt.locs, Pt.cells, Pt.slots] at X46 l46 y46 z46 st46 hQ46
  replace y46 : k46 = 1 := y46
  replace z46 : n46 = 20 := z46
  replace l46 := l46.symm; replace y46 := y46.symm; replace z46 := z46.symm; subst l46 y46 z46
  obtain ⟨rfl, N46q, e46⟩ := hQ46
  have N46 := Fr.app N45 N46q
  obtain ⟨T47, h47, X47, e47, W47, V47, st47⟩ := own_bastoreB X46 hx hZ e46 V45_n (j := (14 : Int32)) (show 0 ≤ Int32.toInt (14 : Int32) ∧ Int32.toInt (14 : Int32) < ((20 : Nat) : Int) by decide) (x := (own_f1 q0 ((14 : Int32)))) (D at_202)
  have sz47 := Nat.le_trans sz45 (Keep.of_wr W47).1
  have kz47 := Nat.le_trans kz45 (Keep.of_wr W47).1
  have N47 := Fr.snoc X47 N46 ge_a14
  have V47_n : own_AI Z h47 a14 .byte [((own_f1 q0 ((0 : Int32)))).toInt8.toInt32, ((own_f1 q0 ((1 : Int32)))).toInt8.toInt32, ((own_f1 q0 ((2 : Int32)))).toInt8.toInt32, ((own_f1 q0 ((3 : Int32)))).toInt8.toInt32, ((own_f1 q0 ((4 : Int32)))).toInt8.toInt32, ((own_f1 q0 ((5 : Int32)))).toInt8.toInt32, ((own_f1 q0 ((6 : Int32)))).toInt8.toInt32, ((own_f1 q0 ((7 : Int32)))).toInt8.toInt32, ((own_f1 q0 ((8 : Int32)))).toInt8.toInt32, ((own_f1 q0 ((9 : Int32)))).toInt8.toInt32, ((own_f1 q0 ((10 : Int32)))).toInt8.toInt32, ((own_f1 q0 ((11 : Int32)))).toInt8.toInt32, ((own_f1 q0 ((12 : Int32)))).toInt8.toInt32, ((own_f1 q0 ((13 : Int32)))).toInt8.toInt32, ((own_f1 q0 ((14 : Int32)))).toInt8.toInt32, (0 : Int32), (0 : Int32), (0 : Int32), (0 : Int32), (0 : Int32)] := V47
  have pre48 : ∀ t, Steps p.tables e below (T47.setTop (mkF m 205 #[jv q0, s2, iv q1, iv q2, iv q3, iv q4, iv v1, iv v3, iv v5, iv v10, iv v12, rv a14, u0, u0, u0, u0, u0, u0, u0, u0, u0] [(.ref a14)])) t → Steps p.tables e below B0 t := by
    intro t k
    refine pre39 t ?_
    show Steps p.tables e below (T38.setTop (mkF m 161 #[jv q0, s2, iv q1, iv q2, iv q3, iv q4, iv v1, iv v3, iv v5, iv v10, iv v12, rv a14, u0, u0, u0, u0, u0, u0, u0, u0, u0] [(.ref a14)])) _
    refine XS.bipush X38.here hx rfl (D at_161) ?_
    refine XS.lloadN X38.here hx rfl (D at_163) rfl ?_
    refine XS.bipush X38.here hx rfl (D at_164) ?_
    refine st40 _ ?_
    refine st41 _ ?_
    refine XS.aload X41.here hx rfl (D at_170) rfl rfl ?_
    refine XS.bipush X41.here hx rfl (D at_172) ?_
    show Steps p.tables e below (T41.setTop (mkF m 174 #[jv q0, s2, iv q1, iv q2, iv q3, iv q4, iv v1, iv v3, iv v5, iv v10, iv v12, rv a14, u0, u0, u0, u0, u0, u0, u0, u0, u0] [(.int (12 : Int32)), (.ref a14)])) _
    refine XS.lloadN X41.here hx rfl (D at_174) rfl ?_
    refine XS.bipush X41.here hx rfl (D at_175) ?_
    refine st42 _ ?_
    refine st43 _ ?_
    refine XS.aload X43.here hx rfl (D at_181) rfl rfl ?_
    refine XS.bipush X43.here hx rfl (D at_183) ?_
    refine XS.lloadN X43.here hx rfl (D at_185) rfl ?_
    refine XS.bipush X43.here hx rfl (D at_186) ?_
    show Steps p.tables e below (T43.setTop (mkF m 188 #[jv q0, s2, iv q1, iv q2, iv q3, iv q4, iv v1, iv v3, iv v5, iv v10, iv v12, rv a14, u0, u0, u0, u0, u0, u0, u0, u0, u0] [(.int (13 : Int32)), (.long q0), (.int (13 : Int32)), (.ref a14)])) _
    refine st44 _ ?_
    refine st45 _ ?_
    refine XS.aload X45.here hx rfl (D at_192) rfl rfl ?_
    refine XS.bipush X45.here hx rfl (D at_194) ?_
    refine XS.lloadN X45.here hx rfl (D at_196) rfl ?_
    refine XS.bipush X45.here hx rfl (D at_197) ?_
    refine st46 _ ?_
    refine st47 _ ?_
    show Steps p.tables e below (T47.setTop (mkF m 203 #[jv q0, s2, iv q1, iv q2, iv q3, iv q4, iv v1, iv v3, iv v5, iv v10, iv v12, rv a14, u0, u0, u0, u0, u0, u0, u0, u0, u0] [])) _
    refine XS.aload X47.here hx rfl (D at_203) rfl rfl ?_
    exact k
  clear X38 e38 sz38 N38 V38_n pre39 X40 st40 N40q e40 N40 X41 e41 W41 V41 st41 sz41 N41 V41_n X42 st42 N42q e42 N42 X43 e43 W43 V43 st43 sz43 N43 V43_n X44 st44 N44q e44 N44 X45 e45 W45 V45 st45 sz45 N45 V45_n X46 st46 N46q e46 N46 W47 V47 st47
  obtain ⟨_, _, ⟨T49, L49, k49, n49⟩, -, X49, ⟨Lc49, hQ49, l49, y49, z49⟩, st49⟩ := Jvm.LawKit.callS X47 hx (y := (⟨"com/example/tributary/tributary/io/LineFormatBeginPinLaw", "dig", "(JI)B"⟩ : MethodName)) hown (mvT hZ (H 1 rfl)) (mvT hZ (H 2 rfl)) (mvT hZ (H 3 rfl)) (mvT hZ (H 4 rfl)) (by decide) (backOf (W := 2) (rm1 l Z a0 hw [] q0 (15 : Int32)  h47 n0 sz47 ) hZ (H 4 rfl) (H 3 rfl) (by decide) (by decide)) (g := (mkF m 210 #[jv q0, s2, iv q1, iv q2, iv q3, iv q4, iv v1, iv v3, iv v5, iv v10, iv v12, rv a14, u0, u0, u0, u0, u0, u0, u0, u0, u0] [(.int (15 : Int32)), (.long q0), (.int (15 : Int32)), (.ref a14)])) rfl (by rw [hml]; rfl) (argsL := [(.long q0), (.int (15 : Int32))]) (rest := [(.int (15 : Int32)), (.ref a14)]) (lenOf pd_55 rfl) rfl (by show 2 * 0 + _ ≤ _; exact Nat.le_of_eq rfl) (D at_210) (fun _ _ => ⟨rfl, e47, (by decide : 1 + 0 ≤ _), (by decide : 20 + 0 ≤ _)⟩)
  dsimp only [Pt.U, Pt.locs, Pt.cells, Pt.slots] at X49 l49 y49 z49 st49 hQ49
  replace y49 : k49 = 1 := y49
  replace z49 : n49 = 20 := z49
  replace l49 := l49.symm; replace y49 := y49.symm; replace z49 := z49.symm; subst l49 y49 z49
  obtain ⟨rfl, N49q, e49⟩ := hQ49
  have N49 := Fr.app N47 N49q
  obtain ⟨T50, h50, X50, e50, W50, V50, st50⟩ := own_bastoreB X49 hx hZ e49 V47_n (j := (15 : Int32)) (show 0 ≤ Int32.toInt (15 : Int32) ∧ Int32.toInt (15 : Int32) < ((20 : Nat) : Int) by decide) (x := (own_f1 q0 ((15 : Int32)))) (D at_213)
  have sz50 := Nat.le_trans sz47 (Keep.of_wr W50).1
  have kz50 := Nat.le_trans kz47 (Keep.of_wr W50).1
  have N50 := Fr.snoc X50 N49 ge_a14
  have V50_n : own_AI Z h50 a14 .byte [((own_f1 q0 ((0 : Int32)))).toInt8.toInt32, ((own_f1 q0 ((1 : Int32)))).toInt8.toInt32, ((own_f1 q0 ((2 : Int32)))).toInt8.toInt32, ((own_f1 q0 ((3 : Int32)))).toInt8.toInt32, ((own_f1 q0 ((4 : Int32)))).toInt8.toInt32, ((own_f1 q0 ((5 : Int32)))).toInt8.toInt32, ((own_f1 q0 ((6 : Int32)))).toInt8.toInt32, ((own_f1 q0 ((7 : Int32)))).toInt8.toInt32, ((own_f1 q0 ((8 : Int32)))).toInt8.toInt32, ((own_f1 q0 ((9 : Int32)))).toInt8.toInt32, ((own_f1 q0 ((10 : Int32)))).toInt8.toInt32, ((own_f1 q0 ((11 : Int32)))).toInt8.toInt32, ((own_f1 q0 ((12 : Int32)))).toInt8.toInt32, ((own_f1 q0 ((13 : Int32)))).toInt8.toInt32, ((own_f1 q0 ((14 : Int32)))).toInt8.toInt32, ((own_f1 q0 ((15 : Int32)))).toInt8.toInt32, (0 : Int32), (0 : Int32), (0 : Int32), (0 : Int32)] := V50
  obtain ⟨_, _, ⟨T51, L51, k51, n51⟩, -, X51, ⟨Lc51, hQ51, l51, y51, z51⟩, st51⟩ := Jvm.LawKit.callS X50 hx (y := (⟨"com/example/tributary/tributary/io/LineFormatBeginPinLaw", "dig", "(JI)B"⟩ : MethodName)) hown (mvT hZ (H 1 rfl)) (mvT hZ (H 2 rfl)) (mvT hZ (H 3 rfl)) (mvT hZ (H 4 rfl)) (by decide) (backOf (W := 2) (rm1 l Z a0 hw [] q0 (16 : Int32)  h50 n0 sz50 ) hZ (H 4 rfl) (H 3 rfl) (by decide) (by decide)) (g := (mkF m 221 #[jv q0, s2, iv q1, iv q2, iv q3, iv q4, iv v1, iv v3, iv v5, iv v10, iv v12, rv a14, u0, u0, u0, u0, u0, u0, u0, u0, u0] [(.int (16 : Int32)), (.long q0), (.int (16 : Int32)), (.ref a14)])) rfl (by rw [hml]; rfl) (argsL := [(.long q0), (.int (16 : Int32))]) (rest := [(.int (16 : Int32)), (.ref a14)]) (lenOf pd_55 rfl) rfl (by show 2 * 0 + _ ≤ _; exact Nat.le_of_eq rfl) (D at_221) (fun _ _ => ⟨rfl, e50, (by decide : 1 + 0 ≤ _), (by decide : 20 + 0 ≤ _)⟩)
  dsimp only [Pt.U, Pt.locs, Pt.cells, Pt.slots] at X51 l51 y51 z51 st51 hQ51
  replace y51 : k51 = 1 := y51
  replace z51 : n51 = 20 := z51
  replace l51 := l51.symm; replace y51 := y51.symm; replace z51 := z51.symm; subst l51 y51 z51
  obtain ⟨rfl, N51q, e51⟩ := hQ51
  have N51 := Fr.app N50 N51q
  obtain ⟨T52, h52, X52, e52, W52, V52, st52⟩ := own_bastoreB X51 hx hZ e51 V50_n (j := (16 : Int32)) (show 0 ≤ Int32.toInt (16 : Int32) ∧ Int32.toInt (16 : Int32) < ((20 : Nat) : Int) by decide) (x := (own_f1 q0 ((16 : Int32)))) (D at_224)
  have sz52 := Nat.le_trans sz50 (Keep.of_wr W52).1
  have kz52 := Nat.le_trans kz50 (Keep.of_wr W52).1
  have N52 := Fr.snoc X52 N51 ge_a14
  have V52_n : own_AI Z h52 a14 .byte [((own_f1 q0 ((0 : Int32)))).toInt8.toInt32, ((own_f1 q0 ((1 : Int32)))).toInt8.toInt32, ((own_f1 q0 ((2 : Int32)))).toInt8.toInt32, ((own_f1 q0 ((3 : Int32)))).toInt8.toInt32, ((own_f1 q0 ((4 : Int32)))).toInt8.toInt32, ((own_f1 q0 ((5 : Int32)))).toInt8.toInt32, ((own_f1 q0 ((6 : Int32)))).toInt8.toInt32, ((own_f1 q0 ((7 : Int32)))).toInt8.toInt32, ((own_f1 q0 ((8 : Int32)))).toInt8.toInt32, ((own_f1 q0 ((9 : Int32)))).toInt8.toInt32, ((own_f1 q0 ((10 : Int32)))).toInt8.toInt32, ((own_f1 q0 ((11 : Int32)))).toInt8.toInt32, ((own_f1 q0 ((12 : Int32)))).toInt8.toInt32, ((own_f1 q0 ((13 : Int32)))).toInt8.toInt32, ((own_f1 q0 ((14 : Int32)))).toInt8.toInt32, ((own_f1 q0 ((15 : Int32)))).toInt8.toInt32, ((own_f1 q0 ((16 : Int32)))).toInt8.toInt32, (0 : Int32), (0 : Int32), (0 : Int32)] := V52
  obtain ⟨_, _, ⟨T53, L53, k53, n53⟩, -, X53, ⟨Lc53, hQ53, l53, y53, z53⟩, st53⟩ := Jvm.LawKit.callS X52 hx (y := (⟨"com/example/tributary/tributary/io/LineFormatBeginPinLaw", "dig", "(JI)B"⟩ : MethodName)) hown (mvT hZ (H 1 rfl)) (mvT hZ (H 2 rfl)) (mvT hZ (H 3 rfl)) (mvT hZ (H 4 rfl)) (by decide) (backOf (W := 2) (rm1 l Z a0 hw [] q0 (17 : Int32)  h52 n0 sz52 ) hZ (H 4 rfl) (H 3 rfl) (by decide) (by decide)) (g := (mkF m 232 #[jv q0, s2, iv q1, iv q2, iv q3, iv q4, iv v1, iv v3, iv v5, iv v10, iv v12, rv a14, u0, u0, u0, u0, u0, u0, u0, u0, u0] [(.int (17 : Int32)), (.long q0), (.int (17 : Int32)), (.ref a14)])) rfl (by rw [hml]; rfl) (argsL := [(.long q0), (.int (17 : Int32))]) (rest := [(.int (17 : Int32)), (.ref a14)]) (lenOf pd_55 rfl) rfl (by show 2 * 0 + _ ≤ _; exact Nat.le_of_eq rfl) (D at_232) (fun _ _ => ⟨rfl, e52, (by decide : 1 + 0 ≤ _), (by decide : 20 + 0 ≤ _)⟩)
  dsimp only [Pt.U, Pt.locs, Pt.cells, Pt.slots] at X53 l53 y53 z53 st53 hQ53
  replace y53 : k53 = 1 := y53
  replace z53 : n53 = 20 := z53
  replace l53 := l53.symm; replace y53 := y53.symm; replace z53 := z53.symm; subst l53 y53 z53
  obtain ⟨rfl, N53q, e53⟩ := hQ53
  have N53 := Fr.app N52 N53q
  obtain ⟨T54, h54, X54, e54, W54, V54, st54⟩ := own_bastoreB X53 hx hZ e53 V52_n (j := (17 : Int32)) (show 0 ≤ Int32.toInt (17 : Int32) ∧ Int32.toInt (17 : Int32) < ((20 : Nat) : Int) by decide) (x := (own_f1 q0 ((17 : Int32)))) (D at_235)
  have sz54 := Nat.le_trans sz52 (Keep.of_wr W54).1
  have kz54 := Nat.le_trans kz52 (Keep.of_wr W54).1
  have N54 := Fr.snoc X54 N53 ge_a14
  have V54_n : own_AI Z h54 a14 .byte [((own_f1 q0 ((0 : Int32)))).toInt8.toInt32, ((own_f1 q0 ((1 : Int32)))).toInt8.toInt32, ((own_f1 q0 ((2 : Int32)))).toInt8.toInt32, ((own_f1 q0 ((3 : Int32)))).toInt8.toInt32, ((own_f1 q0 ((4 : Int32)))).toInt8.toInt32, ((own_f1 q0 ((5 : Int32)))).toInt8.toInt32, ((own_f1 q0 ((6 : Int32)))).toInt8.toInt32, ((own_f1 q0 ((7 : Int32)))).toInt8.toInt32, ((own_f1 q0 ((8 : Int32)))).toInt8.toInt32, ((own_f1 q0 ((9 : Int32)))).toInt8.toInt32, ((own_f1 q0 ((10 : Int32)))).toInt8.toInt32, ((own_f1 q0 ((11 : Int32)))).toInt8.toInt32, ((own_f1 q0 ((12 : Int32)))).toInt8.toInt32, ((own_f1 q0 ((13 : Int32)))).toInt8.toInt32, ((own_f1 q0 ((14 : Int32)))).toInt8.toInt32, ((own_f1 q0 ((15 : Int32)))).toInt8.toInt32, ((own_f1 q0 ((16 : Int32)))).toInt8.toInt32, ((own_f1 q0 ((17 : Int32)))).toInt8.toInt32, (0 : Int32), (0 : Int32)] := V54
  obtain ⟨_, _, ⟨T55, L55, k55, n55⟩, -, X55, ⟨Lc55, hQ55, l55, y55, z55⟩, st55⟩ := Jvm.LawKit.callS X54 hx (y := (⟨"com/example/tributary/tributary/io/LineFormatBeginPinLaw", "dig", "(JI)B"⟩ : MethodName)) hown (mvT hZ (H 1 rfl)) (mvT hZ (H 2 rfl)) (mvT hZ (H 3 rfl)) (mvT hZ (H 4 rfl)) (by decide) (backOf (W := 2) (rm1 l Z a0 hw [] q0 (18 : Int32)  h54 n0 sz54 ) hZ (H 4 rfl) (H 3 rfl) (by decide) (by decide)) (g := (mkF m 243 #[jv q0, s2, iv q1, iv q2, iv q3, iv q4, iv v1, iv v3, iv v5, iv v10, iv v12, rv a14, u0, u0, u0, u0, u0, u0, u0, u0, u0] [(.int (18 : Int32)), (.long q0), (.int (18 : Int32)), (.ref a14)])) rfl (by rw [hml]; rfl) (argsL := [(.long q0), (.int (18 : Int32))]) (rest := [(.int (18 : Int32)), (.ref a14)]) (lenOf pd_55 rfl) rfl (by show 2 * 0 + _ ≤ _; exact Nat.le_of_eq rfl) (D at_243) (fun _ _ => ⟨rfl, e54, (by decide : 1 + 0 ≤ _), (by decide : 20 + 0 ≤ _)⟩)
  dsimp only [Pt.U, Pt.locs, Pt.cells, Pt.slots] at X55 l55 y55 z55 st55 hQ55
  replace y55 : k55 = 1 := y55
  replace z55 : n55 = 20 := z55
  replace l55 := l55.symm; replace y55 := y55.symm; replace z55 := z55.symm; subst l55 y55 z55
  obtain ⟨rfl, N55q, e55⟩ := hQ55
  have N55 := Fr.app N54 N55q
  obtain ⟨T56, h56, X56, e56, W56, V56, st56⟩ := own_bastoreB X55 hx hZ e55 V54_n (j := (18 : Int32)) (show 0 ≤ Int32.toInt (18 : Int32) ∧ Int32.toInt (18 : Int32) < ((20 : Nat) : Int) by decide) (x := (own_f1 q0 ((18 : Int32)))) (D at_246)
  have sz56 := Nat.le_trans sz54 (Keep.of_wr W56).1
  have kz56 := Nat.le_trans kz54 (Keep.of_wr W56).1
  have N56 := Fr.snoc X56 N55 ge_a14
  have V56_n : own_AI Z h56 a14 .byte [((own_f1 q0 ((0 : Int32)))).toInt8.toInt32, ((own_f1 q0 ((1 : Int32)))).toInt8.toInt32, ((own_f1 q0 ((2 : Int32)))).toInt8.toInt32, ((own_f1 q0 ((3 : Int32)))).toInt8.toInt32, ((own_f1 q0 ((4 : Int32)))).toInt8.toInt32, ((own_f1 q0 ((5 : Int32)))).toInt8.toInt32, ((own_f1 q0 ((6 : Int32)))).toInt8.toInt32, ((own_f1 q0 ((7 : Int32)))).toInt8.toInt32, ((own_f1 q0 ((8 : Int32)))).toInt8.toInt32, ((own_f1 q0 ((9 : Int32)))).toInt8.toInt32, ((own_f1 q0 ((10 : Int32)))).toInt8.toInt32, ((own_f1 q0 ((11 : Int32)))).toInt8.toInt32, ((own_f1 q0 ((12 : Int32)))).toInt8.toInt32, ((own_f1 q0 ((13 : Int32)))).toInt8.toInt32, ((own_f1 q0 ((14 : Int32)))).toInt8.toInt32, ((own_f1 q0 ((15 : Int32)))).toInt8.toInt32, ((own_f1 q0 ((16 : Int32)))).toInt8.toInt32, ((own_f1 q0 ((17 : Int32)))).toInt8.toInt32, ((own_f1 q0 ((18 : Int32)))).toInt8.toInt32, (0 : Int32)] := V56
  have pre57 : ∀ t, Steps p.tables e below (T56.setTop (mkF m 249 #[jv q0, s2, iv q1, iv q2, iv q3, iv q4, iv v1, iv v3, iv v5, iv v10, iv v12, rv a14, u0, u0, u0, u0, u0, u0, u0, u0, u0] [(.ref a14)])) t → Steps p.tables e below B0 t := by
    intro t k
    refine pre48 t ?_
    show Steps p.tables e below (T47.setTop (mkF m 205 #[jv q0, s2, iv q1, iv q2, iv q3, iv q4, iv v1, iv v3, iv v5, iv v10, iv v12, rv a14, u0, u0, u0, u0, u0, u0, u0, u0, u0] [(.ref a14)])) _
    refine XS.bipush X47.here hx rfl (D at_205) ?_
    refine XS.lloadN X47.here hx rfl (D at_207) rfl ?_
    refine XS.bipush X47.here hx rfl (D at_208) ?_
    refine st49 _ ?_
    refine st50 _ ?_
    refine XS.aload X50.here hx rfl (D at_214) rfl rfl ?_
    refine XS.bipush X50.here hx rfl (D at_216) ?_
    show Steps p.tables e below (T50.setTop (mkF m 218 #[jv q0, s2, iv q1, iv q2, iv q3, iv q4, iv v1, iv v3, iv v5, iv v10, iv v12, rv a14, u0, u0, u0, u0, u0, u0, u0, u0, u0] [(.int (16 : Int32)), (.ref a14)])) _
    refine XS.lloadN X50.here hx rfl (D at_218) rfl ?_
    refine XS.bipush X50.here hx rfl (D at_219) ?_
    refine st51 _ ?_
    refine st52 _ ?_
    refine XS.aload X52.here hx rfl (D at_225) rfl rfl ?_
    refine XS.bipush X52.here hx rfl (D at_227) ?_
    refine XS.lloadN X52.here hx rfl (D at_229) rfl ?_
    refine XS.bipush X52.here hx rfl (D at_230) ?_
    show Steps p.tables e below (T52.setTop (mkF m 232 #[jv q0, s2, iv q1, iv q2, iv q3, iv q4, iv v1, iv v3, iv v5, iv v10, iv v12, rv a14, u0, u0, u0, u0, u0, u0, u0, u0, u0] [(.int (17 : Int32)), (.long q0), (.int (17 : Int32)), (.ref a14)])) _
    refine st53 _ ?_
    refine st54 _ ?_
    refine XS.aload X54.here hx rfl (D at_236) rfl rfl ?_
    refine XS.bipush X54.here hx rfl (D at_238) ?_
    refine XS.lloadN X54.here hx rfl (D at_240) rfl ?_
    refine XS.bipush X54.here hx rfl (D at_241) ?_
    refine st55 _ ?_
    refine st56 _ ?_
    show Steps p.tables e below (T56.setTop (mkF m 247 #[jv q0, s2, iv q1, iv q2, iv q3, iv q4, iv v1, iv v3, iv v5, iv v10, iv v12, rv a14, u0, u0, u0, u0, u0, u0, u0, u0, u0] [])) _
    refine XS.aload X56.here hx rfl (D at_247) rfl rfl ?_
    exact k
  clear X47 e47 sz47 N47 V47_n pre48 X49 st49 N49q e49 N49 X50 e50 W50 V50 st50 sz50 N50 V50_n X51 st51 N51q e51 N51 X52 e52 W52 V52 st52 sz52 N52 V52_n X53 st53 N53q e53 N53 X54 e54 W54 V54 st54 sz54 N54 V54_n X55 st55 N55q e55 N55 W56 V56 st56
  obtain ⟨_, _, ⟨T58, L58, k58, n58⟩, -, X58, ⟨Lc58, hQ58, l58, y58, z58⟩, st58⟩ := Jvm.LawKit.callS X56 hx (y := (⟨"com/example/tributary/tributary/io/LineFormatBeginPinLaw", "dig", "(JI)B"⟩ : MethodName)) hown (mvT hZ (H 1 rfl)) (mvT hZ (H 2 rfl)) (mvT hZ (H 3 rfl)) (mvT hZ (H 4 rfl)) (by decide) (backOf (W := 2) (rm1 l Z a0 hw [] q0 (19 : Int32)  h56 n0 sz56 ) hZ (H 4 rfl) (H 3 rfl) (by decide) (by decide)) (g := (mkF m 254 #[jv q0, s2, iv q1, iv q2, iv q3, iv q4, iv v1, iv v3, iv v5, iv v10, iv v12, rv a14, u0, u0, u0, u0, u0, u0, u0, u0, u0] [(.int (19 : Int32)), (.long q0), (.int (19 : Int32)), (.ref a14)])) rfl (by rw [hml]; rfl) (argsL := [(.long q0), (.int (19 : Int32))]) (rest := [(.int (19 : Int32)), (.ref a14)]) (lenOf pd_55 rfl) rfl (by show 2 * 0 + _ ≤ _; exact Nat.le_of_eq rfl) (D at_254) (fun _ _ => ⟨rfl, e56, (by decide : 1 + 0 ≤ _), (by decide : 20 + 0 ≤ _)⟩)
  dsimp only [Pt.U, Pt.locs, Pt.cells, Pt.slots] at X58 l58 y58 z58 st58 hQ58
  replace y58 : k58 = 1 := y58
  replace z58 : n58 = 20 := z58
  replace l58 := l58.symm; replace y58 := y58.symm; replace z58 := z58.symm; subst l58 y58 z58
  obtain ⟨rfl, N58q, e58⟩ := hQ58
  have N58 := Fr.app N56 N58q
  obtain ⟨T59, h59, X59, e59, W59, V59, st59⟩ := own_bastoreB X58 hx hZ e58 V56_n (j := (19 : Int32)) (show 0 ≤ Int32.toInt (19 : Int32) ∧ Int32.toInt (19 : Int32) < ((20 : Nat) : Int) by decide) (x := (own_f1 q0 ((19 : Int32)))) (D at_257)
  have sz59 := Nat.le_trans sz56 (Keep.of_wr W59).1
  have kz59 := Nat.le_trans kz56 (Keep.of_wr W59).1
  have N59 := Fr.snoc X59 N58 ge_a14
  have V59_n : own_AI Z h59 a14 .byte [((own_f1 q0 ((0 : Int32)))).toInt8.toInt32, ((own_f1 q0 ((1 : Int32)))).toInt8.toInt32, ((own_f1 q0 ((2 : Int32)))).toInt8.toInt32, ((own_f1 q0 ((3 : Int32)))).toInt8.toInt32, ((own_f1 q0 ((4 : Int32)))).toInt8.toInt32, ((own_f1 q0 ((5 : Int32)))).toInt8.toInt32, ((own_f1 q0 ((6 : Int32)))).toInt8.toInt32, ((own_f1 q0 ((7 : Int32)))).toInt8.toInt32, ((own_f1 q0 ((8 : Int32)))).toInt8.toInt32, ((own_f1 q0 ((9 : Int32)))).toInt8.toInt32, ((own_f1 q0 ((10 : Int32)))).toInt8.toInt32, ((own_f1 q0 ((11 : Int32)))).toInt8.toInt32, ((own_f1 q0 ((12 : Int32)))).toInt8.toInt32, ((own_f1 q0 ((13 : Int32)))).toInt8.toInt32, ((own_f1 q0 ((14 : Int32)))).toInt8.toInt32, ((own_f1 q0 ((15 : Int32)))).toInt8.toInt32, ((own_f1 q0 ((16 : Int32)))).toInt8.toInt32, ((own_f1 q0 ((17 : Int32)))).toInt8.toInt32, ((own_f1 q0 ((18 : Int32)))).toInt8.toInt32, ((own_f1 q0 ((19 : Int32)))).toInt8.toInt32] := V59
  have V60_a : own_AI Z h59 a14 .byte (own_B q0) := V59_n
  obtain ⟨T61, h61, cA61, X61, e61, E61, A61, st61⟩ := newP X59 hx hZ (aty := .byte) (H 0 rfl) e59 (g := (mkF m 260 #[jv q0, s2, iv q1, iv q2, iv q3, iv q4, iv v1, iv v3, iv v5, iv v10, iv v12, rv a14, u0, u0, u0, u0, u0, u0, u0, u0, u0] [(.int (20 : Int32))])) rfl (D at_260) rfl (by decide) (cap := 20) (by decide) (by decide) (by decide) (by decide)
  obtain ⟨a61, g61⟩ : ∃ z, z = h59.size := ⟨_, rfl⟩
  rw [← g61] at A61 st61
  have ne_a14_a61 : a14 ≠ a61 := g61 ▸ Nat.ne_of_lt V60_a.lt
  have ge_a61 : n0 ≤ a61 := g61 ▸ sz59
  have V61_a14 := V60_a.ext E61
  have sz61 := Nat.le_trans sz59 E61.1
  have kz61 := Nat.le_trans kz59 E61.1
  have V61_n : own_AI Z h61 a61 .byte [(0 : Int32), (0 : Int32), (0 : Int32), (0 : Int32), (0 : Int32), (0 : Int32), (0 : Int32), (0 : Int32), (0 : Int32), (0 : Int32), (0 : Int32), (0 : Int32), (0 : Int32), (0 : Int32), (0 : Int32), (0 : Int32), (0 : Int32), (0 : Int32), (0 : Int32), (0 : Int32)] := own_AIbyte_new A61 (k := 20) (by decide)
  have bf := own_bf hv1
  have bk := own_bk hv3
  have ba := own_bk hv5
  have BB := own_Ball q0
  have bl := BB.1
  have fa : (v1 + v5).toInt = v1.toInt + v5.toInt := own_s rfl rfl (by omega)
  have fa1 : ((v1 + v5) + (1 : Int32)).toInt = v1.toInt + v5.toInt + 1 := own_s fa (by decide) (by omega)
  have f1 : (v1 + (1 : Int32)).toInt = v1.toInt + 1 := own_s rfl (by decide) (by omega)
  have pre62 : ∀ t, Steps p.tables e below (T61.setTop (mkF m 264 #[jv q0, s2, iv q1, iv q2, iv q3, iv q4, iv v1, iv v3, iv v5, iv v10, iv v12, rv a14, rv a61, u0, u0, u0, u0, u0, u0, u0, u0] [])) t → Steps p.tables e below B0 t := by
    intro t k
    refine pre57 t ?_
    show Steps p.tables e below (T56.setTop (mkF m 249 #[jv q0, s2, iv q1, iv q2, iv q3, iv q4, iv v1, iv v3, iv v5, iv v10, iv v12, rv a14, u0, u0, u0, u0, u0, u0, u0, u0, u0] [(.ref a14)])) _
    refine XS.bipush X56.here hx rfl (D at_249) ?_
    refine XS.lloadN X56.here hx rfl (D at_251) rfl ?_
    refine XS.bipush X56.here hx rfl (D at_252) ?_
    refine st58 _ ?_
    refine st59 _ ?_
    refine XS.bipush X59.here hx rfl (D at_258) ?_
    refine st61 _ ?_
    show Steps p.tables e below (T61.setTop (mkF m 262 #[jv q0, s2, iv q1, iv q2, iv q3, iv q4, iv v1, iv v3, iv v5, iv v10, iv v12, rv a14, u0, u0, u0, u0, u0, u0, u0, u0, u0] [(.ref a61)])) _
    refine XS.astore X61.here hx rfl (D at_262) rfl rfl (l' := #[jv q0, s2, iv q1, iv q2, iv q3, iv q4, iv v1, iv v3, iv v5, iv v10, iv v12, rv a14, rv a61, u0, u0, u0, u0, u0, u0, u0, u0]) rfl ?_
    exact k
  clear X56 e56 sz56 N56 V56_n pre57 X58 st58 N58q e58 N58 X59 e59 W59 V59 st59 sz59 V59_n V60_a E61 A61 st61
  rcases own_01 hv10 with rfl | rfl
  · have pp1 : (v1 + (1 : Int32)).toInt = v1.toInt + 1 := own_s rfl (by decide) (by omega)
    have in_310_64 : 0 ≤ (v1).toInt ∧ (v1).toInt < ((own_B q0).length : Nat) := (by (try simp only [List.length_set]); omega)
    obtain ⟨T63, h63, X63, e63, W63, V63, st63⟩ := own_bastoreB X61 hx hZ e61 V61_a14 (j := v1) in_310_64 (x := (83 : Int32)) (D at_310)
    have V63_a61 := V61_n.other W63 (Ne.symm ne_a14_a61)
    have sz63 := Nat.le_trans sz61 (Keep.of_wr W63).1
    have kz63 := Nat.le_trans kz61 (Keep.of_wr W63).1
    have N63 := Fr.snoc X63 N59 ge_a14
    have V63_n : own_AI Z h63 a14 .byte ((own_B q0).set (v1).toInt.toNat (83 : Int32)) := V63
    have in_319_66 : 0 ≤ ((v1 + (1 : Int32))).toInt ∧ ((v1 + (1 : Int32))).toInt < (((own_B q0).set (v1).toInt.toNat (83 : Int32)).length : Nat) := (by (try simp only [List.length_set]); omega)
    obtain ⟨T65, h65, X65, e65, W65, V65, st65⟩ := own_bastoreB X63 hx hZ e63 V63_n (j := (v1 + (1 : Int32))) in_319_66 (x := (44 : Int32)) (D at_319)
    have V65_a61 := V63_a61.other W65 (Ne.symm ne_a14_a61)
    have sz65 := Nat.le_trans sz63 (Keep.of_wr W65).1
    have kz65 := Nat.le_trans kz63 (Keep.of_wr W65).1
    have N65 := Fr.snoc X65 N63 ge_a14
    have V65_n : own_AI Z h65 a14 .byte (((own_B q0).set (v1).toInt.toNat (83 : Int32)).set ((v1 + (1 : Int32))).toInt.toNat (44 : Int32)) := V65
    have V67_a : own_AI Z h65 a14 .byte (own_LN (own_B q0) v1) := V65_n
    have FA := own_factN BB bf bk
    have fl := FA.1
    obtain ⟨v68, hv68⟩ : ∃ z : Int32, z = (v1 + (2 : Int32)) := ⟨_, rfl⟩
    have pre69 : ∀ t, Steps p.tables e below (T65.setTop (mkF m 324 #[jv q0, s2, iv q1, iv q2, iv q3, iv q4, iv v1, iv v3, iv v5, iv (0 : Int32), iv v12, rv a14, rv a61, iv v1, u0, u0, u0, u0, u0, u0, u0] [(.int v68)])) t → Steps p.tables e below B0 t := by
      rw [hv68]
      intro t k
      refine pre62 t ?_
      show Steps p.tables e below (T61.setTop (mkF m 264 #[jv q0, s2, iv q1, iv q2, iv q3, iv q4, iv v1, iv v3, iv v5, iv (0 : Int32), iv v12, rv a14, rv a61, u0, u0, u0, u0, u0, u0, u0, u0] [])) _
      refine XS.iload X61.here hx rfl (D at_264) rfl ?_
      show Steps p.tables e below (T61.setTop (mkF m 266 #[jv q0, s2, iv q1, iv q2, iv q3, iv q4, iv v1, iv v3, iv v5, iv (0 : Int32), iv v12, rv a14, rv a61, u0, u0, u0, u0, u0, u0, u0, u0] [(.int (0 : Int32))])) _
      refine XS.ifYes X61.here hx rfl (pc0 := 266) (pc' := 300) rfl (D at_266) rfl (by decide) (by decide) (by decide) ?_
      refine XS.iload X61.here hx rfl (D at_300) rfl ?_
      refine XS.istore X61.here hx rfl (D at_302) rfl (l' := #[jv q0, s2, iv q1, iv q2, iv q3, iv q4, iv v1, iv v3, iv v5, iv (0 : Int32), iv v12, rv a14, rv a61, iv v1, u0, u0, u0, u0, u0, u0, u0]) rfl ?_
      refine XS.aload X61.here hx rfl (D at_304) rfl rfl ?_
      refine XS.iload X61.here hx rfl (D at_306) rfl ?_
      refine XS.bipush X61.here hx rfl (D at_308) ?_
      refine st63 _ ?_
      show Steps p.tables e below (T63.setTop (mkF m 311 #[jv q0, s2, iv q1, iv q2, iv q3, iv q4, iv v1, iv v3, iv v5, iv (0 : Int32), iv v12, rv a14, rv a61, iv v1, u0, u0, u0, u0, u0, u0, u0] [])) _
      refine XS.aload X63.here hx rfl (D at_311) rfl rfl ?_
      refine XS.iload X63.here hx rfl (D at_313) rfl ?_
      refine XS.iconst X63.here hx rfl (D at_315) ?_
      refine XS.iadd X63.here hx rfl (D at_316) rfl ?_
      refine XS.bipush X63.here hx rfl (D at_317) ?_
      refine st65 _ ?_
      refine XS.iload X65.here hx rfl (D at_320) rfl ?_
      refine XS.iconst X65.here hx rfl (D at_322) ?_
      show Steps p.tables e below (T65.setTop (mkF m 323 #[jv q0, s2, iv q1, iv q2, iv q3, iv q4, iv v1, iv v3, iv v5, iv (0 : Int32), iv v12, rv a14, rv a61, iv v1, u0, u0, u0, u0, u0, u0, u0] [(.int (2 : Int32)), (.int v1)])) _
      refine XS.iadd X65.here hx rfl (D at_323) rfl ?_
      exact k
    obtain ⟨v70, hv70⟩ : ∃ z : Int32, z = (v68 + v3) := ⟨_, rfl⟩
    have pre71 : ∀ t, Steps p.tables e below (T65.setTop (mkF m 331 #[jv q0, s2, iv q1, iv q2, iv q3, iv q4, iv v1, iv v3, iv v5, iv (0 : Int32), iv v12, rv a14, rv a61, iv v1, iv v68, u0, u0, u0, u0, u0, u0] [(.int v70)])) t → Steps p.tables e below B0 t := by
      rw [hv70]
      intro t k
      refine pre69 t ?_
      show Steps p.tables e below (T65.setTop (mkF m 324 #[jv q0, s2, iv q1, iv q2, iv q3, iv q4, iv v1, iv v3, iv v5, iv (0 : Int32), iv v12, rv a14, rv a61, iv v1, u0, u0, u0, u0, u0, u0, u0] [(.int v68)])) _
      refine XS.istore X65.here hx rfl (D at_324) rfl (l' := #[jv q0, s2, iv q1, iv q2, iv q3, iv q4, iv v1, iv v3, iv v5, iv (0 : Int32), iv v12, rv a14, rv a61, iv v1, iv v68, u0, u0, u0, u0, u0, u0]) rfl ?_
      refine XS.iload X65.here hx rfl (D at_326) rfl ?_
      refine XS.iload X65.here hx rfl (D at_328) rfl ?_
      refine XS.iadd X65.here hx rfl (D at_330) rfl ?_
      exact k
    have t14 : v68.toInt = v1.toInt + 2 := by rw [hv68]; exact own_s rfl (by decide) (by omega)
    have t15 : v70.toInt = v68.toInt + v3.toInt := by rw [hv70]; exact own_s rfl rfl (by omega)
    obtain ⟨T72, h72, X72, e72, E72, A72, D72, -, st72⟩ := newO X65 hx hZ hown (H 7 rfl) (H 8 rfl) (H 9 rfl) e65 (g := (mkF m 333 #[jv q0, s2, iv q1, iv q2, iv q3, iv q4, iv v1, iv v3, iv v5, iv (0 : Int32), iv v12, rv a14, rv a61, iv v1, iv v68, iv v70, u0, u0, u0, u0, u0] [])) rfl (D at_333) (by decide) (by decide)
    obtain ⟨a72, g72⟩ : ∃ z, z = h65.size := ⟨_, rfl⟩
    rw [← g72] at A72 D72 st72
    have ne_a14_a72 : a14 ≠ a72 := g72 ▸ Nat.ne_of_lt V67_a.lt
    have ne_a61_a72 : a61 ≠ a72 := g72 ▸ Nat.ne_of_lt V65_a61.lt
    have ge_a72 : n0 ≤ a72 := g72 ▸ sz65
    have V72_a14 := V67_a.ext E72
    have V72_a61 := V65_a61.ext E72
    have sz72 := Nat.le_trans sz65 E72.1
    have kz72 := Nat.le_trans kz65 E72.1
    have F72_n0 : Fld Z h72 a72 "com/example/tributary/tributary/io/LineFormat" "line" "[B" .null := D72 (Or.inl (H 22 rfl)) (ty := (.array .byte)) (by decide)
    have F72_n1 : Fld Z h72 a72 "com/example/tributary/tributary/io/LineFormat" "lineStart" "I" (.int (0 : Int32)) := D72 (Or.inl (H 24 rfl)) (ty := .int) (by decide)
    have F72_n2 : Fld Z h72 a72 "com/example/tributary/tributary/io/LineFormat" "lineEnd" "I" (.int (0 : Int32)) := D72 (Or.inl (H 26 rfl)) (ty := .int) (by decide)
    have F72_n3 : Fld Z h72 a72 "com/example/tributary/tributary/io/LineFormat" "cursor" "I" (.int (0 : Int32)) := D72 (Or.inl (H 28 rfl)) (ty := .int) (by decide)
    obtain ⟨_, _, ⟨T73, L73, k73, n73⟩, -, X73, ⟨Lc73, hQ73, l73, y73, z73⟩, st73⟩ := X72.specialBack hx (y := (⟨"com/example/tributary/tributary/io/LineFormat", "<init>", "()V"⟩ : MethodName)) rfl hown (mvT hZ (H 10 rfl)) (mvT hZ (H 11 rfl)) (mvT hZ (H 12 rfl)) (by decide) (backOf (W := 1) (rm2 l Z a0 hw [] a72  h72 n0 sz72 ) hZ (H 12 rfl) (H 9 rfl) (by decide) (by decide)) (g := (mkF m 337 #[jv q0, s2, iv q1, iv q2, iv q3, iv q4, iv v1, iv v3, iv v5, iv (0 : Int32), iv v12, rv a14, rv a61, iv v1, iv v68, iv v70, u0, u0, u0, u0, u0] [(.ref a72), (.ref a72)])) rfl (by rw [hml]; rfl) (Steps.refl _) (a := a72) (argsL := []) (rest := [(.ref a72)]) (lenOf pd_38 rfl) rfl (by show 2 * 0 + _ ≤ _; exact Nat.le_of_eq rfl) (D at_337) (fun _ _ => ⟨rfl, e72, (by decide : 3 + 0 ≤ _), (by decide : 44 + 0 ≤ _)⟩)
    dsimp only [Pt.U, Pt.locs, Pt.cells, Pt.slots] at X73 l73 y73 z73 st73 hQ73
    replace y73 : k73 = 3 := y73
    replace z73 : n73 = 44 := z73
    replace l73 := l73.symm; replace y73 := y73.symm; replace z73 := z73.symm; subst l73 y73 z73
    obtain ⟨rfl, N73q, e73⟩ := hQ73
    have N73 := Fr.app N65 N73q
    obtain ⟨cq74, kq74, q74a, q74b, q74c⟩ := isOf hZ e73 A72
    obtain ⟨_, _, ⟨T74, L74, k74, n74⟩, -, X74, ⟨Lc74, hQ74, l74, y74, z74⟩, st74⟩ := X73.virtualBack hx (y := (⟨"com/example/tributary/tributary/io/LineFormat", "begin", "([BII)V"⟩ : MethodName)) (z := (⟨"com/example/tributary/tributary/io/LineFormat", "begin", "([BII)V"⟩ : MethodName)) hown (mvT hZ (H 16 rfl)) (mvT hZ (H 17 rfl)) (notFace_of_selects (args := #[]) (mvT hZ (H 19 rfl))) (mvT hZ (H 19 rfl)) (mvT hZ (H 18 rfl)) (by decide) (backOf (W := 0) (rm4_1 l Z a0 hw [] a72 a61 v12 (v12 + (1 : Int32)) ((0 : Int32)) ((0 : Int32)) ((0 : Int32)) h72 n0 sz72 A72 F72_n0 F72_n1 F72_n2 F72_n3 ge_a72 ) hZ (H 20 rfl) (H 9 rfl) (by decide) (by decide)) q74a q74c (g := (mkF m 352 #[jv q0, s2, iv q1, iv q2, iv q3, iv q4, iv v1, iv v3, iv v5, iv (0 : Int32), iv v12, rv a14, rv a61, iv v1, iv v68, iv v70, rv a72, u0, u0, u0, u0] [(.int (v12 + (1 : Int32))), (.int v12), (.ref a61), (.ref a72)])) rfl (by rw [hml]; rfl) (Steps.refl _) (argsL := [(.ref a61), (.int v12), (.int (v12 + (1 : Int32)))]) (rest := []) (lenOf pd_56 rfl) rfl (by show 2 * 0 + _ ≤ _; exact Nat.le_of_eq rfl) (D at_352) (fun _ _ => ⟨rfl, e73, (by decide : 3 + 0 ≤ _), (by decide : 44 + 0 ≤ _)⟩)
    dsimp only [Pt.U, Pt.locs, Pt.cells, Pt.slots] at X74 l74 y74 z74 st74 hQ74
    replace y74 : k74 = 3 := y74
    replace z74 : n74 = 44 := z74
    replace l74 := l74.symm; replace y74 := y74.symm; replace z74 := z74.symm; subst l74 y74 z74
    obtain ⟨rfl, N74q, K74, A74_o0, F74_o0, F74_o1, F74_o2, F74_o3⟩ := hQ74
    obtain ⟨h74, e74⟩ : ∃ z, T74.heap = z := ⟨_, rfl⟩
    rw [e74] at K74 A74_o0 F74_o0 F74_o1 F74_o2 F74_o3
    have V74_a14 := V72_a14.keep K74 (ninS ne_a14_a72 nin0)
    have V74_a61 := V72_a61.keep K74 (ninS ne_a61_a72 nin0)
    have A74_a72 := A72.keep K74
    have sz74 : n0 ≤ h74.size := Nat.le_trans sz72 K74.1
    have kz74 := Nat.le_trans kz72 K74.1
    have N74 := Fr.app N73 N74q
    obtain ⟨cq75, kq75, q75a, q75b, q75c⟩ := isOf hZ e74 A74_o0
    obtain ⟨_, _, ⟨T75, L75, k75, n75⟩, -, X75, ⟨Lc75, hQ75, l75, y75, z75⟩, st75⟩ := X74.virtualBack hx (y := (⟨"com/example/tributary/tributary/io/LineFormat", "begin", "([BII)V"⟩ : MethodName)) (z := (⟨"com/example/tributary/tributary/io/LineFormat", "begin", "([BII)V"⟩ : MethodName)) hown (mvT hZ (H 16 rfl)) (mvT hZ (H 17 rfl)) (notFace_of_selects (args := #[]) (mvT hZ (H 19 rfl))) (mvT hZ (H 19 rfl)) (mvT hZ (H 18 rfl)) (by decide) (backOf (W := 0) (rm4_2 l Z a0 hw [] a72 a14 v1 v70 a61 v12 ((v12 + (1 : Int32))) v12 h74 n0 sz74 A74_o0 F74_o0 F74_o1 F74_o2 F74_o3 ge_a72 ) hZ (H 20 rfl) (H 9 rfl) (by decide) (by decide)) q75a q75c (g := (mkF m 363 #[jv q0, s2, iv q1, iv q2, iv q3, iv q4, iv v1, iv v3, iv v5, iv (0 : Int32), iv v12, rv a14, rv a61, iv v1, iv v68, iv v70, rv a72, u0, u0, u0, u0] [(.int v70), (.int v1), (.ref a14), (.ref a72)])) rfl (by rw [hml]; rfl) (Steps.refl _) (argsL := [(.ref a14), (.int v1), (.int v70)]) (rest := []) (lenOf pd_56 rfl) rfl (by show 2 * 0 + _ ≤ _; exact Nat.le_of_eq rfl) (D at_363) (fun _ _ => ⟨rfl, e74, (by decide : 3 + 0 ≤ _), (by decide : 44 + 0 ≤ _)⟩)
    dsimp only [Pt.U, Pt.locs, Pt.cells, Pt.slots] at X75 l75 y75 z75 st75 hQ75
    replace y75 : k75 = 3 := y75
    replace z75 : n75 = 44 := z75
    replace l75 := l75.symm; replace y75 := y75.symm; replace z75 := z75.symm; subst l75 y75 z75
    obtain ⟨rfl, N75q, K75, A75_o0, F75_o0, F75_o1, F75_o2, F75_o3⟩ := hQ75
    obtain ⟨h75, e75⟩ : ∃ z, T75.heap = z := ⟨_, rfl⟩
    rw [e75] at K75 A75_o0 F75_o0 F75_o1 F75_o2 F75_o3
    have V75_a14 := V74_a14.keep K75 (ninS ne_a14_a72 nin0)
    have V75_a61 := V74_a61.keep K75 (ninS ne_a61_a72 nin0)
    have A75_a72 := A74_o0.keep K75
    have sz75 : n0 ≤ h75.size := Nat.le_trans sz74 K75.1
    have kz75 := Nat.le_trans kz74 K75.1
    have N75 := Fr.app N74 N75q
    obtain ⟨cq76, kq76, q76a, q76b, q76c⟩ := isOf hZ e75 A75_o0
    obtain ⟨_, _, ⟨T76, L76, k76, n76⟩, -, X76, ⟨Lc76, hQ76, l76, y76, z76⟩, st76⟩ := X75.virtualBack hx (y := (⟨"com/example/tributary/tributary/io/LineFormat", "hasArrival", "()Z"⟩ : MethodName)) (z := (⟨"com/example/tributary/tributary/io/LineFormat", "hasArrival", "()Z"⟩ : MethodName)) hown (mvT hZ (H 29 rfl)) (mvT hZ (H 30 rfl)) (notFace_of_selects (args := #[]) (mvT hZ (H 32 rfl))) (mvT hZ (H 32 rfl)) (mvT hZ (H 31 rfl)) (by decide) (backOf (W := 0) (rm5_n l Z a0 hw [] a72 a14 ((own_LN (own_B q0) v1)) v1 h75 n0 sz75 V75_a14 A75_o0 F75_o0 F75_o1 (by omega) (fun q => absurd (FA.2.2.1.symm.trans q) (by decide))) hZ (H 33 rfl) (H 9 rfl) (by decide) (by decide)) q76a q76c (g := (mkF m 368 #[jv q0, s2, iv q1, iv q2, iv q3, iv q4, iv v1, iv v3, iv v5, iv (0 : Int32), iv v12, rv a14, rv a61, iv v1, iv v68, iv v70, rv a72, u0, u0, u0, u0] [(.ref a72)])) rfl (by rw [hml]; rfl) (Steps.refl _) (argsL := []) (rest := []) (lenOf pd_24 rfl) rfl (by show 2 * 0 + _ ≤ _; exact Nat.le_of_eq rfl) (D at_368) (fun _ _ => ⟨rfl, e75, (by decide : 3 + 0 ≤ _), (by decide : 44 + 0 ≤ _)⟩)
    dsimp only [Pt.U, Pt.locs, Pt.cells, Pt.slots] at X76 l76 y76 z76 st76 hQ76
    replace y76 : k76 = 3 := y76
    replace z76 : n76 = 44 := z76
    replace l76 := l76.symm; replace y76 := y76.symm; replace z76 := z76.symm; subst l76 y76 z76
    obtain ⟨rfl, N76q, e76⟩ := hQ76
    have N76 := Fr.app N75 N76q
    have pre77 : ∀ t, Steps p.tables e below (T76.setTop (mkF m 377 #[jv q0, s2, iv q1, iv q2, iv q3, iv q4, iv v1, iv v3, iv v5, iv (0 : Int32), iv v12, rv a14, rv a61, iv v1, iv v68, iv v70, rv a72, u0, u0, u0, u0] [(.int (1 : Int32))])) t → Steps p.tables e below B0 t := by
      intro t k
      refine pre71 t ?_
      show Steps p.tables e below (T65.setTop (mkF m 331 #[jv q0, s2, iv q1, iv q2, iv q3, iv q4, iv v1, iv v3, iv v5, iv (0 : Int32), iv v12, rv a14, rv a61, iv v1, iv v68, u0, u0, u0, u0, u0, u0] [(.int v70)])) _
      refine XS.istore X65.here hx rfl (D at_331) rfl (l' := #[jv q0, s2, iv q1, iv q2, iv q3, iv q4, iv v1, iv v3, iv v5, iv (0 : Int32), iv v12, rv a14, rv a61, iv v1, iv v68, iv v70, u0, u0, u0, u0, u0]) rfl ?_
      refine st72 _ ?_
      refine XS.dup X72.here hx rfl (D at_336) rfl rfl ?_
      show Steps p.tables e below (T72.setTop (mkF m 337 #[jv q0, s2, iv q1, iv q2, iv q3, iv q4, iv v1, iv v3, iv v5, iv (0 : Int32), iv v12, rv a14, rv a61, iv v1, iv v68, iv v70, u0, u0, u0, u0, u0] [(.ref a72), (.ref a72)])) _
      refine st73.trans ?_
      refine XS.astore X73.here hx rfl (D at_340) rfl rfl (l' := #[jv q0, s2, iv q1, iv q2, iv q3, iv q4, iv v1, iv v3, iv v5, iv (0 : Int32), iv v12, rv a14, rv a61, iv v1, iv v68, iv v70, rv a72, u0, u0, u0, u0]) rfl ?_
      refine XS.aload X73.here hx rfl (D at_342) rfl rfl ?_
      refine XS.aload X73.here hx rfl (D at_344) rfl rfl ?_
      refine XS.iload X73.here hx rfl (D at_346) rfl ?_
      refine XS.iload X73.here hx rfl (D at_348) rfl ?_
      refine XS.iconst X73.here hx rfl (D at_350) ?_
      refine XS.iadd X73.here hx rfl (D at_351) rfl ?_
      show Steps p.tables e below (T73.setTop (mkF m 352 #[jv q0, s2, iv q1, iv q2, iv q3, iv q4, iv v1, iv v3, iv v5, iv (0 : Int32), iv v12, rv a14, rv a61, iv v1, iv v68, iv v70, rv a72, u0, u0, u0, u0] [(.int (v12 + (1 : Int32))), (.int v12), (.ref a61), (.ref a72)])) _
      refine st74.trans ?_
      refine XS.aload X74.here hx rfl (D at_355) rfl rfl ?_
      refine XS.aload X74.here hx rfl (D at_357) rfl rfl ?_
      refine XS.iload X74.here hx rfl (D at_359) rfl ?_
      refine XS.iload X74.here hx rfl (D at_361) rfl ?_
      refine st75.trans ?_
      refine XS.aload X75.here hx rfl (D at_366) rfl rfl ?_
      refine st76.trans ?_
      show Steps p.tables e below (T76.setTop (mkF m 371 #[jv q0, s2, iv q1, iv q2, iv q3, iv q4, iv v1, iv v3, iv v5, iv (0 : Int32), iv v12, rv a14, rv a61, iv v1, iv v68, iv v70, rv a72, u0, u0, u0, u0] [(.int (0 : Int32))])) _
      refine XS.iload X76.here hx rfl (D at_371) rfl ?_
      show Steps p.tables e below (T76.setTop (mkF m 373 #[jv q0, s2, iv q1, iv q2, iv q3, iv q4, iv v1, iv v3, iv v5, iv (0 : Int32), iv v12, rv a14, rv a61, iv v1, iv v68, iv v70, rv a72, u0, u0, u0, u0] [(.int (0 : Int32)), (.int (0 : Int32))])) _
      refine XS.icmpNo X76.here hx rfl (D at_373) rfl (by decide) ?_
      refine XS.iconst X76.here hx rfl (D at_376) ?_
      exact k
    clear N59 X61 e61 V61_a14 sz61 V61_n pre62 X63 e63 W63 V63 st63 V63_a61 sz63 N63 V63_n X65 e65 W65 V65 st65 V65_a61 sz65 N65 V65_n V67_a pre69 pre71 X72 e72 E72 A72 D72 st72 V72_a14 V72_a61 sz72 F72_n0 F72_n1 F72_n2 F72_n3 X73 st73 N73q e73 N73 X74 st74 N74q K74 A74_o0 F74_o0 F74_o1 F74_o2 F74_o3 e74 V74_a14 V74_a61 A74_a72 sz74 N74 X75 st75 N75q K75 e75 A75_a72 N75 st76 N76q
    have pre79 : ∀ t, Steps p.tables e below (T76.setTop (mkF m 430 #[jv q0, s2, iv q1, iv q2, iv q3, iv q4, iv v1, iv v3, iv v5, iv (0 : Int32), iv v12, rv a14, rv a61, iv v1, iv v68, iv v70, rv a72, iv (1 : Int32), u0, u0, u0] [.null, (.ref a72)])) t → Steps p.tables e below B0 t := by
      intro t k
      refine pre77 t ?_
      show Steps p.tables e below (T76.setTop (mkF m 377 #[jv q0, s2, iv q1, iv q2, iv q3, iv q4, iv v1, iv v3, iv v5, iv (0 : Int32), iv v12, rv a14, rv a61, iv v1, iv v68, iv v70, rv a72, u0, u0, u0, u0] [(.int (1 : Int32))])) _
      refine XS.goto X76.here hx rfl (pc0 := 377) (pc' := 381) rfl (D at_377) (by decide) (by decide) ?_
      refine XS.istore X76.here hx rfl (D at_381) rfl (l' := #[jv q0, s2, iv q1, iv q2, iv q3, iv q4, iv v1, iv v3, iv v5, iv (0 : Int32), iv v12, rv a14, rv a61, iv v1, iv v68, iv v70, rv a72, iv (1 : Int32), u0, u0, u0]) rfl ?_
      refine XS.iload X76.here hx rfl (D at_383) rfl ?_
      show Steps p.tables e below (T76.setTop (mkF m 385 #[jv q0, s2, iv q1, iv q2, iv q3, iv q4, iv v1, iv v3, iv v5, iv (0 : Int32), iv v12, rv a14, rv a61, iv v1, iv v68, iv v70, rv a72, iv (1 : Int32), u0, u0, u0] [(.int (1 : Int32))])) _
      refine XS.ifNo X76.here hx rfl (D at_385) rfl (by decide) ?_
      refine XS.iload X76.here hx rfl (D at_388) rfl ?_
      show Steps p.tables e below (T76.setTop (mkF m 390 #[jv q0, s2, iv q1, iv q2, iv q3, iv q4, iv v1, iv v3, iv v5, iv (0 : Int32), iv v12, rv a14, rv a61, iv v1, iv v68, iv v70, rv a72, iv (1 : Int32), u0, u0, u0] [(.int (0 : Int32))])) _
      refine XS.ifYes X76.here hx rfl (pc0 := 390) (pc' := 420) rfl (D at_390) rfl (by decide) (by decide) (by decide) ?_
      refine XS.iload X76.here hx rfl (D at_420) rfl ?_
      show Steps p.tables e below (T76.setTop (mkF m 422 #[jv q0, s2, iv q1, iv q2, iv q3, iv q4, iv v1, iv v3, iv v5, iv (0 : Int32), iv v12, rv a14, rv a61, iv v1, iv v68, iv v70, rv a72, iv (1 : Int32), u0, u0, u0] [(.int (1 : Int32))])) _
      refine XS.ifYes X76.here hx rfl (pc0 := 422) (pc' := 427) rfl (D at_422) rfl (by decide) (by decide) (by decide) ?_
      refine XS.aload X76.here hx rfl (D at_427) rfl rfl ?_
      show Steps p.tables e below (T76.setTop (mkF m 429 #[jv q0, s2, iv q1, iv q2, iv q3, iv q4, iv v1, iv v3, iv v5, iv (0 : Int32), iv v12, rv a14, rv a61, iv v1, iv v68, iv v70, rv a72, iv (1 : Int32), u0, u0, u0] [(.ref a72)])) _
      refine XS.aconstNull X76.here hx rfl (D at_429) ?_
      exact k
    clear pre77
    obtain ⟨cq78, kq78, q78a, q78b, q78c⟩ := isOf hZ e76 A75_o0
    obtain ⟨_, _, ⟨T78, L78, k78, n78⟩, -, X78, S78', kg78, ⟨Lc78, hQ78, l78, y78, z78⟩, st78⟩ := X76.virtualBackS hx (y := (⟨"com/example/tributary/tributary/io/LineFormat", "element", "(Lcom/example/tributary/tributary/model/HeldPayloads;)Lcom/example/tributary/tributary/model/Element;"⟩ : MethodName)) (z := (⟨"com/example/tributary/tributary/io/LineFormat", "element", "(Lcom/example/tributary/tributary/model/HeldPayloads;)Lcom/example/tributary/tributary/model/Element;"⟩ : MethodName)) hown (mvT hZ (H 97 rfl)) (mvT hZ (H 98 rfl)) (notFace_of_selects (args := #[]) (mvT hZ (H 100 rfl))) (mvT hZ (H 100 rfl)) (mvT hZ (H 99 rfl)) (by decide) (backOfS (W := 0) (rm17 l Z a0 hw [] a72 a14 ((own_LN (own_B q0) v1)) v70 v1 v3 h75 n0 sz75 V75_a14 A75_o0 F75_o0 F75_o2 F75_o3 ge_a72 ne_a14_a72 FA.2.1 (by rw [hv70, hv68]) (by omega) FA.2.2.1 FA.2.2.2.1) hZ (H 101 rfl) (H 9 rfl) (by decide) (by decide)) q78a q78c (g := (mkF m 430 #[jv q0, s2, iv q1, iv q2, iv q3, iv q4, iv v1, iv v3, iv v5, iv (0 : Int32), iv v12, rv a14, rv a61, iv v1, iv v68, iv v70, rv a72, iv (1 : Int32), u0, u0, u0] [.null, (.ref a72)])) rfl (by rw [hml]; rfl) (Steps.refl _) (argsL := [.null]) (rest := []) (lenOf pd_57 rfl) rfl (by show 2 * 0 + _ ≤ _; exact Nat.le_of_eq rfl) (D at_430) (fun _ _ => ⟨rfl, e76, (by decide : 3 + 6 ≤ _), (by decide : 44 + 71 ≤ _)⟩)
    dsimp only [Pt.U, Pt.locs, Pt.cells, Pt.slots] at X78 l78 y78 z78 st78 hQ78 S78' kg78
    obtain ⟨X78, S78, hZ, hown⟩ := rebS S0 (Nat.le_trans kz75 (Nat.le_of_eq (congrArg Array.size e76.symm))) X78 S78' kg78 hZ hown
    replace y78 : k78 = 9 := y78
    replace z78 : n78 = 115 := z78
    replace l78 := l78.symm; replace y78 := y78.symm; replace z78 := z78.symm; subst l78 y78 z78
    obtain ⟨rfl, N78q, tm78, go_tm78, -, K78, A78_o0, F78_o0, F78_o1, R78, R78_0⟩ := hQ78
    obtain ⟨h78, e78⟩ : ∃ z, T78.heap = z := ⟨_, rfl⟩
    rw [e78] at K78 A78_o0 F78_o0 F78_o1 R78 R78_0
    obtain ⟨a78, g78⟩ : ∃ z, z = h75.size := ⟨_, rfl⟩
    rw [← g78] at R78 R78_0 st78
    have ne_a14_a78 : a14 ≠ a78 := g78 ▸ Nat.ne_of_lt V75_a14.lt
    have ne_a61_a78 : a61 ≠ a78 := g78 ▸ Nat.ne_of_lt V75_a61.lt
    have ne_a72_a78 : a72 ≠ a78 := g78 ▸ Nat.ne_of_lt A75_o0.lt
    have ge_a78 : n0 ≤ a78 := g78 ▸ sz75
    have ne_a14_tm78 : a14 ≠ tm78 := Nat.ne_of_lt (Nat.lt_of_lt_of_le V75_a14.lt go_tm78)
    have ne_a61_tm78 : a61 ≠ tm78 := Nat.ne_of_lt (Nat.lt_of_lt_of_le V75_a61.lt go_tm78)
    have ne_a72_tm78 : a72 ≠ tm78 := Nat.ne_of_lt (Nat.lt_of_lt_of_le A75_o0.lt go_tm78)
    have ge_tm78 : n0 ≤ tm78 := Nat.le_trans sz75 go_tm78
    have kz78 : T78.heap.size ≤ h78.size := by rw [e78]; exact Nat.le_refl _
    have V78_a14 := V75_a14.keep K78 (ninS ne_a14_a72 nin0)
    have V78_a61 := V75_a61.keep K78 (ninS ne_a61_a72 nin0)
    have A78_a72 := A75_o0.keep K78
    have sz78 : n0 ≤ h78.size := Nat.le_trans sz75 K78.1
    have N78 := Fr.app N76 N78q
    obtain ⟨T80, X80, e80, st80⟩ := instY X78 hx hZ hown (H 121 rfl) e78 (Ins.self R78) (g := (mkF m 437 #[jv q0, s2, iv q1, iv q2, iv q3, iv q4, iv v1, iv v3, iv v5, iv (0 : Int32), iv v12, rv a14, rv a61, iv v1, iv v68, iv v70, rv a72, iv (1 : Int32), rv a78, u0, u0] [(.ref a78)])) rfl rfl (D at_437)
    obtain ⟨T81, X81, e81, st81⟩ := castY X80 hx hZ hown (H 121 rfl) e80 (Ins.self R78) (g := (mkF m 447 #[jv q0, s2, iv q1, iv q2, iv q3, iv q4, iv v1, iv v3, iv v5, iv (0 : Int32), iv v12, rv a14, rv a61, iv v1, iv v68, iv v70, rv a72, iv (1 : Int32), rv a78, u0, u0] [(.ref a78)])) rfl rfl (D at_447)
    obtain ⟨cq82, kq82, q82a, q82b, q82c⟩ := isOf hZ e81 R78
    obtain ⟨_, _, ⟨T82, L82, k82, n82⟩, -, X82, ⟨Lc82, hQ82, l82, y82, z82⟩, st82⟩ := X81.virtualBack hx (y := (⟨"com/example/tributary/tributary/model/Stable", "time", "()Lcom/example/tributary/tributary/model/Time;"⟩ : MethodName)) (z := (⟨"com/example/tributary/tributary/model/Stable", "time", "()Lcom/example/tributary/tributary/model/Time;"⟩ : MethodName)) hown (mvT hZ (H 123 rfl)) (mvT hZ (H 124 rfl)) (notFace_of_selects (args := #[]) (mvT hZ (H 126 rfl))) (mvT hZ (H 126 rfl)) (mvT hZ (H 125 rfl)) (by decide) (backOf (W := 0) (rm21 l Z a0 hw [] a78 tm78 h78 n0 sz78 R78 R78_0 ) hZ (H 127 rfl) (H 104 rfl) (by decide) (by decide)) q82a q82c (g := (mkF m 454 #[jv q0, s2, iv q1, iv q2, iv q3, iv q4, iv v1, iv v3, iv v5, iv (0 : Int32), iv v12, rv a14, rv a61, iv v1, iv v68, iv v70, rv a72, iv (1 : Int32), rv a78, rv a78, u0] [(.ref a78)])) rfl (by rw [hml]; rfl) (Steps.refl _) (argsL := []) (rest := []) (lenOf pd_58 rfl) rfl (by show 2 * 0 + _ ≤ _; exact Nat.le_of_eq rfl) (D at_454) (fun _ _ => ⟨rfl, e81, (by decide : 9 + 0 ≤ _), (by decide : 115 + 0 ≤ _)⟩)
    dsimp only [Pt.U, Pt.locs, Pt.cells, Pt.slots] at X82 l82 y82 z82 st82 hQ82
    replace y82 : k82 = 9 := y82
    replace z82 : n82 = 115 := z82
    replace l82 := l82.symm; replace y82 := y82.symm; replace z82 := z82.symm; subst l82 y82 z82
    obtain ⟨rfl, N82q, e82⟩ := hQ82
    have N82 := Fr.app N78 N82q
    obtain ⟨cq83, kq83, q83a, q83b, q83c⟩ := isOf hZ e82 A78_o0
    obtain ⟨_, _, ⟨T83, L83, k83, n83⟩, -, X83, ⟨Lc83, hQ83, l83, y83, z83⟩, st83⟩ := X82.virtualBack hx (y := (⟨"com/example/tributary/tributary/model/Time", "isInfinite", "()Z"⟩ : MethodName)) (z := (⟨"com/example/tributary/tributary/model/Time", "isInfinite", "()Z"⟩ : MethodName)) hown (mvT hZ (H 128 rfl)) (mvT hZ (H 85 rfl)) (notFace_of_selects (args := #[]) (mvT hZ (H 87 rfl))) (mvT hZ (H 87 rfl)) (mvT hZ (H 86 rfl)) (by decide) (backOf (W := 0) (rm14 l Z a0 hw [] tm78  h78 n0 sz78 A78_o0 F78_o1 ) hZ (H 88 rfl) (H 56 rfl) (by decide) (by decide)) q83a q83c (g := (mkF m 461 #[jv q0, s2, iv q1, iv q2, iv q3, iv q4, iv v1, iv v3, iv v5, iv (0 : Int32), iv v12, rv a14, rv a61, iv v1, iv v68, iv v70, rv a72, iv (1 : Int32), rv a78, rv a78, rv tm78] [(.ref tm78)])) rfl (by rw [hml]; rfl) (Steps.refl _) (argsL := []) (rest := []) (lenOf pd_24 rfl) rfl (by show 2 * 0 + _ ≤ _; exact Nat.le_of_eq rfl) (D at_461) (fun _ _ => ⟨rfl, e82, (by decide : 9 + 0 ≤ _), (by decide : 115 + 0 ≤ _)⟩)
    dsimp only [Pt.U, Pt.locs, Pt.cells, Pt.slots] at X83 l83 y83 z83 st83 hQ83
    replace y83 : k83 = 9 := y83
    replace z83 : n83 = 115 := z83
    replace l83 := l83.symm; replace y83 := y83.symm; replace z83 := z83.symm; subst l83 y83 z83
    obtain ⟨rfl, N83q, e83⟩ := hQ83
    have N83 := Fr.app N82 N83q
    obtain ⟨cq84, kq84, q84a, q84b, q84c⟩ := isOf hZ e83 A78_o0
    obtain ⟨_, _, ⟨T84, L84, k84, n84⟩, -, X84, ⟨Lc84, hQ84, l84, y84, z84⟩, st84⟩ := X83.virtualBack hx (y := (⟨"com/example/tributary/tributary/model/Time", "value", "()J"⟩ : MethodName)) (z := (⟨"com/example/tributary/tributary/model/Time", "value", "()J"⟩ : MethodName)) hown (mvT hZ (H 129 rfl)) (mvT hZ (H 90 rfl)) (notFace_of_selects (args := #[]) (mvT hZ (H 92 rfl))) (mvT hZ (H 92 rfl)) (mvT hZ (H 91 rfl)) (by decide) (backOf (W := 0) (rm15 l Z a0 hw [] tm78 ((own_num ((own_LN (own_B q0) v1)) (v1 + (2 : Int32)) v3)) h78 n0 sz78 A78_o0 F78_o1 F78_o0 ) hZ (H 93 rfl) (H 56 rfl) (by decide) (by decide)) q84a q84c (g := (mkF m 469 #[jv q0, s2, iv q1, iv q2, iv q3, iv q4, iv v1, iv v3, iv v5, iv (0 : Int32), iv v12, rv a14, rv a61, iv v1, iv v68, iv v70, rv a72, iv (1 : Int32), rv a78, rv a78, rv tm78] [(.ref tm78)])) rfl (by rw [hml]; rfl) (Steps.refl _) (argsL := []) (rest := []) (lenOf pd_32 rfl) rfl (by show 2 * 0 + _ ≤ _; exact Nat.le_of_eq rfl) (D at_469) (fun _ _ => ⟨rfl, e83, (by decide : 9 + 0 ≤ _), (by decide : 115 + 0 ≤ _)⟩)
    dsimp only [Pt.U, Pt.locs, Pt.cells, Pt.slots] at X84 l84 y84 z84 st84 hQ84
    replace y84 : k84 = 9 := y84
    replace z84 : n84 = 115 := z84
    replace l84 := l84.symm; replace y84 := y84.symm; replace z84 := z84.symm; subst l84 y84 z84
    obtain ⟨rfl, N84q, e84⟩ := hQ84
    have N84 := Fr.app N83 N84q
    obtain ⟨_, _, ⟨T85, L85, k85, n85⟩, -, X85, ⟨Lc85, hQ85, l85, y85, z85⟩, st85⟩ := Jvm.LawKit.callS X84 hx (y := (⟨"com/example/tributary/tributary/io/LineFormatBeginPinLaw", "num", "([BII)J"⟩ : MethodName)) hown (mvT hZ (H 94 rfl)) (mvT hZ (H 95 rfl)) (mvT hZ (H 3 rfl)) (mvT hZ (H 96 rfl)) (by decide) (backOf (W := 2) (rm16 l Z a0 hw [] a14 v68 v3 ((own_LN (own_B q0) v1)) h78 n0 sz78 V78_a14 (by rw [hv68]; exact FA.2.1)) hZ (H 96 rfl) (H 3 rfl) (by decide) (by decide)) (g := (mkF m 478 #[jv q0, s2, iv q1, iv q2, iv q3, iv q4, iv v1, iv v3, iv v5, iv (0 : Int32), iv v12, rv a14, rv a61, iv v1, iv v68, iv v70, rv a72, iv (1 : Int32), rv a78, rv a78, rv tm78] [(.int v3), (.int v68), (.ref a14), (.long (own_num ((own_LN (own_B q0) v1)) (v1 + (2 : Int32)) v3))])) rfl (by rw [hml]; rfl) (argsL := [(.ref a14), (.int v68), (.int v3)]) (rest := [(.long (own_num ((own_LN (own_B q0) v1)) (v1 + (2 : Int32)) v3))]) (lenOf pd_19 rfl) rfl (by show 2 * 0 + _ ≤ _; exact Nat.le_of_eq rfl) (D at_478) (fun _ _ => ⟨rfl, e84, (by decide : 9 + 0 ≤ _), (by decide : 115 + 0 ≤ _)⟩)
    dsimp only [Pt.U, Pt.locs, Pt.cells, Pt.slots] at X85 l85 y85 z85 st85 hQ85
    replace y85 : k85 = 9 := y85
    replace z85 : n85 = 115 := z85
    replace l85 := l85.symm; replace y85 := y85.symm; replace z85 := z85.symm; subst l85 y85 z85
    obtain ⟨rfl, N85q, e85⟩ := hQ85
    have N85 := Fr.app N84 N85q
    have c86 : (own_num ((own_LN (own_B q0) v1)) (v1 + (2 : Int32)) v3) = (own_num (own_LN (own_B q0) v1) v68 v3) := by rw [hv68]
    have pre87 : ∀ t, Steps p.tables e below (T85.setTop (mkF m 485 #[jv q0, s2, iv q1, iv q2, iv q3, iv q4, iv v1, iv v3, iv v5, iv (0 : Int32), iv v12, rv a14, rv a61, iv v1, iv v68, iv v70, rv a72, iv (1 : Int32), rv a78, rv a78, rv tm78] [])) t → Steps p.tables e below B0 t := by
      intro t k
      refine pre79 t ?_
      show Steps p.tables e below (T76.setTop (mkF m 430 #[jv q0, s2, iv q1, iv q2, iv q3, iv q4, iv v1, iv v3, iv v5, iv (0 : Int32), iv v12, rv a14, rv a61, iv v1, iv v68, iv v70, rv a72, iv (1 : Int32), u0, u0, u0] [.null, (.ref a72)])) _
      refine st78.trans ?_
      refine XS.astore X78.here hx rfl (D at_433) rfl rfl (l' := #[jv q0, s2, iv q1, iv q2, iv q3, iv q4, iv v1, iv v3, iv v5, iv (0 : Int32), iv v12, rv a14, rv a61, iv v1, iv v68, iv v70, rv a72, iv (1 : Int32), rv a78, u0, u0]) rfl ?_
      refine XS.aload X78.here hx rfl (D at_435) rfl rfl ?_
      refine st80 _ ?_
      show Steps p.tables e below (T80.setTop (mkF m 440 #[jv q0, s2, iv q1, iv q2, iv q3, iv q4, iv v1, iv v3, iv v5, iv (0 : Int32), iv v12, rv a14, rv a61, iv v1, iv v68, iv v70, rv a72, iv (1 : Int32), rv a78, u0, u0] [(.int (1 : Int32))])) _
      refine XS.ifYes X80.here hx rfl (pc0 := 440) (pc' := 445) rfl (D at_440) rfl (by decide) (by decide) (by decide) ?_
      refine XS.aload X80.here hx rfl (D at_445) rfl rfl ?_
      refine st81 _ ?_
      refine XS.astore X81.here hx rfl (D at_450) rfl rfl (l' := #[jv q0, s2, iv q1, iv q2, iv q3, iv q4, iv v1, iv v3, iv v5, iv (0 : Int32), iv v12, rv a14, rv a61, iv v1, iv v68, iv v70, rv a72, iv (1 : Int32), rv a78, rv a78, u0]) rfl ?_
      show Steps p.tables e below (T81.setTop (mkF m 452 #[jv q0, s2, iv q1, iv q2, iv q3, iv q4, iv v1, iv v3, iv v5, iv (0 : Int32), iv v12, rv a14, rv a61, iv v1, iv v68, iv v70, rv a72, iv (1 : Int32), rv a78, rv a78, u0] [])) _
      refine XS.aload X81.here hx rfl (D at_452) rfl rfl ?_
      refine st82.trans ?_
      refine XS.astore X82.here hx rfl (D at_457) rfl rfl (l' := #[jv q0, s2, iv q1, iv q2, iv q3, iv q4, iv v1, iv v3, iv v5, iv (0 : Int32), iv v12, rv a14, rv a61, iv v1, iv v68, iv v70, rv a72, iv (1 : Int32), rv a78, rv a78, rv tm78]) rfl ?_
      refine XS.aload X82.here hx rfl (D at_459) rfl rfl ?_
      refine st83.trans ?_
      show Steps p.tables e below (T83.setTop (mkF m 464 #[jv q0, s2, iv q1, iv q2, iv q3, iv q4, iv v1, iv v3, iv v5, iv (0 : Int32), iv v12, rv a14, rv a61, iv v1, iv v68, iv v70, rv a72, iv (1 : Int32), rv a78, rv a78, rv tm78] [(.int (0 : Int32))])) _
      refine XS.ifNo X83.here hx rfl (D at_464) rfl (by decide) ?_
      refine XS.aload X83.here hx rfl (D at_467) rfl rfl ?_
      refine st84.trans ?_
      refine XS.aload X84.here hx rfl (D at_472) rfl rfl ?_
      show Steps p.tables e below (T84.setTop (mkF m 474 #[jv q0, s2, iv q1, iv q2, iv q3, iv q4, iv v1, iv v3, iv v5, iv (0 : Int32), iv v12, rv a14, rv a61, iv v1, iv v68, iv v70, rv a72, iv (1 : Int32), rv a78, rv a78, rv tm78] [(.ref a14), (.long (own_num ((own_LN (own_B q0) v1)) (v1 + (2 : Int32)) v3))])) _
      refine XS.iload X84.here hx rfl (D at_474) rfl ?_
      refine XS.iload X84.here hx rfl (D at_476) rfl ?_
      refine st85 _ ?_
      refine XS.lcmp X85.here hx rfl (D at_481) rfl ?_
      show Steps p.tables e below (T85.setTop (mkF m 482 #[jv q0, s2, iv q1, iv q2, iv q3, iv q4, iv v1, iv v3, iv v5, iv (0 : Int32), iv v12, rv a14, rv a61, iv v1, iv v68, iv v70, rv a72, iv (1 : Int32), rv a78, rv a78, rv tm78] [(.int (lcmpW (own_num ((own_LN (own_B q0) v1)) (v1 + (2 : Int32)) v3) (own_num (own_LN (own_B q0) v1) v68 v3)))])) _
      refine XS.ifNo X85.here hx rfl (D at_482) rfl ((if0 _ _).trans (teq ((lw_eq (own_num ((own_LN (own_B q0) v1)) (v1 + (2 : Int32)) v3) (own_num (own_LN (own_B q0) v1) v68 v3)).mpr c86)).2) ?_
      exact k
    clear A75_o0 F75_o0 F75_o1 F75_o2 F75_o3 V75_a14 V75_a61 sz75 X76 e76 N76 pre79 X78 st78 N78q K78 e78 N78 X80 e80 st80 X81 e81 st81 X82 st82 N82q e82 N82 X83 st83 N83q e83 N83 X84 st84 N84q e84 N84 st85 N85q
    obtain ⟨fs, hr, hrun, hended, hEw⟩ := X85.leaveW S78 (Nat.le_trans kz78 (Nat.le_of_eq (congrArg Array.size e85.symm))) (v := some (.int (1 : Int32))) (fun h => by rw [Bd.returns] at h; cases h) hlk
    refine ⟨_, _, pre87 _ ?_, hrun, hended, _, _, rfl, ?_, hEw.1, hEw.2.1, hEw.2.2.1, hEw.2.2.2.mono (by decide) (by decide)⟩
    · show Steps p.tables e below (T85.setTop (mkF m 485 #[jv q0, s2, iv q1, iv q2, iv q3, iv q4, iv v1, iv v3, iv v5, iv (0 : Int32), iv v12, rv a14, rv a61, iv v1, iv v68, iv v70, rv a72, iv (1 : Int32), rv a78, rv a78, rv tm78] [])) _
      refine XS.iconst X85.here hx rfl (D at_485) ?_
      refine XS.goto X85.here hx rfl (pc0 := 486) (pc' := 490) rfl (D at_486) (by decide) (by decide) ?_
      show Steps p.tables e below (T85.setTop (mkF m 490 #[jv q0, s2, iv q1, iv q2, iv q3, iv q4, iv v1, iv v3, iv v5, iv (0 : Int32), iv v12, rv a14, rv a61, iv v1, iv v68, iv v70, rv a72, iv (1 : Int32), rv a78, rv a78, rv tm78] [(.int (1 : Int32))])) _
      exact retN X85 hx (t := .boolean) Bd.returns (by simp) (D at_490) hr
    · show Q0 Z q0 q1 q2 q3 q4 h0 n0 _ T85.heap _
      rw [e85]
      exact ⟨rfl, N85⟩
  · have in_275_89 : 0 ≤ (v1).toInt ∧ (v1).toInt < ((own_B q0).length : Nat) := (by (try simp only [List.length_set]); omega)
    obtain ⟨T88, h88, X88, e88, W88, V88, st88⟩ := own_bastoreB X61 hx hZ e61 V61_a14 (j := v1) in_275_89 (x := (64 : Int32)) (D at_275)
    have V88_a61 := V61_n.other W88 (Ne.symm ne_a14_a61)
    have sz88 := Nat.le_trans sz61 (Keep.of_wr W88).1
    have kz88 := Nat.le_trans kz61 (Keep.of_wr W88).1
    have N88 := Fr.snoc X88 N59 ge_a14
    have V88_n : own_AI Z h88 a14 .byte ((own_B q0).set (v1).toInt.toNat (64 : Int32)) := V88
    have in_287_91 : 0 ≤ (((v1 + v5) + (1 : Int32))).toInt ∧ (((v1 + v5) + (1 : Int32))).toInt < (((own_B q0).set (v1).toInt.toNat (64 : Int32)).length : Nat) := (by (try simp only [List.length_set]); omega)
    obtain ⟨T90, h90, X90, e90, W90, V90, st90⟩ := own_bastoreB X88 hx hZ e88 V88_n (j := ((v1 + v5) + (1 : Int32))) in_287_91 (x := (44 : Int32)) (D at_287)
    have V90_a61 := V88_a61.other W90 (Ne.symm ne_a14_a61)
    have sz90 := Nat.le_trans sz88 (Keep.of_wr W90).1
    have kz90 := Nat.le_trans kz88 (Keep.of_wr W90).1
    have N90 := Fr.snoc X90 N88 ge_a14
    have V90_n : own_AI Z h90 a14 .byte (((own_B q0).set (v1).toInt.toNat (64 : Int32)).set (((v1 + v5) + (1 : Int32))).toInt.toNat (44 : Int32)) := V90
    obtain ⟨v92, hv92⟩ : ∃ z : Int32, z = ((v1 + v5) + (2 : Int32)) := ⟨_, rfl⟩
    have pre93 : ∀ t, Steps p.tables e below (T90.setTop (mkF m 295 #[jv q0, s2, iv q1, iv q2, iv q3, iv q4, iv v1, iv v3, iv v5, iv (1 : Int32), iv v12, rv a14, rv a61, u0, u0, u0, u0, u0, u0, u0, u0] [(.int v92)])) t → Steps p.tables e below B0 t := by
      rw [hv92]
      intro t k
      refine pre62 t ?_
      show Steps p.tables e below (T61.setTop (mkF m 264 #[jv q0, s2, iv q1, iv q2, iv q3, iv q4, iv v1, iv v3, iv v5, iv (1 : Int32), iv v12, rv a14, rv a61, u0, u0, u0, u0, u0, u0, u0, u0] [])) _
      refine XS.iload X61.here hx rfl (D at_264) rfl ?_
      show Steps p.tables e below (T61.setTop (mkF m 266 #[jv q0, s2, iv q1, iv q2, iv q3, iv q4, iv v1, iv v3, iv v5, iv (1 : Int32), iv v12, rv a14, rv a61, u0, u0, u0, u0, u0, u0, u0, u0] [(.int (1 : Int32))])) _
      refine XS.ifNo X61.here hx rfl (D at_266) rfl (by decide) ?_
      refine XS.aload X61.here hx rfl (D at_269) rfl rfl ?_
      refine XS.iload X61.here hx rfl (D at_271) rfl ?_
      refine XS.bipush X61.here hx rfl (D at_273) ?_
      refine st88 _ ?_
      refine XS.aload X88.here hx rfl (D at_276) rfl rfl ?_
      refine XS.iload X88.here hx rfl (D at_278) rfl ?_
      show Steps p.tables e below (T88.setTop (mkF m 280 #[jv q0, s2, iv q1, iv q2, iv q3, iv q4, iv v1, iv v3, iv v5, iv (1 : Int32), iv v12, rv a14, rv a61, u0, u0, u0, u0, u0, u0, u0, u0] [(.int v1), (.ref a14)])) _
      refine XS.iload X88.here hx rfl (D at_280) rfl ?_
      refine XS.iadd X88.here hx rfl (D at_282) rfl ?_
      refine XS.iconst X88.here hx rfl (D at_283) ?_
      refine XS.iadd X88.here hx rfl (D at_284) rfl ?_
      refine XS.bipush X88.here hx rfl (D at_285) ?_
      refine st90 _ ?_
      refine XS.iload X90.here hx rfl (D at_288) rfl ?_
      refine XS.iload X90.here hx rfl (D at_290) rfl ?_
      show Steps p.tables e below (T90.setTop (mkF m 292 #[jv q0, s2, iv q1, iv q2, iv q3, iv q4, iv v1, iv v3, iv v5, iv (1 : Int32), iv v12, rv a14, rv a61, u0, u0, u0, u0, u0, u0, u0, u0] [(.int v5), (.int v1)])) _
      refine XS.iadd X90.here hx rfl (D at_292) rfl ?_
      refine XS.iconst X90.here hx rfl (D at_293) ?_
      refine XS.iadd X90.here hx rfl (D at_294) rfl ?_
      exact k
    have pp : v92.toInt = v1.toInt + v5.toInt + 2 := by rw [hv92]; exact own_s fa (by decide) (by omega)
    have pp1 : (v92 + (1 : Int32)).toInt = v92.toInt + 1 := own_s rfl (by decide) (by omega)
    have in_310_95 : 0 ≤ (v92).toInt ∧ (v92).toInt < ((((own_B q0).set (v1).toInt.toNat (64 : Int32)).set (((v1 + v5) + (1 : Int32))).toInt.toNat (44 : Int32)).length : Nat) := (by (try simp only [List.length_set]); omega)
    obtain ⟨T94, h94, X94, e94, W94, V94, st94⟩ := own_bastoreB X90 hx hZ e90 V90_n (j := v92) in_310_95 (x := (83 : Int32)) (D at_310)
    have V94_a61 := V90_a61.other W94 (Ne.symm ne_a14_a61)
    have sz94 := Nat.le_trans sz90 (Keep.of_wr W94).1
    have kz94 := Nat.le_trans kz90 (Keep.of_wr W94).1
    have N94 := Fr.snoc X94 N90 ge_a14
    have V94_n : own_AI Z h94 a14 .byte ((((own_B q0).set (v1).toInt.toNat (64 : Int32)).set (((v1 + v5) + (1 : Int32))).toInt.toNat (44 : Int32)).set (v92).toInt.toNat (83 : Int32)) := V94
    have in_319_97 : 0 ≤ ((v92 + (1 : Int32))).toInt ∧ ((v92 + (1 : Int32))).toInt < (((((own_B q0).set (v1).toInt.toNat (64 : Int32)).set (((v1 + v5) + (1 : Int32))).toInt.toNat (44 : Int32)).set (v92).toInt.toNat (83 : Int32)).length : Nat) := (by (try simp only [List.length_set]); omega)
    obtain ⟨T96, h96, X96, e96, W96, V96, st96⟩ := own_bastoreB X94 hx hZ e94 V94_n (j := (v92 + (1 : Int32))) in_319_97 (x := (44 : Int32)) (D at_319)
    have V96_a61 := V94_a61.other W96 (Ne.symm ne_a14_a61)
    have sz96 := Nat.le_trans sz94 (Keep.of_wr W96).1
    have kz96 := Nat.le_trans kz94 (Keep.of_wr W96).1
    have N96 := Fr.snoc X96 N94 ge_a14
    have V96_n : own_AI Z h96 a14 .byte (((((own_B q0).set (v1).toInt.toNat (64 : Int32)).set (((v1 + v5) + (1 : Int32))).toInt.toNat (44 : Int32)).set (v92).toInt.toNat (83 : Int32)).set ((v92 + (1 : Int32))).toInt.toNat (44 : Int32)) := V96
    have V98_a : own_AI Z h96 a14 .byte (own_LA (own_B q0) v1 v5 v92) := V96_n
    have FA := own_factA BB bf ba bk hv92
    have fl := FA.1
    obtain ⟨v99, hv99⟩ : ∃ z : Int32, z = (v92 + (2 : Int32)) := ⟨_, rfl⟩
    have pre100 : ∀ t, Steps p.tables e below (T96.setTop (mkF m 324 #[jv q0, s2, iv q1, iv q2, iv q3, iv q4, iv v1, iv v3, iv v5, iv (1 : Int32), iv v12, rv a14, rv a61, iv v92, u0, u0, u0, u0, u0, u0, u0] [(.int v99)])) t → Steps p.tables e below B0 t := by
      rw [hv99]
      intro t k
      refine pre93 t ?_
      show Steps p.tables e below (T90.setTop (mkF m 295 #[jv q0, s2, iv q1, iv q2, iv q3, iv q4, iv v1, iv v3, iv v5, iv (1 : Int32), iv v12, rv a14, rv a61, u0, u0, u0, u0, u0, u0, u0, u0] [(.int v92)])) _
      refine XS.istore X90.here hx rfl (D at_295) rfl (l' := #[jv q0, s2, iv q1, iv q2, iv q3, iv q4, iv v1, iv v3, iv v5, iv (1 : Int32), iv v12, rv a14, rv a61, iv v92, u0, u0, u0, u0, u0, u0, u0]) rfl ?_
      refine XS.goto X90.here hx rfl (pc0 := 297) (pc' := 304) rfl (D at_297) (by decide) (by decide) ?_
      refine XS.aload X90.here hx rfl (D at_304) rfl rfl ?_
      refine XS.iload X90.here hx rfl (D at_306) rfl ?_
      refine XS.bipush X90.here hx rfl (D at_308) ?_
      show Steps p.tables e below (T90.setTop (mkF m 310 #[jv q0, s2, iv q1, iv q2, iv q3, iv q4, iv v1, iv v3, iv v5, iv (1 : Int32), iv v12, rv a14, rv a61, iv v92, u0, u0, u0, u0, u0, u0, u0] [(.int (83 : Int32)), (.int v92), (.ref a14)])) _
      refine st94 _ ?_
      refine XS.aload X94.here hx rfl (D at_311) rfl rfl ?_
      refine XS.iload X94.here hx rfl (D at_313) rfl ?_
      refine XS.iconst X94.here hx rfl (D at_315) ?_
      refine XS.iadd X94.here hx rfl (D at_316) rfl ?_
      refine XS.bipush X94.here hx rfl (D at_317) ?_
      refine st96 _ ?_
      refine XS.iload X96.here hx rfl (D at_320) rfl ?_
      show Steps p.tables e below (T96.setTop (mkF m 322 #[jv q0, s2, iv q1, iv q2, iv q3, iv q4, iv v1, iv v3, iv v5, iv (1 : Int32), iv v12, rv a14, rv a61, iv v92, u0, u0, u0, u0, u0, u0, u0] [(.int v92)])) _
      refine XS.iconst X96.here hx rfl (D at_322) ?_
      refine XS.iadd X96.here hx rfl (D at_323) rfl ?_
      exact k
    obtain ⟨v101, hv101⟩ : ∃ z : Int32, z = (v99 + v3) := ⟨_, rfl⟩
    have pre102 : ∀ t, Steps p.tables e below (T96.setTop (mkF m 331 #[jv q0, s2, iv q1, iv q2, iv q3, iv q4, iv v1, iv v3, iv v5, iv (1 : Int32), iv v12, rv a14, rv a61, iv v92, iv v99, u0, u0, u0, u0, u0, u0] [(.int v101)])) t → Steps p.tables e below B0 t := by
      rw [hv101]
      intro t k
      refine pre100 t ?_
      show Steps p.tables e below (T96.setTop (mkF m 324 #[jv q0, s2, iv q1, iv q2, iv q3, iv q4, iv v1, iv v3, iv v5, iv (1 : Int32), iv v12, rv a14, rv a61, iv v92, u0, u0, u0, u0, u0, u0, u0] [(.int v99)])) _
      refine XS.istore X96.here hx rfl (D at_324) rfl (l' := #[jv q0, s2, iv q1, iv q2, iv q3, iv q4, iv v1, iv v3, iv v5, iv (1 : Int32), iv v12, rv a14, rv a61, iv v92, iv v99, u0, u0, u0, u0, u0, u0]) rfl ?_
      refine XS.iload X96.here hx rfl (D at_326) rfl ?_
      refine XS.iload X96.here hx rfl (D at_328) rfl ?_
      refine XS.iadd X96.here hx rfl (D at_330) rfl ?_
      exact k
    have t14 : v99.toInt = v92.toInt + 2 := by rw [hv99]; exact own_s rfl (by decide) (by omega)
    have t15 : v101.toInt = v99.toInt + v3.toInt := by rw [hv101]; exact own_s rfl rfl (by omega)
    obtain ⟨T103, h103, X103, e103, E103, A103, D103, -, st103⟩ := newO X96 hx hZ hown (H 7 rfl) (H 8 rfl) (H 9 rfl) e96 (g := (mkF m 333 #[jv q0, s2, iv q1, iv q2, iv q3, iv q4, iv v1, iv v3, iv v5, iv (1 : Int32), iv v12, rv a14, rv a61, iv v92, iv v99, iv v101, u0, u0, u0, u0, u0] [])) rfl (D at_333) (by decide) (by decide)
    obtain ⟨a103, g103⟩ : ∃ z, z = h96.size := ⟨_, rfl⟩
    rw [← g103] at A103 D103 st103
    have ne_a14_a103 : a14 ≠ a103 := g103 ▸ Nat.ne_of_lt V98_a.lt
    have ne_a61_a103 : a61 ≠ a103 := g103 ▸ Nat.ne_of_lt V96_a61.lt
    have ge_a103 : n0 ≤ a103 := g103 ▸ sz96
    have V103_a14 := V98_a.ext E103
    have V103_a61 := V96_a61.ext E103
    have sz103 := Nat.le_trans sz96 E103.1
    have kz103 := Nat.le_trans kz96 E103.1
    have F103_n0 : Fld Z h103 a103 "com/example/tributary/tributary/io/LineFormat" "line" "[B" .null := D103 (Or.inl (H 22 rfl)) (ty := (.array .byte)) (by decide)
    have F103_n1 : Fld Z h103 a103 "com/example/tributary/tributary/io/LineFormat" "lineStart" "I" (.int (0 : Int32)) := D103 (Or.inl (H 24 rfl)) (ty := .int) (by decide)
    have F103_n2 : Fld Z h103 a103 "com/example/tributary/tributary/io/LineFormat" "lineEnd" "I" (.int (0 : Int32)) := D103 (Or.inl (H 26 rfl)) (ty := .int) (by decide)
    have F103_n3 : Fld Z h103 a103 "com/example/tributary/tributary/io/LineFormat" "cursor" "I" (.int (0 : Int32)) := D103 (Or.inl (H 28 rfl)) (ty := .int) (by decide)
    obtain ⟨_, _, ⟨T104, L104, k104, n104⟩, -, X104, ⟨Lc104, hQ104, l104, y104, z104⟩, st104⟩ := X103.specialBack hx (y := (⟨"com/example/tributary/tributary/io/LineFormat", "<init>", "()V"⟩ : MethodName)) rfl hown (mvT hZ (H 10 rfl)) (mvT hZ (H 11 rfl)) (mvT hZ (H 12 rfl)) (by decide) (backOf (W := 1) (rm2 l Z a0 hw [] a103  h103 n0 sz103 ) hZ (H 12 rfl) (H 9 rfl) (by decide) (by decide)) (g := (mkF m 337 #[jv q0, s2, iv q1, iv q2, iv q3, iv q4, iv v1, iv v3, iv v5, iv (1 : Int32), iv v12, rv a14, rv a61, iv v92, iv v99, iv v101, u0, u0, u0, u0, u0] [(.ref a103), (.ref a103)])) rfl (by rw [hml]; rfl) (Steps.refl _) (a := a103) (argsL := []) (rest := [(.ref a103)]) (lenOf pd_38 rfl) rfl (by show 2 * 0 + _ ≤ _; exact Nat.le_of_eq rfl) (D at_337) (fun _ _ => ⟨rfl, e103, (by decide : 3 + 0 ≤ _), (by decide : 44 + 0 ≤ _)⟩)
    dsimp only [Pt.U, Pt.locs, Pt.cells, Pt.slots] at X104 l104 y104 z104 st104 hQ104
    replace y104 : k104 = 3 := y104
    replace z104 : n104 = 44 := z104
    replace l104 := l104.symm; replace y104 := y104.symm; replace z104 := z104.symm; subst l104 y104 z104
    obtain ⟨rfl, N104q, e104⟩ := hQ104
    have N104 := Fr.app N96 N104q
    obtain ⟨cq105, kq105, q105a, q105b, q105c⟩ := isOf hZ e104 A103
    obtain ⟨_, _, ⟨T105, L105, k105, n105⟩, -, X105, ⟨Lc105, hQ105, l105, y105, z105⟩, st105⟩ := X104.virtualBack hx (y := (⟨"com/example/tributary/tributary/io/LineFormat", "begin", "([BII)V"⟩ : MethodName)) (z := (⟨"com/example/tributary/tributary/io/LineFormat", "begin", "([BII)V"⟩ : MethodName)) hown (mvT hZ (H 16 rfl)) (mvT hZ (H 17 rfl)) (notFace_of_selects (args := #[]) (mvT hZ (H 19 rfl))) (mvT hZ (H 19 rfl)) (mvT hZ (H 18 rfl)) (by decide) (backOf (W := 0) (rm4_1 l Z a0 hw [] a103 a61 v12 (v12 + (1 : Int32)) ((0 : Int32)) ((0 : Int32)) ((0 : Int32)) h103 n0 sz103 A103 F103_n0 F103_n1 F103_n2 F103_n3 ge_a103 ) hZ (H 20 rfl) (H 9 rfl) (by decide) (by decide)) q105a q105c (g := (mkF m 352 #[jv q0, s2, iv q1, iv q2, iv q3, iv q4, iv v1, iv v3, iv v5, iv (1 : Int32), iv v12, rv a14, rv a61, iv v92, iv v99, iv v101, rv a103, u0, u0, u0, u0] [(.int (v12 + (1 : Int32))), (.int v12), (.ref a61), (.ref a103)])) rfl (by rw [hml]; rfl) (Steps.refl _) (argsL := [(.ref a61), (.int v12), (.int (v12 + (1 : Int32)))]) (rest := []) (lenOf pd_56 rfl) rfl (by show 2 * 0 + _ ≤ _; exact Nat.le_of_eq rfl) (D at_352) (fun _ _ => ⟨rfl, e104, (by decide : 3 + 0 ≤ _), (by decide : 44 + 0 ≤ _)⟩)
    dsimp only [Pt.U, Pt.locs, Pt.cells, Pt.slots] at X105 l105 y105 z105 st105 hQ105
    replace y105 : k105 = 3 := y105
    replace z105 : n105 = 44 := z105
    replace l105 := l105.symm; replace y105 := y105.symm; replace z105 := z105.symm; subst l105 y105 z105
    obtain ⟨rfl, N105q, K105, A105_o0, F105_o0, F105_o1, F105_o2, F105_o3⟩ := hQ105
    obtain ⟨h105, e105⟩ : ∃ z, T105.heap = z := ⟨_, rfl⟩
    rw [e105] at K105 A105_o0 F105_o0 F105_o1 F105_o2 F105_o3
    have V105_a14 := V103_a14.keep K105 (ninS ne_a14_a103 nin0)
    have V105_a61 := V103_a61.keep K105 (ninS ne_a61_a103 nin0)
    have A105_a103 := A103.keep K105
    have sz105 : n0 ≤ h105.size := Nat.le_trans sz103 K105.1
    have kz105 := Nat.le_trans kz103 K105.1
    have N105 := Fr.app N104 N105q
    obtain ⟨cq106, kq106, q106a, q106b, q106c⟩ := isOf hZ e105 A105_o0
    obtain ⟨_, _, ⟨T106, L106, k106, n106⟩, -, X106, ⟨Lc106, hQ106, l106, y106, z106⟩, st106⟩ := X105.virtualBack hx (y := (⟨"com/example/tributary/tributary/io/LineFormat", "begin", "([BII)V"⟩ : MethodName)) (z := (⟨"com/example/tributary/tributary/io/LineFormat", "begin", "([BII)V"⟩ : MethodName)) hown (mvT hZ (H 16 rfl)) (mvT hZ (H 17 rfl)) (notFace_of_selects (args := #[]) (mvT hZ (H 19 rfl))) (mvT hZ (H 19 rfl)) (mvT hZ (H 18 rfl)) (by decide) (backOf (W := 0) (rm4_2 l Z a0 hw [] a103 a14 v1 v101 a61 v12 ((v12 + (1 : Int32))) v12 h105 n0 sz105 A105_o0 F105_o0 F105_o1 F105_o2 F105_o3 ge_a103 ) hZ (H 20 rfl) (H 9 rfl) (by decide) (by decide)) q106a q106c (g := (mkF m 363 #[jv q0, s2, iv q1, iv q2, iv q3, iv q4, iv v1, iv v3, iv v5, iv (1 : Int32), iv v12, rv a14, rv a61, iv v92, iv v99, iv v101, rv a103, u0, u0, u0, u0] [(.int v101), (.int v1), (.ref a14), (.ref a103)])) rfl (by rw [hml]; rfl) (Steps.refl _) (argsL := [(.ref a14), (.int v1), (.int v101)]) (rest := []) (lenOf pd_56 rfl) rfl (by show 2 * 0 + _ ≤ _; exact Nat.le_of_eq rfl) (D at_363) (fun _ _ => ⟨rfl, e105, (by decide : 3 + 0 ≤ _), (by decide : 44 + 0 ≤ _)⟩)
    dsimp only [Pt.U, Pt.locs, Pt.cells, Pt.slots] at X106 l106 y106 z106 st106 hQ106
    replace y106 : k106 = 3 := y106
    replace z106 : n106 = 44 := z106
    replace l106 := l106.symm; replace y106 := y106.symm; replace z106 := z106.symm; subst l106 y106 z106
    obtain ⟨rfl, N106q, K106, A106_o0, F106_o0, F106_o1, F106_o2, F106_o3⟩ := hQ106
    obtain ⟨h106, e106⟩ : ∃ z, T106.heap = z := ⟨_, rfl⟩
    rw [e106] at K106 A106_o0 F106_o0 F106_o1 F106_o2 F106_o3
    have V106_a14 := V105_a14.keep K106 (ninS ne_a14_a103 nin0)
    have V106_a61 := V105_a61.keep K106 (ninS ne_a61_a103 nin0)
    have A106_a103 := A105_o0.keep K106
    have sz106 : n0 ≤ h106.size := Nat.le_trans sz105 K106.1
    have kz106 := Nat.le_trans kz105 K106.1
    have N106 := Fr.app N105 N106q
    obtain ⟨cq107, kq107, q107a, q107b, q107c⟩ := isOf hZ e106 A106_o0
    obtain ⟨_, _, ⟨T107, L107, k107, n107⟩, -, X107, ⟨Lc107, hQ107, l107, y107, z107⟩, st107⟩ := X106.virtualBack hx (y := (⟨"com/example/tributary/tributary/io/LineFormat", "hasArrival", "()Z"⟩ : MethodName)) (z := (⟨"com/example/tributary/tributary/io/LineFormat", "hasArrival", "()Z"⟩ : MethodName)) hown (mvT hZ (H 29 rfl)) (mvT hZ (H 30 rfl)) (notFace_of_selects (args := #[]) (mvT hZ (H 32 rfl))) (mvT hZ (H 32 rfl)) (mvT hZ (H 31 rfl)) (by decide) (backOf (W := 0) (rm5_y l Z a0 hw [] a103 a14 ((own_LA (own_B q0) v1 v5 v92)) v1 h106 n0 sz106 V106_a14 A106_o0 F106_o0 F106_o1 (by omega) FA.2.2.2.2.2.1) hZ (H 33 rfl) (H 9 rfl) (by decide) (by decide)) q107a q107c (g := (mkF m 368 #[jv q0, s2, iv q1, iv q2, iv q3, iv q4, iv v1, iv v3, iv v5, iv (1 : Int32), iv v12, rv a14, rv a61, iv v92, iv v99, iv v101, rv a103, u0, u0, u0, u0] [(.ref a103)])) rfl (by rw [hml]; rfl) (Steps.refl _) (argsL := []) (rest := []) (lenOf pd_24 rfl) rfl (by show 2 * 0 + _ ≤ _; exact Nat.le_of_eq rfl) (D at_368) (fun _ _ => ⟨rfl, e106, (by decide : 3 + 0 ≤ _), (by decide : 44 + 0 ≤ _)⟩)
    dsimp only [Pt.U, Pt.locs, Pt.cells, Pt.slots] at X107 l107 y107 z107 st107 hQ107
    replace y107 : k107 = 3 := y107
    replace z107 : n107 = 44 := z107
    replace l107 := l107.symm; replace y107 := y107.symm; replace z107 := z107.symm; subst l107 y107 z107
    obtain ⟨rfl, N107q, e107⟩ := hQ107
    have N107 := Fr.app N106 N107q
    have pre108 : ∀ t, Steps p.tables e below (T107.setTop (mkF m 377 #[jv q0, s2, iv q1, iv q2, iv q3, iv q4, iv v1, iv v3, iv v5, iv (1 : Int32), iv v12, rv a14, rv a61, iv v92, iv v99, iv v101, rv a103, u0, u0, u0, u0] [(.int (1 : Int32))])) t → Steps p.tables e below B0 t := by
      intro t k
      refine pre102 t ?_
      show Steps p.tables e below (T96.setTop (mkF m 331 #[jv q0, s2, iv q1, iv q2, iv q3, iv q4, iv v1, iv v3, iv v5, iv (1 : Int32), iv v12, rv a14, rv a61, iv v92, iv v99, u0, u0, u0, u0, u0, u0] [(.int v101)])) _
      refine XS.istore X96.here hx rfl (D at_331) rfl (l' := #[jv q0, s2, iv q1, iv q2, iv q3, iv q4, iv v1, iv v3, iv v5, iv (1 : Int32), iv v12, rv a14, rv a61, iv v92, iv v99, iv v101, u0, u0, u0, u0, u0]) rfl ?_
      refine st103 _ ?_
      show Steps p.tables e below (T103.setTop (mkF m 336 #[jv q0, s2, iv q1, iv q2, iv q3, iv q4, iv v1, iv v3, iv v5, iv (1 : Int32), iv v12, rv a14, rv a61, iv v92, iv v99, iv v101, u0, u0, u0, u0, u0] [(.ref a103)])) _
      refine XS.dup X103.here hx rfl (D at_336) rfl rfl ?_
      refine st104.trans ?_
      refine XS.astore X104.here hx rfl (D at_340) rfl rfl (l' := #[jv q0, s2, iv q1, iv q2, iv q3, iv q4, iv v1, iv v3, iv v5, iv (1 : Int32), iv v12, rv a14, rv a61, iv v92, iv v99, iv v101, rv a103, u0, u0, u0, u0]) rfl ?_
      refine XS.aload X104.here hx rfl (D at_342) rfl rfl ?_
      refine XS.aload X104.here hx rfl (D at_344) rfl rfl ?_
      refine XS.iload X104.here hx rfl (D at_346) rfl ?_
      refine XS.iload X104.here hx rfl (D at_348) rfl ?_
      refine XS.iconst X104.here hx rfl (D at_350) ?_
      show Steps p.tables e below (T104.setTop (mkF m 351 #[jv q0, s2, iv q1, iv q2, iv q3, iv q4, iv v1, iv v3, iv v5, iv (1 : Int32), iv v12, rv a14, rv a61, iv v92, iv v99, iv v101, rv a103, u0, u0, u0, u0] [(.int (1 : Int32)), (.int v12), (.int v12), (.ref a61), (.ref a103)])) _
      refine XS.iadd X104.here hx rfl (D at_351) rfl ?_
      refine st105.trans ?_
      refine XS.aload X105.here hx rfl (D at_355) rfl rfl ?_
      refine XS.aload X105.here hx rfl (D at_357) rfl rfl ?_
      refine XS.iload X105.here hx rfl (D at_359) rfl ?_
      refine XS.iload X105.here hx rfl (D at_361) rfl ?_
      refine st106.trans ?_
      refine XS.aload X106.here hx rfl (D at_366) rfl rfl ?_
      show Steps p.tables e below (T106.setTop (mkF m 368 #[jv q0, s2, iv q1, iv q2, iv q3, iv q4, iv v1, iv v3, iv v5, iv (1 : Int32), iv v12, rv a14, rv a61, iv v92, iv v99, iv v101, rv a103, u0, u0, u0, u0] [(.ref a103)])) _
      refine st107.trans ?_
      refine XS.iload X107.here hx rfl (D at_371) rfl ?_
      show Steps p.tables e below (T107.setTop (mkF m 373 #[jv q0, s2, iv q1, iv q2, iv q3, iv q4, iv v1, iv v3, iv v5, iv (1 : Int32), iv v12, rv a14, rv a61, iv v92, iv v99, iv v101, rv a103, u0, u0, u0, u0] [(.int (1 : Int32)), (.int (1 : Int32))])) _
      refine XS.icmpNo X107.here hx rfl (D at_373) rfl (by decide) ?_
      refine XS.iconst X107.here hx rfl (D at_376) ?_
      exact k
    clear N59 X61 e61 V61_a14 sz61 V61_n pre62 X88 e88 W88 V88 st88 V88_a61 sz88 N88 V88_n X90 e90 W90 V90 st90 V90_a61 sz90 N90 V90_n pre93 X94 e94 W94 V94 st94 V94_a61 sz94 N94 V94_n X96 e96 W96 V96 st96 V96_a61 sz96 N96 V96_n V98_a pre100 pre102 X103 e103 E103 A103 D103 st103 V103_a14 V103_a61 sz103 F103_n0 F103_n1 F103_n2 F103_n3 X104 st104 N104q e104 N104 X105 st105 N105q K105 A105_o0 F105_o0 F105_o1 F105_o2 F105_o3 e105 V105_a14 V105_a61 A105_a103 sz105 N105 X106 st106 N106q K106 e106 A106_a103 N106 st107 N107q
    have pre110 : ∀ t, Steps p.tables e below (T107.setTop (mkF m 395 #[jv q0, s2, iv q1, iv q2, iv q3, iv q4, iv v1, iv v3, iv v5, iv (1 : Int32), iv v12, rv a14, rv a61, iv v92, iv v99, iv v101, rv a103, iv (1 : Int32), u0, u0, u0] [(.ref a103)])) t → Steps p.tables e below B0 t := by
      intro t k
      refine pre108 t ?_
      show Steps p.tables e below (T107.setTop (mkF m 377 #[jv q0, s2, iv q1, iv q2, iv q3, iv q4, iv v1, iv v3, iv v5, iv (1 : Int32), iv v12, rv a14, rv a61, iv v92, iv v99, iv v101, rv a103, u0, u0, u0, u0] [(.int (1 : Int32))])) _
      refine XS.goto X107.here hx rfl (pc0 := 377) (pc' := 381) rfl (D at_377) (by decide) (by decide) ?_
      refine XS.istore X107.here hx rfl (D at_381) rfl (l' := #[jv q0, s2, iv q1, iv q2, iv q3, iv q4, iv v1, iv v3, iv v5, iv (1 : Int32), iv v12, rv a14, rv a61, iv v92, iv v99, iv v101, rv a103, iv (1 : Int32), u0, u0, u0]) rfl ?_
      refine XS.iload X107.here hx rfl (D at_383) rfl ?_
      show Steps p.tables e below (T107.setTop (mkF m 385 #[jv q0, s2, iv q1, iv q2, iv q3, iv q4, iv v1, iv v3, iv v5, iv (1 : Int32), iv v12, rv a14, rv a61, iv v92, iv v99, iv v101, rv a103, iv (1 : Int32), u0, u0, u0] [(.int (1 : Int32))])) _
      refine XS.ifNo X107.here hx rfl (D at_385) rfl (by decide) ?_
      refine XS.iload X107.here hx rfl (D at_388) rfl ?_
      show Steps p.tables e below (T107.setTop (mkF m 390 #[jv q0, s2, iv q1, iv q2, iv q3, iv q4, iv v1, iv v3, iv v5, iv (1 : Int32), iv v12, rv a14, rv a61, iv v92, iv v99, iv v101, rv a103, iv (1 : Int32), u0, u0, u0] [(.int (1 : Int32))])) _
      refine XS.ifNo X107.here hx rfl (D at_390) rfl (by decide) ?_
      refine XS.aload X107.here hx rfl (D at_393) rfl rfl ?_
      exact k
    clear pre108
    obtain ⟨cq109, kq109, q109a, q109b, q109c⟩ := isOf hZ e107 A106_o0
    obtain ⟨_, _, ⟨T109, L109, k109, n109⟩, -, X109, S109', kg109, ⟨Lc109, hQ109, l109, y109, z109⟩, st109⟩ := X107.virtualBackS hx (y := (⟨"com/example/tributary/tributary/io/LineFormat", "arrival", "()J"⟩ : MethodName)) (z := (⟨"com/example/tributary/tributary/io/LineFormat", "arrival", "()J"⟩ : MethodName)) hown (mvT hZ (H 34 rfl)) (mvT hZ (H 35 rfl)) (notFace_of_selects (args := #[]) (mvT hZ (H 37 rfl))) (mvT hZ (H 37 rfl)) (mvT hZ (H 36 rfl)) (by decide) (backOfS (W := 0) (rm6 l Z a0 hw [] a103 a14 ((own_LA (own_B q0) v1 v5 v92)) v1 v101 v1 v5 h106 n0 sz106 V106_a14 A106_o0 F106_o0 F106_o1 F106_o2 F106_o3 ge_a103 ne_a14_a103 FA.2.2.2.2.1 (by omega) (by omega) FA.2.2.2.2.2.2.1) hZ (H 38 rfl) (H 9 rfl) (by decide) (by decide)) q109a q109c (g := (mkF m 395 #[jv q0, s2, iv q1, iv q2, iv q3, iv q4, iv v1, iv v3, iv v5, iv (1 : Int32), iv v12, rv a14, rv a61, iv v92, iv v99, iv v101, rv a103, iv (1 : Int32), u0, u0, u0] [(.ref a103)])) rfl (by rw [hml]; rfl) (Steps.refl _) (argsL := []) (rest := []) (lenOf pd_32 rfl) rfl (by show 2 * 0 + _ ≤ _; exact Nat.le_of_eq rfl) (D at_395) (fun _ _ => ⟨rfl, e107, (by decide : 3 + 3 ≤ _), (by decide : 44 + 54 ≤ _)⟩)
    dsimp only [Pt.U, Pt.locs, Pt.cells, Pt.slots] at X109 l109 y109 z109 st109 hQ109 S109' kg109
    obtain ⟨X109, S109, hZ, hown⟩ := rebS S0 (Nat.le_trans kz106 (Nat.le_of_eq (congrArg Array.size e107.symm))) X109 S109' kg109 hZ hown
    replace y109 : k109 = 6 := y109
    replace z109 : n109 = 98 := z109
    replace l109 := l109.symm; replace y109 := y109.symm; replace z109 := z109.symm; subst l109 y109 z109
    obtain ⟨rfl, N109q, K109, A109_o0, F109_o0, F109_o1, F109_o2⟩ := hQ109
    obtain ⟨h109, e109⟩ : ∃ z, T109.heap = z := ⟨_, rfl⟩
    rw [e109] at K109 A109_o0 F109_o0 F109_o1 F109_o2
    have kz109 : T109.heap.size ≤ h109.size := by rw [e109]; exact Nat.le_refl _
    have V109_a14 := V106_a14.keep K109 (ninS ne_a14_a103 nin0)
    have V109_a61 := V106_a61.keep K109 (ninS ne_a61_a103 nin0)
    have A109_a103 := A106_o0.keep K109
    have sz109 : n0 ≤ h109.size := Nat.le_trans sz106 K109.1
    have N109 := Fr.app N107 N109q
    obtain ⟨_, _, ⟨T111, L111, k111, n111⟩, -, X111, ⟨Lc111, hQ111, l111, y111, z111⟩, st111⟩ := Jvm.LawKit.callS X109 hx (y := (⟨"com/example/tributary/tributary/io/LineFormatBeginPinLaw", "num", "([BII)J"⟩ : MethodName)) hown (mvT hZ (H 94 rfl)) (mvT hZ (H 95 rfl)) (mvT hZ (H 3 rfl)) (mvT hZ (H 96 rfl)) (by decide) (backOf (W := 2) (rm16 l Z a0 hw [] a14 (v1 + (1 : Int32)) v5 ((own_LA (own_B q0) v1 v5 v92)) h109 n0 sz109 V109_a14 FA.2.2.2.2.1) hZ (H 96 rfl) (H 3 rfl) (by decide) (by decide)) (g := (mkF m 406 #[jv q0, s2, iv q1, iv q2, iv q3, iv q4, iv v1, iv v3, iv v5, iv (1 : Int32), iv v12, rv a14, rv a61, iv v92, iv v99, iv v101, rv a103, iv (1 : Int32), u0, u0, u0] [(.int v5), (.int (v1 + (1 : Int32))), (.ref a14), (.long (own_num (own_LA (own_B q0) v1 v5 v92) (v1 + (1 : Int32)) v5))])) rfl (by rw [hml]; rfl) (argsL := [(.ref a14), (.int (v1 + (1 : Int32))), (.int v5)]) (rest := [(.long (own_num (own_LA (own_B q0) v1 v5 v92) (v1 + (1 : Int32)) v5))]) (lenOf pd_19 rfl) rfl (by show 2 * 0 + _ ≤ _; exact Nat.le_of_eq rfl) (D at_406) (fun _ _ => ⟨rfl, e109, (by decide : 6 + 0 ≤ _), (by decide : 98 + 0 ≤ _)⟩)
    dsimp only [Pt.U, Pt.locs, Pt.cells, Pt.slots] at X111 l111 y111 z111 st111 hQ111
    replace y111 : k111 = 6 := y111
    replace z111 : n111 = 98 := z111
    replace l111 := l111.symm; replace y111 := y111.symm; replace z111 := z111.symm; subst l111 y111 z111
    obtain ⟨rfl, N111q, e111⟩ := hQ111
    have N111 := Fr.app N109 N111q
    have c112 : (own_num (own_LA (own_B q0) v1 v5 v92) (v1 + (1 : Int32)) v5) = (own_num (own_LA (own_B q0) v1 v5 v92) (v1 + (1 : Int32)) v5) := rfl
    have F113_c : Fld Z h109 a103 "com/example/tributary/tributary/io/LineFormat" "cursor" "I" (.int v92) := by rw [FA.2.2.2.2.2.2.2.1]; exact F109_o2
    have pre115 : ∀ t, Steps p.tables e below (T111.setTop (mkF m 430 #[jv q0, s2, iv q1, iv q2, iv q3, iv q4, iv v1, iv v3, iv v5, iv (1 : Int32), iv v12, rv a14, rv a61, iv v92, iv v99, iv v101, rv a103, iv (1 : Int32), u0, u0, u0] [.null, (.ref a103)])) t → Steps p.tables e below B0 t := by
      intro t k
      refine pre110 t ?_
      show Steps p.tables e below (T107.setTop (mkF m 395 #[jv q0, s2, iv q1, iv q2, iv q3, iv q4, iv v1, iv v3, iv v5, iv (1 : Int32), iv v12, rv a14, rv a61, iv v92, iv v99, iv v101, rv a103, iv (1 : Int32), u0, u0, u0] [(.ref a103)])) _
      refine st109.trans ?_
      refine XS.aload X109.here hx rfl (D at_398) rfl rfl ?_
      refine XS.iload X109.here hx rfl (D at_400) rfl ?_
      refine XS.iconst X109.here hx rfl (D at_402) ?_
      refine XS.iadd X109.here hx rfl (D at_403) rfl ?_
      refine XS.iload X109.here hx rfl (D at_404) rfl ?_
      refine st111 _ ?_
      refine XS.lcmp X111.here hx rfl (D at_409) rfl ?_
      show Steps p.tables e below (T111.setTop (mkF m 410 #[jv q0, s2, iv q1, iv q2, iv q3, iv q4, iv v1, iv v3, iv v5, iv (1 : Int32), iv v12, rv a14, rv a61, iv v92, iv v99, iv v101, rv a103, iv (1 : Int32), u0, u0, u0] [(.int (lcmpW (own_num (own_LA (own_B q0) v1 v5 v92) (v1 + (1 : Int32)) v5) (own_num (own_LA (own_B q0) v1 v5 v92) (v1 + (1 : Int32)) v5)))])) _
      refine XS.ifNo X111.here hx rfl (D at_410) rfl ((if0 _ _).trans (teq ((lw_eq (own_num (own_LA (own_B q0) v1 v5 v92) (v1 + (1 : Int32)) v5) (own_num (own_LA (own_B q0) v1 v5 v92) (v1 + (1 : Int32)) v5)).mpr c112)).2) ?_
      show Steps p.tables e below (T111.setTop (mkF m 413 #[jv q0, s2, iv q1, iv q2, iv q3, iv q4, iv v1, iv v3, iv v5, iv (1 : Int32), iv v12, rv a14, rv a61, iv v92, iv v99, iv v101, rv a103, iv (1 : Int32), u0, u0, u0] [])) _
      refine XS.iconst X111.here hx rfl (D at_413) ?_
      refine XS.goto X111.here hx rfl (pc0 := 414) (pc' := 418) rfl (D at_414) (by decide) (by decide) ?_
      refine XS.istore X111.here hx rfl (D at_418) rfl (l' := #[jv q0, s2, iv q1, iv q2, iv q3, iv q4, iv v1, iv v3, iv v5, iv (1 : Int32), iv v12, rv a14, rv a61, iv v92, iv v99, iv v101, rv a103, iv (1 : Int32), u0, u0, u0]) rfl ?_
      refine XS.iload X111.here hx rfl (D at_420) rfl ?_
      show Steps p.tables e below (T111.setTop (mkF m 422 #[jv q0, s2, iv q1, iv q2, iv q3, iv q4, iv v1, iv v3, iv v5, iv (1 : Int32), iv v12, rv a14, rv a61, iv v92, iv v99, iv v101, rv a103, iv (1 : Int32), u0, u0, u0] [(.int (1 : Int32))])) _
      refine XS.ifYes X111.here hx rfl (pc0 := 422) (pc' := 427) rfl (D at_422) rfl (by decide) (by decide) (by decide) ?_
      refine XS.aload X111.here hx rfl (D at_427) rfl rfl ?_
      refine XS.aconstNull X111.here hx rfl (D at_429) ?_
      exact k
    clear A106_o0 F106_o0 F106_o1 F106_o2 F106_o3 V106_a14 V106_a61 sz106 X107 e107 N107 pre110 X109 st109 N109q K109 F109_o2 e109 A109_a103 N109 st111 N111q
    obtain ⟨cq114, kq114, q114a, q114b, q114c⟩ := isOf hZ e111 A109_o0
    obtain ⟨_, _, ⟨T114, L114, k114, n114⟩, -, X114, S114', kg114, ⟨Lc114, hQ114, l114, y114, z114⟩, st114⟩ := X111.virtualBackS hx (y := (⟨"com/example/tributary/tributary/io/LineFormat", "element", "(Lcom/example/tributary/tributary/model/HeldPayloads;)Lcom/example/tributary/tributary/model/Element;"⟩ : MethodName)) (z := (⟨"com/example/tributary/tributary/io/LineFormat", "element", "(Lcom/example/tributary/tributary/model/HeldPayloads;)Lcom/example/tributary/tributary/model/Element;"⟩ : MethodName)) hown (mvT hZ (H 97 rfl)) (mvT hZ (H 98 rfl)) (notFace_of_selects (args := #[]) (mvT hZ (H 100 rfl))) (mvT hZ (H 100 rfl)) (mvT hZ (H 99 rfl)) (by decide) (backOfS (W := 0) (rm17 l Z a0 hw [] a103 a14 ((own_LA (own_B q0) v1 v5 v92)) v101 v92 v3 h109 n0 sz109 V109_a14 A109_o0 F109_o0 F109_o1 F113_c ge_a103 ne_a14_a103 FA.2.1 (by rw [hv101, hv99]) (by omega) FA.2.2.1 FA.2.2.2.1) hZ (H 101 rfl) (H 9 rfl) (by decide) (by decide)) q114a q114c (g := (mkF m 430 #[jv q0, s2, iv q1, iv q2, iv q3, iv q4, iv v1, iv v3, iv v5, iv (1 : Int32), iv v12, rv a14, rv a61, iv v92, iv v99, iv v101, rv a103, iv (1 : Int32), u0, u0, u0] [.null, (.ref a103)])) rfl (by rw [hml]; rfl) (Steps.refl _) (argsL := [.null]) (rest := []) (lenOf pd_57 rfl) rfl (by show 2 * 0 + _ ≤ _; exact Nat.le_of_eq rfl) (D at_430) (fun _ _ => ⟨rfl, e111, (by decide : 6 + 6 ≤ _), (by decide : 98 + 71 ≤ _)⟩)
    dsimp only [Pt.U, Pt.locs, Pt.cells, Pt.slots] at X114 l114 y114 z114 st114 hQ114 S114' kg114
    obtain ⟨X114, S114, hZ, hown⟩ := rebS S109 (Nat.le_trans kz109 (Nat.le_of_eq (congrArg Array.size e111.symm))) X114 S114' kg114 hZ hown
    replace y114 : k114 = 12 := y114
    replace z114 : n114 = 169 := z114
    replace l114 := l114.symm; replace y114 := y114.symm; replace z114 := z114.symm; subst l114 y114 z114
    obtain ⟨rfl, N114q, tm114, go_tm114, -, K114, A114_o0, F114_o0, F114_o1, R114, R114_0⟩ := hQ114
    obtain ⟨h114, e114⟩ : ∃ z, T114.heap = z := ⟨_, rfl⟩
    rw [e114] at K114 A114_o0 F114_o0 F114_o1 R114 R114_0
    obtain ⟨a114, g114⟩ : ∃ z, z = h109.size := ⟨_, rfl⟩
    rw [← g114] at R114 R114_0 st114
    have ne_a14_a114 : a14 ≠ a114 := g114 ▸ Nat.ne_of_lt V109_a14.lt
    have ne_a61_a114 : a61 ≠ a114 := g114 ▸ Nat.ne_of_lt V109_a61.lt
    have ne_a103_a114 : a103 ≠ a114 := g114 ▸ Nat.ne_of_lt A109_o0.lt
    have ge_a114 : n0 ≤ a114 := g114 ▸ sz109
    have ne_a14_tm114 : a14 ≠ tm114 := Nat.ne_of_lt (Nat.lt_of_lt_of_le V109_a14.lt go_tm114)
    have ne_a61_tm114 : a61 ≠ tm114 := Nat.ne_of_lt (Nat.lt_of_lt_of_le V109_a61.lt go_tm114)
    have ne_a103_tm114 : a103 ≠ tm114 := Nat.ne_of_lt (Nat.lt_of_lt_of_le A109_o0.lt go_tm114)
    have ge_tm114 : n0 ≤ tm114 := Nat.le_trans sz109 go_tm114
    have kz114 : T114.heap.size ≤ h114.size := by rw [e114]; exact Nat.le_refl _
    have V114_a14 := V109_a14.keep K114 (ninS ne_a14_a103 nin0)
    have V114_a61 := V109_a61.keep K114 (ninS ne_a61_a103 nin0)
    have A114_a103 := A109_o0.keep K114
    have sz114 : n0 ≤ h114.size := Nat.le_trans sz109 K114.1
    have N114 := Fr.app N111 N114q
    obtain ⟨T116, X116, e116, st116⟩ := instY X114 hx hZ hown (H 121 rfl) e114 (Ins.self R114) (g := (mkF m 437 #[jv q0, s2, iv q1, iv q2, iv q3, iv q4, iv v1, iv v3, iv v5, iv (1 : Int32), iv v12, rv a14, rv a61, iv v92, iv v99, iv v101, rv a103, iv (1 : Int32), rv a114, u0, u0] [(.ref a114)])) rfl rfl (D at_437)
    obtain ⟨T117, X117, e117, st117⟩ := castY X116 hx hZ hown (H 121 rfl) e116 (Ins.self R114) (g := (mkF m 447 #[jv q0, s2, iv q1, iv q2, iv q3, iv q4, iv v1, iv v3, iv v5, iv (1 : Int32), iv v12, rv a14, rv a61, iv v92, iv v99, iv v101, rv a103, iv (1 : Int32), rv a114, u0, u0] [(.ref a114)])) rfl rfl (D at_447)
    obtain ⟨cq118, kq118, q118a, q118b, q118c⟩ := isOf hZ e117 R114
    obtain ⟨_, _, ⟨T118, L118, k118, n118⟩, -, X118, ⟨Lc118, hQ118, l118, y118, z118⟩, st118⟩ := X117.virtualBack hx (y := (⟨"com/example/tributary/tributary/model/Stable", "time", "()Lcom/example/tributary/tributary/model/Time;"⟩ : MethodName)) (z := (⟨"com/example/tributary/tributary/model/Stable", "time", "()Lcom/example/tributary/tributary/model/Time;"⟩ : MethodName)) hown (mvT hZ (H 123 rfl)) (mvT hZ (H 124 rfl)) (notFace_of_selects (args := #[]) (mvT hZ (H 126 rfl))) (mvT hZ (H 126 rfl)) (mvT hZ (H 125 rfl)) (by decide) (backOf (W := 0) (rm21 l Z a0 hw [] a114 tm114 h114 n0 sz114 R114 R114_0 ) hZ (H 127 rfl) (H 104 rfl) (by decide) (by decide)) q118a q118c (g := (mkF m 454 #[jv q0, s2, iv q1, iv q2, iv q3, iv q4, iv v1, iv v3, iv v5, iv (1 : Int32), iv v12, rv a14, rv a61, iv v92, iv v99, iv v101, rv a103, iv (1 : Int32), rv a114, rv a114, u0] [(.ref a114)])) rfl (by rw [hml]; rfl) (Steps.refl _) (argsL := []) (rest := []) (lenOf pd_58 rfl) rfl (by show 2 * 0 + _ ≤ _; exact Nat.le_of_eq rfl) (D at_454) (fun _ _ => ⟨rfl, e117, (by decide : 12 + 0 ≤ _), (by decide : 169 + 0 ≤ _)⟩)
    dsimp only [Pt.U, Pt.locs, Pt.cells, Pt.slots] at X118 l118 y118 z118 st118 hQ118
    replace y118 : k118 = 12 := y118
    replace z118 : n118 = 169 := z118
    replace l118 := l118.symm; replace y118 := y118.symm; replace z118 := z118.symm; subst l118 y118 z118
    obtain ⟨rfl, N118q, e118⟩ := hQ118
    have N118 := Fr.app N114 N118q
    obtain ⟨cq119, kq119, q119a, q119b, q119c⟩ := isOf hZ e118 A114_o0
    obtain ⟨_, _, ⟨T119, L119, k119, n119⟩, -, X119, ⟨Lc119, hQ119, l119, y119, z119⟩, st119⟩ := X118.virtualBack hx (y := (⟨"com/example/tributary/tributary/model/Time", "isInfinite", "()Z"⟩ : MethodName)) (z := (⟨"com/example/tributary/tributary/model/Time", "isInfinite", "()Z"⟩ : MethodName)) hown (mvT hZ (H 128 rfl)) (mvT hZ (H 85 rfl)) (notFace_of_selects (args := #[]) (mvT hZ (H 87 rfl))) (mvT hZ (H 87 rfl)) (mvT hZ (H 86 rfl)) (by decide) (backOf (W := 0) (rm14 l Z a0 hw [] tm114  h114 n0 sz114 A114_o0 F114_o1 ) hZ (H 88 rfl) (H 56 rfl) (by decide) (by decide)) q119a q119c (g := (mkF m 461 #[jv q0, s2, iv q1, iv q2, iv q3, iv q4, iv v1, iv v3, iv v5, iv (1 : Int32), iv v12, rv a14, rv a61, iv v92, iv v99, iv v101, rv a103, iv (1 : Int32), rv a114, rv a114, rv tm114] [(.ref tm114)])) rfl (by rw [hml]; rfl) (Steps.refl _) (argsL := []) (rest := []) (lenOf pd_24 rfl) rfl (by show 2 * 0 + _ ≤ _; exact Nat.le_of_eq rfl) (D at_461) (fun _ _ => ⟨rfl, e118, (by decide : 12 + 0 ≤ _), (by decide : 169 + 0 ≤ _)⟩)
    dsimp only [Pt.U, Pt.locs, Pt.cells, Pt.slots] at X119 l119 y119 z119 st119 hQ119
    replace y119 : k119 = 12 := y119
    replace z119 : n119 = 169 := z119
    replace l119 := l119.symm; replace y119 := y119.symm; replace z119 := z119.symm; subst l119 y119 z119
    obtain ⟨rfl, N119q, e119⟩ := hQ119
    have N119 := Fr.app N118 N119q
    obtain ⟨cq120, kq120, q120a, q120b, q120c⟩ := isOf hZ e119 A114_o0
    obtain ⟨_, _, ⟨T120, L120, k120, n120⟩, -, X120, ⟨Lc120, hQ120, l120, y120, z120⟩, st120⟩ := X119.virtualBack hx (y := (⟨"com/example/tributary/tributary/model/Time", "value", "()J"⟩ : MethodName)) (z := (⟨"com/example/tributary/tributary/model/Time", "value", "()J"⟩ : MethodName)) hown (mvT hZ (H 129 rfl)) (mvT hZ (H 90 rfl)) (notFace_of_selects (args := #[]) (mvT hZ (H 92 rfl))) (mvT hZ (H 92 rfl)) (mvT hZ (H 91 rfl)) (by decide) (backOf (W := 0) (rm15 l Z a0 hw [] tm114 ((own_num ((own_LA (own_B q0) v1 v5 v92)) (v92 + (2 : Int32)) v3)) h114 n0 sz114 A114_o0 F114_o1 F114_o0 ) hZ (H 93 rfl) (H 56 rfl) (by decide) (by decide)) q120a q120c (g := (mkF m 469 #[jv q0, s2, iv q1, iv q2, iv q3, iv q4, iv v1, iv v3, iv v5, iv (1 : Int32), iv v12, rv a14, rv a61, iv v92, iv v99, iv v101, rv a103, iv (1 : Int32), rv a114, rv a114, rv tm114] [(.ref tm114)])) rfl (by rw [hml]; rfl) (Steps.refl _) (argsL := []) (rest := []) (lenOf pd_32 rfl) rfl (by show 2 * 0 + _ ≤ _; exact Nat.le_of_eq rfl) (D at_469) (fun _ _ => ⟨rfl, e119, (by decide : 12 + 0 ≤ _), (by decide : 169 + 0 ≤ _)⟩)
    dsimp only [Pt.U, Pt.locs, Pt.cells, Pt.slots] at X120 l120 y120 z120 st120 hQ120
    replace y120 : k120 = 12 := y120
    replace z120 : n120 = 169 := z120
    replace l120 := l120.symm; replace y120 := y120.symm; replace z120 := z120.symm; subst l120 y120 z120
    obtain ⟨rfl, N120q, e120⟩ := hQ120
    have N120 := Fr.app N119 N120q
    obtain ⟨_, _, ⟨T121, L121, k121, n121⟩, -, X121, ⟨Lc121, hQ121, l121, y121, z121⟩, st121⟩ := Jvm.LawKit.callS X120 hx (y := (⟨"com/example/tributary/tributary/io/LineFormatBeginPinLaw", "num", "([BII)J"⟩ : MethodName)) hown (mvT hZ (H 94 rfl)) (mvT hZ (H 95 rfl)) (mvT hZ (H 3 rfl)) (mvT hZ (H 96 rfl)) (by decide) (backOf (W := 2) (rm16 l Z a0 hw [] a14 v99 v3 ((own_LA (own_B q0) v1 v5 v92)) h114 n0 sz114 V114_a14 (by rw [hv99]; exact FA.2.1)) hZ (H 96 rfl) (H 3 rfl) (by decide) (by decide)) (g := (mkF m 478 #[jv q0, s2, iv q1, iv q2, iv q3, iv q4, iv v1, iv v3, iv v5, iv (1 : Int32), iv v12, rv a14, rv a61, iv v92, iv v99, iv v101, rv a103, iv (1 : Int32), rv a114, rv a114, rv tm114] [(.int v3), (.int v99), (.ref a14), (.long (own_num ((own_LA (own_B q0) v1 v5 v92)) (v92 + (2 : Int32)) v3))])) rfl (by rw [hml]; rfl) (argsL := [(.ref a14), (.int v99), (.int v3)]) (rest := [(.long (own_num ((own_LA (own_B q0) v1 v5 v92)) (v92 + (2 : Int32)) v3))]) (lenOf pd_19 rfl) rfl (by show 2 * 0 + _ ≤ _; exact Nat.le_of_eq rfl) (D at_478) (fun _ _ => ⟨rfl, e120, (by decide : 12 + 0 ≤ _), (by decide : 169 + 0 ≤ _)⟩)
    dsimp only [Pt.U, Pt.locs, Pt.cells, Pt.slots] at X121 l121 y121 z121 st121 hQ121
    replace y121 : k121 = 12 := y121
    replace z121 : n121 = 169 := z121
    replace l121 := l121.symm; replace y121 := y121.symm; replace z121 := z121.symm; subst l121 y121 z121
    obtain ⟨rfl, N121q, e121⟩ := hQ121
    have N121 := Fr.app N120 N121q
    have pre122 : ∀ t, Steps p.tables e below (T121.setTop (mkF m 482 #[jv q0, s2, iv q1, iv q2, iv q3, iv q4, iv v1, iv v3, iv v5, iv (1 : Int32), iv v12, rv a14, rv a61, iv v92, iv v99, iv v101, rv a103, iv (1 : Int32), rv a114, rv a114, rv tm114] [(.int (lcmpW (own_num ((own_LA (own_B q0) v1 v5 v92)) (v92 + (2 : Int32)) v3) (own_num (own_LA (own_B q0) v1 v5 v92) v99 v3)))])) t → Steps p.tables e below B0 t := by
      intro t k
      refine pre115 t ?_
      show Steps p.tables e below (T111.setTop (mkF m 430 #[jv q0, s2, iv q1, iv q2, iv q3, iv q4, iv v1, iv v3, iv v5, iv (1 : Int32), iv v12, rv a14, rv a61, iv v92, iv v99, iv v101, rv a103, iv (1 : Int32), u0, u0, u0] [.null, (.ref a103)])) _
      refine st114.trans ?_
      refine XS.astore X114.here hx rfl (D at_433) rfl rfl (l' := #[jv q0, s2, iv q1, iv q2, iv q3, iv q4, iv v1, iv v3, iv v5, iv (1 : Int32), iv v12, rv a14, rv a61, iv v92, iv v99, iv v101, rv a103, iv (1 : Int32), rv a114, u0, u0]) rfl ?_
      show Steps p.tables e below (T114.setTop (mkF m 435 #[jv q0, s2, iv q1, iv q2, iv q3, iv q4, iv v1, iv v3, iv v5, iv (1 : Int32), iv v12, rv a14, rv a61, iv v92, iv v99, iv v101, rv a103, iv (1 : Int32), rv a114, u0, u0] [])) _
      refine XS.aload X114.here hx rfl (D at_435) rfl rfl ?_
      refine st116 _ ?_
      show Steps p.tables e below (T116.setTop (mkF m 440 #[jv q0, s2, iv q1, iv q2, iv q3, iv q4, iv v1, iv v3, iv v5, iv (1 : Int32), iv v12, rv a14, rv a61, iv v92, iv v99, iv v101, rv a103, iv (1 : Int32), rv a114, u0, u0] [(.int (1 : Int32))])) _
      refine XS.ifYes X116.here hx rfl (pc0 := 440) (pc' := 445) rfl (D at_440) rfl (by decide) (by decide) (by decide) ?_
      refine XS.aload X116.here hx rfl (D at_445) rfl rfl ?_
      refine st117 _ ?_
      refine XS.astore X117.here hx rfl (D at_450) rfl rfl (l' := #[jv q0, s2, iv q1, iv q2, iv q3, iv q4, iv v1, iv v3, iv v5, iv (1 : Int32), iv v12, rv a14, rv a61, iv v92, iv v99, iv v101, rv a103, iv (1 : Int32), rv a114, rv a114, u0]) rfl ?_
      refine XS.aload X117.here hx rfl (D at_452) rfl rfl ?_
      refine st118.trans ?_
      refine XS.astore X118.here hx rfl (D at_457) rfl rfl (l' := #[jv q0, s2, iv q1, iv q2, iv q3, iv q4, iv v1, iv v3, iv v5, iv (1 : Int32), iv v12, rv a14, rv a61, iv v92, iv v99, iv v101, rv a103, iv (1 : Int32), rv a114, rv a114, rv tm114]) rfl ?_
      show Steps p.tables e below (T118.setTop (mkF m 459 #[jv q0, s2, iv q1, iv q2, iv q3, iv q4, iv v1, iv v3, iv v5, iv (1 : Int32), iv v12, rv a14, rv a61, iv v92, iv v99, iv v101, rv a103, iv (1 : Int32), rv a114, rv a114, rv tm114] [])) _
      refine XS.aload X118.here hx rfl (D at_459) rfl rfl ?_
      refine st119.trans ?_
      show Steps p.tables e below (T119.setTop (mkF m 464 #[jv q0, s2, iv q1, iv q2, iv q3, iv q4, iv v1, iv v3, iv v5, iv (1 : Int32), iv v12, rv a14, rv a61, iv v92, iv v99, iv v101, rv a103, iv (1 : Int32), rv a114, rv a114, rv tm114] [(.int (0 : Int32))])) _
      refine XS.ifNo X119.here hx rfl (D at_464) rfl (by decide) ?_
      refine XS.aload X119.here hx rfl (D at_467) rfl rfl ?_
      refine st120.trans ?_
      refine XS.aload X120.here hx rfl (D at_472) rfl rfl ?_
      refine XS.iload X120.here hx rfl (D at_474) rfl ?_
      refine XS.iload X120.here hx rfl (D at_476) rfl ?_
      refine st121 _ ?_
      show Steps p.tables e below (T121.setTop (mkF m 481 #[jv q0, s2, iv q1, iv q2, iv q3, iv q4, iv v1, iv v3, iv v5, iv (1 : Int32), iv v12, rv a14, rv a61, iv v92, iv v99, iv v101, rv a103, iv (1 : Int32), rv a114, rv a114, rv tm114] [(.long (own_num (own_LA (own_B q0) v1 v5 v92) v99 v3)), (.long (own_num ((own_LA (own_B q0) v1 v5 v92)) (v92 + (2 : Int32)) v3))])) _
      refine XS.lcmp X121.here hx rfl (D at_481) rfl ?_
      exact k
    clear A109_o0 F109_o0 F109_o1 V109_a14 V109_a61 sz109 X111 e111 N111 F113_c pre115 X114 st114 N114q K114 e114 N114 X116 e116 st116 X117 e117 st117 X118 st118 N118q e118 N118 X119 st119 N119q e119 N119 X120 st120 N120q e120 N120 st121 N121q
    have c123 : (own_num ((own_LA (own_B q0) v1 v5 v92)) (v92 + (2 : Int32)) v3) = (own_num (own_LA (own_B q0) v1 v5 v92) v99 v3) := by rw [hv99]
    obtain ⟨fs, hr, hrun, hended, hEw⟩ := X121.leaveW S114 (Nat.le_trans kz114 (Nat.le_of_eq (congrArg Array.size e121.symm))) (v := some (.int (1 : Int32))) (fun h => by rw [Bd.returns] at h; cases h) hlk
    refine ⟨_, _, pre122 _ ?_, hrun, hended, _, _, rfl, ?_, hEw.1, hEw.2.1, hEw.2.2.1, hEw.2.2.2.mono (by decide) (by decide)⟩
    · show Steps p.tables e below (T121.setTop (mkF m 482 #[jv q0, s2, iv q1, iv q2, iv q3, iv q4, iv v1, iv v3, iv v5, iv (1 : Int32), iv v12, rv a14, rv a61, iv v92, iv v99, iv v101, rv a103, iv (1 : Int32), rv a114, rv a114, rv tm114] [(.int (lcmpW (own_num ((own_LA (own_B q0) v1 v5 v92)) (v92 + (2 : Int32)) v3) (own_num (own_LA (own_B q0) v1 v5 v92) v99 v3)))])) _
      refine XS.ifNo X121.here hx rfl (D at_482) rfl ((if0 _ _).trans (teq ((lw_eq (own_num ((own_LA (own_B q0) v1 v5 v92)) (v92 + (2 : Int32)) v3) (own_num (own_LA (own_B q0) v1 v5 v92) v99 v3)).mpr c123)).2) ?_
      refine XS.iconst X121.here hx rfl (D at_485) ?_
      refine XS.goto X121.here hx rfl (pc0 := 486) (pc' := 490) rfl (D at_486) (by decide) (by decide) ?_
      show Steps p.tables e below (T121.setTop (mkF m 490 #[jv q0, s2, iv q1, iv q2, iv q3, iv q4, iv v1, iv v3, iv v5, iv (1 : Int32), iv v12, rv a14, rv a61, iv v92, iv v99, iv v101, rv a103, iv (1 : Int32), rv a114, rv a114, rv tm114] [(.int (1 : Int32))])) _
      exact retN X121 hx (t := .boolean) Bd.returns (by simp) (D at_490) hr
    · show Q0 Z q0 q1 q2 q3 q4 h0 n0 _ T121.heap _
      rw [e121]
      exact ⟨rfl, N121⟩

set_option maxRecDepth 65536 in
set_option maxHeartbeats 40000000 in
theorem comes_1 {Post : Tables → Env → Array Value → State → Outcome → State → Prop} (hpost : ∀ tb e args s v u, (limb_1_1.after args s (.returned v) u = true ∧ limb_1_2.after args s (.returned v) u = true ∧ True) → ReturnedEndW s (.returned v) u (Jvm.fieldLocs frame_1_writes args s ++ Jvm.arrayLocs frame_1_arrays args s ++ Jvm.staticLocs frame_1_statics s) 32 3264 → Post tb e args s (.returned v) u) :
    ArmFor flags0 classFile x code maxLocals ret World_1 tables_1 room_1 Calls_1 rest_1 Pre_1 Post := by
  intro l hfl _ _ p e ha hc hk s m args below hf hA hF happ hP
  obtain ⟨hcalls, hrest, hpre⟩ := hP
  obtain ⟨-, -, -, hnamed, -, -, -, hat⟩ := (Spec.applies_iff hf).mp happ
  obtain ⟨hg, hn⟩ := and_e (Cond.before_iff.mp (show (Jvm.Cond.and given_1 narrow_1).before args s = true from hpre))
  obtain ⟨gc, gr0⟩ := and_e hg
  obtain ⟨w0, w1, w2, w3, w4, rfl⟩ : ∃ w0 w1 w2 w3 w4 : Value, args = #[w0, w1, w2, w3, w4] := by
    have hs : args.size = 5 := by simpa [Cond.value, given_1] using gc
    obtain ⟨L⟩ := args
    match L, hs with
    | [w0, w1, w2, w3, w4], _ => exact ⟨w0, w1, w2, w3, w4, rfl⟩
  have hw := fun d (hd : d ∈ tables_1) => atoms_spec (ws := Jvm.Cond.code x code maxLocals ret :: tables_1) hat d (List.mem_cons_of_mem _ hd)
  obtain ⟨g0, gr1⟩ := and_e gr0
  obtain ⟨i0, ei0⟩ := isL_v g0
  obtain rfl : w0 = (.long i0) := Option.some.inj ei0
  obtain ⟨g1, gr2⟩ := and_e gr1
  obtain ⟨i1, ei1⟩ := is_v g1
  obtain rfl : w1 = (.int i1) := Option.some.inj ei1
  obtain ⟨g2, gr3⟩ := and_e gr2
  obtain ⟨i2, ei2⟩ := is_v g2
  obtain rfl : w2 = (.int i2) := Option.some.inj ei2
  obtain ⟨g3, gr4⟩ := and_e gr3
  obtain ⟨i3, ei3⟩ := is_v g3
  obtain rfl : w3 = (.int i3) := Option.some.inj ei3
  obtain ⟨i4, ei4⟩ := is_v gr4
  obtain rfl : w4 = (.int i4) := Option.some.inj ei4
  obtain ⟨n, o, h1, h2, h3, _, L, rfl, ⟨hv, N⟩, hq⟩ := rm0 l s _ hw tables_1 i0 i1 i2 i3 i4 s.heap s.heap.size (Nat.le_refl _) p e ha hc hk s m _ below hf ((Spec.applies_iff_loose hf).mp happ).1 ⟨rfl, State.Warmed39.refl s, rfl⟩ trivial
  subst hv
  refine ⟨n, _, h1, h2, h3, hpost _ _ _ _ _ _ ⟨Cond.after_iff.mpr rfl, Cond.after_iff.mpr (eq_i res_at (Term.int_eval (1)) rfl), trivial⟩ ⟨hq.1, hq.2.1, hq.2.2.1, (hq.2.2.2.sift fun y hy => Or.inr (N y hy)).mono (by decide) (by decide)⟩⟩
theorem main_1_1 : Claimed_1_1 := comes_1 fun _ _ _ _ _ _ h hF => ⟨h.1, hF⟩
theorem main_1_2 : Claimed_1_2 := comes_1 fun _ _ _ _ _ _ h hF => ⟨h.2.1, hF⟩
end Jvm.Pilot.@@N@@
namespace Jvm.Pilot.@@N@@
open Jvm Jvm.ClassFile Sem Op Lib Jvm.Free Jvm.Stand Jvm.Pilot.@@N@@.Jvm.D
/-! MADE BY PROGRAM (witnessworld.py) out of the Statement's table words and the real class files: 20 classes; the members and pool entries that the words name. The judged class is class 1, her method 3. -/
namespace start1
open Jvm.ClassFile
def u (s : String) : CpInfo := .utf8 (stringToUtf16 s)
/-- a pool by its gaps: so many unusable entries, then the entry; so many at the end -/
def gap : Nat → List CpInfo → List CpInfo
  | 0, r => r
  | n + 1, r => .unusable :: gap n r
def poolList (es : List (Nat × CpInfo)) (last : Nat) : List CpInfo := es.foldr (fun e r => gap e.1 (e.2 :: r)) (gap last [])
def pool (es : List (Nat × CpInfo)) (last : Nat) : Array CpInfo := ⟨poolList es last⟩
def fileOf (pool : Array CpInfo) (this : Nat) (attrs : Array Attribute := #[]) (ms : Array MethodInfo := #[]) (fl : Nat := 33) (sup : Nat := 0) (ifs : Array Nat := #[]) (fds : Array FieldInfo := #[]) : ClassFile where
  minorVersion := 0
  majorVersion := 65
  constantPool := pool
  accessFlags := fl
  thisClass := this
  superClass := sup
  interfaces := ifs
  fields := fds
  methods := ms
  attributes := attrs
def plain (name : String) (sup : Option ClassId) : Class where
  name := name
  kind := .ordinary
  loader := none
  accessFlags := 33
  super := sup
  interfaces := #[]
  cf := none
  fields := #[]
  methods := #[]
  instanceTypes := #[]
  staticTypes := #[]
  resolved := #[]
  callSites := []
  init := .initialized
  statics := none
  mirror := none

def pool0 : Array CpInfo := pool [(5, u "<init>"), (0, u "()V"), (1, .class_ 10), (1, u "java/lang/Object")] 113

def k0c0 : Code := { maxStack := 0, maxLocals := 1, code := object_method_1_code, exceptionTable := #[], attributes := #[] }
def k0m0 : Method := { name := "<init>", desc := "()V", sig := { parameters := [], returnType := none }, accessFlags := 1, code := some k0c0 }
/-- java/lang/Object -/
def k0 : Class := { plain "java/lang/Object" none with
  accessFlags := 33
  interfaces := #[]
  cf := some (fileOf pool0 8 #[] #[{ accessFlags := 1, nameIndex := 5, descriptorIndex := 6, attributes := #[] }] 33 0 #[] #[])
  fields := #[]
  methods := #[k0m0]
  instanceTypes := #[]
  staticTypes := #[]
  resolved := Array.replicate 124 none
  statics := none }

def pool1 : Array CpInfo := pool [(2, .class_ 4), (0, .nameAndType 5 6), (0, u "java/lang/Object"), (0, u "<init>"), (0, u "()V"), (0, .long 15), (1, .long 10), (1, .methodref 12 13), (0, .class_ 14), (0, .nameAndType 15 16), (0, u "com/example/tributary/tributary/io/LineFormatBeginPinLaw"), (0, u "dig"), (0, u "(JI)B"), (0, .class_ 18), (0, u "com/example/tributary/tributary/io/LineFormat"), (0, .methodref 17 3), (0, .methodref 17 21), (0, .nameAndType 22 23), (0, u "begin"), (0, u "([BII)V"), (0, .methodref 17 25), (0, .nameAndType 26 27), (0, u "hasArrival"), (0, u "()Z"), (0, .methodref 17 29), (0, .nameAndType 30 31), (0, u "arrival"), (0, u "()J"), (0, .methodref 12 33), (0, .nameAndType 34 35), (0, u "num"), (0, u "([BII)J"), (0, .methodref 17 37), (0, .nameAndType 38 39), (0, u "element"), (0, u "(Lcom/example/tributary/tributary/model/HeldPayloads;)Lcom/example/tributary/tributary/model/Element;"), (0, .class_ 41), (0, u "com/example/tributary/tributary/model/Stable"), (0, .methodref 40 43), (0, .nameAndType 44 45), (0, u "time"), (0, u "()Lcom/example/tributary/tributary/model/Time;"), (0, .methodref 47 48), (0, .class_ 49), (0, .nameAndType 50 27), (0, u "com/example/tributary/tributary/model/Time"), (0, u "isInfinite"), (0, .methodref 47 52), (0, .nameAndType 53 31), (0, u "value"), (3, u "law"), (0, u "(JIIII)Z")] 7

def k1m0 : Method := { name := "<init>", desc := "()V", sig := { parameters := [], returnType := none }, accessFlags := 1, code := none }
def k1c1 : Code := { maxStack := 5, maxLocals := 3, code := method_2_code, exceptionTable := #[], attributes := #[] }
def k1m1 : Method := { name := "dig", desc := "(JI)B", sig := { parameters := [.long, .int], returnType := some .byte }, accessFlags := 10, code := some k1c1 }
def k1c2 : Code := { maxStack := 5, maxLocals := 5, code := method_3_code, exceptionTable := #[], attributes := #[] }
def k1m2 : Method := { name := "num", desc := "([BII)J", sig := { parameters := [(.array .byte), .int, .int], returnType := some .long }, accessFlags := 10, code := some k1c2 }
def k1c3 : Code := { maxStack := 5, maxLocals := 21, code := code, exceptionTable := #[], attributes := #[] }
def k1m3 : Method := { name := "law", desc := "(JIIII)Z", sig := { parameters := [.long, .int, .int, .int, .int], returnType := some .boolean }, accessFlags := 9, code := some k1c3 }
/-- com/example/tributary/tributary/io/LineFormatBeginPinLaw -/
def k1 : Class := { plain "com/example/tributary/tributary/io/LineFormatBeginPinLaw" (some 0) with
  accessFlags := 49
  interfaces := #[]
  cf := some (fileOf pool1 12 #[] #[{ accessFlags := 1, nameIndex := 5, descriptorIndex := 6, attributes := #[] }, { accessFlags := 10, nameIndex := 15, descriptorIndex := 16, attributes := #[] }, { accessFlags := 10, nameIndex := 34, descriptorIndex := 35, attributes := #[] }, { accessFlags := 9, nameIndex := 57, descriptorIndex := 58, attributes := #[] }] 49 2 #[] #[])
  fields := #[]
  methods := #[k1m0, k1m1, k1m2, k1m3]
  instanceTypes := #[]
  staticTypes := #[]
  resolved := Array.replicate 66 none
  statics := none }

def pool2 : Array CpInfo := pool [(3, .methodref 4 5), (0, .class_ 6), (0, .nameAndType 7 8), (0, u "java/lang/Object"), (0, u "<init>"), (0, u "()V"), (1, .class_ 12), (1, u "com/example/tributary/tributary/io/LineFormat"), (0, u "parse"), (21, u "begin"), (0, u "([BII)V"), (2, u "hasArrival"), (0, u "()Z"), (2, u "arrival"), (0, u "()J"), (14, u "element"), (0, u "(Lcom/example/tributary/tributary/model/HeldPayloads;)Lcom/example/tributary/tributary/model/Element;"), (3, .fieldref 10 65), (0, .nameAndType 66 67), (0, u "line"), (0, u "[B"), (0, .fieldref 10 69), (0, .nameAndType 70 71), (0, u "lineStart"), (0, u "I"), (0, .fieldref 10 73), (0, .nameAndType 74 71), (0, u "lineEnd"), (0, .fieldref 10 76), (0, .nameAndType 77 71), (0, u "cursor"), (0, .string 79), (0, u "arrival time"), (0, .methodref 10 81), (0, .nameAndType 82 83), (0, u "nextTime"), (0, u "(Ljava/lang/String;Z)Lcom/example/tributary/tributary/model/Time;"), (0, .methodref 85 86), (0, .class_ 87), (0, .nameAndType 88 44), (0, u "com/example/tributary/tributary/model/Time"), (0, u "value"), (22, .class_ 112), (0, u "com/example/tributary/tributary/model/Stable"), (0, .string 114), (0, u "stable time"), (0, .methodref 10 116), (0, .nameAndType 117 118), (0, u "time"), (0, u "(Ljava/lang/String;IIZ)Lcom/example/tributary/tributary/model/Time;"), (0, .methodref 111 120), (0, .nameAndType 7 121), (0, u "(Lcom/example/tributary/tributary/model/Time;)V"), (13, .methodref 85 136), (0, .nameAndType 13 137), (0, u "([BII)Lcom/example/tributary/tributary/model/Time;"), (9, .methodref 85 148), (0, .nameAndType 149 40), (0, u "isInfinite"), (15, u "MAX_LINE_BYTES")] 29

def k2c0 : Code := { maxStack := 1, maxLocals := 1, code := prog_36_method_1_code, exceptionTable := #[], attributes := #[] }
def k2m0 : Method := { name := "<init>", desc := "()V", sig := { parameters := [], returnType := none }, accessFlags := 0, code := some k2c0 }
def k2c1 : Code := { maxStack := 2, maxLocals := 4, code := prog_36_method_5_code, exceptionTable := #[], attributes := #[] }
def k2m1 : Method := { name := "begin", desc := "([BII)V", sig := { parameters := [(.array .byte), .int, .int], returnType := none }, accessFlags := 0, code := some k2c1 }
def k2c2 : Code := { maxStack := 2, maxLocals := 1, code := prog_36_method_6_code, exceptionTable := #[], attributes := #[] }
def k2m2 : Method := { name := "hasArrival", desc := "()Z", sig := { parameters := [], returnType := some .boolean }, accessFlags := 0, code := some k2c2 }
def k2c3 : Code := { maxStack := 3, maxLocals := 1, code := prog_36_method_7_code, exceptionTable := #[], attributes := #[] }
def k2m3 : Method := { name := "arrival", desc := "()J", sig := { parameters := [], returnType := some .long }, accessFlags := 0, code := some k2c3 }
def k2c4 : Code := { maxStack := 8, maxLocals := 6, code := prog_36_method_8_code, exceptionTable := #[], attributes := #[] }
def k2m4 : Method := { name := "element", desc := "(Lcom/example/tributary/tributary/model/HeldPayloads;)Lcom/example/tributary/tributary/model/Element;", sig := { parameters := [(.object "com/example/tributary/tributary/model/HeldPayloads")], returnType := some (.object "com/example/tributary/tributary/model/Element") }, accessFlags := 0, code := some k2c4 }
def k2c5 : Code := { maxStack := 5, maxLocals := 5, code := prog_36_method_9_code, exceptionTable := #[], attributes := #[] }
def k2m5 : Method := { name := "nextTime", desc := "(Ljava/lang/String;Z)Lcom/example/tributary/tributary/model/Time;", sig := { parameters := [(.object "java/lang/String"), .boolean], returnType := some (.object "com/example/tributary/tributary/model/Time") }, accessFlags := 2, code := some k2c5 }
def k2c6 : Code := { maxStack := 4, maxLocals := 7, code := prog_36_method_10_code, exceptionTable := #[{ startPc := 0, endPc := 13, handlerPc := 16, catchType := 138 }], attributes := #[] }
def k2m6 : Method := { name := "time", desc := "(Ljava/lang/String;IIZ)Lcom/example/tributary/tributary/model/Time;", sig := { parameters := [(.object "java/lang/String"), .int, .int, .boolean], returnType := some (.object "com/example/tributary/tributary/model/Time") }, accessFlags := 2, code := some k2c6 }
/-- com/example/tributary/tributary/io/LineFormat -/
def k2 : Class := { plain "com/example/tributary/tributary/io/LineFormat" (some 0) with
  accessFlags := 49
  interfaces := #[]
  cf := some (fileOf pool2 10 #[] #[{ accessFlags := 0, nameIndex := 7, descriptorIndex := 8, attributes := #[] }, { accessFlags := 0, nameIndex := 35, descriptorIndex := 36, attributes := #[] }, { accessFlags := 0, nameIndex := 39, descriptorIndex := 40, attributes := #[] }, { accessFlags := 0, nameIndex := 43, descriptorIndex := 44, attributes := #[] }, { accessFlags := 0, nameIndex := 59, descriptorIndex := 60, attributes := #[] }, { accessFlags := 2, nameIndex := 82, descriptorIndex := 83, attributes := #[] }, { accessFlags := 2, nameIndex := 117, descriptorIndex := 118, attributes := #[] }] 49 4 #[] #[{ accessFlags := 25, nameIndex := 165, descriptorIndex := 71, attributes := #[] }, { accessFlags := 2, nameIndex := 66, descriptorIndex := 67, attributes := #[] }, { accessFlags := 2, nameIndex := 70, descriptorIndex := 71, attributes := #[] }, { accessFlags := 2, nameIndex := 74, descriptorIndex := 71, attributes := #[] }, { accessFlags := 2, nameIndex := 77, descriptorIndex := 71, attributes := #[] }])
  fields := #[{ name := "MAX_LINE_BYTES", type := .int, accessFlags := 25, slot := 0, constantValue := 0 }, { name := "line", type := (.array .byte), accessFlags := 2, slot := 0, constantValue := 0 }, { name := "lineStart", type := .int, accessFlags := 2, slot := 1, constantValue := 0 }, { name := "lineEnd", type := .int, accessFlags := 2, slot := 2, constantValue := 0 }, { name := "cursor", type := .int, accessFlags := 2, slot := 3, constantValue := 0 }]
  methods := #[k2m0, k2m1, k2m2, k2m3, k2m4, k2m5, k2m6]
  instanceTypes := #[(.array .byte), .int, .int, .int]
  staticTypes := #[.int]
  resolved := Array.replicate 195 none
  statics := none }

def pool3 : Array CpInfo := pool [(1, .class_ 2), (0, u "java/io/Serializable"), (0, .class_ 4), (0, u "java/lang/Object")] 2

/-- java/io/Serializable -/
def k3 : Class := { plain "java/io/Serializable" (some 0) with
  accessFlags := 1537
  interfaces := #[]
  cf := some (fileOf pool3 1 #[] #[] 1537 3 #[] #[])
  fields := #[]
  methods := #[]
  instanceTypes := #[]
  staticTypes := #[]
  resolved := Array.replicate 7 none
  statics := none }

def pool4 : Array CpInfo := pool [(1, .class_ 2), (0, u "java/lang/Comparable"), (0, .class_ 4), (0, u "java/lang/Object")] 7

/-- java/lang/Comparable -/
def k4 : Class := { plain "java/lang/Comparable" (some 0) with
  accessFlags := 1537
  interfaces := #[]
  cf := some (fileOf pool4 1 #[] #[] 1537 3 #[] #[])
  fields := #[]
  methods := #[]
  instanceTypes := #[]
  staticTypes := #[]
  resolved := Array.replicate 12 none
  statics := none }

def pool5 : Array CpInfo := pool [(2, .class_ 4), (1, u "java/lang/CharSequence"), (42, .class_ 48), (0, u "java/lang/CharSequence$1CodePointIterator"), (10, .class_ 60), (0, u "java/lang/CharSequence$1CharIterator"), (5, .class_ 67), (0, u "java/lang/Object")] 63

/-- java/lang/CharSequence -/
def k5 : Class := { plain "java/lang/CharSequence" (some 0) with
  accessFlags := 1537
  interfaces := #[]
  cf := some (fileOf pool5 2 #[.nestMembers #[47, 59]] #[] 1537 66 #[] #[])
  fields := #[]
  methods := #[]
  instanceTypes := #[]
  staticTypes := #[]
  resolved := Array.replicate 131 none
  statics := none }

def pool6 : Array CpInfo := pool [(1, .class_ 2), (0, u "java/lang/constant/Constable"), (0, .class_ 4), (0, u "java/lang/Object")] 6

/-- java/lang/constant/Constable -/
def k6 : Class := { plain "java/lang/constant/Constable" (some 0) with
  accessFlags := 1537
  interfaces := #[]
  cf := some (fileOf pool6 1 #[] #[] 1537 3 #[] #[])
  fields := #[]
  methods := #[]
  instanceTypes := #[]
  staticTypes := #[]
  resolved := Array.replicate 11 none
  statics := none }

def pool7 : Array CpInfo := pool [(1, .class_ 2), (0, u "java/lang/constant/ConstantDesc"), (0, .class_ 4), (0, u "java/lang/Object")] 32

/-- java/lang/constant/ConstantDesc -/
def k7 : Class := { plain "java/lang/constant/ConstantDesc" (some 0) with
  accessFlags := 1537
  interfaces := #[]
  cf := some (fileOf pool7 1 #[] #[] 1537 3 #[] #[])
  fields := #[]
  methods := #[]
  instanceTypes := #[]
  staticTypes := #[]
  resolved := Array.replicate 37 none
  statics := none }

def pool8 : Array CpInfo := pool [(2, .class_ 4), (1, u "java/lang/Object"), (0, u "<init>"), (0, u "()V"), (3, .class_ 12), (1, u "java/lang/String"), (0, u "value"), (0, u "[B"), (2, u "coder"), (0, u "B"), (2, u "hash"), (0, u "I"), (2, u "hashIsZero"), (0, u "Z"), (13, u "COMPACT_STRINGS"), (534, .class_ 576), (0, u "java/lang/CharSequence"), (22, u "CASE_INSENSITIVE_ORDER"), (0, u "Ljava/util/Comparator;"), (500, u "serialPersistentFields"), (0, u "[Ljava/io/ObjectStreamField;"), (0, .class_ 1104), (0, u "java/lang/String$CaseInsensitiveComparator"), (1, .class_ 1107), (0, u "java/io/Serializable"), (0, .class_ 1109), (0, u "java/lang/Comparable"), (0, .class_ 1111), (0, u "java/lang/constant/Constable"), (0, .class_ 1113), (0, u "java/lang/constant/ConstantDesc"), (2, u "serialVersionUID"), (0, u "J"), (3, u "REPL"), (0, u "C"), (2, u "LATIN1"), (1, u "UTF16")] 323

def k8m0 : Method := { name := "<init>", desc := "()V", sig := { parameters := [], returnType := none }, accessFlags := 1, code := none }
/-- java/lang/String -/
def k8 : Class := { plain "java/lang/String" (some 0) with
  accessFlags := 49
  interfaces := #[3, 4, 5, 6, 7]
  cf := some (fileOf pool8 10 #[.nestMembers #[1103]] #[{ accessFlags := 1, nameIndex := 5, descriptorIndex := 6, attributes := #[] }] 49 2 #[1106, 1108, 575, 1110, 1112] #[{ accessFlags := 18, nameIndex := 13, descriptorIndex := 14, attributes := #[] }, { accessFlags := 18, nameIndex := 17, descriptorIndex := 18, attributes := #[] }, { accessFlags := 2, nameIndex := 21, descriptorIndex := 22, attributes := #[] }, { accessFlags := 2, nameIndex := 25, descriptorIndex := 26, attributes := #[] }, { accessFlags := 26, nameIndex := 1116, descriptorIndex := 1117, attributes := #[] }, { accessFlags := 24, nameIndex := 40, descriptorIndex := 26, attributes := #[] }, { accessFlags := 26, nameIndex := 1101, descriptorIndex := 1102, attributes := #[] }, { accessFlags := 26, nameIndex := 1121, descriptorIndex := 1122, attributes := #[] }, { accessFlags := 25, nameIndex := 599, descriptorIndex := 600, attributes := #[] }, { accessFlags := 24, nameIndex := 1125, descriptorIndex := 18, attributes := #[] }, { accessFlags := 24, nameIndex := 1127, descriptorIndex := 18, attributes := #[] }])
  fields := #[{ name := "value", type := (.array .byte), accessFlags := 18, slot := 0, constantValue := 0 }, { name := "coder", type := .byte, accessFlags := 18, slot := 1, constantValue := 0 }, { name := "hash", type := .int, accessFlags := 2, slot := 2, constantValue := 0 }, { name := "hashIsZero", type := .boolean, accessFlags := 2, slot := 3, constantValue := 0 }, { name := "serialVersionUID", type := .long, accessFlags := 26, slot := 0, constantValue := 0 }, { name := "COMPACT_STRINGS", type := .boolean, accessFlags := 24, slot := 1, constantValue := 0 }, { name := "serialPersistentFields", type := (.array (.object "java/io/ObjectStreamField")), accessFlags := 26, slot := 2, constantValue := 0 }, { name := "REPL", type := .char, accessFlags := 26, slot := 3, constantValue := 0 }, { name := "CASE_INSENSITIVE_ORDER", type := (.object "java/util/Comparator"), accessFlags := 25, slot := 4, constantValue := 0 }, { name := "LATIN1", type := .byte, accessFlags := 24, slot := 5, constantValue := 0 }, { name := "UTF16", type := .byte, accessFlags := 24, slot := 6, constantValue := 0 }]
  methods := #[k8m0]
  instanceTypes := #[(.array .byte), .byte, .int, .boolean]
  staticTypes := #[.long, .boolean, (.array (.object "java/io/ObjectStreamField")), .char, (.object "java/util/Comparator"), .byte, .byte]
  resolved := Array.replicate 1451 none
  statics := none }

def pool9 : Array CpInfo := pool [(1, .class_ 2), (0, u "com/example/tributary/tributary/model/Time"), (0, .methodref 4 5), (0, .class_ 6), (0, .nameAndType 7 8), (0, u "java/lang/Object"), (0, u "<init>"), (0, u "()V"), (0, .fieldref 1 10), (0, .nameAndType 11 12), (0, u "value"), (0, u "J"), (0, .fieldref 1 14), (0, .nameAndType 15 16), (0, u "infinite"), (0, u "Z"), (0, .methodref 1 18), (0, .nameAndType 7 19), (0, u "(JZ)V"), (14, u "parse"), (0, u "([BII)Lcom/example/tributary/tributary/model/Time;"), (0, .methodref 37 38), (0, .class_ 39), (0, .nameAndType 40 41), (0, u "java/util/Objects"), (0, u "checkFromIndexSize"), (0, u "(III)I"), (2, u "INFINITY"), (0, u "Lcom/example/tributary/tributary/model/Time;"), (0, .methodref 1 47), (0, .nameAndType 11 48), (0, u "([BII)J"), (0, .methodref 1 50), (0, .nameAndType 51 52), (0, u "of"), (0, u "(J)Lcom/example/tributary/tributary/model/Time;"), (6, .long 9223372036854775808), (1, .long 9223372036854775809), (1, .long 10), (43, .class_ 108), (0, u "java/lang/Comparable"), (0, u "MAX_DIGITS"), (0, u "I"), (2, u "TOO_MANY_DIGITS"), (0, u "Ljava/lang/String;"), (0, u "NOT_A_TIME"), (0, u "BEYOND_RANGE"), (6, u "isInfinite"), (0, u "()Z"), (0, u "()J")] 11

def k9c0 : Code := { maxStack := 3, maxLocals := 4, code := prog_64_method_1_code, exceptionTable := #[], attributes := #[] }
def k9m0 : Method := { name := "<init>", desc := "(JZ)V", sig := { parameters := [.long, .boolean], returnType := none }, accessFlags := 2, code := some k9c0 }
def k9c1 : Code := { maxStack := 5, maxLocals := 2, code := prog_64_method_2_code, exceptionTable := #[], attributes := #[] }
def k9m1 : Method := { name := "of", desc := "(J)Lcom/example/tributary/tributary/model/Time;", sig := { parameters := [.long], returnType := some (.object "com/example/tributary/tributary/model/Time") }, accessFlags := 9, code := some k9c1 }
def k9c2 : Code := { maxStack := 4, maxLocals := 4, code := prog_64_method_4_code, exceptionTable := #[], attributes := #[] }
def k9m2 : Method := { name := "parse", desc := "([BII)Lcom/example/tributary/tributary/model/Time;", sig := { parameters := [(.array .byte), .int, .int], returnType := some (.object "com/example/tributary/tributary/model/Time") }, accessFlags := 9, code := some k9c2 }
def k9c3 : Code := { maxStack := 6, maxLocals := 12, code := prog_64_method_5_code, exceptionTable := #[], attributes := #[] }
def k9m3 : Method := { name := "value", desc := "([BII)J", sig := { parameters := [(.array .byte), .int, .int], returnType := some .long }, accessFlags := 10, code := some k9c3 }
def k9c4 : Code := { maxStack := 1, maxLocals := 1, code := prog_64_method_7_code, exceptionTable := #[], attributes := #[] }
def k9m4 : Method := { name := "isInfinite", desc := "()Z", sig := { parameters := [], returnType := some .boolean }, accessFlags := 1, code := some k9c4 }
def k9c5 : Code := { maxStack := 3, maxLocals := 1, code := prog_64_method_8_code, exceptionTable := #[], attributes := #[] }
def k9m5 : Method := { name := "value", desc := "()J", sig := { parameters := [], returnType := some .long }, accessFlags := 1, code := some k9c5 }
/-- com/example/tributary/tributary/model/Time -/
def k9 : Class := { plain "com/example/tributary/tributary/model/Time" (some 0) with
  accessFlags := 49
  interfaces := #[4]
  cf := some (fileOf pool9 1 #[] #[{ accessFlags := 2, nameIndex := 7, descriptorIndex := 19, attributes := #[] }, { accessFlags := 9, nameIndex := 51, descriptorIndex := 52, attributes := #[] }, { accessFlags := 9, nameIndex := 34, descriptorIndex := 35, attributes := #[] }, { accessFlags := 10, nameIndex := 11, descriptorIndex := 48, attributes := #[] }, { accessFlags := 1, nameIndex := 123, descriptorIndex := 124, attributes := #[] }, { accessFlags := 1, nameIndex := 11, descriptorIndex := 125, attributes := #[] }] 49 4 #[107] #[{ accessFlags := 25, nameIndex := 44, descriptorIndex := 45, attributes := #[] }, { accessFlags := 25, nameIndex := 109, descriptorIndex := 110, attributes := #[] }, { accessFlags := 25, nameIndex := 113, descriptorIndex := 114, attributes := #[] }, { accessFlags := 25, nameIndex := 115, descriptorIndex := 114, attributes := #[] }, { accessFlags := 25, nameIndex := 116, descriptorIndex := 114, attributes := #[] }, { accessFlags := 18, nameIndex := 11, descriptorIndex := 12, attributes := #[] }, { accessFlags := 18, nameIndex := 15, descriptorIndex := 16, attributes := #[] }])
  fields := #[{ name := "INFINITY", type := (.object "com/example/tributary/tributary/model/Time"), accessFlags := 25, slot := 0, constantValue := 0 }, { name := "MAX_DIGITS", type := .int, accessFlags := 25, slot := 1, constantValue := 0 }, { name := "TOO_MANY_DIGITS", type := (.object "java/lang/String"), accessFlags := 25, slot := 2, constantValue := 0 }, { name := "NOT_A_TIME", type := (.object "java/lang/String"), accessFlags := 25, slot := 3, constantValue := 0 }, { name := "BEYOND_RANGE", type := (.object "java/lang/String"), accessFlags := 25, slot := 4, constantValue := 0 }, { name := "value", type := .long, accessFlags := 18, slot := 0, constantValue := 0 }, { name := "infinite", type := .boolean, accessFlags := 18, slot := 1, constantValue := 0 }]
  methods := #[k9m0, k9m1, k9m2, k9m3, k9m4, k9m5]
  instanceTypes := #[.long, .boolean]
  staticTypes := #[(.object "com/example/tributary/tributary/model/Time"), .int, (.object "java/lang/String"), (.object "java/lang/String"), (.object "java/lang/String")]
  resolved := Array.replicate 137 none
  statics := none }

def pool10 : Array CpInfo := pool [(2, .class_ 4), (1, u "java/lang/Object"), (0, u "<init>"), (0, u "()V"), (35, .class_ 44), (1, u "java/util/Objects"), (0, u "requireNonNull"), (48, u "(Ljava/lang/Object;Ljava/lang/String;)Ljava/lang/Object;"), (11, .class_ 108), (1, u "jdk/internal/util/Preconditions"), (5, u "(IIILjava/util/function/BiFunction;)I"), (0, .methodref 106 116), (0, .nameAndType 117 114), (0, u "checkFromIndexSize"), (57, u "(III)I")] 8

def k10m0 : Method := { name := "<init>", desc := "()V", sig := { parameters := [], returnType := none }, accessFlags := 2, code := none }
def k10c1 : Code := { maxStack := 3, maxLocals := 2, code := jdk_31_method_11_code, exceptionTable := #[], attributes := #[] }
def k10m1 : Method := { name := "requireNonNull", desc := "(Ljava/lang/Object;Ljava/lang/String;)Ljava/lang/Object;", sig := { parameters := [(.object "java/lang/Object"), (.object "java/lang/String")], returnType := some (.object "java/lang/Object") }, accessFlags := 9, code := some k10c1 }
def k10c2 : Code := { maxStack := 4, maxLocals := 3, code := jdk_31_method_19_code, exceptionTable := #[], attributes := #[] }
def k10m2 : Method := { name := "checkFromIndexSize", desc := "(III)I", sig := { parameters := [.int, .int, .int], returnType := some .int }, accessFlags := 9, code := some k10c2 }
/-- java/util/Objects -/
def k10 : Class := { plain "java/util/Objects" (some 0) with
  accessFlags := 49
  interfaces := #[]
  cf := some (fileOf pool10 42 #[] #[{ accessFlags := 2, nameIndex := 5, descriptorIndex := 6, attributes := #[] }, { accessFlags := 9, nameIndex := 45, descriptorIndex := 94, attributes := #[] }, { accessFlags := 9, nameIndex := 117, descriptorIndex := 175, attributes := #[] }] 49 2 #[] #[])
  fields := #[]
  methods := #[k10m0, k10m1, k10m2]
  instanceTypes := #[]
  staticTypes := #[]
  resolved := Array.replicate 184 none
  statics := none }

def pool11 : Array CpInfo := pool [(2, .class_ 4), (1, u "java/lang/Object"), (0, u "<init>"), (0, u "()V"), (17, .class_ 26), (1, u "jdk/internal/util/Preconditions"), (22, u "checkFromIndexSize"), (5, .class_ 56), (0, u "jdk/internal/util/Preconditions$4"), (57, .class_ 115), (0, u "jdk/internal/util/Preconditions$1"), (7, u "SIOOBE_FORMATTER"), (0, u "Ljava/util/function/BiFunction;"), (0, .class_ 126), (0, u "jdk/internal/util/Preconditions$2"), (3, u "AIOOBE_FORMATTER"), (0, .class_ 132), (0, u "jdk/internal/util/Preconditions$3"), (3, u "IOOBE_FORMATTER"), (46, u "(IIILjava/util/function/BiFunction;)I")] 10

def k11m0 : Method := { name := "<init>", desc := "()V", sig := { parameters := [], returnType := none }, accessFlags := 1, code := none }
def k11c1 : Code := { maxStack := 4, maxLocals := 4, code := jdk_41_method_13_code, exceptionTable := #[], attributes := #[] }
def k11m1 : Method := { name := "checkFromIndexSize", desc := "(IIILjava/util/function/BiFunction;)I", sig := { parameters := [.int, .int, .int, (.object "java/util/function/BiFunction")], returnType := some .int }, accessFlags := 9, code := some k11c1 }
/-- jdk/internal/util/Preconditions -/
def k11 : Class := { plain "jdk/internal/util/Preconditions" (some 0) with
  accessFlags := 33
  interfaces := #[]
  cf := some (fileOf pool11 24 #[.nestMembers #[55, 131, 125, 114]] #[{ accessFlags := 1, nameIndex := 5, descriptorIndex := 6, attributes := #[] }, { accessFlags := 9, nameIndex := 49, descriptorIndex := 183, attributes := #[] }] 33 2 #[] #[{ accessFlags := 25, nameIndex := 123, descriptorIndex := 124, attributes := #[] }, { accessFlags := 25, nameIndex := 130, descriptorIndex := 124, attributes := #[] }, { accessFlags := 25, nameIndex := 136, descriptorIndex := 124, attributes := #[] }])
  fields := #[{ name := "SIOOBE_FORMATTER", type := (.object "java/util/function/BiFunction"), accessFlags := 25, slot := 0, constantValue := 0 }, { name := "AIOOBE_FORMATTER", type := (.object "java/util/function/BiFunction"), accessFlags := 25, slot := 1, constantValue := 0 }, { name := "IOOBE_FORMATTER", type := (.object "java/util/function/BiFunction"), accessFlags := 25, slot := 2, constantValue := 0 }]
  methods := #[k11m0, k11m1]
  instanceTypes := #[]
  staticTypes := #[(.object "java/util/function/BiFunction"), (.object "java/util/function/BiFunction"), (.object "java/util/function/BiFunction")]
  resolved := Array.replicate 194 none
  statics := none }

def pool12 : Array CpInfo := pool [(1, .methodref 2 3), (0, .class_ 4), (0, .nameAndType 5 6), (0, u "java/lang/Object"), (0, u "<init>"), (0, u "()V"), (0, .class_ 8), (0, u "java/lang/Record")] 13

def k12c0 : Code := { maxStack := 1, maxLocals := 1, code := jdk_30_method_1_code, exceptionTable := #[], attributes := #[] }
def k12m0 : Method := { name := "<init>", desc := "()V", sig := { parameters := [], returnType := none }, accessFlags := 4, code := some k12c0 }
/-- java/lang/Record -/
def k12 : Class := { plain "java/lang/Record" (some 0) with
  accessFlags := 1057
  interfaces := #[]
  cf := some (fileOf pool12 7 #[] #[{ accessFlags := 4, nameIndex := 5, descriptorIndex := 6, attributes := #[] }] 1057 2 #[] #[])
  fields := #[]
  methods := #[k12m0]
  instanceTypes := #[]
  staticTypes := #[]
  resolved := Array.replicate 22 none
  statics := none }

def pool13 : Array CpInfo := pool [(1, .class_ 2), (0, u "com/example/tributary/tributary/model/Element"), (0, .class_ 4), (0, u "java/lang/Object")] 9

/-- com/example/tributary/tributary/model/Element -/
def k13 : Class := { plain "com/example/tributary/tributary/model/Element" (some 0) with
  accessFlags := 1537
  interfaces := #[]
  cf := some (fileOf pool13 1 #[] #[] 1537 3 #[] #[])
  fields := #[]
  methods := #[]
  instanceTypes := #[]
  staticTypes := #[]
  resolved := Array.replicate 14 none
  statics := none }

def pool14 : Array CpInfo := pool [(1, .methodref 2 3), (0, .class_ 4), (0, .nameAndType 5 6), (0, u "java/lang/Record"), (0, u "<init>"), (0, u "()V"), (0, .string 8), (0, u "time"), (0, .methodref 10 11), (0, .class_ 12), (0, .nameAndType 13 14), (0, u "java/util/Objects"), (0, u "requireNonNull"), (0, u "(Ljava/lang/Object;Ljava/lang/String;)Ljava/lang/Object;"), (0, .fieldref 16 17), (0, .class_ 18), (0, .nameAndType 8 19), (0, u "com/example/tributary/tributary/model/Stable"), (0, u "Lcom/example/tributary/tributary/model/Time;"), (12, .class_ 33), (0, u "com/example/tributary/tributary/model/Element"), (0, u "(Lcom/example/tributary/tributary/model/Time;)V"), (6, u "()Lcom/example/tributary/tributary/model/Time;")] 18

def k14c0 : Code := { maxStack := 2, maxLocals := 2, code := prog_60_method_1_code, exceptionTable := #[], attributes := #[] }
def k14m0 : Method := { name := "<init>", desc := "(Lcom/example/tributary/tributary/model/Time;)V", sig := { parameters := [(.object "com/example/tributary/tributary/model/Time")], returnType := none }, accessFlags := 1, code := some k14c0 }
def k14c1 : Code := { maxStack := 1, maxLocals := 1, code := prog_60_method_5_code, exceptionTable := #[], attributes := #[] }
def k14m1 : Method := { name := "time", desc := "()Lcom/example/tributary/tributary/model/Time;", sig := { parameters := [], returnType := some (.object "com/example/tributary/tributary/model/Time") }, accessFlags := 1, code := some k14c1 }
/-- com/example/tributary/tributary/model/Stable -/
def k14 : Class := { plain "com/example/tributary/tributary/model/Stable" (some 12) with
  accessFlags := 49
  interfaces := #[13]
  cf := some (fileOf pool14 16 #[] #[{ accessFlags := 1, nameIndex := 5, descriptorIndex := 34, attributes := #[] }, { accessFlags := 1, nameIndex := 8, descriptorIndex := 41, attributes := #[] }] 49 2 #[32] #[{ accessFlags := 18, nameIndex := 8, descriptorIndex := 19, attributes := #[] }])
  fields := #[{ name := "time", type := (.object "com/example/tributary/tributary/model/Time"), accessFlags := 18, slot := 0, constantValue := 0 }]
  methods := #[k14m0, k14m1]
  instanceTypes := #[(.object "com/example/tributary/tributary/model/Time")]
  staticTypes := #[]
  resolved := Array.replicate 60 none
  statics := none }

def pool15 : Array CpInfo := pool [(1, u "java/lang/Cloneable"), (0, .class_ 1), (0, u "java/lang/Object"), (0, .class_ 3)] 3

/-- java/lang/Cloneable -/
def k15 : Class := { plain "java/lang/Cloneable" (some 0) with
  accessFlags := 1537
  interfaces := #[]
  cf := some (fileOf pool15 2 #[] #[] 1537 4 #[] #[])
  fields := #[]
  methods := #[]
  instanceTypes := #[]
  staticTypes := #[]
  resolved := Array.replicate 8 none
  statics := none }

/-- the primitive byte -/
def k16 : Class := { plain "byte" none with kind := .primitive 'B', accessFlags := 0x411 }
/-- [B -/
def k17 : Class := { plain "[B" (some 0) with kind := .array 16 .byte, interfaces := #[15, 3], accessFlags := 1041 }

/-- the primitive int -/
def k18 : Class := { plain "int" none with kind := .primitive 'I', accessFlags := 0x411 }
/-- [I -/
def k19 : Class := { plain "[I" (some 0) with kind := .array 18 .int, interfaces := #[15, 3], accessFlags := 1041 }

def heap : Heap := #[]
def classes : Array Class := #[k0, k1, k2, k3, k4, k5, k6, k7, k8, k9, k10, k11, k12, k13, k14, k15, k16, k17, k18, k19]
def interned : List (Array UInt16 × Addr) := []
def slotsUsed : Nat := 0
def theMethod : MethodId := ⟨1, 3⟩
def args0 : Array Value := #[.long 5, .int 1, .int 2, .int 3, .int 1]
def aboutOver (below : List Frame) : State where
  vm := { classes := classes, interned := interned.toArray }
  heap := heap
  slotsUsed := slotsUsed
  threads := #[{ frames := .invoking theMethod args0 :: below }]
def below0 : List Frame := [.native { method := ⟨0, 0⟩, args := #[] }]
def about1 : State := aboutOver below0
def p0 : Program := .bare "" "" ""
def e0 : Env := launch0.env 0 0 0
theorem w_frames : about1.frames = Frame.invoking theMethod args0 :: below0 := rfl
set_option maxRecDepth 65536 in
theorem w_args : argsFit about1.vm theMethod args0 = true := by decide +kernel
set_option maxRecDepth 65536 in
theorem w_heap : heapFits about1 = true := by decide +kernel
set_option maxRecDepth 65536 in
theorem w_runnable : about1.curStatus? = some .runnable := by decide +kernel
set_option maxRecDepth 65536 in
theorem w_alone : about1.alone = true := by decide +kernel
set_option maxRecDepth 65536 in
theorem w_named : about1.methodNamed? x = some theMethod := by decide +kernel
set_option maxRecDepth 65536 in
theorem w_hears : about1.hears theMethod below0 = true := by decide +kernel
set_option maxRecDepth 65536 in
theorem w_ripe : about1.ripe theMethod args0 below0 = true := by decide +kernel
theorem w_running : about1.status = .running := rfl
set_option maxRecDepth 65536 in
theorem w_room : about1.hasRoom e0.platform room_1 = true :=
  launch0.hasRoom_least _ room_1 (by decide +kernel) (by decide +kernel) (by decide +kernel) (by decide +kernel) (by decide +kernel) (by decide +kernel)
theorem allAtoms_all (ts : List Jvm.Cond) (a : Array Jvm.Value) (st : Jvm.State) : (allAtoms ts).before a st = ts.all (fun c => c.before a st) := by
  induction ts with
  | nil => rfl
  | cons c t ih =>
    show (Jvm.Cond.and c (allAtoms t)).before a st = _
    rw [Jvm.Cond.before_and, ih, List.all_cons]
def words1 : List Jvm.Cond := Jvm.Cond.code x code maxLocals ret :: tables_1
/-- a 'code' word, met by the world's own term for the bytes: nothing is compared byte by byte -/
theorem code_word {y : MethodName} {bytes : ByteArray} {mx : Nat} {rt : Option FieldType} {a : Array Value} {s : State} {m : MethodId} {meth : Method} {c : Code} (h1 : s.methodNamed? y = some m) (h2 : s.vm.method? m = some meth) (h3 : meth.code = some c) (h4 : c.code = bytes)
    (h5 : (c.maxLocals == mx && c.exceptionTable.isEmpty && decide (c.maxStack ≤ mostOperands) && decide (meth.sig.returnType = rt) && !meth.locks && decide (parseMethodDescriptor y.desc = some meth.sig)) = true) : (Jvm.Cond.code y bytes mx rt).before a s = true := by
  simp only [Bool.and_eq_true, beq_iff_eq, Bool.not_eq_true', decide_eq_true_eq] at h5
  obtain ⟨⟨⟨⟨⟨g1, g2⟩, g3⟩, g4⟩, g5⟩, g6⟩ := h5
  simp [Cond.before, Cond.holds, Cond.value, h1, h2, h3, h4, g1, g2, g3, g4, g5, g6]
def isCode : Jvm.Cond → Bool
  | .code _ _ _ _ => true
  | _ => false
theorem all_split {L : List Jvm.Cond} {P : Jvm.Cond → Bool} (h1 : L.all (fun c => isCode c || P c) = true) (h2 : ∀ c ∈ L.filter isCode, P c = true) : L.all P = true := by
  refine List.all_eq_true.mpr fun c hc => ?_
  have h := List.all_eq_true.mp h1 c hc
  rcases Bool.eq_false_or_eq_true (isCode c) with hi | hi
  · exact h2 c (List.mem_filter.mpr ⟨hc, hi⟩)
  · simpa [hi] using h
set_option maxRecDepth 65536 in
theorem w_c0 : (Jvm.Cond.code x code maxLocals ret).before args0 about1 = true := code_word (m := ⟨1, 3⟩) (meth := k1m3) (c := k1c3) (by decide +kernel) rfl rfl rfl (by decide +kernel)
set_option maxRecDepth 65536 in
theorem w_c1 : (Jvm.Cond.code ({ cls := "com/example/tributary/tributary/io/LineFormatBeginPinLaw", name := "dig", desc := "(JI)B" } : Jvm.MethodName) method_2_code (3 : Nat) (Option.some Jvm.ClassFile.FieldType.byte)).before args0 about1 = true := code_word (m := ⟨1, 1⟩) (meth := k1m1) (c := k1c1) (by decide +kernel) rfl rfl rfl (by decide +kernel)
set_option maxRecDepth 65536 in
theorem w_c2 : (Jvm.Cond.code ({ cls := "com/example/tributary/tributary/io/LineFormat", name := "<init>", desc := "()V" } : Jvm.MethodName) prog_36_method_1_code (1 : Nat) (Option.none : Option Jvm.ClassFile.FieldType)).before args0 about1 = true := code_word (m := ⟨2, 0⟩) (meth := k2m0) (c := k2c0) (by decide +kernel) rfl rfl rfl (by decide +kernel)
set_option maxRecDepth 65536 in
theorem w_c3 : (Jvm.Cond.code ({ cls := "java/lang/Object", name := "<init>", desc := "()V" } : Jvm.MethodName) object_method_1_code (1 : Nat) (Option.none : Option Jvm.ClassFile.FieldType)).before args0 about1 = true := code_word (m := ⟨0, 0⟩) (meth := k0m0) (c := k0c0) (by decide +kernel) rfl rfl rfl (by decide +kernel)
set_option maxRecDepth 65536 in
theorem w_c4 : (Jvm.Cond.code ({ cls := "com/example/tributary/tributary/io/LineFormat", name := "begin", desc := "([BII)V" } : Jvm.MethodName) prog_36_method_5_code (4 : Nat) (Option.none : Option Jvm.ClassFile.FieldType)).before args0 about1 = true := code_word (m := ⟨2, 1⟩) (meth := k2m1) (c := k2c1) (by decide +kernel) rfl rfl rfl (by decide +kernel)
set_option maxRecDepth 65536 in
theorem w_c5 : (Jvm.Cond.code ({ cls := "com/example/tributary/tributary/io/LineFormat", name := "hasArrival", desc := "()Z" } : Jvm.MethodName) prog_36_method_6_code (1 : Nat) (Option.some Jvm.ClassFile.FieldType.boolean)).before args0 about1 = true := code_word (m := ⟨2, 2⟩) (meth := k2m2) (c := k2c2) (by decide +kernel) rfl rfl rfl (by decide +kernel)
set_option maxRecDepth 65536 in
theorem w_c6 : (Jvm.Cond.code ({ cls := "com/example/tributary/tributary/io/LineFormat", name := "arrival", desc := "()J" } : Jvm.MethodName) prog_36_method_7_code (1 : Nat) (Option.some Jvm.ClassFile.FieldType.long)).before args0 about1 = true := code_word (m := ⟨2, 3⟩) (meth := k2m3) (c := k2c3) (by decide +kernel) rfl rfl rfl (by decide +kernel)
set_option maxRecDepth 65536 in
theorem w_c7 : (Jvm.Cond.code ({ cls := "com/example/tributary/tributary/io/LineFormat", name := "nextTime", desc := "(Ljava/lang/String;Z)Lcom/example/tributary/tributary/model/Time;" } : Jvm.MethodName) prog_36_method_9_code (5 : Nat) (Option.some (Jvm.ClassFile.FieldType.object "com/example/tributary/tributary/model/Time"))).before args0 about1 = true := code_word (m := ⟨2, 5⟩) (meth := k2m5) (c := k2c5) (by decide +kernel) rfl rfl rfl (by decide +kernel)
set_option maxRecDepth 65536 in
theorem w_c8 : (Jvm.Cond.code ({ cls := "com/example/tributary/tributary/model/Time", name := "parse", desc := "([BII)Lcom/example/tributary/tributary/model/Time;" } : Jvm.MethodName) prog_64_method_4_code (4 : Nat) (Option.some (Jvm.ClassFile.FieldType.object "com/example/tributary/tributary/model/Time"))).before args0 about1 = true := code_word (m := ⟨9, 2⟩) (meth := k9m2) (c := k9c2) (by decide +kernel) rfl rfl rfl (by decide +kernel)
set_option maxRecDepth 65536 in
theorem w_c9 : (Jvm.Cond.code ({ cls := "java/util/Objects", name := "checkFromIndexSize", desc := "(III)I" } : Jvm.MethodName) jdk_31_method_19_code (3 : Nat) (Option.some Jvm.ClassFile.FieldType.int)).before args0 about1 = true := code_word (m := ⟨10, 2⟩) (meth := k10m2) (c := k10c2) (by decide +kernel) rfl rfl rfl (by decide +kernel)
set_option maxRecDepth 65536 in
theorem w_c10 : (Jvm.Cond.code ({ cls := "jdk/internal/util/Preconditions", name := "checkFromIndexSize", desc := "(IIILjava/util/function/BiFunction;)I" } : Jvm.MethodName) jdk_41_method_13_code (4 : Nat) (Option.some Jvm.ClassFile.FieldType.int)).before args0 about1 = true := code_word (m := ⟨11, 1⟩) (meth := k11m1) (c := k11c1) (by decide +kernel) rfl rfl rfl (by decide +kernel)
set_option maxRecDepth 65536 in
theorem w_c11 : (Jvm.Cond.code ({ cls := "com/example/tributary/tributary/model/Time", name := "value", desc := "([BII)J" } : Jvm.MethodName) prog_64_method_5_code (12 : Nat) (Option.some Jvm.ClassFile.FieldType.long)).before args0 about1 = true := code_word (m := ⟨9, 3⟩) (meth := k9m3) (c := k9c3) (by decide +kernel) rfl rfl rfl (by decide +kernel)
set_option maxRecDepth 65536 in
theorem w_c12 : (Jvm.Cond.code ({ cls := "com/example/tributary/tributary/model/Time", name := "of", desc := "(J)Lcom/example/tributary/tributary/model/Time;" } : Jvm.MethodName) prog_64_method_2_code (2 : Nat) (Option.some (Jvm.ClassFile.FieldType.object "com/example/tributary/tributary/model/Time"))).before args0 about1 = true := code_word (m := ⟨9, 1⟩) (meth := k9m1) (c := k9c1) (by decide +kernel) rfl rfl rfl (by decide +kernel)
set_option maxRecDepth 65536 in
theorem w_c13 : (Jvm.Cond.code ({ cls := "com/example/tributary/tributary/model/Time", name := "<init>", desc := "(JZ)V" } : Jvm.MethodName) prog_64_method_1_code (4 : Nat) (Option.none : Option Jvm.ClassFile.FieldType)).before args0 about1 = true := code_word (m := ⟨9, 0⟩) (meth := k9m0) (c := k9c0) (by decide +kernel) rfl rfl rfl (by decide +kernel)
set_option maxRecDepth 65536 in
theorem w_c14 : (Jvm.Cond.code ({ cls := "com/example/tributary/tributary/model/Time", name := "isInfinite", desc := "()Z" } : Jvm.MethodName) prog_64_method_7_code (1 : Nat) (Option.some Jvm.ClassFile.FieldType.boolean)).before args0 about1 = true := code_word (m := ⟨9, 4⟩) (meth := k9m4) (c := k9c4) (by decide +kernel) rfl rfl rfl (by decide +kernel)
set_option maxRecDepth 65536 in
theorem w_c15 : (Jvm.Cond.code ({ cls := "com/example/tributary/tributary/model/Time", name := "value", desc := "()J" } : Jvm.MethodName) prog_64_method_8_code (1 : Nat) (Option.some Jvm.ClassFile.FieldType.long)).before args0 about1 = true := code_word (m := ⟨9, 5⟩) (meth := k9m5) (c := k9c5) (by decide +kernel) rfl rfl rfl (by decide +kernel)
set_option maxRecDepth 65536 in
theorem w_c16 : (Jvm.Cond.code ({ cls := "com/example/tributary/tributary/io/LineFormatBeginPinLaw", name := "num", desc := "([BII)J" } : Jvm.MethodName) method_3_code (5 : Nat) (Option.some Jvm.ClassFile.FieldType.long)).before args0 about1 = true := code_word (m := ⟨1, 2⟩) (meth := k1m2) (c := k1c2) (by decide +kernel) rfl rfl rfl (by decide +kernel)
set_option maxRecDepth 65536 in
theorem w_c17 : (Jvm.Cond.code ({ cls := "com/example/tributary/tributary/io/LineFormat", name := "element", desc := "(Lcom/example/tributary/tributary/model/HeldPayloads;)Lcom/example/tributary/tributary/model/Element;" } : Jvm.MethodName) prog_36_method_8_code (6 : Nat) (Option.some (Jvm.ClassFile.FieldType.object "com/example/tributary/tributary/model/Element"))).before args0 about1 = true := code_word (m := ⟨2, 4⟩) (meth := k2m4) (c := k2c4) (by decide +kernel) rfl rfl rfl (by decide +kernel)
set_option maxRecDepth 65536 in
theorem w_c18 : (Jvm.Cond.code ({ cls := "com/example/tributary/tributary/model/Stable", name := "<init>", desc := "(Lcom/example/tributary/tributary/model/Time;)V" } : Jvm.MethodName) prog_60_method_1_code (2 : Nat) (Option.none : Option Jvm.ClassFile.FieldType)).before args0 about1 = true := code_word (m := ⟨14, 0⟩) (meth := k14m0) (c := k14c0) (by decide +kernel) rfl rfl rfl (by decide +kernel)
set_option maxRecDepth 65536 in
theorem w_c19 : (Jvm.Cond.code ({ cls := "java/lang/Record", name := "<init>", desc := "()V" } : Jvm.MethodName) jdk_30_method_1_code (1 : Nat) (Option.none : Option Jvm.ClassFile.FieldType)).before args0 about1 = true := code_word (m := ⟨12, 0⟩) (meth := k12m0) (c := k12c0) (by decide +kernel) rfl rfl rfl (by decide +kernel)
set_option maxRecDepth 65536 in
theorem w_c20 : (Jvm.Cond.code ({ cls := "java/util/Objects", name := "requireNonNull", desc := "(Ljava/lang/Object;Ljava/lang/String;)Ljava/lang/Object;" } : Jvm.MethodName) jdk_31_method_11_code (2 : Nat) (Option.some (Jvm.ClassFile.FieldType.object "java/lang/Object"))).before args0 about1 = true := code_word (m := ⟨10, 1⟩) (meth := k10m1) (c := k10c1) (by decide +kernel) rfl rfl rfl (by decide +kernel)
set_option maxRecDepth 65536 in
theorem w_c21 : (Jvm.Cond.code ({ cls := "com/example/tributary/tributary/model/Stable", name := "time", desc := "()Lcom/example/tributary/tributary/model/Time;" } : Jvm.MethodName) prog_60_method_5_code (1 : Nat) (Option.some (Jvm.ClassFile.FieldType.object "com/example/tributary/tributary/model/Time"))).before args0 about1 = true := code_word (m := ⟨14, 1⟩) (meth := k14m1) (c := k14c1) (by decide +kernel) rfl rfl rfl (by decide +kernel)
def codes1 : List Jvm.Cond := [Jvm.Cond.code x code maxLocals ret, Jvm.Cond.code ({ cls := "com/example/tributary/tributary/io/LineFormatBeginPinLaw", name := "dig", desc := "(JI)B" } : Jvm.MethodName) method_2_code (3 : Nat) (Option.some Jvm.ClassFile.FieldType.byte), Jvm.Cond.code ({ cls := "com/example/tributary/tributary/io/LineFormat", name := "<init>", desc := "()V" } : Jvm.MethodName) prog_36_method_1_code (1 : Nat) (Option.none : Option Jvm.ClassFile.FieldType), Jvm.Cond.code ({ cls := "java/lang/Object", name := "<init>", desc := "()V" } : Jvm.MethodName) object_method_1_code (1 : Nat) (Option.none : Option Jvm.ClassFile.FieldType), Jvm.Cond.code ({ cls := "com/example/tributary/tributary/io/LineFormat", name := "begin", desc := "([BII)V" } : Jvm.MethodName) prog_36_method_5_code (4 : Nat) (Option.none : Option Jvm.ClassFile.FieldType), Jvm.Cond.code ({ cls := "com/example/tributary/tributary/io/LineFormat", name := "hasArrival", desc := "()Z" } : Jvm.MethodName) prog_36_method_6_code (1 : Nat) (Option.some Jvm.ClassFile.FieldType.boolean), Jvm.Cond.code ({ cls := "com/example/tributary/tributary/io/LineFormat", name := "arrival", desc := "()J" } : Jvm.MethodName) prog_36_method_7_code (1 : Nat) (Option.some Jvm.ClassFile.FieldType.long), Jvm.Cond.code ({ cls := "com/example/tributary/tributary/io/LineFormat", name := "nextTime", desc := "(Ljava/lang/String;Z)Lcom/example/tributary/tributary/model/Time;" } : Jvm.MethodName) prog_36_method_9_code (5 : Nat) (Option.some (Jvm.ClassFile.FieldType.object "com/example/tributary/tributary/model/Time")), Jvm.Cond.code ({ cls := "com/example/tributary/tributary/model/Time", name := "parse", desc := "([BII)Lcom/example/tributary/tributary/model/Time;" } : Jvm.MethodName) prog_64_method_4_code (4 : Nat) (Option.some (Jvm.ClassFile.FieldType.object "com/example/tributary/tributary/model/Time")), Jvm.Cond.code ({ cls := "java/util/Objects", name := "checkFromIndexSize", desc := "(III)I" } : Jvm.MethodName) jdk_31_method_19_code (3 : Nat) (Option.some Jvm.ClassFile.FieldType.int), Jvm.Cond.code ({ cls := "jdk/internal/util/Preconditions", name := "checkFromIndexSize", desc := "(IIILjava/util/function/BiFunction;)I" } : Jvm.MethodName) jdk_41_method_13_code (4 : Nat) (Option.some Jvm.ClassFile.FieldType.int), Jvm.Cond.code ({ cls := "com/example/tributary/tributary/model/Time", name := "value", desc := "([BII)J" } : Jvm.MethodName) prog_64_method_5_code (12 : Nat) (Option.some Jvm.ClassFile.FieldType.long), Jvm.Cond.code ({ cls := "com/example/tributary/tributary/model/Time", name := "of", desc := "(J)Lcom/example/tributary/tributary/model/Time;" } : Jvm.MethodName) prog_64_method_2_code (2 : Nat) (Option.some (Jvm.ClassFile.FieldType.object "com/example/tributary/tributary/model/Time")), Jvm.Cond.code ({ cls := "com/example/tributary/tributary/model/Time", name := "<init>", desc := "(JZ)V" } : Jvm.MethodName) prog_64_method_1_code (4 : Nat) (Option.none : Option Jvm.ClassFile.FieldType), Jvm.Cond.code ({ cls := "com/example/tributary/tributary/model/Time", name := "isInfinite", desc := "()Z" } : Jvm.MethodName) prog_64_method_7_code (1 : Nat) (Option.some Jvm.ClassFile.FieldType.boolean), Jvm.Cond.code ({ cls := "com/example/tributary/tributary/model/Time", name := "value", desc := "()J" } : Jvm.MethodName) prog_64_method_8_code (1 : Nat) (Option.some Jvm.ClassFile.FieldType.long), Jvm.Cond.code ({ cls := "com/example/tributary/tributary/io/LineFormatBeginPinLaw", name := "num", desc := "([BII)J" } : Jvm.MethodName) method_3_code (5 : Nat) (Option.some Jvm.ClassFile.FieldType.long), Jvm.Cond.code ({ cls := "com/example/tributary/tributary/io/LineFormat", name := "element", desc := "(Lcom/example/tributary/tributary/model/HeldPayloads;)Lcom/example/tributary/tributary/model/Element;" } : Jvm.MethodName) prog_36_method_8_code (6 : Nat) (Option.some (Jvm.ClassFile.FieldType.object "com/example/tributary/tributary/model/Element")), Jvm.Cond.code ({ cls := "com/example/tributary/tributary/model/Stable", name := "<init>", desc := "(Lcom/example/tributary/tributary/model/Time;)V" } : Jvm.MethodName) prog_60_method_1_code (2 : Nat) (Option.none : Option Jvm.ClassFile.FieldType), Jvm.Cond.code ({ cls := "java/lang/Record", name := "<init>", desc := "()V" } : Jvm.MethodName) jdk_30_method_1_code (1 : Nat) (Option.none : Option Jvm.ClassFile.FieldType), Jvm.Cond.code ({ cls := "java/util/Objects", name := "requireNonNull", desc := "(Ljava/lang/Object;Ljava/lang/String;)Ljava/lang/Object;" } : Jvm.MethodName) jdk_31_method_11_code (2 : Nat) (Option.some (Jvm.ClassFile.FieldType.object "java/lang/Object")), Jvm.Cond.code ({ cls := "com/example/tributary/tributary/model/Stable", name := "time", desc := "()Lcom/example/tributary/tributary/model/Time;" } : Jvm.MethodName) prog_60_method_5_code (1 : Nat) (Option.some (Jvm.ClassFile.FieldType.object "com/example/tributary/tributary/model/Time"))]
set_option maxRecDepth 65536 in
theorem codes_eq : words1.filter isCode = codes1 := rfl
theorem w_codes : ∀ c ∈ words1.filter isCode, c.before args0 about1 = true := by
  rw [codes_eq]
  intro c hc
  simp only [codes1, List.mem_cons, List.not_mem_nil, or_false] at hc
  rcases hc with rfl | rfl | rfl | rfl | rfl | rfl | rfl | rfl | rfl | rfl | rfl | rfl | rfl | rfl | rfl | rfl | rfl | rfl | rfl | rfl | rfl | rfl
  · exact w_c0
  · exact w_c1
  · exact w_c2
  · exact w_c3
  · exact w_c4
  · exact w_c5
  · exact w_c6
  · exact w_c7
  · exact w_c8
  · exact w_c9
  · exact w_c10
  · exact w_c11
  · exact w_c12
  · exact w_c13
  · exact w_c14
  · exact w_c15
  · exact w_c16
  · exact w_c17
  · exact w_c18
  · exact w_c19
  · exact w_c20
  · exact w_c21
set_option maxRecDepth 65536 in
theorem w_t1 : (words1.take 24).all (fun c => isCode c || c.before args0 about1) = true := by decide +kernel
set_option maxRecDepth 65536 in
theorem w_t2 : ((words1.drop 24).take 24).all (fun c => isCode c || c.before args0 about1) = true := by decide +kernel
set_option maxRecDepth 65536 in
theorem w_t3 : (((words1.drop 24).drop 24).take 24).all (fun c => isCode c || c.before args0 about1) = true := by decide +kernel
set_option maxRecDepth 65536 in
theorem w_t4 : ((((words1.drop 24).drop 24).drop 24).take 24).all (fun c => isCode c || c.before args0 about1) = true := by decide +kernel
set_option maxRecDepth 65536 in
theorem w_t5 : (((((words1.drop 24).drop 24).drop 24).drop 24).take 24).all (fun c => isCode c || c.before args0 about1) = true := by decide +kernel
set_option maxRecDepth 65536 in
theorem w_t6 : (((((words1.drop 24).drop 24).drop 24).drop 24).drop 24).all (fun c => isCode c || c.before args0 about1) = true := by decide +kernel
theorem w_tables : (allAtoms (Jvm.Cond.code x code maxLocals ret :: tables_1)).before args0 about1 = true := by
  rw [allAtoms_all]
  show words1.all (fun c => c.before args0 about1) = true
  refine all_split ?_ w_codes
  rw [← List.take_append_drop 24 words1, List.all_append, w_t1, ← List.take_append_drop 24 (words1.drop 24), List.all_append, w_t2, ← List.take_append_drop 24 ((words1.drop 24).drop 24), List.all_append, w_t3, ← List.take_append_drop 24 (((words1.drop 24).drop 24).drop 24), List.all_append, w_t4, ← List.take_append_drop 24 ((((words1.drop 24).drop 24).drop 24).drop 24), List.all_append, w_t5, w_t6]
  rfl
set_option maxRecDepth 65536 in
theorem w_case : (Jvm.Cond.and given_1 narrow_1).before args0 about1 = true := by decide +kernel
theorem w_applies : (headSpec (Jvm.Cond.code x code maxLocals ret :: tables_1) room_1).applies x e0.platform about1 = true :=
  (Spec.applies_iff w_frames).mpr ⟨w_running, w_runnable, w_alone, w_named, w_hears, w_ripe, w_room, w_tables⟩
theorem atStart : AtStart classFile x code maxLocals ret World_1 tables_1 room_1 Calls_1 rest_1 Pre_1 launch0 p0 e0 about1 theMethod args0 below0 :=
  ⟨lists_1, trivial, launch0.admits_env _ _ _, launch0.least_env, fairChoices_fair.cas, fairChoices_fair.clock, w_frames, w_args, w_heap, w_applies, trivial, trivial, w_case⟩
end start1
theorem witness_1 : WitnessClaimed_1 := ⟨start1.p0, start1.e0, start1.about1, start1.theMethod, start1.args0, start1.below0, start1.atStart⟩
end Jvm.Pilot.@@N@@
