import JvmDerived
import JvmDerived.Pilot.@@N@@Statement
import JvmDerived.Pilot.@@N@@Code
set_option linter.unusedVariables false
set_option linter.unusedSimpArgs false
namespace Jvm.Own
open Sem ClassFile Op Lib Jvm.Stand Jvm.Free Jvm.LawKit Jvm.RoadKit
/-! ## A. the heap, owned cell by cell -/
/-- what is fixed for the whole proof: launch, start, its arguments, the String entries whose text is known, may it intern -/
abbrev Gx : Type := Launch × State × Array Value × List (String × Nat) × Bool
abbrev Gx.l (Γ : Gx) : Launch := Γ.1
abbrev Gx.Z (Γ : Gx) : State := Γ.2.1
abbrev Gx.a0 (Γ : Gx) : Array Value := Γ.2.2.1
abbrev Gx.EL (Γ : Gx) : List (String × Nat) := Γ.2.2.2.1
abbrev Gx.w (Γ : Gx) : Bool := Γ.2.2.2.2
/-- a field: the class that declares it, its name, its descriptor, its value -/
abbrev Fd : Type := String × String × String × Value
/-- an owned (true) or shared (false) cell and what is known of it -/
abbrev El : Type := Addr × Bool × (Cell → Prop)
abbrev OL : Type := List El
def FC (Γ : Gx) (C : String) (c : Cell) (f : Fd) : Prop :=
  Laid Γ.Z Γ.a0 C f.1 f.2.1 f.2.2.1 ∧ (∃ ty, parseFieldDescriptor f.2.2.1 = some ty) ∧ ∃ (cf : ClassId) (k : Class) (i : Nat) (fd : Field), Γ.Z.fieldFound? f.1 f.2.1 f.2.2.1 = some (cf, k, i, fd) ∧ fd.isStatic = false ∧ Γ.Z.vm.assignable c.cls cf = true ∧ c.slots[fd.slot]? = some f.2.2.2
def Obj (Γ : Gx) (C : String) (fs : List Fd) (c : Cell) : Prop :=
  (∃ k : Class, Γ.Z.vm.findClass C = some c.cls ∧ Γ.Z.vm.classes[c.cls]? = some k ∧ (k.kind = .ordinary → c.slots.size = k.instanceTypes.size)) ∧ c.vm ≠ .unknown ∧ c.vm.isStatics = false ∧ ∀ f ∈ fs, FC Γ C c f
def Ary (Γ : Gx) (ad : String) (ty : FieldType) (vs : List Value) (c : Cell) : Prop :=
  (ad ≠ "" → ∃ k : Class, Γ.Z.vm.findClass ad = some c.cls ∧ Γ.Z.vm.classes[c.cls]? = some k) ∧ Γ.Z.isArrayOf c ty ∧ c.vm ≠ .unknown ∧ c.slots.toList = vs ∧ vs.length < 2 ^ 31 ∧ (∀ v ∈ vs, fits ty v = true) ∧ ∀ C, ty = .object C → Ovr Γ.Z c.cls C
/-- of an owned cell and another: they differ -/
def Dis (L : List (Addr × Bool)) : Prop := L.Pairwise fun x y => (x.2 = true ∨ y.2 = true) → x.1 ≠ y.1
abbrev key (x : El) : Addr × Bool := (x.1, x.2.1)
def Inv (Γ : Gx) (vm : Vm) (h : Heap) (O : OL) : Prop :=
  Γ.Z.Warmed39 vm ∧ Ext Γ.Z.heap h ∧ (Γ.w = true → EW Γ.Z Γ.a0 Γ.EL ∧ CHv Γ.Z Γ.EL vm h) ∧
  (∀ x ∈ O, ∃ c : Cell, h[x.1]? = some c ∧ x.2.2 c) ∧ (∀ x ∈ O, x.2.1 = true → Γ.Z.heap.size ≤ x.1 ∧ (Γ.w = true → Safe Γ.Z Γ.EL vm h x.1)) ∧ Dis (O.map key)
section A
variable {Γ : Gx} {vm vm1 : Vm} {h h' : Heap} {O O' : OL} {a : Addr} {φ φ' : Cell → Prop}
theorem Inv.Z (I : Inv Γ vm h O) : Γ.Z.Warmed39 vm := I.1
theorem Inv.ext0 (I : Inv Γ vm h O) : Ext Γ.Z.heap h := I.2.1
theorem Inv.cell (I : Inv Γ vm h O) {b : Bool} (hm : (a, b, φ) ∈ O) : ∃ c : Cell, h[a]? = some c ∧ φ c := I.2.2.2.1 _ hm
theorem Inv.new (I : Inv Γ vm h O) (hm : (a, true, φ) ∈ O) : Γ.Z.heap.size ≤ a := (I.2.2.2.2.1 _ hm rfl).1
theorem dis_perm {L L' : List (Addr × Bool)} (p : L.Perm L') (D : Dis L) : Dis L' :=
  (p.pairwise_iff (fun {x y} r q => (r (q.symm)).symm)).mp D
theorem Inv.perm (I : Inv Γ vm h O) (p : O.Perm O') : Inv Γ vm h O' :=
  ⟨I.1, I.2.1, I.2.2.1, fun x hx => I.2.2.2.1 x (p.mem_iff.mpr hx), fun x hx => I.2.2.2.2.1 x (p.mem_iff.mpr hx), dis_perm (p.map key) I.2.2.2.2.2⟩
/-- parts may be forgotten -/
theorem Inv.sub (I : Inv Γ vm h O) (p : O'.Sublist O) : Inv Γ vm h O' :=
  ⟨I.1, I.2.1, I.2.2.1, fun x hx => I.2.2.2.1 x (p.subset hx), fun x hx => I.2.2.2.2.1 x (p.subset hx), List.Pairwise.sublist (p.map key) I.2.2.2.2.2⟩
/-- what is known of one cell may be weakened -/
theorem Inv.weak (I : Inv Γ vm h O) {A B : OL} {b : Bool} (e : O = A ++ (a, b, φ) :: B) (q : ∀ c, φ c → φ' c) : Inv Γ vm h (A ++ (a, b, φ') :: B) := by
  subst e
  obtain ⟨h1, h2, h3, h4, h5, h6⟩ := I
  refine ⟨h1, h2, h3, fun x hx => ?_, fun x hx => ?_, by simpa using h6⟩
  · rcases List.mem_append.mp hx with m | m
    · exact h4 x (List.mem_append_left _ m)
    · rcases List.mem_cons.mp m with rfl | m
      · obtain ⟨c, e1, e2⟩ := h4 (a, b, φ) (by simp)
        exact ⟨c, e1, q c e2⟩
      · exact h4 x (by simp [m])
  · rcases List.mem_append.mp hx with m | m
    · exact h5 x (List.mem_append_left _ m)
    · rcases List.mem_cons.mp m with rfl | m
      · exact h5 (a, b, φ) (by simp)
      · exact h5 x (by simp [m])
theorem Inv.alloc (I : Inv Γ vm h O) (E : Ext h h') {c : Cell} (hc : h'[h.size]? = some c) (hφ : φ c) : Inv Γ vm h' ((h.size, true, φ) :: O) := by
  obtain ⟨h1, h2, h3, h4, h5, h6⟩ := I
  refine ⟨h1, ⟨Nat.le_trans h2.1 E.1, fun x c q => E.2 _ _ (h2.2 _ _ q)⟩, fun w => ⟨(h3 w).1, (h3 w).2.ext E⟩, fun x hx => ?_, fun x hx ht => ?_, ?_⟩
  · rcases List.mem_cons.mp hx with rfl | hx
    · exact ⟨c, hc, hφ⟩
    · obtain ⟨c', e1, e2⟩ := h4 x hx; exact ⟨c', E.2 _ _ e1, e2⟩
  · rcases List.mem_cons.mp hx with rfl | hx
    · exact ⟨h2.1, fun w => (Safe.new (Nat.le_refl _)).ext E (h3 w).2⟩
    · exact ⟨(h5 x hx ht).1, fun w => ((h5 x hx ht).2 w).ext E (h3 w).2⟩
  · refine List.pairwise_cons.mpr ⟨fun y hy _ e => ?_, h6⟩
    obtain ⟨z, hz, rfl⟩ := List.mem_map.mp hy
    obtain ⟨c', e1, -⟩ := h4 z hz
    have := (Array.getElem?_eq_some_iff.mp e1).1
    have e' : h.size = z.1 := e
    omega
/-- an owned cell is written -/
theorem Inv.write (I : Inv Γ vm h O) {A B : OL} (e : O = A ++ (a, true, φ) :: B) {sl : Nat} {v : Value} (W : Wr h h' a sl v) (q : ∀ c, φ c → h[a]? = some c → φ' (c.setSlot sl v)) : Inv Γ vm h' (A ++ (a, true, φ') :: B) := by
  subst e
  obtain ⟨h1, h2, h3, h4, h5, h6⟩ := I
  have n0 := h5 (a, true, φ) (by simp) rfl
  have ne : ∀ x ∈ A ++ B, x.1 ≠ a := fun x hx => by
    have p : (A ++ (a, true, φ) :: B).Perm ((a, true, φ) :: (A ++ B)) := List.perm_middle
    have D := dis_perm (p.map key) h6
    have r := (List.pairwise_cons.mp D).1 (key x) (List.mem_map.mpr ⟨x, hx, rfl⟩) (Or.inl rfl)
    exact fun z => r z.symm
  have oth : ∀ (x : Addr) (c : Cell), x ≠ a → h[x]? = some c → h'[x]? = some c := fun x c hx e => by
    obtain ⟨c0, -, -, -, rfl⟩ := W
    rw [Array.getElem?_setIfInBounds_ne (Ne.symm hx)]; exact e
  have mine : ∀ c, h[a]? = some c → h'[a]? = some (c.setSlot sl v) := fun c e => by
    obtain ⟨c0, e0, -, -, rfl⟩ := W
    cases e0.symm.trans e
    rw [Array.getElem?_setIfInBounds_self_of_lt (Array.getElem?_eq_some_iff.mp e).1]
  have key' : ∀ x ∈ A ++ (a, true, φ') :: B, x = (a, true, φ') ∨ (x ∈ A ++ B ∧ x ∈ A ++ (a, true, φ) :: B) := fun x hx => by
    rcases List.mem_append.mp hx with m | m
    · exact Or.inr ⟨by simp [m], by simp [m]⟩
    · rcases List.mem_cons.mp m with r | m
      · exact Or.inl r
      · exact Or.inr ⟨by simp [m], by simp [m]⟩
  refine ⟨h1, ⟨Nat.le_trans h2.1 (Nat.le_of_eq W.size.symm), fun x c r => oth x c (fun z => ?_) (h2.2 _ _ r)⟩, fun w => ⟨(h3 w).1, (h3 w).2.wr W (n0.2 w)⟩, fun x hx => ?_, fun x hx ht => ?_, by simpa using h6⟩
  · have := (Array.getElem?_eq_some_iff.mp r).1
    have := n0.1
    subst z
    simp only at this
    omega
  · rcases key' x hx with rfl | ⟨m1, m2⟩
    · obtain ⟨c, e1, e2⟩ := h4 (a, true, φ) (by simp)
      exact ⟨_, mine c e1, q c e2 e1⟩
    · obtain ⟨c, e1, e2⟩ := h4 x m2
      exact ⟨c, oth _ _ (ne x m1) e1, e2⟩
  · rcases key' x hx with rfl | ⟨m1, m2⟩
    · exact ⟨n0.1, fun w => Safe.wr W (n0.2 w) (h3 w).2 (n0.2 w)⟩
    · exact ⟨(h5 x m2 ht).1, fun w => Safe.wr W (n0.2 w) (h3 w).2 ((h5 x m2 ht).2 w)⟩
/-- the tables warm, the heap stands -/
theorem Inv.later {s : State} (I : Inv Γ vm h O) (hW : (s.setVm vm).WarmedH vm1) : Inv Γ vm1 h O := by
  obtain ⟨h1, h2, h3, h4, h5, h6⟩ := I
  have k : Γ.w = true → CHv Γ.Z Γ.EL vm1 h ∧ ∀ x, Safe Γ.Z Γ.EL vm h x → Safe Γ.Z Γ.EL vm1 h x := fun w => by
    have q := CHv.later (h' := h) h1 (hW := (show (Wst Γ.Z vm h).Warmed39 vm1 from hW.wide)) (h3 w).1 ⟨Nat.le_refl _, fun _ _ q => q⟩ (Or.inl hW.interned_eq) (h3 w).2
    refine ⟨q.1, fun x S B => ?_⟩
    obtain ⟨c, e⟩ := B.there
    rcases q.2 x B with r | r
    · exact S r
    · have := (Array.getElem?_eq_some_iff.mp e).1; omega
  exact ⟨State.Warmed39.trans (t := s.setVm vm) h1 hW.wide, h2, fun w => ⟨(h3 w).1, (k w).1⟩, h4, fun x hx ht => ⟨(h5 x hx ht).1, fun w => (k w).2 _ ((h5 x hx ht).2 w)⟩, h6⟩
/-- a walk that interns nothing: the tables count for nothing but Warmed39 -/
theorem Inv.narrow (I : Inv Γ vm h O) (hw : Γ.w = false) (hZ : Γ.Z.Warmed39 vm1) : Inv Γ vm1 h O := by
  obtain ⟨h1, h2, h3, h4, h5, h6⟩ := I
  exact ⟨hZ, h2, fun w => by rw [hw] at w; (cases w), h4, fun x hx ht => ⟨(h5 x hx ht).1, fun w => by rw [hw] at w; (cases w)⟩, h6⟩
/-- what Obj says in the library's words -/
theorem Obj.exa {C : String} {fs : List Fd} {c : Cell} (F : Obj Γ C fs c) (e : h[a]? = some c) : Exa Γ.Z h a C := by
  obtain ⟨⟨k, k1, k2, k3⟩, -, h3, -⟩ := F; exact ⟨c, k, e, k1, k2, h3, k3⟩
theorem Obj.fld {C : String} {fs : List Fd} {c : Cell} (F : Obj Γ C fs c) (e : h[a]? = some c) {f : Fd} (hf : f ∈ fs) : Fld Γ.Z h a f.1 f.2.1 f.2.2.1 f.2.2.2 := by
  obtain ⟨-, h2, h3, h4⟩ := F
  obtain ⟨-, -, cf, k, i, fd, f1, f2, f3, f4⟩ := h4 f hf
  exact ⟨c, cf, k, i, fd, e, f1, f2, h2, h3, f3, f4⟩
theorem Obj.of_exa {C : String} (E : Exa Γ.Z h a C) (N : ∃ cell : Cell, h[a]? = some cell ∧ cell.vm ≠ .unknown) {fs : List Fd} (L : ∀ f ∈ fs, Laid Γ.Z Γ.a0 C f.1 f.2.1 f.2.2.1 ∧ (∃ ty, parseFieldDescriptor f.2.2.1 = some ty) ∧ Fld Γ.Z h a f.1 f.2.1 f.2.2.1 f.2.2.2) : ∃ c : Cell, h[a]? = some c ∧ Obj Γ C fs c := by
  obtain ⟨c, k, e1, e2, e3, e4, e5⟩ := E
  obtain ⟨c', n1, n2⟩ := N
  cases e1.symm.trans n1
  refine ⟨c, e1, ⟨k, e2, e3, e5⟩, n2, e4, fun f hf => ?_⟩
  obtain ⟨l1, l2, c2, cf, kk, i, fd, f1, f2, f3, -, -, f6, f7⟩ := L f hf
  cases e1.symm.trans f1
  exact ⟨l1, l2, cf, kk, i, fd, f2, f3, f6, f7⟩
/-- a field is written: the others stand -/
theorem Obj.put {C : String} {A B : List Fd} {f : Fd} {v v' : Value} {c : Cell} (F : Obj Γ C (A ++ (f.1, f.2.1, f.2.2.1, v) :: B) c) (hne : ∀ g ∈ A ++ B, g.2.1 ≠ f.2.1) : Obj Γ C (A ++ (f.1, f.2.1, f.2.2.1, v') :: B) (c.setSlot (Jvm.RoadKit.slotOf Γ.Z f.1 f.2.1 f.2.2.1) v') := by
  obtain ⟨⟨k, k1, k2, k3⟩, h2, h3, h4⟩ := F
  obtain ⟨l0, ⟨ty0, t0⟩, cf, kk, i, fd, f1, f2, f3, f4⟩ := h4 (f.1, f.2.1, f.2.2.1, v) (by simp)
  have es : Jvm.RoadKit.slotOf Γ.Z f.1 f.2.1 f.2.2.1 = fd.slot := by simp only at f1; simp [Jvm.RoadKit.slotOf, f1]
  refine ⟨⟨k, k1, k2, fun q => by rw [sz_set]; exact k3 q⟩, h2, h3, fun g hg => ?_⟩
  by_cases hgm : g ∈ A ++ B
  · obtain ⟨l1, ⟨ty1, t1⟩, cf1, kk1, i1, fd1, g1, g2, g3, g4⟩ := h4 g (by rcases List.mem_append.mp hgm with m | m <;> simp [m])
    refine ⟨l1, ⟨ty1, t1⟩, cf1, kk1, i1, fd1, g1, g2, g3, ?_⟩
    have ns := Jvm.RoadKit.slot_ne l1 l0 (hne g hgm) t1 t0
    have es1 : Jvm.RoadKit.slotOf Γ.Z g.1 g.2.1 g.2.2.1 = fd1.slot := by simp [Jvm.RoadKit.slotOf, g1]
    rw [es1] at ns
    show (c.slots.setIfInBounds _ _)[fd1.slot]? = _
    rw [Array.getElem?_setIfInBounds_ne (Ne.symm ns)]; exact g4
  · have : g = (f.1, f.2.1, f.2.2.1, v') := by
      rcases List.mem_append.mp hg with m | m
      · exact absurd (by simp [m]) hgm
      · rcases List.mem_cons.mp m with r | m
        · exact r
        · exact absurd (by simp [m]) hgm
    subst this
    refine ⟨l0, ⟨ty0, t0⟩, cf, kk, i, fd, f1, f2, f3, ?_⟩
    rw [es]
    show (c.slots.setIfInBounds fd.slot v')[fd.slot]? = _
    have := (Array.getElem?_eq_some_iff.mp f4).1
    simp [this]
theorem Ary.arr {ad : String} {ty : FieldType} {vs : List Value} {c : Cell} (F : Ary Γ ad ty vs c) (e : h[a]? = some c) : Arr Γ.Z h a c ty := ⟨e, F.2.1, F.2.2.1⟩
theorem Ary.len {ad : String} {ty : FieldType} {vs : List Value} {c : Cell} (F : Ary Γ ad ty vs c) : c.slots.size = vs.length := by rw [← F.2.2.2.1]; simp
theorem Ary.exa {ad : String} {ty : FieldType} {vs : List Value} {c : Cell} (F : Ary Γ ad ty vs c) (e : h[a]? = some c) (hn : ad ≠ "") : Exa Γ.Z h a ad := by
  obtain ⟨k, k1, k2⟩ := F.1 hn
  obtain ⟨q, k', k3, comp, k4⟩ := F.2.1
  cases k2.symm.trans k3
  exact ⟨c, k, e, k1, k2, (F.arr e).plain, fun z => by rw [k4] at z; cases z⟩
theorem Ary.put {ad : String} {ty : FieldType} {vs : List Value} {c : Cell} (F : Ary Γ ad ty vs c) {j : Nat} {v : Value} (hv : fits ty v = true) : Ary Γ ad ty (vs.set j v) (c.setSlot j v) := by
  obtain ⟨h1, h2, h3, h4, h5, h6, h7⟩ := F
  refine ⟨h1, h2, h3, ?_, by simpa using h5, fun x hx => ?_, h7⟩
  · show (c.slots.setIfInBounds j v).toList = _
    rw [Array.toList_setIfInBounds, h4]
  · rcases List.mem_or_eq_of_mem_set hx with m | rfl
    · exact h6 x m
    · exact hv
end A
end Jvm.Own

namespace Jvm.Own
open Sem ClassFile Op Lib Jvm.Stand Jvm.Free Jvm.LawKit Jvm.RoadKit
/-! ## B. the walk -/
/-- a method's name, bytes, locals, result type, room, promise, and the caller's part of the heap -/
abbrev Mx : Type := MethodName × ByteArray × Nat × Option FieldType × Room × (Option Value → OL → Prop) × OL
abbrev Mx.y (μ : Mx) : MethodName := μ.1
abbrev Mx.bs (μ : Mx) : ByteArray := μ.2.1
abbrev Mx.ml (μ : Mx) : Nat := μ.2.2.1
abbrev Mx.ret (μ : Mx) : Option FieldType := μ.2.2.2.1
abbrev Mx.R (μ : Mx) : Room := μ.2.2.2.2.1
abbrev Mx.Q (μ : Mx) : Option Value → OL → Prop := μ.2.2.2.2.2.1
abbrev Mx.F (μ : Mx) : OL := μ.2.2.2.2.2.2
def EndW (w : Bool) (s : State) (o : Outcome) (U : State) (L : List Loc) (k n : Nat) : Prop := (w = true → ReturnedEndW s o U L k n) ∧ (w = false → FrameEnd s o U L k n)
/-- where the walk stands -/
def Pos (Γ : Gx) (μ : Mx) (k n : Nat) (O : OL) (p : Program) (e : Env) (s : State) (m : MethodId) (args : Array Value) (below : List Frame) (meth : Method) (c : Code) (T : State) (locs : List Loc) (vm0 : Vm) (k0 : Nat) : Prop :=
  Stand p Γ.l e μ.R (s.setVm vm0) m args below meth c T locs k n ∧ p.tables.exec = Jvm.exec ∧ c.code = μ.bs ∧ c.maxLocals = μ.ml ∧ meth.sig.returnType = μ.ret ∧ meth.name = μ.y.name ∧ meth.locks = false ∧ vm0.findClass μ.y.cls = some m.cls ∧
  s.Since vm0 k0 ∧ k0 ≤ T.heap.size ∧ (Γ.w = false → vm0 = s.vm) ∧ Fr Γ.Z.heap.size locs ∧ Inv Γ vm0 T.heap (O ++ μ.F)
def Goal (Γ : Gx) (μ : Mx) (p : Program) (e : Env) (s : State) (below : List Frame) (T : State) (g : JFrame) : Prop :=
  ∃ U o, Steps p.tables e below (T.setTop g) U ∧ U.status = .running ∧ Ended U below o ∧ ∃ v L O', o = .returned v ∧ μ.Q v O' ∧ Inv Γ U.vm U.heap (O' ++ μ.F) ∧ Fr Γ.Z.heap.size L ∧ EndW Γ.w s o U L μ.R.cells μ.R.slots
/-- **from here the method returns and keeps its promise**: k cells and n slots made so far, the heap's part O, the frame -/
def Run (Γ : Gx) (μ : Mx) (k n : Nat) (O : OL) (pc : Nat) (Ls : List Slot) (st : List Value) : Prop :=
  ∀ (p : Program) (e : Env) (s : State) (m : MethodId) (args : Array Value) (below : List Frame) (meth : Method) (c : Code) (T : State) (locs : List Loc) (vm0 : Vm) (k0 : Nat), Pos Γ μ k n O p e s m args below meth c T locs vm0 k0 → Goal Γ μ p e s below T (mkF m pc Ls.toArray st)
section B
variable {Γ : Gx} {μ : Mx} {k n : Nat} {O : OL} {pc pc' : Nat} {Ls Ls' : List Slot} {st st' rest : List Value}
theorem Goal.back {p : Program} {e : Env} {s : State} {below : List Frame} {T T' : State} {g g' : JFrame} (G : Goal Γ μ p e s below T' g') (st : ∀ target, Steps p.tables e below (T'.setTop g') target → Steps p.tables e below (T.setTop g) target) : Goal Γ μ p e s below T g := by
  obtain ⟨U, o, hs, r⟩ := G; exact ⟨U, o, st _ hs, r⟩
theorem R_plain (H : ∀ (p : Program) (e : Env) (below : List Frame) (T : State) (m : MethodId) (c : Code), At T m c below → p.tables.exec = Jvm.exec → c.code = μ.bs → ∀ target, Steps p.tables e below (T.setTop (mkF m pc' Ls'.toArray st')) target → Steps p.tables e below (T.setTop (mkF m pc Ls.toArray st)) target)
    (hr : Run Γ μ k n O pc' Ls' st') : Run Γ μ k n O pc Ls st := fun p e s m args below meth c T locs vm0 k0 P =>
  (hr p e s m args below meth c T locs vm0 k0 P).back (H p e below T m c P.1.here P.2.1 P.2.2.1)
theorem st1 {Ls : List Slot} {i : Nat} {v : Value} {o : Slot} (hold : Ls[i]? = some o) (ho : One o) (hv : v.category = 1) : storeLocals Ls.toArray i v = some (Ls.set i (.val v)).toArray := by
  rw [XS.store1 (by simpa using hold) ho hv]; simp
theorem st2 {Ls : List Slot} {i : Nat} {v : Value} {o o' : Slot} (hold : Ls[i]? = some o) (ho : o = .unset ∨ ∃ w, o = .val w) (hold' : Ls[i + 1]? = some o') (ho' : o' = .unset ∨ o' = .second ∨ ∃ w, o' = .val w ∧ w.category = 1) (hv : v.category = 2) : storeLocals Ls.toArray i v = some ((Ls.set i (.val v)).set (i + 1) .second).toArray := by
  obtain ⟨l1, g1⟩ := List.getElem?_eq_some_iff.mp hold
  obtain ⟨l2, g2⟩ := List.getElem?_eq_some_iff.mp hold'
  rcases ho with rfl | ⟨w, rfl⟩
  · rcases ho' with rfl | rfl | ⟨u, rfl, hu⟩ <;> simp [storeLocals, storeSelf, setAt, hv, l1, l2, g1, g2, *]
  · by_cases q : w.category = 2
    · simp [storeLocals, storeSelf, setAt, hv, l1, l2, g1, g2, q]
      rw [List.set_comm _ _ (by omega), List.set_set, List.set_comm _ _ (by omega)]
    · rcases ho' with rfl | rfl | ⟨u, rfl, hu⟩ <;> simp [storeLocals, storeSelf, setAt, hv, l1, l2, g1, g2, q, *]
theorem at_list {Ls : List Slot} {i : Nat} {v : Slot} (h : Ls[i]? = some v) : Ls.toArray[i]? = some v := by simpa using h
theorem R_iload {i : Nat} {v : Int32} (hd : decode μ.bs pc = .ok (.iload i, 2)) (hl : Ls[i]? = some (.val (.int v)))
    (hr : Run Γ μ k n O (pc + 2) Ls (.int v :: st)) : Run Γ μ k n O pc Ls st :=
  R_plain (fun p e below T m c h hx hb target hs => XS.iload h hx rfl (Jvm.hb hb hd) (at_list hl) hs) hr
theorem R_iloadN {i : Fin 4} {v : Int32} (hd : decode μ.bs pc = .ok (.iload_n i, 1)) (hl : Ls[i.val]? = some (.val (.int v)))
    (hr : Run Γ μ k n O (pc + 1) Ls (.int v :: st)) : Run Γ μ k n O pc Ls st :=
  R_plain (fun p e below T m c h hx hb target hs => XS.iloadN h hx rfl (Jvm.hb hb hd) (at_list hl) hs) hr
theorem R_lload {i : Nat} {v : Int64} (hd : decode μ.bs pc = .ok (.lload i, 2)) (hl : Ls[i]? = some (.val (.long v)))
    (hr : Run Γ μ k n O (pc + 2) Ls (.long v :: st)) : Run Γ μ k n O pc Ls st :=
  R_plain (fun p e below T m c h hx hb target hs => XT.lload h hx rfl (Jvm.hb hb hd) (at_list hl) hs) hr
theorem R_lloadN {i : Fin 4} {v : Int64} (hd : decode μ.bs pc = .ok (.lload_n i, 1)) (hl : Ls[i.val]? = some (.val (.long v)))
    (hr : Run Γ μ k n O (pc + 1) Ls (.long v :: st)) : Run Γ μ k n O pc Ls st :=
  R_plain (fun p e below T m c h hx hb target hs => XT.lloadN h hx rfl (Jvm.hb hb hd) (at_list hl) hs) hr
theorem R_aload {i : Nat} {v : Value} (hd : decode μ.bs pc = .ok (.aload i, 2)) (hl : Ls[i]? = some (.val v)) (hv : v.isRef = true)
    (hr : Run Γ μ k n O (pc + 2) Ls (v :: st)) : Run Γ μ k n O pc Ls st :=
  R_plain (fun p e below T m c h hx hb target hs => XS.aload h hx rfl (Jvm.hb hb hd) (at_list hl) hv hs) hr
theorem R_aloadN {i : Fin 4} {v : Value} (hd : decode μ.bs pc = .ok (.aload_n i, 1)) (hl : Ls[i.val]? = some (.val v)) (hv : v.isRef = true)
    (hr : Run Γ μ k n O (pc + 1) Ls (v :: st)) : Run Γ μ k n O pc Ls st :=
  R_plain (fun p e below T m c h hx hb target hs => XS.aloadN h hx rfl (Jvm.hb hb hd) (at_list hl) hv hs) hr
theorem R_istore {i : Nat} {v : Int32} {o : Slot} (hd : decode μ.bs pc = .ok (.istore i, 2)) (hold : Ls[i]? = some o) (ho : One o)
    (hr : Run Γ μ k n O (pc + 2) (Ls.set i (.val (.int v))) st) : Run Γ μ k n O pc Ls (.int v :: st) :=
  R_plain (fun p e below T m c h hx hb target hs => XS.istore h hx rfl (Jvm.hb hb hd) rfl (st1 hold ho rfl) hs) hr
theorem R_istoreN {i : Fin 4} {v : Int32} {o : Slot} (hd : decode μ.bs pc = .ok (.istore_n i, 1)) (hold : Ls[i.val]? = some o) (ho : One o)
    (hr : Run Γ μ k n O (pc + 1) (Ls.set i.val (.val (.int v))) st) : Run Γ μ k n O pc Ls (.int v :: st) :=
  R_plain (fun p e below T m c h hx hb target hs => XS.istoreN h hx rfl (Jvm.hb hb hd) rfl (st1 hold ho rfl) hs) hr
theorem R_lstore {i : Nat} {v : Int64} {o o' : Slot} (hd : decode μ.bs pc = .ok (.lstore i, 2)) (hold : Ls[i]? = some o) (ho : o = .unset ∨ ∃ w, o = .val w) (hold' : Ls[i + 1]? = some o') (ho' : o' = .unset ∨ o' = .second ∨ ∃ w, o' = .val w ∧ w.category = 1)
    (hr : Run Γ μ k n O (pc + 2) ((Ls.set i (.val (.long v))).set (i + 1) .second) st) : Run Γ μ k n O pc Ls (.long v :: st) :=
  R_plain (fun p e below T m c h hx hb target hs => XT.lstore h hx rfl (Jvm.hb hb hd) rfl (st2 hold ho hold' ho' rfl) hs) hr
theorem R_lstoreN {i : Fin 4} {v : Int64} {o o' : Slot} (hd : decode μ.bs pc = .ok (.lstore_n i, 1)) (hold : Ls[i.val]? = some o) (ho : o = .unset ∨ ∃ w, o = .val w) (hold' : Ls[i.val + 1]? = some o') (ho' : o' = .unset ∨ o' = .second ∨ ∃ w, o' = .val w ∧ w.category = 1)
    (hr : Run Γ μ k n O (pc + 1) ((Ls.set i.val (.val (.long v))).set (i.val + 1) .second) st) : Run Γ μ k n O pc Ls (.long v :: st) :=
  R_plain (fun p e below T m c h hx hb target hs => XT.lstoreN h hx rfl (Jvm.hb hb hd) rfl (st2 hold ho hold' ho' rfl) hs) hr
theorem R_astore {i : Nat} {v : Value} {o : Slot} (hd : decode μ.bs pc = .ok (.astore i, 2)) (hv : v.isRef = true) (hold : Ls[i]? = some o) (ho : One o)
    (hr : Run Γ μ k n O (pc + 2) (Ls.set i (.val v)) st) : Run Γ μ k n O pc Ls (v :: st) :=
  R_plain (fun p e below T m c h hx hb target hs => XS.astore h hx rfl (Jvm.hb hb hd) rfl hv (st1 hold ho (XT.cat1 hv)) hs) hr
theorem R_astoreN {i : Fin 4} {v : Value} {o : Slot} (hd : decode μ.bs pc = .ok (.astore_n i, 1)) (hv : v.isRef = true) (hold : Ls[i.val]? = some o) (ho : One o)
    (hr : Run Γ μ k n O (pc + 1) (Ls.set i.val (.val v)) st) : Run Γ μ k n O pc Ls (v :: st) :=
  R_plain (fun p e below T m c h hx hb target hs => XS.astoreN h hx rfl (Jvm.hb hb hd) rfl hv (st1 hold ho (XT.cat1 hv)) hs) hr
theorem R_iinc {i : Nat} {x : Int32} {cst : Int} (v : Int32) (hd : decode μ.bs pc = .ok (.iinc i cst, 3)) (hv : Int32.ofInt cst = v) (hl : Ls[i]? = some (.val (.int x)))
    (hr : Run Γ μ k n O (pc + 3) (Ls.set i (.val (.int (x + v)))) st) : Run Γ μ k n O pc Ls st :=
  R_plain (fun p e below T m c h hx hb target hs => XS.iinc h hx rfl (Jvm.hb hb hd) (at_list hl) (by rw [hv]; exact st1 hl (Or.inr ⟨_, rfl, rfl⟩) rfl) hs) hr
theorem R_iconst {i : Int} (v : Int32) (hd : decode μ.bs pc = .ok (.iconst i, 1)) (hv : Int32.ofInt i = v)
    (hr : Run Γ μ k n O (pc + 1) Ls (.int v :: st)) : Run Γ μ k n O pc Ls st :=
  R_plain (fun p e below T m c h hx hb target hs => XS.iconst h hx rfl (Jvm.hb hb hd) (by rw [hv]; exact hs)) hr
theorem R_bipush {i : Int} (v : Int32) (hd : decode μ.bs pc = .ok (.bipush i, 2)) (hv : (Int8.ofInt i).toInt32 = v)
    (hr : Run Γ μ k n O (pc + 2) Ls (.int v :: st)) : Run Γ μ k n O pc Ls st :=
  R_plain (fun p e below T m c h hx hb target hs => XS.bipush h hx rfl (Jvm.hb hb hd) (by rw [hv]; exact hs)) hr
theorem R_sipush {i : Int} (v : Int32) (hd : decode μ.bs pc = .ok (.sipush i, 3)) (hv : (Int16.ofInt i).toInt32 = v)
    (hr : Run Γ μ k n O (pc + 3) Ls (.int v :: st)) : Run Γ μ k n O pc Ls st :=
  R_plain (fun p e below T m c h hx hb target hs => XS.sipush h hx rfl (Jvm.hb hb hd) (by rw [hv]; exact hs)) hr
theorem R_lconst {i : Fin 2} (v : Int64) (hd : decode μ.bs pc = .ok (.lconst i, 1)) (hv : Int64.ofNat i = v)
    (hr : Run Γ μ k n O (pc + 1) Ls (.long v :: st)) : Run Γ μ k n O pc Ls st :=
  R_plain (fun p e below T m c h hx hb target hs => XT.lconst h hx rfl (Jvm.hb hb hd) (by rw [hv]; exact hs)) hr
theorem R_aconst_null  (hd : decode μ.bs pc = .ok (.aconst_null, 1)) 
    (hr : Run Γ μ k n O (pc + 1) Ls (.null :: st)) : Run Γ μ k n O pc Ls st :=
  R_plain (fun p e below T m c h hx hb target hs => XS.aconstNull h hx rfl (Jvm.hb hb hd) hs) hr
theorem R_iadd {x y : Int32} (hd : decode μ.bs pc = .ok (.iadd, 1)) 
    (hr : Run Γ μ k n O (pc + 1) Ls (.int (x + y) :: st)) : Run Γ μ k n O pc Ls (.int y :: .int x :: st) :=
  R_plain (fun p e below T m c h hx hb target hs => XS.iadd h hx rfl (Jvm.hb hb hd) rfl hs) hr
theorem R_isub {x y : Int32} (hd : decode μ.bs pc = .ok (.isub, 1)) 
    (hr : Run Γ μ k n O (pc + 1) Ls (.int (x - y) :: st)) : Run Γ μ k n O pc Ls (.int y :: .int x :: st) :=
  R_plain (fun p e below T m c h hx hb target hs => XS.isub h hx rfl (Jvm.hb hb hd) rfl hs) hr
theorem R_imul {x y : Int32} (hd : decode μ.bs pc = .ok (.imul, 1)) 
    (hr : Run Γ μ k n O (pc + 1) Ls (.int (x * y) :: st)) : Run Γ μ k n O pc Ls (.int y :: .int x :: st) :=
  R_plain (fun p e below T m c h hx hb target hs => XS.imul h hx rfl (Jvm.hb hb hd) rfl hs) hr
theorem R_iand {x y : Int32} (hd : decode μ.bs pc = .ok (.iand, 1)) 
    (hr : Run Γ μ k n O (pc + 1) Ls (.int (x &&& y) :: st)) : Run Γ μ k n O pc Ls (.int y :: .int x :: st) :=
  R_plain (fun p e below T m c h hx hb target hs => XS.iand h hx rfl (Jvm.hb hb hd) rfl hs) hr
theorem R_ior {x y : Int32} (hd : decode μ.bs pc = .ok (.ior, 1)) 
    (hr : Run Γ μ k n O (pc + 1) Ls (.int (x ||| y) :: st)) : Run Γ μ k n O pc Ls (.int y :: .int x :: st) :=
  R_plain (fun p e below T m c h hx hb target hs => XT.ior h hx rfl (Jvm.hb hb hd) rfl hs) hr
theorem R_ixor {x y : Int32} (hd : decode μ.bs pc = .ok (.ixor, 1)) 
    (hr : Run Γ μ k n O (pc + 1) Ls (.int (x ^^^ y) :: st)) : Run Γ μ k n O pc Ls (.int y :: .int x :: st) :=
  R_plain (fun p e below T m c h hx hb target hs => XT.ixor h hx rfl (Jvm.hb hb hd) rfl hs) hr
theorem R_ishl {x y : Int32} (hd : decode μ.bs pc = .ok (.ishl, 1)) 
    (hr : Run Γ μ k n O (pc + 1) Ls (.int (x <<< (y &&& 31)) :: st)) : Run Γ μ k n O pc Ls (.int y :: .int x :: st) :=
  R_plain (fun p e below T m c h hx hb target hs => XT.ishl h hx rfl (Jvm.hb hb hd) rfl hs) hr
theorem R_ishr {x y : Int32} (hd : decode μ.bs pc = .ok (.ishr, 1)) 
    (hr : Run Γ μ k n O (pc + 1) Ls (.int (x >>> (y &&& 31)) :: st)) : Run Γ μ k n O pc Ls (.int y :: .int x :: st) :=
  R_plain (fun p e below T m c h hx hb target hs => XT.ishr h hx rfl (Jvm.hb hb hd) rfl hs) hr
theorem R_iushr {x y : Int32} (hd : decode μ.bs pc = .ok (.iushr, 1)) 
    (hr : Run Γ μ k n O (pc + 1) Ls (.int (XT.ushr x y) :: st)) : Run Γ μ k n O pc Ls (.int y :: .int x :: st) :=
  R_plain (fun p e below T m c h hx hb target hs => XT.iushr h hx rfl (Jvm.hb hb hd) rfl hs) hr
theorem R_ineg {x : Int32} (hd : decode μ.bs pc = .ok (.ineg, 1)) 
    (hr : Run Γ μ k n O (pc + 1) Ls (.int (-x) :: st)) : Run Γ μ k n O pc Ls (.int x :: st) :=
  R_plain (fun p e below T m c h hx hb target hs => XS.ineg h hx rfl (Jvm.hb hb hd) rfl hs) hr
theorem R_idiv {x y : Int32} (hd : decode μ.bs pc = .ok (.idiv, 1)) (hy : y ≠ 0)
    (hr : Run Γ μ k n O (pc + 1) Ls (.int (x / y) :: st)) : Run Γ μ k n O pc Ls (.int y :: .int x :: st) :=
  R_plain (fun p e below T m c h hx hb target hs => XS.idiv h hx rfl (Jvm.hb hb hd) rfl hy hs) hr
theorem R_irem {x y : Int32} (hd : decode μ.bs pc = .ok (.irem, 1)) (hy : y ≠ 0)
    (hr : Run Γ μ k n O (pc + 1) Ls (.int (x % y) :: st)) : Run Γ μ k n O pc Ls (.int y :: .int x :: st) :=
  R_plain (fun p e below T m c h hx hb target hs => XS.irem h hx rfl (Jvm.hb hb hd) rfl hy (by rw [show x - x / y * y = x % y from irem_eq_mod x y]; exact hs)) hr
theorem R_ladd {x y : Int64} (hd : decode μ.bs pc = .ok (.ladd, 1)) 
    (hr : Run Γ μ k n O (pc + 1) Ls (.long (x + y) :: st)) : Run Γ μ k n O pc Ls (.long y :: .long x :: st) :=
  R_plain (fun p e below T m c h hx hb target hs => XT.ladd h hx rfl (Jvm.hb hb hd) rfl hs) hr
theorem R_lsub {x y : Int64} (hd : decode μ.bs pc = .ok (.lsub, 1)) 
    (hr : Run Γ μ k n O (pc + 1) Ls (.long (x - y) :: st)) : Run Γ μ k n O pc Ls (.long y :: .long x :: st) :=
  R_plain (fun p e below T m c h hx hb target hs => XT.lsub h hx rfl (Jvm.hb hb hd) rfl hs) hr
theorem R_lmul {x y : Int64} (hd : decode μ.bs pc = .ok (.lmul, 1)) 
    (hr : Run Γ μ k n O (pc + 1) Ls (.long (x * y) :: st)) : Run Γ μ k n O pc Ls (.long y :: .long x :: st) :=
  R_plain (fun p e below T m c h hx hb target hs => XT.lmul h hx rfl (Jvm.hb hb hd) rfl hs) hr
theorem R_land {x y : Int64} (hd : decode μ.bs pc = .ok (.land, 1)) 
    (hr : Run Γ μ k n O (pc + 1) Ls (.long (x &&& y) :: st)) : Run Γ μ k n O pc Ls (.long y :: .long x :: st) :=
  R_plain (fun p e below T m c h hx hb target hs => XT.land h hx rfl (Jvm.hb hb hd) rfl hs) hr
theorem R_lor {x y : Int64} (hd : decode μ.bs pc = .ok (.lor, 1)) 
    (hr : Run Γ μ k n O (pc + 1) Ls (.long (x ||| y) :: st)) : Run Γ μ k n O pc Ls (.long y :: .long x :: st) :=
  R_plain (fun p e below T m c h hx hb target hs => XT.lor h hx rfl (Jvm.hb hb hd) rfl hs) hr
theorem R_lxor {x y : Int64} (hd : decode μ.bs pc = .ok (.lxor, 1)) 
    (hr : Run Γ μ k n O (pc + 1) Ls (.long (x ^^^ y) :: st)) : Run Γ μ k n O pc Ls (.long y :: .long x :: st) :=
  R_plain (fun p e below T m c h hx hb target hs => XT.lxor h hx rfl (Jvm.hb hb hd) rfl hs) hr
theorem R_lneg {x : Int64} (hd : decode μ.bs pc = .ok (.lneg, 1)) 
    (hr : Run Γ μ k n O (pc + 1) Ls (.long (-x) :: st)) : Run Γ μ k n O pc Ls (.long x :: st) :=
  R_plain (fun p e below T m c h hx hb target hs => XT.lneg h hx rfl (Jvm.hb hb hd) rfl hs) hr
theorem R_ldiv {x y : Int64} (hd : decode μ.bs pc = .ok (.ldiv, 1)) (hy : y ≠ 0)
    (hr : Run Γ μ k n O (pc + 1) Ls (.long (x / y) :: st)) : Run Γ μ k n O pc Ls (.long y :: .long x :: st) :=
  R_plain (fun p e below T m c h hx hb target hs => XT.ldiv h hx rfl (Jvm.hb hb hd) rfl hy hs) hr
theorem R_lcmp {x y : Int64} (hd : decode μ.bs pc = .ok (.lcmp, 1)) 
    (hr : Run Γ μ k n O (pc + 1) Ls (.int (XT.cmpL x y) :: st)) : Run Γ μ k n O pc Ls (.long y :: .long x :: st) :=
  R_plain (fun p e below T m c h hx hb target hs => XT.lcmp h hx rfl (Jvm.hb hb hd) rfl hs) hr
theorem R_i2l {x : Int32} (hd : decode μ.bs pc = .ok (.i2l, 1)) 
    (hr : Run Γ μ k n O (pc + 1) Ls (.long x.toInt64 :: st)) : Run Γ μ k n O pc Ls (.int x :: st) :=
  R_plain (fun p e below T m c h hx hb target hs => XT.i2l h hx rfl (Jvm.hb hb hd) rfl hs) hr
theorem R_l2i {x : Int64} (hd : decode μ.bs pc = .ok (.l2i, 1)) 
    (hr : Run Γ μ k n O (pc + 1) Ls (.int x.toInt32 :: st)) : Run Γ μ k n O pc Ls (.long x :: st) :=
  R_plain (fun p e below T m c h hx hb target hs => XT.l2i h hx rfl (Jvm.hb hb hd) rfl hs) hr
theorem R_i2b {x : Int32} (hd : decode μ.bs pc = .ok (.i2b, 1)) 
    (hr : Run Γ μ k n O (pc + 1) Ls (.int x.toInt8.toInt32 :: st)) : Run Γ μ k n O pc Ls (.int x :: st) :=
  R_plain (fun p e below T m c h hx hb target hs => XT.i2b h hx rfl (Jvm.hb hb hd) rfl hs) hr
theorem R_i2c {x : Int32} (hd : decode μ.bs pc = .ok (.i2c, 1)) 
    (hr : Run Γ μ k n O (pc + 1) Ls (.int x.toUInt32.toUInt16.toUInt32.toInt32 :: st)) : Run Γ μ k n O pc Ls (.int x :: st) :=
  R_plain (fun p e below T m c h hx hb target hs => XT.i2c h hx rfl (Jvm.hb hb hd) rfl hs) hr
theorem R_i2s {x : Int32} (hd : decode μ.bs pc = .ok (.i2s, 1)) 
    (hr : Run Γ μ k n O (pc + 1) Ls (.int x.toInt16.toInt32 :: st)) : Run Γ μ k n O pc Ls (.int x :: st) :=
  R_plain (fun p e below T m c h hx hb target hs => XT.i2s h hx rfl (Jvm.hb hb hd) rfl hs) hr
theorem R_dup {x : Value} (hd : decode μ.bs pc = .ok (.dup, 1)) (hc : x.category = 1)
    (hr : Run Γ μ k n O (pc + 1) Ls (x :: x :: st)) : Run Γ μ k n O pc Ls (x :: st) :=
  R_plain (fun p e below T m c h hx hb target hs => XS.dup h hx rfl (Jvm.hb hb hd) rfl hc hs) hr
theorem R_pop {x : Value} (hd : decode μ.bs pc = .ok (.pop, 1)) (hc : x.category = 1)
    (hr : Run Γ μ k n O (pc + 1) Ls st) : Run Γ μ k n O pc Ls (x :: st) :=
  R_plain (fun p e below T m c h hx hb target hs => XT.pop h hx rfl (Jvm.hb hb hd) rfl hc hs) hr
theorem R_dup_x1 {x y : Value} (hd : decode μ.bs pc = .ok (.dup_x1, 1)) (hc : x.category = 1) (hc' : y.category = 1)
    (hr : Run Γ μ k n O (pc + 1) Ls (x :: y :: x :: st)) : Run Γ μ k n O pc Ls (x :: y :: st) :=
  R_plain (fun p e below T m c h hx hb target hs => XT.dupX1 h hx rfl (Jvm.hb hb hd) rfl hc hc' hs) hr
theorem R_goto {o : Int} (hd : decode μ.bs pc = .ok (.goto o, 3)) (ho : 0 ≤ (pc : Int) + o) (hp : ((pc : Int) + o).toNat = pc')
    (hr : Run Γ μ k n O pc' Ls st) : Run Γ μ k n O pc Ls st :=
  R_plain (fun p e below T m c h hx hb target hs => XS.goto h hx rfl (pc0 := pc) (pc' := pc') rfl (Jvm.hb hb hd) ho hp hs) hr
theorem R_icmp_eq {x y : Int32} {o : Int} (hd : decode μ.bs pc = .ok (.if_icmp .eq o, 3)) (ho : 0 ≤ (pc : Int) + o) (hp : ((pc : Int) + o).toNat = pc')
    (hT : x = y → Run Γ μ k n O pc' Ls st) (hF : ¬ x = y → Run Γ μ k n O (pc + 3) Ls st) : Run Γ μ k n O pc Ls (.int y :: .int x :: st) := by
  by_cases q : x = y
  · exact R_plain (fun p e below T m c h hx hb target hs => XS.icmpYes h hx rfl (pc0 := pc) (pc' := pc') rfl (Jvm.hb hb hd) rfl (XT.ii_eq_t q) ho hp hs) (hT q)
  · exact R_plain (fun p e below T m c h hx hb target hs => XS.icmpNo h hx rfl (Jvm.hb hb hd) rfl (XT.ii_eq_f q) hs) (hF q)
theorem R_icmp_ne {x y : Int32} {o : Int} (hd : decode μ.bs pc = .ok (.if_icmp .ne o, 3)) (ho : 0 ≤ (pc : Int) + o) (hp : ((pc : Int) + o).toNat = pc')
    (hT : ¬ x = y → Run Γ μ k n O pc' Ls st) (hF : x = y → Run Γ μ k n O (pc + 3) Ls st) : Run Γ μ k n O pc Ls (.int y :: .int x :: st) := by
  by_cases q : x = y
  · exact R_plain (fun p e below T m c h hx hb target hs => XS.icmpNo h hx rfl (Jvm.hb hb hd) rfl (XT.ii_ne_f q) hs) (hF q)
  · exact R_plain (fun p e below T m c h hx hb target hs => XS.icmpYes h hx rfl (pc0 := pc) (pc' := pc') rfl (Jvm.hb hb hd) rfl (XT.ii_ne_t q) ho hp hs) (hT q)
theorem R_icmp_lt {x y : Int32} {o : Int} (hd : decode μ.bs pc = .ok (.if_icmp .lt o, 3)) (ho : 0 ≤ (pc : Int) + o) (hp : ((pc : Int) + o).toNat = pc')
    (hT : x < y → Run Γ μ k n O pc' Ls st) (hF : ¬ x < y → Run Γ μ k n O (pc + 3) Ls st) : Run Γ μ k n O pc Ls (.int y :: .int x :: st) := by
  by_cases q : x < y
  · exact R_plain (fun p e below T m c h hx hb target hs => XS.icmpYes h hx rfl (pc0 := pc) (pc' := pc') rfl (Jvm.hb hb hd) rfl (XT.ii_lt_t q) ho hp hs) (hT q)
  · exact R_plain (fun p e below T m c h hx hb target hs => XS.icmpNo h hx rfl (Jvm.hb hb hd) rfl (XT.ii_lt_f q) hs) (hF q)
theorem R_icmp_ge {x y : Int32} {o : Int} (hd : decode μ.bs pc = .ok (.if_icmp .ge o, 3)) (ho : 0 ≤ (pc : Int) + o) (hp : ((pc : Int) + o).toNat = pc')
    (hT : ¬ x < y → Run Γ μ k n O pc' Ls st) (hF : x < y → Run Γ μ k n O (pc + 3) Ls st) : Run Γ μ k n O pc Ls (.int y :: .int x :: st) := by
  by_cases q : x < y
  · exact R_plain (fun p e below T m c h hx hb target hs => XS.icmpNo h hx rfl (Jvm.hb hb hd) rfl (XT.ii_ge_f q) hs) (hF q)
  · exact R_plain (fun p e below T m c h hx hb target hs => XS.icmpYes h hx rfl (pc0 := pc) (pc' := pc') rfl (Jvm.hb hb hd) rfl (XT.ii_ge_t q) ho hp hs) (hT q)
theorem R_icmp_gt {x y : Int32} {o : Int} (hd : decode μ.bs pc = .ok (.if_icmp .gt o, 3)) (ho : 0 ≤ (pc : Int) + o) (hp : ((pc : Int) + o).toNat = pc')
    (hT : y < x → Run Γ μ k n O pc' Ls st) (hF : ¬ y < x → Run Γ μ k n O (pc + 3) Ls st) : Run Γ μ k n O pc Ls (.int y :: .int x :: st) := by
  by_cases q : y < x
  · exact R_plain (fun p e below T m c h hx hb target hs => XS.icmpYes h hx rfl (pc0 := pc) (pc' := pc') rfl (Jvm.hb hb hd) rfl (XT.ii_gt_t q) ho hp hs) (hT q)
  · exact R_plain (fun p e below T m c h hx hb target hs => XS.icmpNo h hx rfl (Jvm.hb hb hd) rfl (XT.ii_gt_f q) hs) (hF q)
theorem R_icmp_le {x y : Int32} {o : Int} (hd : decode μ.bs pc = .ok (.if_icmp .le o, 3)) (ho : 0 ≤ (pc : Int) + o) (hp : ((pc : Int) + o).toNat = pc')
    (hT : ¬ y < x → Run Γ μ k n O pc' Ls st) (hF : y < x → Run Γ μ k n O (pc + 3) Ls st) : Run Γ μ k n O pc Ls (.int y :: .int x :: st) := by
  by_cases q : y < x
  · exact R_plain (fun p e below T m c h hx hb target hs => XS.icmpNo h hx rfl (Jvm.hb hb hd) rfl (XT.ii_le_f q) hs) (hF q)
  · exact R_plain (fun p e below T m c h hx hb target hs => XS.icmpYes h hx rfl (pc0 := pc) (pc' := pc') rfl (Jvm.hb hb hd) rfl (XT.ii_le_t q) ho hp hs) (hT q)
theorem R_if_eq {x : Int32} {o : Int} (hd : decode μ.bs pc = .ok (.ifCond .eq o, 3)) (ho : 0 ≤ (pc : Int) + o) (hp : ((pc : Int) + o).toNat = pc')
    (hT : x = 0 → Run Γ μ k n O pc' Ls st) (hF : ¬ x = 0 → Run Γ μ k n O (pc + 3) Ls st) : Run Γ μ k n O pc Ls (.int x :: st) := by
  by_cases q : x = 0
  · exact R_plain (fun p e below T m c h hx hb target hs => XS.ifYes h hx rfl (pc0 := pc) (pc' := pc') rfl (Jvm.hb hb hd) rfl ((if0 _ _).trans (XT.ii_eq_t q)) ho hp hs) (hT q)
  · exact R_plain (fun p e below T m c h hx hb target hs => XS.ifNo h hx rfl (Jvm.hb hb hd) rfl ((if0 _ _).trans (XT.ii_eq_f q)) hs) (hF q)
theorem R_if_ne {x : Int32} {o : Int} (hd : decode μ.bs pc = .ok (.ifCond .ne o, 3)) (ho : 0 ≤ (pc : Int) + o) (hp : ((pc : Int) + o).toNat = pc')
    (hT : ¬ x = 0 → Run Γ μ k n O pc' Ls st) (hF : x = 0 → Run Γ μ k n O (pc + 3) Ls st) : Run Γ μ k n O pc Ls (.int x :: st) := by
  by_cases q : x = 0
  · exact R_plain (fun p e below T m c h hx hb target hs => XS.ifNo h hx rfl (Jvm.hb hb hd) rfl ((if0 _ _).trans (XT.ii_ne_f q)) hs) (hF q)
  · exact R_plain (fun p e below T m c h hx hb target hs => XS.ifYes h hx rfl (pc0 := pc) (pc' := pc') rfl (Jvm.hb hb hd) rfl ((if0 _ _).trans (XT.ii_ne_t q)) ho hp hs) (hT q)
theorem R_if_lt {x : Int32} {o : Int} (hd : decode μ.bs pc = .ok (.ifCond .lt o, 3)) (ho : 0 ≤ (pc : Int) + o) (hp : ((pc : Int) + o).toNat = pc')
    (hT : x < 0 → Run Γ μ k n O pc' Ls st) (hF : ¬ x < 0 → Run Γ μ k n O (pc + 3) Ls st) : Run Γ μ k n O pc Ls (.int x :: st) := by
  by_cases q : x < 0
  · exact R_plain (fun p e below T m c h hx hb target hs => XS.ifYes h hx rfl (pc0 := pc) (pc' := pc') rfl (Jvm.hb hb hd) rfl ((if0 _ _).trans (XT.ii_lt_t q)) ho hp hs) (hT q)
  · exact R_plain (fun p e below T m c h hx hb target hs => XS.ifNo h hx rfl (Jvm.hb hb hd) rfl ((if0 _ _).trans (XT.ii_lt_f q)) hs) (hF q)
theorem R_if_ge {x : Int32} {o : Int} (hd : decode μ.bs pc = .ok (.ifCond .ge o, 3)) (ho : 0 ≤ (pc : Int) + o) (hp : ((pc : Int) + o).toNat = pc')
    (hT : ¬ x < 0 → Run Γ μ k n O pc' Ls st) (hF : x < 0 → Run Γ μ k n O (pc + 3) Ls st) : Run Γ μ k n O pc Ls (.int x :: st) := by
  by_cases q : x < 0
  · exact R_plain (fun p e below T m c h hx hb target hs => XS.ifNo h hx rfl (Jvm.hb hb hd) rfl ((if0 _ _).trans (XT.ii_ge_f q)) hs) (hF q)
  · exact R_plain (fun p e below T m c h hx hb target hs => XS.ifYes h hx rfl (pc0 := pc) (pc' := pc') rfl (Jvm.hb hb hd) rfl ((if0 _ _).trans (XT.ii_ge_t q)) ho hp hs) (hT q)
theorem R_if_gt {x : Int32} {o : Int} (hd : decode μ.bs pc = .ok (.ifCond .gt o, 3)) (ho : 0 ≤ (pc : Int) + o) (hp : ((pc : Int) + o).toNat = pc')
    (hT : 0 < x → Run Γ μ k n O pc' Ls st) (hF : ¬ 0 < x → Run Γ μ k n O (pc + 3) Ls st) : Run Γ μ k n O pc Ls (.int x :: st) := by
  by_cases q : 0 < x
  · exact R_plain (fun p e below T m c h hx hb target hs => XS.ifYes h hx rfl (pc0 := pc) (pc' := pc') rfl (Jvm.hb hb hd) rfl ((if0 _ _).trans (XT.ii_gt_t q)) ho hp hs) (hT q)
  · exact R_plain (fun p e below T m c h hx hb target hs => XS.ifNo h hx rfl (Jvm.hb hb hd) rfl ((if0 _ _).trans (XT.ii_gt_f q)) hs) (hF q)
theorem R_if_le {x : Int32} {o : Int} (hd : decode μ.bs pc = .ok (.ifCond .le o, 3)) (ho : 0 ≤ (pc : Int) + o) (hp : ((pc : Int) + o).toNat = pc')
    (hT : ¬ 0 < x → Run Γ μ k n O pc' Ls st) (hF : 0 < x → Run Γ μ k n O (pc + 3) Ls st) : Run Γ μ k n O pc Ls (.int x :: st) := by
  by_cases q : 0 < x
  · exact R_plain (fun p e below T m c h hx hb target hs => XS.ifNo h hx rfl (Jvm.hb hb hd) rfl ((if0 _ _).trans (XT.ii_le_f q)) hs) (hF q)
  · exact R_plain (fun p e below T m c h hx hb target hs => XS.ifYes h hx rfl (pc0 := pc) (pc' := pc') rfl (Jvm.hb hb hd) rfl ((if0 _ _).trans (XT.ii_le_t q)) ho hp hs) (hT q)
theorem R_lcmp_eq {x y : Int64} {o : Int} (hd : decode μ.bs pc = .ok (.ifCond .eq o, 3)) (ho : 0 ≤ (pc : Int) + o) (hp : ((pc : Int) + o).toNat = pc')
    (hT : x = y → Run Γ μ k n O pc' Ls st) (hF : ¬ x = y → Run Γ μ k n O (pc + 3) Ls st) : Run Γ μ k n O pc Ls (.int (XT.cmpL x y) :: st) := by
  by_cases q : x = y
  · exact R_plain (fun p e below T m c h hx hb target hs => XS.ifYes h hx rfl (pc0 := pc) (pc' := pc') rfl (Jvm.hb hb hd) rfl (XT.ll_eq_t q) ho hp hs) (hT q)
  · exact R_plain (fun p e below T m c h hx hb target hs => XS.ifNo h hx rfl (Jvm.hb hb hd) rfl (XT.ll_eq_f q) hs) (hF q)
theorem R_lcmp_ne {x y : Int64} {o : Int} (hd : decode μ.bs pc = .ok (.ifCond .ne o, 3)) (ho : 0 ≤ (pc : Int) + o) (hp : ((pc : Int) + o).toNat = pc')
    (hT : ¬ x = y → Run Γ μ k n O pc' Ls st) (hF : x = y → Run Γ μ k n O (pc + 3) Ls st) : Run Γ μ k n O pc Ls (.int (XT.cmpL x y) :: st) := by
  by_cases q : x = y
  · exact R_plain (fun p e below T m c h hx hb target hs => XS.ifNo h hx rfl (Jvm.hb hb hd) rfl (XT.ll_ne_f q) hs) (hF q)
  · exact R_plain (fun p e below T m c h hx hb target hs => XS.ifYes h hx rfl (pc0 := pc) (pc' := pc') rfl (Jvm.hb hb hd) rfl (XT.ll_ne_t q) ho hp hs) (hT q)
theorem R_lcmp_lt {x y : Int64} {o : Int} (hd : decode μ.bs pc = .ok (.ifCond .lt o, 3)) (ho : 0 ≤ (pc : Int) + o) (hp : ((pc : Int) + o).toNat = pc')
    (hT : x < y → Run Γ μ k n O pc' Ls st) (hF : ¬ x < y → Run Γ μ k n O (pc + 3) Ls st) : Run Γ μ k n O pc Ls (.int (XT.cmpL x y) :: st) := by
  by_cases q : x < y
  · exact R_plain (fun p e below T m c h hx hb target hs => XS.ifYes h hx rfl (pc0 := pc) (pc' := pc') rfl (Jvm.hb hb hd) rfl (XT.ll_lt_t q) ho hp hs) (hT q)
  · exact R_plain (fun p e below T m c h hx hb target hs => XS.ifNo h hx rfl (Jvm.hb hb hd) rfl (XT.ll_lt_f q) hs) (hF q)
theorem R_lcmp_ge {x y : Int64} {o : Int} (hd : decode μ.bs pc = .ok (.ifCond .ge o, 3)) (ho : 0 ≤ (pc : Int) + o) (hp : ((pc : Int) + o).toNat = pc')
    (hT : ¬ x < y → Run Γ μ k n O pc' Ls st) (hF : x < y → Run Γ μ k n O (pc + 3) Ls st) : Run Γ μ k n O pc Ls (.int (XT.cmpL x y) :: st) := by
  by_cases q : x < y
  · exact R_plain (fun p e below T m c h hx hb target hs => XS.ifNo h hx rfl (Jvm.hb hb hd) rfl (XT.ll_ge_f q) hs) (hF q)
  · exact R_plain (fun p e below T m c h hx hb target hs => XS.ifYes h hx rfl (pc0 := pc) (pc' := pc') rfl (Jvm.hb hb hd) rfl (XT.ll_ge_t q) ho hp hs) (hT q)
theorem R_lcmp_gt {x y : Int64} {o : Int} (hd : decode μ.bs pc = .ok (.ifCond .gt o, 3)) (ho : 0 ≤ (pc : Int) + o) (hp : ((pc : Int) + o).toNat = pc')
    (hT : y < x → Run Γ μ k n O pc' Ls st) (hF : ¬ y < x → Run Γ μ k n O (pc + 3) Ls st) : Run Γ μ k n O pc Ls (.int (XT.cmpL x y) :: st) := by
  by_cases q : y < x
  · exact R_plain (fun p e below T m c h hx hb target hs => XS.ifYes h hx rfl (pc0 := pc) (pc' := pc') rfl (Jvm.hb hb hd) rfl (XT.ll_gt_t q) ho hp hs) (hT q)
  · exact R_plain (fun p e below T m c h hx hb target hs => XS.ifNo h hx rfl (Jvm.hb hb hd) rfl (XT.ll_gt_f q) hs) (hF q)
theorem R_lcmp_le {x y : Int64} {o : Int} (hd : decode μ.bs pc = .ok (.ifCond .le o, 3)) (ho : 0 ≤ (pc : Int) + o) (hp : ((pc : Int) + o).toNat = pc')
    (hT : ¬ y < x → Run Γ μ k n O pc' Ls st) (hF : y < x → Run Γ μ k n O (pc + 3) Ls st) : Run Γ μ k n O pc Ls (.int (XT.cmpL x y) :: st) := by
  by_cases q : y < x
  · exact R_plain (fun p e below T m c h hx hb target hs => XS.ifNo h hx rfl (Jvm.hb hb hd) rfl (XT.ll_le_f q) hs) (hF q)
  · exact R_plain (fun p e below T m c h hx hb target hs => XS.ifYes h hx rfl (pc0 := pc) (pc' := pc') rfl (Jvm.hb hb hd) rfl (XT.ll_le_t q) ho hp hs) (hT q)
theorem R_ifnull {v : Value} {o : Int} (hd : decode μ.bs pc = .ok (.ifnull o, 3)) (hv : v.isRef = true) (ho : 0 ≤ (pc : Int) + o) (hp : ((pc : Int) + o).toNat = pc')
    (hT : v = .null → Run Γ μ k n O pc' Ls st) (hF : ¬ v = .null → Run Γ μ k n O (pc + 3) Ls st) : Run Γ μ k n O pc Ls (v :: st) := by
  by_cases q : v = .null
  · exact R_plain (fun p e below T m c h hx hb target hs => XT.nullYes h hx rfl (pc0 := pc) (pc' := pc') rfl (Jvm.hb hb hd) rfl q ho hp hs) (hT q)
  · exact R_plain (fun p e below T m c h hx hb target hs => XT.nullNo h hx rfl (Jvm.hb hb hd) rfl hv q hs) (hF q)
theorem R_ifnonnull {v : Value} {o : Int} (hd : decode μ.bs pc = .ok (.ifnonnull o, 3)) (hv : v.isRef = true) (ho : 0 ≤ (pc : Int) + o) (hp : ((pc : Int) + o).toNat = pc')
    (hT : ¬ v = .null → Run Γ μ k n O pc' Ls st) (hF : v = .null → Run Γ μ k n O (pc + 3) Ls st) : Run Γ μ k n O pc Ls (v :: st) := by
  by_cases q : v = .null
  · exact R_plain (fun p e below T m c h hx hb target hs => XT.nonnullNo h hx rfl (Jvm.hb hb hd) rfl q hs) (hF q)
  · exact R_plain (fun p e below T m c h hx hb target hs => XT.nonnullYes h hx rfl (pc0 := pc) (pc' := pc') rfl (Jvm.hb hb hd) rfl hv q ho hp hs) (hT q)
theorem R_acmp_eq {x y : Value} {o : Int} (hd : decode μ.bs pc = .ok (.if_acmp .eq o, 3)) (hx1 : x.isRef = true) (hy1 : y.isRef = true) (ho : 0 ≤ (pc : Int) + o) (hp : ((pc : Int) + o).toNat = pc')
    (hT : x = y → Run Γ μ k n O pc' Ls st) (hF : ¬ x = y → Run Γ μ k n O (pc + 3) Ls st) : Run Γ μ k n O pc Ls (y :: x :: st) := by
  by_cases q : x = y
  · exact R_plain (fun p e below T m c h hx hb target hs => XT.acmpYes h hx rfl (pc0 := pc) (pc' := pc') rfl (Jvm.hb hb hd) rfl hx1 hy1 (XT.aa_eq_t q) ho hp hs) (hT q)
  · exact R_plain (fun p e below T m c h hx hb target hs => XT.acmpNo h hx rfl (Jvm.hb hb hd) rfl hx1 hy1 (XT.aa_eq_f q) hs) (hF q)
theorem R_acmp_ne {x y : Value} {o : Int} (hd : decode μ.bs pc = .ok (.if_acmp .ne o, 3)) (hx1 : x.isRef = true) (hy1 : y.isRef = true) (ho : 0 ≤ (pc : Int) + o) (hp : ((pc : Int) + o).toNat = pc')
    (hT : ¬ x = y → Run Γ μ k n O pc' Ls st) (hF : x = y → Run Γ μ k n O (pc + 3) Ls st) : Run Γ μ k n O pc Ls (y :: x :: st) := by
  by_cases q : x = y
  · exact R_plain (fun p e below T m c h hx hb target hs => XT.acmpNo h hx rfl (Jvm.hb hb hd) rfl hx1 hy1 (XT.aa_ne_f q) hs) (hF q)
  · exact R_plain (fun p e below T m c h hx hb target hs => XT.acmpYes h hx rfl (pc0 := pc) (pc' := pc') rfl (Jvm.hb hb hd) rfl hx1 hy1 (XT.aa_ne_t q) ho hp hs) (hT q)
theorem R_tswIn {dflt low high : Int} {offs : Array Int} {len : Nat} {o : Int} {x : Int32} (hd : decode μ.bs pc = .ok (.tableswitch dflt low high offs, len)) (hin : ¬ (x.toInt < low ∨ x.toInt > high)) (hoff : offs[(x.toInt - low).toNat]? = some o) (ho : 0 ≤ (pc : Int) + o) (hp : ((pc : Int) + o).toNat = pc')
    (hr : Run Γ μ k n O pc' Ls st) : Run Γ μ k n O pc Ls (.int x :: st) :=
  R_plain (fun p e below T m c h hx hb target hs => XS.tswIn h hx rfl (pc0 := pc) (pc' := pc') rfl (Jvm.hb hb hd) rfl hin hoff ho hp hs) hr
theorem R_tswOut {dflt low high : Int} {offs : Array Int} {len : Nat} {x : Int32} (hd : decode μ.bs pc = .ok (.tableswitch dflt low high offs, len)) (hout : x.toInt < low ∨ x.toInt > high) (ho : 0 ≤ (pc : Int) + dflt) (hp : ((pc : Int) + dflt).toNat = pc')
    (hr : Run Γ μ k n O pc' Ls st) : Run Γ μ k n O pc Ls (.int x :: st) :=
  R_plain (fun p e below T m c h hx hb target hs => XS.tswOut h hx rfl (pc0 := pc) (pc' := pc') rfl (Jvm.hb hb hd) rfl hout ho hp hs) hr
end B
end Jvm.Own
namespace Jvm.Own
open Sem ClassFile Op Lib Jvm.Stand Jvm.Free Jvm.LawKit Jvm.RoadKit
/-! ## C. contracts, calls, entry, return -/
/-- the contract of a method: called with these arguments, with these cells, it returns and Q -/
def Met (Γ : Gx) (y : MethodName) (bs : ByteArray) (ml : Nat) (ret : Option FieldType) (rm : Room) (as : Array Value) (O1 : OL) (Q : Option Value → OL → Prop) : Prop :=
  ∀ (ws : List Jvm.Cond) (F : OL), MetFree Γ.l y (head1 (Jvm.Cond.code y bs ml ret :: ws) rm) (fun a U => a = as ∧ Inv Γ U.vm U.heap (O1 ++ F)) (fun _ _ _ _ _ => True)
    (fun _ U o U' => ∃ v L O', o = .returned v ∧ Q v O' ∧ Inv Γ U'.vm U'.heap (O' ++ F) ∧ Fr Γ.Z.heap.size L ∧ EndW Γ.w U o U' L rm.cells rm.slots)
section C
variable {Γ : Gx} {μ : Mx} {k n : Nat} {O O1 F' : OL} {pc pc' : Nat} {Ls Ls' : List Slot} {st st' rest : List Value}
variable {y : MethodName} {bs : ByteArray} {ml : Nat} {ret : Option FieldType} {rm : Room} {Q : Option Value → OL → Prop}
theorem Met.intro {as : Array Value} (hpn : plainName y.cls = true) (hef : ∀ m, entryFrame m as ml = mkF m 0 Ls.toArray []) (H : ∀ F, Run Γ (y, bs, ml, ret, rm, Q, F) 0 0 O1 0 Ls []) : Met Γ y bs ml ret rm as O1 Q := by
  intro ws F
  refine MetFree.of_bodySF (code := bs) (maxLocals := ml) (ret := ret) (plainFor_of_name hpn) hisR ?_
  intro p e s m args below meth c s₁ Bd hml0 hP hK
  obtain ⟨rfl, I⟩ := hP
  have X0 : Stand p Γ.l e rm (s.setVm s.vm) m args below meth c s₁ [] 0 0 := Stand.of_body Bd
  have e0 : s₁.heap = s.heap := by rw [Bd.state]; rfl
  have P : Pos Γ (y, bs, ml, ret, rm, Q, F) 0 0 O1 p e s m args below meth c s₁ [] s.vm 0 :=
    ⟨X0, Bd.exec, Bd.bytes, hml0, Bd.returns, (name_of_methodNamed Bd.named Bd.method).1, Bd.notSynchronized, findClass_of_methodNamed Bd.named, (State.WarmedH.refl s).since 0, Nat.zero_le _, fun _ => rfl, Fr.nil _, by rw [e0]; exact I⟩
  rw [hef m]
  exact H F p e s m args below meth c s₁ [] s.vm 0 P
/-- a contract may promise less, or ask more -/
theorem Met.mono {as : Array Value} {Q' : Option Value → OL → Prop} (h : Met Γ y bs ml ret rm as O1 Q) (q : ∀ v O', Q v O' → Q' v O') : Met Γ y bs ml ret rm as O1 Q' := fun ws F p e ha hc hk s m args below hf happ hP hK => by
  obtain ⟨n, o, g1, g2, g3, v, L, O', h1, h2, h3⟩ := h ws F p e ha hc hk s m args below hf happ hP hK
  exact ⟨n, o, g1, g2, g3, v, L, O', h1, q v O' h2, h3⟩
/-- the callee's cells, picked out of the caller's -/
def Picks (O O1 F' : OL) : Prop := O.Perm (O1 ++ F')
theorem pk0 {O : OL} : Picks O [] O := List.Perm.refl _
theorem perm_erase {α : Type} {l : List α} {x : α} : ∀ {i : Nat}, l[i]? = some x → l.Perm (x :: l.eraseIdx i) := by
  induction l with
  | nil => intro i h; simp at h
  | cons b t ih =>
    intro i h
    cases i with
    | zero => simp at h; subst h; exact List.Perm.refl _
    | succ j =>
      simp only [List.getElem?_cons_succ] at h
      exact (List.Perm.cons b (ih h)).trans (List.Perm.swap x b _)
theorem pkS {O O1 F' : OL} {x : El} (i : Nat) (h : O[i]? = some x) (r : Picks (O.eraseIdx i) O1 F') : Picks O (x :: O1) F' :=
  (perm_erase h).trans (List.Perm.cons x r)
theorem mem {α : Type} {l : List α} {x : α} (i : Nat) (h : l[i]? = some x) : x ∈ l := List.mem_of_getElem? h
/-- the heap's part may be re-ordered, forgotten in part -/
theorem R_perm {O' : OL} (p : O.Perm O') (hr : Run Γ μ k n O' pc Ls st) : Run Γ μ k n O pc Ls st := fun P1 e s m args below meth c T locs vm0 k0 P => by
  obtain ⟨x1, x2, x3, x4, x5, x6, x7, x8, x9, x10, x11, x12, x13⟩ := P
  exact hr P1 e s m args below meth c T locs vm0 k0 ⟨x1, x2, x3, x4, x5, x6, x7, x8, x9, x10, x11, x12, x13.perm (p.append_right _)⟩
theorem R_order {O' F' : OL} (hp : Picks O O' F') (hr : Run Γ μ k n (O' ++ F') pc Ls st) : Run Γ μ k n O pc Ls st := R_perm hp hr
theorem R_drop (i : Nat) (hr : Run Γ μ k n (O.eraseIdx i) pc Ls st) : Run Γ μ k n O pc Ls st := fun P1 e s m args below meth c T locs vm0 k0 P => by
  obtain ⟨x1, x2, x3, x4, x5, x6, x7, x8, x9, x10, x11, x12, x13⟩ := P
  exact hr P1 e s m args below meth c T locs vm0 k0 ⟨x1, x2, x3, x4, x5, x6, x7, x8, x9, x10, x11, x12, x13.sub ((List.eraseIdx_sublist O i).append_right _)⟩
/-- more may be booked than was made -/
theorem R_more {k' n' : Nat} (hk : k ≤ k') (hn : n ≤ n') (hr : Run Γ μ k' n' O pc Ls st) : Run Γ μ k n O pc Ls st := fun P1 e s m args below meth c T locs vm0 k0 P => by
  obtain ⟨x1, r⟩ := P
  exact hr P1 e s m args below meth c T locs vm0 k0 ⟨x1.more hk hn, r⟩
/-- two owned cells differ -/
theorem R_ne {i j : Nat} {a b : Addr} {φ ψ : Cell → Prop} {w : Bool} (hi : O[i]? = some (a, true, φ)) (hj : O[j]? = some (b, w, ψ)) (hij : i ≠ j) (hr : a ≠ b → Run Γ μ k n O pc Ls st) : Run Γ μ k n O pc Ls st := fun P1 e s m args below meth c T locs vm0 k0 P => by
  refine hr ?_ P1 e s m args below meth c T locs vm0 k0 P
  obtain ⟨x1, x2, x3, x4, x5, x6, x7, x8, x9, x10, x11, x12, x13⟩ := P
  have D := x13.2.2.2.2.2
  have e1 : ((O ++ μ.F).map key)[i]? = some (a, true) := by
    rw [List.getElem?_map, List.getElem?_append_left (List.getElem?_eq_some_iff.mp hi).1, hi]; rfl
  have e2 : ((O ++ μ.F).map key)[j]? = some (b, w) := by
    rw [List.getElem?_map, List.getElem?_append_left (List.getElem?_eq_some_iff.mp hj).1, hj]; rfl
  obtain ⟨l1, g1⟩ := List.getElem?_eq_some_iff.mp e1
  obtain ⟨l2, g2⟩ := List.getElem?_eq_some_iff.mp e2
  rcases Nat.lt_or_gt_of_ne hij with q | q
  · have := (List.pairwise_iff_getElem.mp D) i j l1 l2 q
    rw [g1, g2] at this; exact this (Or.inl rfl)
  · have := (List.pairwise_iff_getElem.mp D) j i l2 l1 q
    rw [g1, g2] at this; exact fun z => this (Or.inr rfl) z.symm
/-- what stood at the start is none of what the walk owns -/
theorem R_neOld {i : Nat} {a b : Addr} {φ : Cell → Prop} (hi : O[i]? = some (a, true, φ)) {c0 : Cell} (hb : Γ.Z.heap[b]? = some c0) (hr : a ≠ b → Run Γ μ k n O pc Ls st) : Run Γ μ k n O pc Ls st := fun P1 e s m args below meth c T locs vm0 k0 P => by
  refine hr ?_ P1 e s m args below meth c T locs vm0 k0 P
  have q := P.2.2.2.2.2.2.2.2.2.2.2.2.new (List.mem_append_left _ (List.mem_of_getElem? hi))
  have q2 := (Array.getElem?_eq_some_iff.mp hb).1
  exact Nat.ne_of_gt (Nat.lt_of_lt_of_le q2 q)
/-- a fact of the heap that the walk's premises give -/
theorem R_know {A : Prop} (h : ∀ vm h, Inv Γ vm h (O ++ μ.F) → A) (hr : A → Run Γ μ k n O pc Ls st) : Run Γ μ k n O pc Ls st := fun P1 e s m args below meth c T locs vm0 k0 P =>
  hr (h _ _ P.2.2.2.2.2.2.2.2.2.2.2.2) P1 e s m args below meth c T locs vm0 k0 P
/-- a cell of the start, shared -/
theorem R_share {a : Addr} {φ : Cell → Prop} {c0 : Cell} (hc : Γ.Z.heap[a]? = some c0) (hφ : φ c0) (hr : Run Γ μ k n ((a, false, φ) :: O) pc Ls st) : Run Γ μ k n O pc Ls st := fun P1 e s m args below meth c T locs vm0 k0 P => by
  obtain ⟨x1, x2, x3, x4, x5, x6, x7, x8, x9, x10, x11, x12, h1, h2, h3, h4, h5, h6⟩ := P
  refine hr P1 e s m args below meth c T locs vm0 k0 ⟨x1, x2, x3, x4, x5, x6, x7, x8, x9, x10, x11, x12, h1, h2, h3, fun x hx => ?_, fun x hx ht => ?_, ?_⟩
  · rcases List.mem_cons.mp hx with rfl | hx
    · exact ⟨c0, h2.2 _ _ hc, hφ⟩
    · exact h4 x hx
  · rcases List.mem_cons.mp hx with rfl | hx
    · cases ht
    · exact h5 x hx ht
  · refine List.pairwise_cons.mpr ⟨fun y hy ht e => ?_, h6⟩
    obtain ⟨z, hz, rfl⟩ := List.mem_map.mp hy
    rcases ht with q | q
    · cases q
    · have l0 := (h5 z hz q).1
      have l1 := (Array.getElem?_eq_some_iff.mp hc).1
      have e' : a = z.1 := e
      exact absurd l1 (Nat.not_lt.mpr (e' ▸ l0))
/-- the end of a walk -/
theorem R_leave {v : Option Value} (hv : μ.ret = none → v = none) (hQ : μ.Q v O) (hk : k ≤ μ.R.cells) (hn : n ≤ μ.R.slots)
    (H : ∀ (p : Program) (e : Env) (s : State) (m : MethodId) (args : Array Value) (below : List Frame) (meth : Method) (c : Code) (T : State) (locs : List Loc), Stand p Γ.l e μ.R s m args below meth c T locs k n → p.tables.exec = Jvm.exec → c.code = μ.bs → meth.sig.returnType = μ.ret → ∀ fs : List Frame,
      (∀ (f : JFrame) (acts : List Action), f.method = m → f.locked = none → f.entered = [] → (doReturn e (T.setTop f) acts v).1 = T.setFrames fs) → Steps p.tables e below (T.setTop (mkF m pc Ls.toArray st)) (T.setFrames fs)) : Run Γ μ k n O pc Ls st := fun p e s m args below meth c T locs vm0 k0 P => by
  obtain ⟨X, hx, hb, hml, hret, hnm, hlk, hown, hS, hk0, hw, hF, I⟩ := P
  obtain ⟨fs, hr, hrun, hended, hW, hsame⟩ := X.leave (v := v) (fun q => hv (hret ▸ q)) hlk
  refine ⟨T.setFrames fs, .returned v, H p e _ m args below meth c T locs X hx hb hret fs hr, hrun, hended, v, locs, O, rfl, hQ, I.later X.warmed, hF, fun _ => ?_, fun w => ?_⟩
  · obtain ⟨a, b, c'⟩ := hS.ended (U := T.setFrames fs) hW hk0 hsame
    exact ⟨⟨v, rfl⟩, a, b, c'.mono hk hn⟩
  · have e0 := hw w
    subst e0
    exact ⟨⟨v, rfl⟩, hW, hsame.mono hk hn⟩
theorem R_return (hd : decode μ.bs pc = .ok (.return_, 1)) (hret : μ.ret = none) (hQ : μ.Q none O) (hk : k ≤ μ.R.cells) (hn : n ≤ μ.R.slots) : Run Γ μ k n O pc Ls [] :=
  R_leave (fun _ => rfl) hQ hk hn fun p e s m args below meth c T locs X hx hb hr fs hl => X.returnOut hx (hr.trans hret) (Jvm.hb hb hd) hl
theorem R_ireturn {x : Int32} (hd : decode μ.bs pc = .ok (.ireturn, 1)) (hret : μ.ret = some .int) (hQ : μ.Q (some (.int x)) O) (hk : k ≤ μ.R.cells) (hn : n ≤ μ.R.slots) : Run Γ μ k n O pc Ls (.int x :: st) :=
  R_leave (v := some (.int x)) (fun q => by rw [hret] at q; cases q) hQ hk hn fun p e s m args below meth c T locs X hx hb hr fs hl => retOut X hx (hr.trans hret) rfl (Or.inl ⟨rfl, Or.inl rfl, x, rfl⟩) (Jvm.hb hb hd) hl
theorem R_ireturnN {x : Int32} {t : FieldType} (hd : decode μ.bs pc = .ok (.ireturn, 1)) (hret : μ.ret = some t) (ht : t = .boolean ∨ t = .byte ∨ t = .char ∨ t = .short) (hQ : μ.Q (some (.int (nar t x))) O) (hk : k ≤ μ.R.cells) (hn : n ≤ μ.R.slots) : Run Γ μ k n O pc Ls (.int x :: st) :=
  R_leave (v := some (.int (nar t x))) (fun q => by rw [hret] at q; cases q) hQ hk hn fun p e s m args below meth c T locs X hx hb hr fs hl => retN X hx (hr.trans hret) ht (Jvm.hb hb hd) hl
theorem R_lreturn {x : Int64} (hd : decode μ.bs pc = .ok (.lreturn, 1)) (hret : μ.ret = some .long) (hQ : μ.Q (some (.long x)) O) (hk : k ≤ μ.R.cells) (hn : n ≤ μ.R.slots) : Run Γ μ k n O pc Ls (.long x :: st) :=
  R_leave (v := some (.long x)) (fun q => by rw [hret] at q; cases q) hQ hk hn fun p e s m args below meth c T locs X hx hb hr fs hl => retOut X hx (hr.trans hret) rfl (Or.inr (Or.inl ⟨rfl, rfl, x, rfl⟩)) (Jvm.hb hb hd) hl
theorem R_areturn {v : Value} {t : FieldType} (hd : decode μ.bs pc = .ok (.areturn, 1)) (hret : μ.ret = some t) (ht : t.isReference = true) (hv : v.isRef = true) (hQ : μ.Q (some v) O) (hk : k ≤ μ.R.cells) (hn : n ≤ μ.R.slots) : Run Γ μ k n O pc Ls (v :: st) :=
  R_leave (v := some v) (fun q => by rw [hret] at q; cases q) hQ hk hn fun p e s m args below meth c T locs X hx hb hr fs hl => retOut X hx (hr.trans hret) (by cases t <;> first | (cases ht; done) | (cases v <;> first | (cases hv; done) | rfl)) (Or.inr (Or.inr (Or.inr (Or.inr ⟨rfl, ht, hv⟩)))) (Jvm.hb hb hd) hl
/-! ### calls -/
/-- the two payers' premises and promises -/
def PreM (Γ : Gx) (R rm : Room) (as : Array Value) (O1 F : OL) : Pt → Array Value → Prop := fun A a => a = as ∧ Inv Γ A.U.vm A.U.heap (O1 ++ F) ∧ A.cells + rm.cells ≤ R.cells ∧ A.slots + rm.slots ≤ R.slots
def PostM (Γ : Gx) (rm : Room) (Q : Option Value → OL → Prop) (F : OL) : Pt → Array Value → Option Value → Pt → Prop := fun A _ v B => ∃ L O', Q v O' ∧ Inv Γ B.U.vm B.U.heap (O' ++ F) ∧ Fr Γ.Z.heap.size L ∧ B.locs = A.locs ++ L ∧ B.cells = A.cells + rm.cells ∧ B.slots = A.slots + rm.slots
theorem payS {as : Array Value} {F : OL} {R : Room} {p : Program} {e : Env} {below : List Frame} {s : State} {args : Array Value} {len W : Nat} (hM : Met Γ y bs ml ret rm as O1 Q) (hw : Γ.w = true) (wc : (Jvm.Cond.code y bs ml ret).before Γ.a0 Γ.Z = true) (wz : (Jvm.Cond.initialized y.cls).before Γ.a0 Γ.Z = true)
    (hf : rm.frames + 1 ≤ R.frames) (hl : W + (ml + 11) + rm.locals ≤ R.locals) : BackS Γ.l R p e below s args y len W (PreM Γ R rm as O1 F) (PostM Γ rm Q F) :=
  BackS.of_freeW (bytes := bs) (maxL := ml) (ret := ret) (E := fun _ _ o t L k n => k = rm.cells ∧ n = rm.slots ∧ ∃ v O', o = .returned v ∧ Q v O' ∧ Inv Γ t.vm t.heap (O' ++ F) ∧ Fr Γ.Z.heap.size L) (hM [] F) hf hl
    (fun m meth c A a Y hp => ⟨by show (Jvm.Cond.and _ .tt).before a A.U = true; rw [Cond.before_and, mv (s := A.U) hp.2.1.Z wc]; rfl, mv (s := A.U) hp.2.1.Z wc, mv (s := A.U) hp.2.1.Z wz, hp.2.2.1, hp.2.2.2⟩)
    (fun m meth c A a g mk Y hp => ⟨hp.1, hp.2.1⟩) (fun _ _ _ _ _ _ _ _ _ => trivial)
    (fun _ _ _ _ ⟨v, L, O', h1, h2, h3, h4, h5⟩ => ⟨L, _, _, h5.1 hw, rfl, rfl, v, O', h1, h2, h3, h4⟩)
    (fun m meth c A a g mk v t L k n Y hp _ _ ⟨e1, e2, v', O', e3, e4, e5, e6⟩ => by cases e3; subst e1 e2; exact ⟨L, O', e4, e5, e6, rfl, rfl, rfl⟩)
theorem payN {as : Array Value} {F : OL} {R : Room} {p : Program} {e : Env} {below : List Frame} {s : State} {args : Array Value} {len W : Nat} (hM : Met Γ y bs ml ret rm as O1 Q) (hw : Γ.w = false) (wc : (Jvm.Cond.code y bs ml ret).before Γ.a0 Γ.Z = true) (wz : (Jvm.Cond.initialized y.cls).before Γ.a0 Γ.Z = true)
    (hf : rm.frames + 1 ≤ R.frames) (hl : W + (ml + 11) + rm.locals ≤ R.locals) : Back Γ.l R p e below s args y len W (PreM Γ R rm as O1 F) (PostM Γ rm Q F) :=
  Back.of_free (bytes := bs) (maxL := ml) (ret := ret) (E := fun _ _ o t L k n => k = rm.cells ∧ n = rm.slots ∧ ∃ v O', o = .returned v ∧ Q v O' ∧ Inv Γ t.vm t.heap (O' ++ F) ∧ Fr Γ.Z.heap.size L) (hM [] F) hf hl
    (fun m meth c A a Y hp => ⟨by show (Jvm.Cond.and _ .tt).before a A.U = true; rw [Cond.before_and, mv (s := A.U) hp.2.1.Z wc]; rfl, mv (s := A.U) hp.2.1.Z wc, mv (s := A.U) hp.2.1.Z wz, hp.2.2.1, hp.2.2.2⟩)
    (fun m meth c A a g mk Y hp => ⟨hp.1, hp.2.1⟩) (fun _ _ _ _ _ _ _ _ _ => trivial)
    (fun _ _ _ _ ⟨v, L, O', h1, h2, h3, h4, h5⟩ => ⟨L, _, _, h5.2 hw, rfl, rfl, v, O', h1, h2, h3, h4⟩)
    (fun m meth c A a g mk v t L k n Y hp _ _ ⟨e1, e2, v', O', e3, e4, e5, e6⟩ => by cases e3; subst e1 e2; exact ⟨L, O', e4, e5, e6, rfl, rfl, rfl⟩)
/-- at this place the instruction calls y with as, over rest -/
def Site (Γ : Gx) (μ : Mx) (k n : Nat) (O : OL) (pc : Nat) (Ls : List Slot) (st : List Value) (y : MethodName) (len : Nat) (as rest : List Value) : Prop :=
  ∀ (p : Program) (e : Env) (s : State) (m : MethodId) (args : Array Value) (below : List Frame) (meth : Method) (c : Code) (T : State) (locs : List Loc) (vm0 : Vm) (k0 : Nat), Pos Γ μ k n O p e s m args below meth c T locs vm0 k0 →
    (∀ Pre Post, BackS Γ.l μ.R p e below (s.setVm vm0) args y len ((rest.map fun v => v.category).sum) Pre Post → (∀ vm₁, (s.setVm vm0).WarmedH vm₁ → Pre ⟨T.setVm vm₁, locs, k, n⟩ as.toArray) →
      ∃ (v : Option Value) (vm₁ : Vm) (B : Pt), (s.setVm vm0).WarmedH vm₁ ∧ Stand p Γ.l e μ.R ((s.setVm vm0).setVm B.U.vm) m args below meth c B.U B.locs B.cells B.slots ∧ (s.setVm vm0).Since B.U.vm B.U.heap.size ∧ T.heap.size ≤ B.U.heap.size ∧ Post ⟨T.setVm vm₁, locs, k, n⟩ as.toArray v B ∧
        Steps p.tables e below (T.setTop (mkF m pc Ls.toArray st)) (B.U.setTop (mkF m (pc + len) Ls.toArray (v.toList ++ rest)))) ∧
    (∀ Pre Post, Back Γ.l μ.R p e below (s.setVm vm0) args y len ((rest.map fun v => v.category).sum) Pre Post → (∀ vm₁, (s.setVm vm0).WarmedH vm₁ → Pre ⟨T.setVm vm₁, locs, k, n⟩ as.toArray) →
      ∃ (v : Option Value) (vm₁ : Vm) (B : Pt), (s.setVm vm0).WarmedH vm₁ ∧ Stand p Γ.l e μ.R (s.setVm vm0) m args below meth c B.U B.locs B.cells B.slots ∧ Post ⟨T.setVm vm₁, locs, k, n⟩ as.toArray v B ∧
        Steps p.tables e below (T.setTop (mkF m pc Ls.toArray st)) (B.U.setTop (mkF m (pc + len) Ls.toArray (v.toList ++ rest))))
theorem R_call {as : List Value} {len : Nat} (S : Site Γ μ k n O pc Ls st y len as rest) (hM : Met Γ y bs ml ret rm as.toArray O1 Q) (hp : Picks O O1 F') (wc : (Jvm.Cond.code y bs ml ret).before Γ.a0 Γ.Z = true) (wz : (Jvm.Cond.initialized y.cls).before Γ.a0 Γ.Z = true)
    (hf : rm.frames + 1 ≤ μ.R.frames) (hl : ((rest.map fun v => v.category).sum) + (ml + 11) + rm.locals ≤ μ.R.locals) (hc : k + rm.cells ≤ μ.R.cells) (hs : n + rm.slots ≤ μ.R.slots)
    (hr : ∀ v O', Q v O' → Run Γ μ (k + rm.cells) (n + rm.slots) (O' ++ F') (pc + len) Ls (v.toList ++ rest)) : Run Γ μ k n O pc Ls st := fun p e s m args below meth c T locs vm0 k0 P => by
  obtain ⟨SS, SN⟩ := S p e s m args below meth c T locs vm0 k0 P
  obtain ⟨X, hx, hb, hml, hret, hnm, hlk, hown, hS, hk0, hw, hF, I⟩ := P
  have pre : ∀ vm₁, (s.setVm vm0).WarmedH vm₁ → PreM Γ μ.R rm as.toArray O1 (F' ++ μ.F) ⟨T.setVm vm₁, locs, k, n⟩ as.toArray := fun vm₁ hW =>
    ⟨rfl, by have I1 := (I.later hW).perm (hp.append_right μ.F); rw [List.append_assoc] at I1; exact I1, hc, hs⟩
  cases ww : Γ.w with
  | true =>
    obtain ⟨v, vm₁, ⟨U, Lb, kb, nb⟩, hW, X', hS', hg, ⟨L, O', q1, q2, q3, q4, q5, q6⟩, hst⟩ := SS _ _ (payS hM ww wc wz hf hl (F := F' ++ μ.F)) pre
    dsimp only [Pt.U, Pt.locs, Pt.cells, Pt.slots] at X' hS' hg q2 q4 q5 q6 hst
    subst q4 q5 q6
    refine (hr v O' q1 p e s m args below meth c U _ U.vm U.heap.size ⟨X', hx, hb, hml, hret, hnm, hlk, ?_, hS.trans hS' (Nat.le_trans hk0 hg), Nat.le_refl _, fun q => by rw [ww] at q; (cases q), hF.app q3, ?_⟩).back fun target hrest => hst.trans hrest
    · exact (hS'.1.alike.findClass _ _).trans hown
    · rw [List.append_assoc]; exact q2
  | false =>
    obtain ⟨v, vm₁, ⟨U, Lb, kb, nb⟩, hW, X', ⟨L, O', q1, q2, q3, q4, q5, q6⟩, hst⟩ := SN _ _ (payN hM ww wc wz hf hl (F := F' ++ μ.F)) pre
    dsimp only [Pt.U, Pt.locs, Pt.cells, Pt.slots] at X' q2 q4 q5 q6 hst
    subst q4 q5 q6
    have e0 := hw ww
    subst e0
    refine (hr v O' q1 p e s m args below meth c U _ s.vm 0 ⟨X', hx, hb, hml, hret, hnm, hlk, hown, (State.WarmedH.refl s).since 0, Nat.zero_le _, fun _ => rfl, hF.app q3, ?_⟩).back fun target hrest => hst.trans hrest
    rw [List.append_assoc]; exact q2.narrow ww I.Z
end C
end Jvm.Own
namespace Jvm.Own
open Sem ClassFile Op Lib Jvm.Stand Jvm.Free Jvm.LawKit Jvm.RoadKit
/-! ## D. call sites, and steps that read or write the heap -/
section D
variable {Γ : Gx} {μ : Mx} {k n : Nat} {O O1 F' : OL} {pc pc' : Nat} {Ls Ls' : List Slot} {st st' rest : List Value} {y z : MethodName} {index : Nat}
abbrev Wd (Γ : Gx) (d : Jvm.Cond) : Prop := d.before Γ.a0 Γ.Z = true
theorem S_static {as : List Value} {bs : ByteArray} {ml : Nat} {ret : Option FieldType} (hd : decode μ.bs pc = .ok (.invokestatic index, 3)) (w1 : Wd Γ (.methodLink μ.y.cls index y)) (w2 : Wd Γ (.static y)) (w3 : Wd Γ (.initialized y.cls)) (w4 : Wd Γ (.code y bs ml ret)) (hy : y.cls ≠ "java/lang/invoke/MethodHandle" ∧ y.cls ≠ "java/lang/invoke/VarHandle")
    {ps : List FieldType} {r : Option FieldType} (hp : parseMethodDescriptor y.desc = some ⟨ps, r⟩) (hln : as.length = ps.length) (hsz : Ls.length = μ.ml) (hst : st = as.reverse ++ rest) : Site Γ μ k n O pc Ls st y 3 as rest := fun p e s m args below meth c T locs vm0 k0 P => by
  subst hst
  obtain ⟨X, hx, hb, hml, hret, hnm, hlk, hown, hS, hk0, hw, hF, I⟩ := P
  have hZ := I.Z
  refine ⟨fun Pre Post hK hpre => ?_, fun Pre Post hK hpre => ?_⟩
  · exact callSS X hx hown (mvT (s := s.setVm vm0) hZ w1) (mvT (s := s.setVm vm0) hZ w2) (mvT (s := s.setVm vm0) hZ w3) (mvT (s := s.setVm vm0) hZ w4) hy hK (g := mkF m pc Ls.toArray (as.reverse ++ rest)) rfl (by rw [hml]; simpa using hsz) (argsL := as) (rest := rest) (lenOf hp hln) rfl (by show 2 * 0 + _ ≤ _; omega) (Jvm.hb hb hd) hpre
  · have c4 : (Jvm.Cond.code y bs ml ret).before args (s.setVm vm0) = true := mvT (s := s.setVm vm0) hZ w4
    obtain ⟨mk, hnamed⟩ := Cond.code_named c4
    obtain ⟨methM, cM, hmethM, -, -, -, -, -, -, hsigM⟩ := Cond.code_spec hnamed c4
    exact Stand.staticBack X hx hown (mvT (s := s.setVm vm0) hZ w1) (mvT (s := s.setVm vm0) hZ w2) (mvT (s := s.setVm vm0) hZ w3) hnamed hmethM hsigM hy hK (g := mkF m pc Ls.toArray (as.reverse ++ rest)) rfl (by rw [hml]; simpa using hsz) (Steps.refl _) (argsL := as) (rest := rest) (lenOf hp hln) rfl (by show 2 * 0 + _ ≤ _; omega) (Jvm.hb hb hd) hpre
theorem S_special {a : Addr} {as : List Value} {bs : ByteArray} {ml : Nat} (hd : decode μ.bs pc = .ok (.invokespecial index, 3)) (hy1 : y.name = "<init>") (w1 : Wd Γ (.methodLink μ.y.cls index y)) (w2 : Wd Γ (.instanceMethod y)) (w4 : Wd Γ (.code y bs ml none)) (hy : y.cls ≠ "java/lang/invoke/MethodHandle" ∧ y.cls ≠ "java/lang/invoke/VarHandle")
    {ps : List FieldType} {r : Option FieldType} (hp : parseMethodDescriptor y.desc = some ⟨ps, r⟩) (hln : as.length = ps.length) (hsz : Ls.length = μ.ml) (hst : st = as.reverse ++ .ref a :: rest) : Site Γ μ k n O pc Ls st y 3 (.ref a :: as) rest := fun p e s m args below meth c T locs vm0 k0 P => by
  subst hst
  obtain ⟨X, hx, hb, hml, hret, hnm, hlk, hown, hS, hk0, hw, hF, I⟩ := P
  have hZ := I.Z
  refine ⟨fun Pre Post hK hpre => ?_, fun Pre Post hK hpre => ?_⟩
  · exact X.specialBackS hx hy1 hown (mvT (s := s.setVm vm0) hZ w1) (mvT (s := s.setVm vm0) hZ w2) (mvT (s := s.setVm vm0) hZ w4) hy hK (g := mkF m pc Ls.toArray (as.reverse ++ .ref a :: rest)) rfl (by rw [hml]; simpa using hsz) (Steps.refl _) (a := a) (argsL := as) (rest := rest) (lenOf hp hln) rfl (by show 2 * 0 + _ ≤ _; omega) (Jvm.hb hb hd) hpre
  · exact X.specialBack hx hy1 hown (mvT (s := s.setVm vm0) hZ w1) (mvT (s := s.setVm vm0) hZ w2) (mvT (s := s.setVm vm0) hZ w4) hy hK (g := mkF m pc Ls.toArray (as.reverse ++ .ref a :: rest)) rfl (by rw [hml]; simpa using hsz) (Steps.refl _) (a := a) (argsL := as) (rest := rest) (lenOf hp hln) rfl (by show 2 * 0 + _ ≤ _; omega) (Jvm.hb hb hd) hpre
theorem exa_of {vm : Vm} {h : Heap} {C : String} {a : Addr} {b : Bool} {fs : List Fd} (I : Inv Γ vm h (O ++ μ.F)) (hm : (a, b, Obj Γ C fs) ∈ O) : Exa Γ.Z h a C := by
  obtain ⟨c, e, F⟩ := I.cell (List.mem_append_left _ hm); exact F.exa e
/-- a virtual call on an object of the class C -/
theorem S_virtual {a : Addr} {b : Bool} {C : String} {fs : List Fd} {as : List Value} (hm : (a, b, Obj Γ C fs) ∈ O) (hd : decode μ.bs pc = .ok (.invokevirtual index, 3)) (w1 : Wd Γ (.methodLink μ.y.cls index y)) (w2 : Wd Γ (.declares y)) (nf : ∀ (s : State), Γ.Z.Warmed39 s.vm → NotFace s y) (w3 : Wd Γ (.selects C y z)) (w4 : Wd Γ (.instanceMethod z)) (hy : y.cls ≠ "java/lang/invoke/MethodHandle" ∧ y.cls ≠ "java/lang/invoke/VarHandle")
    {ps : List FieldType} {r : Option FieldType} (hp : parseMethodDescriptor y.desc = some ⟨ps, r⟩) (hln : as.length = ps.length) (hsz : Ls.length = μ.ml) (hst : st = as.reverse ++ .ref a :: rest) : Site Γ μ k n O pc Ls st z 3 (.ref a :: as) rest := fun p e s m args below meth c T locs vm0 k0 P => by
  subst hst
  obtain ⟨X, hx, hb, hml, hret, hnm, hlk, hown, hS, hk0, hw, hF, I⟩ := P
  have hZ := I.Z
  obtain ⟨cB, kB, i1, i2, i3⟩ := isOf (s := s.setVm vm0) (T := T) hZ rfl (exa_of I hm)
  refine ⟨fun Pre Post hK hpre => ?_, fun Pre Post hK hpre => ?_⟩
  · exact X.virtualBackS hx hown (mvT (s := s.setVm vm0) hZ w1) (mvT (s := s.setVm vm0) hZ w2) (nf _ hZ) (mvT (s := s.setVm vm0) hZ w3) (mvT (s := s.setVm vm0) hZ w4) hy hK i1 i3 (g := mkF m pc Ls.toArray (as.reverse ++ .ref a :: rest)) rfl (by rw [hml]; simpa using hsz) (Steps.refl _) (argsL := as) (rest := rest) (lenOf hp hln) rfl (by show 2 * 0 + _ ≤ _; omega) (Jvm.hb hb hd) hpre
  · exact X.virtualBack hx hown (mvT (s := s.setVm vm0) hZ w1) (mvT (s := s.setVm vm0) hZ w2) (nf _ hZ) (mvT (s := s.setVm vm0) hZ w3) (mvT (s := s.setVm vm0) hZ w4) hy hK i1 i3 (g := mkF m pc Ls.toArray (as.reverse ++ .ref a :: rest)) rfl (by rw [hml]; simpa using hsz) (Steps.refl _) (argsL := as) (rest := rest) (lenOf hp hln) rfl (by show 2 * 0 + _ ≤ _; omega) (Jvm.hb hb hd) hpre
theorem nf_sel {C : String} (w : Wd Γ (.selects C y y)) : ∀ (s : State), Γ.Z.Warmed39 s.vm → NotFace s y := fun s hZ => notFace_of_selects (args := #[]) (mvT hZ w)
theorem nf_inst {j : Nat} (w : Wd Γ (.instantiable y.cls j)) : ∀ (s : State), Γ.Z.Warmed39 s.vm → NotFace s y := fun s hZ r0 h0 => by
  have hc := findClass_of_methodNamed h0
  obtain ⟨c, kk, h1, h2, h3, h4, -⟩ := Cond.instantiable_spec (mvT (args := #[]) hZ w)
  cases hc.symm.trans h1
  exact ⟨kk, h2, by simpa using (Bool.or_eq_false_iff.mp h4).1⟩
theorem nf_up {S : String} (w : Wd Γ (.superclass y.cls S)) : ∀ (s : State), Γ.Z.Warmed39 s.vm → NotFace s y := fun s hZ => nf_super (args := #[]) (mvT hZ w)
theorem nf_obj (w : Wd Γ (.noSuperclass y.cls)) : ∀ (s : State), Γ.Z.Warmed39 s.vm → NotFace s y := fun s hZ => nf_top (args := #[]) (mvT hZ w)
/-- a private method by invokevirtual -/
theorem S_private {a : Addr} {b : Bool} {φ : Cell → Prop} {as : List Value} {bs : ByteArray} {ml : Nat} {ret : Option FieldType} (hm : (a, b, φ) ∈ O) (hφ : ∀ c, φ c → ∀ q, c.vm ≠ .statics q) (hd : decode μ.bs pc = .ok (.invokevirtual index, 3)) (w1 : Wd Γ (.methodLink μ.y.cls index y)) (w2 : Wd Γ (.instanceMethod y)) (w3 : Wd Γ (.privateMethod y)) (w4 : Wd Γ (.code y bs ml ret)) (nf : ∀ (s : State), Γ.Z.Warmed39 s.vm → NotFace s y) (hy : y.cls ≠ "java/lang/invoke/MethodHandle" ∧ y.cls ≠ "java/lang/invoke/VarHandle")
    {ps : List FieldType} {r : Option FieldType} (hp : parseMethodDescriptor y.desc = some ⟨ps, r⟩) (hln : as.length = ps.length) (hsz : Ls.length = μ.ml) (hst : st = as.reverse ++ .ref a :: rest) : Site Γ μ k n O pc Ls st y 3 (.ref a :: as) rest := fun p e s m args below meth c T locs vm0 k0 P => by
  subst hst
  obtain ⟨X, hx, hb, hml, hret, hnm, hlk, hown, hS, hk0, hw, hF, I⟩ := P
  have hZ := I.Z
  have hpriv := Cond.privateMethod_at (mvP (s := s.setVm vm0) hZ w3 (args := #[]))
  have hinst : (Jvm.Cond.instanceMethod y).before args (s.setVm vm0) = true := mvT (s := s.setVm vm0) hZ w2
  obtain ⟨mk, methM, hnamed, -, -, -⟩ := Cond.instanceMethod_spec hinst
  obtain ⟨kk, hk, hni⟩ := nf (s.setVm vm0) hZ mk hnamed
  have hsel : (Jvm.Cond.selects y.cls y y).before args (s.setVm vm0) = true := selects_self_of_private (findClass_of_methodNamed hnamed) hk hni hpriv hinst hy
  obtain ⟨cell, ec, ef⟩ := I.cell (List.mem_append_left _ hm)
  refine ⟨fun Pre Post hK hpre => ?_, fun Pre Post hK hpre => ?_⟩
  · exact X.privateBackS hx hown (mvT (s := s.setVm vm0) hZ w1) hinst hsel hpriv (mvT (s := s.setVm vm0) hZ w4) hy hK (g := mkF m pc Ls.toArray (as.reverse ++ .ref a :: rest)) rfl (by rw [hml]; simpa using hsz) (Steps.refl _) (a := a) ec (hφ _ ef) (argsL := as) (rest := rest) (lenOf hp hln) rfl (by show 2 * 0 + _ ≤ _; omega) (Jvm.hb hb hd) hpre
  · exact X.privateBack hx hown (mvT (s := s.setVm vm0) hZ w1) hinst hsel hpriv (mvT (s := s.setVm vm0) hZ w4) hy hK (g := mkF m pc Ls.toArray (as.reverse ++ .ref a :: rest)) rfl (by rw [hml]; simpa using hsz) (Steps.refl _) (a := a) ec (hφ _ ef) (argsL := as) (rest := rest) (lenOf hp hln) rfl (by show 2 * 0 + _ ≤ _; omega) (Jvm.hb hb hd) hpre
theorem obj_ns {C : String} {fs : List Fd} : ∀ c, Obj Γ C fs c → ∀ q, c.vm ≠ .statics q := fun c F q e => by have := F.2.2.1; rw [e] at this; cases this
/-- an interface call on an object of the class C -/
theorem S_face {a : Addr} {b : Bool} {C : String} {fs : List Fd} {as : List Value} {count : Nat} (hm : (a, b, Obj Γ C fs) ∈ O) (hd : decode μ.bs pc = .ok (.invokeinterface index count, 5)) (w1 : Wd Γ (.methodLink μ.y.cls index y)) (w2 : Wd Γ (.declares y)) (w3 : Wd Γ (.interfaceMethod y.cls y.cls y.name y.desc)) (w4 : Wd Γ (.selects C y z)) (w5 : Wd Γ (.instanceMethod z)) (w6 : Wd Γ (.publicMethod z)) (w7 : Wd Γ (.unhidden C y.name y.desc)) (w8 : Wd Γ (.castable C y.cls)) (hy : y.cls ≠ "java/lang/invoke/MethodHandle" ∧ y.cls ≠ "java/lang/invoke/VarHandle")
    {ps : List FieldType} {r : Option FieldType} (hp : parseMethodDescriptor y.desc = some ⟨ps, r⟩) (hln : as.length = ps.length) (hsz : Ls.length = μ.ml) (hst : st = as.reverse ++ .ref a :: rest) : Site Γ μ k n O pc Ls st z 5 (.ref a :: as) rest := fun p e s m args below meth c T locs vm0 k0 P => by
  subst hst
  obtain ⟨X, hx, hb, hml, hret, hnm, hlk, hown, hS, hk0, hw, hF, I⟩ := P
  have hZ := I.Z
  obtain ⟨cB, kB, i1, i2, i3⟩ := isOf (s := s.setVm vm0) (T := T) hZ rfl (exa_of I hm)
  refine ⟨fun Pre Post hK hpre => ?_, fun Pre Post hK hpre => ?_⟩
  · exact X.interfaceBackS hx hown (mvT (s := s.setVm vm0) hZ w1) (mvT (s := s.setVm vm0) hZ w2) (mvT (s := s.setVm vm0) hZ w3 (by simp [Cond.onTables, Cond.keepsFace, Cond.faceAtom]; exact Or.inr hy)) (mvT (s := s.setVm vm0) hZ w4) (mvT (s := s.setVm vm0) hZ w5) (mvT (s := s.setVm vm0) hZ w6) (mvT (s := s.setVm vm0) hZ w7) (mvT (s := s.setVm vm0) hZ w8) hy hK i1 i2 i3 (g := mkF m pc Ls.toArray (as.reverse ++ .ref a :: rest)) rfl (by rw [hml]; simpa using hsz) (Steps.refl _) (argsL := as) (rest := rest) (lenOf hp hln) rfl (by show 2 * 0 + _ ≤ _; omega) (Jvm.hb hb hd) hpre
  · exact X.interfaceBack hx hown (mvT (s := s.setVm vm0) hZ w1) (mvT (s := s.setVm vm0) hZ w2) (mvT (s := s.setVm vm0) hZ w3 (by simp [Cond.onTables, Cond.keepsFace, Cond.faceAtom]; exact Or.inr hy)) (mvT (s := s.setVm vm0) hZ w4) (mvT (s := s.setVm vm0) hZ w5) (mvT (s := s.setVm vm0) hZ w6) (mvT (s := s.setVm vm0) hZ w7) (mvT (s := s.setVm vm0) hZ w8) hy hK i1 i2 i3 (g := mkF m pc Ls.toArray (as.reverse ++ .ref a :: rest)) rfl (by rw [hml]; simpa using hsz) (Steps.refl _) (argsL := as) (rest := rest) (lenOf hp hln) rfl (by show 2 * 0 + _ ≤ _; omega) (Jvm.hb hb hd) hpre
/-! ### steps over the heap -/
/-- a step that keeps the heap, the tables' start and what is booked -/
theorem R_read {st' : List Value} {pc' : Nat} (H : ∀ (p : Program) (e : Env) (s : State) (m : MethodId) (args : Array Value) (below : List Frame) (meth : Method) (c : Code) (T : State) (locs : List Loc) (vm0 : Vm) (k0 : Nat), Pos Γ μ k n O p e s m args below meth c T locs vm0 k0 →
      ∃ T', Stand p Γ.l e μ.R (s.setVm vm0) m args below meth c T' locs k n ∧ T'.heap = T.heap ∧ ∀ target, Steps p.tables e below (T'.setTop (mkF m pc' Ls.toArray st')) target → Steps p.tables e below (T.setTop (mkF m pc Ls.toArray st)) target)
    (hr : Run Γ μ k n O pc' Ls st') : Run Γ μ k n O pc Ls st := fun p e s m args below meth c T locs vm0 k0 P => by
  obtain ⟨T', X', e', hst⟩ := H p e s m args below meth c T locs vm0 k0 P
  obtain ⟨X, hx, hb, hml, hret, hnm, hlk, hown, hS, hk0, hw, hF, I⟩ := P
  exact (hr p e s m args below meth c T' locs vm0 k0 ⟨X', hx, hb, hml, hret, hnm, hlk, hown, hS, by rw [e']; exact hk0, hw, hF, by rw [e']; exact I⟩).back hst
theorem R_getfield {R0 O1 nm d C : String} {v : Value} {a : Addr} {b : Bool} {fs : List Fd} (hd : decode μ.bs pc = .ok (.getfield index, 3)) (w : Wd Γ (.fieldLink μ.y.cls index R0 nm d)) (via : Via Γ.Z R0 O1 nm d) (hm : (a, b, Obj Γ C fs) ∈ O) (hf : (O1, nm, d, v) ∈ fs) (hr : Run Γ μ k n O (pc + 3) Ls (v :: st)) : Run Γ μ k n O pc Ls (.ref a :: st) :=
  R_read (fun p e s m args below meth c T locs vm0 k0 P => by
    obtain ⟨X, hx, hb, hml, hret, hnm, hlk, hown, hS, hk0, hw, hF, I⟩ := P
    obtain ⟨cl, ec, ef⟩ := I.cell (List.mem_append_left _ hm)
    exact getF (host := "") X hx I.Z hown (Or.inl w) via rfl (ef.fld ec hf) (g := mkF m pc Ls.toArray (.ref a :: st)) rfl rfl (Jvm.hb hb hd)) hr
theorem R_getfieldNest {R0 O1 nm d C host : String} {v : Value} {a : Addr} {b : Bool} {fs : List Fd} (hd : decode μ.bs pc = .ok (.getfield index, 3)) (w : Wd Γ (.fieldLinkNest μ.y.cls index R0 nm d host)) (via : Via Γ.Z R0 O1 nm d) (hm : (a, b, Obj Γ C fs) ∈ O) (hf : (O1, nm, d, v) ∈ fs) (hr : Run Γ μ k n O (pc + 3) Ls (v :: st)) : Run Γ μ k n O pc Ls (.ref a :: st) :=
  R_read (fun p e s m args below meth c T locs vm0 k0 P => by
    obtain ⟨X, hx, hb, hml, hret, hnm, hlk, hown, hS, hk0, hw, hF, I⟩ := P
    obtain ⟨cl, ec, ef⟩ := I.cell (List.mem_append_left _ hm)
    exact getF X hx I.Z hown (Or.inr w) via rfl (ef.fld ec hf) (g := mkF m pc Ls.toArray (.ref a :: st)) rfl rfl (Jvm.hb hb hd)) hr
theorem R_getstatic {R0 O1 nm d : String} {v : Value} (hd : decode μ.bs pc = .ok (.getstatic index, 3)) (w : Wd Γ (.fieldLink μ.y.cls index R0 nm d)) (via : Via Γ.Z R0 O1 nm d) (F : Sta Γ.Z Γ.Z.heap O1 nm d v) (hr : Run Γ μ k n O (pc + 3) Ls (v :: st)) : Run Γ μ k n O pc Ls st :=
  R_read (fun p e s m args below meth c T locs vm0 k0 P => by
    obtain ⟨X, hx, hb, hml, hret, hnm, hlk, hown, hS, hk0, hw, hF, I⟩ := P
    exact getS (host := "") X hx I.Z hown w via rfl (F.ext I.ext0) (g := mkF m pc Ls.toArray st) rfl (Jvm.hb hb hd)) hr
theorem R_checkcast {K C : String} {a : Addr} {b : Bool} {fs : List Fd} (hd : decode μ.bs pc = .ok (.checkcast index, 3)) (w : Wd Γ (.classLink μ.y.cls index K)) (hm : (a, b, Obj Γ C fs) ∈ O) (wc : Wd Γ (.castable C K)) (hr : Run Γ μ k n O (pc + 3) Ls (.ref a :: st)) : Run Γ μ k n O pc Ls (.ref a :: st) :=
  R_read (fun p e s m args below meth c T locs vm0 k0 P => by
    obtain ⟨X, hx, hb, hml, hret, hnm, hlk, hown, hS, hk0, hw, hF, I⟩ := P
    exact castY X hx I.Z hown w rfl (Ins.of_exa (exa_of I hm) wc) (g := mkF m pc Ls.toArray (.ref a :: st)) rfl rfl (Jvm.hb hb hd)) hr
theorem R_checkcastSelf {K : String} {a : Addr} {b : Bool} {fs : List Fd} (hd : decode μ.bs pc = .ok (.checkcast index, 3)) (w : Wd Γ (.classLink μ.y.cls index K)) (hm : (a, b, Obj Γ K fs) ∈ O) (hr : Run Γ μ k n O (pc + 3) Ls (.ref a :: st)) : Run Γ μ k n O pc Ls (.ref a :: st) :=
  R_read (fun p e s m args below meth c T locs vm0 k0 P => by
    obtain ⟨X, hx, hb, hml, hret, hnm, hlk, hown, hS, hk0, hw, hF, I⟩ := P
    exact castY X hx I.Z hown w rfl (Ins.self (exa_of I hm)) (g := mkF m pc Ls.toArray (.ref a :: st)) rfl rfl (Jvm.hb hb hd)) hr
theorem R_instY {K C : String} {a : Addr} {b : Bool} {fs : List Fd} (hd : decode μ.bs pc = .ok (.instanceof index, 3)) (w : Wd Γ (.classLink μ.y.cls index K)) (hm : (a, b, Obj Γ C fs) ∈ O) (wc : Wd Γ (.castable C K)) (hr : Run Γ μ k n O (pc + 3) Ls (.int 1 :: st)) : Run Γ μ k n O pc Ls (.ref a :: st) :=
  R_read (fun p e s m args below meth c T locs vm0 k0 P => by
    obtain ⟨X, hx, hb, hml, hret, hnm, hlk, hown, hS, hk0, hw, hF, I⟩ := P
    exact instY X hx I.Z hown w rfl (Ins.of_exa (exa_of I hm) wc) (g := mkF m pc Ls.toArray (.ref a :: st)) rfl rfl (Jvm.hb hb hd)) hr
theorem R_instSelf {K : String} {a : Addr} {b : Bool} {fs : List Fd} (hd : decode μ.bs pc = .ok (.instanceof index, 3)) (w : Wd Γ (.classLink μ.y.cls index K)) (hm : (a, b, Obj Γ K fs) ∈ O) (hr : Run Γ μ k n O (pc + 3) Ls (.int 1 :: st)) : Run Γ μ k n O pc Ls (.ref a :: st) :=
  R_read (fun p e s m args below meth c T locs vm0 k0 P => by
    obtain ⟨X, hx, hb, hml, hret, hnm, hlk, hown, hS, hk0, hw, hF, I⟩ := P
    exact instY X hx I.Z hown w rfl (Ins.self (exa_of I hm)) (g := mkF m pc Ls.toArray (.ref a :: st)) rfl rfl (Jvm.hb hb hd)) hr
theorem R_instNo {K C : String} {a : Addr} {b : Bool} {fs : List Fd} (hd : decode μ.bs pc = .ok (.instanceof index, 3)) (w : Wd Γ (.classLink μ.y.cls index K)) (hm : (a, b, Obj Γ C fs) ∈ O) (F : ∃ c t, Γ.Z.vm.findClass C = some c ∧ Γ.Z.vm.findClass K = some t ∧ Γ.Z.vm.assignable c t = false) (hr : Run Γ μ k n O (pc + 3) Ls (.int 0 :: st)) : Run Γ μ k n O pc Ls (.ref a :: st) :=
  R_read (fun p e s m args below meth c T locs vm0 k0 P => by
    obtain ⟨X, hx, hb, hml, hret, hnm, hlk, hown, hS, hk0, hw, hF, I⟩ := P
    exact instNo X hx I.Z hown w rfl (exa_of I hm) F (g := mkF m pc Ls.toArray (.ref a :: st)) rfl rfl (Jvm.hb hb hd)) hr
theorem R_ldcI {v : Int32} (hd : decode μ.bs pc = .ok (.ldc index, 2)) (w : Wd Γ (.constant μ.y.cls index v)) (hr : Run Γ μ k n O (pc + 2) Ls (.int v :: st)) : Run Γ μ k n O pc Ls st :=
  R_read (fun p e s m args below meth c T locs vm0 k0 P => by
    obtain ⟨X, hx, hb, hml, hret, hnm, hlk, hown, hS, hk0, hw, hF, I⟩ := P
    exact ⟨T, X, rfl, X.ldcInt hx hown (mvT (s := s.setVm vm0) I.Z w) (g := mkF m pc Ls.toArray st) rfl (Jvm.hb hb hd)⟩) hr
theorem R_ldc2L {v : Int64} (hd : decode μ.bs pc = .ok (.ldc2_w index, 3)) (w : Wd Γ (.constantLong μ.y.cls index v)) (hr : Run Γ μ k n O (pc + 3) Ls (.long v :: st)) : Run Γ μ k n O pc Ls st :=
  R_read (fun p e s m args below meth c T locs vm0 k0 P => by
    obtain ⟨X, hx, hb, hml, hret, hnm, hlk, hown, hS, hk0, hw, hF, I⟩ := P
    exact ⟨T, X, rfl, X.ldc2Long hx hown (mvT (s := s.setVm vm0) I.Z w) (g := mkF m pc Ls.toArray st) rfl (Jvm.hb hb hd)⟩) hr
theorem R_initO {a : Addr} (hd : decode μ.bs pc = .ok (.invokespecial index, 3)) (w1 : Wd Γ (.methodLink μ.y.cls index Lib.objectInit)) (w2 : Wd Γ (.instanceMethod Lib.objectInit)) (w3 : Wd Γ (.code Lib.objectInit ⟨#[0xb1]⟩ 1 none)) (hsz : Ls.length = μ.ml) (hf : 1 ≤ μ.R.frames) (hl : ((st.map fun v => v.category).sum) + 12 ≤ μ.R.locals) (hr : Run Γ μ k n O (pc + 3) Ls st) : Run Γ μ k n O pc Ls (.ref a :: st) :=
  R_read (fun p e s m args below meth c T locs vm0 k0 P => by
    obtain ⟨X, hx, hb, hml, hret, hnm, hlk, hown, hS, hk0, hw, hF, I⟩ := P
    exact initO X hx I.Z hown w1 w2 w3 rfl (g := mkF m pc Ls.toArray (.ref a :: st)) rfl (by rw [hml]; simpa using hsz) rfl (Jvm.hb hb hd) hf (by show 2 * 0 + _ ≤ _; rw [Nat.mul_zero, Nat.zero_add]; exact Nat.le_refl _) hl) hr
/-! ### arrays, read -/
theorem inb {vs : List Value} {j : Int32} (h0 : ¬ j < 0) (h1 : j.toNatClampNeg < vs.length) {c : Cell} (e : c.slots.size = vs.length) : ¬ (j < 0 ∨ c.slots.size ≤ j.toNatClampNeg) := fun q => q.elim h0 fun r => by omega
theorem ary_at {ad : String} {ty : FieldType} {vs : List Value} {c : Cell} {j : Nat} {v : Value} (F : Ary Γ ad ty vs c) (hv : vs[j]? = some v) : c.slots[j]? = some v := by
  rw [← F.2.2.2.1] at hv; simpa using hv
theorem R_arraylength {ad : String} {ty : FieldType} {vs : List Value} {a : Addr} {b : Bool} (hd : decode μ.bs pc = .ok (.arraylength, 1)) (hm : (a, b, Ary Γ ad ty vs) ∈ O) (z : Int32) (hz : vs.length.toInt32 = z) (hr : Run Γ μ k n O (pc + 1) Ls (.int z :: st)) : Run Γ μ k n O pc Ls (.ref a :: st) :=
  R_read (fun p e s m args below meth c T locs vm0 k0 P => by
    obtain ⟨X, hx, hb, hml, hret, hnm, hlk, hown, hS, hk0, hw, hF, I⟩ := P
    obtain ⟨cl, ec, ef⟩ := I.cell (List.mem_append_left _ hm)
    refine ⟨T, X, rfl, fun target hs => X.arraylength hx ec (State.isArrayOf_alike (T := s.setVm vm0) I.Z.alike ef.2.1) (g := mkF m pc Ls.toArray (.ref a :: st)) rfl rfl (Jvm.hb hb hd) target ?_⟩
    rw [ef.len, hz]; exact hs) hr
theorem R_iaload {ad : String} {vs : List Value} {a : Addr} {b : Bool} {z : Int32} {v : Value} (hd : decode μ.bs pc = .ok (.iaload, 1)) (hm : (a, b, Ary Γ ad .int vs) ∈ O) (h0 : ¬ z < 0) (j : Nat) (hj : z.toNatClampNeg = j) (hv : vs[j]? = some v) (hr : Run Γ μ k n O (pc + 1) Ls (v :: st)) : Run Γ μ k n O pc Ls (.int z :: .ref a :: st) :=
  R_read (fun p e s m args below meth c T locs vm0 k0 P => by
    obtain ⟨X, hx, hb, hml, hret, hnm, hlk, hown, hS, hk0, hw, hF, I⟩ := P
    obtain ⟨cl, ec, ef⟩ := I.cell (List.mem_append_left _ hm)
    exact ⟨T, X, rfl, fun target hs => X.iaload (j := z) hx ec (State.isArrayOf_alike (T := s.setVm vm0) I.Z.alike ef.2.1) ef.2.2.1 (inb h0 (by rw [hj]; exact (List.getElem?_eq_some_iff.mp hv).1) ef.len) (by rw [hj]; exact ary_at ef hv) (g := mkF m pc Ls.toArray (.int z :: .ref a :: st)) rfl rfl (Jvm.hb hb hd) target hs⟩) hr
theorem R_caload {ad : String} {vs : List Value} {a : Addr} {b : Bool} {z : Int32} {v : Value} (hd : decode μ.bs pc = .ok (.caload, 1)) (hm : (a, b, Ary Γ ad .char vs) ∈ O) (h0 : ¬ z < 0) (j : Nat) (hj : z.toNatClampNeg = j) (hv : vs[j]? = some v) (hr : Run Γ μ k n O (pc + 1) Ls (v :: st)) : Run Γ μ k n O pc Ls (.int z :: .ref a :: st) :=
  R_read (fun p e s m args below meth c T locs vm0 k0 P => by
    obtain ⟨X, hx, hb, hml, hret, hnm, hlk, hown, hS, hk0, hw, hF, I⟩ := P
    obtain ⟨cl, ec, ef⟩ := I.cell (List.mem_append_left _ hm)
    exact ⟨T, X, rfl, fun target hs => X.caload (j := z) hx ec (State.isArrayOf_alike (T := s.setVm vm0) I.Z.alike ef.2.1) ef.2.2.1 (inb h0 (by rw [hj]; exact (List.getElem?_eq_some_iff.mp hv).1) ef.len) (by rw [hj]; exact ary_at ef hv) (g := mkF m pc Ls.toArray (.int z :: .ref a :: st)) rfl rfl (Jvm.hb hb hd) target hs⟩) hr
theorem R_baload {ad : String} {vs : List Value} {a : Addr} {b : Bool} {z : Int32} {v : Value} (hd : decode μ.bs pc = .ok (.baload, 1)) (hm : (a, b, Ary Γ ad .byte vs) ∈ O) (h0 : ¬ z < 0) (j : Nat) (hj : z.toNatClampNeg = j) (hv : vs[j]? = some v) (hr : Run Γ μ k n O (pc + 1) Ls (v :: st)) : Run Γ μ k n O pc Ls (.int z :: .ref a :: st) :=
  R_read (fun p e s m args below meth c T locs vm0 k0 P => by
    obtain ⟨X, hx, hb, hml, hret, hnm, hlk, hown, hS, hk0, hw, hF, I⟩ := P
    obtain ⟨cl, ec, ef⟩ := I.cell (List.mem_append_left _ hm)
    exact ⟨T, X, rfl, fun target hs => X.baloadBytes (j := z) hx ec (State.isArrayOf_alike (T := s.setVm vm0) I.Z.alike ef.2.1) ef.2.2.1 (inb h0 (by rw [hj]; exact (List.getElem?_eq_some_iff.mp hv).1) ef.len) (by rw [hj]; exact ary_at ef hv) (g := mkF m pc Ls.toArray (.int z :: .ref a :: st)) rfl rfl (Jvm.hb hb hd) target hs⟩) hr
theorem R_aaload {ad : String} {ty : FieldType} {vs : List Value} {a : Addr} {b : Bool} {z : Int32} {v : Value} (hd : decode μ.bs pc = .ok (.aaload, 1)) (hm : (a, b, Ary Γ ad ty vs) ∈ O) (hty : ty.isReference = true) (h0 : ¬ z < 0) (j : Nat) (hj : z.toNatClampNeg = j) (hv : vs[j]? = some v) (hr : Run Γ μ k n O (pc + 1) Ls (v :: st)) : Run Γ μ k n O pc Ls (.int z :: .ref a :: st) :=
  R_read (fun p e s m args below meth c T locs vm0 k0 P => by
    obtain ⟨X, hx, hb, hml, hret, hnm, hlk, hown, hS, hk0, hw, hF, I⟩ := P
    obtain ⟨cl, ec, ef⟩ := I.cell (List.mem_append_left _ hm)
    exact ⟨T, X, rfl, fun target hs => X.aaload (j := z) hx ec (State.isArrayOf_alike (T := s.setVm vm0) I.Z.alike ef.2.1) hty ef.2.2.1 (inb h0 (by rw [hj]; exact (List.getElem?_eq_some_iff.mp hv).1) ef.len) (by rw [hj]; exact ary_at ef hv) (g := mkF m pc Ls.toArray (.int z :: .ref a :: st)) rfl rfl (Jvm.hb hb hd) target hs⟩) hr
/-! ### the heap changes -/
/-- one owned cell is written -/
theorem R_wr {st' : List Value} {pc' : Nat} {i : Nat} {a : Addr} {φ φ' : Cell → Prop} (hi : O[i]? = some (a, true, φ)) (H : ∀ (p : Program) (e : Env) (s : State) (m : MethodId) (args : Array Value) (below : List Frame) (meth : Method) (c : Code) (T : State) (locs : List Loc) (vm0 : Vm) (k0 : Nat), Pos Γ μ k n O p e s m args below meth c T locs vm0 k0 →
      ∃ T' sl v, Stand p Γ.l e μ.R (s.setVm vm0) m args below meth c T' (locs ++ [⟨a, sl⟩]) k n ∧ Wr T.heap T'.heap a sl v ∧ (∀ c, φ c → T.heap[a]? = some c → φ' (c.setSlot sl v)) ∧ ∀ target, Steps p.tables e below (T'.setTop (mkF m pc' Ls.toArray st')) target → Steps p.tables e below (T.setTop (mkF m pc Ls.toArray st)) target)
    (hr : Run Γ μ k n (O.set i (a, true, φ')) pc' Ls st') : Run Γ μ k n O pc Ls st := fun p e s m args below meth c T locs vm0 k0 P => by
  obtain ⟨T', sl, v, X', W, q, hst⟩ := H p e s m args below meth c T locs vm0 k0 P
  obtain ⟨X, hx, hb, hml, hret, hnm, hlk, hown, hS, hk0, hw, hF, I⟩ := P
  obtain ⟨hlt, hget⟩ := List.getElem?_eq_some_iff.mp hi
  have e1 : O = O.take i ++ (a, true, φ) :: O.drop (i + 1) := by rw [← hget, List.getElem_cons_drop hlt, List.take_append_drop]
  have e2 : O.set i (a, true, φ') = O.take i ++ (a, true, φ') :: O.drop (i + 1) := by rw [List.set_eq_take_append_cons_drop, if_pos hlt]
  have I' : Inv Γ vm0 T'.heap (O.set i (a, true, φ') ++ μ.F) := by
    have := I.write (A := O.take i) (B := O.drop (i + 1) ++ μ.F) (by rw [← List.cons_append, ← List.append_assoc, ← e1]) W q
    rw [e2, List.append_assoc, List.cons_append]; exact this
  exact (hr p e s m args below meth c T' _ vm0 k0 ⟨X', hx, hb, hml, hret, hnm, hlk, hown, hS, by rw [W.size]; exact hk0, hw, Fr.snoc X' hF (I.new (List.mem_append_left _ (List.mem_of_getElem? hi))), I'⟩).back hst
theorem R_putfield {R0 O1 nm d C : String} {v old : Value} {a : Addr} {fs : List Fd} {kk : Nat} {ty : FieldType} (i j : Nat) (hd : decode μ.bs pc = .ok (.putfield index, 3)) (w : Wd Γ (.fieldLink μ.y.cls index R0 nm d)) (via : Via Γ.Z R0 O1 nm d) (hi : O[i]? = some (a, true, Obj Γ C fs)) (hj : fs[j]? = some (O1, nm, d, old)) (hne : ((fs.eraseIdx j).all fun g => !(g.2.1 == nm)) = true)
    (L : Wd Γ (.lays C O1 nm d) ∨ (Wd Γ (.laysFinal C O1 nm d) ∧ μ.y.cls = O1 ∧ μ.y.name = "<init>")) (wi : Wd Γ (.instantiable C kk)) (hty : parseFieldDescriptor d = some ty) (v' : Value) (hn : narrow ty v = v') (hf : fits ty v' = true)
    (hr : Run Γ μ k n (O.set i (a, true, Obj Γ C (fs.set j (O1, nm, d, v')))) (pc + 3) Ls st) : Run Γ μ k n O pc Ls (v :: .ref a :: st) :=
  R_wr hi (fun p e s m args below meth c T locs vm0 k0 P => by
    obtain ⟨X, hx, hb, hml, hret, hnm, hlk, hown, hS, hk0, hw, hF, I⟩ := P
    obtain ⟨cl, ec, ef⟩ := I.cell (List.mem_append_left _ (List.mem_of_getElem? hi))
    obtain ⟨T', h', X', e', W, hst⟩ := putFN X hx I.Z hown w via rfl (ef.fld ec (List.mem_of_getElem? hj)) (ef.exa ec) (L.imp id fun ⟨q1, q2, q3⟩ => ⟨q1, q2, hnm.trans q3⟩) wi hty hn hf (g := mkF m pc Ls.toArray (v :: .ref a :: st)) rfl rfl (Jvm.hb hb hd)
    subst e'
    refine ⟨T', _, _, X', W, fun c0 F0 _ => ?_, hst⟩
    obtain ⟨hlt, hget⟩ := List.getElem?_eq_some_iff.mp hj
    have e1 : fs = fs.take j ++ (O1, nm, d, old) :: fs.drop (j + 1) := by rw [← hget, List.getElem_cons_drop hlt, List.take_append_drop]
    have e2 : fs.set j (O1, nm, d, v') = fs.take j ++ (O1, nm, d, v') :: fs.drop (j + 1) := by rw [List.set_eq_take_append_cons_drop, if_pos hlt]
    rw [e2]
    rw [e1] at F0
    refine Obj.put (f := (O1, nm, d, old)) F0 (fun g hg => ?_)
    have q := List.all_eq_true.mp hne g (by rw [List.eraseIdx_eq_take_drop_succ]; exact hg)
    simpa using q) hr
theorem R_new {C : String} {nn : Nat} (fs : List Fd) (hd : decode μ.bs pc = .ok (.new index, 3)) (w : Wd Γ (.classLink μ.y.cls index C)) (wi : Wd Γ (.instantiable C nn)) (wz : Wd Γ (.initialized C)) (hfs : ∀ f ∈ fs, Laid Γ.Z Γ.a0 C f.1 f.2.1 f.2.2.1 ∧ ∃ ty, parseFieldDescriptor f.2.2.1 = some ty ∧ f.2.2.2 = defaultValue ty) (hc : k + 1 ≤ μ.R.cells) (hl : n + nn ≤ μ.R.slots)
    (hr : ∀ a : Addr, Run Γ μ (k + 1) (n + nn) ((a, true, Obj Γ C fs) :: O) (pc + 3) Ls (.ref a :: st)) : Run Γ μ k n O pc Ls st := fun p e s m args below meth c T locs vm0 k0 P => by
  obtain ⟨X, hx, hb, hml, hret, hnm, hlk, hown, hS, hk0, hw, hF, I⟩ := P
  obtain ⟨T', h', X', e', E, A, D, ⟨cell, u1, u2, -⟩, hst⟩ := newO X hx I.Z hown w wi wz rfl (g := mkF m pc Ls.toArray st) rfl (Jvm.hb hb hd) hc hl
  subst e'
  obtain ⟨c0, c1, c2⟩ := Obj.of_exa (Γ := Γ) (fs := fs) A ⟨cell, u1, by rw [u2]; simp⟩ fun f hf => by
    obtain ⟨l1, ty, l2, l3⟩ := hfs f hf
    exact ⟨l1, ⟨ty, l2⟩, by rw [l3]; exact D l1 l2⟩
  exact (hr T.heap.size p e s m args below meth c T' locs vm0 k0 ⟨X', hx, hb, hml, hret, hnm, hlk, hown, hS, Nat.le_trans hk0 E.1, hw, hF, I.alloc E c1 c2⟩).back hst
theorem ll0 {C : String} : ∀ f ∈ ([] : List Fd), Laid Γ.Z Γ.a0 C f.1 f.2.1 f.2.2.1 ∧ ∃ ty, parseFieldDescriptor f.2.2.1 = some ty ∧ f.2.2.2 = defaultValue ty := fun _ h => nomatch h
theorem llS {C O1 nm d : String} {v : Value} {L : List Fd} {ty : FieldType} (l : Laid Γ.Z Γ.a0 C O1 nm d) (h : parseFieldDescriptor d = some ty) (e : v = defaultValue ty) (r : ∀ f ∈ L, Laid Γ.Z Γ.a0 C f.1 f.2.1 f.2.2.1 ∧ ∃ ty, parseFieldDescriptor f.2.2.1 = some ty ∧ f.2.2.2 = defaultValue ty) :
    ∀ f ∈ (O1, nm, d, v) :: L, Laid Γ.Z Γ.a0 C f.1 f.2.1 f.2.2.1 ∧ ∃ ty, parseFieldDescriptor f.2.2.1 = some ty ∧ f.2.2.2 = defaultValue ty := fun f hf => by
  rcases List.mem_cons.mp hf with rfl | hf
  · exact ⟨l, ty, h, e⟩
  · exact r f hf
theorem fits_default (ty : FieldType) : fits ty (defaultValue ty) = true := by cases ty <;> rfl
theorem ary_newA {ad : String} {cA : ClassId} {ty : FieldType} {z : Int32} {h : Heap} {a : Addr} (A : Arr Γ.Z h a (newA cA ty z) ty) (E : ad ≠ "" → Exa Γ.Z h a ad) (hz : ¬ z < 0) (V : ∀ C, ty = .object C → Ovr Γ.Z cA C) : Ary Γ ad ty (List.replicate z.toNatClampNeg (defaultValue ty)) (newA cA ty z) := by
  refine ⟨fun q => ?_, A.2.1, A.2.2, by simp [newA], by simpa using (back32 hz).2, fun v hv => ?_, V⟩
  · obtain ⟨c, kk, e1, e2, e3, -⟩ := E q
    cases e1.symm.trans A.1
    exact ⟨kk, e2, e3⟩
  · rw [List.eq_of_mem_replicate hv]; exact fits_default ty
theorem R_newarray {aty : ArrayType} {z : Int32} {ad : String} (vs : List Value) (cap : Nat) (hd : decode μ.bs pc = .ok (.newarray aty, 2)) (w : Wd Γ (.arrayClass (newarray.typeOf aty))) (had : "[" ++ (newarray.typeOf aty).toString = ad) (hz : ¬ z < 0) (hvs : List.replicate z.toNatClampNeg (defaultValue (newarray.typeOf aty)) = vs) (hcap : z.toNatClampNeg ≤ cap) (hbig : cap * 8 ≤ 536870912) (hc : k + 1 ≤ μ.R.cells) (hl : n + cap ≤ μ.R.slots)
    (hr : ∀ a : Addr, Run Γ μ (k + 1) (n + cap) ((a, true, Ary Γ ad (newarray.typeOf aty) vs) :: O) (pc + 2) Ls (.ref a :: st)) : Run Γ μ k n O pc Ls (.int z :: st) := fun p e s m args below meth c T locs vm0 k0 P => by
  obtain ⟨X, hx, hb, hml, hret, hnm, hlk, hown, hS, hk0, hw, hF, I⟩ := P
  obtain ⟨T', h', cA, X', e', E, A, Ex, hst⟩ := newPE X hx I.Z w rfl (g := mkF m pc Ls.toArray (.int z :: st)) rfl (Jvm.hb hb hd) rfl hz hcap hbig hc hl had
  subst e' hvs
  exact (hr T.heap.size p e s m args below meth c T' locs vm0 k0 ⟨X', hx, hb, hml, hret, hnm, hlk, hown, hS, Nat.le_trans hk0 E.1, hw, hF, I.alloc E A.1 (ary_newA A (fun _ => Ex) hz fun C q => by cases aty <;> cases q)⟩).back hst
theorem R_anewarray {C : String} {z : Int32} {ad : String} (vs : List Value) (cap : Nat) (hd : decode μ.bs pc = .ok (.anewarray index, 3)) (w : Wd Γ (.classLink μ.y.cls index C)) (w2 : Wd Γ (.arrayOver (.object C))) (had : "[" ++ (FieldType.object C).toString = ad) (hz : ¬ z < 0) (hvs : List.replicate z.toNatClampNeg Value.null = vs) (hcap : z.toNatClampNeg ≤ cap) (hbig : cap * 8 ≤ 536870912) (hc : k + 1 ≤ μ.R.cells) (hl : n + cap ≤ μ.R.slots)
    (hr : ∀ a : Addr, Run Γ μ (k + 1) (n + cap) ((a, true, Ary Γ ad (.object C) vs) :: O) (pc + 3) Ls (.ref a :: st)) : Run Γ μ k n O pc Ls (.int z :: st) := fun p e s m args below meth c T locs vm0 k0 P => by
  obtain ⟨X, hx, hb, hml, hret, hnm, hlk, hown, hS, hk0, hw, hF, I⟩ := P
  obtain ⟨T', h', cA, X', e', E, A, Ex, V, hst⟩ := newRE X hx I.Z hown w w2 rfl (g := mkF m pc Ls.toArray (.int z :: st)) rfl (Jvm.hb hb hd) rfl hz hcap hbig hc hl had
  subst e' hvs
  exact (hr T.heap.size p e s m args below meth c T' locs vm0 k0 ⟨X', hx, hb, hml, hret, hnm, hlk, hown, hS, Nat.le_trans hk0 E.1, hw, hF, I.alloc E A.1 (ary_newA A (fun _ => Ex) hz fun C' q => by cases q; exact V)⟩).back hst
theorem R_iastore {ad : String} {vs : List Value} {a : Addr} {z x : Int32} (i : Nat) (hd : decode μ.bs pc = .ok (.iastore, 1)) (hi : O[i]? = some (a, true, Ary Γ ad .int vs)) (h0 : ¬ z < 0) (j : Nat) (hj : z.toNatClampNeg = j) (h1 : j < vs.length) (hr : Run Γ μ k n (O.set i (a, true, Ary Γ ad .int (vs.set j (.int x)))) (pc + 1) Ls st) : Run Γ μ k n O pc Ls (.int x :: .int z :: .ref a :: st) :=
  R_wr hi (fun p e s m args below meth c T locs vm0 k0 P => by
    obtain ⟨X, hx, hb, hml, hret, hnm, hlk, hown, hS, hk0, hw, hF, I⟩ := P
    obtain ⟨cl, ec, ef⟩ := I.cell (List.mem_append_left _ (List.mem_of_getElem? hi))
    obtain ⟨T', h', X', e', W, hst⟩ := stI X hx I.Z rfl (ef.arr ec) (j := z) (inb h0 (by rw [hj]; exact h1) ef.len) (g := mkF m pc Ls.toArray (.int x :: .int z :: .ref a :: st)) rfl rfl (Jvm.hb hb hd)
    subst e'
    exact ⟨T', _, _, X', W, fun c0 F0 _ => by rw [hj]; exact F0.put rfl, hst⟩) hr
theorem R_castore {ad : String} {vs : List Value} {a : Addr} {z x : Int32} (i : Nat) (hd : decode μ.bs pc = .ok (.castore, 1)) (hi : O[i]? = some (a, true, Ary Γ ad .char vs)) (h0 : ¬ z < 0) (j : Nat) (hj : z.toNatClampNeg = j) (h1 : j < vs.length) (hr : Run Γ μ k n (O.set i (a, true, Ary Γ ad .char (vs.set j (.int (nar .char x))))) (pc + 1) Ls st) : Run Γ μ k n O pc Ls (.int x :: .int z :: .ref a :: st) :=
  R_wr hi (fun p e s m args below meth c T locs vm0 k0 P => by
    obtain ⟨X, hx, hb, hml, hret, hnm, hlk, hown, hS, hk0, hw, hF, I⟩ := P
    obtain ⟨cl, ec, ef⟩ := I.cell (List.mem_append_left _ (List.mem_of_getElem? hi))
    obtain ⟨T', h', X', e', W, hst⟩ := stC X hx I.Z rfl (ef.arr ec) (j := z) (x := x) (inb h0 (by rw [hj]; exact h1) ef.len) (g := mkF m pc Ls.toArray (.int x :: .int z :: .ref a :: st)) rfl rfl (Jvm.hb hb hd)
    subst e'
    exact ⟨T', _, _, X', W, fun c0 F0 _ => by rw [hj]; exact F0.put (fits_nar_char x), hst⟩) hr
theorem R_bastore {ad : String} {vs : List Value} {a : Addr} {z x : Int32} (i : Nat) (hd : decode μ.bs pc = .ok (.bastore, 1)) (hi : O[i]? = some (a, true, Ary Γ ad .byte vs)) (h0 : ¬ z < 0) (j : Nat) (hj : z.toNatClampNeg = j) (h1 : j < vs.length) (hr : Run Γ μ k n (O.set i (a, true, Ary Γ ad .byte (vs.set j (.int x.toInt8.toInt32)))) (pc + 1) Ls st) : Run Γ μ k n O pc Ls (.int x :: .int z :: .ref a :: st) :=
  R_wr hi (fun p e s m args below meth c T locs vm0 k0 P => by
    obtain ⟨X, hx, hb, hml, hret, hnm, hlk, hown, hS, hk0, hw, hF, I⟩ := P
    obtain ⟨cl, ec, ef⟩ := I.cell (List.mem_append_left _ (List.mem_of_getElem? hi))
    obtain ⟨T', h', X', e', W, hst⟩ := stB X hx I.Z rfl (ef.arr ec) (j := z) (x := x) (inb h0 (by rw [hj]; exact h1) ef.len) (g := mkF m pc Ls.toArray (.int x :: .int z :: .ref a :: st)) rfl rfl (Jvm.hb hb hd)
    subst e'
    exact ⟨T', _, _, X', W, fun c0 F0 _ => by rw [hj]; exact F0.put (fits_nar_byte x), hst⟩) hr
/-- a reference is stored: null, or an object that the array's class takes -/
theorem R_aastore {C ad : String} {vs : List Value} {a : Addr} {z : Int32} {v : Value} (i : Nat) (hd : decode μ.bs pc = .ok (.aastore, 1)) (hi : O[i]? = some (a, true, Ary Γ ad (.object C) vs)) (h0 : ¬ z < 0) (j : Nat) (hj : z.toNatClampNeg = j) (h1 : j < vs.length) (hv : v = .null ∨ ∃ (y : Addr) (b : Bool) (D : String) (fs : List Fd), v = .ref y ∧ (y, b, Obj Γ D fs) ∈ O ∧ Wd Γ (.castable D C))
    (hr : Run Γ μ k n (O.set i (a, true, Ary Γ ad (.object C) (vs.set j v))) (pc + 1) Ls st) : Run Γ μ k n O pc Ls (v :: .int z :: .ref a :: st) :=
  R_wr hi (fun p e s m args below meth c T locs vm0 k0 P => by
    obtain ⟨X, hx, hb, hml, hret, hnm, hlk, hown, hS, hk0, hw, hF, I⟩ := P
    obtain ⟨cl, ec, ef⟩ := I.cell (List.mem_append_left _ (List.mem_of_getElem? hi))
    have hS1 : Sto Γ.Z T.heap a v := by
      rcases hv with rfl | ⟨y, b, D, fs, rfl, hm, wc⟩
      · exact Or.inl rfl
      · exact Sto.of (ef.arr ec) (ef.2.2.2.2.2.2 C rfl) (Ins.of_exa (exa_of I hm) wc)
    have hf : fits (.object C) v = true := by rcases hv with rfl | ⟨y, b, D, fs, rfl, -⟩ <;> rfl
    obtain ⟨T', h', X', e', W, hst⟩ := stR X hx I.Z rfl (ef.arr ec) (j := z) (inb h0 (by rw [hj]; exact h1) ef.len) rfl hS1 (g := mkF m pc Ls.toArray (v :: .int z :: .ref a :: st)) rfl rfl (Jvm.hb hb hd)
    subst e'
    exact ⟨T', _, _, X', W, fun c0 F0 _ => by rw [hj]; exact F0.put hf, hst⟩) hr
end D
end Jvm.Own
namespace Jvm.Own
open Sem ClassFile Op Lib Jvm.Stand Jvm.Free Jvm.LawKit Jvm.RoadKit
/-! ## E. String constants, array copies -/
section E
variable {Γ : Gx} {μ : Mx} {k n : Nat} {O O1 F' : OL} {pc pc' : Nat} {Ls Ls' : List Slot} {st st' rest : List Value} {y z : MethodName} {index : Nat}
theorem Inv.mut {vm : Vm} {h h' : Heap} {A B : OL} {a : Addr} {φ φ' : Cell → Prop} (I : Inv Γ vm h (A ++ (a, true, φ) :: B)) (K : Keep h h' [a]) (hc : ∃ c : Cell, h'[a]? = some c ∧ φ' c) : Inv Γ vm h' (A ++ (a, true, φ') :: B) := by
  obtain ⟨h1, h2, h3, h4, h5, h6⟩ := I
  have n0 := h5 (a, true, φ) (by simp) rfl
  have ne : ∀ x ∈ A ++ B, x.1 ≠ a := fun x hx => by
    have p : (A ++ (a, true, φ) :: B).Perm ((a, true, φ) :: (A ++ B)) := List.perm_middle
    have D := dis_perm (p.map key) h6
    have r := (List.pairwise_cons.mp D).1 (key x) (List.mem_map.mpr ⟨x, hx, rfl⟩) (Or.inl rfl)
    exact fun z => r z.symm
  have oth : ∀ (x : Addr) (c : Cell), x ≠ a → h[x]? = some c → h'[x]? = some c := fun x c hx e => K.2.1 x c e (by simpa using hx)
  have key' : ∀ x ∈ A ++ (a, true, φ') :: B, x = (a, true, φ') ∨ (x ∈ A ++ B ∧ x ∈ A ++ (a, true, φ) :: B) := fun x hx => by
    rcases List.mem_append.mp hx with m | m
    · exact Or.inr ⟨by simp [m], by simp [m]⟩
    · rcases List.mem_cons.mp m with r | m
      · exact Or.inl r
      · exact Or.inr ⟨by simp [m], by simp [m]⟩
  have sf : Γ.w = true → ∀ x ∈ [a], Safe Γ.Z Γ.EL vm h x := fun w x hx => by
    rw [List.mem_singleton.mp hx]; exact n0.2 w
  refine ⟨h1, ⟨Nat.le_trans h2.1 K.1, fun x c r => oth x c (fun z => ?_) (h2.2 _ _ r)⟩, fun w => ⟨(h3 w).1, (h3 w).2.keep K (sf w)⟩, fun x hx => ?_, fun x hx ht => ?_, by simpa using h6⟩
  · have l1 := (Array.getElem?_eq_some_iff.mp r).1
    have l2 := n0.1
    subst z
    simp only at l2
    omega
  · rcases key' x hx with rfl | ⟨m1, m2⟩
    · exact hc
    · obtain ⟨c, e1, e2⟩ := h4 x m2
      exact ⟨c, oth _ _ (ne x m1) e1, e2⟩
  · rcases key' x hx with rfl | ⟨m1, m2⟩
    · exact ⟨n0.1, fun w => (n0.2 w).keep K (sf w) (h3 w).2⟩
    · exact ⟨(h5 x m2 ht).1, fun w => ((h5 x m2 ht).2 w).keep K (sf w) (h3 w).2⟩
theorem ary_of_arv {h : Heap} {a : Addr} {kc : ClassId} {ty : FieldType} {zz : Int32} {vs : List Value} {d : Value} (A : Arv Γ.Z h a kc ty zz vs d) (hl : zz.toNatClampNeg = vs.length) (ht : ∀ C, ty ≠ .object C) : ∃ c : Cell, h[a]? = some c ∧ Ary Γ "" ty vs c := by
  obtain ⟨c, A1, q1, q2, q3, q4, q5⟩ := A
  have e1 : c.slots.toList = vs := by
    apply List.ext_getElem?
    intro i
    rw [Array.getElem?_toList]
    by_cases hi : i < c.slots.size
    · rw [q4 i hi, List.getD_eq_getElem?_getD]
      have : i < vs.length := by omega
      simp [this]
    · rw [Array.getElem?_eq_none (by omega), List.getElem?_eq_none (by omega)]
  refine ⟨c, A1.1, fun q => absurd rfl q, A1.2.1, A1.2.2, e1, by rw [← hl]; exact (back32 q3).2, fun v hv => ?_, fun C q => absurd q (ht C)⟩
  obtain ⟨i, hi, rfl⟩ := List.mem_iff_getElem.mp hv
  have := q5 i (by omega)
  rw [List.getD_eq_getElem?_getD] at this
  simpa [hi] using this
/-- a String's two fields that count -/
abbrev sV (v : Value) : Fd := ("java/lang/String", "value", "[B", v)
abbrev sC (v : Value) : Fd := ("java/lang/String", "coder", "B", v)
abbrev StrO (Γ : Gx) (t : Addr) (more : List Fd) : Cell → Prop := Obj Γ "java/lang/String" (sV (.ref t) :: sC (.int 0) :: more)
theorem i32_len {m : Nat} (h : m < 2 ^ 31) : ¬ m.toInt32 < 0 ∧ m.toInt32.toNatClampNeg = m := by
  have e := len_toInt h
  constructor
  · rw [Int32.lt_iff_toInt_lt, e]; simp
  · simp only [Int32.toNatClampNeg, e]; simp
/-- ldc of a String constant whose text is known -/
theorem R_ldcS {text : String} (vs : List Value) (nn : Nat) (hw : Γ.w = true) (hd : decode μ.bs pc = .ok (.ldc index, 2)) (w : Wd Γ (.stringLink μ.y.cls index text)) (wS : ∀ a ∈ Bundle.stringAtoms, Wd Γ a) (hmem : (μ.y.cls, index) ∈ Γ.EL) (ht : (∀ c ∈ text.toList, c.toNat < 256) ∧ text.toList.map (fun c => Value.int (Jvm.Lit.byteI c.toNat.toUInt16)) = vs) (hvl : vs.length < 2 ^ 31)
    (hn : 4 * text.toList.length ≤ nn) (hbig : nn ≤ 536870912) (hc : k + 2 ≤ μ.R.cells) (hl : n + (nn + 4) ≤ μ.R.slots) (lv : Wd Γ (.laysFinal "java/lang/String" "java/lang/String" "value" "[B")) (lc : Wd Γ (.laysFinal "java/lang/String" "java/lang/String" "coder" "B"))
    (hr : ∀ a b : Addr, Run Γ μ (k + 2) (n + (nn + 4)) ((a, false, StrO Γ b []) :: (b, false, Ary Γ "" .byte vs) :: O) (pc + 2) Ls (.ref a :: st)) : Run Γ μ k n O pc Ls st := fun p e s m args below meth c T locs vm0 k0 P => by
  obtain ⟨X, hx, hb, hml, hret, hnm, hlk, hown, hS, hk0, hwn, hF, I⟩ := P
  obtain ⟨h1, h2, h3, h4, h5, h6⟩ := I
  obtain ⟨zl1, zl2⟩ := i32_len hvl
  obtain ⟨a, T', h', k1, b, kb, X', e', E, hS', hk1, hZ', hown', Ex, Fc, Fv, A, la, lb, hC, -, hne, hst⟩ := ldcCH X hx h1 hown w wS rfl hS hk0 (h3 hw).1 hmem (h3 hw).2 ht zl1 zl2 (g := mkF m pc Ls.toArray st) rfl (Jvm.hb hb hd) hn hbig hc hl
  subst e'
  obtain ⟨ca, cc, kk, ii, ff, y1, y2, y3, y4, y5, y6, y7⟩ := id Fc
  obtain ⟨c1, c2, c3⟩ := Obj.of_exa (Γ := Γ) (fs := [sV (.ref b), sC (.int 0)]) Ex ⟨ca, y1, y4⟩ fun f hf => by
    simp only [List.mem_cons, List.not_mem_nil, or_false] at hf
    rcases hf with rfl | rfl
    · exact ⟨Or.inr lv, ⟨.array .byte, (by decide : parseFieldDescriptor "[B" = some (.array .byte))⟩, Fv⟩
    · exact ⟨Or.inr lc, ⟨.byte, (by decide : parseFieldDescriptor "B" = some .byte)⟩, Fc⟩
  obtain ⟨c4, c5, c6⟩ := ary_of_arv (Γ := Γ) A zl2 (fun C q => by cases q)
  have sf : ∀ x ∈ O ++ μ.F, x.2.1 = true → Safe Γ.Z Γ.EL T'.vm T'.heap x.1 := fun x hx ht => by
    obtain ⟨cx, ex, -⟩ := h4 x hx
    exact hC.safe (Array.getElem?_eq_some_iff.mp ex).1 ((h5 x hx ht).2 hw)
  refine (hr a b p e s m args below meth c T' locs T'.vm k1 ⟨X', hx, hb, hml, hret, hnm, hlk, hown', hS', hk1, fun q => by rw [hw] at q; (cases q), hF, hZ', ⟨Nat.le_trans h2.1 E.1, fun x c q => E.2 _ _ (h2.2 _ _ q)⟩, fun _ => ⟨(h3 hw).1, hC.1⟩, fun x hx => ?_, fun x hx ht => ?_, ?_⟩).back hst
  · rcases List.mem_cons.mp hx with rfl | hx
    · exact ⟨c1, c2, c3⟩
    · rcases List.mem_cons.mp hx with rfl | hx
      · exact ⟨c4, c5, c6⟩
      · obtain ⟨cx, ex, fx⟩ := h4 x hx; exact ⟨cx, E.2 _ _ ex, fx⟩
  · rcases List.mem_cons.mp hx with rfl | hx
    · cases ht
    · rcases List.mem_cons.mp hx with rfl | hx
      · cases ht
      · exact ⟨(h5 x hx ht).1, fun _ => sf x hx ht⟩
  · refine List.pairwise_cons.mpr ⟨fun yy hy ht eq => ?_, List.pairwise_cons.mpr ⟨fun yy hy ht eq => ?_, h6⟩⟩
    · rcases ht with q | q
      · cases q
      · rcases List.mem_cons.mp hy with rfl | hy
        · cases q
        · obtain ⟨x, hx, rfl⟩ := List.mem_map.mp hy
          exact (hne x.1 (sf x hx q)).1 eq.symm
    · rcases ht with q | q
      · cases q
      · obtain ⟨x, hx, rfl⟩ := List.mem_map.mp hy
        exact (hne x.1 (sf x hx q)).2 eq.symm
/-- System.arraycopy of primitives between two arrays -/
theorem arv_of_ary {h : Heap} {a : Addr} {ad : String} {ty : FieldType} {vs : List Value} {c : Cell} (d : Value) (F : Ary Γ ad ty vs c) (e : h[a]? = some c) : Arv Γ.Z h a c.cls ty vs.length.toInt32 vs d := by
  obtain ⟨z1, z2⟩ := i32_len F.2.2.2.2.1
  refine ⟨c, F.arr e, rfl, by rw [F.len, z2], z1, fun i hi => ?_, fun i hi => ?_⟩
  · have hi' : i < vs.length := by rw [← F.len]; exact hi
    rw [List.getD_eq_getElem?_getD]
    have := ary_at F (j := i) (v := vs[i]) (by simp [hi'])
    rw [this]; simp [hi']
  · have hi' : i < vs.length := by rw [← F.len]; exact hi
    rw [List.getD_eq_getElem?_getD]
    have := F.2.2.2.2.2.1 vs[i] (List.getElem_mem hi')
    simpa [hi'] using this
end E
end Jvm.Own
namespace Jvm.Own
open Sem ClassFile Op Lib Jvm.Stand Jvm.Free Jvm.LawKit Jvm.RoadKit
/-! ## F. small facts -/
section F
variable {Γ : Gx} {μ : Mx} {k n : Nat} {O O1 F' : OL} {pc pc' : Nat} {Ls Ls' : List Slot} {st st' rest : List Value}
theorem i32_lt_iff {a b : Nat} (ha : a < 2 ^ 31) (hb : b < 2 ^ 31) : a.toInt32 < b.toInt32 ↔ a < b := by rw [Int32.lt_iff_toInt_lt, len_toInt ha, len_toInt hb]; omega
theorem i32_eq_iff {a b : Nat} (ha : a < 2 ^ 31) (hb : b < 2 ^ 31) : a.toInt32 = b.toInt32 ↔ a = b := by rw [← Int32.toInt_inj, len_toInt ha, len_toInt hb]; omega
theorem i32_succ (a : Nat) : a.toInt32 + 1 = (a + 1).toInt32 := (inc_ofNat a).symm
theorem i32_nn {a : Nat} (ha : a < 2 ^ 31) : ¬ a.toInt32 < 0 := (i32_len ha).1
theorem i32_cl {a : Nat} (ha : a < 2 ^ 31) : a.toInt32.toNatClampNeg = a := (i32_len ha).2
/-- an array's length is an int -/
theorem R_alen {ad : String} {ty : FieldType} {vs : List Value} {a : Addr} {b : Bool} (hm : (a, b, Ary Γ ad ty vs) ∈ O) (hr : vs.length < 2 ^ 31 → Run Γ μ k n O pc Ls st) : Run Γ μ k n O pc Ls st :=
  R_know (fun vm h I => by obtain ⟨c, e, F⟩ := I.cell (List.mem_append_left _ hm); exact F.2.2.2.2.1) hr
/-- its components are of its kind -/
theorem R_afits {ad : String} {ty : FieldType} {vs : List Value} {a : Addr} {b : Bool} (hm : (a, b, Ary Γ ad ty vs) ∈ O) (hr : (∀ v ∈ vs, fits ty v = true) → Run Γ μ k n O pc Ls st) : Run Γ μ k n O pc Ls st :=
  R_know (fun vm h I => by obtain ⟨c, e, F⟩ := I.cell (List.mem_append_left _ hm); exact F.2.2.2.2.2.1) hr
/-- two looks at one array -/
theorem R_asame {ad ad' : String} {ty ty' : FieldType} {vs vs' : List Value} {a : Addr} {b b' : Bool} (hm : (a, b, Ary Γ ad ty vs) ∈ O) (hm' : (a, b', Ary Γ ad' ty' vs') ∈ O) (hr : vs = vs' → Run Γ μ k n O pc Ls st) : Run Γ μ k n O pc Ls st :=
  R_know (fun vm h I => by
    obtain ⟨c, e, F⟩ := I.cell (List.mem_append_left _ hm)
    obtain ⟨c', e', F'⟩ := I.cell (List.mem_append_left _ hm')
    cases e.symm.trans e'
    exact F.2.2.2.1.symm.trans F'.2.2.2.1) hr
/-- two looks at one object's field -/
theorem R_fsame {C C' o nm d : String} {fs fs' : List Fd} {v v' : Value} {a : Addr} {b b' : Bool} (hm : (a, b, Obj Γ C fs) ∈ O) (hm' : (a, b', Obj Γ C' fs') ∈ O) (hf : (o, nm, d, v) ∈ fs) (hf' : (o, nm, d, v') ∈ fs') (hr : v = v' → Run Γ μ k n O pc Ls st) : Run Γ μ k n O pc Ls st :=
  R_know (fun vm h I => by
    obtain ⟨c, e, F⟩ := I.cell (List.mem_append_left _ hm)
    obtain ⟨c', e', F'⟩ := I.cell (List.mem_append_left _ hm')
    cases e.symm.trans e'
    obtain ⟨-, -, cf, kk, i, fd, f1, -, -, f4⟩ := F.2.2.2 _ hf
    obtain ⟨-, -, cf', kk', i', fd', g1, -, -, g4⟩ := F'.2.2.2 _ hf'
    cases f1.symm.trans g1
    exact Option.some.inj (f4.symm.trans g4)) hr
theorem al0 {P : Int32 → Prop} : ∀ x ∈ ([] : List Int32), P x := fun _ h => nomatch h
theorem alS {P : Int32 → Prop} {y : Int32} {L : List Int32} (h : P y) (r : ∀ x ∈ L, P x) : ∀ x ∈ y :: L, P x := fun x hx => by
  rcases List.mem_cons.mp hx with rfl | hx
  · exact h
  · exact r x hx
theorem map_int_inj {xs ys : List Int32} (h : xs.map Value.int = ys.map Value.int) : xs = ys := by
  induction xs generalizing ys with
  | nil => cases ys with | nil => rfl | cons b t => simp at h
  | cons a t ih => cases ys with
    | nil => simp at h
    | cons b u => simp only [List.map_cons, List.cons.injEq, Value.int.injEq] at h; rw [h.1, ih h.2]
theorem nar_c {x : Int32} (h0 : ¬ x < 0) (h1 : ¬ (65535 : Int32) < x) : nar .char x = x := by
  have e : x = x.toInt.toNat.toInt32 := by
    rw [← Int32.toInt_inj, len_toInt (by rw [Int32.lt_iff_toInt_lt] at h0; have := x.toInt_lt; have e0 : (0 : Int32).toInt = 0 := rfl; omega)]
    rw [Int32.lt_iff_toInt_lt] at h0; have e0 : (0 : Int32).toInt = 0 := rfl; omega
  rw [← Int32.toInt_inj]
  have q := c_i2c x
  show (x.toUInt32.toUInt16.toUInt32.toInt32).toInt = _
  rw [Int32.lt_iff_toInt_lt] at h0 h1
  have e0 : (0 : Int32).toInt = 0 := rfl
  have e1 : (65535 : Int32).toInt = 65535 := rfl
  omega
end F
end Jvm.Own
namespace Jvm.Own
open Sem ClassFile Op Lib Jvm.Stand Jvm.Free Jvm.LawKit Jvm.RoadKit
/-! ## G. casts of null, clone, arraycopy, getClass -/
section G
variable {Γ : Gx} {μ : Mx} {k n : Nat} {O O1 F' : OL} {pc pc' : Nat} {Ls Ls' : List Slot} {st st' rest : List Value} {y z : MethodName} {index : Nat}
theorem R_checkcastNull (hd : decode μ.bs pc = .ok (.checkcast index, 3)) (hr : Run Γ μ k n O (pc + 3) Ls (.null :: st)) : Run Γ μ k n O pc Ls (.null :: st) :=
  R_read (fun p e s m args below meth c T locs vm0 k0 P => by
    obtain ⟨X, hx, hb, hml, hret, hnm, hlk, hown, hS, hk0, hw, hF, I⟩ := P
    exact ⟨T, X, rfl, X.checkcastNull hx (g := mkF m pc Ls.toArray (.null :: st)) rfl rfl (Jvm.hb hb hd)⟩) hr
theorem R_instNull (hd : decode μ.bs pc = .ok (.instanceof index, 3)) (hr : Run Γ μ k n O (pc + 3) Ls (.int 0 :: st)) : Run Γ μ k n O pc Ls (.null :: st) :=
  R_read (fun p e s m args below meth c T locs vm0 k0 P => by
    obtain ⟨X, hx, hb, hml, hret, hnm, hlk, hown, hS, hk0, hw, hF, I⟩ := P
    exact ⟨T, X, rfl, X.instanceofNull hx (g := mkF m pc Ls.toArray (.null :: st)) rfl rfl (Jvm.hb hb hd)⟩) hr
/-- checkcast of an array whose class is known by name -/
theorem exaA_of {vm : Vm} {h : Heap} {ad : String} {a : Addr} {b : Bool} {ty : FieldType} {vs : List Value} (I : Inv Γ vm h (O ++ μ.F)) (hm : (a, b, Ary Γ ad ty vs) ∈ O) (hn : ad ≠ "") : Exa Γ.Z h a ad := by
  obtain ⟨c, e, F⟩ := I.cell (List.mem_append_left _ hm); exact F.exa e hn
theorem R_checkcastA {K ad : String} {a : Addr} {b : Bool} {ty : FieldType} {vs : List Value} (hd : decode μ.bs pc = .ok (.checkcast index, 3)) (w : Wd Γ (.classLink μ.y.cls index K)) (hm : (a, b, Ary Γ ad ty vs) ∈ O) (hn : ad ≠ "") (wc : Wd Γ (.castable ad K)) (hr : Run Γ μ k n O (pc + 3) Ls (.ref a :: st)) : Run Γ μ k n O pc Ls (.ref a :: st) :=
  R_read (fun p e s m args below meth c T locs vm0 k0 P => by
    obtain ⟨X, hx, hb, hml, hret, hnm, hlk, hown, hS, hk0, hw, hF, I⟩ := P
    exact castY X hx I.Z hown w rfl (Ins.of_exa (exaA_of I hm hn) wc) (g := mkF m pc Ls.toArray (.ref a :: st)) rfl rfl (Jvm.hb hb hd)) hr
theorem R_checkcastASelf {ad : String} {a : Addr} {b : Bool} {ty : FieldType} {vs : List Value} (hd : decode μ.bs pc = .ok (.checkcast index, 3)) (w : Wd Γ (.classLink μ.y.cls index ad)) (hm : (a, b, Ary Γ ad ty vs) ∈ O) (hn : ad ≠ "") (hr : Run Γ μ k n O (pc + 3) Ls (.ref a :: st)) : Run Γ μ k n O pc Ls (.ref a :: st) :=
  R_read (fun p e s m args below meth c T locs vm0 k0 P => by
    obtain ⟨X, hx, hb, hml, hret, hnm, hlk, hown, hS, hk0, hw, hF, I⟩ := P
    exact castY X hx I.Z hown w rfl (Ins.self (exaA_of I hm hn)) (g := mkF m pc Ls.toArray (.ref a :: st)) rfl rfl (Jvm.hb hb hd)) hr
/-- clone() of an array -/
theorem R_cloneA {ad : String} {a : Addr} {b : Bool} {ty : FieldType} {vs : List Value} (cap : Nat) (hd : decode μ.bs pc = .ok (.invokevirtual index, 3)) (hm : (a, b, Ary Γ ad ty vs) ∈ O) (hn : ad ≠ "") (w1 : Wd Γ (.methodLink μ.y.cls index ⟨ad, "clone", "()Ljava/lang/Object;"⟩)) (w2 : Wd Γ (.sameMethod ad "java/lang/Object" "clone" "()Ljava/lang/Object;")) (w3 : Wd Γ (.native ⟨"java/lang/Object", "clone", "()Ljava/lang/Object;"⟩))
    (w4 : Wd Γ (.instanceMethod ⟨"java/lang/Object", "clone", "()Ljava/lang/Object;"⟩)) (w5 : Wd Γ (.selects ad ⟨ad, "clone", "()Ljava/lang/Object;"⟩ ⟨"java/lang/Object", "clone", "()Ljava/lang/Object;"⟩)) (w6 : Wd Γ (.castable ad "java/lang/Cloneable")) (hsz : Ls.length = μ.ml) (hf : 1 ≤ μ.R.frames) (hl : ((st.map fun v => v.category).sum) + 14 ≤ μ.R.locals) (hcap : vs.length ≤ cap) (hc : k + 1 ≤ μ.R.cells) (hs : n + cap ≤ μ.R.slots)
    (hr : ∀ a' : Addr, Run Γ μ (k + 1) (n + cap) ((a', true, Ary Γ ad ty vs) :: O) (pc + 3) Ls (.ref a' :: st)) : Run Γ μ k n O pc Ls (.ref a :: st) := fun p e s m args below meth c T locs vm0 k0 P => by
  obtain ⟨X, hx, hb, hml, hret, hnm, hlk, hown, hS, hk0, hw, hF, I⟩ := P
  obtain ⟨cl, ec, ef⟩ := I.cell (List.mem_append_left _ hm)
  have FC : FitC Γ.Z cl := fitC_of (ef.arr ec) fun i hi v hv => ef.2.2.2.2.2.1 v (by
    rw [← ef.2.2.2.1]; rw [Array.mem_toList_iff]; exact Array.mem_of_getElem? hv)
  obtain ⟨T', h', X', e', E, A, Ex, hst⟩ := cloneA X hx I.Z hown w1 w2 w3 w4 w5 w6 rfl (ef.arr ec) (ef.exa ec hn) FC (g := mkF m pc Ls.toArray (.ref a :: st)) rfl (by rw [hml]; simpa using hsz) rfl (Jvm.hb hb hd) hf (W := (st.map fun v => v.category).sum) (by show 2 * 0 + _ ≤ _; omega) hl (by rw [ef.len]; exact hcap) hc hs
  subst e'
  refine (hr T.heap.size p e s m args below meth c T' locs vm0 k0 ⟨X', hx, hb, hml, hret, hnm, hlk, hown, hS, Nat.le_trans hk0 E.1, hw, hF, I.alloc E A.1 ⟨fun q => ?_, A.2.1, A.2.2, ef.2.2.2.1, ef.2.2.2.2.1, ef.2.2.2.2.2.1, ef.2.2.2.2.2.2⟩⟩).back hst
  exact ef.1 q
/-- getClass() of an object whose Class object stands -/
theorem R_getClass {C : String} {a mr : Addr} {b : Bool} {fs : List Fd} (hd : decode μ.bs pc = .ok (.invokevirtual index, 3)) (hm : (a, b, Obj Γ C fs) ∈ O) (M : Mir Γ.Z C mr) (w1 : Wd Γ (.methodLink μ.y.cls index ⟨"java/lang/Object", "getClass", "()Ljava/lang/Class;"⟩)) (w2 : Wd Γ (.declares ⟨"java/lang/Object", "getClass", "()Ljava/lang/Class;"⟩)) (w3 : Wd Γ (.noSuperclass "java/lang/Object")) (w4 : Wd Γ (.selects C ⟨"java/lang/Object", "getClass", "()Ljava/lang/Class;"⟩ ⟨"java/lang/Object", "getClass", "()Ljava/lang/Class;"⟩))
    (w5 : Wd Γ (.instanceMethod ⟨"java/lang/Object", "getClass", "()Ljava/lang/Class;"⟩)) (w6 : Wd Γ (.native ⟨"java/lang/Object", "getClass", "()Ljava/lang/Class;"⟩)) (hsz : Ls.length = μ.ml) (hf : 1 ≤ μ.R.frames) (hl : ((st.map fun v => v.category).sum) + (nativeFrameWords "java/lang/Object" "getClass" 1 + 11) ≤ μ.R.locals)
    (hr : Run Γ μ k n O (pc + 3) Ls (.ref mr :: st)) : Run Γ μ k n O pc Ls (.ref a :: st) :=
  R_read (fun p e s m args below meth c T locs vm0 k0 P => by
    obtain ⟨X, hx, hb, hml, hret, hnm, hlk, hown, hS, hk0, hw, hF, I⟩ := P
    exact gcls X hx I.Z hown w1 w2 w3 w4 w5 w6 rfl (exa_of I hm) M (g := mkF m pc Ls.toArray (.ref a :: st)) rfl (by rw [hml]; simpa using hsz) rfl (Jvm.hb hb hd) hf (W := (st.map fun v => v.category).sum) (by show 2 * 0 + _ ≤ _; omega) hl) hr
theorem R_getClassA {ad : String} {a mr : Addr} {b : Bool} {ty : FieldType} {vs : List Value} (hd : decode μ.bs pc = .ok (.invokevirtual index, 3)) (hm : (a, b, Ary Γ ad ty vs) ∈ O) (hn : ad ≠ "") (M : Mir Γ.Z ad mr) (w1 : Wd Γ (.methodLink μ.y.cls index ⟨"java/lang/Object", "getClass", "()Ljava/lang/Class;"⟩)) (w2 : Wd Γ (.declares ⟨"java/lang/Object", "getClass", "()Ljava/lang/Class;"⟩)) (w3 : Wd Γ (.noSuperclass "java/lang/Object")) (w4 : Wd Γ (.selects ad ⟨"java/lang/Object", "getClass", "()Ljava/lang/Class;"⟩ ⟨"java/lang/Object", "getClass", "()Ljava/lang/Class;"⟩))
    (w5 : Wd Γ (.instanceMethod ⟨"java/lang/Object", "getClass", "()Ljava/lang/Class;"⟩)) (w6 : Wd Γ (.native ⟨"java/lang/Object", "getClass", "()Ljava/lang/Class;"⟩)) (hsz : Ls.length = μ.ml) (hf : 1 ≤ μ.R.frames) (hl : ((st.map fun v => v.category).sum) + (nativeFrameWords "java/lang/Object" "getClass" 1 + 11) ≤ μ.R.locals)
    (hr : Run Γ μ k n O (pc + 3) Ls (.ref mr :: st)) : Run Γ μ k n O pc Ls (.ref a :: st) :=
  R_read (fun p e s m args below meth c T locs vm0 k0 P => by
    obtain ⟨X, hx, hb, hml, hret, hnm, hlk, hown, hS, hk0, hw, hF, I⟩ := P
    exact gcls X hx I.Z hown w1 w2 w3 w4 w5 w6 rfl (exaA_of I hm hn) M (g := mkF m pc Ls.toArray (.ref a :: st)) rfl (by rw [hml]; simpa using hsz) rfl (Jvm.hb hb hd) hf (W := (st.map fun v => v.category).sum) (by show 2 * 0 + _ ≤ _; omega) hl) hr
/-- System.arraycopy, into an owned array -/
theorem R_arraycopy {ad ad' : String} {ty ty' : FieldType} {vs vd us : List Value} {a d : Addr} {b : Bool} {sp dp nn : Int32} (i : Nat) (hd : decode μ.bs pc = .ok (.invokestatic index, 3)) (w1 : Wd Γ (.methodLink μ.y.cls index Jvm.Stand.acN)) (w2 : Wd Γ (.native Jvm.Stand.acN)) (w3 : Wd Γ (.static Jvm.Stand.acN)) (w4 : Wd Γ (.initialized "java/lang/System"))
    (hm : (a, b, Ary Γ ad ty vs) ∈ O) (hi : O[i]? = some (d, true, Ary Γ ad' ty' vd)) (sN dN nN : Nat) (h1 : ¬ sp < 0) (h2 : ¬ dp < 0) (h3 : ¬ nn < 0) (e1 : sp.toNatClampNeg = sN) (e2 : dp.toNatClampNeg = dN) (e3 : nn.toNatClampNeg = nN) (h4 : sN + nN ≤ vs.length) (h5 : dN + nN ≤ vd.length) (hus : (vs.drop sN).take nN = us)
    (hty : (ty = ty' ∧ refKind ty = false) ∨ (refKind ty = true ∧ ∃ C, ty' = .object C ∧ ∀ v ∈ us, v = .null ∨ ∃ (y : Addr) (b : Bool) (D : String) (fs : List Fd), v = .ref y ∧ (y, b, Obj Γ D fs) ∈ O ∧ Wd Γ (.castable D C)))
    (hsz : Ls.length = μ.ml) (hf : 1 ≤ μ.R.frames) (hl : ((st.map fun v => v.category).sum) + (nativeFrameWords "java/lang/System" "arraycopy" 5 + 11) ≤ μ.R.locals)
    (hr : Run Γ μ k n (O.set i (d, true, Ary Γ ad' ty' (vd.take dN ++ us ++ vd.drop (dN + nN)))) (pc + 3) Ls st) : Run Γ μ k n O pc Ls (.int nn :: .int dp :: .ref d :: .int sp :: .ref a :: st) := fun p e s m args below meth c T locs vm0 k0 P => by
  obtain ⟨X, hx, hb, hml, hret, hnm, hlk, hown, hS, hk0, hw, hF, I⟩ := P
  obtain ⟨cl, ec, ef⟩ := I.cell (List.mem_append_left _ hm)
  obtain ⟨cd, dc, df⟩ := I.cell (List.mem_append_left _ (List.mem_of_getElem? hi))
  obtain ⟨z1, z2⟩ := i32_len ef.2.2.2.2.1
  obtain ⟨y1, y2⟩ := i32_len df.2.2.2.2.1
  have hus' : us = (List.range nn.toNatClampNeg).map fun i => vs.getD (sp.toNatClampNeg + i) .null := by
    rw [← hus, e1, e3]
    apply List.ext_getElem?
    intro j
    by_cases q : j < nN
    · rw [List.getElem?_take_of_lt q, List.getElem?_drop]
      simp [q, List.getD_eq_getElem?_getD]
      rw [List.getElem?_eq_getElem (by omega)]; simp
    · rw [List.getElem?_eq_none (by simp; omega), List.getElem?_eq_none (by simp; omega)]
  have hty2 : (ty = ty' ∧ refKind ty = false) ∨ (refKind ty = true ∧ refKind ty' = true ∧ StoL Γ.Z T.heap d us) := by
    rcases hty with q | ⟨q1, C, rfl, q3⟩
    · exact Or.inl q
    · refine Or.inr ⟨q1, rfl, ?_⟩
      have all : ∀ L : List Value, (∀ v ∈ L, v = .null ∨ ∃ (y : Addr) (b : Bool) (D : String) (fs : List Fd), v = .ref y ∧ (y, b, Obj Γ D fs) ∈ O ∧ Wd Γ (.castable D C)) → StoL Γ.Z T.heap d L := by
        intro L
        induction L with
        | nil => intro _; trivial
        | cons v L ih =>
          intro h
          refine ⟨?_, ih fun u hu => h u (List.mem_cons_of_mem _ hu)⟩
          rcases h v (List.mem_cons_self ..) with rfl | ⟨y, b, D, fs, rfl, hmy, wc⟩
          · exact Or.inl rfl
          · exact Sto.of (df.arr dc) (df.2.2.2.2.2.2 C rfl) (Ins.of_exa (exa_of I hmy) wc)
      exact all us q3
  obtain ⟨T', h', L, X', e', N', K, A, hst⟩ := cpA X hx I.Z hown w1 w2 w3 w4 rfl (arv_of_ary .null ef ec) (arv_of_ary .null df dc) hty2 h1 h2 h3 (by rw [e1, e3, z2]; exact h4) (by rw [e2, e3, y2]; exact h5) hus' (by rw [e2, e3]; exact h5) hF (I.new (List.mem_append_left _ (List.mem_of_getElem? hi))) (g := mkF m pc Ls.toArray (.int nn :: .int dp :: .ref d :: .int sp :: .ref a :: st)) rfl (by rw [hml]; simpa using hsz) rfl (Jvm.hb hb hd) hf (W := (st.map fun v => v.category).sum) (by show 2 * 0 + _ ≤ _; omega) hl
  subst e'
  obtain ⟨hlt, hget⟩ := List.getElem?_eq_some_iff.mp hi
  have g1 : O = O.take i ++ (d, true, Ary Γ ad' ty' vd) :: O.drop (i + 1) := by rw [← hget, List.getElem_cons_drop hlt, List.take_append_drop]
  have g2 : ∀ φ, O.set i (d, true, φ) = O.take i ++ (d, true, φ) :: O.drop (i + 1) := fun φ => by rw [List.set_eq_take_append_cons_drop, if_pos hlt]
  have ul : us.length = nN := by rw [← hus]; simp; omega
  have hA : ∃ c' : Cell, T'.heap[d]? = some c' ∧ Ary Γ ad' ty' (vd.take dN ++ us ++ vd.drop (dN + nN)) c' := by
    obtain ⟨c', A1, q1, q2, q3, q4, q5⟩ := A
    rw [e2, e3] at q4 q5
    have hsz' : c'.slots.size = vd.length := by rw [q2, y2]
    have hll : (vd.take dN ++ us ++ vd.drop (dN + nN)).length = vd.length := by simp [ul]; omega
    have et : c'.slots.toList = vd.take dN ++ us ++ vd.drop (dN + nN) := by
      apply List.ext_getElem?
      intro j
      rw [Array.getElem?_toList]
      by_cases hj : j < c'.slots.size
      · rw [q4 j hj, List.getD_eq_getElem?_getD, List.getElem?_eq_getElem (by omega)]; simp
      · rw [Array.getElem?_eq_none (by omega), List.getElem?_eq_none (by omega)]
    refine ⟨c', A1.1, fun q => ?_, A1.2.1, A1.2.2, et, by rw [hll]; exact df.2.2.2.2.1, fun v hv => ?_, fun C q => ?_⟩
    · rw [q1]; exact df.1 q
    · obtain ⟨j, hj, rfl⟩ := List.mem_iff_getElem.mp hv
      have := q5 j (by omega)
      rw [List.getD_eq_getElem?_getD, List.getElem?_eq_getElem hj] at this
      simpa using this
    · rw [q1]; exact df.2.2.2.2.2.2 C q
  have I' : Inv Γ vm0 T'.heap (O.set i (d, true, Ary Γ ad' ty' (vd.take dN ++ us ++ vd.drop (dN + nN))) ++ μ.F) := by
    rw [g2, List.append_assoc, List.cons_append]
    refine Inv.mut (φ := Ary Γ ad' ty' vd) ?_ K hA
    rw [← List.cons_append, ← List.append_assoc, ← g1]; exact I
  exact (hr p e s m args below meth c T' L vm0 k0 ⟨X', hx, hb, hml, hret, hnm, hlk, hown, hS, Nat.le_trans hk0 K.1, hw, N', I'⟩).back hst
end G
end Jvm.Own
namespace Jvm.Own
open Sem ClassFile Op Lib Jvm.Stand Jvm.Free Jvm.LawKit Jvm.RoadKit
/-! ## H. arrays of references that are read alone (nothing is known of what they would take) -/
section H
variable {Γ : Gx} {μ : Mx} {k n : Nat} {O O1 F' : OL} {pc pc' : Nat} {Ls Ls' : List Slot} {st st' rest : List Value} {y z : MethodName} {index : Nat}
def AryR (Γ : Gx) (ad : String) (ty : FieldType) (vs : List Value) (c : Cell) : Prop :=
  (ad ≠ "" → ∃ k : Class, Γ.Z.vm.findClass ad = some c.cls ∧ Γ.Z.vm.classes[c.cls]? = some k) ∧ Γ.Z.isArrayOf c ty ∧ c.vm ≠ .unknown ∧ c.slots.toList = vs ∧ vs.length < 2 ^ 31 ∧ (∀ v ∈ vs, fits ty v = true)
theorem AryR.arr {h : Heap} {a : Addr} {ad : String} {ty : FieldType} {vs : List Value} {c : Cell} (F : AryR Γ ad ty vs c) (e : h[a]? = some c) : Arr Γ.Z h a c ty := ⟨e, F.2.1, F.2.2.1⟩
theorem AryR.len {ad : String} {ty : FieldType} {vs : List Value} {c : Cell} (F : AryR Γ ad ty vs c) : c.slots.size = vs.length := by rw [← F.2.2.2.1]; simp
theorem AryR.exa {h : Heap} {a : Addr} {ad : String} {ty : FieldType} {vs : List Value} {c : Cell} (F : AryR Γ ad ty vs c) (e : h[a]? = some c) (hn : ad ≠ "") : Exa Γ.Z h a ad := by
  obtain ⟨k, k1, k2⟩ := F.1 hn
  obtain ⟨q, k', k3, comp, k4⟩ := F.2.1
  cases k2.symm.trans k3
  exact ⟨c, k, e, k1, k2, (F.arr e).plain, fun z => by rw [k4] at z; cases z⟩
theorem aryR_at {ad : String} {ty : FieldType} {vs : List Value} {c : Cell} {j : Nat} {v : Value} (F : AryR Γ ad ty vs c) (hv : vs[j]? = some v) : c.slots[j]? = some v := by
  rw [← F.2.2.2.1] at hv; simpa using hv
theorem R_arraylengthR {ad : String} {ty : FieldType} {vs : List Value} {a : Addr} {b : Bool} (hd : decode μ.bs pc = .ok (.arraylength, 1)) (hm : (a, b, AryR Γ ad ty vs) ∈ O) (z : Int32) (hz : vs.length.toInt32 = z) (hr : Run Γ μ k n O (pc + 1) Ls (.int z :: st)) : Run Γ μ k n O pc Ls (.ref a :: st) :=
  R_read (fun p e s m args below meth c T locs vm0 k0 P => by
    obtain ⟨X, hx, hb, hml, hret, hnm, hlk, hown, hS, hk0, hw, hF, I⟩ := P
    obtain ⟨cl, ec, ef⟩ := I.cell (List.mem_append_left _ hm)
    refine ⟨T, X, rfl, fun target hs => X.arraylength hx ec (State.isArrayOf_alike (T := s.setVm vm0) I.Z.alike ef.2.1) (g := mkF m pc Ls.toArray (.ref a :: st)) rfl rfl (Jvm.hb hb hd) target ?_⟩
    rw [ef.len, hz]; exact hs) hr
theorem R_aaloadR {ad : String} {ty : FieldType} {vs : List Value} {a : Addr} {b : Bool} {z : Int32} {v : Value} (hd : decode μ.bs pc = .ok (.aaload, 1)) (hm : (a, b, AryR Γ ad ty vs) ∈ O) (hty : ty.isReference = true) (h0 : ¬ z < 0) (j : Nat) (hj : z.toNatClampNeg = j) (hv : vs[j]? = some v) (hr : Run Γ μ k n O (pc + 1) Ls (v :: st)) : Run Γ μ k n O pc Ls (.int z :: .ref a :: st) :=
  R_read (fun p e s m args below meth c T locs vm0 k0 P => by
    obtain ⟨X, hx, hb, hml, hret, hnm, hlk, hown, hS, hk0, hw, hF, I⟩ := P
    obtain ⟨cl, ec, ef⟩ := I.cell (List.mem_append_left _ hm)
    exact ⟨T, X, rfl, fun target hs => X.aaload (j := z) hx ec (State.isArrayOf_alike (T := s.setVm vm0) I.Z.alike ef.2.1) hty ef.2.2.1 (inb h0 (by rw [hj]; exact (List.getElem?_eq_some_iff.mp hv).1) ef.len) (by rw [hj]; exact aryR_at ef hv) (g := mkF m pc Ls.toArray (.int z :: .ref a :: st)) rfl rfl (Jvm.hb hb hd) target hs⟩) hr
theorem R_checkcastRSelf {ad : String} {a : Addr} {b : Bool} {ty : FieldType} {vs : List Value} (hd : decode μ.bs pc = .ok (.checkcast index, 3)) (w : Wd Γ (.classLink μ.y.cls index ad)) (hm : (a, b, AryR Γ ad ty vs) ∈ O) (hn : ad ≠ "") (hr : Run Γ μ k n O (pc + 3) Ls (.ref a :: st)) : Run Γ μ k n O pc Ls (.ref a :: st) :=
  R_read (fun p e s m args below meth c T locs vm0 k0 P => by
    obtain ⟨X, hx, hb, hml, hret, hnm, hlk, hown, hS, hk0, hw, hF, I⟩ := P
    obtain ⟨cl, ec, ef⟩ := I.cell (List.mem_append_left _ hm)
    exact castY X hx I.Z hown w rfl (Ins.self (ef.exa ec hn)) (g := mkF m pc Ls.toArray (.ref a :: st)) rfl rfl (Jvm.hb hb hd)) hr
theorem R_cloneR {ad : String} {a : Addr} {b : Bool} {ty : FieldType} {vs : List Value} (cap : Nat) (hd : decode μ.bs pc = .ok (.invokevirtual index, 3)) (hm : (a, b, AryR Γ ad ty vs) ∈ O) (hn : ad ≠ "") (w1 : Wd Γ (.methodLink μ.y.cls index ⟨ad, "clone", "()Ljava/lang/Object;"⟩)) (w2 : Wd Γ (.sameMethod ad "java/lang/Object" "clone" "()Ljava/lang/Object;")) (w3 : Wd Γ (.native ⟨"java/lang/Object", "clone", "()Ljava/lang/Object;"⟩))
    (w4 : Wd Γ (.instanceMethod ⟨"java/lang/Object", "clone", "()Ljava/lang/Object;"⟩)) (w5 : Wd Γ (.selects ad ⟨ad, "clone", "()Ljava/lang/Object;"⟩ ⟨"java/lang/Object", "clone", "()Ljava/lang/Object;"⟩)) (w6 : Wd Γ (.castable ad "java/lang/Cloneable")) (hsz : Ls.length = μ.ml) (hf : 1 ≤ μ.R.frames) (hl : ((st.map fun v => v.category).sum) + 14 ≤ μ.R.locals) (hcap : vs.length ≤ cap) (hc : k + 1 ≤ μ.R.cells) (hs : n + cap ≤ μ.R.slots)
    (hr : ∀ a' : Addr, Run Γ μ (k + 1) (n + cap) ((a', true, AryR Γ ad ty vs) :: O) (pc + 3) Ls (.ref a' :: st)) : Run Γ μ k n O pc Ls (.ref a :: st) := fun p e s m args below meth c T locs vm0 k0 P => by
  obtain ⟨X, hx, hb, hml, hret, hnm, hlk, hown, hS, hk0, hw, hF, I⟩ := P
  obtain ⟨cl, ec, ef⟩ := I.cell (List.mem_append_left _ hm)
  have FC : FitC Γ.Z cl := fitC_of (ef.arr ec) fun i hi v hv => ef.2.2.2.2.2 v (by
    rw [← ef.2.2.2.1]; rw [Array.mem_toList_iff]; exact Array.mem_of_getElem? hv)
  obtain ⟨T', h', X', e', E, A, Ex, hst⟩ := cloneA X hx I.Z hown w1 w2 w3 w4 w5 w6 rfl (ef.arr ec) (ef.exa ec hn) FC (g := mkF m pc Ls.toArray (.ref a :: st)) rfl (by rw [hml]; simpa using hsz) rfl (Jvm.hb hb hd) hf (W := (st.map fun v => v.category).sum) (by show 2 * 0 + _ ≤ _; omega) hl (by rw [ef.len]; exact hcap) hc hs
  subst e'
  exact (hr T.heap.size p e s m args below meth c T' locs vm0 k0 ⟨X', hx, hb, hml, hret, hnm, hlk, hown, hS, Nat.le_trans hk0 E.1, hw, hF, I.alloc E A.1 ⟨ef.1, A.2.1, A.2.2, ef.2.2.2.1, ef.2.2.2.2.1, ef.2.2.2.2.2⟩⟩).back hst
end H
end Jvm.Own
namespace Jvm.Own
open Sem ClassFile Op Lib Jvm.Stand Jvm.Free Jvm.LawKit Jvm.RoadKit
/-! ## I. chars and bytes; what a case's words say of the start -/
abbrev b8 (c : Int32) : Int32 := c.toInt8.toInt32
/-- a char below 256 -/
abbrev Lo (r : Int32) : Prop := ¬ r < 0 ∧ ¬ (255 : Int32) < r
theorem and255 (x : Int32) : Lo (x &&& (255 : Int32)) := by
  have := c_and x 255 (by decide)
  have e1 : (255 : Int32).toInt = 255 := rfl
  have e0 : (0 : Int32).toInt = 0 := rfl
  show ¬ _ ∧ ¬ _
  rw [Int32.lt_iff_toInt_lt, Int32.lt_iff_toInt_lt]; omega
theorem i2c255 (x : Int32) : (x &&& (255 : Int32)).toUInt32.toUInt16.toUInt32.toInt32 = x &&& 255 := i2c_mask x
theorem le255 {x : Int32} (h : Lo x) : nar .char x = x := nar_c h.1 fun q => h.2 (by
  have e1 : (255 : Int32).toInt = 255 := rfl
  have e2 : (65535 : Int32).toInt = 65535 := rfl
  rw [Int32.lt_iff_toInt_lt] at q ⊢; omega)
theorem narI (x : Int32) : nar .char (x &&& (255 : Int32)).toUInt32.toUInt16.toUInt32.toInt32 = x &&& 255 := by rw [i2c255]; exact le255 (and255 x)
theorem b8_iff : ∀ a : Fin 256, ∀ b : Fin 256, (b8 (Int32.ofNat a.val) = b8 (Int32.ofNat b.val)) = (a.val = b.val) := by decide +kernel
theorem fin_of {r : Int32} (h : Lo r) : ∃ a : Fin 256, r = Int32.ofNat a.val := by
  have e1 : (255 : Int32).toInt = 255 := rfl
  have e0 : (0 : Int32).toInt = 0 := rfl
  obtain ⟨g0, g1⟩ := h
  rw [Int32.lt_iff_toInt_lt] at g0 g1
  refine ⟨⟨r.toInt.toNat, by omega⟩, ?_⟩
  rw [← Int32.toInt_inj]
  show _ = (r.toInt.toNat.toInt32).toInt
  rw [len_toInt (by omega)]; omega
/-- a char's byte tells the char -/
theorem b8_inj {r r' : Int32} (h : Lo r) (h' : Lo r') : b8 r = b8 r' ↔ r = r' := by
  obtain ⟨a, rfl⟩ := fin_of h
  obtain ⟨b, rfl⟩ := fin_of h'
  rw [b8_iff]
  constructor
  · intro q; rw [q]
  · intro q
    have := congrArg Int32.toInt q
    rw [show (Int32.ofNat a.val).toInt = a.val from len_toInt (by omega), show (Int32.ofNat b.val).toInt = b.val from len_toInt (by omega)] at this
    omega
theorem map_b8_inj : ∀ {xs ys : List Int32}, (∀ x ∈ xs, Lo x) → (∀ x ∈ ys, Lo x) → (xs.map b8 = ys.map b8 ↔ xs = ys)
  | [], [], _, _ => by simp
  | [], _ :: _, _, _ => by simp
  | _ :: _, [], _, _ => by simp
  | x :: xs, y :: ys, h, h' => by
    have r := map_b8_inj (xs := xs) (ys := ys) (fun z hz => h z (List.mem_cons_of_mem _ hz)) (fun z hz => h' z (List.mem_cons_of_mem _ hz))
    have q := b8_inj (h x (List.mem_cons_self ..)) (h' y (List.mem_cons_self ..))
    rw [List.map_cons, List.map_cons, List.cons.injEq, List.cons.injEq, r, q]
section I
variable {Γ : Gx} {args : Array Value} {s : State} {t u : Term}
theorem eq_const {n : Int32} (h : (Jvm.Cond.eq t (.int n)).value args s none s [] = some true) : t.eval args s none [] s = some (.int n) := by
  obtain ⟨x, y, ex, ey, k1, k2⟩ := cmp_v (Or.inl h)
  cases (Term.int_eval n).symm.trans ey
  obtain ⟨z, rfl⟩ := k2
  have := gotT (Cond.eq_ints ex (Term.int_eval n)) h
  rw [ex, this]
theorem eq_ref {r : Addr} (h : (Jvm.Cond.eq t u).value args s none s [] = some true) (hu : u.eval args s none [] s = some (.ref r)) : t.eval args s none [] s = some (.ref r) := by
  obtain ⟨x, y, ex, ey, k1, k2⟩ := cmp_v (Or.inl h)
  cases hu.symm.trans ey
  have hx : x.isRef = true := k2.2
  have := gotT (eq_R ex hu hx rfl) h
  rw [ex, this]
theorem Obj.start {h : Heap} {a : Addr} {C o nm d : String} {v : Value} (E : Exa Γ.Z h a C) (F : Fld Γ.Z h a o nm d v) {fs : List Fd} (L : ∀ f ∈ fs, Laid Γ.Z Γ.a0 C f.1 f.2.1 f.2.2.1 ∧ (∃ ty, parseFieldDescriptor f.2.2.1 = some ty) ∧ Fld Γ.Z h a f.1 f.2.1 f.2.2.1 f.2.2.2) : ∃ c : Cell, h[a]? = some c ∧ Obj Γ C fs c := by
  obtain ⟨c, -, -, -, -, e1, -, -, e4, -⟩ := F
  exact Obj.of_exa E ⟨c, e1, e4⟩ L
theorem ol0 {h : Heap} {a : Addr} {C : String} : ∀ f ∈ ([] : List Fd), Laid Γ.Z Γ.a0 C f.1 f.2.1 f.2.2.1 ∧ (∃ ty, parseFieldDescriptor f.2.2.1 = some ty) ∧ Fld Γ.Z h a f.1 f.2.1 f.2.2.1 f.2.2.2 := fun _ q => nomatch q
theorem olS {h : Heap} {a : Addr} {C o nm d : String} {v : Value} {fs : List Fd} {ty : FieldType} (l : Laid Γ.Z Γ.a0 C o nm d) (p : parseFieldDescriptor d = some ty) (F : Fld Γ.Z h a o nm d v) (r : ∀ f ∈ fs, Laid Γ.Z Γ.a0 C f.1 f.2.1 f.2.2.1 ∧ (∃ ty, parseFieldDescriptor f.2.2.1 = some ty) ∧ Fld Γ.Z h a f.1 f.2.1 f.2.2.1 f.2.2.2) :
    ∀ f ∈ (o, nm, d, v) :: fs, Laid Γ.Z Γ.a0 C f.1 f.2.1 f.2.2.1 ∧ (∃ ty, parseFieldDescriptor f.2.2.1 = some ty) ∧ Fld Γ.Z h a f.1 f.2.1 f.2.2.1 f.2.2.2 := fun f hf => by
  rcases List.mem_cons.mp hf with rfl | hf
  · exact ⟨l, ⟨ty, p⟩, F⟩
  · exact r f hf
theorem Fld.of_term {a : Addr} {C n d : String} {v : Value} (ht : t.eval args s none [] s = some (.ref a)) (e : (Term.field t C n d).eval args s none [] s = some v) : Fld s s.heap a C n d v := Fld.start (by rw [← fld_at ht]; exact e)
theorem len_lt {a : Addr} {c : Cell} {v : Value} (hl : (Term.length t).eval args s none [] s = some v) (ht : t.eval args s none [] s = some (.ref a)) (ha : s.arrayAt? a = some c) : c.slots.size < 2 ^ 31 := by
  by_cases q : c.slots.size < 2 ^ 31
  · exact q
  · simp [Term.eval, ht, ha] at hl
    omega
/-- an array of the start: its length and its components are said -/
theorem arr_toList {a : Addr} {c : Cell} {ty : FieldType} (A : Arr s s.heap a c ty) (ht : t.eval args s none [] s = some (.ref a)) {m : Int32} (hl : (Term.length t).eval args s none [] s = some (.int m)) {vs : List Value} (hm : vs.length.toInt32 = m) (hv31 : vs.length < 2 ^ 31)
    (he : ∀ j, (hj : j < vs.length) → (Term.elem t (.int j.toInt32)).eval args s none [] s = some vs[j]) : c.slots.toList = vs := by
  have hsz := len_lt hl ht (A.fin (Vm.Alike.refl _))
  obtain ⟨a', c', e1, e2, e3⟩ := Term.length_spec hl
  cases ht.symm.trans e1
  cases (A.fin (Vm.Alike.refl _)).symm.trans e2
  have es : c.slots.size = vs.length := by
    have := e3
    simp only [Value.int.injEq] at this
    rw [← hm] at this
    exact ((i32_eq_iff hv31 hsz).mp this).symm
  apply List.ext_getElem?
  intro j
  by_cases hj : j < vs.length
  · have q := (elem_in (he j hj) ht (Term.int_eval _) A.1).2
    rw [i32_cl (by omega)] at q
    rw [Array.getElem?_toList, q, List.getElem?_eq_getElem hj]
  · rw [List.getElem?_eq_none (by simpa [es] using hj), List.getElem?_eq_none (by omega)]
end I
end Jvm.Own
namespace Jvm.Pilot.@@N@@
open Jvm Jvm.ClassFile Sem Op Lib Jvm.Free Jvm.Stand Jvm.LawKit Jvm.RoadKit Bundle Jvm.Own Jvm.Pilot.@@N@@.Jvm.D
def Words (Γ : Gx) : Prop := ∀ d ∈ tables_1, d.before Γ.a0 Γ.Z = true
def CS (Γ : Gx) : Prop := ∃ g : Int32, Sta Γ.Z Γ.Z.heap "java/lang/String" "COMPACT_STRINGS" "Z" (.int g) ∧ ¬ g = 0
def Lits (Γ : Gx) : Prop := Γ.w = true ∧ Γ.EL = consts_1
theorem atomsW {Γ : Gx} (hw : Words Γ) : ∀ a ∈ Bundle.stringAtoms, Wd Γ a := fun a ha => hw a ((by decide +kernel : ∀ d ∈ Bundle.stringAtoms, d ∈ tables_1) a ha)
theorem el_mem {Γ : Gx} (h : Γ.EL = consts_1) {x : String × Nat} (i : Nat) (hi : consts_1[i]? = some x) : x ∈ Γ.EL := by rw [h]; exact mem i hi
theorem d_jdk_43_method_13_code_9 : decode jdk_43_method_13_code 9 = .ok (.iload_n 2, 1) := by decide +kernel
theorem d_jdk_43_method_13_code_10 : decode jdk_43_method_13_code 10 = .ok (.aload_n 0, 1) := by decide +kernel
theorem d_jdk_43_method_13_code_11 : decode jdk_43_method_13_code 11 = .ok (.arraylength, 1) := by decide +kernel
theorem d_jdk_43_method_13_code_12 : decode jdk_43_method_13_code 12 = .ok (.if_icmp .ge 20, 3) := by decide +kernel
theorem d_jdk_43_method_13_code_32 : decode jdk_43_method_13_code 32 = .ok (.iconst 1, 1) := by decide +kernel
theorem d_jdk_43_method_13_code_33 : decode jdk_43_method_13_code 33 = .ok (.ireturn, 1) := by decide +kernel
theorem d_jdk_43_method_13_code_15 : decode jdk_43_method_13_code 15 = .ok (.aload_n 0, 1) := by decide +kernel
theorem d_jdk_43_method_13_code_16 : decode jdk_43_method_13_code 16 = .ok (.iload_n 2, 1) := by decide +kernel
theorem d_jdk_43_method_13_code_17 : decode jdk_43_method_13_code 17 = .ok (.baload, 1) := by decide +kernel
theorem d_jdk_43_method_13_code_18 : decode jdk_43_method_13_code 18 = .ok (.aload_n 1, 1) := by decide +kernel
theorem d_jdk_43_method_13_code_19 : decode jdk_43_method_13_code 19 = .ok (.iload_n 2, 1) := by decide +kernel
theorem d_jdk_43_method_13_code_20 : decode jdk_43_method_13_code 20 = .ok (.baload, 1) := by decide +kernel
theorem d_jdk_43_method_13_code_21 : decode jdk_43_method_13_code 21 = .ok (.if_icmp .eq 5, 3) := by decide +kernel
theorem d_jdk_43_method_13_code_26 : decode jdk_43_method_13_code 26 = .ok (.iinc 2 1, 3) := by decide +kernel
theorem d_jdk_43_method_13_code_29 : decode jdk_43_method_13_code 29 = .ok (.goto (-20), 3) := by decide +kernel
theorem d_jdk_43_method_13_code_24 : decode jdk_43_method_13_code 24 = .ok (.iconst 0, 1) := by decide +kernel
theorem d_jdk_43_method_13_code_25 : decode jdk_43_method_13_code 25 = .ok (.ireturn, 1) := by decide +kernel
theorem d_jdk_43_method_13_code_0 : decode jdk_43_method_13_code 0 = .ok (.aload_n 0, 1) := by decide +kernel
theorem d_jdk_43_method_13_code_1 : decode jdk_43_method_13_code 1 = .ok (.arraylength, 1) := by decide +kernel
theorem d_jdk_43_method_13_code_2 : decode jdk_43_method_13_code 2 = .ok (.aload_n 1, 1) := by decide +kernel
theorem d_jdk_43_method_13_code_3 : decode jdk_43_method_13_code 3 = .ok (.arraylength, 1) := by decide +kernel
theorem d_jdk_43_method_13_code_4 : decode jdk_43_method_13_code 4 = .ok (.if_icmp .ne 30, 3) := by decide +kernel
theorem d_jdk_43_method_13_code_34 : decode jdk_43_method_13_code 34 = .ok (.iconst 0, 1) := by decide +kernel
theorem d_jdk_43_method_13_code_35 : decode jdk_43_method_13_code 35 = .ok (.ireturn, 1) := by decide +kernel
theorem d_jdk_43_method_13_code_7 : decode jdk_43_method_13_code 7 = .ok (.iconst 0, 1) := by decide +kernel
theorem d_jdk_43_method_13_code_8 : decode jdk_43_method_13_code 8 = .ok (.istore_n 2, 1) := by decide +kernel
theorem pn_java_lang_StringLatin1 : plainName "java/lang/StringLatin1" = true := by first | (simp [plainName, overriddenIn]; done) | decide +kernel
theorem d_jdk_42_method_66_code_0 : decode jdk_42_method_66_code 0 = .ok (.aload_n 0, 1) := by decide +kernel
theorem d_jdk_42_method_66_code_1 : decode jdk_42_method_66_code 1 = .ok (.aload_n 1, 1) := by decide +kernel
theorem d_jdk_42_method_66_code_2 : decode jdk_42_method_66_code 2 = .ok (.if_acmp .ne 5, 3) := by decide +kernel
theorem d_jdk_42_method_66_code_7 : decode jdk_42_method_66_code 7 = .ok (.aload_n 1, 1) := by decide +kernel
theorem d_jdk_42_method_66_code_8 : decode jdk_42_method_66_code 8 = .ok (.instanceof 10, 3) := by decide +kernel
theorem d_jdk_42_method_66_code_11 : decode jdk_42_method_66_code 11 = .ok (.ifCond .eq 43, 3) := by decide +kernel
theorem d_jdk_42_method_66_code_14 : decode jdk_42_method_66_code 14 = .ok (.aload_n 1, 1) := by decide +kernel
theorem d_jdk_42_method_66_code_15 : decode jdk_42_method_66_code 15 = .ok (.checkcast 10, 3) := by decide +kernel
theorem d_jdk_42_method_66_code_18 : decode jdk_42_method_66_code 18 = .ok (.astore_n 2, 1) := by decide +kernel
theorem d_jdk_42_method_66_code_19 : decode jdk_42_method_66_code 19 = .ok (.getstatic 38, 3) := by decide +kernel
theorem d_jdk_42_method_66_code_22 : decode jdk_42_method_66_code 22 = .ok (.ifCond .eq 14, 3) := by decide +kernel
theorem d_jdk_42_method_66_code_25 : decode jdk_42_method_66_code 25 = .ok (.aload_n 0, 1) := by decide +kernel
theorem d_jdk_42_method_66_code_26 : decode jdk_42_method_66_code 26 = .ok (.getfield 15, 3) := by decide +kernel
theorem d_jdk_42_method_66_code_29 : decode jdk_42_method_66_code 29 = .ok (.aload_n 2, 1) := by decide +kernel
theorem d_jdk_42_method_66_code_30 : decode jdk_42_method_66_code 30 = .ok (.getfield 15, 3) := by decide +kernel
theorem d_jdk_42_method_66_code_33 : decode jdk_42_method_66_code 33 = .ok (.if_icmp .ne 21, 3) := by decide +kernel
theorem d_jdk_42_method_66_code_36 : decode jdk_42_method_66_code 36 = .ok (.aload_n 0, 1) := by decide +kernel
theorem d_jdk_42_method_66_code_37 : decode jdk_42_method_66_code 37 = .ok (.getfield 9, 3) := by decide +kernel
theorem d_jdk_42_method_66_code_40 : decode jdk_42_method_66_code 40 = .ok (.aload_n 2, 1) := by decide +kernel
theorem d_jdk_42_method_66_code_41 : decode jdk_42_method_66_code 41 = .ok (.getfield 9, 3) := by decide +kernel
theorem d_jdk_42_method_66_code_44 : decode jdk_42_method_66_code 44 = .ok (.invokestatic 541, 3) := by decide +kernel
theorem pd_oaBaBcZ : parseMethodDescriptor "([B[B)Z" = some ⟨[(.array .byte), (.array .byte)], some .boolean⟩ := by decide +kernel
theorem d_jdk_42_method_66_code_47 : decode jdk_42_method_66_code 47 = .ok (.ifCond .eq 7, 3) := by decide +kernel
theorem d_jdk_42_method_66_code_54 : decode jdk_42_method_66_code 54 = .ok (.iconst 0, 1) := by decide +kernel
theorem d_jdk_42_method_66_code_55 : decode jdk_42_method_66_code 55 = .ok (.ireturn, 1) := by decide +kernel
theorem d_jdk_42_method_66_code_50 : decode jdk_42_method_66_code 50 = .ok (.iconst 1, 1) := by decide +kernel
theorem d_jdk_42_method_66_code_51 : decode jdk_42_method_66_code 51 = .ok (.goto 4, 3) := by decide +kernel
theorem d_jdk_42_method_66_code_5 : decode jdk_42_method_66_code 5 = .ok (.iconst 1, 1) := by decide +kernel
theorem d_jdk_42_method_66_code_6 : decode jdk_42_method_66_code 6 = .ok (.ireturn, 1) := by decide +kernel
theorem pn_java_lang_String : plainName "java/lang/String" = true := by first | (simp [plainName, overriddenIn]; done) | decide +kernel
theorem d_jdk_52_method_21_code_3 : decode jdk_52_method_21_code 3 = .ok (.iload 5, 2) := by decide +kernel
theorem d_jdk_52_method_21_code_5 : decode jdk_52_method_21_code 5 = .ok (.iload 4, 2) := by decide +kernel
theorem d_jdk_52_method_21_code_7 : decode jdk_52_method_21_code 7 = .ok (.if_icmp .ge 37, 3) := by decide +kernel
theorem d_jdk_52_method_21_code_44 : decode jdk_52_method_21_code 44 = .ok (.iload 4, 2) := by decide +kernel
theorem d_jdk_52_method_21_code_46 : decode jdk_52_method_21_code 46 = .ok (.ireturn, 1) := by decide +kernel
theorem d_jdk_52_method_21_code_10 : decode jdk_52_method_21_code 10 = .ok (.aload_n 0, 1) := by decide +kernel
theorem d_jdk_52_method_21_code_11 : decode jdk_52_method_21_code 11 = .ok (.iload_n 1, 1) := by decide +kernel
theorem d_jdk_52_method_21_code_12 : decode jdk_52_method_21_code 12 = .ok (.caload, 1) := by decide +kernel
theorem d_jdk_52_method_21_code_13 : decode jdk_52_method_21_code 13 = .ok (.istore 6, 2) := by decide +kernel
theorem d_jdk_52_method_21_code_15 : decode jdk_52_method_21_code 15 = .ok (.iload 6, 2) := by decide +kernel
theorem d_jdk_52_method_21_code_17 : decode jdk_52_method_21_code 17 = .ok (.sipush 255, 3) := by decide +kernel
theorem d_jdk_52_method_21_code_20 : decode jdk_52_method_21_code 20 = .ok (.if_icmp .le 6, 3) := by decide +kernel
theorem d_jdk_52_method_21_code_26 : decode jdk_52_method_21_code 26 = .ok (.aload_n 2, 1) := by decide +kernel
theorem d_jdk_52_method_21_code_27 : decode jdk_52_method_21_code 27 = .ok (.iload_n 3, 1) := by decide +kernel
theorem d_jdk_52_method_21_code_28 : decode jdk_52_method_21_code 28 = .ok (.iload 6, 2) := by decide +kernel
theorem d_jdk_52_method_21_code_30 : decode jdk_52_method_21_code 30 = .ok (.i2b, 1) := by decide +kernel
theorem d_jdk_52_method_21_code_31 : decode jdk_52_method_21_code 31 = .ok (.bastore, 1) := by decide +kernel
theorem d_jdk_52_method_21_code_32 : decode jdk_52_method_21_code 32 = .ok (.iinc 1 1, 3) := by decide +kernel
theorem d_jdk_52_method_21_code_35 : decode jdk_52_method_21_code 35 = .ok (.iinc 3 1, 3) := by decide +kernel
theorem d_jdk_52_method_21_code_38 : decode jdk_52_method_21_code 38 = .ok (.iinc 5 1, 3) := by decide +kernel
theorem d_jdk_52_method_21_code_41 : decode jdk_52_method_21_code 41 = .ok (.goto (-38), 3) := by decide +kernel
theorem d_jdk_52_method_21_code_0 : decode jdk_52_method_21_code 0 = .ok (.iconst 0, 1) := by decide +kernel
theorem d_jdk_52_method_21_code_1 : decode jdk_52_method_21_code 1 = .ok (.istore 5, 2) := by decide +kernel
theorem pn_java_lang_StringUTF16 : plainName "java/lang/StringUTF16" = true := by first | (simp [plainName, overriddenIn]; done) | decide +kernel
theorem d_jdk_52_method_16_code_0 : decode jdk_52_method_16_code 0 = .ok (.iload_n 2, 1) := by decide +kernel
theorem d_jdk_52_method_16_code_1 : decode jdk_52_method_16_code 1 = .ok (.newarray .byte, 2) := by decide +kernel
theorem d_jdk_52_method_16_code_3 : decode jdk_52_method_16_code 3 = .ok (.astore_n 3, 1) := by decide +kernel
theorem d_jdk_52_method_16_code_4 : decode jdk_52_method_16_code 4 = .ok (.aload_n 0, 1) := by decide +kernel
theorem d_jdk_52_method_16_code_5 : decode jdk_52_method_16_code 5 = .ok (.iload_n 1, 1) := by decide +kernel
theorem d_jdk_52_method_16_code_6 : decode jdk_52_method_16_code 6 = .ok (.aload_n 3, 1) := by decide +kernel
theorem d_jdk_52_method_16_code_7 : decode jdk_52_method_16_code 7 = .ok (.iconst 0, 1) := by decide +kernel
theorem d_jdk_52_method_16_code_8 : decode jdk_52_method_16_code 8 = .ok (.iload_n 2, 1) := by decide +kernel
theorem d_jdk_52_method_16_code_9 : decode jdk_52_method_16_code 9 = .ok (.invokestatic 115, 3) := by decide +kernel
theorem pd_oaCIaBIIcI : parseMethodDescriptor "([CI[BII)I" = some ⟨[(.array .char), .int, (.array .byte), .int, .int], some .int⟩ := by decide +kernel
theorem d_jdk_52_method_16_code_12 : decode jdk_52_method_16_code 12 = .ok (.istore 4, 2) := by decide +kernel
theorem d_jdk_52_method_16_code_14 : decode jdk_52_method_16_code 14 = .ok (.iload 4, 2) := by decide +kernel
theorem d_jdk_52_method_16_code_16 : decode jdk_52_method_16_code 16 = .ok (.iload_n 2, 1) := by decide +kernel
theorem d_jdk_52_method_16_code_17 : decode jdk_52_method_16_code 17 = .ok (.if_icmp .eq 40, 3) := by decide +kernel
theorem d_jdk_52_method_16_code_57 : decode jdk_52_method_16_code 57 = .ok (.aload_n 3, 1) := by decide +kernel
theorem d_jdk_52_method_16_code_58 : decode jdk_52_method_16_code 58 = .ok (.areturn, 1) := by decide +kernel
theorem d_jdk_52_method_15_code_0 : decode jdk_52_method_15_code 0 = .ok (.iload_n 1, 1) := by decide +kernel
theorem d_jdk_52_method_15_code_1 : decode jdk_52_method_15_code 1 = .ok (.aload_n 0, 1) := by decide +kernel
theorem d_jdk_52_method_15_code_2 : decode jdk_52_method_15_code 2 = .ok (.arraylength, 1) := by decide +kernel
theorem d_jdk_52_method_15_code_3 : decode jdk_52_method_15_code 3 = .ok (.isub, 1) := by decide +kernel
theorem d_jdk_52_method_15_code_4 : decode jdk_52_method_15_code 4 = .ok (.bipush 31, 2) := by decide +kernel
theorem d_jdk_52_method_15_code_6 : decode jdk_52_method_15_code 6 = .ok (.iushr, 1) := by decide +kernel
theorem d_jdk_52_method_15_code_7 : decode jdk_52_method_15_code 7 = .ok (.i2b, 1) := by decide +kernel
theorem d_jdk_52_method_15_code_8 : decode jdk_52_method_15_code 8 = .ok (.ireturn, 1) := by decide +kernel
theorem d_jdk_42_method_149_code_0 : decode jdk_42_method_149_code 0 = .ok (.aload_n 0, 1) := by decide +kernel
theorem d_jdk_42_method_149_code_1 : decode jdk_42_method_149_code 1 = .ok (.invokespecial 1, 3) := by decide +kernel
theorem d_jdk_42_method_149_code_4 : decode jdk_42_method_149_code 4 = .ok (.iload_n 3, 1) := by decide +kernel
theorem d_jdk_42_method_149_code_5 : decode jdk_42_method_149_code 5 = .ok (.ifCond .ne 22, 3) := by decide +kernel
theorem d_jdk_42_method_149_code_27 : decode jdk_42_method_149_code 27 = .ok (.getstatic 38, 3) := by decide +kernel
theorem d_jdk_42_method_149_code_30 : decode jdk_42_method_149_code 30 = .ok (.ifCond .eq 28, 3) := by decide +kernel
theorem d_jdk_42_method_149_code_33 : decode jdk_42_method_149_code 33 = .ok (.aload_n 1, 1) := by decide +kernel
theorem d_jdk_42_method_149_code_34 : decode jdk_42_method_149_code 34 = .ok (.iload_n 2, 1) := by decide +kernel
theorem d_jdk_42_method_149_code_35 : decode jdk_42_method_149_code 35 = .ok (.iload_n 3, 1) := by decide +kernel
theorem d_jdk_42_method_149_code_36 : decode jdk_42_method_149_code 36 = .ok (.invokestatic 177, 3) := by decide +kernel
theorem pd_oaCIIcaB : parseMethodDescriptor "([CII)[B" = some ⟨[(.array .char), .int, .int], some (.array .byte)⟩ := by decide +kernel
theorem d_jdk_42_method_149_code_39 : decode jdk_42_method_149_code 39 = .ok (.astore 5, 2) := by decide +kernel
theorem d_jdk_42_method_149_code_41 : decode jdk_42_method_149_code 41 = .ok (.aload_n 0, 1) := by decide +kernel
theorem d_jdk_42_method_149_code_42 : decode jdk_42_method_149_code 42 = .ok (.aload 5, 2) := by decide +kernel
theorem d_jdk_42_method_149_code_44 : decode jdk_42_method_149_code 44 = .ok (.iload_n 3, 1) := by decide +kernel
theorem d_jdk_42_method_149_code_45 : decode jdk_42_method_149_code 45 = .ok (.invokestatic 47, 3) := by decide +kernel
theorem pd_oaBIcB : parseMethodDescriptor "([BI)B" = some ⟨[(.array .byte), .int], some .byte⟩ := by decide +kernel
theorem d_jdk_42_method_149_code_48 : decode jdk_42_method_149_code 48 = .ok (.putfield 15, 3) := by decide +kernel
theorem d_jdk_42_method_149_code_51 : decode jdk_42_method_149_code 51 = .ok (.aload_n 0, 1) := by decide +kernel
theorem d_jdk_42_method_149_code_52 : decode jdk_42_method_149_code 52 = .ok (.aload 5, 2) := by decide +kernel
theorem d_jdk_42_method_149_code_54 : decode jdk_42_method_149_code 54 = .ok (.putfield 9, 3) := by decide +kernel
theorem d_jdk_42_method_149_code_57 : decode jdk_42_method_149_code 57 = .ok (.return_, 1) := by decide +kernel
theorem d_jdk_42_method_3_code_0 : decode jdk_42_method_3_code 0 = .ok (.aload_n 0, 1) := by decide +kernel
theorem d_jdk_42_method_3_code_1 : decode jdk_42_method_3_code 1 = .ok (.aload_n 1, 1) := by decide +kernel
theorem d_jdk_42_method_3_code_2 : decode jdk_42_method_3_code 2 = .ok (.iconst 0, 1) := by decide +kernel
theorem d_jdk_42_method_3_code_3 : decode jdk_42_method_3_code 3 = .ok (.aload_n 1, 1) := by decide +kernel
theorem d_jdk_42_method_3_code_4 : decode jdk_42_method_3_code 4 = .ok (.arraylength, 1) := by decide +kernel
theorem d_jdk_42_method_3_code_5 : decode jdk_42_method_3_code 5 = .ok (.aconst_null, 1) := by decide +kernel
theorem d_jdk_42_method_3_code_6 : decode jdk_42_method_3_code 6 = .ok (.invokespecial 27, 3) := by decide +kernel
theorem pd_oaCIILjava_lang_Void_cV : parseMethodDescriptor "([CIILjava/lang/Void;)V" = some ⟨[(.array .char), .int, .int, (.object "java/lang/Void")], none⟩ := by decide +kernel
theorem d_jdk_42_method_3_code_9 : decode jdk_42_method_3_code 9 = .ok (.return_, 1) := by decide +kernel
theorem d_jdk_42_method_149_code_8 : decode jdk_42_method_149_code 8 = .ok (.aload_n 0, 1) := by decide +kernel
theorem d_jdk_42_method_149_code_9 : decode jdk_42_method_149_code 9 = .ok (.ldc 7, 2) := by decide +kernel
theorem d_jdk_42_method_149_code_11 : decode jdk_42_method_149_code 11 = .ok (.getfield 9, 3) := by decide +kernel
theorem d_jdk_42_method_149_code_14 : decode jdk_42_method_149_code 14 = .ok (.putfield 9, 3) := by decide +kernel
theorem d_jdk_42_method_149_code_17 : decode jdk_42_method_149_code 17 = .ok (.aload_n 0, 1) := by decide +kernel
theorem d_jdk_42_method_149_code_18 : decode jdk_42_method_149_code 18 = .ok (.ldc 7, 2) := by decide +kernel
theorem d_jdk_42_method_149_code_20 : decode jdk_42_method_149_code 20 = .ok (.getfield 15, 3) := by decide +kernel
theorem d_jdk_42_method_149_code_23 : decode jdk_42_method_149_code 23 = .ok (.putfield 15, 3) := by decide +kernel
theorem d_jdk_42_method_149_code_26 : decode jdk_42_method_149_code 26 = .ok (.return_, 1) := by decide +kernel
theorem d_method_2_code_0 : decode method_2_code 0 = .ok (.iload_n 0, 1) := by decide +kernel
theorem d_method_2_code_1 : decode method_2_code 1 = .ok (.ifCond .ne 14, 3) := by decide +kernel
theorem laid_java_lang_String {Γ : Gx} (hw : Words Γ) : ∀ f ∈ ([("java/lang/String", "value", "[B", .null), ("java/lang/String", "coder", "B", (.int 0))] : List Fd), Laid Γ.Z Γ.a0 "java/lang/String" f.1 f.2.1 f.2.2.1 ∧ ∃ ty, parseFieldDescriptor f.2.2.1 = some ty ∧ f.2.2.2 = defaultValue ty := (llS (Or.inr (hw _ (mem 20 rfl))) (ty := (.array .byte)) (by decide) rfl (llS (Or.inr (hw _ (mem 21 rfl))) (ty := .byte) (by decide) rfl ll0))
theorem d_method_2_code_4 : decode method_2_code 4 = .ok (.new 7, 3) := by decide +kernel
theorem d_method_2_code_7 : decode method_2_code 7 = .ok (.dup, 1) := by decide +kernel
theorem d_method_2_code_8 : decode method_2_code 8 = .ok (.iconst 0, 1) := by decide +kernel
theorem d_method_2_code_9 : decode method_2_code 9 = .ok (.newarray .char, 2) := by decide +kernel
theorem d_method_2_code_11 : decode method_2_code 11 = .ok (.invokespecial 9, 3) := by decide +kernel
theorem pd_oaCcV : parseMethodDescriptor "([C)V" = some ⟨[(.array .char)], none⟩ := by decide +kernel
theorem d_method_2_code_14 : decode method_2_code 14 = .ok (.areturn, 1) := by decide +kernel
theorem d_method_2_code_15 : decode method_2_code 15 = .ok (.iload_n 0, 1) := by decide +kernel
theorem d_method_2_code_16 : decode method_2_code 16 = .ok (.iconst 1, 1) := by decide +kernel
theorem d_method_2_code_17 : decode method_2_code 17 = .ok (.if_icmp .ne 18, 3) := by decide +kernel
theorem d_method_2_code_20 : decode method_2_code 20 = .ok (.new 7, 3) := by decide +kernel
theorem d_method_2_code_23 : decode method_2_code 23 = .ok (.dup, 1) := by decide +kernel
theorem d_method_2_code_24 : decode method_2_code 24 = .ok (.iconst 1, 1) := by decide +kernel
theorem d_method_2_code_25 : decode method_2_code 25 = .ok (.newarray .char, 2) := by decide +kernel
theorem d_method_2_code_27 : decode method_2_code 27 = .ok (.dup, 1) := by decide +kernel
theorem d_method_2_code_28 : decode method_2_code 28 = .ok (.iconst 0, 1) := by decide +kernel
theorem d_method_2_code_29 : decode method_2_code 29 = .ok (.iload_n 1, 1) := by decide +kernel
theorem d_method_2_code_30 : decode method_2_code 30 = .ok (.castore, 1) := by decide +kernel
theorem d_method_2_code_31 : decode method_2_code 31 = .ok (.invokespecial 9, 3) := by decide +kernel
theorem d_method_2_code_34 : decode method_2_code 34 = .ok (.areturn, 1) := by decide +kernel
theorem d_method_2_code_35 : decode method_2_code 35 = .ok (.iload_n 0, 1) := by decide +kernel
theorem d_method_2_code_36 : decode method_2_code 36 = .ok (.iconst 2, 1) := by decide +kernel
theorem d_method_2_code_37 : decode method_2_code 37 = .ok (.if_icmp .ne 22, 3) := by decide +kernel
theorem d_method_2_code_40 : decode method_2_code 40 = .ok (.new 7, 3) := by decide +kernel
theorem d_method_2_code_43 : decode method_2_code 43 = .ok (.dup, 1) := by decide +kernel
theorem d_method_2_code_44 : decode method_2_code 44 = .ok (.iconst 2, 1) := by decide +kernel
theorem d_method_2_code_45 : decode method_2_code 45 = .ok (.newarray .char, 2) := by decide +kernel
theorem d_method_2_code_47 : decode method_2_code 47 = .ok (.dup, 1) := by decide +kernel
theorem d_method_2_code_48 : decode method_2_code 48 = .ok (.iconst 0, 1) := by decide +kernel
theorem d_method_2_code_49 : decode method_2_code 49 = .ok (.iload_n 1, 1) := by decide +kernel
theorem d_method_2_code_50 : decode method_2_code 50 = .ok (.castore, 1) := by decide +kernel
theorem d_method_2_code_51 : decode method_2_code 51 = .ok (.dup, 1) := by decide +kernel
theorem d_method_2_code_52 : decode method_2_code 52 = .ok (.iconst 1, 1) := by decide +kernel
theorem d_method_2_code_53 : decode method_2_code 53 = .ok (.iload_n 2, 1) := by decide +kernel
theorem d_method_2_code_54 : decode method_2_code 54 = .ok (.castore, 1) := by decide +kernel
theorem d_method_2_code_55 : decode method_2_code 55 = .ok (.invokespecial 9, 3) := by decide +kernel
theorem d_method_2_code_58 : decode method_2_code 58 = .ok (.areturn, 1) := by decide +kernel
theorem d_method_2_code_59 : decode method_2_code 59 = .ok (.iload_n 0, 1) := by decide +kernel
theorem d_method_2_code_60 : decode method_2_code 60 = .ok (.iconst 3, 1) := by decide +kernel
theorem d_method_2_code_61 : decode method_2_code 61 = .ok (.if_icmp .ne 26, 3) := by decide +kernel
theorem d_method_2_code_64 : decode method_2_code 64 = .ok (.new 7, 3) := by decide +kernel
theorem d_method_2_code_67 : decode method_2_code 67 = .ok (.dup, 1) := by decide +kernel
theorem d_method_2_code_68 : decode method_2_code 68 = .ok (.iconst 3, 1) := by decide +kernel
theorem d_method_2_code_69 : decode method_2_code 69 = .ok (.newarray .char, 2) := by decide +kernel
theorem d_method_2_code_71 : decode method_2_code 71 = .ok (.dup, 1) := by decide +kernel
theorem d_method_2_code_72 : decode method_2_code 72 = .ok (.iconst 0, 1) := by decide +kernel
theorem d_method_2_code_73 : decode method_2_code 73 = .ok (.iload_n 1, 1) := by decide +kernel
theorem d_method_2_code_74 : decode method_2_code 74 = .ok (.castore, 1) := by decide +kernel
theorem d_method_2_code_75 : decode method_2_code 75 = .ok (.dup, 1) := by decide +kernel
theorem d_method_2_code_76 : decode method_2_code 76 = .ok (.iconst 1, 1) := by decide +kernel
theorem d_method_2_code_77 : decode method_2_code 77 = .ok (.iload_n 2, 1) := by decide +kernel
theorem d_method_2_code_78 : decode method_2_code 78 = .ok (.castore, 1) := by decide +kernel
theorem d_method_2_code_79 : decode method_2_code 79 = .ok (.dup, 1) := by decide +kernel
theorem d_method_2_code_80 : decode method_2_code 80 = .ok (.iconst 2, 1) := by decide +kernel
theorem d_method_2_code_81 : decode method_2_code 81 = .ok (.iload_n 3, 1) := by decide +kernel
theorem d_method_2_code_82 : decode method_2_code 82 = .ok (.castore, 1) := by decide +kernel
theorem d_method_2_code_83 : decode method_2_code 83 = .ok (.invokespecial 9, 3) := by decide +kernel
theorem d_method_2_code_86 : decode method_2_code 86 = .ok (.areturn, 1) := by decide +kernel
theorem d_method_2_code_87 : decode method_2_code 87 = .ok (.new 7, 3) := by decide +kernel
theorem d_method_2_code_90 : decode method_2_code 90 = .ok (.dup, 1) := by decide +kernel
theorem d_method_2_code_91 : decode method_2_code 91 = .ok (.iconst 4, 1) := by decide +kernel
theorem d_method_2_code_92 : decode method_2_code 92 = .ok (.newarray .char, 2) := by decide +kernel
theorem d_method_2_code_94 : decode method_2_code 94 = .ok (.dup, 1) := by decide +kernel
theorem d_method_2_code_95 : decode method_2_code 95 = .ok (.iconst 0, 1) := by decide +kernel
theorem d_method_2_code_96 : decode method_2_code 96 = .ok (.iload_n 1, 1) := by decide +kernel
theorem d_method_2_code_97 : decode method_2_code 97 = .ok (.castore, 1) := by decide +kernel
theorem d_method_2_code_98 : decode method_2_code 98 = .ok (.dup, 1) := by decide +kernel
theorem d_method_2_code_99 : decode method_2_code 99 = .ok (.iconst 1, 1) := by decide +kernel
theorem d_method_2_code_100 : decode method_2_code 100 = .ok (.iload_n 2, 1) := by decide +kernel
theorem d_method_2_code_101 : decode method_2_code 101 = .ok (.castore, 1) := by decide +kernel
theorem d_method_2_code_102 : decode method_2_code 102 = .ok (.dup, 1) := by decide +kernel
theorem d_method_2_code_103 : decode method_2_code 103 = .ok (.iconst 2, 1) := by decide +kernel
theorem d_method_2_code_104 : decode method_2_code 104 = .ok (.iload_n 3, 1) := by decide +kernel
theorem d_method_2_code_105 : decode method_2_code 105 = .ok (.castore, 1) := by decide +kernel
theorem d_method_2_code_106 : decode method_2_code 106 = .ok (.dup, 1) := by decide +kernel
theorem d_method_2_code_107 : decode method_2_code 107 = .ok (.iconst 3, 1) := by decide +kernel
theorem d_method_2_code_108 : decode method_2_code 108 = .ok (.iload 4, 2) := by decide +kernel
theorem d_method_2_code_110 : decode method_2_code 110 = .ok (.castore, 1) := by decide +kernel
theorem d_method_2_code_111 : decode method_2_code 111 = .ok (.invokespecial 9, 3) := by decide +kernel
theorem d_method_2_code_114 : decode method_2_code 114 = .ok (.areturn, 1) := by decide +kernel
theorem pn_com_example_couverture_couverture_io_FormatNamedPinLaw : plainName "com/example/couverture/couverture/io/FormatNamedPinLaw" = true := by first | (simp [plainName, overriddenIn]; done) | decide +kernel
theorem d_prog_27_method_1_code_0 : decode prog_27_method_1_code 0 = .ok (.getstatic 10, 3) := by decide +kernel
theorem d_prog_27_method_1_code_3 : decode prog_27_method_1_code 3 = .ok (.invokevirtual 14, 3) := by decide +kernel
theorem d_prog_27_method_1_code_6 : decode prog_27_method_1_code 6 = .ok (.checkcast 15, 3) := by decide +kernel
theorem d_prog_27_method_1_code_9 : decode prog_27_method_1_code 9 = .ok (.areturn, 1) := by decide +kernel
theorem pn_com_example_couverture_couverture_io_MarginReport_Format : plainName "com/example/couverture/couverture/io/MarginReport$Format" = true := by first | (simp [plainName, overriddenIn]; done) | decide +kernel
theorem d_jdk_31_method_10_code_0 : decode jdk_31_method_10_code 0 = .ok (.aload_n 0, 1) := by decide +kernel
theorem d_jdk_31_method_10_code_1 : decode jdk_31_method_10_code 1 = .ok (.ifnonnull 11, 3) := by decide +kernel
theorem d_jdk_31_method_10_code_12 : decode jdk_31_method_10_code 12 = .ok (.aload_n 0, 1) := by decide +kernel
theorem d_jdk_31_method_10_code_13 : decode jdk_31_method_10_code 13 = .ok (.areturn, 1) := by decide +kernel
theorem pn_java_util_Objects : plainName "java/util/Objects" = true := by first | (simp [plainName, overriddenIn]; done) | decide +kernel
theorem d_jdk_32_method_2_code_0 : decode jdk_32_method_2_code 0 = .ok (.aload_n 0, 1) := by decide +kernel
theorem d_jdk_32_method_2_code_1 : decode jdk_32_method_2_code 1 = .ok (.invokespecial 7, 3) := by decide +kernel
theorem d_jdk_32_method_2_code_4 : decode jdk_32_method_2_code 4 = .ok (.aload_n 0, 1) := by decide +kernel
theorem d_jdk_32_method_2_code_5 : decode jdk_32_method_2_code 5 = .ok (.aload_n 1, 1) := by decide +kernel
theorem d_jdk_32_method_2_code_6 : decode jdk_32_method_2_code 6 = .ok (.putfield 13, 3) := by decide +kernel
theorem d_jdk_32_method_2_code_9 : decode jdk_32_method_2_code 9 = .ok (.return_, 1) := by decide +kernel
theorem pn_java_util_Optional : plainName "java/util/Optional" = true := by first | (simp [plainName, overriddenIn]; done) | decide +kernel
theorem laid_java_util_Optional {Γ : Gx} (hw : Words Γ) : ∀ f ∈ ([("java/util/Optional", "value", "Ljava/lang/Object;", .null)] : List Fd), Laid Γ.Z Γ.a0 "java/util/Optional" f.1 f.2.1 f.2.2.1 ∧ ∃ ty, parseFieldDescriptor f.2.2.1 = some ty ∧ f.2.2.2 = defaultValue ty := (llS (Or.inr (hw _ (mem 71 rfl))) (ty := (.object "java/lang/Object")) (by decide) rfl ll0)
theorem d_jdk_32_method_3_code_0 : decode jdk_32_method_3_code 0 = .ok (.new 2, 3) := by decide +kernel
theorem d_jdk_32_method_3_code_3 : decode jdk_32_method_3_code 3 = .ok (.dup, 1) := by decide +kernel
theorem d_jdk_32_method_3_code_4 : decode jdk_32_method_3_code 4 = .ok (.aload_n 0, 1) := by decide +kernel
theorem d_jdk_32_method_3_code_5 : decode jdk_32_method_3_code 5 = .ok (.invokestatic 17, 3) := by decide +kernel
theorem pd_oLjava_lang_Object_cLjava_lang_Object_ : parseMethodDescriptor "(Ljava/lang/Object;)Ljava/lang/Object;" = some ⟨[(.object "java/lang/Object")], some (.object "java/lang/Object")⟩ := by decide +kernel
theorem d_jdk_32_method_3_code_8 : decode jdk_32_method_3_code 8 = .ok (.invokespecial 23, 3) := by decide +kernel
theorem pd_oLjava_lang_Object_cV : parseMethodDescriptor "(Ljava/lang/Object;)V" = some ⟨[(.object "java/lang/Object")], none⟩ := by decide +kernel
theorem d_jdk_32_method_3_code_11 : decode jdk_32_method_3_code 11 = .ok (.areturn, 1) := by decide +kernel
theorem d_jdk_32_method_1_code_0 : decode jdk_32_method_1_code 0 = .ok (.getstatic 1, 3) := by decide +kernel
theorem d_jdk_32_method_1_code_3 : decode jdk_32_method_1_code 3 = .ok (.astore_n 0, 1) := by decide +kernel
theorem d_jdk_32_method_1_code_4 : decode jdk_32_method_1_code 4 = .ok (.aload_n 0, 1) := by decide +kernel
theorem d_jdk_32_method_1_code_5 : decode jdk_32_method_1_code 5 = .ok (.areturn, 1) := by decide +kernel
theorem d_jdk_32_method_15_code_0 : decode jdk_32_method_15_code 0 = .ok (.aload_n 0, 1) := by decide +kernel
theorem d_jdk_32_method_15_code_1 : decode jdk_32_method_15_code 1 = .ok (.getfield 13, 3) := by decide +kernel
theorem d_jdk_32_method_15_code_4 : decode jdk_32_method_15_code 4 = .ok (.ifnull 10, 3) := by decide +kernel
theorem d_jdk_32_method_15_code_7 : decode jdk_32_method_15_code 7 = .ok (.aload_n 0, 1) := by decide +kernel
theorem d_jdk_32_method_15_code_8 : decode jdk_32_method_15_code 8 = .ok (.getfield 13, 3) := by decide +kernel
theorem d_jdk_32_method_15_code_11 : decode jdk_32_method_15_code 11 = .ok (.goto 4, 3) := by decide +kernel
theorem d_jdk_32_method_15_code_15 : decode jdk_32_method_15_code 15 = .ok (.areturn, 1) := by decide +kernel
theorem d_jdk_32_method_15_code_14 : decode jdk_32_method_15_code 14 = .ok (.aload_n 1, 1) := by decide +kernel
theorem d_prog_27_method_4_code_0 : decode prog_27_method_4_code 0 = .ok (.aload_n 0, 1) := by decide +kernel
theorem d_prog_27_method_4_code_1 : decode prog_27_method_4_code 1 = .ok (.getfield 29, 3) := by decide +kernel
theorem d_prog_27_method_4_code_4 : decode prog_27_method_4_code 4 = .ok (.areturn, 1) := by decide +kernel
theorem d_prog_27_method_5_code_0 : decode prog_27_method_5_code 0 = .ok (.invokestatic 33, 3) := by decide +kernel
theorem pd_ocaLcom_example_couverture_couverture_io_MarginReportdFormat_ : parseMethodDescriptor "()[Lcom/example/couverture/couverture/io/MarginReport$Format;" = some ⟨[], some (.array (.object "com/example/couverture/couverture/io/MarginReport$Format"))⟩ := by decide +kernel
theorem d_prog_27_method_5_code_3 : decode prog_27_method_5_code 3 = .ok (.astore_n 1, 1) := by decide +kernel
theorem d_prog_27_method_5_code_4 : decode prog_27_method_5_code 4 = .ok (.aload_n 1, 1) := by decide +kernel
theorem d_prog_27_method_5_code_5 : decode prog_27_method_5_code 5 = .ok (.arraylength, 1) := by decide +kernel
theorem d_prog_27_method_5_code_6 : decode prog_27_method_5_code 6 = .ok (.istore_n 2, 1) := by decide +kernel
theorem d_prog_27_method_5_code_7 : decode prog_27_method_5_code 7 = .ok (.iconst 0, 1) := by decide +kernel
theorem d_prog_27_method_5_code_8 : decode prog_27_method_5_code 8 = .ok (.istore_n 3, 1) := by decide +kernel
theorem d_prog_27_method_5_code_9 : decode prog_27_method_5_code 9 = .ok (.iload_n 3, 1) := by decide +kernel
theorem d_prog_27_method_5_code_10 : decode prog_27_method_5_code 10 = .ok (.iload_n 2, 1) := by decide +kernel
theorem d_prog_27_method_5_code_11 : decode prog_27_method_5_code 11 = .ok (.if_icmp .ge 32, 3) := by decide +kernel
theorem d_prog_27_method_5_code_14 : decode prog_27_method_5_code 14 = .ok (.aload_n 1, 1) := by decide +kernel
theorem d_prog_27_method_5_code_15 : decode prog_27_method_5_code 15 = .ok (.iload_n 3, 1) := by decide +kernel
theorem d_prog_27_method_5_code_16 : decode prog_27_method_5_code 16 = .ok (.aaload, 1) := by decide +kernel
theorem d_prog_27_method_5_code_17 : decode prog_27_method_5_code 17 = .ok (.astore 4, 2) := by decide +kernel
theorem d_prog_27_method_5_code_19 : decode prog_27_method_5_code 19 = .ok (.aload 4, 2) := by decide +kernel
theorem d_prog_27_method_5_code_21 : decode prog_27_method_5_code 21 = .ok (.getfield 29, 3) := by decide +kernel
theorem d_prog_27_method_5_code_24 : decode prog_27_method_5_code 24 = .ok (.aload_n 0, 1) := by decide +kernel
theorem d_prog_27_method_5_code_25 : decode prog_27_method_5_code 25 = .ok (.invokevirtual 37, 3) := by decide +kernel
theorem pd_oLjava_lang_Object_cZ : parseMethodDescriptor "(Ljava/lang/Object;)Z" = some ⟨[(.object "java/lang/Object")], some .boolean⟩ := by decide +kernel
theorem d_prog_27_method_5_code_28 : decode prog_27_method_5_code 28 = .ok (.ifCond .eq 9, 3) := by decide +kernel
theorem d_prog_27_method_5_code_37 : decode prog_27_method_5_code 37 = .ok (.iinc 3 1, 3) := by decide +kernel
theorem d_prog_27_method_5_code_40 : decode prog_27_method_5_code 40 = .ok (.goto (-31), 3) := by decide +kernel
theorem d_prog_27_method_5_code_43 : decode prog_27_method_5_code 43 = .ok (.invokestatic 49, 3) := by decide +kernel
theorem pd_ocLjava_util_Optional_ : parseMethodDescriptor "()Ljava/util/Optional;" = some ⟨[], some (.object "java/util/Optional")⟩ := by decide +kernel
theorem d_prog_27_method_5_code_46 : decode prog_27_method_5_code 46 = .ok (.areturn, 1) := by decide +kernel
theorem d_prog_27_method_5_code_31 : decode prog_27_method_5_code 31 = .ok (.aload 4, 2) := by decide +kernel
theorem d_prog_27_method_5_code_33 : decode prog_27_method_5_code 33 = .ok (.invokestatic 43, 3) := by decide +kernel
theorem pd_oLjava_lang_Object_cLjava_util_Optional_ : parseMethodDescriptor "(Ljava/lang/Object;)Ljava/util/Optional;" = some ⟨[(.object "java/lang/Object")], some (.object "java/util/Optional")⟩ := by decide +kernel
theorem d_prog_27_method_5_code_36 : decode prog_27_method_5_code 36 = .ok (.areturn, 1) := by decide +kernel
theorem pd_oLjava_lang_String_cLjava_util_Optional_ : parseMethodDescriptor "(Ljava/lang/String;)Ljava/util/Optional;" = some ⟨[(.object "java/lang/String")], some (.object "java/util/Optional")⟩ := by decide +kernel
theorem pd_ocLjava_lang_String_ : parseMethodDescriptor "()Ljava/lang/String;" = some ⟨[], some (.object "java/lang/String")⟩ := by decide +kernel
theorem pd_oICCCCcLjava_lang_String_ : parseMethodDescriptor "(ICCCC)Ljava/lang/String;" = some ⟨[.int, .char, .char, .char, .char], some (.object "java/lang/String")⟩ := by decide +kernel
abbrev oq_leq (Γ : Gx) (t1 t2 : Addr) (c1 c2 : Bool) (ad1 ad2 : String) (bs1 bs2 : List Int32) : OL := [(t1, c1, Ary Γ ad1 .byte (bs1.map Value.int)), (t2, c2, Ary Γ ad2 .byte (bs2.map Value.int))]
abbrev mx_leq (Γ : Gx) (t1 t2 : Addr) (c1 c2 : Bool) (ad1 ad2 : String) (bs1 bs2 : List Int32) (F : OL) : Mx := ((⟨"java/lang/StringLatin1", "equals", "([B[B)Z"⟩ : MethodName), jdk_43_method_13_code, 3, (some .boolean), ({ frames := 0, cells := 0, slots := 0, locals := 0 } : Room), (fun v O' => v = some (.int (if bs1 = bs2 then 1 else 0)) ∧ O' = [(t1, c1, Ary Γ ad1 .byte (bs1.map Value.int)), (t2, c2, Ary Γ ad2 .byte (bs2.map Value.int))]), F)
set_option maxRecDepth 65536 in
set_option maxHeartbeats 4000000 in
theorem L_leq {Γ : Gx} (hw : Words Γ) (t1 t2 : Addr) (c1 c2 : Bool) (ad1 ad2 : String) (bs1 bs2 : List Int32) (F : OL) (hl1 : bs1.length < 2 ^ 31) (hl : bs1.length = bs2.length) :
    ∀ (r j : Nat), j + r = bs1.length → (∀ i, i < j → bs1[i]? = bs2[i]?) → Run Γ (mx_leq Γ t1 t2 c1 c2 ad1 ad2 bs1 bs2 F) 0 0 (oq_leq Γ t1 t2 c1 c2 ad1 ad2 bs1 bs2) 9 [.val (.ref t1), .val (.ref t2), .val (.int j.toInt32)] [] := by
  intro r
  induction r with
  | zero =>
    intro j hj he
    refine R_iloadN d_jdk_43_method_13_code_9 rfl ?_
    refine R_aloadN d_jdk_43_method_13_code_10 rfl rfl ?_
    refine R_arraylength d_jdk_43_method_13_code_11 (mem 0 rfl) bs1.length.toInt32 (by rw [List.length_map]) ?_
    refine R_icmp_ge (pc' := 32) d_jdk_43_method_13_code_12 (by decide) (by decide) (fun h1 => ?_) (fun h1 => ?_)
    · refine R_iconst (1) d_jdk_43_method_13_code_32 (by decide) ?_
      exact R_ireturnN d_jdk_43_method_13_code_33 rfl (by simp) ⟨by rw [if_pos (List.ext_getElem? fun i => by by_cases q : i < j; exact he i q; rw [List.getElem?_eq_none (by omega), List.getElem?_eq_none (by omega)])]; rfl, rfl⟩ (Nat.le_of_ble_eq_true rfl) (Nat.le_of_ble_eq_true rfl)
    · exact absurd ((i32_lt_iff (by omega) (by omega)).mp h1) (by omega)
  | succ r ih =>
    intro j hj he
    refine R_iloadN d_jdk_43_method_13_code_9 rfl ?_
    refine R_aloadN d_jdk_43_method_13_code_10 rfl rfl ?_
    refine R_arraylength d_jdk_43_method_13_code_11 (mem 0 rfl) bs1.length.toInt32 (by rw [List.length_map]) ?_
    refine R_icmp_ge (pc' := 32) d_jdk_43_method_13_code_12 (by decide) (by decide) (fun h1 => ?_) (fun h1 => ?_)
    · exact absurd ((i32_lt_iff (by omega) (by omega)).mpr (by omega)) h1
    · refine R_aloadN d_jdk_43_method_13_code_15 rfl rfl ?_
      refine R_iloadN d_jdk_43_method_13_code_16 rfl ?_
      refine R_baload d_jdk_43_method_13_code_17 (mem 0 rfl) (i32_nn (by omega)) j (i32_cl (by omega)) (v := .int (bs1[j]'(by omega))) (by simp) ?_
      refine R_aloadN d_jdk_43_method_13_code_18 rfl rfl ?_
      refine R_iloadN d_jdk_43_method_13_code_19 rfl ?_
      refine R_baload d_jdk_43_method_13_code_20 (mem 1 rfl) (i32_nn (by omega)) j (i32_cl (by omega)) (v := .int (bs2[j]'(by omega))) (by simp) ?_
      refine R_icmp_eq (pc' := 26) d_jdk_43_method_13_code_21 (by decide) (by decide) (fun h2 => ?_) (fun h2 => ?_)
      · refine R_iinc (1) d_jdk_43_method_13_code_26 (by decide) rfl ?_
        try dsimp only [List.set_cons_zero, List.set_cons_succ, List.eraseIdx_cons_zero, List.eraseIdx_cons_succ, List.cons_append, List.nil_append, Option.toList]
        refine R_goto (pc' := 9) d_jdk_43_method_13_code_29 (by decide) (by decide) ?_
        rw [i32_succ]
        exact ih (j + 1) (by omega) fun i hi => by
          rcases Nat.lt_or_ge i j with q | q
          · exact he i q
          · have e : i = j := by omega
            subst e
            rw [List.getElem?_eq_getElem (by omega), List.getElem?_eq_getElem (by omega), h2]
      · refine R_iconst (0) d_jdk_43_method_13_code_24 (by decide) ?_
        exact R_ireturnN d_jdk_43_method_13_code_25 rfl (by simp) ⟨by rw [if_neg (fun e => h2 (by simp only [e]))]; rfl, rfl⟩ (Nat.le_of_ble_eq_true rfl) (Nat.le_of_ble_eq_true rfl)

set_option maxRecDepth 65536 in
set_option maxHeartbeats 4000000 in
theorem M_leq {Γ : Gx} (hw : Words Γ) (t1 t2 : Addr) (c1 c2 : Bool) (ad1 ad2 : String) (bs1 bs2 : List Int32) :
    Met Γ (⟨"java/lang/StringLatin1", "equals", "([B[B)Z"⟩ : MethodName) jdk_43_method_13_code 3 (some .boolean) ({ frames := 0, cells := 0, slots := 0, locals := 0 } : Room) #[(.ref t1), (.ref t2)] [(t1, c1, Ary Γ ad1 .byte (bs1.map Value.int)), (t2, c2, Ary Γ ad2 .byte (bs2.map Value.int))] (fun v O' => v = some (.int (if bs1 = bs2 then 1 else 0)) ∧ O' = [(t1, c1, Ary Γ ad1 .byte (bs1.map Value.int)), (t2, c2, Ary Γ ad2 .byte (bs2.map Value.int))]) := by
  refine Met.intro pn_java_lang_StringLatin1 (Ls := [.val (.ref t1), .val (.ref t2), .unset]) (fun m => by first | rfl | (simp [entryFrame, mkF, argsToLocals, Value.category]; done)) ?_
  intro F
  refine R_alen (mem 0 rfl) fun hl1 => ?_
  refine R_alen (mem 1 rfl) fun hl2 => ?_
  rw [List.length_map] at hl1 hl2
  refine R_aloadN d_jdk_43_method_13_code_0 rfl rfl ?_
  refine R_arraylength d_jdk_43_method_13_code_1 (mem 0 rfl) bs1.length.toInt32 (by rw [List.length_map]) ?_
  refine R_aloadN d_jdk_43_method_13_code_2 rfl rfl ?_
  refine R_arraylength d_jdk_43_method_13_code_3 (mem 1 rfl) bs2.length.toInt32 (by rw [List.length_map]) ?_
  refine R_icmp_ne (pc' := 34) d_jdk_43_method_13_code_4 (by decide) (by decide) (fun h => ?_) (fun h => ?_)
  · refine R_iconst (0) d_jdk_43_method_13_code_34 (by decide) ?_
    exact R_ireturnN d_jdk_43_method_13_code_35 rfl (by simp) ⟨by rw [if_neg (fun e => h (by rw [e]))]; rfl, rfl⟩ (Nat.le_of_ble_eq_true rfl) (Nat.le_of_ble_eq_true rfl)
  · refine R_iconst (0) d_jdk_43_method_13_code_7 (by decide) ?_
    refine R_istoreN d_jdk_43_method_13_code_8 rfl (by first | exact Or.inl rfl | exact Or.inr ⟨_, rfl, rfl⟩) ?_
    try dsimp only [List.set_cons_zero, List.set_cons_succ, List.eraseIdx_cons_zero, List.eraseIdx_cons_succ, List.cons_append, List.nil_append, Option.toList]
    exact L_leq hw t1 t2 c1 c2 ad1 ad2 bs1 bs2 F hl1 ((i32_eq_iff hl1 hl2).mp h) bs1.length 0 (by omega) (fun i hi => absurd hi (Nat.not_lt_zero _))

set_option maxRecDepth 65536 in
set_option maxHeartbeats 4000000 in
theorem M_eq {Γ : Gx} (hw : Words Γ) (hcs : CS Γ) (s1 s2 t1 t2 : Addr) (b1 b2 c1 c2 : Bool) (m1 m2 : List Fd) (ad1 ad2 : String) (bs1 bs2 : List Int32) :
    Met Γ (⟨"java/lang/String", "equals", "(Ljava/lang/Object;)Z"⟩ : MethodName) jdk_42_method_66_code 3 (some .boolean) ({ frames := 1, cells := 0, slots := 0, locals := 14 } : Room) #[(.ref s1), (.ref s2)] [(s1, b1, StrO Γ t1 m1), (t1, c1, Ary Γ ad1 .byte (bs1.map Value.int)), (s2, b2, StrO Γ t2 m2), (t2, c2, Ary Γ ad2 .byte (bs2.map Value.int))] (fun v O' => v = some (.int (if bs1 = bs2 then 1 else 0)) ∧ O' = [(s1, b1, StrO Γ t1 m1), (t1, c1, Ary Γ ad1 .byte (bs1.map Value.int)), (s2, b2, StrO Γ t2 m2), (t2, c2, Ary Γ ad2 .byte (bs2.map Value.int))]) := by
  refine Met.intro pn_java_lang_String (Ls := [.val (.ref s1), .val (.ref s2), .unset]) (fun m => by first | rfl | (simp [entryFrame, mkF, argsToLocals, Value.category]; done)) ?_
  intro F
  obtain ⟨G1, hS, hG1⟩ := hcs
  refine R_aloadN d_jdk_42_method_66_code_0 rfl rfl ?_
  refine R_aloadN d_jdk_42_method_66_code_1 rfl rfl ?_
  refine R_acmp_ne (pc' := 7) d_jdk_42_method_66_code_2 rfl rfl (by decide) (by decide) (fun h => ?_) (fun h => ?_)
  · refine R_aloadN d_jdk_42_method_66_code_7 rfl rfl ?_
    refine R_instSelf d_jdk_42_method_66_code_8 (hw _ (mem 54 rfl)) (mem 2 rfl) ?_
    refine R_if_eq (pc' := 54) d_jdk_42_method_66_code_11 (by decide) (by decide) (fun h1 => ?_) (fun h1 => ?_)
    · exact absurd h1 (by decide)
    · refine R_aloadN d_jdk_42_method_66_code_14 rfl rfl ?_
      refine R_checkcastSelf d_jdk_42_method_66_code_15 (hw _ (mem 54 rfl)) (mem 2 rfl) ?_
      refine R_astoreN d_jdk_42_method_66_code_18 rfl rfl (by first | exact Or.inl rfl | exact Or.inr ⟨_, rfl, rfl⟩) ?_
      try dsimp only [List.set_cons_zero, List.set_cons_succ, List.eraseIdx_cons_zero, List.eraseIdx_cons_succ, List.cons_append, List.nil_append, Option.toList]
      refine R_getstatic d_jdk_42_method_66_code_19 (hw _ (mem 55 rfl)) Via.refl hS ?_
      refine R_if_eq (pc' := 36) d_jdk_42_method_66_code_22 (by decide) (by decide) (fun h2 => ?_) (fun h2 => ?_)
      · exact absurd h2 hG1
      · refine R_aloadN d_jdk_42_method_66_code_25 rfl rfl ?_
        refine R_getfield d_jdk_42_method_66_code_26 (hw _ (mem 25 rfl)) Via.refl (mem 0 rfl) (mem 1 rfl) ?_
        refine R_aloadN d_jdk_42_method_66_code_29 rfl rfl ?_
        refine R_getfield d_jdk_42_method_66_code_30 (hw _ (mem 25 rfl)) Via.refl (mem 2 rfl) (mem 1 rfl) ?_
        refine R_icmp_ne (pc' := 54) d_jdk_42_method_66_code_33 (by decide) (by decide) (fun h3 => ?_) (fun h3 => ?_)
        · exact absurd rfl h3
        · refine R_aloadN d_jdk_42_method_66_code_36 rfl rfl ?_
          refine R_getfield d_jdk_42_method_66_code_37 (hw _ (mem 24 rfl)) Via.refl (mem 0 rfl) (mem 0 rfl) ?_
          refine R_aloadN d_jdk_42_method_66_code_40 rfl rfl ?_
          refine R_getfield d_jdk_42_method_66_code_41 (hw _ (mem 24 rfl)) Via.refl (mem 2 rfl) (mem 0 rfl) ?_
          refine R_call (S_static (as := [_, _]) (rest := _) d_jdk_42_method_66_code_44 (hw _ (mem 56 rfl)) (hw _ (mem 57 rfl)) (hw _ (mem 58 rfl)) (hw _ (mem 59 rfl)) (by decide) pd_oaBaBcZ rfl rfl rfl) (M_leq hw t1 t2 c1 c2 ad1 ad2 bs1 bs2) (pkS 1 rfl (pkS 2 rfl pk0)) (hw _ (mem 59 rfl)) (hw _ (mem 58 rfl)) (Nat.le_of_ble_eq_true rfl) (Nat.le_of_ble_eq_true rfl) (Nat.le_of_ble_eq_true rfl) (Nat.le_of_ble_eq_true rfl) ?_
          rintro _ _ ⟨rfl, rfl⟩
          try dsimp only [List.set_cons_zero, List.set_cons_succ, List.eraseIdx_cons_zero, List.eraseIdx_cons_succ, List.cons_append, List.nil_append, Option.toList]
          refine R_order (pkS 2 rfl (pkS 0 rfl (pkS 1 rfl (pkS 0 rfl pk0)))) ?_
          try dsimp only [List.set_cons_zero, List.set_cons_succ, List.eraseIdx_cons_zero, List.eraseIdx_cons_succ, List.cons_append, List.nil_append, Option.toList]
          refine R_if_eq (pc' := 54) d_jdk_42_method_66_code_47 (by decide) (by decide) (fun h4 => ?_) (fun h4 => ?_)
          · refine R_iconst (0) d_jdk_42_method_66_code_54 (by decide) ?_
            exact R_ireturnN d_jdk_42_method_66_code_55 rfl (by simp) ⟨by by_cases q : bs1 = bs2 <;> simp [q] at h4 ⊢; rfl, rfl⟩ (Nat.le_of_ble_eq_true rfl) (Nat.le_of_ble_eq_true rfl)
          · refine R_iconst (1) d_jdk_42_method_66_code_50 (by decide) ?_
            refine R_goto (pc' := 55) d_jdk_42_method_66_code_51 (by decide) (by decide) ?_
            exact R_ireturnN d_jdk_42_method_66_code_55 rfl (by simp) ⟨by by_cases q : bs1 = bs2 <;> simp [q] at h4 ⊢; rfl, rfl⟩ (Nat.le_of_ble_eq_true rfl) (Nat.le_of_ble_eq_true rfl)
  · cases h
    refine R_fsame (mem 0 rfl) (mem 2 rfl) (mem 0 rfl) (mem 0 rfl) fun e => ?_
    cases e
    refine R_asame (mem 1 rfl) (mem 3 rfl) fun e => ?_
    refine R_iconst (1) d_jdk_42_method_66_code_5 (by decide) ?_
    exact R_ireturnN d_jdk_42_method_66_code_6 rfl (by simp) ⟨by rw [if_pos (map_int_inj e)]; rfl, rfl⟩ (Nat.le_of_ble_eq_true rfl) (Nat.le_of_ble_eq_true rfl)

set_option maxRecDepth 65536 in
set_option maxHeartbeats 4000000 in
theorem M_eqSelf {Γ : Gx} (hw : Words Γ) (s1 t1 : Addr) (b1 : Bool) (m1 : List Fd) :
    Met Γ (⟨"java/lang/String", "equals", "(Ljava/lang/Object;)Z"⟩ : MethodName) jdk_42_method_66_code 3 (some .boolean) ({ frames := 0, cells := 0, slots := 0, locals := 0 } : Room) #[(.ref s1), (.ref s1)] [(s1, b1, StrO Γ t1 m1)] (fun v O' => v = some (.int 1) ∧ O' = [(s1, b1, StrO Γ t1 m1)]) := by
  refine Met.intro pn_java_lang_String (Ls := [.val (.ref s1), .val (.ref s1), .unset]) (fun m => by first | rfl | (simp [entryFrame, mkF, argsToLocals, Value.category]; done)) ?_
  intro F
  refine R_aloadN d_jdk_42_method_66_code_0 rfl rfl ?_
  refine R_aloadN d_jdk_42_method_66_code_1 rfl rfl ?_
  refine R_acmp_ne (pc' := 7) d_jdk_42_method_66_code_2 rfl rfl (by decide) (by decide) (fun h => ?_) (fun h => ?_)
  · exact absurd rfl h
  · refine R_iconst (1) d_jdk_42_method_66_code_5 (by decide) ?_
    exact R_ireturnN d_jdk_42_method_66_code_6 rfl (by simp) ⟨rfl, rfl⟩ (Nat.le_of_ble_eq_true rfl) (Nat.le_of_ble_eq_true rfl)

abbrev dst8 (cs : List Int32) (j : Nat) : List Value := ((cs.take j).map b8).map Value.int ++ List.replicate (cs.length - j) (Value.int 0)
theorem dst8_set {cs : List Int32} {j : Nat} (h : j < cs.length) : (dst8 cs j).set j (.int (b8 cs[j])) = dst8 cs (j + 1) := by
  have e1 : cs.length - j = (cs.length - (j + 1)) + 1 := by omega
  have e2 : (((cs.take j).map b8).map Value.int).length = j := by simp; omega
  simp only [dst8]
  rw [e1, List.replicate_succ, List.set_append_right _ _ (by omega), e2, Nat.sub_self, List.set_cons_zero, List.take_succ_eq_append_getElem h]
  simp only [List.map_append, List.map_cons, List.map_nil, List.append_assoc, List.cons_append, List.nil_append]
theorem dst8_all (cs : List Int32) : dst8 cs cs.length = (cs.map b8).map Value.int := by simp [dst8]
theorem dst8_zero (cs : List Int32) : dst8 cs 0 = List.replicate cs.length (Value.int 0) := by simp [dst8]
theorem dst8_len (cs : List Int32) (j : Nat) (h : j ≤ cs.length) : (dst8 cs j).length = cs.length := by simp [dst8]; omega
abbrev mx_cm5 (Γ : Gx) (ca t : Addr) (cf : Bool) (ad ad2 : String) (cs : List Int32) (F : OL) : Mx := ((⟨"java/lang/StringUTF16", "compress", "([CI[BII)I"⟩ : MethodName), jdk_52_method_21_code, 7, (some .int), ({ frames := 0, cells := 0, slots := 0, locals := 0 } : Room), (fun v O' => v = some (.int cs.length.toInt32) ∧ O' = [(ca, cf, Ary Γ ad .char (cs.map Value.int)), (t, true, Ary Γ ad2 .byte ((cs.map b8).map Value.int))]), F)
set_option maxRecDepth 65536 in
set_option maxHeartbeats 4000000 in
theorem L_cm5 {Γ : Gx} (hw : Words Γ) (ca t : Addr) (cf : Bool) (ad ad2 : String) (cs : List Int32) (hp : ∀ c ∈ cs, ¬ c < 0 ∧ ¬ (255 : Int32) < c) (hl1 : cs.length < 2 ^ 31) (F : OL) :
    ∀ (r j : Nat), j + r = cs.length → ∀ o6 : Slot, One o6 → Run Γ (mx_cm5 Γ ca t cf ad ad2 cs F) 0 0 [(ca, cf, Ary Γ ad .char (cs.map Value.int)), (t, true, Ary Γ ad2 .byte (dst8 cs j))] 3 [.val (.ref ca), .val (.int j.toInt32), .val (.ref t), .val (.int j.toInt32), .val (.int cs.length.toInt32), .val (.int j.toInt32), o6] [] := by
  intro r
  induction r with
  | zero =>
    intro j hj o6 h6
    refine R_iload d_jdk_52_method_21_code_3 rfl ?_
    refine R_iload d_jdk_52_method_21_code_5 rfl ?_
    refine R_icmp_ge (pc' := 44) d_jdk_52_method_21_code_7 (by decide) (by decide) (fun h1 => ?_) (fun h1 => ?_)
    · refine R_iload d_jdk_52_method_21_code_44 rfl ?_
      obtain rfl : j = cs.length := by omega
      rw [dst8_all]
      exact R_ireturn d_jdk_52_method_21_code_46 rfl ⟨rfl, rfl⟩ (Nat.le_of_ble_eq_true rfl) (Nat.le_of_ble_eq_true rfl)
    · exact absurd ((i32_lt_iff (by omega) (by omega)).mp h1) (by omega)
  | succ r ih =>
    intro j hj o6 h6
    refine R_iload d_jdk_52_method_21_code_3 rfl ?_
    refine R_iload d_jdk_52_method_21_code_5 rfl ?_
    refine R_icmp_ge (pc' := 44) d_jdk_52_method_21_code_7 (by decide) (by decide) (fun h1 => ?_) (fun h1 => ?_)
    · exact absurd ((i32_lt_iff (by omega) (by omega)).mpr (by omega)) h1
    · refine R_aloadN d_jdk_52_method_21_code_10 rfl rfl ?_
      refine R_iloadN d_jdk_52_method_21_code_11 rfl ?_
      refine R_caload d_jdk_52_method_21_code_12 (mem 0 rfl) (i32_nn (by omega)) j (i32_cl (by omega)) (v := .int (cs[j]'(by omega))) (by simp) ?_
      refine R_istore d_jdk_52_method_21_code_13 rfl h6 ?_
      try dsimp only [List.set_cons_zero, List.set_cons_succ, List.eraseIdx_cons_zero, List.eraseIdx_cons_succ, List.cons_append, List.nil_append, Option.toList]
      refine R_iload d_jdk_52_method_21_code_15 rfl ?_
      refine R_sipush (255) d_jdk_52_method_21_code_17 (by decide) ?_
      refine R_icmp_le (pc' := 26) d_jdk_52_method_21_code_20 (by decide) (by decide) (fun h2 => ?_) (fun h2 => ?_)
      · refine R_aloadN d_jdk_52_method_21_code_26 rfl rfl ?_
        refine R_iloadN d_jdk_52_method_21_code_27 rfl ?_
        refine R_iload d_jdk_52_method_21_code_28 rfl ?_
        refine R_i2b d_jdk_52_method_21_code_30 ?_
        refine R_bastore 1 d_jdk_52_method_21_code_31 rfl (i32_nn (by omega)) j (i32_cl (by omega)) (by rw [dst8_len _ _ (by omega)]; omega) ?_
        try dsimp only [List.set_cons_zero, List.set_cons_succ, List.eraseIdx_cons_zero, List.eraseIdx_cons_succ, List.cons_append, List.nil_append, Option.toList]
        rw [Int8.toInt8_toInt32, dst8_set (by omega)]
        refine R_iinc (1) d_jdk_52_method_21_code_32 (by decide) rfl ?_
        try dsimp only [List.set_cons_zero, List.set_cons_succ, List.eraseIdx_cons_zero, List.eraseIdx_cons_succ, List.cons_append, List.nil_append, Option.toList]
        refine R_iinc (1) d_jdk_52_method_21_code_35 (by decide) rfl ?_
        try dsimp only [List.set_cons_zero, List.set_cons_succ, List.eraseIdx_cons_zero, List.eraseIdx_cons_succ, List.cons_append, List.nil_append, Option.toList]
        refine R_iinc (1) d_jdk_52_method_21_code_38 (by decide) rfl ?_
        try dsimp only [List.set_cons_zero, List.set_cons_succ, List.eraseIdx_cons_zero, List.eraseIdx_cons_succ, List.cons_append, List.nil_append, Option.toList]
        refine R_goto (pc' := 3) d_jdk_52_method_21_code_41 (by decide) (by decide) ?_
        rw [i32_succ]
        exact ih (j + 1) (by omega) _ (Or.inr ⟨_, rfl, rfl⟩)
      · exact absurd h2 (hp _ (List.getElem_mem (by omega))).2

set_option maxRecDepth 65536 in
set_option maxHeartbeats 4000000 in
theorem M_cm5 {Γ : Gx} (hw : Words Γ) (ca t : Addr) (cf : Bool) (ad ad2 : String) (cs : List Int32) (hp : ∀ c ∈ cs, ¬ c < 0 ∧ ¬ (255 : Int32) < c) :
    Met Γ (⟨"java/lang/StringUTF16", "compress", "([CI[BII)I"⟩ : MethodName) jdk_52_method_21_code 7 (some .int) ({ frames := 0, cells := 0, slots := 0, locals := 0 } : Room) #[(.ref ca), (.int 0), (.ref t), (.int 0), (.int cs.length.toInt32)] [(ca, cf, Ary Γ ad .char (cs.map Value.int)), (t, true, Ary Γ ad2 .byte (List.replicate cs.length (Value.int 0)))] (fun v O' => v = some (.int cs.length.toInt32) ∧ O' = [(ca, cf, Ary Γ ad .char (cs.map Value.int)), (t, true, Ary Γ ad2 .byte ((cs.map b8).map Value.int))]) := by
  refine Met.intro pn_java_lang_StringUTF16 (Ls := [.val (.ref ca), .val (.int 0), .val (.ref t), .val (.int 0), .val (.int cs.length.toInt32), .unset, .unset]) (fun m => by first | rfl | (simp [entryFrame, mkF, argsToLocals, Value.category]; done)) ?_
  intro F
  refine R_alen (mem 0 rfl) fun hl1 => ?_
  rw [List.length_map] at hl1
  refine R_iconst (0) d_jdk_52_method_21_code_0 (by decide) ?_
  refine R_istore d_jdk_52_method_21_code_1 rfl (by first | exact Or.inl rfl | exact Or.inr ⟨_, rfl, rfl⟩) ?_
  try dsimp only [List.set_cons_zero, List.set_cons_succ, List.eraseIdx_cons_zero, List.eraseIdx_cons_succ, List.cons_append, List.nil_append, Option.toList]
  rw [← dst8_zero]
  exact L_cm5 hw ca t cf ad ad2 cs hp hl1 F cs.length 0 (by omega) _ (Or.inl rfl)

set_option maxRecDepth 65536 in
set_option maxHeartbeats 4000000 in
theorem M_cm3 {Γ : Gx} (hw : Words Γ) (ca : Addr) (cf : Bool) (ad : String) (cs : List Int32) (hp : ∀ c ∈ cs, ¬ c < 0 ∧ ¬ (255 : Int32) < c) (hcap : cs.length ≤ 4) :
    Met Γ (⟨"java/lang/StringUTF16", "compress", "([CII)[B"⟩ : MethodName) jdk_52_method_16_code 6 (some (.array .byte)) ({ frames := 1, cells := 1, slots := 4, locals := 18 } : Room) #[(.ref ca), (.int 0), (.int cs.length.toInt32)] [(ca, cf, Ary Γ ad .char (cs.map Value.int))] (fun v O' => ∃ t, v = some (.ref t) ∧ O' = [(ca, cf, Ary Γ ad .char (cs.map Value.int)), (t, true, Ary Γ "[B" .byte ((cs.map b8).map Value.int))]) := by
  refine Met.intro pn_java_lang_StringUTF16 (Ls := [.val (.ref ca), .val (.int 0), .val (.int cs.length.toInt32), .unset, .unset, .unset]) (fun m => by first | rfl | (simp [entryFrame, mkF, argsToLocals, Value.category]; done)) ?_
  intro F
  refine R_iloadN d_jdk_52_method_16_code_0 rfl ?_
  refine R_newarray (ad := "[B") (List.replicate cs.length (Value.int 0)) 4 d_jdk_52_method_16_code_1 (hw _ (mem 19 rfl)) rfl (i32_nn (by omega)) (by rw [i32_cl (by omega)]; rfl) (by rw [i32_cl (by omega)]; exact hcap) (by decide) (Nat.le_of_ble_eq_true rfl) (Nat.le_of_ble_eq_true rfl) fun t => ?_
  refine R_astoreN d_jdk_52_method_16_code_3 rfl rfl (by first | exact Or.inl rfl | exact Or.inr ⟨_, rfl, rfl⟩) ?_
  try dsimp only [List.set_cons_zero, List.set_cons_succ, List.eraseIdx_cons_zero, List.eraseIdx_cons_succ, List.cons_append, List.nil_append, Option.toList]
  refine R_aloadN d_jdk_52_method_16_code_4 rfl rfl ?_
  refine R_iloadN d_jdk_52_method_16_code_5 rfl ?_
  refine R_aloadN d_jdk_52_method_16_code_6 rfl rfl ?_
  refine R_iconst (0) d_jdk_52_method_16_code_7 (by decide) ?_
  refine R_iloadN d_jdk_52_method_16_code_8 rfl ?_
  refine R_call (S_static (as := [_, _, _, _, _]) (rest := _) d_jdk_52_method_16_code_9 (hw _ (mem 76 rfl)) (hw _ (mem 77 rfl)) (hw _ (mem 74 rfl)) (hw _ (mem 78 rfl)) (by decide) pd_oaCIaBIIcI rfl rfl rfl) (M_cm5 hw ca t cf ad "[B" cs hp) (pkS 1 rfl (pkS 0 rfl pk0)) (hw _ (mem 78 rfl)) (hw _ (mem 74 rfl)) (Nat.le_of_ble_eq_true rfl) (Nat.le_of_ble_eq_true rfl) (Nat.le_of_ble_eq_true rfl) (Nat.le_of_ble_eq_true rfl) ?_
  rintro _ _ ⟨rfl, rfl⟩
  try dsimp only [List.set_cons_zero, List.set_cons_succ, List.eraseIdx_cons_zero, List.eraseIdx_cons_succ, List.cons_append, List.nil_append, Option.toList]
  refine R_istore d_jdk_52_method_16_code_12 rfl (by first | exact Or.inl rfl | exact Or.inr ⟨_, rfl, rfl⟩) ?_
  try dsimp only [List.set_cons_zero, List.set_cons_succ, List.eraseIdx_cons_zero, List.eraseIdx_cons_succ, List.cons_append, List.nil_append, Option.toList]
  refine R_iload d_jdk_52_method_16_code_14 rfl ?_
  refine R_iloadN d_jdk_52_method_16_code_16 rfl ?_
  refine R_icmp_eq (pc' := 57) d_jdk_52_method_16_code_17 (by decide) (by decide) (fun h => ?_) (fun h => ?_)
  · refine R_aloadN d_jdk_52_method_16_code_57 rfl rfl ?_
    exact R_areturn d_jdk_52_method_16_code_58 rfl rfl rfl ⟨_, rfl, rfl⟩ (Nat.le_of_ble_eq_true rfl) (Nat.le_of_ble_eq_true rfl)
  · exact absurd rfl h

set_option maxRecDepth 65536 in
set_option maxHeartbeats 4000000 in
theorem M_cal {Γ : Gx} (hw : Words Γ) (t : Addr) (b : Bool) (ad : String) (vs : List Value) :
    Met Γ (⟨"java/lang/StringUTF16", "coderFromArrayLen", "([BI)B"⟩ : MethodName) jdk_52_method_15_code 2 (some .byte) ({ frames := 0, cells := 0, slots := 0, locals := 0 } : Room) #[(.ref t), (.int vs.length.toInt32)] [(t, b, Ary Γ ad .byte vs)] (fun v O' => v = some (.int 0) ∧ O' = [(t, b, Ary Γ ad .byte vs)]) := by
  refine Met.intro pn_java_lang_StringUTF16 (Ls := [.val (.ref t), .val (.int vs.length.toInt32)]) (fun m => by first | rfl | (simp [entryFrame, mkF, argsToLocals, Value.category]; done)) ?_
  intro F
  refine R_iloadN d_jdk_52_method_15_code_0 rfl ?_
  refine R_aloadN d_jdk_52_method_15_code_1 rfl rfl ?_
  refine R_arraylength d_jdk_52_method_15_code_2 (mem 0 rfl) vs.length.toInt32 rfl ?_
  refine R_isub d_jdk_52_method_15_code_3 ?_
  refine R_bipush (31) d_jdk_52_method_15_code_4 (by decide) ?_
  refine R_iushr d_jdk_52_method_15_code_6 ?_
  refine R_i2b d_jdk_52_method_15_code_7 ?_
  rw [Int32.sub_self]
  exact R_ireturnN d_jdk_52_method_15_code_8 rfl (by simp) ⟨rfl, rfl⟩ (Nat.le_of_ble_eq_true rfl) (Nat.le_of_ble_eq_true rfl)

abbrev more0 : List Fd := []
set_option maxRecDepth 65536 in
set_option maxHeartbeats 4000000 in
theorem M_str4 {Γ : Gx} (hw : Words Γ) (hcs : CS Γ) (x ca : Addr) (cf : Bool) (ad : String) (cs : List Int32) (hp : ∀ c ∈ cs, ¬ c < 0 ∧ ¬ (255 : Int32) < c) (hcap : cs.length ≤ 4) (hne : cs ≠ []) :
    Met Γ (⟨"java/lang/String", "<init>", "([CIILjava/lang/Void;)V"⟩ : MethodName) jdk_42_method_149_code 6 none ({ frames := 2, cells := 1, slots := 4, locals := 35 } : Room) #[(.ref x), (.ref ca), (.int 0), (.int cs.length.toInt32), .null] [(x, true, Obj Γ "java/lang/String" (sV .null :: sC (.int 0) :: more0)), (ca, cf, Ary Γ ad .char (cs.map Value.int))] (fun v O' => ∃ t, v = none ∧ O' = [(x, true, StrO Γ t more0), (t, true, Ary Γ "[B" .byte ((cs.map b8).map Value.int)), (ca, cf, Ary Γ ad .char (cs.map Value.int))]) := by
  refine Met.intro pn_java_lang_String (Ls := [.val (.ref x), .val (.ref ca), .val (.int 0), .val (.int cs.length.toInt32), .val .null, .unset]) (fun m => by first | rfl | (simp [entryFrame, mkF, argsToLocals, Value.category]; done)) ?_
  intro F
  obtain ⟨G1, hS, hG1⟩ := hcs
  have hl0 : 0 < cs.length := List.length_pos_iff.mpr hne
  refine R_aloadN d_jdk_42_method_149_code_0 rfl rfl ?_
  refine R_initO d_jdk_42_method_149_code_1 (hw _ (mem 15 rfl)) (hw _ (mem 16 rfl)) (hw _ (mem 17 rfl)) rfl (Nat.le_of_ble_eq_true rfl) (Nat.le_of_ble_eq_true rfl) ?_
  refine R_iloadN d_jdk_42_method_149_code_4 rfl ?_
  refine R_if_ne (pc' := 27) d_jdk_42_method_149_code_5 (by decide) (by decide) (fun h => ?_) (fun h => ?_)
  · refine R_getstatic d_jdk_42_method_149_code_27 (hw _ (mem 55 rfl)) Via.refl hS ?_
    refine R_if_eq (pc' := 58) d_jdk_42_method_149_code_30 (by decide) (by decide) (fun h2 => ?_) (fun h2 => ?_)
    · exact absurd h2 hG1
    · refine R_aloadN d_jdk_42_method_149_code_33 rfl rfl ?_
      refine R_iloadN d_jdk_42_method_149_code_34 rfl ?_
      refine R_iloadN d_jdk_42_method_149_code_35 rfl ?_
      refine R_call (S_static (as := [_, _, _]) (rest := _) d_jdk_42_method_149_code_36 (hw _ (mem 72 rfl)) (hw _ (mem 73 rfl)) (hw _ (mem 74 rfl)) (hw _ (mem 75 rfl)) (by decide) pd_oaCIIcaB rfl rfl rfl) (M_cm3 hw ca cf ad cs hp hcap) (pkS 1 rfl pk0) (hw _ (mem 75 rfl)) (hw _ (mem 74 rfl)) (Nat.le_of_ble_eq_true rfl) (Nat.le_of_ble_eq_true rfl) (Nat.le_of_ble_eq_true rfl) (Nat.le_of_ble_eq_true rfl) ?_
      rintro _ _ ⟨t, rfl, rfl⟩
      try dsimp only [List.set_cons_zero, List.set_cons_succ, List.eraseIdx_cons_zero, List.eraseIdx_cons_succ, List.cons_append, List.nil_append, Option.toList]
      refine R_astore d_jdk_42_method_149_code_39 rfl rfl (by first | exact Or.inl rfl | exact Or.inr ⟨_, rfl, rfl⟩) ?_
      try dsimp only [List.set_cons_zero, List.set_cons_succ, List.eraseIdx_cons_zero, List.eraseIdx_cons_succ, List.cons_append, List.nil_append, Option.toList]
      refine R_aloadN d_jdk_42_method_149_code_41 rfl rfl ?_
      refine R_aload d_jdk_42_method_149_code_42 rfl rfl ?_
      refine R_iloadN d_jdk_42_method_149_code_44 rfl ?_
      have e8 : cs.length.toInt32 = (((cs.map b8).map Value.int).length).toInt32 := by simp
      rw [e8]
      refine R_call (S_static (as := [_, _]) (rest := _) d_jdk_42_method_149_code_45 (hw _ (mem 79 rfl)) (hw _ (mem 80 rfl)) (hw _ (mem 74 rfl)) (hw _ (mem 81 rfl)) (by decide) pd_oaBIcB rfl rfl rfl) (M_cal hw t true "[B" ((cs.map b8).map Value.int)) (pkS 1 rfl pk0) (hw _ (mem 81 rfl)) (hw _ (mem 74 rfl)) (Nat.le_of_ble_eq_true rfl) (Nat.le_of_ble_eq_true rfl) (Nat.le_of_ble_eq_true rfl) (Nat.le_of_ble_eq_true rfl) ?_
      rintro _ _ ⟨rfl, rfl⟩
      try dsimp only [List.set_cons_zero, List.set_cons_succ, List.eraseIdx_cons_zero, List.eraseIdx_cons_succ, List.cons_append, List.nil_append, Option.toList]
      refine R_putfield 2 1 d_jdk_42_method_149_code_48 (hw _ (mem 25 rfl)) Via.refl rfl rfl rfl (Or.inr ⟨(hw _ (mem 21 rfl)), rfl, rfl⟩) (hw _ (mem 5 rfl)) (ty := .byte) (by decide) (.int 0) rfl rfl ?_
      try dsimp only [List.set_cons_zero, List.set_cons_succ, List.eraseIdx_cons_zero, List.eraseIdx_cons_succ, List.cons_append, List.nil_append, Option.toList]
      refine R_aloadN d_jdk_42_method_149_code_51 rfl rfl ?_
      refine R_aload d_jdk_42_method_149_code_52 rfl rfl ?_
      refine R_putfield 2 0 d_jdk_42_method_149_code_54 (hw _ (mem 24 rfl)) Via.refl rfl rfl rfl (Or.inr ⟨(hw _ (mem 20 rfl)), rfl, rfl⟩) (hw _ (mem 5 rfl)) (ty := (.array .byte)) (by decide) _ rfl rfl ?_
      try dsimp only [List.set_cons_zero, List.set_cons_succ, List.eraseIdx_cons_zero, List.eraseIdx_cons_succ, List.cons_append, List.nil_append, Option.toList]
      refine R_order (pkS 2 rfl (pkS 0 rfl (pkS 0 rfl pk0))) ?_
      try dsimp only [List.set_cons_zero, List.set_cons_succ, List.eraseIdx_cons_zero, List.eraseIdx_cons_succ, List.cons_append, List.nil_append, Option.toList]
      exact R_return d_jdk_42_method_149_code_57 rfl ⟨t, rfl, rfl⟩ (Nat.le_of_ble_eq_true rfl) (Nat.le_of_ble_eq_true rfl)
  · exact absurd ((i32_eq_iff (a := cs.length) (b := 0) (by omega) (by omega)).mp h) (by omega)

set_option maxRecDepth 65536 in
set_option maxHeartbeats 4000000 in
theorem M_strInit {Γ : Gx} (hw : Words Γ) (hcs : CS Γ) (x ca : Addr) (cf : Bool) (ad : String) (cs : List Int32) (hp : ∀ c ∈ cs, ¬ c < 0 ∧ ¬ (255 : Int32) < c) (hcap : cs.length ≤ 4) (hne : cs ≠ []) :
    Met Γ (⟨"java/lang/String", "<init>", "([C)V"⟩ : MethodName) jdk_42_method_3_code 2 none ({ frames := 3, cells := 1, slots := 4, locals := 52 } : Room) #[(.ref x), (.ref ca)] [(x, true, Obj Γ "java/lang/String" (sV .null :: sC (.int 0) :: more0)), (ca, cf, Ary Γ ad .char (cs.map Value.int))] (fun v O' => ∃ t, v = none ∧ O' = [(x, true, StrO Γ t more0), (t, true, Ary Γ "[B" .byte ((cs.map b8).map Value.int)), (ca, cf, Ary Γ ad .char (cs.map Value.int))]) := by
  refine Met.intro pn_java_lang_String (Ls := [.val (.ref x), .val (.ref ca)]) (fun m => by first | rfl | (simp [entryFrame, mkF, argsToLocals, Value.category]; done)) ?_
  intro F
  refine R_aloadN d_jdk_42_method_3_code_0 rfl rfl ?_
  refine R_aloadN d_jdk_42_method_3_code_1 rfl rfl ?_
  refine R_iconst (0) d_jdk_42_method_3_code_2 (by decide) ?_
  refine R_aloadN d_jdk_42_method_3_code_3 rfl rfl ?_
  refine R_arraylength d_jdk_42_method_3_code_4 (mem 1 rfl) cs.length.toInt32 (by rw [List.length_map]) ?_
  refine R_aconst_null d_jdk_42_method_3_code_5 ?_
  refine R_call (S_special (as := [_, _, _, _]) (rest := _) d_jdk_42_method_3_code_6 rfl (hw _ (mem 11 rfl)) (hw _ (mem 12 rfl)) (hw _ (mem 14 rfl)) (by decide) pd_oaCIILjava_lang_Void_cV rfl rfl rfl) (M_str4 hw hcs x ca cf ad cs hp hcap hne) (pkS 0 rfl (pkS 0 rfl pk0)) (hw _ (mem 14 rfl)) (hw _ (mem 6 rfl)) (Nat.le_of_ble_eq_true rfl) (Nat.le_of_ble_eq_true rfl) (Nat.le_of_ble_eq_true rfl) (Nat.le_of_ble_eq_true rfl) ?_
  rintro _ _ ⟨t, rfl, rfl⟩
  try dsimp only [List.set_cons_zero, List.set_cons_succ, List.eraseIdx_cons_zero, List.eraseIdx_cons_succ, List.cons_append, List.nil_append, Option.toList]
  exact R_return d_jdk_42_method_3_code_9 rfl ⟨t, rfl, rfl⟩ (Nat.le_of_ble_eq_true rfl) (Nat.le_of_ble_eq_true rfl)

set_option maxRecDepth 65536 in
set_option maxHeartbeats 4000000 in
theorem M_str40 {Γ : Gx} (hw : Words Γ) (hG : Lits Γ) (x ca : Addr) (cf : Bool) (ad : String) :
    Met Γ (⟨"java/lang/String", "<init>", "([CIILjava/lang/Void;)V"⟩ : MethodName) jdk_42_method_149_code 6 none ({ frames := 1, cells := 4, slots := 8, locals := 12 } : Room) #[(.ref x), (.ref ca), (.int 0), (.int 0), .null] [(x, true, Obj Γ "java/lang/String" (sV .null :: sC (.int 0) :: more0)), (ca, cf, Ary Γ ad .char [])] (fun v O' => ∃ t, v = none ∧ O' = [(x, true, StrO Γ t more0), (t, false, Ary Γ "" .byte []), (ca, cf, Ary Γ ad .char [])]) := by
  refine Met.intro pn_java_lang_String (Ls := [.val (.ref x), .val (.ref ca), .val (.int 0), .val (.int 0), .val .null, .unset]) (fun m => by first | rfl | (simp [entryFrame, mkF, argsToLocals, Value.category]; done)) ?_
  intro F
  refine R_aloadN d_jdk_42_method_149_code_0 rfl rfl ?_
  refine R_initO d_jdk_42_method_149_code_1 (hw _ (mem 15 rfl)) (hw _ (mem 16 rfl)) (hw _ (mem 17 rfl)) rfl (Nat.le_of_ble_eq_true rfl) (Nat.le_of_ble_eq_true rfl) ?_
  refine R_iloadN d_jdk_42_method_149_code_4 rfl ?_
  refine R_if_ne (pc' := 27) d_jdk_42_method_149_code_5 (by decide) (by decide) (fun h => ?_) (fun h => ?_)
  · exact absurd rfl h
  · refine R_aloadN d_jdk_42_method_149_code_8 rfl rfl ?_
    refine R_ldcS [] 0 hG.1 d_jdk_42_method_149_code_9 (hw _ (mem 18 rfl)) (atomsW hw) (el_mem hG.2 0 rfl) (by decide +kernel) (Nat.le_of_ble_eq_true rfl) (by decide +kernel) (Nat.le_of_ble_eq_true rfl) (Nat.le_of_ble_eq_true rfl) (Nat.le_of_ble_eq_true rfl) (hw _ (mem 20 rfl)) (hw _ (mem 21 rfl)) fun q t => ?_
    refine R_getfield d_jdk_42_method_149_code_11 (hw _ (mem 24 rfl)) Via.refl (mem 0 rfl) (mem 0 rfl) ?_
    refine R_putfield 2 0 d_jdk_42_method_149_code_14 (hw _ (mem 24 rfl)) Via.refl rfl rfl rfl (Or.inr ⟨(hw _ (mem 20 rfl)), rfl, rfl⟩) (hw _ (mem 5 rfl)) (ty := (.array .byte)) (by decide) _ rfl rfl ?_
    try dsimp only [List.set_cons_zero, List.set_cons_succ, List.eraseIdx_cons_zero, List.eraseIdx_cons_succ, List.cons_append, List.nil_append, Option.toList]
    refine R_aloadN d_jdk_42_method_149_code_17 rfl rfl ?_
    refine R_ldcS [] 0 hG.1 d_jdk_42_method_149_code_18 (hw _ (mem 18 rfl)) (atomsW hw) (el_mem hG.2 0 rfl) (by decide +kernel) (Nat.le_of_ble_eq_true rfl) (by decide +kernel) (Nat.le_of_ble_eq_true rfl) (Nat.le_of_ble_eq_true rfl) (Nat.le_of_ble_eq_true rfl) (hw _ (mem 20 rfl)) (hw _ (mem 21 rfl)) fun q2 t2 => ?_
    refine R_getfield d_jdk_42_method_149_code_20 (hw _ (mem 25 rfl)) Via.refl (mem 0 rfl) (mem 1 rfl) ?_
    refine R_putfield 4 1 d_jdk_42_method_149_code_23 (hw _ (mem 25 rfl)) Via.refl rfl rfl rfl (Or.inr ⟨(hw _ (mem 21 rfl)), rfl, rfl⟩) (hw _ (mem 5 rfl)) (ty := .byte) (by decide) (.int 0) rfl rfl ?_
    try dsimp only [List.set_cons_zero, List.set_cons_succ, List.eraseIdx_cons_zero, List.eraseIdx_cons_succ, List.cons_append, List.nil_append, Option.toList]
    refine R_drop 0 ?_
    refine R_drop 0 ?_
    refine R_drop 0 ?_
    try dsimp only [List.set_cons_zero, List.set_cons_succ, List.eraseIdx_cons_zero, List.eraseIdx_cons_succ, List.cons_append, List.nil_append, Option.toList]
    refine R_order (pkS 1 rfl (pkS 0 rfl (pkS 0 rfl pk0))) ?_
    try dsimp only [List.set_cons_zero, List.set_cons_succ, List.eraseIdx_cons_zero, List.eraseIdx_cons_succ, List.cons_append, List.nil_append, Option.toList]
    exact R_return d_jdk_42_method_149_code_26 rfl ⟨t, rfl, rfl⟩ (Nat.le_of_ble_eq_true rfl) (Nat.le_of_ble_eq_true rfl)

set_option maxRecDepth 65536 in
set_option maxHeartbeats 4000000 in
theorem M_strInit0 {Γ : Gx} (hw : Words Γ) (hG : Lits Γ) (x ca : Addr) (cf : Bool) (ad : String) :
    Met Γ (⟨"java/lang/String", "<init>", "([C)V"⟩ : MethodName) jdk_42_method_3_code 2 none ({ frames := 2, cells := 4, slots := 8, locals := 29 } : Room) #[(.ref x), (.ref ca)] [(x, true, Obj Γ "java/lang/String" (sV .null :: sC (.int 0) :: more0)), (ca, cf, Ary Γ ad .char [])] (fun v O' => ∃ t, v = none ∧ O' = [(x, true, StrO Γ t more0), (t, false, Ary Γ "" .byte []), (ca, cf, Ary Γ ad .char [])]) := by
  refine Met.intro pn_java_lang_String (Ls := [.val (.ref x), .val (.ref ca)]) (fun m => by first | rfl | (simp [entryFrame, mkF, argsToLocals, Value.category]; done)) ?_
  intro F
  refine R_aloadN d_jdk_42_method_3_code_0 rfl rfl ?_
  refine R_aloadN d_jdk_42_method_3_code_1 rfl rfl ?_
  refine R_iconst (0) d_jdk_42_method_3_code_2 (by decide) ?_
  refine R_aloadN d_jdk_42_method_3_code_3 rfl rfl ?_
  refine R_arraylength d_jdk_42_method_3_code_4 (mem 1 rfl) 0 rfl ?_
  refine R_aconst_null d_jdk_42_method_3_code_5 ?_
  refine R_call (S_special (as := [_, _, _, _]) (rest := _) d_jdk_42_method_3_code_6 rfl (hw _ (mem 11 rfl)) (hw _ (mem 12 rfl)) (hw _ (mem 14 rfl)) (by decide) pd_oaCIILjava_lang_Void_cV rfl rfl rfl) (M_str40 hw hG x ca cf ad) (pkS 0 rfl (pkS 0 rfl pk0)) (hw _ (mem 14 rfl)) (hw _ (mem 6 rfl)) (Nat.le_of_ble_eq_true rfl) (Nat.le_of_ble_eq_true rfl) (Nat.le_of_ble_eq_true rfl) (Nat.le_of_ble_eq_true rfl) ?_
  rintro _ _ ⟨t, rfl, rfl⟩
  try dsimp only [List.set_cons_zero, List.set_cons_succ, List.eraseIdx_cons_zero, List.eraseIdx_cons_succ, List.cons_append, List.nil_append, Option.toList]
  exact R_return d_jdk_42_method_3_code_9 rfl ⟨t, rfl, rfl⟩ (Nat.le_of_ble_eq_true rfl) (Nat.le_of_ble_eq_true rfl)

abbrev lC : List Int32 := [99, 115, 118]
abbrev lJ : List Int32 := [106, 115, 111, 110]
abbrev FmtO (Γ : Gx) (l : Addr) : Cell → Prop := Obj Γ "com/example/couverture/couverture/io/MarginReport$Format" [("com/example/couverture/couverture/io/MarginReport$Format", "label", "Ljava/lang/String;", .ref l)]
abbrev OptO (Γ : Gx) (v : Value) : Cell → Prop := Obj Γ "java/util/Optional" [("java/util/Optional", "value", "Ljava/lang/Object;", v)]
/-- the two constants, their labels, the array of both, the empty Optional -/
def Fmt (Γ : Gx) (va cv js lc lj bc bj em : Addr) : Prop :=
  Sta Γ.Z Γ.Z.heap "com/example/couverture/couverture/io/MarginReport$Format" "$VALUES" "[Lcom/example/couverture/couverture/io/MarginReport$Format;" (.ref va) ∧ Sta Γ.Z Γ.Z.heap "com/example/couverture/couverture/io/MarginReport$Format" "CSV" "Lcom/example/couverture/couverture/io/MarginReport$Format;" (.ref cv) ∧ Sta Γ.Z Γ.Z.heap "com/example/couverture/couverture/io/MarginReport$Format" "JSON" "Lcom/example/couverture/couverture/io/MarginReport$Format;" (.ref js) ∧ Sta Γ.Z Γ.Z.heap "java/util/Optional" "EMPTY" "Ljava/util/Optional;" (.ref em) ∧
  (∃ c, Γ.Z.heap[va]? = some c ∧ AryR Γ "[Lcom/example/couverture/couverture/io/MarginReport$Format;" (.object "com/example/couverture/couverture/io/MarginReport$Format") [.ref cv, .ref js] c) ∧ (∃ c, Γ.Z.heap[cv]? = some c ∧ FmtO Γ lc c) ∧ (∃ c, Γ.Z.heap[js]? = some c ∧ FmtO Γ lj c) ∧
  (∃ c, Γ.Z.heap[lc]? = some c ∧ StrO Γ bc [] c) ∧ (∃ c, Γ.Z.heap[lj]? = some c ∧ StrO Γ bj [] c) ∧ (∃ c, Γ.Z.heap[bc]? = some c ∧ Ary Γ "" .byte (lC.map Value.int) c) ∧ (∃ c, Γ.Z.heap[bj]? = some c ∧ Ary Γ "" .byte (lJ.map Value.int) c) ∧
  (∃ c, Γ.Z.heap[em]? = some c ∧ OptO Γ .null c)
set_option maxRecDepth 65536 in
set_option maxHeartbeats 4000000 in
theorem M_make {Γ : Gx} (hw : Words Γ) (hcs : CS Γ) (hG : Lits Γ) (ln : Nat) (hln : ln ≤ 4) (d0 d1 d2 d3 : Int32) (h0 : Lo d0) (h1 : Lo d1) (h2 : Lo d2) (h3 : Lo d3) :
    Met Γ (⟨"com/example/couverture/couverture/io/FormatNamedPinLaw", "make", "(ICCCC)Ljava/lang/String;"⟩ : MethodName) method_2_code 5 (some (.object "java/lang/String")) ({ frames := 4, cells := 6, slots := 12, locals := 66 } : Room) #[(.int ln.toInt32), (.int d0), (.int d1), (.int d2), (.int d3)] [] (fun v O' => ∃ (s t : Addr) (bt : Bool) (ad : String), v = some (.ref s) ∧ O' = [(s, true, StrO Γ t more0), (t, bt, Ary Γ ad .byte ((([d0, d1, d2, d3].take ln).map b8).map Value.int))]) := by
  refine Met.intro pn_com_example_couverture_couverture_io_FormatNamedPinLaw (Ls := [.val (.int ln.toInt32), .val (.int d0), .val (.int d1), .val (.int d2), .val (.int d3)]) (fun m => by first | rfl | (simp [entryFrame, mkF, argsToLocals, Value.category]; done)) ?_
  intro F
  rcases (by omega : ln = 0 ∨ ln = 1 ∨ ln = 2 ∨ ln = 3 ∨ ln = 4) with rfl | rfl | rfl | rfl | rfl
  · refine R_iloadN d_method_2_code_0 rfl ?_
    refine R_if_ne (pc' := 15) d_method_2_code_1 (by decide) (by decide) (fun h => ?_) (fun h => ?_)
    · exact absurd (by decide) h
    · refine R_new _ d_method_2_code_4 (hw _ (mem 4 rfl)) (hw _ (mem 5 rfl)) (hw _ (mem 6 rfl)) (laid_java_lang_String hw) (Nat.le_of_ble_eq_true rfl) (Nat.le_of_ble_eq_true rfl) fun s => ?_
      refine R_dup d_method_2_code_7 rfl ?_
      refine R_iconst (0) d_method_2_code_8 (by decide) ?_
      refine R_newarray (ad := "[C") [] 0 d_method_2_code_9 (hw _ (mem 7 rfl)) rfl (by decide) rfl (by decide) (by decide) (Nat.le_of_ble_eq_true rfl) (Nat.le_of_ble_eq_true rfl) fun ca => ?_
      refine R_call (S_special (as := [_]) (rest := _) d_method_2_code_11 rfl (hw _ (mem 8 rfl)) (hw _ (mem 9 rfl)) (hw _ (mem 10 rfl)) (by decide) pd_oaCcV rfl rfl rfl) (M_strInit0 hw hG s ca true "[C") (pkS 1 rfl (pkS 0 rfl pk0)) (hw _ (mem 10 rfl)) (hw _ (mem 6 rfl)) (Nat.le_of_ble_eq_true rfl) (Nat.le_of_ble_eq_true rfl) (Nat.le_of_ble_eq_true rfl) (Nat.le_of_ble_eq_true rfl) ?_
      rintro _ _ ⟨t, rfl, rfl⟩
      try dsimp only [List.set_cons_zero, List.set_cons_succ, List.eraseIdx_cons_zero, List.eraseIdx_cons_succ, List.cons_append, List.nil_append, Option.toList]
      refine R_drop 2 ?_
      try dsimp only [List.set_cons_zero, List.set_cons_succ, List.eraseIdx_cons_zero, List.eraseIdx_cons_succ, List.cons_append, List.nil_append, Option.toList]
      exact R_areturn d_method_2_code_14 rfl rfl rfl ⟨s, t, _, _, rfl, rfl⟩ (Nat.le_of_ble_eq_true rfl) (Nat.le_of_ble_eq_true rfl)
  · refine R_iloadN d_method_2_code_0 rfl ?_
    refine R_if_ne (pc' := 15) d_method_2_code_1 (by decide) (by decide) (fun h => ?_) (fun h => ?_)
    · refine R_iloadN d_method_2_code_15 rfl ?_
      refine R_iconst (1) d_method_2_code_16 (by decide) ?_
      refine R_icmp_ne (pc' := 35) d_method_2_code_17 (by decide) (by decide) (fun h => ?_) (fun h => ?_)
      · exact absurd (by decide) h
      · refine R_new _ d_method_2_code_20 (hw _ (mem 4 rfl)) (hw _ (mem 5 rfl)) (hw _ (mem 6 rfl)) (laid_java_lang_String hw) (Nat.le_of_ble_eq_true rfl) (Nat.le_of_ble_eq_true rfl) fun s => ?_
        refine R_dup d_method_2_code_23 rfl ?_
        refine R_iconst (1) d_method_2_code_24 (by decide) ?_
        refine R_newarray (ad := "[C") [.int 0] 1 d_method_2_code_25 (hw _ (mem 7 rfl)) rfl (by decide) rfl (by decide) (by decide) (Nat.le_of_ble_eq_true rfl) (Nat.le_of_ble_eq_true rfl) fun ca => ?_
        refine R_dup d_method_2_code_27 rfl ?_
        refine R_iconst (0) d_method_2_code_28 (by decide) ?_
        refine R_iloadN d_method_2_code_29 rfl ?_
        refine R_castore 0 d_method_2_code_30 rfl (by decide) 0 rfl (Nat.le_of_ble_eq_true rfl) ?_
        try dsimp only [List.set_cons_zero, List.set_cons_succ, List.eraseIdx_cons_zero, List.eraseIdx_cons_succ, List.cons_append, List.nil_append, Option.toList]
        rw [le255 h0]
        refine R_call (S_special (as := [_]) (rest := _) d_method_2_code_31 rfl (hw _ (mem 8 rfl)) (hw _ (mem 9 rfl)) (hw _ (mem 10 rfl)) (by decide) pd_oaCcV rfl rfl rfl) (M_strInit hw hcs s ca true "[C" [d0] (alS h0 al0) (Nat.le_of_ble_eq_true rfl) (by simp)) (pkS 1 rfl (pkS 0 rfl pk0)) (hw _ (mem 10 rfl)) (hw _ (mem 6 rfl)) (Nat.le_of_ble_eq_true rfl) (Nat.le_of_ble_eq_true rfl) (Nat.le_of_ble_eq_true rfl) (Nat.le_of_ble_eq_true rfl) ?_
        rintro _ _ ⟨t, rfl, rfl⟩
        try dsimp only [List.set_cons_zero, List.set_cons_succ, List.eraseIdx_cons_zero, List.eraseIdx_cons_succ, List.cons_append, List.nil_append, Option.toList]
        refine R_drop 2 ?_
        try dsimp only [List.set_cons_zero, List.set_cons_succ, List.eraseIdx_cons_zero, List.eraseIdx_cons_succ, List.cons_append, List.nil_append, Option.toList]
        exact R_areturn d_method_2_code_34 rfl rfl rfl ⟨s, t, _, _, rfl, rfl⟩ (Nat.le_of_ble_eq_true rfl) (Nat.le_of_ble_eq_true rfl)
    · exact absurd h (by decide)
  · refine R_iloadN d_method_2_code_0 rfl ?_
    refine R_if_ne (pc' := 15) d_method_2_code_1 (by decide) (by decide) (fun h => ?_) (fun h => ?_)
    · refine R_iloadN d_method_2_code_15 rfl ?_
      refine R_iconst (1) d_method_2_code_16 (by decide) ?_
      refine R_icmp_ne (pc' := 35) d_method_2_code_17 (by decide) (by decide) (fun h => ?_) (fun h => ?_)
      · refine R_iloadN d_method_2_code_35 rfl ?_
        refine R_iconst (2) d_method_2_code_36 (by decide) ?_
        refine R_icmp_ne (pc' := 59) d_method_2_code_37 (by decide) (by decide) (fun h => ?_) (fun h => ?_)
        · exact absurd (by decide) h
        · refine R_new _ d_method_2_code_40 (hw _ (mem 4 rfl)) (hw _ (mem 5 rfl)) (hw _ (mem 6 rfl)) (laid_java_lang_String hw) (Nat.le_of_ble_eq_true rfl) (Nat.le_of_ble_eq_true rfl) fun s => ?_
          refine R_dup d_method_2_code_43 rfl ?_
          refine R_iconst (2) d_method_2_code_44 (by decide) ?_
          refine R_newarray (ad := "[C") [.int 0, .int 0] 2 d_method_2_code_45 (hw _ (mem 7 rfl)) rfl (by decide) rfl (by decide) (by decide) (Nat.le_of_ble_eq_true rfl) (Nat.le_of_ble_eq_true rfl) fun ca => ?_
          refine R_dup d_method_2_code_47 rfl ?_
          refine R_iconst (0) d_method_2_code_48 (by decide) ?_
          refine R_iloadN d_method_2_code_49 rfl ?_
          refine R_castore 0 d_method_2_code_50 rfl (by decide) 0 rfl (Nat.le_of_ble_eq_true rfl) ?_
          try dsimp only [List.set_cons_zero, List.set_cons_succ, List.eraseIdx_cons_zero, List.eraseIdx_cons_succ, List.cons_append, List.nil_append, Option.toList]
          rw [le255 h0]
          refine R_dup d_method_2_code_51 rfl ?_
          refine R_iconst (1) d_method_2_code_52 (by decide) ?_
          refine R_iloadN d_method_2_code_53 rfl ?_
          refine R_castore 0 d_method_2_code_54 rfl (by decide) 1 rfl (Nat.le_of_ble_eq_true rfl) ?_
          try dsimp only [List.set_cons_zero, List.set_cons_succ, List.eraseIdx_cons_zero, List.eraseIdx_cons_succ, List.cons_append, List.nil_append, Option.toList]
          rw [le255 h1]
          refine R_call (S_special (as := [_]) (rest := _) d_method_2_code_55 rfl (hw _ (mem 8 rfl)) (hw _ (mem 9 rfl)) (hw _ (mem 10 rfl)) (by decide) pd_oaCcV rfl rfl rfl) (M_strInit hw hcs s ca true "[C" [d0, d1] (alS h0 (alS h1 al0)) (Nat.le_of_ble_eq_true rfl) (by simp)) (pkS 1 rfl (pkS 0 rfl pk0)) (hw _ (mem 10 rfl)) (hw _ (mem 6 rfl)) (Nat.le_of_ble_eq_true rfl) (Nat.le_of_ble_eq_true rfl) (Nat.le_of_ble_eq_true rfl) (Nat.le_of_ble_eq_true rfl) ?_
          rintro _ _ ⟨t, rfl, rfl⟩
          try dsimp only [List.set_cons_zero, List.set_cons_succ, List.eraseIdx_cons_zero, List.eraseIdx_cons_succ, List.cons_append, List.nil_append, Option.toList]
          refine R_drop 2 ?_
          try dsimp only [List.set_cons_zero, List.set_cons_succ, List.eraseIdx_cons_zero, List.eraseIdx_cons_succ, List.cons_append, List.nil_append, Option.toList]
          exact R_areturn d_method_2_code_58 rfl rfl rfl ⟨s, t, _, _, rfl, rfl⟩ (Nat.le_of_ble_eq_true rfl) (Nat.le_of_ble_eq_true rfl)
      · exact absurd h (by decide)
    · exact absurd h (by decide)
  · refine R_iloadN d_method_2_code_0 rfl ?_
    refine R_if_ne (pc' := 15) d_method_2_code_1 (by decide) (by decide) (fun h => ?_) (fun h => ?_)
    · refine R_iloadN d_method_2_code_15 rfl ?_
      refine R_iconst (1) d_method_2_code_16 (by decide) ?_
      refine R_icmp_ne (pc' := 35) d_method_2_code_17 (by decide) (by decide) (fun h => ?_) (fun h => ?_)
      · refine R_iloadN d_method_2_code_35 rfl ?_
        refine R_iconst (2) d_method_2_code_36 (by decide) ?_
        refine R_icmp_ne (pc' := 59) d_method_2_code_37 (by decide) (by decide) (fun h => ?_) (fun h => ?_)
        · refine R_iloadN d_method_2_code_59 rfl ?_
          refine R_iconst (3) d_method_2_code_60 (by decide) ?_
          refine R_icmp_ne (pc' := 87) d_method_2_code_61 (by decide) (by decide) (fun h => ?_) (fun h => ?_)
          · exact absurd (by decide) h
          · refine R_new _ d_method_2_code_64 (hw _ (mem 4 rfl)) (hw _ (mem 5 rfl)) (hw _ (mem 6 rfl)) (laid_java_lang_String hw) (Nat.le_of_ble_eq_true rfl) (Nat.le_of_ble_eq_true rfl) fun s => ?_
            refine R_dup d_method_2_code_67 rfl ?_
            refine R_iconst (3) d_method_2_code_68 (by decide) ?_
            refine R_newarray (ad := "[C") [.int 0, .int 0, .int 0] 3 d_method_2_code_69 (hw _ (mem 7 rfl)) rfl (by decide) rfl (by decide) (by decide) (Nat.le_of_ble_eq_true rfl) (Nat.le_of_ble_eq_true rfl) fun ca => ?_
            refine R_dup d_method_2_code_71 rfl ?_
            refine R_iconst (0) d_method_2_code_72 (by decide) ?_
            refine R_iloadN d_method_2_code_73 rfl ?_
            refine R_castore 0 d_method_2_code_74 rfl (by decide) 0 rfl (Nat.le_of_ble_eq_true rfl) ?_
            try dsimp only [List.set_cons_zero, List.set_cons_succ, List.eraseIdx_cons_zero, List.eraseIdx_cons_succ, List.cons_append, List.nil_append, Option.toList]
            rw [le255 h0]
            refine R_dup d_method_2_code_75 rfl ?_
            refine R_iconst (1) d_method_2_code_76 (by decide) ?_
            refine R_iloadN d_method_2_code_77 rfl ?_
            refine R_castore 0 d_method_2_code_78 rfl (by decide) 1 rfl (Nat.le_of_ble_eq_true rfl) ?_
            try dsimp only [List.set_cons_zero, List.set_cons_succ, List.eraseIdx_cons_zero, List.eraseIdx_cons_succ, List.cons_append, List.nil_append, Option.toList]
            rw [le255 h1]
            refine R_dup d_method_2_code_79 rfl ?_
            refine R_iconst (2) d_method_2_code_80 (by decide) ?_
            refine R_iloadN d_method_2_code_81 rfl ?_
            refine R_castore 0 d_method_2_code_82 rfl (by decide) 2 rfl (Nat.le_of_ble_eq_true rfl) ?_
            try dsimp only [List.set_cons_zero, List.set_cons_succ, List.eraseIdx_cons_zero, List.eraseIdx_cons_succ, List.cons_append, List.nil_append, Option.toList]
            rw [le255 h2]
            refine R_call (S_special (as := [_]) (rest := _) d_method_2_code_83 rfl (hw _ (mem 8 rfl)) (hw _ (mem 9 rfl)) (hw _ (mem 10 rfl)) (by decide) pd_oaCcV rfl rfl rfl) (M_strInit hw hcs s ca true "[C" [d0, d1, d2] (alS h0 (alS h1 (alS h2 al0))) (Nat.le_of_ble_eq_true rfl) (by simp)) (pkS 1 rfl (pkS 0 rfl pk0)) (hw _ (mem 10 rfl)) (hw _ (mem 6 rfl)) (Nat.le_of_ble_eq_true rfl) (Nat.le_of_ble_eq_true rfl) (Nat.le_of_ble_eq_true rfl) (Nat.le_of_ble_eq_true rfl) ?_
            rintro _ _ ⟨t, rfl, rfl⟩
            try dsimp only [List.set_cons_zero, List.set_cons_succ, List.eraseIdx_cons_zero, List.eraseIdx_cons_succ, List.cons_append, List.nil_append, Option.toList]
            refine R_drop 2 ?_
            try dsimp only [List.set_cons_zero, List.set_cons_succ, List.eraseIdx_cons_zero, List.eraseIdx_cons_succ, List.cons_append, List.nil_append, Option.toList]
            exact R_areturn d_method_2_code_86 rfl rfl rfl ⟨s, t, _, _, rfl, rfl⟩ (Nat.le_of_ble_eq_true rfl) (Nat.le_of_ble_eq_true rfl)
        · exact absurd h (by decide)
      · exact absurd h (by decide)
    · exact absurd h (by decide)
  · refine R_iloadN d_method_2_code_0 rfl ?_
    refine R_if_ne (pc' := 15) d_method_2_code_1 (by decide) (by decide) (fun h => ?_) (fun h => ?_)
    · refine R_iloadN d_method_2_code_15 rfl ?_
      refine R_iconst (1) d_method_2_code_16 (by decide) ?_
      refine R_icmp_ne (pc' := 35) d_method_2_code_17 (by decide) (by decide) (fun h => ?_) (fun h => ?_)
      · refine R_iloadN d_method_2_code_35 rfl ?_
        refine R_iconst (2) d_method_2_code_36 (by decide) ?_
        refine R_icmp_ne (pc' := 59) d_method_2_code_37 (by decide) (by decide) (fun h => ?_) (fun h => ?_)
        · refine R_iloadN d_method_2_code_59 rfl ?_
          refine R_iconst (3) d_method_2_code_60 (by decide) ?_
          refine R_icmp_ne (pc' := 87) d_method_2_code_61 (by decide) (by decide) (fun h => ?_) (fun h => ?_)
          · refine R_new _ d_method_2_code_87 (hw _ (mem 4 rfl)) (hw _ (mem 5 rfl)) (hw _ (mem 6 rfl)) (laid_java_lang_String hw) (Nat.le_of_ble_eq_true rfl) (Nat.le_of_ble_eq_true rfl) fun s => ?_
            refine R_dup d_method_2_code_90 rfl ?_
            refine R_iconst (4) d_method_2_code_91 (by decide) ?_
            refine R_newarray (ad := "[C") [.int 0, .int 0, .int 0, .int 0] 4 d_method_2_code_92 (hw _ (mem 7 rfl)) rfl (by decide) rfl (by decide) (by decide) (Nat.le_of_ble_eq_true rfl) (Nat.le_of_ble_eq_true rfl) fun ca => ?_
            refine R_dup d_method_2_code_94 rfl ?_
            refine R_iconst (0) d_method_2_code_95 (by decide) ?_
            refine R_iloadN d_method_2_code_96 rfl ?_
            refine R_castore 0 d_method_2_code_97 rfl (by decide) 0 rfl (Nat.le_of_ble_eq_true rfl) ?_
            try dsimp only [List.set_cons_zero, List.set_cons_succ, List.eraseIdx_cons_zero, List.eraseIdx_cons_succ, List.cons_append, List.nil_append, Option.toList]
            rw [le255 h0]
            refine R_dup d_method_2_code_98 rfl ?_
            refine R_iconst (1) d_method_2_code_99 (by decide) ?_
            refine R_iloadN d_method_2_code_100 rfl ?_
            refine R_castore 0 d_method_2_code_101 rfl (by decide) 1 rfl (Nat.le_of_ble_eq_true rfl) ?_
            try dsimp only [List.set_cons_zero, List.set_cons_succ, List.eraseIdx_cons_zero, List.eraseIdx_cons_succ, List.cons_append, List.nil_append, Option.toList]
            rw [le255 h1]
            refine R_dup d_method_2_code_102 rfl ?_
            refine R_iconst (2) d_method_2_code_103 (by decide) ?_
            refine R_iloadN d_method_2_code_104 rfl ?_
            refine R_castore 0 d_method_2_code_105 rfl (by decide) 2 rfl (Nat.le_of_ble_eq_true rfl) ?_
            try dsimp only [List.set_cons_zero, List.set_cons_succ, List.eraseIdx_cons_zero, List.eraseIdx_cons_succ, List.cons_append, List.nil_append, Option.toList]
            rw [le255 h2]
            refine R_dup d_method_2_code_106 rfl ?_
            refine R_iconst (3) d_method_2_code_107 (by decide) ?_
            refine R_iload d_method_2_code_108 rfl ?_
            refine R_castore 0 d_method_2_code_110 rfl (by decide) 3 rfl (Nat.le_of_ble_eq_true rfl) ?_
            try dsimp only [List.set_cons_zero, List.set_cons_succ, List.eraseIdx_cons_zero, List.eraseIdx_cons_succ, List.cons_append, List.nil_append, Option.toList]
            rw [le255 h3]
            refine R_call (S_special (as := [_]) (rest := _) d_method_2_code_111 rfl (hw _ (mem 8 rfl)) (hw _ (mem 9 rfl)) (hw _ (mem 10 rfl)) (by decide) pd_oaCcV rfl rfl rfl) (M_strInit hw hcs s ca true "[C" [d0, d1, d2, d3] (alS h0 (alS h1 (alS h2 (alS h3 al0)))) (Nat.le_of_ble_eq_true rfl) (by simp)) (pkS 1 rfl (pkS 0 rfl pk0)) (hw _ (mem 10 rfl)) (hw _ (mem 6 rfl)) (Nat.le_of_ble_eq_true rfl) (Nat.le_of_ble_eq_true rfl) (Nat.le_of_ble_eq_true rfl) (Nat.le_of_ble_eq_true rfl) ?_
            rintro _ _ ⟨t, rfl, rfl⟩
            try dsimp only [List.set_cons_zero, List.set_cons_succ, List.eraseIdx_cons_zero, List.eraseIdx_cons_succ, List.cons_append, List.nil_append, Option.toList]
            refine R_drop 2 ?_
            try dsimp only [List.set_cons_zero, List.set_cons_succ, List.eraseIdx_cons_zero, List.eraseIdx_cons_succ, List.cons_append, List.nil_append, Option.toList]
            exact R_areturn d_method_2_code_114 rfl rfl rfl ⟨s, t, _, _, rfl, rfl⟩ (Nat.le_of_ble_eq_true rfl) (Nat.le_of_ble_eq_true rfl)
          · exact absurd h (by decide)
        · exact absurd h (by decide)
      · exact absurd h (by decide)
    · exact absurd h (by decide)

set_option maxRecDepth 65536 in
set_option maxHeartbeats 4000000 in
theorem M_values {Γ : Gx} (hw : Words Γ) (va cv js lc lj bc bj em : Addr) (hf : Fmt Γ va cv js lc lj bc bj em) :
    Met Γ (⟨"com/example/couverture/couverture/io/MarginReport$Format", "values", "()[Lcom/example/couverture/couverture/io/MarginReport$Format;"⟩ : MethodName) prog_27_method_1_code 0 (some (.array (.object "com/example/couverture/couverture/io/MarginReport$Format"))) ({ frames := 1, cells := 1, slots := 2, locals := 14 } : Room) #[] [] (fun v O' => ∃ na, v = some (.ref na) ∧ O' = [(na, true, AryR Γ "[Lcom/example/couverture/couverture/io/MarginReport$Format;" (.object "com/example/couverture/couverture/io/MarginReport$Format") [.ref cv, .ref js])]) := by
  refine Met.intro pn_com_example_couverture_couverture_io_MarginReport_Format (Ls := []) (fun m => by first | rfl | (simp [entryFrame, mkF, argsToLocals, Value.category]; done)) ?_
  intro F
  obtain ⟨sva, scv, sjs, sem, ⟨cva, xva, yva⟩, ⟨ccv, xcv, ycv⟩, ⟨cjs, xjs, yjs⟩, ⟨clc, xlc, ylc⟩, ⟨clj, xlj, ylj⟩, ⟨cbc, xbc, ybc⟩, ⟨cbj, xbj, ybj⟩, ⟨cem, xem, yem⟩⟩ := hf
  refine R_share xva yva ?_
  refine R_getstatic d_prog_27_method_1_code_0 (hw _ (mem 33 rfl)) Via.refl sva ?_
  refine R_cloneR 2 d_prog_27_method_1_code_3 (mem 0 rfl) (by decide) (hw _ (mem 35 rfl)) (hw _ (mem 36 rfl)) (hw _ (mem 40 rfl)) (hw _ (mem 38 rfl)) (hw _ (mem 39 rfl)) (hw _ (mem 41 rfl)) rfl (Nat.le_of_ble_eq_true rfl) (Nat.le_of_ble_eq_true rfl) (Nat.le_of_ble_eq_true rfl) (Nat.le_of_ble_eq_true rfl) (Nat.le_of_ble_eq_true rfl) fun na => ?_
  refine R_checkcastRSelf d_prog_27_method_1_code_6 (hw _ (mem 45 rfl)) (mem 0 rfl) (by decide) ?_
  refine R_drop 1 ?_
  try dsimp only [List.set_cons_zero, List.set_cons_succ, List.eraseIdx_cons_zero, List.eraseIdx_cons_succ, List.cons_append, List.nil_append, Option.toList]
  exact R_areturn d_prog_27_method_1_code_9 rfl rfl rfl ⟨na, rfl, rfl⟩ (Nat.le_of_ble_eq_true rfl) (Nat.le_of_ble_eq_true rfl)

set_option maxRecDepth 65536 in
set_option maxHeartbeats 4000000 in
theorem M_rnn {Γ : Gx} (hw : Words Γ) (a : Addr) :
    Met Γ (⟨"java/util/Objects", "requireNonNull", "(Ljava/lang/Object;)Ljava/lang/Object;"⟩ : MethodName) jdk_31_method_10_code 1 (some (.object "java/lang/Object")) ({ frames := 0, cells := 0, slots := 0, locals := 0 } : Room) #[(.ref a)] [] (fun v O' => v = some (.ref a) ∧ O' = []) := by
  refine Met.intro pn_java_util_Objects (Ls := [.val (.ref a)]) (fun m => by first | rfl | (simp [entryFrame, mkF, argsToLocals, Value.category]; done)) ?_
  intro F
  refine R_aloadN d_jdk_31_method_10_code_0 rfl rfl ?_
  refine R_ifnonnull (pc' := 12) d_jdk_31_method_10_code_1 rfl (by decide) (by decide) (fun h => ?_) (fun h => ?_)
  · refine R_aloadN d_jdk_31_method_10_code_12 rfl rfl ?_
    exact R_areturn d_jdk_31_method_10_code_13 rfl rfl rfl ⟨rfl, rfl⟩ (Nat.le_of_ble_eq_true rfl) (Nat.le_of_ble_eq_true rfl)
  · exact absurd h (by simp)

set_option maxRecDepth 65536 in
set_option maxHeartbeats 4000000 in
theorem M_oinit {Γ : Gx} (hw : Words Γ) (o a : Addr) :
    Met Γ (⟨"java/util/Optional", "<init>", "(Ljava/lang/Object;)V"⟩ : MethodName) jdk_32_method_2_code 2 none ({ frames := 1, cells := 0, slots := 0, locals := 12 } : Room) #[(.ref o), (.ref a)] [(o, true, OptO Γ .null)] (fun v O' => v = none ∧ O' = [(o, true, OptO Γ (.ref a))]) := by
  refine Met.intro pn_java_util_Optional (Ls := [.val (.ref o), .val (.ref a)]) (fun m => by first | rfl | (simp [entryFrame, mkF, argsToLocals, Value.category]; done)) ?_
  intro F
  refine R_aloadN d_jdk_32_method_2_code_0 rfl rfl ?_
  refine R_initO d_jdk_32_method_2_code_1 (hw _ (mem 95 rfl)) (hw _ (mem 16 rfl)) (hw _ (mem 17 rfl)) rfl (Nat.le_of_ble_eq_true rfl) (Nat.le_of_ble_eq_true rfl) ?_
  refine R_aloadN d_jdk_32_method_2_code_4 rfl rfl ?_
  refine R_aloadN d_jdk_32_method_2_code_5 rfl rfl ?_
  refine R_putfield 0 0 d_jdk_32_method_2_code_6 (hw _ (mem 70 rfl)) Via.refl rfl rfl rfl (Or.inr ⟨(hw _ (mem 71 rfl)), rfl, rfl⟩) (hw _ (mem 86 rfl)) (ty := (.object "java/lang/Object")) (by decide) _ rfl rfl ?_
  try dsimp only [List.set_cons_zero, List.set_cons_succ, List.eraseIdx_cons_zero, List.eraseIdx_cons_succ, List.cons_append, List.nil_append, Option.toList]
  exact R_return d_jdk_32_method_2_code_9 rfl ⟨rfl, rfl⟩ (Nat.le_of_ble_eq_true rfl) (Nat.le_of_ble_eq_true rfl)

set_option maxRecDepth 65536 in
set_option maxHeartbeats 4000000 in
theorem M_of {Γ : Gx} (hw : Words Γ) (a : Addr) :
    Met Γ (⟨"java/util/Optional", "of", "(Ljava/lang/Object;)Ljava/util/Optional;"⟩ : MethodName) jdk_32_method_3_code 1 (some (.object "java/util/Optional")) ({ frames := 2, cells := 1, slots := 1, locals := 26 } : Room) #[(.ref a)] [] (fun v O' => ∃ o, v = some (.ref o) ∧ O' = [(o, true, OptO Γ (.ref a))]) := by
  refine Met.intro pn_java_util_Optional (Ls := [.val (.ref a)]) (fun m => by first | rfl | (simp [entryFrame, mkF, argsToLocals, Value.category]; done)) ?_
  intro F
  refine R_new _ d_jdk_32_method_3_code_0 (hw _ (mem 85 rfl)) (hw _ (mem 86 rfl)) (hw _ (mem 62 rfl)) (laid_java_util_Optional hw) (Nat.le_of_ble_eq_true rfl) (Nat.le_of_ble_eq_true rfl) fun o => ?_
  refine R_dup d_jdk_32_method_3_code_3 rfl ?_
  refine R_aloadN d_jdk_32_method_3_code_4 rfl rfl ?_
  refine R_call (S_static (as := [_]) (rest := _) d_jdk_32_method_3_code_5 (hw _ (mem 87 rfl)) (hw _ (mem 88 rfl)) (hw _ (mem 89 rfl)) (hw _ (mem 90 rfl)) (by decide) pd_oLjava_lang_Object_cLjava_lang_Object_ rfl rfl rfl) (M_rnn hw a) pk0 (hw _ (mem 90 rfl)) (hw _ (mem 89 rfl)) (Nat.le_of_ble_eq_true rfl) (Nat.le_of_ble_eq_true rfl) (Nat.le_of_ble_eq_true rfl) (Nat.le_of_ble_eq_true rfl) ?_
  rintro _ _ ⟨rfl, rfl⟩
  try dsimp only [List.set_cons_zero, List.set_cons_succ, List.eraseIdx_cons_zero, List.eraseIdx_cons_succ, List.cons_append, List.nil_append, Option.toList]
  refine R_call (S_special (as := [_]) (rest := _) d_jdk_32_method_3_code_8 rfl (hw _ (mem 91 rfl)) (hw _ (mem 92 rfl)) (hw _ (mem 94 rfl)) (by decide) pd_oLjava_lang_Object_cV rfl rfl rfl) (M_oinit hw o a) (pkS 0 rfl pk0) (hw _ (mem 94 rfl)) (hw _ (mem 62 rfl)) (Nat.le_of_ble_eq_true rfl) (Nat.le_of_ble_eq_true rfl) (Nat.le_of_ble_eq_true rfl) (Nat.le_of_ble_eq_true rfl) ?_
  rintro _ _ ⟨rfl, rfl⟩
  try dsimp only [List.set_cons_zero, List.set_cons_succ, List.eraseIdx_cons_zero, List.eraseIdx_cons_succ, List.cons_append, List.nil_append, Option.toList]
  exact R_areturn d_jdk_32_method_3_code_11 rfl rfl rfl ⟨o, rfl, rfl⟩ (Nat.le_of_ble_eq_true rfl) (Nat.le_of_ble_eq_true rfl)

set_option maxRecDepth 65536 in
set_option maxHeartbeats 4000000 in
theorem M_empty {Γ : Gx} (hw : Words Γ) (va cv js lc lj bc bj em : Addr) (hf : Fmt Γ va cv js lc lj bc bj em) :
    Met Γ (⟨"java/util/Optional", "empty", "()Ljava/util/Optional;"⟩ : MethodName) jdk_32_method_1_code 1 (some (.object "java/util/Optional")) ({ frames := 0, cells := 0, slots := 0, locals := 0 } : Room) #[] [] (fun v O' => v = some (.ref em) ∧ O' = []) := by
  refine Met.intro pn_java_util_Optional (Ls := [.unset]) (fun m => by first | rfl | (simp [entryFrame, mkF, argsToLocals, Value.category]; done)) ?_
  intro F
  obtain ⟨sva, scv, sjs, sem, ⟨cva, xva, yva⟩, ⟨ccv, xcv, ycv⟩, ⟨cjs, xjs, yjs⟩, ⟨clc, xlc, ylc⟩, ⟨clj, xlj, ylj⟩, ⟨cbc, xbc, ybc⟩, ⟨cbj, xbj, ybj⟩, ⟨cem, xem, yem⟩⟩ := hf
  refine R_getstatic d_jdk_32_method_1_code_0 (hw _ (mem 64 rfl)) Via.refl sem ?_
  refine R_astoreN d_jdk_32_method_1_code_3 rfl rfl (by first | exact Or.inl rfl | exact Or.inr ⟨_, rfl, rfl⟩) ?_
  try dsimp only [List.set_cons_zero, List.set_cons_succ, List.eraseIdx_cons_zero, List.eraseIdx_cons_succ, List.cons_append, List.nil_append, Option.toList]
  refine R_aloadN d_jdk_32_method_1_code_4 rfl rfl ?_
  exact R_areturn d_jdk_32_method_1_code_5 rfl rfl rfl ⟨rfl, rfl⟩ (Nat.le_of_ble_eq_true rfl) (Nat.le_of_ble_eq_true rfl)

set_option maxRecDepth 65536 in
set_option maxHeartbeats 4000000 in
theorem M_orElse {Γ : Gx} (hw : Words Γ) (o a : Addr) (b : Bool) :
    Met Γ (⟨"java/util/Optional", "orElse", "(Ljava/lang/Object;)Ljava/lang/Object;"⟩ : MethodName) jdk_32_method_15_code 2 (some (.object "java/lang/Object")) ({ frames := 0, cells := 0, slots := 0, locals := 0 } : Room) #[(.ref o), .null] [(o, b, OptO Γ (.ref a))] (fun v O' => v = some (.ref a) ∧ O' = [(o, b, OptO Γ (.ref a))]) := by
  refine Met.intro pn_java_util_Optional (Ls := [.val (.ref o), .val .null]) (fun m => by first | rfl | (simp [entryFrame, mkF, argsToLocals, Value.category]; done)) ?_
  intro F
  refine R_aloadN d_jdk_32_method_15_code_0 rfl rfl ?_
  refine R_getfield d_jdk_32_method_15_code_1 (hw _ (mem 70 rfl)) Via.refl (mem 0 rfl) (mem 0 rfl) ?_
  refine R_ifnull (pc' := 14) d_jdk_32_method_15_code_4 rfl (by decide) (by decide) (fun h => ?_) (fun h => ?_)
  · exact absurd h (by simp)
  · refine R_aloadN d_jdk_32_method_15_code_7 rfl rfl ?_
    refine R_getfield d_jdk_32_method_15_code_8 (hw _ (mem 70 rfl)) Via.refl (mem 0 rfl) (mem 0 rfl) ?_
    refine R_goto (pc' := 15) d_jdk_32_method_15_code_11 (by decide) (by decide) ?_
    exact R_areturn d_jdk_32_method_15_code_15 rfl rfl rfl ⟨rfl, rfl⟩ (Nat.le_of_ble_eq_true rfl) (Nat.le_of_ble_eq_true rfl)

set_option maxRecDepth 65536 in
set_option maxHeartbeats 4000000 in
theorem M_orElseN {Γ : Gx} (hw : Words Γ) (o a : Addr) (b : Bool) :
    Met Γ (⟨"java/util/Optional", "orElse", "(Ljava/lang/Object;)Ljava/lang/Object;"⟩ : MethodName) jdk_32_method_15_code 2 (some (.object "java/lang/Object")) ({ frames := 0, cells := 0, slots := 0, locals := 0 } : Room) #[(.ref o), .null] [(o, b, OptO Γ .null)] (fun v O' => v = some .null ∧ O' = [(o, b, OptO Γ .null)]) := by
  refine Met.intro pn_java_util_Optional (Ls := [.val (.ref o), .val .null]) (fun m => by first | rfl | (simp [entryFrame, mkF, argsToLocals, Value.category]; done)) ?_
  intro F
  refine R_aloadN d_jdk_32_method_15_code_0 rfl rfl ?_
  refine R_getfield d_jdk_32_method_15_code_1 (hw _ (mem 70 rfl)) Via.refl (mem 0 rfl) (mem 0 rfl) ?_
  refine R_ifnull (pc' := 14) d_jdk_32_method_15_code_4 rfl (by decide) (by decide) (fun h => ?_) (fun h => ?_)
  · refine R_aloadN d_jdk_32_method_15_code_14 rfl rfl ?_
    exact R_areturn d_jdk_32_method_15_code_15 rfl rfl rfl ⟨rfl, rfl⟩ (Nat.le_of_ble_eq_true rfl) (Nat.le_of_ble_eq_true rfl)
  · exact absurd rfl h

set_option maxRecDepth 65536 in
set_option maxHeartbeats 4000000 in
theorem M_label {Γ : Gx} (hw : Words Γ) (f l : Addr) (b : Bool) :
    Met Γ (⟨"com/example/couverture/couverture/io/MarginReport$Format", "label", "()Ljava/lang/String;"⟩ : MethodName) prog_27_method_4_code 1 (some (.object "java/lang/String")) ({ frames := 0, cells := 0, slots := 0, locals := 0 } : Room) #[(.ref f)] [(f, b, FmtO Γ l)] (fun v O' => v = some (.ref l) ∧ O' = [(f, b, FmtO Γ l)]) := by
  refine Met.intro pn_com_example_couverture_couverture_io_MarginReport_Format (Ls := [.val (.ref f)]) (fun m => by first | rfl | (simp [entryFrame, mkF, argsToLocals, Value.category]; done)) ?_
  intro F
  refine R_aloadN d_prog_27_method_4_code_0 rfl rfl ?_
  refine R_getfield d_prog_27_method_4_code_1 (hw _ (mem 47 rfl)) Via.refl (mem 0 rfl) (mem 0 rfl) ?_
  exact R_areturn d_prog_27_method_4_code_4 rfl rfl rfl ⟨rfl, rfl⟩ (Nat.le_of_ble_eq_true rfl) (Nat.le_of_ble_eq_true rfl)

set_option maxRecDepth 65536 in
set_option maxHeartbeats 4000000 in
theorem M_named {Γ : Gx} (hw : Words Γ) (hcs : CS Γ) (va cv js lc lj bc bj em : Addr) (hf : Fmt Γ va cv js lc lj bc bj em) (s t : Addr) (bt : Bool) (ad : String) (mo : List Fd) (bs : List Int32) :
    Met Γ (⟨"com/example/couverture/couverture/io/MarginReport$Format", "named", "(Ljava/lang/String;)Ljava/util/Optional;"⟩ : MethodName) prog_27_method_5_code 5 (some (.object "java/util/Optional")) ({ frames := 3, cells := 2, slots := 3, locals := 38 } : Room) #[(.ref s)] [(s, true, StrO Γ t mo), (t, bt, Ary Γ ad .byte (bs.map Value.int))] (fun v O' => ∃ (o : Addr) (b : Bool), v = some (.ref o) ∧ O' = (o, b, OptO Γ (if bs = lC then .ref cv else if bs = lJ then .ref js else .null)) :: [(s, true, StrO Γ t mo), (t, bt, Ary Γ ad .byte (bs.map Value.int))]) := by
  refine Met.intro pn_com_example_couverture_couverture_io_MarginReport_Format (Ls := [.val (.ref s), .unset, .unset, .unset, .unset]) (fun m => by first | rfl | (simp [entryFrame, mkF, argsToLocals, Value.category]; done)) ?_
  intro F
  refine R_call (S_static (as := []) (rest := _) d_prog_27_method_5_code_0 (hw _ (mem 30 rfl)) (hw _ (mem 31 rfl)) (hw _ (mem 28 rfl)) (hw _ (mem 32 rfl)) (by decide) pd_ocaLcom_example_couverture_couverture_io_MarginReportdFormat_ rfl rfl rfl) (M_values hw va cv js lc lj bc bj em hf) pk0 (hw _ (mem 32 rfl)) (hw _ (mem 28 rfl)) (Nat.le_of_ble_eq_true rfl) (Nat.le_of_ble_eq_true rfl) (Nat.le_of_ble_eq_true rfl) (Nat.le_of_ble_eq_true rfl) ?_
  rintro _ _ ⟨na, rfl, rfl⟩
  try dsimp only [List.set_cons_zero, List.set_cons_succ, List.eraseIdx_cons_zero, List.eraseIdx_cons_succ, List.cons_append, List.nil_append, Option.toList]
  obtain ⟨sva, scv, sjs, sem, ⟨cva, xva, yva⟩, ⟨ccv, xcv, ycv⟩, ⟨cjs, xjs, yjs⟩, ⟨clc, xlc, ylc⟩, ⟨clj, xlj, ylj⟩, ⟨cbc, xbc, ybc⟩, ⟨cbj, xbj, ybj⟩, ⟨cem, xem, yem⟩⟩ := id hf
  refine R_share xcv ycv ?_
  refine R_share xjs yjs ?_
  refine R_share xlc ylc ?_
  refine R_share xlj ylj ?_
  refine R_share xbc ybc ?_
  refine R_share xbj ybj ?_
  refine R_share xem yem ?_
  refine R_astoreN d_prog_27_method_5_code_3 rfl rfl (by first | exact Or.inl rfl | exact Or.inr ⟨_, rfl, rfl⟩) ?_
  try dsimp only [List.set_cons_zero, List.set_cons_succ, List.eraseIdx_cons_zero, List.eraseIdx_cons_succ, List.cons_append, List.nil_append, Option.toList]
  refine R_aloadN d_prog_27_method_5_code_4 rfl rfl ?_
  refine R_arraylengthR d_prog_27_method_5_code_5 (mem 7 rfl) 2 rfl ?_
  refine R_istoreN d_prog_27_method_5_code_6 rfl (by first | exact Or.inl rfl | exact Or.inr ⟨_, rfl, rfl⟩) ?_
  try dsimp only [List.set_cons_zero, List.set_cons_succ, List.eraseIdx_cons_zero, List.eraseIdx_cons_succ, List.cons_append, List.nil_append, Option.toList]
  refine R_iconst (0) d_prog_27_method_5_code_7 (by decide) ?_
  refine R_istoreN d_prog_27_method_5_code_8 rfl (by first | exact Or.inl rfl | exact Or.inr ⟨_, rfl, rfl⟩) ?_
  try dsimp only [List.set_cons_zero, List.set_cons_succ, List.eraseIdx_cons_zero, List.eraseIdx_cons_succ, List.cons_append, List.nil_append, Option.toList]
  refine R_iloadN d_prog_27_method_5_code_9 rfl ?_
  refine R_iloadN d_prog_27_method_5_code_10 rfl ?_
  refine R_icmp_ge (pc' := 43) d_prog_27_method_5_code_11 (by decide) (by decide) (fun g => ?_) (fun g => ?_)
  · exact absurd (by decide) g
  · refine R_aloadN d_prog_27_method_5_code_14 rfl rfl ?_
    refine R_iloadN d_prog_27_method_5_code_15 rfl ?_
    refine R_aaloadR d_prog_27_method_5_code_16 (mem 7 rfl) rfl (by decide) 0 rfl rfl ?_
    refine R_astore d_prog_27_method_5_code_17 rfl rfl (by first | exact Or.inl rfl | exact Or.inr ⟨_, rfl, rfl⟩) ?_
    try dsimp only [List.set_cons_zero, List.set_cons_succ, List.eraseIdx_cons_zero, List.eraseIdx_cons_succ, List.cons_append, List.nil_append, Option.toList]
    refine R_aload d_prog_27_method_5_code_19 rfl rfl ?_
    refine R_getfield d_prog_27_method_5_code_21 (hw _ (mem 47 rfl)) Via.refl (mem 6 rfl) (mem 0 rfl) ?_
    refine R_aloadN d_prog_27_method_5_code_24 rfl rfl ?_
    refine R_call (S_virtual (as := [_]) (rest := _) (mem 4 rfl) d_prog_27_method_5_code_25 (hw _ (mem 49 rfl)) (hw _ (mem 50 rfl)) (nf_sel (hw _ (mem 52 rfl))) (hw _ (mem 52 rfl)) (hw _ (mem 51 rfl)) (by decide) pd_oLjava_lang_Object_cZ rfl rfl rfl) (M_eq hw hcs lc s bc t false true false bt [] mo "" ad lC bs) (pkS 4 rfl (pkS 2 rfl (pkS 6 rfl (pkS 6 rfl pk0)))) (hw _ (mem 53 rfl)) (hw _ (mem 6 rfl)) (Nat.le_of_ble_eq_true rfl) (Nat.le_of_ble_eq_true rfl) (Nat.le_of_ble_eq_true rfl) (Nat.le_of_ble_eq_true rfl) ?_
    rintro _ _ ⟨rfl, rfl⟩
    try dsimp only [List.set_cons_zero, List.set_cons_succ, List.eraseIdx_cons_zero, List.eraseIdx_cons_succ, List.cons_append, List.nil_append, Option.toList]
    refine R_if_eq (pc' := 37) d_prog_27_method_5_code_28 (by decide) (by decide) (fun h0 => ?_) (fun h0 => ?_)
    · have n0 : ¬ bs = lC := fun q => by subst q; simp at h0
      refine R_iinc (1) d_prog_27_method_5_code_37 (by decide) rfl ?_
      try dsimp only [List.set_cons_zero, List.set_cons_succ, List.eraseIdx_cons_zero, List.eraseIdx_cons_succ, List.cons_append, List.nil_append, Option.toList]
      refine R_goto (pc' := 9) d_prog_27_method_5_code_40 (by decide) (by decide) ?_
      refine R_iloadN d_prog_27_method_5_code_9 rfl ?_
      refine R_iloadN d_prog_27_method_5_code_10 rfl ?_
      refine R_icmp_ge (pc' := 43) d_prog_27_method_5_code_11 (by decide) (by decide) (fun g0 => ?_) (fun g0 => ?_)
      · exact absurd (by decide) g0
      · refine R_aloadN d_prog_27_method_5_code_14 rfl rfl ?_
        refine R_iloadN d_prog_27_method_5_code_15 rfl ?_
        refine R_aaloadR d_prog_27_method_5_code_16 (mem 9 rfl) rfl (by decide) 1 rfl rfl ?_
        refine R_astore d_prog_27_method_5_code_17 rfl rfl (by first | exact Or.inl rfl | exact Or.inr ⟨_, rfl, rfl⟩) ?_
        try dsimp only [List.set_cons_zero, List.set_cons_succ, List.eraseIdx_cons_zero, List.eraseIdx_cons_succ, List.cons_append, List.nil_append, Option.toList]
        refine R_aload d_prog_27_method_5_code_19 rfl rfl ?_
        refine R_getfield d_prog_27_method_5_code_21 (hw _ (mem 47 rfl)) Via.refl (mem 7 rfl) (mem 0 rfl) ?_
        refine R_aloadN d_prog_27_method_5_code_24 rfl rfl ?_
        refine R_call (S_virtual (as := [_]) (rest := _) (mem 6 rfl) d_prog_27_method_5_code_25 (hw _ (mem 49 rfl)) (hw _ (mem 50 rfl)) (nf_sel (hw _ (mem 52 rfl))) (hw _ (mem 52 rfl)) (hw _ (mem 51 rfl)) (by decide) pd_oLjava_lang_Object_cZ rfl rfl rfl) (M_eq hw hcs lj s bj t false true false bt [] mo "" ad lJ bs) (pkS 6 rfl (pkS 5 rfl (pkS 2 rfl (pkS 2 rfl pk0)))) (hw _ (mem 53 rfl)) (hw _ (mem 6 rfl)) (Nat.le_of_ble_eq_true rfl) (Nat.le_of_ble_eq_true rfl) (Nat.le_of_ble_eq_true rfl) (Nat.le_of_ble_eq_true rfl) ?_
        rintro _ _ ⟨rfl, rfl⟩
        try dsimp only [List.set_cons_zero, List.set_cons_succ, List.eraseIdx_cons_zero, List.eraseIdx_cons_succ, List.cons_append, List.nil_append, Option.toList]
        refine R_if_eq (pc' := 37) d_prog_27_method_5_code_28 (by decide) (by decide) (fun h1 => ?_) (fun h1 => ?_)
        · have n1 : ¬ bs = lJ := fun q => by subst q; simp at h1
          refine R_iinc (1) d_prog_27_method_5_code_37 (by decide) rfl ?_
          try dsimp only [List.set_cons_zero, List.set_cons_succ, List.eraseIdx_cons_zero, List.eraseIdx_cons_succ, List.cons_append, List.nil_append, Option.toList]
          refine R_goto (pc' := 9) d_prog_27_method_5_code_40 (by decide) (by decide) ?_
          refine R_iloadN d_prog_27_method_5_code_9 rfl ?_
          refine R_iloadN d_prog_27_method_5_code_10 rfl ?_
          refine R_icmp_ge (pc' := 43) d_prog_27_method_5_code_11 (by decide) (by decide) (fun g1 => ?_) (fun g1 => ?_)
          · refine R_call (S_static (as := []) (rest := _) d_prog_27_method_5_code_43 (hw _ (mem 60 rfl)) (hw _ (mem 61 rfl)) (hw _ (mem 62 rfl)) (hw _ (mem 63 rfl)) (by decide) pd_ocLjava_util_Optional_ rfl rfl rfl) (M_empty hw va cv js lc lj bc bj em hf) pk0 (hw _ (mem 63 rfl)) (hw _ (mem 62 rfl)) (Nat.le_of_ble_eq_true rfl) (Nat.le_of_ble_eq_true rfl) (Nat.le_of_ble_eq_true rfl) (Nat.le_of_ble_eq_true rfl) ?_
            rintro _ _ ⟨rfl, rfl⟩
            try dsimp only [List.set_cons_zero, List.set_cons_succ, List.eraseIdx_cons_zero, List.eraseIdx_cons_succ, List.cons_append, List.nil_append, Option.toList]
            refine R_drop 0 ?_
            refine R_drop 0 ?_
            refine R_drop 2 ?_
            refine R_drop 2 ?_
            refine R_drop 3 ?_
            refine R_drop 3 ?_
            refine R_drop 3 ?_
            try dsimp only [List.set_cons_zero, List.set_cons_succ, List.eraseIdx_cons_zero, List.eraseIdx_cons_succ, List.cons_append, List.nil_append, Option.toList]
            refine R_order (pkS 2 rfl (pkS 0 rfl (pkS 0 rfl pk0))) ?_
            try dsimp only [List.set_cons_zero, List.set_cons_succ, List.eraseIdx_cons_zero, List.eraseIdx_cons_succ, List.cons_append, List.nil_append, Option.toList]
            have eQ : (if bs = lC then Value.ref cv else if bs = lJ then .ref js else .null) = .null := by rw [if_neg n0, if_neg n1]
            exact R_areturn d_prog_27_method_5_code_46 rfl rfl rfl ⟨em, false, rfl, by rw [eQ]⟩ (Nat.le_of_ble_eq_true rfl) (Nat.le_of_ble_eq_true rfl)
          · exact absurd g1 (by decide)
        · have e1 : bs = lJ := by
            by_cases q : lJ = bs
            · exact q.symm
            · simp [q] at h1
          refine R_aload d_prog_27_method_5_code_31 rfl rfl ?_
          refine R_call (S_static (as := [_]) (rest := _) d_prog_27_method_5_code_33 (hw _ (mem 82 rfl)) (hw _ (mem 83 rfl)) (hw _ (mem 62 rfl)) (hw _ (mem 84 rfl)) (by decide) pd_oLjava_lang_Object_cLjava_util_Optional_ rfl rfl rfl) (M_of hw js) pk0 (hw _ (mem 84 rfl)) (hw _ (mem 62 rfl)) (Nat.le_of_ble_eq_true rfl) (Nat.le_of_ble_eq_true rfl) (Nat.le_of_ble_eq_true rfl) (Nat.le_of_ble_eq_true rfl) ?_
          rintro _ _ ⟨o, rfl, rfl⟩
          try dsimp only [List.set_cons_zero, List.set_cons_succ, List.eraseIdx_cons_zero, List.eraseIdx_cons_succ, List.cons_append, List.nil_append, Option.toList]
          refine R_drop 1 ?_
          refine R_drop 1 ?_
          refine R_drop 3 ?_
          refine R_drop 3 ?_
          refine R_drop 3 ?_
          refine R_drop 3 ?_
          refine R_drop 3 ?_
          refine R_drop 3 ?_
          try dsimp only [List.set_cons_zero, List.set_cons_succ, List.eraseIdx_cons_zero, List.eraseIdx_cons_succ, List.cons_append, List.nil_append, Option.toList]
          refine R_order (pkS 0 rfl (pkS 0 rfl (pkS 0 rfl pk0))) ?_
          try dsimp only [List.set_cons_zero, List.set_cons_succ, List.eraseIdx_cons_zero, List.eraseIdx_cons_succ, List.cons_append, List.nil_append, Option.toList]
          have eQ : (if bs = lC then Value.ref cv else if bs = lJ then .ref js else .null) = .ref js := by rw [if_neg n0, if_pos e1]
          exact R_areturn d_prog_27_method_5_code_36 rfl rfl rfl ⟨o, true, rfl, by rw [eQ]⟩ (Nat.le_of_ble_eq_true rfl) (Nat.le_of_ble_eq_true rfl)
    · have e0 : bs = lC := by
        by_cases q : lC = bs
        · exact q.symm
        · simp [q] at h0
      refine R_aload d_prog_27_method_5_code_31 rfl rfl ?_
      refine R_call (S_static (as := [_]) (rest := _) d_prog_27_method_5_code_33 (hw _ (mem 82 rfl)) (hw _ (mem 83 rfl)) (hw _ (mem 62 rfl)) (hw _ (mem 84 rfl)) (by decide) pd_oLjava_lang_Object_cLjava_util_Optional_ rfl rfl rfl) (M_of hw cv) pk0 (hw _ (mem 84 rfl)) (hw _ (mem 62 rfl)) (Nat.le_of_ble_eq_true rfl) (Nat.le_of_ble_eq_true rfl) (Nat.le_of_ble_eq_true rfl) (Nat.le_of_ble_eq_true rfl) ?_
      rintro _ _ ⟨o, rfl, rfl⟩
      try dsimp only [List.set_cons_zero, List.set_cons_succ, List.eraseIdx_cons_zero, List.eraseIdx_cons_succ, List.cons_append, List.nil_append, Option.toList]
      refine R_drop 1 ?_
      refine R_drop 1 ?_
      refine R_drop 3 ?_
      refine R_drop 3 ?_
      refine R_drop 3 ?_
      refine R_drop 3 ?_
      refine R_drop 3 ?_
      refine R_drop 3 ?_
      try dsimp only [List.set_cons_zero, List.set_cons_succ, List.eraseIdx_cons_zero, List.eraseIdx_cons_succ, List.cons_append, List.nil_append, Option.toList]
      refine R_order (pkS 0 rfl (pkS 0 rfl (pkS 0 rfl pk0))) ?_
      try dsimp only [List.set_cons_zero, List.set_cons_succ, List.eraseIdx_cons_zero, List.eraseIdx_cons_succ, List.cons_append, List.nil_append, Option.toList]
      have eQ : (if bs = lC then Value.ref cv else if bs = lJ then .ref js else .null) = .ref cv := if_pos e0
      exact R_areturn d_prog_27_method_5_code_36 rfl rfl rfl ⟨o, true, rfl, by rw [eQ]⟩ (Nat.le_of_ble_eq_true rfl) (Nat.le_of_ble_eq_true rfl)

set_option maxRecDepth 65536 in
set_option maxHeartbeats 4000000 in
theorem T_254 {Γ : Gx} (hw : Words Γ) (hcs : CS Γ) (hG : Lits Γ) (va cv js lc lj bc bj em : Addr) (hf : Fmt Γ va cv js lc lj bc bj em) (p0 p1 p2 md lnv d0 d1 d2 d3 kk ee : Int32) (s t : Addr) (bt : Bool) (ad : String) (bs : List Int32) (ci ji : Int32) (hci : ci = (if bs = lC then 1 else 0)) (hji : ji = (if bs = lJ then 1 else 0)) (F : OL) :
    Run Γ (x, code, maxLocals, ret, room_1, (fun v O' => v = some (.int 1)), F) 10 40 [(s, true, StrO Γ t more0), (t, bt, Ary Γ ad .byte (bs.map Value.int))] 254 [.val (.int p0), .val (.int p1), .val (.int p2), .val (.int md), .val (.int lnv), .val (.int d0), .val (.int d1), .val (.int d2), .val (.int d3), .val (.int kk), .val (.int ee), .val (.ref s), .val (.int ci), .val (.int ji), .unset, .unset] [] := by
  refine R_aload at_254 rfl rfl ?_
  refine R_call (S_static (as := [_]) (rest := _) at_256 (hw _ (mem 26 rfl)) (hw _ (mem 27 rfl)) (hw _ (mem 28 rfl)) (hw _ (mem 29 rfl)) (by decide) pd_oLjava_lang_String_cLjava_util_Optional_ rfl rfl rfl) (M_named hw hcs va cv js lc lj bc bj em hf s t bt ad more0 bs) (pkS 0 rfl (pkS 0 rfl pk0)) (hw _ (mem 29 rfl)) (hw _ (mem 28 rfl)) (Nat.le_of_ble_eq_true rfl) (Nat.le_of_ble_eq_true rfl) (Nat.le_of_ble_eq_true rfl) (Nat.le_of_ble_eq_true rfl) ?_
  rintro _ _ ⟨o, bo, rfl, rfl⟩
  try dsimp only [List.set_cons_zero, List.set_cons_succ, List.eraseIdx_cons_zero, List.eraseIdx_cons_succ, List.cons_append, List.nil_append, Option.toList]
  obtain ⟨sva, scv, sjs, sem, ⟨cva, xva, yva⟩, ⟨ccv, xcv, ycv⟩, ⟨cjs, xjs, yjs⟩, ⟨clc, xlc, ylc⟩, ⟨clj, xlj, ylj⟩, ⟨cbc, xbc, ybc⟩, ⟨cbj, xbj, ybj⟩, ⟨cem, xem, yem⟩⟩ := id hf
  subst hci hji
  by_cases qc : bs = lC
  · rw [if_pos qc]
    rw [if_pos qc, if_neg (fun q => by rw [qc] at q; exact absurd q (by decide))]
    refine R_astore at_259 rfl rfl (by first | exact Or.inl rfl | exact Or.inr ⟨_, rfl, rfl⟩) ?_
    try dsimp only [List.set_cons_zero, List.set_cons_succ, List.eraseIdx_cons_zero, List.eraseIdx_cons_succ, List.cons_append, List.nil_append, Option.toList]
    refine R_aload at_261 rfl rfl ?_
    refine R_aconst_null at_263 ?_
    refine R_call (S_virtual (as := [_]) (rest := _) (mem 0 rfl) at_264 (hw _ (mem 65 rfl)) (hw _ (mem 66 rfl)) (nf_sel (hw _ (mem 68 rfl))) (hw _ (mem 68 rfl)) (hw _ (mem 67 rfl)) (by decide) pd_oLjava_lang_Object_cLjava_lang_Object_ rfl rfl rfl) (M_orElse hw o cv bo) (pkS 0 rfl pk0) (hw _ (mem 69 rfl)) (hw _ (mem 62 rfl)) (Nat.le_of_ble_eq_true rfl) (Nat.le_of_ble_eq_true rfl) (Nat.le_of_ble_eq_true rfl) (Nat.le_of_ble_eq_true rfl) ?_
    rintro _ _ ⟨rfl, rfl⟩
    try dsimp only [List.set_cons_zero, List.set_cons_succ, List.eraseIdx_cons_zero, List.eraseIdx_cons_succ, List.cons_append, List.nil_append, Option.toList]
    refine R_share xcv ycv ?_
    refine R_checkcastSelf at_267 (hw _ (mem 96 rfl)) (mem 0 rfl) ?_
    refine R_astore at_270 rfl rfl (by first | exact Or.inl rfl | exact Or.inr ⟨_, rfl, rfl⟩) ?_
    try dsimp only [List.set_cons_zero, List.set_cons_succ, List.eraseIdx_cons_zero, List.eraseIdx_cons_succ, List.cons_append, List.nil_append, Option.toList]
    refine R_iload at_272 rfl ?_
    refine R_if_eq (pc' := 304) at_274 (by decide) (by decide) (fun h3 => ?_) (fun h3 => ?_)
    · exact absurd h3 (by decide)
    · refine R_aload at_277 rfl rfl ?_
      refine R_getstatic at_279 (hw _ (mem 105 rfl)) Via.refl scv ?_
      refine R_acmp_ne (pc' := 302) at_282 rfl rfl (by decide) (by decide) (fun h4 => ?_) (fun h4 => ?_)
      · exact absurd rfl h4
      · refine R_aload at_285 rfl rfl ?_
        refine R_call (S_virtual (as := []) (rest := _) (mem 0 rfl) at_287 (hw _ (mem 99 rfl)) (hw _ (mem 100 rfl)) (nf_sel (hw _ (mem 102 rfl))) (hw _ (mem 102 rfl)) (hw _ (mem 101 rfl)) (by decide) pd_ocLjava_lang_String_ rfl rfl rfl) (M_label hw cv lc false) (pkS 0 rfl pk0) (hw _ (mem 103 rfl)) (hw _ (mem 28 rfl)) (Nat.le_of_ble_eq_true rfl) (Nat.le_of_ble_eq_true rfl) (Nat.le_of_ble_eq_true rfl) (Nat.le_of_ble_eq_true rfl) ?_
        rintro _ _ ⟨rfl, rfl⟩
        try dsimp only [List.set_cons_zero, List.set_cons_succ, List.eraseIdx_cons_zero, List.eraseIdx_cons_succ, List.cons_append, List.nil_append, Option.toList]
        refine R_aload at_290 rfl rfl ?_
        refine R_share xlc ylc ?_
        refine R_share xbc ybc ?_
        refine R_call (S_virtual (as := [_]) (rest := _) (mem 1 rfl) at_292 (hw _ (mem 104 rfl)) (hw _ (mem 50 rfl)) (nf_sel (hw _ (mem 52 rfl))) (hw _ (mem 52 rfl)) (hw _ (mem 51 rfl)) (by decide) pd_oLjava_lang_Object_cZ rfl rfl rfl) (M_eq hw hcs lc s bc t false true false bt [] more0 "" ad lC bs) (pkS 1 rfl (pkS 0 rfl (pkS 2 rfl (pkS 2 rfl pk0)))) (hw _ (mem 53 rfl)) (hw _ (mem 6 rfl)) (Nat.le_of_ble_eq_true rfl) (Nat.le_of_ble_eq_true rfl) (Nat.le_of_ble_eq_true rfl) (Nat.le_of_ble_eq_true rfl) ?_
        rintro _ _ ⟨rfl, rfl⟩
        try dsimp only [List.set_cons_zero, List.set_cons_succ, List.eraseIdx_cons_zero, List.eraseIdx_cons_succ, List.cons_append, List.nil_append, Option.toList]
        rw [if_pos (show lC = bs from qc.symm)]
        refine R_if_eq (pc' := 302) at_295 (by decide) (by decide) (fun h5 => ?_) (fun h5 => ?_)
        · exact absurd h5 (by decide)
        · refine R_iconst (1) at_298 (by decide) ?_
          refine R_goto (pc' := 303) at_299 (by decide) (by decide) ?_
          exact R_ireturnN at_303 rfl (by simp) rfl (Nat.le_of_ble_eq_true rfl) (Nat.le_of_ble_eq_true rfl)
  by_cases qj : bs = lJ
  · rw [if_neg qc, if_pos qj]
    rw [if_neg qc, if_pos qj]
    refine R_astore at_259 rfl rfl (by first | exact Or.inl rfl | exact Or.inr ⟨_, rfl, rfl⟩) ?_
    try dsimp only [List.set_cons_zero, List.set_cons_succ, List.eraseIdx_cons_zero, List.eraseIdx_cons_succ, List.cons_append, List.nil_append, Option.toList]
    refine R_aload at_261 rfl rfl ?_
    refine R_aconst_null at_263 ?_
    refine R_call (S_virtual (as := [_]) (rest := _) (mem 0 rfl) at_264 (hw _ (mem 65 rfl)) (hw _ (mem 66 rfl)) (nf_sel (hw _ (mem 68 rfl))) (hw _ (mem 68 rfl)) (hw _ (mem 67 rfl)) (by decide) pd_oLjava_lang_Object_cLjava_lang_Object_ rfl rfl rfl) (M_orElse hw o js bo) (pkS 0 rfl pk0) (hw _ (mem 69 rfl)) (hw _ (mem 62 rfl)) (Nat.le_of_ble_eq_true rfl) (Nat.le_of_ble_eq_true rfl) (Nat.le_of_ble_eq_true rfl) (Nat.le_of_ble_eq_true rfl) ?_
    rintro _ _ ⟨rfl, rfl⟩
    try dsimp only [List.set_cons_zero, List.set_cons_succ, List.eraseIdx_cons_zero, List.eraseIdx_cons_succ, List.cons_append, List.nil_append, Option.toList]
    refine R_share xjs yjs ?_
    refine R_checkcastSelf at_267 (hw _ (mem 96 rfl)) (mem 0 rfl) ?_
    refine R_astore at_270 rfl rfl (by first | exact Or.inl rfl | exact Or.inr ⟨_, rfl, rfl⟩) ?_
    try dsimp only [List.set_cons_zero, List.set_cons_succ, List.eraseIdx_cons_zero, List.eraseIdx_cons_succ, List.cons_append, List.nil_append, Option.toList]
    refine R_iload at_272 rfl ?_
    refine R_if_eq (pc' := 304) at_274 (by decide) (by decide) (fun h3 => ?_) (fun h3 => ?_)
    · refine R_iload at_304 rfl ?_
      refine R_if_eq (pc' := 336) at_306 (by decide) (by decide) (fun h6 => ?_) (fun h6 => ?_)
      · exact absurd h6 (by decide)
      · refine R_aload at_309 rfl rfl ?_
        refine R_getstatic at_311 (hw _ (mem 98 rfl)) Via.refl sjs ?_
        refine R_acmp_ne (pc' := 334) at_314 rfl rfl (by decide) (by decide) (fun h4 => ?_) (fun h4 => ?_)
        · exact absurd rfl h4
        · refine R_aload at_317 rfl rfl ?_
          refine R_call (S_virtual (as := []) (rest := _) (mem 0 rfl) at_319 (hw _ (mem 99 rfl)) (hw _ (mem 100 rfl)) (nf_sel (hw _ (mem 102 rfl))) (hw _ (mem 102 rfl)) (hw _ (mem 101 rfl)) (by decide) pd_ocLjava_lang_String_ rfl rfl rfl) (M_label hw js lj false) (pkS 0 rfl pk0) (hw _ (mem 103 rfl)) (hw _ (mem 28 rfl)) (Nat.le_of_ble_eq_true rfl) (Nat.le_of_ble_eq_true rfl) (Nat.le_of_ble_eq_true rfl) (Nat.le_of_ble_eq_true rfl) ?_
          rintro _ _ ⟨rfl, rfl⟩
          try dsimp only [List.set_cons_zero, List.set_cons_succ, List.eraseIdx_cons_zero, List.eraseIdx_cons_succ, List.cons_append, List.nil_append, Option.toList]
          refine R_aload at_322 rfl rfl ?_
          refine R_share xlj ylj ?_
          refine R_share xbj ybj ?_
          refine R_call (S_virtual (as := [_]) (rest := _) (mem 1 rfl) at_324 (hw _ (mem 104 rfl)) (hw _ (mem 50 rfl)) (nf_sel (hw _ (mem 52 rfl))) (hw _ (mem 52 rfl)) (hw _ (mem 51 rfl)) (by decide) pd_oLjava_lang_Object_cZ rfl rfl rfl) (M_eq hw hcs lj s bj t false true false bt [] more0 "" ad lJ bs) (pkS 1 rfl (pkS 0 rfl (pkS 2 rfl (pkS 2 rfl pk0)))) (hw _ (mem 53 rfl)) (hw _ (mem 6 rfl)) (Nat.le_of_ble_eq_true rfl) (Nat.le_of_ble_eq_true rfl) (Nat.le_of_ble_eq_true rfl) (Nat.le_of_ble_eq_true rfl) ?_
          rintro _ _ ⟨rfl, rfl⟩
          try dsimp only [List.set_cons_zero, List.set_cons_succ, List.eraseIdx_cons_zero, List.eraseIdx_cons_succ, List.cons_append, List.nil_append, Option.toList]
          rw [if_pos (show lJ = bs from qj.symm)]
          refine R_if_eq (pc' := 334) at_327 (by decide) (by decide) (fun h5 => ?_) (fun h5 => ?_)
          · exact absurd h5 (by decide)
          · refine R_iconst (1) at_330 (by decide) ?_
            refine R_goto (pc' := 335) at_331 (by decide) (by decide) ?_
            exact R_ireturnN at_335 rfl (by simp) rfl (Nat.le_of_ble_eq_true rfl) (Nat.le_of_ble_eq_true rfl)
    · exact absurd rfl h3
  · rw [if_neg qc, if_neg qj]
    rw [if_neg qc, if_neg qj]
    refine R_astore at_259 rfl rfl (by first | exact Or.inl rfl | exact Or.inr ⟨_, rfl, rfl⟩) ?_
    try dsimp only [List.set_cons_zero, List.set_cons_succ, List.eraseIdx_cons_zero, List.eraseIdx_cons_succ, List.cons_append, List.nil_append, Option.toList]
    refine R_aload at_261 rfl rfl ?_
    refine R_aconst_null at_263 ?_
    refine R_call (S_virtual (as := [_]) (rest := _) (mem 0 rfl) at_264 (hw _ (mem 65 rfl)) (hw _ (mem 66 rfl)) (nf_sel (hw _ (mem 68 rfl))) (hw _ (mem 68 rfl)) (hw _ (mem 67 rfl)) (by decide) pd_oLjava_lang_Object_cLjava_lang_Object_ rfl rfl rfl) (M_orElseN hw o 0 bo) (pkS 0 rfl pk0) (hw _ (mem 69 rfl)) (hw _ (mem 62 rfl)) (Nat.le_of_ble_eq_true rfl) (Nat.le_of_ble_eq_true rfl) (Nat.le_of_ble_eq_true rfl) (Nat.le_of_ble_eq_true rfl) ?_
    rintro _ _ ⟨rfl, rfl⟩
    try dsimp only [List.set_cons_zero, List.set_cons_succ, List.eraseIdx_cons_zero, List.eraseIdx_cons_succ, List.cons_append, List.nil_append, Option.toList]
    refine R_checkcastNull at_267 ?_
    refine R_astore at_270 rfl rfl (by first | exact Or.inl rfl | exact Or.inr ⟨_, rfl, rfl⟩) ?_
    try dsimp only [List.set_cons_zero, List.set_cons_succ, List.eraseIdx_cons_zero, List.eraseIdx_cons_succ, List.cons_append, List.nil_append, Option.toList]
    refine R_iload at_272 rfl ?_
    refine R_if_eq (pc' := 304) at_274 (by decide) (by decide) (fun h3 => ?_) (fun h3 => ?_)
    · refine R_iload at_304 rfl ?_
      refine R_if_eq (pc' := 336) at_306 (by decide) (by decide) (fun h6 => ?_) (fun h6 => ?_)
      · refine R_aload at_336 rfl rfl ?_
        refine R_ifnonnull (pc' := 345) at_338 rfl (by decide) (by decide) (fun h7 => ?_) (fun h7 => ?_)
        · exact absurd rfl h7
        · refine R_iconst (1) at_341 (by decide) ?_
          refine R_goto (pc' := 346) at_342 (by decide) (by decide) ?_
          exact R_ireturnN at_346 rfl (by simp) rfl (Nat.le_of_ble_eq_true rfl) (Nat.le_of_ble_eq_true rfl)
      · exact absurd rfl h6
    · exact absurd rfl h3

theorem isC {ln : Nat} (hln : ln ≤ 4) {d0 d1 d2 d3 : Int32} (h0 : Lo d0) (h1 : Lo d1) (h2 : Lo d2) (h3 : Lo d3) : (([d0, d1, d2, d3].take ln).map b8 = lC) ↔ (ln = 3 ∧ d0 = 99 ∧ d1 = 115 ∧ d2 = 118) := by
  have e : lC = [99, 115, 118].map b8 := by decide
  rw [e]
  rcases (by omega : ln = 0 ∨ ln = 1 ∨ ln = 2 ∨ ln = 3 ∨ ln = 4) with rfl | rfl | rfl | rfl | rfl
  · simp
  · simp
  · simp
  · rw [show [d0, d1, d2, d3].take 3 = [d0, d1, d2] from rfl, map_b8_inj (alS h0 (alS h1 (alS h2 al0))) (alS (by decide) (alS (by decide) (alS (by decide) al0)))]; simp
  · simp
theorem isJ {ln : Nat} (hln : ln ≤ 4) {d0 d1 d2 d3 : Int32} (h0 : Lo d0) (h1 : Lo d1) (h2 : Lo d2) (h3 : Lo d3) : (([d0, d1, d2, d3].take ln).map b8 = lJ) ↔ (ln = 4 ∧ d0 = 106 ∧ d1 = 115 ∧ d2 = 111 ∧ d3 = 110) := by
  have e : lJ = [106, 115, 111, 110].map b8 := by decide
  rw [e]
  rcases (by omega : ln = 0 ∨ ln = 1 ∨ ln = 2 ∨ ln = 3 ∨ ln = 4) with rfl | rfl | rfl | rfl | rfl
  · simp
  · simp
  · simp
  · simp
  · rw [show [d0, d1, d2, d3].take 4 = [d0, d1, d2, d3] from rfl, map_b8_inj (alS h0 (alS h1 (alS h2 (alS h3 al0)))) (alS (by decide) (alS (by decide) (alS (by decide) (alS (by decide) al0))))]; simp
set_option maxRecDepth 65536 in
set_option maxHeartbeats 4000000 in
theorem T_213 {Γ : Gx} (hw : Words Γ) (hcs : CS Γ) (hG : Lits Γ) (va cv js lc lj bc bj em : Addr) (hf : Fmt Γ va cv js lc lj bc bj em) (p0 p1 p2 md : Int32) (ln : Nat) (hln : ln ≤ 4) (d0 d1 d2 d3 : Int32) (h0 : Lo d0) (h1 : Lo d1) (h2 : Lo d2) (h3 : Lo d3) (kk ee : Int32) (s t : Addr) (bt : Bool) (ad : String) (ci : Int32) (hci : ci = (if (([d0, d1, d2, d3].take ln).map b8) = lC then 1 else 0)) (F : OL) :
    Run Γ (x, code, maxLocals, ret, room_1, (fun v O' => v = some (.int 1)), F) 10 40 [(s, true, StrO Γ t more0), (t, bt, Ary Γ ad .byte ((([d0, d1, d2, d3].take ln).map b8).map Value.int))] 213 [.val (.int p0), .val (.int p1), .val (.int p2), .val (.int md), .val (.int ln.toInt32), .val (.int d0), .val (.int d1), .val (.int d2), .val (.int d3), .val (.int kk), .val (.int ee), .val (.ref s), .val (.int ci), .unset, .unset, .unset] [] := by
  refine R_iload at_213 rfl ?_
  refine R_iconst (4) at_215 (by decide) ?_
  refine R_icmp_ne (pc' := 251) at_216 (by decide) (by decide) (fun e4 => ?_) (fun e4 => ?_)
  · refine R_iconst (0) at_251 (by decide) ?_
    refine R_istore at_252 rfl (by first | exact Or.inl rfl | exact Or.inr ⟨_, rfl, rfl⟩) ?_
    try dsimp only [List.set_cons_zero, List.set_cons_succ, List.eraseIdx_cons_zero, List.eraseIdx_cons_succ, List.cons_append, List.nil_append, Option.toList]
    exact T_254 hw hcs hG va cv js lc lj bc bj em hf _ _ _ _ _ _ _ _ _ _ _ s t bt ad _ ci _ hci (by rw [if_neg (fun q => by have := (isJ hln h0 h1 h2 h3).mp q; obtain ⟨rfl, rfl, rfl, rfl, rfl⟩ := this; first | exact e4 rfl | exact e5 rfl | exact e6 rfl | exact e7 rfl | exact e8 rfl)]) F
  · refine R_iload at_219 rfl ?_
    refine R_bipush (106) at_221 (by decide) ?_
    refine R_icmp_ne (pc' := 251) at_223 (by decide) (by decide) (fun e5 => ?_) (fun e5 => ?_)
    · refine R_iconst (0) at_251 (by decide) ?_
      refine R_istore at_252 rfl (by first | exact Or.inl rfl | exact Or.inr ⟨_, rfl, rfl⟩) ?_
      try dsimp only [List.set_cons_zero, List.set_cons_succ, List.eraseIdx_cons_zero, List.eraseIdx_cons_succ, List.cons_append, List.nil_append, Option.toList]
      exact T_254 hw hcs hG va cv js lc lj bc bj em hf _ _ _ _ _ _ _ _ _ _ _ s t bt ad _ ci _ hci (by rw [if_neg (fun q => by have := (isJ hln h0 h1 h2 h3).mp q; obtain ⟨rfl, rfl, rfl, rfl, rfl⟩ := this; first | exact e4 rfl | exact e5 rfl | exact e6 rfl | exact e7 rfl | exact e8 rfl)]) F
    · refine R_iload at_226 rfl ?_
      refine R_bipush (115) at_228 (by decide) ?_
      refine R_icmp_ne (pc' := 251) at_230 (by decide) (by decide) (fun e6 => ?_) (fun e6 => ?_)
      · refine R_iconst (0) at_251 (by decide) ?_
        refine R_istore at_252 rfl (by first | exact Or.inl rfl | exact Or.inr ⟨_, rfl, rfl⟩) ?_
        try dsimp only [List.set_cons_zero, List.set_cons_succ, List.eraseIdx_cons_zero, List.eraseIdx_cons_succ, List.cons_append, List.nil_append, Option.toList]
        exact T_254 hw hcs hG va cv js lc lj bc bj em hf _ _ _ _ _ _ _ _ _ _ _ s t bt ad _ ci _ hci (by rw [if_neg (fun q => by have := (isJ hln h0 h1 h2 h3).mp q; obtain ⟨rfl, rfl, rfl, rfl, rfl⟩ := this; first | exact e4 rfl | exact e5 rfl | exact e6 rfl | exact e7 rfl | exact e8 rfl)]) F
      · refine R_iload at_233 rfl ?_
        refine R_bipush (111) at_235 (by decide) ?_
        refine R_icmp_ne (pc' := 251) at_237 (by decide) (by decide) (fun e7 => ?_) (fun e7 => ?_)
        · refine R_iconst (0) at_251 (by decide) ?_
          refine R_istore at_252 rfl (by first | exact Or.inl rfl | exact Or.inr ⟨_, rfl, rfl⟩) ?_
          try dsimp only [List.set_cons_zero, List.set_cons_succ, List.eraseIdx_cons_zero, List.eraseIdx_cons_succ, List.cons_append, List.nil_append, Option.toList]
          exact T_254 hw hcs hG va cv js lc lj bc bj em hf _ _ _ _ _ _ _ _ _ _ _ s t bt ad _ ci _ hci (by rw [if_neg (fun q => by have := (isJ hln h0 h1 h2 h3).mp q; obtain ⟨rfl, rfl, rfl, rfl, rfl⟩ := this; first | exact e4 rfl | exact e5 rfl | exact e6 rfl | exact e7 rfl | exact e8 rfl)]) F
        · refine R_iload at_240 rfl ?_
          refine R_bipush (110) at_242 (by decide) ?_
          refine R_icmp_ne (pc' := 251) at_244 (by decide) (by decide) (fun e8 => ?_) (fun e8 => ?_)
          · refine R_iconst (0) at_251 (by decide) ?_
            refine R_istore at_252 rfl (by first | exact Or.inl rfl | exact Or.inr ⟨_, rfl, rfl⟩) ?_
            try dsimp only [List.set_cons_zero, List.set_cons_succ, List.eraseIdx_cons_zero, List.eraseIdx_cons_succ, List.cons_append, List.nil_append, Option.toList]
            exact T_254 hw hcs hG va cv js lc lj bc bj em hf _ _ _ _ _ _ _ _ _ _ _ s t bt ad _ ci _ hci (by rw [if_neg (fun q => by have := (isJ hln h0 h1 h2 h3).mp q; obtain ⟨rfl, rfl, rfl, rfl, rfl⟩ := this; first | exact e4 rfl | exact e5 rfl | exact e6 rfl | exact e7 rfl | exact e8 rfl)]) F
          · refine R_iconst (1) at_247 (by decide) ?_
            refine R_goto (pc' := 252) at_248 (by decide) (by decide) ?_
            refine R_istore at_252 rfl (by first | exact Or.inl rfl | exact Or.inr ⟨_, rfl, rfl⟩) ?_
            try dsimp only [List.set_cons_zero, List.set_cons_succ, List.eraseIdx_cons_zero, List.eraseIdx_cons_succ, List.cons_append, List.nil_append, Option.toList]
            exact T_254 hw hcs hG va cv js lc lj bc bj em hf _ _ _ _ _ _ _ _ _ _ _ s t bt ad _ ci _ hci (by rw [if_pos ((isJ hln h0 h1 h2 h3).mpr ⟨((i32_eq_iff (b := 4) (by omega) (by omega)).mp e4), e5, e6, e7, e8⟩)]) F

set_option maxRecDepth 65536 in
set_option maxHeartbeats 4000000 in
theorem T_164 {Γ : Gx} (hw : Words Γ) (hcs : CS Γ) (hG : Lits Γ) (va cv js lc lj bc bj em : Addr) (hf : Fmt Γ va cv js lc lj bc bj em) (p0 p1 p2 md : Int32) (ln : Nat) (hln : ln ≤ 4) (d0 d1 d2 d3 : Int32) (h0 : Lo d0) (h1 : Lo d1) (h2 : Lo d2) (h3 : Lo d3) (kk ee : Int32) (F : OL) :
    Run Γ (x, code, maxLocals, ret, room_1, (fun v O' => v = some (.int 1)), F) 0 0 [] 164 [.val (.int p0), .val (.int p1), .val (.int p2), .val (.int md), .val (.int ln.toInt32), .val (.int d0), .val (.int d1), .val (.int d2), .val (.int d3), .val (.int kk), .val (.int ee), .unset, .unset, .unset, .unset, .unset] [] := by
  refine R_iload at_164 rfl ?_
  refine R_iload at_166 rfl ?_
  refine R_iload at_168 rfl ?_
  refine R_iload at_170 rfl ?_
  refine R_iload at_172 rfl ?_
  refine R_call (S_static (as := [_, _, _, _, _]) (rest := _) at_174 (hw _ (mem 0 rfl)) (hw _ (mem 1 rfl)) (hw _ (mem 2 rfl)) (hw _ (mem 3 rfl)) (by decide) pd_oICCCCcLjava_lang_String_ rfl rfl rfl) (M_make hw hcs hG ln hln d0 d1 d2 d3 h0 h1 h2 h3) pk0 (hw _ (mem 3 rfl)) (hw _ (mem 2 rfl)) (Nat.le_of_ble_eq_true rfl) (Nat.le_of_ble_eq_true rfl) (Nat.le_of_ble_eq_true rfl) (Nat.le_of_ble_eq_true rfl) ?_
  rintro _ _ ⟨s, t, bt, ad, rfl, rfl⟩
  try dsimp only [List.set_cons_zero, List.set_cons_succ, List.eraseIdx_cons_zero, List.eraseIdx_cons_succ, List.cons_append, List.nil_append, Option.toList]
  refine R_astore at_177 rfl rfl (by first | exact Or.inl rfl | exact Or.inr ⟨_, rfl, rfl⟩) ?_
  try dsimp only [List.set_cons_zero, List.set_cons_succ, List.eraseIdx_cons_zero, List.eraseIdx_cons_succ, List.cons_append, List.nil_append, Option.toList]
  refine R_iload at_179 rfl ?_
  refine R_iconst (3) at_181 (by decide) ?_
  refine R_icmp_ne (pc' := 210) at_182 (by decide) (by decide) (fun e0 => ?_) (fun e0 => ?_)
  · refine R_iconst (0) at_210 (by decide) ?_
    refine R_istore at_211 rfl (by first | exact Or.inl rfl | exact Or.inr ⟨_, rfl, rfl⟩) ?_
    try dsimp only [List.set_cons_zero, List.set_cons_succ, List.eraseIdx_cons_zero, List.eraseIdx_cons_succ, List.cons_append, List.nil_append, Option.toList]
    refine R_more (k' := 10) (n' := 40) (Nat.le_of_ble_eq_true rfl) (Nat.le_of_ble_eq_true rfl) ?_
    exact T_213 hw hcs hG va cv js lc lj bc bj em hf _ _ _ _ ln hln d0 d1 d2 d3 h0 h1 h2 h3 _ _ s t bt ad _ (by rw [if_neg (fun q => by have := (isC hln h0 h1 h2 h3).mp q; obtain ⟨rfl, rfl, rfl, rfl⟩ := this; first | exact e0 rfl | exact e1 rfl | exact e2 rfl | exact e3 rfl)]) F
  · refine R_iload at_185 rfl ?_
    refine R_bipush (99) at_187 (by decide) ?_
    refine R_icmp_ne (pc' := 210) at_189 (by decide) (by decide) (fun e1 => ?_) (fun e1 => ?_)
    · refine R_iconst (0) at_210 (by decide) ?_
      refine R_istore at_211 rfl (by first | exact Or.inl rfl | exact Or.inr ⟨_, rfl, rfl⟩) ?_
      try dsimp only [List.set_cons_zero, List.set_cons_succ, List.eraseIdx_cons_zero, List.eraseIdx_cons_succ, List.cons_append, List.nil_append, Option.toList]
      refine R_more (k' := 10) (n' := 40) (Nat.le_of_ble_eq_true rfl) (Nat.le_of_ble_eq_true rfl) ?_
      exact T_213 hw hcs hG va cv js lc lj bc bj em hf _ _ _ _ ln hln d0 d1 d2 d3 h0 h1 h2 h3 _ _ s t bt ad _ (by rw [if_neg (fun q => by have := (isC hln h0 h1 h2 h3).mp q; obtain ⟨rfl, rfl, rfl, rfl⟩ := this; first | exact e0 rfl | exact e1 rfl | exact e2 rfl | exact e3 rfl)]) F
    · refine R_iload at_192 rfl ?_
      refine R_bipush (115) at_194 (by decide) ?_
      refine R_icmp_ne (pc' := 210) at_196 (by decide) (by decide) (fun e2 => ?_) (fun e2 => ?_)
      · refine R_iconst (0) at_210 (by decide) ?_
        refine R_istore at_211 rfl (by first | exact Or.inl rfl | exact Or.inr ⟨_, rfl, rfl⟩) ?_
        try dsimp only [List.set_cons_zero, List.set_cons_succ, List.eraseIdx_cons_zero, List.eraseIdx_cons_succ, List.cons_append, List.nil_append, Option.toList]
        refine R_more (k' := 10) (n' := 40) (Nat.le_of_ble_eq_true rfl) (Nat.le_of_ble_eq_true rfl) ?_
        exact T_213 hw hcs hG va cv js lc lj bc bj em hf _ _ _ _ ln hln d0 d1 d2 d3 h0 h1 h2 h3 _ _ s t bt ad _ (by rw [if_neg (fun q => by have := (isC hln h0 h1 h2 h3).mp q; obtain ⟨rfl, rfl, rfl, rfl⟩ := this; first | exact e0 rfl | exact e1 rfl | exact e2 rfl | exact e3 rfl)]) F
      · refine R_iload at_199 rfl ?_
        refine R_bipush (118) at_201 (by decide) ?_
        refine R_icmp_ne (pc' := 210) at_203 (by decide) (by decide) (fun e3 => ?_) (fun e3 => ?_)
        · refine R_iconst (0) at_210 (by decide) ?_
          refine R_istore at_211 rfl (by first | exact Or.inl rfl | exact Or.inr ⟨_, rfl, rfl⟩) ?_
          try dsimp only [List.set_cons_zero, List.set_cons_succ, List.eraseIdx_cons_zero, List.eraseIdx_cons_succ, List.cons_append, List.nil_append, Option.toList]
          refine R_more (k' := 10) (n' := 40) (Nat.le_of_ble_eq_true rfl) (Nat.le_of_ble_eq_true rfl) ?_
          exact T_213 hw hcs hG va cv js lc lj bc bj em hf _ _ _ _ ln hln d0 d1 d2 d3 h0 h1 h2 h3 _ _ s t bt ad _ (by rw [if_neg (fun q => by have := (isC hln h0 h1 h2 h3).mp q; obtain ⟨rfl, rfl, rfl, rfl⟩ := this; first | exact e0 rfl | exact e1 rfl | exact e2 rfl | exact e3 rfl)]) F
        · refine R_iconst (1) at_206 (by decide) ?_
          refine R_goto (pc' := 211) at_207 (by decide) (by decide) ?_
          refine R_istore at_211 rfl (by first | exact Or.inl rfl | exact Or.inr ⟨_, rfl, rfl⟩) ?_
          try dsimp only [List.set_cons_zero, List.set_cons_succ, List.eraseIdx_cons_zero, List.eraseIdx_cons_succ, List.cons_append, List.nil_append, Option.toList]
          refine R_more (k' := 10) (n' := 40) (Nat.le_of_ble_eq_true rfl) (Nat.le_of_ble_eq_true rfl) ?_
          exact T_213 hw hcs hG va cv js lc lj bc bj em hf _ _ _ _ ln hln d0 d1 d2 d3 h0 h1 h2 h3 _ _ s t bt ad _ (by rw [if_pos ((isC hln h0 h1 h2 h3).mpr ⟨((i32_eq_iff (b := 3) (by omega) (by omega)).mp e0), e1, e2, e3⟩)]) F

set_option maxRecDepth 65536 in
set_option maxHeartbeats 4000000 in
theorem T_95 {Γ : Gx} (hw : Words Γ) (hcs : CS Γ) (hG : Lits Γ) (va cv js lc lj bc bj em : Addr) (hf : Fmt Γ va cv js lc lj bc bj em) (p0 p1 p2 md : Int32) (ln : Nat) (hln : ln ≤ 4) (d0 d1 d2 d3 : Int32) (h0 : Lo d0) (h1 : Lo d1) (h2 : Lo d2) (h3 : Lo d3) (F : OL) :
    Run Γ (x, code, maxLocals, ret, room_1, (fun v O' => v = some (.int 1)), F) 0 0 [] 95 [.val (.int p0), .val (.int p1), .val (.int p2), .val (.int md), .val (.int ln.toInt32), .val (.int d0), .val (.int d1), .val (.int d2), .val (.int d3), .unset, .unset, .unset, .unset, .unset, .unset, .unset] [] := by
  refine R_iloadN at_95 rfl ?_
  refine R_bipush (7) at_96 (by decide) ?_
  refine R_iand at_98 ?_
  refine R_istore at_99 rfl (by first | exact Or.inl rfl | exact Or.inr ⟨_, rfl, rfl⟩) ?_
  try dsimp only [List.set_cons_zero, List.set_cons_succ, List.eraseIdx_cons_zero, List.eraseIdx_cons_succ, List.cons_append, List.nil_append, Option.toList]
  refine R_iloadN at_101 rfl ?_
  refine R_iconst (3) at_102 (by decide) ?_
  refine R_iushr at_103 ?_
  refine R_sipush (255) at_104 (by decide) ?_
  refine R_iand at_107 ?_
  refine R_i2c at_108 ?_
  refine R_istore at_109 rfl (by first | exact Or.inl rfl | exact Or.inr ⟨_, rfl, rfl⟩) ?_
  try dsimp only [List.set_cons_zero, List.set_cons_succ, List.eraseIdx_cons_zero, List.eraseIdx_cons_succ, List.cons_append, List.nil_append, Option.toList]
  refine R_iloadN at_111 rfl ?_
  refine R_iconst (2) at_112 (by decide) ?_
  refine R_icmp_ge (pc' := 164) at_113 (by decide) (by decide) (fun hm => ?_) (fun hm => ?_)
  · exact T_164 hw hcs hG va cv js lc lj bc bj em hf _ _ _ _ ln hln d0 d1 d2 d3 h0 h1 h2 h3 _ _ F
  · refine R_iload at_116 rfl ?_
    refine R_if_ne (pc' := 128) at_118 (by decide) (by decide) (fun q0 => ?_) (fun q0 => ?_)
    · refine R_iload at_128 rfl ?_
      refine R_iconst (1) at_130 (by decide) ?_
      refine R_icmp_ne (pc' := 141) at_131 (by decide) (by decide) (fun q1 => ?_) (fun q1 => ?_)
      · refine R_iload at_141 rfl ?_
        refine R_iconst (2) at_143 (by decide) ?_
        refine R_icmp_ne (pc' := 154) at_144 (by decide) (by decide) (fun q2 => ?_) (fun q2 => ?_)
        · refine R_iload at_154 rfl ?_
          refine R_iconst (3) at_156 (by decide) ?_
          refine R_icmp_ne (pc' := 164) at_157 (by decide) (by decide) (fun q3 => ?_) (fun q3 => ?_)
          · exact T_164 hw hcs hG va cv js lc lj bc bj em hf _ _ _ _ ln hln d0 d1 d2 d3 h0 h1 h2 h3 _ _ F
          · refine R_iload at_160 rfl ?_
            refine R_istore at_162 rfl (by first | exact Or.inl rfl | exact Or.inr ⟨_, rfl, rfl⟩) ?_
            try dsimp only [List.set_cons_zero, List.set_cons_succ, List.eraseIdx_cons_zero, List.eraseIdx_cons_succ, List.cons_append, List.nil_append, Option.toList]
            exact T_164 hw hcs hG va cv js lc lj bc bj em hf _ _ _ _ ln hln d0 d1 d2 _ h0 h1 h2 (by rw [i2c255]; exact and255 _) _ _ F
        · refine R_iload at_147 rfl ?_
          refine R_istore at_149 rfl (by first | exact Or.inl rfl | exact Or.inr ⟨_, rfl, rfl⟩) ?_
          try dsimp only [List.set_cons_zero, List.set_cons_succ, List.eraseIdx_cons_zero, List.eraseIdx_cons_succ, List.cons_append, List.nil_append, Option.toList]
          refine R_goto (pc' := 164) at_151 (by decide) (by decide) ?_
          exact T_164 hw hcs hG va cv js lc lj bc bj em hf _ _ _ _ ln hln d0 d1 _ d3 h0 h1 (by rw [i2c255]; exact and255 _) h3 _ _ F
      · refine R_iload at_134 rfl ?_
        refine R_istore at_136 rfl (by first | exact Or.inl rfl | exact Or.inr ⟨_, rfl, rfl⟩) ?_
        try dsimp only [List.set_cons_zero, List.set_cons_succ, List.eraseIdx_cons_zero, List.eraseIdx_cons_succ, List.cons_append, List.nil_append, Option.toList]
        refine R_goto (pc' := 164) at_138 (by decide) (by decide) ?_
        exact T_164 hw hcs hG va cv js lc lj bc bj em hf _ _ _ _ ln hln d0 _ d2 d3 h0 (by rw [i2c255]; exact and255 _) h2 h3 _ _ F
    · refine R_iload at_121 rfl ?_
      refine R_istore at_123 rfl (by first | exact Or.inl rfl | exact Or.inr ⟨_, rfl, rfl⟩) ?_
      try dsimp only [List.set_cons_zero, List.set_cons_succ, List.eraseIdx_cons_zero, List.eraseIdx_cons_succ, List.cons_append, List.nil_append, Option.toList]
      refine R_goto (pc' := 164) at_125 (by decide) (by decide) ?_
      exact T_164 hw hcs hG va cv js lc lj bc bj em hf _ _ _ _ ln hln _ d1 d2 d3 (by rw [i2c255]; exact and255 _) h1 h2 h3 _ _ F

theorem lenV (x : Int32) : ∃ ln : Nat, ln ≤ 4 ∧ ((XT.ushr x 2 &&& 7) % 5) = ln.toInt32 := by
  have h := c_and (XT.ushr x 2) 7 (by decide)
  have e1 : (7 : Int32).toInt = 7 := rfl
  have r := (c_irem (XT.ushr x 2 &&& 7) 5 5 rfl).1 h.1
  refine ⟨((XT.ushr x 2 &&& 7) % 5).toInt.toNat, by omega, ?_⟩
  rw [← Int32.toInt_inj, len_toInt (by omega)]; omega
set_option maxRecDepth 65536 in
set_option maxHeartbeats 40000000 in
theorem M_law {Γ : Gx} (hw : Words Γ) (hcs : CS Γ) (hG : Lits Γ) (va cv js lc lj bc bj em : Addr) (hf : Fmt Γ va cv js lc lj bc bj em) (p0 p1 p2 : Int32) :
    Met Γ x code maxLocals ret room_1 #[.int p0, .int p1, .int p2] [] (fun v O' => v = some (.int 1)) := by
  refine Met.intro pn_com_example_couverture_couverture_io_FormatNamedPinLaw (Ls := [.val (.int p0), .val (.int p1), .val (.int p2), .unset, .unset, .unset, .unset, .unset, .unset, .unset, .unset, .unset, .unset, .unset, .unset, .unset]) (fun m => by first | rfl | (simp [entryFrame, mkF, argsToLocals, Value.category, maxLocals]; done)) ?_
  intro F
  refine R_iloadN at_0 rfl ?_
  refine R_iconst (3) at_1 (by decide) ?_
  refine R_iand at_2 ?_
  refine R_istoreN at_3 rfl (by first | exact Or.inl rfl | exact Or.inr ⟨_, rfl, rfl⟩) ?_
  try dsimp only [List.set_cons_zero, List.set_cons_succ, List.eraseIdx_cons_zero, List.eraseIdx_cons_succ, List.cons_append, List.nil_append, Option.toList]
  refine R_iloadN at_4 rfl ?_
  refine R_iconst (2) at_5 (by decide) ?_
  refine R_iushr at_6 ?_
  refine R_bipush (7) at_7 (by decide) ?_
  refine R_iand at_9 ?_
  refine R_iconst (5) at_10 (by decide) ?_
  refine R_irem at_11 (by decide) ?_
  obtain ⟨ln, hln, el⟩ := lenV p0
  rw [el]
  refine R_istore at_12 rfl (by first | exact Or.inl rfl | exact Or.inr ⟨_, rfl, rfl⟩) ?_
  try dsimp only [List.set_cons_zero, List.set_cons_succ, List.eraseIdx_cons_zero, List.eraseIdx_cons_succ, List.cons_append, List.nil_append, Option.toList]
  refine R_iloadN at_14 rfl ?_
  refine R_sipush (255) at_15 (by decide) ?_
  refine R_iand at_18 ?_
  refine R_i2c at_19 ?_
  refine R_istore at_20 rfl (by first | exact Or.inl rfl | exact Or.inr ⟨_, rfl, rfl⟩) ?_
  try dsimp only [List.set_cons_zero, List.set_cons_succ, List.eraseIdx_cons_zero, List.eraseIdx_cons_succ, List.cons_append, List.nil_append, Option.toList]
  refine R_iloadN at_22 rfl ?_
  refine R_bipush (8) at_23 (by decide) ?_
  refine R_iushr at_25 ?_
  refine R_sipush (255) at_26 (by decide) ?_
  refine R_iand at_29 ?_
  refine R_i2c at_30 ?_
  refine R_istore at_31 rfl (by first | exact Or.inl rfl | exact Or.inr ⟨_, rfl, rfl⟩) ?_
  try dsimp only [List.set_cons_zero, List.set_cons_succ, List.eraseIdx_cons_zero, List.eraseIdx_cons_succ, List.cons_append, List.nil_append, Option.toList]
  refine R_iloadN at_33 rfl ?_
  refine R_bipush (16) at_34 (by decide) ?_
  refine R_iushr at_36 ?_
  refine R_sipush (255) at_37 (by decide) ?_
  refine R_iand at_40 ?_
  refine R_i2c at_41 ?_
  refine R_istore at_42 rfl (by first | exact Or.inl rfl | exact Or.inr ⟨_, rfl, rfl⟩) ?_
  try dsimp only [List.set_cons_zero, List.set_cons_succ, List.eraseIdx_cons_zero, List.eraseIdx_cons_succ, List.cons_append, List.nil_append, Option.toList]
  refine R_iloadN at_44 rfl ?_
  refine R_bipush (24) at_45 (by decide) ?_
  refine R_iushr at_47 ?_
  refine R_sipush (255) at_48 (by decide) ?_
  refine R_iand at_51 ?_
  refine R_i2c at_52 ?_
  refine R_istore at_53 rfl (by first | exact Or.inl rfl | exact Or.inr ⟨_, rfl, rfl⟩) ?_
  try dsimp only [List.set_cons_zero, List.set_cons_succ, List.eraseIdx_cons_zero, List.eraseIdx_cons_succ, List.cons_append, List.nil_append, Option.toList]
  refine R_iloadN at_55 rfl ?_
  refine R_if_ne (pc' := 74) at_56 (by decide) (by decide) (fun h => ?_) (fun h => ?_)
  · refine R_iloadN at_74 rfl ?_
    refine R_iconst (1) at_75 (by decide) ?_
    refine R_icmp_ne (pc' := 95) at_76 (by decide) (by decide) (fun h1 => ?_) (fun h1 => ?_)
    · exact T_95 hw hcs hG va cv js lc lj bc bj em hf _ _ _ _ ln hln _ _ _ _ (by rw [i2c255]; exact and255 _) (by rw [i2c255]; exact and255 _) (by rw [i2c255]; exact and255 _) (by rw [i2c255]; exact and255 _) F
    · refine R_bipush (106) at_79 (by decide) ?_
      refine R_istore at_81 rfl (by first | exact Or.inl rfl | exact Or.inr ⟨_, rfl, rfl⟩) ?_
      try dsimp only [List.set_cons_zero, List.set_cons_succ, List.eraseIdx_cons_zero, List.eraseIdx_cons_succ, List.cons_append, List.nil_append, Option.toList]
      refine R_bipush (115) at_83 (by decide) ?_
      refine R_istore at_85 rfl (by first | exact Or.inl rfl | exact Or.inr ⟨_, rfl, rfl⟩) ?_
      try dsimp only [List.set_cons_zero, List.set_cons_succ, List.eraseIdx_cons_zero, List.eraseIdx_cons_succ, List.cons_append, List.nil_append, Option.toList]
      refine R_bipush (111) at_87 (by decide) ?_
      refine R_istore at_89 rfl (by first | exact Or.inl rfl | exact Or.inr ⟨_, rfl, rfl⟩) ?_
      try dsimp only [List.set_cons_zero, List.set_cons_succ, List.eraseIdx_cons_zero, List.eraseIdx_cons_succ, List.cons_append, List.nil_append, Option.toList]
      refine R_bipush (110) at_91 (by decide) ?_
      refine R_istore at_93 rfl (by first | exact Or.inl rfl | exact Or.inr ⟨_, rfl, rfl⟩) ?_
      try dsimp only [List.set_cons_zero, List.set_cons_succ, List.eraseIdx_cons_zero, List.eraseIdx_cons_succ, List.cons_append, List.nil_append, Option.toList]
      exact T_95 hw hcs hG va cv js lc lj bc bj em hf _ _ _ _ ln hln _ _ _ _ (by decide) (by decide) (by decide) (by decide) F
  · refine R_bipush (99) at_59 (by decide) ?_
    refine R_istore at_61 rfl (by first | exact Or.inl rfl | exact Or.inr ⟨_, rfl, rfl⟩) ?_
    try dsimp only [List.set_cons_zero, List.set_cons_succ, List.eraseIdx_cons_zero, List.eraseIdx_cons_succ, List.cons_append, List.nil_append, Option.toList]
    refine R_bipush (115) at_63 (by decide) ?_
    refine R_istore at_65 rfl (by first | exact Or.inl rfl | exact Or.inr ⟨_, rfl, rfl⟩) ?_
    try dsimp only [List.set_cons_zero, List.set_cons_succ, List.eraseIdx_cons_zero, List.eraseIdx_cons_succ, List.cons_append, List.nil_append, Option.toList]
    refine R_bipush (118) at_67 (by decide) ?_
    refine R_istore at_69 rfl (by first | exact Or.inl rfl | exact Or.inr ⟨_, rfl, rfl⟩) ?_
    try dsimp only [List.set_cons_zero, List.set_cons_succ, List.eraseIdx_cons_zero, List.eraseIdx_cons_succ, List.cons_append, List.nil_append, Option.toList]
    refine R_goto (pc' := 95) at_71 (by decide) (by decide) ?_
    exact T_95 hw hcs hG va cv js lc lj bc bj em hf _ _ _ _ ln hln _ _ _ _ (by decide) (by decide) (by decide) (by rw [i2c255]; exact and255 _) F

theorem EWall (Z : State) (a0 : Array Value) (hw : ∀ d ∈ tables_1, d.before a0 Z = true) : EW Z a0 consts_1 := (EW.cons (text := "") (hw _ (mem 18 rfl)) (by decide +kernel) EW.nil)
set_option maxRecDepth 65536 in
set_option maxHeartbeats 40000000 in
theorem comes_1 {Post : Tables → Env → Array Value → State → Outcome → State → Prop} (hpost : ∀ tb e args s v u, (limb_1_1.after args s (.returned v) u = true ∧ limb_1_2.after args s (.returned v) u = true) → FramedW s (.returned v) u (Jvm.fieldLocs frame_1_writes args s ++ Jvm.arrayLocs frame_1_arrays args s ++ Jvm.staticLocs frame_1_statics s) 24 1152 → Post tb e args s (.returned v) u) :
    ArmFor flags0 classFile x code maxLocals ret World_1 tables_1 room_1 Calls_1 rest_1 Pre_1 Post := by
  intro l hfl _ _ p e ha hc hk s m args below hf hA hF happ hP
  obtain ⟨hcalls, hrest, hpre⟩ := hP
  obtain ⟨-, -, -, hnamed, -, -, -, hat⟩ := (Spec.applies_iff hf).mp happ
  obtain ⟨hg, hn⟩ := and_e (Cond.before_iff.mp (show (Jvm.Cond.and given_1 narrow_1).before args s = true from hpre))
  obtain ⟨h1, h2⟩ := and_e hg
  obtain ⟨w0, w1, w2, rfl⟩ : ∃ w0 w1 w2 : Value, args = #[w0, w1, w2] := by
    have hs : args.size = 3 := by simpa [Cond.value, given_1] using h1
    obtain ⟨L⟩ := args
    match L, hs with
    | [w0, w1, w2], _ => exact ⟨w0, w1, w2, rfl⟩
  have hw := fun d (hd : d ∈ tables_1) => atoms_spec (ws := Jvm.Cond.code x code maxLocals ret :: tables_1) hat d (List.mem_cons_of_mem _ hd)
  obtain ⟨hsets, hown0⟩ := atoms_of _ (rest_1_c_eq ▸ (show rest_1_c.before _ s = true from hrest))
  obtain ⟨g0, r0⟩ := and_e h2
  obtain ⟨i0, e0⟩ := is_v g0
  obtain rfl : w0 = (.int i0) := Option.some.inj e0
  obtain ⟨g1, r1⟩ := and_e r0
  obtain ⟨i1, e1⟩ := is_v g1
  obtain rfl : w1 = (.int i1) := Option.some.inj e1
  obtain ⟨i2, e2⟩ := is_v r1
  obtain rfl : w2 = (.int i2) := Option.some.inj e2
  have ncs := not_v (Cond.before_iff.mp (hsets _ (mem 2 rfl)))
  obtain ⟨gcs, ecs⟩ := is_v (Cond.before_iff.mp (hsets _ (mem 1 rfl)))
  have hcs : ∃ g : Int32, Sta s s.heap "java/lang/String" "COMPACT_STRINGS" "Z" (.int g) ∧ ¬ g = 0 := ⟨gcs, Sta.start ecs (Or.inl (hsets _ (mem 0 rfl))), gotF (Cond.eq_ints ecs (Term.int_eval (0))) ncs⟩
  obtain ⟨n1, m1⟩ := and_e hn
  obtain ⟨n2, m2⟩ := and_e m1
  obtain ⟨n3, m3⟩ := and_e m2
  obtain ⟨n4, m4⟩ := and_e m3
  obtain ⟨n5, m5⟩ := and_e m4
  obtain ⟨n6, m6⟩ := and_e m5
  obtain ⟨n7, m7⟩ := and_e m6
  obtain ⟨n8, m8⟩ := and_e m7
  obtain ⟨n9, m9⟩ := and_e m8
  obtain ⟨n10, m10⟩ := and_e m9
  obtain ⟨n11, m11⟩ := and_e m10
  obtain ⟨n12, m12⟩ := and_e m11
  obtain ⟨n13, m13⟩ := and_e m12
  obtain ⟨n14, m14⟩ := and_e m13
  obtain ⟨n15, m15⟩ := and_e m14
  obtain ⟨n16, m16⟩ := and_e m15
  obtain ⟨n17, m17⟩ := and_e m16
  obtain ⟨n18, m18⟩ := and_e m17
  obtain ⟨n19, m19⟩ := and_e m18
  obtain ⟨n20, m20⟩ := and_e m19
  obtain ⟨n21, n22⟩ := and_e m20
  obtain ⟨va, eva⟩ := arr_v n1
  obtain ⟨cva, Ava⟩ := Arr.start eva n1
  obtain ⟨cv, ecv⟩ := exa_v n4
  obtain ⟨js, ejs⟩ := exa_v n6
  obtain ⟨lc, elc⟩ := exa_v n8
  obtain ⟨lj, elj⟩ := exa_v n12
  obtain ⟨bc, ebc⟩ := arr_v n10
  obtain ⟨cbc, Abc⟩ := Arr.start ebc n10
  obtain ⟨bj, ebj⟩ := arr_v n14
  obtain ⟨cbj, Abj⟩ := Arr.start ebj n14
  obtain ⟨em, eem⟩ := exa_v (Cond.before_iff.mp (hsets _ (mem 11 rfl)))
  have Fcv := Fld.of_term ecv elc
  have Fjs := Fld.of_term ejs elj
  have Fem := Fld.of_term eem (null_v (Cond.before_iff.mp (hsets _ (mem 12 rfl))))
  have tva := arr_toList Ava eva (eq_const n3) (vs := [.ref cv, .ref js]) rfl (by simp) (fun j hj => by
    match j, hj with
    | 0, _ => exact eq_ref n5 ecv
    | 1, _ => exact eq_ref n7 ejs)
  have tbc := arr_toList Abc ebc (eq_const n11) (vs := lC.map Value.int) rfl (by decide) (fun j hj => by
    match j, hj with
    | 0, _ => exact eq_const n16
    | 1, _ => exact eq_const n21
    | 2, _ => exact eq_const n22)
  have tbj := arr_toList Abj ebj (eq_const n15) (vs := lJ.map Value.int) rfl (by decide) (fun j hj => by
    match j, hj with
    | 0, _ => exact eq_const n17
    | 1, _ => exact eq_const n18
    | 2, _ => exact eq_const n19
    | 3, _ => exact eq_const n20)
  have hfm : Fmt (l, s, #[.int i0, .int i1, .int i2], consts_1, true) va cv js lc lj bc bj em := by
    refine ⟨Sta.start eva (Or.inl (hw _ (mem 44 rfl))), Sta.start ecv (Or.inr ⟨hw _ (mem 28 rfl), hw _ (mem 42 rfl)⟩), Sta.start ejs (Or.inr ⟨hw _ (mem 28 rfl), hw _ (mem 43 rfl)⟩), Sta.start eem (Or.inl (hsets _ (mem 10 rfl))),
      ⟨cva, Ava.1, fun _ => ?_, Ava.2.1, Ava.2.2, tva, by simp, fun v hv => ?_⟩, Obj.start (Γ := (l, s, #[.int i0, .int i1, .int i2], consts_1, true)) (Exa.start ecv n4) Fcv (olS (Or.inr (hw _ (mem 48 rfl))) (ty := .object "java/lang/String") (by decide) Fcv ol0), Obj.start (Γ := (l, s, #[.int i0, .int i1, .int i2], consts_1, true)) (Exa.start ejs n6) Fjs (olS (Or.inr (hw _ (mem 48 rfl))) (ty := .object "java/lang/String") (by decide) Fjs ol0),
      Obj.start (Γ := (l, s, #[.int i0, .int i1, .int i2], consts_1, true)) (Exa.start elc n8) (Fld.of_term elc ebc) (olS (Or.inr (hw _ (mem 20 rfl))) (ty := .array .byte) (by decide) (Fld.of_term elc ebc) (olS (Or.inr (hw _ (mem 21 rfl))) (ty := .byte) (by decide) (Fld.of_term elc (eq_const n9)) ol0)),
      Obj.start (Γ := (l, s, #[.int i0, .int i1, .int i2], consts_1, true)) (Exa.start elj n12) (Fld.of_term elj ebj) (olS (Or.inr (hw _ (mem 20 rfl))) (ty := .array .byte) (by decide) (Fld.of_term elj ebj) (olS (Or.inr (hw _ (mem 21 rfl))) (ty := .byte) (by decide) (Fld.of_term elj (eq_const n13)) ol0)),
      ⟨cbc, Abc.1, fun q => absurd rfl q, Abc.2.1, Abc.2.2, tbc, by decide, by decide, fun C q => by cases q⟩, ⟨cbj, Abj.1, fun q => absurd rfl q, Abj.2.1, Abj.2.2, tbj, by decide, by decide, fun C q => by cases q⟩,
      Obj.start (Γ := (l, s, #[.int i0, .int i1, .int i2], consts_1, true)) (Exa.start eem (Cond.before_iff.mp (hsets _ (mem 11 rfl)))) Fem (olS (Or.inr (hw _ (mem 71 rfl))) (ty := .object "java/lang/Object") (by decide) Fem ol0)⟩
    · obtain ⟨c', k', e1, e2, e3, -⟩ := Exa.start eva n2
      cases e1.symm.trans Ava.1
      exact ⟨k', e2, e3⟩
    · simp only [List.mem_cons, List.not_mem_nil, or_false] at hv
      rcases hv with rfl | rfl <;> rfl
  have I0 : Inv (l, s, _, consts_1, true) s.vm s.heap ([] ++ []) := ⟨State.Warmed39.refl s, ⟨Nat.le_refl _, fun _ _ q => q⟩, fun _ => ⟨EWall s _ hw, CHv.start (EWall s _ hw) (fun p hp => hcalls.1 p hp) (hsets _ (mem 2 rfl)) (hw _ (mem 19 rfl)) (hw _ (mem 5 rfl))⟩, fun x hx => by simp at hx, fun x hx => by simp at hx, List.Pairwise.nil⟩
  obtain ⟨n, o, k1, k2, k3, v, L, O', rfl, hQ, I', N, hE⟩ := M_law (Γ := (l, s, #[.int i0, .int i1, .int i2], consts_1, true)) hw hcs ⟨rfl, rfl⟩ va cv js lc lj bc bj em hfm i0 i1 i2 tables_1 [] p e ha hc hk s m _ below hf ((Spec.applies_iff_loose hf).mp happ).1 ⟨rfl, I0⟩ trivial
  obtain rfl := hQ
  exact ⟨n, _, k1, k2, k3, hpost _ _ _ _ _ _ ⟨Cond.after_iff.mpr rfl, Cond.after_iff.mpr (eq_i res_at (Term.int_eval (1)) rfl)⟩ ⟨⟨_, rfl⟩, (hE.1 rfl).2.1, (hE.1 rfl).2.2.1, ((hE.1 rfl).2.2.2.sift fun y hy => Or.inr (N y hy)).mono (by decide) (by decide)⟩⟩
theorem main_1_1 : Claimed_1_1 := comes_1 fun _ _ _ _ _ _ h hF => ⟨h.1, hF⟩
theorem main_1_2 : Claimed_1_2 := comes_1 fun _ _ _ _ _ _ h hF => ⟨h.2, hF⟩

end Jvm.Pilot.@@N@@
namespace Jvm.Pilot.@@N@@
open Jvm Jvm.ClassFile Sem Op Lib Jvm.Free Jvm.Stand Jvm.Pilot.@@N@@.Jvm.D
/-! MADE BY PROGRAM (witnessworld.py) out of the Statement's table words and the real class files: 24 classes; the members and pool entries that the words name. The judged class is class 1, her method 2. -/
namespace start1
open Jvm.ClassFile
def u (s : String) : CpInfo := .utf8 (stringToUtf16 s)
/-- a pool by its gaps: so many unusable entries, then the entry; so many at the end -/
def gap : Nat → List CpInfo → List CpInfo
  | 0, r => r
  | n + 1, r => .unusable :: gap n r
def poolList (es : List (Nat × CpInfo)) (last : Nat) : List CpInfo := es.foldr (fun e r => gap e.1 (e.2 :: r)) (gap last [])
def pool (es : List (Nat × CpInfo)) (last : Nat) : Array CpInfo := ⟨poolList es last⟩
def fileOf (pool : Array CpInfo) (this : Nat) (attrs : Array Attribute := #[]) (ms : Array MethodInfo := #[]) (fl : Nat := 33) (sup : Nat := 0) (ifs : Array Nat := #[]) (fds : Array FieldInfo := #[]) : ClassFile where
  minorVersion := 0
  majorVersion := 65
  constantPool := pool
  accessFlags := fl
  thisClass := this
  superClass := sup
  interfaces := ifs
  fields := fds
  methods := ms
  attributes := attrs
def plain (name : String) (sup : Option ClassId) : Class where
  name := name
  kind := .ordinary
  loader := none
  accessFlags := 33
  super := sup
  interfaces := #[]
  cf := none
  fields := #[]
  methods := #[]
  instanceTypes := #[]
  staticTypes := #[]
  resolved := #[]
  callSites := []
  init := .initialized
  statics := none
  mirror := none

def pool0 : Array CpInfo := pool [(5, u "<init>"), (0, u "()V"), (1, .class_ 10), (1, u "java/lang/Object"), (85, u "clone"), (0, u "()Ljava/lang/Object;")] 26

def k0c0 : Code := { maxStack := 0, maxLocals := 1, code := object_method_1_code, exceptionTable := #[], attributes := #[] }
def k0m0 : Method := { name := "<init>", desc := "()V", sig := { parameters := [], returnType := none }, accessFlags := 1, code := some k0c0 }
def k0m1 : Method := { name := "clone", desc := "()Ljava/lang/Object;", sig := { parameters := [], returnType := some (.object "java/lang/Object") }, accessFlags := 260, code := none }
/-- java/lang/Object -/
def k0 : Class := { plain "java/lang/Object" none with
  accessFlags := 33
  interfaces := #[]
  cf := some (fileOf pool0 8 #[] #[{ accessFlags := 1, nameIndex := 5, descriptorIndex := 6, attributes := #[] }, { accessFlags := 260, nameIndex := 96, descriptorIndex := 97, attributes := #[] }] 33 0 #[] #[])
  fields := #[]
  methods := #[k0m0, k0m1]
  instanceTypes := #[]
  staticTypes := #[]
  resolved := Array.replicate 124 none
  statics := none }

def pool1 : Array CpInfo := pool [(2, .class_ 4), (1, u "java/lang/Object"), (0, u "<init>"), (0, u "()V"), (0, .class_ 8), (0, u "java/lang/String"), (0, .methodref 7 10), (0, .nameAndType 5 11), (0, u "([C)V"), (0, .methodref 13 14), (0, .class_ 15), (0, .nameAndType 16 17), (0, u "com/example/couverture/couverture/io/FormatNamedPinLaw"), (0, u "make"), (0, u "(ICCCC)Ljava/lang/String;"), (0, .methodref 19 20), (0, .class_ 21), (0, .nameAndType 22 23), (0, u "com/example/couverture/couverture/io/MarginReport$Format"), (0, u "named"), (0, u "(Ljava/lang/String;)Ljava/util/Optional;"), (0, .methodref 25 26), (0, .class_ 27), (0, .nameAndType 28 29), (0, u "java/util/Optional"), (0, u "orElse"), (0, u "(Ljava/lang/Object;)Ljava/lang/Object;"), (0, .fieldref 19 31), (0, .nameAndType 32 33), (0, u "CSV"), (0, u "Lcom/example/couverture/couverture/io/MarginReport$Format;"), (0, .methodref 19 35), (0, .nameAndType 36 37), (0, u "label"), (0, u "()Ljava/lang/String;"), (0, .methodref 7 39), (0, .nameAndType 40 41), (0, u "equals"), (0, u "(Ljava/lang/Object;)Z"), (0, .fieldref 19 43), (0, .nameAndType 44 33), (0, u "JSON"), (3, u "law"), (0, u "(III)Z")] 6

def k1m0 : Method := { name := "<init>", desc := "()V", sig := { parameters := [], returnType := none }, accessFlags := 2, code := none }
def k1c1 : Code := { maxStack := 6, maxLocals := 5, code := method_2_code, exceptionTable := #[], attributes := #[] }
def k1m1 : Method := { name := "make", desc := "(ICCCC)Ljava/lang/String;", sig := { parameters := [.int, .char, .char, .char, .char], returnType := some (.object "java/lang/String") }, accessFlags := 10, code := some k1c1 }
def k1c2 : Code := { maxStack := 5, maxLocals := 16, code := code, exceptionTable := #[], attributes := #[] }
def k1m2 : Method := { name := "law", desc := "(III)Z", sig := { parameters := [.int, .int, .int], returnType := some .boolean }, accessFlags := 9, code := some k1c2 }
/-- com/example/couverture/couverture/io/FormatNamedPinLaw -/
def k1 : Class := { plain "com/example/couverture/couverture/io/FormatNamedPinLaw" (some 0) with
  accessFlags := 49
  interfaces := #[]
  cf := some (fileOf pool1 13 #[] #[{ accessFlags := 2, nameIndex := 5, descriptorIndex := 6, attributes := #[] }, { accessFlags := 10, nameIndex := 16, descriptorIndex := 17, attributes := #[] }, { accessFlags := 9, nameIndex := 48, descriptorIndex := 49, attributes := #[] }] 49 2 #[] #[])
  fields := #[]
  methods := #[k1m0, k1m1, k1m2]
  instanceTypes := #[]
  staticTypes := #[]
  resolved := Array.replicate 56 none
  statics := none }

def pool2 : Array CpInfo := pool [(1, .class_ 2), (0, u "java/io/Serializable"), (0, .class_ 4), (0, u "java/lang/Object")] 2

/-- java/io/Serializable -/
def k2 : Class := { plain "java/io/Serializable" (some 0) with
  accessFlags := 1537
  interfaces := #[]
  cf := some (fileOf pool2 1 #[] #[] 1537 3 #[] #[])
  fields := #[]
  methods := #[]
  instanceTypes := #[]
  staticTypes := #[]
  resolved := Array.replicate 7 none
  statics := none }

def pool3 : Array CpInfo := pool [(1, .class_ 2), (0, u "java/lang/Comparable"), (0, .class_ 4), (0, u "java/lang/Object")] 7

/-- java/lang/Comparable -/
def k3 : Class := { plain "java/lang/Comparable" (some 0) with
  accessFlags := 1537
  interfaces := #[]
  cf := some (fileOf pool3 1 #[] #[] 1537 3 #[] #[])
  fields := #[]
  methods := #[]
  instanceTypes := #[]
  staticTypes := #[]
  resolved := Array.replicate 12 none
  statics := none }

def pool4 : Array CpInfo := pool [(2, .class_ 4), (1, u "java/lang/CharSequence"), (42, .class_ 48), (0, u "java/lang/CharSequence$1CodePointIterator"), (10, .class_ 60), (0, u "java/lang/CharSequence$1CharIterator"), (5, .class_ 67), (0, u "java/lang/Object")] 63

/-- java/lang/CharSequence -/
def k4 : Class := { plain "java/lang/CharSequence" (some 0) with
  accessFlags := 1537
  interfaces := #[]
  cf := some (fileOf pool4 2 #[.nestMembers #[47, 59]] #[] 1537 66 #[] #[])
  fields := #[]
  methods := #[]
  instanceTypes := #[]
  staticTypes := #[]
  resolved := Array.replicate 131 none
  statics := none }

def pool5 : Array CpInfo := pool [(1, .class_ 2), (0, u "java/lang/constant/Constable"), (0, .class_ 4), (0, u "java/lang/Object")] 6

/-- java/lang/constant/Constable -/
def k5 : Class := { plain "java/lang/constant/Constable" (some 0) with
  accessFlags := 1537
  interfaces := #[]
  cf := some (fileOf pool5 1 #[] #[] 1537 3 #[] #[])
  fields := #[]
  methods := #[]
  instanceTypes := #[]
  staticTypes := #[]
  resolved := Array.replicate 11 none
  statics := none }

def pool6 : Array CpInfo := pool [(1, .class_ 2), (0, u "java/lang/constant/ConstantDesc"), (0, .class_ 4), (0, u "java/lang/Object")] 32

/-- java/lang/constant/ConstantDesc -/
def k6 : Class := { plain "java/lang/constant/ConstantDesc" (some 0) with
  accessFlags := 1537
  interfaces := #[]
  cf := some (fileOf pool6 1 #[] #[] 1537 3 #[] #[])
  fields := #[]
  methods := #[]
  instanceTypes := #[]
  staticTypes := #[]
  resolved := Array.replicate 37 none
  statics := none }

def pool7 : Array CpInfo := pool [(1, .methodref 2 3), (0, .class_ 4), (0, .nameAndType 5 6), (0, u "java/lang/Object"), (0, u "<init>"), (0, u "()V"), (0, .string 8), (0, u ""), (0, .fieldref 10 11), (0, .class_ 12), (0, .nameAndType 13 14), (0, u "java/lang/String"), (0, u "value"), (0, u "[B"), (0, .fieldref 10 16), (0, .nameAndType 17 18), (0, u "coder"), (0, u "B"), (2, u "hash"), (0, u "I"), (2, u "hashIsZero"), (0, u "Z"), (0, .methodref 10 28), (0, .nameAndType 5 29), (0, u "([CIILjava/lang/Void;)V"), (8, .fieldref 10 39), (0, .nameAndType 40 26), (0, u "COMPACT_STRINGS"), (1, .class_ 44), (1, u "java/lang/StringUTF16"), (0, u "compress"), (1, .methodref 42 48), (0, .nameAndType 49 50), (0, u "coderFromArrayLen"), (0, u "([BI)B"), (56, .class_ 109), (1, u "java/lang/StringLatin1"), (67, .methodref 42 178), (0, .nameAndType 45 179), (0, u "([CII)[B"), (361, .methodref 107 542), (0, .nameAndType 543 544), (0, u "equals"), (0, u "([B[B)Z"), (28, u "(Ljava/lang/Object;)Z"), (1, .class_ 576), (0, u "java/lang/CharSequence"), (22, u "CASE_INSENSITIVE_ORDER"), (0, u "Ljava/util/Comparator;"), (409, u "([C)V"), (90, u "serialPersistentFields"), (0, u "[Ljava/io/ObjectStreamField;"), (0, .class_ 1104), (0, u "java/lang/String$CaseInsensitiveComparator"), (1, .class_ 1107), (0, u "java/io/Serializable"), (0, .class_ 1109), (0, u "java/lang/Comparable"), (0, .class_ 1111), (0, u "java/lang/constant/Constable"), (0, .class_ 1113), (0, u "java/lang/constant/ConstantDesc"), (2, u "serialVersionUID"), (0, u "J"), (3, u "REPL"), (0, u "C"), (2, u "LATIN1"), (1, u "UTF16")] 323

def k7m0 : Method := { name := "<init>", desc := "()V", sig := { parameters := [], returnType := none }, accessFlags := 1, code := none }
def k7c1 : Code := { maxStack := 5, maxLocals := 2, code := jdk_42_method_3_code, exceptionTable := #[], attributes := #[] }
def k7m1 : Method := { name := "<init>", desc := "([C)V", sig := { parameters := [(.array .char)], returnType := none }, accessFlags := 1, code := some k7c1 }
def k7c2 : Code := { maxStack := 2, maxLocals := 3, code := jdk_42_method_66_code, exceptionTable := #[], attributes := #[] }
def k7m2 : Method := { name := "equals", desc := "(Ljava/lang/Object;)Z", sig := { parameters := [(.object "java/lang/Object")], returnType := some .boolean }, accessFlags := 1, code := some k7c2 }
def k7c3 : Code := { maxStack := 4, maxLocals := 6, code := jdk_42_method_149_code, exceptionTable := #[], attributes := #[] }
def k7m3 : Method := { name := "<init>", desc := "([CIILjava/lang/Void;)V", sig := { parameters := [(.array .char), .int, .int, (.object "java/lang/Void")], returnType := none }, accessFlags := 2, code := some k7c3 }
/-- java/lang/String -/
def k7 : Class := { plain "java/lang/String" (some 0) with
  accessFlags := 49
  interfaces := #[2, 3, 4, 5, 6]
  cf := some (fileOf pool7 10 #[.nestMembers #[1103]] #[{ accessFlags := 1, nameIndex := 5, descriptorIndex := 6, attributes := #[] }, { accessFlags := 1, nameIndex := 5, descriptorIndex := 1010, attributes := #[] }, { accessFlags := 1, nameIndex := 543, descriptorIndex := 573, attributes := #[] }, { accessFlags := 2, nameIndex := 5, descriptorIndex := 29, attributes := #[] }] 49 2 #[1106, 1108, 575, 1110, 1112] #[{ accessFlags := 18, nameIndex := 13, descriptorIndex := 14, attributes := #[] }, { accessFlags := 18, nameIndex := 17, descriptorIndex := 18, attributes := #[] }, { accessFlags := 2, nameIndex := 21, descriptorIndex := 22, attributes := #[] }, { accessFlags := 2, nameIndex := 25, descriptorIndex := 26, attributes := #[] }, { accessFlags := 26, nameIndex := 1116, descriptorIndex := 1117, attributes := #[] }, { accessFlags := 24, nameIndex := 40, descriptorIndex := 26, attributes := #[] }, { accessFlags := 26, nameIndex := 1101, descriptorIndex := 1102, attributes := #[] }, { accessFlags := 26, nameIndex := 1121, descriptorIndex := 1122, attributes := #[] }, { accessFlags := 25, nameIndex := 599, descriptorIndex := 600, attributes := #[] }, { accessFlags := 24, nameIndex := 1125, descriptorIndex := 18, attributes := #[] }, { accessFlags := 24, nameIndex := 1127, descriptorIndex := 18, attributes := #[] }])
  fields := #[{ name := "value", type := (.array .byte), accessFlags := 18, slot := 0, constantValue := 0 }, { name := "coder", type := .byte, accessFlags := 18, slot := 1, constantValue := 0 }, { name := "hash", type := .int, accessFlags := 2, slot := 2, constantValue := 0 }, { name := "hashIsZero", type := .boolean, accessFlags := 2, slot := 3, constantValue := 0 }, { name := "serialVersionUID", type := .long, accessFlags := 26, slot := 0, constantValue := 0 }, { name := "COMPACT_STRINGS", type := .boolean, accessFlags := 24, slot := 1, constantValue := 0 }, { name := "serialPersistentFields", type := (.array (.object "java/io/ObjectStreamField")), accessFlags := 26, slot := 2, constantValue := 0 }, { name := "REPL", type := .char, accessFlags := 26, slot := 3, constantValue := 0 }, { name := "CASE_INSENSITIVE_ORDER", type := (.object "java/util/Comparator"), accessFlags := 25, slot := 4, constantValue := 0 }, { name := "LATIN1", type := .byte, accessFlags := 24, slot := 5, constantValue := 0 }, { name := "UTF16", type := .byte, accessFlags := 24, slot := 6, constantValue := 0 }]
  methods := #[k7m0, k7m1, k7m2, k7m3]
  instanceTypes := #[(.array .byte), .byte, .int, .boolean]
  staticTypes := #[.long, .boolean, (.array (.object "java/io/ObjectStreamField")), .char, (.object "java/util/Comparator"), .byte, .byte]
  resolved := Array.replicate 1451 none
  statics := some 0 }

def pool8 : Array CpInfo := pool [(2, .class_ 4), (1, u "java/lang/Enum"), (0, u "name"), (0, u "Ljava/lang/String;"), (2, u "ordinal"), (0, u "I"), (1, .class_ 14), (1, u "java/lang/Object"), (4, u "hash"), (86, .class_ 108), (1, u "java/lang/Enum$EnumDesc"), (2, .class_ 112), (0, u "java/lang/constant/Constable"), (0, .class_ 114), (0, u "java/lang/Comparable"), (0, .class_ 116), (0, u "java/io/Serializable")] 87

/-- java/lang/Enum -/
def k8 : Class := { plain "java/lang/Enum" (some 0) with
  accessFlags := 1057
  interfaces := #[5, 3, 2]
  cf := some (fileOf pool8 2 #[.nestMembers #[106]] #[] 1057 12 #[111, 113, 115] #[{ accessFlags := 18, nameIndex := 5, descriptorIndex := 6, attributes := #[] }, { accessFlags := 18, nameIndex := 9, descriptorIndex := 10, attributes := #[] }, { accessFlags := 2, nameIndex := 19, descriptorIndex := 10, attributes := #[] }])
  fields := #[{ name := "name", type := (.object "java/lang/String"), accessFlags := 18, slot := 0, constantValue := 0 }, { name := "ordinal", type := .int, accessFlags := 18, slot := 1, constantValue := 0 }, { name := "hash", type := .int, accessFlags := 2, slot := 2, constantValue := 0 }]
  methods := #[]
  instanceTypes := #[(.object "java/lang/String"), .int, .int]
  staticTypes := #[]
  resolved := Array.replicate 204 none
  statics := none }

def pool9 : Array CpInfo := pool [(1, .class_ 2), (0, u "com/example/couverture/couverture/io/MarginReport$Format"), (2, u "CSV"), (0, u "Lcom/example/couverture/couverture/io/MarginReport$Format;"), (2, u "JSON"), (0, .fieldref 1 11), (0, .nameAndType 12 13), (0, u "$VALUES"), (0, u "[Lcom/example/couverture/couverture/io/MarginReport$Format;"), (0, .methodref 15 16), (0, .class_ 13), (0, .nameAndType 17 18), (0, u "clone"), (0, u "()Ljava/lang/Object;"), (1, .class_ 22), (1, u "java/lang/Enum"), (6, .fieldref 1 30), (0, .nameAndType 31 32), (0, u "label"), (0, u "Ljava/lang/String;"), (0, .methodref 1 34), (0, .nameAndType 35 36), (0, u "values"), (0, u "()[Lcom/example/couverture/couverture/io/MarginReport$Format;"), (0, .methodref 38 39), (0, .class_ 40), (0, .nameAndType 41 42), (0, u "java/lang/String"), (0, u "equals"), (0, u "(Ljava/lang/Object;)Z"), (0, .methodref 44 45), (0, .class_ 46), (0, .nameAndType 47 48), (0, u "java/util/Optional"), (0, u "of"), (0, u "(Ljava/lang/Object;)Ljava/util/Optional;"), (0, .methodref 44 50), (0, .nameAndType 51 52), (0, u "empty"), (0, u "()Ljava/util/Optional;"), (18, u "()Ljava/lang/String;"), (0, u "named"), (0, u "(Ljava/lang/String;)Ljava/util/Optional;"), (8, .class_ 83), (0, u "com/example/couverture/couverture/io/MarginReport")] 2

def k9c0 : Code := { maxStack := 1, maxLocals := 0, code := prog_27_method_1_code, exceptionTable := #[], attributes := #[] }
def k9m0 : Method := { name := "values", desc := "()[Lcom/example/couverture/couverture/io/MarginReport$Format;", sig := { parameters := [], returnType := some (.array (.object "com/example/couverture/couverture/io/MarginReport$Format")) }, accessFlags := 9, code := some k9c0 }
def k9c1 : Code := { maxStack := 1, maxLocals := 1, code := prog_27_method_4_code, exceptionTable := #[], attributes := #[] }
def k9m1 : Method := { name := "label", desc := "()Ljava/lang/String;", sig := { parameters := [], returnType := some (.object "java/lang/String") }, accessFlags := 1, code := some k9c1 }
def k9c2 : Code := { maxStack := 2, maxLocals := 5, code := prog_27_method_5_code, exceptionTable := #[], attributes := #[] }
def k9m2 : Method := { name := "named", desc := "(Ljava/lang/String;)Ljava/util/Optional;", sig := { parameters := [(.object "java/lang/String")], returnType := some (.object "java/util/Optional") }, accessFlags := 9, code := some k9c2 }
/-- com/example/couverture/couverture/io/MarginReport$Format -/
def k9 : Class := { plain "com/example/couverture/couverture/io/MarginReport$Format" (some 8) with
  accessFlags := 16433
  interfaces := #[]
  cf := some (fileOf pool9 1 #[.nestHost 82] #[{ accessFlags := 9, nameIndex := 35, descriptorIndex := 36, attributes := #[] }, { accessFlags := 1, nameIndex := 31, descriptorIndex := 71, attributes := #[] }, { accessFlags := 9, nameIndex := 72, descriptorIndex := 73, attributes := #[] }] 16433 20 #[] #[{ accessFlags := 16409, nameIndex := 5, descriptorIndex := 6, attributes := #[] }, { accessFlags := 16409, nameIndex := 9, descriptorIndex := 6, attributes := #[] }, { accessFlags := 18, nameIndex := 31, descriptorIndex := 32, attributes := #[] }, { accessFlags := 4122, nameIndex := 12, descriptorIndex := 13, attributes := #[] }])
  fields := #[{ name := "CSV", type := (.object "com/example/couverture/couverture/io/MarginReport$Format"), accessFlags := 16409, slot := 0, constantValue := 0 }, { name := "JSON", type := (.object "com/example/couverture/couverture/io/MarginReport$Format"), accessFlags := 16409, slot := 1, constantValue := 0 }, { name := "label", type := (.object "java/lang/String"), accessFlags := 18, slot := 3, constantValue := 0 }, { name := "$VALUES", type := (.array (.object "com/example/couverture/couverture/io/MarginReport$Format")), accessFlags := 4122, slot := 2, constantValue := 0 }]
  methods := #[k9m0, k9m1, k9m2]
  instanceTypes := #[(.object "java/lang/String"), .int, .int, (.object "java/lang/String")]
  staticTypes := #[(.object "com/example/couverture/couverture/io/MarginReport$Format"), (.object "com/example/couverture/couverture/io/MarginReport$Format"), (.array (.object "com/example/couverture/couverture/io/MarginReport$Format"))]
  resolved := Array.replicate 86 none
  statics := some 1 }

def pool10 : Array CpInfo := pool [(1, .class_ 2), (0, u "java/lang/Cloneable"), (0, .class_ 4), (0, u "java/lang/Object")] 2

/-- java/lang/Cloneable -/
def k10 : Class := { plain "java/lang/Cloneable" (some 0) with
  accessFlags := 1537
  interfaces := #[]
  cf := some (fileOf pool10 1 #[] #[] 1537 3 #[] #[])
  fields := #[]
  methods := #[]
  instanceTypes := #[]
  staticTypes := #[]
  resolved := Array.replicate 7 none
  statics := none }

def pool11 : Array CpInfo := pool [(4, .class_ 6), (1, u "java/lang/Object"), (0, u "<init>"), (0, u "()V"), (5, .class_ 16), (1, u "java/lang/StringLatin1"), (104, u "$assertionsDisabled"), (0, u "Z"), (98, .class_ 223), (1, u "java/lang/StringLatin1$LinesSpliterator"), (57, u "equals"), (0, u "([B[B)Z"), (107, .class_ 391), (0, u "java/lang/StringLatin1$CharsSpliterator")] 3

def k11m0 : Method := { name := "<init>", desc := "()V", sig := { parameters := [], returnType := none }, accessFlags := 0, code := none }
def k11c1 : Code := { maxStack := 3, maxLocals := 3, code := jdk_43_method_13_code, exceptionTable := #[], attributes := #[] }
def k11m1 : Method := { name := "equals", desc := "([B[B)Z", sig := { parameters := [(.array .byte), (.array .byte)], returnType := some .boolean }, accessFlags := 9, code := some k11c1 }
/-- java/lang/StringLatin1 -/
def k11 : Class := { plain "java/lang/StringLatin1" (some 0) with
  accessFlags := 48
  interfaces := #[]
  cf := some (fileOf pool11 14 #[.nestMembers #[390, 221]] #[{ accessFlags := 0, nameIndex := 7, descriptorIndex := 8, attributes := #[] }, { accessFlags := 9, nameIndex := 281, descriptorIndex := 282, attributes := #[] }] 48 4 #[] #[{ accessFlags := 4120, nameIndex := 121, descriptorIndex := 122, attributes := #[] }])
  fields := #[{ name := "$assertionsDisabled", type := .boolean, accessFlags := 4120, slot := 0, constantValue := 0 }]
  methods := #[k11m0, k11m1]
  instanceTypes := #[]
  staticTypes := #[.boolean]
  resolved := Array.replicate 395 none
  statics := none }

def pool12 : Array CpInfo := pool [(1, .fieldref 2 3), (0, .class_ 4), (0, .nameAndType 5 6), (0, u "java/util/Optional"), (0, u "EMPTY"), (0, u "Ljava/util/Optional;"), (0, .methodref 8 9), (0, .class_ 10), (0, .nameAndType 11 12), (0, u "java/lang/Object"), (0, u "<init>"), (0, u "()V"), (0, .fieldref 2 14), (0, .nameAndType 15 16), (0, u "value"), (0, u "Ljava/lang/Object;"), (0, .methodref 18 19), (0, .class_ 20), (0, .nameAndType 21 22), (0, u "java/util/Objects"), (0, u "requireNonNull"), (0, u "(Ljava/lang/Object;)Ljava/lang/Object;"), (0, .methodref 2 24), (0, .nameAndType 11 25), (0, u "(Ljava/lang/Object;)V"), (29, u "empty"), (0, u "()Ljava/util/Optional;"), (8, u "(Ljava/lang/Object;)Ljava/util/Optional;"), (16, u "of"), (82, u "orElse")] 21

def k12c0 : Code := { maxStack := 1, maxLocals := 1, code := jdk_32_method_1_code, exceptionTable := #[], attributes := #[] }
def k12m0 : Method := { name := "empty", desc := "()Ljava/util/Optional;", sig := { parameters := [], returnType := some (.object "java/util/Optional") }, accessFlags := 9, code := some k12c0 }
def k12c1 : Code := { maxStack := 2, maxLocals := 2, code := jdk_32_method_2_code, exceptionTable := #[], attributes := #[] }
def k12m1 : Method := { name := "<init>", desc := "(Ljava/lang/Object;)V", sig := { parameters := [(.object "java/lang/Object")], returnType := none }, accessFlags := 2, code := some k12c1 }
def k12c2 : Code := { maxStack := 3, maxLocals := 1, code := jdk_32_method_3_code, exceptionTable := #[], attributes := #[] }
def k12m2 : Method := { name := "of", desc := "(Ljava/lang/Object;)Ljava/util/Optional;", sig := { parameters := [(.object "java/lang/Object")], returnType := some (.object "java/util/Optional") }, accessFlags := 9, code := some k12c2 }
def k12c3 : Code := { maxStack := 1, maxLocals := 2, code := jdk_32_method_15_code, exceptionTable := #[], attributes := #[] }
def k12m3 : Method := { name := "orElse", desc := "(Ljava/lang/Object;)Ljava/lang/Object;", sig := { parameters := [(.object "java/lang/Object")], returnType := some (.object "java/lang/Object") }, accessFlags := 1, code := some k12c3 }
/-- java/util/Optional -/
def k12 : Class := { plain "java/util/Optional" (some 0) with
  accessFlags := 49
  interfaces := #[]
  cf := some (fileOf pool12 2 #[] #[{ accessFlags := 9, nameIndex := 55, descriptorIndex := 56, attributes := #[] }, { accessFlags := 2, nameIndex := 11, descriptorIndex := 25, attributes := #[] }, { accessFlags := 9, nameIndex := 82, descriptorIndex := 65, attributes := #[] }, { accessFlags := 1, nameIndex := 165, descriptorIndex := 22, attributes := #[] }] 49 8 #[] #[{ accessFlags := 26, nameIndex := 5, descriptorIndex := 6, attributes := #[] }, { accessFlags := 18, nameIndex := 15, descriptorIndex := 16, attributes := #[] }])
  fields := #[{ name := "EMPTY", type := (.object "java/util/Optional"), accessFlags := 26, slot := 0, constantValue := 0 }, { name := "value", type := (.object "java/lang/Object"), accessFlags := 18, slot := 0, constantValue := 0 }]
  methods := #[k12m0, k12m1, k12m2, k12m3]
  instanceTypes := #[(.object "java/lang/Object")]
  staticTypes := #[(.object "java/util/Optional")]
  resolved := Array.replicate 187 none
  statics := some 2 }

def pool13 : Array CpInfo := pool [(6, .class_ 8), (1, u "java/lang/Object"), (0, u "<init>"), (0, u "()V"), (1, .class_ 14), (1, u "java/lang/StringUTF16"), (31, u "$assertionsDisabled"), (0, u "Z"), (13, u "HI_BYTE_SHIFT"), (0, u "I"), (2, u "LO_BYTE_SHIFT"), (49, .methodref 12 116), (0, .nameAndType 117 118), (0, u "compress"), (0, u "([CI[BII)I"), (3, u "([CII)[B"), (138, u "coderFromArrayLen"), (0, u "([BI)B"), (106, .class_ 371), (1, u "java/lang/StringUTF16$LinesSpliterator"), (58, u "MAX_LENGTH"), (196, .class_ 628), (0, u "java/lang/StringUTF16$CodePointsSpliterator"), (0, .class_ 630), (0, u "java/lang/StringUTF16$CharsSpliterator")] 4

def k13m0 : Method := { name := "<init>", desc := "()V", sig := { parameters := [], returnType := none }, accessFlags := 0, code := none }
def k13c1 : Code := { maxStack := 2, maxLocals := 2, code := jdk_52_method_15_code, exceptionTable := #[], attributes := #[] }
def k13m1 : Method := { name := "coderFromArrayLen", desc := "([BI)B", sig := { parameters := [(.array .byte), .int], returnType := some .byte }, accessFlags := 8, code := some k13c1 }
def k13c2 : Code := { maxStack := 5, maxLocals := 6, code := jdk_52_method_16_code, exceptionTable := #[], attributes := #[] }
def k13m2 : Method := { name := "compress", desc := "([CII)[B", sig := { parameters := [(.array .char), .int, .int], returnType := some (.array .byte) }, accessFlags := 9, code := some k13c2 }
def k13c3 : Code := { maxStack := 3, maxLocals := 7, code := jdk_52_method_21_code, exceptionTable := #[], attributes := #[] }
def k13m3 : Method := { name := "compress", desc := "([CI[BII)I", sig := { parameters := [(.array .char), .int, (.array .byte), .int, .int], returnType := some .int }, accessFlags := 9, code := some k13c3 }
/-- java/lang/StringUTF16 -/
def k13 : Class := { plain "java/lang/StringUTF16" (some 0) with
  accessFlags := 48
  interfaces := #[]
  cf := some (fileOf pool13 12 #[.nestMembers #[627, 629, 369]] #[{ accessFlags := 0, nameIndex := 9, descriptorIndex := 10, attributes := #[] }, { accessFlags := 8, nameIndex := 261, descriptorIndex := 262, attributes := #[] }, { accessFlags := 9, nameIndex := 117, descriptorIndex := 122, attributes := #[] }, { accessFlags := 9, nameIndex := 117, descriptorIndex := 118, attributes := #[] }] 48 6 #[] #[{ accessFlags := 26, nameIndex := 61, descriptorIndex := 62, attributes := #[] }, { accessFlags := 26, nameIndex := 65, descriptorIndex := 62, attributes := #[] }, { accessFlags := 24, nameIndex := 430, descriptorIndex := 62, attributes := #[] }, { accessFlags := 4120, nameIndex := 46, descriptorIndex := 47, attributes := #[] }])
  fields := #[{ name := "HI_BYTE_SHIFT", type := .int, accessFlags := 26, slot := 0, constantValue := 0 }, { name := "LO_BYTE_SHIFT", type := .int, accessFlags := 26, slot := 1, constantValue := 0 }, { name := "MAX_LENGTH", type := .int, accessFlags := 24, slot := 2, constantValue := 0 }, { name := "$assertionsDisabled", type := .boolean, accessFlags := 4120, slot := 3, constantValue := 0 }]
  methods := #[k13m0, k13m1, k13m2, k13m3]
  instanceTypes := #[]
  staticTypes := #[.int, .int, .int, .boolean]
  resolved := Array.replicate 635 none
  statics := none }

def pool14 : Array CpInfo := pool [(2, .class_ 4), (1, u "java/lang/Object"), (0, u "<init>"), (0, u "()V"), (35, .class_ 44), (1, u "java/util/Objects"), (0, u "requireNonNull"), (0, u "(Ljava/lang/Object;)Ljava/lang/Object;")] 137

def k14m0 : Method := { name := "<init>", desc := "()V", sig := { parameters := [], returnType := none }, accessFlags := 2, code := none }
def k14c1 : Code := { maxStack := 2, maxLocals := 1, code := jdk_31_method_10_code, exceptionTable := #[], attributes := #[] }
def k14m1 : Method := { name := "requireNonNull", desc := "(Ljava/lang/Object;)Ljava/lang/Object;", sig := { parameters := [(.object "java/lang/Object")], returnType := some (.object "java/lang/Object") }, accessFlags := 9, code := some k14c1 }
/-- java/util/Objects -/
def k14 : Class := { plain "java/util/Objects" (some 0) with
  accessFlags := 49
  interfaces := #[]
  cf := some (fileOf pool14 42 #[] #[{ accessFlags := 2, nameIndex := 5, descriptorIndex := 6, attributes := #[] }, { accessFlags := 9, nameIndex := 45, descriptorIndex := 46, attributes := #[] }] 49 2 #[] #[])
  fields := #[]
  methods := #[k14m0, k14m1]
  instanceTypes := #[]
  staticTypes := #[]
  resolved := Array.replicate 184 none
  statics := none }

def pool15 : Array CpInfo := pool [(2, .class_ 4), (1, u "java/lang/Object"), (0, u "<init>"), (0, u "()V"), (17, .class_ 26), (1, u "jdk/internal/util/Preconditions"), (28, .class_ 56), (0, u "jdk/internal/util/Preconditions$4"), (57, .class_ 115), (0, u "jdk/internal/util/Preconditions$1"), (7, u "SIOOBE_FORMATTER"), (0, u "Ljava/util/function/BiFunction;"), (0, .class_ 126), (0, u "jdk/internal/util/Preconditions$2"), (3, u "AIOOBE_FORMATTER"), (0, .class_ 132), (0, u "jdk/internal/util/Preconditions$3"), (3, u "IOOBE_FORMATTER")] 57

def k15m0 : Method := { name := "<init>", desc := "()V", sig := { parameters := [], returnType := none }, accessFlags := 1, code := none }
/-- jdk/internal/util/Preconditions -/
def k15 : Class := { plain "jdk/internal/util/Preconditions" (some 0) with
  accessFlags := 33
  interfaces := #[]
  cf := some (fileOf pool15 24 #[.nestMembers #[55, 131, 125, 114]] #[{ accessFlags := 1, nameIndex := 5, descriptorIndex := 6, attributes := #[] }] 33 2 #[] #[{ accessFlags := 25, nameIndex := 123, descriptorIndex := 124, attributes := #[] }, { accessFlags := 25, nameIndex := 130, descriptorIndex := 124, attributes := #[] }, { accessFlags := 25, nameIndex := 136, descriptorIndex := 124, attributes := #[] }])
  fields := #[{ name := "SIOOBE_FORMATTER", type := (.object "java/util/function/BiFunction"), accessFlags := 25, slot := 0, constantValue := 0 }, { name := "AIOOBE_FORMATTER", type := (.object "java/util/function/BiFunction"), accessFlags := 25, slot := 1, constantValue := 0 }, { name := "IOOBE_FORMATTER", type := (.object "java/util/function/BiFunction"), accessFlags := 25, slot := 2, constantValue := 0 }]
  methods := #[k15m0]
  instanceTypes := #[]
  staticTypes := #[(.object "java/util/function/BiFunction"), (.object "java/util/function/BiFunction"), (.object "java/util/function/BiFunction")]
  resolved := Array.replicate 194 none
  statics := some 3 }

def pool16 : Array CpInfo := pool [(9, u "<init>"), (6, .class_ 18), (1, u "java/lang/Object"), (0, u "()V"), (1, .class_ 23), (1, u "jdk/internal/util/ArraysSupport"), (0, u "LOG2_ARRAY_LONG_INDEX_SCALE"), (0, u "I"), (2, u "U"), (0, u "Ljdk/internal/misc/Unsafe;"), (8, u "BIG_ENDIAN"), (0, u "Z"), (8, u "LOG2_BYTE_BIT_SIZE"), (4, u "LOG2_ARRAY_INT_INDEX_SCALE"), (54, u "JLA"), (0, u "Ljdk/internal/access/JavaLangAccess;"), (11, u "LOG2_ARRAY_BOOLEAN_INDEX_SCALE"), (9, u "LOG2_ARRAY_BYTE_INDEX_SCALE"), (5, u "LOG2_ARRAY_CHAR_INDEX_SCALE"), (5, u "LOG2_ARRAY_SHORT_INDEX_SCALE"), (18, u "LOG2_ARRAY_FLOAT_INDEX_SCALE"), (24, u "LOG2_ARRAY_DOUBLE_INDEX_SCALE"), (89, u "T_BOOLEAN"), (2, u "T_CHAR"), (1, u "T_FLOAT"), (1, u "T_DOUBLE"), (1, u "T_BYTE"), (1, u "T_SHORT"), (1, u "T_INT"), (1, u "T_LONG"), (1, u "SOFT_MAX_ARRAY_LENGTH")] 83

def k16m0 : Method := { name := "<init>", desc := "()V", sig := { parameters := [], returnType := none }, accessFlags := 2, code := none }
/-- jdk/internal/util/ArraysSupport -/
def k16 : Class := { plain "jdk/internal/util/ArraysSupport" (some 0) with
  accessFlags := 33
  interfaces := #[]
  cf := some (fileOf pool16 21 #[] #[{ accessFlags := 2, nameIndex := 9, descriptorIndex := 19, attributes := #[] }] 33 16 #[] #[{ accessFlags := 24, nameIndex := 28, descriptorIndex := 29, attributes := #[] }, { accessFlags := 26, nameIndex := 38, descriptorIndex := 39, attributes := #[] }, { accessFlags := 25, nameIndex := 121, descriptorIndex := 25, attributes := #[] }, { accessFlags := 25, nameIndex := 131, descriptorIndex := 25, attributes := #[] }, { accessFlags := 25, nameIndex := 137, descriptorIndex := 25, attributes := #[] }, { accessFlags := 25, nameIndex := 143, descriptorIndex := 25, attributes := #[] }, { accessFlags := 25, nameIndex := 53, descriptorIndex := 25, attributes := #[] }, { accessFlags := 25, nameIndex := 24, descriptorIndex := 25, attributes := #[] }, { accessFlags := 25, nameIndex := 162, descriptorIndex := 25, attributes := #[] }, { accessFlags := 25, nameIndex := 187, descriptorIndex := 25, attributes := #[] }, { accessFlags := 26, nameIndex := 48, descriptorIndex := 25, attributes := #[] }, { accessFlags := 25, nameIndex := 277, descriptorIndex := 25, attributes := #[] }, { accessFlags := 25, nameIndex := 280, descriptorIndex := 25, attributes := #[] }, { accessFlags := 25, nameIndex := 282, descriptorIndex := 25, attributes := #[] }, { accessFlags := 25, nameIndex := 284, descriptorIndex := 25, attributes := #[] }, { accessFlags := 25, nameIndex := 286, descriptorIndex := 25, attributes := #[] }, { accessFlags := 25, nameIndex := 288, descriptorIndex := 25, attributes := #[] }, { accessFlags := 25, nameIndex := 290, descriptorIndex := 25, attributes := #[] }, { accessFlags := 25, nameIndex := 292, descriptorIndex := 25, attributes := #[] }, { accessFlags := 26, nameIndex := 108, descriptorIndex := 109, attributes := #[] }, { accessFlags := 25, nameIndex := 294, descriptorIndex := 25, attributes := #[] }])
  fields := #[{ name := "U", type := (.object "jdk/internal/misc/Unsafe"), accessFlags := 24, slot := 0, constantValue := 0 }, { name := "BIG_ENDIAN", type := .boolean, accessFlags := 26, slot := 1, constantValue := 0 }, { name := "LOG2_ARRAY_BOOLEAN_INDEX_SCALE", type := .int, accessFlags := 25, slot := 2, constantValue := 0 }, { name := "LOG2_ARRAY_BYTE_INDEX_SCALE", type := .int, accessFlags := 25, slot := 3, constantValue := 0 }, { name := "LOG2_ARRAY_CHAR_INDEX_SCALE", type := .int, accessFlags := 25, slot := 4, constantValue := 0 }, { name := "LOG2_ARRAY_SHORT_INDEX_SCALE", type := .int, accessFlags := 25, slot := 5, constantValue := 0 }, { name := "LOG2_ARRAY_INT_INDEX_SCALE", type := .int, accessFlags := 25, slot := 6, constantValue := 0 }, { name := "LOG2_ARRAY_LONG_INDEX_SCALE", type := .int, accessFlags := 25, slot := 7, constantValue := 0 }, { name := "LOG2_ARRAY_FLOAT_INDEX_SCALE", type := .int, accessFlags := 25, slot := 8, constantValue := 0 }, { name := "LOG2_ARRAY_DOUBLE_INDEX_SCALE", type := .int, accessFlags := 25, slot := 9, constantValue := 0 }, { name := "LOG2_BYTE_BIT_SIZE", type := .int, accessFlags := 26, slot := 10, constantValue := 0 }, { name := "T_BOOLEAN", type := .int, accessFlags := 25, slot := 11, constantValue := 0 }, { name := "T_CHAR", type := .int, accessFlags := 25, slot := 12, constantValue := 0 }, { name := "T_FLOAT", type := .int, accessFlags := 25, slot := 13, constantValue := 0 }, { name := "T_DOUBLE", type := .int, accessFlags := 25, slot := 14, constantValue := 0 }, { name := "T_BYTE", type := .int, accessFlags := 25, slot := 15, constantValue := 0 }, { name := "T_SHORT", type := .int, accessFlags := 25, slot := 16, constantValue := 0 }, { name := "T_INT", type := .int, accessFlags := 25, slot := 17, constantValue := 0 }, { name := "T_LONG", type := .int, accessFlags := 25, slot := 18, constantValue := 0 }, { name := "JLA", type := (.object "jdk/internal/access/JavaLangAccess"), accessFlags := 26, slot := 19, constantValue := 0 }, { name := "SOFT_MAX_ARRAY_LENGTH", type := .int, accessFlags := 25, slot := 20, constantValue := 0 }]
  methods := #[k16m0]
  instanceTypes := #[]
  staticTypes := #[(.object "jdk/internal/misc/Unsafe"), .boolean, .int, .int, .int, .int, .int, .int, .int, .int, .int, .int, .int, .int, .int, .int, .int, .int, .int, (.object "jdk/internal/access/JavaLangAccess"), .int]
  resolved := Array.replicate 378 none
  statics := none }

/-- the primitive byte -/
def k17 : Class := { plain "byte" none with kind := .primitive 'B', accessFlags := 0x411 }
/-- [B -/
def k18 : Class := { plain "[B" (some 0) with kind := .array 17 .byte, interfaces := #[10, 2], accessFlags := 1041 }

/-- the primitive char -/
def k19 : Class := { plain "char" none with kind := .primitive 'C', accessFlags := 0x411 }
/-- [C -/
def k20 : Class := { plain "[C" (some 0) with kind := .array 19 .char, interfaces := #[10, 2], accessFlags := 1041 }

/-- the primitive int -/
def k21 : Class := { plain "int" none with kind := .primitive 'I', accessFlags := 0x411 }
/-- [I -/
def k22 : Class := { plain "[I" (some 0) with kind := .array 21 .int, interfaces := #[10, 2], accessFlags := 1041 }

/-- [Lcom/example/couverture/couverture/io/MarginReport$Format; -/
def k23 : Class := { plain "[Lcom/example/couverture/couverture/io/MarginReport$Format;" (some 0) with kind := .array 9 (.object "com/example/couverture/couverture/io/MarginReport$Format"), interfaces := #[10, 2], accessFlags := 1041 }

def heap : Heap := #[{ cls := 7, slots := #[.long 0, .int 1, .null, .int 0, .null, .int 0, .int 0], vm := .statics 7 },
  { cls := 9, slots := #[.ref 5, .ref 6, .ref 4], vm := .statics 9 },
  { cls := 12, slots := #[.ref 11], vm := .statics 12 },
  { cls := 15, slots := #[.null, .null, .null], vm := .statics 15 },
  { cls := 23, slots := #[.ref 5, .ref 6], vm := .none },
  { cls := 9, slots := #[.null, .int 0, .int 0, .ref 7], vm := .none },
  { cls := 9, slots := #[.null, .int 1, .int 0, .ref 8], vm := .none },
  { cls := 7, slots := #[.ref 9, .int 0, .int 0, .int 0], vm := .none },
  { cls := 7, slots := #[.ref 10, .int 0, .int 0, .int 0], vm := .none },
  { cls := 18, slots := #[.int 99, .int 115, .int 118], vm := .none },
  { cls := 18, slots := #[.int 106, .int 115, .int 111, .int 110], vm := .none },
  { cls := 12, slots := #[.null], vm := .none }]
def classes : Array Class := #[k0, k1, k2, k3, k4, k5, k6, k7, k8, k9, k10, k11, k12, k13, k14, k15, k16, k17, k18, k19, k20, k21, k22, k23]
def interned : List (Array UInt16 × Addr) := []
def slotsUsed : Nat := 40
def theMethod : MethodId := ⟨1, 2⟩
def args0 : Array Value := #[.int 1, .int 2, .int 3]
def aboutOver (below : List Frame) : State where
  vm := { classes := classes, interned := interned.toArray }
  heap := heap
  slotsUsed := slotsUsed
  threads := #[{ frames := .invoking theMethod args0 :: below }]
def below0 : List Frame := [.native { method := ⟨0, 0⟩, args := #[] }]
def about1 : State := aboutOver below0
def p0 : Program := .bare "" "" ""
def e0 : Env := launch0.env 0 0 0
theorem w_frames : about1.frames = Frame.invoking theMethod args0 :: below0 := rfl
set_option maxRecDepth 65536 in
theorem w_args : argsFit about1.vm theMethod args0 = true := by decide +kernel
set_option maxRecDepth 65536 in
theorem w_heap : heapFits about1 = true := by decide +kernel
set_option maxRecDepth 65536 in
theorem w_runnable : about1.curStatus? = some .runnable := by decide +kernel
set_option maxRecDepth 65536 in
theorem w_alone : about1.alone = true := by decide +kernel
set_option maxRecDepth 65536 in
theorem w_named : about1.methodNamed? x = some theMethod := by decide +kernel
set_option maxRecDepth 65536 in
theorem w_hears : about1.hears theMethod below0 = true := by decide +kernel
set_option maxRecDepth 65536 in
theorem w_ripe : about1.ripe theMethod args0 below0 = true := by decide +kernel
theorem w_running : about1.status = .running := rfl
set_option maxRecDepth 65536 in
theorem w_room : about1.hasRoom e0.platform room_1 = true :=
  launch0.hasRoom_least _ room_1 (by decide +kernel) (by decide +kernel) (by decide +kernel) (by decide +kernel) (by decide +kernel) (by decide +kernel)
theorem allAtoms_all (ts : List Jvm.Cond) (a : Array Jvm.Value) (st : Jvm.State) : (allAtoms ts).before a st = ts.all (fun c => c.before a st) := by
  induction ts with
  | nil => rfl
  | cons c t ih =>
    show (Jvm.Cond.and c (allAtoms t)).before a st = _
    rw [Jvm.Cond.before_and, ih, List.all_cons]
def words1 : List Jvm.Cond := Jvm.Cond.code x code maxLocals ret :: tables_1
/-- a 'code' word, met by the world's own term for the bytes: nothing is compared byte by byte -/
theorem code_word {y : MethodName} {bytes : ByteArray} {mx : Nat} {rt : Option FieldType} {a : Array Value} {s : State} {m : MethodId} {meth : Method} {c : Code} (h1 : s.methodNamed? y = some m) (h2 : s.vm.method? m = some meth) (h3 : meth.code = some c) (h4 : c.code = bytes)
    (h5 : (c.maxLocals == mx && c.exceptionTable.isEmpty && decide (c.maxStack ≤ mostOperands) && decide (meth.sig.returnType = rt) && !meth.locks && decide (parseMethodDescriptor y.desc = some meth.sig)) = true) : (Jvm.Cond.code y bytes mx rt).before a s = true := by
  simp only [Bool.and_eq_true, beq_iff_eq, Bool.not_eq_true', decide_eq_true_eq] at h5
  obtain ⟨⟨⟨⟨⟨g1, g2⟩, g3⟩, g4⟩, g5⟩, g6⟩ := h5
  simp [Cond.before, Cond.holds, Cond.value, h1, h2, h3, h4, g1, g2, g3, g4, g5, g6]
def isCode : Jvm.Cond → Bool
  | .code _ _ _ _ => true
  | _ => false
theorem all_split {L : List Jvm.Cond} {P : Jvm.Cond → Bool} (h1 : L.all (fun c => isCode c || P c) = true) (h2 : ∀ c ∈ L.filter isCode, P c = true) : L.all P = true := by
  refine List.all_eq_true.mpr fun c hc => ?_
  have h := List.all_eq_true.mp h1 c hc
  rcases Bool.eq_false_or_eq_true (isCode c) with hi | hi
  · exact h2 c (List.mem_filter.mpr ⟨hc, hi⟩)
  · simpa [hi] using h
set_option maxRecDepth 65536 in
theorem w_c0 : (Jvm.Cond.code x code maxLocals ret).before args0 about1 = true := code_word (m := ⟨1, 2⟩) (meth := k1m2) (c := k1c2) (by decide +kernel) rfl rfl rfl (by decide +kernel)
set_option maxRecDepth 65536 in
theorem w_c1 : (Jvm.Cond.code ({ cls := "com/example/couverture/couverture/io/FormatNamedPinLaw", name := "make", desc := "(ICCCC)Ljava/lang/String;" } : Jvm.MethodName) method_2_code (5 : Nat) (Option.some (Jvm.ClassFile.FieldType.object "java/lang/String"))).before args0 about1 = true := code_word (m := ⟨1, 1⟩) (meth := k1m1) (c := k1c1) (by decide +kernel) rfl rfl rfl (by decide +kernel)
set_option maxRecDepth 65536 in
theorem w_c2 : (Jvm.Cond.code ({ cls := "java/lang/String", name := "<init>", desc := "([C)V" } : Jvm.MethodName) jdk_42_method_3_code (2 : Nat) (Option.none : Option Jvm.ClassFile.FieldType)).before args0 about1 = true := code_word (m := ⟨7, 1⟩) (meth := k7m1) (c := k7c1) (by decide +kernel) rfl rfl rfl (by decide +kernel)
set_option maxRecDepth 65536 in
theorem w_c3 : (Jvm.Cond.code ({ cls := "java/lang/String", name := "<init>", desc := "([CIILjava/lang/Void;)V" } : Jvm.MethodName) jdk_42_method_149_code (6 : Nat) (Option.none : Option Jvm.ClassFile.FieldType)).before args0 about1 = true := code_word (m := ⟨7, 3⟩) (meth := k7m3) (c := k7c3) (by decide +kernel) rfl rfl rfl (by decide +kernel)
set_option maxRecDepth 65536 in
theorem w_c4 : (Jvm.Cond.code ({ cls := "java/lang/Object", name := "<init>", desc := "()V" } : Jvm.MethodName) object_method_1_code (1 : Nat) (Option.none : Option Jvm.ClassFile.FieldType)).before args0 about1 = true := code_word (m := ⟨0, 0⟩) (meth := k0m0) (c := k0c0) (by decide +kernel) rfl rfl rfl (by decide +kernel)
set_option maxRecDepth 65536 in
theorem w_c5 : (Jvm.Cond.code ({ cls := "com/example/couverture/couverture/io/MarginReport$Format", name := "named", desc := "(Ljava/lang/String;)Ljava/util/Optional;" } : Jvm.MethodName) prog_27_method_5_code (5 : Nat) (Option.some (Jvm.ClassFile.FieldType.object "java/util/Optional"))).before args0 about1 = true := code_word (m := ⟨9, 2⟩) (meth := k9m2) (c := k9c2) (by decide +kernel) rfl rfl rfl (by decide +kernel)
set_option maxRecDepth 65536 in
theorem w_c6 : (Jvm.Cond.code ({ cls := "com/example/couverture/couverture/io/MarginReport$Format", name := "values", desc := "()[Lcom/example/couverture/couverture/io/MarginReport$Format;" } : Jvm.MethodName) prog_27_method_1_code (0 : Nat) (Option.some (Jvm.ClassFile.FieldType.array (Jvm.ClassFile.FieldType.object "com/example/couverture/couverture/io/MarginReport$Format")))).before args0 about1 = true := code_word (m := ⟨9, 0⟩) (meth := k9m0) (c := k9c0) (by decide +kernel) rfl rfl rfl (by decide +kernel)
set_option maxRecDepth 65536 in
theorem w_c7 : (Jvm.Cond.code ({ cls := "java/lang/String", name := "equals", desc := "(Ljava/lang/Object;)Z" } : Jvm.MethodName) jdk_42_method_66_code (3 : Nat) (Option.some Jvm.ClassFile.FieldType.boolean)).before args0 about1 = true := code_word (m := ⟨7, 2⟩) (meth := k7m2) (c := k7c2) (by decide +kernel) rfl rfl rfl (by decide +kernel)
set_option maxRecDepth 65536 in
theorem w_c8 : (Jvm.Cond.code ({ cls := "java/lang/StringLatin1", name := "equals", desc := "([B[B)Z" } : Jvm.MethodName) jdk_43_method_13_code (3 : Nat) (Option.some Jvm.ClassFile.FieldType.boolean)).before args0 about1 = true := code_word (m := ⟨11, 1⟩) (meth := k11m1) (c := k11c1) (by decide +kernel) rfl rfl rfl (by decide +kernel)
set_option maxRecDepth 65536 in
theorem w_c9 : (Jvm.Cond.code ({ cls := "java/util/Optional", name := "empty", desc := "()Ljava/util/Optional;" } : Jvm.MethodName) jdk_32_method_1_code (1 : Nat) (Option.some (Jvm.ClassFile.FieldType.object "java/util/Optional"))).before args0 about1 = true := code_word (m := ⟨12, 0⟩) (meth := k12m0) (c := k12c0) (by decide +kernel) rfl rfl rfl (by decide +kernel)
set_option maxRecDepth 65536 in
theorem w_c10 : (Jvm.Cond.code ({ cls := "java/util/Optional", name := "orElse", desc := "(Ljava/lang/Object;)Ljava/lang/Object;" } : Jvm.MethodName) jdk_32_method_15_code (2 : Nat) (Option.some (Jvm.ClassFile.FieldType.object "java/lang/Object"))).before args0 about1 = true := code_word (m := ⟨12, 3⟩) (meth := k12m3) (c := k12c3) (by decide +kernel) rfl rfl rfl (by decide +kernel)
set_option maxRecDepth 65536 in
theorem w_c11 : (Jvm.Cond.code ({ cls := "java/lang/StringUTF16", name := "compress", desc := "([CII)[B" } : Jvm.MethodName) jdk_52_method_16_code (6 : Nat) (Option.some (Jvm.ClassFile.FieldType.array Jvm.ClassFile.FieldType.byte))).before args0 about1 = true := code_word (m := ⟨13, 2⟩) (meth := k13m2) (c := k13c2) (by decide +kernel) rfl rfl rfl (by decide +kernel)
set_option maxRecDepth 65536 in
theorem w_c12 : (Jvm.Cond.code ({ cls := "java/lang/StringUTF16", name := "compress", desc := "([CI[BII)I" } : Jvm.MethodName) jdk_52_method_21_code (7 : Nat) (Option.some Jvm.ClassFile.FieldType.int)).before args0 about1 = true := code_word (m := ⟨13, 3⟩) (meth := k13m3) (c := k13c3) (by decide +kernel) rfl rfl rfl (by decide +kernel)
set_option maxRecDepth 65536 in
theorem w_c13 : (Jvm.Cond.code ({ cls := "java/lang/StringUTF16", name := "coderFromArrayLen", desc := "([BI)B" } : Jvm.MethodName) jdk_52_method_15_code (2 : Nat) (Option.some Jvm.ClassFile.FieldType.byte)).before args0 about1 = true := code_word (m := ⟨13, 1⟩) (meth := k13m1) (c := k13c1) (by decide +kernel) rfl rfl rfl (by decide +kernel)
set_option maxRecDepth 65536 in
theorem w_c14 : (Jvm.Cond.code ({ cls := "java/util/Optional", name := "of", desc := "(Ljava/lang/Object;)Ljava/util/Optional;" } : Jvm.MethodName) jdk_32_method_3_code (1 : Nat) (Option.some (Jvm.ClassFile.FieldType.object "java/util/Optional"))).before args0 about1 = true := code_word (m := ⟨12, 2⟩) (meth := k12m2) (c := k12c2) (by decide +kernel) rfl rfl rfl (by decide +kernel)
set_option maxRecDepth 65536 in
theorem w_c15 : (Jvm.Cond.code ({ cls := "java/util/Objects", name := "requireNonNull", desc := "(Ljava/lang/Object;)Ljava/lang/Object;" } : Jvm.MethodName) jdk_31_method_10_code (1 : Nat) (Option.some (Jvm.ClassFile.FieldType.object "java/lang/Object"))).before args0 about1 = true := code_word (m := ⟨14, 1⟩) (meth := k14m1) (c := k14c1) (by decide +kernel) rfl rfl rfl (by decide +kernel)
set_option maxRecDepth 65536 in
theorem w_c16 : (Jvm.Cond.code ({ cls := "java/util/Optional", name := "<init>", desc := "(Ljava/lang/Object;)V" } : Jvm.MethodName) jdk_32_method_2_code (2 : Nat) (Option.none : Option Jvm.ClassFile.FieldType)).before args0 about1 = true := code_word (m := ⟨12, 1⟩) (meth := k12m1) (c := k12c1) (by decide +kernel) rfl rfl rfl (by decide +kernel)
set_option maxRecDepth 65536 in
theorem w_c17 : (Jvm.Cond.code ({ cls := "com/example/couverture/couverture/io/MarginReport$Format", name := "label", desc := "()Ljava/lang/String;" } : Jvm.MethodName) prog_27_method_4_code (1 : Nat) (Option.some (Jvm.ClassFile.FieldType.object "java/lang/String"))).before args0 about1 = true := code_word (m := ⟨9, 1⟩) (meth := k9m1) (c := k9c1) (by decide +kernel) rfl rfl rfl (by decide +kernel)
def codes1 : List Jvm.Cond := [Jvm.Cond.code x code maxLocals ret, Jvm.Cond.code ({ cls := "com/example/couverture/couverture/io/FormatNamedPinLaw", name := "make", desc := "(ICCCC)Ljava/lang/String;" } : Jvm.MethodName) method_2_code (5 : Nat) (Option.some (Jvm.ClassFile.FieldType.object "java/lang/String")), Jvm.Cond.code ({ cls := "java/lang/String", name := "<init>", desc := "([C)V" } : Jvm.MethodName) jdk_42_method_3_code (2 : Nat) (Option.none : Option Jvm.ClassFile.FieldType), Jvm.Cond.code ({ cls := "java/lang/String", name := "<init>", desc := "([CIILjava/lang/Void;)V" } : Jvm.MethodName) jdk_42_method_149_code (6 : Nat) (Option.none : Option Jvm.ClassFile.FieldType), Jvm.Cond.code ({ cls := "java/lang/Object", name := "<init>", desc := "()V" } : Jvm.MethodName) object_method_1_code (1 : Nat) (Option.none : Option Jvm.ClassFile.FieldType), Jvm.Cond.code ({ cls := "com/example/couverture/couverture/io/MarginReport$Format", name := "named", desc := "(Ljava/lang/String;)Ljava/util/Optional;" } : Jvm.MethodName) prog_27_method_5_code (5 : Nat) (Option.some (Jvm.ClassFile.FieldType.object "java/util/Optional")), Jvm.Cond.code ({ cls := "com/example/couverture/couverture/io/MarginReport$Format", name := "values", desc := "()[Lcom/example/couverture/couverture/io/MarginReport$Format;" } : Jvm.MethodName) prog_27_method_1_code (0 : Nat) (Option.some (Jvm.ClassFile.FieldType.array (Jvm.ClassFile.FieldType.object "com/example/couverture/couverture/io/MarginReport$Format"))), Jvm.Cond.code ({ cls := "java/lang/String", name := "equals", desc := "(Ljava/lang/Object;)Z" } : Jvm.MethodName) jdk_42_method_66_code (3 : Nat) (Option.some Jvm.ClassFile.FieldType.boolean), Jvm.Cond.code ({ cls := "java/lang/StringLatin1", name := "equals", desc := "([B[B)Z" } : Jvm.MethodName) jdk_43_method_13_code (3 : Nat) (Option.some Jvm.ClassFile.FieldType.boolean), Jvm.Cond.code ({ cls := "java/util/Optional", name := "empty", desc := "()Ljava/util/Optional;" } : Jvm.MethodName) jdk_32_method_1_code (1 : Nat) (Option.some (Jvm.ClassFile.FieldType.object "java/util/Optional")), Jvm.Cond.code ({ cls := "java/util/Optional", name := "orElse", desc := "(Ljava/lang/Object;)Ljava/lang/Object;" } : Jvm.MethodName) jdk_32_method_15_code (2 : Nat) (Option.some (Jvm.ClassFile.FieldType.object "java/lang/Object")), Jvm.Cond.code ({ cls := "java/lang/StringUTF16", name := "compress", desc := "([CII)[B" } : Jvm.MethodName) jdk_52_method_16_code (6 : Nat) (Option.some (Jvm.ClassFile.FieldType.array Jvm.ClassFile.FieldType.byte)), Jvm.Cond.code ({ cls := "java/lang/StringUTF16", name := "compress", desc := "([CI[BII)I" } : Jvm.MethodName) jdk_52_method_21_code (7 : Nat) (Option.some Jvm.ClassFile.FieldType.int), Jvm.Cond.code ({ cls := "java/lang/StringUTF16", name := "coderFromArrayLen", desc := "([BI)B" } : Jvm.MethodName) jdk_52_method_15_code (2 : Nat) (Option.some Jvm.ClassFile.FieldType.byte), Jvm.Cond.code ({ cls := "java/util/Optional", name := "of", desc := "(Ljava/lang/Object;)Ljava/util/Optional;" } : Jvm.MethodName) jdk_32_method_3_code (1 : Nat) (Option.some (Jvm.ClassFile.FieldType.object "java/util/Optional")), Jvm.Cond.code ({ cls := "java/util/Objects", name := "requireNonNull", desc := "(Ljava/lang/Object;)Ljava/lang/Object;" } : Jvm.MethodName) jdk_31_method_10_code (1 : Nat) (Option.some (Jvm.ClassFile.FieldType.object "java/lang/Object")), Jvm.Cond.code ({ cls := "java/util/Optional", name := "<init>", desc := "(Ljava/lang/Object;)V" } : Jvm.MethodName) jdk_32_method_2_code (2 : Nat) (Option.none : Option Jvm.ClassFile.FieldType), Jvm.Cond.code ({ cls := "com/example/couverture/couverture/io/MarginReport$Format", name := "label", desc := "()Ljava/lang/String;" } : Jvm.MethodName) prog_27_method_4_code (1 : Nat) (Option.some (Jvm.ClassFile.FieldType.object "java/lang/String"))]
set_option maxRecDepth 65536 in
theorem codes_eq : words1.filter isCode = codes1 := rfl
theorem w_codes : ∀ c ∈ words1.filter isCode, c.before args0 about1 = true := by
  rw [codes_eq]
  intro c hc
  simp only [codes1, List.mem_cons, List.not_mem_nil, or_false] at hc
  rcases hc with rfl | rfl | rfl | rfl | rfl | rfl | rfl | rfl | rfl | rfl | rfl | rfl | rfl | rfl | rfl | rfl | rfl | rfl
  · exact w_c0
  · exact w_c1
  · exact w_c2
  · exact w_c3
  · exact w_c4
  · exact w_c5
  · exact w_c6
  · exact w_c7
  · exact w_c8
  · exact w_c9
  · exact w_c10
  · exact w_c11
  · exact w_c12
  · exact w_c13
  · exact w_c14
  · exact w_c15
  · exact w_c16
  · exact w_c17
set_option maxRecDepth 65536 in
theorem w_t1 : (words1.take 24).all (fun c => isCode c || c.before args0 about1) = true := by decide +kernel
set_option maxRecDepth 65536 in
theorem w_t2 : ((words1.drop 24).take 24).all (fun c => isCode c || c.before args0 about1) = true := by decide +kernel
set_option maxRecDepth 65536 in
theorem w_t3 : (((words1.drop 24).drop 24).take 24).all (fun c => isCode c || c.before args0 about1) = true := by decide +kernel
set_option maxRecDepth 65536 in
theorem w_t4 : ((((words1.drop 24).drop 24).drop 24).take 24).all (fun c => isCode c || c.before args0 about1) = true := by decide +kernel
set_option maxRecDepth 65536 in
theorem w_t5 : ((((words1.drop 24).drop 24).drop 24).drop 24).all (fun c => isCode c || c.before args0 about1) = true := by decide +kernel
theorem w_tables : (allAtoms (Jvm.Cond.code x code maxLocals ret :: tables_1)).before args0 about1 = true := by
  rw [allAtoms_all]
  show words1.all (fun c => c.before args0 about1) = true
  refine all_split ?_ w_codes
  rw [← List.take_append_drop 24 words1, List.all_append, w_t1, ← List.take_append_drop 24 (words1.drop 24), List.all_append, w_t2, ← List.take_append_drop 24 ((words1.drop 24).drop 24), List.all_append, w_t3, ← List.take_append_drop 24 (((words1.drop 24).drop 24).drop 24), List.all_append, w_t4, w_t5]
  rfl
set_option maxRecDepth 65536 in
theorem w_rest : rest_1_c.before args0 about1 = true := by decide +kernel
set_option maxRecDepth 65536 in
theorem w_case : (Jvm.Cond.and given_1 narrow_1).before args0 about1 = true := by decide +kernel
set_option maxRecDepth 65536 in
theorem w_consts : constsHeld consts_1 about1 := Jvm.Lit.constsHeldB_iff.mp (by decide +kernel)
theorem w_applies : (headSpec (Jvm.Cond.code x code maxLocals ret :: tables_1) room_1).applies x e0.platform about1 = true :=
  (Spec.applies_iff w_frames).mpr ⟨w_running, w_runnable, w_alone, w_named, w_hears, w_ripe, w_room, w_tables⟩
theorem atStart : AtStart classFile x code maxLocals ret World_1 tables_1 room_1 Calls_1 rest_1 Pre_1 launch0 p0 e0 about1 theMethod args0 below0 :=
  ⟨lists_1, trivial, launch0.admits_env _ _ _, launch0.least_env, fairChoices_fair.cas, fairChoices_fair.clock, w_frames, w_args, w_heap, w_applies, ⟨w_consts, trivial⟩, w_rest, w_case⟩
end start1
theorem witness_1 : WitnessClaimed_1 := ⟨start1.p0, start1.e0, start1.about1, start1.theMethod, start1.args0, start1.below0, start1.atStart⟩
end Jvm.Pilot.@@N@@
