import JvmDerived
import JvmDerived.Pilot.@@N@@Statement
import JvmDerived.Pilot.@@N@@Code
set_option linter.unusedVariables false
set_option linter.unusedSimpArgs false
namespace Jvm.Own
open Sem ClassFile Op Lib Jvm.Stand Jvm.Free Jvm.LawKit Jvm.RoadKit
/-! ## A. the heap, owned cell by cell -/
/-- what is fixed for the whole proof: launch, start, its arguments, the String entries whose text is known, may it intern -/
abbrev Gx : Type := Launch × State × Array Value × List (String × Nat) × Bool
abbrev Gx.l (Γ : Gx) : Launch := Γ.1
abbrev Gx.Z (Γ : Gx) : State := Γ.2.1
abbrev Gx.a0 (Γ : Gx) : Array Value := Γ.2.2.1
abbrev Gx.EL (Γ : Gx) : List (String × Nat) := Γ.2.2.2.1
abbrev Gx.w (Γ : Gx) : Bool := Γ.2.2.2.2
/-- a field: the class that declares it, its name, its descriptor, its value -/
abbrev Fd : Type := String × String × String × Value
/-- an owned (true) or shared (false) cell and what is known of it -/
abbrev El : Type := Addr × Bool × (Cell → Prop)
abbrev OL : Type := List El
def FC (Γ : Gx) (C : String) (c : Cell) (f : Fd) : Prop :=
  Laid Γ.Z Γ.a0 C f.1 f.2.1 f.2.2.1 ∧ (∃ ty, parseFieldDescriptor f.2.2.1 = some ty) ∧ ∃ (cf : ClassId) (k : Class) (i : Nat) (fd : Field), Γ.Z.fieldFound? f.1 f.2.1 f.2.2.1 = some (cf, k, i, fd) ∧ fd.isStatic = false ∧ Γ.Z.vm.assignable c.cls cf = true ∧ c.slots[fd.slot]? = some f.2.2.2
def Obj (Γ : Gx) (C : String) (fs : List Fd) (c : Cell) : Prop :=
  (∃ k : Class, Γ.Z.vm.findClass C = some c.cls ∧ Γ.Z.vm.classes[c.cls]? = some k ∧ (k.kind = .ordinary → c.slots.size = k.instanceTypes.size)) ∧ c.vm ≠ .unknown ∧ c.vm.isStatics = false ∧ ∀ f ∈ fs, FC Γ C c f
def Ary (Γ : Gx) (ad : String) (ty : FieldType) (vs : List Value) (c : Cell) : Prop :=
  (ad ≠ "" → ∃ k : Class, Γ.Z.vm.findClass ad = some c.cls ∧ Γ.Z.vm.classes[c.cls]? = some k) ∧ Γ.Z.isArrayOf c ty ∧ c.vm ≠ .unknown ∧ c.slots.toList = vs ∧ vs.length < 2 ^ 31 ∧ (∀ v ∈ vs, fits ty v = true) ∧ ∀ C, ty = .object C → Ovr Γ.Z c.cls C
/-- of an owned cell and another: they differ -/
def Dis (L : List (Addr × Bool)) : Prop := L.Pairwise fun x y => (x.2 = true ∨ y.2 = true) → x.1 ≠ y.1
abbrev key (x : El) : Addr × Bool := (x.1, x.2.1)
def Inv (Γ : Gx) (vm : Vm) (h : Heap) (O : OL) : Prop :=
  Γ.Z.Warmed39 vm ∧ Ext Γ.Z.heap h ∧ (Γ.w = true → EW Γ.Z Γ.a0 Γ.EL ∧ CHv Γ.Z Γ.EL vm h) ∧
  (∀ x ∈ O, ∃ c : Cell, h[x.1]? = some c ∧ x.2.2 c) ∧ (∀ x ∈ O, x.2.1 = true → Γ.Z.heap.size ≤ x.1 ∧ (Γ.w = true → Safe Γ.Z Γ.EL vm h x.1)) ∧ Dis (O.map key)
section A
variable {Γ : Gx} {vm vm1 : Vm} {h h' : Heap} {O O' : OL} {a : Addr} {φ φ' : Cell → Prop}
theorem Inv.Z (I : Inv Γ vm h O) : Γ.Z.Warmed39 vm := I.1
theorem Inv.ext0 (I : Inv Γ vm h O) : Ext Γ.Z.heap h := I.2.1
theorem Inv.cell (I : Inv Γ vm h O) {b : Bool} (hm : (a, b, φ) ∈ O) : ∃ c : Cell, h[a]? = some c ∧ φ c := I.2.2.2.1 _ hm
theorem Inv.new (I : Inv Γ vm h O) (hm : (a, true, φ) ∈ O) : Γ.Z.heap.size ≤ a := (I.2.2.2.2.1 _ hm rfl).1
theorem dis_perm {L L' : List (Addr × Bool)} (p : L.Perm L') (D : Dis L) : Dis L' :=
  (p.pairwise_iff (fun {x y} r q => (r (q.symm)).symm)).mp D
theorem Inv.perm (I : Inv Γ vm h O) (p : O.Perm O') : Inv Γ vm h O' :=
  ⟨I.1, I.2.1, I.2.2.1, fun x hx => I.2.2.2.1 x (p.mem_iff.mpr hx), fun x hx => I.2.2.2.2.1 x (p.mem_iff.mpr hx), dis_perm (p.map key) I.2.2.2.2.2⟩
/-- parts may be forgotten -/
theorem Inv.sub (I : Inv Γ vm h O) (p : O'.Sublist O) : Inv Γ vm h O' :=
  ⟨I.1, I.2.1, I.2.2.1, fun x hx => I.2.2.2.1 x (p.subset hx), fun x hx => I.2.2.2.2.1 x (p.subset hx), List.Pairwise.sublist (p.map key) I.2.2.2.2.2⟩
/-- what is known of one cell may be weakened -/
theorem Inv.weak (I : Inv Γ vm h O) {A B : OL} {b : Bool} (e : O = A ++ (a, b, φ) :: B) (q : ∀ c, φ c → φ' c) : Inv Γ vm h (A ++ (a, b, φ') :: B) := by
  subst e
  obtain ⟨h1, h2, h3, h4, h5, h6⟩ := I
  refine ⟨h1, h2, h3, fun x hx => ?_, fun x hx => ?_, by simpa using h6⟩
  · rcases List.mem_append.mp hx with m | m
    · exact h4 x (List.mem_append_left _ m)
    · rcases List.mem_cons.mp m with rfl | m
      · obtain ⟨c, e1, e2⟩ := h4 (a, b, φ) (by simp)
        exact ⟨c, e1, q c e2⟩
      · exact h4 x (by simp [m])
  · rcases List.mem_append.mp hx with m | m
    · exact h5 x (List.mem_append_left _ m)
    · rcases List.mem_cons.mp m with rfl | m
      · exact h5 (a, b, φ) (by simp)
      · exact h5 x (by simp [m])
theorem Inv.alloc (I : Inv Γ vm h O) (E : Ext h h') {c : Cell} (hc : h'[h.size]? = some c) (hφ : φ c) : Inv Γ vm h' ((h.size, true, φ) :: O) := by
  obtain ⟨h1, h2, h3, h4, h5, h6⟩ := I
  refine ⟨h1, ⟨Nat.le_trans h2.1 E.1, fun x c q => E.2 _ _ (h2.2 _ _ q)⟩, fun w => ⟨(h3 w).1, (h3 w).2.ext E⟩, fun x hx => ?_, fun x hx ht => ?_, ?_⟩
  · rcases List.mem_cons.mp hx with rfl | hx
    · exact ⟨c, hc, hφ⟩
    · obtain ⟨c', e1, e2⟩ := h4 x hx; exact ⟨c', E.2 _ _ e1, e2⟩
  · rcases List.mem_cons.mp hx with rfl | hx
    · exact ⟨h2.1, fun w => (Safe.new (Nat.le_refl _)).ext E (h3 w).2⟩
    · exact ⟨(h5 x hx ht).1, fun w => ((h5 x hx ht).2 w).ext E (h3 w).2⟩
  · refine List.pairwise_cons.mpr ⟨fun y hy _ e => ?_, h6⟩
    obtain ⟨z, hz, rfl⟩ := List.mem_map.mp hy
    obtain ⟨c', e1, -⟩ := h4 z hz
    have := (Array.getElem?_eq_some_iff.mp e1).1
    have e' : h.size = z.1 := e
    omega
/-- an owned cell is written -/
theorem Inv.write (I : Inv Γ vm h O) {A B : OL} (e : O = A ++ (a, true, φ) :: B) {sl : Nat} {v : Value} (W : Wr h h' a sl v) (q : ∀ c, φ c → h[a]? = some c → φ' (c.setSlot sl v)) : Inv Γ vm h' (A ++ (a, true, φ') :: B) := by
  subst e
  obtain ⟨h1, h2, h3, h4, h5, h6⟩ := I
  have n0 := h5 (a, true, φ) (by simp) rfl
  have ne : ∀ x ∈ A ++ B, x.1 ≠ a := fun x hx => by
    have p : (A ++ (a, true, φ) :: B).Perm ((a, true, φ) :: (A ++ B)) := List.perm_middle
    have D := dis_perm (p.map key) h6
    have r := (List.pairwise_cons.mp D).1 (key x) (List.mem_map.mpr ⟨x, hx, rfl⟩) (Or.inl rfl)
    exact fun z => r z.symm
  have oth : ∀ (x : Addr) (c : Cell), x ≠ a → h[x]? = some c → h'[x]? = some c := fun x c hx e => by
    obtain ⟨c0, -, -, -, rfl⟩ := W
    rw [Array.getElem?_setIfInBounds_ne (Ne.symm hx)]; exact e
  have mine : ∀ c, h[a]? = some c → h'[a]? = some (c.setSlot sl v) := fun c e => by
    obtain ⟨c0, e0, -, -, rfl⟩ := W
    cases e0.symm.trans e
    rw [Array.getElem?_setIfInBounds_self_of_lt (Array.getElem?_eq_some_iff.mp e).1]
  have key' : ∀ x ∈ A ++ (a, true, φ') :: B, x = (a, true, φ') ∨ (x ∈ A ++ B ∧ x ∈ A ++ (a, true, φ) :: B) := fun x hx => by
    rcases List.mem_append.mp hx with m | m
    · exact Or.inr ⟨by simp [m], by simp [m]⟩
    · rcases List.mem_cons.mp m with r | m
      · exact Or.inl r
      · exact Or.inr ⟨by simp [m], by simp [m]⟩
  refine ⟨h1, ⟨Nat.le_trans h2.1 (Nat.le_of_eq W.size.symm), fun x c r => oth x c (fun z => ?_) (h2.2 _ _ r)⟩, fun w => ⟨(h3 w).1, (h3 w).2.wr W (n0.2 w)⟩, fun x hx => ?_, fun x hx ht => ?_, by simpa using h6⟩
  · have := (Array.getElem?_eq_some_iff.mp r).1
    have := n0.1
    subst z
    simp only at this
    omega
  · rcases key' x hx with rfl | ⟨m1, m2⟩
    · obtain ⟨c, e1, e2⟩ := h4 (a, true, φ) (by simp)
      exact ⟨_, mine c e1, q c e2 e1⟩
    · obtain ⟨c, e1, e2⟩ := h4 x m2
      exact ⟨c, oth _ _ (ne x m1) e1, e2⟩
  · rcases key' x hx with rfl | ⟨m1, m2⟩
    · exact ⟨n0.1, fun w => Safe.wr W (n0.2 w) (h3 w).2 (n0.2 w)⟩
    · exact ⟨(h5 x m2 ht).1, fun w => Safe.wr W (n0.2 w) (h3 w).2 ((h5 x m2 ht).2 w)⟩
/-- the tables warm, the heap stands -/
theorem Inv.later {s : State} (I : Inv Γ vm h O) (hW : (s.setVm vm).WarmedH vm1) : Inv Γ vm1 h O := by
  obtain ⟨h1, h2, h3, h4, h5, h6⟩ := I
  have k : Γ.w = true → CHv Γ.Z Γ.EL vm1 h ∧ ∀ x, Safe Γ.Z Γ.EL vm h x → Safe Γ.Z Γ.EL vm1 h x := fun w => by
    have q := CHv.later (h' := h) h1 (hW := (show (Wst Γ.Z vm h).Warmed39 vm1 from hW.wide)) (h3 w).1 ⟨Nat.le_refl _, fun _ _ q => q⟩ (Or.inl hW.interned_eq) (h3 w).2
    refine ⟨q.1, fun x S B => ?_⟩
    obtain ⟨c, e⟩ := B.there
    rcases q.2 x B with r | r
    · exact S r
    · have := (Array.getElem?_eq_some_iff.mp e).1; omega
  exact ⟨State.Warmed39.trans (t := s.setVm vm) h1 hW.wide, h2, fun w => ⟨(h3 w).1, (k w).1⟩, h4, fun x hx ht => ⟨(h5 x hx ht).1, fun w => (k w).2 _ ((h5 x hx ht).2 w)⟩, h6⟩
/-- a walk that interns nothing: the tables count for nothing but Warmed39 -/
theorem Inv.narrow (I : Inv Γ vm h O) (hw : Γ.w = false) (hZ : Γ.Z.Warmed39 vm1) : Inv Γ vm1 h O := by
  obtain ⟨h1, h2, h3, h4, h5, h6⟩ := I
  exact ⟨hZ, h2, fun w => by rw [hw] at w; (cases w), h4, fun x hx ht => ⟨(h5 x hx ht).1, fun w => by rw [hw] at w; (cases w)⟩, h6⟩
/-- what Obj says in the library's words -/
theorem Obj.exa {C : String} {fs : List Fd} {c : Cell} (F : Obj Γ C fs c) (e : h[a]? = some c) : Exa Γ.Z h a C := by
  obtain ⟨⟨k, k1, k2, k3⟩, -, h3, -⟩ := F; exact ⟨c, k, e, k1, k2, h3, k3⟩
theorem Obj.fld {C : String} {fs : List Fd} {c : Cell} (F : Obj Γ C fs c) (e : h[a]? = some c) {f : Fd} (hf : f ∈ fs) : Fld Γ.Z h a f.1 f.2.1 f.2.2.1 f.2.2.2 := by
  obtain ⟨-, h2, h3, h4⟩ := F
  obtain ⟨-, -, cf, k, i, fd, f1, f2, f3, f4⟩ := h4 f hf
  exact ⟨c, cf, k, i, fd, e, f1, f2, h2, h3, f3, f4⟩
theorem Obj.of_exa {C : String} (E : Exa Γ.Z h a C) (N : ∃ cell : Cell, h[a]? = some cell ∧ cell.vm ≠ .unknown) {fs : List Fd} (L : ∀ f ∈ fs, Laid Γ.Z Γ.a0 C f.1 f.2.1 f.2.2.1 ∧ (∃ ty, parseFieldDescriptor f.2.2.1 = some ty) ∧ Fld Γ.Z h a f.1 f.2.1 f.2.2.1 f.2.2.2) : ∃ c : Cell, h[a]? = some c ∧ Obj Γ C fs c := by
  obtain ⟨c, k, e1, e2, e3, e4, e5⟩ := E
  obtain ⟨c', n1, n2⟩ := N
  cases e1.symm.trans n1
  refine ⟨c, e1, ⟨k, e2, e3, e5⟩, n2, e4, fun f hf => ?_⟩
  obtain ⟨l1, l2, c2, cf, kk, i, fd, f1, f2, f3, -, -, f6, f7⟩ := L f hf
  cases e1.symm.trans f1
  exact ⟨l1, l2, cf, kk, i, fd, f2, f3, f6, f7⟩
/-- a field is written: the others stand -/
theorem Obj.put {C : String} {A B : List Fd} {f : Fd} {v v' : Value} {c : Cell} (F : Obj Γ C (A ++ (f.1, f.2.1, f.2.2.1, v) :: B) c) (hne : ∀ g ∈ A ++ B, g.2.1 ≠ f.2.1) : Obj Γ C (A ++ (f.1, f.2.1, f.2.2.1, v') :: B) (c.setSlot (Jvm.RoadKit.slotOf Γ.Z f.1 f.2.1 f.2.2.1) v') := by
  obtain ⟨⟨k, k1, k2, k3⟩, h2, h3, h4⟩ := F
  obtain ⟨l0, ⟨ty0, t0⟩, cf, kk, i, fd, f1, f2, f3, f4⟩ := h4 (f.1, f.2.1, f.2.2.1, v) (by simp)
  have es : Jvm.RoadKit.slotOf Γ.Z f.1 f.2.1 f.2.2.1 = fd.slot := by simp only at f1; simp [Jvm.RoadKit.slotOf, f1]
  refine ⟨⟨k, k1, k2, fun q => by rw [sz_set]; exact k3 q⟩, h2, h3, fun g hg => ?_⟩
  by_cases hgm : g ∈ A ++ B
  · obtain ⟨l1, ⟨ty1, t1⟩, cf1, kk1, i1, fd1, g1, g2, g3, g4⟩ := h4 g (by rcases List.mem_append.mp hgm with m | m <;> simp [m])
    refine ⟨l1, ⟨ty1, t1⟩, cf1, kk1, i1, fd1, g1, g2, g3, ?_⟩
    have ns := Jvm.RoadKit.slot_ne l1 l0 (hne g hgm) t1 t0
    have es1 : Jvm.RoadKit.slotOf Γ.Z g.1 g.2.1 g.2.2.1 = fd1.slot := by simp [Jvm.RoadKit.slotOf, g1]
    rw [es1] at ns
    show (c.slots.setIfInBounds _ _)[fd1.slot]? = _
    rw [Array.getElem?_setIfInBounds_ne (Ne.symm ns)]; exact g4
  · have : g = (f.1, f.2.1, f.2.2.1, v') := by
      rcases List.mem_append.mp hg with m | m
      · exact absurd (by simp [m]) hgm
      · rcases List.mem_cons.mp m with r | m
        · exact r
        · exact absurd (by simp [m]) hgm
    subst this
    refine ⟨l0, ⟨ty0, t0⟩, cf, kk, i, fd, f1, f2, f3, ?_⟩
    rw [es]
    show (c.slots.setIfInBounds fd.slot v')[fd.slot]? = _
    have := (Array.getElem?_eq_some_iff.mp f4).1
    simp [this]
theorem Ary.arr {ad : String} {ty : FieldType} {vs : List Value} {c : Cell} (F : Ary Γ ad ty vs c) (e : h[a]? = some c) : Arr Γ.Z h a c ty := ⟨e, F.2.1, F.2.2.1⟩
theorem Ary.len {ad : String} {ty : FieldType} {vs : List Value} {c : Cell} (F : Ary Γ ad ty vs c) : c.slots.size = vs.length := by rw [← F.2.2.2.1]; simp
theorem Ary.exa {ad : String} {ty : FieldType} {vs : List Value} {c : Cell} (F : Ary Γ ad ty vs c) (e : h[a]? = some c) (hn : ad ≠ "") : Exa Γ.Z h a ad := by
  obtain ⟨k, k1, k2⟩ := F.1 hn
  obtain ⟨q, k', k3, comp, k4⟩ := F.2.1
  cases k2.symm.trans k3
  exact ⟨c, k, e, k1, k2, (F.arr e).plain, fun z => by rw [k4] at z; cases z⟩
theorem Ary.put {ad : String} {ty : FieldType} {vs : List Value} {c : Cell} (F : Ary Γ ad ty vs c) {j : Nat} {v : Value} (hv : fits ty v = true) : Ary Γ ad ty (vs.set j v) (c.setSlot j v) := by
  obtain ⟨h1, h2, h3, h4, h5, h6, h7⟩ := F
  refine ⟨h1, h2, h3, ?_, by simpa using h5, fun x hx => ?_, h7⟩
  · show (c.slots.setIfInBounds j v).toList = _
    rw [Array.toList_setIfInBounds, h4]
  · rcases List.mem_or_eq_of_mem_set hx with m | rfl
    · exact h6 x m
    · exact hv
end A
end Jvm.Own

namespace Jvm.Own
open Sem ClassFile Op Lib Jvm.Stand Jvm.Free Jvm.LawKit Jvm.RoadKit
/-! ## B. the walk -/
/-- a method's name, bytes, locals, result type, room, promise, and the caller's part of the heap -/
abbrev Mx : Type := MethodName × ByteArray × Nat × Option FieldType × Room × (Option Value → OL → Prop) × OL
abbrev Mx.y (μ : Mx) : MethodName := μ.1
abbrev Mx.bs (μ : Mx) : ByteArray := μ.2.1
abbrev Mx.ml (μ : Mx) : Nat := μ.2.2.1
abbrev Mx.ret (μ : Mx) : Option FieldType := μ.2.2.2.1
abbrev Mx.R (μ : Mx) : Room := μ.2.2.2.2.1
abbrev Mx.Q (μ : Mx) : Option Value → OL → Prop := μ.2.2.2.2.2.1
abbrev Mx.F (μ : Mx) : OL := μ.2.2.2.2.2.2
def EndW (w : Bool) (s : State) (o : Outcome) (U : State) (L : List Loc) (k n : Nat) : Prop := (w = true → ReturnedEndW s o U L k n) ∧ (w = false → FrameEnd s o U L k n)
/-- where the walk stands -/
def Pos (Γ : Gx) (μ : Mx) (k n : Nat) (O : OL) (p : Program) (e : Env) (s : State) (m : MethodId) (args : Array Value) (below : List Frame) (meth : Method) (c : Code) (T : State) (locs : List Loc) (vm0 : Vm) (k0 : Nat) : Prop :=
  Stand p Γ.l e μ.R (s.setVm vm0) m args below meth c T locs k n ∧ p.tables.exec = Jvm.exec ∧ c.code = μ.bs ∧ c.maxLocals = μ.ml ∧ meth.sig.returnType = μ.ret ∧ meth.name = μ.y.name ∧ meth.locks = false ∧ vm0.findClass μ.y.cls = some m.cls ∧
  s.Since vm0 k0 ∧ k0 ≤ T.heap.size ∧ (Γ.w = false → vm0 = s.vm) ∧ Fr Γ.Z.heap.size locs ∧ Inv Γ vm0 T.heap (O ++ μ.F)
def Goal (Γ : Gx) (μ : Mx) (p : Program) (e : Env) (s : State) (below : List Frame) (T : State) (g : JFrame) : Prop :=
  ∃ U o, Steps p.tables e below (T.setTop g) U ∧ U.status = .running ∧ Ended U below o ∧ ∃ v L O', o = .returned v ∧ μ.Q v O' ∧ Inv Γ U.vm U.heap (O' ++ μ.F) ∧ Fr Γ.Z.heap.size L ∧ EndW Γ.w s o U L μ.R.cells μ.R.slots
/-- **from here the method returns and keeps its promise**: k cells and n slots made so far, the heap's part O, the frame -/
def Run (Γ : Gx) (μ : Mx) (k n : Nat) (O : OL) (pc : Nat) (Ls : List Slot) (st : List Value) : Prop :=
  ∀ (p : Program) (e : Env) (s : State) (m : MethodId) (args : Array Value) (below : List Frame) (meth : Method) (c : Code) (T : State) (locs : List Loc) (vm0 : Vm) (k0 : Nat), Pos Γ μ k n O p e s m args below meth c T locs vm0 k0 → Goal Γ μ p e s below T (mkF m pc Ls.toArray st)
section B
variable {Γ : Gx} {μ : Mx} {k n : Nat} {O : OL} {pc pc' : Nat} {Ls Ls' : List Slot} {st st' rest : List Value}
theorem Goal.back {p : Program} {e : Env} {s : State} {below : List Frame} {T T' : State} {g g' : JFrame} (G : Goal Γ μ p e s below T' g') (st : ∀ target, Steps p.tables e below (T'.setTop g') target → Steps p.tables e below (T.setTop g) target) : Goal Γ μ p e s below T g := by
  obtain ⟨U, o, hs, r⟩ := G; exact ⟨U, o, st _ hs, r⟩
theorem R_plain (H : ∀ (p : Program) (e : Env) (below : List Frame) (T : State) (m : MethodId) (c : Code), At T m c below → p.tables.exec = Jvm.exec → c.code = μ.bs → ∀ target, Steps p.tables e below (T.setTop (mkF m pc' Ls'.toArray st')) target → Steps p.tables e below (T.setTop (mkF m pc Ls.toArray st)) target)
    (hr : Run Γ μ k n O pc' Ls' st') : Run Γ μ k n O pc Ls st := fun p e s m args below meth c T locs vm0 k0 P =>
  (hr p e s m args below meth c T locs vm0 k0 P).back (H p e below T m c P.1.here P.2.1 P.2.2.1)
theorem st1 {Ls : List Slot} {i : Nat} {v : Value} {o : Slot} (hold : Ls[i]? = some o) (ho : One o) (hv : v.category = 1) : storeLocals Ls.toArray i v = some (Ls.set i (.val v)).toArray := by
  rw [XS.store1 (by simpa using hold) ho hv]; simp
theorem st2 {Ls : List Slot} {i : Nat} {v : Value} {o o' : Slot} (hold : Ls[i]? = some o) (ho : o = .unset ∨ ∃ w, o = .val w) (hold' : Ls[i + 1]? = some o') (ho' : o' = .unset ∨ o' = .second ∨ ∃ w, o' = .val w ∧ w.category = 1) (hv : v.category = 2) : storeLocals Ls.toArray i v = some ((Ls.set i (.val v)).set (i + 1) .second).toArray := by
  obtain ⟨l1, g1⟩ := List.getElem?_eq_some_iff.mp hold
  obtain ⟨l2, g2⟩ := List.getElem?_eq_some_iff.mp hold'
  rcases ho with rfl | ⟨w, rfl⟩
  · rcases ho' with rfl | rfl | ⟨u, rfl, hu⟩ <;> simp [storeLocals, storeSelf, setAt, hv, l1, l2, g1, g2, *]
  · by_cases q : w.category = 2
    · simp [storeLocals, storeSelf, setAt, hv, l1, l2, g1, g2, q]
      rw [List.set_comm _ _ (by omega), List.set_set, List.set_comm _ _ (by omega)]
    · rcases ho' with rfl | rfl | ⟨u, rfl, hu⟩ <;> simp [storeLocals, storeSelf, setAt, hv, l1, l2, g1, g2, q, *]
theorem at_list {Ls : List Slot} {i : Nat} {v : Slot} (h : Ls[i]? = some v) : Ls.toArray[i]? = some v := by simpa using h
theorem R_iload {i : Nat} {v : Int32} (hd : decode μ.bs pc = .ok (.iload i, 2)) (hl : Ls[i]? = some (.val (.int v)))
    (hr : Run Γ μ k n O (pc + 2) Ls (.int v :: st)) : Run Γ μ k n O pc Ls st :=
  R_plain (fun p e below T m c h hx hb target hs => XS.iload h hx rfl (Jvm.hb hb hd) (at_list hl) hs) hr
theorem R_iloadN {i : Fin 4} {v : Int32} (hd : decode μ.bs pc = .ok (.iload_n i, 1)) (hl : Ls[i.val]? = some (.val (.int v)))
    (hr : Run Γ μ k n O (pc + 1) Ls (.int v :: st)) : Run Γ μ k n O pc Ls st :=
  R_plain (fun p e below T m c h hx hb target hs => XS.iloadN h hx rfl (Jvm.hb hb hd) (at_list hl) hs) hr
theorem R_lload {i : Nat} {v : Int64} (hd : decode μ.bs pc = .ok (.lload i, 2)) (hl : Ls[i]? = some (.val (.long v)))
    (hr : Run Γ μ k n O (pc + 2) Ls (.long v :: st)) : Run Γ μ k n O pc Ls st :=
  R_plain (fun p e below T m c h hx hb target hs => XT.lload h hx rfl (Jvm.hb hb hd) (at_list hl) hs) hr
theorem R_lloadN {i : Fin 4} {v : Int64} (hd : decode μ.bs pc = .ok (.lload_n i, 1)) (hl : Ls[i.val]? = some (.val (.long v)))
    (hr : Run Γ μ k n O (pc + 1) Ls (.long v :: st)) : Run Γ μ k n O pc Ls st :=
  R_plain (fun p e below T m c h hx hb target hs => XT.lloadN h hx rfl (Jvm.hb hb hd) (at_list hl) hs) hr
theorem R_aload {i : Nat} {v : Value} (hd : decode μ.bs pc = .ok (.aload i, 2)) (hl : Ls[i]? = some (.val v)) (hv : v.isRef = true)
    (hr : Run Γ μ k n O (pc + 2) Ls (v :: st)) : Run Γ μ k n O pc Ls st :=
  R_plain (fun p e below T m c h hx hb target hs => XS.aload h hx rfl (Jvm.hb hb hd) (at_list hl) hv hs) hr
theorem R_aloadN {i : Fin 4} {v : Value} (hd : decode μ.bs pc = .ok (.aload_n i, 1)) (hl : Ls[i.val]? = some (.val v)) (hv : v.isRef = true)
    (hr : Run Γ μ k n O (pc + 1) Ls (v :: st)) : Run Γ μ k n O pc Ls st :=
  R_plain (fun p e below T m c h hx hb target hs => XS.aloadN h hx rfl (Jvm.hb hb hd) (at_list hl) hv hs) hr
theorem R_istore {i : Nat} {v : Int32} {o : Slot} (hd : decode μ.bs pc = .ok (.istore i, 2)) (hold : Ls[i]? = some o) (ho : One o)
    (hr : Run Γ μ k n O (pc + 2) (Ls.set i (.val (.int v))) st) : Run Γ μ k n O pc Ls (.int v :: st) :=
  R_plain (fun p e below T m c h hx hb target hs => XS.istore h hx rfl (Jvm.hb hb hd) rfl (st1 hold ho rfl) hs) hr
theorem R_istoreN {i : Fin 4} {v : Int32} {o : Slot} (hd : decode μ.bs pc = .ok (.istore_n i, 1)) (hold : Ls[i.val]? = some o) (ho : One o)
    (hr : Run Γ μ k n O (pc + 1) (Ls.set i.val (.val (.int v))) st) : Run Γ μ k n O pc Ls (.int v :: st) :=
  R_plain (fun p e below T m c h hx hb target hs => XS.istoreN h hx rfl (Jvm.hb hb hd) rfl (st1 hold ho rfl) hs) hr
theorem R_lstore {i : Nat} {v : Int64} {o o' : Slot} (hd : decode μ.bs pc = .ok (.lstore i, 2)) (hold : Ls[i]? = some o) (ho : o = .unset ∨ ∃ w, o = .val w) (hold' : Ls[i + 1]? = some o') (ho' : o' = .unset ∨ o' = .second ∨ ∃ w, o' = .val w ∧ w.category = 1)
    (hr : Run Γ μ k n O (pc + 2) ((Ls.set i (.val (.long v))).set (i + 1) .second) st) : Run Γ μ k n O pc Ls (.long v :: st) :=
  R_plain (fun p e below T m c h hx hb target hs => XT.lstore h hx rfl (Jvm.hb hb hd) rfl (st2 hold ho hold' ho' rfl) hs) hr
theorem R_lstoreN {i : Fin 4} {v : Int64} {o o' : Slot} (hd : decode μ.bs pc = .ok (.lstore_n i, 1)) (hold : Ls[i.val]? = some o) (ho : o = .unset ∨ ∃ w, o = .val w) (hold' : Ls[i.val + 1]? = some o') (ho' : o' = .unset ∨ o' = .second ∨ ∃ w, o' = .val w ∧ w.category = 1)
    (hr : Run Γ μ k n O (pc + 1) ((Ls.set i.val (.val (.long v))).set (i.val + 1) .second) st) : Run Γ μ k n O pc Ls (.long v :: st) :=
  R_plain (fun p e below T m c h hx hb target hs => XT.lstoreN h hx rfl (Jvm.hb hb hd) rfl (st2 hold ho hold' ho' rfl) hs) hr
theorem R_astore {i : Nat} {v : Value} {o : Slot} (hd : decode μ.bs pc = .ok (.astore i, 2)) (hv : v.isRef = true) (hold : Ls[i]? = some o) (ho : One o)
    (hr : Run Γ μ k n O (pc + 2) (Ls.set i (.val v)) st) : Run Γ μ k n O pc Ls (v :: st) :=
  R_plain (fun p e below T m c h hx hb target hs => XS.astore h hx rfl (Jvm.hb hb hd) rfl hv (st1 hold ho (XT.cat1 hv)) hs) hr
theorem R_astoreN {i : Fin 4} {v : Value} {o : Slot} (hd : decode μ.bs pc = .ok (.astore_n i, 1)) (hv : v.isRef = true) (hold : Ls[i.val]? = some o) (ho : One o)
    (hr : Run Γ μ k n O (pc + 1) (Ls.set i.val (.val v)) st) : Run Γ μ k n O pc Ls (v :: st) :=
  R_plain (fun p e below T m c h hx hb target hs => XS.astoreN h hx rfl (Jvm.hb hb hd) rfl hv (st1 hold ho (XT.cat1 hv)) hs) hr
theorem R_iinc {i : Nat} {x : Int32} {cst : Int} (v : Int32) (hd : decode μ.bs pc = .ok (.iinc i cst, 3)) (hv : Int32.ofInt cst = v) (hl : Ls[i]? = some (.val (.int x)))
    (hr : Run Γ μ k n O (pc + 3) (Ls.set i (.val (.int (x + v)))) st) : Run Γ μ k n O pc Ls st :=
  R_plain (fun p e below T m c h hx hb target hs => XS.iinc h hx rfl (Jvm.hb hb hd) (at_list hl) (by rw [hv]; exact st1 hl (Or.inr ⟨_, rfl, rfl⟩) rfl) hs) hr
theorem R_iconst {i : Int} (v : Int32) (hd : decode μ.bs pc = .ok (.iconst i, 1)) (hv : Int32.ofInt i = v)
    (hr : Run Γ μ k n O (pc + 1) Ls (.int v :: st)) : Run Γ μ k n O pc Ls st :=
  R_plain (fun p e below T m c h hx hb target hs => XS.iconst h hx rfl (Jvm.hb hb hd) (by rw [hv]; exact hs)) hr
theorem R_bipush {i : Int} (v : Int32) (hd : decode μ.bs pc = .ok (.bipush i, 2)) (hv : (Int8.ofInt i).toInt32 = v)
    (hr : Run Γ μ k n O (pc + 2) Ls (.int v :: st)) : Run Γ μ k n O pc Ls st :=
  R_plain (fun p e below T m c h hx hb target hs => XS.bipush h hx rfl (Jvm.hb hb hd) (by rw [hv]; exact hs)) hr
theorem R_sipush {i : Int} (v : Int32) (hd : decode μ.bs pc = .ok (.sipush i, 3)) (hv : (Int16.ofInt i).toInt32 = v)
    (hr : Run Γ μ k n O (pc + 3) Ls (.int v :: st)) : Run Γ μ k n O pc Ls st :=
  R_plain (fun p e below T m c h hx hb target hs => XS.sipush h hx rfl (Jvm.hb hb hd) (by rw [hv]; exact hs)) hr
theorem R_lconst {i : Fin 2} (v : Int64) (hd : decode μ.bs pc = .ok (.lconst i, 1)) (hv : Int64.ofNat i = v)
    (hr : Run Γ μ k n O (pc + 1) Ls (.long v :: st)) : Run Γ μ k n O pc Ls st :=
  R_plain (fun p e below T m c h hx hb target hs => XT.lconst h hx rfl (Jvm.hb hb hd) (by rw [hv]; exact hs)) hr
theorem R_aconst_null  (hd : decode μ.bs pc = .ok (.aconst_null, 1)) 
    (hr : Run Γ μ k n O (pc + 1) Ls (.null :: st)) : Run Γ μ k n O pc Ls st :=
  R_plain (fun p e below T m c h hx hb target hs => XS.aconstNull h hx rfl (Jvm.hb hb hd) hs) hr
theorem R_iadd {x y : Int32} (hd : decode μ.bs pc = .ok (.iadd, 1)) 
    (hr : Run Γ μ k n O (pc + 1) Ls (.int (x + y) :: st)) : Run Γ μ k n O pc Ls (.int y :: .int x :: st) :=
  R_plain (fun p e below T m c h hx hb target hs => XS.iadd h hx rfl (Jvm.hb hb hd) rfl hs) hr
theorem R_isub {x y : Int32} (hd : decode μ.bs pc = .ok (.isub, 1)) 
    (hr : Run Γ μ k n O (pc + 1) Ls (.int (x - y) :: st)) : Run Γ μ k n O pc Ls (.int y :: .int x :: st) :=
  R_plain (fun p e below T m c h hx hb target hs => XS.isub h hx rfl (Jvm.hb hb hd) rfl hs) hr
theorem R_imul {x y : Int32} (hd : decode μ.bs pc = .ok (.imul, 1)) 
    (hr : Run Γ μ k n O (pc + 1) Ls (.int (x * y) :: st)) : Run Γ μ k n O pc Ls (.int y :: .int x :: st) :=
  R_plain (fun p e below T m c h hx hb target hs => XS.imul h hx rfl (Jvm.hb hb hd) rfl hs) hr
theorem R_iand {x y : Int32} (hd : decode μ.bs pc = .ok (.iand, 1)) 
    (hr : Run Γ μ k n O (pc + 1) Ls (.int (x &&& y) :: st)) : Run Γ μ k n O pc Ls (.int y :: .int x :: st) :=
  R_plain (fun p e below T m c h hx hb target hs => XS.iand h hx rfl (Jvm.hb hb hd) rfl hs) hr
theorem R_ior {x y : Int32} (hd : decode μ.bs pc = .ok (.ior, 1)) 
    (hr : Run Γ μ k n O (pc + 1) Ls (.int (x ||| y) :: st)) : Run Γ μ k n O pc Ls (.int y :: .int x :: st) :=
  R_plain (fun p e below T m c h hx hb target hs => XT.ior h hx rfl (Jvm.hb hb hd) rfl hs) hr
theorem R_ixor {x y : Int32} (hd : decode μ.bs pc = .ok (.ixor, 1)) 
    (hr : Run Γ μ k n O (pc + 1) Ls (.int (x ^^^ y) :: st)) : Run Γ μ k n O pc Ls (.int y :: .int x :: st) :=
  R_plain (fun p e below T m c h hx hb target hs => XT.ixor h hx rfl (Jvm.hb hb hd) rfl hs) hr
theorem R_ishl {x y : Int32} (hd : decode μ.bs pc = .ok (.ishl, 1)) 
    (hr : Run Γ μ k n O (pc + 1) Ls (.int (x <<< (y &&& 31)) :: st)) : Run Γ μ k n O pc Ls (.int y :: .int x :: st) :=
  R_plain (fun p e below T m c h hx hb target hs => XT.ishl h hx rfl (Jvm.hb hb hd) rfl hs) hr
theorem R_ishr {x y : Int32} (hd : decode μ.bs pc = .ok (.ishr, 1)) 
    (hr : Run Γ μ k n O (pc + 1) Ls (.int (x >>> (y &&& 31)) :: st)) : Run Γ μ k n O pc Ls (.int y :: .int x :: st) :=
  R_plain (fun p e below T m c h hx hb target hs => XT.ishr h hx rfl (Jvm.hb hb hd) rfl hs) hr
theorem R_iushr {x y : Int32} (hd : decode μ.bs pc = .ok (.iushr, 1)) 
    (hr : Run Γ μ k n O (pc + 1) Ls (.int (XT.ushr x y) :: st)) : Run Γ μ k n O pc Ls (.int y :: .int x :: st) :=
  R_plain (fun p e below T m c h hx hb target hs => XT.iushr h hx rfl (Jvm.hb hb hd) rfl hs) hr
theorem R_ineg {x : Int32} (hd : decode μ.bs pc = .ok (.ineg, 1)) 
    (hr : Run Γ μ k n O (pc + 1) Ls (.int (-x) :: st)) : Run Γ μ k n O pc Ls (.int x :: st) :=
  R_plain (fun p e below T m c h hx hb target hs => XS.ineg h hx rfl (Jvm.hb hb hd) rfl hs) hr
theorem R_idiv {x y : Int32} (hd : decode μ.bs pc = .ok (.idiv, 1)) (hy : y ≠ 0)
    (hr : Run Γ μ k n O (pc + 1) Ls (.int (x / y) :: st)) : Run Γ μ k n O pc Ls (.int y :: .int x :: st) :=
  R_plain (fun p e below T m c h hx hb target hs => XS.idiv h hx rfl (Jvm.hb hb hd) rfl hy hs) hr
theorem R_irem {x y : Int32} (hd : decode μ.bs pc = .ok (.irem, 1)) (hy : y ≠ 0)
    (hr : Run Γ μ k n O (pc + 1) Ls (.int (x % y) :: st)) : Run Γ μ k n O pc Ls (.int y :: .int x :: st) :=
  R_plain (fun p e below T m c h hx hb target hs => XS.irem h hx rfl (Jvm.hb hb hd) rfl hy (by rw [show x - x / y * y = x % y from irem_eq_mod x y]; exact hs)) hr
theorem R_ladd {x y : Int64} (hd : decode μ.bs pc = .ok (.ladd, 1)) 
    (hr : Run Γ μ k n O (pc + 1) Ls (.long (x + y) :: st)) : Run Γ μ k n O pc Ls (.long y :: .long x :: st) :=
  R_plain (fun p e below T m c h hx hb target hs => XT.ladd h hx rfl (Jvm.hb hb hd) rfl hs) hr
theorem R_lsub {x y : Int64} (hd : decode μ.bs pc = .ok (.lsub, 1)) 
    (hr : Run Γ μ k n O (pc + 1) Ls (.long (x - y) :: st)) : Run Γ μ k n O pc Ls (.long y :: .long x :: st) :=
  R_plain (fun p e below T m c h hx hb target hs => XT.lsub h hx rfl (Jvm.hb hb hd) rfl hs) hr
theorem R_lmul {x y : Int64} (hd : decode μ.bs pc = .ok (.lmul, 1)) 
    (hr : Run Γ μ k n O (pc + 1) Ls (.long (x * y) :: st)) : Run Γ μ k n O pc Ls (.long y :: .long x :: st) :=
  R_plain (fun p e below T m c h hx hb target hs => XT.lmul h hx rfl (Jvm.hb hb hd) rfl hs) hr
theorem R_land {x y : Int64} (hd : decode μ.bs pc = .ok (.land, 1)) 
    (hr : Run Γ μ k n O (pc + 1) Ls (.long (x &&& y) :: st)) : Run Γ μ k n O pc Ls (.long y :: .long x :: st) :=
  R_plain (fun p e below T m c h hx hb target hs => XT.land h hx rfl (Jvm.hb hb hd) rfl hs) hr
theorem R_lor {x y : Int64} (hd : decode μ.bs pc = .ok (.lor, 1)) 
    (hr : Run Γ μ k n O (pc + 1) Ls (.long (x ||| y) :: st)) : Run Γ μ k n O pc Ls (.long y :: .long x :: st) :=
  R_plain (fun p e below T m c h hx hb target hs => XT.lor h hx rfl (Jvm.hb hb hd) rfl hs) hr
theorem R_lxor {x y : Int64} (hd : decode μ.bs pc = .ok (.lxor, 1)) 
    (hr : Run Γ μ k n O (pc + 1) Ls (.long (x ^^^ y) :: st)) : Run Γ μ k n O pc Ls (.long y :: .long x :: st) :=
  R_plain (fun p e below T m c h hx hb target hs => XT.lxor h hx rfl (Jvm.hb hb hd) rfl hs) hr
theorem R_lneg {x : Int64} (hd : decode μ.bs pc = .ok (.lneg, 1)) 
    (hr : Run Γ μ k n O (pc + 1) Ls (.long (-x) :: st)) : Run Γ μ k n O pc Ls (.long x :: st) :=
  R_plain (fun p e below T m c h hx hb target hs => XT.lneg h hx rfl (Jvm.hb hb hd) rfl hs) hr
theorem R_ldiv {x y : Int64} (hd : decode μ.bs pc = .ok (.ldiv, 1)) (hy : y ≠ 0)
    (hr : Run Γ μ k n O (pc + 1) Ls (.long (x / y) :: st)) : Run Γ μ k n O pc Ls (.long y :: .long x :: st) :=
  R_plain (fun p e below T m c h hx hb target hs => XT.ldiv h hx rfl (Jvm.hb hb hd) rfl hy hs) hr
theorem R_lcmp {x y : Int64} (hd : decode μ.bs pc = .ok (.lcmp, 1)) 
    (hr : Run Γ μ k n O (pc + 1) Ls (.int (XT.cmpL x y) :: st)) : Run Γ μ k n O pc Ls (.long y :: .long x :: st) :=
  R_plain (fun p e below T m c h hx hb target hs => XT.lcmp h hx rfl (Jvm.hb hb hd) rfl hs) hr
theorem R_i2l {x : Int32} (hd : decode μ.bs pc = .ok (.i2l, 1)) 
    (hr : Run Γ μ k n O (pc + 1) Ls (.long x.toInt64 :: st)) : Run Γ μ k n O pc Ls (.int x :: st) :=
  R_plain (fun p e below T m c h hx hb target hs => XT.i2l h hx rfl (Jvm.hb hb hd) rfl hs) hr
theorem R_l2i {x : Int64} (hd : decode μ.bs pc = .ok (.l2i, 1)) 
    (hr : Run Γ μ k n O (pc + 1) Ls (.int x.toInt32 :: st)) : Run Γ μ k n O pc Ls (.long x :: st) :=
  R_plain (fun p e below T m c h hx hb target hs => XT.l2i h hx rfl (Jvm.hb hb hd) rfl hs) hr
theorem R_i2b {x : Int32} (hd : decode μ.bs pc = .ok (.i2b, 1)) 
    (hr : Run Γ μ k n O (pc + 1) Ls (.int x.toInt8.toInt32 :: st)) : Run Γ μ k n O pc Ls (.int x :: st) :=
  R_plain (fun p e below T m c h hx hb target hs => XT.i2b h hx rfl (Jvm.hb hb hd) rfl hs) hr
theorem R_i2c {x : Int32} (hd : decode μ.bs pc = .ok (.i2c, 1)) 
    (hr : Run Γ μ k n O (pc + 1) Ls (.int x.toUInt32.toUInt16.toUInt32.toInt32 :: st)) : Run Γ μ k n O pc Ls (.int x :: st) :=
  R_plain (fun p e below T m c h hx hb target hs => XT.i2c h hx rfl (Jvm.hb hb hd) rfl hs) hr
theorem R_i2s {x : Int32} (hd : decode μ.bs pc = .ok (.i2s, 1)) 
    (hr : Run Γ μ k n O (pc + 1) Ls (.int x.toInt16.toInt32 :: st)) : Run Γ μ k n O pc Ls (.int x :: st) :=
  R_plain (fun p e below T m c h hx hb target hs => XT.i2s h hx rfl (Jvm.hb hb hd) rfl hs) hr
theorem R_dup {x : Value} (hd : decode μ.bs pc = .ok (.dup, 1)) (hc : x.category = 1)
    (hr : Run Γ μ k n O (pc + 1) Ls (x :: x :: st)) : Run Γ μ k n O pc Ls (x :: st) :=
  R_plain (fun p e below T m c h hx hb target hs => XS.dup h hx rfl (Jvm.hb hb hd) rfl hc hs) hr
theorem R_pop {x : Value} (hd : decode μ.bs pc = .ok (.pop, 1)) (hc : x.category = 1)
    (hr : Run Γ μ k n O (pc + 1) Ls st) : Run Γ μ k n O pc Ls (x :: st) :=
  R_plain (fun p e below T m c h hx hb target hs => XT.pop h hx rfl (Jvm.hb hb hd) rfl hc hs) hr
theorem R_dup_x1 {x y : Value} (hd : decode μ.bs pc = .ok (.dup_x1, 1)) (hc : x.category = 1) (hc' : y.category = 1)
    (hr : Run Γ μ k n O (pc + 1) Ls (x :: y :: x :: st)) : Run Γ μ k n O pc Ls (x :: y :: st) :=
  R_plain (fun p e below T m c h hx hb target hs => XT.dupX1 h hx rfl (Jvm.hb hb hd) rfl hc hc' hs) hr
theorem R_goto {o : Int} (hd : decode μ.bs pc = .ok (.goto o, 3)) (ho : 0 ≤ (pc : Int) + o) (hp : ((pc : Int) + o).toNat = pc')
    (hr : Run Γ μ k n O pc' Ls st) : Run Γ μ k n O pc Ls st :=
  R_plain (fun p e below T m c h hx hb target hs => XS.goto h hx rfl (pc0 := pc) (pc' := pc') rfl (Jvm.hb hb hd) ho hp hs) hr
theorem R_icmp_eq {x y : Int32} {o : Int} (hd : decode μ.bs pc = .ok (.if_icmp .eq o, 3)) (ho : 0 ≤ (pc : Int) + o) (hp : ((pc : Int) + o).toNat = pc')
    (hT : x = y → Run Γ μ k n O pc' Ls st) (hF : ¬ x = y → Run Γ μ k n O (pc + 3) Ls st) : Run Γ μ k n O pc Ls (.int y :: .int x :: st) := by
  by_cases q : x = y
  · exact R_plain (fun p e below T m c h hx hb target hs => XS.icmpYes h hx rfl (pc0 := pc) (pc' := pc') rfl (Jvm.hb hb hd) rfl (XT.ii_eq_t q) ho hp hs) (hT q)
  · exact R_plain (fun p e below T m c h hx hb target hs => XS.icmpNo h hx rfl (Jvm.hb hb hd) rfl (XT.ii_eq_f q) hs) (hF q)
theorem R_icmp_ne {x y : Int32} {o : Int} (hd : decode μ.bs pc = .ok (.if_icmp .ne o, 3)) (ho : 0 ≤ (pc : Int) + o) (hp : ((pc : Int) + o).toNat = pc')
    (hT : ¬ x = y → Run Γ μ k n O pc' Ls st) (hF : x = y → Run Γ μ k n O (pc + 3) Ls st) : Run Γ μ k n O pc Ls (.int y :: .int x :: st) := by
  by_cases q : x = y
  · exact R_plain (fun p e below T m c h hx hb target hs => XS.icmpNo h hx rfl (Jvm.hb hb hd) rfl (XT.ii_ne_f q) hs) (hF q)
  · exact R_plain (fun p e below T m c h hx hb target hs => XS.icmpYes h hx rfl (pc0 := pc) (pc' := pc') rfl (Jvm.hb hb hd) rfl (XT.ii_ne_t q) ho hp hs) (hT q)
theorem R_icmp_lt {x y : Int32} {o : Int} (hd : decode μ.bs pc = .ok (.if_icmp .lt o, 3)) (ho : 0 ≤ (pc : Int) + o) (hp : ((pc : Int) + o).toNat = pc')
    (hT : x < y → Run Γ μ k n O pc' Ls st) (hF : ¬ x < y → Run Γ μ k n O (pc + 3) Ls st) : Run Γ μ k n O pc Ls (.int y :: .int x :: st) := by
  by_cases q : x < y
  · exact R_plain (fun p e below T m c h hx hb target hs => XS.icmpYes h hx rfl (pc0 := pc) (pc' := pc') rfl (Jvm.hb hb hd) rfl (XT.ii_lt_t q) ho hp hs) (hT q)
  · exact R_plain (fun p e below T m c h hx hb target hs => XS.icmpNo h hx rfl (Jvm.hb hb hd) rfl (XT.ii_lt_f q) hs) (hF q)
theorem R_icmp_ge {x y : Int32} {o : Int} (hd : decode μ.bs pc = .ok (.if_icmp .ge o, 3)) (ho : 0 ≤ (pc : Int) + o) (hp : ((pc : Int) + o).toNat = pc')
    (hT : ¬ x < y → Run Γ μ k n O pc' Ls st) (hF : x < y → Run Γ μ k n O (pc + 3) Ls st) : Run Γ μ k n O pc Ls (.int y :: .int x :: st) := by
  by_cases q : x < y
  · exact R_plain (fun p e below T m c h hx hb target hs => XS.icmpNo h hx rfl (Jvm.hb hb hd) rfl (XT.ii_ge_f q) hs) (hF q)
  · exact R_plain (fun p e below T m c h hx hb target hs => XS.icmpYes h hx rfl (pc0 := pc) (pc' := pc') rfl (Jvm.hb hb hd) rfl (XT.ii_ge_t q) ho hp hs) (hT q)
theorem R_icmp_gt {x y : Int32} {o : Int} (hd : decode μ.bs pc = .ok (.if_icmp .gt o, 3)) (ho : 0 ≤ (pc : Int) + o) (hp : ((pc : Int) + o).toNat = pc')
    (hT : y < x → Run Γ μ k n O pc' Ls st) (hF : ¬ y < x → Run Γ μ k n O (pc + 3) Ls st) : Run Γ μ k n O pc Ls (.int y :: .int x :: st) := by
  by_cases q : y < x
  · exact R_plain (fun p e below T m c h hx hb target hs => XS.icmpYes h hx rfl (pc0 := pc) (pc' := pc') rfl (Jvm.hb hb hd) rfl (XT.ii_gt_t q) ho hp hs) (hT q)
  · exact R_plain (fun p e below T m c h hx hb target hs => XS.icmpNo h hx rfl (Jvm.hb hb hd) rfl (XT.ii_gt_f q) hs) (hF q)
theorem R_icmp_le {x y : Int32} {o : Int} (hd : decode μ.bs pc = .ok (.if_icmp .le o, 3)) (ho : 0 ≤ (pc : Int) + o) (hp : ((pc : Int) + o).toNat = pc')
    (hT : ¬ y < x → Run Γ μ k n O pc' Ls st) (hF : y < x → Run Γ μ k n O (pc + 3) Ls st) : Run Γ μ k n O pc Ls (.int y :: .int x :: st) := by
  by_cases q : y < x
  · exact R_plain (fun p e below T m c h hx hb target hs => XS.icmpNo h hx rfl (Jvm.hb hb hd) rfl (XT.ii_le_f q) hs) (hF q)
  · exact R_plain (fun p e below T m c h hx hb target hs => XS.icmpYes h hx rfl (pc0 := pc) (pc' := pc') rfl (Jvm.hb hb hd) rfl (XT.ii_le_t q) ho hp hs) (hT q)
theorem R_if_eq {x : Int32} {o : Int} (hd : decode μ.bs pc = .ok (.ifCond .eq o, 3)) (ho : 0 ≤ (pc : Int) + o) (hp : ((pc : Int) + o).toNat = pc')
    (hT : x = 0 → Run Γ μ k n O pc' Ls st) (hF : ¬ x = 0 → Run Γ μ k n O (pc + 3) Ls st) : Run Γ μ k n O pc Ls (.int x :: st) := by
  by_cases q : x = 0
  · exact R_plain (fun p e below T m c h hx hb target hs => XS.ifYes h hx rfl (pc0 := pc) (pc' := pc') rfl (Jvm.hb hb hd) rfl ((if0 _ _).trans (XT.ii_eq_t q)) ho hp hs) (hT q)
  · exact R_plain (fun p e below T m c h hx hb target hs => XS.ifNo h hx rfl (Jvm.hb hb hd) rfl ((if0 _ _).trans (XT.ii_eq_f q)) hs) (hF q)
theorem R_if_ne {x : Int32} {o : Int} (hd : decode μ.bs pc = .ok (.ifCond .ne o, 3)) (ho : 0 ≤ (pc : Int) + o) (hp : ((pc : Int) + o).toNat = pc')
    (hT : ¬ x = 0 → Run Γ μ k n O pc' Ls st) (hF : x = 0 → Run Γ μ k n O (pc + 3) Ls st) : Run Γ μ k n O pc Ls (.int x :: st) := by
  by_cases q : x = 0
  · exact R_plain (fun p e below T m c h hx hb target hs => XS.ifNo h hx rfl (Jvm.hb hb hd) rfl ((if0 _ _).trans (XT.ii_ne_f q)) hs) (hF q)
  · exact R_plain (fun p e below T m c h hx hb target hs => XS.ifYes h hx rfl (pc0 := pc) (pc' := pc') rfl (Jvm.hb hb hd) rfl ((if0 _ _).trans (XT.ii_ne_t q)) ho hp hs) (hT q)
theorem R_if_lt {x : Int32} {o : Int} (hd : decode μ.bs pc = .ok (.ifCond .lt o, 3)) (ho : 0 ≤ (pc : Int) + o) (hp : ((pc : Int) + o).toNat = pc')
    (hT : x < 0 → Run Γ μ k n O pc' Ls st) (hF : ¬ x < 0 → Run Γ μ k n O (pc + 3) Ls st) : Run Γ μ k n O pc Ls (.int x :: st) := by
  by_cases q : x < 0
  · exact R_plain (fun p e below T m c h hx hb target hs => XS.ifYes h hx rfl (pc0 := pc) (pc' := pc') rfl (Jvm.hb hb hd) rfl ((if0 _ _).trans (XT.ii_lt_t q)) ho hp hs) (hT q)
  · exact R_plain (fun p e below T m c h hx hb target hs => XS.ifNo h hx rfl (Jvm.hb hb hd) rfl ((if0 _ _).trans (XT.ii_lt_f q)) hs) (hF q)
theorem R_if_ge {x : Int32} {o : Int} (hd : decode μ.bs pc = .ok (.ifCond .ge o, 3)) (ho : 0 ≤ (pc : Int) + o) (hp : ((pc : Int) + o).toNat = pc')
    (hT : ¬ x < 0 → Run Γ μ k n O pc' Ls st) (hF : x < 0 → Run Γ μ k n O (pc + 3) Ls st) : Run Γ μ k n O pc Ls (.int x :: st) := by
  by_cases q : x < 0
  · exact R_plain (fun p e below T m c h hx hb target hs => XS.ifNo h hx rfl (Jvm.hb hb hd) rfl ((if0 _ _).trans (XT.ii_ge_f q)) hs) (hF q)
  · exact R_plain (fun p e below T m c h hx hb target hs => XS.ifYes h hx rfl (pc0 := pc) (pc' := pc') rfl (Jvm.hb hb hd) rfl ((if0 _ _).trans (XT.ii_ge_t q)) ho hp hs) (hT q)
theorem R_if_gt {x : Int32} {o : Int} (hd : decode μ.bs pc = .ok (.ifCond .gt o, 3)) (ho : 0 ≤ (pc : Int) + o) (hp : ((pc : Int) + o).toNat = pc')
    (hT : 0 < x → Run Γ μ k n O pc' Ls st) (hF : ¬ 0 < x → Run Γ μ k n O (pc + 3) Ls st) : Run Γ μ k n O pc Ls (.int x :: st) := by
  by_cases q : 0 < x
  · exact R_plain (fun p e below T m c h hx hb target hs => XS.ifYes h hx rfl (pc0 := pc) (pc' := pc') rfl (Jvm.hb hb hd) rfl ((if0 _ _).trans (XT.ii_gt_t q)) ho hp hs) (hT q)
  · exact R_plain (fun p e below T m c h hx hb target hs => XS.ifNo h hx rfl (Jvm.hb hb hd) rfl ((if0 _ _).trans (XT.ii_gt_f q)) hs) (hF q)
theorem R_if_le {x : Int32} {o : Int} (hd : decode μ.bs pc = .ok (.ifCond .le o, 3)) (ho : 0 ≤ (pc : Int) + o) (hp : ((pc : Int) + o).toNat = pc')
    (hT : ¬ 0 < x → Run Γ μ k n O pc' Ls st) (hF : 0 < x → Run Γ μ k n O (pc + 3) Ls st) : Run Γ μ k n O pc Ls (.int x :: st) := by
  by_cases q : 0 < x
  · exact R_plain (fun p e below T m c h hx hb target hs => XS.ifNo h hx rfl (Jvm.hb hb hd) rfl ((if0 _ _).trans (XT.ii_le_f q)) hs) (hF q)
  · exact R_plain (fun p e below T m c h hx hb target hs => XS.ifYes h hx rfl (pc0 := pc) (pc' := pc') rfl (Jvm.hb hb hd) rfl ((if0 _ _).trans (XT.ii_le_t q)) ho hp hs) (hT q)
theorem R_lcmp_eq {x y : Int64} {o : Int} (hd : decode μ.bs pc = .ok (.ifCond .eq o, 3)) (ho : 0 ≤ (pc : Int) + o) (hp : ((pc : Int) + o).toNat = pc')
    (hT : x = y → Run Γ μ k n O pc' Ls st) (hF : ¬ x = y → Run Γ μ k n O (pc + 3) Ls st) : Run Γ μ k n O pc Ls (.int (XT.cmpL x y) :: st) := by
  by_cases q : x = y
  · exact R_plain (fun p e below T m c h hx hb target hs => XS.ifYes h hx rfl (pc0 := pc) (pc' := pc') rfl (Jvm.hb hb hd) rfl (XT.ll_eq_t q) ho hp hs) (hT q)
  · exact R_plain (fun p e below T m c h hx hb target hs => XS.ifNo h hx rfl (Jvm.hb hb hd) rfl (XT.ll_eq_f q) hs) (hF q)
theorem R_lcmp_ne {x y : Int64} {o : Int} (hd : decode μ.bs pc = .ok (.ifCond .ne o, 3)) (ho : 0 ≤ (pc : Int) + o) (hp : ((pc : Int) + o).toNat = pc')
    (hT : ¬ x = y → Run Γ μ k n O pc' Ls st) (hF : x = y → Run Γ μ k n O (pc + 3) Ls st) : Run Γ μ k n O pc Ls (.int (XT.cmpL x y) :: st) := by
  by_cases q : x = y
  · exact R_plain (fun p e below T m c h hx hb target hs => XS.ifNo h hx rfl (Jvm.hb hb hd) rfl (XT.ll_ne_f q) hs) (hF q)
  · exact R_plain (fun p e below T m c h hx hb target hs => XS.ifYes h hx rfl (pc0 := pc) (pc' := pc') rfl (Jvm.hb hb hd) rfl (XT.ll_ne_t q) ho hp hs) (hT q)
theorem R_lcmp_lt {x y : Int64} {o : Int} (hd : decode μ.bs pc = .ok (.ifCond .lt o, 3)) (ho : 0 ≤ (pc : Int) + o) (hp : ((pc : Int) + o).toNat = pc')
    (hT : x < y → Run Γ μ k n O pc' Ls st) (hF : ¬ x < y → Run Γ μ k n O (pc + 3) Ls st) : Run Γ μ k n O pc Ls (.int (XT.cmpL x y) :: st) := by
  by_cases q : x < y
  · exact R_plain (fun p e below T m c h hx hb target hs => XS.ifYes h hx rfl (pc0 := pc) (pc' := pc') rfl (Jvm.hb hb hd) rfl (XT.ll_lt_t q) ho hp hs) (hT q)
  · exact R_plain (fun p e below T m c h hx hb target hs => XS.ifNo h hx rfl (Jvm.hb hb hd) rfl (XT.ll_lt_f q) hs) (hF q)
theorem R_lcmp_ge {x y : Int64} {o : Int} (hd : decode μ.bs pc = .ok (.ifCond .ge o, 3)) (ho : 0 ≤ (pc : Int) + o) (hp : ((pc : Int) + o).toNat = pc')
    (hT : ¬ x < y → Run Γ μ k n O pc' Ls st) (hF : x < y → Run Γ μ k n O (pc + 3) Ls st) : Run Γ μ k n O pc Ls (.int (XT.cmpL x y) :: st) := by
  by_cases q : x < y
  · exact R_plain (fun p e below T m c h hx hb target hs => XS.ifNo h hx rfl (Jvm.hb hb hd) rfl (XT.ll_ge_f q) hs) (hF q)
  · exact R_plain (fun p e below T m c h hx hb target hs => XS.ifYes h hx rfl (pc0 := pc) (pc' := pc') rfl (Jvm.hb hb hd) rfl (XT.ll_ge_t q) ho hp hs) (hT q)
theorem R_lcmp_gt {x y : Int64} {o : Int} (hd : decode μ.bs pc = .ok (.ifCond .gt o, 3)) (ho : 0 ≤ (pc : Int) + o) (hp : ((pc : Int) + o).toNat = pc')
    (hT : y < x → Run Γ μ k n O pc' Ls st) (hF : ¬ y < x → Run Γ μ k n O (pc + 3) Ls st) : Run Γ μ k n O pc Ls (.int (XT.cmpL x y) :: st) := by
  by_cases q : y < x
  · exact R_plain (fun p e below T m c h hx hb target hs => XS.ifYes h hx rfl (pc0 := pc) (pc' := pc') rfl (Jvm.hb hb hd) rfl (XT.ll_gt_t q) ho hp hs) (hT q)
  · exact R_plain (fun p e below T m c h hx hb target hs => XS.ifNo h hx rfl (Jvm.hb hb hd) rfl (XT.ll_gt_f q) hs) (hF q)
theorem R_lcmp_le {x y : Int64} {o : Int} (hd : decode μ.bs pc = .ok (.ifCond .le o, 3)) (ho : 0 ≤ (pc : Int) + o) (hp : ((pc : Int) + o).toNat = pc')
    (hT : ¬ y < x → Run Γ μ k n O pc' Ls st) (hF : y < x → Run Γ μ k n O (pc + 3) Ls st) : Run Γ μ k n O pc Ls (.int (XT.cmpL x y) :: st) := by
  by_cases q : y < x
  · exact R_plain (fun p e below T m c h hx hb target hs => XS.ifNo h hx rfl (Jvm.hb hb hd) rfl (XT.ll_le_f q) hs) (hF q)
  · exact R_plain (fun p e below T m c h hx hb target hs => XS.ifYes h hx rfl (pc0 := pc) (pc' := pc') rfl (Jvm.hb hb hd) rfl (XT.ll_le_t q) ho hp hs) (hT q)
theorem R_ifnull {v : Value} {o : Int} (hd : decode μ.bs pc = .ok (.ifnull o, 3)) (hv : v.isRef = true) (ho : 0 ≤ (pc : Int) + o) (hp : ((pc : Int) + o).toNat = pc')
    (hT : v = .null → Run Γ μ k n O pc' Ls st) (hF : ¬ v = .null → Run Γ μ k n O (pc + 3) Ls st) : Run Γ μ k n O pc Ls (v :: st) := by
  by_cases q : v = .null
  · exact R_plain (fun p e below T m c h hx hb target hs => XT.nullYes h hx rfl (pc0 := pc) (pc' := pc') rfl (Jvm.hb hb hd) rfl q ho hp hs) (hT q)
  · exact R_plain (fun p e below T m c h hx hb target hs => XT.nullNo h hx rfl (Jvm.hb hb hd) rfl hv q hs) (hF q)
theorem R_ifnonnull {v : Value} {o : Int} (hd : decode μ.bs pc = .ok (.ifnonnull o, 3)) (hv : v.isRef = true) (ho : 0 ≤ (pc : Int) + o) (hp : ((pc : Int) + o).toNat = pc')
    (hT : ¬ v = .null → Run Γ μ k n O pc' Ls st) (hF : v = .null → Run Γ μ k n O (pc + 3) Ls st) : Run Γ μ k n O pc Ls (v :: st) := by
  by_cases q : v = .null
  · exact R_plain (fun p e below T m c h hx hb target hs => XT.nonnullNo h hx rfl (Jvm.hb hb hd) rfl q hs) (hF q)
  · exact R_plain (fun p e below T m c h hx hb target hs => XT.nonnullYes h hx rfl (pc0 := pc) (pc' := pc') rfl (Jvm.hb hb hd) rfl hv q ho hp hs) (hT q)
theorem R_acmp_eq {x y : Value} {o : Int} (hd : decode μ.bs pc = .ok (.if_acmp .eq o, 3)) (hx1 : x.isRef = true) (hy1 : y.isRef = true) (ho : 0 ≤ (pc : Int) + o) (hp : ((pc : Int) + o).toNat = pc')
    (hT : x = y → Run Γ μ k n O pc' Ls st) (hF : ¬ x = y → Run Γ μ k n O (pc + 3) Ls st) : Run Γ μ k n O pc Ls (y :: x :: st) := by
  by_cases q : x = y
  · exact R_plain (fun p e below T m c h hx hb target hs => XT.acmpYes h hx rfl (pc0 := pc) (pc' := pc') rfl (Jvm.hb hb hd) rfl hx1 hy1 (XT.aa_eq_t q) ho hp hs) (hT q)
  · exact R_plain (fun p e below T m c h hx hb target hs => XT.acmpNo h hx rfl (Jvm.hb hb hd) rfl hx1 hy1 (XT.aa_eq_f q) hs) (hF q)
theorem R_acmp_ne {x y : Value} {o : Int} (hd : decode μ.bs pc = .ok (.if_acmp .ne o, 3)) (hx1 : x.isRef = true) (hy1 : y.isRef = true) (ho : 0 ≤ (pc : Int) + o) (hp : ((pc : Int) + o).toNat = pc')
    (hT : ¬ x = y → Run Γ μ k n O pc' Ls st) (hF : x = y → Run Γ μ k n O (pc + 3) Ls st) : Run Γ μ k n O pc Ls (y :: x :: st) := by
  by_cases q : x = y
  · exact R_plain (fun p e below T m c h hx hb target hs => XT.acmpNo h hx rfl (Jvm.hb hb hd) rfl hx1 hy1 (XT.aa_ne_f q) hs) (hF q)
  · exact R_plain (fun p e below T m c h hx hb target hs => XT.acmpYes h hx rfl (pc0 := pc) (pc' := pc') rfl (Jvm.hb hb hd) rfl hx1 hy1 (XT.aa_ne_t q) ho hp hs) (hT q)
theorem R_tswIn {dflt low high : Int} {offs : Array Int} {len : Nat} {o : Int} {x : Int32} (hd : decode μ.bs pc = .ok (.tableswitch dflt low high offs, len)) (hin : ¬ (x.toInt < low ∨ x.toInt > high)) (hoff : offs[(x.toInt - low).toNat]? = some o) (ho : 0 ≤ (pc : Int) + o) (hp : ((pc : Int) + o).toNat = pc')
    (hr : Run Γ μ k n O pc' Ls st) : Run Γ μ k n O pc Ls (.int x :: st) :=
  R_plain (fun p e below T m c h hx hb target hs => XS.tswIn h hx rfl (pc0 := pc) (pc' := pc') rfl (Jvm.hb hb hd) rfl hin hoff ho hp hs) hr
theorem R_tswOut {dflt low high : Int} {offs : Array Int} {len : Nat} {x : Int32} (hd : decode μ.bs pc = .ok (.tableswitch dflt low high offs, len)) (hout : x.toInt < low ∨ x.toInt > high) (ho : 0 ≤ (pc : Int) + dflt) (hp : ((pc : Int) + dflt).toNat = pc')
    (hr : Run Γ μ k n O pc' Ls st) : Run Γ μ k n O pc Ls (.int x :: st) :=
  R_plain (fun p e below T m c h hx hb target hs => XS.tswOut h hx rfl (pc0 := pc) (pc' := pc') rfl (Jvm.hb hb hd) rfl hout ho hp hs) hr
end B
end Jvm.Own
namespace Jvm.Own
open Sem ClassFile Op Lib Jvm.Stand Jvm.Free Jvm.LawKit Jvm.RoadKit
/-! ## C. contracts, calls, entry, return -/
/-- the contract of a method: called with these arguments, with these cells, it returns and Q -/
def Met (Γ : Gx) (y : MethodName) (bs : ByteArray) (ml : Nat) (ret : Option FieldType) (rm : Room) (as : Array Value) (O1 : OL) (Q : Option Value → OL → Prop) : Prop :=
  ∀ (ws : List Jvm.Cond) (F : OL), MetFree Γ.l y (head1 (Jvm.Cond.code y bs ml ret :: ws) rm) (fun a U => a = as ∧ Inv Γ U.vm U.heap (O1 ++ F)) (fun _ _ _ _ _ => True)
    (fun _ U o U' => ∃ v L O', o = .returned v ∧ Q v O' ∧ Inv Γ U'.vm U'.heap (O' ++ F) ∧ Fr Γ.Z.heap.size L ∧ EndW Γ.w U o U' L rm.cells rm.slots)
section C
variable {Γ : Gx} {μ : Mx} {k n : Nat} {O O1 F' : OL} {pc pc' : Nat} {Ls Ls' : List Slot} {st st' rest : List Value}
variable {y : MethodName} {bs : ByteArray} {ml : Nat} {ret : Option FieldType} {rm : Room} {Q : Option Value → OL → Prop}
theorem Met.intro {as : Array Value} (hpn : plainName y.cls = true) (hef : ∀ m, entryFrame m as ml = mkF m 0 Ls.toArray []) (H : ∀ F, Run Γ (y, bs, ml, ret, rm, Q, F) 0 0 O1 0 Ls []) : Met Γ y bs ml ret rm as O1 Q := by
  intro ws F
  refine MetFree.of_bodySF (code := bs) (maxLocals := ml) (ret := ret) (plainFor_of_name hpn) hisR ?_
  intro p e s m args below meth c s₁ Bd hml0 hP hK
  obtain ⟨rfl, I⟩ := hP
  have X0 : Stand p Γ.l e rm (s.setVm s.vm) m args below meth c s₁ [] 0 0 := Stand.of_body Bd
  have e0 : s₁.heap = s.heap := by rw [Bd.state]; rfl
  have P : Pos Γ (y, bs, ml, ret, rm, Q, F) 0 0 O1 p e s m args below meth c s₁ [] s.vm 0 :=
    ⟨X0, Bd.exec, Bd.bytes, hml0, Bd.returns, (name_of_methodNamed Bd.named Bd.method).1, Bd.notSynchronized, findClass_of_methodNamed Bd.named, (State.WarmedH.refl s).since 0, Nat.zero_le _, fun _ => rfl, Fr.nil _, by rw [e0]; exact I⟩
  rw [hef m]
  exact H F p e s m args below meth c s₁ [] s.vm 0 P
/-- a contract may promise less, or ask more -/
theorem Met.mono {as : Array Value} {Q' : Option Value → OL → Prop} (h : Met Γ y bs ml ret rm as O1 Q) (q : ∀ v O', Q v O' → Q' v O') : Met Γ y bs ml ret rm as O1 Q' := fun ws F p e ha hc hk s m args below hf happ hP hK => by
  obtain ⟨n, o, g1, g2, g3, v, L, O', h1, h2, h3⟩ := h ws F p e ha hc hk s m args below hf happ hP hK
  exact ⟨n, o, g1, g2, g3, v, L, O', h1, q v O' h2, h3⟩
/-- the callee's cells, picked out of the caller's -/
def Picks (O O1 F' : OL) : Prop := O.Perm (O1 ++ F')
theorem pk0 {O : OL} : Picks O [] O := List.Perm.refl _
theorem perm_erase {α : Type} {l : List α} {x : α} : ∀ {i : Nat}, l[i]? = some x → l.Perm (x :: l.eraseIdx i) := by
  induction l with
  | nil => intro i h; simp at h
  | cons b t ih =>
    intro i h
    cases i with
    | zero => simp at h; subst h; exact List.Perm.refl _
    | succ j =>
      simp only [List.getElem?_cons_succ] at h
      exact (List.Perm.cons b (ih h)).trans (List.Perm.swap x b _)
theorem pkS {O O1 F' : OL} {x : El} (i : Nat) (h : O[i]? = some x) (r : Picks (O.eraseIdx i) O1 F') : Picks O (x :: O1) F' :=
  (perm_erase h).trans (List.Perm.cons x r)
theorem mem {α : Type} {l : List α} {x : α} (i : Nat) (h : l[i]? = some x) : x ∈ l := List.mem_of_getElem? h
/-- the heap's part may be re-ordered, forgotten in part -/
theorem R_perm {O' : OL} (p : O.Perm O') (hr : Run Γ μ k n O' pc Ls st) : Run Γ μ k n O pc Ls st := fun P1 e s m args below meth c T locs vm0 k0 P => by
  obtain ⟨x1, x2, x3, x4, x5, x6, x7, x8, x9, x10, x11, x12, x13⟩ := P
  exact hr P1 e s m args below meth c T locs vm0 k0 ⟨x1, x2, x3, x4, x5, x6, x7, x8, x9, x10, x11, x12, x13.perm (p.append_right _)⟩
theorem R_order {O' F' : OL} (hp : Picks O O' F') (hr : Run Γ μ k n (O' ++ F') pc Ls st) : Run Γ μ k n O pc Ls st := R_perm hp hr
theorem R_drop (i : Nat) (hr : Run Γ μ k n (O.eraseIdx i) pc Ls st) : Run Γ μ k n O pc Ls st := fun P1 e s m args below meth c T locs vm0 k0 P => by
  obtain ⟨x1, x2, x3, x4, x5, x6, x7, x8, x9, x10, x11, x12, x13⟩ := P
  exact hr P1 e s m args below meth c T locs vm0 k0 ⟨x1, x2, x3, x4, x5, x6, x7, x8, x9, x10, x11, x12, x13.sub ((List.eraseIdx_sublist O i).append_right _)⟩
/-- more may be booked than was made -/
theorem R_more {k' n' : Nat} (hk : k ≤ k') (hn : n ≤ n') (hr : Run Γ μ k' n' O pc Ls st) : Run Γ μ k n O pc Ls st := fun P1 e s m args below meth c T locs vm0 k0 P => by
  obtain ⟨x1, r⟩ := P
  exact hr P1 e s m args below meth c T locs vm0 k0 ⟨x1.more hk hn, r⟩
/-- two owned cells differ -/
theorem R_ne {i j : Nat} {a b : Addr} {φ ψ : Cell → Prop} {w : Bool} (hi : O[i]? = some (a, true, φ)) (hj : O[j]? = some (b, w, ψ)) (hij : i ≠ j) (hr : a ≠ b → Run Γ μ k n O pc Ls st) : Run Γ μ k n O pc Ls st := fun P1 e s m args below meth c T locs vm0 k0 P => by
  refine hr ?_ P1 e s m args below meth c T locs vm0 k0 P
  obtain ⟨x1, x2, x3, x4, x5, x6, x7, x8, x9, x10, x11, x12, x13⟩ := P
  have D := x13.2.2.2.2.2
  have e1 : ((O ++ μ.F).map key)[i]? = some (a, true) := by
    rw [List.getElem?_map, List.getElem?_append_left (List.getElem?_eq_some_iff.mp hi).1, hi]; rfl
  have e2 : ((O ++ μ.F).map key)[j]? = some (b, w) := by
    rw [List.getElem?_map, List.getElem?_append_left (List.getElem?_eq_some_iff.mp hj).1, hj]; rfl
  obtain ⟨l1, g1⟩ := List.getElem?_eq_some_iff.mp e1
  obtain ⟨l2, g2⟩ := List.getElem?_eq_some_iff.mp e2
  rcases Nat.lt_or_gt_of_ne hij with q | q
  · have := (List.pairwise_iff_getElem.mp D) i j l1 l2 q
    rw [g1, g2] at this; exact this (Or.inl rfl)
  · have := (List.pairwise_iff_getElem.mp D) j i l2 l1 q
    rw [g1, g2] at this; exact fun z => this (Or.inr rfl) z.symm
/-- what stood at the start is none of what the walk owns -/
theorem R_neOld {i : Nat} {a b : Addr} {φ : Cell → Prop} (hi : O[i]? = some (a, true, φ)) {c0 : Cell} (hb : Γ.Z.heap[b]? = some c0) (hr : a ≠ b → Run Γ μ k n O pc Ls st) : Run Γ μ k n O pc Ls st := fun P1 e s m args below meth c T locs vm0 k0 P => by
  refine hr ?_ P1 e s m args below meth c T locs vm0 k0 P
  have q := P.2.2.2.2.2.2.2.2.2.2.2.2.new (List.mem_append_left _ (List.mem_of_getElem? hi))
  have q2 := (Array.getElem?_eq_some_iff.mp hb).1
  exact Nat.ne_of_gt (Nat.lt_of_lt_of_le q2 q)
/-- a fact of the heap that the walk's premises give -/
theorem R_know {A : Prop} (h : ∀ vm h, Inv Γ vm h (O ++ μ.F) → A) (hr : A → Run Γ μ k n O pc Ls st) : Run Γ μ k n O pc Ls st := fun P1 e s m args below meth c T locs vm0 k0 P =>
  hr (h _ _ P.2.2.2.2.2.2.2.2.2.2.2.2) P1 e s m args below meth c T locs vm0 k0 P
/-- a cell of the start, shared -/
theorem R_share {a : Addr} {φ : Cell → Prop} {c0 : Cell} (hc : Γ.Z.heap[a]? = some c0) (hφ : φ c0) (hr : Run Γ μ k n ((a, false, φ) :: O) pc Ls st) : Run Γ μ k n O pc Ls st := fun P1 e s m args below meth c T locs vm0 k0 P => by
  obtain ⟨x1, x2, x3, x4, x5, x6, x7, x8, x9, x10, x11, x12, h1, h2, h3, h4, h5, h6⟩ := P
  refine hr P1 e s m args below meth c T locs vm0 k0 ⟨x1, x2, x3, x4, x5, x6, x7, x8, x9, x10, x11, x12, h1, h2, h3, fun x hx => ?_, fun x hx ht => ?_, ?_⟩
  · rcases List.mem_cons.mp hx with rfl | hx
    · exact ⟨c0, h2.2 _ _ hc, hφ⟩
    · exact h4 x hx
  · rcases List.mem_cons.mp hx with rfl | hx
    · cases ht
    · exact h5 x hx ht
  · refine List.pairwise_cons.mpr ⟨fun y hy ht e => ?_, h6⟩
    obtain ⟨z, hz, rfl⟩ := List.mem_map.mp hy
    rcases ht with q | q
    · cases q
    · have l0 := (h5 z hz q).1
      have l1 := (Array.getElem?_eq_some_iff.mp hc).1
      have e' : a = z.1 := e
      exact absurd l1 (Nat.not_lt.mpr (e' ▸ l0))
/-- the end of a walk -/
theorem R_leave {v : Option Value} (hv : μ.ret = none → v = none) (hQ : μ.Q v O) (hk : k ≤ μ.R.cells) (hn : n ≤ μ.R.slots)
    (H : ∀ (p : Program) (e : Env) (s : State) (m : MethodId) (args : Array Value) (below : List Frame) (meth : Method) (c : Code) (T : State) (locs : List Loc), Stand p Γ.l e μ.R s m args below meth c T locs k n → p.tables.exec = Jvm.exec → c.code = μ.bs → meth.sig.returnType = μ.ret → ∀ fs : List Frame,
      (∀ (f : JFrame) (acts : List Action), f.method = m → f.locked = none → f.entered = [] → (doReturn e (T.setTop f) acts v).1 = T.setFrames fs) → Steps p.tables e below (T.setTop (mkF m pc Ls.toArray st)) (T.setFrames fs)) : Run Γ μ k n O pc Ls st := fun p e s m args below meth c T locs vm0 k0 P => by
  obtain ⟨X, hx, hb, hml, hret, hnm, hlk, hown, hS, hk0, hw, hF, I⟩ := P
  obtain ⟨fs, hr, hrun, hended, hW, hsame⟩ := X.leave (v := v) (fun q => hv (hret ▸ q)) hlk
  refine ⟨T.setFrames fs, .returned v, H p e _ m args below meth c T locs X hx hb hret fs hr, hrun, hended, v, locs, O, rfl, hQ, I.later X.warmed, hF, fun _ => ?_, fun w => ?_⟩
  · obtain ⟨a, b, c'⟩ := hS.ended (U := T.setFrames fs) hW hk0 hsame
    exact ⟨⟨v, rfl⟩, a, b, c'.mono hk hn⟩
  · have e0 := hw w
    subst e0
    exact ⟨⟨v, rfl⟩, hW, hsame.mono hk hn⟩
theorem R_return (hd : decode μ.bs pc = .ok (.return_, 1)) (hret : μ.ret = none) (hQ : μ.Q none O) (hk : k ≤ μ.R.cells) (hn : n ≤ μ.R.slots) : Run Γ μ k n O pc Ls [] :=
  R_leave (fun _ => rfl) hQ hk hn fun p e s m args below meth c T locs X hx hb hr fs hl => X.returnOut hx (hr.trans hret) (Jvm.hb hb hd) hl
theorem R_ireturn {x : Int32} (hd : decode μ.bs pc = .ok (.ireturn, 1)) (hret : μ.ret = some .int) (hQ : μ.Q (some (.int x)) O) (hk : k ≤ μ.R.cells) (hn : n ≤ μ.R.slots) : Run Γ μ k n O pc Ls (.int x :: st) :=
  R_leave (v := some (.int x)) (fun q => by rw [hret] at q; cases q) hQ hk hn fun p e s m args below meth c T locs X hx hb hr fs hl => retOut X hx (hr.trans hret) rfl (Or.inl ⟨rfl, Or.inl rfl, x, rfl⟩) (Jvm.hb hb hd) hl
theorem R_ireturnN {x : Int32} {t : FieldType} (hd : decode μ.bs pc = .ok (.ireturn, 1)) (hret : μ.ret = some t) (ht : t = .boolean ∨ t = .byte ∨ t = .char ∨ t = .short) (hQ : μ.Q (some (.int (nar t x))) O) (hk : k ≤ μ.R.cells) (hn : n ≤ μ.R.slots) : Run Γ μ k n O pc Ls (.int x :: st) :=
  R_leave (v := some (.int (nar t x))) (fun q => by rw [hret] at q; cases q) hQ hk hn fun p e s m args below meth c T locs X hx hb hr fs hl => retN X hx (hr.trans hret) ht (Jvm.hb hb hd) hl
theorem R_lreturn {x : Int64} (hd : decode μ.bs pc = .ok (.lreturn, 1)) (hret : μ.ret = some .long) (hQ : μ.Q (some (.long x)) O) (hk : k ≤ μ.R.cells) (hn : n ≤ μ.R.slots) : Run Γ μ k n O pc Ls (.long x :: st) :=
  R_leave (v := some (.long x)) (fun q => by rw [hret] at q; cases q) hQ hk hn fun p e s m args below meth c T locs X hx hb hr fs hl => retOut X hx (hr.trans hret) rfl (Or.inr (Or.inl ⟨rfl, rfl, x, rfl⟩)) (Jvm.hb hb hd) hl
theorem R_areturn {v : Value} {t : FieldType} (hd : decode μ.bs pc = .ok (.areturn, 1)) (hret : μ.ret = some t) (ht : t.isReference = true) (hv : v.isRef = true) (hQ : μ.Q (some v) O) (hk : k ≤ μ.R.cells) (hn : n ≤ μ.R.slots) : Run Γ μ k n O pc Ls (v :: st) :=
  R_leave (v := some v) (fun q => by rw [hret] at q; cases q) hQ hk hn fun p e s m args below meth c T locs X hx hb hr fs hl => retOut X hx (hr.trans hret) (by cases t <;> first | (cases ht; done) | (cases v <;> first | (cases hv; done) | rfl)) (Or.inr (Or.inr (Or.inr (Or.inr ⟨rfl, ht, hv⟩)))) (Jvm.hb hb hd) hl
/-! ### calls -/
/-- the two payers' premises and promises -/
def PreM (Γ : Gx) (R rm : Room) (as : Array Value) (O1 F : OL) : Pt → Array Value → Prop := fun A a => a = as ∧ Inv Γ A.U.vm A.U.heap (O1 ++ F) ∧ A.cells + rm.cells ≤ R.cells ∧ A.slots + rm.slots ≤ R.slots
def PostM (Γ : Gx) (rm : Room) (Q : Option Value → OL → Prop) (F : OL) : Pt → Array Value → Option Value → Pt → Prop := fun A _ v B => ∃ L O', Q v O' ∧ Inv Γ B.U.vm B.U.heap (O' ++ F) ∧ Fr Γ.Z.heap.size L ∧ B.locs = A.locs ++ L ∧ B.cells = A.cells + rm.cells ∧ B.slots = A.slots + rm.slots
theorem payS {as : Array Value} {F : OL} {R : Room} {p : Program} {e : Env} {below : List Frame} {s : State} {args : Array Value} {len W : Nat} (hM : Met Γ y bs ml ret rm as O1 Q) (hw : Γ.w = true) (wc : (Jvm.Cond.code y bs ml ret).before Γ.a0 Γ.Z = true) (wz : (Jvm.Cond.initialized y.cls).before Γ.a0 Γ.Z = true)
    (hf : rm.frames + 1 ≤ R.frames) (hl : W + (ml + 11) + rm.locals ≤ R.locals) : BackS Γ.l R p e below s args y len W (PreM Γ R rm as O1 F) (PostM Γ rm Q F) :=
  BackS.of_freeW (bytes := bs) (maxL := ml) (ret := ret) (E := fun _ _ o t L k n => k = rm.cells ∧ n = rm.slots ∧ ∃ v O', o = .returned v ∧ Q v O' ∧ Inv Γ t.vm t.heap (O' ++ F) ∧ Fr Γ.Z.heap.size L) (hM [] F) hf hl
    (fun m meth c A a Y hp => ⟨by show (Jvm.Cond.and _ .tt).before a A.U = true; rw [Cond.before_and, mv (s := A.U) hp.2.1.Z wc]; rfl, mv (s := A.U) hp.2.1.Z wc, mv (s := A.U) hp.2.1.Z wz, hp.2.2.1, hp.2.2.2⟩)
    (fun m meth c A a g mk Y hp => ⟨hp.1, hp.2.1⟩) (fun _ _ _ _ _ _ _ _ _ => trivial)
    (fun _ _ _ _ ⟨v, L, O', h1, h2, h3, h4, h5⟩ => ⟨L, _, _, h5.1 hw, rfl, rfl, v, O', h1, h2, h3, h4⟩)
    (fun m meth c A a g mk v t L k n Y hp _ _ ⟨e1, e2, v', O', e3, e4, e5, e6⟩ => by cases e3; subst e1 e2; exact ⟨L, O', e4, e5, e6, rfl, rfl, rfl⟩)
theorem payN {as : Array Value} {F : OL} {R : Room} {p : Program} {e : Env} {below : List Frame} {s : State} {args : Array Value} {len W : Nat} (hM : Met Γ y bs ml ret rm as O1 Q) (hw : Γ.w = false) (wc : (Jvm.Cond.code y bs ml ret).before Γ.a0 Γ.Z = true) (wz : (Jvm.Cond.initialized y.cls).before Γ.a0 Γ.Z = true)
    (hf : rm.frames + 1 ≤ R.frames) (hl : W + (ml + 11) + rm.locals ≤ R.locals) : Back Γ.l R p e below s args y len W (PreM Γ R rm as O1 F) (PostM Γ rm Q F) :=
  Back.of_free (bytes := bs) (maxL := ml) (ret := ret) (E := fun _ _ o t L k n => k = rm.cells ∧ n = rm.slots ∧ ∃ v O', o = .returned v ∧ Q v O' ∧ Inv Γ t.vm t.heap (O' ++ F) ∧ Fr Γ.Z.heap.size L) (hM [] F) hf hl
    (fun m meth c A a Y hp => ⟨by show (Jvm.Cond.and _ .tt).before a A.U = true; rw [Cond.before_and, mv (s := A.U) hp.2.1.Z wc]; rfl, mv (s := A.U) hp.2.1.Z wc, mv (s := A.U) hp.2.1.Z wz, hp.2.2.1, hp.2.2.2⟩)
    (fun m meth c A a g mk Y hp => ⟨hp.1, hp.2.1⟩) (fun _ _ _ _ _ _ _ _ _ => trivial)
    (fun _ _ _ _ ⟨v, L, O', h1, h2, h3, h4, h5⟩ => ⟨L, _, _, h5.2 hw, rfl, rfl, v, O', h1, h2, h3, h4⟩)
    (fun m meth c A a g mk v t L k n Y hp _ _ ⟨e1, e2, v', O', e3, e4, e5, e6⟩ => by cases e3; subst e1 e2; exact ⟨L, O', e4, e5, e6, rfl, rfl, rfl⟩)
/-- at this place the instruction calls y with as, over rest -/
def Site (Γ : Gx) (μ : Mx) (k n : Nat) (O : OL) (pc : Nat) (Ls : List Slot) (st : List Value) (y : MethodName) (len : Nat) (as rest : List Value) : Prop :=
  ∀ (p : Program) (e : Env) (s : State) (m : MethodId) (args : Array Value) (below : List Frame) (meth : Method) (c : Code) (T : State) (locs : List Loc) (vm0 : Vm) (k0 : Nat), Pos Γ μ k n O p e s m args below meth c T locs vm0 k0 →
    (∀ Pre Post, BackS Γ.l μ.R p e below (s.setVm vm0) args y len ((rest.map fun v => v.category).sum) Pre Post → (∀ vm₁, (s.setVm vm0).WarmedH vm₁ → Pre ⟨T.setVm vm₁, locs, k, n⟩ as.toArray) →
      ∃ (v : Option Value) (vm₁ : Vm) (B : Pt), (s.setVm vm0).WarmedH vm₁ ∧ Stand p Γ.l e μ.R ((s.setVm vm0).setVm B.U.vm) m args below meth c B.U B.locs B.cells B.slots ∧ (s.setVm vm0).Since B.U.vm B.U.heap.size ∧ T.heap.size ≤ B.U.heap.size ∧ Post ⟨T.setVm vm₁, locs, k, n⟩ as.toArray v B ∧
        Steps p.tables e below (T.setTop (mkF m pc Ls.toArray st)) (B.U.setTop (mkF m (pc + len) Ls.toArray (v.toList ++ rest)))) ∧
    (∀ Pre Post, Back Γ.l μ.R p e below (s.setVm vm0) args y len ((rest.map fun v => v.category).sum) Pre Post → (∀ vm₁, (s.setVm vm0).WarmedH vm₁ → Pre ⟨T.setVm vm₁, locs, k, n⟩ as.toArray) →
      ∃ (v : Option Value) (vm₁ : Vm) (B : Pt), (s.setVm vm0).WarmedH vm₁ ∧ Stand p Γ.l e μ.R (s.setVm vm0) m args below meth c B.U B.locs B.cells B.slots ∧ Post ⟨T.setVm vm₁, locs, k, n⟩ as.toArray v B ∧
        Steps p.tables e below (T.setTop (mkF m pc Ls.toArray st)) (B.U.setTop (mkF m (pc + len) Ls.toArray (v.toList ++ rest))))
theorem R_call {as : List Value} {len : Nat} (S : Site Γ μ k n O pc Ls st y len as rest) (hM : Met Γ y bs ml ret rm as.toArray O1 Q) (hp : Picks O O1 F') (wc : (Jvm.Cond.code y bs ml ret).before Γ.a0 Γ.Z = true) (wz : (Jvm.Cond.initialized y.cls).before Γ.a0 Γ.Z = true)
    (hf : rm.frames + 1 ≤ μ.R.frames) (hl : ((rest.map fun v => v.category).sum) + (ml + 11) + rm.locals ≤ μ.R.locals) (hc : k + rm.cells ≤ μ.R.cells) (hs : n + rm.slots ≤ μ.R.slots)
    (hr : ∀ v O', Q v O' → Run Γ μ (k + rm.cells) (n + rm.slots) (O' ++ F') (pc + len) Ls (v.toList ++ rest)) : Run Γ μ k n O pc Ls st := fun p e s m args below meth c T locs vm0 k0 P => by
  obtain ⟨SS, SN⟩ := S p e s m args below meth c T locs vm0 k0 P
  obtain ⟨X, hx, hb, hml, hret, hnm, hlk, hown, hS, hk0, hw, hF, I⟩ := P
  have pre : ∀ vm₁, (s.setVm vm0).WarmedH vm₁ → PreM Γ μ.R rm as.toArray O1 (F' ++ μ.F) ⟨T.setVm vm₁, locs, k, n⟩ as.toArray := fun vm₁ hW =>
    ⟨rfl, by have I1 := (I.later hW).perm (hp.append_right μ.F); rw [List.append_assoc] at I1; exact I1, hc, hs⟩
  cases ww : Γ.w with
  | true =>
    obtain ⟨v, vm₁, ⟨U, Lb, kb, nb⟩, hW, X', hS', hg, ⟨L, O', q1, q2, q3, q4, q5, q6⟩, hst⟩ := SS _ _ (payS hM ww wc wz hf hl (F := F' ++ μ.F)) pre
    dsimp only [Pt.U, Pt.locs, Pt.cells, Pt.slots] at X' hS' hg q2 q4 q5 q6 hst
    subst q4 q5 q6
    refine (hr v O' q1 p e s m args below meth c U _ U.vm U.heap.size ⟨X', hx, hb, hml, hret, hnm, hlk, ?_, hS.trans hS' (Nat.le_trans hk0 hg), Nat.le_refl _, fun q => by rw [ww] at q; (cases q), hF.app q3, ?_⟩).back fun target hrest => hst.trans hrest
    · exact (hS'.1.alike.findClass _ _).trans hown
    · rw [List.append_assoc]; exact q2
  | false =>
    obtain ⟨v, vm₁, ⟨U, Lb, kb, nb⟩, hW, X', ⟨L, O', q1, q2, q3, q4, q5, q6⟩, hst⟩ := SN _ _ (payN hM ww wc wz hf hl (F := F' ++ μ.F)) pre
    dsimp only [Pt.U, Pt.locs, Pt.cells, Pt.slots] at X' q2 q4 q5 q6 hst
    subst q4 q5 q6
    have e0 := hw ww
    subst e0
    refine (hr v O' q1 p e s m args below meth c U _ s.vm 0 ⟨X', hx, hb, hml, hret, hnm, hlk, hown, (State.WarmedH.refl s).since 0, Nat.zero_le _, fun _ => rfl, hF.app q3, ?_⟩).back fun target hrest => hst.trans hrest
    rw [List.append_assoc]; exact q2.narrow ww I.Z
end C
end Jvm.Own
namespace Jvm.Own
open Sem ClassFile Op Lib Jvm.Stand Jvm.Free Jvm.LawKit Jvm.RoadKit
/-! ## D. call sites, and steps that read or write the heap -/
section D
variable {Γ : Gx} {μ : Mx} {k n : Nat} {O O1 F' : OL} {pc pc' : Nat} {Ls Ls' : List Slot} {st st' rest : List Value} {y z : MethodName} {index : Nat}
abbrev Wd (Γ : Gx) (d : Jvm.Cond) : Prop := d.before Γ.a0 Γ.Z = true
theorem S_static {as : List Value} {bs : ByteArray} {ml : Nat} {ret : Option FieldType} (hd : decode μ.bs pc = .ok (.invokestatic index, 3)) (w1 : Wd Γ (.methodLink μ.y.cls index y)) (w2 : Wd Γ (.static y)) (w3 : Wd Γ (.initialized y.cls)) (w4 : Wd Γ (.code y bs ml ret)) (hy : y.cls ≠ "java/lang/invoke/MethodHandle" ∧ y.cls ≠ "java/lang/invoke/VarHandle")
    {ps : List FieldType} {r : Option FieldType} (hp : parseMethodDescriptor y.desc = some ⟨ps, r⟩) (hln : as.length = ps.length) (hsz : Ls.length = μ.ml) (hst : st = as.reverse ++ rest) : Site Γ μ k n O pc Ls st y 3 as rest := fun p e s m args below meth c T locs vm0 k0 P => by
  subst hst
  obtain ⟨X, hx, hb, hml, hret, hnm, hlk, hown, hS, hk0, hw, hF, I⟩ := P
  have hZ := I.Z
  refine ⟨fun Pre Post hK hpre => ?_, fun Pre Post hK hpre => ?_⟩
  · exact callSS X hx hown (mvT (s := s.setVm vm0) hZ w1) (mvT (s := s.setVm vm0) hZ w2) (mvT (s := s.setVm vm0) hZ w3) (mvT (s := s.setVm vm0) hZ w4) hy hK (g := mkF m pc Ls.toArray (as.reverse ++ rest)) rfl (by rw [hml]; simpa using hsz) (argsL := as) (rest := rest) (lenOf hp hln) rfl (by show 2 * 0 + _ ≤ _; omega) (Jvm.hb hb hd) hpre
  · have c4 : (Jvm.Cond.code y bs ml ret).before args (s.setVm vm0) = true := mvT (s := s.setVm vm0) hZ w4
    obtain ⟨mk, hnamed⟩ := Cond.code_named c4
    obtain ⟨methM, cM, hmethM, -, -, -, -, -, -, hsigM⟩ := Cond.code_spec hnamed c4
    exact Stand.staticBack X hx hown (mvT (s := s.setVm vm0) hZ w1) (mvT (s := s.setVm vm0) hZ w2) (mvT (s := s.setVm vm0) hZ w3) hnamed hmethM hsigM hy hK (g := mkF m pc Ls.toArray (as.reverse ++ rest)) rfl (by rw [hml]; simpa using hsz) (Steps.refl _) (argsL := as) (rest := rest) (lenOf hp hln) rfl (by show 2 * 0 + _ ≤ _; omega) (Jvm.hb hb hd) hpre
theorem S_special {a : Addr} {as : List Value} {bs : ByteArray} {ml : Nat} (hd : decode μ.bs pc = .ok (.invokespecial index, 3)) (hy1 : y.name = "<init>") (w1 : Wd Γ (.methodLink μ.y.cls index y)) (w2 : Wd Γ (.instanceMethod y)) (w4 : Wd Γ (.code y bs ml none)) (hy : y.cls ≠ "java/lang/invoke/MethodHandle" ∧ y.cls ≠ "java/lang/invoke/VarHandle")
    {ps : List FieldType} {r : Option FieldType} (hp : parseMethodDescriptor y.desc = some ⟨ps, r⟩) (hln : as.length = ps.length) (hsz : Ls.length = μ.ml) (hst : st = as.reverse ++ .ref a :: rest) : Site Γ μ k n O pc Ls st y 3 (.ref a :: as) rest := fun p e s m args below meth c T locs vm0 k0 P => by
  subst hst
  obtain ⟨X, hx, hb, hml, hret, hnm, hlk, hown, hS, hk0, hw, hF, I⟩ := P
  have hZ := I.Z
  refine ⟨fun Pre Post hK hpre => ?_, fun Pre Post hK hpre => ?_⟩
  · exact X.specialBackS hx hy1 hown (mvT (s := s.setVm vm0) hZ w1) (mvT (s := s.setVm vm0) hZ w2) (mvT (s := s.setVm vm0) hZ w4) hy hK (g := mkF m pc Ls.toArray (as.reverse ++ .ref a :: rest)) rfl (by rw [hml]; simpa using hsz) (Steps.refl _) (a := a) (argsL := as) (rest := rest) (lenOf hp hln) rfl (by show 2 * 0 + _ ≤ _; omega) (Jvm.hb hb hd) hpre
  · exact X.specialBack hx hy1 hown (mvT (s := s.setVm vm0) hZ w1) (mvT (s := s.setVm vm0) hZ w2) (mvT (s := s.setVm vm0) hZ w4) hy hK (g := mkF m pc Ls.toArray (as.reverse ++ .ref a :: rest)) rfl (by rw [hml]; simpa using hsz) (Steps.refl _) (a := a) (argsL := as) (rest := rest) (lenOf hp hln) rfl (by show 2 * 0 + _ ≤ _; omega) (Jvm.hb hb hd) hpre
theorem exa_of {vm : Vm} {h : Heap} {C : String} {a : Addr} {b : Bool} {fs : List Fd} (I : Inv Γ vm h (O ++ μ.F)) (hm : (a, b, Obj Γ C fs) ∈ O) : Exa Γ.Z h a C := by
  obtain ⟨c, e, F⟩ := I.cell (List.mem_append_left _ hm); exact F.exa e
/-- a virtual call on an object of the class C -/
theorem S_virtual {a : Addr} {b : Bool} {C : String} {fs : List Fd} {as : List Value} (hm : (a, b, Obj Γ C fs) ∈ O) (hd : decode μ.bs pc = .ok (.invokevirtual index, 3)) (w1 : Wd Γ (.methodLink μ.y.cls index y)) (w2 : Wd Γ (.declares y)) (nf : ∀ (s : State), Γ.Z.Warmed39 s.vm → NotFace s y) (w3 : Wd Γ (.selects C y z)) (w4 : Wd Γ (.instanceMethod z)) (hy : y.cls ≠ "java/lang/invoke/MethodHandle" ∧ y.cls ≠ "java/lang/invoke/VarHandle")
    {ps : List FieldType} {r : Option FieldType} (hp : parseMethodDescriptor y.desc = some ⟨ps, r⟩) (hln : as.length = ps.length) (hsz : Ls.length = μ.ml) (hst : st = as.reverse ++ .ref a :: rest) : Site Γ μ k n O pc Ls st z 3 (.ref a :: as) rest := fun p e s m args below meth c T locs vm0 k0 P => by
  subst hst
  obtain ⟨X, hx, hb, hml, hret, hnm, hlk, hown, hS, hk0, hw, hF, I⟩ := P
  have hZ := I.Z
  obtain ⟨cB, kB, i1, i2, i3⟩ := isOf (s := s.setVm vm0) (T := T) hZ rfl (exa_of I hm)
  refine ⟨fun Pre Post hK hpre => ?_, fun Pre Post hK hpre => ?_⟩
  · exact X.virtualBackS hx hown (mvT (s := s.setVm vm0) hZ w1) (mvT (s := s.setVm vm0) hZ w2) (nf _ hZ) (mvT (s := s.setVm vm0) hZ w3) (mvT (s := s.setVm vm0) hZ w4) hy hK i1 i3 (g := mkF m pc Ls.toArray (as.reverse ++ .ref a :: rest)) rfl (by rw [hml]; simpa using hsz) (Steps.refl _) (argsL := as) (rest := rest) (lenOf hp hln) rfl (by show 2 * 0 + _ ≤ _; omega) (Jvm.hb hb hd) hpre
  · exact X.virtualBack hx hown (mvT (s := s.setVm vm0) hZ w1) (mvT (s := s.setVm vm0) hZ w2) (nf _ hZ) (mvT (s := s.setVm vm0) hZ w3) (mvT (s := s.setVm vm0) hZ w4) hy hK i1 i3 (g := mkF m pc Ls.toArray (as.reverse ++ .ref a :: rest)) rfl (by rw [hml]; simpa using hsz) (Steps.refl _) (argsL := as) (rest := rest) (lenOf hp hln) rfl (by show 2 * 0 + _ ≤ _; omega) (Jvm.hb hb hd) hpre
theorem nf_sel {C : String} (w : Wd Γ (.selects C y y)) : ∀ (s : State), Γ.Z.Warmed39 s.vm → NotFace s y := fun s hZ => notFace_of_selects (args := #[]) (mvT hZ w)
theorem nf_inst {j : Nat} (w : Wd Γ (.instantiable y.cls j)) : ∀ (s : State), Γ.Z.Warmed39 s.vm → NotFace s y := fun s hZ r0 h0 => by
  have hc := findClass_of_methodNamed h0
  obtain ⟨c, kk, h1, h2, h3, h4, -⟩ := Cond.instantiable_spec (mvT (args := #[]) hZ w)
  cases hc.symm.trans h1
  exact ⟨kk, h2, by simpa using (Bool.or_eq_false_iff.mp h4).1⟩
theorem nf_up {S : String} (w : Wd Γ (.superclass y.cls S)) : ∀ (s : State), Γ.Z.Warmed39 s.vm → NotFace s y := fun s hZ => nf_super (args := #[]) (mvT hZ w)
theorem nf_obj (w : Wd Γ (.noSuperclass y.cls)) : ∀ (s : State), Γ.Z.Warmed39 s.vm → NotFace s y := fun s hZ => nf_top (args := #[]) (mvT hZ w)
/-- a private method by invokevirtual -/
theorem S_private {a : Addr} {b : Bool} {φ : Cell → Prop} {as : List Value} {bs : ByteArray} {ml : Nat} {ret : Option FieldType} (hm : (a, b, φ) ∈ O) (hφ : ∀ c, φ c → ∀ q, c.vm ≠ .statics q) (hd : decode μ.bs pc = .ok (.invokevirtual index, 3)) (w1 : Wd Γ (.methodLink μ.y.cls index y)) (w2 : Wd Γ (.instanceMethod y)) (w3 : Wd Γ (.privateMethod y)) (w4 : Wd Γ (.code y bs ml ret)) (nf : ∀ (s : State), Γ.Z.Warmed39 s.vm → NotFace s y) (hy : y.cls ≠ "java/lang/invoke/MethodHandle" ∧ y.cls ≠ "java/lang/invoke/VarHandle")
    {ps : List FieldType} {r : Option FieldType} (hp : parseMethodDescriptor y.desc = some ⟨ps, r⟩) (hln : as.length = ps.length) (hsz : Ls.length = μ.ml) (hst : st = as.reverse ++ .ref a :: rest) : Site Γ μ k n O pc Ls st y 3 (.ref a :: as) rest := fun p e s m args below meth c T locs vm0 k0 P => by
  subst hst
  obtain ⟨X, hx, hb, hml, hret, hnm, hlk, hown, hS, hk0, hw, hF, I⟩ := P
  have hZ := I.Z
  have hpriv := Cond.privateMethod_at (mvP (s := s.setVm vm0) hZ w3 (args := #[]))
  have hinst : (Jvm.Cond.instanceMethod y).before args (s.setVm vm0) = true := mvT (s := s.setVm vm0) hZ w2
  obtain ⟨mk, methM, hnamed, -, -, -⟩ := Cond.instanceMethod_spec hinst
  obtain ⟨kk, hk, hni⟩ := nf (s.setVm vm0) hZ mk hnamed
  have hsel : (Jvm.Cond.selects y.cls y y).before args (s.setVm vm0) = true := selects_self_of_private (findClass_of_methodNamed hnamed) hk hni hpriv hinst hy
  obtain ⟨cell, ec, ef⟩ := I.cell (List.mem_append_left _ hm)
  refine ⟨fun Pre Post hK hpre => ?_, fun Pre Post hK hpre => ?_⟩
  · exact X.privateBackS hx hown (mvT (s := s.setVm vm0) hZ w1) hinst hsel hpriv (mvT (s := s.setVm vm0) hZ w4) hy hK (g := mkF m pc Ls.toArray (as.reverse ++ .ref a :: rest)) rfl (by rw [hml]; simpa using hsz) (Steps.refl _) (a := a) ec (hφ _ ef) (argsL := as) (rest := rest) (lenOf hp hln) rfl (by show 2 * 0 + _ ≤ _; omega) (Jvm.hb hb hd) hpre
  · exact X.privateBack hx hown (mvT (s := s.setVm vm0) hZ w1) hinst hsel hpriv (mvT (s := s.setVm vm0) hZ w4) hy hK (g := mkF m pc Ls.toArray (as.reverse ++ .ref a :: rest)) rfl (by rw [hml]; simpa using hsz) (Steps.refl _) (a := a) ec (hφ _ ef) (argsL := as) (rest := rest) (lenOf hp hln) rfl (by show 2 * 0 + _ ≤ _; omega) (Jvm.hb hb hd) hpre
theorem obj_ns {C : String} {fs : List Fd} : ∀ c, Obj Γ C fs c → ∀ q, c.vm ≠ .statics q := fun c F q e => by have := F.2.2.1; rw [e] at this; cases this
/-- an interface call on an object of the class C -/
theorem S_face {a : Addr} {b : Bool} {C : String} {fs : List Fd} {as : List Value} {count : Nat} (hm : (a, b, Obj Γ C fs) ∈ O) (hd : decode μ.bs pc = .ok (.invokeinterface index count, 5)) (w1 : Wd Γ (.methodLink μ.y.cls index y)) (w2 : Wd Γ (.declares y)) (w3 : Wd Γ (.interfaceMethod y.cls y.cls y.name y.desc)) (w4 : Wd Γ (.selects C y z)) (w5 : Wd Γ (.instanceMethod z)) (w6 : Wd Γ (.publicMethod z)) (w7 : Wd Γ (.unhidden C y.name y.desc)) (w8 : Wd Γ (.castable C y.cls)) (hy : y.cls ≠ "java/lang/invoke/MethodHandle" ∧ y.cls ≠ "java/lang/invoke/VarHandle")
    {ps : List FieldType} {r : Option FieldType} (hp : parseMethodDescriptor y.desc = some ⟨ps, r⟩) (hln : as.length = ps.length) (hsz : Ls.length = μ.ml) (hst : st = as.reverse ++ .ref a :: rest) : Site Γ μ k n O pc Ls st z 5 (.ref a :: as) rest := fun p e s m args below meth c T locs vm0 k0 P => by
  subst hst
  obtain ⟨X, hx, hb, hml, hret, hnm, hlk, hown, hS, hk0, hw, hF, I⟩ := P
  have hZ := I.Z
  obtain ⟨cB, kB, i1, i2, i3⟩ := isOf (s := s.setVm vm0) (T := T) hZ rfl (exa_of I hm)
  refine ⟨fun Pre Post hK hpre => ?_, fun Pre Post hK hpre => ?_⟩
  · exact X.interfaceBackS hx hown (mvT (s := s.setVm vm0) hZ w1) (mvT (s := s.setVm vm0) hZ w2) (mvT (s := s.setVm vm0) hZ w3 (by simp [Cond.onTables, Cond.keepsFace, Cond.faceAtom]; exact Or.inr hy)) (mvT (s := s.setVm vm0) hZ w4) (mvT (s := s.setVm vm0) hZ w5) (mvT (s := s.setVm vm0) hZ w6) (mvT (s := s.setVm vm0) hZ w7) (mvT (s := s.setVm vm0) hZ w8) hy hK i1 i2 i3 (g := mkF m pc Ls.toArray (as.reverse ++ .ref a :: rest)) rfl (by rw [hml]; simpa using hsz) (Steps.refl _) (argsL := as) (rest := rest) (lenOf hp hln) rfl (by show 2 * 0 + _ ≤ _; omega) (Jvm.hb hb hd) hpre
  · exact X.interfaceBack hx hown (mvT (s := s.setVm vm0) hZ w1) (mvT (s := s.setVm vm0) hZ w2) (mvT (s := s.setVm vm0) hZ w3 (by simp [Cond.onTables, Cond.keepsFace, Cond.faceAtom]; exact Or.inr hy)) (mvT (s := s.setVm vm0) hZ w4) (mvT (s := s.setVm vm0) hZ w5) (mvT (s := s.setVm vm0) hZ w6) (mvT (s := s.setVm vm0) hZ w7) (mvT (s := s.setVm vm0) hZ w8) hy hK i1 i2 i3 (g := mkF m pc Ls.toArray (as.reverse ++ .ref a :: rest)) rfl (by rw [hml]; simpa using hsz) (Steps.refl _) (argsL := as) (rest := rest) (lenOf hp hln) rfl (by show 2 * 0 + _ ≤ _; omega) (Jvm.hb hb hd) hpre
/-! ### steps over the heap -/
/-- a step that keeps the heap, the tables' start and what is booked -/
theorem R_read {st' : List Value} {pc' : Nat} (H : ∀ (p : Program) (e : Env) (s : State) (m : MethodId) (args : Array Value) (below : List Frame) (meth : Method) (c : Code) (T : State) (locs : List Loc) (vm0 : Vm) (k0 : Nat), Pos Γ μ k n O p e s m args below meth c T locs vm0 k0 →
      ∃ T', Stand p Γ.l e μ.R (s.setVm vm0) m args below meth c T' locs k n ∧ T'.heap = T.heap ∧ ∀ target, Steps p.tables e below (T'.setTop (mkF m pc' Ls.toArray st')) target → Steps p.tables e below (T.setTop (mkF m pc Ls.toArray st)) target)
    (hr : Run Γ μ k n O pc' Ls st') : Run Γ μ k n O pc Ls st := fun p e s m args below meth c T locs vm0 k0 P => by
  obtain ⟨T', X', e', hst⟩ := H p e s m args below meth c T locs vm0 k0 P
  obtain ⟨X, hx, hb, hml, hret, hnm, hlk, hown, hS, hk0, hw, hF, I⟩ := P
  exact (hr p e s m args below meth c T' locs vm0 k0 ⟨X', hx, hb, hml, hret, hnm, hlk, hown, hS, by rw [e']; exact hk0, hw, hF, by rw [e']; exact I⟩).back hst
theorem R_getfield {R0 O1 nm d C : String} {v : Value} {a : Addr} {b : Bool} {fs : List Fd} (hd : decode μ.bs pc = .ok (.getfield index, 3)) (w : Wd Γ (.fieldLink μ.y.cls index R0 nm d)) (via : Via Γ.Z R0 O1 nm d) (hm : (a, b, Obj Γ C fs) ∈ O) (hf : (O1, nm, d, v) ∈ fs) (hr : Run Γ μ k n O (pc + 3) Ls (v :: st)) : Run Γ μ k n O pc Ls (.ref a :: st) :=
  R_read (fun p e s m args below meth c T locs vm0 k0 P => by
    obtain ⟨X, hx, hb, hml, hret, hnm, hlk, hown, hS, hk0, hw, hF, I⟩ := P
    obtain ⟨cl, ec, ef⟩ := I.cell (List.mem_append_left _ hm)
    exact getF (host := "") X hx I.Z hown (Or.inl w) via rfl (ef.fld ec hf) (g := mkF m pc Ls.toArray (.ref a :: st)) rfl rfl (Jvm.hb hb hd)) hr
theorem R_getfieldNest {R0 O1 nm d C host : String} {v : Value} {a : Addr} {b : Bool} {fs : List Fd} (hd : decode μ.bs pc = .ok (.getfield index, 3)) (w : Wd Γ (.fieldLinkNest μ.y.cls index R0 nm d host)) (via : Via Γ.Z R0 O1 nm d) (hm : (a, b, Obj Γ C fs) ∈ O) (hf : (O1, nm, d, v) ∈ fs) (hr : Run Γ μ k n O (pc + 3) Ls (v :: st)) : Run Γ μ k n O pc Ls (.ref a :: st) :=
  R_read (fun p e s m args below meth c T locs vm0 k0 P => by
    obtain ⟨X, hx, hb, hml, hret, hnm, hlk, hown, hS, hk0, hw, hF, I⟩ := P
    obtain ⟨cl, ec, ef⟩ := I.cell (List.mem_append_left _ hm)
    exact getF X hx I.Z hown (Or.inr w) via rfl (ef.fld ec hf) (g := mkF m pc Ls.toArray (.ref a :: st)) rfl rfl (Jvm.hb hb hd)) hr
theorem R_getstatic {R0 O1 nm d : String} {v : Value} (hd : decode μ.bs pc = .ok (.getstatic index, 3)) (w : Wd Γ (.fieldLink μ.y.cls index R0 nm d)) (via : Via Γ.Z R0 O1 nm d) (F : Sta Γ.Z Γ.Z.heap O1 nm d v) (hr : Run Γ μ k n O (pc + 3) Ls (v :: st)) : Run Γ μ k n O pc Ls st :=
  R_read (fun p e s m args below meth c T locs vm0 k0 P => by
    obtain ⟨X, hx, hb, hml, hret, hnm, hlk, hown, hS, hk0, hw, hF, I⟩ := P
    exact getS (host := "") X hx I.Z hown w via rfl (F.ext I.ext0) (g := mkF m pc Ls.toArray st) rfl (Jvm.hb hb hd)) hr
theorem R_checkcast {K C : String} {a : Addr} {b : Bool} {fs : List Fd} (hd : decode μ.bs pc = .ok (.checkcast index, 3)) (w : Wd Γ (.classLink μ.y.cls index K)) (hm : (a, b, Obj Γ C fs) ∈ O) (wc : Wd Γ (.castable C K)) (hr : Run Γ μ k n O (pc + 3) Ls (.ref a :: st)) : Run Γ μ k n O pc Ls (.ref a :: st) :=
  R_read (fun p e s m args below meth c T locs vm0 k0 P => by
    obtain ⟨X, hx, hb, hml, hret, hnm, hlk, hown, hS, hk0, hw, hF, I⟩ := P
    exact castY X hx I.Z hown w rfl (Ins.of_exa (exa_of I hm) wc) (g := mkF m pc Ls.toArray (.ref a :: st)) rfl rfl (Jvm.hb hb hd)) hr
theorem R_checkcastSelf {K : String} {a : Addr} {b : Bool} {fs : List Fd} (hd : decode μ.bs pc = .ok (.checkcast index, 3)) (w : Wd Γ (.classLink μ.y.cls index K)) (hm : (a, b, Obj Γ K fs) ∈ O) (hr : Run Γ μ k n O (pc + 3) Ls (.ref a :: st)) : Run Γ μ k n O pc Ls (.ref a :: st) :=
  R_read (fun p e s m args below meth c T locs vm0 k0 P => by
    obtain ⟨X, hx, hb, hml, hret, hnm, hlk, hown, hS, hk0, hw, hF, I⟩ := P
    exact castY X hx I.Z hown w rfl (Ins.self (exa_of I hm)) (g := mkF m pc Ls.toArray (.ref a :: st)) rfl rfl (Jvm.hb hb hd)) hr
theorem R_instY {K C : String} {a : Addr} {b : Bool} {fs : List Fd} (hd : decode μ.bs pc = .ok (.instanceof index, 3)) (w : Wd Γ (.classLink μ.y.cls index K)) (hm : (a, b, Obj Γ C fs) ∈ O) (wc : Wd Γ (.castable C K)) (hr : Run Γ μ k n O (pc + 3) Ls (.int 1 :: st)) : Run Γ μ k n O pc Ls (.ref a :: st) :=
  R_read (fun p e s m args below meth c T locs vm0 k0 P => by
    obtain ⟨X, hx, hb, hml, hret, hnm, hlk, hown, hS, hk0, hw, hF, I⟩ := P
    exact instY X hx I.Z hown w rfl (Ins.of_exa (exa_of I hm) wc) (g := mkF m pc Ls.toArray (.ref a :: st)) rfl rfl (Jvm.hb hb hd)) hr
theorem R_instSelf {K : String} {a : Addr} {b : Bool} {fs : List Fd} (hd : decode μ.bs pc = .ok (.instanceof index, 3)) (w : Wd Γ (.classLink μ.y.cls index K)) (hm : (a, b, Obj Γ K fs) ∈ O) (hr : Run Γ μ k n O (pc + 3) Ls (.int 1 :: st)) : Run Γ μ k n O pc Ls (.ref a :: st) :=
  R_read (fun p e s m args below meth c T locs vm0 k0 P => by
    obtain ⟨X, hx, hb, hml, hret, hnm, hlk, hown, hS, hk0, hw, hF, I⟩ := P
    exact instY X hx I.Z hown w rfl (Ins.self (exa_of I hm)) (g := mkF m pc Ls.toArray (.ref a :: st)) rfl rfl (Jvm.hb hb hd)) hr
theorem R_instNo {K C : String} {a : Addr} {b : Bool} {fs : List Fd} (hd : decode μ.bs pc = .ok (.instanceof index, 3)) (w : Wd Γ (.classLink μ.y.cls index K)) (hm : (a, b, Obj Γ C fs) ∈ O) (F : ∃ c t, Γ.Z.vm.findClass C = some c ∧ Γ.Z.vm.findClass K = some t ∧ Γ.Z.vm.assignable c t = false) (hr : Run Γ μ k n O (pc + 3) Ls (.int 0 :: st)) : Run Γ μ k n O pc Ls (.ref a :: st) :=
  R_read (fun p e s m args below meth c T locs vm0 k0 P => by
    obtain ⟨X, hx, hb, hml, hret, hnm, hlk, hown, hS, hk0, hw, hF, I⟩ := P
    exact instNo X hx I.Z hown w rfl (exa_of I hm) F (g := mkF m pc Ls.toArray (.ref a :: st)) rfl rfl (Jvm.hb hb hd)) hr
theorem R_ldcI {v : Int32} (hd : decode μ.bs pc = .ok (.ldc index, 2)) (w : Wd Γ (.constant μ.y.cls index v)) (hr : Run Γ μ k n O (pc + 2) Ls (.int v :: st)) : Run Γ μ k n O pc Ls st :=
  R_read (fun p e s m args below meth c T locs vm0 k0 P => by
    obtain ⟨X, hx, hb, hml, hret, hnm, hlk, hown, hS, hk0, hw, hF, I⟩ := P
    exact ⟨T, X, rfl, X.ldcInt hx hown (mvT (s := s.setVm vm0) I.Z w) (g := mkF m pc Ls.toArray st) rfl (Jvm.hb hb hd)⟩) hr
theorem R_ldc2L {v : Int64} (hd : decode μ.bs pc = .ok (.ldc2_w index, 3)) (w : Wd Γ (.constantLong μ.y.cls index v)) (hr : Run Γ μ k n O (pc + 3) Ls (.long v :: st)) : Run Γ μ k n O pc Ls st :=
  R_read (fun p e s m args below meth c T locs vm0 k0 P => by
    obtain ⟨X, hx, hb, hml, hret, hnm, hlk, hown, hS, hk0, hw, hF, I⟩ := P
    exact ⟨T, X, rfl, X.ldc2Long hx hown (mvT (s := s.setVm vm0) I.Z w) (g := mkF m pc Ls.toArray st) rfl (Jvm.hb hb hd)⟩) hr
theorem R_initO {a : Addr} (hd : decode μ.bs pc = .ok (.invokespecial index, 3)) (w1 : Wd Γ (.methodLink μ.y.cls index Lib.objectInit)) (w2 : Wd Γ (.instanceMethod Lib.objectInit)) (w3 : Wd Γ (.code Lib.objectInit ⟨#[0xb1]⟩ 1 none)) (hsz : Ls.length = μ.ml) (hf : 1 ≤ μ.R.frames) (hl : ((st.map fun v => v.category).sum) + 12 ≤ μ.R.locals) (hr : Run Γ μ k n O (pc + 3) Ls st) : Run Γ μ k n O pc Ls (.ref a :: st) :=
  R_read (fun p e s m args below meth c T locs vm0 k0 P => by
    obtain ⟨X, hx, hb, hml, hret, hnm, hlk, hown, hS, hk0, hw, hF, I⟩ := P
    exact initO X hx I.Z hown w1 w2 w3 rfl (g := mkF m pc Ls.toArray (.ref a :: st)) rfl (by rw [hml]; simpa using hsz) rfl (Jvm.hb hb hd) hf (by show 2 * 0 + _ ≤ _; rw [Nat.mul_zero, Nat.zero_add]; exact Nat.le_refl _) hl) hr
/-! ### arrays, read -/
theorem inb {vs : List Value} {j : Int32} (h0 : ¬ j < 0) (h1 : j.toNatClampNeg < vs.length) {c : Cell} (e : c.slots.size = vs.length) : ¬ (j < 0 ∨ c.slots.size ≤ j.toNatClampNeg) := fun q => q.elim h0 fun r => by omega
theorem ary_at {ad : String} {ty : FieldType} {vs : List Value} {c : Cell} {j : Nat} {v : Value} (F : Ary Γ ad ty vs c) (hv : vs[j]? = some v) : c.slots[j]? = some v := by
  rw [← F.2.2.2.1] at hv; simpa using hv
theorem R_arraylength {ad : String} {ty : FieldType} {vs : List Value} {a : Addr} {b : Bool} (hd : decode μ.bs pc = .ok (.arraylength, 1)) (hm : (a, b, Ary Γ ad ty vs) ∈ O) (z : Int32) (hz : vs.length.toInt32 = z) (hr : Run Γ μ k n O (pc + 1) Ls (.int z :: st)) : Run Γ μ k n O pc Ls (.ref a :: st) :=
  R_read (fun p e s m args below meth c T locs vm0 k0 P => by
    obtain ⟨X, hx, hb, hml, hret, hnm, hlk, hown, hS, hk0, hw, hF, I⟩ := P
    obtain ⟨cl, ec, ef⟩ := I.cell (List.mem_append_left _ hm)
    refine ⟨T, X, rfl, fun target hs => X.arraylength hx ec (State.isArrayOf_alike (T := s.setVm vm0) I.Z.alike ef.2.1) (g := mkF m pc Ls.toArray (.ref a :: st)) rfl rfl (Jvm.hb hb hd) target ?_⟩
    rw [ef.len, hz]; exact hs) hr
theorem R_iaload {ad : String} {vs : List Value} {a : Addr} {b : Bool} {z : Int32} {v : Value} (hd : decode μ.bs pc = .ok (.iaload, 1)) (hm : (a, b, Ary Γ ad .int vs) ∈ O) (h0 : ¬ z < 0) (j : Nat) (hj : z.toNatClampNeg = j) (hv : vs[j]? = some v) (hr : Run Γ μ k n O (pc + 1) Ls (v :: st)) : Run Γ μ k n O pc Ls (.int z :: .ref a :: st) :=
  R_read (fun p e s m args below meth c T locs vm0 k0 P => by
    obtain ⟨X, hx, hb, hml, hret, hnm, hlk, hown, hS, hk0, hw, hF, I⟩ := P
    obtain ⟨cl, ec, ef⟩ := I.cell (List.mem_append_left _ hm)
    exact ⟨T, X, rfl, fun target hs => X.iaload (j := z) hx ec (State.isArrayOf_alike (T := s.setVm vm0) I.Z.alike ef.2.1) ef.2.2.1 (inb h0 (by rw [hj]; exact (List.getElem?_eq_some_iff.mp hv).1) ef.len) (by rw [hj]; exact ary_at ef hv) (g := mkF m pc Ls.toArray (.int z :: .ref a :: st)) rfl rfl (Jvm.hb hb hd) target hs⟩) hr
theorem R_caload {ad : String} {vs : List Value} {a : Addr} {b : Bool} {z : Int32} {v : Value} (hd : decode μ.bs pc = .ok (.caload, 1)) (hm : (a, b, Ary Γ ad .char vs) ∈ O) (h0 : ¬ z < 0) (j : Nat) (hj : z.toNatClampNeg = j) (hv : vs[j]? = some v) (hr : Run Γ μ k n O (pc + 1) Ls (v :: st)) : Run Γ μ k n O pc Ls (.int z :: .ref a :: st) :=
  R_read (fun p e s m args below meth c T locs vm0 k0 P => by
    obtain ⟨X, hx, hb, hml, hret, hnm, hlk, hown, hS, hk0, hw, hF, I⟩ := P
    obtain ⟨cl, ec, ef⟩ := I.cell (List.mem_append_left _ hm)
    exact ⟨T, X, rfl, fun target hs => X.caload (j := z) hx ec (State.isArrayOf_alike (T := s.setVm vm0) I.Z.alike ef.2.1) ef.2.2.1 (inb h0 (by rw [hj]; exact (List.getElem?_eq_some_iff.mp hv).1) ef.len) (by rw [hj]; exact ary_at ef hv) (g := mkF m pc Ls.toArray (.int z :: .ref a :: st)) rfl rfl (Jvm.hb hb hd) target hs⟩) hr
theorem R_baload {ad : String} {vs : List Value} {a : Addr} {b : Bool} {z : Int32} {v : Value} (hd : decode μ.bs pc = .ok (.baload, 1)) (hm : (a, b, Ary Γ ad .byte vs) ∈ O) (h0 : ¬ z < 0) (j : Nat) (hj : z.toNatClampNeg = j) (hv : vs[j]? = some v) (hr : Run Γ μ k n O (pc + 1) Ls (v :: st)) : Run Γ μ k n O pc Ls (.int z :: .ref a :: st) :=
  R_read (fun p e s m args below meth c T locs vm0 k0 P => by
    obtain ⟨X, hx, hb, hml, hret, hnm, hlk, hown, hS, hk0, hw, hF, I⟩ := P
    obtain ⟨cl, ec, ef⟩ := I.cell (List.mem_append_left _ hm)
    exact ⟨T, X, rfl, fun target hs => X.baloadBytes (j := z) hx ec (State.isArrayOf_alike (T := s.setVm vm0) I.Z.alike ef.2.1) ef.2.2.1 (inb h0 (by rw [hj]; exact (List.getElem?_eq_some_iff.mp hv).1) ef.len) (by rw [hj]; exact ary_at ef hv) (g := mkF m pc Ls.toArray (.int z :: .ref a :: st)) rfl rfl (Jvm.hb hb hd) target hs⟩) hr
theorem R_aaload {ad : String} {ty : FieldType} {vs : List Value} {a : Addr} {b : Bool} {z : Int32} {v : Value} (hd : decode μ.bs pc = .ok (.aaload, 1)) (hm : (a, b, Ary Γ ad ty vs) ∈ O) (hty : ty.isReference = true) (h0 : ¬ z < 0) (j : Nat) (hj : z.toNatClampNeg = j) (hv : vs[j]? = some v) (hr : Run Γ μ k n O (pc + 1) Ls (v :: st)) : Run Γ μ k n O pc Ls (.int z :: .ref a :: st) :=
  R_read (fun p e s m args below meth c T locs vm0 k0 P => by
    obtain ⟨X, hx, hb, hml, hret, hnm, hlk, hown, hS, hk0, hw, hF, I⟩ := P
    obtain ⟨cl, ec, ef⟩ := I.cell (List.mem_append_left _ hm)
    exact ⟨T, X, rfl, fun target hs => X.aaload (j := z) hx ec (State.isArrayOf_alike (T := s.setVm vm0) I.Z.alike ef.2.1) hty ef.2.2.1 (inb h0 (by rw [hj]; exact (List.getElem?_eq_some_iff.mp hv).1) ef.len) (by rw [hj]; exact ary_at ef hv) (g := mkF m pc Ls.toArray (.int z :: .ref a :: st)) rfl rfl (Jvm.hb hb hd) target hs⟩) hr
/-! ### the heap changes -/
/-- one owned cell is written -/
theorem R_wr {st' : List Value} {pc' : Nat} {i : Nat} {a : Addr} {φ φ' : Cell → Prop} (hi : O[i]? = some (a, true, φ)) (H : ∀ (p : Program) (e : Env) (s : State) (m : MethodId) (args : Array Value) (below : List Frame) (meth : Method) (c : Code) (T : State) (locs : List Loc) (vm0 : Vm) (k0 : Nat), Pos Γ μ k n O p e s m args below meth c T locs vm0 k0 →
      ∃ T' sl v, Stand p Γ.l e μ.R (s.setVm vm0) m args below meth c T' (locs ++ [⟨a, sl⟩]) k n ∧ Wr T.heap T'.heap a sl v ∧ (∀ c, φ c → T.heap[a]? = some c → φ' (c.setSlot sl v)) ∧ ∀ target, Steps p.tables e below (T'.setTop (mkF m pc' Ls.toArray st')) target → Steps p.tables e below (T.setTop (mkF m pc Ls.toArray st)) target)
    (hr : Run Γ μ k n (O.set i (a, true, φ')) pc' Ls st') : Run Γ μ k n O pc Ls st := fun p e s m args below meth c T locs vm0 k0 P => by
  obtain ⟨T', sl, v, X', W, q, hst⟩ := H p e s m args below meth c T locs vm0 k0 P
  obtain ⟨X, hx, hb, hml, hret, hnm, hlk, hown, hS, hk0, hw, hF, I⟩ := P
  obtain ⟨hlt, hget⟩ := List.getElem?_eq_some_iff.mp hi
  have e1 : O = O.take i ++ (a, true, φ) :: O.drop (i + 1) := by rw [← hget, List.getElem_cons_drop hlt, List.take_append_drop]
  have e2 : O.set i (a, true, φ') = O.take i ++ (a, true, φ') :: O.drop (i + 1) := by rw [List.set_eq_take_append_cons_drop, if_pos hlt]
  have I' : Inv Γ vm0 T'.heap (O.set i (a, true, φ') ++ μ.F) := by
    have := I.write (A := O.take i) (B := O.drop (i + 1) ++ μ.F) (by rw [← List.cons_append, ← List.append_assoc, ← e1]) W q
    rw [e2, List.append_assoc, List.cons_append]; exact this
  exact (hr p e s m args below meth c T' _ vm0 k0 ⟨X', hx, hb, hml, hret, hnm, hlk, hown, hS, by rw [W.size]; exact hk0, hw, Fr.snoc X' hF (I.new (List.mem_append_left _ (List.mem_of_getElem? hi))), I'⟩).back hst
theorem R_putfield {R0 O1 nm d C : String} {v old : Value} {a : Addr} {fs : List Fd} {kk : Nat} {ty : FieldType} (i j : Nat) (hd : decode μ.bs pc = .ok (.putfield index, 3)) (w : Wd Γ (.fieldLink μ.y.cls index R0 nm d)) (via : Via Γ.Z R0 O1 nm d) (hi : O[i]? = some (a, true, Obj Γ C fs)) (hj : fs[j]? = some (O1, nm, d, old)) (hne : ((fs.eraseIdx j).all fun g => !(g.2.1 == nm)) = true)
    (L : Wd Γ (.lays C O1 nm d) ∨ (Wd Γ (.laysFinal C O1 nm d) ∧ μ.y.cls = O1 ∧ μ.y.name = "<init>")) (wi : Wd Γ (.instantiable C kk)) (hty : parseFieldDescriptor d = some ty) (v' : Value) (hn : narrow ty v = v') (hf : fits ty v' = true)
    (hr : Run Γ μ k n (O.set i (a, true, Obj Γ C (fs.set j (O1, nm, d, v')))) (pc + 3) Ls st) : Run Γ μ k n O pc Ls (v :: .ref a :: st) :=
  R_wr hi (fun p e s m args below meth c T locs vm0 k0 P => by
    obtain ⟨X, hx, hb, hml, hret, hnm, hlk, hown, hS, hk0, hw, hF, I⟩ := P
    obtain ⟨cl, ec, ef⟩ := I.cell (List.mem_append_left _ (List.mem_of_getElem? hi))
    obtain ⟨T', h', X', e', W, hst⟩ := putFN X hx I.Z hown w via rfl (ef.fld ec (List.mem_of_getElem? hj)) (ef.exa ec) (L.imp id fun ⟨q1, q2, q3⟩ => ⟨q1, q2, hnm.trans q3⟩) wi hty hn hf (g := mkF m pc Ls.toArray (v :: .ref a :: st)) rfl rfl (Jvm.hb hb hd)
    subst e'
    refine ⟨T', _, _, X', W, fun c0 F0 _ => ?_, hst⟩
    obtain ⟨hlt, hget⟩ := List.getElem?_eq_some_iff.mp hj
    have e1 : fs = fs.take j ++ (O1, nm, d, old) :: fs.drop (j + 1) := by rw [← hget, List.getElem_cons_drop hlt, List.take_append_drop]
    have e2 : fs.set j (O1, nm, d, v') = fs.take j ++ (O1, nm, d, v') :: fs.drop (j + 1) := by rw [List.set_eq_take_append_cons_drop, if_pos hlt]
    rw [e2]
    rw [e1] at F0
    refine Obj.put (f := (O1, nm, d, old)) F0 (fun g hg => ?_)
    have q := List.all_eq_true.mp hne g (by rw [List.eraseIdx_eq_take_drop_succ]; exact hg)
    simpa using q) hr
theorem R_new {C : String} {nn : Nat} (fs : List Fd) (hd : decode μ.bs pc = .ok (.new index, 3)) (w : Wd Γ (.classLink μ.y.cls index C)) (wi : Wd Γ (.instantiable C nn)) (wz : Wd Γ (.initialized C)) (hfs : ∀ f ∈ fs, Laid Γ.Z Γ.a0 C f.1 f.2.1 f.2.2.1 ∧ ∃ ty, parseFieldDescriptor f.2.2.1 = some ty ∧ f.2.2.2 = defaultValue ty) (hc : k + 1 ≤ μ.R.cells) (hl : n + nn ≤ μ.R.slots)
    (hr : ∀ a : Addr, Run Γ μ (k + 1) (n + nn) ((a, true, Obj Γ C fs) :: O) (pc + 3) Ls (.ref a :: st)) : Run Γ μ k n O pc Ls st := fun p e s m args below meth c T locs vm0 k0 P => by
  obtain ⟨X, hx, hb, hml, hret, hnm, hlk, hown, hS, hk0, hw, hF, I⟩ := P
  obtain ⟨T', h', X', e', E, A, D, ⟨cell, u1, u2, -⟩, hst⟩ := newO X hx I.Z hown w wi wz rfl (g := mkF m pc Ls.toArray st) rfl (Jvm.hb hb hd) hc hl
  subst e'
  obtain ⟨c0, c1, c2⟩ := Obj.of_exa (Γ := Γ) (fs := fs) A ⟨cell, u1, by rw [u2]; simp⟩ fun f hf => by
    obtain ⟨l1, ty, l2, l3⟩ := hfs f hf
    exact ⟨l1, ⟨ty, l2⟩, by rw [l3]; exact D l1 l2⟩
  exact (hr T.heap.size p e s m args below meth c T' locs vm0 k0 ⟨X', hx, hb, hml, hret, hnm, hlk, hown, hS, Nat.le_trans hk0 E.1, hw, hF, I.alloc E c1 c2⟩).back hst
theorem ll0 {C : String} : ∀ f ∈ ([] : List Fd), Laid Γ.Z Γ.a0 C f.1 f.2.1 f.2.2.1 ∧ ∃ ty, parseFieldDescriptor f.2.2.1 = some ty ∧ f.2.2.2 = defaultValue ty := fun _ h => nomatch h
theorem llS {C O1 nm d : String} {v : Value} {L : List Fd} {ty : FieldType} (l : Laid Γ.Z Γ.a0 C O1 nm d) (h : parseFieldDescriptor d = some ty) (e : v = defaultValue ty) (r : ∀ f ∈ L, Laid Γ.Z Γ.a0 C f.1 f.2.1 f.2.2.1 ∧ ∃ ty, parseFieldDescriptor f.2.2.1 = some ty ∧ f.2.2.2 = defaultValue ty) :
    ∀ f ∈ (O1, nm, d, v) :: L, Laid Γ.Z Γ.a0 C f.1 f.2.1 f.2.2.1 ∧ ∃ ty, parseFieldDescriptor f.2.2.1 = some ty ∧ f.2.2.2 = defaultValue ty := fun f hf => by
  rcases List.mem_cons.mp hf with rfl | hf
  · exact ⟨l, ty, h, e⟩
  · exact r f hf
theorem fits_default (ty : FieldType) : fits ty (defaultValue ty) = true := by cases ty <;> rfl
theorem ary_newA {ad : String} {cA : ClassId} {ty : FieldType} {z : Int32} {h : Heap} {a : Addr} (A : Arr Γ.Z h a (newA cA ty z) ty) (E : ad ≠ "" → Exa Γ.Z h a ad) (hz : ¬ z < 0) (V : ∀ C, ty = .object C → Ovr Γ.Z cA C) : Ary Γ ad ty (List.replicate z.toNatClampNeg (defaultValue ty)) (newA cA ty z) := by
  refine ⟨fun q => ?_, A.2.1, A.2.2, by simp [newA], by simpa using (back32 hz).2, fun v hv => ?_, V⟩
  · obtain ⟨c, kk, e1, e2, e3, -⟩ := E q
    cases e1.symm.trans A.1
    exact ⟨kk, e2, e3⟩
  · rw [List.eq_of_mem_replicate hv]; exact fits_default ty
theorem R_newarray {aty : ArrayType} {z : Int32} {ad : String} (vs : List Value) (cap : Nat) (hd : decode μ.bs pc = .ok (.newarray aty, 2)) (w : Wd Γ (.arrayClass (newarray.typeOf aty))) (had : "[" ++ (newarray.typeOf aty).toString = ad) (hz : ¬ z < 0) (hvs : List.replicate z.toNatClampNeg (defaultValue (newarray.typeOf aty)) = vs) (hcap : z.toNatClampNeg ≤ cap) (hbig : cap * 8 ≤ 536870912) (hc : k + 1 ≤ μ.R.cells) (hl : n + cap ≤ μ.R.slots)
    (hr : ∀ a : Addr, Run Γ μ (k + 1) (n + cap) ((a, true, Ary Γ ad (newarray.typeOf aty) vs) :: O) (pc + 2) Ls (.ref a :: st)) : Run Γ μ k n O pc Ls (.int z :: st) := fun p e s m args below meth c T locs vm0 k0 P => by
  obtain ⟨X, hx, hb, hml, hret, hnm, hlk, hown, hS, hk0, hw, hF, I⟩ := P
  obtain ⟨T', h', cA, X', e', E, A, Ex, hst⟩ := newPE X hx I.Z w rfl (g := mkF m pc Ls.toArray (.int z :: st)) rfl (Jvm.hb hb hd) rfl hz hcap hbig hc hl had
  subst e' hvs
  exact (hr T.heap.size p e s m args below meth c T' locs vm0 k0 ⟨X', hx, hb, hml, hret, hnm, hlk, hown, hS, Nat.le_trans hk0 E.1, hw, hF, I.alloc E A.1 (ary_newA A (fun _ => Ex) hz fun C q => by cases aty <;> cases q)⟩).back hst
theorem R_anewarray {C : String} {z : Int32} {ad : String} (vs : List Value) (cap : Nat) (hd : decode μ.bs pc = .ok (.anewarray index, 3)) (w : Wd Γ (.classLink μ.y.cls index C)) (w2 : Wd Γ (.arrayOver (.object C))) (had : "[" ++ (FieldType.object C).toString = ad) (hz : ¬ z < 0) (hvs : List.replicate z.toNatClampNeg Value.null = vs) (hcap : z.toNatClampNeg ≤ cap) (hbig : cap * 8 ≤ 536870912) (hc : k + 1 ≤ μ.R.cells) (hl : n + cap ≤ μ.R.slots)
    (hr : ∀ a : Addr, Run Γ μ (k + 1) (n + cap) ((a, true, Ary Γ ad (.object C) vs) :: O) (pc + 3) Ls (.ref a :: st)) : Run Γ μ k n O pc Ls (.int z :: st) := fun p e s m args below meth c T locs vm0 k0 P => by
  obtain ⟨X, hx, hb, hml, hret, hnm, hlk, hown, hS, hk0, hw, hF, I⟩ := P
  obtain ⟨T', h', cA, X', e', E, A, Ex, V, hst⟩ := newRE X hx I.Z hown w w2 rfl (g := mkF m pc Ls.toArray (.int z :: st)) rfl (Jvm.hb hb hd) rfl hz hcap hbig hc hl had
  subst e' hvs
  exact (hr T.heap.size p e s m args below meth c T' locs vm0 k0 ⟨X', hx, hb, hml, hret, hnm, hlk, hown, hS, Nat.le_trans hk0 E.1, hw, hF, I.alloc E A.1 (ary_newA A (fun _ => Ex) hz fun C' q => by cases q; exact V)⟩).back hst
theorem R_iastore {ad : String} {vs : List Value} {a : Addr} {z x : Int32} (i : Nat) (hd : decode μ.bs pc = .ok (.iastore, 1)) (hi : O[i]? = some (a, true, Ary Γ ad .int vs)) (h0 : ¬ z < 0) (j : Nat) (hj : z.toNatClampNeg = j) (h1 : j < vs.length) (hr : Run Γ μ k n (O.set i (a, true, Ary Γ ad .int (vs.set j (.int x)))) (pc + 1) Ls st) : Run Γ μ k n O pc Ls (.int x :: .int z :: .ref a :: st) :=
  R_wr hi (fun p e s m args below meth c T locs vm0 k0 P => by
    obtain ⟨X, hx, hb, hml, hret, hnm, hlk, hown, hS, hk0, hw, hF, I⟩ := P
    obtain ⟨cl, ec, ef⟩ := I.cell (List.mem_append_left _ (List.mem_of_getElem? hi))
    obtain ⟨T', h', X', e', W, hst⟩ := stI X hx I.Z rfl (ef.arr ec) (j := z) (inb h0 (by rw [hj]; exact h1) ef.len) (g := mkF m pc Ls.toArray (.int x :: .int z :: .ref a :: st)) rfl rfl (Jvm.hb hb hd)
    subst e'
    exact ⟨T', _, _, X', W, fun c0 F0 _ => by rw [hj]; exact F0.put rfl, hst⟩) hr
theorem R_castore {ad : String} {vs : List Value} {a : Addr} {z x : Int32} (i : Nat) (hd : decode μ.bs pc = .ok (.castore, 1)) (hi : O[i]? = some (a, true, Ary Γ ad .char vs)) (h0 : ¬ z < 0) (j : Nat) (hj : z.toNatClampNeg = j) (h1 : j < vs.length) (hr : Run Γ μ k n (O.set i (a, true, Ary Γ ad .char (vs.set j (.int (nar .char x))))) (pc + 1) Ls st) : Run Γ μ k n O pc Ls (.int x :: .int z :: .ref a :: st) :=
  R_wr hi (fun p e s m args below meth c T locs vm0 k0 P => by
    obtain ⟨X, hx, hb, hml, hret, hnm, hlk, hown, hS, hk0, hw, hF, I⟩ := P
    obtain ⟨cl, ec, ef⟩ := I.cell (List.mem_append_left _ (List.mem_of_getElem? hi))
    obtain ⟨T', h', X', e', W, hst⟩ := stC X hx I.Z rfl (ef.arr ec) (j := z) (x := x) (inb h0 (by rw [hj]; exact h1) ef.len) (g := mkF m pc Ls.toArray (.int x :: .int z :: .ref a :: st)) rfl rfl (Jvm.hb hb hd)
    subst e'
    exact ⟨T', _, _, X', W, fun c0 F0 _ => by rw [hj]; exact F0.put (fits_nar_char x), hst⟩) hr
theorem R_bastore {ad : String} {vs : List Value} {a : Addr} {z x : Int32} (i : Nat) (hd : decode μ.bs pc = .ok (.bastore, 1)) (hi : O[i]? = some (a, true, Ary Γ ad .byte vs)) (h0 : ¬ z < 0) (j : Nat) (hj : z.toNatClampNeg = j) (h1 : j < vs.length) (hr : Run Γ μ k n (O.set i (a, true, Ary Γ ad .byte (vs.set j (.int x.toInt8.toInt32)))) (pc + 1) Ls st) : Run Γ μ k n O pc Ls (.int x :: .int z :: .ref a :: st) :=
  R_wr hi (fun p e s m args below meth c T locs vm0 k0 P => by
    obtain ⟨X, hx, hb, hml, hret, hnm, hlk, hown, hS, hk0, hw, hF, I⟩ := P
    obtain ⟨cl, ec, ef⟩ := I.cell (List.mem_append_left _ (List.mem_of_getElem? hi))
    obtain ⟨T', h', X', e', W, hst⟩ := stB X hx I.Z rfl (ef.arr ec) (j := z) (x := x) (inb h0 (by rw [hj]; exact h1) ef.len) (g := mkF m pc Ls.toArray (.int x :: .int z :: .ref a :: st)) rfl rfl (Jvm.hb hb hd)
    subst e'
    exact ⟨T', _, _, X', W, fun c0 F0 _ => by rw [hj]; exact F0.put (fits_nar_byte x), hst⟩) hr
/-- a reference is stored: null, or an object that the array's class takes -/
theorem R_aastore {C ad : String} {vs : List Value} {a : Addr} {z : Int32} {v : Value} (i : Nat) (hd : decode μ.bs pc = .ok (.aastore, 1)) (hi : O[i]? = some (a, true, Ary Γ ad (.object C) vs)) (h0 : ¬ z < 0) (j : Nat) (hj : z.toNatClampNeg = j) (h1 : j < vs.length) (hv : v = .null ∨ ∃ (y : Addr) (b : Bool) (D : String) (fs : List Fd), v = .ref y ∧ (y, b, Obj Γ D fs) ∈ O ∧ Wd Γ (.castable D C))
    (hr : Run Γ μ k n (O.set i (a, true, Ary Γ ad (.object C) (vs.set j v))) (pc + 1) Ls st) : Run Γ μ k n O pc Ls (v :: .int z :: .ref a :: st) :=
  R_wr hi (fun p e s m args below meth c T locs vm0 k0 P => by
    obtain ⟨X, hx, hb, hml, hret, hnm, hlk, hown, hS, hk0, hw, hF, I⟩ := P
    obtain ⟨cl, ec, ef⟩ := I.cell (List.mem_append_left _ (List.mem_of_getElem? hi))
    have hS1 : Sto Γ.Z T.heap a v := by
      rcases hv with rfl | ⟨y, b, D, fs, rfl, hm, wc⟩
      · exact Or.inl rfl
      · exact Sto.of (ef.arr ec) (ef.2.2.2.2.2.2 C rfl) (Ins.of_exa (exa_of I hm) wc)
    have hf : fits (.object C) v = true := by rcases hv with rfl | ⟨y, b, D, fs, rfl, -⟩ <;> rfl
    obtain ⟨T', h', X', e', W, hst⟩ := stR X hx I.Z rfl (ef.arr ec) (j := z) (inb h0 (by rw [hj]; exact h1) ef.len) rfl hS1 (g := mkF m pc Ls.toArray (v :: .int z :: .ref a :: st)) rfl rfl (Jvm.hb hb hd)
    subst e'
    exact ⟨T', _, _, X', W, fun c0 F0 _ => by rw [hj]; exact F0.put hf, hst⟩) hr
end D
end Jvm.Own
namespace Jvm.Own
open Sem ClassFile Op Lib Jvm.Stand Jvm.Free Jvm.LawKit Jvm.RoadKit
/-! ## E. String constants, array copies -/
section E
variable {Γ : Gx} {μ : Mx} {k n : Nat} {O O1 F' : OL} {pc pc' : Nat} {Ls Ls' : List Slot} {st st' rest : List Value} {y z : MethodName} {index : Nat}
theorem Inv.mut {vm : Vm} {h h' : Heap} {A B : OL} {a : Addr} {φ φ' : Cell → Prop} (I : Inv Γ vm h (A ++ (a, true, φ) :: B)) (K : Keep h h' [a]) (hc : ∃ c : Cell, h'[a]? = some c ∧ φ' c) : Inv Γ vm h' (A ++ (a, true, φ') :: B) := by
  obtain ⟨h1, h2, h3, h4, h5, h6⟩ := I
  have n0 := h5 (a, true, φ) (by simp) rfl
  have ne : ∀ x ∈ A ++ B, x.1 ≠ a := fun x hx => by
    have p : (A ++ (a, true, φ) :: B).Perm ((a, true, φ) :: (A ++ B)) := List.perm_middle
    have D := dis_perm (p.map key) h6
    have r := (List.pairwise_cons.mp D).1 (key x) (List.mem_map.mpr ⟨x, hx, rfl⟩) (Or.inl rfl)
    exact fun z => r z.symm
  have oth : ∀ (x : Addr) (c : Cell), x ≠ a → h[x]? = some c → h'[x]? = some c := fun x c hx e => K.2.1 x c e (by simpa using hx)
  have key' : ∀ x ∈ A ++ (a, true, φ') :: B, x = (a, true, φ') ∨ (x ∈ A ++ B ∧ x ∈ A ++ (a, true, φ) :: B) := fun x hx => by
    rcases List.mem_append.mp hx with m | m
    · exact Or.inr ⟨by simp [m], by simp [m]⟩
    · rcases List.mem_cons.mp m with r | m
      · exact Or.inl r
      · exact Or.inr ⟨by simp [m], by simp [m]⟩
  have sf : Γ.w = true → ∀ x ∈ [a], Safe Γ.Z Γ.EL vm h x := fun w x hx => by
    rw [List.mem_singleton.mp hx]; exact n0.2 w
  refine ⟨h1, ⟨Nat.le_trans h2.1 K.1, fun x c r => oth x c (fun z => ?_) (h2.2 _ _ r)⟩, fun w => ⟨(h3 w).1, (h3 w).2.keep K (sf w)⟩, fun x hx => ?_, fun x hx ht => ?_, by simpa using h6⟩
  · have l1 := (Array.getElem?_eq_some_iff.mp r).1
    have l2 := n0.1
    subst z
    simp only at l2
    omega
  · rcases key' x hx with rfl | ⟨m1, m2⟩
    · exact hc
    · obtain ⟨c, e1, e2⟩ := h4 x m2
      exact ⟨c, oth _ _ (ne x m1) e1, e2⟩
  · rcases key' x hx with rfl | ⟨m1, m2⟩
    · exact ⟨n0.1, fun w => (n0.2 w).keep K (sf w) (h3 w).2⟩
    · exact ⟨(h5 x m2 ht).1, fun w => ((h5 x m2 ht).2 w).keep K (sf w) (h3 w).2⟩
theorem ary_of_arv {h : Heap} {a : Addr} {kc : ClassId} {ty : FieldType} {zz : Int32} {vs : List Value} {d : Value} (A : Arv Γ.Z h a kc ty zz vs d) (hl : zz.toNatClampNeg = vs.length) (ht : ∀ C, ty ≠ .object C) : ∃ c : Cell, h[a]? = some c ∧ Ary Γ "" ty vs c := by
  obtain ⟨c, A1, q1, q2, q3, q4, q5⟩ := A
  have e1 : c.slots.toList = vs := by
    apply List.ext_getElem?
    intro i
    rw [Array.getElem?_toList]
    by_cases hi : i < c.slots.size
    · rw [q4 i hi, List.getD_eq_getElem?_getD]
      have : i < vs.length := by omega
      simp [this]
    · rw [Array.getElem?_eq_none (by omega), List.getElem?_eq_none (by omega)]
  refine ⟨c, A1.1, fun q => absurd rfl q, A1.2.1, A1.2.2, e1, by rw [← hl]; exact (back32 q3).2, fun v hv => ?_, fun C q => absurd q (ht C)⟩
  obtain ⟨i, hi, rfl⟩ := List.mem_iff_getElem.mp hv
  have := q5 i (by omega)
  rw [List.getD_eq_getElem?_getD] at this
  simpa [hi] using this
/-- a String's two fields that count -/
abbrev sV (v : Value) : Fd := ("java/lang/String", "value", "[B", v)
abbrev sC (v : Value) : Fd := ("java/lang/String", "coder", "B", v)
abbrev StrO (Γ : Gx) (t : Addr) (more : List Fd) : Cell → Prop := Obj Γ "java/lang/String" (sV (.ref t) :: sC (.int 0) :: more)
theorem i32_len {m : Nat} (h : m < 2 ^ 31) : ¬ m.toInt32 < 0 ∧ m.toInt32.toNatClampNeg = m := by
  have e := len_toInt h
  constructor
  · rw [Int32.lt_iff_toInt_lt, e]; simp
  · simp only [Int32.toNatClampNeg, e]; simp
/-- ldc of a String constant whose text is known -/
theorem R_ldcS {text : String} (vs : List Value) (nn : Nat) (hw : Γ.w = true) (hd : decode μ.bs pc = .ok (.ldc index, 2)) (w : Wd Γ (.stringLink μ.y.cls index text)) (wS : ∀ a ∈ Bundle.stringAtoms, Wd Γ a) (hmem : (μ.y.cls, index) ∈ Γ.EL) (ht : (∀ c ∈ text.toList, c.toNat < 256) ∧ text.toList.map (fun c => Value.int (Jvm.Lit.byteI c.toNat.toUInt16)) = vs) (hvl : vs.length < 2 ^ 31)
    (hn : 4 * text.toList.length ≤ nn) (hbig : nn ≤ 536870912) (hc : k + 2 ≤ μ.R.cells) (hl : n + (nn + 4) ≤ μ.R.slots) (lv : Wd Γ (.laysFinal "java/lang/String" "java/lang/String" "value" "[B")) (lc : Wd Γ (.laysFinal "java/lang/String" "java/lang/String" "coder" "B"))
    (hr : ∀ a b : Addr, Run Γ μ (k + 2) (n + (nn + 4)) ((a, false, StrO Γ b []) :: (b, false, Ary Γ "" .byte vs) :: O) (pc + 2) Ls (.ref a :: st)) : Run Γ μ k n O pc Ls st := fun p e s m args below meth c T locs vm0 k0 P => by
  obtain ⟨X, hx, hb, hml, hret, hnm, hlk, hown, hS, hk0, hwn, hF, I⟩ := P
  obtain ⟨h1, h2, h3, h4, h5, h6⟩ := I
  obtain ⟨zl1, zl2⟩ := i32_len hvl
  obtain ⟨a, T', h', k1, b, kb, X', e', E, hS', hk1, hZ', hown', Ex, Fc, Fv, A, la, lb, hC, -, hne, hst⟩ := ldcCH X hx h1 hown w wS rfl hS hk0 (h3 hw).1 hmem (h3 hw).2 ht zl1 zl2 (g := mkF m pc Ls.toArray st) rfl (Jvm.hb hb hd) hn hbig hc hl
  subst e'
  obtain ⟨ca, cc, kk, ii, ff, y1, y2, y3, y4, y5, y6, y7⟩ := id Fc
  obtain ⟨c1, c2, c3⟩ := Obj.of_exa (Γ := Γ) (fs := [sV (.ref b), sC (.int 0)]) Ex ⟨ca, y1, y4⟩ fun f hf => by
    simp only [List.mem_cons, List.not_mem_nil, or_false] at hf
    rcases hf with rfl | rfl
    · exact ⟨Or.inr lv, ⟨.array .byte, (by decide : parseFieldDescriptor "[B" = some (.array .byte))⟩, Fv⟩
    · exact ⟨Or.inr lc, ⟨.byte, (by decide : parseFieldDescriptor "B" = some .byte)⟩, Fc⟩
  obtain ⟨c4, c5, c6⟩ := ary_of_arv (Γ := Γ) A zl2 (fun C q => by cases q)
  have sf : ∀ x ∈ O ++ μ.F, x.2.1 = true → Safe Γ.Z Γ.EL T'.vm T'.heap x.1 := fun x hx ht => by
    obtain ⟨cx, ex, -⟩ := h4 x hx
    exact hC.safe (Array.getElem?_eq_some_iff.mp ex).1 ((h5 x hx ht).2 hw)
  refine (hr a b p e s m args below meth c T' locs T'.vm k1 ⟨X', hx, hb, hml, hret, hnm, hlk, hown', hS', hk1, fun q => by rw [hw] at q; (cases q), hF, hZ', ⟨Nat.le_trans h2.1 E.1, fun x c q => E.2 _ _ (h2.2 _ _ q)⟩, fun _ => ⟨(h3 hw).1, hC.1⟩, fun x hx => ?_, fun x hx ht => ?_, ?_⟩).back hst
  · rcases List.mem_cons.mp hx with rfl | hx
    · exact ⟨c1, c2, c3⟩
    · rcases List.mem_cons.mp hx with rfl | hx
      · exact ⟨c4, c5, c6⟩
      · obtain ⟨cx, ex, fx⟩ := h4 x hx; exact ⟨cx, E.2 _ _ ex, fx⟩
  · rcases List.mem_cons.mp hx with rfl | hx
    · cases ht
    · rcases List.mem_cons.mp hx with rfl | hx
      · cases ht
      · exact ⟨(h5 x hx ht).1, fun _ => sf x hx ht⟩
  · refine List.pairwise_cons.mpr ⟨fun yy hy ht eq => ?_, List.pairwise_cons.mpr ⟨fun yy hy ht eq => ?_, h6⟩⟩
    · rcases ht with q | q
      · cases q
      · rcases List.mem_cons.mp hy with rfl | hy
        · cases q
        · obtain ⟨x, hx, rfl⟩ := List.mem_map.mp hy
          exact (hne x.1 (sf x hx q)).1 eq.symm
    · rcases ht with q | q
      · cases q
      · obtain ⟨x, hx, rfl⟩ := List.mem_map.mp hy
        exact (hne x.1 (sf x hx q)).2 eq.symm
/-- System.arraycopy of primitives between two arrays -/
theorem arv_of_ary {h : Heap} {a : Addr} {ad : String} {ty : FieldType} {vs : List Value} {c : Cell} (d : Value) (F : Ary Γ ad ty vs c) (e : h[a]? = some c) : Arv Γ.Z h a c.cls ty vs.length.toInt32 vs d := by
  obtain ⟨z1, z2⟩ := i32_len F.2.2.2.2.1
  refine ⟨c, F.arr e, rfl, by rw [F.len, z2], z1, fun i hi => ?_, fun i hi => ?_⟩
  · have hi' : i < vs.length := by rw [← F.len]; exact hi
    rw [List.getD_eq_getElem?_getD]
    have := ary_at F (j := i) (v := vs[i]) (by simp [hi'])
    rw [this]; simp [hi']
  · have hi' : i < vs.length := by rw [← F.len]; exact hi
    rw [List.getD_eq_getElem?_getD]
    have := F.2.2.2.2.2.1 vs[i] (List.getElem_mem hi')
    simpa [hi'] using this
end E
end Jvm.Own
namespace Jvm.Own
open Sem ClassFile Op Lib Jvm.Stand Jvm.Free Jvm.LawKit Jvm.RoadKit
/-! ## F. small facts -/
section F
variable {Γ : Gx} {μ : Mx} {k n : Nat} {O O1 F' : OL} {pc pc' : Nat} {Ls Ls' : List Slot} {st st' rest : List Value}
theorem i32_lt_iff {a b : Nat} (ha : a < 2 ^ 31) (hb : b < 2 ^ 31) : a.toInt32 < b.toInt32 ↔ a < b := by rw [Int32.lt_iff_toInt_lt, len_toInt ha, len_toInt hb]; omega
theorem i32_eq_iff {a b : Nat} (ha : a < 2 ^ 31) (hb : b < 2 ^ 31) : a.toInt32 = b.toInt32 ↔ a = b := by rw [← Int32.toInt_inj, len_toInt ha, len_toInt hb]; omega
theorem i32_succ (a : Nat) : a.toInt32 + 1 = (a + 1).toInt32 := (inc_ofNat a).symm
theorem i32_nn {a : Nat} (ha : a < 2 ^ 31) : ¬ a.toInt32 < 0 := (i32_len ha).1
theorem i32_cl {a : Nat} (ha : a < 2 ^ 31) : a.toInt32.toNatClampNeg = a := (i32_len ha).2
/-- an array's length is an int -/
theorem R_alen {ad : String} {ty : FieldType} {vs : List Value} {a : Addr} {b : Bool} (hm : (a, b, Ary Γ ad ty vs) ∈ O) (hr : vs.length < 2 ^ 31 → Run Γ μ k n O pc Ls st) : Run Γ μ k n O pc Ls st :=
  R_know (fun vm h I => by obtain ⟨c, e, F⟩ := I.cell (List.mem_append_left _ hm); exact F.2.2.2.2.1) hr
/-- its components are of its kind -/
theorem R_afits {ad : String} {ty : FieldType} {vs : List Value} {a : Addr} {b : Bool} (hm : (a, b, Ary Γ ad ty vs) ∈ O) (hr : (∀ v ∈ vs, fits ty v = true) → Run Γ μ k n O pc Ls st) : Run Γ μ k n O pc Ls st :=
  R_know (fun vm h I => by obtain ⟨c, e, F⟩ := I.cell (List.mem_append_left _ hm); exact F.2.2.2.2.2.1) hr
/-- two looks at one array -/
theorem R_asame {ad ad' : String} {ty ty' : FieldType} {vs vs' : List Value} {a : Addr} {b b' : Bool} (hm : (a, b, Ary Γ ad ty vs) ∈ O) (hm' : (a, b', Ary Γ ad' ty' vs') ∈ O) (hr : vs = vs' → Run Γ μ k n O pc Ls st) : Run Γ μ k n O pc Ls st :=
  R_know (fun vm h I => by
    obtain ⟨c, e, F⟩ := I.cell (List.mem_append_left _ hm)
    obtain ⟨c', e', F'⟩ := I.cell (List.mem_append_left _ hm')
    cases e.symm.trans e'
    exact F.2.2.2.1.symm.trans F'.2.2.2.1) hr
/-- two looks at one object's field -/
theorem R_fsame {C C' o nm d : String} {fs fs' : List Fd} {v v' : Value} {a : Addr} {b b' : Bool} (hm : (a, b, Obj Γ C fs) ∈ O) (hm' : (a, b', Obj Γ C' fs') ∈ O) (hf : (o, nm, d, v) ∈ fs) (hf' : (o, nm, d, v') ∈ fs') (hr : v = v' → Run Γ μ k n O pc Ls st) : Run Γ μ k n O pc Ls st :=
  R_know (fun vm h I => by
    obtain ⟨c, e, F⟩ := I.cell (List.mem_append_left _ hm)
    obtain ⟨c', e', F'⟩ := I.cell (List.mem_append_left _ hm')
    cases e.symm.trans e'
    obtain ⟨-, -, cf, kk, i, fd, f1, -, -, f4⟩ := F.2.2.2 _ hf
    obtain ⟨-, -, cf', kk', i', fd', g1, -, -, g4⟩ := F'.2.2.2 _ hf'
    cases f1.symm.trans g1
    exact Option.some.inj (f4.symm.trans g4)) hr
theorem al0 {P : Int32 → Prop} : ∀ x ∈ ([] : List Int32), P x := fun _ h => nomatch h
theorem alS {P : Int32 → Prop} {y : Int32} {L : List Int32} (h : P y) (r : ∀ x ∈ L, P x) : ∀ x ∈ y :: L, P x := fun x hx => by
  rcases List.mem_cons.mp hx with rfl | hx
  · exact h
  · exact r x hx
theorem map_int_inj {xs ys : List Int32} (h : xs.map Value.int = ys.map Value.int) : xs = ys := by
  induction xs generalizing ys with
  | nil => cases ys with | nil => rfl | cons b t => simp at h
  | cons a t ih => cases ys with
    | nil => simp at h
    | cons b u => simp only [List.map_cons, List.cons.injEq, Value.int.injEq] at h; rw [h.1, ih h.2]
theorem nar_c {x : Int32} (h0 : ¬ x < 0) (h1 : ¬ (65535 : Int32) < x) : nar .char x = x := by
  have e : x = x.toInt.toNat.toInt32 := by
    rw [← Int32.toInt_inj, len_toInt (by rw [Int32.lt_iff_toInt_lt] at h0; have := x.toInt_lt; have e0 : (0 : Int32).toInt = 0 := rfl; omega)]
    rw [Int32.lt_iff_toInt_lt] at h0; have e0 : (0 : Int32).toInt = 0 := rfl; omega
  rw [← Int32.toInt_inj]
  have q := c_i2c x
  show (x.toUInt32.toUInt16.toUInt32.toInt32).toInt = _
  rw [Int32.lt_iff_toInt_lt] at h0 h1
  have e0 : (0 : Int32).toInt = 0 := rfl
  have e1 : (65535 : Int32).toInt = 65535 := rfl
  omega
end F
end Jvm.Own
namespace Jvm.Own
open Sem ClassFile Op Lib Jvm.Stand Jvm.Free Jvm.LawKit Jvm.RoadKit
/-! ## G. casts of null, clone, arraycopy, getClass -/
section G
variable {Γ : Gx} {μ : Mx} {k n : Nat} {O O1 F' : OL} {pc pc' : Nat} {Ls Ls' : List Slot} {st st' rest : List Value} {y z : MethodName} {index : Nat}
theorem R_checkcastNull (hd : decode μ.bs pc = .ok (.checkcast index, 3)) (hr : Run Γ μ k n O (pc + 3) Ls (.null :: st)) : Run Γ μ k n O pc Ls (.null :: st) :=
  R_read (fun p e s m args below meth c T locs vm0 k0 P => by
    obtain ⟨X, hx, hb, hml, hret, hnm, hlk, hown, hS, hk0, hw, hF, I⟩ := P
    exact ⟨T, X, rfl, X.checkcastNull hx (g := mkF m pc Ls.toArray (.null :: st)) rfl rfl (Jvm.hb hb hd)⟩) hr
theorem R_instNull (hd : decode μ.bs pc = .ok (.instanceof index, 3)) (hr : Run Γ μ k n O (pc + 3) Ls (.int 0 :: st)) : Run Γ μ k n O pc Ls (.null :: st) :=
  R_read (fun p e s m args below meth c T locs vm0 k0 P => by
    obtain ⟨X, hx, hb, hml, hret, hnm, hlk, hown, hS, hk0, hw, hF, I⟩ := P
    exact ⟨T, X, rfl, X.instanceofNull hx (g := mkF m pc Ls.toArray (.null :: st)) rfl rfl (Jvm.hb hb hd)⟩) hr
/-- checkcast of an array whose class is known by name -/
theorem exaA_of {vm : Vm} {h : Heap} {ad : String} {a : Addr} {b : Bool} {ty : FieldType} {vs : List Value} (I : Inv Γ vm h (O ++ μ.F)) (hm : (a, b, Ary Γ ad ty vs) ∈ O) (hn : ad ≠ "") : Exa Γ.Z h a ad := by
  obtain ⟨c, e, F⟩ := I.cell (List.mem_append_left _ hm); exact F.exa e hn
theorem R_checkcastA {K ad : String} {a : Addr} {b : Bool} {ty : FieldType} {vs : List Value} (hd : decode μ.bs pc = .ok (.checkcast index, 3)) (w : Wd Γ (.classLink μ.y.cls index K)) (hm : (a, b, Ary Γ ad ty vs) ∈ O) (hn : ad ≠ "") (wc : Wd Γ (.castable ad K)) (hr : Run Γ μ k n O (pc + 3) Ls (.ref a :: st)) : Run Γ μ k n O pc Ls (.ref a :: st) :=
  R_read (fun p e s m args below meth c T locs vm0 k0 P => by
    obtain ⟨X, hx, hb, hml, hret, hnm, hlk, hown, hS, hk0, hw, hF, I⟩ := P
    exact castY X hx I.Z hown w rfl (Ins.of_exa (exaA_of I hm hn) wc) (g := mkF m pc Ls.toArray (.ref a :: st)) rfl rfl (Jvm.hb hb hd)) hr
theorem R_checkcastASelf {ad : String} {a : Addr} {b : Bool} {ty : FieldType} {vs : List Value} (hd : decode μ.bs pc = .ok (.checkcast index, 3)) (w : Wd Γ (.classLink μ.y.cls index ad)) (hm : (a, b, Ary Γ ad ty vs) ∈ O) (hn : ad ≠ "") (hr : Run Γ μ k n O (pc + 3) Ls (.ref a :: st)) : Run Γ μ k n O pc Ls (.ref a :: st) :=
  R_read (fun p e s m args below meth c T locs vm0 k0 P => by
    obtain ⟨X, hx, hb, hml, hret, hnm, hlk, hown, hS, hk0, hw, hF, I⟩ := P
    exact castY X hx I.Z hown w rfl (Ins.self (exaA_of I hm hn)) (g := mkF m pc Ls.toArray (.ref a :: st)) rfl rfl (Jvm.hb hb hd)) hr
/-- clone() of an array -/
theorem R_cloneA {ad : String} {a : Addr} {b : Bool} {ty : FieldType} {vs : List Value} (cap : Nat) (hd : decode μ.bs pc = .ok (.invokevirtual index, 3)) (hm : (a, b, Ary Γ ad ty vs) ∈ O) (hn : ad ≠ "") (w1 : Wd Γ (.methodLink μ.y.cls index ⟨ad, "clone", "()Ljava/lang/Object;"⟩)) (w2 : Wd Γ (.sameMethod ad "java/lang/Object" "clone" "()Ljava/lang/Object;")) (w3 : Wd Γ (.native ⟨"java/lang/Object", "clone", "()Ljava/lang/Object;"⟩))
    (w4 : Wd Γ (.instanceMethod ⟨"java/lang/Object", "clone", "()Ljava/lang/Object;"⟩)) (w5 : Wd Γ (.selects ad ⟨ad, "clone", "()Ljava/lang/Object;"⟩ ⟨"java/lang/Object", "clone", "()Ljava/lang/Object;"⟩)) (w6 : Wd Γ (.castable ad "java/lang/Cloneable")) (hsz : Ls.length = μ.ml) (hf : 1 ≤ μ.R.frames) (hl : ((st.map fun v => v.category).sum) + 14 ≤ μ.R.locals) (hcap : vs.length ≤ cap) (hc : k + 1 ≤ μ.R.cells) (hs : n + cap ≤ μ.R.slots)
    (hr : ∀ a' : Addr, Run Γ μ (k + 1) (n + cap) ((a', true, Ary Γ ad ty vs) :: O) (pc + 3) Ls (.ref a' :: st)) : Run Γ μ k n O pc Ls (.ref a :: st) := fun p e s m args below meth c T locs vm0 k0 P => by
  obtain ⟨X, hx, hb, hml, hret, hnm, hlk, hown, hS, hk0, hw, hF, I⟩ := P
  obtain ⟨cl, ec, ef⟩ := I.cell (List.mem_append_left _ hm)
  have FC : FitC Γ.Z cl := fitC_of (ef.arr ec) fun i hi v hv => ef.2.2.2.2.2.1 v (by
    rw [← ef.2.2.2.1]; rw [Array.mem_toList_iff]; exact Array.mem_of_getElem? hv)
  obtain ⟨T', h', X', e', E, A, Ex, hst⟩ := cloneA X hx I.Z hown w1 w2 w3 w4 w5 w6 rfl (ef.arr ec) (ef.exa ec hn) FC (g := mkF m pc Ls.toArray (.ref a :: st)) rfl (by rw [hml]; simpa using hsz) rfl (Jvm.hb hb hd) hf (W := (st.map fun v => v.category).sum) (by show 2 * 0 + _ ≤ _; omega) hl (by rw [ef.len]; exact hcap) hc hs
  subst e'
  refine (hr T.heap.size p e s m args below meth c T' locs vm0 k0 ⟨X', hx, hb, hml, hret, hnm, hlk, hown, hS, Nat.le_trans hk0 E.1, hw, hF, I.alloc E A.1 ⟨fun q => ?_, A.2.1, A.2.2, ef.2.2.2.1, ef.2.2.2.2.1, ef.2.2.2.2.2.1, ef.2.2.2.2.2.2⟩⟩).back hst
  exact ef.1 q
/-- getClass() of an object whose Class object stands -/
theorem R_getClass {C : String} {a mr : Addr} {b : Bool} {fs : List Fd} (hd : decode μ.bs pc = .ok (.invokevirtual index, 3)) (hm : (a, b, Obj Γ C fs) ∈ O) (M : Mir Γ.Z C mr) (w1 : Wd Γ (.methodLink μ.y.cls index ⟨"java/lang/Object", "getClass", "()Ljava/lang/Class;"⟩)) (w2 : Wd Γ (.declares ⟨"java/lang/Object", "getClass", "()Ljava/lang/Class;"⟩)) (w3 : Wd Γ (.noSuperclass "java/lang/Object")) (w4 : Wd Γ (.selects C ⟨"java/lang/Object", "getClass", "()Ljava/lang/Class;"⟩ ⟨"java/lang/Object", "getClass", "()Ljava/lang/Class;"⟩))
    (w5 : Wd Γ (.instanceMethod ⟨"java/lang/Object", "getClass", "()Ljava/lang/Class;"⟩)) (w6 : Wd Γ (.native ⟨"java/lang/Object", "getClass", "()Ljava/lang/Class;"⟩)) (hsz : Ls.length = μ.ml) (hf : 1 ≤ μ.R.frames) (hl : ((st.map fun v => v.category).sum) + (nativeFrameWords "java/lang/Object" "getClass" 1 + 11) ≤ μ.R.locals)
    (hr : Run Γ μ k n O (pc + 3) Ls (.ref mr :: st)) : Run Γ μ k n O pc Ls (.ref a :: st) :=
  R_read (fun p e s m args below meth c T locs vm0 k0 P => by
    obtain ⟨X, hx, hb, hml, hret, hnm, hlk, hown, hS, hk0, hw, hF, I⟩ := P
    exact gcls X hx I.Z hown w1 w2 w3 w4 w5 w6 rfl (exa_of I hm) M (g := mkF m pc Ls.toArray (.ref a :: st)) rfl (by rw [hml]; simpa using hsz) rfl (Jvm.hb hb hd) hf (W := (st.map fun v => v.category).sum) (by show 2 * 0 + _ ≤ _; omega) hl) hr
theorem R_getClassA {ad : String} {a mr : Addr} {b : Bool} {ty : FieldType} {vs : List Value} (hd : decode μ.bs pc = .ok (.invokevirtual index, 3)) (hm : (a, b, Ary Γ ad ty vs) ∈ O) (hn : ad ≠ "") (M : Mir Γ.Z ad mr) (w1 : Wd Γ (.methodLink μ.y.cls index ⟨"java/lang/Object", "getClass", "()Ljava/lang/Class;"⟩)) (w2 : Wd Γ (.declares ⟨"java/lang/Object", "getClass", "()Ljava/lang/Class;"⟩)) (w3 : Wd Γ (.noSuperclass "java/lang/Object")) (w4 : Wd Γ (.selects ad ⟨"java/lang/Object", "getClass", "()Ljava/lang/Class;"⟩ ⟨"java/lang/Object", "getClass", "()Ljava/lang/Class;"⟩))
    (w5 : Wd Γ (.instanceMethod ⟨"java/lang/Object", "getClass", "()Ljava/lang/Class;"⟩)) (w6 : Wd Γ (.native ⟨"java/lang/Object", "getClass", "()Ljava/lang/Class;"⟩)) (hsz : Ls.length = μ.ml) (hf : 1 ≤ μ.R.frames) (hl : ((st.map fun v => v.category).sum) + (nativeFrameWords "java/lang/Object" "getClass" 1 + 11) ≤ μ.R.locals)
    (hr : Run Γ μ k n O (pc + 3) Ls (.ref mr :: st)) : Run Γ μ k n O pc Ls (.ref a :: st) :=
  R_read (fun p e s m args below meth c T locs vm0 k0 P => by
    obtain ⟨X, hx, hb, hml, hret, hnm, hlk, hown, hS, hk0, hw, hF, I⟩ := P
    exact gcls X hx I.Z hown w1 w2 w3 w4 w5 w6 rfl (exaA_of I hm hn) M (g := mkF m pc Ls.toArray (.ref a :: st)) rfl (by rw [hml]; simpa using hsz) rfl (Jvm.hb hb hd) hf (W := (st.map fun v => v.category).sum) (by show 2 * 0 + _ ≤ _; omega) hl) hr
/-- System.arraycopy, into an owned array -/
theorem R_arraycopy {ad ad' : String} {ty ty' : FieldType} {vs vd us : List Value} {a d : Addr} {b : Bool} {sp dp nn : Int32} (i : Nat) (hd : decode μ.bs pc = .ok (.invokestatic index, 3)) (w1 : Wd Γ (.methodLink μ.y.cls index Jvm.Stand.acN)) (w2 : Wd Γ (.native Jvm.Stand.acN)) (w3 : Wd Γ (.static Jvm.Stand.acN)) (w4 : Wd Γ (.initialized "java/lang/System"))
    (hm : (a, b, Ary Γ ad ty vs) ∈ O) (hi : O[i]? = some (d, true, Ary Γ ad' ty' vd)) (sN dN nN : Nat) (h1 : ¬ sp < 0) (h2 : ¬ dp < 0) (h3 : ¬ nn < 0) (e1 : sp.toNatClampNeg = sN) (e2 : dp.toNatClampNeg = dN) (e3 : nn.toNatClampNeg = nN) (h4 : sN + nN ≤ vs.length) (h5 : dN + nN ≤ vd.length) (hus : (vs.drop sN).take nN = us)
    (hty : (ty = ty' ∧ refKind ty = false) ∨ (refKind ty = true ∧ ∃ C, ty' = .object C ∧ ∀ v ∈ us, v = .null ∨ ∃ (y : Addr) (b : Bool) (D : String) (fs : List Fd), v = .ref y ∧ (y, b, Obj Γ D fs) ∈ O ∧ Wd Γ (.castable D C)))
    (hsz : Ls.length = μ.ml) (hf : 1 ≤ μ.R.frames) (hl : ((st.map fun v => v.category).sum) + (nativeFrameWords "java/lang/System" "arraycopy" 5 + 11) ≤ μ.R.locals)
    (hr : Run Γ μ k n (O.set i (d, true, Ary Γ ad' ty' (vd.take dN ++ us ++ vd.drop (dN + nN)))) (pc + 3) Ls st) : Run Γ μ k n O pc Ls (.int nn :: .int dp :: .ref d :: .int sp :: .ref a :: st) := fun p e s m args below meth c T locs vm0 k0 P => by
  obtain ⟨X, hx, hb, hml, hret, hnm, hlk, hown, hS, hk0, hw, hF, I⟩ := P
  obtain ⟨cl, ec, ef⟩ := I.cell (List.mem_append_left _ hm)
  obtain ⟨cd, dc, df⟩ := I.cell (List.mem_append_left _ (List.mem_of_getElem? hi))
  obtain ⟨z1, z2⟩ := i32_len ef.2.2.2.2.1
  obtain ⟨y1, y2⟩ := i32_len df.2.2.2.2.1
  have hus' : us = (List.range nn.toNatClampNeg).map fun i => vs.getD (sp.toNatClampNeg + i) .null := by
    rw [← hus, e1, e3]
    apply List.ext_getElem?
    intro j
    by_cases q : j < nN
    · rw [List.getElem?_take_of_lt q, List.getElem?_drop]
      simp [q, List.getD_eq_getElem?_getD]
      rw [List.getElem?_eq_getElem (by omega)]; simp
    · rw [List.getElem?_eq_none (by simp; omega), List.getElem?_eq_none (by simp; omega)]
  have hty2 : (ty = ty' ∧ refKind ty = false) ∨ (refKind ty = true ∧ refKind ty' = true ∧ StoL Γ.Z T.heap d us) := by
    rcases hty with q | ⟨q1, C, rfl, q3⟩
    · exact Or.inl q
    · refine Or.inr ⟨q1, rfl, ?_⟩
      have all : ∀ L : List Value, (∀ v ∈ L, v = .null ∨ ∃ (y : Addr) (b : Bool) (D : String) (fs : List Fd), v = .ref y ∧ (y, b, Obj Γ D fs) ∈ O ∧ Wd Γ (.castable D C)) → StoL Γ.Z T.heap d L := by
        intro L
        induction L with
        | nil => intro _; trivial
        | cons v L ih =>
          intro h
          refine ⟨?_, ih fun u hu => h u (List.mem_cons_of_mem _ hu)⟩
          rcases h v (List.mem_cons_self ..) with rfl | ⟨y, b, D, fs, rfl, hmy, wc⟩
          · exact Or.inl rfl
          · exact Sto.of (df.arr dc) (df.2.2.2.2.2.2 C rfl) (Ins.of_exa (exa_of I hmy) wc)
      exact all us q3
  obtain ⟨T', h', L, X', e', N', K, A, hst⟩ := cpA X hx I.Z hown w1 w2 w3 w4 rfl (arv_of_ary .null ef ec) (arv_of_ary .null df dc) hty2 h1 h2 h3 (by rw [e1, e3, z2]; exact h4) (by rw [e2, e3, y2]; exact h5) hus' (by rw [e2, e3]; exact h5) hF (I.new (List.mem_append_left _ (List.mem_of_getElem? hi))) (g := mkF m pc Ls.toArray (.int nn :: .int dp :: .ref d :: .int sp :: .ref a :: st)) rfl (by rw [hml]; simpa using hsz) rfl (Jvm.hb hb hd) hf (W := (st.map fun v => v.category).sum) (by show 2 * 0 + _ ≤ _; omega) hl
  subst e'
  obtain ⟨hlt, hget⟩ := List.getElem?_eq_some_iff.mp hi
  have g1 : O = O.take i ++ (d, true, Ary Γ ad' ty' vd) :: O.drop (i + 1) := by rw [← hget, List.getElem_cons_drop hlt, List.take_append_drop]
  have g2 : ∀ φ, O.set i (d, true, φ) = O.take i ++ (d, true, φ) :: O.drop (i + 1) := fun φ => by rw [List.set_eq_take_append_cons_drop, if_pos hlt]
  have ul : us.length = nN := by rw [← hus]; simp; omega
  have hA : ∃ c' : Cell, T'.heap[d]? = some c' ∧ Ary Γ ad' ty' (vd.take dN ++ us ++ vd.drop (dN + nN)) c' := by
    obtain ⟨c', A1, q1, q2, q3, q4, q5⟩ := A
    rw [e2, e3] at q4 q5
    have hsz' : c'.slots.size = vd.length := by rw [q2, y2]
    have hll : (vd.take dN ++ us ++ vd.drop (dN + nN)).length = vd.length := by simp [ul]; omega
    have et : c'.slots.toList = vd.take dN ++ us ++ vd.drop (dN + nN) := by
      apply List.ext_getElem?
      intro j
      rw [Array.getElem?_toList]
      by_cases hj : j < c'.slots.size
      · rw [q4 j hj, List.getD_eq_getElem?_getD, List.getElem?_eq_getElem (by omega)]; simp
      · rw [Array.getElem?_eq_none (by omega), List.getElem?_eq_none (by omega)]
    refine ⟨c', A1.1, fun q => ?_, A1.2.1, A1.2.2, et, by rw [hll]; exact df.2.2.2.2.1, fun v hv => ?_, fun C q => ?_⟩
    · rw [q1]; exact df.1 q
    · obtain ⟨j, hj, rfl⟩ := List.mem_iff_getElem.mp hv
      have := q5 j (by omega)
      rw [List.getD_eq_getElem?_getD, List.getElem?_eq_getElem hj] at this
      simpa using this
    · rw [q1]; exact df.2.2.2.2.2.2 C q
  have I' : Inv Γ vm0 T'.heap (O.set i (d, true, Ary Γ ad' ty' (vd.take dN ++ us ++ vd.drop (dN + nN))) ++ μ.F) := by
    rw [g2, List.append_assoc, List.cons_append]
    refine Inv.mut (φ := Ary Γ ad' ty' vd) ?_ K hA
    rw [← List.cons_append, ← List.append_assoc, ← g1]; exact I
  exact (hr p e s m args below meth c T' L vm0 k0 ⟨X', hx, hb, hml, hret, hnm, hlk, hown, hS, Nat.le_trans hk0 K.1, hw, N', I'⟩).back hst
end G
end Jvm.Own
namespace Jvm.Own
open Sem ClassFile Op Lib Jvm.Stand Jvm.Free Jvm.LawKit Jvm.RoadKit
/-! ## H. arrays of references that are read alone (nothing is known of what they would take) -/
section H
variable {Γ : Gx} {μ : Mx} {k n : Nat} {O O1 F' : OL} {pc pc' : Nat} {Ls Ls' : List Slot} {st st' rest : List Value} {y z : MethodName} {index : Nat}
def AryR (Γ : Gx) (ad : String) (ty : FieldType) (vs : List Value) (c : Cell) : Prop :=
  (ad ≠ "" → ∃ k : Class, Γ.Z.vm.findClass ad = some c.cls ∧ Γ.Z.vm.classes[c.cls]? = some k) ∧ Γ.Z.isArrayOf c ty ∧ c.vm ≠ .unknown ∧ c.slots.toList = vs ∧ vs.length < 2 ^ 31 ∧ (∀ v ∈ vs, fits ty v = true)
theorem AryR.arr {h : Heap} {a : Addr} {ad : String} {ty : FieldType} {vs : List Value} {c : Cell} (F : AryR Γ ad ty vs c) (e : h[a]? = some c) : Arr Γ.Z h a c ty := ⟨e, F.2.1, F.2.2.1⟩
theorem AryR.len {ad : String} {ty : FieldType} {vs : List Value} {c : Cell} (F : AryR Γ ad ty vs c) : c.slots.size = vs.length := by rw [← F.2.2.2.1]; simp
theorem AryR.exa {h : Heap} {a : Addr} {ad : String} {ty : FieldType} {vs : List Value} {c : Cell} (F : AryR Γ ad ty vs c) (e : h[a]? = some c) (hn : ad ≠ "") : Exa Γ.Z h a ad := by
  obtain ⟨k, k1, k2⟩ := F.1 hn
  obtain ⟨q, k', k3, comp, k4⟩ := F.2.1
  cases k2.symm.trans k3
  exact ⟨c, k, e, k1, k2, (F.arr e).plain, fun z => by rw [k4] at z; cases z⟩
theorem aryR_at {ad : String} {ty : FieldType} {vs : List Value} {c : Cell} {j : Nat} {v : Value} (F : AryR Γ ad ty vs c) (hv : vs[j]? = some v) : c.slots[j]? = some v := by
  rw [← F.2.2.2.1] at hv; simpa using hv
theorem R_arraylengthR {ad : String} {ty : FieldType} {vs : List Value} {a : Addr} {b : Bool} (hd : decode μ.bs pc = .ok (.arraylength, 1)) (hm : (a, b, AryR Γ ad ty vs) ∈ O) (z : Int32) (hz : vs.length.toInt32 = z) (hr : Run Γ μ k n O (pc + 1) Ls (.int z :: st)) : Run Γ μ k n O pc Ls (.ref a :: st) :=
  R_read (fun p e s m args below meth c T locs vm0 k0 P => by
    obtain ⟨X, hx, hb, hml, hret, hnm, hlk, hown, hS, hk0, hw, hF, I⟩ := P
    obtain ⟨cl, ec, ef⟩ := I.cell (List.mem_append_left _ hm)
    refine ⟨T, X, rfl, fun target hs => X.arraylength hx ec (State.isArrayOf_alike (T := s.setVm vm0) I.Z.alike ef.2.1) (g := mkF m pc Ls.toArray (.ref a :: st)) rfl rfl (Jvm.hb hb hd) target ?_⟩
    rw [ef.len, hz]; exact hs) hr
theorem R_aaloadR {ad : String} {ty : FieldType} {vs : List Value} {a : Addr} {b : Bool} {z : Int32} {v : Value} (hd : decode μ.bs pc = .ok (.aaload, 1)) (hm : (a, b, AryR Γ ad ty vs) ∈ O) (hty : ty.isReference = true) (h0 : ¬ z < 0) (j : Nat) (hj : z.toNatClampNeg = j) (hv : vs[j]? = some v) (hr : Run Γ μ k n O (pc + 1) Ls (v :: st)) : Run Γ μ k n O pc Ls (.int z :: .ref a :: st) :=
  R_read (fun p e s m args below meth c T locs vm0 k0 P => by
    obtain ⟨X, hx, hb, hml, hret, hnm, hlk, hown, hS, hk0, hw, hF, I⟩ := P
    obtain ⟨cl, ec, ef⟩ := I.cell (List.mem_append_left _ hm)
    exact ⟨T, X, rfl, fun target hs => X.aaload (j := z) hx ec (State.isArrayOf_alike (T := s.setVm vm0) I.Z.alike ef.2.1) hty ef.2.2.1 (inb h0 (by rw [hj]; exact (List.getElem?_eq_some_iff.mp hv).1) ef.len) (by rw [hj]; exact aryR_at ef hv) (g := mkF m pc Ls.toArray (.int z :: .ref a :: st)) rfl rfl (Jvm.hb hb hd) target hs⟩) hr
theorem R_checkcastRSelf {ad : String} {a : Addr} {b : Bool} {ty : FieldType} {vs : List Value} (hd : decode μ.bs pc = .ok (.checkcast index, 3)) (w : Wd Γ (.classLink μ.y.cls index ad)) (hm : (a, b, AryR Γ ad ty vs) ∈ O) (hn : ad ≠ "") (hr : Run Γ μ k n O (pc + 3) Ls (.ref a :: st)) : Run Γ μ k n O pc Ls (.ref a :: st) :=
  R_read (fun p e s m args below meth c T locs vm0 k0 P => by
    obtain ⟨X, hx, hb, hml, hret, hnm, hlk, hown, hS, hk0, hw, hF, I⟩ := P
    obtain ⟨cl, ec, ef⟩ := I.cell (List.mem_append_left _ hm)
    exact castY X hx I.Z hown w rfl (Ins.self (ef.exa ec hn)) (g := mkF m pc Ls.toArray (.ref a :: st)) rfl rfl (Jvm.hb hb hd)) hr
theorem R_cloneR {ad : String} {a : Addr} {b : Bool} {ty : FieldType} {vs : List Value} (cap : Nat) (hd : decode μ.bs pc = .ok (.invokevirtual index, 3)) (hm : (a, b, AryR Γ ad ty vs) ∈ O) (hn : ad ≠ "") (w1 : Wd Γ (.methodLink μ.y.cls index ⟨ad, "clone", "()Ljava/lang/Object;"⟩)) (w2 : Wd Γ (.sameMethod ad "java/lang/Object" "clone" "()Ljava/lang/Object;")) (w3 : Wd Γ (.native ⟨"java/lang/Object", "clone", "()Ljava/lang/Object;"⟩))
    (w4 : Wd Γ (.instanceMethod ⟨"java/lang/Object", "clone", "()Ljava/lang/Object;"⟩)) (w5 : Wd Γ (.selects ad ⟨ad, "clone", "()Ljava/lang/Object;"⟩ ⟨"java/lang/Object", "clone", "()Ljava/lang/Object;"⟩)) (w6 : Wd Γ (.castable ad "java/lang/Cloneable")) (hsz : Ls.length = μ.ml) (hf : 1 ≤ μ.R.frames) (hl : ((st.map fun v => v.category).sum) + 14 ≤ μ.R.locals) (hcap : vs.length ≤ cap) (hc : k + 1 ≤ μ.R.cells) (hs : n + cap ≤ μ.R.slots)
    (hr : ∀ a' : Addr, Run Γ μ (k + 1) (n + cap) ((a', true, AryR Γ ad ty vs) :: O) (pc + 3) Ls (.ref a' :: st)) : Run Γ μ k n O pc Ls (.ref a :: st) := fun p e s m args below meth c T locs vm0 k0 P => by
  obtain ⟨X, hx, hb, hml, hret, hnm, hlk, hown, hS, hk0, hw, hF, I⟩ := P
  obtain ⟨cl, ec, ef⟩ := I.cell (List.mem_append_left _ hm)
  have FC : FitC Γ.Z cl := fitC_of (ef.arr ec) fun i hi v hv => ef.2.2.2.2.2 v (by
    rw [← ef.2.2.2.1]; rw [Array.mem_toList_iff]; exact Array.mem_of_getElem? hv)
  obtain ⟨T', h', X', e', E, A, Ex, hst⟩ := cloneA X hx I.Z hown w1 w2 w3 w4 w5 w6 rfl (ef.arr ec) (ef.exa ec hn) FC (g := mkF m pc Ls.toArray (.ref a :: st)) rfl (by rw [hml]; simpa using hsz) rfl (Jvm.hb hb hd) hf (W := (st.map fun v => v.category).sum) (by show 2 * 0 + _ ≤ _; omega) hl (by rw [ef.len]; exact hcap) hc hs
  subst e'
  exact (hr T.heap.size p e s m args below meth c T' locs vm0 k0 ⟨X', hx, hb, hml, hret, hnm, hlk, hown, hS, Nat.le_trans hk0 E.1, hw, hF, I.alloc E A.1 ⟨ef.1, A.2.1, A.2.2, ef.2.2.2.1, ef.2.2.2.2.1, ef.2.2.2.2.2⟩⟩).back hst
end H
end Jvm.Own
namespace Jvm.Own
open Sem ClassFile Op Lib Jvm.Stand Jvm.Free Jvm.LawKit Jvm.RoadKit
/-! ## I. chars and bytes; what a case's words say of the start -/
abbrev b8 (c : Int32) : Int32 := c.toInt8.toInt32
/-- a char below 256 -/
abbrev Lo (r : Int32) : Prop := ¬ r < 0 ∧ ¬ (255 : Int32) < r
theorem and255 (x : Int32) : Lo (x &&& (255 : Int32)) := by
  have := c_and x 255 (by decide)
  have e1 : (255 : Int32).toInt = 255 := rfl
  have e0 : (0 : Int32).toInt = 0 := rfl
  show ¬ _ ∧ ¬ _
  rw [Int32.lt_iff_toInt_lt, Int32.lt_iff_toInt_lt]; omega
theorem i2c255 (x : Int32) : (x &&& (255 : Int32)).toUInt32.toUInt16.toUInt32.toInt32 = x &&& 255 := i2c_mask x
theorem le255 {x : Int32} (h : Lo x) : nar .char x = x := nar_c h.1 fun q => h.2 (by
  have e1 : (255 : Int32).toInt = 255 := rfl
  have e2 : (65535 : Int32).toInt = 65535 := rfl
  rw [Int32.lt_iff_toInt_lt] at q ⊢; omega)
theorem narI (x : Int32) : nar .char (x &&& (255 : Int32)).toUInt32.toUInt16.toUInt32.toInt32 = x &&& 255 := by rw [i2c255]; exact le255 (and255 x)
theorem b8_iff : ∀ a : Fin 256, ∀ b : Fin 256, (b8 (Int32.ofNat a.val) = b8 (Int32.ofNat b.val)) = (a.val = b.val) := by decide +kernel
theorem fin_of {r : Int32} (h : Lo r) : ∃ a : Fin 256, r = Int32.ofNat a.val := by
  have e1 : (255 : Int32).toInt = 255 := rfl
  have e0 : (0 : Int32).toInt = 0 := rfl
  obtain ⟨g0, g1⟩ := h
  rw [Int32.lt_iff_toInt_lt] at g0 g1
  refine ⟨⟨r.toInt.toNat, by omega⟩, ?_⟩
  rw [← Int32.toInt_inj]
  show _ = (r.toInt.toNat.toInt32).toInt
  rw [len_toInt (by omega)]; omega
/-- a char's byte tells the char -/
theorem b8_inj {r r' : Int32} (h : Lo r) (h' : Lo r') : b8 r = b8 r' ↔ r = r' := by
  obtain ⟨a, rfl⟩ := fin_of h
  obtain ⟨b, rfl⟩ := fin_of h'
  rw [b8_iff]
  constructor
  · intro q; rw [q]
  · intro q
    have := congrArg Int32.toInt q
    rw [show (Int32.ofNat a.val).toInt = a.val from len_toInt (by omega), show (Int32.ofNat b.val).toInt = b.val from len_toInt (by omega)] at this
    omega
theorem map_b8_inj : ∀ {xs ys : List Int32}, (∀ x ∈ xs, Lo x) → (∀ x ∈ ys, Lo x) → (xs.map b8 = ys.map b8 ↔ xs = ys)
  | [], [], _, _ => by simp
  | [], _ :: _, _, _ => by simp
  | _ :: _, [], _, _ => by simp
  | x :: xs, y :: ys, h, h' => by
    have r := map_b8_inj (xs := xs) (ys := ys) (fun z hz => h z (List.mem_cons_of_mem _ hz)) (fun z hz => h' z (List.mem_cons_of_mem _ hz))
    have q := b8_inj (h x (List.mem_cons_self ..)) (h' y (List.mem_cons_self ..))
    rw [List.map_cons, List.map_cons, List.cons.injEq, List.cons.injEq, r, q]
section I
variable {Γ : Gx} {args : Array Value} {s : State} {t u : Term}
theorem eq_const {n : Int32} (h : (Jvm.Cond.eq t (.int n)).value args s none s [] = some true) : t.eval args s none [] s = some (.int n) := by
  obtain ⟨x, y, ex, ey, k1, k2⟩ := cmp_v (Or.inl h)
  cases (Term.int_eval n).symm.trans ey
  obtain ⟨z, rfl⟩ := k2
  have := gotT (Cond.eq_ints ex (Term.int_eval n)) h
  rw [ex, this]
theorem eq_ref {r : Addr} (h : (Jvm.Cond.eq t u).value args s none s [] = some true) (hu : u.eval args s none [] s = some (.ref r)) : t.eval args s none [] s = some (.ref r) := by
  obtain ⟨x, y, ex, ey, k1, k2⟩ := cmp_v (Or.inl h)
  cases hu.symm.trans ey
  have hx : x.isRef = true := k2.2
  have := gotT (eq_R ex hu hx rfl) h
  rw [ex, this]
theorem Obj.start {h : Heap} {a : Addr} {C o nm d : String} {v : Value} (E : Exa Γ.Z h a C) (F : Fld Γ.Z h a o nm d v) {fs : List Fd} (L : ∀ f ∈ fs, Laid Γ.Z Γ.a0 C f.1 f.2.1 f.2.2.1 ∧ (∃ ty, parseFieldDescriptor f.2.2.1 = some ty) ∧ Fld Γ.Z h a f.1 f.2.1 f.2.2.1 f.2.2.2) : ∃ c : Cell, h[a]? = some c ∧ Obj Γ C fs c := by
  obtain ⟨c, -, -, -, -, e1, -, -, e4, -⟩ := F
  exact Obj.of_exa E ⟨c, e1, e4⟩ L
theorem ol0 {h : Heap} {a : Addr} {C : String} : ∀ f ∈ ([] : List Fd), Laid Γ.Z Γ.a0 C f.1 f.2.1 f.2.2.1 ∧ (∃ ty, parseFieldDescriptor f.2.2.1 = some ty) ∧ Fld Γ.Z h a f.1 f.2.1 f.2.2.1 f.2.2.2 := fun _ q => nomatch q
theorem olS {h : Heap} {a : Addr} {C o nm d : String} {v : Value} {fs : List Fd} {ty : FieldType} (l : Laid Γ.Z Γ.a0 C o nm d) (p : parseFieldDescriptor d = some ty) (F : Fld Γ.Z h a o nm d v) (r : ∀ f ∈ fs, Laid Γ.Z Γ.a0 C f.1 f.2.1 f.2.2.1 ∧ (∃ ty, parseFieldDescriptor f.2.2.1 = some ty) ∧ Fld Γ.Z h a f.1 f.2.1 f.2.2.1 f.2.2.2) :
    ∀ f ∈ (o, nm, d, v) :: fs, Laid Γ.Z Γ.a0 C f.1 f.2.1 f.2.2.1 ∧ (∃ ty, parseFieldDescriptor f.2.2.1 = some ty) ∧ Fld Γ.Z h a f.1 f.2.1 f.2.2.1 f.2.2.2 := fun f hf => by
  rcases List.mem_cons.mp hf with rfl | hf
  · exact ⟨l, ⟨ty, p⟩, F⟩
  · exact r f hf
theorem Fld.of_term {a : Addr} {C n d : String} {v : Value} (ht : t.eval args s none [] s = some (.ref a)) (e : (Term.field t C n d).eval args s none [] s = some v) : Fld s s.heap a C n d v := Fld.start (by rw [← fld_at ht]; exact e)
theorem len_lt {a : Addr} {c : Cell} {v : Value} (hl : (Term.length t).eval args s none [] s = some v) (ht : t.eval args s none [] s = some (.ref a)) (ha : s.arrayAt? a = some c) : c.slots.size < 2 ^ 31 := by
  by_cases q : c.slots.size < 2 ^ 31
  · exact q
  · simp [Term.eval, ht, ha] at hl
    omega
/-- an array of the start: its length and its components are said -/
theorem arr_toList {a : Addr} {c : Cell} {ty : FieldType} (A : Arr s s.heap a c ty) (ht : t.eval args s none [] s = some (.ref a)) {m : Int32} (hl : (Term.length t).eval args s none [] s = some (.int m)) {vs : List Value} (hm : vs.length.toInt32 = m) (hv31 : vs.length < 2 ^ 31)
    (he : ∀ j, (hj : j < vs.length) → (Term.elem t (.int j.toInt32)).eval args s none [] s = some vs[j]) : c.slots.toList = vs := by
  have hsz := len_lt hl ht (A.fin (Vm.Alike.refl _))
  obtain ⟨a', c', e1, e2, e3⟩ := Term.length_spec hl
  cases ht.symm.trans e1
  cases (A.fin (Vm.Alike.refl _)).symm.trans e2
  have es : c.slots.size = vs.length := by
    have := e3
    simp only [Value.int.injEq] at this
    rw [← hm] at this
    exact ((i32_eq_iff hv31 hsz).mp this).symm
  apply List.ext_getElem?
  intro j
  by_cases hj : j < vs.length
  · have q := (elem_in (he j hj) ht (Term.int_eval _) A.1).2
    rw [i32_cl (by omega)] at q
    rw [Array.getElem?_toList, q, List.getElem?_eq_getElem hj]
  · rw [List.getElem?_eq_none (by simpa [es] using hj), List.getElem?_eq_none (by omega)]
end I
end Jvm.Own
namespace Jvm.Own
open Sem ClassFile Op Lib Jvm.Stand Jvm.Free Jvm.LawKit Jvm.RoadKit
/-! ## J. Class constants, getClass by an interface, statics of a nest -/
section J
variable {Γ : Gx} {μ : Mx} {k n : Nat} {O O1 F' : OL} {pc pc' : Nat} {Ls Ls' : List Slot} {st st' rest : List Value} {y z : MethodName} {index : Nat}
theorem R_getstaticNest {R0 O1 nm d host : String} {v : Value} (hd : decode μ.bs pc = .ok (.getstatic index, 3)) (w : Wd Γ (.fieldLinkNest μ.y.cls index R0 nm d host)) (via : Via Γ.Z R0 O1 nm d) (F : Sta Γ.Z Γ.Z.heap O1 nm d v) (hr : Run Γ μ k n O (pc + 3) Ls (v :: st)) : Run Γ μ k n O pc Ls st :=
  R_read (fun p e s m args below meth c T locs vm0 k0 P => by
    obtain ⟨X, hx, hb, hml, hret, hnm, hlk, hown, hS, hk0, hw, hF, I⟩ := P
    exact getS2 X hx I.Z hown (Or.inr w) via rfl (F.ext I.ext0) (g := mkF m pc Ls.toArray st) rfl (Jvm.hb hb hd)) hr
/-- ldc of a Class constant whose Class object stands -/
theorem R_ldcClass {C : String} {mr : Addr} (hd : decode μ.bs pc = .ok (.ldc index, 2)) (w : Wd Γ (.classLink μ.y.cls index C)) (M : Mir Γ.Z C mr) (hr : Run Γ μ k n O (pc + 2) Ls (.ref mr :: st)) : Run Γ μ k n O pc Ls st :=
  R_read (fun p e s m args below meth c T locs vm0 k0 P => by
    obtain ⟨X, hx, hb, hml, hret, hnm, hlk, hown, hS, hk0, hw, hF, I⟩ := P
    obtain ⟨cc, kc, m1, m2, m3, -⟩ := M
    obtain ⟨k', q, ek⟩ := I.Z.alike.2.2 _ _ m2
    have q' : vm0.classes[cc]? = some k' := q
    have m1' : vm0.findClass C = some cc := (I.Z.alike.findClass _ _).trans m1
    have ev : (Term.mirror C).eval args (s.setVm vm0) none [] (s.setVm vm0) = some (.ref mr) := by
      have : k'.mirror = some mr := by rw [ek]; exact m3
      simp [Term.eval, State.vm_setVm, m1', q', this]
    obtain ⟨vm', X', stp⟩ := X.ldcMirror hx hown (mvT (s := s.setVm vm0) I.Z w) ev (g := mkF m pc Ls.toArray st) rfl (Jvm.hb hb hd)
    exact ⟨_, X', rfl, stp⟩) hr
/-- getClass() by an interface's name -/
theorem R_getClassI {C J : String} {a mr : Addr} {b : Bool} {fs : List Fd} {count : Nat} (hd : decode μ.bs pc = .ok (.invokeinterface index count, 5)) (hm : (a, b, Obj Γ C fs) ∈ O) (M : Mir Γ.Z C mr) (w1 : Wd Γ (.methodLink μ.y.cls index ⟨J, "getClass", "()Ljava/lang/Class;"⟩)) (w2 : Wd Γ (.declares Jvm.Stand.gcN)) (w3 : Wd Γ (.interfaceMethod J "java/lang/Object" "getClass" "()Ljava/lang/Class;")) (w4 : Wd Γ (.selects C ⟨J, "getClass", "()Ljava/lang/Class;"⟩ Jvm.Stand.gcN))
    (w5 : Wd Γ (.instanceMethod Jvm.Stand.gcN)) (w6 : Wd Γ (.publicMethod Jvm.Stand.gcN)) (w7 : Wd Γ (.unhidden C "getClass" "()Ljava/lang/Class;")) (w8 : Wd Γ (.castable C J)) (w9 : Wd Γ (.native Jvm.Stand.gcN)) (hJ : J ≠ "java/lang/invoke/MethodHandle" ∧ J ≠ "java/lang/invoke/VarHandle") (hJo : J ≠ "java/lang/Object")
    (hsz : Ls.length = μ.ml) (hf : 1 ≤ μ.R.frames) (hl : ((st.map fun v => v.category).sum) + (nativeFrameWords "java/lang/Object" "getClass" 1 + 11) ≤ μ.R.locals)
    (hr : Run Γ μ k n O (pc + 5) Ls (.ref mr :: st)) : Run Γ μ k n O pc Ls (.ref a :: st) :=
  R_read (fun p e s m args below meth c T locs vm0 k0 P => by
    obtain ⟨X, hx, hb, hml, hret, hnm, hlk, hown, hS, hk0, hw, hF, I⟩ := P
    have hZ := I.Z
    obtain ⟨cB, kB, i1, i2, i3⟩ := isOf (s := s.setVm vm0) (T := T) hZ rfl (exa_of I hm)
    obtain ⟨cc, kc, m1, m2, m3, -⟩ := M
    have j1 : vm0.findClass C = some cB := i1
    rw [hZ.alike.findClass] at j1
    cases j1.symm.trans m1
    obtain ⟨k', q, ek⟩ := hZ.alike.2.2 _ _ m2
    obtain ⟨vm', X', stp⟩ := X.getClassOfI hx (xi := ⟨J, "getClass", "()Ljava/lang/Class;"⟩) hown (mvT (s := s.setVm vm0) hZ w1) (mvT (s := s.setVm vm0) hZ w2) (Jvm.Free.ULB.iface_rides (s := Γ.Z) (U := s.setVm vm0) hZ.alike w3) (mvT (s := s.setVm vm0) hZ w4) (mvT (s := s.setVm vm0) hZ w5) (mvT (s := s.setVm vm0) hZ w6) (mvT (s := s.setVm vm0) hZ w7) (mvT (s := s.setVm vm0) hZ w8) (mvT (s := s.setVm vm0) hZ w9) hJ hJo rfl rfl i1 q i3 (by rw [ek]; exact m3) (g := mkF m pc Ls.toArray (.ref a :: st)) rfl (by rw [hml]; simpa using hsz) rfl (Jvm.hb hb hd) hf (by show 2 * 0 + _ + _ ≤ _; omega)
    exact ⟨_, X', rfl, stp⟩) hr
end J
end Jvm.Own
namespace Jvm.Own
open Sem ClassFile Op Lib Jvm.Stand Jvm.Free Jvm.LawKit Jvm.RoadKit
/-! ## K. methods with an exception table whose walk throws nothing (a walk that may intern) -/
section K
variable {Γ : Gx} {μ : Mx} {k n : Nat} {O O1 F' : OL} {pc pc' : Nat} {Ls Ls' : List Slot} {st st' rest : List Value} {y z : MethodName} {index : Nat}
variable {bs : ByteArray} {ml : Nat} {ret : Option FieldType} {hs : List (Nat × Nat × Nat × Nat)} {rm : Room} {Q : Option Value → OL → Prop}
/-- as Met, the head word codeWith -/
def MetX (Γ : Gx) (y : MethodName) (bs : ByteArray) (ml : Nat) (ret : Option FieldType) (hs : List (Nat × Nat × Nat × Nat)) (rm : Room) (as : Array Value) (O1 : OL) (Q : Option Value → OL → Prop) : Prop :=
  ∀ (ws : List Jvm.Cond) (F : OL), MetFree Γ.l y (head1 (Jvm.Cond.codeWith y bs ml ret hs :: ws) rm) (fun a U => a = as ∧ Inv Γ U.vm U.heap (O1 ++ F)) (fun _ _ _ _ _ => True)
    (fun _ U o U' => ∃ v L O', o = .returned v ∧ Q v O' ∧ Inv Γ U'.vm U'.heap (O' ++ F) ∧ Fr Γ.Z.heap.size L ∧ EndW Γ.w U o U' L rm.cells rm.slots)
theorem MetX.intro {as : Array Value} (hpn : plainName y.cls = true) (hef : ∀ m, entryFrame m as ml = mkF m 0 Ls.toArray []) (H : ∀ F, Run Γ (y, bs, ml, ret, rm, Q, F) 0 0 O1 0 Ls []) : MetX Γ y bs ml ret hs rm as O1 Q := by
  intro ws F
  refine MetFree.of_bodySF (code := bs) (maxLocals := ml) (ret := ret) (plainFor_of_name hpn) hisWith ?_
  intro p e s m args below meth c s₁ Bd hml0 hP hK
  obtain ⟨rfl, I⟩ := hP
  have X0 : Stand p Γ.l e rm (s.setVm s.vm) m args below meth c s₁ [] 0 0 := Stand.of_body Bd
  have e0 : s₁.heap = s.heap := by rw [Bd.state]; rfl
  rw [hef m]
  exact H F p e s m args below meth c s₁ [] s.vm 0 ⟨X0, Bd.exec, Bd.bytes, hml0, Bd.returns, (name_of_methodNamed Bd.named Bd.method).1, Bd.notSynchronized, findClass_of_methodNamed Bd.named, (State.WarmedH.refl s).since 0, Nat.zero_le _, fun _ => rfl, Fr.nil _, by rw [e0]; exact I⟩
/-- as Met.intro, for one method of a class of which others are the model's own -/
theorem Met.introP {as : Array Value} (hpf : plainFor y = true) (hef : ∀ m, entryFrame m as ml = mkF m 0 Ls.toArray []) (H : ∀ F, Run Γ (y, bs, ml, ret, rm, Q, F) 0 0 O1 0 Ls []) : Met Γ y bs ml ret rm as O1 Q := by
  intro ws F
  refine MetFree.of_bodySF (code := bs) (maxLocals := ml) (ret := ret) hpf hisR ?_
  intro p e s m args below meth c s₁ Bd hml0 hP hK
  obtain ⟨rfl, I⟩ := hP
  have X0 : Stand p Γ.l e rm (s.setVm s.vm) m args below meth c s₁ [] 0 0 := Stand.of_body Bd
  have e0 : s₁.heap = s.heap := by rw [Bd.state]; rfl
  rw [hef m]
  exact H F p e s m args below meth c s₁ [] s.vm 0 ⟨X0, Bd.exec, Bd.bytes, hml0, Bd.returns, (name_of_methodNamed Bd.named Bd.method).1, Bd.notSynchronized, findClass_of_methodNamed Bd.named, (State.WarmedH.refl s).since 0, Nat.zero_le _, fun _ => rfl, Fr.nil _, by rw [e0]; exact I⟩
/-- what the invoked body does to the caller: it comes back, one instruction on -/
theorem payX {as : Array Value} {F : OL} {R : Room} {p : Program} {e : Env} {below : List Frame} {s : State} {args : Array Value} {len W : Nat} (hM : MetX Γ y bs ml ret hs rm as O1 Q) (hw : Γ.w = true) (wc : Wd Γ (.codeWith y bs ml ret hs)) (wz : Wd Γ (.initialized y.cls))
    (hf : rm.frames + 1 ≤ R.frames) (hl : W + (ml + 11) + rm.locals ≤ R.locals) : BackS Γ.l R p e below s args y len W (PreM Γ R rm as O1 F) (PostM Γ rm Q F) := by
  rintro m meth c ⟨U, LL, kc, ks⟩ g ig mk a X rfl hsize hdg hW hn ⟨rfl, I, hc, hsl⟩
  dsimp only [Pt.U, Pt.locs, Pt.cells, Pt.slots] at X hn I hc hsl
  have wcU : (Jvm.Cond.codeWith y bs ml ret hs).before a U = true := mv (s := U) I.Z wc
  obtain ⟨mk', my, cy, n1, n2, n3, -, n5, -⟩ := Cond.codeWith_spec wcU
  cases hn.symm.trans n1
  obtain ⟨ky, hky, -⟩ := className_of_methodNamed hn
  have H0 := X.here
  have hin := Cond.initialized_spec (findClass_of_methodNamed hn) hky (mv (s := U) (args := a) I.Z wz)
  have hpre : (head1 [Jvm.Cond.codeWith y bs ml ret hs] rm).pre.before a U = true := by
    show (Jvm.Cond.and _ .tt).before a U = true
    rw [Cond.before_and, wcU]; rfl
  have happ := Spec.appliesLoose_calling (S := head1 [Jvm.Cond.codeWith y bs ml ret hs] rm) (g := g) H0 hdg hn hky hin (X.room_calling (g := g) (R' := rm) hsize n2 n3 hf (by rw [n5]; omega) hc hsl) hpre
  obtain ⟨mid, hmid⟩ := H0.above
  have hfr : (U.setTop g).frames = (.java g :: mid) ++ below := by rw [State.frames_setTop' g H0.top, hmid]; rfl
  obtain ⟨o, V, hsteps, -, hend, v, L, O', rfl, hQ, I', hF, hE⟩ := Steps.callFree (hM [] F) p X.admits X.cas X.clock (acts := []) hfr happ ⟨rfl, I⟩ trivial
  obtain ⟨-, hW39, hB, e1, q⟩ := hE.1 hw
  have hWU : U.Warmed39 V.vm := hW39
  rw [State.frames_setTop' g H0.top] at hend
  obtain ⟨c2, i2, l2, k1, k2, k3⟩ := hend
  have ec : c2 = c := by
    have r : V.code? g.method = U.code? g.method := by rw [State.code?_eq, State.code?_eq, hWU.alike.method?]
    exact Option.some.inj (k1.symm.trans (r.trans H0.code))
  subst ec
  obtain rfl : l2 = len := by rw [hdg] at k2; cases k2; rfl
  obtain ⟨g0, t0⟩ := Option.isSome_iff_exists.mp H0.top
  obtain ⟨fr, hr⟩ := State.topJava?_eq_some.mp t0
  have eV : V = (({ U with heap := V.heap, slotsUsed := V.slotsUsed } : State).setVm V.vm).setTop { g with pc := g.pc + l2, stack := v.toList ++ g.stack } := by
    have a1 : V = ({ (U.calling g mk a).setFrames V.frames with heap := V.heap, slotsUsed := V.slotsUsed } : State).setVm V.vm := (show V = ({ V with vm := (U.calling g mk a).vm } : State).setVm V.vm from rfl).trans (congrArg (fun z : State => z.setVm V.vm) e1)
    have a2 : (({ U with heap := V.heap, slotsUsed := V.slotsUsed } : State).setVm V.vm).frames = .java g0 :: fr := hr
    refine a1.trans ?_
    rw [k3, State.calling_eq H0.top, State.setFrames_setFrames, State.setTop_of_frames _ a2, hr]
    rfl
  have same : U.sameButNew ({ U with heap := V.heap, slotsUsed := V.slotsUsed } : State) L rm.cells rm.slots := by
    refine ⟨?_, q⟩
    obtain ⟨t, ht, -⟩ := State.frames_cons hr
    show _ = { U.setFrames U.frames with heap := V.heap, slotsUsed := V.slotsUsed }
    rw [State.setFrames_self ht]
  obtain ⟨X', hS⟩ := X.movedW (T₂ := ({ U with heap := V.heap, slotsUsed := V.slotsUsed } : State).setVm V.vm) ((H0.setHeapUsed V.heap V.slotsUsed).setVm hWU.alike) X.tail rfl rfl hWU hB same
  refine ⟨v, ⟨_, LL ++ L, kc + rm.cells, ks + rm.slots⟩, X', hS, same.2.1, ⟨L, O', hQ, I', hF, rfl, rfl, rfl⟩, ?_⟩
  show Steps p.tables e below _ ((({ U with heap := V.heap, slotsUsed := V.slotsUsed } : State).setVm V.vm).setTop { g with pc := g.pc + l2, stack := v.toList ++ g.stack })
  rw [← eV]; exact hsteps
/-- a private method with an exception table, by invokevirtual -/
theorem R_callX {a : Addr} {b : Bool} {φ : Cell → Prop} {as : List Value} (hw : Γ.w = true) (hm : (a, b, φ) ∈ O) (hφ : ∀ c, φ c → ∀ q, c.vm ≠ .statics q) (hd : decode μ.bs pc = .ok (.invokevirtual index, 3)) (w1 : Wd Γ (.methodLink μ.y.cls index y)) (w2 : Wd Γ (.instanceMethod y)) (w3 : Wd Γ (.privateMethod y)) (wc : Wd Γ (.codeWith y bs ml ret hs)) (wz : Wd Γ (.initialized y.cls)) (nf : ∀ (s : State), Γ.Z.Warmed39 s.vm → NotFace s y) (hy : y.cls ≠ "java/lang/invoke/MethodHandle" ∧ y.cls ≠ "java/lang/invoke/VarHandle")
    {ps : List FieldType} {r : Option FieldType} (hp : parseMethodDescriptor y.desc = some ⟨ps, r⟩) (hln : as.length = ps.length) (hsz : Ls.length = μ.ml) (hst : st = as.reverse ++ .ref a :: rest) (hM : MetX Γ y bs ml ret hs rm (.ref a :: as).toArray O1 Q) (hpk : Picks O O1 F')
    (hf : rm.frames + 1 ≤ μ.R.frames) (hl : ((rest.map fun v => v.category).sum) + (ml + 11) + rm.locals ≤ μ.R.locals) (hc : k + rm.cells ≤ μ.R.cells) (hs' : n + rm.slots ≤ μ.R.slots)
    (hr : ∀ v O', Q v O' → Run Γ μ (k + rm.cells) (n + rm.slots) (O' ++ F') (pc + 3) Ls (v.toList ++ rest)) : Run Γ μ k n O pc Ls st := fun p e s m args below meth c T locs vm0 k0 P => by
  subst hst
  obtain ⟨X, hx, hb, hml, hret, hnm, hlk, hown, hS, hk0, hwn, hF, I⟩ := P
  have hZ := I.Z
  have hpriv := Cond.privateMethod_at (mvP (s := s.setVm vm0) hZ w3 (args := #[]))
  have hinst : (Jvm.Cond.instanceMethod y).before args (s.setVm vm0) = true := mvT (s := s.setVm vm0) hZ w2
  obtain ⟨mk, methM, hnamed, hmethM, hstM, habM⟩ := Cond.instanceMethod_spec hinst
  obtain ⟨kP, hkP, hkPi⟩ := nf (s.setVm vm0) hZ mk hnamed
  obtain ⟨mk', methM', cM', hn', hm', -, -, -, -, -, -, hsig⟩ := Cond.codeWith_spec (mvT (s := s.setVm vm0) (args := args) hZ wc)
  cases hnamed.symm.trans hn'
  cases hmethM.symm.trans hm'
  obtain ⟨cell, ec, ef⟩ := I.cell (List.mem_append_left _ hm)
  obtain ⟨vm₁, X₁, step₁⟩ := X.invokevirtual hx hown (mvT (s := s.setVm vm0) hZ w1) hnamed hmethM hstM hkP hkPi hy (a := a) (cell := cell) ec (hφ _ ef) (selectMethod_private hmethM (hpriv mk methM hnamed hmethM)) hmethM habM hkP hkPi (g := mkF m pc Ls.toArray (as.reverse ++ .ref a :: rest)) rfl (argsL := as) (rest := rest) (lenOf hp hln _ hsig) rfl (Jvm.hb hb hd)
  have pre : PreM Γ μ.R rm (.ref a :: as).toArray O1 (F' ++ μ.F) ⟨T.setVm vm₁, locs, k, n⟩ (.ref a :: as).toArray :=
    ⟨rfl, by have I1 := (I.later X₁.warmed).perm (hpk.append_right μ.F); rw [List.append_assoc] at I1; exact I1, hc, hs'⟩
  obtain ⟨v, ⟨U, Lb, kb, nb⟩, X', hS', hg, ⟨L, O', q1, q2, q3, q4, q5, q6⟩, hst⟩ := payX (p := p) (e := e) (below := below) (args := args) (s := s.setVm vm0) (len := 3) hM hw wc wz hf hl (F := F' ++ μ.F) m meth c ⟨T.setVm vm₁, locs, k, n⟩ (mkF m pc Ls.toArray rest) (.invokevirtual index) mk (.ref a :: as).toArray X₁ rfl (by rw [hml]; simpa using hsz) (Jvm.hb hb hd) (by show 2 * 0 + (rest.map fun v => v.category).sum ≤ (rest.map fun v => v.category).sum; omega) (X₁.named hnamed) pre
  dsimp only [Pt.U, Pt.locs, Pt.cells, Pt.slots] at X' hS' hg q2 q4 q5 q6 hst
  subst q4 q5 q6
  refine (hr v O' q1 p e s m args below meth c U _ U.vm U.heap.size ⟨X', hx, hb, hml, hret, hnm, hlk, ?_, hS.trans hS' (Nat.le_trans hk0 hg), Nat.le_refl _, fun q => by rw [hw] at q; (cases q), hF.app q3, ?_⟩).back fun target hrest => step₁ _ fun acts => by rw [doInvoke_state]; exact hst.trans hrest
  · exact (hS'.1.alike.findClass _ _).trans hown
  · rw [List.append_assoc]; exact q2
/-- a class in which some selection lands is no interface -/
theorem nf_tgt {C : String} {x z : MethodName} (w : Wd Γ (.selects C x z)) (hz : z.cls = y.cls) : ∀ (s : State), Γ.Z.Warmed39 s.vm → NotFace s y := fun s hZ r0 h0 => by
  obtain ⟨c2, r2, m2, q1, q2, q3, q4, kP, hkP, hkPi⟩ := Cond.selects_spec (mvT (args := #[]) hZ w)
  have h1 := findClass_of_methodNamed h0
  have h2 := findClass_of_methodNamed q3
  rw [hz, h1] at h2
  have e : r0.cls = m2.cls := Option.some.inj h2
  exact ⟨kP, by rw [e]; exact hkP, hkPi⟩
end K
end Jvm.Own
namespace Jvm.Pilot.@@N@@
open Jvm Jvm.ClassFile Sem Op Lib Jvm.Free Jvm.Stand Jvm.LawKit Jvm.RoadKit Bundle Jvm.Own Jvm.Pilot.@@N@@.Jvm.D
def Words (Γ : Gx) : Prop := ∀ d ∈ tables_1, d.before Γ.a0 Γ.Z = true
def CS (Γ : Gx) : Prop := ∃ g : Int32, Sta Γ.Z Γ.Z.heap "java/lang/String" "COMPACT_STRINGS" "Z" (.int g) ∧ ¬ g = 0
def Lits (Γ : Gx) : Prop := Γ.w = true ∧ Γ.EL = consts_1
theorem atomsW {Γ : Gx} (hw : Words Γ) : ∀ a ∈ Bundle.stringAtoms, Wd Γ a := fun a ha => hw a ((by decide +kernel : ∀ d ∈ Bundle.stringAtoms, d ∈ tables_1) a ha)
theorem el_mem {Γ : Gx} (h : Γ.EL = consts_1) {x : String × Nat} (i : Nat) (hi : consts_1[i]? = some x) : x ∈ Γ.EL := by rw [h]; exact mem i hi
theorem d_jdk_29_method_69_code_0 : decode jdk_29_method_69_code 0 = .ok (.iload_n 0, 1) := by decide +kernel
theorem d_jdk_29_method_69_code_1 : decode jdk_29_method_69_code 1 = .ok (.iload_n 1, 1) := by decide +kernel
theorem d_jdk_29_method_69_code_2 : decode jdk_29_method_69_code 2 = .ok (.if_icmp .gt 7, 3) := by decide +kernel
theorem d_jdk_29_method_69_code_9 : decode jdk_29_method_69_code 9 = .ok (.iload_n 1, 1) := by decide +kernel
theorem d_jdk_29_method_69_code_10 : decode jdk_29_method_69_code 10 = .ok (.ireturn, 1) := by decide +kernel
theorem d_jdk_29_method_69_code_5 : decode jdk_29_method_69_code 5 = .ok (.iload_n 0, 1) := by decide +kernel
theorem d_jdk_29_method_69_code_6 : decode jdk_29_method_69_code 6 = .ok (.goto 4, 3) := by decide +kernel
theorem d_jdk_29_method_65_code_0 : decode jdk_29_method_65_code 0 = .ok (.iload_n 0, 1) := by decide +kernel
theorem d_jdk_29_method_65_code_1 : decode jdk_29_method_65_code 1 = .ok (.iload_n 1, 1) := by decide +kernel
theorem d_jdk_29_method_65_code_2 : decode jdk_29_method_65_code 2 = .ok (.if_icmp .lt 7, 3) := by decide +kernel
theorem d_jdk_29_method_65_code_9 : decode jdk_29_method_65_code 9 = .ok (.iload_n 1, 1) := by decide +kernel
theorem d_jdk_29_method_65_code_10 : decode jdk_29_method_65_code 10 = .ok (.ireturn, 1) := by decide +kernel
theorem d_jdk_29_method_65_code_5 : decode jdk_29_method_65_code 5 = .ok (.iload_n 0, 1) := by decide +kernel
theorem d_jdk_29_method_65_code_6 : decode jdk_29_method_65_code 6 = .ok (.goto 4, 3) := by decide +kernel
theorem d_jdk_29_method_66_code_0 : decode jdk_29_method_66_code 0 = .ok (.lload_n 0, 1) := by decide +kernel
theorem d_jdk_29_method_66_code_1 : decode jdk_29_method_66_code 1 = .ok (.lload_n 2, 1) := by decide +kernel
theorem d_jdk_29_method_66_code_2 : decode jdk_29_method_66_code 2 = .ok (.lcmp, 1) := by decide +kernel
theorem d_jdk_29_method_66_code_3 : decode jdk_29_method_66_code 3 = .ok (.ifCond .lt 7, 3) := by decide +kernel
theorem d_jdk_29_method_66_code_10 : decode jdk_29_method_66_code 10 = .ok (.lload_n 2, 1) := by decide +kernel
theorem d_jdk_29_method_66_code_11 : decode jdk_29_method_66_code 11 = .ok (.lreturn, 1) := by decide +kernel
theorem d_jdk_29_method_66_code_6 : decode jdk_29_method_66_code 6 = .ok (.lload_n 0, 1) := by decide +kernel
theorem d_jdk_29_method_66_code_7 : decode jdk_29_method_66_code 7 = .ok (.goto 4, 3) := by decide +kernel
theorem d_jdk_29_method_70_code_0 : decode jdk_29_method_70_code 0 = .ok (.lload_n 0, 1) := by decide +kernel
theorem d_jdk_29_method_70_code_1 : decode jdk_29_method_70_code 1 = .ok (.lload_n 2, 1) := by decide +kernel
theorem d_jdk_29_method_70_code_2 : decode jdk_29_method_70_code 2 = .ok (.lcmp, 1) := by decide +kernel
theorem d_jdk_29_method_70_code_3 : decode jdk_29_method_70_code 3 = .ok (.ifCond .gt 7, 3) := by decide +kernel
theorem d_jdk_29_method_70_code_10 : decode jdk_29_method_70_code 10 = .ok (.lload_n 2, 1) := by decide +kernel
theorem d_jdk_29_method_70_code_11 : decode jdk_29_method_70_code 11 = .ok (.lreturn, 1) := by decide +kernel
theorem d_jdk_29_method_70_code_6 : decode jdk_29_method_70_code 6 = .ok (.lload_n 0, 1) := by decide +kernel
theorem d_jdk_29_method_70_code_7 : decode jdk_29_method_70_code 7 = .ok (.goto 4, 3) := by decide +kernel
theorem d_jdk_65_method_121_code_0 : decode jdk_65_method_121_code 0 = .ok (.iload_n 1, 1) := by decide +kernel
theorem d_jdk_65_method_121_code_1 : decode jdk_65_method_121_code 1 = .ok (.aload_n 0, 1) := by decide +kernel
theorem d_jdk_65_method_121_code_2 : decode jdk_65_method_121_code 2 = .ok (.arraylength, 1) := by decide +kernel
theorem d_jdk_65_method_121_code_3 : decode jdk_65_method_121_code 3 = .ok (.if_icmp .ne 11, 3) := by decide +kernel
theorem d_jdk_65_method_121_code_14 : decode jdk_65_method_121_code 14 = .ok (.iload_n 1, 1) := by decide +kernel
theorem d_jdk_65_method_121_code_15 : decode jdk_65_method_121_code 15 = .ok (.newarray .byte, 2) := by decide +kernel
theorem d_jdk_65_method_121_code_17 : decode jdk_65_method_121_code 17 = .ok (.astore_n 2, 1) := by decide +kernel
theorem d_jdk_65_method_121_code_18 : decode jdk_65_method_121_code 18 = .ok (.aload_n 0, 1) := by decide +kernel
theorem d_jdk_65_method_121_code_19 : decode jdk_65_method_121_code 19 = .ok (.iconst 0, 1) := by decide +kernel
theorem d_jdk_65_method_121_code_20 : decode jdk_65_method_121_code 20 = .ok (.aload_n 2, 1) := by decide +kernel
theorem d_jdk_65_method_121_code_21 : decode jdk_65_method_121_code 21 = .ok (.iconst 0, 1) := by decide +kernel
theorem d_jdk_65_method_121_code_22 : decode jdk_65_method_121_code 22 = .ok (.aload_n 0, 1) := by decide +kernel
theorem d_jdk_65_method_121_code_23 : decode jdk_65_method_121_code 23 = .ok (.arraylength, 1) := by decide +kernel
theorem d_jdk_65_method_121_code_24 : decode jdk_65_method_121_code 24 = .ok (.iload_n 1, 1) := by decide +kernel
theorem d_jdk_65_method_121_code_25 : decode jdk_65_method_121_code 25 = .ok (.invokestatic 304, 3) := by decide +kernel
theorem pd_oIIcI : parseMethodDescriptor "(II)I" = some ⟨[.int, .int], some .int⟩ := by decide +kernel
theorem d_jdk_65_method_121_code_28 : decode jdk_65_method_121_code 28 = .ok (.invokestatic 150, 3) := by decide +kernel
theorem d_jdk_65_method_121_code_31 : decode jdk_65_method_121_code 31 = .ok (.aload_n 2, 1) := by decide +kernel
theorem d_jdk_65_method_121_code_32 : decode jdk_65_method_121_code 32 = .ok (.areturn, 1) := by decide +kernel
theorem d_jdk_65_method_121_code_6 : decode jdk_65_method_121_code 6 = .ok (.aload_n 0, 1) := by decide +kernel
theorem d_jdk_65_method_121_code_7 : decode jdk_65_method_121_code 7 = .ok (.invokevirtual 310, 3) := by decide +kernel
theorem d_jdk_65_method_121_code_10 : decode jdk_65_method_121_code 10 = .ok (.checkcast 311, 3) := by decide +kernel
theorem d_jdk_65_method_121_code_13 : decode jdk_65_method_121_code 13 = .ok (.areturn, 1) := by decide +kernel
theorem pn_java_util_Arrays : plainName "java/util/Arrays" = true := by first | (simp [plainName, overriddenIn]; done) | decide +kernel
theorem d_prog_3_method_1_code_0 : decode prog_3_method_1_code 0 = .ok (.aload_n 0, 1) := by decide +kernel
theorem d_prog_3_method_1_code_1 : decode prog_3_method_1_code 1 = .ok (.invokespecial 1, 3) := by decide +kernel
theorem d_prog_3_method_1_code_4 : decode prog_3_method_1_code 4 = .ok (.aload_n 0, 1) := by decide +kernel
theorem d_prog_3_method_1_code_5 : decode prog_3_method_1_code 5 = .ok (.sipush 4096, 3) := by decide +kernel
theorem d_prog_3_method_1_code_8 : decode prog_3_method_1_code 8 = .ok (.newarray .byte, 2) := by decide +kernel
theorem d_prog_3_method_1_code_10 : decode prog_3_method_1_code 10 = .ok (.putfield 9, 3) := by decide +kernel
theorem d_prog_3_method_1_code_13 : decode prog_3_method_1_code 13 = .ok (.aload_n 0, 1) := by decide +kernel
theorem d_prog_3_method_1_code_14 : decode prog_3_method_1_code 14 = .ok (.sipush 3072, 3) := by decide +kernel
theorem d_prog_3_method_1_code_17 : decode prog_3_method_1_code 17 = .ok (.newarray .byte, 2) := by decide +kernel
theorem d_prog_3_method_1_code_19 : decode prog_3_method_1_code 19 = .ok (.putfield 13, 3) := by decide +kernel
theorem d_prog_3_method_1_code_22 : decode prog_3_method_1_code 22 = .ok (.aload_n 0, 1) := by decide +kernel
theorem d_prog_3_method_1_code_23 : decode prog_3_method_1_code 23 = .ok (.iconst 0, 1) := by decide +kernel
theorem d_prog_3_method_1_code_24 : decode prog_3_method_1_code 24 = .ok (.newarray .byte, 2) := by decide +kernel
theorem d_prog_3_method_1_code_26 : decode prog_3_method_1_code 26 = .ok (.putfield 16, 3) := by decide +kernel
theorem d_prog_3_method_1_code_29 : decode prog_3_method_1_code 29 = .ok (.aload_n 0, 1) := by decide +kernel
theorem d_prog_3_method_1_code_30 : decode prog_3_method_1_code 30 = .ok (.iload_n 1, 1) := by decide +kernel
theorem d_prog_3_method_1_code_31 : decode prog_3_method_1_code 31 = .ok (.putfield 19, 3) := by decide +kernel
theorem d_prog_3_method_1_code_34 : decode prog_3_method_1_code 34 = .ok (.return_, 1) := by decide +kernel
theorem pn_com_example_delta_mirror_deltamirror_rrdp_Base64Binary : plainName "com/example/delta_mirror/deltamirror/rrdp/Base64Binary" = true := by first | (simp [plainName, overriddenIn]; done) | decide +kernel
theorem d_prog_3_method_2_code_20 : decode prog_3_method_2_code 20 = .ok (.iload 7, 2) := by decide +kernel
theorem d_prog_3_method_2_code_22 : decode prog_3_method_2_code 22 = .ok (.iload 6, 2) := by decide +kernel
theorem d_prog_3_method_2_code_24 : decode prog_3_method_2_code 24 = .ok (.if_icmp .ge 99, 3) := by decide +kernel
theorem d_prog_3_method_2_code_123 : decode prog_3_method_2_code 123 = .ok (.aload_n 0, 1) := by decide +kernel
theorem d_prog_3_method_2_code_124 : decode prog_3_method_2_code 124 = .ok (.iload 5, 2) := by decide +kernel
theorem d_prog_3_method_2_code_126 : decode prog_3_method_2_code 126 = .ok (.putfield 23, 3) := by decide +kernel
theorem d_prog_3_method_2_code_129 : decode prog_3_method_2_code 129 = .ok (.return_, 1) := by decide +kernel
theorem d_prog_3_method_2_code_27 : decode prog_3_method_2_code 27 = .ok (.aload_n 1, 1) := by decide +kernel
theorem d_prog_3_method_2_code_28 : decode prog_3_method_2_code 28 = .ok (.iload 7, 2) := by decide +kernel
theorem d_prog_3_method_2_code_30 : decode prog_3_method_2_code 30 = .ok (.caload, 1) := by decide +kernel
theorem d_prog_3_method_2_code_31 : decode prog_3_method_2_code 31 = .ok (.istore 8, 2) := by decide +kernel
theorem d_prog_3_method_2_code_33 : decode prog_3_method_2_code 33 = .ok (.iload 8, 2) := by decide +kernel
theorem d_prog_3_method_2_code_35 : decode prog_3_method_2_code 35 = .ok (.bipush 127, 2) := by decide +kernel
theorem d_prog_3_method_2_code_37 : decode prog_3_method_2_code 37 = .ok (.if_icmp .le 13, 3) := by decide +kernel
theorem d_prog_3_method_2_code_50 : decode prog_3_method_2_code 50 = .ok (.iload 8, 2) := by decide +kernel
theorem d_prog_3_method_2_code_52 : decode prog_3_method_2_code 52 = .ok (.bipush 32, 2) := by decide +kernel
theorem d_prog_3_method_2_code_54 : decode prog_3_method_2_code 54 = .ok (.if_icmp .gt 31, 3) := by decide +kernel
theorem d_prog_3_method_2_code_85 : decode prog_3_method_2_code 85 = .ok (.iload 5, 2) := by decide +kernel
theorem d_prog_3_method_2_code_87 : decode prog_3_method_2_code 87 = .ok (.sipush 4096, 3) := by decide +kernel
theorem d_prog_3_method_2_code_90 : decode prog_3_method_2_code 90 = .ok (.if_icmp .ne 16, 3) := by decide +kernel
theorem d_prog_3_method_2_code_106 : decode prog_3_method_2_code 106 = .ok (.aload 4, 2) := by decide +kernel
theorem d_prog_3_method_2_code_108 : decode prog_3_method_2_code 108 = .ok (.iload 5, 2) := by decide +kernel
theorem d_prog_3_method_2_code_110 : decode prog_3_method_2_code 110 = .ok (.iinc 5 1, 3) := by decide +kernel
theorem d_prog_3_method_2_code_113 : decode prog_3_method_2_code 113 = .ok (.iload 8, 2) := by decide +kernel
theorem d_prog_3_method_2_code_115 : decode prog_3_method_2_code 115 = .ok (.i2b, 1) := by decide +kernel
theorem d_prog_3_method_2_code_116 : decode prog_3_method_2_code 116 = .ok (.bastore, 1) := by decide +kernel
theorem d_prog_3_method_2_code_117 : decode prog_3_method_2_code 117 = .ok (.iinc 7 1, 3) := by decide +kernel
theorem d_prog_3_method_2_code_120 : decode prog_3_method_2_code 120 = .ok (.goto (-100), 3) := by decide +kernel
theorem d_prog_3_method_2_code_57 : decode prog_3_method_2_code 57 = .ok (.iload 8, 2) := by decide +kernel
theorem d_prog_3_method_2_code_59 : decode prog_3_method_2_code 59 = .ok (.bipush 32, 2) := by decide +kernel
theorem d_prog_3_method_2_code_61 : decode prog_3_method_2_code 61 = .ok (.if_icmp .eq 56, 3) := by decide +kernel
theorem d_prog_3_method_2_code_64 : decode prog_3_method_2_code 64 = .ok (.iload 8, 2) := by decide +kernel
theorem d_prog_3_method_2_code_66 : decode prog_3_method_2_code 66 = .ok (.bipush 9, 2) := by decide +kernel
theorem d_prog_3_method_2_code_68 : decode prog_3_method_2_code 68 = .ok (.if_icmp .eq 49, 3) := by decide +kernel
theorem d_prog_3_method_2_code_71 : decode prog_3_method_2_code 71 = .ok (.iload 8, 2) := by decide +kernel
theorem d_prog_3_method_2_code_73 : decode prog_3_method_2_code 73 = .ok (.bipush 10, 2) := by decide +kernel
theorem d_prog_3_method_2_code_75 : decode prog_3_method_2_code 75 = .ok (.if_icmp .eq 42, 3) := by decide +kernel
theorem d_prog_3_method_2_code_78 : decode prog_3_method_2_code 78 = .ok (.iload 8, 2) := by decide +kernel
theorem d_prog_3_method_2_code_80 : decode prog_3_method_2_code 80 = .ok (.bipush 13, 2) := by decide +kernel
theorem d_prog_3_method_2_code_82 : decode prog_3_method_2_code 82 = .ok (.if_icmp .eq 35, 3) := by decide +kernel
theorem d_prog_3_method_2_code_0 : decode prog_3_method_2_code 0 = .ok (.aload_n 0, 1) := by decide +kernel
theorem d_prog_3_method_2_code_1 : decode prog_3_method_2_code 1 = .ok (.getfield 9, 3) := by decide +kernel
theorem d_prog_3_method_2_code_4 : decode prog_3_method_2_code 4 = .ok (.astore 4, 2) := by decide +kernel
theorem d_prog_3_method_2_code_6 : decode prog_3_method_2_code 6 = .ok (.aload_n 0, 1) := by decide +kernel
theorem d_prog_3_method_2_code_7 : decode prog_3_method_2_code 7 = .ok (.getfield 23, 3) := by decide +kernel
theorem d_prog_3_method_2_code_10 : decode prog_3_method_2_code 10 = .ok (.istore 5, 2) := by decide +kernel
theorem d_prog_3_method_2_code_12 : decode prog_3_method_2_code 12 = .ok (.iload_n 2, 1) := by decide +kernel
theorem d_prog_3_method_2_code_13 : decode prog_3_method_2_code 13 = .ok (.iload_n 3, 1) := by decide +kernel
theorem d_prog_3_method_2_code_14 : decode prog_3_method_2_code 14 = .ok (.iadd, 1) := by decide +kernel
theorem d_prog_3_method_2_code_15 : decode prog_3_method_2_code 15 = .ok (.istore 6, 2) := by decide +kernel
theorem d_prog_3_method_2_code_17 : decode prog_3_method_2_code 17 = .ok (.iload_n 2, 1) := by decide +kernel
theorem d_prog_3_method_2_code_18 : decode prog_3_method_2_code 18 = .ok (.istore 7, 2) := by decide +kernel
theorem d_jdk_42_method_154_code_0 : decode jdk_42_method_154_code 0 = .ok (.getstatic 38, 3) := by decide +kernel
theorem d_jdk_42_method_154_code_3 : decode jdk_42_method_154_code 3 = .ok (.ifCond .eq 14, 3) := by decide +kernel
theorem d_jdk_42_method_154_code_6 : decode jdk_42_method_154_code 6 = .ok (.aload_n 0, 1) := by decide +kernel
theorem d_jdk_42_method_154_code_7 : decode jdk_42_method_154_code 7 = .ok (.getfield 15, 3) := by decide +kernel
theorem d_jdk_42_method_154_code_10 : decode jdk_42_method_154_code 10 = .ok (.ifCond .ne 7, 3) := by decide +kernel
theorem d_jdk_42_method_154_code_13 : decode jdk_42_method_154_code 13 = .ok (.iconst 1, 1) := by decide +kernel
theorem d_jdk_42_method_154_code_14 : decode jdk_42_method_154_code 14 = .ok (.goto 4, 3) := by decide +kernel
theorem d_jdk_42_method_154_code_18 : decode jdk_42_method_154_code 18 = .ok (.ireturn, 1) := by decide +kernel
theorem pn_java_lang_String : plainName "java/lang/String" = true := by first | (simp [plainName, overriddenIn]; done) | decide +kernel
theorem d_jdk_42_method_152_code_0 : decode jdk_42_method_152_code 0 = .ok (.getstatic 38, 3) := by decide +kernel
theorem d_jdk_42_method_152_code_3 : decode jdk_42_method_152_code 3 = .ok (.ifCond .eq 10, 3) := by decide +kernel
theorem d_jdk_42_method_152_code_6 : decode jdk_42_method_152_code 6 = .ok (.aload_n 0, 1) := by decide +kernel
theorem d_jdk_42_method_152_code_7 : decode jdk_42_method_152_code 7 = .ok (.getfield 15, 3) := by decide +kernel
theorem d_jdk_42_method_152_code_10 : decode jdk_42_method_152_code 10 = .ok (.goto 4, 3) := by decide +kernel
theorem d_jdk_42_method_152_code_14 : decode jdk_42_method_152_code 14 = .ok (.ireturn, 1) := by decide +kernel
theorem d_jdk_42_method_54_code_0 : decode jdk_42_method_54_code 0 = .ok (.aload_n 0, 1) := by decide +kernel
theorem d_jdk_42_method_54_code_1 : decode jdk_42_method_54_code 1 = .ok (.getfield 9, 3) := by decide +kernel
theorem d_jdk_42_method_54_code_4 : decode jdk_42_method_54_code 4 = .ok (.arraylength, 1) := by decide +kernel
theorem d_jdk_42_method_54_code_5 : decode jdk_42_method_54_code 5 = .ok (.aload_n 0, 1) := by decide +kernel
theorem d_jdk_42_method_54_code_6 : decode jdk_42_method_54_code 6 = .ok (.invokevirtual 335, 3) := by decide +kernel
theorem pd_ocB : parseMethodDescriptor "()B" = some ⟨[], some .byte⟩ := by decide +kernel
theorem d_jdk_42_method_54_code_9 : decode jdk_42_method_54_code 9 = .ok (.ishr, 1) := by decide +kernel
theorem d_jdk_42_method_54_code_10 : decode jdk_42_method_54_code 10 = .ok (.ireturn, 1) := by decide +kernel
theorem d_jdk_43_method_4_code_0 : decode jdk_43_method_4_code 0 = .ok (.iload_n 0, 1) := by decide +kernel
theorem d_jdk_43_method_4_code_1 : decode jdk_43_method_4_code 1 = .ok (.ifCond .lt 14, 3) := by decide +kernel
theorem d_jdk_43_method_4_code_4 : decode jdk_43_method_4_code 4 = .ok (.iload_n 0, 1) := by decide +kernel
theorem d_jdk_43_method_4_code_5 : decode jdk_43_method_4_code 5 = .ok (.sipush 255, 3) := by decide +kernel
theorem d_jdk_43_method_4_code_8 : decode jdk_43_method_4_code 8 = .ok (.if_icmp .gt 7, 3) := by decide +kernel
theorem d_jdk_43_method_4_code_11 : decode jdk_43_method_4_code 11 = .ok (.iconst 1, 1) := by decide +kernel
theorem d_jdk_43_method_4_code_12 : decode jdk_43_method_4_code 12 = .ok (.goto 4, 3) := by decide +kernel
theorem d_jdk_43_method_4_code_16 : decode jdk_43_method_4_code 16 = .ok (.ireturn, 1) := by decide +kernel
theorem pn_java_lang_StringLatin1 : plainName "java/lang/StringLatin1" = true := by first | (simp [plainName, overriddenIn]; done) | decide +kernel
theorem d_jdk_43_method_23_code_7 : decode jdk_43_method_23_code 7 = .ok (.iload 5, 2) := by decide +kernel
theorem d_jdk_43_method_23_code_9 : decode jdk_43_method_23_code 9 = .ok (.iload_n 3, 1) := by decide +kernel
theorem d_jdk_43_method_23_code_10 : decode jdk_43_method_23_code 10 = .ok (.if_icmp .ge 21, 3) := by decide +kernel
theorem d_jdk_43_method_23_code_13 : decode jdk_43_method_23_code 13 = .ok (.aload_n 0, 1) := by decide +kernel
theorem d_jdk_43_method_23_code_14 : decode jdk_43_method_23_code 14 = .ok (.iload 5, 2) := by decide +kernel
theorem d_jdk_43_method_23_code_16 : decode jdk_43_method_23_code 16 = .ok (.baload, 1) := by decide +kernel
theorem d_jdk_43_method_23_code_17 : decode jdk_43_method_23_code 17 = .ok (.iload 4, 2) := by decide +kernel
theorem d_jdk_43_method_23_code_19 : decode jdk_43_method_23_code 19 = .ok (.if_icmp .ne 6, 3) := by decide +kernel
theorem d_jdk_43_method_23_code_25 : decode jdk_43_method_23_code 25 = .ok (.iinc 5 1, 3) := by decide +kernel
theorem d_jdk_43_method_23_code_28 : decode jdk_43_method_23_code 28 = .ok (.goto (-21), 3) := by decide +kernel
theorem d_jdk_43_method_23_code_22 : decode jdk_43_method_23_code 22 = .ok (.iload 5, 2) := by decide +kernel
theorem d_jdk_43_method_23_code_24 : decode jdk_43_method_23_code 24 = .ok (.ireturn, 1) := by decide +kernel
theorem d_jdk_43_method_23_code_0 : decode jdk_43_method_23_code 0 = .ok (.iload_n 1, 1) := by decide +kernel
theorem d_jdk_43_method_23_code_1 : decode jdk_43_method_23_code 1 = .ok (.i2b, 1) := by decide +kernel
theorem d_jdk_43_method_23_code_2 : decode jdk_43_method_23_code 2 = .ok (.istore 4, 2) := by decide +kernel
theorem d_jdk_43_method_23_code_4 : decode jdk_43_method_23_code 4 = .ok (.iload_n 2, 1) := by decide +kernel
theorem d_jdk_43_method_23_code_5 : decode jdk_43_method_23_code 5 = .ok (.istore 5, 2) := by decide +kernel
theorem d_jdk_43_method_22_code_0 : decode jdk_43_method_22_code 0 = .ok (.iload_n 1, 1) := by decide +kernel
theorem d_jdk_43_method_22_code_1 : decode jdk_43_method_22_code 1 = .ok (.invokestatic 88, 3) := by decide +kernel
theorem pd_oIcZ : parseMethodDescriptor "(I)Z" = some ⟨[.int], some .boolean⟩ := by decide +kernel
theorem d_jdk_43_method_22_code_4 : decode jdk_43_method_22_code 4 = .ok (.ifCond .ne 5, 3) := by decide +kernel
theorem d_jdk_43_method_22_code_9 : decode jdk_43_method_22_code 9 = .ok (.iload_n 2, 1) := by decide +kernel
theorem d_jdk_43_method_22_code_10 : decode jdk_43_method_22_code 10 = .ok (.iconst 0, 1) := by decide +kernel
theorem d_jdk_43_method_22_code_11 : decode jdk_43_method_22_code 11 = .ok (.invokestatic 92, 3) := by decide +kernel
theorem d_jdk_43_method_22_code_14 : decode jdk_43_method_22_code 14 = .ok (.istore_n 2, 1) := by decide +kernel
theorem d_jdk_43_method_22_code_15 : decode jdk_43_method_22_code 15 = .ok (.iload_n 3, 1) := by decide +kernel
theorem d_jdk_43_method_22_code_16 : decode jdk_43_method_22_code 16 = .ok (.aload_n 0, 1) := by decide +kernel
theorem d_jdk_43_method_22_code_17 : decode jdk_43_method_22_code 17 = .ok (.arraylength, 1) := by decide +kernel
theorem d_jdk_43_method_22_code_18 : decode jdk_43_method_22_code 18 = .ok (.invokestatic 38, 3) := by decide +kernel
theorem d_jdk_43_method_22_code_21 : decode jdk_43_method_22_code 21 = .ok (.istore_n 3, 1) := by decide +kernel
theorem d_jdk_43_method_22_code_22 : decode jdk_43_method_22_code 22 = .ok (.iload_n 2, 1) := by decide +kernel
theorem d_jdk_43_method_22_code_23 : decode jdk_43_method_22_code 23 = .ok (.iload_n 3, 1) := by decide +kernel
theorem d_jdk_43_method_22_code_24 : decode jdk_43_method_22_code 24 = .ok (.if_icmp .lt 5, 3) := by decide +kernel
theorem d_jdk_43_method_22_code_29 : decode jdk_43_method_22_code 29 = .ok (.aload_n 0, 1) := by decide +kernel
theorem d_jdk_43_method_22_code_30 : decode jdk_43_method_22_code 30 = .ok (.iload_n 1, 1) := by decide +kernel
theorem d_jdk_43_method_22_code_31 : decode jdk_43_method_22_code 31 = .ok (.iload_n 2, 1) := by decide +kernel
theorem d_jdk_43_method_22_code_32 : decode jdk_43_method_22_code 32 = .ok (.iload_n 3, 1) := by decide +kernel
theorem d_jdk_43_method_22_code_33 : decode jdk_43_method_22_code 33 = .ok (.invokestatic 95, 3) := by decide +kernel
theorem pd_oaBIIIcI : parseMethodDescriptor "([BIII)I" = some ⟨[(.array .byte), .int, .int, .int], some .int⟩ := by decide +kernel
theorem d_jdk_43_method_22_code_36 : decode jdk_43_method_22_code 36 = .ok (.ireturn, 1) := by decide +kernel
theorem d_jdk_42_method_80_code_0 : decode jdk_42_method_80_code 0 = .ok (.aload_n 0, 1) := by decide +kernel
theorem d_jdk_42_method_80_code_1 : decode jdk_42_method_80_code 1 = .ok (.invokevirtual 492, 3) := by decide +kernel
theorem pd_ocZ : parseMethodDescriptor "()Z" = some ⟨[], some .boolean⟩ := by decide +kernel
theorem d_jdk_42_method_80_code_4 : decode jdk_42_method_80_code 4 = .ok (.ifCond .eq 19, 3) := by decide +kernel
theorem d_jdk_42_method_80_code_7 : decode jdk_42_method_80_code 7 = .ok (.aload_n 0, 1) := by decide +kernel
theorem d_jdk_42_method_80_code_8 : decode jdk_42_method_80_code 8 = .ok (.getfield 9, 3) := by decide +kernel
theorem d_jdk_42_method_80_code_11 : decode jdk_42_method_80_code 11 = .ok (.iload_n 1, 1) := by decide +kernel
theorem d_jdk_42_method_80_code_12 : decode jdk_42_method_80_code 12 = .ok (.iload_n 2, 1) := by decide +kernel
theorem d_jdk_42_method_80_code_13 : decode jdk_42_method_80_code 13 = .ok (.aload_n 0, 1) := by decide +kernel
theorem d_jdk_42_method_80_code_14 : decode jdk_42_method_80_code 14 = .ok (.invokevirtual 505, 3) := by decide +kernel
theorem pd_ocI : parseMethodDescriptor "()I" = some ⟨[], some .int⟩ := by decide +kernel
theorem d_jdk_42_method_80_code_17 : decode jdk_42_method_80_code 17 = .ok (.invokestatic 637, 3) := by decide +kernel
theorem d_jdk_42_method_80_code_20 : decode jdk_42_method_80_code 20 = .ok (.goto 16, 3) := by decide +kernel
theorem d_jdk_42_method_80_code_36 : decode jdk_42_method_80_code 36 = .ok (.ireturn, 1) := by decide +kernel
theorem d_jdk_42_method_79_code_0 : decode jdk_42_method_79_code 0 = .ok (.aload_n 0, 1) := by decide +kernel
theorem d_jdk_42_method_79_code_1 : decode jdk_42_method_79_code 1 = .ok (.iload_n 1, 1) := by decide +kernel
theorem d_jdk_42_method_79_code_2 : decode jdk_42_method_79_code 2 = .ok (.iconst 0, 1) := by decide +kernel
theorem d_jdk_42_method_79_code_3 : decode jdk_42_method_79_code 3 = .ok (.invokevirtual 633, 3) := by decide +kernel
theorem d_jdk_42_method_79_code_6 : decode jdk_42_method_79_code 6 = .ok (.ireturn, 1) := by decide +kernel
theorem d_prog_3_method_6_code_0 : decode prog_3_method_6_code 0 = .ok (.aload_n 0, 1) := by decide +kernel
theorem d_prog_3_method_6_code_1 : decode prog_3_method_6_code 1 = .ok (.getfield 23, 3) := by decide +kernel
theorem d_prog_3_method_6_code_4 : decode prog_3_method_6_code 4 = .ok (.iconst 4, 1) := by decide +kernel
theorem d_prog_3_method_6_code_5 : decode prog_3_method_6_code 5 = .ok (.irem, 1) := by decide +kernel
theorem d_prog_3_method_6_code_6 : decode prog_3_method_6_code 6 = .ok (.ifCond .eq 8, 3) := by decide +kernel
theorem d_prog_3_method_6_code_14 : decode prog_3_method_6_code 14 = .ok (.aload_n 0, 1) := by decide +kernel
theorem d_prog_3_method_6_code_15 : decode prog_3_method_6_code 15 = .ok (.getfield 23, 3) := by decide +kernel
theorem d_prog_3_method_6_code_18 : decode prog_3_method_6_code 18 = .ok (.ifCond .le 63, 3) := by decide +kernel
theorem d_prog_3_method_6_code_81 : decode prog_3_method_6_code 81 = .ok (.aload_n 0, 1) := by decide +kernel
theorem d_prog_3_method_6_code_82 : decode prog_3_method_6_code 82 = .ok (.getfield 23, 3) := by decide +kernel
theorem d_prog_3_method_6_code_85 : decode prog_3_method_6_code 85 = .ok (.ifCond .le 47, 3) := by decide +kernel
theorem d_prog_3_method_6_code_132 : decode prog_3_method_6_code 132 = .ok (.iconst 1, 1) := by decide +kernel
theorem d_prog_3_method_6_code_133 : decode prog_3_method_6_code 133 = .ok (.istore_n 1, 1) := by decide +kernel
theorem d_prog_3_method_6_code_134 : decode prog_3_method_6_code 134 = .ok (.iload_n 1, 1) := by decide +kernel
theorem d_prog_3_method_6_code_135 : decode prog_3_method_6_code 135 = .ok (.ireturn, 1) := by decide +kernel
theorem d_prog_3_method_6_code_21 : decode prog_3_method_6_code 21 = .ok (.aload_n 0, 1) := by decide +kernel
theorem d_prog_3_method_6_code_22 : decode prog_3_method_6_code 22 = .ok (.getfield 9, 3) := by decide +kernel
theorem d_prog_3_method_6_code_25 : decode prog_3_method_6_code 25 = .ok (.aload_n 0, 1) := by decide +kernel
theorem d_prog_3_method_6_code_26 : decode prog_3_method_6_code 26 = .ok (.getfield 23, 3) := by decide +kernel
theorem d_prog_3_method_6_code_29 : decode prog_3_method_6_code 29 = .ok (.iconst 1, 1) := by decide +kernel
theorem d_prog_3_method_6_code_30 : decode prog_3_method_6_code 30 = .ok (.isub, 1) := by decide +kernel
theorem d_prog_3_method_6_code_31 : decode prog_3_method_6_code 31 = .ok (.baload, 1) := by decide +kernel
theorem d_prog_3_method_6_code_32 : decode prog_3_method_6_code 32 = .ok (.bipush 61, 2) := by decide +kernel
theorem d_prog_3_method_6_code_34 : decode prog_3_method_6_code 34 = .ok (.if_icmp .ne 47, 3) := by decide +kernel
theorem d_prog_3_method_6_code_88 : decode prog_3_method_6_code 88 = .ok (.aload_n 0, 1) := by decide +kernel
theorem d_prog_3_method_6_code_89 : decode prog_3_method_6_code 89 = .ok (.getfield 9, 3) := by decide +kernel
theorem d_prog_3_method_6_code_92 : decode prog_3_method_6_code 92 = .ok (.aload_n 0, 1) := by decide +kernel
theorem d_prog_3_method_6_code_93 : decode prog_3_method_6_code 93 = .ok (.getfield 23, 3) := by decide +kernel
theorem d_prog_3_method_6_code_96 : decode prog_3_method_6_code 96 = .ok (.iconst 1, 1) := by decide +kernel
theorem d_prog_3_method_6_code_97 : decode prog_3_method_6_code 97 = .ok (.isub, 1) := by decide +kernel
theorem d_prog_3_method_6_code_98 : decode prog_3_method_6_code 98 = .ok (.baload, 1) := by decide +kernel
theorem d_prog_3_method_6_code_99 : decode prog_3_method_6_code 99 = .ok (.bipush 61, 2) := by decide +kernel
theorem d_prog_3_method_6_code_101 : decode prog_3_method_6_code 101 = .ok (.if_icmp .ne 31, 3) := by decide +kernel
theorem d_prog_3_method_6_code_37 : decode prog_3_method_6_code 37 = .ok (.aload_n 0, 1) := by decide +kernel
theorem d_prog_3_method_6_code_38 : decode prog_3_method_6_code 38 = .ok (.getfield 9, 3) := by decide +kernel
theorem d_prog_3_method_6_code_41 : decode prog_3_method_6_code 41 = .ok (.aload_n 0, 1) := by decide +kernel
theorem d_prog_3_method_6_code_42 : decode prog_3_method_6_code 42 = .ok (.getfield 23, 3) := by decide +kernel
theorem d_prog_3_method_6_code_45 : decode prog_3_method_6_code 45 = .ok (.iconst 2, 1) := by decide +kernel
theorem d_prog_3_method_6_code_46 : decode prog_3_method_6_code 46 = .ok (.isub, 1) := by decide +kernel
theorem d_prog_3_method_6_code_47 : decode prog_3_method_6_code 47 = .ok (.baload, 1) := by decide +kernel
theorem d_prog_3_method_6_code_48 : decode prog_3_method_6_code 48 = .ok (.bipush 61, 2) := by decide +kernel
theorem d_prog_3_method_6_code_50 : decode prog_3_method_6_code 50 = .ok (.if_icmp .ne 31, 3) := by decide +kernel
theorem d_prog_3_method_6_code_104 : decode prog_3_method_6_code 104 = .ok (.ldc 116, 2) := by decide +kernel
theorem d_prog_3_method_6_code_106 : decode prog_3_method_6_code 106 = .ok (.aload_n 0, 1) := by decide +kernel
theorem d_prog_3_method_6_code_107 : decode prog_3_method_6_code 107 = .ok (.getfield 9, 3) := by decide +kernel
theorem d_prog_3_method_6_code_110 : decode prog_3_method_6_code 110 = .ok (.aload_n 0, 1) := by decide +kernel
theorem d_prog_3_method_6_code_111 : decode prog_3_method_6_code 111 = .ok (.getfield 23, 3) := by decide +kernel
theorem d_prog_3_method_6_code_114 : decode prog_3_method_6_code 114 = .ok (.iconst 2, 1) := by decide +kernel
theorem d_prog_3_method_6_code_115 : decode prog_3_method_6_code 115 = .ok (.isub, 1) := by decide +kernel
theorem d_prog_3_method_6_code_116 : decode prog_3_method_6_code 116 = .ok (.baload, 1) := by decide +kernel
theorem d_prog_3_method_6_code_117 : decode prog_3_method_6_code 117 = .ok (.invokevirtual 112, 3) := by decide +kernel
theorem pd_oIcI : parseMethodDescriptor "(I)I" = some ⟨[.int], some .int⟩ := by decide +kernel
theorem d_prog_3_method_6_code_120 : decode prog_3_method_6_code 120 = .ok (.ifCond .lt 7, 3) := by decide +kernel
theorem d_prog_3_method_6_code_123 : decode prog_3_method_6_code 123 = .ok (.iconst 1, 1) := by decide +kernel
theorem d_prog_3_method_6_code_124 : decode prog_3_method_6_code 124 = .ok (.goto 4, 3) := by decide +kernel
theorem d_prog_3_method_6_code_128 : decode prog_3_method_6_code 128 = .ok (.istore_n 1, 1) := by decide +kernel
theorem d_prog_3_method_6_code_129 : decode prog_3_method_6_code 129 = .ok (.goto 5, 3) := by decide +kernel
theorem d_prog_3_method_6_code_53 : decode prog_3_method_6_code 53 = .ok (.ldc 110, 2) := by decide +kernel
theorem d_prog_3_method_6_code_55 : decode prog_3_method_6_code 55 = .ok (.aload_n 0, 1) := by decide +kernel
theorem d_prog_3_method_6_code_56 : decode prog_3_method_6_code 56 = .ok (.getfield 9, 3) := by decide +kernel
theorem d_prog_3_method_6_code_59 : decode prog_3_method_6_code 59 = .ok (.aload_n 0, 1) := by decide +kernel
theorem d_prog_3_method_6_code_60 : decode prog_3_method_6_code 60 = .ok (.getfield 23, 3) := by decide +kernel
theorem d_prog_3_method_6_code_63 : decode prog_3_method_6_code 63 = .ok (.iconst 3, 1) := by decide +kernel
theorem d_prog_3_method_6_code_64 : decode prog_3_method_6_code 64 = .ok (.isub, 1) := by decide +kernel
theorem d_prog_3_method_6_code_65 : decode prog_3_method_6_code 65 = .ok (.baload, 1) := by decide +kernel
theorem d_prog_3_method_6_code_66 : decode prog_3_method_6_code 66 = .ok (.invokevirtual 112, 3) := by decide +kernel
theorem d_prog_3_method_6_code_69 : decode prog_3_method_6_code 69 = .ok (.ifCond .lt 7, 3) := by decide +kernel
theorem d_prog_3_method_6_code_72 : decode prog_3_method_6_code 72 = .ok (.iconst 1, 1) := by decide +kernel
theorem d_prog_3_method_6_code_73 : decode prog_3_method_6_code 73 = .ok (.goto 4, 3) := by decide +kernel
theorem d_prog_3_method_6_code_77 : decode prog_3_method_6_code 77 = .ok (.istore_n 1, 1) := by decide +kernel
theorem d_prog_3_method_6_code_78 : decode prog_3_method_6_code 78 = .ok (.goto 56, 3) := by decide +kernel
theorem d_jdk_2450_method_7_code_0 : decode jdk_2450_method_7_code 0 = .ok (.aload_n 0, 1) := by decide +kernel
theorem d_jdk_2450_method_7_code_1 : decode jdk_2450_method_7_code 1 = .ok (.getfield 7, 3) := by decide +kernel
theorem d_jdk_2450_method_7_code_4 : decode jdk_2450_method_7_code 4 = .ok (.ifCond .eq 9, 3) := by decide +kernel
theorem d_jdk_2450_method_7_code_13 : decode jdk_2450_method_7_code 13 = .ok (.getstatic 99, 3) := by decide +kernel
theorem d_jdk_2450_method_7_code_16 : decode jdk_2450_method_7_code 16 = .ok (.astore 4, 2) := by decide +kernel
theorem d_jdk_2450_method_7_code_18 : decode jdk_2450_method_7_code 18 = .ok (.iconst 0, 1) := by decide +kernel
theorem d_jdk_2450_method_7_code_19 : decode jdk_2450_method_7_code 19 = .ok (.istore 5, 2) := by decide +kernel
theorem d_jdk_2450_method_7_code_21 : decode jdk_2450_method_7_code 21 = .ok (.iload_n 3, 1) := by decide +kernel
theorem d_jdk_2450_method_7_code_22 : decode jdk_2450_method_7_code 22 = .ok (.iload_n 2, 1) := by decide +kernel
theorem d_jdk_2450_method_7_code_23 : decode jdk_2450_method_7_code 23 = .ok (.isub, 1) := by decide +kernel
theorem d_jdk_2450_method_7_code_24 : decode jdk_2450_method_7_code 24 = .ok (.istore 6, 2) := by decide +kernel
theorem d_jdk_2450_method_7_code_26 : decode jdk_2450_method_7_code 26 = .ok (.iload 6, 2) := by decide +kernel
theorem d_jdk_2450_method_7_code_28 : decode jdk_2450_method_7_code 28 = .ok (.ifCond .ne 5, 3) := by decide +kernel
theorem d_jdk_2450_method_7_code_31 : decode jdk_2450_method_7_code 31 = .ok (.iconst 0, 1) := by decide +kernel
theorem d_jdk_2450_method_7_code_32 : decode jdk_2450_method_7_code 32 = .ok (.ireturn, 1) := by decide +kernel
theorem d_jdk_2450_method_7_code_33 : decode jdk_2450_method_7_code 33 = .ok (.iload 6, 2) := by decide +kernel
theorem d_jdk_2450_method_7_code_35 : decode jdk_2450_method_7_code 35 = .ok (.iconst 2, 1) := by decide +kernel
theorem d_jdk_2450_method_7_code_36 : decode jdk_2450_method_7_code 36 = .ok (.if_icmp .ge 30, 3) := by decide +kernel
theorem d_jdk_2450_method_7_code_66 : decode jdk_2450_method_7_code 66 = .ok (.aload_n 0, 1) := by decide +kernel
theorem d_jdk_2450_method_7_code_67 : decode jdk_2450_method_7_code 67 = .ok (.getfield 13, 3) := by decide +kernel
theorem d_jdk_2450_method_7_code_70 : decode jdk_2450_method_7_code 70 = .ok (.ifCond .eq 71, 3) := by decide +kernel
theorem d_jdk_2450_method_7_code_141 : decode jdk_2450_method_7_code 141 = .ok (.aload_n 1, 1) := by decide +kernel
theorem d_jdk_2450_method_7_code_142 : decode jdk_2450_method_7_code 142 = .ok (.iload_n 3, 1) := by decide +kernel
theorem d_jdk_2450_method_7_code_143 : decode jdk_2450_method_7_code 143 = .ok (.iconst 1, 1) := by decide +kernel
theorem d_jdk_2450_method_7_code_144 : decode jdk_2450_method_7_code 144 = .ok (.isub, 1) := by decide +kernel
theorem d_jdk_2450_method_7_code_145 : decode jdk_2450_method_7_code 145 = .ok (.baload, 1) := by decide +kernel
theorem d_jdk_2450_method_7_code_146 : decode jdk_2450_method_7_code 146 = .ok (.bipush 61, 2) := by decide +kernel
theorem d_jdk_2450_method_7_code_148 : decode jdk_2450_method_7_code 148 = .ok (.if_icmp .ne 19, 3) := by decide +kernel
theorem d_jdk_2450_method_7_code_167 : decode jdk_2450_method_7_code 167 = .ok (.iload 5, 2) := by decide +kernel
theorem d_jdk_2450_method_7_code_169 : decode jdk_2450_method_7_code 169 = .ok (.ifCond .ne 18, 3) := by decide +kernel
theorem d_jdk_2450_method_7_code_172 : decode jdk_2450_method_7_code 172 = .ok (.iload 6, 2) := by decide +kernel
theorem d_jdk_2450_method_7_code_174 : decode jdk_2450_method_7_code 174 = .ok (.iconst 3, 1) := by decide +kernel
theorem d_jdk_2450_method_7_code_175 : decode jdk_2450_method_7_code 175 = .ok (.iand, 1) := by decide +kernel
theorem d_jdk_2450_method_7_code_176 : decode jdk_2450_method_7_code 176 = .ok (.ifCond .eq 11, 3) := by decide +kernel
theorem d_jdk_2450_method_7_code_187 : decode jdk_2450_method_7_code 187 = .ok (.iconst 3, 1) := by decide +kernel
theorem d_jdk_2450_method_7_code_188 : decode jdk_2450_method_7_code 188 = .ok (.iload 6, 2) := by decide +kernel
theorem d_jdk_2450_method_7_code_190 : decode jdk_2450_method_7_code 190 = .ok (.i2l, 1) := by decide +kernel
theorem d_jdk_2450_method_7_code_191 : decode jdk_2450_method_7_code 191 = .ok (.ldc2_w 107, 3) := by decide +kernel
theorem d_jdk_2450_method_7_code_194 : decode jdk_2450_method_7_code 194 = .ok (.ladd, 1) := by decide +kernel
theorem d_jdk_2450_method_7_code_195 : decode jdk_2450_method_7_code 195 = .ok (.ldc2_w 109, 3) := by decide +kernel
theorem d_jdk_2450_method_7_code_198 : decode jdk_2450_method_7_code 198 = .ok (.ldiv, 1) := by decide +kernel
theorem d_jdk_2450_method_7_code_199 : decode jdk_2450_method_7_code 199 = .ok (.l2i, 1) := by decide +kernel
theorem d_jdk_2450_method_7_code_200 : decode jdk_2450_method_7_code 200 = .ok (.imul, 1) := by decide +kernel
theorem d_jdk_2450_method_7_code_201 : decode jdk_2450_method_7_code 201 = .ok (.iload 5, 2) := by decide +kernel
theorem d_jdk_2450_method_7_code_203 : decode jdk_2450_method_7_code 203 = .ok (.isub, 1) := by decide +kernel
theorem d_jdk_2450_method_7_code_204 : decode jdk_2450_method_7_code 204 = .ok (.ireturn, 1) := by decide +kernel
theorem d_jdk_2450_method_7_code_151 : decode jdk_2450_method_7_code 151 = .ok (.iinc 5 1, 3) := by decide +kernel
theorem d_jdk_2450_method_7_code_154 : decode jdk_2450_method_7_code 154 = .ok (.aload_n 1, 1) := by decide +kernel
theorem d_jdk_2450_method_7_code_155 : decode jdk_2450_method_7_code 155 = .ok (.iload_n 3, 1) := by decide +kernel
theorem d_jdk_2450_method_7_code_156 : decode jdk_2450_method_7_code 156 = .ok (.iconst 2, 1) := by decide +kernel
theorem d_jdk_2450_method_7_code_157 : decode jdk_2450_method_7_code 157 = .ok (.isub, 1) := by decide +kernel
theorem d_jdk_2450_method_7_code_158 : decode jdk_2450_method_7_code 158 = .ok (.baload, 1) := by decide +kernel
theorem d_jdk_2450_method_7_code_159 : decode jdk_2450_method_7_code 159 = .ok (.bipush 61, 2) := by decide +kernel
theorem d_jdk_2450_method_7_code_161 : decode jdk_2450_method_7_code 161 = .ok (.if_icmp .ne 6, 3) := by decide +kernel
theorem d_jdk_2450_method_7_code_164 : decode jdk_2450_method_7_code 164 = .ok (.iinc 5 1, 3) := by decide +kernel
theorem pn_java_util_Base64_Decoder : plainName "java/util/Base64$Decoder" = true := by first | (simp [plainName, overriddenIn]; done) | decide +kernel
abbrev bi (b : Bool) : Int32 := cond b 1 0
/-- a char that is no whitespace -/
def nws (c : Int32) : Bool := decide (32 < c ∨ (¬ c = 32 ∧ ¬ c = 9 ∧ ¬ c = 10 ∧ ¬ c = 13))
abbrev A7 (c : Int32) : Prop := ¬ c < 0 ∧ ¬ (127 : Int32) < c
theorem fin7 {r : Int32} (h : A7 r) : ∃ a : Fin 128, r = Int32.ofNat a.val := by
  have e1 : (127 : Int32).toInt = 127 := rfl
  have e0 : (0 : Int32).toInt = 0 := rfl
  obtain ⟨g0, g1⟩ := h
  rw [Int32.lt_iff_toInt_lt] at g0 g1
  refine ⟨⟨r.toInt.toNat, by omega⟩, ?_⟩
  rw [← Int32.toInt_inj]
  show _ = (r.toInt.toNat.toInt32).toInt
  rw [len_toInt (by omega)]; omega
theorem b7 {c : Int32} (h : A7 c) : c.toInt8.toInt32.toInt8.toInt32 = c := by
  obtain ⟨a, rfl⟩ := fin7 h
  exact (by decide +kernel : ∀ a : Fin 128, (Int32.ofNat a.val).toInt8.toInt32.toInt8.toInt32 = Int32.ofNat a.val) a
theorem run_set (cs : List Int32) (c : Int32) (x : Value) (X : List Value) : (cs.map Value.int ++ x :: X).set cs.length (.int c) = (cs ++ [c]).map Value.int ++ X := by
  have e : (cs.map Value.int).length = cs.length := by simp
  rw [List.set_append_right _ _ (by omega), e, Nat.sub_self, List.set_cons_zero]
  simp
theorem i32_add (a b : Nat) : a.toInt32 + b.toInt32 = (a + b).toInt32 := (Int32.ofNat_add a b).symm
theorem i32_sub {a b : Nat} (h : b ≤ a) : a.toInt32 - b.toInt32 = (a - b).toInt32 := by
  have := i32_add (a - b) b
  rw [Nat.sub_add_cancel h] at this
  rw [← this]; simp
abbrev BBO (Γ : Gx) (rn rb de : Addr) (mx rl dl : Int32) : Cell → Prop := Obj Γ "com/example/delta_mirror/deltamirror/rrdp/Base64Binary" [("com/example/delta_mirror/deltamirror/rrdp/Base64Binary", "run", "[B", .ref rn), ("com/example/delta_mirror/deltamirror/rrdp/Base64Binary", "runBytes", "[B", .ref rb), ("com/example/delta_mirror/deltamirror/rrdp/Base64Binary", "decoded", "[B", .ref de), ("com/example/delta_mirror/deltamirror/rrdp/Base64Binary", "maxBytes", "I", .int mx), ("com/example/delta_mirror/deltamirror/rrdp/Base64Binary", "runLength", "I", .int rl), ("com/example/delta_mirror/deltamirror/rrdp/Base64Binary", "decodedLength", "I", .int dl)]
abbrev BA (Γ : Gx) (vs : List Value) : Cell → Prop := Ary Γ "[B" .byte vs
set_option maxRecDepth 65536 in
set_option maxHeartbeats 4000000 in
theorem M_min {Γ : Gx} (hw : Words Γ) (a b : Nat) (ha : a < 2 ^ 31) (hb : b < 2 ^ 31) :
    Met Γ (⟨"java/lang/Math", "min", "(II)I"⟩ : MethodName) jdk_29_method_69_code 2 (some .int) ({ frames := 0, cells := 0, slots := 0, locals := 0 } : Room) #[(.int a.toInt32), (.int b.toInt32)] [] (fun v O' => v = some (.int (min a b).toInt32) ∧ O' = []) := by
  refine Met.introP (show plainFor (⟨"java/lang/Math", "min", "(II)I"⟩ : MethodName) = true from by decide +kernel) (Ls := [.val (.int a.toInt32), .val (.int b.toInt32)]) (fun m => by first | rfl | (simp [entryFrame, mkF, argsToLocals, Value.category]; done)) ?_
  intro F
  refine R_iloadN d_jdk_29_method_69_code_0 rfl ?_
  refine R_iloadN d_jdk_29_method_69_code_1 rfl ?_
  refine R_icmp_gt (pc' := 9) d_jdk_29_method_69_code_2 (by decide) (by decide) (fun h => ?_) (fun h => ?_)
  · refine R_iloadN d_jdk_29_method_69_code_9 rfl ?_
    exact R_ireturn d_jdk_29_method_69_code_10 rfl ⟨by rw [Nat.min_eq_right (by have := (i32_lt_iff hb ha).mp h; omega)], rfl⟩ (Nat.le_of_ble_eq_true rfl) (Nat.le_of_ble_eq_true rfl)
  · refine R_iloadN d_jdk_29_method_69_code_5 rfl ?_
    refine R_goto (pc' := 10) d_jdk_29_method_69_code_6 (by decide) (by decide) ?_
    exact R_ireturn d_jdk_29_method_69_code_10 rfl ⟨by rw [Nat.min_eq_left (by have := mt (i32_lt_iff hb ha).mpr h; omega)], rfl⟩ (Nat.le_of_ble_eq_true rfl) (Nat.le_of_ble_eq_true rfl)

set_option maxRecDepth 65536 in
set_option maxHeartbeats 4000000 in
theorem M_max {Γ : Gx} (hw : Words Γ) (a b : Nat) (ha : a < 2 ^ 31) (hb : b < 2 ^ 31) :
    Met Γ (⟨"java/lang/Math", "max", "(II)I"⟩ : MethodName) jdk_29_method_65_code 2 (some .int) ({ frames := 0, cells := 0, slots := 0, locals := 0 } : Room) #[(.int a.toInt32), (.int b.toInt32)] [] (fun v O' => v = some (.int (max a b).toInt32) ∧ O' = []) := by
  refine Met.introP (show plainFor (⟨"java/lang/Math", "max", "(II)I"⟩ : MethodName) = true from by decide +kernel) (Ls := [.val (.int a.toInt32), .val (.int b.toInt32)]) (fun m => by first | rfl | (simp [entryFrame, mkF, argsToLocals, Value.category]; done)) ?_
  intro F
  refine R_iloadN d_jdk_29_method_65_code_0 rfl ?_
  refine R_iloadN d_jdk_29_method_65_code_1 rfl ?_
  refine R_icmp_lt (pc' := 9) d_jdk_29_method_65_code_2 (by decide) (by decide) (fun h => ?_) (fun h => ?_)
  · refine R_iloadN d_jdk_29_method_65_code_9 rfl ?_
    exact R_ireturn d_jdk_29_method_65_code_10 rfl ⟨by rw [Nat.max_eq_right (by have := (i32_lt_iff ha hb).mp h; omega)], rfl⟩ (Nat.le_of_ble_eq_true rfl) (Nat.le_of_ble_eq_true rfl)
  · refine R_iloadN d_jdk_29_method_65_code_5 rfl ?_
    refine R_goto (pc' := 10) d_jdk_29_method_65_code_6 (by decide) (by decide) ?_
    exact R_ireturn d_jdk_29_method_65_code_10 rfl ⟨by rw [Nat.max_eq_left (by have := mt (i32_lt_iff ha hb).mpr h; omega)], rfl⟩ (Nat.le_of_ble_eq_true rfl) (Nat.le_of_ble_eq_true rfl)

theorem i64_lt_iff {a b : Nat} (ha : a < 2 ^ 63) (hb : b < 2 ^ 63) : Int64.ofNat a < Int64.ofNat b ↔ a < b := by
  rw [Int64.lt_iff_toInt_lt, Int64.toInt_ofNat_of_lt ha, Int64.toInt_ofNat_of_lt hb]; omega
set_option maxRecDepth 65536 in
set_option maxHeartbeats 4000000 in
theorem M_maxJ {Γ : Gx} (hw : Words Γ) (a b : Nat) (ha : a < 2 ^ 31) (hb : b < 2 ^ 31) :
    Met Γ (⟨"java/lang/Math", "max", "(JJ)J"⟩ : MethodName) jdk_29_method_66_code 4 (some .long) ({ frames := 0, cells := 0, slots := 0, locals := 0 } : Room) #[(.long (Int64.ofNat a)), (.long (Int64.ofNat b))] [] (fun v O' => v = some (.long (Int64.ofNat (max a b))) ∧ O' = []) := by
  refine Met.introP (show plainFor (⟨"java/lang/Math", "max", "(JJ)J"⟩ : MethodName) = true from by decide +kernel) (Ls := [.val (.long (Int64.ofNat a)), .second, .val (.long (Int64.ofNat b)), .second]) (fun m => by first | rfl | (simp [entryFrame, mkF, argsToLocals, Value.category]; done)) ?_
  intro F
  refine R_lloadN d_jdk_29_method_66_code_0 rfl ?_
  refine R_lloadN d_jdk_29_method_66_code_1 rfl ?_
  refine R_lcmp d_jdk_29_method_66_code_2 ?_
  refine R_lcmp_lt (pc' := 10) d_jdk_29_method_66_code_3 (by decide) (by decide) (fun h => ?_) (fun h => ?_)
  · refine R_lloadN d_jdk_29_method_66_code_10 rfl ?_
    exact R_lreturn d_jdk_29_method_66_code_11 rfl ⟨by rw [Nat.max_eq_right (by have := (i64_lt_iff (by omega) (by omega)).mp h; omega)], rfl⟩ (Nat.le_of_ble_eq_true rfl) (Nat.le_of_ble_eq_true rfl)
  · refine R_lloadN d_jdk_29_method_66_code_6 rfl ?_
    refine R_goto (pc' := 11) d_jdk_29_method_66_code_7 (by decide) (by decide) ?_
    exact R_lreturn d_jdk_29_method_66_code_11 rfl ⟨by rw [Nat.max_eq_left (by have := mt (i64_lt_iff (by omega) (by omega)).mpr h; omega)], rfl⟩ (Nat.le_of_ble_eq_true rfl) (Nat.le_of_ble_eq_true rfl)

set_option maxRecDepth 65536 in
set_option maxHeartbeats 4000000 in
theorem M_minJ {Γ : Gx} (hw : Words Γ) (a b : Nat) (ha : a < 2 ^ 31) (hb : b < 2 ^ 31) :
    Met Γ (⟨"java/lang/Math", "min", "(JJ)J"⟩ : MethodName) jdk_29_method_70_code 4 (some .long) ({ frames := 0, cells := 0, slots := 0, locals := 0 } : Room) #[(.long (Int64.ofNat a)), (.long (Int64.ofNat b))] [] (fun v O' => v = some (.long (Int64.ofNat (min a b))) ∧ O' = []) := by
  refine Met.introP (show plainFor (⟨"java/lang/Math", "min", "(JJ)J"⟩ : MethodName) = true from by decide +kernel) (Ls := [.val (.long (Int64.ofNat a)), .second, .val (.long (Int64.ofNat b)), .second]) (fun m => by first | rfl | (simp [entryFrame, mkF, argsToLocals, Value.category]; done)) ?_
  intro F
  refine R_lloadN d_jdk_29_method_70_code_0 rfl ?_
  refine R_lloadN d_jdk_29_method_70_code_1 rfl ?_
  refine R_lcmp d_jdk_29_method_70_code_2 ?_
  refine R_lcmp_gt (pc' := 10) d_jdk_29_method_70_code_3 (by decide) (by decide) (fun h => ?_) (fun h => ?_)
  · refine R_lloadN d_jdk_29_method_70_code_10 rfl ?_
    exact R_lreturn d_jdk_29_method_70_code_11 rfl ⟨by rw [Nat.min_eq_right (by have := (i64_lt_iff (by omega) (by omega)).mp h; omega)], rfl⟩ (Nat.le_of_ble_eq_true rfl) (Nat.le_of_ble_eq_true rfl)
  · refine R_lloadN d_jdk_29_method_70_code_6 rfl ?_
    refine R_goto (pc' := 11) d_jdk_29_method_70_code_7 (by decide) (by decide) ?_
    exact R_lreturn d_jdk_29_method_70_code_11 rfl ⟨by rw [Nat.min_eq_left (by have := mt (i64_lt_iff (by omega) (by omega)).mpr h; omega)], rfl⟩ (Nat.le_of_ble_eq_true rfl) (Nat.le_of_ble_eq_true rfl)

/-- what Arrays.copyOf makes of bytes -/
def cpB (vs : List Value) (n : Nat) : List Value := vs.take n ++ List.replicate (n - vs.length) (.int 0)
theorem cpB_self (vs : List Value) : cpB vs vs.length = vs := by simp [cpB]
theorem cpB_len (vs : List Value) (n : Nat) : (cpB vs n).length = n := by simp [cpB]; omega
theorem cpB_eq (vs : List Value) (n : Nat) : List.take 0 (List.replicate n (Value.int 0)) ++ List.take (min vs.length n) (List.drop 0 vs) ++ List.drop (0 + min vs.length n) (List.replicate n (Value.int 0)) = cpB vs n := by
  simp only [cpB, List.take_zero, List.nil_append, List.drop_zero, Nat.zero_add, List.drop_replicate]
  rcases Nat.le_total vs.length n with q | q
  · rw [Nat.min_eq_left q, List.take_of_length_le (Nat.le_refl _), List.take_of_length_le q]
  · rw [Nat.min_eq_right q, Nat.sub_self, Nat.sub_eq_zero_of_le q]
set_option maxRecDepth 65536 in
set_option maxHeartbeats 4000000 in
theorem M_cpB {Γ : Gx} (hw : Words Γ) (ar : Addr) (b : Bool) (vs : List Value) (n : Nat) (hn : n ≤ 24) :
    Met Γ (⟨"java/util/Arrays", "copyOf", "([BI)[B"⟩ : MethodName) jdk_65_method_121_code 3 (some (.array .byte)) ({ frames := 1, cells := 1, slots := 24, locals := 40 } : Room) #[(.ref ar), (.int n.toInt32)] [(ar, b, BA Γ vs)] (fun v O' => ∃ na, v = some (.ref na) ∧ O' = [(na, true, BA Γ (cpB vs n)), (ar, b, BA Γ vs)]) := by
  refine Met.intro pn_java_util_Arrays (Ls := [.val (.ref ar), .val (.int n.toInt32), .unset]) (fun m => by first | rfl | (simp [entryFrame, mkF, argsToLocals, Value.category]; done)) ?_
  intro F
  refine R_alen (mem 0 rfl) fun hl => ?_
  refine R_iloadN d_jdk_65_method_121_code_0 rfl ?_
  refine R_aloadN d_jdk_65_method_121_code_1 rfl rfl ?_
  refine R_arraylength d_jdk_65_method_121_code_2 (mem 0 rfl) vs.length.toInt32 rfl ?_
  refine R_icmp_ne (pc' := 14) d_jdk_65_method_121_code_3 (by decide) (by decide) (fun h => ?_) (fun h => ?_)
  · refine R_iloadN d_jdk_65_method_121_code_14 rfl ?_
    refine R_newarray (ad := "[B") (List.replicate n (Value.int 0)) 24 d_jdk_65_method_121_code_15 (hw _ (mem 31 rfl)) rfl (i32_nn (by omega)) (by rw [i32_cl (by omega)]; rfl) (by rw [i32_cl (by omega)]; exact hn) (by decide) (Nat.le_of_ble_eq_true rfl) (Nat.le_of_ble_eq_true rfl) fun na => ?_
    refine R_astoreN d_jdk_65_method_121_code_17 rfl rfl (by first | exact Or.inl rfl | exact Or.inr ⟨_, rfl, rfl⟩) ?_
    try dsimp only [List.set_cons_zero, List.set_cons_succ, List.eraseIdx_cons_zero, List.eraseIdx_cons_succ, List.cons_append, List.nil_append, Option.toList]
    refine R_aloadN d_jdk_65_method_121_code_18 rfl rfl ?_
    refine R_iconst (0) d_jdk_65_method_121_code_19 (by decide) ?_
    refine R_aloadN d_jdk_65_method_121_code_20 rfl rfl ?_
    refine R_iconst (0) d_jdk_65_method_121_code_21 (by decide) ?_
    refine R_aloadN d_jdk_65_method_121_code_22 rfl rfl ?_
    refine R_arraylength d_jdk_65_method_121_code_23 (mem 1 rfl) vs.length.toInt32 rfl ?_
    refine R_iloadN d_jdk_65_method_121_code_24 rfl ?_
    refine R_call (S_static (as := [_, _]) (rest := _) d_jdk_65_method_121_code_25 (hw _ (mem 111 rfl)) (hw _ (mem 7 rfl)) (hw _ (mem 8 rfl)) (hw _ (mem 9 rfl)) (by decide) pd_oIIcI rfl rfl rfl) (M_min hw vs.length n hl (by omega)) pk0 (hw _ (mem 9 rfl)) (hw _ (mem 8 rfl)) (Nat.le_of_ble_eq_true rfl) (Nat.le_of_ble_eq_true rfl) (Nat.le_of_ble_eq_true rfl) (Nat.le_of_ble_eq_true rfl) ?_
    rintro _ _ ⟨rfl, rfl⟩
    try dsimp only [List.set_cons_zero, List.set_cons_succ, List.eraseIdx_cons_zero, List.eraseIdx_cons_succ, List.cons_append, List.nil_append, Option.toList]
    refine R_arraycopy (us := (List.take (min vs.length n) (List.drop 0 vs))) 0 d_jdk_65_method_121_code_28 (hw _ (mem 112 rfl)) (hw _ (mem 115 rfl)) (hw _ (mem 113 rfl)) (hw _ (mem 114 rfl)) (mem 1 rfl) rfl 0 0 (min vs.length n) (by decide) (by decide) (i32_nn (by omega)) rfl rfl (i32_cl (by omega)) (by omega) (by rw [List.length_replicate]; omega) rfl (Or.inl ⟨rfl, rfl⟩) rfl (Nat.le_of_ble_eq_true rfl) (Nat.le_of_ble_eq_true rfl) ?_
    try dsimp only [List.set_cons_zero, List.set_cons_succ, List.eraseIdx_cons_zero, List.eraseIdx_cons_succ, List.cons_append, List.nil_append, Option.toList]
    rw [cpB_eq]
    refine R_aloadN d_jdk_65_method_121_code_31 rfl rfl ?_
    exact R_areturn d_jdk_65_method_121_code_32 rfl rfl rfl ⟨na, rfl, rfl⟩ (Nat.le_of_ble_eq_true rfl) (Nat.le_of_ble_eq_true rfl)
  · refine R_aloadN d_jdk_65_method_121_code_6 rfl rfl ?_
    obtain rfl : n = vs.length := (i32_eq_iff (by omega) hl).mp h
    refine R_cloneA 24 d_jdk_65_method_121_code_7 (mem 0 rfl) (by decide) (hw _ (mem 151 rfl)) (hw _ (mem 152 rfl)) (hw _ (mem 156 rfl)) (hw _ (mem 154 rfl)) (hw _ (mem 155 rfl)) (hw _ (mem 157 rfl)) rfl (Nat.le_of_ble_eq_true rfl) (Nat.le_of_ble_eq_true rfl) hn (Nat.le_of_ble_eq_true rfl) (Nat.le_of_ble_eq_true rfl) fun na => ?_
    refine R_checkcastASelf d_jdk_65_method_121_code_10 (hw _ (mem 158 rfl)) (mem 0 rfl) (by decide) ?_
    exact R_areturn d_jdk_65_method_121_code_13 rfl rfl rfl ⟨na, rfl, by rw [cpB_self]⟩ (Nat.le_of_ble_eq_true rfl) (Nat.le_of_ble_eq_true rfl)

set_option maxRecDepth 65536 in
set_option maxHeartbeats 4000000 in
theorem M_bb {Γ : Gx} (hw : Words Γ) (o : Addr) (mx : Int32) :
    Met Γ (⟨"com/example/delta_mirror/deltamirror/rrdp/Base64Binary", "<init>", "(I)V"⟩ : MethodName) prog_3_method_1_code 2 none ({ frames := 1, cells := 3, slots := 7168, locals := 12 } : Room) #[(.ref o), (.int mx)] [(o, true, Obj Γ "com/example/delta_mirror/deltamirror/rrdp/Base64Binary" [("com/example/delta_mirror/deltamirror/rrdp/Base64Binary", "run", "[B", .null), ("com/example/delta_mirror/deltamirror/rrdp/Base64Binary", "runBytes", "[B", .null), ("com/example/delta_mirror/deltamirror/rrdp/Base64Binary", "decoded", "[B", .null), ("com/example/delta_mirror/deltamirror/rrdp/Base64Binary", "maxBytes", "I", .int 0), ("com/example/delta_mirror/deltamirror/rrdp/Base64Binary", "runLength", "I", .int 0), ("com/example/delta_mirror/deltamirror/rrdp/Base64Binary", "decodedLength", "I", .int 0)])] (fun v O' => ∃ rn rb de, v = none ∧ O' = [(o, true, BBO Γ rn rb de mx 0 0), (rn, true, BA Γ (([] : List Int32).map Value.int ++ List.replicate 4096 (Value.int 0))), (rb, true, BA Γ (List.replicate 3072 (Value.int 0))), (de, true, BA Γ (List.replicate 0 (Value.int 0)))]) := by
  refine Met.intro pn_com_example_delta_mirror_deltamirror_rrdp_Base64Binary (Ls := [.val (.ref o), .val (.int mx)]) (fun m => by first | rfl | (simp [entryFrame, mkF, argsToLocals, Value.category]; done)) ?_
  intro F
  refine R_aloadN d_prog_3_method_1_code_0 rfl rfl ?_
  refine R_initO d_prog_3_method_1_code_1 (hw _ (mem 28 rfl)) (hw _ (mem 29 rfl)) (hw _ (mem 30 rfl)) rfl (Nat.le_of_ble_eq_true rfl) (Nat.le_of_ble_eq_true rfl) ?_
  refine R_aloadN d_prog_3_method_1_code_4 rfl rfl ?_
  refine R_sipush (4096) d_prog_3_method_1_code_5 (by decide) ?_
  refine R_newarray (ad := "[B") (List.replicate 4096 (Value.int 0)) 4096 d_prog_3_method_1_code_8 (hw _ (mem 31 rfl)) rfl (by decide) (congrArg (fun z => List.replicate z (Value.int 0)) (show (4096 : Int32).toNatClampNeg = 4096 from by decide)) (by decide) (by decide) (Nat.le_of_ble_eq_true rfl) (Nat.le_of_ble_eq_true rfl) fun rn => ?_
  refine R_putfield 1 0 d_prog_3_method_1_code_10 (hw _ (mem 32 rfl)) Via.refl rfl rfl rfl (Or.inr ⟨(hw _ (mem 33 rfl)), rfl, rfl⟩) (hw _ (mem 23 rfl)) (ty := (.array .byte)) (by decide) _ rfl rfl ?_
  try dsimp only [List.set_cons_zero, List.set_cons_succ, List.eraseIdx_cons_zero, List.eraseIdx_cons_succ, List.cons_append, List.nil_append, Option.toList]
  refine R_aloadN d_prog_3_method_1_code_13 rfl rfl ?_
  refine R_sipush (3072) d_prog_3_method_1_code_14 (by decide) ?_
  refine R_newarray (ad := "[B") (List.replicate 3072 (Value.int 0)) 3072 d_prog_3_method_1_code_17 (hw _ (mem 31 rfl)) rfl (by decide) (congrArg (fun z => List.replicate z (Value.int 0)) (show (3072 : Int32).toNatClampNeg = 3072 from by decide)) (by decide) (by decide) (Nat.le_of_ble_eq_true rfl) (Nat.le_of_ble_eq_true rfl) fun rb => ?_
  refine R_putfield 2 1 d_prog_3_method_1_code_19 (hw _ (mem 34 rfl)) Via.refl rfl rfl rfl (Or.inr ⟨(hw _ (mem 35 rfl)), rfl, rfl⟩) (hw _ (mem 23 rfl)) (ty := (.array .byte)) (by decide) _ rfl rfl ?_
  try dsimp only [List.set_cons_zero, List.set_cons_succ, List.eraseIdx_cons_zero, List.eraseIdx_cons_succ, List.cons_append, List.nil_append, Option.toList]
  refine R_aloadN d_prog_3_method_1_code_22 rfl rfl ?_
  refine R_iconst (0) d_prog_3_method_1_code_23 (by decide) ?_
  refine R_newarray (ad := "[B") (List.replicate 0 (Value.int 0)) 0 d_prog_3_method_1_code_24 (hw _ (mem 31 rfl)) rfl (by decide) (congrArg (fun z => List.replicate z (Value.int 0)) (show (0 : Int32).toNatClampNeg = 0 from by decide)) (by decide) (by decide) (Nat.le_of_ble_eq_true rfl) (Nat.le_of_ble_eq_true rfl) fun de => ?_
  refine R_putfield 3 2 d_prog_3_method_1_code_26 (hw _ (mem 36 rfl)) Via.refl rfl rfl rfl (Or.inl (hw _ (mem 37 rfl))) (hw _ (mem 23 rfl)) (ty := (.array .byte)) (by decide) _ rfl rfl ?_
  try dsimp only [List.set_cons_zero, List.set_cons_succ, List.eraseIdx_cons_zero, List.eraseIdx_cons_succ, List.cons_append, List.nil_append, Option.toList]
  refine R_aloadN d_prog_3_method_1_code_29 rfl rfl ?_
  refine R_iloadN d_prog_3_method_1_code_30 rfl ?_
  refine R_putfield 3 3 d_prog_3_method_1_code_31 (hw _ (mem 38 rfl)) Via.refl rfl rfl rfl (Or.inr ⟨(hw _ (mem 39 rfl)), rfl, rfl⟩) (hw _ (mem 23 rfl)) (ty := .int) (by decide) _ rfl rfl ?_
  try dsimp only [List.set_cons_zero, List.set_cons_succ, List.eraseIdx_cons_zero, List.eraseIdx_cons_succ, List.cons_append, List.nil_append, Option.toList]
  refine R_order (pkS 3 rfl (pkS 2 rfl (pkS 1 rfl (pkS 0 rfl pk0)))) ?_
  try dsimp only [List.set_cons_zero, List.set_cons_succ, List.eraseIdx_cons_zero, List.eraseIdx_cons_succ, List.cons_append, List.nil_append, Option.toList]
  exact R_return d_prog_3_method_1_code_34 rfl ⟨rn, rb, de, rfl, rfl⟩ (Nat.le_of_ble_eq_true rfl) (Nat.le_of_ble_eq_true rfl)

abbrev mx_app (Γ : Gx) (o rn rb de ta : Addr) (bt : Bool) (ad : String) (mx dl : Int32) (tx cs0 : List Int32) (a nn : Nat) (F : OL) : Mx := ((⟨"com/example/delta_mirror/deltamirror/rrdp/Base64Binary", "append", "([CII)V"⟩ : MethodName), prog_3_method_2_code, 9, none, ({ frames := 0, cells := 0, slots := 0, locals := 0 } : Room), (fun v O' => ∃ X', v = none ∧ (cs0 ++ ((tx.drop a).take nn).filter nws).length + X'.length = 4096 ∧ O' = [(o, true, BBO Γ rn rb de mx ((cs0 ++ ((tx.drop a).take nn).filter nws).length).toInt32 dl), (rn, true, BA Γ (((cs0 ++ ((tx.drop a).take nn).filter nws)).map Value.int ++ X')), (ta, bt, Ary Γ ad .char (tx.map Value.int))]), F)
set_option maxRecDepth 65536 in
set_option maxHeartbeats 4000000 in
theorem L_app {Γ : Gx} (hw : Words Γ) (o rn rb de ta : Addr) (bt : Bool) (ad : String) (mx dl : Int32) (tx cs0 : List Int32) (a nn : Nat) (hT : tx.length < 1000) (hr : a + nn ≤ tx.length) (hA : ∀ i, a ≤ i → i < a + nn → (hi : i < tx.length) → A7 tx[i]) (hc0 : cs0.length + nn < 1000) (F : OL) :
    ∀ (r i : Nat), i + r = a + nn ∧ a ≤ i → ∀ (cs : List Int32) (X : List Value), cs.length + X.length = 4096 → cs.length + r < 1000 → cs ++ ((tx.drop i).take r).filter nws = (cs0 ++ ((tx.drop a).take nn).filter nws) → ∀ o8 : Slot, One o8 → Run Γ (mx_app Γ o rn rb de ta bt ad mx dl tx cs0 a nn F) 0 0 [(o, true, BBO Γ rn rb de mx cs0.length.toInt32 dl), (rn, true, BA Γ (cs.map Value.int ++ X)), (ta, bt, Ary Γ ad .char (tx.map Value.int))] 20 [.val (.ref o), .val (.ref ta), .val (.int a.toInt32), .val (.int nn.toInt32), .val (.ref rn), .val (.int cs.length.toInt32), .val (.int (a + nn).toInt32), .val (.int i.toInt32), o8] [] := by
  intro r
  induction r with
  | zero =>
    intro i hi0 cs X hX hcs hfin o8 h8
    refine R_iload d_prog_3_method_2_code_20 rfl ?_
    refine R_iload d_prog_3_method_2_code_22 rfl ?_
    refine R_icmp_ge (pc' := 123) d_prog_3_method_2_code_24 (by decide) (by decide) (fun h1 => ?_) (fun h1 => ?_)
    · refine R_aloadN d_prog_3_method_2_code_123 rfl rfl ?_
      refine R_iload d_prog_3_method_2_code_124 rfl ?_
      have ef : cs = (cs0 ++ ((tx.drop a).take nn).filter nws) := by rw [← hfin]; simp
      subst ef
      refine R_putfield 0 4 d_prog_3_method_2_code_126 (hw _ (mem 45 rfl)) Via.refl rfl rfl rfl (Or.inl (hw _ (mem 46 rfl))) (hw _ (mem 23 rfl)) (ty := .int) (by decide) _ rfl rfl ?_
      try dsimp only [List.set_cons_zero, List.set_cons_succ, List.eraseIdx_cons_zero, List.eraseIdx_cons_succ, List.cons_append, List.nil_append, Option.toList]
      exact R_return d_prog_3_method_2_code_129 rfl ⟨X, rfl, hX, rfl⟩ (Nat.le_of_ble_eq_true rfl) (Nat.le_of_ble_eq_true rfl)
    · exact absurd ((i32_lt_iff (by omega) (by omega)).mp h1) (by omega)
  | succ r ih =>
    intro i hi0 cs X hX hcs hfin o8 h8
    refine R_iload d_prog_3_method_2_code_20 rfl ?_
    refine R_iload d_prog_3_method_2_code_22 rfl ?_
    refine R_icmp_ge (pc' := 123) d_prog_3_method_2_code_24 (by decide) (by decide) (fun h1 => ?_) (fun h1 => ?_)
    · exact absurd ((i32_lt_iff (by omega) (by omega)).mpr (by omega)) h1
    · have hi : i < tx.length := by omega
      have htk : (tx.drop i).take (r + 1) = tx[i] :: (tx.drop (i + 1)).take r := by rw [List.drop_eq_getElem_cons hi, List.take_succ_cons]
      have hc : A7 tx[i] := hA i (by omega) (by omega) hi
      refine R_aloadN d_prog_3_method_2_code_27 rfl rfl ?_
      refine R_iload d_prog_3_method_2_code_28 rfl ?_
      refine R_caload d_prog_3_method_2_code_30 (mem 2 rfl) (i32_nn (by omega)) i (i32_cl (by omega)) (v := .int tx[i]) (by simp) ?_
      refine R_istore d_prog_3_method_2_code_31 rfl h8 ?_
      try dsimp only [List.set_cons_zero, List.set_cons_succ, List.eraseIdx_cons_zero, List.eraseIdx_cons_succ, List.cons_append, List.nil_append, Option.toList]
      refine R_iload d_prog_3_method_2_code_33 rfl ?_
      refine R_bipush (127) d_prog_3_method_2_code_35 (by decide) ?_
      refine R_icmp_le (pc' := 50) d_prog_3_method_2_code_37 (by decide) (by decide) (fun h2 => ?_) (fun h2 => ?_)
      · refine R_iload d_prog_3_method_2_code_50 rfl ?_
        refine R_bipush (32) d_prog_3_method_2_code_52 (by decide) ?_
        refine R_icmp_gt (pc' := 85) d_prog_3_method_2_code_54 (by decide) (by decide) (fun g1 => ?_) (fun g1 => ?_)
        · refine R_iload d_prog_3_method_2_code_85 rfl ?_
          refine R_sipush (4096) d_prog_3_method_2_code_87 (by decide) ?_
          refine R_icmp_ne (pc' := 106) d_prog_3_method_2_code_90 (by decide) (by decide) (fun h9 => ?_) (fun h9 => ?_)
          · obtain ⟨x0, X1, rfl⟩ : ∃ x0 X1, X = x0 :: X1 := by
              cases X with
              | nil => simp at hX; omega
              | cons x0 X1 => exact ⟨x0, X1, rfl⟩
            refine R_aload d_prog_3_method_2_code_106 rfl rfl ?_
            refine R_iload d_prog_3_method_2_code_108 rfl ?_
            refine R_iinc (1) d_prog_3_method_2_code_110 (by decide) rfl ?_
            try dsimp only [List.set_cons_zero, List.set_cons_succ, List.eraseIdx_cons_zero, List.eraseIdx_cons_succ, List.cons_append, List.nil_append, Option.toList]
            refine R_iload d_prog_3_method_2_code_113 rfl ?_
            refine R_i2b d_prog_3_method_2_code_115 ?_
            refine R_bastore 1 d_prog_3_method_2_code_116 rfl (i32_nn (by omega)) cs.length (i32_cl (by omega)) (by simp) ?_
            try dsimp only [List.set_cons_zero, List.set_cons_succ, List.eraseIdx_cons_zero, List.eraseIdx_cons_succ, List.cons_append, List.nil_append, Option.toList]
            rw [b7 hc, run_set]
            refine R_iinc (1) d_prog_3_method_2_code_117 (by decide) rfl ?_
            try dsimp only [List.set_cons_zero, List.set_cons_succ, List.eraseIdx_cons_zero, List.eraseIdx_cons_succ, List.cons_append, List.nil_append, Option.toList]
            refine R_goto (pc' := 20) d_prog_3_method_2_code_120 (by decide) (by decide) ?_
            rw [i32_succ, i32_succ, show cs.length + 1 = (cs ++ [tx[i]]).length from by simp]
            exact ih (i + 1) (by omega) (cs ++ [tx[i]]) X1 (by simp at hX ⊢; omega) (by simp; omega) (by rw [← hfin, htk, List.filter_cons_of_pos (by simp [nws, g1])]; simp) _ (Or.inr ⟨_, rfl, rfl⟩)
          · exact absurd ((i32_eq_iff (a := cs.length) (b := 4096) (by omega) (by omega)).mp h9) (by omega)
        · refine R_iload d_prog_3_method_2_code_57 rfl ?_
          refine R_bipush (32) d_prog_3_method_2_code_59 (by decide) ?_
          refine R_icmp_eq (pc' := 117) d_prog_3_method_2_code_61 (by decide) (by decide) (fun g2 => ?_) (fun g2 => ?_)
          · refine R_iinc (1) d_prog_3_method_2_code_117 (by decide) rfl ?_
            try dsimp only [List.set_cons_zero, List.set_cons_succ, List.eraseIdx_cons_zero, List.eraseIdx_cons_succ, List.cons_append, List.nil_append, Option.toList]
            refine R_goto (pc' := 20) d_prog_3_method_2_code_120 (by decide) (by decide) ?_
            rw [i32_succ]
            exact ih (i + 1) (by omega) cs X hX (by omega) (by rw [← hfin, htk, List.filter_cons_of_neg (by simp [nws, g2])]) _ (Or.inr ⟨_, rfl, rfl⟩)
          · refine R_iload d_prog_3_method_2_code_64 rfl ?_
            refine R_bipush (9) d_prog_3_method_2_code_66 (by decide) ?_
            refine R_icmp_eq (pc' := 117) d_prog_3_method_2_code_68 (by decide) (by decide) (fun g3 => ?_) (fun g3 => ?_)
            · refine R_iinc (1) d_prog_3_method_2_code_117 (by decide) rfl ?_
              try dsimp only [List.set_cons_zero, List.set_cons_succ, List.eraseIdx_cons_zero, List.eraseIdx_cons_succ, List.cons_append, List.nil_append, Option.toList]
              refine R_goto (pc' := 20) d_prog_3_method_2_code_120 (by decide) (by decide) ?_
              rw [i32_succ]
              exact ih (i + 1) (by omega) cs X hX (by omega) (by rw [← hfin, htk, List.filter_cons_of_neg (by simp [nws, g3])]) _ (Or.inr ⟨_, rfl, rfl⟩)
            · refine R_iload d_prog_3_method_2_code_71 rfl ?_
              refine R_bipush (10) d_prog_3_method_2_code_73 (by decide) ?_
              refine R_icmp_eq (pc' := 117) d_prog_3_method_2_code_75 (by decide) (by decide) (fun g4 => ?_) (fun g4 => ?_)
              · refine R_iinc (1) d_prog_3_method_2_code_117 (by decide) rfl ?_
                try dsimp only [List.set_cons_zero, List.set_cons_succ, List.eraseIdx_cons_zero, List.eraseIdx_cons_succ, List.cons_append, List.nil_append, Option.toList]
                refine R_goto (pc' := 20) d_prog_3_method_2_code_120 (by decide) (by decide) ?_
                rw [i32_succ]
                exact ih (i + 1) (by omega) cs X hX (by omega) (by rw [← hfin, htk, List.filter_cons_of_neg (by simp [nws, g4])]) _ (Or.inr ⟨_, rfl, rfl⟩)
              · refine R_iload d_prog_3_method_2_code_78 rfl ?_
                refine R_bipush (13) d_prog_3_method_2_code_80 (by decide) ?_
                refine R_icmp_eq (pc' := 117) d_prog_3_method_2_code_82 (by decide) (by decide) (fun g5 => ?_) (fun g5 => ?_)
                · refine R_iinc (1) d_prog_3_method_2_code_117 (by decide) rfl ?_
                  try dsimp only [List.set_cons_zero, List.set_cons_succ, List.eraseIdx_cons_zero, List.eraseIdx_cons_succ, List.cons_append, List.nil_append, Option.toList]
                  refine R_goto (pc' := 20) d_prog_3_method_2_code_120 (by decide) (by decide) ?_
                  rw [i32_succ]
                  exact ih (i + 1) (by omega) cs X hX (by omega) (by rw [← hfin, htk, List.filter_cons_of_neg (by simp [nws, g5])]) _ (Or.inr ⟨_, rfl, rfl⟩)
                · refine R_iload d_prog_3_method_2_code_85 rfl ?_
                  refine R_sipush (4096) d_prog_3_method_2_code_87 (by decide) ?_
                  refine R_icmp_ne (pc' := 106) d_prog_3_method_2_code_90 (by decide) (by decide) (fun h9 => ?_) (fun h9 => ?_)
                  · obtain ⟨x0, X1, rfl⟩ : ∃ x0 X1, X = x0 :: X1 := by
                      cases X with
                      | nil => simp at hX; omega
                      | cons x0 X1 => exact ⟨x0, X1, rfl⟩
                    refine R_aload d_prog_3_method_2_code_106 rfl rfl ?_
                    refine R_iload d_prog_3_method_2_code_108 rfl ?_
                    refine R_iinc (1) d_prog_3_method_2_code_110 (by decide) rfl ?_
                    try dsimp only [List.set_cons_zero, List.set_cons_succ, List.eraseIdx_cons_zero, List.eraseIdx_cons_succ, List.cons_append, List.nil_append, Option.toList]
                    refine R_iload d_prog_3_method_2_code_113 rfl ?_
                    refine R_i2b d_prog_3_method_2_code_115 ?_
                    refine R_bastore 1 d_prog_3_method_2_code_116 rfl (i32_nn (by omega)) cs.length (i32_cl (by omega)) (by simp) ?_
                    try dsimp only [List.set_cons_zero, List.set_cons_succ, List.eraseIdx_cons_zero, List.eraseIdx_cons_succ, List.cons_append, List.nil_append, Option.toList]
                    rw [b7 hc, run_set]
                    refine R_iinc (1) d_prog_3_method_2_code_117 (by decide) rfl ?_
                    try dsimp only [List.set_cons_zero, List.set_cons_succ, List.eraseIdx_cons_zero, List.eraseIdx_cons_succ, List.cons_append, List.nil_append, Option.toList]
                    refine R_goto (pc' := 20) d_prog_3_method_2_code_120 (by decide) (by decide) ?_
                    rw [i32_succ, i32_succ, show cs.length + 1 = (cs ++ [tx[i]]).length from by simp]
                    exact ih (i + 1) (by omega) (cs ++ [tx[i]]) X1 (by simp at hX ⊢; omega) (by simp; omega) (by rw [← hfin, htk, List.filter_cons_of_pos (by simp [nws, g2, g3, g4, g5])]; simp) _ (Or.inr ⟨_, rfl, rfl⟩)
                  · exact absurd ((i32_eq_iff (a := cs.length) (b := 4096) (by omega) (by omega)).mp h9) (by omega)
      · exact absurd h2 hc.2

set_option maxRecDepth 65536 in
set_option maxHeartbeats 4000000 in
theorem M_app {Γ : Gx} (hw : Words Γ) (o rn rb de ta : Addr) (bt : Bool) (ad : String) (mx dl : Int32) (tx cs0 : List Int32) (a nn : Nat) (X : List Value) (hX : cs0.length + X.length = 4096) (hT : tx.length < 1000) (hr : a + nn ≤ tx.length) (hA : ∀ i, a ≤ i → i < a + nn → (hi : i < tx.length) → A7 tx[i]) (hc0 : cs0.length + nn < 1000) :
    Met Γ (⟨"com/example/delta_mirror/deltamirror/rrdp/Base64Binary", "append", "([CII)V"⟩ : MethodName) prog_3_method_2_code 9 none ({ frames := 0, cells := 0, slots := 0, locals := 0 } : Room) #[(.ref o), (.ref ta), (.int a.toInt32), (.int nn.toInt32)] [(o, true, BBO Γ rn rb de mx (cs0.length).toInt32 dl), (rn, true, BA Γ ((cs0).map Value.int ++ X)), (ta, bt, Ary Γ ad .char (tx.map Value.int))] (fun v O' => ∃ X', v = none ∧ (cs0 ++ ((tx.drop a).take nn).filter nws).length + X'.length = 4096 ∧ O' = [(o, true, BBO Γ rn rb de mx ((cs0 ++ ((tx.drop a).take nn).filter nws).length).toInt32 dl), (rn, true, BA Γ (((cs0 ++ ((tx.drop a).take nn).filter nws)).map Value.int ++ X')), (ta, bt, Ary Γ ad .char (tx.map Value.int))]) := by
  refine Met.intro pn_com_example_delta_mirror_deltamirror_rrdp_Base64Binary (Ls := [.val (.ref o), .val (.ref ta), .val (.int a.toInt32), .val (.int nn.toInt32), .unset, .unset, .unset, .unset, .unset]) (fun m => by first | rfl | (simp [entryFrame, mkF, argsToLocals, Value.category]; done)) ?_
  intro F
  refine R_aloadN d_prog_3_method_2_code_0 rfl rfl ?_
  refine R_getfield d_prog_3_method_2_code_1 (hw _ (mem 32 rfl)) Via.refl (mem 0 rfl) (mem 0 rfl) ?_
  refine R_astore d_prog_3_method_2_code_4 rfl rfl (by first | exact Or.inl rfl | exact Or.inr ⟨_, rfl, rfl⟩) ?_
  try dsimp only [List.set_cons_zero, List.set_cons_succ, List.eraseIdx_cons_zero, List.eraseIdx_cons_succ, List.cons_append, List.nil_append, Option.toList]
  refine R_aloadN d_prog_3_method_2_code_6 rfl rfl ?_
  refine R_getfield d_prog_3_method_2_code_7 (hw _ (mem 45 rfl)) Via.refl (mem 0 rfl) (mem 4 rfl) ?_
  refine R_istore d_prog_3_method_2_code_10 rfl (by first | exact Or.inl rfl | exact Or.inr ⟨_, rfl, rfl⟩) ?_
  try dsimp only [List.set_cons_zero, List.set_cons_succ, List.eraseIdx_cons_zero, List.eraseIdx_cons_succ, List.cons_append, List.nil_append, Option.toList]
  refine R_iloadN d_prog_3_method_2_code_12 rfl ?_
  refine R_iloadN d_prog_3_method_2_code_13 rfl ?_
  refine R_iadd d_prog_3_method_2_code_14 ?_
  refine R_istore d_prog_3_method_2_code_15 rfl (by first | exact Or.inl rfl | exact Or.inr ⟨_, rfl, rfl⟩) ?_
  try dsimp only [List.set_cons_zero, List.set_cons_succ, List.eraseIdx_cons_zero, List.eraseIdx_cons_succ, List.cons_append, List.nil_append, Option.toList]
  refine R_iloadN d_prog_3_method_2_code_17 rfl ?_
  refine R_istore d_prog_3_method_2_code_18 rfl (by first | exact Or.inl rfl | exact Or.inr ⟨_, rfl, rfl⟩) ?_
  try dsimp only [List.set_cons_zero, List.set_cons_succ, List.eraseIdx_cons_zero, List.eraseIdx_cons_succ, List.cons_append, List.nil_append, Option.toList]
  rw [i32_add]
  exact L_app hw o rn rb de ta bt ad mx dl tx cs0 a nn hT hr hA hc0 F nn a ⟨rfl, Nat.le_refl _⟩ cs0 X hX (by omega) rfl _ (Or.inl rfl)

set_option maxRecDepth 65536 in
set_option maxHeartbeats 4000000 in
theorem M_isl {Γ : Gx} (hw : Words Γ) (hcs : CS Γ) (s1 t : Addr) (b1 : Bool) (m1 : List Fd) :
    Met Γ (⟨"java/lang/String", "isLatin1", "()Z"⟩ : MethodName) jdk_42_method_154_code 1 (some .boolean) ({ frames := 0, cells := 0, slots := 0, locals := 0 } : Room) #[(.ref s1)] [(s1, b1, StrO Γ t m1)] (fun v O' => v = some (.int 1) ∧ O' = [(s1, b1, StrO Γ t m1)]) := by
  refine Met.intro pn_java_lang_String (Ls := [.val (.ref s1)]) (fun m => by first | rfl | (simp [entryFrame, mkF, argsToLocals, Value.category]; done)) ?_
  intro F
  obtain ⟨G1, hS, hG1⟩ := hcs
  refine R_getstatic d_jdk_42_method_154_code_0 (hw _ (mem 78 rfl)) Via.refl hS ?_
  refine R_if_eq (pc' := 17) d_jdk_42_method_154_code_3 (by decide) (by decide) (fun h => ?_) (fun h => ?_)
  · exact absurd h hG1
  · refine R_aloadN d_jdk_42_method_154_code_6 rfl rfl ?_
    refine R_getfield d_jdk_42_method_154_code_7 (hw _ (mem 79 rfl)) Via.refl (mem 0 rfl) (mem 1 rfl) ?_
    refine R_if_ne (pc' := 17) d_jdk_42_method_154_code_10 (by decide) (by decide) (fun h2 => ?_) (fun h2 => ?_)
    · exact absurd rfl h2
    · refine R_iconst (1) d_jdk_42_method_154_code_13 (by decide) ?_
      refine R_goto (pc' := 18) d_jdk_42_method_154_code_14 (by decide) (by decide) ?_
      exact R_ireturnN d_jdk_42_method_154_code_18 rfl (by simp) ⟨rfl, rfl⟩ (Nat.le_of_ble_eq_true rfl) (Nat.le_of_ble_eq_true rfl)

set_option maxRecDepth 65536 in
set_option maxHeartbeats 4000000 in
theorem M_coder {Γ : Gx} (hw : Words Γ) (hcs : CS Γ) (s1 t : Addr) (b1 : Bool) (m1 : List Fd) :
    Met Γ (⟨"java/lang/String", "coder", "()B"⟩ : MethodName) jdk_42_method_152_code 1 (some .byte) ({ frames := 0, cells := 0, slots := 0, locals := 0 } : Room) #[(.ref s1)] [(s1, b1, StrO Γ t m1)] (fun v O' => v = some (.int 0) ∧ O' = [(s1, b1, StrO Γ t m1)]) := by
  refine Met.intro pn_java_lang_String (Ls := [.val (.ref s1)]) (fun m => by first | rfl | (simp [entryFrame, mkF, argsToLocals, Value.category]; done)) ?_
  intro F
  obtain ⟨G1, hS, hG1⟩ := hcs
  refine R_getstatic d_jdk_42_method_152_code_0 (hw _ (mem 78 rfl)) Via.refl hS ?_
  refine R_if_eq (pc' := 13) d_jdk_42_method_152_code_3 (by decide) (by decide) (fun h => ?_) (fun h => ?_)
  · exact absurd h hG1
  · refine R_aloadN d_jdk_42_method_152_code_6 rfl rfl ?_
    refine R_getfield d_jdk_42_method_152_code_7 (hw _ (mem 79 rfl)) Via.refl (mem 0 rfl) (mem 1 rfl) ?_
    refine R_goto (pc' := 14) d_jdk_42_method_152_code_10 (by decide) (by decide) ?_
    exact R_ireturnN d_jdk_42_method_152_code_14 rfl (by simp) ⟨rfl, rfl⟩ (Nat.le_of_ble_eq_true rfl) (Nat.le_of_ble_eq_true rfl)

theorem shr0 (x : Int32) : x >>> ((0 : Int32) &&& 31) = x := by
  rw [show ((0 : Int32) &&& 31) = 0 from by decide]
  simp
set_option maxRecDepth 65536 in
set_option maxHeartbeats 4000000 in
theorem M_len {Γ : Gx} (hw : Words Γ) (hcs : CS Γ) (s1 t : Addr) (b1 bt : Bool) (m1 : List Fd) (ad : String) (bs : List Int32) :
    Met Γ (⟨"java/lang/String", "length", "()I"⟩ : MethodName) jdk_42_method_54_code 1 (some .int) ({ frames := 1, cells := 0, slots := 0, locals := 13 } : Room) #[(.ref s1)] [(s1, b1, StrO Γ t m1), (t, bt, Ary Γ ad .byte (bs.map Value.int))] (fun v O' => v = some (.int bs.length.toInt32) ∧ O' = [(s1, b1, StrO Γ t m1), (t, bt, Ary Γ ad .byte (bs.map Value.int))]) := by
  refine Met.intro pn_java_lang_String (Ls := [.val (.ref s1)]) (fun m => by first | rfl | (simp [entryFrame, mkF, argsToLocals, Value.category]; done)) ?_
  intro F
  refine R_aloadN d_jdk_42_method_54_code_0 rfl rfl ?_
  refine R_getfield d_jdk_42_method_54_code_1 (hw _ (mem 80 rfl)) Via.refl (mem 0 rfl) (mem 0 rfl) ?_
  refine R_arraylength d_jdk_42_method_54_code_4 (mem 1 rfl) bs.length.toInt32 (by rw [List.length_map]) ?_
  refine R_aloadN d_jdk_42_method_54_code_5 rfl rfl ?_
  refine R_call (S_virtual (as := []) (rest := _) (mem 0 rfl) d_jdk_42_method_54_code_6 (hw _ (mem 86 rfl)) (hw _ (mem 87 rfl)) (nf_sel (hw _ (mem 89 rfl))) (hw _ (mem 89 rfl)) (hw _ (mem 88 rfl)) (by decide) pd_ocB rfl rfl rfl) (M_coder hw hcs s1 t b1 m1) (pkS 0 rfl pk0) (hw _ (mem 90 rfl)) (hw _ (mem 57 rfl)) (Nat.le_of_ble_eq_true rfl) (Nat.le_of_ble_eq_true rfl) (Nat.le_of_ble_eq_true rfl) (Nat.le_of_ble_eq_true rfl) ?_
  rintro _ _ ⟨rfl, rfl⟩
  try dsimp only [List.set_cons_zero, List.set_cons_succ, List.eraseIdx_cons_zero, List.eraseIdx_cons_succ, List.cons_append, List.nil_append, Option.toList]
  refine R_ishr d_jdk_42_method_54_code_9 ?_
  rw [shr0]
  exact R_ireturn d_jdk_42_method_54_code_10 rfl ⟨rfl, rfl⟩ (Nat.le_of_ble_eq_true rfl) (Nat.le_of_ble_eq_true rfl)

set_option maxRecDepth 65536 in
set_option maxHeartbeats 4000000 in
theorem M_cEI {Γ : Gx} (hw : Words Γ) (x : Int32) (hx : Lo x) :
    Met Γ (⟨"java/lang/StringLatin1", "canEncode", "(I)Z"⟩ : MethodName) jdk_43_method_4_code 1 (some .boolean) ({ frames := 0, cells := 0, slots := 0, locals := 0 } : Room) #[(.int x)] [] (fun v O' => v = some (.int 1) ∧ O' = []) := by
  refine Met.intro pn_java_lang_StringLatin1 (Ls := [.val (.int x)]) (fun m => by first | rfl | (simp [entryFrame, mkF, argsToLocals, Value.category]; done)) ?_
  intro F
  refine R_iloadN d_jdk_43_method_4_code_0 rfl ?_
  refine R_if_lt (pc' := 15) d_jdk_43_method_4_code_1 (by decide) (by decide) (fun h => ?_) (fun h => ?_)
  · exact absurd h hx.1
  · refine R_iloadN d_jdk_43_method_4_code_4 rfl ?_
    refine R_sipush (255) d_jdk_43_method_4_code_5 (by decide) ?_
    refine R_icmp_gt (pc' := 15) d_jdk_43_method_4_code_8 (by decide) (by decide) (fun h2 => ?_) (fun h2 => ?_)
    · exact absurd h2 hx.2
    · refine R_iconst (1) d_jdk_43_method_4_code_11 (by decide) ?_
      refine R_goto (pc' := 16) d_jdk_43_method_4_code_12 (by decide) (by decide) ?_
      exact R_ireturnN d_jdk_43_method_4_code_16 rfl (by simp) ⟨rfl, rfl⟩ (Nat.le_of_ble_eq_true rfl) (Nat.le_of_ble_eq_true rfl)

abbrev mx_ioc (Γ : Gx) (t : Addr) (bt : Bool) (ad : String) (bs : List Int32) (x : Int32) (F : OL) : Mx := ((⟨"java/lang/StringLatin1", "indexOfChar", "([BIII)I"⟩ : MethodName), jdk_43_method_23_code, 6, (some .int), ({ frames := 0, cells := 0, slots := 0, locals := 0 } : Room), (fun v O' => ∃ r : Int32, v = some (.int r) ∧ ¬ r < 0 ∧ O' = [(t, bt, Ary Γ ad .byte (bs.map Value.int))]), F)
set_option maxRecDepth 65536 in
set_option maxHeartbeats 4000000 in
theorem L_ioc {Γ : Gx} (hw : Words Γ) (t : Addr) (bt : Bool) (ad : String) (bs : List Int32) (x : Int32) (hl : bs.length < 2 ^ 31) (F : OL) :
    ∀ (r i : Nat), i + r = bs.length → (∃ j, ∃ (_ : i ≤ j) (h : j < bs.length), bs[j] = x.toInt8.toInt32) → Run Γ (mx_ioc Γ t bt ad bs x F) 0 0 [(t, bt, Ary Γ ad .byte (bs.map Value.int))] 7 [.val (.ref t), .val (.int x), .val (.int 0), .val (.int bs.length.toInt32), .val (.int x.toInt8.toInt32), .val (.int i.toInt32)] [] := by
  intro r
  induction r with
  | zero =>
    intro i hi hj
    obtain ⟨j, j1, j2, j3⟩ := hj
    exact absurd j2 (by omega)
  | succ r ih =>
    intro i hi hj
    refine R_iload d_jdk_43_method_23_code_7 rfl ?_
    refine R_iloadN d_jdk_43_method_23_code_9 rfl ?_
    refine R_icmp_ge (pc' := 31) d_jdk_43_method_23_code_10 (by decide) (by decide) (fun h1 => ?_) (fun h1 => ?_)
    · exact absurd ((i32_lt_iff (by omega) (by omega)).mpr (by omega)) h1
    · refine R_aloadN d_jdk_43_method_23_code_13 rfl rfl ?_
      refine R_iload d_jdk_43_method_23_code_14 rfl ?_
      refine R_baload d_jdk_43_method_23_code_16 (mem 0 rfl) (i32_nn (by omega)) i (i32_cl (by omega)) (v := .int (bs[i]'(by omega))) (by simp) ?_
      refine R_iload d_jdk_43_method_23_code_17 rfl ?_
      refine R_icmp_ne (pc' := 25) d_jdk_43_method_23_code_19 (by decide) (by decide) (fun h2 => ?_) (fun h2 => ?_)
      · refine R_iinc (1) d_jdk_43_method_23_code_25 (by decide) rfl ?_
        try dsimp only [List.set_cons_zero, List.set_cons_succ, List.eraseIdx_cons_zero, List.eraseIdx_cons_succ, List.cons_append, List.nil_append, Option.toList]
        refine R_goto (pc' := 7) d_jdk_43_method_23_code_28 (by decide) (by decide) ?_
        rw [i32_succ]
        exact ih (i + 1) (by omega) (by
          obtain ⟨j, j1, j2, j3⟩ := hj
          rcases Nat.lt_or_ge i j with q | q
          · exact ⟨j, by omega, j2, j3⟩
          · obtain rfl : i = j := by omega
            exact absurd j3 h2)
      · refine R_iload d_jdk_43_method_23_code_22 rfl ?_
        exact R_ireturn d_jdk_43_method_23_code_24 rfl ⟨_, rfl, i32_nn (by omega), rfl⟩ (Nat.le_of_ble_eq_true rfl) (Nat.le_of_ble_eq_true rfl)

set_option maxRecDepth 65536 in
set_option maxHeartbeats 4000000 in
theorem M_ioc {Γ : Gx} (hw : Words Γ) (t : Addr) (bt : Bool) (ad : String) (bs : List Int32) (x : Int32) (hj : ∃ j, ∃ (_ : 0 ≤ j) (h : j < bs.length), bs[j] = x.toInt8.toInt32) :
    Met Γ (⟨"java/lang/StringLatin1", "indexOfChar", "([BIII)I"⟩ : MethodName) jdk_43_method_23_code 6 (some .int) ({ frames := 0, cells := 0, slots := 0, locals := 0 } : Room) #[(.ref t), (.int x), (.int 0), (.int bs.length.toInt32)] [(t, bt, Ary Γ ad .byte (bs.map Value.int))] (fun v O' => ∃ r : Int32, v = some (.int r) ∧ ¬ r < 0 ∧ O' = [(t, bt, Ary Γ ad .byte (bs.map Value.int))]) := by
  refine Met.intro pn_java_lang_StringLatin1 (Ls := [.val (.ref t), .val (.int x), .val (.int 0), .val (.int bs.length.toInt32), .unset, .unset]) (fun m => by first | rfl | (simp [entryFrame, mkF, argsToLocals, Value.category]; done)) ?_
  intro F
  refine R_alen (mem 0 rfl) fun hl => ?_
  rw [List.length_map] at hl
  refine R_iloadN d_jdk_43_method_23_code_0 rfl ?_
  refine R_i2b d_jdk_43_method_23_code_1 ?_
  refine R_istore d_jdk_43_method_23_code_2 rfl (by first | exact Or.inl rfl | exact Or.inr ⟨_, rfl, rfl⟩) ?_
  try dsimp only [List.set_cons_zero, List.set_cons_succ, List.eraseIdx_cons_zero, List.eraseIdx_cons_succ, List.cons_append, List.nil_append, Option.toList]
  refine R_iloadN d_jdk_43_method_23_code_4 rfl ?_
  refine R_istore d_jdk_43_method_23_code_5 rfl (by first | exact Or.inl rfl | exact Or.inr ⟨_, rfl, rfl⟩) ?_
  try dsimp only [List.set_cons_zero, List.set_cons_succ, List.eraseIdx_cons_zero, List.eraseIdx_cons_succ, List.cons_append, List.nil_append, Option.toList]
  exact L_ioc hw t bt ad bs x hl F bs.length 0 (by omega) hj

set_option maxRecDepth 65536 in
set_option maxHeartbeats 4000000 in
theorem M_lio {Γ : Gx} (hw : Words Γ) (t : Addr) (bt : Bool) (ad : String) (bs : List Int32) (x : Int32) (hx : Lo x) (hj : ∃ j, ∃ (_ : 0 ≤ j) (h : j < bs.length), bs[j] = x.toInt8.toInt32) :
    Met Γ (⟨"java/lang/StringLatin1", "indexOf", "([BIII)I"⟩ : MethodName) jdk_43_method_22_code 4 (some .int) ({ frames := 1, cells := 0, slots := 0, locals := 17 } : Room) #[(.ref t), (.int x), (.int 0), (.int bs.length.toInt32)] [(t, bt, Ary Γ ad .byte (bs.map Value.int))] (fun v O' => ∃ r : Int32, v = some (.int r) ∧ ¬ r < 0 ∧ O' = [(t, bt, Ary Γ ad .byte (bs.map Value.int))]) := by
  refine Met.intro pn_java_lang_StringLatin1 (Ls := [.val (.ref t), .val (.int x), .val (.int 0), .val (.int bs.length.toInt32)]) (fun m => by first | rfl | (simp [entryFrame, mkF, argsToLocals, Value.category]; done)) ?_
  intro F
  refine R_alen (mem 0 rfl) fun hl => ?_
  rw [List.length_map] at hl
  refine R_iloadN d_jdk_43_method_22_code_0 rfl ?_
  refine R_call (S_static (as := [_]) (rest := _) d_jdk_43_method_22_code_1 (hw _ (mem 95 rfl)) (hw _ (mem 96 rfl)) (hw _ (mem 93 rfl)) (hw _ (mem 97 rfl)) (by decide) pd_oIcZ rfl rfl rfl) (M_cEI hw x hx) pk0 (hw _ (mem 97 rfl)) (hw _ (mem 93 rfl)) (Nat.le_of_ble_eq_true rfl) (Nat.le_of_ble_eq_true rfl) (Nat.le_of_ble_eq_true rfl) (Nat.le_of_ble_eq_true rfl) ?_
  rintro _ _ ⟨rfl, rfl⟩
  try dsimp only [List.set_cons_zero, List.set_cons_succ, List.eraseIdx_cons_zero, List.eraseIdx_cons_succ, List.cons_append, List.nil_append, Option.toList]
  refine R_if_ne (pc' := 9) d_jdk_43_method_22_code_4 (by decide) (by decide) (fun h => ?_) (fun h => ?_)
  · refine R_iloadN d_jdk_43_method_22_code_9 rfl ?_
    refine R_iconst (0) d_jdk_43_method_22_code_10 (by decide) ?_
    refine R_call (S_static (as := [_, _]) (rest := _) d_jdk_43_method_22_code_11 (hw _ (mem 98 rfl)) (hw _ (mem 20 rfl)) (hw _ (mem 8 rfl)) (hw _ (mem 21 rfl)) (by decide) pd_oIIcI rfl rfl rfl) (M_max hw 0 0 (by decide) (by decide)) pk0 (hw _ (mem 21 rfl)) (hw _ (mem 8 rfl)) (Nat.le_of_ble_eq_true rfl) (Nat.le_of_ble_eq_true rfl) (Nat.le_of_ble_eq_true rfl) (Nat.le_of_ble_eq_true rfl) ?_
    rintro _ _ ⟨rfl, rfl⟩
    try dsimp only [List.set_cons_zero, List.set_cons_succ, List.eraseIdx_cons_zero, List.eraseIdx_cons_succ, List.cons_append, List.nil_append, Option.toList]
    refine R_istoreN d_jdk_43_method_22_code_14 rfl (by first | exact Or.inl rfl | exact Or.inr ⟨_, rfl, rfl⟩) ?_
    try dsimp only [List.set_cons_zero, List.set_cons_succ, List.eraseIdx_cons_zero, List.eraseIdx_cons_succ, List.cons_append, List.nil_append, Option.toList]
    refine R_iloadN d_jdk_43_method_22_code_15 rfl ?_
    refine R_aloadN d_jdk_43_method_22_code_16 rfl rfl ?_
    refine R_arraylength d_jdk_43_method_22_code_17 (mem 0 rfl) bs.length.toInt32 (by rw [List.length_map]) ?_
    refine R_call (S_static (as := [_, _]) (rest := _) d_jdk_43_method_22_code_18 (hw _ (mem 99 rfl)) (hw _ (mem 7 rfl)) (hw _ (mem 8 rfl)) (hw _ (mem 9 rfl)) (by decide) pd_oIIcI rfl rfl rfl) (M_min hw bs.length bs.length hl hl) pk0 (hw _ (mem 9 rfl)) (hw _ (mem 8 rfl)) (Nat.le_of_ble_eq_true rfl) (Nat.le_of_ble_eq_true rfl) (Nat.le_of_ble_eq_true rfl) (Nat.le_of_ble_eq_true rfl) ?_
    rintro _ _ ⟨rfl, rfl⟩
    try dsimp only [List.set_cons_zero, List.set_cons_succ, List.eraseIdx_cons_zero, List.eraseIdx_cons_succ, List.cons_append, List.nil_append, Option.toList]
    rw [Nat.min_self]
    rw [show (max 0 0 : Nat).toInt32 = 0 from rfl]
    refine R_istoreN d_jdk_43_method_22_code_21 rfl (by first | exact Or.inl rfl | exact Or.inr ⟨_, rfl, rfl⟩) ?_
    try dsimp only [List.set_cons_zero, List.set_cons_succ, List.eraseIdx_cons_zero, List.eraseIdx_cons_succ, List.cons_append, List.nil_append, Option.toList]
    refine R_iloadN d_jdk_43_method_22_code_22 rfl ?_
    refine R_iloadN d_jdk_43_method_22_code_23 rfl ?_
    refine R_icmp_lt (pc' := 29) d_jdk_43_method_22_code_24 (by decide) (by decide) (fun h2 => ?_) (fun h2 => ?_)
    · refine R_aloadN d_jdk_43_method_22_code_29 rfl rfl ?_
      refine R_iloadN d_jdk_43_method_22_code_30 rfl ?_
      refine R_iloadN d_jdk_43_method_22_code_31 rfl ?_
      refine R_iloadN d_jdk_43_method_22_code_32 rfl ?_
      refine R_call (S_static (as := [_, _, _, _]) (rest := _) d_jdk_43_method_22_code_33 (hw _ (mem 100 rfl)) (hw _ (mem 101 rfl)) (hw _ (mem 93 rfl)) (hw _ (mem 102 rfl)) (by decide) pd_oaBIIIcI rfl rfl rfl) (M_ioc hw t bt ad bs x hj) (pkS 0 rfl pk0) (hw _ (mem 102 rfl)) (hw _ (mem 93 rfl)) (Nat.le_of_ble_eq_true rfl) (Nat.le_of_ble_eq_true rfl) (Nat.le_of_ble_eq_true rfl) (Nat.le_of_ble_eq_true rfl) ?_
      rintro _ _ ⟨r, rfl, hr, rfl⟩
      try dsimp only [List.set_cons_zero, List.set_cons_succ, List.eraseIdx_cons_zero, List.eraseIdx_cons_succ, List.cons_append, List.nil_append, Option.toList]
      exact R_ireturn d_jdk_43_method_22_code_36 rfl ⟨r, rfl, hr, rfl⟩ (Nat.le_of_ble_eq_true rfl) (Nat.le_of_ble_eq_true rfl)
    · exact absurd ((i32_lt_iff (a := 0) (b := bs.length) (by omega) hl).mpr (by obtain ⟨j, j1, j2, j3⟩ := hj; omega)) h2
  · exact absurd h (by decide)

set_option maxRecDepth 65536 in
set_option maxHeartbeats 4000000 in
theorem M_sio2 {Γ : Gx} (hw : Words Γ) (hcs : CS Γ) (s1 t : Addr) (b1 bt : Bool) (m1 : List Fd) (ad : String) (bs : List Int32) (x : Int32) (hx : Lo x) (hj : ∃ j, ∃ (_ : 0 ≤ j) (h : j < bs.length), bs[j] = x.toInt8.toInt32) :
    Met Γ (⟨"java/lang/String", "indexOf", "(II)I"⟩ : MethodName) jdk_42_method_80_code 3 (some .int) ({ frames := 2, cells := 0, slots := 0, locals := 32 } : Room) #[(.ref s1), (.int x), (.int 0)] [(s1, b1, StrO Γ t m1), (t, bt, Ary Γ ad .byte (bs.map Value.int))] (fun v O' => ∃ r : Int32, v = some (.int r) ∧ ¬ r < 0 ∧ O' = [(s1, b1, StrO Γ t m1), (t, bt, Ary Γ ad .byte (bs.map Value.int))]) := by
  refine Met.intro pn_java_lang_String (Ls := [.val (.ref s1), .val (.int x), .val (.int 0)]) (fun m => by first | rfl | (simp [entryFrame, mkF, argsToLocals, Value.category]; done)) ?_
  intro F
  refine R_aloadN d_jdk_42_method_80_code_0 rfl rfl ?_
  refine R_call (S_virtual (as := []) (rest := _) (mem 0 rfl) d_jdk_42_method_80_code_1 (hw _ (mem 73 rfl)) (hw _ (mem 74 rfl)) (nf_sel (hw _ (mem 76 rfl))) (hw _ (mem 76 rfl)) (hw _ (mem 75 rfl)) (by decide) pd_ocZ rfl rfl rfl) (M_isl hw hcs s1 t b1 m1) (pkS 0 rfl pk0) (hw _ (mem 77 rfl)) (hw _ (mem 57 rfl)) (Nat.le_of_ble_eq_true rfl) (Nat.le_of_ble_eq_true rfl) (Nat.le_of_ble_eq_true rfl) (Nat.le_of_ble_eq_true rfl) ?_
  rintro _ _ ⟨rfl, rfl⟩
  try dsimp only [List.set_cons_zero, List.set_cons_succ, List.eraseIdx_cons_zero, List.eraseIdx_cons_succ, List.cons_append, List.nil_append, Option.toList]
  refine R_if_eq (pc' := 23) d_jdk_42_method_80_code_4 (by decide) (by decide) (fun h => ?_) (fun h => ?_)
  · exact absurd h (by decide)
  · refine R_aloadN d_jdk_42_method_80_code_7 rfl rfl ?_
    refine R_getfield d_jdk_42_method_80_code_8 (hw _ (mem 80 rfl)) Via.refl (mem 0 rfl) (mem 0 rfl) ?_
    refine R_iloadN d_jdk_42_method_80_code_11 rfl ?_
    refine R_iloadN d_jdk_42_method_80_code_12 rfl ?_
    refine R_aloadN d_jdk_42_method_80_code_13 rfl rfl ?_
    refine R_call (S_virtual (as := []) (rest := _) (mem 0 rfl) d_jdk_42_method_80_code_14 (hw _ (mem 81 rfl)) (hw _ (mem 82 rfl)) (nf_sel (hw _ (mem 84 rfl))) (hw _ (mem 84 rfl)) (hw _ (mem 83 rfl)) (by decide) pd_ocI rfl rfl rfl) (M_len hw hcs s1 t b1 bt m1 ad bs) (pkS 0 rfl (pkS 0 rfl pk0)) (hw _ (mem 85 rfl)) (hw _ (mem 57 rfl)) (Nat.le_of_ble_eq_true rfl) (Nat.le_of_ble_eq_true rfl) (Nat.le_of_ble_eq_true rfl) (Nat.le_of_ble_eq_true rfl) ?_
    rintro _ _ ⟨rfl, rfl⟩
    try dsimp only [List.set_cons_zero, List.set_cons_succ, List.eraseIdx_cons_zero, List.eraseIdx_cons_succ, List.cons_append, List.nil_append, Option.toList]
    refine R_call (S_static (as := [_, _, _, _]) (rest := _) d_jdk_42_method_80_code_17 (hw _ (mem 91 rfl)) (hw _ (mem 92 rfl)) (hw _ (mem 93 rfl)) (hw _ (mem 94 rfl)) (by decide) pd_oaBIIIcI rfl rfl rfl) (M_lio hw t bt ad bs x hx hj) (pkS 1 rfl pk0) (hw _ (mem 94 rfl)) (hw _ (mem 93 rfl)) (Nat.le_of_ble_eq_true rfl) (Nat.le_of_ble_eq_true rfl) (Nat.le_of_ble_eq_true rfl) (Nat.le_of_ble_eq_true rfl) ?_
    rintro _ _ ⟨r, rfl, hr, rfl⟩
    try dsimp only [List.set_cons_zero, List.set_cons_succ, List.eraseIdx_cons_zero, List.eraseIdx_cons_succ, List.cons_append, List.nil_append, Option.toList]
    refine R_order (pkS 1 rfl (pkS 0 rfl pk0)) ?_
    try dsimp only [List.set_cons_zero, List.set_cons_succ, List.eraseIdx_cons_zero, List.eraseIdx_cons_succ, List.cons_append, List.nil_append, Option.toList]
    refine R_goto (pc' := 36) d_jdk_42_method_80_code_20 (by decide) (by decide) ?_
    exact R_ireturn d_jdk_42_method_80_code_36 rfl ⟨r, rfl, hr, rfl⟩ (Nat.le_of_ble_eq_true rfl) (Nat.le_of_ble_eq_true rfl)

set_option maxRecDepth 65536 in
set_option maxHeartbeats 4000000 in
theorem M_sio {Γ : Gx} (hw : Words Γ) (hcs : CS Γ) (s1 t : Addr) (b1 bt : Bool) (m1 : List Fd) (ad : String) (bs : List Int32) (x : Int32) (hx : Lo x) (hj : ∃ j, ∃ (_ : 0 ≤ j) (h : j < bs.length), bs[j] = x.toInt8.toInt32) :
    Met Γ (⟨"java/lang/String", "indexOf", "(I)I"⟩ : MethodName) jdk_42_method_79_code 2 (some .int) ({ frames := 3, cells := 0, slots := 0, locals := 46 } : Room) #[(.ref s1), (.int x)] [(s1, b1, StrO Γ t m1), (t, bt, Ary Γ ad .byte (bs.map Value.int))] (fun v O' => ∃ r : Int32, v = some (.int r) ∧ ¬ r < 0 ∧ O' = [(s1, b1, StrO Γ t m1), (t, bt, Ary Γ ad .byte (bs.map Value.int))]) := by
  refine Met.intro pn_java_lang_String (Ls := [.val (.ref s1), .val (.int x)]) (fun m => by first | rfl | (simp [entryFrame, mkF, argsToLocals, Value.category]; done)) ?_
  intro F
  refine R_aloadN d_jdk_42_method_79_code_0 rfl rfl ?_
  refine R_iloadN d_jdk_42_method_79_code_1 rfl ?_
  refine R_iconst (0) d_jdk_42_method_79_code_2 (by decide) ?_
  refine R_call (S_virtual (as := [_, _]) (rest := _) (mem 0 rfl) d_jdk_42_method_79_code_3 (hw _ (mem 68 rfl)) (hw _ (mem 69 rfl)) (nf_sel (hw _ (mem 71 rfl))) (hw _ (mem 71 rfl)) (hw _ (mem 70 rfl)) (by decide) pd_oIIcI rfl rfl rfl) (M_sio2 hw hcs s1 t b1 bt m1 ad bs x hx hj) (pkS 0 rfl (pkS 0 rfl pk0)) (hw _ (mem 72 rfl)) (hw _ (mem 57 rfl)) (Nat.le_of_ble_eq_true rfl) (Nat.le_of_ble_eq_true rfl) (Nat.le_of_ble_eq_true rfl) (Nat.le_of_ble_eq_true rfl) ?_
  rintro _ _ ⟨r, rfl, hr, rfl⟩
  try dsimp only [List.set_cons_zero, List.set_cons_succ, List.eraseIdx_cons_zero, List.eraseIdx_cons_succ, List.cons_append, List.nil_append, Option.toList]
  exact R_ireturn d_jdk_42_method_79_code_6 rfl ⟨r, rfl, hr, rfl⟩ (Nat.le_of_ble_eq_true rfl) (Nat.le_of_ble_eq_true rfl)

abbrev l4 : List Int32 := [65, 81, 103, 119]
abbrev l16 : List Int32 := [65, 69, 73, 77, 81, 85, 89, 99, 103, 107, 111, 115, 119, 48, 52, 56]
theorem at_last (cs : List Int32) (X : List Value) (i : Nat) (x : Int32) (h : cs[i]? = some x) : (cs.map Value.int ++ X)[i]? = some (.int x) := by
  obtain ⟨h1, h2⟩ := List.getElem?_eq_some_iff.mp h
  rw [List.getElem?_append_left (by simpa using h1), List.getElem?_map, h]; rfl
theorem in_l {L : List Int32} {x : Int32} (hx : A7 x) (h : x ∈ L) : ∃ j, ∃ (_ : 0 ≤ j) (h : j < L.length), L[j] = x.toInt8.toInt32 := by
  obtain ⟨j, j1, j2⟩ := List.mem_iff_getElem.mp h
  refine ⟨j, Nat.zero_le _, j1, j2.trans ?_⟩
  obtain ⟨a, rfl⟩ := fin7 hx
  exact (by decide +kernel : ∀ a : Fin 128, Int32.ofNat a.val = (Int32.ofNat a.val).toInt8.toInt32) a
theorem lo7 {x : Int32} (hx : A7 x) : Lo x := by
  obtain ⟨a, rfl⟩ := fin7 hx
  exact (by decide +kernel : ∀ a : Fin 128, Lo (Int32.ofNat a.val)) a
theorem rem4 {n : Nat} (h : n = 0 ∨ n = 4 ∨ n = 8) : n.toInt32 % 4 = 0 := by rcases h with rfl | rfl | rfl <;> decide
set_option maxRecDepth 65536 in
set_option maxHeartbeats 4000000 in
theorem M_ends0 {Γ : Gx} (hw : Words Γ) (hcs : CS Γ) (hG : Lits Γ) (o rn rb de : Addr) (mx dl : Int32) (cs : List Int32) (X : List Value) (h0 : cs = []) :
    Met Γ (⟨"com/example/delta_mirror/deltamirror/rrdp/Base64Binary", "endsAsBase64Binary", "()Z"⟩ : MethodName) prog_3_method_6_code 2 (some .boolean) ({ frames := 4, cells := 2, slots := 68, locals := 59 } : Room) #[(.ref o)] [(o, true, BBO Γ rn rb de mx cs.length.toInt32 dl), (rn, true, BA Γ (cs.map Value.int ++ X))] (fun v O' => v = some (.int 1) ∧ O' = [(o, true, BBO Γ rn rb de mx cs.length.toInt32 dl), (rn, true, BA Γ (cs.map Value.int ++ X))]) := by
  refine Met.intro pn_com_example_delta_mirror_deltamirror_rrdp_Base64Binary (Ls := [.val (.ref o), .unset]) (fun m => by first | rfl | (simp [entryFrame, mkF, argsToLocals, Value.category]; done)) ?_
  intro F
  have hn : cs.length = 0 := by rw [h0]; rfl
  refine R_aloadN d_prog_3_method_6_code_0 rfl rfl ?_
  refine R_getfield d_prog_3_method_6_code_1 (hw _ (mem 45 rfl)) Via.refl (mem 0 rfl) (mem 4 rfl) ?_
  refine R_iconst (4) d_prog_3_method_6_code_4 (by decide) ?_
  refine R_irem d_prog_3_method_6_code_5 (by decide) ?_
  rw [rem4 (by omega)]
  refine R_if_eq (pc' := 14) d_prog_3_method_6_code_6 (by decide) (by decide) (fun h => ?_) (fun h => ?_)
  · refine R_aloadN d_prog_3_method_6_code_14 rfl rfl ?_
    refine R_getfield d_prog_3_method_6_code_15 (hw _ (mem 45 rfl)) Via.refl (mem 0 rfl) (mem 4 rfl) ?_
    rw [hn]
    refine R_if_le (pc' := 81) d_prog_3_method_6_code_18 (by decide) (by decide) (fun h1 => ?_) (fun h1 => ?_)
    · refine R_aloadN d_prog_3_method_6_code_81 rfl rfl ?_
      refine R_getfield d_prog_3_method_6_code_82 (hw _ (mem 45 rfl)) Via.refl (mem 0 rfl) (mem 4 rfl) ?_
      refine R_if_le (pc' := 132) d_prog_3_method_6_code_85 (by decide) (by decide) (fun h2 => ?_) (fun h2 => ?_)
      · refine R_iconst (1) d_prog_3_method_6_code_132 (by decide) ?_
        refine R_istoreN d_prog_3_method_6_code_133 rfl (by first | exact Or.inl rfl | exact Or.inr ⟨_, rfl, rfl⟩) ?_
        try dsimp only [List.set_cons_zero, List.set_cons_succ, List.eraseIdx_cons_zero, List.eraseIdx_cons_succ, List.cons_append, List.nil_append, Option.toList]
        refine R_iloadN d_prog_3_method_6_code_134 rfl ?_
        exact R_ireturnN d_prog_3_method_6_code_135 rfl (by simp) ⟨rfl, rfl⟩ (Nat.le_of_ble_eq_true rfl) (Nat.le_of_ble_eq_true rfl)
      · exact absurd h2 (by decide)
    · exact absurd h1 (by decide)
  · exact absurd rfl h

set_option maxRecDepth 65536 in
set_option maxHeartbeats 4000000 in
theorem M_ends1 {Γ : Gx} (hw : Words Γ) (hcs : CS Γ) (hG : Lits Γ) (o rn rb de : Addr) (mx dl : Int32) (cs : List Int32) (X : List Value) (hl : cs.length = 4 ∨ cs.length = 8) (x4 : Int32) (e4 : cs[cs.length - 1]? = some x4) (h4 : ¬ x4 = 61) :
    Met Γ (⟨"com/example/delta_mirror/deltamirror/rrdp/Base64Binary", "endsAsBase64Binary", "()Z"⟩ : MethodName) prog_3_method_6_code 2 (some .boolean) ({ frames := 4, cells := 2, slots := 68, locals := 59 } : Room) #[(.ref o)] [(o, true, BBO Γ rn rb de mx cs.length.toInt32 dl), (rn, true, BA Γ (cs.map Value.int ++ X))] (fun v O' => v = some (.int 1) ∧ O' = [(o, true, BBO Γ rn rb de mx cs.length.toInt32 dl), (rn, true, BA Γ (cs.map Value.int ++ X))]) := by
  refine Met.intro pn_com_example_delta_mirror_deltamirror_rrdp_Base64Binary (Ls := [.val (.ref o), .unset]) (fun m => by first | rfl | (simp [entryFrame, mkF, argsToLocals, Value.category]; done)) ?_
  intro F
  refine R_aloadN d_prog_3_method_6_code_0 rfl rfl ?_
  refine R_getfield d_prog_3_method_6_code_1 (hw _ (mem 45 rfl)) Via.refl (mem 0 rfl) (mem 4 rfl) ?_
  refine R_iconst (4) d_prog_3_method_6_code_4 (by decide) ?_
  refine R_irem d_prog_3_method_6_code_5 (by decide) ?_
  rw [rem4 (by omega)]
  refine R_if_eq (pc' := 14) d_prog_3_method_6_code_6 (by decide) (by decide) (fun h => ?_) (fun h => ?_)
  · refine R_aloadN d_prog_3_method_6_code_14 rfl rfl ?_
    refine R_getfield d_prog_3_method_6_code_15 (hw _ (mem 45 rfl)) Via.refl (mem 0 rfl) (mem 4 rfl) ?_
    refine R_if_le (pc' := 81) d_prog_3_method_6_code_18 (by decide) (by decide) (fun h1 => ?_) (fun h1 => ?_)
    · exact absurd ((i32_lt_iff (a := 0) (b := cs.length) (by omega) (by omega)).mpr (by omega)) h1
    · refine R_aloadN d_prog_3_method_6_code_21 rfl rfl ?_
      refine R_getfield d_prog_3_method_6_code_22 (hw _ (mem 32 rfl)) Via.refl (mem 0 rfl) (mem 0 rfl) ?_
      refine R_aloadN d_prog_3_method_6_code_25 rfl rfl ?_
      refine R_getfield d_prog_3_method_6_code_26 (hw _ (mem 45 rfl)) Via.refl (mem 0 rfl) (mem 4 rfl) ?_
      refine R_iconst (1) d_prog_3_method_6_code_29 (by decide) ?_
      refine R_isub d_prog_3_method_6_code_30 ?_
      rw [show cs.length.toInt32 - 1 = (cs.length - 1).toInt32 from i32_sub (b := 1) (by omega)]
      refine R_baload d_prog_3_method_6_code_31 (mem 1 rfl) (i32_nn (by omega)) (cs.length - 1) (i32_cl (by omega)) (at_last _ _ _ _ e4) ?_
      refine R_bipush (61) d_prog_3_method_6_code_32 (by decide) ?_
      refine R_icmp_ne (pc' := 81) d_prog_3_method_6_code_34 (by decide) (by decide) (fun g4 => ?_) (fun g4 => ?_)
      · refine R_aloadN d_prog_3_method_6_code_81 rfl rfl ?_
        refine R_getfield d_prog_3_method_6_code_82 (hw _ (mem 45 rfl)) Via.refl (mem 0 rfl) (mem 4 rfl) ?_
        refine R_if_le (pc' := 132) d_prog_3_method_6_code_85 (by decide) (by decide) (fun k1 => ?_) (fun k1 => ?_)
        · exact absurd ((i32_lt_iff (a := 0) (b := cs.length) (by omega) (by omega)).mpr (by omega)) k1
        · refine R_aloadN d_prog_3_method_6_code_88 rfl rfl ?_
          refine R_getfield d_prog_3_method_6_code_89 (hw _ (mem 32 rfl)) Via.refl (mem 0 rfl) (mem 0 rfl) ?_
          refine R_aloadN d_prog_3_method_6_code_92 rfl rfl ?_
          refine R_getfield d_prog_3_method_6_code_93 (hw _ (mem 45 rfl)) Via.refl (mem 0 rfl) (mem 4 rfl) ?_
          refine R_iconst (1) d_prog_3_method_6_code_96 (by decide) ?_
          refine R_isub d_prog_3_method_6_code_97 ?_
          rw [show cs.length.toInt32 - 1 = (cs.length - 1).toInt32 from i32_sub (b := 1) (by omega)]
          refine R_baload d_prog_3_method_6_code_98 (mem 1 rfl) (i32_nn (by omega)) (cs.length - 1) (i32_cl (by omega)) (at_last _ _ _ _ e4) ?_
          refine R_bipush (61) d_prog_3_method_6_code_99 (by decide) ?_
          refine R_icmp_ne (pc' := 132) d_prog_3_method_6_code_101 (by decide) (by decide) (fun k2 => ?_) (fun k2 => ?_)
          · refine R_iconst (1) d_prog_3_method_6_code_132 (by decide) ?_
            refine R_istoreN d_prog_3_method_6_code_133 rfl (by first | exact Or.inl rfl | exact Or.inr ⟨_, rfl, rfl⟩) ?_
            try dsimp only [List.set_cons_zero, List.set_cons_succ, List.eraseIdx_cons_zero, List.eraseIdx_cons_succ, List.cons_append, List.nil_append, Option.toList]
            refine R_iloadN d_prog_3_method_6_code_134 rfl ?_
            exact R_ireturnN d_prog_3_method_6_code_135 rfl (by simp) ⟨rfl, rfl⟩ (Nat.le_of_ble_eq_true rfl) (Nat.le_of_ble_eq_true rfl)
          · exact absurd k2 h4
      · exact absurd g4 h4
  · exact absurd rfl h

set_option maxRecDepth 65536 in
set_option maxHeartbeats 4000000 in
theorem M_ends2 {Γ : Gx} (hw : Words Γ) (hcs : CS Γ) (hG : Lits Γ) (o rn rb de : Addr) (mx dl : Int32) (cs : List Int32) (X : List Value) (hl : cs.length = 4 ∨ cs.length = 8) (x4 x3 : Int32) (e4 : cs[cs.length - 1]? = some x4) (h4 : x4 = 61) (e3 : cs[cs.length - 2]? = some x3) (h3 : ¬ x3 = 61) (hx : A7 x3) (hm : x3 ∈ l16) :
    Met Γ (⟨"com/example/delta_mirror/deltamirror/rrdp/Base64Binary", "endsAsBase64Binary", "()Z"⟩ : MethodName) prog_3_method_6_code 2 (some .boolean) ({ frames := 4, cells := 2, slots := 68, locals := 59 } : Room) #[(.ref o)] [(o, true, BBO Γ rn rb de mx cs.length.toInt32 dl), (rn, true, BA Γ (cs.map Value.int ++ X))] (fun v O' => v = some (.int 1) ∧ O' = [(o, true, BBO Γ rn rb de mx cs.length.toInt32 dl), (rn, true, BA Γ (cs.map Value.int ++ X))]) := by
  refine Met.intro pn_com_example_delta_mirror_deltamirror_rrdp_Base64Binary (Ls := [.val (.ref o), .unset]) (fun m => by first | rfl | (simp [entryFrame, mkF, argsToLocals, Value.category]; done)) ?_
  intro F
  refine R_aloadN d_prog_3_method_6_code_0 rfl rfl ?_
  refine R_getfield d_prog_3_method_6_code_1 (hw _ (mem 45 rfl)) Via.refl (mem 0 rfl) (mem 4 rfl) ?_
  refine R_iconst (4) d_prog_3_method_6_code_4 (by decide) ?_
  refine R_irem d_prog_3_method_6_code_5 (by decide) ?_
  rw [rem4 (by omega)]
  refine R_if_eq (pc' := 14) d_prog_3_method_6_code_6 (by decide) (by decide) (fun h => ?_) (fun h => ?_)
  · refine R_aloadN d_prog_3_method_6_code_14 rfl rfl ?_
    refine R_getfield d_prog_3_method_6_code_15 (hw _ (mem 45 rfl)) Via.refl (mem 0 rfl) (mem 4 rfl) ?_
    refine R_if_le (pc' := 81) d_prog_3_method_6_code_18 (by decide) (by decide) (fun h1 => ?_) (fun h1 => ?_)
    · exact absurd ((i32_lt_iff (a := 0) (b := cs.length) (by omega) (by omega)).mpr (by omega)) h1
    · refine R_aloadN d_prog_3_method_6_code_21 rfl rfl ?_
      refine R_getfield d_prog_3_method_6_code_22 (hw _ (mem 32 rfl)) Via.refl (mem 0 rfl) (mem 0 rfl) ?_
      refine R_aloadN d_prog_3_method_6_code_25 rfl rfl ?_
      refine R_getfield d_prog_3_method_6_code_26 (hw _ (mem 45 rfl)) Via.refl (mem 0 rfl) (mem 4 rfl) ?_
      refine R_iconst (1) d_prog_3_method_6_code_29 (by decide) ?_
      refine R_isub d_prog_3_method_6_code_30 ?_
      rw [show cs.length.toInt32 - 1 = (cs.length - 1).toInt32 from i32_sub (b := 1) (by omega)]
      refine R_baload d_prog_3_method_6_code_31 (mem 1 rfl) (i32_nn (by omega)) (cs.length - 1) (i32_cl (by omega)) (at_last _ _ _ _ e4) ?_
      refine R_bipush (61) d_prog_3_method_6_code_32 (by decide) ?_
      refine R_icmp_ne (pc' := 81) d_prog_3_method_6_code_34 (by decide) (by decide) (fun g4 => ?_) (fun g4 => ?_)
      · exact absurd h4 g4
      · refine R_aloadN d_prog_3_method_6_code_37 rfl rfl ?_
        refine R_getfield d_prog_3_method_6_code_38 (hw _ (mem 32 rfl)) Via.refl (mem 0 rfl) (mem 0 rfl) ?_
        refine R_aloadN d_prog_3_method_6_code_41 rfl rfl ?_
        refine R_getfield d_prog_3_method_6_code_42 (hw _ (mem 45 rfl)) Via.refl (mem 0 rfl) (mem 4 rfl) ?_
        refine R_iconst (2) d_prog_3_method_6_code_45 (by decide) ?_
        refine R_isub d_prog_3_method_6_code_46 ?_
        rw [show cs.length.toInt32 - 2 = (cs.length - 2).toInt32 from i32_sub (b := 2) (by omega)]
        refine R_baload d_prog_3_method_6_code_47 (mem 1 rfl) (i32_nn (by omega)) (cs.length - 2) (i32_cl (by omega)) (at_last _ _ _ _ e3) ?_
        refine R_bipush (61) d_prog_3_method_6_code_48 (by decide) ?_
        refine R_icmp_ne (pc' := 81) d_prog_3_method_6_code_50 (by decide) (by decide) (fun g3 => ?_) (fun g3 => ?_)
        · refine R_aloadN d_prog_3_method_6_code_81 rfl rfl ?_
          refine R_getfield d_prog_3_method_6_code_82 (hw _ (mem 45 rfl)) Via.refl (mem 0 rfl) (mem 4 rfl) ?_
          refine R_if_le (pc' := 132) d_prog_3_method_6_code_85 (by decide) (by decide) (fun k1 => ?_) (fun k1 => ?_)
          · exact absurd ((i32_lt_iff (a := 0) (b := cs.length) (by omega) (by omega)).mpr (by omega)) k1
          · refine R_aloadN d_prog_3_method_6_code_88 rfl rfl ?_
            refine R_getfield d_prog_3_method_6_code_89 (hw _ (mem 32 rfl)) Via.refl (mem 0 rfl) (mem 0 rfl) ?_
            refine R_aloadN d_prog_3_method_6_code_92 rfl rfl ?_
            refine R_getfield d_prog_3_method_6_code_93 (hw _ (mem 45 rfl)) Via.refl (mem 0 rfl) (mem 4 rfl) ?_
            refine R_iconst (1) d_prog_3_method_6_code_96 (by decide) ?_
            refine R_isub d_prog_3_method_6_code_97 ?_
            rw [show cs.length.toInt32 - 1 = (cs.length - 1).toInt32 from i32_sub (b := 1) (by omega)]
            refine R_baload d_prog_3_method_6_code_98 (mem 1 rfl) (i32_nn (by omega)) (cs.length - 1) (i32_cl (by omega)) (at_last _ _ _ _ e4) ?_
            refine R_bipush (61) d_prog_3_method_6_code_99 (by decide) ?_
            refine R_icmp_ne (pc' := 132) d_prog_3_method_6_code_101 (by decide) (by decide) (fun k2 => ?_) (fun k2 => ?_)
            · exact absurd h4 k2
            · refine R_ldcS [.int 65, .int 69, .int 73, .int 77, .int 81, .int 85, .int 89, .int 99, .int 103, .int 107, .int 111, .int 115, .int 119, .int 48, .int 52, .int 56] 64 hG.1 d_prog_3_method_6_code_104 (hw _ (mem 56 rfl)) (atomsW hw) (el_mem hG.2 1 rfl) (by decide +kernel) (Nat.le_of_ble_eq_true rfl) (by decide +kernel) (Nat.le_of_ble_eq_true rfl) (Nat.le_of_ble_eq_true rfl) (Nat.le_of_ble_eq_true rfl) (hw _ (mem 59 rfl)) (hw _ (mem 60 rfl)) fun q u => ?_
              refine R_aloadN d_prog_3_method_6_code_106 rfl rfl ?_
              refine R_getfield d_prog_3_method_6_code_107 (hw _ (mem 32 rfl)) Via.refl (mem 2 rfl) (mem 0 rfl) ?_
              refine R_aloadN d_prog_3_method_6_code_110 rfl rfl ?_
              refine R_getfield d_prog_3_method_6_code_111 (hw _ (mem 45 rfl)) Via.refl (mem 2 rfl) (mem 4 rfl) ?_
              refine R_iconst (2) d_prog_3_method_6_code_114 (by decide) ?_
              refine R_isub d_prog_3_method_6_code_115 ?_
              rw [show cs.length.toInt32 - 2 = (cs.length - 2).toInt32 from i32_sub (b := 2) (by omega)]
              refine R_baload d_prog_3_method_6_code_116 (mem 3 rfl) (i32_nn (by omega)) (cs.length - 2) (i32_cl (by omega)) (at_last _ _ _ _ e3) ?_
              refine R_call (S_virtual (as := [_]) (rest := _) (mem 0 rfl) d_prog_3_method_6_code_117 (hw _ (mem 63 rfl)) (hw _ (mem 64 rfl)) (nf_sel (hw _ (mem 66 rfl))) (hw _ (mem 66 rfl)) (hw _ (mem 65 rfl)) (by decide) pd_oIcI rfl rfl rfl) (M_sio hw hcs q u false false [] "" l16 _ (lo7 hx) (in_l hx hm)) (pkS 0 rfl (pkS 0 rfl pk0)) (hw _ (mem 67 rfl)) (hw _ (mem 57 rfl)) (Nat.le_of_ble_eq_true rfl) (Nat.le_of_ble_eq_true rfl) (Nat.le_of_ble_eq_true rfl) (Nat.le_of_ble_eq_true rfl) ?_
              rintro _ _ ⟨r, rfl, hr, rfl⟩
              try dsimp only [List.set_cons_zero, List.set_cons_succ, List.eraseIdx_cons_zero, List.eraseIdx_cons_succ, List.cons_append, List.nil_append, Option.toList]
              refine R_if_lt (pc' := 127) d_prog_3_method_6_code_120 (by decide) (by decide) (fun k9 => ?_) (fun k9 => ?_)
              · exact absurd k9 hr
              · refine R_iconst (1) d_prog_3_method_6_code_123 (by decide) ?_
                refine R_goto (pc' := 128) d_prog_3_method_6_code_124 (by decide) (by decide) ?_
                refine R_istoreN d_prog_3_method_6_code_128 rfl (by first | exact Or.inl rfl | exact Or.inr ⟨_, rfl, rfl⟩) ?_
                try dsimp only [List.set_cons_zero, List.set_cons_succ, List.eraseIdx_cons_zero, List.eraseIdx_cons_succ, List.cons_append, List.nil_append, Option.toList]
                refine R_goto (pc' := 134) d_prog_3_method_6_code_129 (by decide) (by decide) ?_
                refine R_iloadN d_prog_3_method_6_code_134 rfl ?_
                refine R_drop 0 ?_
                refine R_drop 0 ?_
                try dsimp only [List.set_cons_zero, List.set_cons_succ, List.eraseIdx_cons_zero, List.eraseIdx_cons_succ, List.cons_append, List.nil_append, Option.toList]
                exact R_ireturnN d_prog_3_method_6_code_135 rfl (by simp) ⟨rfl, rfl⟩ (Nat.le_of_ble_eq_true rfl) (Nat.le_of_ble_eq_true rfl)
        · exact absurd g3 h3
  · exact absurd rfl h

set_option maxRecDepth 65536 in
set_option maxHeartbeats 4000000 in
theorem M_ends3 {Γ : Gx} (hw : Words Γ) (hcs : CS Γ) (hG : Lits Γ) (o rn rb de : Addr) (mx dl : Int32) (cs : List Int32) (X : List Value) (hl : cs.length = 4 ∨ cs.length = 8) (x4 x3 x2 : Int32) (e4 : cs[cs.length - 1]? = some x4) (h4 : x4 = 61) (e3 : cs[cs.length - 2]? = some x3) (h3 : x3 = 61) (e2 : cs[cs.length - 3]? = some x2) (hx : A7 x2) (hm : x2 ∈ l4) :
    Met Γ (⟨"com/example/delta_mirror/deltamirror/rrdp/Base64Binary", "endsAsBase64Binary", "()Z"⟩ : MethodName) prog_3_method_6_code 2 (some .boolean) ({ frames := 4, cells := 2, slots := 68, locals := 59 } : Room) #[(.ref o)] [(o, true, BBO Γ rn rb de mx cs.length.toInt32 dl), (rn, true, BA Γ (cs.map Value.int ++ X))] (fun v O' => v = some (.int 1) ∧ O' = [(o, true, BBO Γ rn rb de mx cs.length.toInt32 dl), (rn, true, BA Γ (cs.map Value.int ++ X))]) := by
  refine Met.intro pn_com_example_delta_mirror_deltamirror_rrdp_Base64Binary (Ls := [.val (.ref o), .unset]) (fun m => by first | rfl | (simp [entryFrame, mkF, argsToLocals, Value.category]; done)) ?_
  intro F
  refine R_aloadN d_prog_3_method_6_code_0 rfl rfl ?_
  refine R_getfield d_prog_3_method_6_code_1 (hw _ (mem 45 rfl)) Via.refl (mem 0 rfl) (mem 4 rfl) ?_
  refine R_iconst (4) d_prog_3_method_6_code_4 (by decide) ?_
  refine R_irem d_prog_3_method_6_code_5 (by decide) ?_
  rw [rem4 (by omega)]
  refine R_if_eq (pc' := 14) d_prog_3_method_6_code_6 (by decide) (by decide) (fun h => ?_) (fun h => ?_)
  · refine R_aloadN d_prog_3_method_6_code_14 rfl rfl ?_
    refine R_getfield d_prog_3_method_6_code_15 (hw _ (mem 45 rfl)) Via.refl (mem 0 rfl) (mem 4 rfl) ?_
    refine R_if_le (pc' := 81) d_prog_3_method_6_code_18 (by decide) (by decide) (fun h1 => ?_) (fun h1 => ?_)
    · exact absurd ((i32_lt_iff (a := 0) (b := cs.length) (by omega) (by omega)).mpr (by omega)) h1
    · refine R_aloadN d_prog_3_method_6_code_21 rfl rfl ?_
      refine R_getfield d_prog_3_method_6_code_22 (hw _ (mem 32 rfl)) Via.refl (mem 0 rfl) (mem 0 rfl) ?_
      refine R_aloadN d_prog_3_method_6_code_25 rfl rfl ?_
      refine R_getfield d_prog_3_method_6_code_26 (hw _ (mem 45 rfl)) Via.refl (mem 0 rfl) (mem 4 rfl) ?_
      refine R_iconst (1) d_prog_3_method_6_code_29 (by decide) ?_
      refine R_isub d_prog_3_method_6_code_30 ?_
      rw [show cs.length.toInt32 - 1 = (cs.length - 1).toInt32 from i32_sub (b := 1) (by omega)]
      refine R_baload d_prog_3_method_6_code_31 (mem 1 rfl) (i32_nn (by omega)) (cs.length - 1) (i32_cl (by omega)) (at_last _ _ _ _ e4) ?_
      refine R_bipush (61) d_prog_3_method_6_code_32 (by decide) ?_
      refine R_icmp_ne (pc' := 81) d_prog_3_method_6_code_34 (by decide) (by decide) (fun g4 => ?_) (fun g4 => ?_)
      · exact absurd h4 g4
      · refine R_aloadN d_prog_3_method_6_code_37 rfl rfl ?_
        refine R_getfield d_prog_3_method_6_code_38 (hw _ (mem 32 rfl)) Via.refl (mem 0 rfl) (mem 0 rfl) ?_
        refine R_aloadN d_prog_3_method_6_code_41 rfl rfl ?_
        refine R_getfield d_prog_3_method_6_code_42 (hw _ (mem 45 rfl)) Via.refl (mem 0 rfl) (mem 4 rfl) ?_
        refine R_iconst (2) d_prog_3_method_6_code_45 (by decide) ?_
        refine R_isub d_prog_3_method_6_code_46 ?_
        rw [show cs.length.toInt32 - 2 = (cs.length - 2).toInt32 from i32_sub (b := 2) (by omega)]
        refine R_baload d_prog_3_method_6_code_47 (mem 1 rfl) (i32_nn (by omega)) (cs.length - 2) (i32_cl (by omega)) (at_last _ _ _ _ e3) ?_
        refine R_bipush (61) d_prog_3_method_6_code_48 (by decide) ?_
        refine R_icmp_ne (pc' := 81) d_prog_3_method_6_code_50 (by decide) (by decide) (fun g3 => ?_) (fun g3 => ?_)
        · exact absurd h3 g3
        · refine R_ldcS [.int 65, .int 81, .int 103, .int 119] 16 hG.1 d_prog_3_method_6_code_53 (hw _ (mem 168 rfl)) (atomsW hw) (el_mem hG.2 0 rfl) (by decide +kernel) (Nat.le_of_ble_eq_true rfl) (by decide +kernel) (Nat.le_of_ble_eq_true rfl) (Nat.le_of_ble_eq_true rfl) (Nat.le_of_ble_eq_true rfl) (hw _ (mem 59 rfl)) (hw _ (mem 60 rfl)) fun q u => ?_
          refine R_aloadN d_prog_3_method_6_code_55 rfl rfl ?_
          refine R_getfield d_prog_3_method_6_code_56 (hw _ (mem 32 rfl)) Via.refl (mem 2 rfl) (mem 0 rfl) ?_
          refine R_aloadN d_prog_3_method_6_code_59 rfl rfl ?_
          refine R_getfield d_prog_3_method_6_code_60 (hw _ (mem 45 rfl)) Via.refl (mem 2 rfl) (mem 4 rfl) ?_
          refine R_iconst (3) d_prog_3_method_6_code_63 (by decide) ?_
          refine R_isub d_prog_3_method_6_code_64 ?_
          rw [show cs.length.toInt32 - 3 = (cs.length - 3).toInt32 from i32_sub (b := 3) (by omega)]
          refine R_baload d_prog_3_method_6_code_65 (mem 3 rfl) (i32_nn (by omega)) (cs.length - 3) (i32_cl (by omega)) (at_last _ _ _ _ e2) ?_
          refine R_call (S_virtual (as := [_]) (rest := _) (mem 0 rfl) d_prog_3_method_6_code_66 (hw _ (mem 63 rfl)) (hw _ (mem 64 rfl)) (nf_sel (hw _ (mem 66 rfl))) (hw _ (mem 66 rfl)) (hw _ (mem 65 rfl)) (by decide) pd_oIcI rfl rfl rfl) (M_sio hw hcs q u false false [] "" l4 _ (lo7 hx) (in_l hx hm)) (pkS 0 rfl (pkS 0 rfl pk0)) (hw _ (mem 67 rfl)) (hw _ (mem 57 rfl)) (Nat.le_of_ble_eq_true rfl) (Nat.le_of_ble_eq_true rfl) (Nat.le_of_ble_eq_true rfl) (Nat.le_of_ble_eq_true rfl) ?_
          rintro _ _ ⟨r, rfl, hr, rfl⟩
          try dsimp only [List.set_cons_zero, List.set_cons_succ, List.eraseIdx_cons_zero, List.eraseIdx_cons_succ, List.cons_append, List.nil_append, Option.toList]
          refine R_if_lt (pc' := 76) d_prog_3_method_6_code_69 (by decide) (by decide) (fun k9 => ?_) (fun k9 => ?_)
          · exact absurd k9 hr
          · refine R_iconst (1) d_prog_3_method_6_code_72 (by decide) ?_
            refine R_goto (pc' := 77) d_prog_3_method_6_code_73 (by decide) (by decide) ?_
            refine R_istoreN d_prog_3_method_6_code_77 rfl (by first | exact Or.inl rfl | exact Or.inr ⟨_, rfl, rfl⟩) ?_
            try dsimp only [List.set_cons_zero, List.set_cons_succ, List.eraseIdx_cons_zero, List.eraseIdx_cons_succ, List.cons_append, List.nil_append, Option.toList]
            refine R_goto (pc' := 134) d_prog_3_method_6_code_78 (by decide) (by decide) ?_
            refine R_iloadN d_prog_3_method_6_code_134 rfl ?_
            refine R_drop 0 ?_
            refine R_drop 0 ?_
            try dsimp only [List.set_cons_zero, List.set_cons_succ, List.eraseIdx_cons_zero, List.eraseIdx_cons_succ, List.cons_append, List.nil_append, Option.toList]
            exact R_ireturnN d_prog_3_method_6_code_135 rfl (by simp) ⟨rfl, rfl⟩ (Nat.le_of_ble_eq_true rfl) (Nat.le_of_ble_eq_true rfl)
  · exact absurd rfl h

def tab64 : List Int32 := [-1, -1, -1, -1, -1, -1, -1, -1, -1, -1, -1, -1, -1, -1, -1, -1, -1, -1, -1, -1, -1, -1, -1, -1, -1, -1, -1, -1, -1, -1, -1, -1, -1, -1, -1, -1, -1, -1, -1, -1, -1, -1, -1, 62, -1, -1, -1, 63, 52, 53, 54, 55, 56, 57, 58, 59, 60, 61, -1, -1, -1, -2, -1, -1, -1, 0, 1, 2, 3, 4, 5, 6, 7, 8, 9, 10, 11, 12, 13, 14, 15, 16, 17, 18, 19, 20, 21, 22, 23, 24, 25, -1, -1, -1, -1, -1, -1, 26, 27, 28, 29, 30, 31, 32, 33, 34, 35, 36, 37, 38, 39, 40, 41, 42, 43, 44, 45, 46, 47, 48, 49, 50, 51, -1, -1, -1, -1, -1, -1, -1, -1, -1, -1, -1, -1, -1, -1, -1, -1, -1, -1, -1, -1, -1, -1, -1, -1, -1, -1, -1, -1, -1, -1, -1, -1, -1, -1, -1, -1, -1, -1, -1, -1, -1, -1, -1, -1, -1, -1, -1, -1, -1, -1, -1, -1, -1, -1, -1, -1, -1, -1, -1, -1, -1, -1, -1, -1, -1, -1, -1, -1, -1, -1, -1, -1, -1, -1, -1, -1, -1, -1, -1, -1, -1, -1, -1, -1, -1, -1, -1, -1, -1, -1, -1, -1, -1, -1, -1, -1, -1, -1, -1, -1, -1, -1, -1, -1, -1, -1, -1, -1, -1, -1, -1, -1, -1, -1, -1, -1, -1, -1, -1, -1, -1, -1, -1, -1, -1, -1, -1, -1, -1, -1, -1, -1, -1]
abbrev TT : Jvm.Term := .static "java/util/Base64$Decoder" "fromBase64" "[I"
set_option maxRecDepth 65536 in
theorem tabW : (List.range 256).map (fun j => jdkStatics_1[14 + j]?) = (List.range 256).map (fun j => some (Jvm.Cond.eq (.elem TT (.int j.toInt32)) (.int (tab64.getD j 0)))) := by rfl
set_option maxRecDepth 65536 in
theorem tab_len : tab64.length = 256 := by decide
theorem tabW1 (j : Nat) (hj : j < 256) : jdkStatics_1[14 + j]? = some (Jvm.Cond.eq (.elem TT (.int j.toInt32)) (.int (tab64.getD j 0))) := by
  have := congrArg (fun L => L[j]?) tabW
  simpa [hj] using this
abbrev DCO (Γ : Gx) : Cell → Prop := Obj Γ "java/util/Base64$Decoder" [("java/util/Base64$Decoder", "isURL", "Z", .int 0), ("java/util/Base64$Decoder", "isMIME", "Z", .int 0)]
/-- the decoder's table, the project's decoder -/
def D64 (Γ : Gx) (ta dc : Addr) : Prop := Sta Γ.Z Γ.Z.heap "java/util/Base64$Decoder" "fromBase64" "[I" (.ref ta) ∧ Sta Γ.Z Γ.Z.heap "com/example/delta_mirror/deltamirror/rrdp/Base64Binary" "DECODER" "Ljava/util/Base64$Decoder;" (.ref dc) ∧ (∃ c0, Γ.Z.heap[ta]? = some c0 ∧ Ary Γ "" .int (tab64.map Value.int) c0) ∧ (∃ c0, Γ.Z.heap[dc]? = some c0 ∧ DCO Γ c0)
theorem and7 {j : Nat} (h : j < 128) : j.toInt32 &&& 255 = j.toInt32 := (by decide +kernel : ∀ a : Fin 128, (Int32.ofNat a.val) &&& 255 = Int32.ofNat a.val) ⟨j, h⟩
theorem tab_at {j : Nat} {x : Int32} (h : tab64[j]? = some x) : (tab64.map Value.int)[j]? = some (.int x) := by rw [List.getElem?_map, h]; rfl
theorem dol_v {n : Nat} (h : n = 4 ∨ n = 8) : (3 * ((n.toInt32.toInt64 + 3) / 4).toInt32 - 0 = (3 * (n / 4)).toInt32 ∧ 3 * ((n.toInt32.toInt64 + 3) / 4).toInt32 - (0 + 1) = (3 * (n / 4) - 1).toInt32 ∧ 3 * ((n.toInt32.toInt64 + 3) / 4).toInt32 - (0 + 1 + 1) = (3 * (n / 4) - 2).toInt32) ∧ n.toInt32 &&& 3 = 0 := by
  rcases h with rfl | rfl <;> decide
set_option maxRecDepth 65536 in
set_option maxHeartbeats 4000000 in
theorem M_dol0 {Γ : Gx} (hw : Words Γ) (ta dc : Addr) (hD : D64 Γ ta dc) (sr : Addr) (bs : Bool) (ss : List Int32) (h0 : ss.length = 0) :
    Met Γ (⟨"java/util/Base64$Decoder", "decodedOutLength", "([BII)I"⟩ : MethodName) jdk_2450_method_7_code 9 (some .int) ({ frames := 0, cells := 0, slots := 0, locals := 0 } : Room) #[(.ref dc), (.ref sr), (.int 0), (.int ss.length.toInt32)] [(dc, false, DCO Γ), (sr, bs, BA Γ (ss.map Value.int))] (fun v O' => ∃ r : Nat, v = some (.int r.toInt32) ∧ r ≤ 6 ∧ O' = [(dc, false, DCO Γ), (sr, bs, BA Γ (ss.map Value.int))]) := by
  refine Met.intro pn_java_util_Base64_Decoder (Ls := [.val (.ref dc), .val (.ref sr), .val (.int 0), .val (.int ss.length.toInt32), .unset, .unset, .unset, .unset, .unset]) (fun m => by first | rfl | (simp [entryFrame, mkF, argsToLocals, Value.category]; done)) ?_
  intro F
  obtain ⟨sta, sdc, ⟨cta, xta, yta⟩, ⟨cdc, xdc, ydc⟩⟩ := id hD
  refine R_aloadN d_jdk_2450_method_7_code_0 rfl rfl ?_
  refine R_getfield d_jdk_2450_method_7_code_1 (hw _ (mem 129 rfl)) Via.refl (mem 0 rfl) (mem 0 rfl) ?_
  refine R_if_eq (pc' := 13) d_jdk_2450_method_7_code_4 (by decide) (by decide) (fun h => ?_) (fun h => ?_)
  · refine R_getstatic d_jdk_2450_method_7_code_13 (hw _ (mem 131 rfl)) Via.refl sta ?_
    refine R_astore d_jdk_2450_method_7_code_16 rfl rfl (by first | exact Or.inl rfl | exact Or.inr ⟨_, rfl, rfl⟩) ?_
    try dsimp only [List.set_cons_zero, List.set_cons_succ, List.eraseIdx_cons_zero, List.eraseIdx_cons_succ, List.cons_append, List.nil_append, Option.toList]
    refine R_iconst (0) d_jdk_2450_method_7_code_18 (by decide) ?_
    refine R_istore d_jdk_2450_method_7_code_19 rfl (by first | exact Or.inl rfl | exact Or.inr ⟨_, rfl, rfl⟩) ?_
    try dsimp only [List.set_cons_zero, List.set_cons_succ, List.eraseIdx_cons_zero, List.eraseIdx_cons_succ, List.cons_append, List.nil_append, Option.toList]
    refine R_iloadN d_jdk_2450_method_7_code_21 rfl ?_
    refine R_iloadN d_jdk_2450_method_7_code_22 rfl ?_
    refine R_isub d_jdk_2450_method_7_code_23 ?_
    rw [show ss.length.toInt32 - 0 = ss.length.toInt32 from by simp]
    refine R_istore d_jdk_2450_method_7_code_24 rfl (by first | exact Or.inl rfl | exact Or.inr ⟨_, rfl, rfl⟩) ?_
    try dsimp only [List.set_cons_zero, List.set_cons_succ, List.eraseIdx_cons_zero, List.eraseIdx_cons_succ, List.cons_append, List.nil_append, Option.toList]
    refine R_iload d_jdk_2450_method_7_code_26 rfl ?_
    refine R_if_ne (pc' := 33) d_jdk_2450_method_7_code_28 (by decide) (by decide) (fun h1 => ?_) (fun h1 => ?_)
    · exact absurd (show ss.length.toInt32 = 0 from by rw [h0]; rfl) h1
    · refine R_iconst (0) d_jdk_2450_method_7_code_31 (by decide) ?_
      exact R_ireturn d_jdk_2450_method_7_code_32 rfl ⟨0, rfl, by omega, rfl⟩ (Nat.le_of_ble_eq_true rfl) (Nat.le_of_ble_eq_true rfl)
  · exact absurd rfl h

set_option maxRecDepth 65536 in
set_option maxHeartbeats 4000000 in
theorem M_dol {Γ : Gx} (hw : Words Γ) (ta dc : Addr) (hD : D64 Γ ta dc) (sr : Addr) (bs : Bool) (ss : List Int32) (hl : ss.length = 4 ∨ ss.length = 8) (x4 x3 : Int32) (e4 : ss[ss.length - 1]? = some x4) (e3 : ss[ss.length - 2]? = some x3) :
    Met Γ (⟨"java/util/Base64$Decoder", "decodedOutLength", "([BII)I"⟩ : MethodName) jdk_2450_method_7_code 9 (some .int) ({ frames := 0, cells := 0, slots := 0, locals := 0 } : Room) #[(.ref dc), (.ref sr), (.int 0), (.int ss.length.toInt32)] [(dc, false, DCO Γ), (sr, bs, BA Γ (ss.map Value.int))] (fun v O' => ∃ r : Nat, v = some (.int r.toInt32) ∧ r ≤ 6 ∧ O' = [(dc, false, DCO Γ), (sr, bs, BA Γ (ss.map Value.int))]) := by
  refine Met.intro pn_java_util_Base64_Decoder (Ls := [.val (.ref dc), .val (.ref sr), .val (.int 0), .val (.int ss.length.toInt32), .unset, .unset, .unset, .unset, .unset]) (fun m => by first | rfl | (simp [entryFrame, mkF, argsToLocals, Value.category]; done)) ?_
  intro F
  obtain ⟨sta, sdc, ⟨cta, xta, yta⟩, ⟨cdc, xdc, ydc⟩⟩ := id hD
  refine R_aloadN d_jdk_2450_method_7_code_0 rfl rfl ?_
  refine R_getfield d_jdk_2450_method_7_code_1 (hw _ (mem 129 rfl)) Via.refl (mem 0 rfl) (mem 0 rfl) ?_
  refine R_if_eq (pc' := 13) d_jdk_2450_method_7_code_4 (by decide) (by decide) (fun h => ?_) (fun h => ?_)
  · refine R_getstatic d_jdk_2450_method_7_code_13 (hw _ (mem 131 rfl)) Via.refl sta ?_
    refine R_astore d_jdk_2450_method_7_code_16 rfl rfl (by first | exact Or.inl rfl | exact Or.inr ⟨_, rfl, rfl⟩) ?_
    try dsimp only [List.set_cons_zero, List.set_cons_succ, List.eraseIdx_cons_zero, List.eraseIdx_cons_succ, List.cons_append, List.nil_append, Option.toList]
    refine R_iconst (0) d_jdk_2450_method_7_code_18 (by decide) ?_
    refine R_istore d_jdk_2450_method_7_code_19 rfl (by first | exact Or.inl rfl | exact Or.inr ⟨_, rfl, rfl⟩) ?_
    try dsimp only [List.set_cons_zero, List.set_cons_succ, List.eraseIdx_cons_zero, List.eraseIdx_cons_succ, List.cons_append, List.nil_append, Option.toList]
    refine R_iloadN d_jdk_2450_method_7_code_21 rfl ?_
    refine R_iloadN d_jdk_2450_method_7_code_22 rfl ?_
    refine R_isub d_jdk_2450_method_7_code_23 ?_
    rw [show ss.length.toInt32 - 0 = ss.length.toInt32 from by simp]
    refine R_istore d_jdk_2450_method_7_code_24 rfl (by first | exact Or.inl rfl | exact Or.inr ⟨_, rfl, rfl⟩) ?_
    try dsimp only [List.set_cons_zero, List.set_cons_succ, List.eraseIdx_cons_zero, List.eraseIdx_cons_succ, List.cons_append, List.nil_append, Option.toList]
    refine R_iload d_jdk_2450_method_7_code_26 rfl ?_
    refine R_if_ne (pc' := 33) d_jdk_2450_method_7_code_28 (by decide) (by decide) (fun h1 => ?_) (fun h1 => ?_)
    · refine R_iload d_jdk_2450_method_7_code_33 rfl ?_
      refine R_iconst (2) d_jdk_2450_method_7_code_35 (by decide) ?_
      refine R_icmp_ge (pc' := 66) d_jdk_2450_method_7_code_36 (by decide) (by decide) (fun h2 => ?_) (fun h2 => ?_)
      · refine R_aloadN d_jdk_2450_method_7_code_66 rfl rfl ?_
        refine R_getfield d_jdk_2450_method_7_code_67 (hw _ (mem 132 rfl)) Via.refl (mem 0 rfl) (mem 1 rfl) ?_
        refine R_if_eq (pc' := 141) d_jdk_2450_method_7_code_70 (by decide) (by decide) (fun h3 => ?_) (fun h3 => ?_)
        · refine R_aloadN d_jdk_2450_method_7_code_141 rfl rfl ?_
          refine R_iloadN d_jdk_2450_method_7_code_142 rfl ?_
          refine R_iconst (1) d_jdk_2450_method_7_code_143 (by decide) ?_
          refine R_isub d_jdk_2450_method_7_code_144 ?_
          rw [show ss.length.toInt32 - 1 = (ss.length - 1).toInt32 from i32_sub (b := 1) (by omega)]
          refine R_baload d_jdk_2450_method_7_code_145 (mem 1 rfl) (i32_nn (by omega)) (ss.length - 1) (i32_cl (by omega)) (by rw [List.getElem?_map, e4]; rfl) ?_
          refine R_bipush (61) d_jdk_2450_method_7_code_146 (by decide) ?_
          refine R_icmp_ne (pc' := 167) d_jdk_2450_method_7_code_148 (by decide) (by decide) (fun g4 => ?_) (fun g4 => ?_)
          · refine R_iload d_jdk_2450_method_7_code_167 rfl ?_
            refine R_if_ne (pc' := 187) d_jdk_2450_method_7_code_169 (by decide) (by decide) (fun q => ?_) (fun q => ?_)
            · exact absurd rfl q
            · refine R_iload d_jdk_2450_method_7_code_172 rfl ?_
              refine R_iconst (3) d_jdk_2450_method_7_code_174 (by decide) ?_
              refine R_iand d_jdk_2450_method_7_code_175 ?_
              rw [(dol_v hl).2]
              refine R_if_eq (pc' := 187) d_jdk_2450_method_7_code_176 (by decide) (by decide) (fun q2 => ?_) (fun q2 => ?_)
              · refine R_iconst (3) d_jdk_2450_method_7_code_187 (by decide) ?_
                refine R_iload d_jdk_2450_method_7_code_188 rfl ?_
                refine R_i2l d_jdk_2450_method_7_code_190 ?_
                refine R_ldc2L d_jdk_2450_method_7_code_191 (hw _ (mem 134 rfl)) ?_
                refine R_ladd d_jdk_2450_method_7_code_194 ?_
                refine R_ldc2L d_jdk_2450_method_7_code_195 (hw _ (mem 135 rfl)) ?_
                refine R_ldiv d_jdk_2450_method_7_code_198 (by decide) ?_
                refine R_l2i d_jdk_2450_method_7_code_199 ?_
                refine R_imul d_jdk_2450_method_7_code_200 ?_
                refine R_iload d_jdk_2450_method_7_code_201 rfl ?_
                refine R_isub d_jdk_2450_method_7_code_203 ?_
                exact R_ireturn d_jdk_2450_method_7_code_204 rfl ⟨_, congrArg (fun z => some (Value.int z)) (dol_v hl).1.1, by omega, rfl⟩ (Nat.le_of_ble_eq_true rfl) (Nat.le_of_ble_eq_true rfl)
              · exact absurd rfl q2
          · refine R_iinc (1) d_jdk_2450_method_7_code_151 (by decide) rfl ?_
            try dsimp only [List.set_cons_zero, List.set_cons_succ, List.eraseIdx_cons_zero, List.eraseIdx_cons_succ, List.cons_append, List.nil_append, Option.toList]
            refine R_aloadN d_jdk_2450_method_7_code_154 rfl rfl ?_
            refine R_iloadN d_jdk_2450_method_7_code_155 rfl ?_
            refine R_iconst (2) d_jdk_2450_method_7_code_156 (by decide) ?_
            refine R_isub d_jdk_2450_method_7_code_157 ?_
            rw [show ss.length.toInt32 - 2 = (ss.length - 2).toInt32 from i32_sub (b := 2) (by omega)]
            refine R_baload d_jdk_2450_method_7_code_158 (mem 1 rfl) (i32_nn (by omega)) (ss.length - 2) (i32_cl (by omega)) (by rw [List.getElem?_map, e3]; rfl) ?_
            refine R_bipush (61) d_jdk_2450_method_7_code_159 (by decide) ?_
            refine R_icmp_ne (pc' := 167) d_jdk_2450_method_7_code_161 (by decide) (by decide) (fun g3 => ?_) (fun g3 => ?_)
            · refine R_iload d_jdk_2450_method_7_code_167 rfl ?_
              refine R_if_ne (pc' := 187) d_jdk_2450_method_7_code_169 (by decide) (by decide) (fun q => ?_) (fun q => ?_)
              · refine R_iconst (3) d_jdk_2450_method_7_code_187 (by decide) ?_
                refine R_iload d_jdk_2450_method_7_code_188 rfl ?_
                refine R_i2l d_jdk_2450_method_7_code_190 ?_
                refine R_ldc2L d_jdk_2450_method_7_code_191 (hw _ (mem 134 rfl)) ?_
                refine R_ladd d_jdk_2450_method_7_code_194 ?_
                refine R_ldc2L d_jdk_2450_method_7_code_195 (hw _ (mem 135 rfl)) ?_
                refine R_ldiv d_jdk_2450_method_7_code_198 (by decide) ?_
                refine R_l2i d_jdk_2450_method_7_code_199 ?_
                refine R_imul d_jdk_2450_method_7_code_200 ?_
                refine R_iload d_jdk_2450_method_7_code_201 rfl ?_
                refine R_isub d_jdk_2450_method_7_code_203 ?_
                exact R_ireturn d_jdk_2450_method_7_code_204 rfl ⟨_, congrArg (fun z => some (Value.int z)) (dol_v hl).1.2.1, by omega, rfl⟩ (Nat.le_of_ble_eq_true rfl) (Nat.le_of_ble_eq_true rfl)
              · exact absurd q (by decide)
            · refine R_iinc (1) d_jdk_2450_method_7_code_164 (by decide) rfl ?_
              try dsimp only [List.set_cons_zero, List.set_cons_succ, List.eraseIdx_cons_zero, List.eraseIdx_cons_succ, List.cons_append, List.nil_append, Option.toList]
              refine R_iload d_jdk_2450_method_7_code_167 rfl ?_
              refine R_if_ne (pc' := 187) d_jdk_2450_method_7_code_169 (by decide) (by decide) (fun q => ?_) (fun q => ?_)
              · refine R_iconst (3) d_jdk_2450_method_7_code_187 (by decide) ?_
                refine R_iload d_jdk_2450_method_7_code_188 rfl ?_
                refine R_i2l d_jdk_2450_method_7_code_190 ?_
                refine R_ldc2L d_jdk_2450_method_7_code_191 (hw _ (mem 134 rfl)) ?_
                refine R_ladd d_jdk_2450_method_7_code_194 ?_
                refine R_ldc2L d_jdk_2450_method_7_code_195 (hw _ (mem 135 rfl)) ?_
                refine R_ldiv d_jdk_2450_method_7_code_198 (by decide) ?_
                refine R_l2i d_jdk_2450_method_7_code_199 ?_
                refine R_imul d_jdk_2450_method_7_code_200 ?_
                refine R_iload d_jdk_2450_method_7_code_201 rfl ?_
                refine R_isub d_jdk_2450_method_7_code_203 ?_
                exact R_ireturn d_jdk_2450_method_7_code_204 rfl ⟨_, congrArg (fun z => some (Value.int z)) (dol_v hl).1.2.2, by omega, rfl⟩ (Nat.le_of_ble_eq_true rfl) (Nat.le_of_ble_eq_true rfl)
              · exact absurd q (by decide)
        · exact absurd rfl h3
      · exact absurd ((i32_lt_iff (a := ss.length) (b := 2) (by omega) (by omega)).mp h2) (by omega)
    · exact absurd ((i32_eq_iff (a := ss.length) (b := 0) (by omega) (by omega)).mp h1) (by omega)
  · exact absurd rfl h

-- CUT
theorem d_jdk_2450_method_8_code_0 : decode jdk_2450_method_8_code 0 = .ok (.iload 6, 2) := by decide +kernel
theorem d_jdk_2450_method_8_code_2 : decode jdk_2450_method_8_code 2 = .ok (.ifCond .eq 9, 3) := by decide +kernel
theorem d_jdk_2450_method_8_code_11 : decode jdk_2450_method_8_code 11 = .ok (.getstatic 99, 3) := by decide +kernel
theorem d_jdk_2450_method_8_code_14 : decode jdk_2450_method_8_code 14 = .ok (.astore 8, 2) := by decide +kernel
theorem d_jdk_2450_method_8_code_16 : decode jdk_2450_method_8_code 16 = .ok (.iload_n 2, 1) := by decide +kernel
theorem d_jdk_2450_method_8_code_17 : decode jdk_2450_method_8_code 17 = .ok (.iload_n 3, 1) := by decide +kernel
theorem d_jdk_2450_method_8_code_18 : decode jdk_2450_method_8_code 18 = .ok (.iload_n 2, 1) := by decide +kernel
theorem d_jdk_2450_method_8_code_19 : decode jdk_2450_method_8_code 19 = .ok (.isub, 1) := by decide +kernel
theorem d_jdk_2450_method_8_code_20 : decode jdk_2450_method_8_code 20 = .ok (.bipush (-4), 2) := by decide +kernel
theorem d_jdk_2450_method_8_code_22 : decode jdk_2450_method_8_code 22 = .ok (.iand, 1) := by decide +kernel
theorem d_jdk_2450_method_8_code_23 : decode jdk_2450_method_8_code 23 = .ok (.iadd, 1) := by decide +kernel
theorem d_jdk_2450_method_8_code_24 : decode jdk_2450_method_8_code 24 = .ok (.istore 9, 2) := by decide +kernel
theorem d_jdk_2450_method_8_code_26 : decode jdk_2450_method_8_code 26 = .ok (.iload 5, 2) := by decide +kernel
theorem d_jdk_2450_method_8_code_28 : decode jdk_2450_method_8_code 28 = .ok (.istore 10, 2) := by decide +kernel
theorem d_jdk_2450_method_8_code_30 : decode jdk_2450_method_8_code 30 = .ok (.iload_n 2, 1) := by decide +kernel
theorem d_jdk_2450_method_8_code_31 : decode jdk_2450_method_8_code 31 = .ok (.iload 9, 2) := by decide +kernel
theorem d_jdk_2450_method_8_code_33 : decode jdk_2450_method_8_code 33 = .ok (.if_icmp .ge 147, 3) := by decide +kernel
theorem d_jdk_2450_method_8_code_36 : decode jdk_2450_method_8_code 36 = .ok (.aload 8, 2) := by decide +kernel
theorem d_jdk_2450_method_8_code_38 : decode jdk_2450_method_8_code 38 = .ok (.aload_n 1, 1) := by decide +kernel
theorem d_jdk_2450_method_8_code_39 : decode jdk_2450_method_8_code 39 = .ok (.iload_n 2, 1) := by decide +kernel
theorem d_jdk_2450_method_8_code_40 : decode jdk_2450_method_8_code 40 = .ok (.iinc 2 1, 3) := by decide +kernel
theorem d_jdk_2450_method_8_code_43 : decode jdk_2450_method_8_code 43 = .ok (.baload, 1) := by decide +kernel
theorem d_jdk_2450_method_8_code_44 : decode jdk_2450_method_8_code 44 = .ok (.sipush 255, 3) := by decide +kernel
theorem d_jdk_2450_method_8_code_47 : decode jdk_2450_method_8_code 47 = .ok (.iand, 1) := by decide +kernel
theorem d_jdk_2450_method_8_code_48 : decode jdk_2450_method_8_code 48 = .ok (.iaload, 1) := by decide +kernel
theorem d_jdk_2450_method_8_code_49 : decode jdk_2450_method_8_code 49 = .ok (.istore 11, 2) := by decide +kernel
theorem d_jdk_2450_method_8_code_51 : decode jdk_2450_method_8_code 51 = .ok (.aload 8, 2) := by decide +kernel
theorem d_jdk_2450_method_8_code_53 : decode jdk_2450_method_8_code 53 = .ok (.aload_n 1, 1) := by decide +kernel
theorem d_jdk_2450_method_8_code_54 : decode jdk_2450_method_8_code 54 = .ok (.iload_n 2, 1) := by decide +kernel
theorem d_jdk_2450_method_8_code_55 : decode jdk_2450_method_8_code 55 = .ok (.iinc 2 1, 3) := by decide +kernel
theorem d_jdk_2450_method_8_code_58 : decode jdk_2450_method_8_code 58 = .ok (.baload, 1) := by decide +kernel
theorem d_jdk_2450_method_8_code_59 : decode jdk_2450_method_8_code 59 = .ok (.sipush 255, 3) := by decide +kernel
theorem d_jdk_2450_method_8_code_62 : decode jdk_2450_method_8_code 62 = .ok (.iand, 1) := by decide +kernel
theorem d_jdk_2450_method_8_code_63 : decode jdk_2450_method_8_code 63 = .ok (.iaload, 1) := by decide +kernel
theorem d_jdk_2450_method_8_code_64 : decode jdk_2450_method_8_code 64 = .ok (.istore 12, 2) := by decide +kernel
theorem d_jdk_2450_method_8_code_66 : decode jdk_2450_method_8_code 66 = .ok (.aload 8, 2) := by decide +kernel
theorem d_jdk_2450_method_8_code_68 : decode jdk_2450_method_8_code 68 = .ok (.aload_n 1, 1) := by decide +kernel
theorem d_jdk_2450_method_8_code_69 : decode jdk_2450_method_8_code 69 = .ok (.iload_n 2, 1) := by decide +kernel
theorem d_jdk_2450_method_8_code_70 : decode jdk_2450_method_8_code 70 = .ok (.iinc 2 1, 3) := by decide +kernel
theorem d_jdk_2450_method_8_code_73 : decode jdk_2450_method_8_code 73 = .ok (.baload, 1) := by decide +kernel
theorem d_jdk_2450_method_8_code_74 : decode jdk_2450_method_8_code 74 = .ok (.sipush 255, 3) := by decide +kernel
theorem d_jdk_2450_method_8_code_77 : decode jdk_2450_method_8_code 77 = .ok (.iand, 1) := by decide +kernel
theorem d_jdk_2450_method_8_code_78 : decode jdk_2450_method_8_code 78 = .ok (.iaload, 1) := by decide +kernel
theorem d_jdk_2450_method_8_code_79 : decode jdk_2450_method_8_code 79 = .ok (.istore 13, 2) := by decide +kernel
theorem d_jdk_2450_method_8_code_81 : decode jdk_2450_method_8_code 81 = .ok (.aload 8, 2) := by decide +kernel
theorem d_jdk_2450_method_8_code_83 : decode jdk_2450_method_8_code 83 = .ok (.aload_n 1, 1) := by decide +kernel
theorem d_jdk_2450_method_8_code_84 : decode jdk_2450_method_8_code 84 = .ok (.iload_n 2, 1) := by decide +kernel
theorem d_jdk_2450_method_8_code_85 : decode jdk_2450_method_8_code 85 = .ok (.iinc 2 1, 3) := by decide +kernel
theorem d_jdk_2450_method_8_code_88 : decode jdk_2450_method_8_code 88 = .ok (.baload, 1) := by decide +kernel
theorem d_jdk_2450_method_8_code_89 : decode jdk_2450_method_8_code 89 = .ok (.sipush 255, 3) := by decide +kernel
theorem d_jdk_2450_method_8_code_92 : decode jdk_2450_method_8_code 92 = .ok (.iand, 1) := by decide +kernel
theorem d_jdk_2450_method_8_code_93 : decode jdk_2450_method_8_code 93 = .ok (.iaload, 1) := by decide +kernel
theorem d_jdk_2450_method_8_code_94 : decode jdk_2450_method_8_code 94 = .ok (.istore 14, 2) := by decide +kernel
theorem d_jdk_2450_method_8_code_96 : decode jdk_2450_method_8_code 96 = .ok (.iload 11, 2) := by decide +kernel
theorem d_jdk_2450_method_8_code_98 : decode jdk_2450_method_8_code 98 = .ok (.iload 12, 2) := by decide +kernel
theorem d_jdk_2450_method_8_code_100 : decode jdk_2450_method_8_code 100 = .ok (.ior, 1) := by decide +kernel
theorem d_jdk_2450_method_8_code_101 : decode jdk_2450_method_8_code 101 = .ok (.iload 13, 2) := by decide +kernel
theorem d_jdk_2450_method_8_code_103 : decode jdk_2450_method_8_code 103 = .ok (.ior, 1) := by decide +kernel
theorem d_jdk_2450_method_8_code_104 : decode jdk_2450_method_8_code 104 = .ok (.iload 14, 2) := by decide +kernel
theorem d_jdk_2450_method_8_code_106 : decode jdk_2450_method_8_code 106 = .ok (.ior, 1) := by decide +kernel
theorem d_jdk_2450_method_8_code_107 : decode jdk_2450_method_8_code 107 = .ok (.ifCond .ge 9, 3) := by decide +kernel
theorem d_jdk_2450_method_8_code_116 : decode jdk_2450_method_8_code 116 = .ok (.iload 11, 2) := by decide +kernel
theorem d_jdk_2450_method_8_code_118 : decode jdk_2450_method_8_code 118 = .ok (.bipush 18, 2) := by decide +kernel
theorem d_jdk_2450_method_8_code_120 : decode jdk_2450_method_8_code 120 = .ok (.ishl, 1) := by decide +kernel
theorem d_jdk_2450_method_8_code_121 : decode jdk_2450_method_8_code 121 = .ok (.iload 12, 2) := by decide +kernel
theorem d_jdk_2450_method_8_code_123 : decode jdk_2450_method_8_code 123 = .ok (.bipush 12, 2) := by decide +kernel
theorem d_jdk_2450_method_8_code_125 : decode jdk_2450_method_8_code 125 = .ok (.ishl, 1) := by decide +kernel
theorem d_jdk_2450_method_8_code_126 : decode jdk_2450_method_8_code 126 = .ok (.ior, 1) := by decide +kernel
theorem d_jdk_2450_method_8_code_127 : decode jdk_2450_method_8_code 127 = .ok (.iload 13, 2) := by decide +kernel
theorem d_jdk_2450_method_8_code_129 : decode jdk_2450_method_8_code 129 = .ok (.bipush 6, 2) := by decide +kernel
theorem d_jdk_2450_method_8_code_131 : decode jdk_2450_method_8_code 131 = .ok (.ishl, 1) := by decide +kernel
theorem d_jdk_2450_method_8_code_132 : decode jdk_2450_method_8_code 132 = .ok (.ior, 1) := by decide +kernel
theorem d_jdk_2450_method_8_code_133 : decode jdk_2450_method_8_code 133 = .ok (.iload 14, 2) := by decide +kernel
theorem d_jdk_2450_method_8_code_135 : decode jdk_2450_method_8_code 135 = .ok (.ior, 1) := by decide +kernel
theorem d_jdk_2450_method_8_code_136 : decode jdk_2450_method_8_code 136 = .ok (.istore 15, 2) := by decide +kernel
theorem d_jdk_2450_method_8_code_138 : decode jdk_2450_method_8_code 138 = .ok (.aload 4, 2) := by decide +kernel
theorem d_jdk_2450_method_8_code_140 : decode jdk_2450_method_8_code 140 = .ok (.iload 10, 2) := by decide +kernel
theorem d_jdk_2450_method_8_code_142 : decode jdk_2450_method_8_code 142 = .ok (.iinc 10 1, 3) := by decide +kernel
theorem d_jdk_2450_method_8_code_145 : decode jdk_2450_method_8_code 145 = .ok (.iload 15, 2) := by decide +kernel
theorem d_jdk_2450_method_8_code_147 : decode jdk_2450_method_8_code 147 = .ok (.bipush 16, 2) := by decide +kernel
theorem d_jdk_2450_method_8_code_149 : decode jdk_2450_method_8_code 149 = .ok (.ishr, 1) := by decide +kernel
theorem d_jdk_2450_method_8_code_150 : decode jdk_2450_method_8_code 150 = .ok (.i2b, 1) := by decide +kernel
theorem d_jdk_2450_method_8_code_151 : decode jdk_2450_method_8_code 151 = .ok (.bastore, 1) := by decide +kernel
theorem d_jdk_2450_method_8_code_152 : decode jdk_2450_method_8_code 152 = .ok (.aload 4, 2) := by decide +kernel
theorem d_jdk_2450_method_8_code_154 : decode jdk_2450_method_8_code 154 = .ok (.iload 10, 2) := by decide +kernel
theorem d_jdk_2450_method_8_code_156 : decode jdk_2450_method_8_code 156 = .ok (.iinc 10 1, 3) := by decide +kernel
theorem d_jdk_2450_method_8_code_159 : decode jdk_2450_method_8_code 159 = .ok (.iload 15, 2) := by decide +kernel
theorem d_jdk_2450_method_8_code_161 : decode jdk_2450_method_8_code 161 = .ok (.bipush 8, 2) := by decide +kernel
theorem d_jdk_2450_method_8_code_163 : decode jdk_2450_method_8_code 163 = .ok (.ishr, 1) := by decide +kernel
theorem d_jdk_2450_method_8_code_164 : decode jdk_2450_method_8_code 164 = .ok (.i2b, 1) := by decide +kernel
theorem d_jdk_2450_method_8_code_165 : decode jdk_2450_method_8_code 165 = .ok (.bastore, 1) := by decide +kernel
theorem d_jdk_2450_method_8_code_166 : decode jdk_2450_method_8_code 166 = .ok (.aload 4, 2) := by decide +kernel
theorem d_jdk_2450_method_8_code_168 : decode jdk_2450_method_8_code 168 = .ok (.iload 10, 2) := by decide +kernel
theorem d_jdk_2450_method_8_code_170 : decode jdk_2450_method_8_code 170 = .ok (.iinc 10 1, 3) := by decide +kernel
theorem d_jdk_2450_method_8_code_173 : decode jdk_2450_method_8_code 173 = .ok (.iload 15, 2) := by decide +kernel
theorem d_jdk_2450_method_8_code_175 : decode jdk_2450_method_8_code 175 = .ok (.i2b, 1) := by decide +kernel
theorem d_jdk_2450_method_8_code_176 : decode jdk_2450_method_8_code 176 = .ok (.bastore, 1) := by decide +kernel
theorem d_jdk_2450_method_8_code_177 : decode jdk_2450_method_8_code 177 = .ok (.goto (-147), 3) := by decide +kernel
theorem d_jdk_2450_method_8_code_180 : decode jdk_2450_method_8_code 180 = .ok (.iload 10, 2) := by decide +kernel
theorem d_jdk_2450_method_8_code_182 : decode jdk_2450_method_8_code 182 = .ok (.iload 5, 2) := by decide +kernel
theorem d_jdk_2450_method_8_code_184 : decode jdk_2450_method_8_code 184 = .ok (.isub, 1) := by decide +kernel
theorem d_jdk_2450_method_8_code_185 : decode jdk_2450_method_8_code 185 = .ok (.ireturn, 1) := by decide +kernel
theorem d_jdk_2450_method_8_code_110 : decode jdk_2450_method_8_code 110 = .ok (.iload 10, 2) := by decide +kernel
theorem d_jdk_2450_method_8_code_112 : decode jdk_2450_method_8_code 112 = .ok (.iload 5, 2) := by decide +kernel
theorem d_jdk_2450_method_8_code_114 : decode jdk_2450_method_8_code 114 = .ok (.isub, 1) := by decide +kernel
theorem d_jdk_2450_method_8_code_115 : decode jdk_2450_method_8_code 115 = .ok (.ireturn, 1) := by decide +kernel
theorem d_jdk_2450_method_9_code_90 : decode jdk_2450_method_9_code 90 = .ok (.iload_n 2, 1) := by decide +kernel
theorem d_jdk_2450_method_9_code_91 : decode jdk_2450_method_9_code 91 = .ok (.iload_n 3, 1) := by decide +kernel
theorem d_jdk_2450_method_9_code_92 : decode jdk_2450_method_9_code 92 = .ok (.if_icmp .lt 6, 3) := by decide +kernel
theorem d_jdk_2450_method_9_code_98 : decode jdk_2450_method_9_code 98 = .ok (.aload_n 1, 1) := by decide +kernel
theorem d_jdk_2450_method_9_code_99 : decode jdk_2450_method_9_code 99 = .ok (.iload_n 2, 1) := by decide +kernel
theorem d_jdk_2450_method_9_code_100 : decode jdk_2450_method_9_code 100 = .ok (.iinc 2 1, 3) := by decide +kernel
theorem d_jdk_2450_method_9_code_103 : decode jdk_2450_method_9_code 103 = .ok (.baload, 1) := by decide +kernel
theorem d_jdk_2450_method_9_code_104 : decode jdk_2450_method_9_code 104 = .ok (.sipush 255, 3) := by decide +kernel
theorem d_jdk_2450_method_9_code_107 : decode jdk_2450_method_9_code 107 = .ok (.iand, 1) := by decide +kernel
theorem d_jdk_2450_method_9_code_108 : decode jdk_2450_method_9_code 108 = .ok (.istore 9, 2) := by decide +kernel
theorem d_jdk_2450_method_9_code_110 : decode jdk_2450_method_9_code 110 = .ok (.aload 5, 2) := by decide +kernel
theorem d_jdk_2450_method_9_code_112 : decode jdk_2450_method_9_code 112 = .ok (.iload 9, 2) := by decide +kernel
theorem d_jdk_2450_method_9_code_114 : decode jdk_2450_method_9_code 114 = .ok (.iaload, 1) := by decide +kernel
theorem d_jdk_2450_method_9_code_115 : decode jdk_2450_method_9_code 115 = .ok (.dup, 1) := by decide +kernel
theorem d_jdk_2450_method_9_code_116 : decode jdk_2450_method_9_code 116 = .ok (.istore 9, 2) := by decide +kernel
theorem d_jdk_2450_method_9_code_118 : decode jdk_2450_method_9_code 118 = .ok (.ifCond .ge 96, 3) := by decide +kernel
theorem d_jdk_2450_method_9_code_214 : decode jdk_2450_method_9_code 214 = .ok (.iload 7, 2) := by decide +kernel
theorem d_jdk_2450_method_9_code_216 : decode jdk_2450_method_9_code 216 = .ok (.iload 9, 2) := by decide +kernel
theorem d_jdk_2450_method_9_code_218 : decode jdk_2450_method_9_code 218 = .ok (.iload 8, 2) := by decide +kernel
theorem d_jdk_2450_method_9_code_220 : decode jdk_2450_method_9_code 220 = .ok (.ishl, 1) := by decide +kernel
theorem d_jdk_2450_method_9_code_221 : decode jdk_2450_method_9_code 221 = .ok (.ior, 1) := by decide +kernel
theorem d_jdk_2450_method_9_code_222 : decode jdk_2450_method_9_code 222 = .ok (.istore 7, 2) := by decide +kernel
theorem d_jdk_2450_method_9_code_224 : decode jdk_2450_method_9_code 224 = .ok (.iinc 8 (-6), 3) := by decide +kernel
theorem d_jdk_2450_method_9_code_227 : decode jdk_2450_method_9_code 227 = .ok (.iload 8, 2) := by decide +kernel
theorem d_jdk_2450_method_9_code_229 : decode jdk_2450_method_9_code 229 = .ok (.ifCond .ge 49, 3) := by decide +kernel
theorem d_jdk_2450_method_9_code_278 : decode jdk_2450_method_9_code 278 = .ok (.goto (-250), 3) := by decide +kernel
theorem d_jdk_2450_method_9_code_28 : decode jdk_2450_method_9_code 28 = .ok (.iload_n 2, 1) := by decide +kernel
theorem d_jdk_2450_method_9_code_29 : decode jdk_2450_method_9_code 29 = .ok (.iload_n 3, 1) := by decide +kernel
theorem d_jdk_2450_method_9_code_30 : decode jdk_2450_method_9_code 30 = .ok (.if_icmp .ge 251, 3) := by decide +kernel
theorem d_jdk_2450_method_9_code_33 : decode jdk_2450_method_9_code 33 = .ok (.iload 8, 2) := by decide +kernel
theorem d_jdk_2450_method_9_code_35 : decode jdk_2450_method_9_code 35 = .ok (.bipush 18, 2) := by decide +kernel
theorem d_jdk_2450_method_9_code_37 : decode jdk_2450_method_9_code 37 = .ok (.if_icmp .ne 53, 3) := by decide +kernel
theorem d_jdk_2450_method_9_code_232 : decode jdk_2450_method_9_code 232 = .ok (.aload 4, 2) := by decide +kernel
theorem d_jdk_2450_method_9_code_234 : decode jdk_2450_method_9_code 234 = .ok (.iload 6, 2) := by decide +kernel
theorem d_jdk_2450_method_9_code_236 : decode jdk_2450_method_9_code 236 = .ok (.iinc 6 1, 3) := by decide +kernel
theorem d_jdk_2450_method_9_code_239 : decode jdk_2450_method_9_code 239 = .ok (.iload 7, 2) := by decide +kernel
theorem d_jdk_2450_method_9_code_241 : decode jdk_2450_method_9_code 241 = .ok (.bipush 16, 2) := by decide +kernel
theorem d_jdk_2450_method_9_code_243 : decode jdk_2450_method_9_code 243 = .ok (.ishr, 1) := by decide +kernel
theorem d_jdk_2450_method_9_code_244 : decode jdk_2450_method_9_code 244 = .ok (.i2b, 1) := by decide +kernel
theorem d_jdk_2450_method_9_code_245 : decode jdk_2450_method_9_code 245 = .ok (.bastore, 1) := by decide +kernel
theorem d_jdk_2450_method_9_code_246 : decode jdk_2450_method_9_code 246 = .ok (.aload 4, 2) := by decide +kernel
theorem d_jdk_2450_method_9_code_248 : decode jdk_2450_method_9_code 248 = .ok (.iload 6, 2) := by decide +kernel
theorem d_jdk_2450_method_9_code_250 : decode jdk_2450_method_9_code 250 = .ok (.iinc 6 1, 3) := by decide +kernel
theorem d_jdk_2450_method_9_code_253 : decode jdk_2450_method_9_code 253 = .ok (.iload 7, 2) := by decide +kernel
theorem d_jdk_2450_method_9_code_255 : decode jdk_2450_method_9_code 255 = .ok (.bipush 8, 2) := by decide +kernel
theorem d_jdk_2450_method_9_code_257 : decode jdk_2450_method_9_code 257 = .ok (.ishr, 1) := by decide +kernel
theorem d_jdk_2450_method_9_code_258 : decode jdk_2450_method_9_code 258 = .ok (.i2b, 1) := by decide +kernel
theorem d_jdk_2450_method_9_code_259 : decode jdk_2450_method_9_code 259 = .ok (.bastore, 1) := by decide +kernel
theorem d_jdk_2450_method_9_code_260 : decode jdk_2450_method_9_code 260 = .ok (.aload 4, 2) := by decide +kernel
theorem d_jdk_2450_method_9_code_262 : decode jdk_2450_method_9_code 262 = .ok (.iload 6, 2) := by decide +kernel
theorem d_jdk_2450_method_9_code_264 : decode jdk_2450_method_9_code 264 = .ok (.iinc 6 1, 3) := by decide +kernel
theorem d_jdk_2450_method_9_code_267 : decode jdk_2450_method_9_code 267 = .ok (.iload 7, 2) := by decide +kernel
theorem d_jdk_2450_method_9_code_269 : decode jdk_2450_method_9_code 269 = .ok (.i2b, 1) := by decide +kernel
theorem d_jdk_2450_method_9_code_270 : decode jdk_2450_method_9_code 270 = .ok (.bastore, 1) := by decide +kernel
theorem d_jdk_2450_method_9_code_271 : decode jdk_2450_method_9_code 271 = .ok (.bipush 18, 2) := by decide +kernel
theorem d_jdk_2450_method_9_code_273 : decode jdk_2450_method_9_code 273 = .ok (.istore 8, 2) := by decide +kernel
theorem d_jdk_2450_method_9_code_275 : decode jdk_2450_method_9_code 275 = .ok (.iconst 0, 1) := by decide +kernel
theorem d_jdk_2450_method_9_code_276 : decode jdk_2450_method_9_code 276 = .ok (.istore 7, 2) := by decide +kernel
theorem d_jdk_2450_method_9_code_281 : decode jdk_2450_method_9_code 281 = .ok (.iload 8, 2) := by decide +kernel
theorem d_jdk_2450_method_9_code_283 : decode jdk_2450_method_9_code 283 = .ok (.bipush 6, 2) := by decide +kernel
theorem d_jdk_2450_method_9_code_285 : decode jdk_2450_method_9_code 285 = .ok (.if_icmp .ne 20, 3) := by decide +kernel
theorem d_jdk_2450_method_9_code_305 : decode jdk_2450_method_9_code 305 = .ok (.iload 8, 2) := by decide +kernel
theorem d_jdk_2450_method_9_code_307 : decode jdk_2450_method_9_code 307 = .ok (.ifCond .ne 34, 3) := by decide +kernel
theorem d_jdk_2450_method_9_code_341 : decode jdk_2450_method_9_code 341 = .ok (.iload 8, 2) := by decide +kernel
theorem d_jdk_2450_method_9_code_343 : decode jdk_2450_method_9_code 343 = .ok (.bipush 12, 2) := by decide +kernel
theorem d_jdk_2450_method_9_code_345 : decode jdk_2450_method_9_code 345 = .ok (.if_icmp .ne 13, 3) := by decide +kernel
theorem d_jdk_2450_method_9_code_358 : decode jdk_2450_method_9_code 358 = .ok (.iload_n 2, 1) := by decide +kernel
theorem d_jdk_2450_method_9_code_359 : decode jdk_2450_method_9_code 359 = .ok (.iload_n 3, 1) := by decide +kernel
theorem d_jdk_2450_method_9_code_360 : decode jdk_2450_method_9_code 360 = .ok (.if_icmp .ge 56, 3) := by decide +kernel
theorem d_jdk_2450_method_9_code_416 : decode jdk_2450_method_9_code 416 = .ok (.iload 6, 2) := by decide +kernel
theorem d_jdk_2450_method_9_code_418 : decode jdk_2450_method_9_code 418 = .ok (.ireturn, 1) := by decide +kernel
theorem d_jdk_2450_method_9_code_121 : decode jdk_2450_method_9_code 121 = .ok (.iload 9, 2) := by decide +kernel
theorem d_jdk_2450_method_9_code_123 : decode jdk_2450_method_9_code 123 = .ok (.bipush (-2), 2) := by decide +kernel
theorem d_jdk_2450_method_9_code_125 : decode jdk_2450_method_9_code 125 = .ok (.if_icmp .ne 43, 3) := by decide +kernel
theorem d_jdk_2450_method_9_code_128 : decode jdk_2450_method_9_code 128 = .ok (.iload 8, 2) := by decide +kernel
theorem d_jdk_2450_method_9_code_130 : decode jdk_2450_method_9_code 130 = .ok (.bipush 6, 2) := by decide +kernel
theorem d_jdk_2450_method_9_code_132 : decode jdk_2450_method_9_code 132 = .ok (.if_icmp .ne 19, 3) := by decide +kernel
theorem d_jdk_2450_method_9_code_151 : decode jdk_2450_method_9_code 151 = .ok (.iload 8, 2) := by decide +kernel
theorem d_jdk_2450_method_9_code_153 : decode jdk_2450_method_9_code 153 = .ok (.bipush 18, 2) := by decide +kernel
theorem d_jdk_2450_method_9_code_155 : decode jdk_2450_method_9_code 155 = .ok (.if_icmp .ne 126, 3) := by decide +kernel
theorem d_jdk_2450_method_9_code_310 : decode jdk_2450_method_9_code 310 = .ok (.aload 4, 2) := by decide +kernel
theorem d_jdk_2450_method_9_code_312 : decode jdk_2450_method_9_code 312 = .ok (.iload 6, 2) := by decide +kernel
theorem d_jdk_2450_method_9_code_314 : decode jdk_2450_method_9_code 314 = .ok (.iinc 6 1, 3) := by decide +kernel
theorem d_jdk_2450_method_9_code_317 : decode jdk_2450_method_9_code 317 = .ok (.iload 7, 2) := by decide +kernel
theorem d_jdk_2450_method_9_code_319 : decode jdk_2450_method_9_code 319 = .ok (.bipush 16, 2) := by decide +kernel
theorem d_jdk_2450_method_9_code_321 : decode jdk_2450_method_9_code 321 = .ok (.ishr, 1) := by decide +kernel
theorem d_jdk_2450_method_9_code_322 : decode jdk_2450_method_9_code 322 = .ok (.i2b, 1) := by decide +kernel
theorem d_jdk_2450_method_9_code_323 : decode jdk_2450_method_9_code 323 = .ok (.bastore, 1) := by decide +kernel
theorem d_jdk_2450_method_9_code_324 : decode jdk_2450_method_9_code 324 = .ok (.aload 4, 2) := by decide +kernel
theorem d_jdk_2450_method_9_code_326 : decode jdk_2450_method_9_code 326 = .ok (.iload 6, 2) := by decide +kernel
theorem d_jdk_2450_method_9_code_328 : decode jdk_2450_method_9_code 328 = .ok (.iinc 6 1, 3) := by decide +kernel
theorem d_jdk_2450_method_9_code_331 : decode jdk_2450_method_9_code 331 = .ok (.iload 7, 2) := by decide +kernel
theorem d_jdk_2450_method_9_code_333 : decode jdk_2450_method_9_code 333 = .ok (.bipush 8, 2) := by decide +kernel
theorem d_jdk_2450_method_9_code_335 : decode jdk_2450_method_9_code 335 = .ok (.ishr, 1) := by decide +kernel
theorem d_jdk_2450_method_9_code_336 : decode jdk_2450_method_9_code 336 = .ok (.i2b, 1) := by decide +kernel
theorem d_jdk_2450_method_9_code_337 : decode jdk_2450_method_9_code 337 = .ok (.bastore, 1) := by decide +kernel
theorem d_jdk_2450_method_9_code_338 : decode jdk_2450_method_9_code 338 = .ok (.goto 20, 3) := by decide +kernel
theorem d_jdk_2450_method_9_code_135 : decode jdk_2450_method_9_code 135 = .ok (.iload_n 2, 1) := by decide +kernel
theorem d_jdk_2450_method_9_code_136 : decode jdk_2450_method_9_code 136 = .ok (.iload_n 3, 1) := by decide +kernel
theorem d_jdk_2450_method_9_code_137 : decode jdk_2450_method_9_code 137 = .ok (.if_icmp .eq 21, 3) := by decide +kernel
theorem d_jdk_2450_method_9_code_140 : decode jdk_2450_method_9_code 140 = .ok (.aload_n 1, 1) := by decide +kernel
theorem d_jdk_2450_method_9_code_141 : decode jdk_2450_method_9_code 141 = .ok (.iload_n 2, 1) := by decide +kernel
theorem d_jdk_2450_method_9_code_142 : decode jdk_2450_method_9_code 142 = .ok (.iinc 2 1, 3) := by decide +kernel
theorem d_jdk_2450_method_9_code_145 : decode jdk_2450_method_9_code 145 = .ok (.baload, 1) := by decide +kernel
theorem d_jdk_2450_method_9_code_146 : decode jdk_2450_method_9_code 146 = .ok (.bipush 61, 2) := by decide +kernel
theorem d_jdk_2450_method_9_code_148 : decode jdk_2450_method_9_code 148 = .ok (.if_icmp .ne 10, 3) := by decide +kernel
theorem d_jdk_2450_method_9_code_288 : decode jdk_2450_method_9_code 288 = .ok (.aload 4, 2) := by decide +kernel
theorem d_jdk_2450_method_9_code_290 : decode jdk_2450_method_9_code 290 = .ok (.iload 6, 2) := by decide +kernel
theorem d_jdk_2450_method_9_code_292 : decode jdk_2450_method_9_code 292 = .ok (.iinc 6 1, 3) := by decide +kernel
theorem d_jdk_2450_method_9_code_295 : decode jdk_2450_method_9_code 295 = .ok (.iload 7, 2) := by decide +kernel
theorem d_jdk_2450_method_9_code_297 : decode jdk_2450_method_9_code 297 = .ok (.bipush 16, 2) := by decide +kernel
theorem d_jdk_2450_method_9_code_299 : decode jdk_2450_method_9_code 299 = .ok (.ishr, 1) := by decide +kernel
theorem d_jdk_2450_method_9_code_300 : decode jdk_2450_method_9_code 300 = .ok (.i2b, 1) := by decide +kernel
theorem d_jdk_2450_method_9_code_301 : decode jdk_2450_method_9_code 301 = .ok (.bastore, 1) := by decide +kernel
theorem d_jdk_2450_method_9_code_302 : decode jdk_2450_method_9_code 302 = .ok (.goto 56, 3) := by decide +kernel
abbrev y0 (v1 v2 : Int32) : Int32 := ((v1 <<< ((2 : Int32) &&& 31)) ||| (v2 >>> ((4 : Int32) &&& 31))).toInt8.toInt32
abbrev y1 (v2 v3 : Int32) : Int32 := (((v2 &&& 15) <<< ((4 : Int32) &&& 31)) ||| (v3 >>> ((2 : Int32) &&& 31))).toInt8.toInt32
abbrev y2 (v3 v4 : Int32) : Int32 := (((v3 &&& 3) <<< ((6 : Int32) &&& 31)) ||| v4).toInt8.toInt32
abbrev s18 (v : Int32) : Int32 := v <<< ((18 : Int32) &&& 31)
abbrev s12 (v : Int32) : Int32 := v <<< ((12 : Int32) &&& 31)
abbrev s6 (v : Int32) : Int32 := v <<< ((6 : Int32) &&& 31)
abbrev s0 (v : Int32) : Int32 := v <<< ((0 : Int32) &&& 31)
abbrev V6 (v : Int32) : Prop := ∃ a : Fin 64, v = Int32.ofNat a.val
theorem o8 (a b : Int32) : (a ||| b).toInt8 = a.toInt8 ||| b.toInt8 := by simp
theorem sh_a (v : Fin 64) : s18 (Int32.ofNat v.val) >>> ((16 : Int32) &&& 31) = (Int32.ofNat v.val) <<< ((2 : Int32) &&& 31) := by revert v; decide +kernel
theorem sh_b (v : Fin 64) : s12 (Int32.ofNat v.val) >>> ((16 : Int32) &&& 31) = (Int32.ofNat v.val) >>> ((4 : Int32) &&& 31) := by revert v; decide +kernel
theorem sh_c (v : Fin 64) : s6 (Int32.ofNat v.val) >>> ((16 : Int32) &&& 31) = 0 := by revert v; decide +kernel
theorem sh_d (v : Fin 64) : s0 (Int32.ofNat v.val) >>> ((16 : Int32) &&& 31) = 0 := by revert v; decide +kernel
theorem si_a (v : Fin 64) : (s18 (Int32.ofNat v.val) >>> ((8 : Int32) &&& 31)).toInt8 = 0 := by revert v; decide +kernel
theorem si_b (v : Fin 64) : (s12 (Int32.ofNat v.val) >>> ((8 : Int32) &&& 31)).toInt8 = (((Int32.ofNat v.val) &&& 15) <<< ((4 : Int32) &&& 31)).toInt8 := by revert v; decide +kernel
theorem si_c (v : Fin 64) : s6 (Int32.ofNat v.val) >>> ((8 : Int32) &&& 31) = (Int32.ofNat v.val) >>> ((2 : Int32) &&& 31) := by revert v; decide +kernel
theorem si_d (v : Fin 64) : s0 (Int32.ofNat v.val) >>> ((8 : Int32) &&& 31) = 0 := by revert v; decide +kernel
theorem sj_a (v : Fin 64) : (s18 (Int32.ofNat v.val)).toInt8 = 0 := by revert v; decide +kernel
theorem sj_b (v : Fin 64) : (s12 (Int32.ofNat v.val)).toInt8 = 0 := by revert v; decide +kernel
theorem sj_c (v : Fin 64) : (s6 (Int32.ofNat v.val)).toInt8 = (((Int32.ofNat v.val) &&& 3) <<< ((6 : Int32) &&& 31)).toInt8 := by revert v; decide +kernel
theorem sj_d (v : Fin 64) : s0 (Int32.ofNat v.val) = Int32.ofNat v.val := by revert v; decide +kernel
theorem or_sr (a b c : Int32) : (a ||| b) >>> c = (a >>> c) ||| (b >>> c) := Int32.shiftRight_or
theorem Y0A {a b c d : Int32} (ha : V6 a) (hb : V6 b) (hc : V6 c) (hd : V6 d) : ((((((0 : Int32) ||| s18 a) ||| s12 b) ||| s6 c) ||| s0 d) >>> ((16 : Int32) &&& 31)).toInt8.toInt32 = y0 a b := by
  obtain ⟨a, rfl⟩ := ha; obtain ⟨b, rfl⟩ := hb; obtain ⟨c, rfl⟩ := hc; obtain ⟨d, rfl⟩ := hd
  rw [Int32.zero_or, or_sr, or_sr, or_sr, sh_a, sh_b, sh_c, sh_d, Int32.or_zero, Int32.or_zero]
theorem Y1A {a b c d : Int32} (ha : V6 a) (hb : V6 b) (hc : V6 c) (hd : V6 d) : ((((((0 : Int32) ||| s18 a) ||| s12 b) ||| s6 c) ||| s0 d) >>> ((8 : Int32) &&& 31)).toInt8.toInt32 = y1 b c := by
  obtain ⟨a, rfl⟩ := ha; obtain ⟨b, rfl⟩ := hb; obtain ⟨c, rfl⟩ := hc; obtain ⟨d, rfl⟩ := hd
  rw [Int32.zero_or, or_sr, or_sr, or_sr, si_c, si_d, Int32.or_zero, o8, o8, si_a, si_b, Int8.zero_or, ← o8]
theorem Y2A {a b c d : Int32} (ha : V6 a) (hb : V6 b) (hc : V6 c) (hd : V6 d) : ((((((0 : Int32) ||| s18 a) ||| s12 b) ||| s6 c) ||| s0 d)).toInt8.toInt32 = y2 c d := by
  obtain ⟨a, rfl⟩ := ha; obtain ⟨b, rfl⟩ := hb; obtain ⟨c, rfl⟩ := hc; obtain ⟨d, rfl⟩ := hd
  rw [Int32.zero_or, o8, o8, o8, sj_a, sj_b, sj_c, sj_d, Int8.zero_or, Int8.zero_or, ← o8]
theorem Y0B {a b c : Int32} (ha : V6 a) (hb : V6 b) (hc : V6 c) : (((((0 : Int32) ||| s18 a) ||| s12 b) ||| s6 c) >>> ((16 : Int32) &&& 31)).toInt8.toInt32 = y0 a b := by
  obtain ⟨a, rfl⟩ := ha; obtain ⟨b, rfl⟩ := hb; obtain ⟨c, rfl⟩ := hc
  rw [Int32.zero_or, or_sr, or_sr, sh_a, sh_b, sh_c, Int32.or_zero]
theorem Y1B {a b c : Int32} (ha : V6 a) (hb : V6 b) (hc : V6 c) : (((((0 : Int32) ||| s18 a) ||| s12 b) ||| s6 c) >>> ((8 : Int32) &&& 31)).toInt8.toInt32 = y1 b c := by
  obtain ⟨a, rfl⟩ := ha; obtain ⟨b, rfl⟩ := hb; obtain ⟨c, rfl⟩ := hc
  rw [Int32.zero_or, or_sr, or_sr, si_c, o8, o8, si_a, si_b, Int8.zero_or, ← o8]
theorem Y0C {a b : Int32} (ha : V6 a) (hb : V6 b) : ((((0 : Int32) ||| s18 a) ||| s12 b) >>> ((16 : Int32) &&& 31)).toInt8.toInt32 = y0 a b := by
  obtain ⟨a, rfl⟩ := ha; obtain ⟨b, rfl⟩ := hb
  rw [Int32.zero_or, or_sr, sh_a, sh_b]
theorem V6.nn {v : Int32} (h : V6 v) : ¬ v < 0 := by
  obtain ⟨a, rfl⟩ := h
  exact (by decide +kernel : ∀ a : Fin 64, ¬ Int32.ofNat a.val < 0) a
theorem or_neg (x : Int32) : ¬ ¬ (x ||| (-2)) < 0 := by
  rw [Classical.not_not, Int32.lt_iff_toBitVec_slt]
  show (BitVec.slt (x.toBitVec ||| (-2 : Int32).toBitVec) 0#32) = true
  rw [BitVec.slt_zero_eq_msb, BitVec.msb_or]
  simp; right; decide
theorem nn_msb {x : Int32} (h : ¬ x < 0) : x.toBitVec.msb = false := by
  rw [Int32.lt_iff_toBitVec_slt] at h
  rw [← BitVec.slt_zero_eq_msb]
  exact Bool.not_eq_true _ ▸ h
theorem or_nn {x y : Int32} (hx : ¬ x < 0) (hy : ¬ y < 0) : ¬ (x ||| y) < 0 := by
  rw [Int32.lt_iff_toBitVec_slt]
  show ¬ (BitVec.slt (x.toBitVec ||| y.toBitVec) 0#32) = true
  rw [BitVec.slt_zero_eq_msb, BitVec.msb_or, nn_msb hx, nn_msb hy]
  decide
theorem Z0A {a b c d : Int32} (ha : V6 a) (hb : V6 b) (hc : V6 c) (hd : V6 d) : (((s18 a ||| s12 b) ||| s6 c) ||| d) >>> ((16 : Int32) &&& 31) = (((((0 : Int32) ||| s18 a) ||| s12 b) ||| s6 c) ||| s0 d) >>> ((16 : Int32) &&& 31) ∧ (((s18 a ||| s12 b) ||| s6 c) ||| d) = (((((0 : Int32) ||| s18 a) ||| s12 b) ||| s6 c) ||| s0 d) := by
  obtain ⟨d, rfl⟩ := hd
  rw [sj_d, Int32.zero_or]
  exact ⟨rfl, rfl⟩
set_option maxRecDepth 65536 in
set_option maxHeartbeats 4000000 in
theorem M_db6 {Γ : Gx} (hw : Words Γ) (ta dc : Addr) (hD : D64 Γ ta dc) (sr rb : Addr) (bs : Bool) (ss : List Int32) (h0 : ss.length = 8) (Y : List Value) (hY : Y.length = 3072) (i1 i2 i3 i4 : Nat) (m1 : i1 < 128) (m2 : i2 < 128) (m3 : i3 < 128) (m4 : i4 < 128) (f1 : ss[0]? = some i1.toInt32) (f2 : ss[1]? = some i2.toInt32) (f3 : ss[2]? = some i3.toInt32) (f4 : ss[3]? = some i4.toInt32) (u1 u2 u3 u4 : Int32) (q1 : tab64[i1]? = some u1) (x1 : V6 u1) (q2 : tab64[i2]? = some u2) (x2 : V6 u2) (q3 : tab64[i3]? = some u3) (x3 : V6 u3) (q4 : tab64[i4]? = some u4) (x4 : V6 u4) (j1 j2 j3 j4 : Nat) (k1 : j1 < 128) (k2 : j2 < 128) (k3 : j3 < 128) (k4 : j4 < 128) (e1 : ss[4 + 0]? = some j1.toInt32) (e2 : ss[4 + 1]? = some j2.toInt32) (e3 : ss[4 + 2]? = some j3.toInt32) (e4 : ss[4 + 3]? = some j4.toInt32) (v1 v2 v3 v4 : Int32) (t1 : tab64[j1]? = some v1) (z1 : V6 v1) (t2 : tab64[j2]? = some v2) (z2 : V6 v2) (t3 : tab64[j3]? = some v3) (z3 : V6 v3) (t4 : tab64[j4]? = some v4) (z4 : V6 v4) :
    Met Γ (⟨"java/util/Base64$Decoder", "decodeBlock", "([BII[BIZZ)I"⟩ : MethodName) jdk_2450_method_8_code 16 (some .int) ({ frames := 0, cells := 0, slots := 0, locals := 0 } : Room) #[(.ref dc), (.ref sr), (.int 0), (.int 8), (.ref rb), (.int 0), (.int 0), (.int 0)] [(dc, false, DCO Γ), (sr, bs, BA Γ (ss.map Value.int)), (rb, true, BA Γ Y), (ta, false, Ary Γ "" .int (tab64.map Value.int))] (fun v O' => v = some (.int 6) ∧ O' = [(dc, false, DCO Γ), (sr, bs, BA Γ (ss.map Value.int)), (rb, true, BA Γ ((((((Y.set 0 (.int (y0 u1 u2))).set 1 (.int (y1 u2 u3))).set 2 (.int (y2 u3 u4))).set (3 + 0) (.int (y0 v1 v2))).set (3 + 1) (.int (y1 v2 v3))).set (3 + 2) (.int (y2 v3 v4)))), (ta, false, Ary Γ "" .int (tab64.map Value.int))]) := by
  refine Met.intro pn_java_util_Base64_Decoder (Ls := [.val (.ref dc), .val (.ref sr), .val (.int 0), .val (.int 8), .val (.ref rb), .val (.int 0), .val (.int 0), .val (.int 0), .unset, .unset, .unset, .unset, .unset, .unset, .unset, .unset]) (fun m => by first | rfl | (simp [entryFrame, mkF, argsToLocals, Value.category]; done)) ?_
  intro F
  obtain ⟨sta, sdc, ⟨cta, xta, yta⟩, ⟨cdc, xdc, ydc⟩⟩ := id hD
  refine R_iload d_jdk_2450_method_8_code_0 rfl ?_
  refine R_if_eq (pc' := 11) d_jdk_2450_method_8_code_2 (by decide) (by decide) (fun h => ?_) (fun h => ?_)
  · refine R_getstatic d_jdk_2450_method_8_code_11 (hw _ (mem 131 rfl)) Via.refl sta ?_
    refine R_astore d_jdk_2450_method_8_code_14 rfl rfl (by first | exact Or.inl rfl | exact Or.inr ⟨_, rfl, rfl⟩) ?_
    try dsimp only [List.set_cons_zero, List.set_cons_succ, List.eraseIdx_cons_zero, List.eraseIdx_cons_succ, List.cons_append, List.nil_append, Option.toList]
    refine R_iloadN d_jdk_2450_method_8_code_16 rfl ?_
    refine R_iloadN d_jdk_2450_method_8_code_17 rfl ?_
    refine R_iloadN d_jdk_2450_method_8_code_18 rfl ?_
    refine R_isub d_jdk_2450_method_8_code_19 ?_
    refine R_bipush (-4) d_jdk_2450_method_8_code_20 (by decide) ?_
    refine R_iand d_jdk_2450_method_8_code_22 ?_
    refine R_iadd d_jdk_2450_method_8_code_23 ?_
    rw [show (0 : Int32) + (((8 : Int32) - 0) &&& (-4)) = 8 from by decide]
    refine R_istore d_jdk_2450_method_8_code_24 rfl (by first | exact Or.inl rfl | exact Or.inr ⟨_, rfl, rfl⟩) ?_
    try dsimp only [List.set_cons_zero, List.set_cons_succ, List.eraseIdx_cons_zero, List.eraseIdx_cons_succ, List.cons_append, List.nil_append, Option.toList]
    refine R_iload d_jdk_2450_method_8_code_26 rfl ?_
    refine R_istore d_jdk_2450_method_8_code_28 rfl (by first | exact Or.inl rfl | exact Or.inr ⟨_, rfl, rfl⟩) ?_
    try dsimp only [List.set_cons_zero, List.set_cons_succ, List.eraseIdx_cons_zero, List.eraseIdx_cons_succ, List.cons_append, List.nil_append, Option.toList]
    refine R_iloadN d_jdk_2450_method_8_code_30 rfl ?_
    refine R_iload d_jdk_2450_method_8_code_31 rfl ?_
    refine R_icmp_ge (pc' := 180) d_jdk_2450_method_8_code_33 (by decide) (by decide) (fun b0 => ?_) (fun b0 => ?_)
    · exact absurd (by decide) b0
    · refine R_aload d_jdk_2450_method_8_code_36 rfl rfl ?_
      refine R_aloadN d_jdk_2450_method_8_code_38 rfl rfl ?_
      refine R_iloadN d_jdk_2450_method_8_code_39 rfl ?_
      refine R_iinc (1) d_jdk_2450_method_8_code_40 (by decide) rfl ?_
      try dsimp only [List.set_cons_zero, List.set_cons_succ, List.eraseIdx_cons_zero, List.eraseIdx_cons_succ, List.cons_append, List.nil_append, Option.toList]
      refine R_baload d_jdk_2450_method_8_code_43 (mem 1 rfl) (by decide) 0 rfl (by rw [List.getElem?_map, f1]; rfl) ?_
      refine R_sipush (255) d_jdk_2450_method_8_code_44 (by decide) ?_
      refine R_iand d_jdk_2450_method_8_code_47 ?_
      rw [and7 m1]
      refine R_iaload d_jdk_2450_method_8_code_48 (mem 3 rfl) (i32_nn (by omega)) i1 (i32_cl (by omega)) (tab_at q1) ?_
      refine R_istore d_jdk_2450_method_8_code_49 rfl (by first | exact Or.inl rfl | exact Or.inr ⟨_, rfl, rfl⟩) ?_
      try dsimp only [List.set_cons_zero, List.set_cons_succ, List.eraseIdx_cons_zero, List.eraseIdx_cons_succ, List.cons_append, List.nil_append, Option.toList]
      refine R_aload d_jdk_2450_method_8_code_51 rfl rfl ?_
      refine R_aloadN d_jdk_2450_method_8_code_53 rfl rfl ?_
      refine R_iloadN d_jdk_2450_method_8_code_54 rfl ?_
      refine R_iinc (1) d_jdk_2450_method_8_code_55 (by decide) rfl ?_
      try dsimp only [List.set_cons_zero, List.set_cons_succ, List.eraseIdx_cons_zero, List.eraseIdx_cons_succ, List.cons_append, List.nil_append, Option.toList]
      refine R_baload d_jdk_2450_method_8_code_58 (mem 1 rfl) (by decide) 1 rfl (by rw [List.getElem?_map, f2]; rfl) ?_
      refine R_sipush (255) d_jdk_2450_method_8_code_59 (by decide) ?_
      refine R_iand d_jdk_2450_method_8_code_62 ?_
      rw [and7 m2]
      refine R_iaload d_jdk_2450_method_8_code_63 (mem 3 rfl) (i32_nn (by omega)) i2 (i32_cl (by omega)) (tab_at q2) ?_
      refine R_istore d_jdk_2450_method_8_code_64 rfl (by first | exact Or.inl rfl | exact Or.inr ⟨_, rfl, rfl⟩) ?_
      try dsimp only [List.set_cons_zero, List.set_cons_succ, List.eraseIdx_cons_zero, List.eraseIdx_cons_succ, List.cons_append, List.nil_append, Option.toList]
      refine R_aload d_jdk_2450_method_8_code_66 rfl rfl ?_
      refine R_aloadN d_jdk_2450_method_8_code_68 rfl rfl ?_
      refine R_iloadN d_jdk_2450_method_8_code_69 rfl ?_
      refine R_iinc (1) d_jdk_2450_method_8_code_70 (by decide) rfl ?_
      try dsimp only [List.set_cons_zero, List.set_cons_succ, List.eraseIdx_cons_zero, List.eraseIdx_cons_succ, List.cons_append, List.nil_append, Option.toList]
      refine R_baload d_jdk_2450_method_8_code_73 (mem 1 rfl) (by decide) 2 rfl (by rw [List.getElem?_map, f3]; rfl) ?_
      refine R_sipush (255) d_jdk_2450_method_8_code_74 (by decide) ?_
      refine R_iand d_jdk_2450_method_8_code_77 ?_
      rw [and7 m3]
      refine R_iaload d_jdk_2450_method_8_code_78 (mem 3 rfl) (i32_nn (by omega)) i3 (i32_cl (by omega)) (tab_at q3) ?_
      refine R_istore d_jdk_2450_method_8_code_79 rfl (by first | exact Or.inl rfl | exact Or.inr ⟨_, rfl, rfl⟩) ?_
      try dsimp only [List.set_cons_zero, List.set_cons_succ, List.eraseIdx_cons_zero, List.eraseIdx_cons_succ, List.cons_append, List.nil_append, Option.toList]
      refine R_aload d_jdk_2450_method_8_code_81 rfl rfl ?_
      refine R_aloadN d_jdk_2450_method_8_code_83 rfl rfl ?_
      refine R_iloadN d_jdk_2450_method_8_code_84 rfl ?_
      refine R_iinc (1) d_jdk_2450_method_8_code_85 (by decide) rfl ?_
      try dsimp only [List.set_cons_zero, List.set_cons_succ, List.eraseIdx_cons_zero, List.eraseIdx_cons_succ, List.cons_append, List.nil_append, Option.toList]
      refine R_baload d_jdk_2450_method_8_code_88 (mem 1 rfl) (by decide) 3 rfl (by rw [List.getElem?_map, f4]; rfl) ?_
      refine R_sipush (255) d_jdk_2450_method_8_code_89 (by decide) ?_
      refine R_iand d_jdk_2450_method_8_code_92 ?_
      rw [and7 m4]
      refine R_iaload d_jdk_2450_method_8_code_93 (mem 3 rfl) (i32_nn (by omega)) i4 (i32_cl (by omega)) (tab_at q4) ?_
      refine R_istore d_jdk_2450_method_8_code_94 rfl (by first | exact Or.inl rfl | exact Or.inr ⟨_, rfl, rfl⟩) ?_
      try dsimp only [List.set_cons_zero, List.set_cons_succ, List.eraseIdx_cons_zero, List.eraseIdx_cons_succ, List.cons_append, List.nil_append, Option.toList]
      refine R_iload d_jdk_2450_method_8_code_96 rfl ?_
      refine R_iload d_jdk_2450_method_8_code_98 rfl ?_
      refine R_ior d_jdk_2450_method_8_code_100 ?_
      refine R_iload d_jdk_2450_method_8_code_101 rfl ?_
      refine R_ior d_jdk_2450_method_8_code_103 ?_
      refine R_iload d_jdk_2450_method_8_code_104 rfl ?_
      refine R_ior d_jdk_2450_method_8_code_106 ?_
      refine R_if_ge (pc' := 116) d_jdk_2450_method_8_code_107 (by decide) (by decide) (fun b1 => ?_) (fun b1 => ?_)
      · refine R_iload d_jdk_2450_method_8_code_116 rfl ?_
        refine R_bipush (18) d_jdk_2450_method_8_code_118 (by decide) ?_
        refine R_ishl d_jdk_2450_method_8_code_120 ?_
        refine R_iload d_jdk_2450_method_8_code_121 rfl ?_
        refine R_bipush (12) d_jdk_2450_method_8_code_123 (by decide) ?_
        refine R_ishl d_jdk_2450_method_8_code_125 ?_
        refine R_ior d_jdk_2450_method_8_code_126 ?_
        refine R_iload d_jdk_2450_method_8_code_127 rfl ?_
        refine R_bipush (6) d_jdk_2450_method_8_code_129 (by decide) ?_
        refine R_ishl d_jdk_2450_method_8_code_131 ?_
        refine R_ior d_jdk_2450_method_8_code_132 ?_
        refine R_iload d_jdk_2450_method_8_code_133 rfl ?_
        refine R_ior d_jdk_2450_method_8_code_135 ?_
        refine R_istore d_jdk_2450_method_8_code_136 rfl (by first | exact Or.inl rfl | exact Or.inr ⟨_, rfl, rfl⟩) ?_
        try dsimp only [List.set_cons_zero, List.set_cons_succ, List.eraseIdx_cons_zero, List.eraseIdx_cons_succ, List.cons_append, List.nil_append, Option.toList]
        refine R_aload d_jdk_2450_method_8_code_138 rfl rfl ?_
        refine R_iload d_jdk_2450_method_8_code_140 rfl ?_
        refine R_iinc (1) d_jdk_2450_method_8_code_142 (by decide) rfl ?_
        try dsimp only [List.set_cons_zero, List.set_cons_succ, List.eraseIdx_cons_zero, List.eraseIdx_cons_succ, List.cons_append, List.nil_append, Option.toList]
        refine R_iload d_jdk_2450_method_8_code_145 rfl ?_
        refine R_bipush (16) d_jdk_2450_method_8_code_147 (by decide) ?_
        refine R_ishr d_jdk_2450_method_8_code_149 ?_
        refine R_i2b d_jdk_2450_method_8_code_150 ?_
        refine R_bastore 2 d_jdk_2450_method_8_code_151 rfl (by decide) 0 rfl (by first | (rw [hY]; decide) | (simp only [List.length_set]; rw [hY]; decide)) ?_
        try dsimp only [List.set_cons_zero, List.set_cons_succ, List.eraseIdx_cons_zero, List.eraseIdx_cons_succ, List.cons_append, List.nil_append, Option.toList]
        rw [Int8.toInt8_toInt32, (Z0A x1 x2 x3 x4).2, Y0A x1 x2 x3 x4]
        refine R_aload d_jdk_2450_method_8_code_152 rfl rfl ?_
        refine R_iload d_jdk_2450_method_8_code_154 rfl ?_
        refine R_iinc (1) d_jdk_2450_method_8_code_156 (by decide) rfl ?_
        try dsimp only [List.set_cons_zero, List.set_cons_succ, List.eraseIdx_cons_zero, List.eraseIdx_cons_succ, List.cons_append, List.nil_append, Option.toList]
        refine R_iload d_jdk_2450_method_8_code_159 rfl ?_
        refine R_bipush (8) d_jdk_2450_method_8_code_161 (by decide) ?_
        refine R_ishr d_jdk_2450_method_8_code_163 ?_
        refine R_i2b d_jdk_2450_method_8_code_164 ?_
        refine R_bastore 2 d_jdk_2450_method_8_code_165 rfl (by decide) 1 rfl (by first | (rw [hY]; decide) | (simp only [List.length_set]; rw [hY]; decide)) ?_
        try dsimp only [List.set_cons_zero, List.set_cons_succ, List.eraseIdx_cons_zero, List.eraseIdx_cons_succ, List.cons_append, List.nil_append, Option.toList]
        rw [Int8.toInt8_toInt32, Y1A x1 x2 x3 x4]
        refine R_aload d_jdk_2450_method_8_code_166 rfl rfl ?_
        refine R_iload d_jdk_2450_method_8_code_168 rfl ?_
        refine R_iinc (1) d_jdk_2450_method_8_code_170 (by decide) rfl ?_
        try dsimp only [List.set_cons_zero, List.set_cons_succ, List.eraseIdx_cons_zero, List.eraseIdx_cons_succ, List.cons_append, List.nil_append, Option.toList]
        refine R_iload d_jdk_2450_method_8_code_173 rfl ?_
        refine R_i2b d_jdk_2450_method_8_code_175 ?_
        refine R_bastore 2 d_jdk_2450_method_8_code_176 rfl (by decide) 2 rfl (by first | (rw [hY]; decide) | (simp only [List.length_set]; rw [hY]; decide)) ?_
        try dsimp only [List.set_cons_zero, List.set_cons_succ, List.eraseIdx_cons_zero, List.eraseIdx_cons_succ, List.cons_append, List.nil_append, Option.toList]
        rw [Int8.toInt8_toInt32, Y2A x1 x2 x3 x4]
        refine R_goto (pc' := 30) d_jdk_2450_method_8_code_177 (by decide) (by decide) ?_
        refine R_iloadN d_jdk_2450_method_8_code_30 rfl ?_
        refine R_iload d_jdk_2450_method_8_code_31 rfl ?_
        refine R_icmp_ge (pc' := 180) d_jdk_2450_method_8_code_33 (by decide) (by decide) (fun b2 => ?_) (fun b2 => ?_)
        · exact absurd (by decide) b2
        · refine R_aload d_jdk_2450_method_8_code_36 rfl rfl ?_
          refine R_aloadN d_jdk_2450_method_8_code_38 rfl rfl ?_
          refine R_iloadN d_jdk_2450_method_8_code_39 rfl ?_
          refine R_iinc (1) d_jdk_2450_method_8_code_40 (by decide) rfl ?_
          try dsimp only [List.set_cons_zero, List.set_cons_succ, List.eraseIdx_cons_zero, List.eraseIdx_cons_succ, List.cons_append, List.nil_append, Option.toList]
          refine R_baload d_jdk_2450_method_8_code_43 (mem 1 rfl) (by decide) 4 rfl (by rw [List.getElem?_map, e1]; rfl) ?_
          refine R_sipush (255) d_jdk_2450_method_8_code_44 (by decide) ?_
          refine R_iand d_jdk_2450_method_8_code_47 ?_
          rw [and7 k1]
          refine R_iaload d_jdk_2450_method_8_code_48 (mem 3 rfl) (i32_nn (by omega)) j1 (i32_cl (by omega)) (tab_at t1) ?_
          refine R_istore d_jdk_2450_method_8_code_49 rfl (by first | exact Or.inl rfl | exact Or.inr ⟨_, rfl, rfl⟩) ?_
          try dsimp only [List.set_cons_zero, List.set_cons_succ, List.eraseIdx_cons_zero, List.eraseIdx_cons_succ, List.cons_append, List.nil_append, Option.toList]
          refine R_aload d_jdk_2450_method_8_code_51 rfl rfl ?_
          refine R_aloadN d_jdk_2450_method_8_code_53 rfl rfl ?_
          refine R_iloadN d_jdk_2450_method_8_code_54 rfl ?_
          refine R_iinc (1) d_jdk_2450_method_8_code_55 (by decide) rfl ?_
          try dsimp only [List.set_cons_zero, List.set_cons_succ, List.eraseIdx_cons_zero, List.eraseIdx_cons_succ, List.cons_append, List.nil_append, Option.toList]
          refine R_baload d_jdk_2450_method_8_code_58 (mem 1 rfl) (by decide) 5 rfl (by rw [List.getElem?_map, e2]; rfl) ?_
          refine R_sipush (255) d_jdk_2450_method_8_code_59 (by decide) ?_
          refine R_iand d_jdk_2450_method_8_code_62 ?_
          rw [and7 k2]
          refine R_iaload d_jdk_2450_method_8_code_63 (mem 3 rfl) (i32_nn (by omega)) j2 (i32_cl (by omega)) (tab_at t2) ?_
          refine R_istore d_jdk_2450_method_8_code_64 rfl (by first | exact Or.inl rfl | exact Or.inr ⟨_, rfl, rfl⟩) ?_
          try dsimp only [List.set_cons_zero, List.set_cons_succ, List.eraseIdx_cons_zero, List.eraseIdx_cons_succ, List.cons_append, List.nil_append, Option.toList]
          refine R_aload d_jdk_2450_method_8_code_66 rfl rfl ?_
          refine R_aloadN d_jdk_2450_method_8_code_68 rfl rfl ?_
          refine R_iloadN d_jdk_2450_method_8_code_69 rfl ?_
          refine R_iinc (1) d_jdk_2450_method_8_code_70 (by decide) rfl ?_
          try dsimp only [List.set_cons_zero, List.set_cons_succ, List.eraseIdx_cons_zero, List.eraseIdx_cons_succ, List.cons_append, List.nil_append, Option.toList]
          refine R_baload d_jdk_2450_method_8_code_73 (mem 1 rfl) (by decide) 6 rfl (by rw [List.getElem?_map, e3]; rfl) ?_
          refine R_sipush (255) d_jdk_2450_method_8_code_74 (by decide) ?_
          refine R_iand d_jdk_2450_method_8_code_77 ?_
          rw [and7 k3]
          refine R_iaload d_jdk_2450_method_8_code_78 (mem 3 rfl) (i32_nn (by omega)) j3 (i32_cl (by omega)) (tab_at t3) ?_
          refine R_istore d_jdk_2450_method_8_code_79 rfl (by first | exact Or.inl rfl | exact Or.inr ⟨_, rfl, rfl⟩) ?_
          try dsimp only [List.set_cons_zero, List.set_cons_succ, List.eraseIdx_cons_zero, List.eraseIdx_cons_succ, List.cons_append, List.nil_append, Option.toList]
          refine R_aload d_jdk_2450_method_8_code_81 rfl rfl ?_
          refine R_aloadN d_jdk_2450_method_8_code_83 rfl rfl ?_
          refine R_iloadN d_jdk_2450_method_8_code_84 rfl ?_
          refine R_iinc (1) d_jdk_2450_method_8_code_85 (by decide) rfl ?_
          try dsimp only [List.set_cons_zero, List.set_cons_succ, List.eraseIdx_cons_zero, List.eraseIdx_cons_succ, List.cons_append, List.nil_append, Option.toList]
          refine R_baload d_jdk_2450_method_8_code_88 (mem 1 rfl) (by decide) 7 rfl (by rw [List.getElem?_map, e4]; rfl) ?_
          refine R_sipush (255) d_jdk_2450_method_8_code_89 (by decide) ?_
          refine R_iand d_jdk_2450_method_8_code_92 ?_
          rw [and7 k4]
          refine R_iaload d_jdk_2450_method_8_code_93 (mem 3 rfl) (i32_nn (by omega)) j4 (i32_cl (by omega)) (tab_at t4) ?_
          refine R_istore d_jdk_2450_method_8_code_94 rfl (by first | exact Or.inl rfl | exact Or.inr ⟨_, rfl, rfl⟩) ?_
          try dsimp only [List.set_cons_zero, List.set_cons_succ, List.eraseIdx_cons_zero, List.eraseIdx_cons_succ, List.cons_append, List.nil_append, Option.toList]
          refine R_iload d_jdk_2450_method_8_code_96 rfl ?_
          refine R_iload d_jdk_2450_method_8_code_98 rfl ?_
          refine R_ior d_jdk_2450_method_8_code_100 ?_
          refine R_iload d_jdk_2450_method_8_code_101 rfl ?_
          refine R_ior d_jdk_2450_method_8_code_103 ?_
          refine R_iload d_jdk_2450_method_8_code_104 rfl ?_
          refine R_ior d_jdk_2450_method_8_code_106 ?_
          refine R_if_ge (pc' := 116) d_jdk_2450_method_8_code_107 (by decide) (by decide) (fun b3 => ?_) (fun b3 => ?_)
          · refine R_iload d_jdk_2450_method_8_code_116 rfl ?_
            refine R_bipush (18) d_jdk_2450_method_8_code_118 (by decide) ?_
            refine R_ishl d_jdk_2450_method_8_code_120 ?_
            refine R_iload d_jdk_2450_method_8_code_121 rfl ?_
            refine R_bipush (12) d_jdk_2450_method_8_code_123 (by decide) ?_
            refine R_ishl d_jdk_2450_method_8_code_125 ?_
            refine R_ior d_jdk_2450_method_8_code_126 ?_
            refine R_iload d_jdk_2450_method_8_code_127 rfl ?_
            refine R_bipush (6) d_jdk_2450_method_8_code_129 (by decide) ?_
            refine R_ishl d_jdk_2450_method_8_code_131 ?_
            refine R_ior d_jdk_2450_method_8_code_132 ?_
            refine R_iload d_jdk_2450_method_8_code_133 rfl ?_
            refine R_ior d_jdk_2450_method_8_code_135 ?_
            refine R_istore d_jdk_2450_method_8_code_136 rfl (by first | exact Or.inl rfl | exact Or.inr ⟨_, rfl, rfl⟩) ?_
            try dsimp only [List.set_cons_zero, List.set_cons_succ, List.eraseIdx_cons_zero, List.eraseIdx_cons_succ, List.cons_append, List.nil_append, Option.toList]
            refine R_aload d_jdk_2450_method_8_code_138 rfl rfl ?_
            refine R_iload d_jdk_2450_method_8_code_140 rfl ?_
            refine R_iinc (1) d_jdk_2450_method_8_code_142 (by decide) rfl ?_
            try dsimp only [List.set_cons_zero, List.set_cons_succ, List.eraseIdx_cons_zero, List.eraseIdx_cons_succ, List.cons_append, List.nil_append, Option.toList]
            refine R_iload d_jdk_2450_method_8_code_145 rfl ?_
            refine R_bipush (16) d_jdk_2450_method_8_code_147 (by decide) ?_
            refine R_ishr d_jdk_2450_method_8_code_149 ?_
            refine R_i2b d_jdk_2450_method_8_code_150 ?_
            refine R_bastore 2 d_jdk_2450_method_8_code_151 rfl (by decide) 3 rfl (by first | (rw [hY]; decide) | (simp only [List.length_set]; rw [hY]; decide)) ?_
            try dsimp only [List.set_cons_zero, List.set_cons_succ, List.eraseIdx_cons_zero, List.eraseIdx_cons_succ, List.cons_append, List.nil_append, Option.toList]
            rw [Int8.toInt8_toInt32, (Z0A z1 z2 z3 z4).2, Y0A z1 z2 z3 z4]
            refine R_aload d_jdk_2450_method_8_code_152 rfl rfl ?_
            refine R_iload d_jdk_2450_method_8_code_154 rfl ?_
            refine R_iinc (1) d_jdk_2450_method_8_code_156 (by decide) rfl ?_
            try dsimp only [List.set_cons_zero, List.set_cons_succ, List.eraseIdx_cons_zero, List.eraseIdx_cons_succ, List.cons_append, List.nil_append, Option.toList]
            refine R_iload d_jdk_2450_method_8_code_159 rfl ?_
            refine R_bipush (8) d_jdk_2450_method_8_code_161 (by decide) ?_
            refine R_ishr d_jdk_2450_method_8_code_163 ?_
            refine R_i2b d_jdk_2450_method_8_code_164 ?_
            refine R_bastore 2 d_jdk_2450_method_8_code_165 rfl (by decide) 4 rfl (by first | (rw [hY]; decide) | (simp only [List.length_set]; rw [hY]; decide)) ?_
            try dsimp only [List.set_cons_zero, List.set_cons_succ, List.eraseIdx_cons_zero, List.eraseIdx_cons_succ, List.cons_append, List.nil_append, Option.toList]
            rw [Int8.toInt8_toInt32, Y1A z1 z2 z3 z4]
            refine R_aload d_jdk_2450_method_8_code_166 rfl rfl ?_
            refine R_iload d_jdk_2450_method_8_code_168 rfl ?_
            refine R_iinc (1) d_jdk_2450_method_8_code_170 (by decide) rfl ?_
            try dsimp only [List.set_cons_zero, List.set_cons_succ, List.eraseIdx_cons_zero, List.eraseIdx_cons_succ, List.cons_append, List.nil_append, Option.toList]
            refine R_iload d_jdk_2450_method_8_code_173 rfl ?_
            refine R_i2b d_jdk_2450_method_8_code_175 ?_
            refine R_bastore 2 d_jdk_2450_method_8_code_176 rfl (by decide) 5 rfl (by first | (rw [hY]; decide) | (simp only [List.length_set]; rw [hY]; decide)) ?_
            try dsimp only [List.set_cons_zero, List.set_cons_succ, List.eraseIdx_cons_zero, List.eraseIdx_cons_succ, List.cons_append, List.nil_append, Option.toList]
            rw [Int8.toInt8_toInt32, Y2A z1 z2 z3 z4]
            refine R_goto (pc' := 30) d_jdk_2450_method_8_code_177 (by decide) (by decide) ?_
            refine R_iloadN d_jdk_2450_method_8_code_30 rfl ?_
            refine R_iload d_jdk_2450_method_8_code_31 rfl ?_
            refine R_icmp_ge (pc' := 180) d_jdk_2450_method_8_code_33 (by decide) (by decide) (fun b4 => ?_) (fun b4 => ?_)
            · refine R_iload d_jdk_2450_method_8_code_180 rfl ?_
              refine R_iload d_jdk_2450_method_8_code_182 rfl ?_
              refine R_isub d_jdk_2450_method_8_code_184 ?_
              exact R_ireturn d_jdk_2450_method_8_code_185 rfl ⟨rfl, rfl⟩ (Nat.le_of_ble_eq_true rfl) (Nat.le_of_ble_eq_true rfl)
            · exact absurd b4 (by decide)
          · exact absurd b3 (or_nn (or_nn (or_nn (V6.nn z1) (V6.nn z2)) (V6.nn z3)) (V6.nn z4))
      · exact absurd b1 (or_nn (or_nn (or_nn (V6.nn x1) (V6.nn x2)) (V6.nn x3)) (V6.nn x4))
  · exact absurd rfl h

set_option maxRecDepth 65536 in
set_option maxHeartbeats 4000000 in
theorem M_db3 {Γ : Gx} (hw : Words Γ) (ta dc : Addr) (hD : D64 Γ ta dc) (sr rb : Addr) (bs : Bool) (ss : List Int32) (h0 : ss.length = 8) (Y : List Value) (hY : Y.length = 3072) (i1 i2 i3 i4 : Nat) (m1 : i1 < 128) (m2 : i2 < 128) (m3 : i3 < 128) (m4 : i4 < 128) (f1 : ss[0]? = some i1.toInt32) (f2 : ss[1]? = some i2.toInt32) (f3 : ss[2]? = some i3.toInt32) (f4 : ss[3]? = some i4.toInt32) (u1 u2 u3 u4 : Int32) (q1 : tab64[i1]? = some u1) (x1 : V6 u1) (q2 : tab64[i2]? = some u2) (x2 : V6 u2) (q3 : tab64[i3]? = some u3) (x3 : V6 u3) (q4 : tab64[i4]? = some u4) (x4 : V6 u4) (j1 j2 j3 j4 : Nat) (k1 : j1 < 128) (k2 : j2 < 128) (k3 : j3 < 128) (k4 : j4 < 128) (e1 : ss[4 + 0]? = some j1.toInt32) (e2 : ss[4 + 1]? = some j2.toInt32) (e3 : ss[4 + 2]? = some j3.toInt32) (e4 : ss[4 + 3]? = some j4.toInt32) (v1 v2 v3 v4 : Int32) (t1 : tab64[j1]? = some v1) (t2 : tab64[j2]? = some v2) (t3 : tab64[j3]? = some v3) (t4 : tab64[j4]? = some v4) (hneg : ¬ ¬ (((v1 ||| v2) ||| v3) ||| v4) < 0) :
    Met Γ (⟨"java/util/Base64$Decoder", "decodeBlock", "([BII[BIZZ)I"⟩ : MethodName) jdk_2450_method_8_code 16 (some .int) ({ frames := 0, cells := 0, slots := 0, locals := 0 } : Room) #[(.ref dc), (.ref sr), (.int 0), (.int 8), (.ref rb), (.int 0), (.int 0), (.int 0)] [(dc, false, DCO Γ), (sr, bs, BA Γ (ss.map Value.int)), (rb, true, BA Γ Y), (ta, false, Ary Γ "" .int (tab64.map Value.int))] (fun v O' => v = some (.int 3) ∧ O' = [(dc, false, DCO Γ), (sr, bs, BA Γ (ss.map Value.int)), (rb, true, BA Γ (((Y.set 0 (.int (y0 u1 u2))).set 1 (.int (y1 u2 u3))).set 2 (.int (y2 u3 u4)))), (ta, false, Ary Γ "" .int (tab64.map Value.int))]) := by
  refine Met.intro pn_java_util_Base64_Decoder (Ls := [.val (.ref dc), .val (.ref sr), .val (.int 0), .val (.int 8), .val (.ref rb), .val (.int 0), .val (.int 0), .val (.int 0), .unset, .unset, .unset, .unset, .unset, .unset, .unset, .unset]) (fun m => by first | rfl | (simp [entryFrame, mkF, argsToLocals, Value.category]; done)) ?_
  intro F
  obtain ⟨sta, sdc, ⟨cta, xta, yta⟩, ⟨cdc, xdc, ydc⟩⟩ := id hD
  refine R_iload d_jdk_2450_method_8_code_0 rfl ?_
  refine R_if_eq (pc' := 11) d_jdk_2450_method_8_code_2 (by decide) (by decide) (fun h => ?_) (fun h => ?_)
  · refine R_getstatic d_jdk_2450_method_8_code_11 (hw _ (mem 131 rfl)) Via.refl sta ?_
    refine R_astore d_jdk_2450_method_8_code_14 rfl rfl (by first | exact Or.inl rfl | exact Or.inr ⟨_, rfl, rfl⟩) ?_
    try dsimp only [List.set_cons_zero, List.set_cons_succ, List.eraseIdx_cons_zero, List.eraseIdx_cons_succ, List.cons_append, List.nil_append, Option.toList]
    refine R_iloadN d_jdk_2450_method_8_code_16 rfl ?_
    refine R_iloadN d_jdk_2450_method_8_code_17 rfl ?_
    refine R_iloadN d_jdk_2450_method_8_code_18 rfl ?_
    refine R_isub d_jdk_2450_method_8_code_19 ?_
    refine R_bipush (-4) d_jdk_2450_method_8_code_20 (by decide) ?_
    refine R_iand d_jdk_2450_method_8_code_22 ?_
    refine R_iadd d_jdk_2450_method_8_code_23 ?_
    rw [show (0 : Int32) + (((8 : Int32) - 0) &&& (-4)) = 8 from by decide]
    refine R_istore d_jdk_2450_method_8_code_24 rfl (by first | exact Or.inl rfl | exact Or.inr ⟨_, rfl, rfl⟩) ?_
    try dsimp only [List.set_cons_zero, List.set_cons_succ, List.eraseIdx_cons_zero, List.eraseIdx_cons_succ, List.cons_append, List.nil_append, Option.toList]
    refine R_iload d_jdk_2450_method_8_code_26 rfl ?_
    refine R_istore d_jdk_2450_method_8_code_28 rfl (by first | exact Or.inl rfl | exact Or.inr ⟨_, rfl, rfl⟩) ?_
    try dsimp only [List.set_cons_zero, List.set_cons_succ, List.eraseIdx_cons_zero, List.eraseIdx_cons_succ, List.cons_append, List.nil_append, Option.toList]
    refine R_iloadN d_jdk_2450_method_8_code_30 rfl ?_
    refine R_iload d_jdk_2450_method_8_code_31 rfl ?_
    refine R_icmp_ge (pc' := 180) d_jdk_2450_method_8_code_33 (by decide) (by decide) (fun b0 => ?_) (fun b0 => ?_)
    · exact absurd (by decide) b0
    · refine R_aload d_jdk_2450_method_8_code_36 rfl rfl ?_
      refine R_aloadN d_jdk_2450_method_8_code_38 rfl rfl ?_
      refine R_iloadN d_jdk_2450_method_8_code_39 rfl ?_
      refine R_iinc (1) d_jdk_2450_method_8_code_40 (by decide) rfl ?_
      try dsimp only [List.set_cons_zero, List.set_cons_succ, List.eraseIdx_cons_zero, List.eraseIdx_cons_succ, List.cons_append, List.nil_append, Option.toList]
      refine R_baload d_jdk_2450_method_8_code_43 (mem 1 rfl) (by decide) 0 rfl (by rw [List.getElem?_map, f1]; rfl) ?_
      refine R_sipush (255) d_jdk_2450_method_8_code_44 (by decide) ?_
      refine R_iand d_jdk_2450_method_8_code_47 ?_
      rw [and7 m1]
      refine R_iaload d_jdk_2450_method_8_code_48 (mem 3 rfl) (i32_nn (by omega)) i1 (i32_cl (by omega)) (tab_at q1) ?_
      refine R_istore d_jdk_2450_method_8_code_49 rfl (by first | exact Or.inl rfl | exact Or.inr ⟨_, rfl, rfl⟩) ?_
      try dsimp only [List.set_cons_zero, List.set_cons_succ, List.eraseIdx_cons_zero, List.eraseIdx_cons_succ, List.cons_append, List.nil_append, Option.toList]
      refine R_aload d_jdk_2450_method_8_code_51 rfl rfl ?_
      refine R_aloadN d_jdk_2450_method_8_code_53 rfl rfl ?_
      refine R_iloadN d_jdk_2450_method_8_code_54 rfl ?_
      refine R_iinc (1) d_jdk_2450_method_8_code_55 (by decide) rfl ?_
      try dsimp only [List.set_cons_zero, List.set_cons_succ, List.eraseIdx_cons_zero, List.eraseIdx_cons_succ, List.cons_append, List.nil_append, Option.toList]
      refine R_baload d_jdk_2450_method_8_code_58 (mem 1 rfl) (by decide) 1 rfl (by rw [List.getElem?_map, f2]; rfl) ?_
      refine R_sipush (255) d_jdk_2450_method_8_code_59 (by decide) ?_
      refine R_iand d_jdk_2450_method_8_code_62 ?_
      rw [and7 m2]
      refine R_iaload d_jdk_2450_method_8_code_63 (mem 3 rfl) (i32_nn (by omega)) i2 (i32_cl (by omega)) (tab_at q2) ?_
      refine R_istore d_jdk_2450_method_8_code_64 rfl (by first | exact Or.inl rfl | exact Or.inr ⟨_, rfl, rfl⟩) ?_
      try dsimp only [List.set_cons_zero, List.set_cons_succ, List.eraseIdx_cons_zero, List.eraseIdx_cons_succ, List.cons_append, List.nil_append, Option.toList]
      refine R_aload d_jdk_2450_method_8_code_66 rfl rfl ?_
      refine R_aloadN d_jdk_2450_method_8_code_68 rfl rfl ?_
      refine R_iloadN d_jdk_2450_method_8_code_69 rfl ?_
      refine R_iinc (1) d_jdk_2450_method_8_code_70 (by decide) rfl ?_
      try dsimp only [List.set_cons_zero, List.set_cons_succ, List.eraseIdx_cons_zero, List.eraseIdx_cons_succ, List.cons_append, List.nil_append, Option.toList]
      refine R_baload d_jdk_2450_method_8_code_73 (mem 1 rfl) (by decide) 2 rfl (by rw [List.getElem?_map, f3]; rfl) ?_
      refine R_sipush (255) d_jdk_2450_method_8_code_74 (by decide) ?_
      refine R_iand d_jdk_2450_method_8_code_77 ?_
      rw [and7 m3]
      refine R_iaload d_jdk_2450_method_8_code_78 (mem 3 rfl) (i32_nn (by omega)) i3 (i32_cl (by omega)) (tab_at q3) ?_
      refine R_istore d_jdk_2450_method_8_code_79 rfl (by first | exact Or.inl rfl | exact Or.inr ⟨_, rfl, rfl⟩) ?_
      try dsimp only [List.set_cons_zero, List.set_cons_succ, List.eraseIdx_cons_zero, List.eraseIdx_cons_succ, List.cons_append, List.nil_append, Option.toList]
      refine R_aload d_jdk_2450_method_8_code_81 rfl rfl ?_
      refine R_aloadN d_jdk_2450_method_8_code_83 rfl rfl ?_
      refine R_iloadN d_jdk_2450_method_8_code_84 rfl ?_
      refine R_iinc (1) d_jdk_2450_method_8_code_85 (by decide) rfl ?_
      try dsimp only [List.set_cons_zero, List.set_cons_succ, List.eraseIdx_cons_zero, List.eraseIdx_cons_succ, List.cons_append, List.nil_append, Option.toList]
      refine R_baload d_jdk_2450_method_8_code_88 (mem 1 rfl) (by decide) 3 rfl (by rw [List.getElem?_map, f4]; rfl) ?_
      refine R_sipush (255) d_jdk_2450_method_8_code_89 (by decide) ?_
      refine R_iand d_jdk_2450_method_8_code_92 ?_
      rw [and7 m4]
      refine R_iaload d_jdk_2450_method_8_code_93 (mem 3 rfl) (i32_nn (by omega)) i4 (i32_cl (by omega)) (tab_at q4) ?_
      refine R_istore d_jdk_2450_method_8_code_94 rfl (by first | exact Or.inl rfl | exact Or.inr ⟨_, rfl, rfl⟩) ?_
      try dsimp only [List.set_cons_zero, List.set_cons_succ, List.eraseIdx_cons_zero, List.eraseIdx_cons_succ, List.cons_append, List.nil_append, Option.toList]
      refine R_iload d_jdk_2450_method_8_code_96 rfl ?_
      refine R_iload d_jdk_2450_method_8_code_98 rfl ?_
      refine R_ior d_jdk_2450_method_8_code_100 ?_
      refine R_iload d_jdk_2450_method_8_code_101 rfl ?_
      refine R_ior d_jdk_2450_method_8_code_103 ?_
      refine R_iload d_jdk_2450_method_8_code_104 rfl ?_
      refine R_ior d_jdk_2450_method_8_code_106 ?_
      refine R_if_ge (pc' := 116) d_jdk_2450_method_8_code_107 (by decide) (by decide) (fun b1 => ?_) (fun b1 => ?_)
      · refine R_iload d_jdk_2450_method_8_code_116 rfl ?_
        refine R_bipush (18) d_jdk_2450_method_8_code_118 (by decide) ?_
        refine R_ishl d_jdk_2450_method_8_code_120 ?_
        refine R_iload d_jdk_2450_method_8_code_121 rfl ?_
        refine R_bipush (12) d_jdk_2450_method_8_code_123 (by decide) ?_
        refine R_ishl d_jdk_2450_method_8_code_125 ?_
        refine R_ior d_jdk_2450_method_8_code_126 ?_
        refine R_iload d_jdk_2450_method_8_code_127 rfl ?_
        refine R_bipush (6) d_jdk_2450_method_8_code_129 (by decide) ?_
        refine R_ishl d_jdk_2450_method_8_code_131 ?_
        refine R_ior d_jdk_2450_method_8_code_132 ?_
        refine R_iload d_jdk_2450_method_8_code_133 rfl ?_
        refine R_ior d_jdk_2450_method_8_code_135 ?_
        refine R_istore d_jdk_2450_method_8_code_136 rfl (by first | exact Or.inl rfl | exact Or.inr ⟨_, rfl, rfl⟩) ?_
        try dsimp only [List.set_cons_zero, List.set_cons_succ, List.eraseIdx_cons_zero, List.eraseIdx_cons_succ, List.cons_append, List.nil_append, Option.toList]
        refine R_aload d_jdk_2450_method_8_code_138 rfl rfl ?_
        refine R_iload d_jdk_2450_method_8_code_140 rfl ?_
        refine R_iinc (1) d_jdk_2450_method_8_code_142 (by decide) rfl ?_
        try dsimp only [List.set_cons_zero, List.set_cons_succ, List.eraseIdx_cons_zero, List.eraseIdx_cons_succ, List.cons_append, List.nil_append, Option.toList]
        refine R_iload d_jdk_2450_method_8_code_145 rfl ?_
        refine R_bipush (16) d_jdk_2450_method_8_code_147 (by decide) ?_
        refine R_ishr d_jdk_2450_method_8_code_149 ?_
        refine R_i2b d_jdk_2450_method_8_code_150 ?_
        refine R_bastore 2 d_jdk_2450_method_8_code_151 rfl (by decide) 0 rfl (by first | (rw [hY]; decide) | (simp only [List.length_set]; rw [hY]; decide)) ?_
        try dsimp only [List.set_cons_zero, List.set_cons_succ, List.eraseIdx_cons_zero, List.eraseIdx_cons_succ, List.cons_append, List.nil_append, Option.toList]
        rw [Int8.toInt8_toInt32, (Z0A x1 x2 x3 x4).2, Y0A x1 x2 x3 x4]
        refine R_aload d_jdk_2450_method_8_code_152 rfl rfl ?_
        refine R_iload d_jdk_2450_method_8_code_154 rfl ?_
        refine R_iinc (1) d_jdk_2450_method_8_code_156 (by decide) rfl ?_
        try dsimp only [List.set_cons_zero, List.set_cons_succ, List.eraseIdx_cons_zero, List.eraseIdx_cons_succ, List.cons_append, List.nil_append, Option.toList]
        refine R_iload d_jdk_2450_method_8_code_159 rfl ?_
        refine R_bipush (8) d_jdk_2450_method_8_code_161 (by decide) ?_
        refine R_ishr d_jdk_2450_method_8_code_163 ?_
        refine R_i2b d_jdk_2450_method_8_code_164 ?_
        refine R_bastore 2 d_jdk_2450_method_8_code_165 rfl (by decide) 1 rfl (by first | (rw [hY]; decide) | (simp only [List.length_set]; rw [hY]; decide)) ?_
        try dsimp only [List.set_cons_zero, List.set_cons_succ, List.eraseIdx_cons_zero, List.eraseIdx_cons_succ, List.cons_append, List.nil_append, Option.toList]
        rw [Int8.toInt8_toInt32, Y1A x1 x2 x3 x4]
        refine R_aload d_jdk_2450_method_8_code_166 rfl rfl ?_
        refine R_iload d_jdk_2450_method_8_code_168 rfl ?_
        refine R_iinc (1) d_jdk_2450_method_8_code_170 (by decide) rfl ?_
        try dsimp only [List.set_cons_zero, List.set_cons_succ, List.eraseIdx_cons_zero, List.eraseIdx_cons_succ, List.cons_append, List.nil_append, Option.toList]
        refine R_iload d_jdk_2450_method_8_code_173 rfl ?_
        refine R_i2b d_jdk_2450_method_8_code_175 ?_
        refine R_bastore 2 d_jdk_2450_method_8_code_176 rfl (by decide) 2 rfl (by first | (rw [hY]; decide) | (simp only [List.length_set]; rw [hY]; decide)) ?_
        try dsimp only [List.set_cons_zero, List.set_cons_succ, List.eraseIdx_cons_zero, List.eraseIdx_cons_succ, List.cons_append, List.nil_append, Option.toList]
        rw [Int8.toInt8_toInt32, Y2A x1 x2 x3 x4]
        refine R_goto (pc' := 30) d_jdk_2450_method_8_code_177 (by decide) (by decide) ?_
        refine R_iloadN d_jdk_2450_method_8_code_30 rfl ?_
        refine R_iload d_jdk_2450_method_8_code_31 rfl ?_
        refine R_icmp_ge (pc' := 180) d_jdk_2450_method_8_code_33 (by decide) (by decide) (fun b2 => ?_) (fun b2 => ?_)
        · exact absurd (by decide) b2
        · refine R_aload d_jdk_2450_method_8_code_36 rfl rfl ?_
          refine R_aloadN d_jdk_2450_method_8_code_38 rfl rfl ?_
          refine R_iloadN d_jdk_2450_method_8_code_39 rfl ?_
          refine R_iinc (1) d_jdk_2450_method_8_code_40 (by decide) rfl ?_
          try dsimp only [List.set_cons_zero, List.set_cons_succ, List.eraseIdx_cons_zero, List.eraseIdx_cons_succ, List.cons_append, List.nil_append, Option.toList]
          refine R_baload d_jdk_2450_method_8_code_43 (mem 1 rfl) (by decide) 4 rfl (by rw [List.getElem?_map, e1]; rfl) ?_
          refine R_sipush (255) d_jdk_2450_method_8_code_44 (by decide) ?_
          refine R_iand d_jdk_2450_method_8_code_47 ?_
          rw [and7 k1]
          refine R_iaload d_jdk_2450_method_8_code_48 (mem 3 rfl) (i32_nn (by omega)) j1 (i32_cl (by omega)) (tab_at t1) ?_
          refine R_istore d_jdk_2450_method_8_code_49 rfl (by first | exact Or.inl rfl | exact Or.inr ⟨_, rfl, rfl⟩) ?_
          try dsimp only [List.set_cons_zero, List.set_cons_succ, List.eraseIdx_cons_zero, List.eraseIdx_cons_succ, List.cons_append, List.nil_append, Option.toList]
          refine R_aload d_jdk_2450_method_8_code_51 rfl rfl ?_
          refine R_aloadN d_jdk_2450_method_8_code_53 rfl rfl ?_
          refine R_iloadN d_jdk_2450_method_8_code_54 rfl ?_
          refine R_iinc (1) d_jdk_2450_method_8_code_55 (by decide) rfl ?_
          try dsimp only [List.set_cons_zero, List.set_cons_succ, List.eraseIdx_cons_zero, List.eraseIdx_cons_succ, List.cons_append, List.nil_append, Option.toList]
          refine R_baload d_jdk_2450_method_8_code_58 (mem 1 rfl) (by decide) 5 rfl (by rw [List.getElem?_map, e2]; rfl) ?_
          refine R_sipush (255) d_jdk_2450_method_8_code_59 (by decide) ?_
          refine R_iand d_jdk_2450_method_8_code_62 ?_
          rw [and7 k2]
          refine R_iaload d_jdk_2450_method_8_code_63 (mem 3 rfl) (i32_nn (by omega)) j2 (i32_cl (by omega)) (tab_at t2) ?_
          refine R_istore d_jdk_2450_method_8_code_64 rfl (by first | exact Or.inl rfl | exact Or.inr ⟨_, rfl, rfl⟩) ?_
          try dsimp only [List.set_cons_zero, List.set_cons_succ, List.eraseIdx_cons_zero, List.eraseIdx_cons_succ, List.cons_append, List.nil_append, Option.toList]
          refine R_aload d_jdk_2450_method_8_code_66 rfl rfl ?_
          refine R_aloadN d_jdk_2450_method_8_code_68 rfl rfl ?_
          refine R_iloadN d_jdk_2450_method_8_code_69 rfl ?_
          refine R_iinc (1) d_jdk_2450_method_8_code_70 (by decide) rfl ?_
          try dsimp only [List.set_cons_zero, List.set_cons_succ, List.eraseIdx_cons_zero, List.eraseIdx_cons_succ, List.cons_append, List.nil_append, Option.toList]
          refine R_baload d_jdk_2450_method_8_code_73 (mem 1 rfl) (by decide) 6 rfl (by rw [List.getElem?_map, e3]; rfl) ?_
          refine R_sipush (255) d_jdk_2450_method_8_code_74 (by decide) ?_
          refine R_iand d_jdk_2450_method_8_code_77 ?_
          rw [and7 k3]
          refine R_iaload d_jdk_2450_method_8_code_78 (mem 3 rfl) (i32_nn (by omega)) j3 (i32_cl (by omega)) (tab_at t3) ?_
          refine R_istore d_jdk_2450_method_8_code_79 rfl (by first | exact Or.inl rfl | exact Or.inr ⟨_, rfl, rfl⟩) ?_
          try dsimp only [List.set_cons_zero, List.set_cons_succ, List.eraseIdx_cons_zero, List.eraseIdx_cons_succ, List.cons_append, List.nil_append, Option.toList]
          refine R_aload d_jdk_2450_method_8_code_81 rfl rfl ?_
          refine R_aloadN d_jdk_2450_method_8_code_83 rfl rfl ?_
          refine R_iloadN d_jdk_2450_method_8_code_84 rfl ?_
          refine R_iinc (1) d_jdk_2450_method_8_code_85 (by decide) rfl ?_
          try dsimp only [List.set_cons_zero, List.set_cons_succ, List.eraseIdx_cons_zero, List.eraseIdx_cons_succ, List.cons_append, List.nil_append, Option.toList]
          refine R_baload d_jdk_2450_method_8_code_88 (mem 1 rfl) (by decide) 7 rfl (by rw [List.getElem?_map, e4]; rfl) ?_
          refine R_sipush (255) d_jdk_2450_method_8_code_89 (by decide) ?_
          refine R_iand d_jdk_2450_method_8_code_92 ?_
          rw [and7 k4]
          refine R_iaload d_jdk_2450_method_8_code_93 (mem 3 rfl) (i32_nn (by omega)) j4 (i32_cl (by omega)) (tab_at t4) ?_
          refine R_istore d_jdk_2450_method_8_code_94 rfl (by first | exact Or.inl rfl | exact Or.inr ⟨_, rfl, rfl⟩) ?_
          try dsimp only [List.set_cons_zero, List.set_cons_succ, List.eraseIdx_cons_zero, List.eraseIdx_cons_succ, List.cons_append, List.nil_append, Option.toList]
          refine R_iload d_jdk_2450_method_8_code_96 rfl ?_
          refine R_iload d_jdk_2450_method_8_code_98 rfl ?_
          refine R_ior d_jdk_2450_method_8_code_100 ?_
          refine R_iload d_jdk_2450_method_8_code_101 rfl ?_
          refine R_ior d_jdk_2450_method_8_code_103 ?_
          refine R_iload d_jdk_2450_method_8_code_104 rfl ?_
          refine R_ior d_jdk_2450_method_8_code_106 ?_
          refine R_if_ge (pc' := 116) d_jdk_2450_method_8_code_107 (by decide) (by decide) (fun b3 => ?_) (fun b3 => ?_)
          · exact absurd b3 hneg
          · refine R_iload d_jdk_2450_method_8_code_110 rfl ?_
            refine R_iload d_jdk_2450_method_8_code_112 rfl ?_
            refine R_isub d_jdk_2450_method_8_code_114 ?_
            exact R_ireturn d_jdk_2450_method_8_code_115 rfl ⟨rfl, rfl⟩ (Nat.le_of_ble_eq_true rfl) (Nat.le_of_ble_eq_true rfl)
      · exact absurd b1 (or_nn (or_nn (or_nn (V6.nn x1) (V6.nn x2)) (V6.nn x3)) (V6.nn x4))
  · exact absurd rfl h

abbrev mx_d0 (Γ : Gx) (ta dc sr rb : Addr) (bs : Bool) (ss : List Int32) (cnt : Nat) (Y' : List Value) (F : OL) : Mx := ((⟨"java/util/Base64$Decoder", "decode0", "([BII[B)I"⟩ : MethodName), jdk_2450_method_9_code, 11, (some .int), ({ frames := 1, cells := 0, slots := 0, locals := 27 } : Room), (fun v O' => v = some (.int cnt.toInt32) ∧ O' = [(dc, false, DCO Γ), (sr, bs, BA Γ (ss.map Value.int)), (rb, true, BA Γ Y'), (ta, false, Ary Γ "" .int (tab64.map Value.int))]), F)
set_option maxRecDepth 65536 in
set_option maxHeartbeats 4000000 in
theorem L_qA {Γ : Gx} (hw : Words Γ) (ta dc sr rb : Addr) (bs : Bool) (ss : List Int32) (cnt : Nat) (Y' : List Value) (s d : Nat) (hs : s ≤ 100) (hd : d ≤ 100) (Y : List Value) (hY : Y.length = 3072) (j1 j2 j3 j4 : Nat) (k1 : j1 < 128) (k2 : j2 < 128) (k3 : j3 < 128) (k4 : j4 < 128) (e1 : ss[s + 0]? = some j1.toInt32) (e2 : ss[s + 1]? = some j2.toInt32) (e3 : ss[s + 2]? = some j3.toInt32) (e4 : ss[s + 3]? = some j4.toInt32) (v1 v2 v3 v4 : Int32) (t1 : tab64[j1]? = some v1) (z1 : V6 v1) (t2 : tab64[j2]? = some v2) (z2 : V6 v2) (t3 : tab64[j3]? = some v3) (z3 : V6 v3) (t4 : tab64[j4]? = some v4) (z4 : V6 v4) (hcnt : cnt = d + 3) (hY' : Y' = (((Y.set (d + 0) (.int (y0 v1 v2))).set (d + 1) (.int (y1 v2 v3))).set (d + 2) (.int (y2 v3 v4)))) (o9 o10 : Slot) (h9 : One o9) (F : OL) :
    Run Γ (mx_d0 Γ ta dc sr rb bs ss cnt Y' F) 0 0 [(dc, false, DCO Γ), (sr, bs, BA Γ (ss.map Value.int)), (rb, true, BA Γ Y), (ta, false, Ary Γ "" .int (tab64.map Value.int))] 90 [.val (.ref dc), .val (.ref sr), .val (.int (s + 0).toInt32), .val (.int (s + 4).toInt32), .val (.ref rb), .val (.ref ta), .val (.int (d + 0).toInt32), .val (.int 0), .val (.int 18), o9, o10] [] := by
  refine R_iloadN d_jdk_2450_method_9_code_90 rfl ?_
  refine R_iloadN d_jdk_2450_method_9_code_91 rfl ?_
  refine R_icmp_lt (pc' := 98) d_jdk_2450_method_9_code_92 (by decide) (by decide) (fun q0 => ?_) (fun q0 => ?_)
  · refine R_aloadN d_jdk_2450_method_9_code_98 rfl rfl ?_
    refine R_iloadN d_jdk_2450_method_9_code_99 rfl ?_
    refine R_iinc (1) d_jdk_2450_method_9_code_100 (by decide) rfl ?_
    try dsimp only [List.set_cons_zero, List.set_cons_succ, List.eraseIdx_cons_zero, List.eraseIdx_cons_succ, List.cons_append, List.nil_append, Option.toList]
    rw [i32_succ]
    refine R_baload d_jdk_2450_method_9_code_103 (mem 1 rfl) (i32_nn (by omega)) (s + 0) (i32_cl (by omega)) (by rw [List.getElem?_map, e1]; rfl) ?_
    refine R_sipush (255) d_jdk_2450_method_9_code_104 (by decide) ?_
    refine R_iand d_jdk_2450_method_9_code_107 ?_
    rw [and7 k1]
    refine R_istore d_jdk_2450_method_9_code_108 rfl h9 ?_
    try dsimp only [List.set_cons_zero, List.set_cons_succ, List.eraseIdx_cons_zero, List.eraseIdx_cons_succ, List.cons_append, List.nil_append, Option.toList]
    refine R_aload d_jdk_2450_method_9_code_110 rfl rfl ?_
    refine R_iload d_jdk_2450_method_9_code_112 rfl ?_
    refine R_iaload d_jdk_2450_method_9_code_114 (mem 3 rfl) (i32_nn (by omega)) j1 (i32_cl (by omega)) (tab_at t1) ?_
    refine R_dup d_jdk_2450_method_9_code_115 rfl ?_
    refine R_istore d_jdk_2450_method_9_code_116 rfl (by first | exact Or.inl rfl | exact Or.inr ⟨_, rfl, rfl⟩) ?_
    try dsimp only [List.set_cons_zero, List.set_cons_succ, List.eraseIdx_cons_zero, List.eraseIdx_cons_succ, List.cons_append, List.nil_append, Option.toList]
    refine R_if_ge (pc' := 214) d_jdk_2450_method_9_code_118 (by decide) (by decide) (fun p0 => ?_) (fun p0 => ?_)
    · refine R_iload d_jdk_2450_method_9_code_214 rfl ?_
      refine R_iload d_jdk_2450_method_9_code_216 rfl ?_
      refine R_iload d_jdk_2450_method_9_code_218 rfl ?_
      refine R_ishl d_jdk_2450_method_9_code_220 ?_
      refine R_ior d_jdk_2450_method_9_code_221 ?_
      refine R_istore d_jdk_2450_method_9_code_222 rfl (by first | exact Or.inl rfl | exact Or.inr ⟨_, rfl, rfl⟩) ?_
      try dsimp only [List.set_cons_zero, List.set_cons_succ, List.eraseIdx_cons_zero, List.eraseIdx_cons_succ, List.cons_append, List.nil_append, Option.toList]
      refine R_iinc (-6) d_jdk_2450_method_9_code_224 (by decide) rfl ?_
      try dsimp only [List.set_cons_zero, List.set_cons_succ, List.eraseIdx_cons_zero, List.eraseIdx_cons_succ, List.cons_append, List.nil_append, Option.toList]
      rw [show (18 : Int32) + -6 = 12 from by decide]
      refine R_iload d_jdk_2450_method_9_code_227 rfl ?_
      refine R_if_ge (pc' := 278) d_jdk_2450_method_9_code_229 (by decide) (by decide) (fun r0 => ?_) (fun r0 => ?_)
      · refine R_goto (pc' := 28) d_jdk_2450_method_9_code_278 (by decide) (by decide) ?_
        refine R_iloadN d_jdk_2450_method_9_code_28 rfl ?_
        refine R_iloadN d_jdk_2450_method_9_code_29 rfl ?_
        refine R_icmp_ge (pc' := 281) d_jdk_2450_method_9_code_30 (by decide) (by decide) (fun m1 => ?_) (fun m1 => ?_)
        · exact absurd ((i32_lt_iff (by omega) (by omega)).mpr (by omega)) m1
        · refine R_iload d_jdk_2450_method_9_code_33 rfl ?_
          refine R_bipush (18) d_jdk_2450_method_9_code_35 (by decide) ?_
          refine R_icmp_ne (pc' := 90) d_jdk_2450_method_9_code_37 (by decide) (by decide) (fun l1 => ?_) (fun l1 => ?_)
          · refine R_iloadN d_jdk_2450_method_9_code_90 rfl ?_
            refine R_iloadN d_jdk_2450_method_9_code_91 rfl ?_
            refine R_icmp_lt (pc' := 98) d_jdk_2450_method_9_code_92 (by decide) (by decide) (fun q1 => ?_) (fun q1 => ?_)
            · refine R_aloadN d_jdk_2450_method_9_code_98 rfl rfl ?_
              refine R_iloadN d_jdk_2450_method_9_code_99 rfl ?_
              refine R_iinc (1) d_jdk_2450_method_9_code_100 (by decide) rfl ?_
              try dsimp only [List.set_cons_zero, List.set_cons_succ, List.eraseIdx_cons_zero, List.eraseIdx_cons_succ, List.cons_append, List.nil_append, Option.toList]
              rw [i32_succ]
              refine R_baload d_jdk_2450_method_9_code_103 (mem 1 rfl) (i32_nn (by omega)) (s + 1) (i32_cl (by omega)) (by rw [List.getElem?_map, e2]; rfl) ?_
              refine R_sipush (255) d_jdk_2450_method_9_code_104 (by decide) ?_
              refine R_iand d_jdk_2450_method_9_code_107 ?_
              rw [and7 k2]
              refine R_istore d_jdk_2450_method_9_code_108 rfl (by first | exact Or.inl rfl | exact Or.inr ⟨_, rfl, rfl⟩) ?_
              try dsimp only [List.set_cons_zero, List.set_cons_succ, List.eraseIdx_cons_zero, List.eraseIdx_cons_succ, List.cons_append, List.nil_append, Option.toList]
              refine R_aload d_jdk_2450_method_9_code_110 rfl rfl ?_
              refine R_iload d_jdk_2450_method_9_code_112 rfl ?_
              refine R_iaload d_jdk_2450_method_9_code_114 (mem 3 rfl) (i32_nn (by omega)) j2 (i32_cl (by omega)) (tab_at t2) ?_
              refine R_dup d_jdk_2450_method_9_code_115 rfl ?_
              refine R_istore d_jdk_2450_method_9_code_116 rfl (by first | exact Or.inl rfl | exact Or.inr ⟨_, rfl, rfl⟩) ?_
              try dsimp only [List.set_cons_zero, List.set_cons_succ, List.eraseIdx_cons_zero, List.eraseIdx_cons_succ, List.cons_append, List.nil_append, Option.toList]
              refine R_if_ge (pc' := 214) d_jdk_2450_method_9_code_118 (by decide) (by decide) (fun p1 => ?_) (fun p1 => ?_)
              · refine R_iload d_jdk_2450_method_9_code_214 rfl ?_
                refine R_iload d_jdk_2450_method_9_code_216 rfl ?_
                refine R_iload d_jdk_2450_method_9_code_218 rfl ?_
                refine R_ishl d_jdk_2450_method_9_code_220 ?_
                refine R_ior d_jdk_2450_method_9_code_221 ?_
                refine R_istore d_jdk_2450_method_9_code_222 rfl (by first | exact Or.inl rfl | exact Or.inr ⟨_, rfl, rfl⟩) ?_
                try dsimp only [List.set_cons_zero, List.set_cons_succ, List.eraseIdx_cons_zero, List.eraseIdx_cons_succ, List.cons_append, List.nil_append, Option.toList]
                refine R_iinc (-6) d_jdk_2450_method_9_code_224 (by decide) rfl ?_
                try dsimp only [List.set_cons_zero, List.set_cons_succ, List.eraseIdx_cons_zero, List.eraseIdx_cons_succ, List.cons_append, List.nil_append, Option.toList]
                rw [show (12 : Int32) + -6 = 6 from by decide]
                refine R_iload d_jdk_2450_method_9_code_227 rfl ?_
                refine R_if_ge (pc' := 278) d_jdk_2450_method_9_code_229 (by decide) (by decide) (fun r1 => ?_) (fun r1 => ?_)
                · refine R_goto (pc' := 28) d_jdk_2450_method_9_code_278 (by decide) (by decide) ?_
                  refine R_iloadN d_jdk_2450_method_9_code_28 rfl ?_
                  refine R_iloadN d_jdk_2450_method_9_code_29 rfl ?_
                  refine R_icmp_ge (pc' := 281) d_jdk_2450_method_9_code_30 (by decide) (by decide) (fun m2 => ?_) (fun m2 => ?_)
                  · exact absurd ((i32_lt_iff (by omega) (by omega)).mpr (by omega)) m2
                  · refine R_iload d_jdk_2450_method_9_code_33 rfl ?_
                    refine R_bipush (18) d_jdk_2450_method_9_code_35 (by decide) ?_
                    refine R_icmp_ne (pc' := 90) d_jdk_2450_method_9_code_37 (by decide) (by decide) (fun l2 => ?_) (fun l2 => ?_)
                    · refine R_iloadN d_jdk_2450_method_9_code_90 rfl ?_
                      refine R_iloadN d_jdk_2450_method_9_code_91 rfl ?_
                      refine R_icmp_lt (pc' := 98) d_jdk_2450_method_9_code_92 (by decide) (by decide) (fun q2 => ?_) (fun q2 => ?_)
                      · refine R_aloadN d_jdk_2450_method_9_code_98 rfl rfl ?_
                        refine R_iloadN d_jdk_2450_method_9_code_99 rfl ?_
                        refine R_iinc (1) d_jdk_2450_method_9_code_100 (by decide) rfl ?_
                        try dsimp only [List.set_cons_zero, List.set_cons_succ, List.eraseIdx_cons_zero, List.eraseIdx_cons_succ, List.cons_append, List.nil_append, Option.toList]
                        rw [i32_succ]
                        refine R_baload d_jdk_2450_method_9_code_103 (mem 1 rfl) (i32_nn (by omega)) (s + 2) (i32_cl (by omega)) (by rw [List.getElem?_map, e3]; rfl) ?_
                        refine R_sipush (255) d_jdk_2450_method_9_code_104 (by decide) ?_
                        refine R_iand d_jdk_2450_method_9_code_107 ?_
                        rw [and7 k3]
                        refine R_istore d_jdk_2450_method_9_code_108 rfl (by first | exact Or.inl rfl | exact Or.inr ⟨_, rfl, rfl⟩) ?_
                        try dsimp only [List.set_cons_zero, List.set_cons_succ, List.eraseIdx_cons_zero, List.eraseIdx_cons_succ, List.cons_append, List.nil_append, Option.toList]
                        refine R_aload d_jdk_2450_method_9_code_110 rfl rfl ?_
                        refine R_iload d_jdk_2450_method_9_code_112 rfl ?_
                        refine R_iaload d_jdk_2450_method_9_code_114 (mem 3 rfl) (i32_nn (by omega)) j3 (i32_cl (by omega)) (tab_at t3) ?_
                        refine R_dup d_jdk_2450_method_9_code_115 rfl ?_
                        refine R_istore d_jdk_2450_method_9_code_116 rfl (by first | exact Or.inl rfl | exact Or.inr ⟨_, rfl, rfl⟩) ?_
                        try dsimp only [List.set_cons_zero, List.set_cons_succ, List.eraseIdx_cons_zero, List.eraseIdx_cons_succ, List.cons_append, List.nil_append, Option.toList]
                        refine R_if_ge (pc' := 214) d_jdk_2450_method_9_code_118 (by decide) (by decide) (fun p2 => ?_) (fun p2 => ?_)
                        · refine R_iload d_jdk_2450_method_9_code_214 rfl ?_
                          refine R_iload d_jdk_2450_method_9_code_216 rfl ?_
                          refine R_iload d_jdk_2450_method_9_code_218 rfl ?_
                          refine R_ishl d_jdk_2450_method_9_code_220 ?_
                          refine R_ior d_jdk_2450_method_9_code_221 ?_
                          refine R_istore d_jdk_2450_method_9_code_222 rfl (by first | exact Or.inl rfl | exact Or.inr ⟨_, rfl, rfl⟩) ?_
                          try dsimp only [List.set_cons_zero, List.set_cons_succ, List.eraseIdx_cons_zero, List.eraseIdx_cons_succ, List.cons_append, List.nil_append, Option.toList]
                          refine R_iinc (-6) d_jdk_2450_method_9_code_224 (by decide) rfl ?_
                          try dsimp only [List.set_cons_zero, List.set_cons_succ, List.eraseIdx_cons_zero, List.eraseIdx_cons_succ, List.cons_append, List.nil_append, Option.toList]
                          rw [show (6 : Int32) + -6 = 0 from by decide]
                          refine R_iload d_jdk_2450_method_9_code_227 rfl ?_
                          refine R_if_ge (pc' := 278) d_jdk_2450_method_9_code_229 (by decide) (by decide) (fun r2 => ?_) (fun r2 => ?_)
                          · refine R_goto (pc' := 28) d_jdk_2450_method_9_code_278 (by decide) (by decide) ?_
                            refine R_iloadN d_jdk_2450_method_9_code_28 rfl ?_
                            refine R_iloadN d_jdk_2450_method_9_code_29 rfl ?_
                            refine R_icmp_ge (pc' := 281) d_jdk_2450_method_9_code_30 (by decide) (by decide) (fun m3 => ?_) (fun m3 => ?_)
                            · exact absurd ((i32_lt_iff (by omega) (by omega)).mpr (by omega)) m3
                            · refine R_iload d_jdk_2450_method_9_code_33 rfl ?_
                              refine R_bipush (18) d_jdk_2450_method_9_code_35 (by decide) ?_
                              refine R_icmp_ne (pc' := 90) d_jdk_2450_method_9_code_37 (by decide) (by decide) (fun l3 => ?_) (fun l3 => ?_)
                              · refine R_iloadN d_jdk_2450_method_9_code_90 rfl ?_
                                refine R_iloadN d_jdk_2450_method_9_code_91 rfl ?_
                                refine R_icmp_lt (pc' := 98) d_jdk_2450_method_9_code_92 (by decide) (by decide) (fun q3 => ?_) (fun q3 => ?_)
                                · refine R_aloadN d_jdk_2450_method_9_code_98 rfl rfl ?_
                                  refine R_iloadN d_jdk_2450_method_9_code_99 rfl ?_
                                  refine R_iinc (1) d_jdk_2450_method_9_code_100 (by decide) rfl ?_
                                  try dsimp only [List.set_cons_zero, List.set_cons_succ, List.eraseIdx_cons_zero, List.eraseIdx_cons_succ, List.cons_append, List.nil_append, Option.toList]
                                  rw [i32_succ]
                                  refine R_baload d_jdk_2450_method_9_code_103 (mem 1 rfl) (i32_nn (by omega)) (s + 3) (i32_cl (by omega)) (by rw [List.getElem?_map, e4]; rfl) ?_
                                  refine R_sipush (255) d_jdk_2450_method_9_code_104 (by decide) ?_
                                  refine R_iand d_jdk_2450_method_9_code_107 ?_
                                  rw [and7 k4]
                                  refine R_istore d_jdk_2450_method_9_code_108 rfl (by first | exact Or.inl rfl | exact Or.inr ⟨_, rfl, rfl⟩) ?_
                                  try dsimp only [List.set_cons_zero, List.set_cons_succ, List.eraseIdx_cons_zero, List.eraseIdx_cons_succ, List.cons_append, List.nil_append, Option.toList]
                                  refine R_aload d_jdk_2450_method_9_code_110 rfl rfl ?_
                                  refine R_iload d_jdk_2450_method_9_code_112 rfl ?_
                                  refine R_iaload d_jdk_2450_method_9_code_114 (mem 3 rfl) (i32_nn (by omega)) j4 (i32_cl (by omega)) (tab_at t4) ?_
                                  refine R_dup d_jdk_2450_method_9_code_115 rfl ?_
                                  refine R_istore d_jdk_2450_method_9_code_116 rfl (by first | exact Or.inl rfl | exact Or.inr ⟨_, rfl, rfl⟩) ?_
                                  try dsimp only [List.set_cons_zero, List.set_cons_succ, List.eraseIdx_cons_zero, List.eraseIdx_cons_succ, List.cons_append, List.nil_append, Option.toList]
                                  refine R_if_ge (pc' := 214) d_jdk_2450_method_9_code_118 (by decide) (by decide) (fun p3 => ?_) (fun p3 => ?_)
                                  · refine R_iload d_jdk_2450_method_9_code_214 rfl ?_
                                    refine R_iload d_jdk_2450_method_9_code_216 rfl ?_
                                    refine R_iload d_jdk_2450_method_9_code_218 rfl ?_
                                    refine R_ishl d_jdk_2450_method_9_code_220 ?_
                                    refine R_ior d_jdk_2450_method_9_code_221 ?_
                                    refine R_istore d_jdk_2450_method_9_code_222 rfl (by first | exact Or.inl rfl | exact Or.inr ⟨_, rfl, rfl⟩) ?_
                                    try dsimp only [List.set_cons_zero, List.set_cons_succ, List.eraseIdx_cons_zero, List.eraseIdx_cons_succ, List.cons_append, List.nil_append, Option.toList]
                                    refine R_iinc (-6) d_jdk_2450_method_9_code_224 (by decide) rfl ?_
                                    try dsimp only [List.set_cons_zero, List.set_cons_succ, List.eraseIdx_cons_zero, List.eraseIdx_cons_succ, List.cons_append, List.nil_append, Option.toList]
                                    rw [show (0 : Int32) + -6 = -6 from by decide]
                                    refine R_iload d_jdk_2450_method_9_code_227 rfl ?_
                                    refine R_if_ge (pc' := 278) d_jdk_2450_method_9_code_229 (by decide) (by decide) (fun r3 => ?_) (fun r3 => ?_)
                                    · exact absurd (by decide) r3
                                    · refine R_aload d_jdk_2450_method_9_code_232 rfl rfl ?_
                                      refine R_iload d_jdk_2450_method_9_code_234 rfl ?_
                                      refine R_iinc (1) d_jdk_2450_method_9_code_236 (by decide) rfl ?_
                                      try dsimp only [List.set_cons_zero, List.set_cons_succ, List.eraseIdx_cons_zero, List.eraseIdx_cons_succ, List.cons_append, List.nil_append, Option.toList]
                                      refine R_iload d_jdk_2450_method_9_code_239 rfl ?_
                                      refine R_bipush (16) d_jdk_2450_method_9_code_241 (by decide) ?_
                                      refine R_ishr d_jdk_2450_method_9_code_243 ?_
                                      refine R_i2b d_jdk_2450_method_9_code_244 ?_
                                      rw [i32_succ]
                                      refine R_bastore 2 d_jdk_2450_method_9_code_245 rfl (i32_nn (by omega)) (d + 0) (i32_cl (by omega)) (by first | (rw [hY]; omega) | (simp only [List.length_set]; rw [hY]; omega)) ?_
                                      try dsimp only [List.set_cons_zero, List.set_cons_succ, List.eraseIdx_cons_zero, List.eraseIdx_cons_succ, List.cons_append, List.nil_append, Option.toList]
                                      rw [Int8.toInt8_toInt32, Y0A z1 z2 z3 z4]
                                      refine R_aload d_jdk_2450_method_9_code_246 rfl rfl ?_
                                      refine R_iload d_jdk_2450_method_9_code_248 rfl ?_
                                      refine R_iinc (1) d_jdk_2450_method_9_code_250 (by decide) rfl ?_
                                      try dsimp only [List.set_cons_zero, List.set_cons_succ, List.eraseIdx_cons_zero, List.eraseIdx_cons_succ, List.cons_append, List.nil_append, Option.toList]
                                      refine R_iload d_jdk_2450_method_9_code_253 rfl ?_
                                      refine R_bipush (8) d_jdk_2450_method_9_code_255 (by decide) ?_
                                      refine R_ishr d_jdk_2450_method_9_code_257 ?_
                                      refine R_i2b d_jdk_2450_method_9_code_258 ?_
                                      rw [i32_succ]
                                      refine R_bastore 2 d_jdk_2450_method_9_code_259 rfl (i32_nn (by omega)) (d + 1) (i32_cl (by omega)) (by first | (rw [hY]; omega) | (simp only [List.length_set]; rw [hY]; omega)) ?_
                                      try dsimp only [List.set_cons_zero, List.set_cons_succ, List.eraseIdx_cons_zero, List.eraseIdx_cons_succ, List.cons_append, List.nil_append, Option.toList]
                                      rw [Int8.toInt8_toInt32, Y1A z1 z2 z3 z4]
                                      refine R_aload d_jdk_2450_method_9_code_260 rfl rfl ?_
                                      refine R_iload d_jdk_2450_method_9_code_262 rfl ?_
                                      refine R_iinc (1) d_jdk_2450_method_9_code_264 (by decide) rfl ?_
                                      try dsimp only [List.set_cons_zero, List.set_cons_succ, List.eraseIdx_cons_zero, List.eraseIdx_cons_succ, List.cons_append, List.nil_append, Option.toList]
                                      refine R_iload d_jdk_2450_method_9_code_267 rfl ?_
                                      refine R_i2b d_jdk_2450_method_9_code_269 ?_
                                      rw [i32_succ]
                                      refine R_bastore 2 d_jdk_2450_method_9_code_270 rfl (i32_nn (by omega)) (d + 2) (i32_cl (by omega)) (by first | (rw [hY]; omega) | (simp only [List.length_set]; rw [hY]; omega)) ?_
                                      try dsimp only [List.set_cons_zero, List.set_cons_succ, List.eraseIdx_cons_zero, List.eraseIdx_cons_succ, List.cons_append, List.nil_append, Option.toList]
                                      rw [Int8.toInt8_toInt32, Y2A z1 z2 z3 z4]
                                      refine R_bipush (18) d_jdk_2450_method_9_code_271 (by decide) ?_
                                      refine R_istore d_jdk_2450_method_9_code_273 rfl (by first | exact Or.inl rfl | exact Or.inr ⟨_, rfl, rfl⟩) ?_
                                      try dsimp only [List.set_cons_zero, List.set_cons_succ, List.eraseIdx_cons_zero, List.eraseIdx_cons_succ, List.cons_append, List.nil_append, Option.toList]
                                      refine R_iconst (0) d_jdk_2450_method_9_code_275 (by decide) ?_
                                      refine R_istore d_jdk_2450_method_9_code_276 rfl (by first | exact Or.inl rfl | exact Or.inr ⟨_, rfl, rfl⟩) ?_
                                      try dsimp only [List.set_cons_zero, List.set_cons_succ, List.eraseIdx_cons_zero, List.eraseIdx_cons_succ, List.cons_append, List.nil_append, Option.toList]
                                      refine R_goto (pc' := 28) d_jdk_2450_method_9_code_278 (by decide) (by decide) ?_
                                      refine R_iloadN d_jdk_2450_method_9_code_28 rfl ?_
                                      refine R_iloadN d_jdk_2450_method_9_code_29 rfl ?_
                                      refine R_icmp_ge (pc' := 281) d_jdk_2450_method_9_code_30 (by decide) (by decide) (fun m9 => ?_) (fun m9 => ?_)
                                      · refine R_iload d_jdk_2450_method_9_code_281 rfl ?_
                                        refine R_bipush (6) d_jdk_2450_method_9_code_283 (by decide) ?_
                                        refine R_icmp_ne (pc' := 305) d_jdk_2450_method_9_code_285 (by decide) (by decide) (fun w1 => ?_) (fun w1 => ?_)
                                        · refine R_iload d_jdk_2450_method_9_code_305 rfl ?_
                                          refine R_if_ne (pc' := 341) d_jdk_2450_method_9_code_307 (by decide) (by decide) (fun w2 => ?_) (fun w2 => ?_)
                                          · refine R_iload d_jdk_2450_method_9_code_341 rfl ?_
                                            refine R_bipush (12) d_jdk_2450_method_9_code_343 (by decide) ?_
                                            refine R_icmp_ne (pc' := 358) d_jdk_2450_method_9_code_345 (by decide) (by decide) (fun w3 => ?_) (fun w3 => ?_)
                                            · refine R_iloadN d_jdk_2450_method_9_code_358 rfl ?_
                                              refine R_iloadN d_jdk_2450_method_9_code_359 rfl ?_
                                              refine R_icmp_ge (pc' := 416) d_jdk_2450_method_9_code_360 (by decide) (by decide) (fun w9 => ?_) (fun w9 => ?_)
                                              · refine R_iload d_jdk_2450_method_9_code_416 rfl ?_
                                                exact R_ireturn d_jdk_2450_method_9_code_418 rfl ⟨by subst hcnt; rfl, by subst hY'; rfl⟩ (Nat.le_of_ble_eq_true rfl) (Nat.le_of_ble_eq_true rfl)
                                              · exact absurd ((i32_lt_iff (by omega) (by omega)).mp w9) (by omega)
                                            · exact absurd w3 (by decide)
                                          · exact absurd w2 (by decide)
                                        · exact absurd w1 (by decide)
                                      · exact absurd ((i32_lt_iff (by omega) (by omega)).mp m9) (by omega)
                                  · exact absurd (V6.nn z4) (fun q => q p3)
                                · exact absurd ((i32_lt_iff (by omega) (by omega)).mpr (by omega)) q3
                              · exact absurd l3 (by decide)
                          · exact absurd r2 (by decide)
                        · exact absurd (V6.nn z3) (fun q => q p2)
                      · exact absurd ((i32_lt_iff (by omega) (by omega)).mpr (by omega)) q2
                    · exact absurd l2 (by decide)
                · exact absurd r1 (by decide)
              · exact absurd (V6.nn z2) (fun q => q p1)
            · exact absurd ((i32_lt_iff (by omega) (by omega)).mpr (by omega)) q1
          · exact absurd l1 (by decide)
      · exact absurd r0 (by decide)
    · exact absurd (V6.nn z1) (fun q => q p0)
  · exact absurd ((i32_lt_iff (by omega) (by omega)).mpr (by omega)) q0

set_option maxRecDepth 65536 in
set_option maxHeartbeats 4000000 in
theorem L_qB {Γ : Gx} (hw : Words Γ) (ta dc sr rb : Addr) (bs : Bool) (ss : List Int32) (cnt : Nat) (Y' : List Value) (s d : Nat) (hs : s ≤ 100) (hd : d ≤ 100) (Y : List Value) (hY : Y.length = 3072) (j1 j2 j3 j4 : Nat) (k1 : j1 < 128) (k2 : j2 < 128) (k3 : j3 < 128) (k4 : j4 < 128) (e1 : ss[s + 0]? = some j1.toInt32) (e2 : ss[s + 1]? = some j2.toInt32) (e3 : ss[s + 2]? = some j3.toInt32) (e4 : ss[s + 3]? = some j4.toInt32) (v1 v2 v3 v4 : Int32) (t1 : tab64[j1]? = some v1) (z1 : V6 v1) (t2 : tab64[j2]? = some v2) (z2 : V6 v2) (t3 : tab64[j3]? = some v3) (z3 : V6 v3) (j4e : j4 = 61) (t4 : tab64[j4]? = some (-2)) (hcnt : cnt = d + 2) (hY' : Y' = ((Y.set (d + 0) (.int (y0 v1 v2))).set (d + 1) (.int (y1 v2 v3)))) (o9 o10 : Slot) (h9 : One o9) (F : OL) :
    Run Γ (mx_d0 Γ ta dc sr rb bs ss cnt Y' F) 0 0 [(dc, false, DCO Γ), (sr, bs, BA Γ (ss.map Value.int)), (rb, true, BA Γ Y), (ta, false, Ary Γ "" .int (tab64.map Value.int))] 90 [.val (.ref dc), .val (.ref sr), .val (.int (s + 0).toInt32), .val (.int (s + 4).toInt32), .val (.ref rb), .val (.ref ta), .val (.int (d + 0).toInt32), .val (.int 0), .val (.int 18), o9, o10] [] := by
  refine R_iloadN d_jdk_2450_method_9_code_90 rfl ?_
  refine R_iloadN d_jdk_2450_method_9_code_91 rfl ?_
  refine R_icmp_lt (pc' := 98) d_jdk_2450_method_9_code_92 (by decide) (by decide) (fun q0 => ?_) (fun q0 => ?_)
  · refine R_aloadN d_jdk_2450_method_9_code_98 rfl rfl ?_
    refine R_iloadN d_jdk_2450_method_9_code_99 rfl ?_
    refine R_iinc (1) d_jdk_2450_method_9_code_100 (by decide) rfl ?_
    try dsimp only [List.set_cons_zero, List.set_cons_succ, List.eraseIdx_cons_zero, List.eraseIdx_cons_succ, List.cons_append, List.nil_append, Option.toList]
    rw [i32_succ]
    refine R_baload d_jdk_2450_method_9_code_103 (mem 1 rfl) (i32_nn (by omega)) (s + 0) (i32_cl (by omega)) (by rw [List.getElem?_map, e1]; rfl) ?_
    refine R_sipush (255) d_jdk_2450_method_9_code_104 (by decide) ?_
    refine R_iand d_jdk_2450_method_9_code_107 ?_
    rw [and7 k1]
    refine R_istore d_jdk_2450_method_9_code_108 rfl h9 ?_
    try dsimp only [List.set_cons_zero, List.set_cons_succ, List.eraseIdx_cons_zero, List.eraseIdx_cons_succ, List.cons_append, List.nil_append, Option.toList]
    refine R_aload d_jdk_2450_method_9_code_110 rfl rfl ?_
    refine R_iload d_jdk_2450_method_9_code_112 rfl ?_
    refine R_iaload d_jdk_2450_method_9_code_114 (mem 3 rfl) (i32_nn (by omega)) j1 (i32_cl (by omega)) (tab_at t1) ?_
    refine R_dup d_jdk_2450_method_9_code_115 rfl ?_
    refine R_istore d_jdk_2450_method_9_code_116 rfl (by first | exact Or.inl rfl | exact Or.inr ⟨_, rfl, rfl⟩) ?_
    try dsimp only [List.set_cons_zero, List.set_cons_succ, List.eraseIdx_cons_zero, List.eraseIdx_cons_succ, List.cons_append, List.nil_append, Option.toList]
    refine R_if_ge (pc' := 214) d_jdk_2450_method_9_code_118 (by decide) (by decide) (fun p0 => ?_) (fun p0 => ?_)
    · refine R_iload d_jdk_2450_method_9_code_214 rfl ?_
      refine R_iload d_jdk_2450_method_9_code_216 rfl ?_
      refine R_iload d_jdk_2450_method_9_code_218 rfl ?_
      refine R_ishl d_jdk_2450_method_9_code_220 ?_
      refine R_ior d_jdk_2450_method_9_code_221 ?_
      refine R_istore d_jdk_2450_method_9_code_222 rfl (by first | exact Or.inl rfl | exact Or.inr ⟨_, rfl, rfl⟩) ?_
      try dsimp only [List.set_cons_zero, List.set_cons_succ, List.eraseIdx_cons_zero, List.eraseIdx_cons_succ, List.cons_append, List.nil_append, Option.toList]
      refine R_iinc (-6) d_jdk_2450_method_9_code_224 (by decide) rfl ?_
      try dsimp only [List.set_cons_zero, List.set_cons_succ, List.eraseIdx_cons_zero, List.eraseIdx_cons_succ, List.cons_append, List.nil_append, Option.toList]
      rw [show (18 : Int32) + -6 = 12 from by decide]
      refine R_iload d_jdk_2450_method_9_code_227 rfl ?_
      refine R_if_ge (pc' := 278) d_jdk_2450_method_9_code_229 (by decide) (by decide) (fun r0 => ?_) (fun r0 => ?_)
      · refine R_goto (pc' := 28) d_jdk_2450_method_9_code_278 (by decide) (by decide) ?_
        refine R_iloadN d_jdk_2450_method_9_code_28 rfl ?_
        refine R_iloadN d_jdk_2450_method_9_code_29 rfl ?_
        refine R_icmp_ge (pc' := 281) d_jdk_2450_method_9_code_30 (by decide) (by decide) (fun m1 => ?_) (fun m1 => ?_)
        · exact absurd ((i32_lt_iff (by omega) (by omega)).mpr (by omega)) m1
        · refine R_iload d_jdk_2450_method_9_code_33 rfl ?_
          refine R_bipush (18) d_jdk_2450_method_9_code_35 (by decide) ?_
          refine R_icmp_ne (pc' := 90) d_jdk_2450_method_9_code_37 (by decide) (by decide) (fun l1 => ?_) (fun l1 => ?_)
          · refine R_iloadN d_jdk_2450_method_9_code_90 rfl ?_
            refine R_iloadN d_jdk_2450_method_9_code_91 rfl ?_
            refine R_icmp_lt (pc' := 98) d_jdk_2450_method_9_code_92 (by decide) (by decide) (fun q1 => ?_) (fun q1 => ?_)
            · refine R_aloadN d_jdk_2450_method_9_code_98 rfl rfl ?_
              refine R_iloadN d_jdk_2450_method_9_code_99 rfl ?_
              refine R_iinc (1) d_jdk_2450_method_9_code_100 (by decide) rfl ?_
              try dsimp only [List.set_cons_zero, List.set_cons_succ, List.eraseIdx_cons_zero, List.eraseIdx_cons_succ, List.cons_append, List.nil_append, Option.toList]
              rw [i32_succ]
              refine R_baload d_jdk_2450_method_9_code_103 (mem 1 rfl) (i32_nn (by omega)) (s + 1) (i32_cl (by omega)) (by rw [List.getElem?_map, e2]; rfl) ?_
              refine R_sipush (255) d_jdk_2450_method_9_code_104 (by decide) ?_
              refine R_iand d_jdk_2450_method_9_code_107 ?_
              rw [and7 k2]
              refine R_istore d_jdk_2450_method_9_code_108 rfl (by first | exact Or.inl rfl | exact Or.inr ⟨_, rfl, rfl⟩) ?_
              try dsimp only [List.set_cons_zero, List.set_cons_succ, List.eraseIdx_cons_zero, List.eraseIdx_cons_succ, List.cons_append, List.nil_append, Option.toList]
              refine R_aload d_jdk_2450_method_9_code_110 rfl rfl ?_
              refine R_iload d_jdk_2450_method_9_code_112 rfl ?_
              refine R_iaload d_jdk_2450_method_9_code_114 (mem 3 rfl) (i32_nn (by omega)) j2 (i32_cl (by omega)) (tab_at t2) ?_
              refine R_dup d_jdk_2450_method_9_code_115 rfl ?_
              refine R_istore d_jdk_2450_method_9_code_116 rfl (by first | exact Or.inl rfl | exact Or.inr ⟨_, rfl, rfl⟩) ?_
              try dsimp only [List.set_cons_zero, List.set_cons_succ, List.eraseIdx_cons_zero, List.eraseIdx_cons_succ, List.cons_append, List.nil_append, Option.toList]
              refine R_if_ge (pc' := 214) d_jdk_2450_method_9_code_118 (by decide) (by decide) (fun p1 => ?_) (fun p1 => ?_)
              · refine R_iload d_jdk_2450_method_9_code_214 rfl ?_
                refine R_iload d_jdk_2450_method_9_code_216 rfl ?_
                refine R_iload d_jdk_2450_method_9_code_218 rfl ?_
                refine R_ishl d_jdk_2450_method_9_code_220 ?_
                refine R_ior d_jdk_2450_method_9_code_221 ?_
                refine R_istore d_jdk_2450_method_9_code_222 rfl (by first | exact Or.inl rfl | exact Or.inr ⟨_, rfl, rfl⟩) ?_
                try dsimp only [List.set_cons_zero, List.set_cons_succ, List.eraseIdx_cons_zero, List.eraseIdx_cons_succ, List.cons_append, List.nil_append, Option.toList]
                refine R_iinc (-6) d_jdk_2450_method_9_code_224 (by decide) rfl ?_
                try dsimp only [List.set_cons_zero, List.set_cons_succ, List.eraseIdx_cons_zero, List.eraseIdx_cons_succ, List.cons_append, List.nil_append, Option.toList]
                rw [show (12 : Int32) + -6 = 6 from by decide]
                refine R_iload d_jdk_2450_method_9_code_227 rfl ?_
                refine R_if_ge (pc' := 278) d_jdk_2450_method_9_code_229 (by decide) (by decide) (fun r1 => ?_) (fun r1 => ?_)
                · refine R_goto (pc' := 28) d_jdk_2450_method_9_code_278 (by decide) (by decide) ?_
                  refine R_iloadN d_jdk_2450_method_9_code_28 rfl ?_
                  refine R_iloadN d_jdk_2450_method_9_code_29 rfl ?_
                  refine R_icmp_ge (pc' := 281) d_jdk_2450_method_9_code_30 (by decide) (by decide) (fun m2 => ?_) (fun m2 => ?_)
                  · exact absurd ((i32_lt_iff (by omega) (by omega)).mpr (by omega)) m2
                  · refine R_iload d_jdk_2450_method_9_code_33 rfl ?_
                    refine R_bipush (18) d_jdk_2450_method_9_code_35 (by decide) ?_
                    refine R_icmp_ne (pc' := 90) d_jdk_2450_method_9_code_37 (by decide) (by decide) (fun l2 => ?_) (fun l2 => ?_)
                    · refine R_iloadN d_jdk_2450_method_9_code_90 rfl ?_
                      refine R_iloadN d_jdk_2450_method_9_code_91 rfl ?_
                      refine R_icmp_lt (pc' := 98) d_jdk_2450_method_9_code_92 (by decide) (by decide) (fun q2 => ?_) (fun q2 => ?_)
                      · refine R_aloadN d_jdk_2450_method_9_code_98 rfl rfl ?_
                        refine R_iloadN d_jdk_2450_method_9_code_99 rfl ?_
                        refine R_iinc (1) d_jdk_2450_method_9_code_100 (by decide) rfl ?_
                        try dsimp only [List.set_cons_zero, List.set_cons_succ, List.eraseIdx_cons_zero, List.eraseIdx_cons_succ, List.cons_append, List.nil_append, Option.toList]
                        rw [i32_succ]
                        refine R_baload d_jdk_2450_method_9_code_103 (mem 1 rfl) (i32_nn (by omega)) (s + 2) (i32_cl (by omega)) (by rw [List.getElem?_map, e3]; rfl) ?_
                        refine R_sipush (255) d_jdk_2450_method_9_code_104 (by decide) ?_
                        refine R_iand d_jdk_2450_method_9_code_107 ?_
                        rw [and7 k3]
                        refine R_istore d_jdk_2450_method_9_code_108 rfl (by first | exact Or.inl rfl | exact Or.inr ⟨_, rfl, rfl⟩) ?_
                        try dsimp only [List.set_cons_zero, List.set_cons_succ, List.eraseIdx_cons_zero, List.eraseIdx_cons_succ, List.cons_append, List.nil_append, Option.toList]
                        refine R_aload d_jdk_2450_method_9_code_110 rfl rfl ?_
                        refine R_iload d_jdk_2450_method_9_code_112 rfl ?_
                        refine R_iaload d_jdk_2450_method_9_code_114 (mem 3 rfl) (i32_nn (by omega)) j3 (i32_cl (by omega)) (tab_at t3) ?_
                        refine R_dup d_jdk_2450_method_9_code_115 rfl ?_
                        refine R_istore d_jdk_2450_method_9_code_116 rfl (by first | exact Or.inl rfl | exact Or.inr ⟨_, rfl, rfl⟩) ?_
                        try dsimp only [List.set_cons_zero, List.set_cons_succ, List.eraseIdx_cons_zero, List.eraseIdx_cons_succ, List.cons_append, List.nil_append, Option.toList]
                        refine R_if_ge (pc' := 214) d_jdk_2450_method_9_code_118 (by decide) (by decide) (fun p2 => ?_) (fun p2 => ?_)
                        · refine R_iload d_jdk_2450_method_9_code_214 rfl ?_
                          refine R_iload d_jdk_2450_method_9_code_216 rfl ?_
                          refine R_iload d_jdk_2450_method_9_code_218 rfl ?_
                          refine R_ishl d_jdk_2450_method_9_code_220 ?_
                          refine R_ior d_jdk_2450_method_9_code_221 ?_
                          refine R_istore d_jdk_2450_method_9_code_222 rfl (by first | exact Or.inl rfl | exact Or.inr ⟨_, rfl, rfl⟩) ?_
                          try dsimp only [List.set_cons_zero, List.set_cons_succ, List.eraseIdx_cons_zero, List.eraseIdx_cons_succ, List.cons_append, List.nil_append, Option.toList]
                          refine R_iinc (-6) d_jdk_2450_method_9_code_224 (by decide) rfl ?_
                          try dsimp only [List.set_cons_zero, List.set_cons_succ, List.eraseIdx_cons_zero, List.eraseIdx_cons_succ, List.cons_append, List.nil_append, Option.toList]
                          rw [show (6 : Int32) + -6 = 0 from by decide]
                          refine R_iload d_jdk_2450_method_9_code_227 rfl ?_
                          refine R_if_ge (pc' := 278) d_jdk_2450_method_9_code_229 (by decide) (by decide) (fun r2 => ?_) (fun r2 => ?_)
                          · refine R_goto (pc' := 28) d_jdk_2450_method_9_code_278 (by decide) (by decide) ?_
                            refine R_iloadN d_jdk_2450_method_9_code_28 rfl ?_
                            refine R_iloadN d_jdk_2450_method_9_code_29 rfl ?_
                            refine R_icmp_ge (pc' := 281) d_jdk_2450_method_9_code_30 (by decide) (by decide) (fun m3 => ?_) (fun m3 => ?_)
                            · exact absurd ((i32_lt_iff (by omega) (by omega)).mpr (by omega)) m3
                            · refine R_iload d_jdk_2450_method_9_code_33 rfl ?_
                              refine R_bipush (18) d_jdk_2450_method_9_code_35 (by decide) ?_
                              refine R_icmp_ne (pc' := 90) d_jdk_2450_method_9_code_37 (by decide) (by decide) (fun l3 => ?_) (fun l3 => ?_)
                              · refine R_iloadN d_jdk_2450_method_9_code_90 rfl ?_
                                refine R_iloadN d_jdk_2450_method_9_code_91 rfl ?_
                                refine R_icmp_lt (pc' := 98) d_jdk_2450_method_9_code_92 (by decide) (by decide) (fun q3 => ?_) (fun q3 => ?_)
                                · refine R_aloadN d_jdk_2450_method_9_code_98 rfl rfl ?_
                                  refine R_iloadN d_jdk_2450_method_9_code_99 rfl ?_
                                  refine R_iinc (1) d_jdk_2450_method_9_code_100 (by decide) rfl ?_
                                  try dsimp only [List.set_cons_zero, List.set_cons_succ, List.eraseIdx_cons_zero, List.eraseIdx_cons_succ, List.cons_append, List.nil_append, Option.toList]
                                  rw [i32_succ]
                                  refine R_baload d_jdk_2450_method_9_code_103 (mem 1 rfl) (i32_nn (by omega)) (s + 3) (i32_cl (by omega)) (by rw [List.getElem?_map, e4]; rfl) ?_
                                  refine R_sipush (255) d_jdk_2450_method_9_code_104 (by decide) ?_
                                  refine R_iand d_jdk_2450_method_9_code_107 ?_
                                  rw [and7 k4]
                                  refine R_istore d_jdk_2450_method_9_code_108 rfl (by first | exact Or.inl rfl | exact Or.inr ⟨_, rfl, rfl⟩) ?_
                                  try dsimp only [List.set_cons_zero, List.set_cons_succ, List.eraseIdx_cons_zero, List.eraseIdx_cons_succ, List.cons_append, List.nil_append, Option.toList]
                                  refine R_aload d_jdk_2450_method_9_code_110 rfl rfl ?_
                                  refine R_iload d_jdk_2450_method_9_code_112 rfl ?_
                                  refine R_iaload d_jdk_2450_method_9_code_114 (mem 3 rfl) (i32_nn (by omega)) j4 (i32_cl (by omega)) (tab_at t4) ?_
                                  refine R_dup d_jdk_2450_method_9_code_115 rfl ?_
                                  refine R_istore d_jdk_2450_method_9_code_116 rfl (by first | exact Or.inl rfl | exact Or.inr ⟨_, rfl, rfl⟩) ?_
                                  try dsimp only [List.set_cons_zero, List.set_cons_succ, List.eraseIdx_cons_zero, List.eraseIdx_cons_succ, List.cons_append, List.nil_append, Option.toList]
                                  refine R_if_ge (pc' := 214) d_jdk_2450_method_9_code_118 (by decide) (by decide) (fun p3 => ?_) (fun p3 => ?_)
                                  · exact absurd (by decide) p3
                                  · refine R_iload d_jdk_2450_method_9_code_121 rfl ?_
                                    refine R_bipush (-2) d_jdk_2450_method_9_code_123 (by decide) ?_
                                    refine R_icmp_ne (pc' := 168) d_jdk_2450_method_9_code_125 (by decide) (by decide) (fun f1 => ?_) (fun f1 => ?_)
                                    · exact absurd rfl f1
                                    · refine R_iload d_jdk_2450_method_9_code_128 rfl ?_
                                      refine R_bipush (6) d_jdk_2450_method_9_code_130 (by decide) ?_
                                      refine R_icmp_ne (pc' := 151) d_jdk_2450_method_9_code_132 (by decide) (by decide) (fun f2 => ?_) (fun f2 => ?_)
                                      · refine R_iload d_jdk_2450_method_9_code_151 rfl ?_
                                        refine R_bipush (18) d_jdk_2450_method_9_code_153 (by decide) ?_
                                        refine R_icmp_ne (pc' := 281) d_jdk_2450_method_9_code_155 (by decide) (by decide) (fun f3 => ?_) (fun f3 => ?_)
                                        · refine R_iload d_jdk_2450_method_9_code_281 rfl ?_
                                          refine R_bipush (6) d_jdk_2450_method_9_code_283 (by decide) ?_
                                          refine R_icmp_ne (pc' := 305) d_jdk_2450_method_9_code_285 (by decide) (by decide) (fun w1 => ?_) (fun w1 => ?_)
                                          · refine R_iload d_jdk_2450_method_9_code_305 rfl ?_
                                            refine R_if_ne (pc' := 341) d_jdk_2450_method_9_code_307 (by decide) (by decide) (fun w2 => ?_) (fun w2 => ?_)
                                            · exact absurd (by decide) w2
                                            · refine R_aload d_jdk_2450_method_9_code_310 rfl rfl ?_
                                              refine R_iload d_jdk_2450_method_9_code_312 rfl ?_
                                              refine R_iinc (1) d_jdk_2450_method_9_code_314 (by decide) rfl ?_
                                              try dsimp only [List.set_cons_zero, List.set_cons_succ, List.eraseIdx_cons_zero, List.eraseIdx_cons_succ, List.cons_append, List.nil_append, Option.toList]
                                              refine R_iload d_jdk_2450_method_9_code_317 rfl ?_
                                              refine R_bipush (16) d_jdk_2450_method_9_code_319 (by decide) ?_
                                              refine R_ishr d_jdk_2450_method_9_code_321 ?_
                                              refine R_i2b d_jdk_2450_method_9_code_322 ?_
                                              rw [i32_succ]
                                              refine R_bastore 2 d_jdk_2450_method_9_code_323 rfl (i32_nn (by omega)) (d + 0) (i32_cl (by omega)) (by first | (rw [hY]; omega) | (simp only [List.length_set]; rw [hY]; omega)) ?_
                                              try dsimp only [List.set_cons_zero, List.set_cons_succ, List.eraseIdx_cons_zero, List.eraseIdx_cons_succ, List.cons_append, List.nil_append, Option.toList]
                                              rw [Int8.toInt8_toInt32, Y0B z1 z2 z3]
                                              refine R_aload d_jdk_2450_method_9_code_324 rfl rfl ?_
                                              refine R_iload d_jdk_2450_method_9_code_326 rfl ?_
                                              refine R_iinc (1) d_jdk_2450_method_9_code_328 (by decide) rfl ?_
                                              try dsimp only [List.set_cons_zero, List.set_cons_succ, List.eraseIdx_cons_zero, List.eraseIdx_cons_succ, List.cons_append, List.nil_append, Option.toList]
                                              refine R_iload d_jdk_2450_method_9_code_331 rfl ?_
                                              refine R_bipush (8) d_jdk_2450_method_9_code_333 (by decide) ?_
                                              refine R_ishr d_jdk_2450_method_9_code_335 ?_
                                              refine R_i2b d_jdk_2450_method_9_code_336 ?_
                                              rw [i32_succ]
                                              refine R_bastore 2 d_jdk_2450_method_9_code_337 rfl (i32_nn (by omega)) (d + 1) (i32_cl (by omega)) (by first | (rw [hY]; omega) | (simp only [List.length_set]; rw [hY]; omega)) ?_
                                              try dsimp only [List.set_cons_zero, List.set_cons_succ, List.eraseIdx_cons_zero, List.eraseIdx_cons_succ, List.cons_append, List.nil_append, Option.toList]
                                              rw [Int8.toInt8_toInt32, Y1B z1 z2 z3]
                                              refine R_goto (pc' := 358) d_jdk_2450_method_9_code_338 (by decide) (by decide) ?_
                                              refine R_iloadN d_jdk_2450_method_9_code_358 rfl ?_
                                              refine R_iloadN d_jdk_2450_method_9_code_359 rfl ?_
                                              refine R_icmp_ge (pc' := 416) d_jdk_2450_method_9_code_360 (by decide) (by decide) (fun w9 => ?_) (fun w9 => ?_)
                                              · refine R_iload d_jdk_2450_method_9_code_416 rfl ?_
                                                exact R_ireturn d_jdk_2450_method_9_code_418 rfl ⟨by subst hcnt; rfl, by subst hY'; rfl⟩ (Nat.le_of_ble_eq_true rfl) (Nat.le_of_ble_eq_true rfl)
                                              · exact absurd ((i32_lt_iff (by omega) (by omega)).mp w9) (by omega)
                                          · exact absurd w1 (by decide)
                                        · exact absurd f3 (by decide)
                                      · exact absurd f2 (by decide)
                                · exact absurd ((i32_lt_iff (by omega) (by omega)).mpr (by omega)) q3
                              · exact absurd l3 (by decide)
                          · exact absurd r2 (by decide)
                        · exact absurd (V6.nn z3) (fun q => q p2)
                      · exact absurd ((i32_lt_iff (by omega) (by omega)).mpr (by omega)) q2
                    · exact absurd l2 (by decide)
                · exact absurd r1 (by decide)
              · exact absurd (V6.nn z2) (fun q => q p1)
            · exact absurd ((i32_lt_iff (by omega) (by omega)).mpr (by omega)) q1
          · exact absurd l1 (by decide)
      · exact absurd r0 (by decide)
    · exact absurd (V6.nn z1) (fun q => q p0)
  · exact absurd ((i32_lt_iff (by omega) (by omega)).mpr (by omega)) q0

set_option maxRecDepth 65536 in
set_option maxHeartbeats 4000000 in
theorem L_qC {Γ : Gx} (hw : Words Γ) (ta dc sr rb : Addr) (bs : Bool) (ss : List Int32) (cnt : Nat) (Y' : List Value) (s d : Nat) (hs : s ≤ 100) (hd : d ≤ 100) (Y : List Value) (hY : Y.length = 3072) (j1 j2 j3 j4 : Nat) (k1 : j1 < 128) (k2 : j2 < 128) (k3 : j3 < 128) (k4 : j4 < 128) (e1 : ss[s + 0]? = some j1.toInt32) (e2 : ss[s + 1]? = some j2.toInt32) (e3 : ss[s + 2]? = some j3.toInt32) (e4 : ss[s + 3]? = some j4.toInt32) (v1 v2 v3 v4 : Int32) (t1 : tab64[j1]? = some v1) (z1 : V6 v1) (t2 : tab64[j2]? = some v2) (z2 : V6 v2) (j3e : j3 = 61) (j4e : j4 = 61) (t3 : tab64[j3]? = some (-2)) (hcnt : cnt = d + 1) (hY' : Y' = (Y.set (d + 0) (.int (y0 v1 v2)))) (o9 o10 : Slot) (h9 : One o9) (F : OL) :
    Run Γ (mx_d0 Γ ta dc sr rb bs ss cnt Y' F) 0 0 [(dc, false, DCO Γ), (sr, bs, BA Γ (ss.map Value.int)), (rb, true, BA Γ Y), (ta, false, Ary Γ "" .int (tab64.map Value.int))] 90 [.val (.ref dc), .val (.ref sr), .val (.int (s + 0).toInt32), .val (.int (s + 4).toInt32), .val (.ref rb), .val (.ref ta), .val (.int (d + 0).toInt32), .val (.int 0), .val (.int 18), o9, o10] [] := by
  refine R_iloadN d_jdk_2450_method_9_code_90 rfl ?_
  refine R_iloadN d_jdk_2450_method_9_code_91 rfl ?_
  refine R_icmp_lt (pc' := 98) d_jdk_2450_method_9_code_92 (by decide) (by decide) (fun q0 => ?_) (fun q0 => ?_)
  · refine R_aloadN d_jdk_2450_method_9_code_98 rfl rfl ?_
    refine R_iloadN d_jdk_2450_method_9_code_99 rfl ?_
    refine R_iinc (1) d_jdk_2450_method_9_code_100 (by decide) rfl ?_
    try dsimp only [List.set_cons_zero, List.set_cons_succ, List.eraseIdx_cons_zero, List.eraseIdx_cons_succ, List.cons_append, List.nil_append, Option.toList]
    rw [i32_succ]
    refine R_baload d_jdk_2450_method_9_code_103 (mem 1 rfl) (i32_nn (by omega)) (s + 0) (i32_cl (by omega)) (by rw [List.getElem?_map, e1]; rfl) ?_
    refine R_sipush (255) d_jdk_2450_method_9_code_104 (by decide) ?_
    refine R_iand d_jdk_2450_method_9_code_107 ?_
    rw [and7 k1]
    refine R_istore d_jdk_2450_method_9_code_108 rfl h9 ?_
    try dsimp only [List.set_cons_zero, List.set_cons_succ, List.eraseIdx_cons_zero, List.eraseIdx_cons_succ, List.cons_append, List.nil_append, Option.toList]
    refine R_aload d_jdk_2450_method_9_code_110 rfl rfl ?_
    refine R_iload d_jdk_2450_method_9_code_112 rfl ?_
    refine R_iaload d_jdk_2450_method_9_code_114 (mem 3 rfl) (i32_nn (by omega)) j1 (i32_cl (by omega)) (tab_at t1) ?_
    refine R_dup d_jdk_2450_method_9_code_115 rfl ?_
    refine R_istore d_jdk_2450_method_9_code_116 rfl (by first | exact Or.inl rfl | exact Or.inr ⟨_, rfl, rfl⟩) ?_
    try dsimp only [List.set_cons_zero, List.set_cons_succ, List.eraseIdx_cons_zero, List.eraseIdx_cons_succ, List.cons_append, List.nil_append, Option.toList]
    refine R_if_ge (pc' := 214) d_jdk_2450_method_9_code_118 (by decide) (by decide) (fun p0 => ?_) (fun p0 => ?_)
    · refine R_iload d_jdk_2450_method_9_code_214 rfl ?_
      refine R_iload d_jdk_2450_method_9_code_216 rfl ?_
      refine R_iload d_jdk_2450_method_9_code_218 rfl ?_
      refine R_ishl d_jdk_2450_method_9_code_220 ?_
      refine R_ior d_jdk_2450_method_9_code_221 ?_
      refine R_istore d_jdk_2450_method_9_code_222 rfl (by first | exact Or.inl rfl | exact Or.inr ⟨_, rfl, rfl⟩) ?_
      try dsimp only [List.set_cons_zero, List.set_cons_succ, List.eraseIdx_cons_zero, List.eraseIdx_cons_succ, List.cons_append, List.nil_append, Option.toList]
      refine R_iinc (-6) d_jdk_2450_method_9_code_224 (by decide) rfl ?_
      try dsimp only [List.set_cons_zero, List.set_cons_succ, List.eraseIdx_cons_zero, List.eraseIdx_cons_succ, List.cons_append, List.nil_append, Option.toList]
      rw [show (18 : Int32) + -6 = 12 from by decide]
      refine R_iload d_jdk_2450_method_9_code_227 rfl ?_
      refine R_if_ge (pc' := 278) d_jdk_2450_method_9_code_229 (by decide) (by decide) (fun r0 => ?_) (fun r0 => ?_)
      · refine R_goto (pc' := 28) d_jdk_2450_method_9_code_278 (by decide) (by decide) ?_
        refine R_iloadN d_jdk_2450_method_9_code_28 rfl ?_
        refine R_iloadN d_jdk_2450_method_9_code_29 rfl ?_
        refine R_icmp_ge (pc' := 281) d_jdk_2450_method_9_code_30 (by decide) (by decide) (fun m1 => ?_) (fun m1 => ?_)
        · exact absurd ((i32_lt_iff (by omega) (by omega)).mpr (by omega)) m1
        · refine R_iload d_jdk_2450_method_9_code_33 rfl ?_
          refine R_bipush (18) d_jdk_2450_method_9_code_35 (by decide) ?_
          refine R_icmp_ne (pc' := 90) d_jdk_2450_method_9_code_37 (by decide) (by decide) (fun l1 => ?_) (fun l1 => ?_)
          · refine R_iloadN d_jdk_2450_method_9_code_90 rfl ?_
            refine R_iloadN d_jdk_2450_method_9_code_91 rfl ?_
            refine R_icmp_lt (pc' := 98) d_jdk_2450_method_9_code_92 (by decide) (by decide) (fun q1 => ?_) (fun q1 => ?_)
            · refine R_aloadN d_jdk_2450_method_9_code_98 rfl rfl ?_
              refine R_iloadN d_jdk_2450_method_9_code_99 rfl ?_
              refine R_iinc (1) d_jdk_2450_method_9_code_100 (by decide) rfl ?_
              try dsimp only [List.set_cons_zero, List.set_cons_succ, List.eraseIdx_cons_zero, List.eraseIdx_cons_succ, List.cons_append, List.nil_append, Option.toList]
              rw [i32_succ]
              refine R_baload d_jdk_2450_method_9_code_103 (mem 1 rfl) (i32_nn (by omega)) (s + 1) (i32_cl (by omega)) (by rw [List.getElem?_map, e2]; rfl) ?_
              refine R_sipush (255) d_jdk_2450_method_9_code_104 (by decide) ?_
              refine R_iand d_jdk_2450_method_9_code_107 ?_
              rw [and7 k2]
              refine R_istore d_jdk_2450_method_9_code_108 rfl (by first | exact Or.inl rfl | exact Or.inr ⟨_, rfl, rfl⟩) ?_
              try dsimp only [List.set_cons_zero, List.set_cons_succ, List.eraseIdx_cons_zero, List.eraseIdx_cons_succ, List.cons_append, List.nil_append, Option.toList]
              refine R_aload d_jdk_2450_method_9_code_110 rfl rfl ?_
              refine R_iload d_jdk_2450_method_9_code_112 rfl ?_
              refine R_iaload d_jdk_2450_method_9_code_114 (mem 3 rfl) (i32_nn (by omega)) j2 (i32_cl (by omega)) (tab_at t2) ?_
              refine R_dup d_jdk_2450_method_9_code_115 rfl ?_
              refine R_istore d_jdk_2450_method_9_code_116 rfl (by first | exact Or.inl rfl | exact Or.inr ⟨_, rfl, rfl⟩) ?_
              try dsimp only [List.set_cons_zero, List.set_cons_succ, List.eraseIdx_cons_zero, List.eraseIdx_cons_succ, List.cons_append, List.nil_append, Option.toList]
              refine R_if_ge (pc' := 214) d_jdk_2450_method_9_code_118 (by decide) (by decide) (fun p1 => ?_) (fun p1 => ?_)
              · refine R_iload d_jdk_2450_method_9_code_214 rfl ?_
                refine R_iload d_jdk_2450_method_9_code_216 rfl ?_
                refine R_iload d_jdk_2450_method_9_code_218 rfl ?_
                refine R_ishl d_jdk_2450_method_9_code_220 ?_
                refine R_ior d_jdk_2450_method_9_code_221 ?_
                refine R_istore d_jdk_2450_method_9_code_222 rfl (by first | exact Or.inl rfl | exact Or.inr ⟨_, rfl, rfl⟩) ?_
                try dsimp only [List.set_cons_zero, List.set_cons_succ, List.eraseIdx_cons_zero, List.eraseIdx_cons_succ, List.cons_append, List.nil_append, Option.toList]
                refine R_iinc (-6) d_jdk_2450_method_9_code_224 (by decide) rfl ?_
                try dsimp only [List.set_cons_zero, List.set_cons_succ, List.eraseIdx_cons_zero, List.eraseIdx_cons_succ, List.cons_append, List.nil_append, Option.toList]
                rw [show (12 : Int32) + -6 = 6 from by decide]
                refine R_iload d_jdk_2450_method_9_code_227 rfl ?_
                refine R_if_ge (pc' := 278) d_jdk_2450_method_9_code_229 (by decide) (by decide) (fun r1 => ?_) (fun r1 => ?_)
                · refine R_goto (pc' := 28) d_jdk_2450_method_9_code_278 (by decide) (by decide) ?_
                  refine R_iloadN d_jdk_2450_method_9_code_28 rfl ?_
                  refine R_iloadN d_jdk_2450_method_9_code_29 rfl ?_
                  refine R_icmp_ge (pc' := 281) d_jdk_2450_method_9_code_30 (by decide) (by decide) (fun m2 => ?_) (fun m2 => ?_)
                  · exact absurd ((i32_lt_iff (by omega) (by omega)).mpr (by omega)) m2
                  · refine R_iload d_jdk_2450_method_9_code_33 rfl ?_
                    refine R_bipush (18) d_jdk_2450_method_9_code_35 (by decide) ?_
                    refine R_icmp_ne (pc' := 90) d_jdk_2450_method_9_code_37 (by decide) (by decide) (fun l2 => ?_) (fun l2 => ?_)
                    · refine R_iloadN d_jdk_2450_method_9_code_90 rfl ?_
                      refine R_iloadN d_jdk_2450_method_9_code_91 rfl ?_
                      refine R_icmp_lt (pc' := 98) d_jdk_2450_method_9_code_92 (by decide) (by decide) (fun q2 => ?_) (fun q2 => ?_)
                      · refine R_aloadN d_jdk_2450_method_9_code_98 rfl rfl ?_
                        refine R_iloadN d_jdk_2450_method_9_code_99 rfl ?_
                        refine R_iinc (1) d_jdk_2450_method_9_code_100 (by decide) rfl ?_
                        try dsimp only [List.set_cons_zero, List.set_cons_succ, List.eraseIdx_cons_zero, List.eraseIdx_cons_succ, List.cons_append, List.nil_append, Option.toList]
                        rw [i32_succ]
                        refine R_baload d_jdk_2450_method_9_code_103 (mem 1 rfl) (i32_nn (by omega)) (s + 2) (i32_cl (by omega)) (by rw [List.getElem?_map, e3]; rfl) ?_
                        refine R_sipush (255) d_jdk_2450_method_9_code_104 (by decide) ?_
                        refine R_iand d_jdk_2450_method_9_code_107 ?_
                        rw [and7 k3]
                        refine R_istore d_jdk_2450_method_9_code_108 rfl (by first | exact Or.inl rfl | exact Or.inr ⟨_, rfl, rfl⟩) ?_
                        try dsimp only [List.set_cons_zero, List.set_cons_succ, List.eraseIdx_cons_zero, List.eraseIdx_cons_succ, List.cons_append, List.nil_append, Option.toList]
                        refine R_aload d_jdk_2450_method_9_code_110 rfl rfl ?_
                        refine R_iload d_jdk_2450_method_9_code_112 rfl ?_
                        refine R_iaload d_jdk_2450_method_9_code_114 (mem 3 rfl) (i32_nn (by omega)) j3 (i32_cl (by omega)) (tab_at t3) ?_
                        refine R_dup d_jdk_2450_method_9_code_115 rfl ?_
                        refine R_istore d_jdk_2450_method_9_code_116 rfl (by first | exact Or.inl rfl | exact Or.inr ⟨_, rfl, rfl⟩) ?_
                        try dsimp only [List.set_cons_zero, List.set_cons_succ, List.eraseIdx_cons_zero, List.eraseIdx_cons_succ, List.cons_append, List.nil_append, Option.toList]
                        refine R_if_ge (pc' := 214) d_jdk_2450_method_9_code_118 (by decide) (by decide) (fun p2 => ?_) (fun p2 => ?_)
                        · exact absurd (by decide) p2
                        · refine R_iload d_jdk_2450_method_9_code_121 rfl ?_
                          refine R_bipush (-2) d_jdk_2450_method_9_code_123 (by decide) ?_
                          refine R_icmp_ne (pc' := 168) d_jdk_2450_method_9_code_125 (by decide) (by decide) (fun f1 => ?_) (fun f1 => ?_)
                          · exact absurd rfl f1
                          · refine R_iload d_jdk_2450_method_9_code_128 rfl ?_
                            refine R_bipush (6) d_jdk_2450_method_9_code_130 (by decide) ?_
                            refine R_icmp_ne (pc' := 151) d_jdk_2450_method_9_code_132 (by decide) (by decide) (fun f2 => ?_) (fun f2 => ?_)
                            · exact absurd (by decide) f2
                            · refine R_iloadN d_jdk_2450_method_9_code_135 rfl ?_
                              refine R_iloadN d_jdk_2450_method_9_code_136 rfl ?_
                              refine R_icmp_eq (pc' := 158) d_jdk_2450_method_9_code_137 (by decide) (by decide) (fun f4 => ?_) (fun f4 => ?_)
                              · exact absurd ((i32_eq_iff (by omega) (by omega)).mp f4) (by omega)
                              · refine R_aloadN d_jdk_2450_method_9_code_140 rfl rfl ?_
                                refine R_iloadN d_jdk_2450_method_9_code_141 rfl ?_
                                refine R_iinc (1) d_jdk_2450_method_9_code_142 (by decide) rfl ?_
                                try dsimp only [List.set_cons_zero, List.set_cons_succ, List.eraseIdx_cons_zero, List.eraseIdx_cons_succ, List.cons_append, List.nil_append, Option.toList]
                                rw [i32_succ]
                                refine R_baload d_jdk_2450_method_9_code_145 (mem 1 rfl) (i32_nn (by omega)) (s + 3) (i32_cl (by omega)) (by rw [List.getElem?_map, e4]; rfl) ?_
                                refine R_bipush (61) d_jdk_2450_method_9_code_146 (by decide) ?_
                                refine R_icmp_ne (pc' := 158) d_jdk_2450_method_9_code_148 (by decide) (by decide) (fun f5 => ?_) (fun f5 => ?_)
                                · exact absurd (by rw [j4e]; rfl) f5
                                · refine R_iload d_jdk_2450_method_9_code_151 rfl ?_
                                  refine R_bipush (18) d_jdk_2450_method_9_code_153 (by decide) ?_
                                  refine R_icmp_ne (pc' := 281) d_jdk_2450_method_9_code_155 (by decide) (by decide) (fun f3 => ?_) (fun f3 => ?_)
                                  · refine R_iload d_jdk_2450_method_9_code_281 rfl ?_
                                    refine R_bipush (6) d_jdk_2450_method_9_code_283 (by decide) ?_
                                    refine R_icmp_ne (pc' := 305) d_jdk_2450_method_9_code_285 (by decide) (by decide) (fun w1 => ?_) (fun w1 => ?_)
                                    · exact absurd (by decide) w1
                                    · refine R_aload d_jdk_2450_method_9_code_288 rfl rfl ?_
                                      refine R_iload d_jdk_2450_method_9_code_290 rfl ?_
                                      refine R_iinc (1) d_jdk_2450_method_9_code_292 (by decide) rfl ?_
                                      try dsimp only [List.set_cons_zero, List.set_cons_succ, List.eraseIdx_cons_zero, List.eraseIdx_cons_succ, List.cons_append, List.nil_append, Option.toList]
                                      refine R_iload d_jdk_2450_method_9_code_295 rfl ?_
                                      refine R_bipush (16) d_jdk_2450_method_9_code_297 (by decide) ?_
                                      refine R_ishr d_jdk_2450_method_9_code_299 ?_
                                      refine R_i2b d_jdk_2450_method_9_code_300 ?_
                                      rw [i32_succ]
                                      refine R_bastore 2 d_jdk_2450_method_9_code_301 rfl (i32_nn (by omega)) (d + 0) (i32_cl (by omega)) (by first | (rw [hY]; omega) | (simp only [List.length_set]; rw [hY]; omega)) ?_
                                      try dsimp only [List.set_cons_zero, List.set_cons_succ, List.eraseIdx_cons_zero, List.eraseIdx_cons_succ, List.cons_append, List.nil_append, Option.toList]
                                      rw [Int8.toInt8_toInt32, Y0C z1 z2]
                                      refine R_goto (pc' := 358) d_jdk_2450_method_9_code_302 (by decide) (by decide) ?_
                                      refine R_iloadN d_jdk_2450_method_9_code_358 rfl ?_
                                      refine R_iloadN d_jdk_2450_method_9_code_359 rfl ?_
                                      refine R_icmp_ge (pc' := 416) d_jdk_2450_method_9_code_360 (by decide) (by decide) (fun w9 => ?_) (fun w9 => ?_)
                                      · refine R_iload d_jdk_2450_method_9_code_416 rfl ?_
                                        exact R_ireturn d_jdk_2450_method_9_code_418 rfl ⟨by subst hcnt; rfl, by subst hY'; rfl⟩ (Nat.le_of_ble_eq_true rfl) (Nat.le_of_ble_eq_true rfl)
                                      · exact absurd ((i32_lt_iff (by omega) (by omega)).mp w9) (by omega)
                                  · exact absurd f3 (by decide)
                      · exact absurd ((i32_lt_iff (by omega) (by omega)).mpr (by omega)) q2
                    · exact absurd l2 (by decide)
                · exact absurd r1 (by decide)
              · exact absurd (V6.nn z2) (fun q => q p1)
            · exact absurd ((i32_lt_iff (by omega) (by omega)).mpr (by omega)) q1
          · exact absurd l1 (by decide)
      · exact absurd r0 (by decide)
    · exact absurd (V6.nn z1) (fun q => q p0)
  · exact absurd ((i32_lt_iff (by omega) (by omega)).mpr (by omega)) q0

-- CUT
theorem d_jdk_2450_method_9_code_0 : decode jdk_2450_method_9_code 0 = .ok (.aload_n 0, 1) := by decide +kernel
theorem d_jdk_2450_method_9_code_1 : decode jdk_2450_method_9_code 1 = .ok (.getfield 7, 3) := by decide +kernel
theorem d_jdk_2450_method_9_code_4 : decode jdk_2450_method_9_code 4 = .ok (.ifCond .eq 9, 3) := by decide +kernel
theorem d_jdk_2450_method_9_code_13 : decode jdk_2450_method_9_code 13 = .ok (.getstatic 99, 3) := by decide +kernel
theorem d_jdk_2450_method_9_code_16 : decode jdk_2450_method_9_code 16 = .ok (.astore 5, 2) := by decide +kernel
theorem d_jdk_2450_method_9_code_18 : decode jdk_2450_method_9_code 18 = .ok (.iconst 0, 1) := by decide +kernel
theorem d_jdk_2450_method_9_code_19 : decode jdk_2450_method_9_code 19 = .ok (.istore 6, 2) := by decide +kernel
theorem d_jdk_2450_method_9_code_21 : decode jdk_2450_method_9_code 21 = .ok (.iconst 0, 1) := by decide +kernel
theorem d_jdk_2450_method_9_code_22 : decode jdk_2450_method_9_code 22 = .ok (.istore 7, 2) := by decide +kernel
theorem d_jdk_2450_method_9_code_24 : decode jdk_2450_method_9_code 24 = .ok (.bipush 18, 2) := by decide +kernel
theorem d_jdk_2450_method_9_code_26 : decode jdk_2450_method_9_code 26 = .ok (.istore 8, 2) := by decide +kernel
theorem d_jdk_2450_method_9_code_40 : decode jdk_2450_method_9_code 40 = .ok (.iload_n 2, 1) := by decide +kernel
theorem d_jdk_2450_method_9_code_41 : decode jdk_2450_method_9_code 41 = .ok (.iload_n 3, 1) := by decide +kernel
theorem d_jdk_2450_method_9_code_42 : decode jdk_2450_method_9_code 42 = .ok (.iconst 4, 1) := by decide +kernel
theorem d_jdk_2450_method_9_code_43 : decode jdk_2450_method_9_code 43 = .ok (.isub, 1) := by decide +kernel
theorem d_jdk_2450_method_9_code_44 : decode jdk_2450_method_9_code 44 = .ok (.if_icmp .ge 46, 3) := by decide +kernel
theorem d_jdk_2450_method_9_code_47 : decode jdk_2450_method_9_code 47 = .ok (.aload_n 0, 1) := by decide +kernel
theorem d_jdk_2450_method_9_code_48 : decode jdk_2450_method_9_code 48 = .ok (.aload_n 1, 1) := by decide +kernel
theorem d_jdk_2450_method_9_code_49 : decode jdk_2450_method_9_code 49 = .ok (.iload_n 2, 1) := by decide +kernel
theorem d_jdk_2450_method_9_code_50 : decode jdk_2450_method_9_code 50 = .ok (.iload_n 3, 1) := by decide +kernel
theorem d_jdk_2450_method_9_code_51 : decode jdk_2450_method_9_code 51 = .ok (.aload 4, 2) := by decide +kernel
theorem d_jdk_2450_method_9_code_53 : decode jdk_2450_method_9_code 53 = .ok (.iload 6, 2) := by decide +kernel
theorem d_jdk_2450_method_9_code_55 : decode jdk_2450_method_9_code 55 = .ok (.aload_n 0, 1) := by decide +kernel
theorem d_jdk_2450_method_9_code_56 : decode jdk_2450_method_9_code 56 = .ok (.getfield 7, 3) := by decide +kernel
theorem d_jdk_2450_method_9_code_59 : decode jdk_2450_method_9_code 59 = .ok (.aload_n 0, 1) := by decide +kernel
theorem d_jdk_2450_method_9_code_60 : decode jdk_2450_method_9_code 60 = .ok (.getfield 13, 3) := by decide +kernel
theorem d_jdk_2450_method_9_code_63 : decode jdk_2450_method_9_code 63 = .ok (.invokevirtual 111, 3) := by decide +kernel
theorem pd_oaBIIaBIZZcI : parseMethodDescriptor "([BII[BIZZ)I" = some ⟨[(.array .byte), .int, .int, (.array .byte), .int, .boolean, .boolean], some .int⟩ := by decide +kernel
theorem d_jdk_2450_method_9_code_66 : decode jdk_2450_method_9_code 66 = .ok (.istore 9, 2) := by decide +kernel
theorem d_jdk_2450_method_9_code_68 : decode jdk_2450_method_9_code 68 = .ok (.iload 9, 2) := by decide +kernel
theorem d_jdk_2450_method_9_code_70 : decode jdk_2450_method_9_code 70 = .ok (.iconst 2, 1) := by decide +kernel
theorem d_jdk_2450_method_9_code_71 : decode jdk_2450_method_9_code 71 = .ok (.iadd, 1) := by decide +kernel
theorem d_jdk_2450_method_9_code_72 : decode jdk_2450_method_9_code 72 = .ok (.iconst 3, 1) := by decide +kernel
theorem d_jdk_2450_method_9_code_73 : decode jdk_2450_method_9_code 73 = .ok (.idiv, 1) := by decide +kernel
theorem d_jdk_2450_method_9_code_74 : decode jdk_2450_method_9_code 74 = .ok (.iconst 4, 1) := by decide +kernel
theorem d_jdk_2450_method_9_code_75 : decode jdk_2450_method_9_code 75 = .ok (.imul, 1) := by decide +kernel
theorem d_jdk_2450_method_9_code_76 : decode jdk_2450_method_9_code 76 = .ok (.istore 10, 2) := by decide +kernel
theorem d_jdk_2450_method_9_code_78 : decode jdk_2450_method_9_code 78 = .ok (.iload_n 2, 1) := by decide +kernel
theorem d_jdk_2450_method_9_code_79 : decode jdk_2450_method_9_code 79 = .ok (.iload 10, 2) := by decide +kernel
theorem d_jdk_2450_method_9_code_81 : decode jdk_2450_method_9_code 81 = .ok (.iadd, 1) := by decide +kernel
theorem d_jdk_2450_method_9_code_82 : decode jdk_2450_method_9_code 82 = .ok (.istore_n 2, 1) := by decide +kernel
theorem d_jdk_2450_method_9_code_83 : decode jdk_2450_method_9_code 83 = .ok (.iload 6, 2) := by decide +kernel
theorem d_jdk_2450_method_9_code_85 : decode jdk_2450_method_9_code 85 = .ok (.iload 9, 2) := by decide +kernel
theorem d_jdk_2450_method_9_code_87 : decode jdk_2450_method_9_code 87 = .ok (.iadd, 1) := by decide +kernel
theorem d_jdk_2450_method_9_code_88 : decode jdk_2450_method_9_code 88 = .ok (.istore 6, 2) := by decide +kernel
theorem d_jdk_2450_method_9_code_95 : decode jdk_2450_method_9_code 95 = .ok (.goto 186, 3) := by decide +kernel
theorem d_jdk_2450_method_4_code_0 : decode jdk_2450_method_4_code 0 = .ok (.aload_n 0, 1) := by decide +kernel
theorem d_jdk_2450_method_4_code_1 : decode jdk_2450_method_4_code 1 = .ok (.aload_n 1, 1) := by decide +kernel
theorem d_jdk_2450_method_4_code_2 : decode jdk_2450_method_4_code 2 = .ok (.iconst 0, 1) := by decide +kernel
theorem d_jdk_2450_method_4_code_3 : decode jdk_2450_method_4_code 3 = .ok (.aload_n 1, 1) := by decide +kernel
theorem d_jdk_2450_method_4_code_4 : decode jdk_2450_method_4_code 4 = .ok (.arraylength, 1) := by decide +kernel
theorem d_jdk_2450_method_4_code_5 : decode jdk_2450_method_4_code 5 = .ok (.invokevirtual 16, 3) := by decide +kernel
theorem pd_oaBIIcI : parseMethodDescriptor "([BII)I" = some ⟨[(.array .byte), .int, .int], some .int⟩ := by decide +kernel
theorem d_jdk_2450_method_4_code_8 : decode jdk_2450_method_4_code 8 = .ok (.istore_n 3, 1) := by decide +kernel
theorem d_jdk_2450_method_4_code_9 : decode jdk_2450_method_4_code 9 = .ok (.aload_n 2, 1) := by decide +kernel
theorem d_jdk_2450_method_4_code_10 : decode jdk_2450_method_4_code 10 = .ok (.arraylength, 1) := by decide +kernel
theorem d_jdk_2450_method_4_code_11 : decode jdk_2450_method_4_code 11 = .ok (.iload_n 3, 1) := by decide +kernel
theorem d_jdk_2450_method_4_code_12 : decode jdk_2450_method_4_code 12 = .ok (.if_icmp .lt 8, 3) := by decide +kernel
theorem d_jdk_2450_method_4_code_15 : decode jdk_2450_method_4_code 15 = .ok (.iload_n 3, 1) := by decide +kernel
theorem d_jdk_2450_method_4_code_16 : decode jdk_2450_method_4_code 16 = .ok (.iconst (-1), 1) := by decide +kernel
theorem d_jdk_2450_method_4_code_17 : decode jdk_2450_method_4_code 17 = .ok (.if_icmp .ne 13, 3) := by decide +kernel
theorem d_jdk_2450_method_4_code_30 : decode jdk_2450_method_4_code 30 = .ok (.aload_n 0, 1) := by decide +kernel
theorem d_jdk_2450_method_4_code_31 : decode jdk_2450_method_4_code 31 = .ok (.aload_n 1, 1) := by decide +kernel
theorem d_jdk_2450_method_4_code_32 : decode jdk_2450_method_4_code 32 = .ok (.iconst 0, 1) := by decide +kernel
theorem d_jdk_2450_method_4_code_33 : decode jdk_2450_method_4_code 33 = .ok (.aload_n 1, 1) := by decide +kernel
theorem d_jdk_2450_method_4_code_34 : decode jdk_2450_method_4_code 34 = .ok (.arraylength, 1) := by decide +kernel
theorem d_jdk_2450_method_4_code_35 : decode jdk_2450_method_4_code 35 = .ok (.aload_n 2, 1) := by decide +kernel
theorem d_jdk_2450_method_4_code_36 : decode jdk_2450_method_4_code 36 = .ok (.invokevirtual 20, 3) := by decide +kernel
theorem pd_oaBIIaBcI : parseMethodDescriptor "([BII[B)I" = some ⟨[(.array .byte), .int, .int, (.array .byte)], some .int⟩ := by decide +kernel
theorem d_jdk_2450_method_4_code_39 : decode jdk_2450_method_4_code 39 = .ok (.ireturn, 1) := by decide +kernel
theorem d_prog_3_method_5_code_0 : decode prog_3_method_5_code 0 = .ok (.aload_n 0, 1) := by decide +kernel
theorem d_prog_3_method_5_code_1 : decode prog_3_method_5_code 1 = .ok (.getfield 23, 3) := by decide +kernel
theorem d_prog_3_method_5_code_4 : decode prog_3_method_5_code 4 = .ok (.sipush 4096, 3) := by decide +kernel
theorem d_prog_3_method_5_code_7 : decode prog_3_method_5_code 7 = .ok (.if_icmp .ne 10, 3) := by decide +kernel
theorem d_prog_3_method_5_code_17 : decode prog_3_method_5_code 17 = .ok (.aload_n 0, 1) := by decide +kernel
theorem d_prog_3_method_5_code_18 : decode prog_3_method_5_code 18 = .ok (.getfield 9, 3) := by decide +kernel
theorem d_prog_3_method_5_code_21 : decode prog_3_method_5_code 21 = .ok (.aload_n 0, 1) := by decide +kernel
theorem d_prog_3_method_5_code_22 : decode prog_3_method_5_code 22 = .ok (.getfield 23, 3) := by decide +kernel
theorem d_prog_3_method_5_code_25 : decode prog_3_method_5_code 25 = .ok (.invokestatic 48, 3) := by decide +kernel
theorem pd_oaBIcaB : parseMethodDescriptor "([BI)[B" = some ⟨[(.array .byte), .int], some (.array .byte)⟩ := by decide +kernel
theorem d_prog_3_method_5_code_28 : decode prog_3_method_5_code 28 = .ok (.astore_n 1, 1) := by decide +kernel
theorem d_prog_3_method_5_code_29 : decode prog_3_method_5_code 29 = .ok (.getstatic 56, 3) := by decide +kernel
theorem d_prog_3_method_5_code_32 : decode prog_3_method_5_code 32 = .ok (.aload_n 1, 1) := by decide +kernel
theorem d_prog_3_method_5_code_33 : decode prog_3_method_5_code 33 = .ok (.aload_n 0, 1) := by decide +kernel
theorem d_prog_3_method_5_code_34 : decode prog_3_method_5_code 34 = .ok (.getfield 13, 3) := by decide +kernel
theorem d_prog_3_method_5_code_37 : decode prog_3_method_5_code 37 = .ok (.invokevirtual 60, 3) := by decide +kernel
theorem pd_oaBaBcI : parseMethodDescriptor "([B[B)I" = some ⟨[(.array .byte), (.array .byte)], some .int⟩ := by decide +kernel
theorem d_prog_3_method_5_code_40 : decode prog_3_method_5_code 40 = .ok (.istore_n 2, 1) := by decide +kernel
theorem d_prog_3_method_5_code_41 : decode prog_3_method_5_code 41 = .ok (.goto 22, 3) := by decide +kernel
theorem d_prog_3_method_5_code_63 : decode prog_3_method_5_code 63 = .ok (.aload_n 0, 1) := by decide +kernel
theorem d_prog_3_method_5_code_64 : decode prog_3_method_5_code 64 = .ok (.getfield 45, 3) := by decide +kernel
theorem d_prog_3_method_5_code_67 : decode prog_3_method_5_code 67 = .ok (.iload_n 2, 1) := by decide +kernel
theorem d_prog_3_method_5_code_68 : decode prog_3_method_5_code 68 = .ok (.iadd, 1) := by decide +kernel
theorem d_prog_3_method_5_code_69 : decode prog_3_method_5_code 69 = .ok (.istore_n 3, 1) := by decide +kernel
theorem d_prog_3_method_5_code_70 : decode prog_3_method_5_code 70 = .ok (.iload_n 3, 1) := by decide +kernel
theorem d_prog_3_method_5_code_71 : decode prog_3_method_5_code 71 = .ok (.aload_n 0, 1) := by decide +kernel
theorem d_prog_3_method_5_code_72 : decode prog_3_method_5_code 72 = .ok (.getfield 19, 3) := by decide +kernel
theorem d_prog_3_method_5_code_75 : decode prog_3_method_5_code 75 = .ok (.if_icmp .le 34, 3) := by decide +kernel
theorem d_prog_3_method_5_code_109 : decode prog_3_method_5_code 109 = .ok (.iload_n 3, 1) := by decide +kernel
theorem d_prog_3_method_5_code_110 : decode prog_3_method_5_code 110 = .ok (.aload_n 0, 1) := by decide +kernel
theorem d_prog_3_method_5_code_111 : decode prog_3_method_5_code 111 = .ok (.getfield 16, 3) := by decide +kernel
theorem d_prog_3_method_5_code_114 : decode prog_3_method_5_code 114 = .ok (.arraylength, 1) := by decide +kernel
theorem d_prog_3_method_5_code_115 : decode prog_3_method_5_code 115 = .ok (.if_icmp .le 42, 3) := by decide +kernel
theorem d_prog_3_method_5_code_157 : decode prog_3_method_5_code 157 = .ok (.aload_n 0, 1) := by decide +kernel
theorem d_prog_3_method_5_code_158 : decode prog_3_method_5_code 158 = .ok (.getfield 13, 3) := by decide +kernel
theorem d_prog_3_method_5_code_161 : decode prog_3_method_5_code 161 = .ok (.iconst 0, 1) := by decide +kernel
theorem d_prog_3_method_5_code_162 : decode prog_3_method_5_code 162 = .ok (.aload_n 0, 1) := by decide +kernel
theorem d_prog_3_method_5_code_163 : decode prog_3_method_5_code 163 = .ok (.getfield 16, 3) := by decide +kernel
theorem d_prog_3_method_5_code_166 : decode prog_3_method_5_code 166 = .ok (.aload_n 0, 1) := by decide +kernel
theorem d_prog_3_method_5_code_167 : decode prog_3_method_5_code 167 = .ok (.getfield 45, 3) := by decide +kernel
theorem d_prog_3_method_5_code_170 : decode prog_3_method_5_code 170 = .ok (.iload_n 2, 1) := by decide +kernel
theorem d_prog_3_method_5_code_171 : decode prog_3_method_5_code 171 = .ok (.invokestatic 104, 3) := by decide +kernel
theorem d_prog_3_method_5_code_174 : decode prog_3_method_5_code 174 = .ok (.aload_n 0, 1) := by decide +kernel
theorem d_prog_3_method_5_code_175 : decode prog_3_method_5_code 175 = .ok (.iload_n 3, 1) := by decide +kernel
theorem d_prog_3_method_5_code_176 : decode prog_3_method_5_code 176 = .ok (.putfield 45, 3) := by decide +kernel
theorem d_prog_3_method_5_code_179 : decode prog_3_method_5_code 179 = .ok (.aload_n 0, 1) := by decide +kernel
theorem d_prog_3_method_5_code_180 : decode prog_3_method_5_code 180 = .ok (.iconst 0, 1) := by decide +kernel
theorem d_prog_3_method_5_code_181 : decode prog_3_method_5_code 181 = .ok (.putfield 23, 3) := by decide +kernel
theorem d_prog_3_method_5_code_184 : decode prog_3_method_5_code 184 = .ok (.return_, 1) := by decide +kernel
theorem d_prog_3_method_5_code_118 : decode prog_3_method_5_code 118 = .ok (.aload_n 0, 1) := by decide +kernel
theorem d_prog_3_method_5_code_119 : decode prog_3_method_5_code 119 = .ok (.getfield 19, 3) := by decide +kernel
theorem d_prog_3_method_5_code_122 : decode prog_3_method_5_code 122 = .ok (.i2l, 1) := by decide +kernel
theorem d_prog_3_method_5_code_123 : decode prog_3_method_5_code 123 = .ok (.iload_n 3, 1) := by decide +kernel
theorem d_prog_3_method_5_code_124 : decode prog_3_method_5_code 124 = .ok (.i2l, 1) := by decide +kernel
theorem d_prog_3_method_5_code_125 : decode prog_3_method_5_code 125 = .ok (.ldc2_w 93, 3) := by decide +kernel
theorem d_prog_3_method_5_code_128 : decode prog_3_method_5_code 128 = .ok (.aload_n 0, 1) := by decide +kernel
theorem d_prog_3_method_5_code_129 : decode prog_3_method_5_code 129 = .ok (.getfield 16, 3) := by decide +kernel
theorem d_prog_3_method_5_code_132 : decode prog_3_method_5_code 132 = .ok (.arraylength, 1) := by decide +kernel
theorem d_prog_3_method_5_code_133 : decode prog_3_method_5_code 133 = .ok (.i2l, 1) := by decide +kernel
theorem d_prog_3_method_5_code_134 : decode prog_3_method_5_code 134 = .ok (.lmul, 1) := by decide +kernel
theorem d_prog_3_method_5_code_135 : decode prog_3_method_5_code 135 = .ok (.invokestatic 95, 3) := by decide +kernel
theorem pd_oJJcJ : parseMethodDescriptor "(JJ)J" = some ⟨[.long, .long], some .long⟩ := by decide +kernel
theorem d_prog_3_method_5_code_138 : decode prog_3_method_5_code 138 = .ok (.invokestatic 101, 3) := by decide +kernel
theorem d_prog_3_method_5_code_141 : decode prog_3_method_5_code 141 = .ok (.l2i, 1) := by decide +kernel
theorem d_prog_3_method_5_code_142 : decode prog_3_method_5_code 142 = .ok (.istore 4, 2) := by decide +kernel
theorem d_prog_3_method_5_code_144 : decode prog_3_method_5_code 144 = .ok (.aload_n 0, 1) := by decide +kernel
theorem d_prog_3_method_5_code_145 : decode prog_3_method_5_code 145 = .ok (.aload_n 0, 1) := by decide +kernel
theorem d_prog_3_method_5_code_146 : decode prog_3_method_5_code 146 = .ok (.getfield 16, 3) := by decide +kernel
theorem d_prog_3_method_5_code_149 : decode prog_3_method_5_code 149 = .ok (.iload 4, 2) := by decide +kernel
theorem d_prog_3_method_5_code_151 : decode prog_3_method_5_code 151 = .ok (.invokestatic 48, 3) := by decide +kernel
theorem d_prog_3_method_5_code_154 : decode prog_3_method_5_code 154 = .ok (.putfield 16, 3) := by decide +kernel
set_option maxRecDepth 65536 in
set_option maxHeartbeats 4000000 in
theorem M_d00 {Γ : Gx} (hw : Words Γ) (ta dc : Addr) (hD : D64 Γ ta dc) (sr rb : Addr) (bs : Bool) (ss : List Int32) (cnt : Nat) (Y' : List Value) (h0 : ss.length = 0) (Y : List Value) (hcnt : cnt = 0) (hY' : Y' = Y) :
    Met Γ (⟨"java/util/Base64$Decoder", "decode0", "([BII[B)I"⟩ : MethodName) jdk_2450_method_9_code 11 (some .int) ({ frames := 1, cells := 0, slots := 0, locals := 27 } : Room) #[(.ref dc), (.ref sr), (.int 0), (.int ss.length.toInt32), (.ref rb)] [(dc, false, DCO Γ), (sr, bs, BA Γ (ss.map Value.int)), (rb, true, BA Γ Y), (ta, false, Ary Γ "" .int (tab64.map Value.int))] (fun v O' => v = some (.int cnt.toInt32) ∧ O' = [(dc, false, DCO Γ), (sr, bs, BA Γ (ss.map Value.int)), (rb, true, BA Γ Y'), (ta, false, Ary Γ "" .int (tab64.map Value.int))]) := by
  refine Met.intro pn_java_util_Base64_Decoder (Ls := [.val (.ref dc), .val (.ref sr), .val (.int 0), .val (.int ss.length.toInt32), .val (.ref rb), .unset, .unset, .unset, .unset, .unset, .unset]) (fun m => by first | rfl | (simp [entryFrame, mkF, argsToLocals, Value.category]; done)) ?_
  intro F
  obtain ⟨sta, sdc, ⟨cta, xta, yta⟩, ⟨cdc, xdc, ydc⟩⟩ := id hD
  refine R_aloadN d_jdk_2450_method_9_code_0 rfl rfl ?_
  refine R_getfield d_jdk_2450_method_9_code_1 (hw _ (mem 129 rfl)) Via.refl (mem 0 rfl) (mem 0 rfl) ?_
  refine R_if_eq (pc' := 13) d_jdk_2450_method_9_code_4 (by decide) (by decide) (fun h => ?_) (fun h => ?_)
  · refine R_getstatic d_jdk_2450_method_9_code_13 (hw _ (mem 131 rfl)) Via.refl sta ?_
    refine R_astore d_jdk_2450_method_9_code_16 rfl rfl (by first | exact Or.inl rfl | exact Or.inr ⟨_, rfl, rfl⟩) ?_
    try dsimp only [List.set_cons_zero, List.set_cons_succ, List.eraseIdx_cons_zero, List.eraseIdx_cons_succ, List.cons_append, List.nil_append, Option.toList]
    refine R_iconst (0) d_jdk_2450_method_9_code_18 (by decide) ?_
    refine R_istore d_jdk_2450_method_9_code_19 rfl (by first | exact Or.inl rfl | exact Or.inr ⟨_, rfl, rfl⟩) ?_
    try dsimp only [List.set_cons_zero, List.set_cons_succ, List.eraseIdx_cons_zero, List.eraseIdx_cons_succ, List.cons_append, List.nil_append, Option.toList]
    refine R_iconst (0) d_jdk_2450_method_9_code_21 (by decide) ?_
    refine R_istore d_jdk_2450_method_9_code_22 rfl (by first | exact Or.inl rfl | exact Or.inr ⟨_, rfl, rfl⟩) ?_
    try dsimp only [List.set_cons_zero, List.set_cons_succ, List.eraseIdx_cons_zero, List.eraseIdx_cons_succ, List.cons_append, List.nil_append, Option.toList]
    refine R_bipush (18) d_jdk_2450_method_9_code_24 (by decide) ?_
    refine R_istore d_jdk_2450_method_9_code_26 rfl (by first | exact Or.inl rfl | exact Or.inr ⟨_, rfl, rfl⟩) ?_
    try dsimp only [List.set_cons_zero, List.set_cons_succ, List.eraseIdx_cons_zero, List.eraseIdx_cons_succ, List.cons_append, List.nil_append, Option.toList]
    refine R_iloadN d_jdk_2450_method_9_code_28 rfl ?_
    refine R_iloadN d_jdk_2450_method_9_code_29 rfl ?_
    rw [h0]
    refine R_icmp_ge (pc' := 281) d_jdk_2450_method_9_code_30 (by decide) (by decide) (fun g => ?_) (fun g => ?_)
    · refine R_iload d_jdk_2450_method_9_code_281 rfl ?_
      refine R_bipush (6) d_jdk_2450_method_9_code_283 (by decide) ?_
      refine R_icmp_ne (pc' := 305) d_jdk_2450_method_9_code_285 (by decide) (by decide) (fun a1 => ?_) (fun a1 => ?_)
      · refine R_iload d_jdk_2450_method_9_code_305 rfl ?_
        refine R_if_ne (pc' := 341) d_jdk_2450_method_9_code_307 (by decide) (by decide) (fun a2 => ?_) (fun a2 => ?_)
        · refine R_iload d_jdk_2450_method_9_code_341 rfl ?_
          refine R_bipush (12) d_jdk_2450_method_9_code_343 (by decide) ?_
          refine R_icmp_ne (pc' := 358) d_jdk_2450_method_9_code_345 (by decide) (by decide) (fun a3 => ?_) (fun a3 => ?_)
          · refine R_iloadN d_jdk_2450_method_9_code_358 rfl ?_
            refine R_iloadN d_jdk_2450_method_9_code_359 rfl ?_
            refine R_icmp_ge (pc' := 416) d_jdk_2450_method_9_code_360 (by decide) (by decide) (fun a4 => ?_) (fun a4 => ?_)
            · refine R_iload d_jdk_2450_method_9_code_416 rfl ?_
              exact R_ireturn d_jdk_2450_method_9_code_418 rfl ⟨by subst hcnt; rfl, by subst hY'; rfl⟩ (Nat.le_of_ble_eq_true rfl) (Nat.le_of_ble_eq_true rfl)
            · exact absurd a4 (by decide)
          · exact absurd a3 (by decide)
        · exact absurd a2 (by decide)
      · exact absurd a1 (by decide)
    · exact absurd g (by decide)
  · exact absurd rfl h

set_option maxRecDepth 65536 in
set_option maxHeartbeats 4000000 in
theorem M_d0A {Γ : Gx} (hw : Words Γ) (ta dc : Addr) (hD : D64 Γ ta dc) (sr rb : Addr) (bs : Bool) (ss : List Int32) (cnt : Nat) (Y' : List Value) (h0 : ss.length = 4) (Y : List Value) (hY : Y.length = 3072) (j1 j2 j3 j4 : Nat) (k1 : j1 < 128) (k2 : j2 < 128) (k3 : j3 < 128) (k4 : j4 < 128) (e1 : ss[0 + 0]? = some j1.toInt32) (e2 : ss[0 + 1]? = some j2.toInt32) (e3 : ss[0 + 2]? = some j3.toInt32) (e4 : ss[0 + 3]? = some j4.toInt32) (v1 v2 v3 v4 : Int32) (t1 : tab64[j1]? = some v1) (z1 : V6 v1) (t2 : tab64[j2]? = some v2) (z2 : V6 v2) (t3 : tab64[j3]? = some v3) (z3 : V6 v3) (t4 : tab64[j4]? = some v4) (z4 : V6 v4) (hcnt : cnt = 0 + 3) (hY' : Y' = (((Y.set (0 + 0) (.int (y0 v1 v2))).set (0 + 1) (.int (y1 v2 v3))).set (0 + 2) (.int (y2 v3 v4)))) :
    Met Γ (⟨"java/util/Base64$Decoder", "decode0", "([BII[B)I"⟩ : MethodName) jdk_2450_method_9_code 11 (some .int) ({ frames := 1, cells := 0, slots := 0, locals := 27 } : Room) #[(.ref dc), (.ref sr), (.int 0), (.int ss.length.toInt32), (.ref rb)] [(dc, false, DCO Γ), (sr, bs, BA Γ (ss.map Value.int)), (rb, true, BA Γ Y), (ta, false, Ary Γ "" .int (tab64.map Value.int))] (fun v O' => v = some (.int cnt.toInt32) ∧ O' = [(dc, false, DCO Γ), (sr, bs, BA Γ (ss.map Value.int)), (rb, true, BA Γ Y'), (ta, false, Ary Γ "" .int (tab64.map Value.int))]) := by
  refine Met.intro pn_java_util_Base64_Decoder (Ls := [.val (.ref dc), .val (.ref sr), .val (.int 0), .val (.int ss.length.toInt32), .val (.ref rb), .unset, .unset, .unset, .unset, .unset, .unset]) (fun m => by first | rfl | (simp [entryFrame, mkF, argsToLocals, Value.category]; done)) ?_
  intro F
  obtain ⟨sta, sdc, ⟨cta, xta, yta⟩, ⟨cdc, xdc, ydc⟩⟩ := id hD
  refine R_aloadN d_jdk_2450_method_9_code_0 rfl rfl ?_
  refine R_getfield d_jdk_2450_method_9_code_1 (hw _ (mem 129 rfl)) Via.refl (mem 0 rfl) (mem 0 rfl) ?_
  refine R_if_eq (pc' := 13) d_jdk_2450_method_9_code_4 (by decide) (by decide) (fun h => ?_) (fun h => ?_)
  · refine R_getstatic d_jdk_2450_method_9_code_13 (hw _ (mem 131 rfl)) Via.refl sta ?_
    refine R_astore d_jdk_2450_method_9_code_16 rfl rfl (by first | exact Or.inl rfl | exact Or.inr ⟨_, rfl, rfl⟩) ?_
    try dsimp only [List.set_cons_zero, List.set_cons_succ, List.eraseIdx_cons_zero, List.eraseIdx_cons_succ, List.cons_append, List.nil_append, Option.toList]
    refine R_iconst (0) d_jdk_2450_method_9_code_18 (by decide) ?_
    refine R_istore d_jdk_2450_method_9_code_19 rfl (by first | exact Or.inl rfl | exact Or.inr ⟨_, rfl, rfl⟩) ?_
    try dsimp only [List.set_cons_zero, List.set_cons_succ, List.eraseIdx_cons_zero, List.eraseIdx_cons_succ, List.cons_append, List.nil_append, Option.toList]
    refine R_iconst (0) d_jdk_2450_method_9_code_21 (by decide) ?_
    refine R_istore d_jdk_2450_method_9_code_22 rfl (by first | exact Or.inl rfl | exact Or.inr ⟨_, rfl, rfl⟩) ?_
    try dsimp only [List.set_cons_zero, List.set_cons_succ, List.eraseIdx_cons_zero, List.eraseIdx_cons_succ, List.cons_append, List.nil_append, Option.toList]
    refine R_bipush (18) d_jdk_2450_method_9_code_24 (by decide) ?_
    refine R_istore d_jdk_2450_method_9_code_26 rfl (by first | exact Or.inl rfl | exact Or.inr ⟨_, rfl, rfl⟩) ?_
    try dsimp only [List.set_cons_zero, List.set_cons_succ, List.eraseIdx_cons_zero, List.eraseIdx_cons_succ, List.cons_append, List.nil_append, Option.toList]
    refine R_iloadN d_jdk_2450_method_9_code_28 rfl ?_
    refine R_iloadN d_jdk_2450_method_9_code_29 rfl ?_
    rw [h0]
    refine R_icmp_ge (pc' := 281) d_jdk_2450_method_9_code_30 (by decide) (by decide) (fun g => ?_) (fun g => ?_)
    · exact absurd (by decide) g
    · refine R_iload d_jdk_2450_method_9_code_33 rfl ?_
      refine R_bipush (18) d_jdk_2450_method_9_code_35 (by decide) ?_
      refine R_icmp_ne (pc' := 90) d_jdk_2450_method_9_code_37 (by decide) (by decide) (fun g1 => ?_) (fun g1 => ?_)
      · exact absurd rfl g1
      · refine R_iloadN d_jdk_2450_method_9_code_40 rfl ?_
        refine R_iloadN d_jdk_2450_method_9_code_41 rfl ?_
        refine R_iconst (4) d_jdk_2450_method_9_code_42 (by decide) ?_
        refine R_isub d_jdk_2450_method_9_code_43 ?_
        refine R_icmp_ge (pc' := 90) d_jdk_2450_method_9_code_44 (by decide) (by decide) (fun g2 => ?_) (fun g2 => ?_)
        · exact L_qA hw ta dc sr rb bs ss cnt Y' 0 0 (by decide) (by decide) Y hY j1 j2 j3 j4 k1 k2 k3 k4 e1 e2 e3 e4 v1 v2 v3 v4 t1 z1 t2 z2 t3 z3 t4 z4 hcnt hY' _ _ (Or.inl rfl) F
        · exact absurd g2 (by decide)
  · exact absurd rfl h

set_option maxRecDepth 65536 in
set_option maxHeartbeats 4000000 in
theorem M_d0B {Γ : Gx} (hw : Words Γ) (ta dc : Addr) (hD : D64 Γ ta dc) (sr rb : Addr) (bs : Bool) (ss : List Int32) (cnt : Nat) (Y' : List Value) (h0 : ss.length = 4) (Y : List Value) (hY : Y.length = 3072) (j1 j2 j3 j4 : Nat) (k1 : j1 < 128) (k2 : j2 < 128) (k3 : j3 < 128) (k4 : j4 < 128) (e1 : ss[0 + 0]? = some j1.toInt32) (e2 : ss[0 + 1]? = some j2.toInt32) (e3 : ss[0 + 2]? = some j3.toInt32) (e4 : ss[0 + 3]? = some j4.toInt32) (v1 v2 v3 v4 : Int32) (t1 : tab64[j1]? = some v1) (z1 : V6 v1) (t2 : tab64[j2]? = some v2) (z2 : V6 v2) (t3 : tab64[j3]? = some v3) (z3 : V6 v3) (j4e : j4 = 61) (t4 : tab64[j4]? = some (-2)) (hcnt : cnt = 0 + 2) (hY' : Y' = ((Y.set (0 + 0) (.int (y0 v1 v2))).set (0 + 1) (.int (y1 v2 v3)))) :
    Met Γ (⟨"java/util/Base64$Decoder", "decode0", "([BII[B)I"⟩ : MethodName) jdk_2450_method_9_code 11 (some .int) ({ frames := 1, cells := 0, slots := 0, locals := 27 } : Room) #[(.ref dc), (.ref sr), (.int 0), (.int ss.length.toInt32), (.ref rb)] [(dc, false, DCO Γ), (sr, bs, BA Γ (ss.map Value.int)), (rb, true, BA Γ Y), (ta, false, Ary Γ "" .int (tab64.map Value.int))] (fun v O' => v = some (.int cnt.toInt32) ∧ O' = [(dc, false, DCO Γ), (sr, bs, BA Γ (ss.map Value.int)), (rb, true, BA Γ Y'), (ta, false, Ary Γ "" .int (tab64.map Value.int))]) := by
  refine Met.intro pn_java_util_Base64_Decoder (Ls := [.val (.ref dc), .val (.ref sr), .val (.int 0), .val (.int ss.length.toInt32), .val (.ref rb), .unset, .unset, .unset, .unset, .unset, .unset]) (fun m => by first | rfl | (simp [entryFrame, mkF, argsToLocals, Value.category]; done)) ?_
  intro F
  obtain ⟨sta, sdc, ⟨cta, xta, yta⟩, ⟨cdc, xdc, ydc⟩⟩ := id hD
  refine R_aloadN d_jdk_2450_method_9_code_0 rfl rfl ?_
  refine R_getfield d_jdk_2450_method_9_code_1 (hw _ (mem 129 rfl)) Via.refl (mem 0 rfl) (mem 0 rfl) ?_
  refine R_if_eq (pc' := 13) d_jdk_2450_method_9_code_4 (by decide) (by decide) (fun h => ?_) (fun h => ?_)
  · refine R_getstatic d_jdk_2450_method_9_code_13 (hw _ (mem 131 rfl)) Via.refl sta ?_
    refine R_astore d_jdk_2450_method_9_code_16 rfl rfl (by first | exact Or.inl rfl | exact Or.inr ⟨_, rfl, rfl⟩) ?_
    try dsimp only [List.set_cons_zero, List.set_cons_succ, List.eraseIdx_cons_zero, List.eraseIdx_cons_succ, List.cons_append, List.nil_append, Option.toList]
    refine R_iconst (0) d_jdk_2450_method_9_code_18 (by decide) ?_
    refine R_istore d_jdk_2450_method_9_code_19 rfl (by first | exact Or.inl rfl | exact Or.inr ⟨_, rfl, rfl⟩) ?_
    try dsimp only [List.set_cons_zero, List.set_cons_succ, List.eraseIdx_cons_zero, List.eraseIdx_cons_succ, List.cons_append, List.nil_append, Option.toList]
    refine R_iconst (0) d_jdk_2450_method_9_code_21 (by decide) ?_
    refine R_istore d_jdk_2450_method_9_code_22 rfl (by first | exact Or.inl rfl | exact Or.inr ⟨_, rfl, rfl⟩) ?_
    try dsimp only [List.set_cons_zero, List.set_cons_succ, List.eraseIdx_cons_zero, List.eraseIdx_cons_succ, List.cons_append, List.nil_append, Option.toList]
    refine R_bipush (18) d_jdk_2450_method_9_code_24 (by decide) ?_
    refine R_istore d_jdk_2450_method_9_code_26 rfl (by first | exact Or.inl rfl | exact Or.inr ⟨_, rfl, rfl⟩) ?_
    try dsimp only [List.set_cons_zero, List.set_cons_succ, List.eraseIdx_cons_zero, List.eraseIdx_cons_succ, List.cons_append, List.nil_append, Option.toList]
    refine R_iloadN d_jdk_2450_method_9_code_28 rfl ?_
    refine R_iloadN d_jdk_2450_method_9_code_29 rfl ?_
    rw [h0]
    refine R_icmp_ge (pc' := 281) d_jdk_2450_method_9_code_30 (by decide) (by decide) (fun g => ?_) (fun g => ?_)
    · exact absurd (by decide) g
    · refine R_iload d_jdk_2450_method_9_code_33 rfl ?_
      refine R_bipush (18) d_jdk_2450_method_9_code_35 (by decide) ?_
      refine R_icmp_ne (pc' := 90) d_jdk_2450_method_9_code_37 (by decide) (by decide) (fun g1 => ?_) (fun g1 => ?_)
      · exact absurd rfl g1
      · refine R_iloadN d_jdk_2450_method_9_code_40 rfl ?_
        refine R_iloadN d_jdk_2450_method_9_code_41 rfl ?_
        refine R_iconst (4) d_jdk_2450_method_9_code_42 (by decide) ?_
        refine R_isub d_jdk_2450_method_9_code_43 ?_
        refine R_icmp_ge (pc' := 90) d_jdk_2450_method_9_code_44 (by decide) (by decide) (fun g2 => ?_) (fun g2 => ?_)
        · exact L_qB hw ta dc sr rb bs ss cnt Y' 0 0 (by decide) (by decide) Y hY j1 j2 j3 j4 k1 k2 k3 k4 e1 e2 e3 e4 v1 v2 v3 v4 t1 z1 t2 z2 t3 z3 j4e t4 hcnt hY' _ _ (Or.inl rfl) F
        · exact absurd g2 (by decide)
  · exact absurd rfl h

set_option maxRecDepth 65536 in
set_option maxHeartbeats 4000000 in
theorem M_d0C {Γ : Gx} (hw : Words Γ) (ta dc : Addr) (hD : D64 Γ ta dc) (sr rb : Addr) (bs : Bool) (ss : List Int32) (cnt : Nat) (Y' : List Value) (h0 : ss.length = 4) (Y : List Value) (hY : Y.length = 3072) (j1 j2 j3 j4 : Nat) (k1 : j1 < 128) (k2 : j2 < 128) (k3 : j3 < 128) (k4 : j4 < 128) (e1 : ss[0 + 0]? = some j1.toInt32) (e2 : ss[0 + 1]? = some j2.toInt32) (e3 : ss[0 + 2]? = some j3.toInt32) (e4 : ss[0 + 3]? = some j4.toInt32) (v1 v2 v3 v4 : Int32) (t1 : tab64[j1]? = some v1) (z1 : V6 v1) (t2 : tab64[j2]? = some v2) (z2 : V6 v2) (j3e : j3 = 61) (j4e : j4 = 61) (t3 : tab64[j3]? = some (-2)) (hcnt : cnt = 0 + 1) (hY' : Y' = (Y.set (0 + 0) (.int (y0 v1 v2)))) :
    Met Γ (⟨"java/util/Base64$Decoder", "decode0", "([BII[B)I"⟩ : MethodName) jdk_2450_method_9_code 11 (some .int) ({ frames := 1, cells := 0, slots := 0, locals := 27 } : Room) #[(.ref dc), (.ref sr), (.int 0), (.int ss.length.toInt32), (.ref rb)] [(dc, false, DCO Γ), (sr, bs, BA Γ (ss.map Value.int)), (rb, true, BA Γ Y), (ta, false, Ary Γ "" .int (tab64.map Value.int))] (fun v O' => v = some (.int cnt.toInt32) ∧ O' = [(dc, false, DCO Γ), (sr, bs, BA Γ (ss.map Value.int)), (rb, true, BA Γ Y'), (ta, false, Ary Γ "" .int (tab64.map Value.int))]) := by
  refine Met.intro pn_java_util_Base64_Decoder (Ls := [.val (.ref dc), .val (.ref sr), .val (.int 0), .val (.int ss.length.toInt32), .val (.ref rb), .unset, .unset, .unset, .unset, .unset, .unset]) (fun m => by first | rfl | (simp [entryFrame, mkF, argsToLocals, Value.category]; done)) ?_
  intro F
  obtain ⟨sta, sdc, ⟨cta, xta, yta⟩, ⟨cdc, xdc, ydc⟩⟩ := id hD
  refine R_aloadN d_jdk_2450_method_9_code_0 rfl rfl ?_
  refine R_getfield d_jdk_2450_method_9_code_1 (hw _ (mem 129 rfl)) Via.refl (mem 0 rfl) (mem 0 rfl) ?_
  refine R_if_eq (pc' := 13) d_jdk_2450_method_9_code_4 (by decide) (by decide) (fun h => ?_) (fun h => ?_)
  · refine R_getstatic d_jdk_2450_method_9_code_13 (hw _ (mem 131 rfl)) Via.refl sta ?_
    refine R_astore d_jdk_2450_method_9_code_16 rfl rfl (by first | exact Or.inl rfl | exact Or.inr ⟨_, rfl, rfl⟩) ?_
    try dsimp only [List.set_cons_zero, List.set_cons_succ, List.eraseIdx_cons_zero, List.eraseIdx_cons_succ, List.cons_append, List.nil_append, Option.toList]
    refine R_iconst (0) d_jdk_2450_method_9_code_18 (by decide) ?_
    refine R_istore d_jdk_2450_method_9_code_19 rfl (by first | exact Or.inl rfl | exact Or.inr ⟨_, rfl, rfl⟩) ?_
    try dsimp only [List.set_cons_zero, List.set_cons_succ, List.eraseIdx_cons_zero, List.eraseIdx_cons_succ, List.cons_append, List.nil_append, Option.toList]
    refine R_iconst (0) d_jdk_2450_method_9_code_21 (by decide) ?_
    refine R_istore d_jdk_2450_method_9_code_22 rfl (by first | exact Or.inl rfl | exact Or.inr ⟨_, rfl, rfl⟩) ?_
    try dsimp only [List.set_cons_zero, List.set_cons_succ, List.eraseIdx_cons_zero, List.eraseIdx_cons_succ, List.cons_append, List.nil_append, Option.toList]
    refine R_bipush (18) d_jdk_2450_method_9_code_24 (by decide) ?_
    refine R_istore d_jdk_2450_method_9_code_26 rfl (by first | exact Or.inl rfl | exact Or.inr ⟨_, rfl, rfl⟩) ?_
    try dsimp only [List.set_cons_zero, List.set_cons_succ, List.eraseIdx_cons_zero, List.eraseIdx_cons_succ, List.cons_append, List.nil_append, Option.toList]
    refine R_iloadN d_jdk_2450_method_9_code_28 rfl ?_
    refine R_iloadN d_jdk_2450_method_9_code_29 rfl ?_
    rw [h0]
    refine R_icmp_ge (pc' := 281) d_jdk_2450_method_9_code_30 (by decide) (by decide) (fun g => ?_) (fun g => ?_)
    · exact absurd (by decide) g
    · refine R_iload d_jdk_2450_method_9_code_33 rfl ?_
      refine R_bipush (18) d_jdk_2450_method_9_code_35 (by decide) ?_
      refine R_icmp_ne (pc' := 90) d_jdk_2450_method_9_code_37 (by decide) (by decide) (fun g1 => ?_) (fun g1 => ?_)
      · exact absurd rfl g1
      · refine R_iloadN d_jdk_2450_method_9_code_40 rfl ?_
        refine R_iloadN d_jdk_2450_method_9_code_41 rfl ?_
        refine R_iconst (4) d_jdk_2450_method_9_code_42 (by decide) ?_
        refine R_isub d_jdk_2450_method_9_code_43 ?_
        refine R_icmp_ge (pc' := 90) d_jdk_2450_method_9_code_44 (by decide) (by decide) (fun g2 => ?_) (fun g2 => ?_)
        · exact L_qC hw ta dc sr rb bs ss cnt Y' 0 0 (by decide) (by decide) Y hY j1 j2 j3 j4 k1 k2 k3 k4 e1 e2 e3 e4 v1 v2 v3 v4 t1 z1 t2 z2 j3e j4e t3 hcnt hY' _ _ (Or.inl rfl) F
        · exact absurd g2 (by decide)
  · exact absurd rfl h

set_option maxRecDepth 65536 in
set_option maxHeartbeats 4000000 in
theorem M_d0D {Γ : Gx} (hw : Words Γ) (ta dc : Addr) (hD : D64 Γ ta dc) (sr rb : Addr) (bs : Bool) (ss : List Int32) (cnt : Nat) (Y' : List Value) (h0 : ss.length = 8) (Y : List Value) (hY : Y.length = 3072) (i1 i2 i3 i4 : Nat) (m1 : i1 < 128) (m2 : i2 < 128) (m3 : i3 < 128) (m4 : i4 < 128) (f1 : ss[0]? = some i1.toInt32) (f2 : ss[1]? = some i2.toInt32) (f3 : ss[2]? = some i3.toInt32) (f4 : ss[3]? = some i4.toInt32) (u1 u2 u3 u4 : Int32) (q1 : tab64[i1]? = some u1) (x1 : V6 u1) (q2 : tab64[i2]? = some u2) (x2 : V6 u2) (q3 : tab64[i3]? = some u3) (x3 : V6 u3) (q4 : tab64[i4]? = some u4) (x4 : V6 u4) (j1 j2 j3 j4 : Nat) (k1 : j1 < 128) (k2 : j2 < 128) (k3 : j3 < 128) (k4 : j4 < 128) (e1 : ss[4 + 0]? = some j1.toInt32) (e2 : ss[4 + 1]? = some j2.toInt32) (e3 : ss[4 + 2]? = some j3.toInt32) (e4 : ss[4 + 3]? = some j4.toInt32) (v1 v2 v3 v4 : Int32) (t1 : tab64[j1]? = some v1) (z1 : V6 v1) (t2 : tab64[j2]? = some v2) (z2 : V6 v2) (t3 : tab64[j3]? = some v3) (z3 : V6 v3) (t4 : tab64[j4]? = some v4) (z4 : V6 v4) (hcnt : cnt = 3 + 3) (hY' : Y' = ((((((Y.set 0 (.int (y0 u1 u2))).set 1 (.int (y1 u2 u3))).set 2 (.int (y2 u3 u4))).set (3 + 0) (.int (y0 v1 v2))).set (3 + 1) (.int (y1 v2 v3))).set (3 + 2) (.int (y2 v3 v4)))) :
    Met Γ (⟨"java/util/Base64$Decoder", "decode0", "([BII[B)I"⟩ : MethodName) jdk_2450_method_9_code 11 (some .int) ({ frames := 1, cells := 0, slots := 0, locals := 27 } : Room) #[(.ref dc), (.ref sr), (.int 0), (.int ss.length.toInt32), (.ref rb)] [(dc, false, DCO Γ), (sr, bs, BA Γ (ss.map Value.int)), (rb, true, BA Γ Y), (ta, false, Ary Γ "" .int (tab64.map Value.int))] (fun v O' => v = some (.int cnt.toInt32) ∧ O' = [(dc, false, DCO Γ), (sr, bs, BA Γ (ss.map Value.int)), (rb, true, BA Γ Y'), (ta, false, Ary Γ "" .int (tab64.map Value.int))]) := by
  refine Met.intro pn_java_util_Base64_Decoder (Ls := [.val (.ref dc), .val (.ref sr), .val (.int 0), .val (.int ss.length.toInt32), .val (.ref rb), .unset, .unset, .unset, .unset, .unset, .unset]) (fun m => by first | rfl | (simp [entryFrame, mkF, argsToLocals, Value.category]; done)) ?_
  intro F
  obtain ⟨sta, sdc, ⟨cta, xta, yta⟩, ⟨cdc, xdc, ydc⟩⟩ := id hD
  refine R_aloadN d_jdk_2450_method_9_code_0 rfl rfl ?_
  refine R_getfield d_jdk_2450_method_9_code_1 (hw _ (mem 129 rfl)) Via.refl (mem 0 rfl) (mem 0 rfl) ?_
  refine R_if_eq (pc' := 13) d_jdk_2450_method_9_code_4 (by decide) (by decide) (fun h => ?_) (fun h => ?_)
  · refine R_getstatic d_jdk_2450_method_9_code_13 (hw _ (mem 131 rfl)) Via.refl sta ?_
    refine R_astore d_jdk_2450_method_9_code_16 rfl rfl (by first | exact Or.inl rfl | exact Or.inr ⟨_, rfl, rfl⟩) ?_
    try dsimp only [List.set_cons_zero, List.set_cons_succ, List.eraseIdx_cons_zero, List.eraseIdx_cons_succ, List.cons_append, List.nil_append, Option.toList]
    refine R_iconst (0) d_jdk_2450_method_9_code_18 (by decide) ?_
    refine R_istore d_jdk_2450_method_9_code_19 rfl (by first | exact Or.inl rfl | exact Or.inr ⟨_, rfl, rfl⟩) ?_
    try dsimp only [List.set_cons_zero, List.set_cons_succ, List.eraseIdx_cons_zero, List.eraseIdx_cons_succ, List.cons_append, List.nil_append, Option.toList]
    refine R_iconst (0) d_jdk_2450_method_9_code_21 (by decide) ?_
    refine R_istore d_jdk_2450_method_9_code_22 rfl (by first | exact Or.inl rfl | exact Or.inr ⟨_, rfl, rfl⟩) ?_
    try dsimp only [List.set_cons_zero, List.set_cons_succ, List.eraseIdx_cons_zero, List.eraseIdx_cons_succ, List.cons_append, List.nil_append, Option.toList]
    refine R_bipush (18) d_jdk_2450_method_9_code_24 (by decide) ?_
    refine R_istore d_jdk_2450_method_9_code_26 rfl (by first | exact Or.inl rfl | exact Or.inr ⟨_, rfl, rfl⟩) ?_
    try dsimp only [List.set_cons_zero, List.set_cons_succ, List.eraseIdx_cons_zero, List.eraseIdx_cons_succ, List.cons_append, List.nil_append, Option.toList]
    refine R_iloadN d_jdk_2450_method_9_code_28 rfl ?_
    refine R_iloadN d_jdk_2450_method_9_code_29 rfl ?_
    rw [h0]
    refine R_icmp_ge (pc' := 281) d_jdk_2450_method_9_code_30 (by decide) (by decide) (fun g => ?_) (fun g => ?_)
    · exact absurd (by decide) g
    · refine R_iload d_jdk_2450_method_9_code_33 rfl ?_
      refine R_bipush (18) d_jdk_2450_method_9_code_35 (by decide) ?_
      refine R_icmp_ne (pc' := 90) d_jdk_2450_method_9_code_37 (by decide) (by decide) (fun g1 => ?_) (fun g1 => ?_)
      · exact absurd rfl g1
      · refine R_iloadN d_jdk_2450_method_9_code_40 rfl ?_
        refine R_iloadN d_jdk_2450_method_9_code_41 rfl ?_
        refine R_iconst (4) d_jdk_2450_method_9_code_42 (by decide) ?_
        refine R_isub d_jdk_2450_method_9_code_43 ?_
        refine R_icmp_ge (pc' := 90) d_jdk_2450_method_9_code_44 (by decide) (by decide) (fun g2 => ?_) (fun g2 => ?_)
        · exact absurd (by decide) g2
        · refine R_aloadN d_jdk_2450_method_9_code_47 rfl rfl ?_
          refine R_aloadN d_jdk_2450_method_9_code_48 rfl rfl ?_
          refine R_iloadN d_jdk_2450_method_9_code_49 rfl ?_
          refine R_iloadN d_jdk_2450_method_9_code_50 rfl ?_
          refine R_aload d_jdk_2450_method_9_code_51 rfl rfl ?_
          refine R_iload d_jdk_2450_method_9_code_53 rfl ?_
          refine R_aloadN d_jdk_2450_method_9_code_55 rfl rfl ?_
          refine R_getfield d_jdk_2450_method_9_code_56 (hw _ (mem 129 rfl)) Via.refl (mem 0 rfl) (mem 0 rfl) ?_
          refine R_aloadN d_jdk_2450_method_9_code_59 rfl rfl ?_
          refine R_getfield d_jdk_2450_method_9_code_60 (hw _ (mem 132 rfl)) Via.refl (mem 0 rfl) (mem 1 rfl) ?_
          refine R_call (S_private (as := [_, _, _, _, _, _, _]) (rest := _) (mem 0 rfl) obj_ns d_jdk_2450_method_9_code_63 (hw _ (mem 163 rfl)) (hw _ (mem 164 rfl)) (hw _ (mem 165 rfl)) (hw _ (mem 167 rfl)) (nf_tgt (hw _ (mem 121 rfl)) rfl) (by decide) pd_oaBIIaBIZZcI rfl rfl rfl) (M_db6 hw ta dc hD sr rb bs ss h0 Y hY i1 i2 i3 i4 m1 m2 m3 m4 f1 f2 f3 f4 u1 u2 u3 u4 q1 x1 q2 x2 q3 x3 q4 x4 j1 j2 j3 j4 k1 k2 k3 k4 e1 e2 e3 e4 v1 v2 v3 v4 t1 z1 t2 z2 t3 z3 t4 z4) (pkS 0 rfl (pkS 0 rfl (pkS 0 rfl (pkS 0 rfl pk0)))) (hw _ (mem 167 rfl)) (hw _ (mem 122 rfl)) (Nat.le_of_ble_eq_true rfl) (Nat.le_of_ble_eq_true rfl) (Nat.le_of_ble_eq_true rfl) (Nat.le_of_ble_eq_true rfl) ?_
          rintro _ _ ⟨rfl, rfl⟩
          try dsimp only [List.set_cons_zero, List.set_cons_succ, List.eraseIdx_cons_zero, List.eraseIdx_cons_succ, List.cons_append, List.nil_append, Option.toList]
          refine R_istore d_jdk_2450_method_9_code_66 rfl (by first | exact Or.inl rfl | exact Or.inr ⟨_, rfl, rfl⟩) ?_
          try dsimp only [List.set_cons_zero, List.set_cons_succ, List.eraseIdx_cons_zero, List.eraseIdx_cons_succ, List.cons_append, List.nil_append, Option.toList]
          refine R_iload d_jdk_2450_method_9_code_68 rfl ?_
          refine R_iconst (2) d_jdk_2450_method_9_code_70 (by decide) ?_
          refine R_iadd d_jdk_2450_method_9_code_71 ?_
          refine R_iconst (3) d_jdk_2450_method_9_code_72 (by decide) ?_
          refine R_idiv d_jdk_2450_method_9_code_73 (by decide) ?_
          refine R_iconst (4) d_jdk_2450_method_9_code_74 (by decide) ?_
          refine R_imul d_jdk_2450_method_9_code_75 ?_
          refine R_istore d_jdk_2450_method_9_code_76 rfl (by first | exact Or.inl rfl | exact Or.inr ⟨_, rfl, rfl⟩) ?_
          try dsimp only [List.set_cons_zero, List.set_cons_succ, List.eraseIdx_cons_zero, List.eraseIdx_cons_succ, List.cons_append, List.nil_append, Option.toList]
          refine R_iloadN d_jdk_2450_method_9_code_78 rfl ?_
          refine R_iload d_jdk_2450_method_9_code_79 rfl ?_
          refine R_iadd d_jdk_2450_method_9_code_81 ?_
          refine R_istoreN d_jdk_2450_method_9_code_82 rfl (by first | exact Or.inl rfl | exact Or.inr ⟨_, rfl, rfl⟩) ?_
          try dsimp only [List.set_cons_zero, List.set_cons_succ, List.eraseIdx_cons_zero, List.eraseIdx_cons_succ, List.cons_append, List.nil_append, Option.toList]
          refine R_iload d_jdk_2450_method_9_code_83 rfl ?_
          refine R_iload d_jdk_2450_method_9_code_85 rfl ?_
          refine R_iadd d_jdk_2450_method_9_code_87 ?_
          refine R_istore d_jdk_2450_method_9_code_88 rfl (by first | exact Or.inl rfl | exact Or.inr ⟨_, rfl, rfl⟩) ?_
          try dsimp only [List.set_cons_zero, List.set_cons_succ, List.eraseIdx_cons_zero, List.eraseIdx_cons_succ, List.cons_append, List.nil_append, Option.toList]
          refine R_iloadN d_jdk_2450_method_9_code_90 rfl ?_
          refine R_iloadN d_jdk_2450_method_9_code_91 rfl ?_
          refine R_icmp_lt (pc' := 98) d_jdk_2450_method_9_code_92 (by decide) (by decide) (fun b1 => ?_) (fun b1 => ?_)
          · exact absurd b1 (by decide)
          · refine R_goto (pc' := 281) d_jdk_2450_method_9_code_95 (by decide) (by decide) ?_
            refine R_iload d_jdk_2450_method_9_code_281 rfl ?_
            refine R_bipush (6) d_jdk_2450_method_9_code_283 (by decide) ?_
            refine R_icmp_ne (pc' := 305) d_jdk_2450_method_9_code_285 (by decide) (by decide) (fun a1 => ?_) (fun a1 => ?_)
            · refine R_iload d_jdk_2450_method_9_code_305 rfl ?_
              refine R_if_ne (pc' := 341) d_jdk_2450_method_9_code_307 (by decide) (by decide) (fun a2 => ?_) (fun a2 => ?_)
              · refine R_iload d_jdk_2450_method_9_code_341 rfl ?_
                refine R_bipush (12) d_jdk_2450_method_9_code_343 (by decide) ?_
                refine R_icmp_ne (pc' := 358) d_jdk_2450_method_9_code_345 (by decide) (by decide) (fun a3 => ?_) (fun a3 => ?_)
                · refine R_iloadN d_jdk_2450_method_9_code_358 rfl ?_
                  refine R_iloadN d_jdk_2450_method_9_code_359 rfl ?_
                  refine R_icmp_ge (pc' := 416) d_jdk_2450_method_9_code_360 (by decide) (by decide) (fun a4 => ?_) (fun a4 => ?_)
                  · refine R_iload d_jdk_2450_method_9_code_416 rfl ?_
                    exact R_ireturn d_jdk_2450_method_9_code_418 rfl ⟨by subst hcnt; rfl, by subst hY'; rfl⟩ (Nat.le_of_ble_eq_true rfl) (Nat.le_of_ble_eq_true rfl)
                  · exact absurd a4 (by decide)
                · exact absurd a3 (by decide)
              · exact absurd a2 (by decide)
            · exact absurd a1 (by decide)
  · exact absurd rfl h

set_option maxRecDepth 65536 in
set_option maxHeartbeats 4000000 in
theorem M_d0E {Γ : Gx} (hw : Words Γ) (ta dc : Addr) (hD : D64 Γ ta dc) (sr rb : Addr) (bs : Bool) (ss : List Int32) (cnt : Nat) (Y' : List Value) (h0 : ss.length = 8) (Y : List Value) (hY : Y.length = 3072) (i1 i2 i3 i4 : Nat) (m1 : i1 < 128) (m2 : i2 < 128) (m3 : i3 < 128) (m4 : i4 < 128) (f1 : ss[0]? = some i1.toInt32) (f2 : ss[1]? = some i2.toInt32) (f3 : ss[2]? = some i3.toInt32) (f4 : ss[3]? = some i4.toInt32) (u1 u2 u3 u4 : Int32) (q1 : tab64[i1]? = some u1) (x1 : V6 u1) (q2 : tab64[i2]? = some u2) (x2 : V6 u2) (q3 : tab64[i3]? = some u3) (x3 : V6 u3) (q4 : tab64[i4]? = some u4) (x4 : V6 u4) (j1 j2 j3 j4 : Nat) (k1 : j1 < 128) (k2 : j2 < 128) (k3 : j3 < 128) (k4 : j4 < 128) (e1 : ss[4 + 0]? = some j1.toInt32) (e2 : ss[4 + 1]? = some j2.toInt32) (e3 : ss[4 + 2]? = some j3.toInt32) (e4 : ss[4 + 3]? = some j4.toInt32) (v1 v2 v3 v4 : Int32) (t1 : tab64[j1]? = some v1) (z1 : V6 v1) (t2 : tab64[j2]? = some v2) (z2 : V6 v2) (t3 : tab64[j3]? = some v3) (z3 : V6 v3) (j4e : j4 = 61) (t4 : tab64[j4]? = some (-2)) (hcnt : cnt = 3 + 2) (hY' : Y' = (((((Y.set 0 (.int (y0 u1 u2))).set 1 (.int (y1 u2 u3))).set 2 (.int (y2 u3 u4))).set (3 + 0) (.int (y0 v1 v2))).set (3 + 1) (.int (y1 v2 v3)))) :
    Met Γ (⟨"java/util/Base64$Decoder", "decode0", "([BII[B)I"⟩ : MethodName) jdk_2450_method_9_code 11 (some .int) ({ frames := 1, cells := 0, slots := 0, locals := 27 } : Room) #[(.ref dc), (.ref sr), (.int 0), (.int ss.length.toInt32), (.ref rb)] [(dc, false, DCO Γ), (sr, bs, BA Γ (ss.map Value.int)), (rb, true, BA Γ Y), (ta, false, Ary Γ "" .int (tab64.map Value.int))] (fun v O' => v = some (.int cnt.toInt32) ∧ O' = [(dc, false, DCO Γ), (sr, bs, BA Γ (ss.map Value.int)), (rb, true, BA Γ Y'), (ta, false, Ary Γ "" .int (tab64.map Value.int))]) := by
  refine Met.intro pn_java_util_Base64_Decoder (Ls := [.val (.ref dc), .val (.ref sr), .val (.int 0), .val (.int ss.length.toInt32), .val (.ref rb), .unset, .unset, .unset, .unset, .unset, .unset]) (fun m => by first | rfl | (simp [entryFrame, mkF, argsToLocals, Value.category]; done)) ?_
  intro F
  obtain ⟨sta, sdc, ⟨cta, xta, yta⟩, ⟨cdc, xdc, ydc⟩⟩ := id hD
  refine R_aloadN d_jdk_2450_method_9_code_0 rfl rfl ?_
  refine R_getfield d_jdk_2450_method_9_code_1 (hw _ (mem 129 rfl)) Via.refl (mem 0 rfl) (mem 0 rfl) ?_
  refine R_if_eq (pc' := 13) d_jdk_2450_method_9_code_4 (by decide) (by decide) (fun h => ?_) (fun h => ?_)
  · refine R_getstatic d_jdk_2450_method_9_code_13 (hw _ (mem 131 rfl)) Via.refl sta ?_
    refine R_astore d_jdk_2450_method_9_code_16 rfl rfl (by first | exact Or.inl rfl | exact Or.inr ⟨_, rfl, rfl⟩) ?_
    try dsimp only [List.set_cons_zero, List.set_cons_succ, List.eraseIdx_cons_zero, List.eraseIdx_cons_succ, List.cons_append, List.nil_append, Option.toList]
    refine R_iconst (0) d_jdk_2450_method_9_code_18 (by decide) ?_
    refine R_istore d_jdk_2450_method_9_code_19 rfl (by first | exact Or.inl rfl | exact Or.inr ⟨_, rfl, rfl⟩) ?_
    try dsimp only [List.set_cons_zero, List.set_cons_succ, List.eraseIdx_cons_zero, List.eraseIdx_cons_succ, List.cons_append, List.nil_append, Option.toList]
    refine R_iconst (0) d_jdk_2450_method_9_code_21 (by decide) ?_
    refine R_istore d_jdk_2450_method_9_code_22 rfl (by first | exact Or.inl rfl | exact Or.inr ⟨_, rfl, rfl⟩) ?_
    try dsimp only [List.set_cons_zero, List.set_cons_succ, List.eraseIdx_cons_zero, List.eraseIdx_cons_succ, List.cons_append, List.nil_append, Option.toList]
    refine R_bipush (18) d_jdk_2450_method_9_code_24 (by decide) ?_
    refine R_istore d_jdk_2450_method_9_code_26 rfl (by first | exact Or.inl rfl | exact Or.inr ⟨_, rfl, rfl⟩) ?_
    try dsimp only [List.set_cons_zero, List.set_cons_succ, List.eraseIdx_cons_zero, List.eraseIdx_cons_succ, List.cons_append, List.nil_append, Option.toList]
    refine R_iloadN d_jdk_2450_method_9_code_28 rfl ?_
    refine R_iloadN d_jdk_2450_method_9_code_29 rfl ?_
    rw [h0]
    refine R_icmp_ge (pc' := 281) d_jdk_2450_method_9_code_30 (by decide) (by decide) (fun g => ?_) (fun g => ?_)
    · exact absurd (by decide) g
    · refine R_iload d_jdk_2450_method_9_code_33 rfl ?_
      refine R_bipush (18) d_jdk_2450_method_9_code_35 (by decide) ?_
      refine R_icmp_ne (pc' := 90) d_jdk_2450_method_9_code_37 (by decide) (by decide) (fun g1 => ?_) (fun g1 => ?_)
      · exact absurd rfl g1
      · refine R_iloadN d_jdk_2450_method_9_code_40 rfl ?_
        refine R_iloadN d_jdk_2450_method_9_code_41 rfl ?_
        refine R_iconst (4) d_jdk_2450_method_9_code_42 (by decide) ?_
        refine R_isub d_jdk_2450_method_9_code_43 ?_
        refine R_icmp_ge (pc' := 90) d_jdk_2450_method_9_code_44 (by decide) (by decide) (fun g2 => ?_) (fun g2 => ?_)
        · exact absurd (by decide) g2
        · refine R_aloadN d_jdk_2450_method_9_code_47 rfl rfl ?_
          refine R_aloadN d_jdk_2450_method_9_code_48 rfl rfl ?_
          refine R_iloadN d_jdk_2450_method_9_code_49 rfl ?_
          refine R_iloadN d_jdk_2450_method_9_code_50 rfl ?_
          refine R_aload d_jdk_2450_method_9_code_51 rfl rfl ?_
          refine R_iload d_jdk_2450_method_9_code_53 rfl ?_
          refine R_aloadN d_jdk_2450_method_9_code_55 rfl rfl ?_
          refine R_getfield d_jdk_2450_method_9_code_56 (hw _ (mem 129 rfl)) Via.refl (mem 0 rfl) (mem 0 rfl) ?_
          refine R_aloadN d_jdk_2450_method_9_code_59 rfl rfl ?_
          refine R_getfield d_jdk_2450_method_9_code_60 (hw _ (mem 132 rfl)) Via.refl (mem 0 rfl) (mem 1 rfl) ?_
          refine R_call (S_private (as := [_, _, _, _, _, _, _]) (rest := _) (mem 0 rfl) obj_ns d_jdk_2450_method_9_code_63 (hw _ (mem 163 rfl)) (hw _ (mem 164 rfl)) (hw _ (mem 165 rfl)) (hw _ (mem 167 rfl)) (nf_tgt (hw _ (mem 121 rfl)) rfl) (by decide) pd_oaBIIaBIZZcI rfl rfl rfl) (M_db3 hw ta dc hD sr rb bs ss h0 Y hY i1 i2 i3 i4 m1 m2 m3 m4 f1 f2 f3 f4 u1 u2 u3 u4 q1 x1 q2 x2 q3 x3 q4 x4 j1 j2 j3 j4 k1 k2 k3 k4 e1 e2 e3 e4 v1 v2 v3 (-2) t1 t2 t3 t4 (or_neg _)) (pkS 0 rfl (pkS 0 rfl (pkS 0 rfl (pkS 0 rfl pk0)))) (hw _ (mem 167 rfl)) (hw _ (mem 122 rfl)) (Nat.le_of_ble_eq_true rfl) (Nat.le_of_ble_eq_true rfl) (Nat.le_of_ble_eq_true rfl) (Nat.le_of_ble_eq_true rfl) ?_
          rintro _ _ ⟨rfl, rfl⟩
          try dsimp only [List.set_cons_zero, List.set_cons_succ, List.eraseIdx_cons_zero, List.eraseIdx_cons_succ, List.cons_append, List.nil_append, Option.toList]
          refine R_istore d_jdk_2450_method_9_code_66 rfl (by first | exact Or.inl rfl | exact Or.inr ⟨_, rfl, rfl⟩) ?_
          try dsimp only [List.set_cons_zero, List.set_cons_succ, List.eraseIdx_cons_zero, List.eraseIdx_cons_succ, List.cons_append, List.nil_append, Option.toList]
          refine R_iload d_jdk_2450_method_9_code_68 rfl ?_
          refine R_iconst (2) d_jdk_2450_method_9_code_70 (by decide) ?_
          refine R_iadd d_jdk_2450_method_9_code_71 ?_
          refine R_iconst (3) d_jdk_2450_method_9_code_72 (by decide) ?_
          refine R_idiv d_jdk_2450_method_9_code_73 (by decide) ?_
          refine R_iconst (4) d_jdk_2450_method_9_code_74 (by decide) ?_
          refine R_imul d_jdk_2450_method_9_code_75 ?_
          refine R_istore d_jdk_2450_method_9_code_76 rfl (by first | exact Or.inl rfl | exact Or.inr ⟨_, rfl, rfl⟩) ?_
          try dsimp only [List.set_cons_zero, List.set_cons_succ, List.eraseIdx_cons_zero, List.eraseIdx_cons_succ, List.cons_append, List.nil_append, Option.toList]
          refine R_iloadN d_jdk_2450_method_9_code_78 rfl ?_
          refine R_iload d_jdk_2450_method_9_code_79 rfl ?_
          refine R_iadd d_jdk_2450_method_9_code_81 ?_
          refine R_istoreN d_jdk_2450_method_9_code_82 rfl (by first | exact Or.inl rfl | exact Or.inr ⟨_, rfl, rfl⟩) ?_
          try dsimp only [List.set_cons_zero, List.set_cons_succ, List.eraseIdx_cons_zero, List.eraseIdx_cons_succ, List.cons_append, List.nil_append, Option.toList]
          refine R_iload d_jdk_2450_method_9_code_83 rfl ?_
          refine R_iload d_jdk_2450_method_9_code_85 rfl ?_
          refine R_iadd d_jdk_2450_method_9_code_87 ?_
          refine R_istore d_jdk_2450_method_9_code_88 rfl (by first | exact Or.inl rfl | exact Or.inr ⟨_, rfl, rfl⟩) ?_
          try dsimp only [List.set_cons_zero, List.set_cons_succ, List.eraseIdx_cons_zero, List.eraseIdx_cons_succ, List.cons_append, List.nil_append, Option.toList]
          exact L_qB hw ta dc sr rb bs ss cnt Y' 4 3 (by decide) (by decide) _ (by simp only [List.length_set]; exact hY) j1 j2 j3 j4 k1 k2 k3 k4 e1 e2 e3 e4 v1 v2 v3 v4 t1 z1 t2 z2 t3 z3 j4e t4 hcnt hY' _ _ (Or.inr ⟨_, rfl, rfl⟩) F
  · exact absurd rfl h

set_option maxRecDepth 65536 in
set_option maxHeartbeats 4000000 in
theorem M_d0F {Γ : Gx} (hw : Words Γ) (ta dc : Addr) (hD : D64 Γ ta dc) (sr rb : Addr) (bs : Bool) (ss : List Int32) (cnt : Nat) (Y' : List Value) (h0 : ss.length = 8) (Y : List Value) (hY : Y.length = 3072) (i1 i2 i3 i4 : Nat) (m1 : i1 < 128) (m2 : i2 < 128) (m3 : i3 < 128) (m4 : i4 < 128) (f1 : ss[0]? = some i1.toInt32) (f2 : ss[1]? = some i2.toInt32) (f3 : ss[2]? = some i3.toInt32) (f4 : ss[3]? = some i4.toInt32) (u1 u2 u3 u4 : Int32) (q1 : tab64[i1]? = some u1) (x1 : V6 u1) (q2 : tab64[i2]? = some u2) (x2 : V6 u2) (q3 : tab64[i3]? = some u3) (x3 : V6 u3) (q4 : tab64[i4]? = some u4) (x4 : V6 u4) (j1 j2 j3 j4 : Nat) (k1 : j1 < 128) (k2 : j2 < 128) (k3 : j3 < 128) (k4 : j4 < 128) (e1 : ss[4 + 0]? = some j1.toInt32) (e2 : ss[4 + 1]? = some j2.toInt32) (e3 : ss[4 + 2]? = some j3.toInt32) (e4 : ss[4 + 3]? = some j4.toInt32) (v1 v2 v3 v4 : Int32) (t1 : tab64[j1]? = some v1) (z1 : V6 v1) (t2 : tab64[j2]? = some v2) (z2 : V6 v2) (j3e : j3 = 61) (j4e : j4 = 61) (t3 : tab64[j3]? = some (-2)) (hcnt : cnt = 3 + 1) (hY' : Y' = ((((Y.set 0 (.int (y0 u1 u2))).set 1 (.int (y1 u2 u3))).set 2 (.int (y2 u3 u4))).set (3 + 0) (.int (y0 v1 v2)))) :
    Met Γ (⟨"java/util/Base64$Decoder", "decode0", "([BII[B)I"⟩ : MethodName) jdk_2450_method_9_code 11 (some .int) ({ frames := 1, cells := 0, slots := 0, locals := 27 } : Room) #[(.ref dc), (.ref sr), (.int 0), (.int ss.length.toInt32), (.ref rb)] [(dc, false, DCO Γ), (sr, bs, BA Γ (ss.map Value.int)), (rb, true, BA Γ Y), (ta, false, Ary Γ "" .int (tab64.map Value.int))] (fun v O' => v = some (.int cnt.toInt32) ∧ O' = [(dc, false, DCO Γ), (sr, bs, BA Γ (ss.map Value.int)), (rb, true, BA Γ Y'), (ta, false, Ary Γ "" .int (tab64.map Value.int))]) := by
  refine Met.intro pn_java_util_Base64_Decoder (Ls := [.val (.ref dc), .val (.ref sr), .val (.int 0), .val (.int ss.length.toInt32), .val (.ref rb), .unset, .unset, .unset, .unset, .unset, .unset]) (fun m => by first | rfl | (simp [entryFrame, mkF, argsToLocals, Value.category]; done)) ?_
  intro F
  obtain ⟨sta, sdc, ⟨cta, xta, yta⟩, ⟨cdc, xdc, ydc⟩⟩ := id hD
  refine R_aloadN d_jdk_2450_method_9_code_0 rfl rfl ?_
  refine R_getfield d_jdk_2450_method_9_code_1 (hw _ (mem 129 rfl)) Via.refl (mem 0 rfl) (mem 0 rfl) ?_
  refine R_if_eq (pc' := 13) d_jdk_2450_method_9_code_4 (by decide) (by decide) (fun h => ?_) (fun h => ?_)
  · refine R_getstatic d_jdk_2450_method_9_code_13 (hw _ (mem 131 rfl)) Via.refl sta ?_
    refine R_astore d_jdk_2450_method_9_code_16 rfl rfl (by first | exact Or.inl rfl | exact Or.inr ⟨_, rfl, rfl⟩) ?_
    try dsimp only [List.set_cons_zero, List.set_cons_succ, List.eraseIdx_cons_zero, List.eraseIdx_cons_succ, List.cons_append, List.nil_append, Option.toList]
    refine R_iconst (0) d_jdk_2450_method_9_code_18 (by decide) ?_
    refine R_istore d_jdk_2450_method_9_code_19 rfl (by first | exact Or.inl rfl | exact Or.inr ⟨_, rfl, rfl⟩) ?_
    try dsimp only [List.set_cons_zero, List.set_cons_succ, List.eraseIdx_cons_zero, List.eraseIdx_cons_succ, List.cons_append, List.nil_append, Option.toList]
    refine R_iconst (0) d_jdk_2450_method_9_code_21 (by decide) ?_
    refine R_istore d_jdk_2450_method_9_code_22 rfl (by first | exact Or.inl rfl | exact Or.inr ⟨_, rfl, rfl⟩) ?_
    try dsimp only [List.set_cons_zero, List.set_cons_succ, List.eraseIdx_cons_zero, List.eraseIdx_cons_succ, List.cons_append, List.nil_append, Option.toList]
    refine R_bipush (18) d_jdk_2450_method_9_code_24 (by decide) ?_
    refine R_istore d_jdk_2450_method_9_code_26 rfl (by first | exact Or.inl rfl | exact Or.inr ⟨_, rfl, rfl⟩) ?_
    try dsimp only [List.set_cons_zero, List.set_cons_succ, List.eraseIdx_cons_zero, List.eraseIdx_cons_succ, List.cons_append, List.nil_append, Option.toList]
    refine R_iloadN d_jdk_2450_method_9_code_28 rfl ?_
    refine R_iloadN d_jdk_2450_method_9_code_29 rfl ?_
    rw [h0]
    refine R_icmp_ge (pc' := 281) d_jdk_2450_method_9_code_30 (by decide) (by decide) (fun g => ?_) (fun g => ?_)
    · exact absurd (by decide) g
    · refine R_iload d_jdk_2450_method_9_code_33 rfl ?_
      refine R_bipush (18) d_jdk_2450_method_9_code_35 (by decide) ?_
      refine R_icmp_ne (pc' := 90) d_jdk_2450_method_9_code_37 (by decide) (by decide) (fun g1 => ?_) (fun g1 => ?_)
      · exact absurd rfl g1
      · refine R_iloadN d_jdk_2450_method_9_code_40 rfl ?_
        refine R_iloadN d_jdk_2450_method_9_code_41 rfl ?_
        refine R_iconst (4) d_jdk_2450_method_9_code_42 (by decide) ?_
        refine R_isub d_jdk_2450_method_9_code_43 ?_
        refine R_icmp_ge (pc' := 90) d_jdk_2450_method_9_code_44 (by decide) (by decide) (fun g2 => ?_) (fun g2 => ?_)
        · exact absurd (by decide) g2
        · refine R_aloadN d_jdk_2450_method_9_code_47 rfl rfl ?_
          refine R_aloadN d_jdk_2450_method_9_code_48 rfl rfl ?_
          refine R_iloadN d_jdk_2450_method_9_code_49 rfl ?_
          refine R_iloadN d_jdk_2450_method_9_code_50 rfl ?_
          refine R_aload d_jdk_2450_method_9_code_51 rfl rfl ?_
          refine R_iload d_jdk_2450_method_9_code_53 rfl ?_
          refine R_aloadN d_jdk_2450_method_9_code_55 rfl rfl ?_
          refine R_getfield d_jdk_2450_method_9_code_56 (hw _ (mem 129 rfl)) Via.refl (mem 0 rfl) (mem 0 rfl) ?_
          refine R_aloadN d_jdk_2450_method_9_code_59 rfl rfl ?_
          refine R_getfield d_jdk_2450_method_9_code_60 (hw _ (mem 132 rfl)) Via.refl (mem 0 rfl) (mem 1 rfl) ?_
          refine R_call (S_private (as := [_, _, _, _, _, _, _]) (rest := _) (mem 0 rfl) obj_ns d_jdk_2450_method_9_code_63 (hw _ (mem 163 rfl)) (hw _ (mem 164 rfl)) (hw _ (mem 165 rfl)) (hw _ (mem 167 rfl)) (nf_tgt (hw _ (mem 121 rfl)) rfl) (by decide) pd_oaBIIaBIZZcI rfl rfl rfl) (M_db3 hw ta dc hD sr rb bs ss h0 Y hY i1 i2 i3 i4 m1 m2 m3 m4 f1 f2 f3 f4 u1 u2 u3 u4 q1 x1 q2 x2 q3 x3 q4 x4 j1 j2 j3 j4 k1 k2 k3 k4 e1 e2 e3 e4 v1 v2 (-2) (-2) t1 t2 t3 (by rw [j4e]; decide +kernel) (or_neg _)) (pkS 0 rfl (pkS 0 rfl (pkS 0 rfl (pkS 0 rfl pk0)))) (hw _ (mem 167 rfl)) (hw _ (mem 122 rfl)) (Nat.le_of_ble_eq_true rfl) (Nat.le_of_ble_eq_true rfl) (Nat.le_of_ble_eq_true rfl) (Nat.le_of_ble_eq_true rfl) ?_
          rintro _ _ ⟨rfl, rfl⟩
          try dsimp only [List.set_cons_zero, List.set_cons_succ, List.eraseIdx_cons_zero, List.eraseIdx_cons_succ, List.cons_append, List.nil_append, Option.toList]
          refine R_istore d_jdk_2450_method_9_code_66 rfl (by first | exact Or.inl rfl | exact Or.inr ⟨_, rfl, rfl⟩) ?_
          try dsimp only [List.set_cons_zero, List.set_cons_succ, List.eraseIdx_cons_zero, List.eraseIdx_cons_succ, List.cons_append, List.nil_append, Option.toList]
          refine R_iload d_jdk_2450_method_9_code_68 rfl ?_
          refine R_iconst (2) d_jdk_2450_method_9_code_70 (by decide) ?_
          refine R_iadd d_jdk_2450_method_9_code_71 ?_
          refine R_iconst (3) d_jdk_2450_method_9_code_72 (by decide) ?_
          refine R_idiv d_jdk_2450_method_9_code_73 (by decide) ?_
          refine R_iconst (4) d_jdk_2450_method_9_code_74 (by decide) ?_
          refine R_imul d_jdk_2450_method_9_code_75 ?_
          refine R_istore d_jdk_2450_method_9_code_76 rfl (by first | exact Or.inl rfl | exact Or.inr ⟨_, rfl, rfl⟩) ?_
          try dsimp only [List.set_cons_zero, List.set_cons_succ, List.eraseIdx_cons_zero, List.eraseIdx_cons_succ, List.cons_append, List.nil_append, Option.toList]
          refine R_iloadN d_jdk_2450_method_9_code_78 rfl ?_
          refine R_iload d_jdk_2450_method_9_code_79 rfl ?_
          refine R_iadd d_jdk_2450_method_9_code_81 ?_
          refine R_istoreN d_jdk_2450_method_9_code_82 rfl (by first | exact Or.inl rfl | exact Or.inr ⟨_, rfl, rfl⟩) ?_
          try dsimp only [List.set_cons_zero, List.set_cons_succ, List.eraseIdx_cons_zero, List.eraseIdx_cons_succ, List.cons_append, List.nil_append, Option.toList]
          refine R_iload d_jdk_2450_method_9_code_83 rfl ?_
          refine R_iload d_jdk_2450_method_9_code_85 rfl ?_
          refine R_iadd d_jdk_2450_method_9_code_87 ?_
          refine R_istore d_jdk_2450_method_9_code_88 rfl (by first | exact Or.inl rfl | exact Or.inr ⟨_, rfl, rfl⟩) ?_
          try dsimp only [List.set_cons_zero, List.set_cons_succ, List.eraseIdx_cons_zero, List.eraseIdx_cons_succ, List.cons_append, List.nil_append, Option.toList]
          exact L_qC hw ta dc sr rb bs ss cnt Y' 4 3 (by decide) (by decide) _ (by simp only [List.length_set]; exact hY) j1 j2 j3 j4 k1 k2 k3 k4 e1 e2 e3 e4 v1 v2 v3 v4 t1 z1 t2 z2 j3e j4e t3 hcnt hY' _ _ (Or.inr ⟨_, rfl, rfl⟩) F
  · exact absurd rfl h

set_option maxRecDepth 65536 in
set_option maxHeartbeats 4000000 in
theorem M_de0 {Γ : Gx} (hw : Words Γ) (ta dc : Addr) (hD : D64 Γ ta dc) (sr rb : Addr) (bs : Bool) (ss : List Int32) (cnt : Nat) (Y' : List Value) (h0 : ss.length = 0) (Y : List Value) (hcnt : cnt = 0) (hY' : Y' = Y) (hY : Y.length = 3072) :
    Met Γ (⟨"java/util/Base64$Decoder", "decode", "([B[B)I"⟩ : MethodName) jdk_2450_method_4_code 4 (some .int) ({ frames := 2, cells := 0, slots := 0, locals := 49 } : Room) #[(.ref dc), (.ref sr), (.ref rb)] [(dc, false, DCO Γ), (sr, bs, BA Γ (ss.map Value.int)), (rb, true, BA Γ Y)] (fun v O' => v = some (.int cnt.toInt32) ∧ O' = [(dc, false, DCO Γ), (sr, bs, BA Γ (ss.map Value.int)), (rb, true, BA Γ Y')]) := by
  refine Met.intro pn_java_util_Base64_Decoder (Ls := [.val (.ref dc), .val (.ref sr), .val (.ref rb), .unset]) (fun m => by first | rfl | (simp [entryFrame, mkF, argsToLocals, Value.category]; done)) ?_
  intro F
  refine R_alen (mem 2 rfl) fun hly => ?_
  obtain ⟨sta, sdc, ⟨cta, xta, yta⟩, ⟨cdc, xdc, ydc⟩⟩ := id hD
  refine R_aloadN d_jdk_2450_method_4_code_0 rfl rfl ?_
  refine R_aloadN d_jdk_2450_method_4_code_1 rfl rfl ?_
  refine R_iconst (0) d_jdk_2450_method_4_code_2 (by decide) ?_
  refine R_aloadN d_jdk_2450_method_4_code_3 rfl rfl ?_
  refine R_arraylength d_jdk_2450_method_4_code_4 (mem 1 rfl) ss.length.toInt32 (by rw [List.length_map]) ?_
  refine R_call (S_private (as := [_, _, _]) (rest := _) (mem 0 rfl) obj_ns d_jdk_2450_method_4_code_5 (hw _ (mem 124 rfl)) (hw _ (mem 125 rfl)) (hw _ (mem 126 rfl)) (hw _ (mem 128 rfl)) (nf_tgt (hw _ (mem 121 rfl)) rfl) (by decide) pd_oaBIIcI rfl rfl rfl) (M_dol0 hw ta dc hD sr bs ss h0) (pkS 0 rfl (pkS 0 rfl pk0)) (hw _ (mem 128 rfl)) (hw _ (mem 122 rfl)) (Nat.le_of_ble_eq_true rfl) (Nat.le_of_ble_eq_true rfl) (Nat.le_of_ble_eq_true rfl) (Nat.le_of_ble_eq_true rfl) ?_
  rintro _ _ ⟨r, rfl, hr, rfl⟩
  try dsimp only [List.set_cons_zero, List.set_cons_succ, List.eraseIdx_cons_zero, List.eraseIdx_cons_succ, List.cons_append, List.nil_append, Option.toList]
  refine R_istoreN d_jdk_2450_method_4_code_8 rfl (by first | exact Or.inl rfl | exact Or.inr ⟨_, rfl, rfl⟩) ?_
  try dsimp only [List.set_cons_zero, List.set_cons_succ, List.eraseIdx_cons_zero, List.eraseIdx_cons_succ, List.cons_append, List.nil_append, Option.toList]
  refine R_aloadN d_jdk_2450_method_4_code_9 rfl rfl ?_
  refine R_arraylength d_jdk_2450_method_4_code_10 (mem 2 rfl) Y.length.toInt32 rfl ?_
  refine R_iloadN d_jdk_2450_method_4_code_11 rfl ?_
  refine R_icmp_lt (pc' := 20) d_jdk_2450_method_4_code_12 (by decide) (by decide) (fun g1 => ?_) (fun g1 => ?_)
  · exact absurd ((i32_lt_iff (by omega) (by omega)).mp g1) (by omega)
  · refine R_iloadN d_jdk_2450_method_4_code_15 rfl ?_
    refine R_iconst (-1) d_jdk_2450_method_4_code_16 (by decide) ?_
    refine R_icmp_ne (pc' := 30) d_jdk_2450_method_4_code_17 (by decide) (by decide) (fun g2 => ?_) (fun g2 => ?_)
    · refine R_aloadN d_jdk_2450_method_4_code_30 rfl rfl ?_
      refine R_aloadN d_jdk_2450_method_4_code_31 rfl rfl ?_
      refine R_iconst (0) d_jdk_2450_method_4_code_32 (by decide) ?_
      refine R_aloadN d_jdk_2450_method_4_code_33 rfl rfl ?_
      refine R_arraylength d_jdk_2450_method_4_code_34 (mem 1 rfl) ss.length.toInt32 (by rw [List.length_map]) ?_
      refine R_aloadN d_jdk_2450_method_4_code_35 rfl rfl ?_
      refine R_share xta yta ?_
      refine R_call (S_private (as := [_, _, _, _]) (rest := _) (mem 1 rfl) obj_ns d_jdk_2450_method_4_code_36 (hw _ (mem 136 rfl)) (hw _ (mem 137 rfl)) (hw _ (mem 138 rfl)) (hw _ (mem 140 rfl)) (nf_tgt (hw _ (mem 121 rfl)) rfl) (by decide) pd_oaBIIaBcI rfl rfl rfl) (M_d00 hw ta dc hD sr rb bs ss cnt Y' h0 Y hcnt hY') (pkS 1 rfl (pkS 1 rfl (pkS 1 rfl (pkS 0 rfl pk0)))) (hw _ (mem 140 rfl)) (hw _ (mem 122 rfl)) (Nat.le_of_ble_eq_true rfl) (Nat.le_of_ble_eq_true rfl) (Nat.le_of_ble_eq_true rfl) (Nat.le_of_ble_eq_true rfl) ?_
      rintro _ _ ⟨rfl, rfl⟩
      try dsimp only [List.set_cons_zero, List.set_cons_succ, List.eraseIdx_cons_zero, List.eraseIdx_cons_succ, List.cons_append, List.nil_append, Option.toList]
      refine R_drop 3 ?_
      try dsimp only [List.set_cons_zero, List.set_cons_succ, List.eraseIdx_cons_zero, List.eraseIdx_cons_succ, List.cons_append, List.nil_append, Option.toList]
      exact R_ireturn d_jdk_2450_method_4_code_39 rfl ⟨rfl, rfl⟩ (Nat.le_of_ble_eq_true rfl) (Nat.le_of_ble_eq_true rfl)
    · exact absurd (congrArg Int32.toInt g2) (by rw [len_toInt (by omega)]; show ¬ ((r : Int) = -1); omega)

set_option maxRecDepth 65536 in
set_option maxHeartbeats 4000000 in
theorem M_deA {Γ : Gx} (hw : Words Γ) (ta dc : Addr) (hD : D64 Γ ta dc) (sr rb : Addr) (bs : Bool) (ss : List Int32) (cnt : Nat) (Y' : List Value) (h0 : ss.length = 4) (Y : List Value) (hY : Y.length = 3072) (j1 j2 j3 j4 : Nat) (k1 : j1 < 128) (k2 : j2 < 128) (k3 : j3 < 128) (k4 : j4 < 128) (e1 : ss[0 + 0]? = some j1.toInt32) (e2 : ss[0 + 1]? = some j2.toInt32) (e3 : ss[0 + 2]? = some j3.toInt32) (e4 : ss[0 + 3]? = some j4.toInt32) (v1 v2 v3 v4 : Int32) (t1 : tab64[j1]? = some v1) (z1 : V6 v1) (t2 : tab64[j2]? = some v2) (z2 : V6 v2) (t3 : tab64[j3]? = some v3) (z3 : V6 v3) (t4 : tab64[j4]? = some v4) (z4 : V6 v4) (hcnt : cnt = 0 + 3) (hY' : Y' = (((Y.set (0 + 0) (.int (y0 v1 v2))).set (0 + 1) (.int (y1 v2 v3))).set (0 + 2) (.int (y2 v3 v4)))) :
    Met Γ (⟨"java/util/Base64$Decoder", "decode", "([B[B)I"⟩ : MethodName) jdk_2450_method_4_code 4 (some .int) ({ frames := 2, cells := 0, slots := 0, locals := 49 } : Room) #[(.ref dc), (.ref sr), (.ref rb)] [(dc, false, DCO Γ), (sr, bs, BA Γ (ss.map Value.int)), (rb, true, BA Γ Y)] (fun v O' => v = some (.int cnt.toInt32) ∧ O' = [(dc, false, DCO Γ), (sr, bs, BA Γ (ss.map Value.int)), (rb, true, BA Γ Y')]) := by
  refine Met.intro pn_java_util_Base64_Decoder (Ls := [.val (.ref dc), .val (.ref sr), .val (.ref rb), .unset]) (fun m => by first | rfl | (simp [entryFrame, mkF, argsToLocals, Value.category]; done)) ?_
  intro F
  refine R_alen (mem 2 rfl) fun hly => ?_
  obtain ⟨sta, sdc, ⟨cta, xta, yta⟩, ⟨cdc, xdc, ydc⟩⟩ := id hD
  refine R_aloadN d_jdk_2450_method_4_code_0 rfl rfl ?_
  refine R_aloadN d_jdk_2450_method_4_code_1 rfl rfl ?_
  refine R_iconst (0) d_jdk_2450_method_4_code_2 (by decide) ?_
  refine R_aloadN d_jdk_2450_method_4_code_3 rfl rfl ?_
  refine R_arraylength d_jdk_2450_method_4_code_4 (mem 1 rfl) ss.length.toInt32 (by rw [List.length_map]) ?_
  refine R_call (S_private (as := [_, _, _]) (rest := _) (mem 0 rfl) obj_ns d_jdk_2450_method_4_code_5 (hw _ (mem 124 rfl)) (hw _ (mem 125 rfl)) (hw _ (mem 126 rfl)) (hw _ (mem 128 rfl)) (nf_tgt (hw _ (mem 121 rfl)) rfl) (by decide) pd_oaBIIcI rfl rfl rfl) (M_dol hw ta dc hD sr bs ss (Or.inl h0) j4.toInt32 j3.toInt32 (by rw [h0]; exact e4) (by rw [h0]; exact e3)) (pkS 0 rfl (pkS 0 rfl pk0)) (hw _ (mem 128 rfl)) (hw _ (mem 122 rfl)) (Nat.le_of_ble_eq_true rfl) (Nat.le_of_ble_eq_true rfl) (Nat.le_of_ble_eq_true rfl) (Nat.le_of_ble_eq_true rfl) ?_
  rintro _ _ ⟨r, rfl, hr, rfl⟩
  try dsimp only [List.set_cons_zero, List.set_cons_succ, List.eraseIdx_cons_zero, List.eraseIdx_cons_succ, List.cons_append, List.nil_append, Option.toList]
  refine R_istoreN d_jdk_2450_method_4_code_8 rfl (by first | exact Or.inl rfl | exact Or.inr ⟨_, rfl, rfl⟩) ?_
  try dsimp only [List.set_cons_zero, List.set_cons_succ, List.eraseIdx_cons_zero, List.eraseIdx_cons_succ, List.cons_append, List.nil_append, Option.toList]
  refine R_aloadN d_jdk_2450_method_4_code_9 rfl rfl ?_
  refine R_arraylength d_jdk_2450_method_4_code_10 (mem 2 rfl) Y.length.toInt32 rfl ?_
  refine R_iloadN d_jdk_2450_method_4_code_11 rfl ?_
  refine R_icmp_lt (pc' := 20) d_jdk_2450_method_4_code_12 (by decide) (by decide) (fun g1 => ?_) (fun g1 => ?_)
  · exact absurd ((i32_lt_iff (by omega) (by omega)).mp g1) (by omega)
  · refine R_iloadN d_jdk_2450_method_4_code_15 rfl ?_
    refine R_iconst (-1) d_jdk_2450_method_4_code_16 (by decide) ?_
    refine R_icmp_ne (pc' := 30) d_jdk_2450_method_4_code_17 (by decide) (by decide) (fun g2 => ?_) (fun g2 => ?_)
    · refine R_aloadN d_jdk_2450_method_4_code_30 rfl rfl ?_
      refine R_aloadN d_jdk_2450_method_4_code_31 rfl rfl ?_
      refine R_iconst (0) d_jdk_2450_method_4_code_32 (by decide) ?_
      refine R_aloadN d_jdk_2450_method_4_code_33 rfl rfl ?_
      refine R_arraylength d_jdk_2450_method_4_code_34 (mem 1 rfl) ss.length.toInt32 (by rw [List.length_map]) ?_
      refine R_aloadN d_jdk_2450_method_4_code_35 rfl rfl ?_
      refine R_share xta yta ?_
      refine R_call (S_private (as := [_, _, _, _]) (rest := _) (mem 1 rfl) obj_ns d_jdk_2450_method_4_code_36 (hw _ (mem 136 rfl)) (hw _ (mem 137 rfl)) (hw _ (mem 138 rfl)) (hw _ (mem 140 rfl)) (nf_tgt (hw _ (mem 121 rfl)) rfl) (by decide) pd_oaBIIaBcI rfl rfl rfl) (M_d0A hw ta dc hD sr rb bs ss cnt Y' h0 Y hY j1 j2 j3 j4 k1 k2 k3 k4 e1 e2 e3 e4 v1 v2 v3 v4 t1 z1 t2 z2 t3 z3 t4 z4 hcnt hY') (pkS 1 rfl (pkS 1 rfl (pkS 1 rfl (pkS 0 rfl pk0)))) (hw _ (mem 140 rfl)) (hw _ (mem 122 rfl)) (Nat.le_of_ble_eq_true rfl) (Nat.le_of_ble_eq_true rfl) (Nat.le_of_ble_eq_true rfl) (Nat.le_of_ble_eq_true rfl) ?_
      rintro _ _ ⟨rfl, rfl⟩
      try dsimp only [List.set_cons_zero, List.set_cons_succ, List.eraseIdx_cons_zero, List.eraseIdx_cons_succ, List.cons_append, List.nil_append, Option.toList]
      refine R_drop 3 ?_
      try dsimp only [List.set_cons_zero, List.set_cons_succ, List.eraseIdx_cons_zero, List.eraseIdx_cons_succ, List.cons_append, List.nil_append, Option.toList]
      exact R_ireturn d_jdk_2450_method_4_code_39 rfl ⟨rfl, rfl⟩ (Nat.le_of_ble_eq_true rfl) (Nat.le_of_ble_eq_true rfl)
    · exact absurd (congrArg Int32.toInt g2) (by rw [len_toInt (by omega)]; show ¬ ((r : Int) = -1); omega)

set_option maxRecDepth 65536 in
set_option maxHeartbeats 4000000 in
theorem M_deB {Γ : Gx} (hw : Words Γ) (ta dc : Addr) (hD : D64 Γ ta dc) (sr rb : Addr) (bs : Bool) (ss : List Int32) (cnt : Nat) (Y' : List Value) (h0 : ss.length = 4) (Y : List Value) (hY : Y.length = 3072) (j1 j2 j3 j4 : Nat) (k1 : j1 < 128) (k2 : j2 < 128) (k3 : j3 < 128) (k4 : j4 < 128) (e1 : ss[0 + 0]? = some j1.toInt32) (e2 : ss[0 + 1]? = some j2.toInt32) (e3 : ss[0 + 2]? = some j3.toInt32) (e4 : ss[0 + 3]? = some j4.toInt32) (v1 v2 v3 v4 : Int32) (t1 : tab64[j1]? = some v1) (z1 : V6 v1) (t2 : tab64[j2]? = some v2) (z2 : V6 v2) (t3 : tab64[j3]? = some v3) (z3 : V6 v3) (j4e : j4 = 61) (t4 : tab64[j4]? = some (-2)) (hcnt : cnt = 0 + 2) (hY' : Y' = ((Y.set (0 + 0) (.int (y0 v1 v2))).set (0 + 1) (.int (y1 v2 v3)))) :
    Met Γ (⟨"java/util/Base64$Decoder", "decode", "([B[B)I"⟩ : MethodName) jdk_2450_method_4_code 4 (some .int) ({ frames := 2, cells := 0, slots := 0, locals := 49 } : Room) #[(.ref dc), (.ref sr), (.ref rb)] [(dc, false, DCO Γ), (sr, bs, BA Γ (ss.map Value.int)), (rb, true, BA Γ Y)] (fun v O' => v = some (.int cnt.toInt32) ∧ O' = [(dc, false, DCO Γ), (sr, bs, BA Γ (ss.map Value.int)), (rb, true, BA Γ Y')]) := by
  refine Met.intro pn_java_util_Base64_Decoder (Ls := [.val (.ref dc), .val (.ref sr), .val (.ref rb), .unset]) (fun m => by first | rfl | (simp [entryFrame, mkF, argsToLocals, Value.category]; done)) ?_
  intro F
  refine R_alen (mem 2 rfl) fun hly => ?_
  obtain ⟨sta, sdc, ⟨cta, xta, yta⟩, ⟨cdc, xdc, ydc⟩⟩ := id hD
  refine R_aloadN d_jdk_2450_method_4_code_0 rfl rfl ?_
  refine R_aloadN d_jdk_2450_method_4_code_1 rfl rfl ?_
  refine R_iconst (0) d_jdk_2450_method_4_code_2 (by decide) ?_
  refine R_aloadN d_jdk_2450_method_4_code_3 rfl rfl ?_
  refine R_arraylength d_jdk_2450_method_4_code_4 (mem 1 rfl) ss.length.toInt32 (by rw [List.length_map]) ?_
  refine R_call (S_private (as := [_, _, _]) (rest := _) (mem 0 rfl) obj_ns d_jdk_2450_method_4_code_5 (hw _ (mem 124 rfl)) (hw _ (mem 125 rfl)) (hw _ (mem 126 rfl)) (hw _ (mem 128 rfl)) (nf_tgt (hw _ (mem 121 rfl)) rfl) (by decide) pd_oaBIIcI rfl rfl rfl) (M_dol hw ta dc hD sr bs ss (Or.inl h0) j4.toInt32 j3.toInt32 (by rw [h0]; exact e4) (by rw [h0]; exact e3)) (pkS 0 rfl (pkS 0 rfl pk0)) (hw _ (mem 128 rfl)) (hw _ (mem 122 rfl)) (Nat.le_of_ble_eq_true rfl) (Nat.le_of_ble_eq_true rfl) (Nat.le_of_ble_eq_true rfl) (Nat.le_of_ble_eq_true rfl) ?_
  rintro _ _ ⟨r, rfl, hr, rfl⟩
  try dsimp only [List.set_cons_zero, List.set_cons_succ, List.eraseIdx_cons_zero, List.eraseIdx_cons_succ, List.cons_append, List.nil_append, Option.toList]
  refine R_istoreN d_jdk_2450_method_4_code_8 rfl (by first | exact Or.inl rfl | exact Or.inr ⟨_, rfl, rfl⟩) ?_
  try dsimp only [List.set_cons_zero, List.set_cons_succ, List.eraseIdx_cons_zero, List.eraseIdx_cons_succ, List.cons_append, List.nil_append, Option.toList]
  refine R_aloadN d_jdk_2450_method_4_code_9 rfl rfl ?_
  refine R_arraylength d_jdk_2450_method_4_code_10 (mem 2 rfl) Y.length.toInt32 rfl ?_
  refine R_iloadN d_jdk_2450_method_4_code_11 rfl ?_
  refine R_icmp_lt (pc' := 20) d_jdk_2450_method_4_code_12 (by decide) (by decide) (fun g1 => ?_) (fun g1 => ?_)
  · exact absurd ((i32_lt_iff (by omega) (by omega)).mp g1) (by omega)
  · refine R_iloadN d_jdk_2450_method_4_code_15 rfl ?_
    refine R_iconst (-1) d_jdk_2450_method_4_code_16 (by decide) ?_
    refine R_icmp_ne (pc' := 30) d_jdk_2450_method_4_code_17 (by decide) (by decide) (fun g2 => ?_) (fun g2 => ?_)
    · refine R_aloadN d_jdk_2450_method_4_code_30 rfl rfl ?_
      refine R_aloadN d_jdk_2450_method_4_code_31 rfl rfl ?_
      refine R_iconst (0) d_jdk_2450_method_4_code_32 (by decide) ?_
      refine R_aloadN d_jdk_2450_method_4_code_33 rfl rfl ?_
      refine R_arraylength d_jdk_2450_method_4_code_34 (mem 1 rfl) ss.length.toInt32 (by rw [List.length_map]) ?_
      refine R_aloadN d_jdk_2450_method_4_code_35 rfl rfl ?_
      refine R_share xta yta ?_
      refine R_call (S_private (as := [_, _, _, _]) (rest := _) (mem 1 rfl) obj_ns d_jdk_2450_method_4_code_36 (hw _ (mem 136 rfl)) (hw _ (mem 137 rfl)) (hw _ (mem 138 rfl)) (hw _ (mem 140 rfl)) (nf_tgt (hw _ (mem 121 rfl)) rfl) (by decide) pd_oaBIIaBcI rfl rfl rfl) (M_d0B hw ta dc hD sr rb bs ss cnt Y' h0 Y hY j1 j2 j3 j4 k1 k2 k3 k4 e1 e2 e3 e4 v1 v2 v3 v4 t1 z1 t2 z2 t3 z3 j4e t4 hcnt hY') (pkS 1 rfl (pkS 1 rfl (pkS 1 rfl (pkS 0 rfl pk0)))) (hw _ (mem 140 rfl)) (hw _ (mem 122 rfl)) (Nat.le_of_ble_eq_true rfl) (Nat.le_of_ble_eq_true rfl) (Nat.le_of_ble_eq_true rfl) (Nat.le_of_ble_eq_true rfl) ?_
      rintro _ _ ⟨rfl, rfl⟩
      try dsimp only [List.set_cons_zero, List.set_cons_succ, List.eraseIdx_cons_zero, List.eraseIdx_cons_succ, List.cons_append, List.nil_append, Option.toList]
      refine R_drop 3 ?_
      try dsimp only [List.set_cons_zero, List.set_cons_succ, List.eraseIdx_cons_zero, List.eraseIdx_cons_succ, List.cons_append, List.nil_append, Option.toList]
      exact R_ireturn d_jdk_2450_method_4_code_39 rfl ⟨rfl, rfl⟩ (Nat.le_of_ble_eq_true rfl) (Nat.le_of_ble_eq_true rfl)
    · exact absurd (congrArg Int32.toInt g2) (by rw [len_toInt (by omega)]; show ¬ ((r : Int) = -1); omega)

set_option maxRecDepth 65536 in
set_option maxHeartbeats 4000000 in
theorem M_deC {Γ : Gx} (hw : Words Γ) (ta dc : Addr) (hD : D64 Γ ta dc) (sr rb : Addr) (bs : Bool) (ss : List Int32) (cnt : Nat) (Y' : List Value) (h0 : ss.length = 4) (Y : List Value) (hY : Y.length = 3072) (j1 j2 j3 j4 : Nat) (k1 : j1 < 128) (k2 : j2 < 128) (k3 : j3 < 128) (k4 : j4 < 128) (e1 : ss[0 + 0]? = some j1.toInt32) (e2 : ss[0 + 1]? = some j2.toInt32) (e3 : ss[0 + 2]? = some j3.toInt32) (e4 : ss[0 + 3]? = some j4.toInt32) (v1 v2 v3 v4 : Int32) (t1 : tab64[j1]? = some v1) (z1 : V6 v1) (t2 : tab64[j2]? = some v2) (z2 : V6 v2) (j3e : j3 = 61) (j4e : j4 = 61) (t3 : tab64[j3]? = some (-2)) (hcnt : cnt = 0 + 1) (hY' : Y' = (Y.set (0 + 0) (.int (y0 v1 v2)))) :
    Met Γ (⟨"java/util/Base64$Decoder", "decode", "([B[B)I"⟩ : MethodName) jdk_2450_method_4_code 4 (some .int) ({ frames := 2, cells := 0, slots := 0, locals := 49 } : Room) #[(.ref dc), (.ref sr), (.ref rb)] [(dc, false, DCO Γ), (sr, bs, BA Γ (ss.map Value.int)), (rb, true, BA Γ Y)] (fun v O' => v = some (.int cnt.toInt32) ∧ O' = [(dc, false, DCO Γ), (sr, bs, BA Γ (ss.map Value.int)), (rb, true, BA Γ Y')]) := by
  refine Met.intro pn_java_util_Base64_Decoder (Ls := [.val (.ref dc), .val (.ref sr), .val (.ref rb), .unset]) (fun m => by first | rfl | (simp [entryFrame, mkF, argsToLocals, Value.category]; done)) ?_
  intro F
  refine R_alen (mem 2 rfl) fun hly => ?_
  obtain ⟨sta, sdc, ⟨cta, xta, yta⟩, ⟨cdc, xdc, ydc⟩⟩ := id hD
  refine R_aloadN d_jdk_2450_method_4_code_0 rfl rfl ?_
  refine R_aloadN d_jdk_2450_method_4_code_1 rfl rfl ?_
  refine R_iconst (0) d_jdk_2450_method_4_code_2 (by decide) ?_
  refine R_aloadN d_jdk_2450_method_4_code_3 rfl rfl ?_
  refine R_arraylength d_jdk_2450_method_4_code_4 (mem 1 rfl) ss.length.toInt32 (by rw [List.length_map]) ?_
  refine R_call (S_private (as := [_, _, _]) (rest := _) (mem 0 rfl) obj_ns d_jdk_2450_method_4_code_5 (hw _ (mem 124 rfl)) (hw _ (mem 125 rfl)) (hw _ (mem 126 rfl)) (hw _ (mem 128 rfl)) (nf_tgt (hw _ (mem 121 rfl)) rfl) (by decide) pd_oaBIIcI rfl rfl rfl) (M_dol hw ta dc hD sr bs ss (Or.inl h0) j4.toInt32 j3.toInt32 (by rw [h0]; exact e4) (by rw [h0]; exact e3)) (pkS 0 rfl (pkS 0 rfl pk0)) (hw _ (mem 128 rfl)) (hw _ (mem 122 rfl)) (Nat.le_of_ble_eq_true rfl) (Nat.le_of_ble_eq_true rfl) (Nat.le_of_ble_eq_true rfl) (Nat.le_of_ble_eq_true rfl) ?_
  rintro _ _ ⟨r, rfl, hr, rfl⟩
  try dsimp only [List.set_cons_zero, List.set_cons_succ, List.eraseIdx_cons_zero, List.eraseIdx_cons_succ, List.cons_append, List.nil_append, Option.toList]
  refine R_istoreN d_jdk_2450_method_4_code_8 rfl (by first | exact Or.inl rfl | exact Or.inr ⟨_, rfl, rfl⟩) ?_
  try dsimp only [List.set_cons_zero, List.set_cons_succ, List.eraseIdx_cons_zero, List.eraseIdx_cons_succ, List.cons_append, List.nil_append, Option.toList]
  refine R_aloadN d_jdk_2450_method_4_code_9 rfl rfl ?_
  refine R_arraylength d_jdk_2450_method_4_code_10 (mem 2 rfl) Y.length.toInt32 rfl ?_
  refine R_iloadN d_jdk_2450_method_4_code_11 rfl ?_
  refine R_icmp_lt (pc' := 20) d_jdk_2450_method_4_code_12 (by decide) (by decide) (fun g1 => ?_) (fun g1 => ?_)
  · exact absurd ((i32_lt_iff (by omega) (by omega)).mp g1) (by omega)
  · refine R_iloadN d_jdk_2450_method_4_code_15 rfl ?_
    refine R_iconst (-1) d_jdk_2450_method_4_code_16 (by decide) ?_
    refine R_icmp_ne (pc' := 30) d_jdk_2450_method_4_code_17 (by decide) (by decide) (fun g2 => ?_) (fun g2 => ?_)
    · refine R_aloadN d_jdk_2450_method_4_code_30 rfl rfl ?_
      refine R_aloadN d_jdk_2450_method_4_code_31 rfl rfl ?_
      refine R_iconst (0) d_jdk_2450_method_4_code_32 (by decide) ?_
      refine R_aloadN d_jdk_2450_method_4_code_33 rfl rfl ?_
      refine R_arraylength d_jdk_2450_method_4_code_34 (mem 1 rfl) ss.length.toInt32 (by rw [List.length_map]) ?_
      refine R_aloadN d_jdk_2450_method_4_code_35 rfl rfl ?_
      refine R_share xta yta ?_
      refine R_call (S_private (as := [_, _, _, _]) (rest := _) (mem 1 rfl) obj_ns d_jdk_2450_method_4_code_36 (hw _ (mem 136 rfl)) (hw _ (mem 137 rfl)) (hw _ (mem 138 rfl)) (hw _ (mem 140 rfl)) (nf_tgt (hw _ (mem 121 rfl)) rfl) (by decide) pd_oaBIIaBcI rfl rfl rfl) (M_d0C hw ta dc hD sr rb bs ss cnt Y' h0 Y hY j1 j2 j3 j4 k1 k2 k3 k4 e1 e2 e3 e4 v1 v2 v3 v4 t1 z1 t2 z2 j3e j4e t3 hcnt hY') (pkS 1 rfl (pkS 1 rfl (pkS 1 rfl (pkS 0 rfl pk0)))) (hw _ (mem 140 rfl)) (hw _ (mem 122 rfl)) (Nat.le_of_ble_eq_true rfl) (Nat.le_of_ble_eq_true rfl) (Nat.le_of_ble_eq_true rfl) (Nat.le_of_ble_eq_true rfl) ?_
      rintro _ _ ⟨rfl, rfl⟩
      try dsimp only [List.set_cons_zero, List.set_cons_succ, List.eraseIdx_cons_zero, List.eraseIdx_cons_succ, List.cons_append, List.nil_append, Option.toList]
      refine R_drop 3 ?_
      try dsimp only [List.set_cons_zero, List.set_cons_succ, List.eraseIdx_cons_zero, List.eraseIdx_cons_succ, List.cons_append, List.nil_append, Option.toList]
      exact R_ireturn d_jdk_2450_method_4_code_39 rfl ⟨rfl, rfl⟩ (Nat.le_of_ble_eq_true rfl) (Nat.le_of_ble_eq_true rfl)
    · exact absurd (congrArg Int32.toInt g2) (by rw [len_toInt (by omega)]; show ¬ ((r : Int) = -1); omega)

set_option maxRecDepth 65536 in
set_option maxHeartbeats 4000000 in
theorem M_deD {Γ : Gx} (hw : Words Γ) (ta dc : Addr) (hD : D64 Γ ta dc) (sr rb : Addr) (bs : Bool) (ss : List Int32) (cnt : Nat) (Y' : List Value) (h0 : ss.length = 8) (Y : List Value) (hY : Y.length = 3072) (i1 i2 i3 i4 : Nat) (m1 : i1 < 128) (m2 : i2 < 128) (m3 : i3 < 128) (m4 : i4 < 128) (f1 : ss[0]? = some i1.toInt32) (f2 : ss[1]? = some i2.toInt32) (f3 : ss[2]? = some i3.toInt32) (f4 : ss[3]? = some i4.toInt32) (u1 u2 u3 u4 : Int32) (q1 : tab64[i1]? = some u1) (x1 : V6 u1) (q2 : tab64[i2]? = some u2) (x2 : V6 u2) (q3 : tab64[i3]? = some u3) (x3 : V6 u3) (q4 : tab64[i4]? = some u4) (x4 : V6 u4) (j1 j2 j3 j4 : Nat) (k1 : j1 < 128) (k2 : j2 < 128) (k3 : j3 < 128) (k4 : j4 < 128) (e1 : ss[4 + 0]? = some j1.toInt32) (e2 : ss[4 + 1]? = some j2.toInt32) (e3 : ss[4 + 2]? = some j3.toInt32) (e4 : ss[4 + 3]? = some j4.toInt32) (v1 v2 v3 v4 : Int32) (t1 : tab64[j1]? = some v1) (z1 : V6 v1) (t2 : tab64[j2]? = some v2) (z2 : V6 v2) (t3 : tab64[j3]? = some v3) (z3 : V6 v3) (t4 : tab64[j4]? = some v4) (z4 : V6 v4) (hcnt : cnt = 3 + 3) (hY' : Y' = ((((((Y.set 0 (.int (y0 u1 u2))).set 1 (.int (y1 u2 u3))).set 2 (.int (y2 u3 u4))).set (3 + 0) (.int (y0 v1 v2))).set (3 + 1) (.int (y1 v2 v3))).set (3 + 2) (.int (y2 v3 v4)))) :
    Met Γ (⟨"java/util/Base64$Decoder", "decode", "([B[B)I"⟩ : MethodName) jdk_2450_method_4_code 4 (some .int) ({ frames := 2, cells := 0, slots := 0, locals := 49 } : Room) #[(.ref dc), (.ref sr), (.ref rb)] [(dc, false, DCO Γ), (sr, bs, BA Γ (ss.map Value.int)), (rb, true, BA Γ Y)] (fun v O' => v = some (.int cnt.toInt32) ∧ O' = [(dc, false, DCO Γ), (sr, bs, BA Γ (ss.map Value.int)), (rb, true, BA Γ Y')]) := by
  refine Met.intro pn_java_util_Base64_Decoder (Ls := [.val (.ref dc), .val (.ref sr), .val (.ref rb), .unset]) (fun m => by first | rfl | (simp [entryFrame, mkF, argsToLocals, Value.category]; done)) ?_
  intro F
  refine R_alen (mem 2 rfl) fun hly => ?_
  obtain ⟨sta, sdc, ⟨cta, xta, yta⟩, ⟨cdc, xdc, ydc⟩⟩ := id hD
  refine R_aloadN d_jdk_2450_method_4_code_0 rfl rfl ?_
  refine R_aloadN d_jdk_2450_method_4_code_1 rfl rfl ?_
  refine R_iconst (0) d_jdk_2450_method_4_code_2 (by decide) ?_
  refine R_aloadN d_jdk_2450_method_4_code_3 rfl rfl ?_
  refine R_arraylength d_jdk_2450_method_4_code_4 (mem 1 rfl) ss.length.toInt32 (by rw [List.length_map]) ?_
  refine R_call (S_private (as := [_, _, _]) (rest := _) (mem 0 rfl) obj_ns d_jdk_2450_method_4_code_5 (hw _ (mem 124 rfl)) (hw _ (mem 125 rfl)) (hw _ (mem 126 rfl)) (hw _ (mem 128 rfl)) (nf_tgt (hw _ (mem 121 rfl)) rfl) (by decide) pd_oaBIIcI rfl rfl rfl) (M_dol hw ta dc hD sr bs ss (Or.inr h0) j4.toInt32 j3.toInt32 (by rw [h0]; exact e4) (by rw [h0]; exact e3)) (pkS 0 rfl (pkS 0 rfl pk0)) (hw _ (mem 128 rfl)) (hw _ (mem 122 rfl)) (Nat.le_of_ble_eq_true rfl) (Nat.le_of_ble_eq_true rfl) (Nat.le_of_ble_eq_true rfl) (Nat.le_of_ble_eq_true rfl) ?_
  rintro _ _ ⟨r, rfl, hr, rfl⟩
  try dsimp only [List.set_cons_zero, List.set_cons_succ, List.eraseIdx_cons_zero, List.eraseIdx_cons_succ, List.cons_append, List.nil_append, Option.toList]
  refine R_istoreN d_jdk_2450_method_4_code_8 rfl (by first | exact Or.inl rfl | exact Or.inr ⟨_, rfl, rfl⟩) ?_
  try dsimp only [List.set_cons_zero, List.set_cons_succ, List.eraseIdx_cons_zero, List.eraseIdx_cons_succ, List.cons_append, List.nil_append, Option.toList]
  refine R_aloadN d_jdk_2450_method_4_code_9 rfl rfl ?_
  refine R_arraylength d_jdk_2450_method_4_code_10 (mem 2 rfl) Y.length.toInt32 rfl ?_
  refine R_iloadN d_jdk_2450_method_4_code_11 rfl ?_
  refine R_icmp_lt (pc' := 20) d_jdk_2450_method_4_code_12 (by decide) (by decide) (fun g1 => ?_) (fun g1 => ?_)
  · exact absurd ((i32_lt_iff (by omega) (by omega)).mp g1) (by omega)
  · refine R_iloadN d_jdk_2450_method_4_code_15 rfl ?_
    refine R_iconst (-1) d_jdk_2450_method_4_code_16 (by decide) ?_
    refine R_icmp_ne (pc' := 30) d_jdk_2450_method_4_code_17 (by decide) (by decide) (fun g2 => ?_) (fun g2 => ?_)
    · refine R_aloadN d_jdk_2450_method_4_code_30 rfl rfl ?_
      refine R_aloadN d_jdk_2450_method_4_code_31 rfl rfl ?_
      refine R_iconst (0) d_jdk_2450_method_4_code_32 (by decide) ?_
      refine R_aloadN d_jdk_2450_method_4_code_33 rfl rfl ?_
      refine R_arraylength d_jdk_2450_method_4_code_34 (mem 1 rfl) ss.length.toInt32 (by rw [List.length_map]) ?_
      refine R_aloadN d_jdk_2450_method_4_code_35 rfl rfl ?_
      refine R_share xta yta ?_
      refine R_call (S_private (as := [_, _, _, _]) (rest := _) (mem 1 rfl) obj_ns d_jdk_2450_method_4_code_36 (hw _ (mem 136 rfl)) (hw _ (mem 137 rfl)) (hw _ (mem 138 rfl)) (hw _ (mem 140 rfl)) (nf_tgt (hw _ (mem 121 rfl)) rfl) (by decide) pd_oaBIIaBcI rfl rfl rfl) (M_d0D hw ta dc hD sr rb bs ss cnt Y' h0 Y hY i1 i2 i3 i4 m1 m2 m3 m4 f1 f2 f3 f4 u1 u2 u3 u4 q1 x1 q2 x2 q3 x3 q4 x4 j1 j2 j3 j4 k1 k2 k3 k4 e1 e2 e3 e4 v1 v2 v3 v4 t1 z1 t2 z2 t3 z3 t4 z4 hcnt hY') (pkS 1 rfl (pkS 1 rfl (pkS 1 rfl (pkS 0 rfl pk0)))) (hw _ (mem 140 rfl)) (hw _ (mem 122 rfl)) (Nat.le_of_ble_eq_true rfl) (Nat.le_of_ble_eq_true rfl) (Nat.le_of_ble_eq_true rfl) (Nat.le_of_ble_eq_true rfl) ?_
      rintro _ _ ⟨rfl, rfl⟩
      try dsimp only [List.set_cons_zero, List.set_cons_succ, List.eraseIdx_cons_zero, List.eraseIdx_cons_succ, List.cons_append, List.nil_append, Option.toList]
      refine R_drop 3 ?_
      try dsimp only [List.set_cons_zero, List.set_cons_succ, List.eraseIdx_cons_zero, List.eraseIdx_cons_succ, List.cons_append, List.nil_append, Option.toList]
      exact R_ireturn d_jdk_2450_method_4_code_39 rfl ⟨rfl, rfl⟩ (Nat.le_of_ble_eq_true rfl) (Nat.le_of_ble_eq_true rfl)
    · exact absurd (congrArg Int32.toInt g2) (by rw [len_toInt (by omega)]; show ¬ ((r : Int) = -1); omega)

set_option maxRecDepth 65536 in
set_option maxHeartbeats 4000000 in
theorem M_deE {Γ : Gx} (hw : Words Γ) (ta dc : Addr) (hD : D64 Γ ta dc) (sr rb : Addr) (bs : Bool) (ss : List Int32) (cnt : Nat) (Y' : List Value) (h0 : ss.length = 8) (Y : List Value) (hY : Y.length = 3072) (i1 i2 i3 i4 : Nat) (m1 : i1 < 128) (m2 : i2 < 128) (m3 : i3 < 128) (m4 : i4 < 128) (f1 : ss[0]? = some i1.toInt32) (f2 : ss[1]? = some i2.toInt32) (f3 : ss[2]? = some i3.toInt32) (f4 : ss[3]? = some i4.toInt32) (u1 u2 u3 u4 : Int32) (q1 : tab64[i1]? = some u1) (x1 : V6 u1) (q2 : tab64[i2]? = some u2) (x2 : V6 u2) (q3 : tab64[i3]? = some u3) (x3 : V6 u3) (q4 : tab64[i4]? = some u4) (x4 : V6 u4) (j1 j2 j3 j4 : Nat) (k1 : j1 < 128) (k2 : j2 < 128) (k3 : j3 < 128) (k4 : j4 < 128) (e1 : ss[4 + 0]? = some j1.toInt32) (e2 : ss[4 + 1]? = some j2.toInt32) (e3 : ss[4 + 2]? = some j3.toInt32) (e4 : ss[4 + 3]? = some j4.toInt32) (v1 v2 v3 v4 : Int32) (t1 : tab64[j1]? = some v1) (z1 : V6 v1) (t2 : tab64[j2]? = some v2) (z2 : V6 v2) (t3 : tab64[j3]? = some v3) (z3 : V6 v3) (j4e : j4 = 61) (t4 : tab64[j4]? = some (-2)) (hcnt : cnt = 3 + 2) (hY' : Y' = (((((Y.set 0 (.int (y0 u1 u2))).set 1 (.int (y1 u2 u3))).set 2 (.int (y2 u3 u4))).set (3 + 0) (.int (y0 v1 v2))).set (3 + 1) (.int (y1 v2 v3)))) :
    Met Γ (⟨"java/util/Base64$Decoder", "decode", "([B[B)I"⟩ : MethodName) jdk_2450_method_4_code 4 (some .int) ({ frames := 2, cells := 0, slots := 0, locals := 49 } : Room) #[(.ref dc), (.ref sr), (.ref rb)] [(dc, false, DCO Γ), (sr, bs, BA Γ (ss.map Value.int)), (rb, true, BA Γ Y)] (fun v O' => v = some (.int cnt.toInt32) ∧ O' = [(dc, false, DCO Γ), (sr, bs, BA Γ (ss.map Value.int)), (rb, true, BA Γ Y')]) := by
  refine Met.intro pn_java_util_Base64_Decoder (Ls := [.val (.ref dc), .val (.ref sr), .val (.ref rb), .unset]) (fun m => by first | rfl | (simp [entryFrame, mkF, argsToLocals, Value.category]; done)) ?_
  intro F
  refine R_alen (mem 2 rfl) fun hly => ?_
  obtain ⟨sta, sdc, ⟨cta, xta, yta⟩, ⟨cdc, xdc, ydc⟩⟩ := id hD
  refine R_aloadN d_jdk_2450_method_4_code_0 rfl rfl ?_
  refine R_aloadN d_jdk_2450_method_4_code_1 rfl rfl ?_
  refine R_iconst (0) d_jdk_2450_method_4_code_2 (by decide) ?_
  refine R_aloadN d_jdk_2450_method_4_code_3 rfl rfl ?_
  refine R_arraylength d_jdk_2450_method_4_code_4 (mem 1 rfl) ss.length.toInt32 (by rw [List.length_map]) ?_
  refine R_call (S_private (as := [_, _, _]) (rest := _) (mem 0 rfl) obj_ns d_jdk_2450_method_4_code_5 (hw _ (mem 124 rfl)) (hw _ (mem 125 rfl)) (hw _ (mem 126 rfl)) (hw _ (mem 128 rfl)) (nf_tgt (hw _ (mem 121 rfl)) rfl) (by decide) pd_oaBIIcI rfl rfl rfl) (M_dol hw ta dc hD sr bs ss (Or.inr h0) j4.toInt32 j3.toInt32 (by rw [h0]; exact e4) (by rw [h0]; exact e3)) (pkS 0 rfl (pkS 0 rfl pk0)) (hw _ (mem 128 rfl)) (hw _ (mem 122 rfl)) (Nat.le_of_ble_eq_true rfl) (Nat.le_of_ble_eq_true rfl) (Nat.le_of_ble_eq_true rfl) (Nat.le_of_ble_eq_true rfl) ?_
  rintro _ _ ⟨r, rfl, hr, rfl⟩
  try dsimp only [List.set_cons_zero, List.set_cons_succ, List.eraseIdx_cons_zero, List.eraseIdx_cons_succ, List.cons_append, List.nil_append, Option.toList]
  refine R_istoreN d_jdk_2450_method_4_code_8 rfl (by first | exact Or.inl rfl | exact Or.inr ⟨_, rfl, rfl⟩) ?_
  try dsimp only [List.set_cons_zero, List.set_cons_succ, List.eraseIdx_cons_zero, List.eraseIdx_cons_succ, List.cons_append, List.nil_append, Option.toList]
  refine R_aloadN d_jdk_2450_method_4_code_9 rfl rfl ?_
  refine R_arraylength d_jdk_2450_method_4_code_10 (mem 2 rfl) Y.length.toInt32 rfl ?_
  refine R_iloadN d_jdk_2450_method_4_code_11 rfl ?_
  refine R_icmp_lt (pc' := 20) d_jdk_2450_method_4_code_12 (by decide) (by decide) (fun g1 => ?_) (fun g1 => ?_)
  · exact absurd ((i32_lt_iff (by omega) (by omega)).mp g1) (by omega)
  · refine R_iloadN d_jdk_2450_method_4_code_15 rfl ?_
    refine R_iconst (-1) d_jdk_2450_method_4_code_16 (by decide) ?_
    refine R_icmp_ne (pc' := 30) d_jdk_2450_method_4_code_17 (by decide) (by decide) (fun g2 => ?_) (fun g2 => ?_)
    · refine R_aloadN d_jdk_2450_method_4_code_30 rfl rfl ?_
      refine R_aloadN d_jdk_2450_method_4_code_31 rfl rfl ?_
      refine R_iconst (0) d_jdk_2450_method_4_code_32 (by decide) ?_
      refine R_aloadN d_jdk_2450_method_4_code_33 rfl rfl ?_
      refine R_arraylength d_jdk_2450_method_4_code_34 (mem 1 rfl) ss.length.toInt32 (by rw [List.length_map]) ?_
      refine R_aloadN d_jdk_2450_method_4_code_35 rfl rfl ?_
      refine R_share xta yta ?_
      refine R_call (S_private (as := [_, _, _, _]) (rest := _) (mem 1 rfl) obj_ns d_jdk_2450_method_4_code_36 (hw _ (mem 136 rfl)) (hw _ (mem 137 rfl)) (hw _ (mem 138 rfl)) (hw _ (mem 140 rfl)) (nf_tgt (hw _ (mem 121 rfl)) rfl) (by decide) pd_oaBIIaBcI rfl rfl rfl) (M_d0E hw ta dc hD sr rb bs ss cnt Y' h0 Y hY i1 i2 i3 i4 m1 m2 m3 m4 f1 f2 f3 f4 u1 u2 u3 u4 q1 x1 q2 x2 q3 x3 q4 x4 j1 j2 j3 j4 k1 k2 k3 k4 e1 e2 e3 e4 v1 v2 v3 v4 t1 z1 t2 z2 t3 z3 j4e t4 hcnt hY') (pkS 1 rfl (pkS 1 rfl (pkS 1 rfl (pkS 0 rfl pk0)))) (hw _ (mem 140 rfl)) (hw _ (mem 122 rfl)) (Nat.le_of_ble_eq_true rfl) (Nat.le_of_ble_eq_true rfl) (Nat.le_of_ble_eq_true rfl) (Nat.le_of_ble_eq_true rfl) ?_
      rintro _ _ ⟨rfl, rfl⟩
      try dsimp only [List.set_cons_zero, List.set_cons_succ, List.eraseIdx_cons_zero, List.eraseIdx_cons_succ, List.cons_append, List.nil_append, Option.toList]
      refine R_drop 3 ?_
      try dsimp only [List.set_cons_zero, List.set_cons_succ, List.eraseIdx_cons_zero, List.eraseIdx_cons_succ, List.cons_append, List.nil_append, Option.toList]
      exact R_ireturn d_jdk_2450_method_4_code_39 rfl ⟨rfl, rfl⟩ (Nat.le_of_ble_eq_true rfl) (Nat.le_of_ble_eq_true rfl)
    · exact absurd (congrArg Int32.toInt g2) (by rw [len_toInt (by omega)]; show ¬ ((r : Int) = -1); omega)

set_option maxRecDepth 65536 in
set_option maxHeartbeats 4000000 in
theorem M_deF {Γ : Gx} (hw : Words Γ) (ta dc : Addr) (hD : D64 Γ ta dc) (sr rb : Addr) (bs : Bool) (ss : List Int32) (cnt : Nat) (Y' : List Value) (h0 : ss.length = 8) (Y : List Value) (hY : Y.length = 3072) (i1 i2 i3 i4 : Nat) (m1 : i1 < 128) (m2 : i2 < 128) (m3 : i3 < 128) (m4 : i4 < 128) (f1 : ss[0]? = some i1.toInt32) (f2 : ss[1]? = some i2.toInt32) (f3 : ss[2]? = some i3.toInt32) (f4 : ss[3]? = some i4.toInt32) (u1 u2 u3 u4 : Int32) (q1 : tab64[i1]? = some u1) (x1 : V6 u1) (q2 : tab64[i2]? = some u2) (x2 : V6 u2) (q3 : tab64[i3]? = some u3) (x3 : V6 u3) (q4 : tab64[i4]? = some u4) (x4 : V6 u4) (j1 j2 j3 j4 : Nat) (k1 : j1 < 128) (k2 : j2 < 128) (k3 : j3 < 128) (k4 : j4 < 128) (e1 : ss[4 + 0]? = some j1.toInt32) (e2 : ss[4 + 1]? = some j2.toInt32) (e3 : ss[4 + 2]? = some j3.toInt32) (e4 : ss[4 + 3]? = some j4.toInt32) (v1 v2 v3 v4 : Int32) (t1 : tab64[j1]? = some v1) (z1 : V6 v1) (t2 : tab64[j2]? = some v2) (z2 : V6 v2) (j3e : j3 = 61) (j4e : j4 = 61) (t3 : tab64[j3]? = some (-2)) (hcnt : cnt = 3 + 1) (hY' : Y' = ((((Y.set 0 (.int (y0 u1 u2))).set 1 (.int (y1 u2 u3))).set 2 (.int (y2 u3 u4))).set (3 + 0) (.int (y0 v1 v2)))) :
    Met Γ (⟨"java/util/Base64$Decoder", "decode", "([B[B)I"⟩ : MethodName) jdk_2450_method_4_code 4 (some .int) ({ frames := 2, cells := 0, slots := 0, locals := 49 } : Room) #[(.ref dc), (.ref sr), (.ref rb)] [(dc, false, DCO Γ), (sr, bs, BA Γ (ss.map Value.int)), (rb, true, BA Γ Y)] (fun v O' => v = some (.int cnt.toInt32) ∧ O' = [(dc, false, DCO Γ), (sr, bs, BA Γ (ss.map Value.int)), (rb, true, BA Γ Y')]) := by
  refine Met.intro pn_java_util_Base64_Decoder (Ls := [.val (.ref dc), .val (.ref sr), .val (.ref rb), .unset]) (fun m => by first | rfl | (simp [entryFrame, mkF, argsToLocals, Value.category]; done)) ?_
  intro F
  refine R_alen (mem 2 rfl) fun hly => ?_
  obtain ⟨sta, sdc, ⟨cta, xta, yta⟩, ⟨cdc, xdc, ydc⟩⟩ := id hD
  refine R_aloadN d_jdk_2450_method_4_code_0 rfl rfl ?_
  refine R_aloadN d_jdk_2450_method_4_code_1 rfl rfl ?_
  refine R_iconst (0) d_jdk_2450_method_4_code_2 (by decide) ?_
  refine R_aloadN d_jdk_2450_method_4_code_3 rfl rfl ?_
  refine R_arraylength d_jdk_2450_method_4_code_4 (mem 1 rfl) ss.length.toInt32 (by rw [List.length_map]) ?_
  refine R_call (S_private (as := [_, _, _]) (rest := _) (mem 0 rfl) obj_ns d_jdk_2450_method_4_code_5 (hw _ (mem 124 rfl)) (hw _ (mem 125 rfl)) (hw _ (mem 126 rfl)) (hw _ (mem 128 rfl)) (nf_tgt (hw _ (mem 121 rfl)) rfl) (by decide) pd_oaBIIcI rfl rfl rfl) (M_dol hw ta dc hD sr bs ss (Or.inr h0) j4.toInt32 j3.toInt32 (by rw [h0]; exact e4) (by rw [h0]; exact e3)) (pkS 0 rfl (pkS 0 rfl pk0)) (hw _ (mem 128 rfl)) (hw _ (mem 122 rfl)) (Nat.le_of_ble_eq_true rfl) (Nat.le_of_ble_eq_true rfl) (Nat.le_of_ble_eq_true rfl) (Nat.le_of_ble_eq_true rfl) ?_
  rintro _ _ ⟨r, rfl, hr, rfl⟩
  try dsimp only [List.set_cons_zero, List.set_cons_succ, List.eraseIdx_cons_zero, List.eraseIdx_cons_succ, List.cons_append, List.nil_append, Option.toList]
  refine R_istoreN d_jdk_2450_method_4_code_8 rfl (by first | exact Or.inl rfl | exact Or.inr ⟨_, rfl, rfl⟩) ?_
  try dsimp only [List.set_cons_zero, List.set_cons_succ, List.eraseIdx_cons_zero, List.eraseIdx_cons_succ, List.cons_append, List.nil_append, Option.toList]
  refine R_aloadN d_jdk_2450_method_4_code_9 rfl rfl ?_
  refine R_arraylength d_jdk_2450_method_4_code_10 (mem 2 rfl) Y.length.toInt32 rfl ?_
  refine R_iloadN d_jdk_2450_method_4_code_11 rfl ?_
  refine R_icmp_lt (pc' := 20) d_jdk_2450_method_4_code_12 (by decide) (by decide) (fun g1 => ?_) (fun g1 => ?_)
  · exact absurd ((i32_lt_iff (by omega) (by omega)).mp g1) (by omega)
  · refine R_iloadN d_jdk_2450_method_4_code_15 rfl ?_
    refine R_iconst (-1) d_jdk_2450_method_4_code_16 (by decide) ?_
    refine R_icmp_ne (pc' := 30) d_jdk_2450_method_4_code_17 (by decide) (by decide) (fun g2 => ?_) (fun g2 => ?_)
    · refine R_aloadN d_jdk_2450_method_4_code_30 rfl rfl ?_
      refine R_aloadN d_jdk_2450_method_4_code_31 rfl rfl ?_
      refine R_iconst (0) d_jdk_2450_method_4_code_32 (by decide) ?_
      refine R_aloadN d_jdk_2450_method_4_code_33 rfl rfl ?_
      refine R_arraylength d_jdk_2450_method_4_code_34 (mem 1 rfl) ss.length.toInt32 (by rw [List.length_map]) ?_
      refine R_aloadN d_jdk_2450_method_4_code_35 rfl rfl ?_
      refine R_share xta yta ?_
      refine R_call (S_private (as := [_, _, _, _]) (rest := _) (mem 1 rfl) obj_ns d_jdk_2450_method_4_code_36 (hw _ (mem 136 rfl)) (hw _ (mem 137 rfl)) (hw _ (mem 138 rfl)) (hw _ (mem 140 rfl)) (nf_tgt (hw _ (mem 121 rfl)) rfl) (by decide) pd_oaBIIaBcI rfl rfl rfl) (M_d0F hw ta dc hD sr rb bs ss cnt Y' h0 Y hY i1 i2 i3 i4 m1 m2 m3 m4 f1 f2 f3 f4 u1 u2 u3 u4 q1 x1 q2 x2 q3 x3 q4 x4 j1 j2 j3 j4 k1 k2 k3 k4 e1 e2 e3 e4 v1 v2 v3 v4 t1 z1 t2 z2 j3e j4e t3 hcnt hY') (pkS 1 rfl (pkS 1 rfl (pkS 1 rfl (pkS 0 rfl pk0)))) (hw _ (mem 140 rfl)) (hw _ (mem 122 rfl)) (Nat.le_of_ble_eq_true rfl) (Nat.le_of_ble_eq_true rfl) (Nat.le_of_ble_eq_true rfl) (Nat.le_of_ble_eq_true rfl) ?_
      rintro _ _ ⟨rfl, rfl⟩
      try dsimp only [List.set_cons_zero, List.set_cons_succ, List.eraseIdx_cons_zero, List.eraseIdx_cons_succ, List.cons_append, List.nil_append, Option.toList]
      refine R_drop 3 ?_
      try dsimp only [List.set_cons_zero, List.set_cons_succ, List.eraseIdx_cons_zero, List.eraseIdx_cons_succ, List.cons_append, List.nil_append, Option.toList]
      exact R_ireturn d_jdk_2450_method_4_code_39 rfl ⟨rfl, rfl⟩ (Nat.le_of_ble_eq_true rfl) (Nat.le_of_ble_eq_true rfl)
    · exact absurd (congrArg Int32.toInt g2) (by rw [len_toInt (by omega)]; show ¬ ((r : Int) = -1); omega)

theorem cp_run (cs : List Int32) (X : List Value) : cpB (cs.map Value.int ++ X) cs.length = cs.map Value.int := by
  have e : cs.length - (cs.map Value.int ++ X).length = 0 := by rw [List.length_append, List.length_map]; omega
  rw [cpB, e, List.take_left' (by simp)]
  exact List.append_nil _
theorem i2l_n {n : Nat} (h : n < 2 ^ 31) : n.toInt32.toInt64 = Int64.ofNat n := by
  rw [← Int64.toInt_inj, Int32.toInt_toInt64, len_toInt h, Int64.toInt_ofNat_of_lt (by omega)]
theorem two_n (n : Nat) : (2 : Int64) * Int64.ofNat n = Int64.ofNat (2 * n) := by rw [Int64.ofNat_mul]; rfl
theorem l2i_n (n : Nat) : (Int64.ofNat n).toInt32 = n.toInt32 := Int64.toInt32_ofNat
theorem cp_in (Y D : List Value) (n : Nat) (h : n ≤ D.length) (h2 : n ≤ Y.length) : (D.take 0 ++ (Y.drop 0).take n ++ D.drop (0 + n)).take n = Y.take n ∧ (D.take 0 ++ (Y.drop 0).take n ++ D.drop (0 + n)).length = D.length := by
  simp only [List.take_zero, List.nil_append, List.drop_zero, Nat.zero_add]
  constructor
  · rw [List.take_append_of_le_length (by simp; omega), List.take_take, Nat.min_self]
  · simp; omega
set_option maxRecDepth 65536 in
set_option maxHeartbeats 4000000 in
theorem M_dr0 {Γ : Gx} (hw : Words Γ) (hG : Lits Γ) (ta dc : Addr) (hD : D64 Γ ta dc) (o rn rb de : Addr) (M : Nat) (X D : List Value) (cs : List Int32) (cnt : Nat) (Y' : List Value) (h0 : cs.length = 0) (Y : List Value) (hcnt : cnt = 0) (hY' : Y' = Y) (hY : Y.length = 3072) (hM : cnt ≤ M) (hM2 : M ≤ 23) (hD2 : D.length ≤ 23) :
    MetX Γ (⟨"com/example/delta_mirror/deltamirror/rrdp/Base64Binary", "decodeRun", "()V"⟩ : MethodName) prog_3_method_5_code 5 none [(29, 41, 44, 66)] ({ frames := 3, cells := 2, slots := 48, locals := 64 } : Room) #[(.ref o)] [(o, true, BBO Γ rn rb de M.toInt32 cs.length.toInt32 0), (rn, true, BA Γ (cs.map Value.int ++ X)), (rb, true, BA Γ Y), (de, true, BA Γ D)] (fun v O' => ∃ (de' : Addr) (D' : List Value), v = none ∧ D'.length ≤ 23 ∧ cnt ≤ D'.length ∧ D'.take cnt = Y'.take cnt ∧ O' = [(o, true, BBO Γ rn rb de' M.toInt32 0 cnt.toInt32), (rn, true, BA Γ (cs.map Value.int ++ X)), (rb, true, BA Γ Y'), (de', true, BA Γ D')]) := by
  refine MetX.intro pn_com_example_delta_mirror_deltamirror_rrdp_Base64Binary (Ls := [.val (.ref o), .unset, .unset, .unset, .unset]) (fun m => by first | rfl | (simp [entryFrame, mkF, argsToLocals, Value.category]; done)) ?_
  intro F
  refine R_alen (mem 3 rfl) fun hld => ?_
  obtain ⟨sta, sdc, ⟨cta, xta, yta⟩, ⟨cdc, xdc, ydc⟩⟩ := id hD
  have hcs : cs.length ≤ 8 := by omega
  have hy' : Y'.length = 3072 := by rw [hY']; first | exact hY | (simp only [List.length_set]; exact hY)
  have hc3 : cnt ≤ 6 := by omega
  refine R_aloadN d_prog_3_method_5_code_0 rfl rfl ?_
  refine R_getfield d_prog_3_method_5_code_1 (hw _ (mem 45 rfl)) Via.refl (mem 0 rfl) (mem 4 rfl) ?_
  refine R_sipush (4096) d_prog_3_method_5_code_4 (by decide) ?_
  refine R_icmp_ne (pc' := 17) d_prog_3_method_5_code_7 (by decide) (by decide) (fun g1 => ?_) (fun g1 => ?_)
  · refine R_aloadN d_prog_3_method_5_code_17 rfl rfl ?_
    refine R_getfield d_prog_3_method_5_code_18 (hw _ (mem 32 rfl)) Via.refl (mem 0 rfl) (mem 0 rfl) ?_
    refine R_aloadN d_prog_3_method_5_code_21 rfl rfl ?_
    refine R_getfield d_prog_3_method_5_code_22 (hw _ (mem 45 rfl)) Via.refl (mem 0 rfl) (mem 4 rfl) ?_
    refine R_call (S_static (as := [_, _]) (rest := _) d_prog_3_method_5_code_25 (hw _ (mem 107 rfl)) (hw _ (mem 108 rfl)) (hw _ (mem 109 rfl)) (hw _ (mem 110 rfl)) (by decide) pd_oaBIcaB rfl rfl rfl) (M_cpB hw rn true (cs.map Value.int ++ X) cs.length (by omega)) (pkS 1 rfl pk0) (hw _ (mem 110 rfl)) (hw _ (mem 109 rfl)) (Nat.le_of_ble_eq_true rfl) (Nat.le_of_ble_eq_true rfl) (Nat.le_of_ble_eq_true rfl) (Nat.le_of_ble_eq_true rfl) ?_
    rintro _ _ ⟨sr, rfl, rfl⟩
    try dsimp only [List.set_cons_zero, List.set_cons_succ, List.eraseIdx_cons_zero, List.eraseIdx_cons_succ, List.cons_append, List.nil_append, Option.toList]
    rw [cp_run]
    refine R_astoreN d_prog_3_method_5_code_28 rfl rfl (by first | exact Or.inl rfl | exact Or.inr ⟨_, rfl, rfl⟩) ?_
    try dsimp only [List.set_cons_zero, List.set_cons_succ, List.eraseIdx_cons_zero, List.eraseIdx_cons_succ, List.cons_append, List.nil_append, Option.toList]
    refine R_getstatic d_prog_3_method_5_code_29 (hw _ (mem 116 rfl)) Via.refl sdc ?_
    refine R_share xdc ydc ?_
    refine R_aloadN d_prog_3_method_5_code_32 rfl rfl ?_
    refine R_aloadN d_prog_3_method_5_code_33 rfl rfl ?_
    refine R_getfield d_prog_3_method_5_code_34 (hw _ (mem 34 rfl)) Via.refl (mem 3 rfl) (mem 1 rfl) ?_
    refine R_call (S_virtual (as := [_, _]) (rest := _) (mem 0 rfl) d_prog_3_method_5_code_37 (hw _ (mem 118 rfl)) (hw _ (mem 119 rfl)) (nf_sel (hw _ (mem 121 rfl))) (hw _ (mem 121 rfl)) (hw _ (mem 120 rfl)) (by decide) pd_oaBaBcI rfl rfl rfl) (M_de0 hw ta dc hD sr rb true cs cnt Y' h0 Y hcnt hY' hY) (pkS 0 rfl (pkS 0 rfl (pkS 2 rfl pk0))) (hw _ (mem 123 rfl)) (hw _ (mem 122 rfl)) (Nat.le_of_ble_eq_true rfl) (Nat.le_of_ble_eq_true rfl) (Nat.le_of_ble_eq_true rfl) (Nat.le_of_ble_eq_true rfl) ?_
    rintro _ _ ⟨rfl, rfl⟩
    try dsimp only [List.set_cons_zero, List.set_cons_succ, List.eraseIdx_cons_zero, List.eraseIdx_cons_succ, List.cons_append, List.nil_append, Option.toList]
    refine R_drop 0 ?_
    refine R_drop 0 ?_
    try dsimp only [List.set_cons_zero, List.set_cons_succ, List.eraseIdx_cons_zero, List.eraseIdx_cons_succ, List.cons_append, List.nil_append, Option.toList]
    refine R_istoreN d_prog_3_method_5_code_40 rfl (by first | exact Or.inl rfl | exact Or.inr ⟨_, rfl, rfl⟩) ?_
    try dsimp only [List.set_cons_zero, List.set_cons_succ, List.eraseIdx_cons_zero, List.eraseIdx_cons_succ, List.cons_append, List.nil_append, Option.toList]
    refine R_goto (pc' := 63) d_prog_3_method_5_code_41 (by decide) (by decide) ?_
    refine R_aloadN d_prog_3_method_5_code_63 rfl rfl ?_
    refine R_getfield d_prog_3_method_5_code_64 (hw _ (mem 141 rfl)) Via.refl (mem 2 rfl) (mem 5 rfl) ?_
    refine R_iloadN d_prog_3_method_5_code_67 rfl ?_
    refine R_iadd d_prog_3_method_5_code_68 ?_
    rw [show (0 : Int32) + cnt.toInt32 = cnt.toInt32 from by simp]
    refine R_istoreN d_prog_3_method_5_code_69 rfl (by first | exact Or.inl rfl | exact Or.inr ⟨_, rfl, rfl⟩) ?_
    try dsimp only [List.set_cons_zero, List.set_cons_succ, List.eraseIdx_cons_zero, List.eraseIdx_cons_succ, List.cons_append, List.nil_append, Option.toList]
    refine R_iloadN d_prog_3_method_5_code_70 rfl ?_
    refine R_aloadN d_prog_3_method_5_code_71 rfl rfl ?_
    refine R_getfield d_prog_3_method_5_code_72 (hw _ (mem 38 rfl)) Via.refl (mem 2 rfl) (mem 3 rfl) ?_
    refine R_icmp_le (pc' := 109) d_prog_3_method_5_code_75 (by decide) (by decide) (fun g2 => ?_) (fun g2 => ?_)
    · refine R_iloadN d_prog_3_method_5_code_109 rfl ?_
      refine R_aloadN d_prog_3_method_5_code_110 rfl rfl ?_
      refine R_getfield d_prog_3_method_5_code_111 (hw _ (mem 36 rfl)) Via.refl (mem 2 rfl) (mem 2 rfl) ?_
      refine R_arraylength d_prog_3_method_5_code_114 (mem 3 rfl) D.length.toInt32 rfl ?_
      refine R_icmp_le (pc' := 157) d_prog_3_method_5_code_115 (by decide) (by decide) (fun g3 => ?_) (fun g3 => ?_)
      · have hle : cnt ≤ D.length := by have := mt (i32_lt_iff (by omega) (by omega)).mpr g3; omega
        refine R_aloadN d_prog_3_method_5_code_157 rfl rfl ?_
        refine R_getfield d_prog_3_method_5_code_158 (hw _ (mem 34 rfl)) Via.refl (mem 2 rfl) (mem 1 rfl) ?_
        refine R_iconst (0) d_prog_3_method_5_code_161 (by decide) ?_
        refine R_aloadN d_prog_3_method_5_code_162 rfl rfl ?_
        refine R_getfield d_prog_3_method_5_code_163 (hw _ (mem 36 rfl)) Via.refl (mem 2 rfl) (mem 2 rfl) ?_
        refine R_aloadN d_prog_3_method_5_code_166 rfl rfl ?_
        refine R_getfield d_prog_3_method_5_code_167 (hw _ (mem 141 rfl)) Via.refl (mem 2 rfl) (mem 5 rfl) ?_
        refine R_iloadN d_prog_3_method_5_code_170 rfl ?_
        have hin := cp_in Y' D cnt (by omega) (by omega)
        refine R_arraycopy (us := (List.take cnt (List.drop 0 Y'))) 3 d_prog_3_method_5_code_171 (hw _ (mem 150 rfl)) (hw _ (mem 115 rfl)) (hw _ (mem 113 rfl)) (hw _ (mem 114 rfl)) (mem 0 rfl) rfl 0 0 cnt (by decide) (by decide) (i32_nn (by omega)) rfl rfl (i32_cl (by omega)) (by omega) (by omega) rfl (Or.inl ⟨rfl, rfl⟩) rfl (Nat.le_of_ble_eq_true rfl) (Nat.le_of_ble_eq_true rfl) ?_
        try dsimp only [List.set_cons_zero, List.set_cons_succ, List.eraseIdx_cons_zero, List.eraseIdx_cons_succ, List.cons_append, List.nil_append, Option.toList]
        refine R_aloadN d_prog_3_method_5_code_174 rfl rfl ?_
        refine R_iloadN d_prog_3_method_5_code_175 rfl ?_
        refine R_putfield 2 5 d_prog_3_method_5_code_176 (hw _ (mem 141 rfl)) Via.refl rfl rfl rfl (Or.inl (hw _ (mem 142 rfl))) (hw _ (mem 23 rfl)) (ty := .int) (by decide) _ rfl rfl ?_
        try dsimp only [List.set_cons_zero, List.set_cons_succ, List.eraseIdx_cons_zero, List.eraseIdx_cons_succ, List.cons_append, List.nil_append, Option.toList]
        refine R_aloadN d_prog_3_method_5_code_179 rfl rfl ?_
        refine R_iconst (0) d_prog_3_method_5_code_180 (by decide) ?_
        refine R_putfield 2 4 d_prog_3_method_5_code_181 (hw _ (mem 45 rfl)) Via.refl rfl rfl rfl (Or.inl (hw _ (mem 46 rfl))) (hw _ (mem 23 rfl)) (ty := .int) (by decide) _ rfl rfl ?_
        try dsimp only [List.set_cons_zero, List.set_cons_succ, List.eraseIdx_cons_zero, List.eraseIdx_cons_succ, List.cons_append, List.nil_append, Option.toList]
        refine R_order (pkS 2 rfl (pkS 1 rfl (pkS 0 rfl (pkS 0 rfl pk0)))) ?_
        try dsimp only [List.set_cons_zero, List.set_cons_succ, List.eraseIdx_cons_zero, List.eraseIdx_cons_succ, List.cons_append, List.nil_append, Option.toList]
        exact R_return d_prog_3_method_5_code_184 rfl ⟨_, _, rfl, by rw [hin.2]; omega, by rw [hin.2]; omega, hin.1, rfl⟩ (Nat.le_of_ble_eq_true rfl) (Nat.le_of_ble_eq_true rfl)
      · have hgt : D.length < cnt := (i32_lt_iff (by omega) (by omega)).mp g3
        refine R_aloadN d_prog_3_method_5_code_118 rfl rfl ?_
        refine R_getfield d_prog_3_method_5_code_119 (hw _ (mem 38 rfl)) Via.refl (mem 2 rfl) (mem 3 rfl) ?_
        refine R_i2l d_prog_3_method_5_code_122 ?_
        refine R_iloadN d_prog_3_method_5_code_123 rfl ?_
        refine R_i2l d_prog_3_method_5_code_124 ?_
        refine R_ldc2L d_prog_3_method_5_code_125 (hw _ (mem 143 rfl)) ?_
        refine R_aloadN d_prog_3_method_5_code_128 rfl rfl ?_
        refine R_getfield d_prog_3_method_5_code_129 (hw _ (mem 36 rfl)) Via.refl (mem 2 rfl) (mem 2 rfl) ?_
        refine R_arraylength d_prog_3_method_5_code_132 (mem 3 rfl) D.length.toInt32 rfl ?_
        refine R_i2l d_prog_3_method_5_code_133 ?_
        rw [i2l_n (by omega), i2l_n (by omega), i2l_n (by omega)]
        refine R_lmul d_prog_3_method_5_code_134 ?_
        rw [two_n]
        refine R_call (S_static (as := [_, _]) (rest := _) d_prog_3_method_5_code_135 (hw _ (mem 144 rfl)) (hw _ (mem 145 rfl)) (hw _ (mem 8 rfl)) (hw _ (mem 146 rfl)) (by decide) pd_oJJcJ rfl rfl rfl) (M_maxJ hw cnt (2 * D.length) (by omega) (by omega)) pk0 (hw _ (mem 146 rfl)) (hw _ (mem 8 rfl)) (Nat.le_of_ble_eq_true rfl) (Nat.le_of_ble_eq_true rfl) (Nat.le_of_ble_eq_true rfl) (Nat.le_of_ble_eq_true rfl) ?_
        rintro _ _ ⟨rfl, rfl⟩
        try dsimp only [List.set_cons_zero, List.set_cons_succ, List.eraseIdx_cons_zero, List.eraseIdx_cons_succ, List.cons_append, List.nil_append, Option.toList]
        refine R_call (S_static (as := [_, _]) (rest := _) d_prog_3_method_5_code_138 (hw _ (mem 147 rfl)) (hw _ (mem 148 rfl)) (hw _ (mem 8 rfl)) (hw _ (mem 149 rfl)) (by decide) pd_oJJcJ rfl rfl rfl) (M_minJ hw M (max cnt (2 * D.length)) (by omega) (by omega)) pk0 (hw _ (mem 149 rfl)) (hw _ (mem 8 rfl)) (Nat.le_of_ble_eq_true rfl) (Nat.le_of_ble_eq_true rfl) (Nat.le_of_ble_eq_true rfl) (Nat.le_of_ble_eq_true rfl) ?_
        rintro _ _ ⟨rfl, rfl⟩
        try dsimp only [List.set_cons_zero, List.set_cons_succ, List.eraseIdx_cons_zero, List.eraseIdx_cons_succ, List.cons_append, List.nil_append, Option.toList]
        refine R_l2i d_prog_3_method_5_code_141 ?_
        rw [l2i_n]
        refine R_istore d_prog_3_method_5_code_142 rfl (by first | exact Or.inl rfl | exact Or.inr ⟨_, rfl, rfl⟩) ?_
        try dsimp only [List.set_cons_zero, List.set_cons_succ, List.eraseIdx_cons_zero, List.eraseIdx_cons_succ, List.cons_append, List.nil_append, Option.toList]
        refine R_aloadN d_prog_3_method_5_code_144 rfl rfl ?_
        refine R_aloadN d_prog_3_method_5_code_145 rfl rfl ?_
        refine R_getfield d_prog_3_method_5_code_146 (hw _ (mem 36 rfl)) Via.refl (mem 2 rfl) (mem 2 rfl) ?_
        refine R_iload d_prog_3_method_5_code_149 rfl ?_
        refine R_call (S_static (as := [_, _]) (rest := _) d_prog_3_method_5_code_151 (hw _ (mem 107 rfl)) (hw _ (mem 108 rfl)) (hw _ (mem 109 rfl)) (hw _ (mem 110 rfl)) (by decide) pd_oaBIcaB rfl rfl rfl) (M_cpB hw de true D (min M (max cnt (2 * D.length))) (by omega)) (pkS 3 rfl pk0) (hw _ (mem 110 rfl)) (hw _ (mem 109 rfl)) (Nat.le_of_ble_eq_true rfl) (Nat.le_of_ble_eq_true rfl) (Nat.le_of_ble_eq_true rfl) (Nat.le_of_ble_eq_true rfl) ?_
        rintro _ _ ⟨de2, rfl, rfl⟩
        try dsimp only [List.set_cons_zero, List.set_cons_succ, List.eraseIdx_cons_zero, List.eraseIdx_cons_succ, List.cons_append, List.nil_append, Option.toList]
        refine R_putfield 4 2 d_prog_3_method_5_code_154 (hw _ (mem 36 rfl)) Via.refl rfl rfl rfl (Or.inl (hw _ (mem 37 rfl))) (hw _ (mem 23 rfl)) (ty := (.array .byte)) (by decide) _ rfl rfl ?_
        try dsimp only [List.set_cons_zero, List.set_cons_succ, List.eraseIdx_cons_zero, List.eraseIdx_cons_succ, List.cons_append, List.nil_append, Option.toList]
        refine R_aloadN d_prog_3_method_5_code_157 rfl rfl ?_
        refine R_getfield d_prog_3_method_5_code_158 (hw _ (mem 34 rfl)) Via.refl (mem 4 rfl) (mem 1 rfl) ?_
        refine R_iconst (0) d_prog_3_method_5_code_161 (by decide) ?_
        refine R_aloadN d_prog_3_method_5_code_162 rfl rfl ?_
        refine R_getfield d_prog_3_method_5_code_163 (hw _ (mem 36 rfl)) Via.refl (mem 4 rfl) (mem 2 rfl) ?_
        refine R_aloadN d_prog_3_method_5_code_166 rfl rfl ?_
        refine R_getfield d_prog_3_method_5_code_167 (hw _ (mem 141 rfl)) Via.refl (mem 4 rfl) (mem 5 rfl) ?_
        refine R_iloadN d_prog_3_method_5_code_170 rfl ?_
        have hin := cp_in Y' (cpB D (min M (max cnt (2 * D.length)))) cnt (by rw [cpB_len]; omega) (by omega)
        refine R_arraycopy (us := (List.take cnt (List.drop 0 Y'))) 0 d_prog_3_method_5_code_171 (hw _ (mem 150 rfl)) (hw _ (mem 115 rfl)) (hw _ (mem 113 rfl)) (hw _ (mem 114 rfl)) (mem 2 rfl) rfl 0 0 cnt (by decide) (by decide) (i32_nn (by omega)) rfl rfl (i32_cl (by omega)) (by omega) (by rw [cpB_len]; omega) rfl (Or.inl ⟨rfl, rfl⟩) rfl (Nat.le_of_ble_eq_true rfl) (Nat.le_of_ble_eq_true rfl) ?_
        try dsimp only [List.set_cons_zero, List.set_cons_succ, List.eraseIdx_cons_zero, List.eraseIdx_cons_succ, List.cons_append, List.nil_append, Option.toList]
        refine R_aloadN d_prog_3_method_5_code_174 rfl rfl ?_
        refine R_iloadN d_prog_3_method_5_code_175 rfl ?_
        refine R_putfield 4 5 d_prog_3_method_5_code_176 (hw _ (mem 141 rfl)) Via.refl rfl rfl rfl (Or.inl (hw _ (mem 142 rfl))) (hw _ (mem 23 rfl)) (ty := .int) (by decide) _ rfl rfl ?_
        try dsimp only [List.set_cons_zero, List.set_cons_succ, List.eraseIdx_cons_zero, List.eraseIdx_cons_succ, List.cons_append, List.nil_append, Option.toList]
        refine R_aloadN d_prog_3_method_5_code_179 rfl rfl ?_
        refine R_iconst (0) d_prog_3_method_5_code_180 (by decide) ?_
        refine R_putfield 4 4 d_prog_3_method_5_code_181 (hw _ (mem 45 rfl)) Via.refl rfl rfl rfl (Or.inl (hw _ (mem 46 rfl))) (hw _ (mem 23 rfl)) (ty := .int) (by decide) _ rfl rfl ?_
        try dsimp only [List.set_cons_zero, List.set_cons_succ, List.eraseIdx_cons_zero, List.eraseIdx_cons_succ, List.cons_append, List.nil_append, Option.toList]
        refine R_drop 1 ?_
        try dsimp only [List.set_cons_zero, List.set_cons_succ, List.eraseIdx_cons_zero, List.eraseIdx_cons_succ, List.cons_append, List.nil_append, Option.toList]
        refine R_order (pkS 3 rfl (pkS 2 rfl (pkS 1 rfl (pkS 0 rfl pk0)))) ?_
        try dsimp only [List.set_cons_zero, List.set_cons_succ, List.eraseIdx_cons_zero, List.eraseIdx_cons_succ, List.cons_append, List.nil_append, Option.toList]
        exact R_return d_prog_3_method_5_code_184 rfl ⟨_, _, rfl, by rw [hin.2]; rw [cpB_len]; omega, by rw [hin.2]; rw [cpB_len]; omega, hin.1, rfl⟩ (Nat.le_of_ble_eq_true rfl) (Nat.le_of_ble_eq_true rfl)
    · exact absurd ((i32_lt_iff (by omega) (by omega)).mp g2) (by omega)
  · exact absurd ((i32_eq_iff (a := cs.length) (b := 4096) (by omega) (by omega)).mp g1) (by omega)

set_option maxRecDepth 65536 in
set_option maxHeartbeats 4000000 in
theorem M_drA {Γ : Gx} (hw : Words Γ) (hG : Lits Γ) (ta dc : Addr) (hD : D64 Γ ta dc) (o rn rb de : Addr) (M : Nat) (X D : List Value) (cs : List Int32) (cnt : Nat) (Y' : List Value) (h0 : cs.length = 4) (Y : List Value) (hY : Y.length = 3072) (j1 j2 j3 j4 : Nat) (k1 : j1 < 128) (k2 : j2 < 128) (k3 : j3 < 128) (k4 : j4 < 128) (e1 : cs[0 + 0]? = some j1.toInt32) (e2 : cs[0 + 1]? = some j2.toInt32) (e3 : cs[0 + 2]? = some j3.toInt32) (e4 : cs[0 + 3]? = some j4.toInt32) (v1 v2 v3 v4 : Int32) (t1 : tab64[j1]? = some v1) (z1 : V6 v1) (t2 : tab64[j2]? = some v2) (z2 : V6 v2) (t3 : tab64[j3]? = some v3) (z3 : V6 v3) (t4 : tab64[j4]? = some v4) (z4 : V6 v4) (hcnt : cnt = 0 + 3) (hY' : Y' = (((Y.set (0 + 0) (.int (y0 v1 v2))).set (0 + 1) (.int (y1 v2 v3))).set (0 + 2) (.int (y2 v3 v4)))) (hM : cnt ≤ M) (hM2 : M ≤ 23) (hD2 : D.length ≤ 23) :
    MetX Γ (⟨"com/example/delta_mirror/deltamirror/rrdp/Base64Binary", "decodeRun", "()V"⟩ : MethodName) prog_3_method_5_code 5 none [(29, 41, 44, 66)] ({ frames := 3, cells := 2, slots := 48, locals := 64 } : Room) #[(.ref o)] [(o, true, BBO Γ rn rb de M.toInt32 cs.length.toInt32 0), (rn, true, BA Γ (cs.map Value.int ++ X)), (rb, true, BA Γ Y), (de, true, BA Γ D)] (fun v O' => ∃ (de' : Addr) (D' : List Value), v = none ∧ D'.length ≤ 23 ∧ cnt ≤ D'.length ∧ D'.take cnt = Y'.take cnt ∧ O' = [(o, true, BBO Γ rn rb de' M.toInt32 0 cnt.toInt32), (rn, true, BA Γ (cs.map Value.int ++ X)), (rb, true, BA Γ Y'), (de', true, BA Γ D')]) := by
  refine MetX.intro pn_com_example_delta_mirror_deltamirror_rrdp_Base64Binary (Ls := [.val (.ref o), .unset, .unset, .unset, .unset]) (fun m => by first | rfl | (simp [entryFrame, mkF, argsToLocals, Value.category]; done)) ?_
  intro F
  refine R_alen (mem 3 rfl) fun hld => ?_
  obtain ⟨sta, sdc, ⟨cta, xta, yta⟩, ⟨cdc, xdc, ydc⟩⟩ := id hD
  have hcs : cs.length ≤ 8 := by omega
  have hy' : Y'.length = 3072 := by rw [hY']; first | exact hY | (simp only [List.length_set]; exact hY)
  have hc3 : cnt ≤ 6 := by omega
  refine R_aloadN d_prog_3_method_5_code_0 rfl rfl ?_
  refine R_getfield d_prog_3_method_5_code_1 (hw _ (mem 45 rfl)) Via.refl (mem 0 rfl) (mem 4 rfl) ?_
  refine R_sipush (4096) d_prog_3_method_5_code_4 (by decide) ?_
  refine R_icmp_ne (pc' := 17) d_prog_3_method_5_code_7 (by decide) (by decide) (fun g1 => ?_) (fun g1 => ?_)
  · refine R_aloadN d_prog_3_method_5_code_17 rfl rfl ?_
    refine R_getfield d_prog_3_method_5_code_18 (hw _ (mem 32 rfl)) Via.refl (mem 0 rfl) (mem 0 rfl) ?_
    refine R_aloadN d_prog_3_method_5_code_21 rfl rfl ?_
    refine R_getfield d_prog_3_method_5_code_22 (hw _ (mem 45 rfl)) Via.refl (mem 0 rfl) (mem 4 rfl) ?_
    refine R_call (S_static (as := [_, _]) (rest := _) d_prog_3_method_5_code_25 (hw _ (mem 107 rfl)) (hw _ (mem 108 rfl)) (hw _ (mem 109 rfl)) (hw _ (mem 110 rfl)) (by decide) pd_oaBIcaB rfl rfl rfl) (M_cpB hw rn true (cs.map Value.int ++ X) cs.length (by omega)) (pkS 1 rfl pk0) (hw _ (mem 110 rfl)) (hw _ (mem 109 rfl)) (Nat.le_of_ble_eq_true rfl) (Nat.le_of_ble_eq_true rfl) (Nat.le_of_ble_eq_true rfl) (Nat.le_of_ble_eq_true rfl) ?_
    rintro _ _ ⟨sr, rfl, rfl⟩
    try dsimp only [List.set_cons_zero, List.set_cons_succ, List.eraseIdx_cons_zero, List.eraseIdx_cons_succ, List.cons_append, List.nil_append, Option.toList]
    rw [cp_run]
    refine R_astoreN d_prog_3_method_5_code_28 rfl rfl (by first | exact Or.inl rfl | exact Or.inr ⟨_, rfl, rfl⟩) ?_
    try dsimp only [List.set_cons_zero, List.set_cons_succ, List.eraseIdx_cons_zero, List.eraseIdx_cons_succ, List.cons_append, List.nil_append, Option.toList]
    refine R_getstatic d_prog_3_method_5_code_29 (hw _ (mem 116 rfl)) Via.refl sdc ?_
    refine R_share xdc ydc ?_
    refine R_aloadN d_prog_3_method_5_code_32 rfl rfl ?_
    refine R_aloadN d_prog_3_method_5_code_33 rfl rfl ?_
    refine R_getfield d_prog_3_method_5_code_34 (hw _ (mem 34 rfl)) Via.refl (mem 3 rfl) (mem 1 rfl) ?_
    refine R_call (S_virtual (as := [_, _]) (rest := _) (mem 0 rfl) d_prog_3_method_5_code_37 (hw _ (mem 118 rfl)) (hw _ (mem 119 rfl)) (nf_sel (hw _ (mem 121 rfl))) (hw _ (mem 121 rfl)) (hw _ (mem 120 rfl)) (by decide) pd_oaBaBcI rfl rfl rfl) (M_deA hw ta dc hD sr rb true cs cnt Y' h0 Y hY j1 j2 j3 j4 k1 k2 k3 k4 e1 e2 e3 e4 v1 v2 v3 v4 t1 z1 t2 z2 t3 z3 t4 z4 hcnt hY') (pkS 0 rfl (pkS 0 rfl (pkS 2 rfl pk0))) (hw _ (mem 123 rfl)) (hw _ (mem 122 rfl)) (Nat.le_of_ble_eq_true rfl) (Nat.le_of_ble_eq_true rfl) (Nat.le_of_ble_eq_true rfl) (Nat.le_of_ble_eq_true rfl) ?_
    rintro _ _ ⟨rfl, rfl⟩
    try dsimp only [List.set_cons_zero, List.set_cons_succ, List.eraseIdx_cons_zero, List.eraseIdx_cons_succ, List.cons_append, List.nil_append, Option.toList]
    refine R_drop 0 ?_
    refine R_drop 0 ?_
    try dsimp only [List.set_cons_zero, List.set_cons_succ, List.eraseIdx_cons_zero, List.eraseIdx_cons_succ, List.cons_append, List.nil_append, Option.toList]
    refine R_istoreN d_prog_3_method_5_code_40 rfl (by first | exact Or.inl rfl | exact Or.inr ⟨_, rfl, rfl⟩) ?_
    try dsimp only [List.set_cons_zero, List.set_cons_succ, List.eraseIdx_cons_zero, List.eraseIdx_cons_succ, List.cons_append, List.nil_append, Option.toList]
    refine R_goto (pc' := 63) d_prog_3_method_5_code_41 (by decide) (by decide) ?_
    refine R_aloadN d_prog_3_method_5_code_63 rfl rfl ?_
    refine R_getfield d_prog_3_method_5_code_64 (hw _ (mem 141 rfl)) Via.refl (mem 2 rfl) (mem 5 rfl) ?_
    refine R_iloadN d_prog_3_method_5_code_67 rfl ?_
    refine R_iadd d_prog_3_method_5_code_68 ?_
    rw [show (0 : Int32) + cnt.toInt32 = cnt.toInt32 from by simp]
    refine R_istoreN d_prog_3_method_5_code_69 rfl (by first | exact Or.inl rfl | exact Or.inr ⟨_, rfl, rfl⟩) ?_
    try dsimp only [List.set_cons_zero, List.set_cons_succ, List.eraseIdx_cons_zero, List.eraseIdx_cons_succ, List.cons_append, List.nil_append, Option.toList]
    refine R_iloadN d_prog_3_method_5_code_70 rfl ?_
    refine R_aloadN d_prog_3_method_5_code_71 rfl rfl ?_
    refine R_getfield d_prog_3_method_5_code_72 (hw _ (mem 38 rfl)) Via.refl (mem 2 rfl) (mem 3 rfl) ?_
    refine R_icmp_le (pc' := 109) d_prog_3_method_5_code_75 (by decide) (by decide) (fun g2 => ?_) (fun g2 => ?_)
    · refine R_iloadN d_prog_3_method_5_code_109 rfl ?_
      refine R_aloadN d_prog_3_method_5_code_110 rfl rfl ?_
      refine R_getfield d_prog_3_method_5_code_111 (hw _ (mem 36 rfl)) Via.refl (mem 2 rfl) (mem 2 rfl) ?_
      refine R_arraylength d_prog_3_method_5_code_114 (mem 3 rfl) D.length.toInt32 rfl ?_
      refine R_icmp_le (pc' := 157) d_prog_3_method_5_code_115 (by decide) (by decide) (fun g3 => ?_) (fun g3 => ?_)
      · have hle : cnt ≤ D.length := by have := mt (i32_lt_iff (by omega) (by omega)).mpr g3; omega
        refine R_aloadN d_prog_3_method_5_code_157 rfl rfl ?_
        refine R_getfield d_prog_3_method_5_code_158 (hw _ (mem 34 rfl)) Via.refl (mem 2 rfl) (mem 1 rfl) ?_
        refine R_iconst (0) d_prog_3_method_5_code_161 (by decide) ?_
        refine R_aloadN d_prog_3_method_5_code_162 rfl rfl ?_
        refine R_getfield d_prog_3_method_5_code_163 (hw _ (mem 36 rfl)) Via.refl (mem 2 rfl) (mem 2 rfl) ?_
        refine R_aloadN d_prog_3_method_5_code_166 rfl rfl ?_
        refine R_getfield d_prog_3_method_5_code_167 (hw _ (mem 141 rfl)) Via.refl (mem 2 rfl) (mem 5 rfl) ?_
        refine R_iloadN d_prog_3_method_5_code_170 rfl ?_
        have hin := cp_in Y' D cnt (by omega) (by omega)
        refine R_arraycopy (us := (List.take cnt (List.drop 0 Y'))) 3 d_prog_3_method_5_code_171 (hw _ (mem 150 rfl)) (hw _ (mem 115 rfl)) (hw _ (mem 113 rfl)) (hw _ (mem 114 rfl)) (mem 0 rfl) rfl 0 0 cnt (by decide) (by decide) (i32_nn (by omega)) rfl rfl (i32_cl (by omega)) (by omega) (by omega) rfl (Or.inl ⟨rfl, rfl⟩) rfl (Nat.le_of_ble_eq_true rfl) (Nat.le_of_ble_eq_true rfl) ?_
        try dsimp only [List.set_cons_zero, List.set_cons_succ, List.eraseIdx_cons_zero, List.eraseIdx_cons_succ, List.cons_append, List.nil_append, Option.toList]
        refine R_aloadN d_prog_3_method_5_code_174 rfl rfl ?_
        refine R_iloadN d_prog_3_method_5_code_175 rfl ?_
        refine R_putfield 2 5 d_prog_3_method_5_code_176 (hw _ (mem 141 rfl)) Via.refl rfl rfl rfl (Or.inl (hw _ (mem 142 rfl))) (hw _ (mem 23 rfl)) (ty := .int) (by decide) _ rfl rfl ?_
        try dsimp only [List.set_cons_zero, List.set_cons_succ, List.eraseIdx_cons_zero, List.eraseIdx_cons_succ, List.cons_append, List.nil_append, Option.toList]
        refine R_aloadN d_prog_3_method_5_code_179 rfl rfl ?_
        refine R_iconst (0) d_prog_3_method_5_code_180 (by decide) ?_
        refine R_putfield 2 4 d_prog_3_method_5_code_181 (hw _ (mem 45 rfl)) Via.refl rfl rfl rfl (Or.inl (hw _ (mem 46 rfl))) (hw _ (mem 23 rfl)) (ty := .int) (by decide) _ rfl rfl ?_
        try dsimp only [List.set_cons_zero, List.set_cons_succ, List.eraseIdx_cons_zero, List.eraseIdx_cons_succ, List.cons_append, List.nil_append, Option.toList]
        refine R_order (pkS 2 rfl (pkS 1 rfl (pkS 0 rfl (pkS 0 rfl pk0)))) ?_
        try dsimp only [List.set_cons_zero, List.set_cons_succ, List.eraseIdx_cons_zero, List.eraseIdx_cons_succ, List.cons_append, List.nil_append, Option.toList]
        exact R_return d_prog_3_method_5_code_184 rfl ⟨_, _, rfl, by rw [hin.2]; omega, by rw [hin.2]; omega, hin.1, rfl⟩ (Nat.le_of_ble_eq_true rfl) (Nat.le_of_ble_eq_true rfl)
      · have hgt : D.length < cnt := (i32_lt_iff (by omega) (by omega)).mp g3
        refine R_aloadN d_prog_3_method_5_code_118 rfl rfl ?_
        refine R_getfield d_prog_3_method_5_code_119 (hw _ (mem 38 rfl)) Via.refl (mem 2 rfl) (mem 3 rfl) ?_
        refine R_i2l d_prog_3_method_5_code_122 ?_
        refine R_iloadN d_prog_3_method_5_code_123 rfl ?_
        refine R_i2l d_prog_3_method_5_code_124 ?_
        refine R_ldc2L d_prog_3_method_5_code_125 (hw _ (mem 143 rfl)) ?_
        refine R_aloadN d_prog_3_method_5_code_128 rfl rfl ?_
        refine R_getfield d_prog_3_method_5_code_129 (hw _ (mem 36 rfl)) Via.refl (mem 2 rfl) (mem 2 rfl) ?_
        refine R_arraylength d_prog_3_method_5_code_132 (mem 3 rfl) D.length.toInt32 rfl ?_
        refine R_i2l d_prog_3_method_5_code_133 ?_
        rw [i2l_n (by omega), i2l_n (by omega), i2l_n (by omega)]
        refine R_lmul d_prog_3_method_5_code_134 ?_
        rw [two_n]
        refine R_call (S_static (as := [_, _]) (rest := _) d_prog_3_method_5_code_135 (hw _ (mem 144 rfl)) (hw _ (mem 145 rfl)) (hw _ (mem 8 rfl)) (hw _ (mem 146 rfl)) (by decide) pd_oJJcJ rfl rfl rfl) (M_maxJ hw cnt (2 * D.length) (by omega) (by omega)) pk0 (hw _ (mem 146 rfl)) (hw _ (mem 8 rfl)) (Nat.le_of_ble_eq_true rfl) (Nat.le_of_ble_eq_true rfl) (Nat.le_of_ble_eq_true rfl) (Nat.le_of_ble_eq_true rfl) ?_
        rintro _ _ ⟨rfl, rfl⟩
        try dsimp only [List.set_cons_zero, List.set_cons_succ, List.eraseIdx_cons_zero, List.eraseIdx_cons_succ, List.cons_append, List.nil_append, Option.toList]
        refine R_call (S_static (as := [_, _]) (rest := _) d_prog_3_method_5_code_138 (hw _ (mem 147 rfl)) (hw _ (mem 148 rfl)) (hw _ (mem 8 rfl)) (hw _ (mem 149 rfl)) (by decide) pd_oJJcJ rfl rfl rfl) (M_minJ hw M (max cnt (2 * D.length)) (by omega) (by omega)) pk0 (hw _ (mem 149 rfl)) (hw _ (mem 8 rfl)) (Nat.le_of_ble_eq_true rfl) (Nat.le_of_ble_eq_true rfl) (Nat.le_of_ble_eq_true rfl) (Nat.le_of_ble_eq_true rfl) ?_
        rintro _ _ ⟨rfl, rfl⟩
        try dsimp only [List.set_cons_zero, List.set_cons_succ, List.eraseIdx_cons_zero, List.eraseIdx_cons_succ, List.cons_append, List.nil_append, Option.toList]
        refine R_l2i d_prog_3_method_5_code_141 ?_
        rw [l2i_n]
        refine R_istore d_prog_3_method_5_code_142 rfl (by first | exact Or.inl rfl | exact Or.inr ⟨_, rfl, rfl⟩) ?_
        try dsimp only [List.set_cons_zero, List.set_cons_succ, List.eraseIdx_cons_zero, List.eraseIdx_cons_succ, List.cons_append, List.nil_append, Option.toList]
        refine R_aloadN d_prog_3_method_5_code_144 rfl rfl ?_
        refine R_aloadN d_prog_3_method_5_code_145 rfl rfl ?_
        refine R_getfield d_prog_3_method_5_code_146 (hw _ (mem 36 rfl)) Via.refl (mem 2 rfl) (mem 2 rfl) ?_
        refine R_iload d_prog_3_method_5_code_149 rfl ?_
        refine R_call (S_static (as := [_, _]) (rest := _) d_prog_3_method_5_code_151 (hw _ (mem 107 rfl)) (hw _ (mem 108 rfl)) (hw _ (mem 109 rfl)) (hw _ (mem 110 rfl)) (by decide) pd_oaBIcaB rfl rfl rfl) (M_cpB hw de true D (min M (max cnt (2 * D.length))) (by omega)) (pkS 3 rfl pk0) (hw _ (mem 110 rfl)) (hw _ (mem 109 rfl)) (Nat.le_of_ble_eq_true rfl) (Nat.le_of_ble_eq_true rfl) (Nat.le_of_ble_eq_true rfl) (Nat.le_of_ble_eq_true rfl) ?_
        rintro _ _ ⟨de2, rfl, rfl⟩
        try dsimp only [List.set_cons_zero, List.set_cons_succ, List.eraseIdx_cons_zero, List.eraseIdx_cons_succ, List.cons_append, List.nil_append, Option.toList]
        refine R_putfield 4 2 d_prog_3_method_5_code_154 (hw _ (mem 36 rfl)) Via.refl rfl rfl rfl (Or.inl (hw _ (mem 37 rfl))) (hw _ (mem 23 rfl)) (ty := (.array .byte)) (by decide) _ rfl rfl ?_
        try dsimp only [List.set_cons_zero, List.set_cons_succ, List.eraseIdx_cons_zero, List.eraseIdx_cons_succ, List.cons_append, List.nil_append, Option.toList]
        refine R_aloadN d_prog_3_method_5_code_157 rfl rfl ?_
        refine R_getfield d_prog_3_method_5_code_158 (hw _ (mem 34 rfl)) Via.refl (mem 4 rfl) (mem 1 rfl) ?_
        refine R_iconst (0) d_prog_3_method_5_code_161 (by decide) ?_
        refine R_aloadN d_prog_3_method_5_code_162 rfl rfl ?_
        refine R_getfield d_prog_3_method_5_code_163 (hw _ (mem 36 rfl)) Via.refl (mem 4 rfl) (mem 2 rfl) ?_
        refine R_aloadN d_prog_3_method_5_code_166 rfl rfl ?_
        refine R_getfield d_prog_3_method_5_code_167 (hw _ (mem 141 rfl)) Via.refl (mem 4 rfl) (mem 5 rfl) ?_
        refine R_iloadN d_prog_3_method_5_code_170 rfl ?_
        have hin := cp_in Y' (cpB D (min M (max cnt (2 * D.length)))) cnt (by rw [cpB_len]; omega) (by omega)
        refine R_arraycopy (us := (List.take cnt (List.drop 0 Y'))) 0 d_prog_3_method_5_code_171 (hw _ (mem 150 rfl)) (hw _ (mem 115 rfl)) (hw _ (mem 113 rfl)) (hw _ (mem 114 rfl)) (mem 2 rfl) rfl 0 0 cnt (by decide) (by decide) (i32_nn (by omega)) rfl rfl (i32_cl (by omega)) (by omega) (by rw [cpB_len]; omega) rfl (Or.inl ⟨rfl, rfl⟩) rfl (Nat.le_of_ble_eq_true rfl) (Nat.le_of_ble_eq_true rfl) ?_
        try dsimp only [List.set_cons_zero, List.set_cons_succ, List.eraseIdx_cons_zero, List.eraseIdx_cons_succ, List.cons_append, List.nil_append, Option.toList]
        refine R_aloadN d_prog_3_method_5_code_174 rfl rfl ?_
        refine R_iloadN d_prog_3_method_5_code_175 rfl ?_
        refine R_putfield 4 5 d_prog_3_method_5_code_176 (hw _ (mem 141 rfl)) Via.refl rfl rfl rfl (Or.inl (hw _ (mem 142 rfl))) (hw _ (mem 23 rfl)) (ty := .int) (by decide) _ rfl rfl ?_
        try dsimp only [List.set_cons_zero, List.set_cons_succ, List.eraseIdx_cons_zero, List.eraseIdx_cons_succ, List.cons_append, List.nil_append, Option.toList]
        refine R_aloadN d_prog_3_method_5_code_179 rfl rfl ?_
        refine R_iconst (0) d_prog_3_method_5_code_180 (by decide) ?_
        refine R_putfield 4 4 d_prog_3_method_5_code_181 (hw _ (mem 45 rfl)) Via.refl rfl rfl rfl (Or.inl (hw _ (mem 46 rfl))) (hw _ (mem 23 rfl)) (ty := .int) (by decide) _ rfl rfl ?_
        try dsimp only [List.set_cons_zero, List.set_cons_succ, List.eraseIdx_cons_zero, List.eraseIdx_cons_succ, List.cons_append, List.nil_append, Option.toList]
        refine R_drop 1 ?_
        try dsimp only [List.set_cons_zero, List.set_cons_succ, List.eraseIdx_cons_zero, List.eraseIdx_cons_succ, List.cons_append, List.nil_append, Option.toList]
        refine R_order (pkS 3 rfl (pkS 2 rfl (pkS 1 rfl (pkS 0 rfl pk0)))) ?_
        try dsimp only [List.set_cons_zero, List.set_cons_succ, List.eraseIdx_cons_zero, List.eraseIdx_cons_succ, List.cons_append, List.nil_append, Option.toList]
        exact R_return d_prog_3_method_5_code_184 rfl ⟨_, _, rfl, by rw [hin.2]; rw [cpB_len]; omega, by rw [hin.2]; rw [cpB_len]; omega, hin.1, rfl⟩ (Nat.le_of_ble_eq_true rfl) (Nat.le_of_ble_eq_true rfl)
    · exact absurd ((i32_lt_iff (by omega) (by omega)).mp g2) (by omega)
  · exact absurd ((i32_eq_iff (a := cs.length) (b := 4096) (by omega) (by omega)).mp g1) (by omega)

set_option maxRecDepth 65536 in
set_option maxHeartbeats 4000000 in
theorem M_drB {Γ : Gx} (hw : Words Γ) (hG : Lits Γ) (ta dc : Addr) (hD : D64 Γ ta dc) (o rn rb de : Addr) (M : Nat) (X D : List Value) (cs : List Int32) (cnt : Nat) (Y' : List Value) (h0 : cs.length = 4) (Y : List Value) (hY : Y.length = 3072) (j1 j2 j3 j4 : Nat) (k1 : j1 < 128) (k2 : j2 < 128) (k3 : j3 < 128) (k4 : j4 < 128) (e1 : cs[0 + 0]? = some j1.toInt32) (e2 : cs[0 + 1]? = some j2.toInt32) (e3 : cs[0 + 2]? = some j3.toInt32) (e4 : cs[0 + 3]? = some j4.toInt32) (v1 v2 v3 v4 : Int32) (t1 : tab64[j1]? = some v1) (z1 : V6 v1) (t2 : tab64[j2]? = some v2) (z2 : V6 v2) (t3 : tab64[j3]? = some v3) (z3 : V6 v3) (j4e : j4 = 61) (t4 : tab64[j4]? = some (-2)) (hcnt : cnt = 0 + 2) (hY' : Y' = ((Y.set (0 + 0) (.int (y0 v1 v2))).set (0 + 1) (.int (y1 v2 v3)))) (hM : cnt ≤ M) (hM2 : M ≤ 23) (hD2 : D.length ≤ 23) :
    MetX Γ (⟨"com/example/delta_mirror/deltamirror/rrdp/Base64Binary", "decodeRun", "()V"⟩ : MethodName) prog_3_method_5_code 5 none [(29, 41, 44, 66)] ({ frames := 3, cells := 2, slots := 48, locals := 64 } : Room) #[(.ref o)] [(o, true, BBO Γ rn rb de M.toInt32 cs.length.toInt32 0), (rn, true, BA Γ (cs.map Value.int ++ X)), (rb, true, BA Γ Y), (de, true, BA Γ D)] (fun v O' => ∃ (de' : Addr) (D' : List Value), v = none ∧ D'.length ≤ 23 ∧ cnt ≤ D'.length ∧ D'.take cnt = Y'.take cnt ∧ O' = [(o, true, BBO Γ rn rb de' M.toInt32 0 cnt.toInt32), (rn, true, BA Γ (cs.map Value.int ++ X)), (rb, true, BA Γ Y'), (de', true, BA Γ D')]) := by
  refine MetX.intro pn_com_example_delta_mirror_deltamirror_rrdp_Base64Binary (Ls := [.val (.ref o), .unset, .unset, .unset, .unset]) (fun m => by first | rfl | (simp [entryFrame, mkF, argsToLocals, Value.category]; done)) ?_
  intro F
  refine R_alen (mem 3 rfl) fun hld => ?_
  obtain ⟨sta, sdc, ⟨cta, xta, yta⟩, ⟨cdc, xdc, ydc⟩⟩ := id hD
  have hcs : cs.length ≤ 8 := by omega
  have hy' : Y'.length = 3072 := by rw [hY']; first | exact hY | (simp only [List.length_set]; exact hY)
  have hc3 : cnt ≤ 6 := by omega
  refine R_aloadN d_prog_3_method_5_code_0 rfl rfl ?_
  refine R_getfield d_prog_3_method_5_code_1 (hw _ (mem 45 rfl)) Via.refl (mem 0 rfl) (mem 4 rfl) ?_
  refine R_sipush (4096) d_prog_3_method_5_code_4 (by decide) ?_
  refine R_icmp_ne (pc' := 17) d_prog_3_method_5_code_7 (by decide) (by decide) (fun g1 => ?_) (fun g1 => ?_)
  · refine R_aloadN d_prog_3_method_5_code_17 rfl rfl ?_
    refine R_getfield d_prog_3_method_5_code_18 (hw _ (mem 32 rfl)) Via.refl (mem 0 rfl) (mem 0 rfl) ?_
    refine R_aloadN d_prog_3_method_5_code_21 rfl rfl ?_
    refine R_getfield d_prog_3_method_5_code_22 (hw _ (mem 45 rfl)) Via.refl (mem 0 rfl) (mem 4 rfl) ?_
    refine R_call (S_static (as := [_, _]) (rest := _) d_prog_3_method_5_code_25 (hw _ (mem 107 rfl)) (hw _ (mem 108 rfl)) (hw _ (mem 109 rfl)) (hw _ (mem 110 rfl)) (by decide) pd_oaBIcaB rfl rfl rfl) (M_cpB hw rn true (cs.map Value.int ++ X) cs.length (by omega)) (pkS 1 rfl pk0) (hw _ (mem 110 rfl)) (hw _ (mem 109 rfl)) (Nat.le_of_ble_eq_true rfl) (Nat.le_of_ble_eq_true rfl) (Nat.le_of_ble_eq_true rfl) (Nat.le_of_ble_eq_true rfl) ?_
    rintro _ _ ⟨sr, rfl, rfl⟩
    try dsimp only [List.set_cons_zero, List.set_cons_succ, List.eraseIdx_cons_zero, List.eraseIdx_cons_succ, List.cons_append, List.nil_append, Option.toList]
    rw [cp_run]
    refine R_astoreN d_prog_3_method_5_code_28 rfl rfl (by first | exact Or.inl rfl | exact Or.inr ⟨_, rfl, rfl⟩) ?_
    try dsimp only [List.set_cons_zero, List.set_cons_succ, List.eraseIdx_cons_zero, List.eraseIdx_cons_succ, List.cons_append, List.nil_append, Option.toList]
    refine R_getstatic d_prog_3_method_5_code_29 (hw _ (mem 116 rfl)) Via.refl sdc ?_
    refine R_share xdc ydc ?_
    refine R_aloadN d_prog_3_method_5_code_32 rfl rfl ?_
    refine R_aloadN d_prog_3_method_5_code_33 rfl rfl ?_
    refine R_getfield d_prog_3_method_5_code_34 (hw _ (mem 34 rfl)) Via.refl (mem 3 rfl) (mem 1 rfl) ?_
    refine R_call (S_virtual (as := [_, _]) (rest := _) (mem 0 rfl) d_prog_3_method_5_code_37 (hw _ (mem 118 rfl)) (hw _ (mem 119 rfl)) (nf_sel (hw _ (mem 121 rfl))) (hw _ (mem 121 rfl)) (hw _ (mem 120 rfl)) (by decide) pd_oaBaBcI rfl rfl rfl) (M_deB hw ta dc hD sr rb true cs cnt Y' h0 Y hY j1 j2 j3 j4 k1 k2 k3 k4 e1 e2 e3 e4 v1 v2 v3 v4 t1 z1 t2 z2 t3 z3 j4e t4 hcnt hY') (pkS 0 rfl (pkS 0 rfl (pkS 2 rfl pk0))) (hw _ (mem 123 rfl)) (hw _ (mem 122 rfl)) (Nat.le_of_ble_eq_true rfl) (Nat.le_of_ble_eq_true rfl) (Nat.le_of_ble_eq_true rfl) (Nat.le_of_ble_eq_true rfl) ?_
    rintro _ _ ⟨rfl, rfl⟩
    try dsimp only [List.set_cons_zero, List.set_cons_succ, List.eraseIdx_cons_zero, List.eraseIdx_cons_succ, List.cons_append, List.nil_append, Option.toList]
    refine R_drop 0 ?_
    refine R_drop 0 ?_
    try dsimp only [List.set_cons_zero, List.set_cons_succ, List.eraseIdx_cons_zero, List.eraseIdx_cons_succ, List.cons_append, List.nil_append, Option.toList]
    refine R_istoreN d_prog_3_method_5_code_40 rfl (by first | exact Or.inl rfl | exact Or.inr ⟨_, rfl, rfl⟩) ?_
    try dsimp only [List.set_cons_zero, List.set_cons_succ, List.eraseIdx_cons_zero, List.eraseIdx_cons_succ, List.cons_append, List.nil_append, Option.toList]
    refine R_goto (pc' := 63) d_prog_3_method_5_code_41 (by decide) (by decide) ?_
    refine R_aloadN d_prog_3_method_5_code_63 rfl rfl ?_
    refine R_getfield d_prog_3_method_5_code_64 (hw _ (mem 141 rfl)) Via.refl (mem 2 rfl) (mem 5 rfl) ?_
    refine R_iloadN d_prog_3_method_5_code_67 rfl ?_
    refine R_iadd d_prog_3_method_5_code_68 ?_
    rw [show (0 : Int32) + cnt.toInt32 = cnt.toInt32 from by simp]
    refine R_istoreN d_prog_3_method_5_code_69 rfl (by first | exact Or.inl rfl | exact Or.inr ⟨_, rfl, rfl⟩) ?_
    try dsimp only [List.set_cons_zero, List.set_cons_succ, List.eraseIdx_cons_zero, List.eraseIdx_cons_succ, List.cons_append, List.nil_append, Option.toList]
    refine R_iloadN d_prog_3_method_5_code_70 rfl ?_
    refine R_aloadN d_prog_3_method_5_code_71 rfl rfl ?_
    refine R_getfield d_prog_3_method_5_code_72 (hw _ (mem 38 rfl)) Via.refl (mem 2 rfl) (mem 3 rfl) ?_
    refine R_icmp_le (pc' := 109) d_prog_3_method_5_code_75 (by decide) (by decide) (fun g2 => ?_) (fun g2 => ?_)
    · refine R_iloadN d_prog_3_method_5_code_109 rfl ?_
      refine R_aloadN d_prog_3_method_5_code_110 rfl rfl ?_
      refine R_getfield d_prog_3_method_5_code_111 (hw _ (mem 36 rfl)) Via.refl (mem 2 rfl) (mem 2 rfl) ?_
      refine R_arraylength d_prog_3_method_5_code_114 (mem 3 rfl) D.length.toInt32 rfl ?_
      refine R_icmp_le (pc' := 157) d_prog_3_method_5_code_115 (by decide) (by decide) (fun g3 => ?_) (fun g3 => ?_)
      · have hle : cnt ≤ D.length := by have := mt (i32_lt_iff (by omega) (by omega)).mpr g3; omega
        refine R_aloadN d_prog_3_method_5_code_157 rfl rfl ?_
        refine R_getfield d_prog_3_method_5_code_158 (hw _ (mem 34 rfl)) Via.refl (mem 2 rfl) (mem 1 rfl) ?_
        refine R_iconst (0) d_prog_3_method_5_code_161 (by decide) ?_
        refine R_aloadN d_prog_3_method_5_code_162 rfl rfl ?_
        refine R_getfield d_prog_3_method_5_code_163 (hw _ (mem 36 rfl)) Via.refl (mem 2 rfl) (mem 2 rfl) ?_
        refine R_aloadN d_prog_3_method_5_code_166 rfl rfl ?_
        refine R_getfield d_prog_3_method_5_code_167 (hw _ (mem 141 rfl)) Via.refl (mem 2 rfl) (mem 5 rfl) ?_
        refine R_iloadN d_prog_3_method_5_code_170 rfl ?_
        have hin := cp_in Y' D cnt (by omega) (by omega)
        refine R_arraycopy (us := (List.take cnt (List.drop 0 Y'))) 3 d_prog_3_method_5_code_171 (hw _ (mem 150 rfl)) (hw _ (mem 115 rfl)) (hw _ (mem 113 rfl)) (hw _ (mem 114 rfl)) (mem 0 rfl) rfl 0 0 cnt (by decide) (by decide) (i32_nn (by omega)) rfl rfl (i32_cl (by omega)) (by omega) (by omega) rfl (Or.inl ⟨rfl, rfl⟩) rfl (Nat.le_of_ble_eq_true rfl) (Nat.le_of_ble_eq_true rfl) ?_
        try dsimp only [List.set_cons_zero, List.set_cons_succ, List.eraseIdx_cons_zero, List.eraseIdx_cons_succ, List.cons_append, List.nil_append, Option.toList]
        refine R_aloadN d_prog_3_method_5_code_174 rfl rfl ?_
        refine R_iloadN d_prog_3_method_5_code_175 rfl ?_
        refine R_putfield 2 5 d_prog_3_method_5_code_176 (hw _ (mem 141 rfl)) Via.refl rfl rfl rfl (Or.inl (hw _ (mem 142 rfl))) (hw _ (mem 23 rfl)) (ty := .int) (by decide) _ rfl rfl ?_
        try dsimp only [List.set_cons_zero, List.set_cons_succ, List.eraseIdx_cons_zero, List.eraseIdx_cons_succ, List.cons_append, List.nil_append, Option.toList]
        refine R_aloadN d_prog_3_method_5_code_179 rfl rfl ?_
        refine R_iconst (0) d_prog_3_method_5_code_180 (by decide) ?_
        refine R_putfield 2 4 d_prog_3_method_5_code_181 (hw _ (mem 45 rfl)) Via.refl rfl rfl rfl (Or.inl (hw _ (mem 46 rfl))) (hw _ (mem 23 rfl)) (ty := .int) (by decide) _ rfl rfl ?_
        try dsimp only [List.set_cons_zero, List.set_cons_succ, List.eraseIdx_cons_zero, List.eraseIdx_cons_succ, List.cons_append, List.nil_append, Option.toList]
        refine R_order (pkS 2 rfl (pkS 1 rfl (pkS 0 rfl (pkS 0 rfl pk0)))) ?_
        try dsimp only [List.set_cons_zero, List.set_cons_succ, List.eraseIdx_cons_zero, List.eraseIdx_cons_succ, List.cons_append, List.nil_append, Option.toList]
        exact R_return d_prog_3_method_5_code_184 rfl ⟨_, _, rfl, by rw [hin.2]; omega, by rw [hin.2]; omega, hin.1, rfl⟩ (Nat.le_of_ble_eq_true rfl) (Nat.le_of_ble_eq_true rfl)
      · have hgt : D.length < cnt := (i32_lt_iff (by omega) (by omega)).mp g3
        refine R_aloadN d_prog_3_method_5_code_118 rfl rfl ?_
        refine R_getfield d_prog_3_method_5_code_119 (hw _ (mem 38 rfl)) Via.refl (mem 2 rfl) (mem 3 rfl) ?_
        refine R_i2l d_prog_3_method_5_code_122 ?_
        refine R_iloadN d_prog_3_method_5_code_123 rfl ?_
        refine R_i2l d_prog_3_method_5_code_124 ?_
        refine R_ldc2L d_prog_3_method_5_code_125 (hw _ (mem 143 rfl)) ?_
        refine R_aloadN d_prog_3_method_5_code_128 rfl rfl ?_
        refine R_getfield d_prog_3_method_5_code_129 (hw _ (mem 36 rfl)) Via.refl (mem 2 rfl) (mem 2 rfl) ?_
        refine R_arraylength d_prog_3_method_5_code_132 (mem 3 rfl) D.length.toInt32 rfl ?_
        refine R_i2l d_prog_3_method_5_code_133 ?_
        rw [i2l_n (by omega), i2l_n (by omega), i2l_n (by omega)]
        refine R_lmul d_prog_3_method_5_code_134 ?_
        rw [two_n]
        refine R_call (S_static (as := [_, _]) (rest := _) d_prog_3_method_5_code_135 (hw _ (mem 144 rfl)) (hw _ (mem 145 rfl)) (hw _ (mem 8 rfl)) (hw _ (mem 146 rfl)) (by decide) pd_oJJcJ rfl rfl rfl) (M_maxJ hw cnt (2 * D.length) (by omega) (by omega)) pk0 (hw _ (mem 146 rfl)) (hw _ (mem 8 rfl)) (Nat.le_of_ble_eq_true rfl) (Nat.le_of_ble_eq_true rfl) (Nat.le_of_ble_eq_true rfl) (Nat.le_of_ble_eq_true rfl) ?_
        rintro _ _ ⟨rfl, rfl⟩
        try dsimp only [List.set_cons_zero, List.set_cons_succ, List.eraseIdx_cons_zero, List.eraseIdx_cons_succ, List.cons_append, List.nil_append, Option.toList]
        refine R_call (S_static (as := [_, _]) (rest := _) d_prog_3_method_5_code_138 (hw _ (mem 147 rfl)) (hw _ (mem 148 rfl)) (hw _ (mem 8 rfl)) (hw _ (mem 149 rfl)) (by decide) pd_oJJcJ rfl rfl rfl) (M_minJ hw M (max cnt (2 * D.length)) (by omega) (by omega)) pk0 (hw _ (mem 149 rfl)) (hw _ (mem 8 rfl)) (Nat.le_of_ble_eq_true rfl) (Nat.le_of_ble_eq_true rfl) (Nat.le_of_ble_eq_true rfl) (Nat.le_of_ble_eq_true rfl) ?_
        rintro _ _ ⟨rfl, rfl⟩
        try dsimp only [List.set_cons_zero, List.set_cons_succ, List.eraseIdx_cons_zero, List.eraseIdx_cons_succ, List.cons_append, List.nil_append, Option.toList]
        refine R_l2i d_prog_3_method_5_code_141 ?_
        rw [l2i_n]
        refine R_istore d_prog_3_method_5_code_142 rfl (by first | exact Or.inl rfl | exact Or.inr ⟨_, rfl, rfl⟩) ?_
        try dsimp only [List.set_cons_zero, List.set_cons_succ, List.eraseIdx_cons_zero, List.eraseIdx_cons_succ, List.cons_append, List.nil_append, Option.toList]
        refine R_aloadN d_prog_3_method_5_code_144 rfl rfl ?_
        refine R_aloadN d_prog_3_method_5_code_145 rfl rfl ?_
        refine R_getfield d_prog_3_method_5_code_146 (hw _ (mem 36 rfl)) Via.refl (mem 2 rfl) (mem 2 rfl) ?_
        refine R_iload d_prog_3_method_5_code_149 rfl ?_
        refine R_call (S_static (as := [_, _]) (rest := _) d_prog_3_method_5_code_151 (hw _ (mem 107 rfl)) (hw _ (mem 108 rfl)) (hw _ (mem 109 rfl)) (hw _ (mem 110 rfl)) (by decide) pd_oaBIcaB rfl rfl rfl) (M_cpB hw de true D (min M (max cnt (2 * D.length))) (by omega)) (pkS 3 rfl pk0) (hw _ (mem 110 rfl)) (hw _ (mem 109 rfl)) (Nat.le_of_ble_eq_true rfl) (Nat.le_of_ble_eq_true rfl) (Nat.le_of_ble_eq_true rfl) (Nat.le_of_ble_eq_true rfl) ?_
        rintro _ _ ⟨de2, rfl, rfl⟩
        try dsimp only [List.set_cons_zero, List.set_cons_succ, List.eraseIdx_cons_zero, List.eraseIdx_cons_succ, List.cons_append, List.nil_append, Option.toList]
        refine R_putfield 4 2 d_prog_3_method_5_code_154 (hw _ (mem 36 rfl)) Via.refl rfl rfl rfl (Or.inl (hw _ (mem 37 rfl))) (hw _ (mem 23 rfl)) (ty := (.array .byte)) (by decide) _ rfl rfl ?_
        try dsimp only [List.set_cons_zero, List.set_cons_succ, List.eraseIdx_cons_zero, List.eraseIdx_cons_succ, List.cons_append, List.nil_append, Option.toList]
        refine R_aloadN d_prog_3_method_5_code_157 rfl rfl ?_
        refine R_getfield d_prog_3_method_5_code_158 (hw _ (mem 34 rfl)) Via.refl (mem 4 rfl) (mem 1 rfl) ?_
        refine R_iconst (0) d_prog_3_method_5_code_161 (by decide) ?_
        refine R_aloadN d_prog_3_method_5_code_162 rfl rfl ?_
        refine R_getfield d_prog_3_method_5_code_163 (hw _ (mem 36 rfl)) Via.refl (mem 4 rfl) (mem 2 rfl) ?_
        refine R_aloadN d_prog_3_method_5_code_166 rfl rfl ?_
        refine R_getfield d_prog_3_method_5_code_167 (hw _ (mem 141 rfl)) Via.refl (mem 4 rfl) (mem 5 rfl) ?_
        refine R_iloadN d_prog_3_method_5_code_170 rfl ?_
        have hin := cp_in Y' (cpB D (min M (max cnt (2 * D.length)))) cnt (by rw [cpB_len]; omega) (by omega)
        refine R_arraycopy (us := (List.take cnt (List.drop 0 Y'))) 0 d_prog_3_method_5_code_171 (hw _ (mem 150 rfl)) (hw _ (mem 115 rfl)) (hw _ (mem 113 rfl)) (hw _ (mem 114 rfl)) (mem 2 rfl) rfl 0 0 cnt (by decide) (by decide) (i32_nn (by omega)) rfl rfl (i32_cl (by omega)) (by omega) (by rw [cpB_len]; omega) rfl (Or.inl ⟨rfl, rfl⟩) rfl (Nat.le_of_ble_eq_true rfl) (Nat.le_of_ble_eq_true rfl) ?_
        try dsimp only [List.set_cons_zero, List.set_cons_succ, List.eraseIdx_cons_zero, List.eraseIdx_cons_succ, List.cons_append, List.nil_append, Option.toList]
        refine R_aloadN d_prog_3_method_5_code_174 rfl rfl ?_
        refine R_iloadN d_prog_3_method_5_code_175 rfl ?_
        refine R_putfield 4 5 d_prog_3_method_5_code_176 (hw _ (mem 141 rfl)) Via.refl rfl rfl rfl (Or.inl (hw _ (mem 142 rfl))) (hw _ (mem 23 rfl)) (ty := .int) (by decide) _ rfl rfl ?_
        try dsimp only [List.set_cons_zero, List.set_cons_succ, List.eraseIdx_cons_zero, List.eraseIdx_cons_succ, List.cons_append, List.nil_append, Option.toList]
        refine R_aloadN d_prog_3_method_5_code_179 rfl rfl ?_
        refine R_iconst (0) d_prog_3_method_5_code_180 (by decide) ?_
        refine R_putfield 4 4 d_prog_3_method_5_code_181 (hw _ (mem 45 rfl)) Via.refl rfl rfl rfl (Or.inl (hw _ (mem 46 rfl))) (hw _ (mem 23 rfl)) (ty := .int) (by decide) _ rfl rfl ?_
        try dsimp only [List.set_cons_zero, List.set_cons_succ, List.eraseIdx_cons_zero, List.eraseIdx_cons_succ, List.cons_append, List.nil_append, Option.toList]
        refine R_drop 1 ?_
        try dsimp only [List.set_cons_zero, List.set_cons_succ, List.eraseIdx_cons_zero, List.eraseIdx_cons_succ, List.cons_append, List.nil_append, Option.toList]
        refine R_order (pkS 3 rfl (pkS 2 rfl (pkS 1 rfl (pkS 0 rfl pk0)))) ?_
        try dsimp only [List.set_cons_zero, List.set_cons_succ, List.eraseIdx_cons_zero, List.eraseIdx_cons_succ, List.cons_append, List.nil_append, Option.toList]
        exact R_return d_prog_3_method_5_code_184 rfl ⟨_, _, rfl, by rw [hin.2]; rw [cpB_len]; omega, by rw [hin.2]; rw [cpB_len]; omega, hin.1, rfl⟩ (Nat.le_of_ble_eq_true rfl) (Nat.le_of_ble_eq_true rfl)
    · exact absurd ((i32_lt_iff (by omega) (by omega)).mp g2) (by omega)
  · exact absurd ((i32_eq_iff (a := cs.length) (b := 4096) (by omega) (by omega)).mp g1) (by omega)

set_option maxRecDepth 65536 in
set_option maxHeartbeats 4000000 in
theorem M_drC {Γ : Gx} (hw : Words Γ) (hG : Lits Γ) (ta dc : Addr) (hD : D64 Γ ta dc) (o rn rb de : Addr) (M : Nat) (X D : List Value) (cs : List Int32) (cnt : Nat) (Y' : List Value) (h0 : cs.length = 4) (Y : List Value) (hY : Y.length = 3072) (j1 j2 j3 j4 : Nat) (k1 : j1 < 128) (k2 : j2 < 128) (k3 : j3 < 128) (k4 : j4 < 128) (e1 : cs[0 + 0]? = some j1.toInt32) (e2 : cs[0 + 1]? = some j2.toInt32) (e3 : cs[0 + 2]? = some j3.toInt32) (e4 : cs[0 + 3]? = some j4.toInt32) (v1 v2 v3 v4 : Int32) (t1 : tab64[j1]? = some v1) (z1 : V6 v1) (t2 : tab64[j2]? = some v2) (z2 : V6 v2) (j3e : j3 = 61) (j4e : j4 = 61) (t3 : tab64[j3]? = some (-2)) (hcnt : cnt = 0 + 1) (hY' : Y' = (Y.set (0 + 0) (.int (y0 v1 v2)))) (hM : cnt ≤ M) (hM2 : M ≤ 23) (hD2 : D.length ≤ 23) :
    MetX Γ (⟨"com/example/delta_mirror/deltamirror/rrdp/Base64Binary", "decodeRun", "()V"⟩ : MethodName) prog_3_method_5_code 5 none [(29, 41, 44, 66)] ({ frames := 3, cells := 2, slots := 48, locals := 64 } : Room) #[(.ref o)] [(o, true, BBO Γ rn rb de M.toInt32 cs.length.toInt32 0), (rn, true, BA Γ (cs.map Value.int ++ X)), (rb, true, BA Γ Y), (de, true, BA Γ D)] (fun v O' => ∃ (de' : Addr) (D' : List Value), v = none ∧ D'.length ≤ 23 ∧ cnt ≤ D'.length ∧ D'.take cnt = Y'.take cnt ∧ O' = [(o, true, BBO Γ rn rb de' M.toInt32 0 cnt.toInt32), (rn, true, BA Γ (cs.map Value.int ++ X)), (rb, true, BA Γ Y'), (de', true, BA Γ D')]) := by
  refine MetX.intro pn_com_example_delta_mirror_deltamirror_rrdp_Base64Binary (Ls := [.val (.ref o), .unset, .unset, .unset, .unset]) (fun m => by first | rfl | (simp [entryFrame, mkF, argsToLocals, Value.category]; done)) ?_
  intro F
  refine R_alen (mem 3 rfl) fun hld => ?_
  obtain ⟨sta, sdc, ⟨cta, xta, yta⟩, ⟨cdc, xdc, ydc⟩⟩ := id hD
  have hcs : cs.length ≤ 8 := by omega
  have hy' : Y'.length = 3072 := by rw [hY']; first | exact hY | (simp only [List.length_set]; exact hY)
  have hc3 : cnt ≤ 6 := by omega
  refine R_aloadN d_prog_3_method_5_code_0 rfl rfl ?_
  refine R_getfield d_prog_3_method_5_code_1 (hw _ (mem 45 rfl)) Via.refl (mem 0 rfl) (mem 4 rfl) ?_
  refine R_sipush (4096) d_prog_3_method_5_code_4 (by decide) ?_
  refine R_icmp_ne (pc' := 17) d_prog_3_method_5_code_7 (by decide) (by decide) (fun g1 => ?_) (fun g1 => ?_)
  · refine R_aloadN d_prog_3_method_5_code_17 rfl rfl ?_
    refine R_getfield d_prog_3_method_5_code_18 (hw _ (mem 32 rfl)) Via.refl (mem 0 rfl) (mem 0 rfl) ?_
    refine R_aloadN d_prog_3_method_5_code_21 rfl rfl ?_
    refine R_getfield d_prog_3_method_5_code_22 (hw _ (mem 45 rfl)) Via.refl (mem 0 rfl) (mem 4 rfl) ?_
    refine R_call (S_static (as := [_, _]) (rest := _) d_prog_3_method_5_code_25 (hw _ (mem 107 rfl)) (hw _ (mem 108 rfl)) (hw _ (mem 109 rfl)) (hw _ (mem 110 rfl)) (by decide) pd_oaBIcaB rfl rfl rfl) (M_cpB hw rn true (cs.map Value.int ++ X) cs.length (by omega)) (pkS 1 rfl pk0) (hw _ (mem 110 rfl)) (hw _ (mem 109 rfl)) (Nat.le_of_ble_eq_true rfl) (Nat.le_of_ble_eq_true rfl) (Nat.le_of_ble_eq_true rfl) (Nat.le_of_ble_eq_true rfl) ?_
    rintro _ _ ⟨sr, rfl, rfl⟩
    try dsimp only [List.set_cons_zero, List.set_cons_succ, List.eraseIdx_cons_zero, List.eraseIdx_cons_succ, List.cons_append, List.nil_append, Option.toList]
    rw [cp_run]
    refine R_astoreN d_prog_3_method_5_code_28 rfl rfl (by first | exact Or.inl rfl | exact Or.inr ⟨_, rfl, rfl⟩) ?_
    try dsimp only [List.set_cons_zero, List.set_cons_succ, List.eraseIdx_cons_zero, List.eraseIdx_cons_succ, List.cons_append, List.nil_append, Option.toList]
    refine R_getstatic d_prog_3_method_5_code_29 (hw _ (mem 116 rfl)) Via.refl sdc ?_
    refine R_share xdc ydc ?_
    refine R_aloadN d_prog_3_method_5_code_32 rfl rfl ?_
    refine R_aloadN d_prog_3_method_5_code_33 rfl rfl ?_
    refine R_getfield d_prog_3_method_5_code_34 (hw _ (mem 34 rfl)) Via.refl (mem 3 rfl) (mem 1 rfl) ?_
    refine R_call (S_virtual (as := [_, _]) (rest := _) (mem 0 rfl) d_prog_3_method_5_code_37 (hw _ (mem 118 rfl)) (hw _ (mem 119 rfl)) (nf_sel (hw _ (mem 121 rfl))) (hw _ (mem 121 rfl)) (hw _ (mem 120 rfl)) (by decide) pd_oaBaBcI rfl rfl rfl) (M_deC hw ta dc hD sr rb true cs cnt Y' h0 Y hY j1 j2 j3 j4 k1 k2 k3 k4 e1 e2 e3 e4 v1 v2 v3 v4 t1 z1 t2 z2 j3e j4e t3 hcnt hY') (pkS 0 rfl (pkS 0 rfl (pkS 2 rfl pk0))) (hw _ (mem 123 rfl)) (hw _ (mem 122 rfl)) (Nat.le_of_ble_eq_true rfl) (Nat.le_of_ble_eq_true rfl) (Nat.le_of_ble_eq_true rfl) (Nat.le_of_ble_eq_true rfl) ?_
    rintro _ _ ⟨rfl, rfl⟩
    try dsimp only [List.set_cons_zero, List.set_cons_succ, List.eraseIdx_cons_zero, List.eraseIdx_cons_succ, List.cons_append, List.nil_append, Option.toList]
    refine R_drop 0 ?_
    refine R_drop 0 ?_
    try dsimp only [List.set_cons_zero, List.set_cons_succ, List.eraseIdx_cons_zero, List.eraseIdx_cons_succ, List.cons_append, List.nil_append, Option.toList]
    refine R_istoreN d_prog_3_method_5_code_40 rfl (by first | exact Or.inl rfl | exact Or.inr ⟨_, rfl, rfl⟩) ?_
    try dsimp only [List.set_cons_zero, List.set_cons_succ, List.eraseIdx_cons_zero, List.eraseIdx_cons_succ, List.cons_append, List.nil_append, Option.toList]
    refine R_goto (pc' := 63) d_prog_3_method_5_code_41 (by decide) (by decide) ?_
    refine R_aloadN d_prog_3_method_5_code_63 rfl rfl ?_
    refine R_getfield d_prog_3_method_5_code_64 (hw _ (mem 141 rfl)) Via.refl (mem 2 rfl) (mem 5 rfl) ?_
    refine R_iloadN d_prog_3_method_5_code_67 rfl ?_
    refine R_iadd d_prog_3_method_5_code_68 ?_
    rw [show (0 : Int32) + cnt.toInt32 = cnt.toInt32 from by simp]
    refine R_istoreN d_prog_3_method_5_code_69 rfl (by first | exact Or.inl rfl | exact Or.inr ⟨_, rfl, rfl⟩) ?_
    try dsimp only [List.set_cons_zero, List.set_cons_succ, List.eraseIdx_cons_zero, List.eraseIdx_cons_succ, List.cons_append, List.nil_append, Option.toList]
    refine R_iloadN d_prog_3_method_5_code_70 rfl ?_
    refine R_aloadN d_prog_3_method_5_code_71 rfl rfl ?_
    refine R_getfield d_prog_3_method_5_code_72 (hw _ (mem 38 rfl)) Via.refl (mem 2 rfl) (mem 3 rfl) ?_
    refine R_icmp_le (pc' := 109) d_prog_3_method_5_code_75 (by decide) (by decide) (fun g2 => ?_) (fun g2 => ?_)
    · refine R_iloadN d_prog_3_method_5_code_109 rfl ?_
      refine R_aloadN d_prog_3_method_5_code_110 rfl rfl ?_
      refine R_getfield d_prog_3_method_5_code_111 (hw _ (mem 36 rfl)) Via.refl (mem 2 rfl) (mem 2 rfl) ?_
      refine R_arraylength d_prog_3_method_5_code_114 (mem 3 rfl) D.length.toInt32 rfl ?_
      refine R_icmp_le (pc' := 157) d_prog_3_method_5_code_115 (by decide) (by decide) (fun g3 => ?_) (fun g3 => ?_)
      · have hle : cnt ≤ D.length := by have := mt (i32_lt_iff (by omega) (by omega)).mpr g3; omega
        refine R_aloadN d_prog_3_method_5_code_157 rfl rfl ?_
        refine R_getfield d_prog_3_method_5_code_158 (hw _ (mem 34 rfl)) Via.refl (mem 2 rfl) (mem 1 rfl) ?_
        refine R_iconst (0) d_prog_3_method_5_code_161 (by decide) ?_
        refine R_aloadN d_prog_3_method_5_code_162 rfl rfl ?_
        refine R_getfield d_prog_3_method_5_code_163 (hw _ (mem 36 rfl)) Via.refl (mem 2 rfl) (mem 2 rfl) ?_
        refine R_aloadN d_prog_3_method_5_code_166 rfl rfl ?_
        refine R_getfield d_prog_3_method_5_code_167 (hw _ (mem 141 rfl)) Via.refl (mem 2 rfl) (mem 5 rfl) ?_
        refine R_iloadN d_prog_3_method_5_code_170 rfl ?_
        have hin := cp_in Y' D cnt (by omega) (by omega)
        refine R_arraycopy (us := (List.take cnt (List.drop 0 Y'))) 3 d_prog_3_method_5_code_171 (hw _ (mem 150 rfl)) (hw _ (mem 115 rfl)) (hw _ (mem 113 rfl)) (hw _ (mem 114 rfl)) (mem 0 rfl) rfl 0 0 cnt (by decide) (by decide) (i32_nn (by omega)) rfl rfl (i32_cl (by omega)) (by omega) (by omega) rfl (Or.inl ⟨rfl, rfl⟩) rfl (Nat.le_of_ble_eq_true rfl) (Nat.le_of_ble_eq_true rfl) ?_
        try dsimp only [List.set_cons_zero, List.set_cons_succ, List.eraseIdx_cons_zero, List.eraseIdx_cons_succ, List.cons_append, List.nil_append, Option.toList]
        refine R_aloadN d_prog_3_method_5_code_174 rfl rfl ?_
        refine R_iloadN d_prog_3_method_5_code_175 rfl ?_
        refine R_putfield 2 5 d_prog_3_method_5_code_176 (hw _ (mem 141 rfl)) Via.refl rfl rfl rfl (Or.inl (hw _ (mem 142 rfl))) (hw _ (mem 23 rfl)) (ty := .int) (by decide) _ rfl rfl ?_
        try dsimp only [List.set_cons_zero, List.set_cons_succ, List.eraseIdx_cons_zero, List.eraseIdx_cons_succ, List.cons_append, List.nil_append, Option.toList]
        refine R_aloadN d_prog_3_method_5_code_179 rfl rfl ?_
        refine R_iconst (0) d_prog_3_method_5_code_180 (by decide) ?_
        refine R_putfield 2 4 d_prog_3_method_5_code_181 (hw _ (mem 45 rfl)) Via.refl rfl rfl rfl (Or.inl (hw _ (mem 46 rfl))) (hw _ (mem 23 rfl)) (ty := .int) (by decide) _ rfl rfl ?_
        try dsimp only [List.set_cons_zero, List.set_cons_succ, List.eraseIdx_cons_zero, List.eraseIdx_cons_succ, List.cons_append, List.nil_append, Option.toList]
        refine R_order (pkS 2 rfl (pkS 1 rfl (pkS 0 rfl (pkS 0 rfl pk0)))) ?_
        try dsimp only [List.set_cons_zero, List.set_cons_succ, List.eraseIdx_cons_zero, List.eraseIdx_cons_succ, List.cons_append, List.nil_append, Option.toList]
        exact R_return d_prog_3_method_5_code_184 rfl ⟨_, _, rfl, by rw [hin.2]; omega, by rw [hin.2]; omega, hin.1, rfl⟩ (Nat.le_of_ble_eq_true rfl) (Nat.le_of_ble_eq_true rfl)
      · have hgt : D.length < cnt := (i32_lt_iff (by omega) (by omega)).mp g3
        refine R_aloadN d_prog_3_method_5_code_118 rfl rfl ?_
        refine R_getfield d_prog_3_method_5_code_119 (hw _ (mem 38 rfl)) Via.refl (mem 2 rfl) (mem 3 rfl) ?_
        refine R_i2l d_prog_3_method_5_code_122 ?_
        refine R_iloadN d_prog_3_method_5_code_123 rfl ?_
        refine R_i2l d_prog_3_method_5_code_124 ?_
        refine R_ldc2L d_prog_3_method_5_code_125 (hw _ (mem 143 rfl)) ?_
        refine R_aloadN d_prog_3_method_5_code_128 rfl rfl ?_
        refine R_getfield d_prog_3_method_5_code_129 (hw _ (mem 36 rfl)) Via.refl (mem 2 rfl) (mem 2 rfl) ?_
        refine R_arraylength d_prog_3_method_5_code_132 (mem 3 rfl) D.length.toInt32 rfl ?_
        refine R_i2l d_prog_3_method_5_code_133 ?_
        rw [i2l_n (by omega), i2l_n (by omega), i2l_n (by omega)]
        refine R_lmul d_prog_3_method_5_code_134 ?_
        rw [two_n]
        refine R_call (S_static (as := [_, _]) (rest := _) d_prog_3_method_5_code_135 (hw _ (mem 144 rfl)) (hw _ (mem 145 rfl)) (hw _ (mem 8 rfl)) (hw _ (mem 146 rfl)) (by decide) pd_oJJcJ rfl rfl rfl) (M_maxJ hw cnt (2 * D.length) (by omega) (by omega)) pk0 (hw _ (mem 146 rfl)) (hw _ (mem 8 rfl)) (Nat.le_of_ble_eq_true rfl) (Nat.le_of_ble_eq_true rfl) (Nat.le_of_ble_eq_true rfl) (Nat.le_of_ble_eq_true rfl) ?_
        rintro _ _ ⟨rfl, rfl⟩
        try dsimp only [List.set_cons_zero, List.set_cons_succ, List.eraseIdx_cons_zero, List.eraseIdx_cons_succ, List.cons_append, List.nil_append, Option.toList]
        refine R_call (S_static (as := [_, _]) (rest := _) d_prog_3_method_5_code_138 (hw _ (mem 147 rfl)) (hw _ (mem 148 rfl)) (hw _ (mem 8 rfl)) (hw _ (mem 149 rfl)) (by decide) pd_oJJcJ rfl rfl rfl) (M_minJ hw M (max cnt (2 * D.length)) (by omega) (by omega)) pk0 (hw _ (mem 149 rfl)) (hw _ (mem 8 rfl)) (Nat.le_of_ble_eq_true rfl) (Nat.le_of_ble_eq_true rfl) (Nat.le_of_ble_eq_true rfl) (Nat.le_of_ble_eq_true rfl) ?_
        rintro _ _ ⟨rfl, rfl⟩
        try dsimp only [List.set_cons_zero, List.set_cons_succ, List.eraseIdx_cons_zero, List.eraseIdx_cons_succ, List.cons_append, List.nil_append, Option.toList]
        refine R_l2i d_prog_3_method_5_code_141 ?_
        rw [l2i_n]
        refine R_istore d_prog_3_method_5_code_142 rfl (by first | exact Or.inl rfl | exact Or.inr ⟨_, rfl, rfl⟩) ?_
        try dsimp only [List.set_cons_zero, List.set_cons_succ, List.eraseIdx_cons_zero, List.eraseIdx_cons_succ, List.cons_append, List.nil_append, Option.toList]
        refine R_aloadN d_prog_3_method_5_code_144 rfl rfl ?_
        refine R_aloadN d_prog_3_method_5_code_145 rfl rfl ?_
        refine R_getfield d_prog_3_method_5_code_146 (hw _ (mem 36 rfl)) Via.refl (mem 2 rfl) (mem 2 rfl) ?_
        refine R_iload d_prog_3_method_5_code_149 rfl ?_
        refine R_call (S_static (as := [_, _]) (rest := _) d_prog_3_method_5_code_151 (hw _ (mem 107 rfl)) (hw _ (mem 108 rfl)) (hw _ (mem 109 rfl)) (hw _ (mem 110 rfl)) (by decide) pd_oaBIcaB rfl rfl rfl) (M_cpB hw de true D (min M (max cnt (2 * D.length))) (by omega)) (pkS 3 rfl pk0) (hw _ (mem 110 rfl)) (hw _ (mem 109 rfl)) (Nat.le_of_ble_eq_true rfl) (Nat.le_of_ble_eq_true rfl) (Nat.le_of_ble_eq_true rfl) (Nat.le_of_ble_eq_true rfl) ?_
        rintro _ _ ⟨de2, rfl, rfl⟩
        try dsimp only [List.set_cons_zero, List.set_cons_succ, List.eraseIdx_cons_zero, List.eraseIdx_cons_succ, List.cons_append, List.nil_append, Option.toList]
        refine R_putfield 4 2 d_prog_3_method_5_code_154 (hw _ (mem 36 rfl)) Via.refl rfl rfl rfl (Or.inl (hw _ (mem 37 rfl))) (hw _ (mem 23 rfl)) (ty := (.array .byte)) (by decide) _ rfl rfl ?_
        try dsimp only [List.set_cons_zero, List.set_cons_succ, List.eraseIdx_cons_zero, List.eraseIdx_cons_succ, List.cons_append, List.nil_append, Option.toList]
        refine R_aloadN d_prog_3_method_5_code_157 rfl rfl ?_
        refine R_getfield d_prog_3_method_5_code_158 (hw _ (mem 34 rfl)) Via.refl (mem 4 rfl) (mem 1 rfl) ?_
        refine R_iconst (0) d_prog_3_method_5_code_161 (by decide) ?_
        refine R_aloadN d_prog_3_method_5_code_162 rfl rfl ?_
        refine R_getfield d_prog_3_method_5_code_163 (hw _ (mem 36 rfl)) Via.refl (mem 4 rfl) (mem 2 rfl) ?_
        refine R_aloadN d_prog_3_method_5_code_166 rfl rfl ?_
        refine R_getfield d_prog_3_method_5_code_167 (hw _ (mem 141 rfl)) Via.refl (mem 4 rfl) (mem 5 rfl) ?_
        refine R_iloadN d_prog_3_method_5_code_170 rfl ?_
        have hin := cp_in Y' (cpB D (min M (max cnt (2 * D.length)))) cnt (by rw [cpB_len]; omega) (by omega)
        refine R_arraycopy (us := (List.take cnt (List.drop 0 Y'))) 0 d_prog_3_method_5_code_171 (hw _ (mem 150 rfl)) (hw _ (mem 115 rfl)) (hw _ (mem 113 rfl)) (hw _ (mem 114 rfl)) (mem 2 rfl) rfl 0 0 cnt (by decide) (by decide) (i32_nn (by omega)) rfl rfl (i32_cl (by omega)) (by omega) (by rw [cpB_len]; omega) rfl (Or.inl ⟨rfl, rfl⟩) rfl (Nat.le_of_ble_eq_true rfl) (Nat.le_of_ble_eq_true rfl) ?_
        try dsimp only [List.set_cons_zero, List.set_cons_succ, List.eraseIdx_cons_zero, List.eraseIdx_cons_succ, List.cons_append, List.nil_append, Option.toList]
        refine R_aloadN d_prog_3_method_5_code_174 rfl rfl ?_
        refine R_iloadN d_prog_3_method_5_code_175 rfl ?_
        refine R_putfield 4 5 d_prog_3_method_5_code_176 (hw _ (mem 141 rfl)) Via.refl rfl rfl rfl (Or.inl (hw _ (mem 142 rfl))) (hw _ (mem 23 rfl)) (ty := .int) (by decide) _ rfl rfl ?_
        try dsimp only [List.set_cons_zero, List.set_cons_succ, List.eraseIdx_cons_zero, List.eraseIdx_cons_succ, List.cons_append, List.nil_append, Option.toList]
        refine R_aloadN d_prog_3_method_5_code_179 rfl rfl ?_
        refine R_iconst (0) d_prog_3_method_5_code_180 (by decide) ?_
        refine R_putfield 4 4 d_prog_3_method_5_code_181 (hw _ (mem 45 rfl)) Via.refl rfl rfl rfl (Or.inl (hw _ (mem 46 rfl))) (hw _ (mem 23 rfl)) (ty := .int) (by decide) _ rfl rfl ?_
        try dsimp only [List.set_cons_zero, List.set_cons_succ, List.eraseIdx_cons_zero, List.eraseIdx_cons_succ, List.cons_append, List.nil_append, Option.toList]
        refine R_drop 1 ?_
        try dsimp only [List.set_cons_zero, List.set_cons_succ, List.eraseIdx_cons_zero, List.eraseIdx_cons_succ, List.cons_append, List.nil_append, Option.toList]
        refine R_order (pkS 3 rfl (pkS 2 rfl (pkS 1 rfl (pkS 0 rfl pk0)))) ?_
        try dsimp only [List.set_cons_zero, List.set_cons_succ, List.eraseIdx_cons_zero, List.eraseIdx_cons_succ, List.cons_append, List.nil_append, Option.toList]
        exact R_return d_prog_3_method_5_code_184 rfl ⟨_, _, rfl, by rw [hin.2]; rw [cpB_len]; omega, by rw [hin.2]; rw [cpB_len]; omega, hin.1, rfl⟩ (Nat.le_of_ble_eq_true rfl) (Nat.le_of_ble_eq_true rfl)
    · exact absurd ((i32_lt_iff (by omega) (by omega)).mp g2) (by omega)
  · exact absurd ((i32_eq_iff (a := cs.length) (b := 4096) (by omega) (by omega)).mp g1) (by omega)

set_option maxRecDepth 65536 in
set_option maxHeartbeats 4000000 in
theorem M_drD {Γ : Gx} (hw : Words Γ) (hG : Lits Γ) (ta dc : Addr) (hD : D64 Γ ta dc) (o rn rb de : Addr) (M : Nat) (X D : List Value) (cs : List Int32) (cnt : Nat) (Y' : List Value) (h0 : cs.length = 8) (Y : List Value) (hY : Y.length = 3072) (i1 i2 i3 i4 : Nat) (m1 : i1 < 128) (m2 : i2 < 128) (m3 : i3 < 128) (m4 : i4 < 128) (f1 : cs[0]? = some i1.toInt32) (f2 : cs[1]? = some i2.toInt32) (f3 : cs[2]? = some i3.toInt32) (f4 : cs[3]? = some i4.toInt32) (u1 u2 u3 u4 : Int32) (q1 : tab64[i1]? = some u1) (x1 : V6 u1) (q2 : tab64[i2]? = some u2) (x2 : V6 u2) (q3 : tab64[i3]? = some u3) (x3 : V6 u3) (q4 : tab64[i4]? = some u4) (x4 : V6 u4) (j1 j2 j3 j4 : Nat) (k1 : j1 < 128) (k2 : j2 < 128) (k3 : j3 < 128) (k4 : j4 < 128) (e1 : cs[4 + 0]? = some j1.toInt32) (e2 : cs[4 + 1]? = some j2.toInt32) (e3 : cs[4 + 2]? = some j3.toInt32) (e4 : cs[4 + 3]? = some j4.toInt32) (v1 v2 v3 v4 : Int32) (t1 : tab64[j1]? = some v1) (z1 : V6 v1) (t2 : tab64[j2]? = some v2) (z2 : V6 v2) (t3 : tab64[j3]? = some v3) (z3 : V6 v3) (t4 : tab64[j4]? = some v4) (z4 : V6 v4) (hcnt : cnt = 3 + 3) (hY' : Y' = ((((((Y.set 0 (.int (y0 u1 u2))).set 1 (.int (y1 u2 u3))).set 2 (.int (y2 u3 u4))).set (3 + 0) (.int (y0 v1 v2))).set (3 + 1) (.int (y1 v2 v3))).set (3 + 2) (.int (y2 v3 v4)))) (hM : cnt ≤ M) (hM2 : M ≤ 23) (hD2 : D.length ≤ 23) :
    MetX Γ (⟨"com/example/delta_mirror/deltamirror/rrdp/Base64Binary", "decodeRun", "()V"⟩ : MethodName) prog_3_method_5_code 5 none [(29, 41, 44, 66)] ({ frames := 3, cells := 2, slots := 48, locals := 64 } : Room) #[(.ref o)] [(o, true, BBO Γ rn rb de M.toInt32 cs.length.toInt32 0), (rn, true, BA Γ (cs.map Value.int ++ X)), (rb, true, BA Γ Y), (de, true, BA Γ D)] (fun v O' => ∃ (de' : Addr) (D' : List Value), v = none ∧ D'.length ≤ 23 ∧ cnt ≤ D'.length ∧ D'.take cnt = Y'.take cnt ∧ O' = [(o, true, BBO Γ rn rb de' M.toInt32 0 cnt.toInt32), (rn, true, BA Γ (cs.map Value.int ++ X)), (rb, true, BA Γ Y'), (de', true, BA Γ D')]) := by
  refine MetX.intro pn_com_example_delta_mirror_deltamirror_rrdp_Base64Binary (Ls := [.val (.ref o), .unset, .unset, .unset, .unset]) (fun m => by first | rfl | (simp [entryFrame, mkF, argsToLocals, Value.category]; done)) ?_
  intro F
  refine R_alen (mem 3 rfl) fun hld => ?_
  obtain ⟨sta, sdc, ⟨cta, xta, yta⟩, ⟨cdc, xdc, ydc⟩⟩ := id hD
  have hcs : cs.length ≤ 8 := by omega
  have hy' : Y'.length = 3072 := by rw [hY']; first | exact hY | (simp only [List.length_set]; exact hY)
  have hc3 : cnt ≤ 6 := by omega
  refine R_aloadN d_prog_3_method_5_code_0 rfl rfl ?_
  refine R_getfield d_prog_3_method_5_code_1 (hw _ (mem 45 rfl)) Via.refl (mem 0 rfl) (mem 4 rfl) ?_
  refine R_sipush (4096) d_prog_3_method_5_code_4 (by decide) ?_
  refine R_icmp_ne (pc' := 17) d_prog_3_method_5_code_7 (by decide) (by decide) (fun g1 => ?_) (fun g1 => ?_)
  · refine R_aloadN d_prog_3_method_5_code_17 rfl rfl ?_
    refine R_getfield d_prog_3_method_5_code_18 (hw _ (mem 32 rfl)) Via.refl (mem 0 rfl) (mem 0 rfl) ?_
    refine R_aloadN d_prog_3_method_5_code_21 rfl rfl ?_
    refine R_getfield d_prog_3_method_5_code_22 (hw _ (mem 45 rfl)) Via.refl (mem 0 rfl) (mem 4 rfl) ?_
    refine R_call (S_static (as := [_, _]) (rest := _) d_prog_3_method_5_code_25 (hw _ (mem 107 rfl)) (hw _ (mem 108 rfl)) (hw _ (mem 109 rfl)) (hw _ (mem 110 rfl)) (by decide) pd_oaBIcaB rfl rfl rfl) (M_cpB hw rn true (cs.map Value.int ++ X) cs.length (by omega)) (pkS 1 rfl pk0) (hw _ (mem 110 rfl)) (hw _ (mem 109 rfl)) (Nat.le_of_ble_eq_true rfl) (Nat.le_of_ble_eq_true rfl) (Nat.le_of_ble_eq_true rfl) (Nat.le_of_ble_eq_true rfl) ?_
    rintro _ _ ⟨sr, rfl, rfl⟩
    try dsimp only [List.set_cons_zero, List.set_cons_succ, List.eraseIdx_cons_zero, List.eraseIdx_cons_succ, List.cons_append, List.nil_append, Option.toList]
    rw [cp_run]
    refine R_astoreN d_prog_3_method_5_code_28 rfl rfl (by first | exact Or.inl rfl | exact Or.inr ⟨_, rfl, rfl⟩) ?_
    try dsimp only [List.set_cons_zero, List.set_cons_succ, List.eraseIdx_cons_zero, List.eraseIdx_cons_succ, List.cons_append, List.nil_append, Option.toList]
    refine R_getstatic d_prog_3_method_5_code_29 (hw _ (mem 116 rfl)) Via.refl sdc ?_
    refine R_share xdc ydc ?_
    refine R_aloadN d_prog_3_method_5_code_32 rfl rfl ?_
    refine R_aloadN d_prog_3_method_5_code_33 rfl rfl ?_
    refine R_getfield d_prog_3_method_5_code_34 (hw _ (mem 34 rfl)) Via.refl (mem 3 rfl) (mem 1 rfl) ?_
    refine R_call (S_virtual (as := [_, _]) (rest := _) (mem 0 rfl) d_prog_3_method_5_code_37 (hw _ (mem 118 rfl)) (hw _ (mem 119 rfl)) (nf_sel (hw _ (mem 121 rfl))) (hw _ (mem 121 rfl)) (hw _ (mem 120 rfl)) (by decide) pd_oaBaBcI rfl rfl rfl) (M_deD hw ta dc hD sr rb true cs cnt Y' h0 Y hY i1 i2 i3 i4 m1 m2 m3 m4 f1 f2 f3 f4 u1 u2 u3 u4 q1 x1 q2 x2 q3 x3 q4 x4 j1 j2 j3 j4 k1 k2 k3 k4 e1 e2 e3 e4 v1 v2 v3 v4 t1 z1 t2 z2 t3 z3 t4 z4 hcnt hY') (pkS 0 rfl (pkS 0 rfl (pkS 2 rfl pk0))) (hw _ (mem 123 rfl)) (hw _ (mem 122 rfl)) (Nat.le_of_ble_eq_true rfl) (Nat.le_of_ble_eq_true rfl) (Nat.le_of_ble_eq_true rfl) (Nat.le_of_ble_eq_true rfl) ?_
    rintro _ _ ⟨rfl, rfl⟩
    try dsimp only [List.set_cons_zero, List.set_cons_succ, List.eraseIdx_cons_zero, List.eraseIdx_cons_succ, List.cons_append, List.nil_append, Option.toList]
    refine R_drop 0 ?_
    refine R_drop 0 ?_
    try dsimp only [List.set_cons_zero, List.set_cons_succ, List.eraseIdx_cons_zero, List.eraseIdx_cons_succ, List.cons_append, List.nil_append, Option.toList]
    refine R_istoreN d_prog_3_method_5_code_40 rfl (by first | exact Or.inl rfl | exact Or.inr ⟨_, rfl, rfl⟩) ?_
    try dsimp only [List.set_cons_zero, List.set_cons_succ, List.eraseIdx_cons_zero, List.eraseIdx_cons_succ, List.cons_append, List.nil_append, Option.toList]
    refine R_goto (pc' := 63) d_prog_3_method_5_code_41 (by decide) (by decide) ?_
    refine R_aloadN d_prog_3_method_5_code_63 rfl rfl ?_
    refine R_getfield d_prog_3_method_5_code_64 (hw _ (mem 141 rfl)) Via.refl (mem 2 rfl) (mem 5 rfl) ?_
    refine R_iloadN d_prog_3_method_5_code_67 rfl ?_
    refine R_iadd d_prog_3_method_5_code_68 ?_
    rw [show (0 : Int32) + cnt.toInt32 = cnt.toInt32 from by simp]
    refine R_istoreN d_prog_3_method_5_code_69 rfl (by first | exact Or.inl rfl | exact Or.inr ⟨_, rfl, rfl⟩) ?_
    try dsimp only [List.set_cons_zero, List.set_cons_succ, List.eraseIdx_cons_zero, List.eraseIdx_cons_succ, List.cons_append, List.nil_append, Option.toList]
    refine R_iloadN d_prog_3_method_5_code_70 rfl ?_
    refine R_aloadN d_prog_3_method_5_code_71 rfl rfl ?_
    refine R_getfield d_prog_3_method_5_code_72 (hw _ (mem 38 rfl)) Via.refl (mem 2 rfl) (mem 3 rfl) ?_
    refine R_icmp_le (pc' := 109) d_prog_3_method_5_code_75 (by decide) (by decide) (fun g2 => ?_) (fun g2 => ?_)
    · refine R_iloadN d_prog_3_method_5_code_109 rfl ?_
      refine R_aloadN d_prog_3_method_5_code_110 rfl rfl ?_
      refine R_getfield d_prog_3_method_5_code_111 (hw _ (mem 36 rfl)) Via.refl (mem 2 rfl) (mem 2 rfl) ?_
      refine R_arraylength d_prog_3_method_5_code_114 (mem 3 rfl) D.length.toInt32 rfl ?_
      refine R_icmp_le (pc' := 157) d_prog_3_method_5_code_115 (by decide) (by decide) (fun g3 => ?_) (fun g3 => ?_)
      · have hle : cnt ≤ D.length := by have := mt (i32_lt_iff (by omega) (by omega)).mpr g3; omega
        refine R_aloadN d_prog_3_method_5_code_157 rfl rfl ?_
        refine R_getfield d_prog_3_method_5_code_158 (hw _ (mem 34 rfl)) Via.refl (mem 2 rfl) (mem 1 rfl) ?_
        refine R_iconst (0) d_prog_3_method_5_code_161 (by decide) ?_
        refine R_aloadN d_prog_3_method_5_code_162 rfl rfl ?_
        refine R_getfield d_prog_3_method_5_code_163 (hw _ (mem 36 rfl)) Via.refl (mem 2 rfl) (mem 2 rfl) ?_
        refine R_aloadN d_prog_3_method_5_code_166 rfl rfl ?_
        refine R_getfield d_prog_3_method_5_code_167 (hw _ (mem 141 rfl)) Via.refl (mem 2 rfl) (mem 5 rfl) ?_
        refine R_iloadN d_prog_3_method_5_code_170 rfl ?_
        have hin := cp_in Y' D cnt (by omega) (by omega)
        refine R_arraycopy (us := (List.take cnt (List.drop 0 Y'))) 3 d_prog_3_method_5_code_171 (hw _ (mem 150 rfl)) (hw _ (mem 115 rfl)) (hw _ (mem 113 rfl)) (hw _ (mem 114 rfl)) (mem 0 rfl) rfl 0 0 cnt (by decide) (by decide) (i32_nn (by omega)) rfl rfl (i32_cl (by omega)) (by omega) (by omega) rfl (Or.inl ⟨rfl, rfl⟩) rfl (Nat.le_of_ble_eq_true rfl) (Nat.le_of_ble_eq_true rfl) ?_
        try dsimp only [List.set_cons_zero, List.set_cons_succ, List.eraseIdx_cons_zero, List.eraseIdx_cons_succ, List.cons_append, List.nil_append, Option.toList]
        refine R_aloadN d_prog_3_method_5_code_174 rfl rfl ?_
        refine R_iloadN d_prog_3_method_5_code_175 rfl ?_
        refine R_putfield 2 5 d_prog_3_method_5_code_176 (hw _ (mem 141 rfl)) Via.refl rfl rfl rfl (Or.inl (hw _ (mem 142 rfl))) (hw _ (mem 23 rfl)) (ty := .int) (by decide) _ rfl rfl ?_
        try dsimp only [List.set_cons_zero, List.set_cons_succ, List.eraseIdx_cons_zero, List.eraseIdx_cons_succ, List.cons_append, List.nil_append, Option.toList]
        refine R_aloadN d_prog_3_method_5_code_179 rfl rfl ?_
        refine R_iconst (0) d_prog_3_method_5_code_180 (by decide) ?_
        refine R_putfield 2 4 d_prog_3_method_5_code_181 (hw _ (mem 45 rfl)) Via.refl rfl rfl rfl (Or.inl (hw _ (mem 46 rfl))) (hw _ (mem 23 rfl)) (ty := .int) (by decide) _ rfl rfl ?_
        try dsimp only [List.set_cons_zero, List.set_cons_succ, List.eraseIdx_cons_zero, List.eraseIdx_cons_succ, List.cons_append, List.nil_append, Option.toList]
        refine R_order (pkS 2 rfl (pkS 1 rfl (pkS 0 rfl (pkS 0 rfl pk0)))) ?_
        try dsimp only [List.set_cons_zero, List.set_cons_succ, List.eraseIdx_cons_zero, List.eraseIdx_cons_succ, List.cons_append, List.nil_append, Option.toList]
        exact R_return d_prog_3_method_5_code_184 rfl ⟨_, _, rfl, by rw [hin.2]; omega, by rw [hin.2]; omega, hin.1, rfl⟩ (Nat.le_of_ble_eq_true rfl) (Nat.le_of_ble_eq_true rfl)
      · have hgt : D.length < cnt := (i32_lt_iff (by omega) (by omega)).mp g3
        refine R_aloadN d_prog_3_method_5_code_118 rfl rfl ?_
        refine R_getfield d_prog_3_method_5_code_119 (hw _ (mem 38 rfl)) Via.refl (mem 2 rfl) (mem 3 rfl) ?_
        refine R_i2l d_prog_3_method_5_code_122 ?_
        refine R_iloadN d_prog_3_method_5_code_123 rfl ?_
        refine R_i2l d_prog_3_method_5_code_124 ?_
        refine R_ldc2L d_prog_3_method_5_code_125 (hw _ (mem 143 rfl)) ?_
        refine R_aloadN d_prog_3_method_5_code_128 rfl rfl ?_
        refine R_getfield d_prog_3_method_5_code_129 (hw _ (mem 36 rfl)) Via.refl (mem 2 rfl) (mem 2 rfl) ?_
        refine R_arraylength d_prog_3_method_5_code_132 (mem 3 rfl) D.length.toInt32 rfl ?_
        refine R_i2l d_prog_3_method_5_code_133 ?_
        rw [i2l_n (by omega), i2l_n (by omega), i2l_n (by omega)]
        refine R_lmul d_prog_3_method_5_code_134 ?_
        rw [two_n]
        refine R_call (S_static (as := [_, _]) (rest := _) d_prog_3_method_5_code_135 (hw _ (mem 144 rfl)) (hw _ (mem 145 rfl)) (hw _ (mem 8 rfl)) (hw _ (mem 146 rfl)) (by decide) pd_oJJcJ rfl rfl rfl) (M_maxJ hw cnt (2 * D.length) (by omega) (by omega)) pk0 (hw _ (mem 146 rfl)) (hw _ (mem 8 rfl)) (Nat.le_of_ble_eq_true rfl) (Nat.le_of_ble_eq_true rfl) (Nat.le_of_ble_eq_true rfl) (Nat.le_of_ble_eq_true rfl) ?_
        rintro _ _ ⟨rfl, rfl⟩
        try dsimp only [List.set_cons_zero, List.set_cons_succ, List.eraseIdx_cons_zero, List.eraseIdx_cons_succ, List.cons_append, List.nil_append, Option.toList]
        refine R_call (S_static (as := [_, _]) (rest := _) d_prog_3_method_5_code_138 (hw _ (mem 147 rfl)) (hw _ (mem 148 rfl)) (hw _ (mem 8 rfl)) (hw _ (mem 149 rfl)) (by decide) pd_oJJcJ rfl rfl rfl) (M_minJ hw M (max cnt (2 * D.length)) (by omega) (by omega)) pk0 (hw _ (mem 149 rfl)) (hw _ (mem 8 rfl)) (Nat.le_of_ble_eq_true rfl) (Nat.le_of_ble_eq_true rfl) (Nat.le_of_ble_eq_true rfl) (Nat.le_of_ble_eq_true rfl) ?_
        rintro _ _ ⟨rfl, rfl⟩
        try dsimp only [List.set_cons_zero, List.set_cons_succ, List.eraseIdx_cons_zero, List.eraseIdx_cons_succ, List.cons_append, List.nil_append, Option.toList]
        refine R_l2i d_prog_3_method_5_code_141 ?_
        rw [l2i_n]
        refine R_istore d_prog_3_method_5_code_142 rfl (by first | exact Or.inl rfl | exact Or.inr ⟨_, rfl, rfl⟩) ?_
        try dsimp only [List.set_cons_zero, List.set_cons_succ, List.eraseIdx_cons_zero, List.eraseIdx_cons_succ, List.cons_append, List.nil_append, Option.toList]
        refine R_aloadN d_prog_3_method_5_code_144 rfl rfl ?_
        refine R_aloadN d_prog_3_method_5_code_145 rfl rfl ?_
        refine R_getfield d_prog_3_method_5_code_146 (hw _ (mem 36 rfl)) Via.refl (mem 2 rfl) (mem 2 rfl) ?_
        refine R_iload d_prog_3_method_5_code_149 rfl ?_
        refine R_call (S_static (as := [_, _]) (rest := _) d_prog_3_method_5_code_151 (hw _ (mem 107 rfl)) (hw _ (mem 108 rfl)) (hw _ (mem 109 rfl)) (hw _ (mem 110 rfl)) (by decide) pd_oaBIcaB rfl rfl rfl) (M_cpB hw de true D (min M (max cnt (2 * D.length))) (by omega)) (pkS 3 rfl pk0) (hw _ (mem 110 rfl)) (hw _ (mem 109 rfl)) (Nat.le_of_ble_eq_true rfl) (Nat.le_of_ble_eq_true rfl) (Nat.le_of_ble_eq_true rfl) (Nat.le_of_ble_eq_true rfl) ?_
        rintro _ _ ⟨de2, rfl, rfl⟩
        try dsimp only [List.set_cons_zero, List.set_cons_succ, List.eraseIdx_cons_zero, List.eraseIdx_cons_succ, List.cons_append, List.nil_append, Option.toList]
        refine R_putfield 4 2 d_prog_3_method_5_code_154 (hw _ (mem 36 rfl)) Via.refl rfl rfl rfl (Or.inl (hw _ (mem 37 rfl))) (hw _ (mem 23 rfl)) (ty := (.array .byte)) (by decide) _ rfl rfl ?_
        try dsimp only [List.set_cons_zero, List.set_cons_succ, List.eraseIdx_cons_zero, List.eraseIdx_cons_succ, List.cons_append, List.nil_append, Option.toList]
        refine R_aloadN d_prog_3_method_5_code_157 rfl rfl ?_
        refine R_getfield d_prog_3_method_5_code_158 (hw _ (mem 34 rfl)) Via.refl (mem 4 rfl) (mem 1 rfl) ?_
        refine R_iconst (0) d_prog_3_method_5_code_161 (by decide) ?_
        refine R_aloadN d_prog_3_method_5_code_162 rfl rfl ?_
        refine R_getfield d_prog_3_method_5_code_163 (hw _ (mem 36 rfl)) Via.refl (mem 4 rfl) (mem 2 rfl) ?_
        refine R_aloadN d_prog_3_method_5_code_166 rfl rfl ?_
        refine R_getfield d_prog_3_method_5_code_167 (hw _ (mem 141 rfl)) Via.refl (mem 4 rfl) (mem 5 rfl) ?_
        refine R_iloadN d_prog_3_method_5_code_170 rfl ?_
        have hin := cp_in Y' (cpB D (min M (max cnt (2 * D.length)))) cnt (by rw [cpB_len]; omega) (by omega)
        refine R_arraycopy (us := (List.take cnt (List.drop 0 Y'))) 0 d_prog_3_method_5_code_171 (hw _ (mem 150 rfl)) (hw _ (mem 115 rfl)) (hw _ (mem 113 rfl)) (hw _ (mem 114 rfl)) (mem 2 rfl) rfl 0 0 cnt (by decide) (by decide) (i32_nn (by omega)) rfl rfl (i32_cl (by omega)) (by omega) (by rw [cpB_len]; omega) rfl (Or.inl ⟨rfl, rfl⟩) rfl (Nat.le_of_ble_eq_true rfl) (Nat.le_of_ble_eq_true rfl) ?_
        try dsimp only [List.set_cons_zero, List.set_cons_succ, List.eraseIdx_cons_zero, List.eraseIdx_cons_succ, List.cons_append, List.nil_append, Option.toList]
        refine R_aloadN d_prog_3_method_5_code_174 rfl rfl ?_
        refine R_iloadN d_prog_3_method_5_code_175 rfl ?_
        refine R_putfield 4 5 d_prog_3_method_5_code_176 (hw _ (mem 141 rfl)) Via.refl rfl rfl rfl (Or.inl (hw _ (mem 142 rfl))) (hw _ (mem 23 rfl)) (ty := .int) (by decide) _ rfl rfl ?_
        try dsimp only [List.set_cons_zero, List.set_cons_succ, List.eraseIdx_cons_zero, List.eraseIdx_cons_succ, List.cons_append, List.nil_append, Option.toList]
        refine R_aloadN d_prog_3_method_5_code_179 rfl rfl ?_
        refine R_iconst (0) d_prog_3_method_5_code_180 (by decide) ?_
        refine R_putfield 4 4 d_prog_3_method_5_code_181 (hw _ (mem 45 rfl)) Via.refl rfl rfl rfl (Or.inl (hw _ (mem 46 rfl))) (hw _ (mem 23 rfl)) (ty := .int) (by decide) _ rfl rfl ?_
        try dsimp only [List.set_cons_zero, List.set_cons_succ, List.eraseIdx_cons_zero, List.eraseIdx_cons_succ, List.cons_append, List.nil_append, Option.toList]
        refine R_drop 1 ?_
        try dsimp only [List.set_cons_zero, List.set_cons_succ, List.eraseIdx_cons_zero, List.eraseIdx_cons_succ, List.cons_append, List.nil_append, Option.toList]
        refine R_order (pkS 3 rfl (pkS 2 rfl (pkS 1 rfl (pkS 0 rfl pk0)))) ?_
        try dsimp only [List.set_cons_zero, List.set_cons_succ, List.eraseIdx_cons_zero, List.eraseIdx_cons_succ, List.cons_append, List.nil_append, Option.toList]
        exact R_return d_prog_3_method_5_code_184 rfl ⟨_, _, rfl, by rw [hin.2]; rw [cpB_len]; omega, by rw [hin.2]; rw [cpB_len]; omega, hin.1, rfl⟩ (Nat.le_of_ble_eq_true rfl) (Nat.le_of_ble_eq_true rfl)
    · exact absurd ((i32_lt_iff (by omega) (by omega)).mp g2) (by omega)
  · exact absurd ((i32_eq_iff (a := cs.length) (b := 4096) (by omega) (by omega)).mp g1) (by omega)

set_option maxRecDepth 65536 in
set_option maxHeartbeats 4000000 in
theorem M_drE {Γ : Gx} (hw : Words Γ) (hG : Lits Γ) (ta dc : Addr) (hD : D64 Γ ta dc) (o rn rb de : Addr) (M : Nat) (X D : List Value) (cs : List Int32) (cnt : Nat) (Y' : List Value) (h0 : cs.length = 8) (Y : List Value) (hY : Y.length = 3072) (i1 i2 i3 i4 : Nat) (m1 : i1 < 128) (m2 : i2 < 128) (m3 : i3 < 128) (m4 : i4 < 128) (f1 : cs[0]? = some i1.toInt32) (f2 : cs[1]? = some i2.toInt32) (f3 : cs[2]? = some i3.toInt32) (f4 : cs[3]? = some i4.toInt32) (u1 u2 u3 u4 : Int32) (q1 : tab64[i1]? = some u1) (x1 : V6 u1) (q2 : tab64[i2]? = some u2) (x2 : V6 u2) (q3 : tab64[i3]? = some u3) (x3 : V6 u3) (q4 : tab64[i4]? = some u4) (x4 : V6 u4) (j1 j2 j3 j4 : Nat) (k1 : j1 < 128) (k2 : j2 < 128) (k3 : j3 < 128) (k4 : j4 < 128) (e1 : cs[4 + 0]? = some j1.toInt32) (e2 : cs[4 + 1]? = some j2.toInt32) (e3 : cs[4 + 2]? = some j3.toInt32) (e4 : cs[4 + 3]? = some j4.toInt32) (v1 v2 v3 v4 : Int32) (t1 : tab64[j1]? = some v1) (z1 : V6 v1) (t2 : tab64[j2]? = some v2) (z2 : V6 v2) (t3 : tab64[j3]? = some v3) (z3 : V6 v3) (j4e : j4 = 61) (t4 : tab64[j4]? = some (-2)) (hcnt : cnt = 3 + 2) (hY' : Y' = (((((Y.set 0 (.int (y0 u1 u2))).set 1 (.int (y1 u2 u3))).set 2 (.int (y2 u3 u4))).set (3 + 0) (.int (y0 v1 v2))).set (3 + 1) (.int (y1 v2 v3)))) (hM : cnt ≤ M) (hM2 : M ≤ 23) (hD2 : D.length ≤ 23) :
    MetX Γ (⟨"com/example/delta_mirror/deltamirror/rrdp/Base64Binary", "decodeRun", "()V"⟩ : MethodName) prog_3_method_5_code 5 none [(29, 41, 44, 66)] ({ frames := 3, cells := 2, slots := 48, locals := 64 } : Room) #[(.ref o)] [(o, true, BBO Γ rn rb de M.toInt32 cs.length.toInt32 0), (rn, true, BA Γ (cs.map Value.int ++ X)), (rb, true, BA Γ Y), (de, true, BA Γ D)] (fun v O' => ∃ (de' : Addr) (D' : List Value), v = none ∧ D'.length ≤ 23 ∧ cnt ≤ D'.length ∧ D'.take cnt = Y'.take cnt ∧ O' = [(o, true, BBO Γ rn rb de' M.toInt32 0 cnt.toInt32), (rn, true, BA Γ (cs.map Value.int ++ X)), (rb, true, BA Γ Y'), (de', true, BA Γ D')]) := by
  refine MetX.intro pn_com_example_delta_mirror_deltamirror_rrdp_Base64Binary (Ls := [.val (.ref o), .unset, .unset, .unset, .unset]) (fun m => by first | rfl | (simp [entryFrame, mkF, argsToLocals, Value.category]; done)) ?_
  intro F
  refine R_alen (mem 3 rfl) fun hld => ?_
  obtain ⟨sta, sdc, ⟨cta, xta, yta⟩, ⟨cdc, xdc, ydc⟩⟩ := id hD
  have hcs : cs.length ≤ 8 := by omega
  have hy' : Y'.length = 3072 := by rw [hY']; first | exact hY | (simp only [List.length_set]; exact hY)
  have hc3 : cnt ≤ 6 := by omega
  refine R_aloadN d_prog_3_method_5_code_0 rfl rfl ?_
  refine R_getfield d_prog_3_method_5_code_1 (hw _ (mem 45 rfl)) Via.refl (mem 0 rfl) (mem 4 rfl) ?_
  refine R_sipush (4096) d_prog_3_method_5_code_4 (by decide) ?_
  refine R_icmp_ne (pc' := 17) d_prog_3_method_5_code_7 (by decide) (by decide) (fun g1 => ?_) (fun g1 => ?_)
  · refine R_aloadN d_prog_3_method_5_code_17 rfl rfl ?_
    refine R_getfield d_prog_3_method_5_code_18 (hw _ (mem 32 rfl)) Via.refl (mem 0 rfl) (mem 0 rfl) ?_
    refine R_aloadN d_prog_3_method_5_code_21 rfl rfl ?_
    refine R_getfield d_prog_3_method_5_code_22 (hw _ (mem 45 rfl)) Via.refl (mem 0 rfl) (mem 4 rfl) ?_
    refine R_call (S_static (as := [_, _]) (rest := _) d_prog_3_method_5_code_25 (hw _ (mem 107 rfl)) (hw _ (mem 108 rfl)) (hw _ (mem 109 rfl)) (hw _ (mem 110 rfl)) (by decide) pd_oaBIcaB rfl rfl rfl) (M_cpB hw rn true (cs.map Value.int ++ X) cs.length (by omega)) (pkS 1 rfl pk0) (hw _ (mem 110 rfl)) (hw _ (mem 109 rfl)) (Nat.le_of_ble_eq_true rfl) (Nat.le_of_ble_eq_true rfl) (Nat.le_of_ble_eq_true rfl) (Nat.le_of_ble_eq_true rfl) ?_
    rintro _ _ ⟨sr, rfl, rfl⟩
    try dsimp only [List.set_cons_zero, List.set_cons_succ, List.eraseIdx_cons_zero, List.eraseIdx_cons_succ, List.cons_append, List.nil_append, Option.toList]
    rw [cp_run]
    refine R_astoreN d_prog_3_method_5_code_28 rfl rfl (by first | exact Or.inl rfl | exact Or.inr ⟨_, rfl, rfl⟩) ?_
    try dsimp only [List.set_cons_zero, List.set_cons_succ, List.eraseIdx_cons_zero, List.eraseIdx_cons_succ, List.cons_append, List.nil_append, Option.toList]
    refine R_getstatic d_prog_3_method_5_code_29 (hw _ (mem 116 rfl)) Via.refl sdc ?_
    refine R_share xdc ydc ?_
    refine R_aloadN d_prog_3_method_5_code_32 rfl rfl ?_
    refine R_aloadN d_prog_3_method_5_code_33 rfl rfl ?_
    refine R_getfield d_prog_3_method_5_code_34 (hw _ (mem 34 rfl)) Via.refl (mem 3 rfl) (mem 1 rfl) ?_
    refine R_call (S_virtual (as := [_, _]) (rest := _) (mem 0 rfl) d_prog_3_method_5_code_37 (hw _ (mem 118 rfl)) (hw _ (mem 119 rfl)) (nf_sel (hw _ (mem 121 rfl))) (hw _ (mem 121 rfl)) (hw _ (mem 120 rfl)) (by decide) pd_oaBaBcI rfl rfl rfl) (M_deE hw ta dc hD sr rb true cs cnt Y' h0 Y hY i1 i2 i3 i4 m1 m2 m3 m4 f1 f2 f3 f4 u1 u2 u3 u4 q1 x1 q2 x2 q3 x3 q4 x4 j1 j2 j3 j4 k1 k2 k3 k4 e1 e2 e3 e4 v1 v2 v3 v4 t1 z1 t2 z2 t3 z3 j4e t4 hcnt hY') (pkS 0 rfl (pkS 0 rfl (pkS 2 rfl pk0))) (hw _ (mem 123 rfl)) (hw _ (mem 122 rfl)) (Nat.le_of_ble_eq_true rfl) (Nat.le_of_ble_eq_true rfl) (Nat.le_of_ble_eq_true rfl) (Nat.le_of_ble_eq_true rfl) ?_
    rintro _ _ ⟨rfl, rfl⟩
    try dsimp only [List.set_cons_zero, List.set_cons_succ, List.eraseIdx_cons_zero, List.eraseIdx_cons_succ, List.cons_append, List.nil_append, Option.toList]
    refine R_drop 0 ?_
    refine R_drop 0 ?_
    try dsimp only [List.set_cons_zero, List.set_cons_succ, List.eraseIdx_cons_zero, List.eraseIdx_cons_succ, List.cons_append, List.nil_append, Option.toList]
    refine R_istoreN d_prog_3_method_5_code_40 rfl (by first | exact Or.inl rfl | exact Or.inr ⟨_, rfl, rfl⟩) ?_
    try dsimp only [List.set_cons_zero, List.set_cons_succ, List.eraseIdx_cons_zero, List.eraseIdx_cons_succ, List.cons_append, List.nil_append, Option.toList]
    refine R_goto (pc' := 63) d_prog_3_method_5_code_41 (by decide) (by decide) ?_
    refine R_aloadN d_prog_3_method_5_code_63 rfl rfl ?_
    refine R_getfield d_prog_3_method_5_code_64 (hw _ (mem 141 rfl)) Via.refl (mem 2 rfl) (mem 5 rfl) ?_
    refine R_iloadN d_prog_3_method_5_code_67 rfl ?_
    refine R_iadd d_prog_3_method_5_code_68 ?_
    rw [show (0 : Int32) + cnt.toInt32 = cnt.toInt32 from by simp]
    refine R_istoreN d_prog_3_method_5_code_69 rfl (by first | exact Or.inl rfl | exact Or.inr ⟨_, rfl, rfl⟩) ?_
    try dsimp only [List.set_cons_zero, List.set_cons_succ, List.eraseIdx_cons_zero, List.eraseIdx_cons_succ, List.cons_append, List.nil_append, Option.toList]
    refine R_iloadN d_prog_3_method_5_code_70 rfl ?_
    refine R_aloadN d_prog_3_method_5_code_71 rfl rfl ?_
    refine R_getfield d_prog_3_method_5_code_72 (hw _ (mem 38 rfl)) Via.refl (mem 2 rfl) (mem 3 rfl) ?_
    refine R_icmp_le (pc' := 109) d_prog_3_method_5_code_75 (by decide) (by decide) (fun g2 => ?_) (fun g2 => ?_)
    · refine R_iloadN d_prog_3_method_5_code_109 rfl ?_
      refine R_aloadN d_prog_3_method_5_code_110 rfl rfl ?_
      refine R_getfield d_prog_3_method_5_code_111 (hw _ (mem 36 rfl)) Via.refl (mem 2 rfl) (mem 2 rfl) ?_
      refine R_arraylength d_prog_3_method_5_code_114 (mem 3 rfl) D.length.toInt32 rfl ?_
      refine R_icmp_le (pc' := 157) d_prog_3_method_5_code_115 (by decide) (by decide) (fun g3 => ?_) (fun g3 => ?_)
      · have hle : cnt ≤ D.length := by have := mt (i32_lt_iff (by omega) (by omega)).mpr g3; omega
        refine R_aloadN d_prog_3_method_5_code_157 rfl rfl ?_
        refine R_getfield d_prog_3_method_5_code_158 (hw _ (mem 34 rfl)) Via.refl (mem 2 rfl) (mem 1 rfl) ?_
        refine R_iconst (0) d_prog_3_method_5_code_161 (by decide) ?_
        refine R_aloadN d_prog_3_method_5_code_162 rfl rfl ?_
        refine R_getfield d_prog_3_method_5_code_163 (hw _ (mem 36 rfl)) Via.refl (mem 2 rfl) (mem 2 rfl) ?_
        refine R_aloadN d_prog_3_method_5_code_166 rfl rfl ?_
        refine R_getfield d_prog_3_method_5_code_167 (hw _ (mem 141 rfl)) Via.refl (mem 2 rfl) (mem 5 rfl) ?_
        refine R_iloadN d_prog_3_method_5_code_170 rfl ?_
        have hin := cp_in Y' D cnt (by omega) (by omega)
        refine R_arraycopy (us := (List.take cnt (List.drop 0 Y'))) 3 d_prog_3_method_5_code_171 (hw _ (mem 150 rfl)) (hw _ (mem 115 rfl)) (hw _ (mem 113 rfl)) (hw _ (mem 114 rfl)) (mem 0 rfl) rfl 0 0 cnt (by decide) (by decide) (i32_nn (by omega)) rfl rfl (i32_cl (by omega)) (by omega) (by omega) rfl (Or.inl ⟨rfl, rfl⟩) rfl (Nat.le_of_ble_eq_true rfl) (Nat.le_of_ble_eq_true rfl) ?_
        try dsimp only [List.set_cons_zero, List.set_cons_succ, List.eraseIdx_cons_zero, List.eraseIdx_cons_succ, List.cons_append, List.nil_append, Option.toList]
        refine R_aloadN d_prog_3_method_5_code_174 rfl rfl ?_
        refine R_iloadN d_prog_3_method_5_code_175 rfl ?_
        refine R_putfield 2 5 d_prog_3_method_5_code_176 (hw _ (mem 141 rfl)) Via.refl rfl rfl rfl (Or.inl (hw _ (mem 142 rfl))) (hw _ (mem 23 rfl)) (ty := .int) (by decide) _ rfl rfl ?_
        try dsimp only [List.set_cons_zero, List.set_cons_succ, List.eraseIdx_cons_zero, List.eraseIdx_cons_succ, List.cons_append, List.nil_append, Option.toList]
        refine R_aloadN d_prog_3_method_5_code_179 rfl rfl ?_
        refine R_iconst (0) d_prog_3_method_5_code_180 (by decide) ?_
        refine R_putfield 2 4 d_prog_3_method_5_code_181 (hw _ (mem 45 rfl)) Via.refl rfl rfl rfl (Or.inl (hw _ (mem 46 rfl))) (hw _ (mem 23 rfl)) (ty := .int) (by decide) _ rfl rfl ?_
        try dsimp only [List.set_cons_zero, List.set_cons_succ, List.eraseIdx_cons_zero, List.eraseIdx_cons_succ, List.cons_append, List.nil_append, Option.toList]
        refine R_order (pkS 2 rfl (pkS 1 rfl (pkS 0 rfl (pkS 0 rfl pk0)))) ?_
        try dsimp only [List.set_cons_zero, List.set_cons_succ, List.eraseIdx_cons_zero, List.eraseIdx_cons_succ, List.cons_append, List.nil_append, Option.toList]
        exact R_return d_prog_3_method_5_code_184 rfl ⟨_, _, rfl, by rw [hin.2]; omega, by rw [hin.2]; omega, hin.1, rfl⟩ (Nat.le_of_ble_eq_true rfl) (Nat.le_of_ble_eq_true rfl)
      · have hgt : D.length < cnt := (i32_lt_iff (by omega) (by omega)).mp g3
        refine R_aloadN d_prog_3_method_5_code_118 rfl rfl ?_
        refine R_getfield d_prog_3_method_5_code_119 (hw _ (mem 38 rfl)) Via.refl (mem 2 rfl) (mem 3 rfl) ?_
        refine R_i2l d_prog_3_method_5_code_122 ?_
        refine R_iloadN d_prog_3_method_5_code_123 rfl ?_
        refine R_i2l d_prog_3_method_5_code_124 ?_
        refine R_ldc2L d_prog_3_method_5_code_125 (hw _ (mem 143 rfl)) ?_
        refine R_aloadN d_prog_3_method_5_code_128 rfl rfl ?_
        refine R_getfield d_prog_3_method_5_code_129 (hw _ (mem 36 rfl)) Via.refl (mem 2 rfl) (mem 2 rfl) ?_
        refine R_arraylength d_prog_3_method_5_code_132 (mem 3 rfl) D.length.toInt32 rfl ?_
        refine R_i2l d_prog_3_method_5_code_133 ?_
        rw [i2l_n (by omega), i2l_n (by omega), i2l_n (by omega)]
        refine R_lmul d_prog_3_method_5_code_134 ?_
        rw [two_n]
        refine R_call (S_static (as := [_, _]) (rest := _) d_prog_3_method_5_code_135 (hw _ (mem 144 rfl)) (hw _ (mem 145 rfl)) (hw _ (mem 8 rfl)) (hw _ (mem 146 rfl)) (by decide) pd_oJJcJ rfl rfl rfl) (M_maxJ hw cnt (2 * D.length) (by omega) (by omega)) pk0 (hw _ (mem 146 rfl)) (hw _ (mem 8 rfl)) (Nat.le_of_ble_eq_true rfl) (Nat.le_of_ble_eq_true rfl) (Nat.le_of_ble_eq_true rfl) (Nat.le_of_ble_eq_true rfl) ?_
        rintro _ _ ⟨rfl, rfl⟩
        try dsimp only [List.set_cons_zero, List.set_cons_succ, List.eraseIdx_cons_zero, List.eraseIdx_cons_succ, List.cons_append, List.nil_append, Option.toList]
        refine R_call (S_static (as := [_, _]) (rest := _) d_prog_3_method_5_code_138 (hw _ (mem 147 rfl)) (hw _ (mem 148 rfl)) (hw _ (mem 8 rfl)) (hw _ (mem 149 rfl)) (by decide) pd_oJJcJ rfl rfl rfl) (M_minJ hw M (max cnt (2 * D.length)) (by omega) (by omega)) pk0 (hw _ (mem 149 rfl)) (hw _ (mem 8 rfl)) (Nat.le_of_ble_eq_true rfl) (Nat.le_of_ble_eq_true rfl) (Nat.le_of_ble_eq_true rfl) (Nat.le_of_ble_eq_true rfl) ?_
        rintro _ _ ⟨rfl, rfl⟩
        try dsimp only [List.set_cons_zero, List.set_cons_succ, List.eraseIdx_cons_zero, List.eraseIdx_cons_succ, List.cons_append, List.nil_append, Option.toList]
        refine R_l2i d_prog_3_method_5_code_141 ?_
        rw [l2i_n]
        refine R_istore d_prog_3_method_5_code_142 rfl (by first | exact Or.inl rfl | exact Or.inr ⟨_, rfl, rfl⟩) ?_
        try dsimp only [List.set_cons_zero, List.set_cons_succ, List.eraseIdx_cons_zero, List.eraseIdx_cons_succ, List.cons_append, List.nil_append, Option.toList]
        refine R_aloadN d_prog_3_method_5_code_144 rfl rfl ?_
        refine R_aloadN d_prog_3_method_5_code_145 rfl rfl ?_
        refine R_getfield d_prog_3_method_5_code_146 (hw _ (mem 36 rfl)) Via.refl (mem 2 rfl) (mem 2 rfl) ?_
        refine R_iload d_prog_3_method_5_code_149 rfl ?_
        refine R_call (S_static (as := [_, _]) (rest := _) d_prog_3_method_5_code_151 (hw _ (mem 107 rfl)) (hw _ (mem 108 rfl)) (hw _ (mem 109 rfl)) (hw _ (mem 110 rfl)) (by decide) pd_oaBIcaB rfl rfl rfl) (M_cpB hw de true D (min M (max cnt (2 * D.length))) (by omega)) (pkS 3 rfl pk0) (hw _ (mem 110 rfl)) (hw _ (mem 109 rfl)) (Nat.le_of_ble_eq_true rfl) (Nat.le_of_ble_eq_true rfl) (Nat.le_of_ble_eq_true rfl) (Nat.le_of_ble_eq_true rfl) ?_
        rintro _ _ ⟨de2, rfl, rfl⟩
        try dsimp only [List.set_cons_zero, List.set_cons_succ, List.eraseIdx_cons_zero, List.eraseIdx_cons_succ, List.cons_append, List.nil_append, Option.toList]
        refine R_putfield 4 2 d_prog_3_method_5_code_154 (hw _ (mem 36 rfl)) Via.refl rfl rfl rfl (Or.inl (hw _ (mem 37 rfl))) (hw _ (mem 23 rfl)) (ty := (.array .byte)) (by decide) _ rfl rfl ?_
        try dsimp only [List.set_cons_zero, List.set_cons_succ, List.eraseIdx_cons_zero, List.eraseIdx_cons_succ, List.cons_append, List.nil_append, Option.toList]
        refine R_aloadN d_prog_3_method_5_code_157 rfl rfl ?_
        refine R_getfield d_prog_3_method_5_code_158 (hw _ (mem 34 rfl)) Via.refl (mem 4 rfl) (mem 1 rfl) ?_
        refine R_iconst (0) d_prog_3_method_5_code_161 (by decide) ?_
        refine R_aloadN d_prog_3_method_5_code_162 rfl rfl ?_
        refine R_getfield d_prog_3_method_5_code_163 (hw _ (mem 36 rfl)) Via.refl (mem 4 rfl) (mem 2 rfl) ?_
        refine R_aloadN d_prog_3_method_5_code_166 rfl rfl ?_
        refine R_getfield d_prog_3_method_5_code_167 (hw _ (mem 141 rfl)) Via.refl (mem 4 rfl) (mem 5 rfl) ?_
        refine R_iloadN d_prog_3_method_5_code_170 rfl ?_
        have hin := cp_in Y' (cpB D (min M (max cnt (2 * D.length)))) cnt (by rw [cpB_len]; omega) (by omega)
        refine R_arraycopy (us := (List.take cnt (List.drop 0 Y'))) 0 d_prog_3_method_5_code_171 (hw _ (mem 150 rfl)) (hw _ (mem 115 rfl)) (hw _ (mem 113 rfl)) (hw _ (mem 114 rfl)) (mem 2 rfl) rfl 0 0 cnt (by decide) (by decide) (i32_nn (by omega)) rfl rfl (i32_cl (by omega)) (by omega) (by rw [cpB_len]; omega) rfl (Or.inl ⟨rfl, rfl⟩) rfl (Nat.le_of_ble_eq_true rfl) (Nat.le_of_ble_eq_true rfl) ?_
        try dsimp only [List.set_cons_zero, List.set_cons_succ, List.eraseIdx_cons_zero, List.eraseIdx_cons_succ, List.cons_append, List.nil_append, Option.toList]
        refine R_aloadN d_prog_3_method_5_code_174 rfl rfl ?_
        refine R_iloadN d_prog_3_method_5_code_175 rfl ?_
        refine R_putfield 4 5 d_prog_3_method_5_code_176 (hw _ (mem 141 rfl)) Via.refl rfl rfl rfl (Or.inl (hw _ (mem 142 rfl))) (hw _ (mem 23 rfl)) (ty := .int) (by decide) _ rfl rfl ?_
        try dsimp only [List.set_cons_zero, List.set_cons_succ, List.eraseIdx_cons_zero, List.eraseIdx_cons_succ, List.cons_append, List.nil_append, Option.toList]
        refine R_aloadN d_prog_3_method_5_code_179 rfl rfl ?_
        refine R_iconst (0) d_prog_3_method_5_code_180 (by decide) ?_
        refine R_putfield 4 4 d_prog_3_method_5_code_181 (hw _ (mem 45 rfl)) Via.refl rfl rfl rfl (Or.inl (hw _ (mem 46 rfl))) (hw _ (mem 23 rfl)) (ty := .int) (by decide) _ rfl rfl ?_
        try dsimp only [List.set_cons_zero, List.set_cons_succ, List.eraseIdx_cons_zero, List.eraseIdx_cons_succ, List.cons_append, List.nil_append, Option.toList]
        refine R_drop 1 ?_
        try dsimp only [List.set_cons_zero, List.set_cons_succ, List.eraseIdx_cons_zero, List.eraseIdx_cons_succ, List.cons_append, List.nil_append, Option.toList]
        refine R_order (pkS 3 rfl (pkS 2 rfl (pkS 1 rfl (pkS 0 rfl pk0)))) ?_
        try dsimp only [List.set_cons_zero, List.set_cons_succ, List.eraseIdx_cons_zero, List.eraseIdx_cons_succ, List.cons_append, List.nil_append, Option.toList]
        exact R_return d_prog_3_method_5_code_184 rfl ⟨_, _, rfl, by rw [hin.2]; rw [cpB_len]; omega, by rw [hin.2]; rw [cpB_len]; omega, hin.1, rfl⟩ (Nat.le_of_ble_eq_true rfl) (Nat.le_of_ble_eq_true rfl)
    · exact absurd ((i32_lt_iff (by omega) (by omega)).mp g2) (by omega)
  · exact absurd ((i32_eq_iff (a := cs.length) (b := 4096) (by omega) (by omega)).mp g1) (by omega)

set_option maxRecDepth 65536 in
set_option maxHeartbeats 4000000 in
theorem M_drF {Γ : Gx} (hw : Words Γ) (hG : Lits Γ) (ta dc : Addr) (hD : D64 Γ ta dc) (o rn rb de : Addr) (M : Nat) (X D : List Value) (cs : List Int32) (cnt : Nat) (Y' : List Value) (h0 : cs.length = 8) (Y : List Value) (hY : Y.length = 3072) (i1 i2 i3 i4 : Nat) (m1 : i1 < 128) (m2 : i2 < 128) (m3 : i3 < 128) (m4 : i4 < 128) (f1 : cs[0]? = some i1.toInt32) (f2 : cs[1]? = some i2.toInt32) (f3 : cs[2]? = some i3.toInt32) (f4 : cs[3]? = some i4.toInt32) (u1 u2 u3 u4 : Int32) (q1 : tab64[i1]? = some u1) (x1 : V6 u1) (q2 : tab64[i2]? = some u2) (x2 : V6 u2) (q3 : tab64[i3]? = some u3) (x3 : V6 u3) (q4 : tab64[i4]? = some u4) (x4 : V6 u4) (j1 j2 j3 j4 : Nat) (k1 : j1 < 128) (k2 : j2 < 128) (k3 : j3 < 128) (k4 : j4 < 128) (e1 : cs[4 + 0]? = some j1.toInt32) (e2 : cs[4 + 1]? = some j2.toInt32) (e3 : cs[4 + 2]? = some j3.toInt32) (e4 : cs[4 + 3]? = some j4.toInt32) (v1 v2 v3 v4 : Int32) (t1 : tab64[j1]? = some v1) (z1 : V6 v1) (t2 : tab64[j2]? = some v2) (z2 : V6 v2) (j3e : j3 = 61) (j4e : j4 = 61) (t3 : tab64[j3]? = some (-2)) (hcnt : cnt = 3 + 1) (hY' : Y' = ((((Y.set 0 (.int (y0 u1 u2))).set 1 (.int (y1 u2 u3))).set 2 (.int (y2 u3 u4))).set (3 + 0) (.int (y0 v1 v2)))) (hM : cnt ≤ M) (hM2 : M ≤ 23) (hD2 : D.length ≤ 23) :
    MetX Γ (⟨"com/example/delta_mirror/deltamirror/rrdp/Base64Binary", "decodeRun", "()V"⟩ : MethodName) prog_3_method_5_code 5 none [(29, 41, 44, 66)] ({ frames := 3, cells := 2, slots := 48, locals := 64 } : Room) #[(.ref o)] [(o, true, BBO Γ rn rb de M.toInt32 cs.length.toInt32 0), (rn, true, BA Γ (cs.map Value.int ++ X)), (rb, true, BA Γ Y), (de, true, BA Γ D)] (fun v O' => ∃ (de' : Addr) (D' : List Value), v = none ∧ D'.length ≤ 23 ∧ cnt ≤ D'.length ∧ D'.take cnt = Y'.take cnt ∧ O' = [(o, true, BBO Γ rn rb de' M.toInt32 0 cnt.toInt32), (rn, true, BA Γ (cs.map Value.int ++ X)), (rb, true, BA Γ Y'), (de', true, BA Γ D')]) := by
  refine MetX.intro pn_com_example_delta_mirror_deltamirror_rrdp_Base64Binary (Ls := [.val (.ref o), .unset, .unset, .unset, .unset]) (fun m => by first | rfl | (simp [entryFrame, mkF, argsToLocals, Value.category]; done)) ?_
  intro F
  refine R_alen (mem 3 rfl) fun hld => ?_
  obtain ⟨sta, sdc, ⟨cta, xta, yta⟩, ⟨cdc, xdc, ydc⟩⟩ := id hD
  have hcs : cs.length ≤ 8 := by omega
  have hy' : Y'.length = 3072 := by rw [hY']; first | exact hY | (simp only [List.length_set]; exact hY)
  have hc3 : cnt ≤ 6 := by omega
  refine R_aloadN d_prog_3_method_5_code_0 rfl rfl ?_
  refine R_getfield d_prog_3_method_5_code_1 (hw _ (mem 45 rfl)) Via.refl (mem 0 rfl) (mem 4 rfl) ?_
  refine R_sipush (4096) d_prog_3_method_5_code_4 (by decide) ?_
  refine R_icmp_ne (pc' := 17) d_prog_3_method_5_code_7 (by decide) (by decide) (fun g1 => ?_) (fun g1 => ?_)
  · refine R_aloadN d_prog_3_method_5_code_17 rfl rfl ?_
    refine R_getfield d_prog_3_method_5_code_18 (hw _ (mem 32 rfl)) Via.refl (mem 0 rfl) (mem 0 rfl) ?_
    refine R_aloadN d_prog_3_method_5_code_21 rfl rfl ?_
    refine R_getfield d_prog_3_method_5_code_22 (hw _ (mem 45 rfl)) Via.refl (mem 0 rfl) (mem 4 rfl) ?_
    refine R_call (S_static (as := [_, _]) (rest := _) d_prog_3_method_5_code_25 (hw _ (mem 107 rfl)) (hw _ (mem 108 rfl)) (hw _ (mem 109 rfl)) (hw _ (mem 110 rfl)) (by decide) pd_oaBIcaB rfl rfl rfl) (M_cpB hw rn true (cs.map Value.int ++ X) cs.length (by omega)) (pkS 1 rfl pk0) (hw _ (mem 110 rfl)) (hw _ (mem 109 rfl)) (Nat.le_of_ble_eq_true rfl) (Nat.le_of_ble_eq_true rfl) (Nat.le_of_ble_eq_true rfl) (Nat.le_of_ble_eq_true rfl) ?_
    rintro _ _ ⟨sr, rfl, rfl⟩
    try dsimp only [List.set_cons_zero, List.set_cons_succ, List.eraseIdx_cons_zero, List.eraseIdx_cons_succ, List.cons_append, List.nil_append, Option.toList]
    rw [cp_run]
    refine R_astoreN d_prog_3_method_5_code_28 rfl rfl (by first | exact Or.inl rfl | exact Or.inr ⟨_, rfl, rfl⟩) ?_
    try dsimp only [List.set_cons_zero, List.set_cons_succ, List.eraseIdx_cons_zero, List.eraseIdx_cons_succ, List.cons_append, List.nil_append, Option.toList]
    refine R_getstatic d_prog_3_method_5_code_29 (hw _ (mem 116 rfl)) Via.refl sdc ?_
    refine R_share xdc ydc ?_
    refine R_aloadN d_prog_3_method_5_code_32 rfl rfl ?_
    refine R_aloadN d_prog_3_method_5_code_33 rfl rfl ?_
    refine R_getfield d_prog_3_method_5_code_34 (hw _ (mem 34 rfl)) Via.refl (mem 3 rfl) (mem 1 rfl) ?_
    refine R_call (S_virtual (as := [_, _]) (rest := _) (mem 0 rfl) d_prog_3_method_5_code_37 (hw _ (mem 118 rfl)) (hw _ (mem 119 rfl)) (nf_sel (hw _ (mem 121 rfl))) (hw _ (mem 121 rfl)) (hw _ (mem 120 rfl)) (by decide) pd_oaBaBcI rfl rfl rfl) (M_deF hw ta dc hD sr rb true cs cnt Y' h0 Y hY i1 i2 i3 i4 m1 m2 m3 m4 f1 f2 f3 f4 u1 u2 u3 u4 q1 x1 q2 x2 q3 x3 q4 x4 j1 j2 j3 j4 k1 k2 k3 k4 e1 e2 e3 e4 v1 v2 v3 v4 t1 z1 t2 z2 j3e j4e t3 hcnt hY') (pkS 0 rfl (pkS 0 rfl (pkS 2 rfl pk0))) (hw _ (mem 123 rfl)) (hw _ (mem 122 rfl)) (Nat.le_of_ble_eq_true rfl) (Nat.le_of_ble_eq_true rfl) (Nat.le_of_ble_eq_true rfl) (Nat.le_of_ble_eq_true rfl) ?_
    rintro _ _ ⟨rfl, rfl⟩
    try dsimp only [List.set_cons_zero, List.set_cons_succ, List.eraseIdx_cons_zero, List.eraseIdx_cons_succ, List.cons_append, List.nil_append, Option.toList]
    refine R_drop 0 ?_
    refine R_drop 0 ?_
    try dsimp only [List.set_cons_zero, List.set_cons_succ, List.eraseIdx_cons_zero, List.eraseIdx_cons_succ, List.cons_append, List.nil_append, Option.toList]
    refine R_istoreN d_prog_3_method_5_code_40 rfl (by first | exact Or.inl rfl | exact Or.inr ⟨_, rfl, rfl⟩) ?_
    try dsimp only [List.set_cons_zero, List.set_cons_succ, List.eraseIdx_cons_zero, List.eraseIdx_cons_succ, List.cons_append, List.nil_append, Option.toList]
    refine R_goto (pc' := 63) d_prog_3_method_5_code_41 (by decide) (by decide) ?_
    refine R_aloadN d_prog_3_method_5_code_63 rfl rfl ?_
    refine R_getfield d_prog_3_method_5_code_64 (hw _ (mem 141 rfl)) Via.refl (mem 2 rfl) (mem 5 rfl) ?_
    refine R_iloadN d_prog_3_method_5_code_67 rfl ?_
    refine R_iadd d_prog_3_method_5_code_68 ?_
    rw [show (0 : Int32) + cnt.toInt32 = cnt.toInt32 from by simp]
    refine R_istoreN d_prog_3_method_5_code_69 rfl (by first | exact Or.inl rfl | exact Or.inr ⟨_, rfl, rfl⟩) ?_
    try dsimp only [List.set_cons_zero, List.set_cons_succ, List.eraseIdx_cons_zero, List.eraseIdx_cons_succ, List.cons_append, List.nil_append, Option.toList]
    refine R_iloadN d_prog_3_method_5_code_70 rfl ?_
    refine R_aloadN d_prog_3_method_5_code_71 rfl rfl ?_
    refine R_getfield d_prog_3_method_5_code_72 (hw _ (mem 38 rfl)) Via.refl (mem 2 rfl) (mem 3 rfl) ?_
    refine R_icmp_le (pc' := 109) d_prog_3_method_5_code_75 (by decide) (by decide) (fun g2 => ?_) (fun g2 => ?_)
    · refine R_iloadN d_prog_3_method_5_code_109 rfl ?_
      refine R_aloadN d_prog_3_method_5_code_110 rfl rfl ?_
      refine R_getfield d_prog_3_method_5_code_111 (hw _ (mem 36 rfl)) Via.refl (mem 2 rfl) (mem 2 rfl) ?_
      refine R_arraylength d_prog_3_method_5_code_114 (mem 3 rfl) D.length.toInt32 rfl ?_
      refine R_icmp_le (pc' := 157) d_prog_3_method_5_code_115 (by decide) (by decide) (fun g3 => ?_) (fun g3 => ?_)
      · have hle : cnt ≤ D.length := by have := mt (i32_lt_iff (by omega) (by omega)).mpr g3; omega
        refine R_aloadN d_prog_3_method_5_code_157 rfl rfl ?_
        refine R_getfield d_prog_3_method_5_code_158 (hw _ (mem 34 rfl)) Via.refl (mem 2 rfl) (mem 1 rfl) ?_
        refine R_iconst (0) d_prog_3_method_5_code_161 (by decide) ?_
        refine R_aloadN d_prog_3_method_5_code_162 rfl rfl ?_
        refine R_getfield d_prog_3_method_5_code_163 (hw _ (mem 36 rfl)) Via.refl (mem 2 rfl) (mem 2 rfl) ?_
        refine R_aloadN d_prog_3_method_5_code_166 rfl rfl ?_
        refine R_getfield d_prog_3_method_5_code_167 (hw _ (mem 141 rfl)) Via.refl (mem 2 rfl) (mem 5 rfl) ?_
        refine R_iloadN d_prog_3_method_5_code_170 rfl ?_
        have hin := cp_in Y' D cnt (by omega) (by omega)
        refine R_arraycopy (us := (List.take cnt (List.drop 0 Y'))) 3 d_prog_3_method_5_code_171 (hw _ (mem 150 rfl)) (hw _ (mem 115 rfl)) (hw _ (mem 113 rfl)) (hw _ (mem 114 rfl)) (mem 0 rfl) rfl 0 0 cnt (by decide) (by decide) (i32_nn (by omega)) rfl rfl (i32_cl (by omega)) (by omega) (by omega) rfl (Or.inl ⟨rfl, rfl⟩) rfl (Nat.le_of_ble_eq_true rfl) (Nat.le_of_ble_eq_true rfl) ?_
        try dsimp only [List.set_cons_zero, List.set_cons_succ, List.eraseIdx_cons_zero, List.eraseIdx_cons_succ, List.cons_append, List.nil_append, Option.toList]
        refine R_aloadN d_prog_3_method_5_code_174 rfl rfl ?_
        refine R_iloadN d_prog_3_method_5_code_175 rfl ?_
        refine R_putfield 2 5 d_prog_3_method_5_code_176 (hw _ (mem 141 rfl)) Via.refl rfl rfl rfl (Or.inl (hw _ (mem 142 rfl))) (hw _ (mem 23 rfl)) (ty := .int) (by decide) _ rfl rfl ?_
        try dsimp only [List.set_cons_zero, List.set_cons_succ, List.eraseIdx_cons_zero, List.eraseIdx_cons_succ, List.cons_append, List.nil_append, Option.toList]
        refine R_aloadN d_prog_3_method_5_code_179 rfl rfl ?_
        refine R_iconst (0) d_prog_3_method_5_code_180 (by decide) ?_
        refine R_putfield 2 4 d_prog_3_method_5_code_181 (hw _ (mem 45 rfl)) Via.refl rfl rfl rfl (Or.inl (hw _ (mem 46 rfl))) (hw _ (mem 23 rfl)) (ty := .int) (by decide) _ rfl rfl ?_
        try dsimp only [List.set_cons_zero, List.set_cons_succ, List.eraseIdx_cons_zero, List.eraseIdx_cons_succ, List.cons_append, List.nil_append, Option.toList]
        refine R_order (pkS 2 rfl (pkS 1 rfl (pkS 0 rfl (pkS 0 rfl pk0)))) ?_
        try dsimp only [List.set_cons_zero, List.set_cons_succ, List.eraseIdx_cons_zero, List.eraseIdx_cons_succ, List.cons_append, List.nil_append, Option.toList]
        exact R_return d_prog_3_method_5_code_184 rfl ⟨_, _, rfl, by rw [hin.2]; omega, by rw [hin.2]; omega, hin.1, rfl⟩ (Nat.le_of_ble_eq_true rfl) (Nat.le_of_ble_eq_true rfl)
      · have hgt : D.length < cnt := (i32_lt_iff (by omega) (by omega)).mp g3
        refine R_aloadN d_prog_3_method_5_code_118 rfl rfl ?_
        refine R_getfield d_prog_3_method_5_code_119 (hw _ (mem 38 rfl)) Via.refl (mem 2 rfl) (mem 3 rfl) ?_
        refine R_i2l d_prog_3_method_5_code_122 ?_
        refine R_iloadN d_prog_3_method_5_code_123 rfl ?_
        refine R_i2l d_prog_3_method_5_code_124 ?_
        refine R_ldc2L d_prog_3_method_5_code_125 (hw _ (mem 143 rfl)) ?_
        refine R_aloadN d_prog_3_method_5_code_128 rfl rfl ?_
        refine R_getfield d_prog_3_method_5_code_129 (hw _ (mem 36 rfl)) Via.refl (mem 2 rfl) (mem 2 rfl) ?_
        refine R_arraylength d_prog_3_method_5_code_132 (mem 3 rfl) D.length.toInt32 rfl ?_
        refine R_i2l d_prog_3_method_5_code_133 ?_
        rw [i2l_n (by omega), i2l_n (by omega), i2l_n (by omega)]
        refine R_lmul d_prog_3_method_5_code_134 ?_
        rw [two_n]
        refine R_call (S_static (as := [_, _]) (rest := _) d_prog_3_method_5_code_135 (hw _ (mem 144 rfl)) (hw _ (mem 145 rfl)) (hw _ (mem 8 rfl)) (hw _ (mem 146 rfl)) (by decide) pd_oJJcJ rfl rfl rfl) (M_maxJ hw cnt (2 * D.length) (by omega) (by omega)) pk0 (hw _ (mem 146 rfl)) (hw _ (mem 8 rfl)) (Nat.le_of_ble_eq_true rfl) (Nat.le_of_ble_eq_true rfl) (Nat.le_of_ble_eq_true rfl) (Nat.le_of_ble_eq_true rfl) ?_
        rintro _ _ ⟨rfl, rfl⟩
        try dsimp only [List.set_cons_zero, List.set_cons_succ, List.eraseIdx_cons_zero, List.eraseIdx_cons_succ, List.cons_append, List.nil_append, Option.toList]
        refine R_call (S_static (as := [_, _]) (rest := _) d_prog_3_method_5_code_138 (hw _ (mem 147 rfl)) (hw _ (mem 148 rfl)) (hw _ (mem 8 rfl)) (hw _ (mem 149 rfl)) (by decide) pd_oJJcJ rfl rfl rfl) (M_minJ hw M (max cnt (2 * D.length)) (by omega) (by omega)) pk0 (hw _ (mem 149 rfl)) (hw _ (mem 8 rfl)) (Nat.le_of_ble_eq_true rfl) (Nat.le_of_ble_eq_true rfl) (Nat.le_of_ble_eq_true rfl) (Nat.le_of_ble_eq_true rfl) ?_
        rintro _ _ ⟨rfl, rfl⟩
        try dsimp only [List.set_cons_zero, List.set_cons_succ, List.eraseIdx_cons_zero, List.eraseIdx_cons_succ, List.cons_append, List.nil_append, Option.toList]
        refine R_l2i d_prog_3_method_5_code_141 ?_
        rw [l2i_n]
        refine R_istore d_prog_3_method_5_code_142 rfl (by first | exact Or.inl rfl | exact Or.inr ⟨_, rfl, rfl⟩) ?_
        try dsimp only [List.set_cons_zero, List.set_cons_succ, List.eraseIdx_cons_zero, List.eraseIdx_cons_succ, List.cons_append, List.nil_append, Option.toList]
        refine R_aloadN d_prog_3_method_5_code_144 rfl rfl ?_
        refine R_aloadN d_prog_3_method_5_code_145 rfl rfl ?_
        refine R_getfield d_prog_3_method_5_code_146 (hw _ (mem 36 rfl)) Via.refl (mem 2 rfl) (mem 2 rfl) ?_
        refine R_iload d_prog_3_method_5_code_149 rfl ?_
        refine R_call (S_static (as := [_, _]) (rest := _) d_prog_3_method_5_code_151 (hw _ (mem 107 rfl)) (hw _ (mem 108 rfl)) (hw _ (mem 109 rfl)) (hw _ (mem 110 rfl)) (by decide) pd_oaBIcaB rfl rfl rfl) (M_cpB hw de true D (min M (max cnt (2 * D.length))) (by omega)) (pkS 3 rfl pk0) (hw _ (mem 110 rfl)) (hw _ (mem 109 rfl)) (Nat.le_of_ble_eq_true rfl) (Nat.le_of_ble_eq_true rfl) (Nat.le_of_ble_eq_true rfl) (Nat.le_of_ble_eq_true rfl) ?_
        rintro _ _ ⟨de2, rfl, rfl⟩
        try dsimp only [List.set_cons_zero, List.set_cons_succ, List.eraseIdx_cons_zero, List.eraseIdx_cons_succ, List.cons_append, List.nil_append, Option.toList]
        refine R_putfield 4 2 d_prog_3_method_5_code_154 (hw _ (mem 36 rfl)) Via.refl rfl rfl rfl (Or.inl (hw _ (mem 37 rfl))) (hw _ (mem 23 rfl)) (ty := (.array .byte)) (by decide) _ rfl rfl ?_
        try dsimp only [List.set_cons_zero, List.set_cons_succ, List.eraseIdx_cons_zero, List.eraseIdx_cons_succ, List.cons_append, List.nil_append, Option.toList]
        refine R_aloadN d_prog_3_method_5_code_157 rfl rfl ?_
        refine R_getfield d_prog_3_method_5_code_158 (hw _ (mem 34 rfl)) Via.refl (mem 4 rfl) (mem 1 rfl) ?_
        refine R_iconst (0) d_prog_3_method_5_code_161 (by decide) ?_
        refine R_aloadN d_prog_3_method_5_code_162 rfl rfl ?_
        refine R_getfield d_prog_3_method_5_code_163 (hw _ (mem 36 rfl)) Via.refl (mem 4 rfl) (mem 2 rfl) ?_
        refine R_aloadN d_prog_3_method_5_code_166 rfl rfl ?_
        refine R_getfield d_prog_3_method_5_code_167 (hw _ (mem 141 rfl)) Via.refl (mem 4 rfl) (mem 5 rfl) ?_
        refine R_iloadN d_prog_3_method_5_code_170 rfl ?_
        have hin := cp_in Y' (cpB D (min M (max cnt (2 * D.length)))) cnt (by rw [cpB_len]; omega) (by omega)
        refine R_arraycopy (us := (List.take cnt (List.drop 0 Y'))) 0 d_prog_3_method_5_code_171 (hw _ (mem 150 rfl)) (hw _ (mem 115 rfl)) (hw _ (mem 113 rfl)) (hw _ (mem 114 rfl)) (mem 2 rfl) rfl 0 0 cnt (by decide) (by decide) (i32_nn (by omega)) rfl rfl (i32_cl (by omega)) (by omega) (by rw [cpB_len]; omega) rfl (Or.inl ⟨rfl, rfl⟩) rfl (Nat.le_of_ble_eq_true rfl) (Nat.le_of_ble_eq_true rfl) ?_
        try dsimp only [List.set_cons_zero, List.set_cons_succ, List.eraseIdx_cons_zero, List.eraseIdx_cons_succ, List.cons_append, List.nil_append, Option.toList]
        refine R_aloadN d_prog_3_method_5_code_174 rfl rfl ?_
        refine R_iloadN d_prog_3_method_5_code_175 rfl ?_
        refine R_putfield 4 5 d_prog_3_method_5_code_176 (hw _ (mem 141 rfl)) Via.refl rfl rfl rfl (Or.inl (hw _ (mem 142 rfl))) (hw _ (mem 23 rfl)) (ty := .int) (by decide) _ rfl rfl ?_
        try dsimp only [List.set_cons_zero, List.set_cons_succ, List.eraseIdx_cons_zero, List.eraseIdx_cons_succ, List.cons_append, List.nil_append, Option.toList]
        refine R_aloadN d_prog_3_method_5_code_179 rfl rfl ?_
        refine R_iconst (0) d_prog_3_method_5_code_180 (by decide) ?_
        refine R_putfield 4 4 d_prog_3_method_5_code_181 (hw _ (mem 45 rfl)) Via.refl rfl rfl rfl (Or.inl (hw _ (mem 46 rfl))) (hw _ (mem 23 rfl)) (ty := .int) (by decide) _ rfl rfl ?_
        try dsimp only [List.set_cons_zero, List.set_cons_succ, List.eraseIdx_cons_zero, List.eraseIdx_cons_succ, List.cons_append, List.nil_append, Option.toList]
        refine R_drop 1 ?_
        try dsimp only [List.set_cons_zero, List.set_cons_succ, List.eraseIdx_cons_zero, List.eraseIdx_cons_succ, List.cons_append, List.nil_append, Option.toList]
        refine R_order (pkS 3 rfl (pkS 2 rfl (pkS 1 rfl (pkS 0 rfl pk0)))) ?_
        try dsimp only [List.set_cons_zero, List.set_cons_succ, List.eraseIdx_cons_zero, List.eraseIdx_cons_succ, List.cons_append, List.nil_append, Option.toList]
        exact R_return d_prog_3_method_5_code_184 rfl ⟨_, _, rfl, by rw [hin.2]; rw [cpB_len]; omega, by rw [hin.2]; rw [cpB_len]; omega, hin.1, rfl⟩ (Nat.le_of_ble_eq_true rfl) (Nat.le_of_ble_eq_true rfl)
    · exact absurd ((i32_lt_iff (by omega) (by omega)).mp g2) (by omega)
  · exact absurd ((i32_eq_iff (a := cs.length) (b := 4096) (by omega) (by omega)).mp g1) (by omega)

-- CUT
theorem d_prog_3_method_3_code_0 : decode prog_3_method_3_code 0 = .ok (.aload_n 0, 1) := by decide +kernel
theorem d_prog_3_method_3_code_1 : decode prog_3_method_3_code 1 = .ok (.invokevirtual 36, 3) := by decide +kernel
theorem d_prog_3_method_3_code_4 : decode prog_3_method_3_code 4 = .ok (.ifCond .ne 13, 3) := by decide +kernel
theorem d_prog_3_method_3_code_17 : decode prog_3_method_3_code 17 = .ok (.aload_n 0, 1) := by decide +kernel
theorem d_prog_3_method_3_code_18 : decode prog_3_method_3_code 18 = .ok (.invokevirtual 42, 3) := by decide +kernel
theorem pd_ocV : parseMethodDescriptor "()V" = some ⟨[], none⟩ := by decide +kernel
theorem d_prog_3_method_3_code_21 : decode prog_3_method_3_code 21 = .ok (.aload_n 0, 1) := by decide +kernel
theorem d_prog_3_method_3_code_22 : decode prog_3_method_3_code 22 = .ok (.getfield 16, 3) := by decide +kernel
theorem d_prog_3_method_3_code_25 : decode prog_3_method_3_code 25 = .ok (.aload_n 0, 1) := by decide +kernel
theorem d_prog_3_method_3_code_26 : decode prog_3_method_3_code 26 = .ok (.getfield 45, 3) := by decide +kernel
theorem d_prog_3_method_3_code_29 : decode prog_3_method_3_code 29 = .ok (.invokestatic 48, 3) := by decide +kernel
theorem d_prog_3_method_3_code_32 : decode prog_3_method_3_code 32 = .ok (.astore_n 1, 1) := by decide +kernel
theorem d_prog_3_method_3_code_33 : decode prog_3_method_3_code 33 = .ok (.aload_n 0, 1) := by decide +kernel
theorem d_prog_3_method_3_code_34 : decode prog_3_method_3_code 34 = .ok (.iconst 0, 1) := by decide +kernel
theorem d_prog_3_method_3_code_35 : decode prog_3_method_3_code 35 = .ok (.putfield 45, 3) := by decide +kernel
theorem d_prog_3_method_3_code_38 : decode prog_3_method_3_code 38 = .ok (.aload_n 1, 1) := by decide +kernel
theorem d_prog_3_method_3_code_39 : decode prog_3_method_3_code 39 = .ok (.areturn, 1) := by decide +kernel
theorem cp_fin (D Y : List Value) (n : Nat) (h : n ≤ D.length) (e : D.take n = Y.take n) : cpB D n = Y.take n := by
  rw [cpB, Nat.sub_eq_zero_of_le h, e]; simp
set_option maxRecDepth 65536 in
set_option maxHeartbeats 4000000 in
theorem M_fi0 {Γ : Gx} (hw : Words Γ) (hcs : CS Γ) (hG : Lits Γ) (ta dc : Addr) (hD : D64 Γ ta dc) (o rn rb de : Addr) (M : Nat) (X D : List Value) (cs : List Int32) (cnt : Nat) (Y' : List Value) (h0 : cs.length = 0) (Y : List Value) (hcnt : cnt = 0) (hY' : Y' = Y) (hY : Y.length = 3072) (hM : cnt ≤ M) (hM2 : M ≤ 23) (hD2 : D.length ≤ 23) :
    Met Γ (⟨"com/example/delta_mirror/deltamirror/rrdp/Base64Binary", "finish", "()[B"⟩ : MethodName) prog_3_method_3_code 2 (some (.array .byte)) ({ frames := 5, cells := 5, slots := 140, locals := 80 } : Room) #[(.ref o)] [(o, true, BBO Γ rn rb de M.toInt32 cs.length.toInt32 0), (rn, true, BA Γ (cs.map Value.int ++ X)), (rb, true, BA Γ Y), (de, true, BA Γ D)] (fun v O' => ∃ (na de' : Addr) (D' : List Value), v = some (.ref na) ∧ D'.length ≤ 23 ∧ O' = [(na, true, BA Γ (Y'.take cnt)), (o, true, BBO Γ rn rb de' M.toInt32 0 0), (rn, true, BA Γ (cs.map Value.int ++ X)), (rb, true, BA Γ Y'), (de', true, BA Γ D')]) := by
  refine Met.intro pn_com_example_delta_mirror_deltamirror_rrdp_Base64Binary (Ls := [.val (.ref o), .unset]) (fun m => by first | rfl | (simp [entryFrame, mkF, argsToLocals, Value.category]; done)) ?_
  intro F
  refine R_alen (mem 3 rfl) fun hld => ?_
  have hc3 : cnt ≤ 6 := by omega
  refine R_aloadN d_prog_3_method_3_code_0 rfl rfl ?_
  refine R_call (S_private (as := []) (rest := _) (mem 0 rfl) obj_ns d_prog_3_method_3_code_1 (hw _ (mem 52 rfl)) (hw _ (mem 53 rfl)) (hw _ (mem 54 rfl)) (hw _ (mem 55 rfl)) (nf_inst (hw _ (mem 23 rfl))) (by decide) pd_ocZ rfl rfl rfl) (M_ends0 hw hcs hG o rn rb de M.toInt32 0 cs X (List.length_eq_zero_iff.mp h0)) (pkS 0 rfl (pkS 0 rfl pk0)) (hw _ (mem 55 rfl)) (hw _ (mem 24 rfl)) (Nat.le_of_ble_eq_true rfl) (Nat.le_of_ble_eq_true rfl) (Nat.le_of_ble_eq_true rfl) (Nat.le_of_ble_eq_true rfl) ?_
  rintro _ _ ⟨rfl, rfl⟩
  try dsimp only [List.set_cons_zero, List.set_cons_succ, List.eraseIdx_cons_zero, List.eraseIdx_cons_succ, List.cons_append, List.nil_append, Option.toList]
  refine R_if_ne (pc' := 17) d_prog_3_method_3_code_4 (by decide) (by decide) (fun g => ?_) (fun g => ?_)
  · refine R_aloadN d_prog_3_method_3_code_17 rfl rfl ?_
    refine R_callX (as := []) (rest := _) hG.1 (mem 0 rfl) obj_ns d_prog_3_method_3_code_18 (hw _ (mem 103 rfl)) (hw _ (mem 104 rfl)) (hw _ (mem 105 rfl)) (hw _ (mem 106 rfl)) (hw _ (mem 24 rfl)) (nf_inst (hw _ (mem 23 rfl))) (by decide) pd_ocV rfl rfl rfl (M_dr0 hw hG ta dc hD o rn rb de M X D cs cnt Y' h0 Y hcnt hY' hY hM hM2 hD2) (pkS 0 rfl (pkS 0 rfl (pkS 0 rfl (pkS 0 rfl pk0)))) (Nat.le_of_ble_eq_true rfl) (Nat.le_of_ble_eq_true rfl) (Nat.le_of_ble_eq_true rfl) (Nat.le_of_ble_eq_true rfl) ?_
    rintro _ _ ⟨de2, D', rfl, hl', hcl, htk, rfl⟩
    try dsimp only [List.set_cons_zero, List.set_cons_succ, List.eraseIdx_cons_zero, List.eraseIdx_cons_succ, List.cons_append, List.nil_append, Option.toList]
    refine R_aloadN d_prog_3_method_3_code_21 rfl rfl ?_
    refine R_getfield d_prog_3_method_3_code_22 (hw _ (mem 36 rfl)) Via.refl (mem 0 rfl) (mem 2 rfl) ?_
    refine R_aloadN d_prog_3_method_3_code_25 rfl rfl ?_
    refine R_getfield d_prog_3_method_3_code_26 (hw _ (mem 141 rfl)) Via.refl (mem 0 rfl) (mem 5 rfl) ?_
    refine R_call (S_static (as := [_, _]) (rest := _) d_prog_3_method_3_code_29 (hw _ (mem 107 rfl)) (hw _ (mem 108 rfl)) (hw _ (mem 109 rfl)) (hw _ (mem 110 rfl)) (by decide) pd_oaBIcaB rfl rfl rfl) (M_cpB hw de2 true D' cnt (by omega)) (pkS 3 rfl pk0) (hw _ (mem 110 rfl)) (hw _ (mem 109 rfl)) (Nat.le_of_ble_eq_true rfl) (Nat.le_of_ble_eq_true rfl) (Nat.le_of_ble_eq_true rfl) (Nat.le_of_ble_eq_true rfl) ?_
    rintro _ _ ⟨na, rfl, rfl⟩
    try dsimp only [List.set_cons_zero, List.set_cons_succ, List.eraseIdx_cons_zero, List.eraseIdx_cons_succ, List.cons_append, List.nil_append, Option.toList]
    rw [cp_fin D' Y' cnt hcl htk]
    refine R_astoreN d_prog_3_method_3_code_32 rfl rfl (by first | exact Or.inl rfl | exact Or.inr ⟨_, rfl, rfl⟩) ?_
    try dsimp only [List.set_cons_zero, List.set_cons_succ, List.eraseIdx_cons_zero, List.eraseIdx_cons_succ, List.cons_append, List.nil_append, Option.toList]
    refine R_aloadN d_prog_3_method_3_code_33 rfl rfl ?_
    refine R_iconst (0) d_prog_3_method_3_code_34 (by decide) ?_
    refine R_putfield 2 5 d_prog_3_method_3_code_35 (hw _ (mem 141 rfl)) Via.refl rfl rfl rfl (Or.inl (hw _ (mem 142 rfl))) (hw _ (mem 23 rfl)) (ty := .int) (by decide) _ rfl rfl ?_
    try dsimp only [List.set_cons_zero, List.set_cons_succ, List.eraseIdx_cons_zero, List.eraseIdx_cons_succ, List.cons_append, List.nil_append, Option.toList]
    refine R_order (pkS 0 rfl (pkS 1 rfl (pkS 1 rfl (pkS 1 rfl (pkS 0 rfl pk0))))) ?_
    try dsimp only [List.set_cons_zero, List.set_cons_succ, List.eraseIdx_cons_zero, List.eraseIdx_cons_succ, List.cons_append, List.nil_append, Option.toList]
    refine R_aloadN d_prog_3_method_3_code_38 rfl rfl ?_
    exact R_areturn d_prog_3_method_3_code_39 rfl rfl rfl ⟨na, de2, D', rfl, hl', rfl⟩ (Nat.le_of_ble_eq_true rfl) (Nat.le_of_ble_eq_true rfl)
  · exact absurd g (by decide)

set_option maxRecDepth 65536 in
set_option maxHeartbeats 4000000 in
theorem M_fiA {Γ : Gx} (hw : Words Γ) (hcs : CS Γ) (hG : Lits Γ) (ta dc : Addr) (hD : D64 Γ ta dc) (o rn rb de : Addr) (M : Nat) (X D : List Value) (cs : List Int32) (cnt : Nat) (Y' : List Value) (h0 : cs.length = 4) (Y : List Value) (hY : Y.length = 3072) (j1 j2 j3 j4 : Nat) (k1 : j1 < 128) (k2 : j2 < 128) (k3 : j3 < 128) (k4 : j4 < 128) (e1 : cs[0 + 0]? = some j1.toInt32) (e2 : cs[0 + 1]? = some j2.toInt32) (e3 : cs[0 + 2]? = some j3.toInt32) (e4 : cs[0 + 3]? = some j4.toInt32) (v1 v2 v3 v4 : Int32) (t1 : tab64[j1]? = some v1) (z1 : V6 v1) (t2 : tab64[j2]? = some v2) (z2 : V6 v2) (t3 : tab64[j3]? = some v3) (z3 : V6 v3) (t4 : tab64[j4]? = some v4) (z4 : V6 v4) (hcnt : cnt = 0 + 3) (hY' : Y' = (((Y.set (0 + 0) (.int (y0 v1 v2))).set (0 + 1) (.int (y1 v2 v3))).set (0 + 2) (.int (y2 v3 v4)))) (hM : cnt ≤ M) (hM2 : M ≤ 23) (hD2 : D.length ≤ 23) (hx4 : ¬ j4.toInt32 = 61) :
    Met Γ (⟨"com/example/delta_mirror/deltamirror/rrdp/Base64Binary", "finish", "()[B"⟩ : MethodName) prog_3_method_3_code 2 (some (.array .byte)) ({ frames := 5, cells := 5, slots := 140, locals := 80 } : Room) #[(.ref o)] [(o, true, BBO Γ rn rb de M.toInt32 cs.length.toInt32 0), (rn, true, BA Γ (cs.map Value.int ++ X)), (rb, true, BA Γ Y), (de, true, BA Γ D)] (fun v O' => ∃ (na de' : Addr) (D' : List Value), v = some (.ref na) ∧ D'.length ≤ 23 ∧ O' = [(na, true, BA Γ (Y'.take cnt)), (o, true, BBO Γ rn rb de' M.toInt32 0 0), (rn, true, BA Γ (cs.map Value.int ++ X)), (rb, true, BA Γ Y'), (de', true, BA Γ D')]) := by
  refine Met.intro pn_com_example_delta_mirror_deltamirror_rrdp_Base64Binary (Ls := [.val (.ref o), .unset]) (fun m => by first | rfl | (simp [entryFrame, mkF, argsToLocals, Value.category]; done)) ?_
  intro F
  refine R_alen (mem 3 rfl) fun hld => ?_
  have hc3 : cnt ≤ 6 := by omega
  refine R_aloadN d_prog_3_method_3_code_0 rfl rfl ?_
  refine R_call (S_private (as := []) (rest := _) (mem 0 rfl) obj_ns d_prog_3_method_3_code_1 (hw _ (mem 52 rfl)) (hw _ (mem 53 rfl)) (hw _ (mem 54 rfl)) (hw _ (mem 55 rfl)) (nf_inst (hw _ (mem 23 rfl))) (by decide) pd_ocZ rfl rfl rfl) (M_ends1 hw hcs hG o rn rb de M.toInt32 0 cs X (Or.inl h0) j4.toInt32 (by rw [h0]; exact e4) hx4) (pkS 0 rfl (pkS 0 rfl pk0)) (hw _ (mem 55 rfl)) (hw _ (mem 24 rfl)) (Nat.le_of_ble_eq_true rfl) (Nat.le_of_ble_eq_true rfl) (Nat.le_of_ble_eq_true rfl) (Nat.le_of_ble_eq_true rfl) ?_
  rintro _ _ ⟨rfl, rfl⟩
  try dsimp only [List.set_cons_zero, List.set_cons_succ, List.eraseIdx_cons_zero, List.eraseIdx_cons_succ, List.cons_append, List.nil_append, Option.toList]
  refine R_if_ne (pc' := 17) d_prog_3_method_3_code_4 (by decide) (by decide) (fun g => ?_) (fun g => ?_)
  · refine R_aloadN d_prog_3_method_3_code_17 rfl rfl ?_
    refine R_callX (as := []) (rest := _) hG.1 (mem 0 rfl) obj_ns d_prog_3_method_3_code_18 (hw _ (mem 103 rfl)) (hw _ (mem 104 rfl)) (hw _ (mem 105 rfl)) (hw _ (mem 106 rfl)) (hw _ (mem 24 rfl)) (nf_inst (hw _ (mem 23 rfl))) (by decide) pd_ocV rfl rfl rfl (M_drA hw hG ta dc hD o rn rb de M X D cs cnt Y' h0 Y hY j1 j2 j3 j4 k1 k2 k3 k4 e1 e2 e3 e4 v1 v2 v3 v4 t1 z1 t2 z2 t3 z3 t4 z4 hcnt hY' hM hM2 hD2) (pkS 0 rfl (pkS 0 rfl (pkS 0 rfl (pkS 0 rfl pk0)))) (Nat.le_of_ble_eq_true rfl) (Nat.le_of_ble_eq_true rfl) (Nat.le_of_ble_eq_true rfl) (Nat.le_of_ble_eq_true rfl) ?_
    rintro _ _ ⟨de2, D', rfl, hl', hcl, htk, rfl⟩
    try dsimp only [List.set_cons_zero, List.set_cons_succ, List.eraseIdx_cons_zero, List.eraseIdx_cons_succ, List.cons_append, List.nil_append, Option.toList]
    refine R_aloadN d_prog_3_method_3_code_21 rfl rfl ?_
    refine R_getfield d_prog_3_method_3_code_22 (hw _ (mem 36 rfl)) Via.refl (mem 0 rfl) (mem 2 rfl) ?_
    refine R_aloadN d_prog_3_method_3_code_25 rfl rfl ?_
    refine R_getfield d_prog_3_method_3_code_26 (hw _ (mem 141 rfl)) Via.refl (mem 0 rfl) (mem 5 rfl) ?_
    refine R_call (S_static (as := [_, _]) (rest := _) d_prog_3_method_3_code_29 (hw _ (mem 107 rfl)) (hw _ (mem 108 rfl)) (hw _ (mem 109 rfl)) (hw _ (mem 110 rfl)) (by decide) pd_oaBIcaB rfl rfl rfl) (M_cpB hw de2 true D' cnt (by omega)) (pkS 3 rfl pk0) (hw _ (mem 110 rfl)) (hw _ (mem 109 rfl)) (Nat.le_of_ble_eq_true rfl) (Nat.le_of_ble_eq_true rfl) (Nat.le_of_ble_eq_true rfl) (Nat.le_of_ble_eq_true rfl) ?_
    rintro _ _ ⟨na, rfl, rfl⟩
    try dsimp only [List.set_cons_zero, List.set_cons_succ, List.eraseIdx_cons_zero, List.eraseIdx_cons_succ, List.cons_append, List.nil_append, Option.toList]
    rw [cp_fin D' Y' cnt hcl htk]
    refine R_astoreN d_prog_3_method_3_code_32 rfl rfl (by first | exact Or.inl rfl | exact Or.inr ⟨_, rfl, rfl⟩) ?_
    try dsimp only [List.set_cons_zero, List.set_cons_succ, List.eraseIdx_cons_zero, List.eraseIdx_cons_succ, List.cons_append, List.nil_append, Option.toList]
    refine R_aloadN d_prog_3_method_3_code_33 rfl rfl ?_
    refine R_iconst (0) d_prog_3_method_3_code_34 (by decide) ?_
    refine R_putfield 2 5 d_prog_3_method_3_code_35 (hw _ (mem 141 rfl)) Via.refl rfl rfl rfl (Or.inl (hw _ (mem 142 rfl))) (hw _ (mem 23 rfl)) (ty := .int) (by decide) _ rfl rfl ?_
    try dsimp only [List.set_cons_zero, List.set_cons_succ, List.eraseIdx_cons_zero, List.eraseIdx_cons_succ, List.cons_append, List.nil_append, Option.toList]
    refine R_order (pkS 0 rfl (pkS 1 rfl (pkS 1 rfl (pkS 1 rfl (pkS 0 rfl pk0))))) ?_
    try dsimp only [List.set_cons_zero, List.set_cons_succ, List.eraseIdx_cons_zero, List.eraseIdx_cons_succ, List.cons_append, List.nil_append, Option.toList]
    refine R_aloadN d_prog_3_method_3_code_38 rfl rfl ?_
    exact R_areturn d_prog_3_method_3_code_39 rfl rfl rfl ⟨na, de2, D', rfl, hl', rfl⟩ (Nat.le_of_ble_eq_true rfl) (Nat.le_of_ble_eq_true rfl)
  · exact absurd g (by decide)

set_option maxRecDepth 65536 in
set_option maxHeartbeats 4000000 in
theorem M_fiB {Γ : Gx} (hw : Words Γ) (hcs : CS Γ) (hG : Lits Γ) (ta dc : Addr) (hD : D64 Γ ta dc) (o rn rb de : Addr) (M : Nat) (X D : List Value) (cs : List Int32) (cnt : Nat) (Y' : List Value) (h0 : cs.length = 4) (Y : List Value) (hY : Y.length = 3072) (j1 j2 j3 j4 : Nat) (k1 : j1 < 128) (k2 : j2 < 128) (k3 : j3 < 128) (k4 : j4 < 128) (e1 : cs[0 + 0]? = some j1.toInt32) (e2 : cs[0 + 1]? = some j2.toInt32) (e3 : cs[0 + 2]? = some j3.toInt32) (e4 : cs[0 + 3]? = some j4.toInt32) (v1 v2 v3 v4 : Int32) (t1 : tab64[j1]? = some v1) (z1 : V6 v1) (t2 : tab64[j2]? = some v2) (z2 : V6 v2) (t3 : tab64[j3]? = some v3) (z3 : V6 v3) (j4e : j4 = 61) (t4 : tab64[j4]? = some (-2)) (hcnt : cnt = 0 + 2) (hY' : Y' = ((Y.set (0 + 0) (.int (y0 v1 v2))).set (0 + 1) (.int (y1 v2 v3)))) (hM : cnt ≤ M) (hM2 : M ≤ 23) (hD2 : D.length ≤ 23) (hx3 : ¬ j3.toInt32 = 61) (hx : A7 j3.toInt32) (hm : j3.toInt32 ∈ l16) :
    Met Γ (⟨"com/example/delta_mirror/deltamirror/rrdp/Base64Binary", "finish", "()[B"⟩ : MethodName) prog_3_method_3_code 2 (some (.array .byte)) ({ frames := 5, cells := 5, slots := 140, locals := 80 } : Room) #[(.ref o)] [(o, true, BBO Γ rn rb de M.toInt32 cs.length.toInt32 0), (rn, true, BA Γ (cs.map Value.int ++ X)), (rb, true, BA Γ Y), (de, true, BA Γ D)] (fun v O' => ∃ (na de' : Addr) (D' : List Value), v = some (.ref na) ∧ D'.length ≤ 23 ∧ O' = [(na, true, BA Γ (Y'.take cnt)), (o, true, BBO Γ rn rb de' M.toInt32 0 0), (rn, true, BA Γ (cs.map Value.int ++ X)), (rb, true, BA Γ Y'), (de', true, BA Γ D')]) := by
  refine Met.intro pn_com_example_delta_mirror_deltamirror_rrdp_Base64Binary (Ls := [.val (.ref o), .unset]) (fun m => by first | rfl | (simp [entryFrame, mkF, argsToLocals, Value.category]; done)) ?_
  intro F
  refine R_alen (mem 3 rfl) fun hld => ?_
  have hc3 : cnt ≤ 6 := by omega
  refine R_aloadN d_prog_3_method_3_code_0 rfl rfl ?_
  refine R_call (S_private (as := []) (rest := _) (mem 0 rfl) obj_ns d_prog_3_method_3_code_1 (hw _ (mem 52 rfl)) (hw _ (mem 53 rfl)) (hw _ (mem 54 rfl)) (hw _ (mem 55 rfl)) (nf_inst (hw _ (mem 23 rfl))) (by decide) pd_ocZ rfl rfl rfl) (M_ends2 hw hcs hG o rn rb de M.toInt32 0 cs X (Or.inl h0) j4.toInt32 j3.toInt32 (by rw [h0]; exact e4) (by rw [j4e]; rfl) (by rw [h0]; exact e3) hx3 hx hm) (pkS 0 rfl (pkS 0 rfl pk0)) (hw _ (mem 55 rfl)) (hw _ (mem 24 rfl)) (Nat.le_of_ble_eq_true rfl) (Nat.le_of_ble_eq_true rfl) (Nat.le_of_ble_eq_true rfl) (Nat.le_of_ble_eq_true rfl) ?_
  rintro _ _ ⟨rfl, rfl⟩
  try dsimp only [List.set_cons_zero, List.set_cons_succ, List.eraseIdx_cons_zero, List.eraseIdx_cons_succ, List.cons_append, List.nil_append, Option.toList]
  refine R_if_ne (pc' := 17) d_prog_3_method_3_code_4 (by decide) (by decide) (fun g => ?_) (fun g => ?_)
  · refine R_aloadN d_prog_3_method_3_code_17 rfl rfl ?_
    refine R_callX (as := []) (rest := _) hG.1 (mem 0 rfl) obj_ns d_prog_3_method_3_code_18 (hw _ (mem 103 rfl)) (hw _ (mem 104 rfl)) (hw _ (mem 105 rfl)) (hw _ (mem 106 rfl)) (hw _ (mem 24 rfl)) (nf_inst (hw _ (mem 23 rfl))) (by decide) pd_ocV rfl rfl rfl (M_drB hw hG ta dc hD o rn rb de M X D cs cnt Y' h0 Y hY j1 j2 j3 j4 k1 k2 k3 k4 e1 e2 e3 e4 v1 v2 v3 v4 t1 z1 t2 z2 t3 z3 j4e t4 hcnt hY' hM hM2 hD2) (pkS 0 rfl (pkS 0 rfl (pkS 0 rfl (pkS 0 rfl pk0)))) (Nat.le_of_ble_eq_true rfl) (Nat.le_of_ble_eq_true rfl) (Nat.le_of_ble_eq_true rfl) (Nat.le_of_ble_eq_true rfl) ?_
    rintro _ _ ⟨de2, D', rfl, hl', hcl, htk, rfl⟩
    try dsimp only [List.set_cons_zero, List.set_cons_succ, List.eraseIdx_cons_zero, List.eraseIdx_cons_succ, List.cons_append, List.nil_append, Option.toList]
    refine R_aloadN d_prog_3_method_3_code_21 rfl rfl ?_
    refine R_getfield d_prog_3_method_3_code_22 (hw _ (mem 36 rfl)) Via.refl (mem 0 rfl) (mem 2 rfl) ?_
    refine R_aloadN d_prog_3_method_3_code_25 rfl rfl ?_
    refine R_getfield d_prog_3_method_3_code_26 (hw _ (mem 141 rfl)) Via.refl (mem 0 rfl) (mem 5 rfl) ?_
    refine R_call (S_static (as := [_, _]) (rest := _) d_prog_3_method_3_code_29 (hw _ (mem 107 rfl)) (hw _ (mem 108 rfl)) (hw _ (mem 109 rfl)) (hw _ (mem 110 rfl)) (by decide) pd_oaBIcaB rfl rfl rfl) (M_cpB hw de2 true D' cnt (by omega)) (pkS 3 rfl pk0) (hw _ (mem 110 rfl)) (hw _ (mem 109 rfl)) (Nat.le_of_ble_eq_true rfl) (Nat.le_of_ble_eq_true rfl) (Nat.le_of_ble_eq_true rfl) (Nat.le_of_ble_eq_true rfl) ?_
    rintro _ _ ⟨na, rfl, rfl⟩
    try dsimp only [List.set_cons_zero, List.set_cons_succ, List.eraseIdx_cons_zero, List.eraseIdx_cons_succ, List.cons_append, List.nil_append, Option.toList]
    rw [cp_fin D' Y' cnt hcl htk]
    refine R_astoreN d_prog_3_method_3_code_32 rfl rfl (by first | exact Or.inl rfl | exact Or.inr ⟨_, rfl, rfl⟩) ?_
    try dsimp only [List.set_cons_zero, List.set_cons_succ, List.eraseIdx_cons_zero, List.eraseIdx_cons_succ, List.cons_append, List.nil_append, Option.toList]
    refine R_aloadN d_prog_3_method_3_code_33 rfl rfl ?_
    refine R_iconst (0) d_prog_3_method_3_code_34 (by decide) ?_
    refine R_putfield 2 5 d_prog_3_method_3_code_35 (hw _ (mem 141 rfl)) Via.refl rfl rfl rfl (Or.inl (hw _ (mem 142 rfl))) (hw _ (mem 23 rfl)) (ty := .int) (by decide) _ rfl rfl ?_
    try dsimp only [List.set_cons_zero, List.set_cons_succ, List.eraseIdx_cons_zero, List.eraseIdx_cons_succ, List.cons_append, List.nil_append, Option.toList]
    refine R_order (pkS 0 rfl (pkS 1 rfl (pkS 1 rfl (pkS 1 rfl (pkS 0 rfl pk0))))) ?_
    try dsimp only [List.set_cons_zero, List.set_cons_succ, List.eraseIdx_cons_zero, List.eraseIdx_cons_succ, List.cons_append, List.nil_append, Option.toList]
    refine R_aloadN d_prog_3_method_3_code_38 rfl rfl ?_
    exact R_areturn d_prog_3_method_3_code_39 rfl rfl rfl ⟨na, de2, D', rfl, hl', rfl⟩ (Nat.le_of_ble_eq_true rfl) (Nat.le_of_ble_eq_true rfl)
  · exact absurd g (by decide)

set_option maxRecDepth 65536 in
set_option maxHeartbeats 4000000 in
theorem M_fiC {Γ : Gx} (hw : Words Γ) (hcs : CS Γ) (hG : Lits Γ) (ta dc : Addr) (hD : D64 Γ ta dc) (o rn rb de : Addr) (M : Nat) (X D : List Value) (cs : List Int32) (cnt : Nat) (Y' : List Value) (h0 : cs.length = 4) (Y : List Value) (hY : Y.length = 3072) (j1 j2 j3 j4 : Nat) (k1 : j1 < 128) (k2 : j2 < 128) (k3 : j3 < 128) (k4 : j4 < 128) (e1 : cs[0 + 0]? = some j1.toInt32) (e2 : cs[0 + 1]? = some j2.toInt32) (e3 : cs[0 + 2]? = some j3.toInt32) (e4 : cs[0 + 3]? = some j4.toInt32) (v1 v2 v3 v4 : Int32) (t1 : tab64[j1]? = some v1) (z1 : V6 v1) (t2 : tab64[j2]? = some v2) (z2 : V6 v2) (j3e : j3 = 61) (j4e : j4 = 61) (t3 : tab64[j3]? = some (-2)) (hcnt : cnt = 0 + 1) (hY' : Y' = (Y.set (0 + 0) (.int (y0 v1 v2)))) (hM : cnt ≤ M) (hM2 : M ≤ 23) (hD2 : D.length ≤ 23) (hx : A7 j2.toInt32) (hm : j2.toInt32 ∈ l4) :
    Met Γ (⟨"com/example/delta_mirror/deltamirror/rrdp/Base64Binary", "finish", "()[B"⟩ : MethodName) prog_3_method_3_code 2 (some (.array .byte)) ({ frames := 5, cells := 5, slots := 140, locals := 80 } : Room) #[(.ref o)] [(o, true, BBO Γ rn rb de M.toInt32 cs.length.toInt32 0), (rn, true, BA Γ (cs.map Value.int ++ X)), (rb, true, BA Γ Y), (de, true, BA Γ D)] (fun v O' => ∃ (na de' : Addr) (D' : List Value), v = some (.ref na) ∧ D'.length ≤ 23 ∧ O' = [(na, true, BA Γ (Y'.take cnt)), (o, true, BBO Γ rn rb de' M.toInt32 0 0), (rn, true, BA Γ (cs.map Value.int ++ X)), (rb, true, BA Γ Y'), (de', true, BA Γ D')]) := by
  refine Met.intro pn_com_example_delta_mirror_deltamirror_rrdp_Base64Binary (Ls := [.val (.ref o), .unset]) (fun m => by first | rfl | (simp [entryFrame, mkF, argsToLocals, Value.category]; done)) ?_
  intro F
  refine R_alen (mem 3 rfl) fun hld => ?_
  have hc3 : cnt ≤ 6 := by omega
  refine R_aloadN d_prog_3_method_3_code_0 rfl rfl ?_
  refine R_call (S_private (as := []) (rest := _) (mem 0 rfl) obj_ns d_prog_3_method_3_code_1 (hw _ (mem 52 rfl)) (hw _ (mem 53 rfl)) (hw _ (mem 54 rfl)) (hw _ (mem 55 rfl)) (nf_inst (hw _ (mem 23 rfl))) (by decide) pd_ocZ rfl rfl rfl) (M_ends3 hw hcs hG o rn rb de M.toInt32 0 cs X (Or.inl h0) j4.toInt32 j3.toInt32 j2.toInt32 (by rw [h0]; exact e4) (by rw [j4e]; rfl) (by rw [h0]; exact e3) (by rw [j3e]; rfl) (by rw [h0]; exact e2) hx hm) (pkS 0 rfl (pkS 0 rfl pk0)) (hw _ (mem 55 rfl)) (hw _ (mem 24 rfl)) (Nat.le_of_ble_eq_true rfl) (Nat.le_of_ble_eq_true rfl) (Nat.le_of_ble_eq_true rfl) (Nat.le_of_ble_eq_true rfl) ?_
  rintro _ _ ⟨rfl, rfl⟩
  try dsimp only [List.set_cons_zero, List.set_cons_succ, List.eraseIdx_cons_zero, List.eraseIdx_cons_succ, List.cons_append, List.nil_append, Option.toList]
  refine R_if_ne (pc' := 17) d_prog_3_method_3_code_4 (by decide) (by decide) (fun g => ?_) (fun g => ?_)
  · refine R_aloadN d_prog_3_method_3_code_17 rfl rfl ?_
    refine R_callX (as := []) (rest := _) hG.1 (mem 0 rfl) obj_ns d_prog_3_method_3_code_18 (hw _ (mem 103 rfl)) (hw _ (mem 104 rfl)) (hw _ (mem 105 rfl)) (hw _ (mem 106 rfl)) (hw _ (mem 24 rfl)) (nf_inst (hw _ (mem 23 rfl))) (by decide) pd_ocV rfl rfl rfl (M_drC hw hG ta dc hD o rn rb de M X D cs cnt Y' h0 Y hY j1 j2 j3 j4 k1 k2 k3 k4 e1 e2 e3 e4 v1 v2 v3 v4 t1 z1 t2 z2 j3e j4e t3 hcnt hY' hM hM2 hD2) (pkS 0 rfl (pkS 0 rfl (pkS 0 rfl (pkS 0 rfl pk0)))) (Nat.le_of_ble_eq_true rfl) (Nat.le_of_ble_eq_true rfl) (Nat.le_of_ble_eq_true rfl) (Nat.le_of_ble_eq_true rfl) ?_
    rintro _ _ ⟨de2, D', rfl, hl', hcl, htk, rfl⟩
    try dsimp only [List.set_cons_zero, List.set_cons_succ, List.eraseIdx_cons_zero, List.eraseIdx_cons_succ, List.cons_append, List.nil_append, Option.toList]
    refine R_aloadN d_prog_3_method_3_code_21 rfl rfl ?_
    refine R_getfield d_prog_3_method_3_code_22 (hw _ (mem 36 rfl)) Via.refl (mem 0 rfl) (mem 2 rfl) ?_
    refine R_aloadN d_prog_3_method_3_code_25 rfl rfl ?_
    refine R_getfield d_prog_3_method_3_code_26 (hw _ (mem 141 rfl)) Via.refl (mem 0 rfl) (mem 5 rfl) ?_
    refine R_call (S_static (as := [_, _]) (rest := _) d_prog_3_method_3_code_29 (hw _ (mem 107 rfl)) (hw _ (mem 108 rfl)) (hw _ (mem 109 rfl)) (hw _ (mem 110 rfl)) (by decide) pd_oaBIcaB rfl rfl rfl) (M_cpB hw de2 true D' cnt (by omega)) (pkS 3 rfl pk0) (hw _ (mem 110 rfl)) (hw _ (mem 109 rfl)) (Nat.le_of_ble_eq_true rfl) (Nat.le_of_ble_eq_true rfl) (Nat.le_of_ble_eq_true rfl) (Nat.le_of_ble_eq_true rfl) ?_
    rintro _ _ ⟨na, rfl, rfl⟩
    try dsimp only [List.set_cons_zero, List.set_cons_succ, List.eraseIdx_cons_zero, List.eraseIdx_cons_succ, List.cons_append, List.nil_append, Option.toList]
    rw [cp_fin D' Y' cnt hcl htk]
    refine R_astoreN d_prog_3_method_3_code_32 rfl rfl (by first | exact Or.inl rfl | exact Or.inr ⟨_, rfl, rfl⟩) ?_
    try dsimp only [List.set_cons_zero, List.set_cons_succ, List.eraseIdx_cons_zero, List.eraseIdx_cons_succ, List.cons_append, List.nil_append, Option.toList]
    refine R_aloadN d_prog_3_method_3_code_33 rfl rfl ?_
    refine R_iconst (0) d_prog_3_method_3_code_34 (by decide) ?_
    refine R_putfield 2 5 d_prog_3_method_3_code_35 (hw _ (mem 141 rfl)) Via.refl rfl rfl rfl (Or.inl (hw _ (mem 142 rfl))) (hw _ (mem 23 rfl)) (ty := .int) (by decide) _ rfl rfl ?_
    try dsimp only [List.set_cons_zero, List.set_cons_succ, List.eraseIdx_cons_zero, List.eraseIdx_cons_succ, List.cons_append, List.nil_append, Option.toList]
    refine R_order (pkS 0 rfl (pkS 1 rfl (pkS 1 rfl (pkS 1 rfl (pkS 0 rfl pk0))))) ?_
    try dsimp only [List.set_cons_zero, List.set_cons_succ, List.eraseIdx_cons_zero, List.eraseIdx_cons_succ, List.cons_append, List.nil_append, Option.toList]
    refine R_aloadN d_prog_3_method_3_code_38 rfl rfl ?_
    exact R_areturn d_prog_3_method_3_code_39 rfl rfl rfl ⟨na, de2, D', rfl, hl', rfl⟩ (Nat.le_of_ble_eq_true rfl) (Nat.le_of_ble_eq_true rfl)
  · exact absurd g (by decide)

set_option maxRecDepth 65536 in
set_option maxHeartbeats 4000000 in
theorem M_fiD {Γ : Gx} (hw : Words Γ) (hcs : CS Γ) (hG : Lits Γ) (ta dc : Addr) (hD : D64 Γ ta dc) (o rn rb de : Addr) (M : Nat) (X D : List Value) (cs : List Int32) (cnt : Nat) (Y' : List Value) (h0 : cs.length = 8) (Y : List Value) (hY : Y.length = 3072) (i1 i2 i3 i4 : Nat) (m1 : i1 < 128) (m2 : i2 < 128) (m3 : i3 < 128) (m4 : i4 < 128) (f1 : cs[0]? = some i1.toInt32) (f2 : cs[1]? = some i2.toInt32) (f3 : cs[2]? = some i3.toInt32) (f4 : cs[3]? = some i4.toInt32) (u1 u2 u3 u4 : Int32) (q1 : tab64[i1]? = some u1) (x1 : V6 u1) (q2 : tab64[i2]? = some u2) (x2 : V6 u2) (q3 : tab64[i3]? = some u3) (x3 : V6 u3) (q4 : tab64[i4]? = some u4) (x4 : V6 u4) (j1 j2 j3 j4 : Nat) (k1 : j1 < 128) (k2 : j2 < 128) (k3 : j3 < 128) (k4 : j4 < 128) (e1 : cs[4 + 0]? = some j1.toInt32) (e2 : cs[4 + 1]? = some j2.toInt32) (e3 : cs[4 + 2]? = some j3.toInt32) (e4 : cs[4 + 3]? = some j4.toInt32) (v1 v2 v3 v4 : Int32) (t1 : tab64[j1]? = some v1) (z1 : V6 v1) (t2 : tab64[j2]? = some v2) (z2 : V6 v2) (t3 : tab64[j3]? = some v3) (z3 : V6 v3) (t4 : tab64[j4]? = some v4) (z4 : V6 v4) (hcnt : cnt = 3 + 3) (hY' : Y' = ((((((Y.set 0 (.int (y0 u1 u2))).set 1 (.int (y1 u2 u3))).set 2 (.int (y2 u3 u4))).set (3 + 0) (.int (y0 v1 v2))).set (3 + 1) (.int (y1 v2 v3))).set (3 + 2) (.int (y2 v3 v4)))) (hM : cnt ≤ M) (hM2 : M ≤ 23) (hD2 : D.length ≤ 23) (hx4 : ¬ j4.toInt32 = 61) :
    Met Γ (⟨"com/example/delta_mirror/deltamirror/rrdp/Base64Binary", "finish", "()[B"⟩ : MethodName) prog_3_method_3_code 2 (some (.array .byte)) ({ frames := 5, cells := 5, slots := 140, locals := 80 } : Room) #[(.ref o)] [(o, true, BBO Γ rn rb de M.toInt32 cs.length.toInt32 0), (rn, true, BA Γ (cs.map Value.int ++ X)), (rb, true, BA Γ Y), (de, true, BA Γ D)] (fun v O' => ∃ (na de' : Addr) (D' : List Value), v = some (.ref na) ∧ D'.length ≤ 23 ∧ O' = [(na, true, BA Γ (Y'.take cnt)), (o, true, BBO Γ rn rb de' M.toInt32 0 0), (rn, true, BA Γ (cs.map Value.int ++ X)), (rb, true, BA Γ Y'), (de', true, BA Γ D')]) := by
  refine Met.intro pn_com_example_delta_mirror_deltamirror_rrdp_Base64Binary (Ls := [.val (.ref o), .unset]) (fun m => by first | rfl | (simp [entryFrame, mkF, argsToLocals, Value.category]; done)) ?_
  intro F
  refine R_alen (mem 3 rfl) fun hld => ?_
  have hc3 : cnt ≤ 6 := by omega
  refine R_aloadN d_prog_3_method_3_code_0 rfl rfl ?_
  refine R_call (S_private (as := []) (rest := _) (mem 0 rfl) obj_ns d_prog_3_method_3_code_1 (hw _ (mem 52 rfl)) (hw _ (mem 53 rfl)) (hw _ (mem 54 rfl)) (hw _ (mem 55 rfl)) (nf_inst (hw _ (mem 23 rfl))) (by decide) pd_ocZ rfl rfl rfl) (M_ends1 hw hcs hG o rn rb de M.toInt32 0 cs X (Or.inr h0) j4.toInt32 (by rw [h0]; exact e4) hx4) (pkS 0 rfl (pkS 0 rfl pk0)) (hw _ (mem 55 rfl)) (hw _ (mem 24 rfl)) (Nat.le_of_ble_eq_true rfl) (Nat.le_of_ble_eq_true rfl) (Nat.le_of_ble_eq_true rfl) (Nat.le_of_ble_eq_true rfl) ?_
  rintro _ _ ⟨rfl, rfl⟩
  try dsimp only [List.set_cons_zero, List.set_cons_succ, List.eraseIdx_cons_zero, List.eraseIdx_cons_succ, List.cons_append, List.nil_append, Option.toList]
  refine R_if_ne (pc' := 17) d_prog_3_method_3_code_4 (by decide) (by decide) (fun g => ?_) (fun g => ?_)
  · refine R_aloadN d_prog_3_method_3_code_17 rfl rfl ?_
    refine R_callX (as := []) (rest := _) hG.1 (mem 0 rfl) obj_ns d_prog_3_method_3_code_18 (hw _ (mem 103 rfl)) (hw _ (mem 104 rfl)) (hw _ (mem 105 rfl)) (hw _ (mem 106 rfl)) (hw _ (mem 24 rfl)) (nf_inst (hw _ (mem 23 rfl))) (by decide) pd_ocV rfl rfl rfl (M_drD hw hG ta dc hD o rn rb de M X D cs cnt Y' h0 Y hY i1 i2 i3 i4 m1 m2 m3 m4 f1 f2 f3 f4 u1 u2 u3 u4 q1 x1 q2 x2 q3 x3 q4 x4 j1 j2 j3 j4 k1 k2 k3 k4 e1 e2 e3 e4 v1 v2 v3 v4 t1 z1 t2 z2 t3 z3 t4 z4 hcnt hY' hM hM2 hD2) (pkS 0 rfl (pkS 0 rfl (pkS 0 rfl (pkS 0 rfl pk0)))) (Nat.le_of_ble_eq_true rfl) (Nat.le_of_ble_eq_true rfl) (Nat.le_of_ble_eq_true rfl) (Nat.le_of_ble_eq_true rfl) ?_
    rintro _ _ ⟨de2, D', rfl, hl', hcl, htk, rfl⟩
    try dsimp only [List.set_cons_zero, List.set_cons_succ, List.eraseIdx_cons_zero, List.eraseIdx_cons_succ, List.cons_append, List.nil_append, Option.toList]
    refine R_aloadN d_prog_3_method_3_code_21 rfl rfl ?_
    refine R_getfield d_prog_3_method_3_code_22 (hw _ (mem 36 rfl)) Via.refl (mem 0 rfl) (mem 2 rfl) ?_
    refine R_aloadN d_prog_3_method_3_code_25 rfl rfl ?_
    refine R_getfield d_prog_3_method_3_code_26 (hw _ (mem 141 rfl)) Via.refl (mem 0 rfl) (mem 5 rfl) ?_
    refine R_call (S_static (as := [_, _]) (rest := _) d_prog_3_method_3_code_29 (hw _ (mem 107 rfl)) (hw _ (mem 108 rfl)) (hw _ (mem 109 rfl)) (hw _ (mem 110 rfl)) (by decide) pd_oaBIcaB rfl rfl rfl) (M_cpB hw de2 true D' cnt (by omega)) (pkS 3 rfl pk0) (hw _ (mem 110 rfl)) (hw _ (mem 109 rfl)) (Nat.le_of_ble_eq_true rfl) (Nat.le_of_ble_eq_true rfl) (Nat.le_of_ble_eq_true rfl) (Nat.le_of_ble_eq_true rfl) ?_
    rintro _ _ ⟨na, rfl, rfl⟩
    try dsimp only [List.set_cons_zero, List.set_cons_succ, List.eraseIdx_cons_zero, List.eraseIdx_cons_succ, List.cons_append, List.nil_append, Option.toList]
    rw [cp_fin D' Y' cnt hcl htk]
    refine R_astoreN d_prog_3_method_3_code_32 rfl rfl (by first | exact Or.inl rfl | exact Or.inr ⟨_, rfl, rfl⟩) ?_
    try dsimp only [List.set_cons_zero, List.set_cons_succ, List.eraseIdx_cons_zero, List.eraseIdx_cons_succ, List.cons_append, List.nil_append, Option.toList]
    refine R_aloadN d_prog_3_method_3_code_33 rfl rfl ?_
    refine R_iconst (0) d_prog_3_method_3_code_34 (by decide) ?_
    refine R_putfield 2 5 d_prog_3_method_3_code_35 (hw _ (mem 141 rfl)) Via.refl rfl rfl rfl (Or.inl (hw _ (mem 142 rfl))) (hw _ (mem 23 rfl)) (ty := .int) (by decide) _ rfl rfl ?_
    try dsimp only [List.set_cons_zero, List.set_cons_succ, List.eraseIdx_cons_zero, List.eraseIdx_cons_succ, List.cons_append, List.nil_append, Option.toList]
    refine R_order (pkS 0 rfl (pkS 1 rfl (pkS 1 rfl (pkS 1 rfl (pkS 0 rfl pk0))))) ?_
    try dsimp only [List.set_cons_zero, List.set_cons_succ, List.eraseIdx_cons_zero, List.eraseIdx_cons_succ, List.cons_append, List.nil_append, Option.toList]
    refine R_aloadN d_prog_3_method_3_code_38 rfl rfl ?_
    exact R_areturn d_prog_3_method_3_code_39 rfl rfl rfl ⟨na, de2, D', rfl, hl', rfl⟩ (Nat.le_of_ble_eq_true rfl) (Nat.le_of_ble_eq_true rfl)
  · exact absurd g (by decide)

set_option maxRecDepth 65536 in
set_option maxHeartbeats 4000000 in
theorem M_fiE {Γ : Gx} (hw : Words Γ) (hcs : CS Γ) (hG : Lits Γ) (ta dc : Addr) (hD : D64 Γ ta dc) (o rn rb de : Addr) (M : Nat) (X D : List Value) (cs : List Int32) (cnt : Nat) (Y' : List Value) (h0 : cs.length = 8) (Y : List Value) (hY : Y.length = 3072) (i1 i2 i3 i4 : Nat) (m1 : i1 < 128) (m2 : i2 < 128) (m3 : i3 < 128) (m4 : i4 < 128) (f1 : cs[0]? = some i1.toInt32) (f2 : cs[1]? = some i2.toInt32) (f3 : cs[2]? = some i3.toInt32) (f4 : cs[3]? = some i4.toInt32) (u1 u2 u3 u4 : Int32) (q1 : tab64[i1]? = some u1) (x1 : V6 u1) (q2 : tab64[i2]? = some u2) (x2 : V6 u2) (q3 : tab64[i3]? = some u3) (x3 : V6 u3) (q4 : tab64[i4]? = some u4) (x4 : V6 u4) (j1 j2 j3 j4 : Nat) (k1 : j1 < 128) (k2 : j2 < 128) (k3 : j3 < 128) (k4 : j4 < 128) (e1 : cs[4 + 0]? = some j1.toInt32) (e2 : cs[4 + 1]? = some j2.toInt32) (e3 : cs[4 + 2]? = some j3.toInt32) (e4 : cs[4 + 3]? = some j4.toInt32) (v1 v2 v3 v4 : Int32) (t1 : tab64[j1]? = some v1) (z1 : V6 v1) (t2 : tab64[j2]? = some v2) (z2 : V6 v2) (t3 : tab64[j3]? = some v3) (z3 : V6 v3) (j4e : j4 = 61) (t4 : tab64[j4]? = some (-2)) (hcnt : cnt = 3 + 2) (hY' : Y' = (((((Y.set 0 (.int (y0 u1 u2))).set 1 (.int (y1 u2 u3))).set 2 (.int (y2 u3 u4))).set (3 + 0) (.int (y0 v1 v2))).set (3 + 1) (.int (y1 v2 v3)))) (hM : cnt ≤ M) (hM2 : M ≤ 23) (hD2 : D.length ≤ 23) (hx3 : ¬ j3.toInt32 = 61) (hx : A7 j3.toInt32) (hm : j3.toInt32 ∈ l16) :
    Met Γ (⟨"com/example/delta_mirror/deltamirror/rrdp/Base64Binary", "finish", "()[B"⟩ : MethodName) prog_3_method_3_code 2 (some (.array .byte)) ({ frames := 5, cells := 5, slots := 140, locals := 80 } : Room) #[(.ref o)] [(o, true, BBO Γ rn rb de M.toInt32 cs.length.toInt32 0), (rn, true, BA Γ (cs.map Value.int ++ X)), (rb, true, BA Γ Y), (de, true, BA Γ D)] (fun v O' => ∃ (na de' : Addr) (D' : List Value), v = some (.ref na) ∧ D'.length ≤ 23 ∧ O' = [(na, true, BA Γ (Y'.take cnt)), (o, true, BBO Γ rn rb de' M.toInt32 0 0), (rn, true, BA Γ (cs.map Value.int ++ X)), (rb, true, BA Γ Y'), (de', true, BA Γ D')]) := by
  refine Met.intro pn_com_example_delta_mirror_deltamirror_rrdp_Base64Binary (Ls := [.val (.ref o), .unset]) (fun m => by first | rfl | (simp [entryFrame, mkF, argsToLocals, Value.category]; done)) ?_
  intro F
  refine R_alen (mem 3 rfl) fun hld => ?_
  have hc3 : cnt ≤ 6 := by omega
  refine R_aloadN d_prog_3_method_3_code_0 rfl rfl ?_
  refine R_call (S_private (as := []) (rest := _) (mem 0 rfl) obj_ns d_prog_3_method_3_code_1 (hw _ (mem 52 rfl)) (hw _ (mem 53 rfl)) (hw _ (mem 54 rfl)) (hw _ (mem 55 rfl)) (nf_inst (hw _ (mem 23 rfl))) (by decide) pd_ocZ rfl rfl rfl) (M_ends2 hw hcs hG o rn rb de M.toInt32 0 cs X (Or.inr h0) j4.toInt32 j3.toInt32 (by rw [h0]; exact e4) (by rw [j4e]; rfl) (by rw [h0]; exact e3) hx3 hx hm) (pkS 0 rfl (pkS 0 rfl pk0)) (hw _ (mem 55 rfl)) (hw _ (mem 24 rfl)) (Nat.le_of_ble_eq_true rfl) (Nat.le_of_ble_eq_true rfl) (Nat.le_of_ble_eq_true rfl) (Nat.le_of_ble_eq_true rfl) ?_
  rintro _ _ ⟨rfl, rfl⟩
  try dsimp only [List.set_cons_zero, List.set_cons_succ, List.eraseIdx_cons_zero, List.eraseIdx_cons_succ, List.cons_append, List.nil_append, Option.toList]
  refine R_if_ne (pc' := 17) d_prog_3_method_3_code_4 (by decide) (by decide) (fun g => ?_) (fun g => ?_)
  · refine R_aloadN d_prog_3_method_3_code_17 rfl rfl ?_
    refine R_callX (as := []) (rest := _) hG.1 (mem 0 rfl) obj_ns d_prog_3_method_3_code_18 (hw _ (mem 103 rfl)) (hw _ (mem 104 rfl)) (hw _ (mem 105 rfl)) (hw _ (mem 106 rfl)) (hw _ (mem 24 rfl)) (nf_inst (hw _ (mem 23 rfl))) (by decide) pd_ocV rfl rfl rfl (M_drE hw hG ta dc hD o rn rb de M X D cs cnt Y' h0 Y hY i1 i2 i3 i4 m1 m2 m3 m4 f1 f2 f3 f4 u1 u2 u3 u4 q1 x1 q2 x2 q3 x3 q4 x4 j1 j2 j3 j4 k1 k2 k3 k4 e1 e2 e3 e4 v1 v2 v3 v4 t1 z1 t2 z2 t3 z3 j4e t4 hcnt hY' hM hM2 hD2) (pkS 0 rfl (pkS 0 rfl (pkS 0 rfl (pkS 0 rfl pk0)))) (Nat.le_of_ble_eq_true rfl) (Nat.le_of_ble_eq_true rfl) (Nat.le_of_ble_eq_true rfl) (Nat.le_of_ble_eq_true rfl) ?_
    rintro _ _ ⟨de2, D', rfl, hl', hcl, htk, rfl⟩
    try dsimp only [List.set_cons_zero, List.set_cons_succ, List.eraseIdx_cons_zero, List.eraseIdx_cons_succ, List.cons_append, List.nil_append, Option.toList]
    refine R_aloadN d_prog_3_method_3_code_21 rfl rfl ?_
    refine R_getfield d_prog_3_method_3_code_22 (hw _ (mem 36 rfl)) Via.refl (mem 0 rfl) (mem 2 rfl) ?_
    refine R_aloadN d_prog_3_method_3_code_25 rfl rfl ?_
    refine R_getfield d_prog_3_method_3_code_26 (hw _ (mem 141 rfl)) Via.refl (mem 0 rfl) (mem 5 rfl) ?_
    refine R_call (S_static (as := [_, _]) (rest := _) d_prog_3_method_3_code_29 (hw _ (mem 107 rfl)) (hw _ (mem 108 rfl)) (hw _ (mem 109 rfl)) (hw _ (mem 110 rfl)) (by decide) pd_oaBIcaB rfl rfl rfl) (M_cpB hw de2 true D' cnt (by omega)) (pkS 3 rfl pk0) (hw _ (mem 110 rfl)) (hw _ (mem 109 rfl)) (Nat.le_of_ble_eq_true rfl) (Nat.le_of_ble_eq_true rfl) (Nat.le_of_ble_eq_true rfl) (Nat.le_of_ble_eq_true rfl) ?_
    rintro _ _ ⟨na, rfl, rfl⟩
    try dsimp only [List.set_cons_zero, List.set_cons_succ, List.eraseIdx_cons_zero, List.eraseIdx_cons_succ, List.cons_append, List.nil_append, Option.toList]
    rw [cp_fin D' Y' cnt hcl htk]
    refine R_astoreN d_prog_3_method_3_code_32 rfl rfl (by first | exact Or.inl rfl | exact Or.inr ⟨_, rfl, rfl⟩) ?_
    try dsimp only [List.set_cons_zero, List.set_cons_succ, List.eraseIdx_cons_zero, List.eraseIdx_cons_succ, List.cons_append, List.nil_append, Option.toList]
    refine R_aloadN d_prog_3_method_3_code_33 rfl rfl ?_
    refine R_iconst (0) d_prog_3_method_3_code_34 (by decide) ?_
    refine R_putfield 2 5 d_prog_3_method_3_code_35 (hw _ (mem 141 rfl)) Via.refl rfl rfl rfl (Or.inl (hw _ (mem 142 rfl))) (hw _ (mem 23 rfl)) (ty := .int) (by decide) _ rfl rfl ?_
    try dsimp only [List.set_cons_zero, List.set_cons_succ, List.eraseIdx_cons_zero, List.eraseIdx_cons_succ, List.cons_append, List.nil_append, Option.toList]
    refine R_order (pkS 0 rfl (pkS 1 rfl (pkS 1 rfl (pkS 1 rfl (pkS 0 rfl pk0))))) ?_
    try dsimp only [List.set_cons_zero, List.set_cons_succ, List.eraseIdx_cons_zero, List.eraseIdx_cons_succ, List.cons_append, List.nil_append, Option.toList]
    refine R_aloadN d_prog_3_method_3_code_38 rfl rfl ?_
    exact R_areturn d_prog_3_method_3_code_39 rfl rfl rfl ⟨na, de2, D', rfl, hl', rfl⟩ (Nat.le_of_ble_eq_true rfl) (Nat.le_of_ble_eq_true rfl)
  · exact absurd g (by decide)

set_option maxRecDepth 65536 in
set_option maxHeartbeats 4000000 in
theorem M_fiF {Γ : Gx} (hw : Words Γ) (hcs : CS Γ) (hG : Lits Γ) (ta dc : Addr) (hD : D64 Γ ta dc) (o rn rb de : Addr) (M : Nat) (X D : List Value) (cs : List Int32) (cnt : Nat) (Y' : List Value) (h0 : cs.length = 8) (Y : List Value) (hY : Y.length = 3072) (i1 i2 i3 i4 : Nat) (m1 : i1 < 128) (m2 : i2 < 128) (m3 : i3 < 128) (m4 : i4 < 128) (f1 : cs[0]? = some i1.toInt32) (f2 : cs[1]? = some i2.toInt32) (f3 : cs[2]? = some i3.toInt32) (f4 : cs[3]? = some i4.toInt32) (u1 u2 u3 u4 : Int32) (q1 : tab64[i1]? = some u1) (x1 : V6 u1) (q2 : tab64[i2]? = some u2) (x2 : V6 u2) (q3 : tab64[i3]? = some u3) (x3 : V6 u3) (q4 : tab64[i4]? = some u4) (x4 : V6 u4) (j1 j2 j3 j4 : Nat) (k1 : j1 < 128) (k2 : j2 < 128) (k3 : j3 < 128) (k4 : j4 < 128) (e1 : cs[4 + 0]? = some j1.toInt32) (e2 : cs[4 + 1]? = some j2.toInt32) (e3 : cs[4 + 2]? = some j3.toInt32) (e4 : cs[4 + 3]? = some j4.toInt32) (v1 v2 v3 v4 : Int32) (t1 : tab64[j1]? = some v1) (z1 : V6 v1) (t2 : tab64[j2]? = some v2) (z2 : V6 v2) (j3e : j3 = 61) (j4e : j4 = 61) (t3 : tab64[j3]? = some (-2)) (hcnt : cnt = 3 + 1) (hY' : Y' = ((((Y.set 0 (.int (y0 u1 u2))).set 1 (.int (y1 u2 u3))).set 2 (.int (y2 u3 u4))).set (3 + 0) (.int (y0 v1 v2)))) (hM : cnt ≤ M) (hM2 : M ≤ 23) (hD2 : D.length ≤ 23) (hx : A7 j2.toInt32) (hm : j2.toInt32 ∈ l4) :
    Met Γ (⟨"com/example/delta_mirror/deltamirror/rrdp/Base64Binary", "finish", "()[B"⟩ : MethodName) prog_3_method_3_code 2 (some (.array .byte)) ({ frames := 5, cells := 5, slots := 140, locals := 80 } : Room) #[(.ref o)] [(o, true, BBO Γ rn rb de M.toInt32 cs.length.toInt32 0), (rn, true, BA Γ (cs.map Value.int ++ X)), (rb, true, BA Γ Y), (de, true, BA Γ D)] (fun v O' => ∃ (na de' : Addr) (D' : List Value), v = some (.ref na) ∧ D'.length ≤ 23 ∧ O' = [(na, true, BA Γ (Y'.take cnt)), (o, true, BBO Γ rn rb de' M.toInt32 0 0), (rn, true, BA Γ (cs.map Value.int ++ X)), (rb, true, BA Γ Y'), (de', true, BA Γ D')]) := by
  refine Met.intro pn_com_example_delta_mirror_deltamirror_rrdp_Base64Binary (Ls := [.val (.ref o), .unset]) (fun m => by first | rfl | (simp [entryFrame, mkF, argsToLocals, Value.category]; done)) ?_
  intro F
  refine R_alen (mem 3 rfl) fun hld => ?_
  have hc3 : cnt ≤ 6 := by omega
  refine R_aloadN d_prog_3_method_3_code_0 rfl rfl ?_
  refine R_call (S_private (as := []) (rest := _) (mem 0 rfl) obj_ns d_prog_3_method_3_code_1 (hw _ (mem 52 rfl)) (hw _ (mem 53 rfl)) (hw _ (mem 54 rfl)) (hw _ (mem 55 rfl)) (nf_inst (hw _ (mem 23 rfl))) (by decide) pd_ocZ rfl rfl rfl) (M_ends3 hw hcs hG o rn rb de M.toInt32 0 cs X (Or.inr h0) j4.toInt32 j3.toInt32 j2.toInt32 (by rw [h0]; exact e4) (by rw [j4e]; rfl) (by rw [h0]; exact e3) (by rw [j3e]; rfl) (by rw [h0]; exact e2) hx hm) (pkS 0 rfl (pkS 0 rfl pk0)) (hw _ (mem 55 rfl)) (hw _ (mem 24 rfl)) (Nat.le_of_ble_eq_true rfl) (Nat.le_of_ble_eq_true rfl) (Nat.le_of_ble_eq_true rfl) (Nat.le_of_ble_eq_true rfl) ?_
  rintro _ _ ⟨rfl, rfl⟩
  try dsimp only [List.set_cons_zero, List.set_cons_succ, List.eraseIdx_cons_zero, List.eraseIdx_cons_succ, List.cons_append, List.nil_append, Option.toList]
  refine R_if_ne (pc' := 17) d_prog_3_method_3_code_4 (by decide) (by decide) (fun g => ?_) (fun g => ?_)
  · refine R_aloadN d_prog_3_method_3_code_17 rfl rfl ?_
    refine R_callX (as := []) (rest := _) hG.1 (mem 0 rfl) obj_ns d_prog_3_method_3_code_18 (hw _ (mem 103 rfl)) (hw _ (mem 104 rfl)) (hw _ (mem 105 rfl)) (hw _ (mem 106 rfl)) (hw _ (mem 24 rfl)) (nf_inst (hw _ (mem 23 rfl))) (by decide) pd_ocV rfl rfl rfl (M_drF hw hG ta dc hD o rn rb de M X D cs cnt Y' h0 Y hY i1 i2 i3 i4 m1 m2 m3 m4 f1 f2 f3 f4 u1 u2 u3 u4 q1 x1 q2 x2 q3 x3 q4 x4 j1 j2 j3 j4 k1 k2 k3 k4 e1 e2 e3 e4 v1 v2 v3 v4 t1 z1 t2 z2 j3e j4e t3 hcnt hY' hM hM2 hD2) (pkS 0 rfl (pkS 0 rfl (pkS 0 rfl (pkS 0 rfl pk0)))) (Nat.le_of_ble_eq_true rfl) (Nat.le_of_ble_eq_true rfl) (Nat.le_of_ble_eq_true rfl) (Nat.le_of_ble_eq_true rfl) ?_
    rintro _ _ ⟨de2, D', rfl, hl', hcl, htk, rfl⟩
    try dsimp only [List.set_cons_zero, List.set_cons_succ, List.eraseIdx_cons_zero, List.eraseIdx_cons_succ, List.cons_append, List.nil_append, Option.toList]
    refine R_aloadN d_prog_3_method_3_code_21 rfl rfl ?_
    refine R_getfield d_prog_3_method_3_code_22 (hw _ (mem 36 rfl)) Via.refl (mem 0 rfl) (mem 2 rfl) ?_
    refine R_aloadN d_prog_3_method_3_code_25 rfl rfl ?_
    refine R_getfield d_prog_3_method_3_code_26 (hw _ (mem 141 rfl)) Via.refl (mem 0 rfl) (mem 5 rfl) ?_
    refine R_call (S_static (as := [_, _]) (rest := _) d_prog_3_method_3_code_29 (hw _ (mem 107 rfl)) (hw _ (mem 108 rfl)) (hw _ (mem 109 rfl)) (hw _ (mem 110 rfl)) (by decide) pd_oaBIcaB rfl rfl rfl) (M_cpB hw de2 true D' cnt (by omega)) (pkS 3 rfl pk0) (hw _ (mem 110 rfl)) (hw _ (mem 109 rfl)) (Nat.le_of_ble_eq_true rfl) (Nat.le_of_ble_eq_true rfl) (Nat.le_of_ble_eq_true rfl) (Nat.le_of_ble_eq_true rfl) ?_
    rintro _ _ ⟨na, rfl, rfl⟩
    try dsimp only [List.set_cons_zero, List.set_cons_succ, List.eraseIdx_cons_zero, List.eraseIdx_cons_succ, List.cons_append, List.nil_append, Option.toList]
    rw [cp_fin D' Y' cnt hcl htk]
    refine R_astoreN d_prog_3_method_3_code_32 rfl rfl (by first | exact Or.inl rfl | exact Or.inr ⟨_, rfl, rfl⟩) ?_
    try dsimp only [List.set_cons_zero, List.set_cons_succ, List.eraseIdx_cons_zero, List.eraseIdx_cons_succ, List.cons_append, List.nil_append, Option.toList]
    refine R_aloadN d_prog_3_method_3_code_33 rfl rfl ?_
    refine R_iconst (0) d_prog_3_method_3_code_34 (by decide) ?_
    refine R_putfield 2 5 d_prog_3_method_3_code_35 (hw _ (mem 141 rfl)) Via.refl rfl rfl rfl (Or.inl (hw _ (mem 142 rfl))) (hw _ (mem 23 rfl)) (ty := .int) (by decide) _ rfl rfl ?_
    try dsimp only [List.set_cons_zero, List.set_cons_succ, List.eraseIdx_cons_zero, List.eraseIdx_cons_succ, List.cons_append, List.nil_append, Option.toList]
    refine R_order (pkS 0 rfl (pkS 1 rfl (pkS 1 rfl (pkS 1 rfl (pkS 0 rfl pk0))))) ?_
    try dsimp only [List.set_cons_zero, List.set_cons_succ, List.eraseIdx_cons_zero, List.eraseIdx_cons_succ, List.cons_append, List.nil_append, Option.toList]
    refine R_aloadN d_prog_3_method_3_code_38 rfl rfl ?_
    exact R_areturn d_prog_3_method_3_code_39 rfl rfl rfl ⟨na, de2, D', rfl, hl', rfl⟩ (Nat.le_of_ble_eq_true rfl) (Nat.le_of_ble_eq_true rfl)
  · exact absurd g (by decide)

-- CUT
def sy (v : Int32) : Int32 := if v < 26 then 65 + v else if v < 52 then 97 + (v - 26) else if v < 62 then 48 + (v - 52) else if v = 62 then 43 else 47
theorem syA : ∀ a : Fin 64, Int32.ofNat a.val < 26 → nar .char ((65 : Int32) + Int32.ofNat a.val).toUInt32.toUInt16.toUInt32.toInt32 = sy (Int32.ofNat a.val) := by decide +kernel
theorem syB : ∀ a : Fin 64, ¬ Int32.ofNat a.val < 26 → Int32.ofNat a.val < 52 → nar .char ((97 : Int32) + (Int32.ofNat a.val - 26)).toUInt32.toUInt16.toUInt32.toInt32 = sy (Int32.ofNat a.val) := by decide +kernel
theorem syC : ∀ a : Fin 64, ¬ Int32.ofNat a.val < 26 → ¬ Int32.ofNat a.val < 52 → Int32.ofNat a.val < 62 → nar .char ((48 : Int32) + (Int32.ofNat a.val - 52)).toUInt32.toUInt16.toUInt32.toInt32 = sy (Int32.ofNat a.val) := by decide +kernel
theorem syD : ∀ a : Fin 64, ¬ Int32.ofNat a.val < 26 → ¬ Int32.ofNat a.val < 52 → ¬ Int32.ofNat a.val < 62 → ((Int32.ofNat a.val = 62 → nar .char 43 = sy (Int32.ofNat a.val)) ∧ (¬ Int32.ofNat a.val = 62 → nar .char 47 = sy (Int32.ofNat a.val))) := by decide +kernel
def syN (a : Fin 64) : Nat := (sy (Int32.ofNat a.val)).toNatClampNeg
theorem sym_all : ∀ a : Fin 64, sy (Int32.ofNat a.val) = (syN a).toInt32 ∧ syN a < 128 ∧ tab64[syN a]? = some (Int32.ofNat a.val) ∧ nws (syN a).toInt32 = true ∧ ¬ (syN a).toInt32 = 61 ∧ A7 (syN a).toInt32 := by decide +kernel
theorem sym_ok {v : Int32} (h : V6 v) : ∃ j : Nat, sy v = j.toInt32 ∧ j < 128 ∧ tab64[j]? = some v ∧ nws j.toInt32 = true ∧ ¬ j.toInt32 = 61 ∧ A7 j.toInt32 := by
  obtain ⟨a, rfl⟩ := h; exact ⟨_, sym_all a⟩
theorem sy_nw {v : Int32} (h : V6 v) : nws (sy v) = true ∧ A7 (sy v) := by
  obtain ⟨j, e, -, -, n, -, a⟩ := sym_ok h; rw [e]; exact ⟨n, a⟩
theorem nsy {v : Int32} (h : V6 v) : nar .char (sy v) = sy v := le255 (lo7 (sy_nw h).2)
abbrev B8 (v : Int32) : Prop := ∃ a : Fin 256, v = Int32.ofNat a.val
abbrev V4 (v : Int32) : Prop := ∃ a : Fin 16, v = Int32.ofNat a.val
abbrev V2 (v : Int32) : Prop := ∃ a : Fin 4, v = Int32.ofNat a.val
abbrev g0 (x0 : Int32) : Int32 := XT.ushr x0 2
abbrev g1 (x0 w : Int32) : Int32 := ((x0 &&& 3) <<< ((4 : Int32) &&& 31)) ||| w
abbrev g2 (x1 w : Int32) : Int32 := ((x1 &&& 15) <<< ((2 : Int32) &&& 31)) ||| w
abbrev g3 (x2 : Int32) : Int32 := x2 &&& 63
abbrev h4 (x : Int32) : Int32 := XT.ushr x 4
abbrev h6 (x : Int32) : Int32 := XT.ushr x 6
theorem q1a : ∀ a : Fin 256, ((Int32.ofNat a.val) &&& 3) <<< ((4 : Int32) &&& 31) = Int32.ofNat (16 * (a.val % 4)) := by decide +kernel
theorem q1b : ∀ a : Fin 256, ((g0 (Int32.ofNat a.val) <<< ((2 : Int32) &&& 31)) ||| Int32.ofNat (a.val % 4)).toInt8.toInt32 = b8 (Int32.ofNat a.val) := by decide +kernel
theorem q1c : ∀ a : Fin 256, ∃ b : Fin 64, g0 (Int32.ofNat a.val) = Int32.ofNat b.val := by decide +kernel
theorem q2a : ∀ a : Fin 256, ((Int32.ofNat a.val) &&& 15) <<< ((2 : Int32) &&& 31) = Int32.ofNat (4 * (a.val % 16)) := by decide +kernel
theorem q2b : ∀ a : Fin 256, h4 (Int32.ofNat a.val) = Int32.ofNat (a.val / 16) := by decide +kernel
theorem q2c : ∀ a : Fin 256, ((Int32.ofNat (a.val / 16) <<< ((4 : Int32) &&& 31)) ||| Int32.ofNat (a.val % 16)).toInt8.toInt32 = b8 (Int32.ofNat a.val) := by decide +kernel
theorem q3a : ∀ a : Fin 256, h6 (Int32.ofNat a.val) = Int32.ofNat (a.val / 64) := by decide +kernel
theorem q3b : ∀ a : Fin 256, ((Int32.ofNat (a.val / 64) <<< ((6 : Int32) &&& 31)) ||| ((Int32.ofNat a.val) &&& 63)).toInt8.toInt32 = b8 (Int32.ofNat a.val) := by decide +kernel
theorem q3c : ∀ a : Fin 256, ∃ b : Fin 64, (Int32.ofNat a.val) &&& 63 = Int32.ofNat b.val := by decide +kernel
theorem d1 : ∀ a : Fin 4, ∀ b : Fin 16, (Int32.ofNat (16 * a.val) ||| Int32.ofNat b.val) &&& 15 = Int32.ofNat b.val ∧ (Int32.ofNat (16 * a.val) ||| Int32.ofNat b.val) >>> ((4 : Int32) &&& 31) = Int32.ofNat a.val ∧ ∃ z : Fin 64, Int32.ofNat (16 * a.val) ||| Int32.ofNat b.val = Int32.ofNat z.val := by decide +kernel
theorem d2 : ∀ a : Fin 16, ∀ b : Fin 4, (Int32.ofNat (4 * a.val) ||| Int32.ofNat b.val) &&& 3 = Int32.ofNat b.val ∧ (Int32.ofNat (4 * a.val) ||| Int32.ofNat b.val) >>> ((2 : Int32) &&& 31) = Int32.ofNat a.val ∧ ∃ z : Fin 64, Int32.ofNat (4 * a.val) ||| Int32.ofNat b.val = Int32.ofNat z.val := by decide +kernel
theorem V_g0 {x : Int32} (h : B8 x) : V6 (g0 x) := by obtain ⟨a, rfl⟩ := h; exact q1c a
theorem V_g3 {x : Int32} (h : B8 x) : V6 (g3 x) := by obtain ⟨a, rfl⟩ := h; exact q3c a
theorem V_h4 {x : Int32} (h : B8 x) : V4 (h4 x) := by obtain ⟨a, rfl⟩ := h; exact ⟨⟨a.val / 16, by omega⟩, q2b a⟩
theorem V_h6 {x : Int32} (h : B8 x) : V2 (h6 x) := by obtain ⟨a, rfl⟩ := h; exact ⟨⟨a.val / 64, by omega⟩, q3a a⟩
theorem V_04 : V4 0 := ⟨0, rfl⟩
theorem V_02 : V2 0 := ⟨0, rfl⟩
theorem V_g1 {x w : Int32} (h : B8 x) (hw : V4 w) : V6 (g1 x w) := by
  obtain ⟨a, rfl⟩ := h; obtain ⟨b, rfl⟩ := hw
  rw [g1, q1a]; exact (d1 ⟨a.val % 4, by omega⟩ b).2.2
theorem V_g2 {x w : Int32} (h : B8 x) (hw : V2 w) : V6 (g2 x w) := by
  obtain ⟨a, rfl⟩ := h; obtain ⟨b, rfl⟩ := hw
  rw [g2, q2a]; exact (d2 ⟨a.val % 16, by omega⟩ b).2.2
theorem by0 {x w : Int32} (h : B8 x) (hw : V4 w) : y0 (g0 x) (g1 x w) = b8 x := by
  obtain ⟨a, rfl⟩ := h; obtain ⟨b, rfl⟩ := hw
  rw [y0, g1, q1a, (d1 ⟨a.val % 4, by omega⟩ b).2.1]; exact q1b a
theorem by1 {x y w : Int32} (hx : B8 x) (h : B8 y) (hw : V2 w) : y1 (g1 x (h4 y)) (g2 y w) = b8 y := by
  obtain ⟨c, rfl⟩ := hx; obtain ⟨a, rfl⟩ := h; obtain ⟨b, rfl⟩ := hw
  rw [y1, g1, g2, q1a, q2a, q2b, (d1 ⟨c.val % 4, by omega⟩ ⟨a.val / 16, by omega⟩).1, (d2 ⟨a.val % 16, by omega⟩ b).2.1]; exact q2c a
theorem by2 {x y : Int32} (hx : B8 x) (h : B8 y) : y2 (g2 x (h6 y)) (g3 y) = b8 y := by
  obtain ⟨c, rfl⟩ := hx; obtain ⟨a, rfl⟩ := h
  rw [y2, g2, q2a, q3a, (d2 ⟨c.val % 16, by omega⟩ ⟨a.val / 64, by omega⟩).1]; exact q3b a
theorem in4 {x : Int32} (h : B8 x) : sy (g1 x 0) ∈ l4 := by
  obtain ⟨a, rfl⟩ := h
  exact (by decide +kernel : ∀ a : Fin 256, sy (g1 (Int32.ofNat a.val) 0) ∈ l4) a
theorem in16 {x : Int32} (h : B8 x) : sy (g2 x 0) ∈ l16 := by
  obtain ⟨a, rfl⟩ := h
  exact (by decide +kernel : ∀ a : Fin 256, sy (g2 (Int32.ofNat a.val) 0) ∈ l16) a
abbrev gA (x0 x1 x2 : Int32) : List Int32 := [sy (g0 x0), sy (g1 x0 (h4 x1)), sy (g2 x1 (h6 x2)), sy (g3 x2)]
abbrev gB (x0 x1 : Int32) : List Int32 := [sy (g0 x0), sy (g1 x0 (h4 x1)), sy (g2 x1 0), 61]
abbrev gC (x0 : Int32) : List Int32 := [sy (g0 x0), sy (g1 x0 0), 61, 61]
def cst (v0 v1 v2 v3 v4 v5 : Int32) : Nat → List Int32
  | 0 => []
  | 1 => gC v0
  | 2 => gB v0 v1
  | 3 => gA v0 v1 v2
  | 4 => gA v0 v1 v2 ++ gC v3
  | 5 => gA v0 v1 v2 ++ gB v3 v4
  | _ => gA v0 v1 v2 ++ gA v3 v4 v5
def tl : Nat → Nat
  | 0 => 0
  | 1 => 4
  | 2 => 4
  | 3 => 4
  | _ => 8
def txt (v0 v1 v2 v3 v4 v5 : Int32) : Nat → List Int32
  | 0 => [0, 0, 0, 0, 0, 0, 0, 0]
  | 1 => gC v0 ++ [0, 0, 0, 0]
  | 2 => gB v0 v1 ++ [0, 0, 0, 0]
  | 3 => gA v0 v1 v2 ++ [0, 0, 0, 0]
  | 4 => gA v0 v1 v2 ++ gC v3
  | 5 => gA v0 v1 v2 ++ gB v3 v4
  | _ => gA v0 v1 v2 ++ gA v3 v4 v5
def byt (v0 v1 v2 v3 v4 v5 : Int32) (n : Nat) : List Int32 := List.take n [b8 v0, b8 v1, b8 v2, b8 v3, b8 v4, b8 v5]
theorem n7 {n : Nat} (h : n ≤ 6) : n = 0 ∨ n = 1 ∨ n = 2 ∨ n = 3 ∨ n = 4 ∨ n = 5 ∨ n = 6 := by omega
theorem txt_len (v0 v1 v2 v3 v4 v5 : Int32) (n : Nat) (h : n ≤ 6) : (txt v0 v1 v2 v3 v4 v5 n).length = 8 := by
  rcases n7 h with rfl | rfl | rfl | rfl | rfl | rfl | rfl <;> rfl
theorem cst_len (v0 v1 v2 v3 v4 v5 : Int32) (n : Nat) (h : n ≤ 6) : (cst v0 v1 v2 v3 v4 v5 n).length = tl n := by
  rcases n7 h with rfl | rfl | rfl | rfl | rfl | rfl | rfl <;> rfl
theorem tl_le (n : Nat) : tl n ≤ 8 := by
  match n with
  | 0 | 1 | 2 | 3 | _ + 4 => simp [tl]
theorem tl_or (n : Nat) : tl n = 0 ∨ tl n = 4 ∨ tl n = 8 := by
  match n with
  | 0 | 1 | 2 | 3 | _ + 4 => simp [tl]
theorem txt_take (v0 v1 v2 v3 v4 v5 : Int32) (n : Nat) (h : n ≤ 6) : (txt v0 v1 v2 v3 v4 v5 n).take (tl n) = cst v0 v1 v2 v3 v4 v5 n := by
  rcases n7 h with rfl | rfl | rfl | rfl | rfl | rfl | rfl <;> rfl
abbrev NA (x : Int32) : Prop := nws x = true ∧ A7 x
theorem na61 : NA 61 := by decide
theorem gA_na {x0 x1 x2 : Int32} (h0 : B8 x0) (h1 : B8 x1) (h2 : B8 x2) : ∀ x ∈ gA x0 x1 x2, NA x := alS (sy_nw (V_g0 h0)) (alS (sy_nw (V_g1 h0 (V_h4 h1))) (alS (sy_nw (V_g2 h1 (V_h6 h2))) (alS (sy_nw (V_g3 h2)) al0)))
theorem gB_na {x0 x1 : Int32} (h0 : B8 x0) (h1 : B8 x1) : ∀ x ∈ gB x0 x1, NA x := alS (sy_nw (V_g0 h0)) (alS (sy_nw (V_g1 h0 (V_h4 h1))) (alS (sy_nw (V_g2 h1 V_02)) (alS na61 al0)))
theorem gC_na {x0 : Int32} (h0 : B8 x0) : ∀ x ∈ gC x0, NA x := alS (sy_nw (V_g0 h0)) (alS (sy_nw (V_g1 h0 V_04)) (alS na61 (alS na61 al0)))
theorem ap_all {P : Int32 → Prop} {A B : List Int32} (hA : ∀ x ∈ A, P x) (hB : ∀ x ∈ B, P x) : ∀ x ∈ A ++ B, P x := fun x hx => (List.mem_append.mp hx).elim (hA x) (hB x)
theorem cst_na {v0 v1 v2 v3 v4 v5 : Int32} (b0 : B8 v0) (b1 : B8 v1) (b2 : B8 v2) (b3 : B8 v3) (b4 : B8 v4) (b5 : B8 v5) (n : Nat) (h : n ≤ 6) : ∀ x ∈ cst v0 v1 v2 v3 v4 v5 n, NA x := by
  rcases n7 h with rfl | rfl | rfl | rfl | rfl | rfl | rfl
  · exact al0
  · exact gC_na b0
  · exact gB_na b0 b1
  · exact gA_na b0 b1 b2
  · exact ap_all (gA_na b0 b1 b2) (gC_na b3)
  · exact ap_all (gA_na b0 b1 b2) (gB_na b3 b4)
  · exact ap_all (gA_na b0 b1 b2) (gA_na b3 b4 b5)
theorem txt_a7 {v0 v1 v2 v3 v4 v5 : Int32} (b0 : B8 v0) (b1 : B8 v1) (b2 : B8 v2) (b3 : B8 v3) (b4 : B8 v4) (b5 : B8 v5) (n : Nat) (h : n ≤ 6) : ∀ x ∈ txt v0 v1 v2 v3 v4 v5 n, A7 x := by
  have z4 : ∀ x ∈ ([0, 0, 0, 0] : List Int32), A7 x := by decide
  have k := cst_na b0 b1 b2 b3 b4 b5 n h
  rcases n7 h with rfl | rfl | rfl | rfl | rfl | rfl | rfl
  · exact (by decide : ∀ x ∈ ([0, 0, 0, 0, 0, 0, 0, 0] : List Int32), A7 x)
  · exact ap_all (fun x hx => (k x hx).2) z4
  · exact ap_all (fun x hx => (k x hx).2) z4
  · exact ap_all (fun x hx => (k x hx).2) z4
  · exact fun x hx => (k x hx).2
  · exact fun x hx => (k x hx).2
  · exact fun x hx => (k x hx).2
theorem ecs {v0 v1 v2 v3 v4 v5 : Int32} (b0 : B8 v0) (b1 : B8 v1) (b2 : B8 v2) (b3 : B8 v3) (b4 : B8 v4) (b5 : B8 v5) (n : Nat) (h : n ≤ 6) (s : Nat) (hs : s ≤ tl n) : ((txt v0 v1 v2 v3 v4 v5 n).take s).filter nws ++ (((txt v0 v1 v2 v3 v4 v5 n).drop s).take (tl n - s)).filter nws = cst v0 v1 v2 v3 v4 v5 n := by
  rw [← List.filter_append, ← List.take_add, show s + (tl n - s) = tl n from by omega, txt_take _ _ _ _ _ _ _ h]
  exact List.filter_eq_self.mpr fun x hx => (cst_na b0 b1 b2 b3 b4 b5 n h x hx).1
theorem m7 (x : Int32) : ∃ k : Nat, k ≤ 6 ∧ (x &&& 7) % 7 = k.toInt32 := by
  have h := c_and x 7 (by decide)
  have e1 : (7 : Int32).toInt = 7 := rfl
  have q := (c_iremV (x &&& 7) 7).1 (by omega) (by decide)
  refine ⟨((x &&& 7) % 7).toInt.toNat, by omega, ?_⟩
  rw [← Int32.toInt_inj, len_toInt (by omega)]; omega
theorem m15 (x : Int32) : ∃ k : Nat, k ≤ 15 ∧ x &&& 15 = k.toInt32 := by
  have h := c_and x 15 (by decide)
  have e1 : (15 : Int32).toInt = 15 := rfl
  refine ⟨(x &&& 15).toInt.toNat, by omega, ?_⟩
  rw [← Int32.toInt_inj, len_toInt (by omega)]; omega
theorem msd (x d : Int32) (k : Nat) (hd : d.toInt = k + 1) (hk : k ≤ 8) : ∃ s : Nat, s ≤ k ∧ (x &&& 15) % d = s.toInt32 := by
  have h := c_and x 15 (by decide)
  have e1 : (15 : Int32).toInt = 15 := rfl
  have q := (c_iremV (x &&& 15) d).1 (by omega) (by omega)
  refine ⟨((x &&& 15) % d).toInt.toNat, by omega, ?_⟩
  rw [← Int32.toInt_inj, len_toInt (by omega)]; omega
theorem ms (x : Int32) (n : Nat) : ∃ s : Nat, s ≤ tl n ∧ (x &&& 15) % ((tl n).toInt32 + 1) = s.toInt32 := by
  rcases tl_or n with e | e | e <;> rw [e]
  · exact msd x _ 0 (by decide) (by decide)
  · exact msd x _ 4 (by decide) (by decide)
  · exact msd x _ 8 (by decide) (by decide)
theorem tl_ne (n : Nat) : (tl n).toInt32 + 1 ≠ 0 := by
  rcases tl_or n with e | e | e <;> rw [e] <;> decide
theorem m3 (x : Int32) : x &&& 3 = 0 ∨ x &&& 3 = 1 ∨ x &&& 3 = 2 ∨ x &&& 3 = 3 := by
  have h := c_and x 3 (by decide)
  have e1 : (3 : Int32).toInt = 3 := rfl
  have e2 : (2 : Int32).toInt = 2 := rfl
  have e3 : (1 : Int32).toInt = 1 := rfl
  have e4 : (0 : Int32).toInt = 0 := rfl
  simp only [← Int32.toInt_inj]; omega
theorem six (Y : List Value) (h : Y.length = 3072) : ∃ a b c d e f r, Y = a :: b :: c :: d :: e :: f :: r := by
  match Y, h with
  | a :: b :: c :: d :: e :: f :: r, _ => exact ⟨a, b, c, d, e, f, r, rfl⟩
  | [], h => simp at h
  | [_], h => simp at h
  | [_, _], h => simp at h
  | [_, _, _], h => simp at h
  | [_, _, _, _], h => simp at h
  | [_, _, _, _, _], h => simp at h
theorem tk1 (Y : List Value) (h : Y.length = 3072) (xa : Value) : (Y.set (0 + 0) xa).take (0 + 1) = [xa] := by
  obtain ⟨a, b, c, d, e, f, r, rfl⟩ := six Y h
  rfl
theorem tk2 (Y : List Value) (h : Y.length = 3072) (xa xb : Value) : ((Y.set (0 + 0) xa).set (0 + 1) xb).take (0 + 2) = [xa, xb] := by
  obtain ⟨a, b, c, d, e, f, r, rfl⟩ := six Y h
  rfl
theorem tk3 (Y : List Value) (h : Y.length = 3072) (xa xb xc : Value) : (((Y.set (0 + 0) xa).set (0 + 1) xb).set (0 + 2) xc).take (0 + 3) = [xa, xb, xc] := by
  obtain ⟨a, b, c, d, e, f, r, rfl⟩ := six Y h
  rfl
theorem tk4 (Y : List Value) (h : Y.length = 3072) (xa xb xc xd : Value) : ((((Y.set (0) xa).set (1) xb).set (2) xc).set (3 + 0) xd).take (3 + 1) = [xa, xb, xc, xd] := by
  obtain ⟨a, b, c, d, e, f, r, rfl⟩ := six Y h
  rfl
theorem tk5 (Y : List Value) (h : Y.length = 3072) (xa xb xc xd xe : Value) : (((((Y.set (0) xa).set (1) xb).set (2) xc).set (3 + 0) xd).set (3 + 1) xe).take (3 + 2) = [xa, xb, xc, xd, xe] := by
  obtain ⟨a, b, c, d, e, f, r, rfl⟩ := six Y h
  rfl
theorem tk6 (Y : List Value) (h : Y.length = 3072) (xa xb xc xd xe xf : Value) : ((((((Y.set (0) xa).set (1) xb).set (2) xc).set (3 + 0) xd).set (3 + 1) xe).set (3 + 2) xf).take (3 + 3) = [xa, xb, xc, xd, xe, xf] := by
  obtain ⟨a, b, c, d, e, f, r, rfl⟩ := six Y h
  rfl
-- CUT
set_option maxHeartbeats 4000000 in
theorem M_f0 {Γ : Gx} (hw : Words Γ) (hcs : CS Γ) (hG : Lits Γ) (ta dc : Addr) (hD : D64 Γ ta dc) (o rn rb de : Addr) (M : Nat) (X D Y : List Value) (hY : Y.length = 3072) (hM2 : M ≤ 23) (hD2 : D.length ≤ 23) (v0 v1 v2 v3 v4 v5 : Int32) (b0 : B8 v0) (b1 : B8 v1) (b2 : B8 v2) (b3 : B8 v3) (b4 : B8 v4) (b5 : B8 v5) (hM : 0 ≤ M) :
    Met Γ (⟨"com/example/delta_mirror/deltamirror/rrdp/Base64Binary", "finish", "()[B"⟩ : MethodName) prog_3_method_3_code 2 (some (.array .byte)) ({ frames := 5, cells := 5, slots := 140, locals := 80 } : Room) #[.ref o] [(o, true, BBO Γ rn rb de M.toInt32 (cst v0 v1 v2 v3 v4 v5 0).length.toInt32 0), (rn, true, BA Γ ((cst v0 v1 v2 v3 v4 v5 0).map Value.int ++ X)), (rb, true, BA Γ Y), (de, true, BA Γ D)] (fun v O' => ∃ (na de' : Addr) (D' Y' : List Value), v = some (.ref na) ∧ D'.length ≤ 23 ∧ Y'.length = 3072 ∧ O' = [(na, true, BA Γ ((byt v0 v1 v2 v3 v4 v5 0).map Value.int)), (o, true, BBO Γ rn rb de' M.toInt32 0 0), (rn, true, BA Γ ((cst v0 v1 v2 v3 v4 v5 0).map Value.int ++ X)), (rb, true, BA Γ Y'), (de', true, BA Γ D')]) := by
  refine (M_fi0 hw hcs hG ta dc hD o rn rb de M X D [] 0 Y rfl Y rfl rfl hY (Nat.zero_le _) hM2 hD2).mono ?_
  rintro _ _ ⟨na, de', D', rfl, hl, rfl⟩
  exact ⟨na, de', D', Y, rfl, hl, hY, rfl⟩

set_option maxHeartbeats 4000000 in
theorem M_f1 {Γ : Gx} (hw : Words Γ) (hcs : CS Γ) (hG : Lits Γ) (ta dc : Addr) (hD : D64 Γ ta dc) (o rn rb de : Addr) (M : Nat) (X D Y : List Value) (hY : Y.length = 3072) (hM2 : M ≤ 23) (hD2 : D.length ≤ 23) (v0 v1 v2 v3 v4 v5 : Int32) (b0 : B8 v0) (b1 : B8 v1) (b2 : B8 v2) (b3 : B8 v3) (b4 : B8 v4) (b5 : B8 v5) (hM : 1 ≤ M) :
    Met Γ (⟨"com/example/delta_mirror/deltamirror/rrdp/Base64Binary", "finish", "()[B"⟩ : MethodName) prog_3_method_3_code 2 (some (.array .byte)) ({ frames := 5, cells := 5, slots := 140, locals := 80 } : Room) #[.ref o] [(o, true, BBO Γ rn rb de M.toInt32 (cst v0 v1 v2 v3 v4 v5 1).length.toInt32 0), (rn, true, BA Γ ((cst v0 v1 v2 v3 v4 v5 1).map Value.int ++ X)), (rb, true, BA Γ Y), (de, true, BA Γ D)] (fun v O' => ∃ (na de' : Addr) (D' Y' : List Value), v = some (.ref na) ∧ D'.length ≤ 23 ∧ Y'.length = 3072 ∧ O' = [(na, true, BA Γ ((byt v0 v1 v2 v3 v4 v5 1).map Value.int)), (o, true, BBO Γ rn rb de' M.toInt32 0 0), (rn, true, BA Γ ((cst v0 v1 v2 v3 v4 v5 1).map Value.int ++ X)), (rb, true, BA Γ Y'), (de', true, BA Γ D')]) := by
  obtain ⟨j1, ej1, kj1, tj1, -, nj1, aj1⟩ := sym_ok (V_g0 b0)
  obtain ⟨j2, ej2, kj2, tj2, -, nj2, aj2⟩ := sym_ok (V_g1 b0 V_04)
  refine (M_fiC hw hcs hG ta dc hD o rn rb de M X D (cst v0 v1 v2 v3 v4 v5 1) (0 + 1) (Y.set (0 + 0) (.int (y0 (g0 v0) (g1 v0 0)))) rfl Y hY  j1 j2 61 61 kj1 kj2 (by decide) (by decide) (congrArg some ej1) (congrArg some ej2) rfl rfl (g0 v0) (g1 v0 0) 0 0 tj1 (V_g0 b0) tj2 (V_g1 b0 V_04) rfl rfl (by decide +kernel) rfl rfl hM hM2 hD2 aj2 (by rw [← ej2]; exact in4 b0)).mono ?_
  rintro _ _ ⟨na, de', D', rfl, hl, rfl⟩
  refine ⟨na, de', D', (Y.set (0 + 0) (.int (y0 (g0 v0) (g1 v0 0)))), rfl, hl, ?_, ?_⟩
  · simp only [List.length_set]; exact hY
  · rw [tk1 Y hY, by0 b0 V_04]; rfl

set_option maxHeartbeats 4000000 in
theorem M_f2 {Γ : Gx} (hw : Words Γ) (hcs : CS Γ) (hG : Lits Γ) (ta dc : Addr) (hD : D64 Γ ta dc) (o rn rb de : Addr) (M : Nat) (X D Y : List Value) (hY : Y.length = 3072) (hM2 : M ≤ 23) (hD2 : D.length ≤ 23) (v0 v1 v2 v3 v4 v5 : Int32) (b0 : B8 v0) (b1 : B8 v1) (b2 : B8 v2) (b3 : B8 v3) (b4 : B8 v4) (b5 : B8 v5) (hM : 2 ≤ M) :
    Met Γ (⟨"com/example/delta_mirror/deltamirror/rrdp/Base64Binary", "finish", "()[B"⟩ : MethodName) prog_3_method_3_code 2 (some (.array .byte)) ({ frames := 5, cells := 5, slots := 140, locals := 80 } : Room) #[.ref o] [(o, true, BBO Γ rn rb de M.toInt32 (cst v0 v1 v2 v3 v4 v5 2).length.toInt32 0), (rn, true, BA Γ ((cst v0 v1 v2 v3 v4 v5 2).map Value.int ++ X)), (rb, true, BA Γ Y), (de, true, BA Γ D)] (fun v O' => ∃ (na de' : Addr) (D' Y' : List Value), v = some (.ref na) ∧ D'.length ≤ 23 ∧ Y'.length = 3072 ∧ O' = [(na, true, BA Γ ((byt v0 v1 v2 v3 v4 v5 2).map Value.int)), (o, true, BBO Γ rn rb de' M.toInt32 0 0), (rn, true, BA Γ ((cst v0 v1 v2 v3 v4 v5 2).map Value.int ++ X)), (rb, true, BA Γ Y'), (de', true, BA Γ D')]) := by
  obtain ⟨j1, ej1, kj1, tj1, -, nj1, aj1⟩ := sym_ok (V_g0 b0)
  obtain ⟨j2, ej2, kj2, tj2, -, nj2, aj2⟩ := sym_ok (V_g1 b0 (V_h4 b1))
  obtain ⟨j3, ej3, kj3, tj3, -, nj3, aj3⟩ := sym_ok (V_g2 b1 V_02)
  refine (M_fiB hw hcs hG ta dc hD o rn rb de M X D (cst v0 v1 v2 v3 v4 v5 2) (0 + 2) ((Y.set (0 + 0) (.int (y0 (g0 v0) (g1 v0 (h4 v1))))).set (0 + 1) (.int (y1 (g1 v0 (h4 v1)) (g2 v1 0)))) rfl Y hY  j1 j2 j3 61 kj1 kj2 kj3 (by decide) (congrArg some ej1) (congrArg some ej2) (congrArg some ej3) rfl (g0 v0) (g1 v0 (h4 v1)) (g2 v1 0) 0 tj1 (V_g0 b0) tj2 (V_g1 b0 (V_h4 b1)) tj3 (V_g2 b1 V_02) rfl (by decide +kernel) rfl rfl hM hM2 hD2 nj3 aj3 (by rw [← ej3]; exact in16 b1)).mono ?_
  rintro _ _ ⟨na, de', D', rfl, hl, rfl⟩
  refine ⟨na, de', D', ((Y.set (0 + 0) (.int (y0 (g0 v0) (g1 v0 (h4 v1))))).set (0 + 1) (.int (y1 (g1 v0 (h4 v1)) (g2 v1 0)))), rfl, hl, ?_, ?_⟩
  · simp only [List.length_set]; exact hY
  · rw [tk2 Y hY, by0 b0 (V_h4 b1), by1 b0 b1 V_02]; rfl

set_option maxHeartbeats 4000000 in
theorem M_f3 {Γ : Gx} (hw : Words Γ) (hcs : CS Γ) (hG : Lits Γ) (ta dc : Addr) (hD : D64 Γ ta dc) (o rn rb de : Addr) (M : Nat) (X D Y : List Value) (hY : Y.length = 3072) (hM2 : M ≤ 23) (hD2 : D.length ≤ 23) (v0 v1 v2 v3 v4 v5 : Int32) (b0 : B8 v0) (b1 : B8 v1) (b2 : B8 v2) (b3 : B8 v3) (b4 : B8 v4) (b5 : B8 v5) (hM : 3 ≤ M) :
    Met Γ (⟨"com/example/delta_mirror/deltamirror/rrdp/Base64Binary", "finish", "()[B"⟩ : MethodName) prog_3_method_3_code 2 (some (.array .byte)) ({ frames := 5, cells := 5, slots := 140, locals := 80 } : Room) #[.ref o] [(o, true, BBO Γ rn rb de M.toInt32 (cst v0 v1 v2 v3 v4 v5 3).length.toInt32 0), (rn, true, BA Γ ((cst v0 v1 v2 v3 v4 v5 3).map Value.int ++ X)), (rb, true, BA Γ Y), (de, true, BA Γ D)] (fun v O' => ∃ (na de' : Addr) (D' Y' : List Value), v = some (.ref na) ∧ D'.length ≤ 23 ∧ Y'.length = 3072 ∧ O' = [(na, true, BA Γ ((byt v0 v1 v2 v3 v4 v5 3).map Value.int)), (o, true, BBO Γ rn rb de' M.toInt32 0 0), (rn, true, BA Γ ((cst v0 v1 v2 v3 v4 v5 3).map Value.int ++ X)), (rb, true, BA Γ Y'), (de', true, BA Γ D')]) := by
  obtain ⟨j1, ej1, kj1, tj1, -, nj1, aj1⟩ := sym_ok (V_g0 b0)
  obtain ⟨j2, ej2, kj2, tj2, -, nj2, aj2⟩ := sym_ok (V_g1 b0 (V_h4 b1))
  obtain ⟨j3, ej3, kj3, tj3, -, nj3, aj3⟩ := sym_ok (V_g2 b1 (V_h6 b2))
  obtain ⟨j4, ej4, kj4, tj4, -, nj4, aj4⟩ := sym_ok (V_g3 b2)
  refine (M_fiA hw hcs hG ta dc hD o rn rb de M X D (cst v0 v1 v2 v3 v4 v5 3) (0 + 3) (((Y.set (0 + 0) (.int (y0 (g0 v0) (g1 v0 (h4 v1))))).set (0 + 1) (.int (y1 (g1 v0 (h4 v1)) (g2 v1 (h6 v2))))).set (0 + 2) (.int (y2 (g2 v1 (h6 v2)) (g3 v2)))) rfl Y hY  j1 j2 j3 j4 kj1 kj2 kj3 kj4 (congrArg some ej1) (congrArg some ej2) (congrArg some ej3) (congrArg some ej4) (g0 v0) (g1 v0 (h4 v1)) (g2 v1 (h6 v2)) (g3 v2) tj1 (V_g0 b0) tj2 (V_g1 b0 (V_h4 b1)) tj3 (V_g2 b1 (V_h6 b2)) tj4 (V_g3 b2) rfl rfl hM hM2 hD2 nj4).mono ?_
  rintro _ _ ⟨na, de', D', rfl, hl, rfl⟩
  refine ⟨na, de', D', (((Y.set (0 + 0) (.int (y0 (g0 v0) (g1 v0 (h4 v1))))).set (0 + 1) (.int (y1 (g1 v0 (h4 v1)) (g2 v1 (h6 v2))))).set (0 + 2) (.int (y2 (g2 v1 (h6 v2)) (g3 v2)))), rfl, hl, ?_, ?_⟩
  · simp only [List.length_set]; exact hY
  · rw [tk3 Y hY, by0 b0 (V_h4 b1), by1 b0 b1 (V_h6 b2), by2 b1 b2]; rfl

set_option maxHeartbeats 4000000 in
theorem M_f4 {Γ : Gx} (hw : Words Γ) (hcs : CS Γ) (hG : Lits Γ) (ta dc : Addr) (hD : D64 Γ ta dc) (o rn rb de : Addr) (M : Nat) (X D Y : List Value) (hY : Y.length = 3072) (hM2 : M ≤ 23) (hD2 : D.length ≤ 23) (v0 v1 v2 v3 v4 v5 : Int32) (b0 : B8 v0) (b1 : B8 v1) (b2 : B8 v2) (b3 : B8 v3) (b4 : B8 v4) (b5 : B8 v5) (hM : 4 ≤ M) :
    Met Γ (⟨"com/example/delta_mirror/deltamirror/rrdp/Base64Binary", "finish", "()[B"⟩ : MethodName) prog_3_method_3_code 2 (some (.array .byte)) ({ frames := 5, cells := 5, slots := 140, locals := 80 } : Room) #[.ref o] [(o, true, BBO Γ rn rb de M.toInt32 (cst v0 v1 v2 v3 v4 v5 4).length.toInt32 0), (rn, true, BA Γ ((cst v0 v1 v2 v3 v4 v5 4).map Value.int ++ X)), (rb, true, BA Γ Y), (de, true, BA Γ D)] (fun v O' => ∃ (na de' : Addr) (D' Y' : List Value), v = some (.ref na) ∧ D'.length ≤ 23 ∧ Y'.length = 3072 ∧ O' = [(na, true, BA Γ ((byt v0 v1 v2 v3 v4 v5 4).map Value.int)), (o, true, BBO Γ rn rb de' M.toInt32 0 0), (rn, true, BA Γ ((cst v0 v1 v2 v3 v4 v5 4).map Value.int ++ X)), (rb, true, BA Γ Y'), (de', true, BA Γ D')]) := by
  obtain ⟨j1, ej1, kj1, tj1, -, nj1, aj1⟩ := sym_ok (V_g0 b3)
  obtain ⟨j2, ej2, kj2, tj2, -, nj2, aj2⟩ := sym_ok (V_g1 b3 V_04)
  obtain ⟨i1, ei1, ki1, ti1, -, -, -⟩ := sym_ok (V_g0 b0)
  obtain ⟨i2, ei2, ki2, ti2, -, -, -⟩ := sym_ok (V_g1 b0 (V_h4 b1))
  obtain ⟨i3, ei3, ki3, ti3, -, -, -⟩ := sym_ok (V_g2 b1 (V_h6 b2))
  obtain ⟨i4, ei4, ki4, ti4, -, -, -⟩ := sym_ok (V_g3 b2)
  refine (M_fiF hw hcs hG ta dc hD o rn rb de M X D (cst v0 v1 v2 v3 v4 v5 4) (3 + 1) ((((Y.set 0 (.int (y0 (g0 v0) (g1 v0 (h4 v1))))).set 1 (.int (y1 (g1 v0 (h4 v1)) (g2 v1 (h6 v2))))).set 2 (.int (y2 (g2 v1 (h6 v2)) (g3 v2)))).set (3 + 0) (.int (y0 (g0 v3) (g1 v3 0)))) rfl Y hY i1 i2 i3 i4 ki1 ki2 ki3 ki4 (congrArg some ei1) (congrArg some ei2) (congrArg some ei3) (congrArg some ei4) (g0 v0) (g1 v0 (h4 v1)) (g2 v1 (h6 v2)) (g3 v2) ti1 (V_g0 b0) ti2 (V_g1 b0 (V_h4 b1)) ti3 (V_g2 b1 (V_h6 b2)) ti4 (V_g3 b2) j1 j2 61 61 kj1 kj2 (by decide) (by decide) (congrArg some ej1) (congrArg some ej2) rfl rfl (g0 v3) (g1 v3 0) 0 0 tj1 (V_g0 b3) tj2 (V_g1 b3 V_04) rfl rfl (by decide +kernel) rfl rfl hM hM2 hD2 aj2 (by rw [← ej2]; exact in4 b3)).mono ?_
  rintro _ _ ⟨na, de', D', rfl, hl, rfl⟩
  refine ⟨na, de', D', ((((Y.set 0 (.int (y0 (g0 v0) (g1 v0 (h4 v1))))).set 1 (.int (y1 (g1 v0 (h4 v1)) (g2 v1 (h6 v2))))).set 2 (.int (y2 (g2 v1 (h6 v2)) (g3 v2)))).set (3 + 0) (.int (y0 (g0 v3) (g1 v3 0)))), rfl, hl, ?_, ?_⟩
  · simp only [List.length_set]; exact hY
  · rw [tk4 Y hY, by0 b0 (V_h4 b1), by1 b0 b1 (V_h6 b2), by2 b1 b2, by0 b3 V_04]; rfl

set_option maxHeartbeats 4000000 in
theorem M_f5 {Γ : Gx} (hw : Words Γ) (hcs : CS Γ) (hG : Lits Γ) (ta dc : Addr) (hD : D64 Γ ta dc) (o rn rb de : Addr) (M : Nat) (X D Y : List Value) (hY : Y.length = 3072) (hM2 : M ≤ 23) (hD2 : D.length ≤ 23) (v0 v1 v2 v3 v4 v5 : Int32) (b0 : B8 v0) (b1 : B8 v1) (b2 : B8 v2) (b3 : B8 v3) (b4 : B8 v4) (b5 : B8 v5) (hM : 5 ≤ M) :
    Met Γ (⟨"com/example/delta_mirror/deltamirror/rrdp/Base64Binary", "finish", "()[B"⟩ : MethodName) prog_3_method_3_code 2 (some (.array .byte)) ({ frames := 5, cells := 5, slots := 140, locals := 80 } : Room) #[.ref o] [(o, true, BBO Γ rn rb de M.toInt32 (cst v0 v1 v2 v3 v4 v5 5).length.toInt32 0), (rn, true, BA Γ ((cst v0 v1 v2 v3 v4 v5 5).map Value.int ++ X)), (rb, true, BA Γ Y), (de, true, BA Γ D)] (fun v O' => ∃ (na de' : Addr) (D' Y' : List Value), v = some (.ref na) ∧ D'.length ≤ 23 ∧ Y'.length = 3072 ∧ O' = [(na, true, BA Γ ((byt v0 v1 v2 v3 v4 v5 5).map Value.int)), (o, true, BBO Γ rn rb de' M.toInt32 0 0), (rn, true, BA Γ ((cst v0 v1 v2 v3 v4 v5 5).map Value.int ++ X)), (rb, true, BA Γ Y'), (de', true, BA Γ D')]) := by
  obtain ⟨j1, ej1, kj1, tj1, -, nj1, aj1⟩ := sym_ok (V_g0 b3)
  obtain ⟨j2, ej2, kj2, tj2, -, nj2, aj2⟩ := sym_ok (V_g1 b3 (V_h4 b4))
  obtain ⟨j3, ej3, kj3, tj3, -, nj3, aj3⟩ := sym_ok (V_g2 b4 V_02)
  obtain ⟨i1, ei1, ki1, ti1, -, -, -⟩ := sym_ok (V_g0 b0)
  obtain ⟨i2, ei2, ki2, ti2, -, -, -⟩ := sym_ok (V_g1 b0 (V_h4 b1))
  obtain ⟨i3, ei3, ki3, ti3, -, -, -⟩ := sym_ok (V_g2 b1 (V_h6 b2))
  obtain ⟨i4, ei4, ki4, ti4, -, -, -⟩ := sym_ok (V_g3 b2)
  refine (M_fiE hw hcs hG ta dc hD o rn rb de M X D (cst v0 v1 v2 v3 v4 v5 5) (3 + 2) (((((Y.set 0 (.int (y0 (g0 v0) (g1 v0 (h4 v1))))).set 1 (.int (y1 (g1 v0 (h4 v1)) (g2 v1 (h6 v2))))).set 2 (.int (y2 (g2 v1 (h6 v2)) (g3 v2)))).set (3 + 0) (.int (y0 (g0 v3) (g1 v3 (h4 v4))))).set (3 + 1) (.int (y1 (g1 v3 (h4 v4)) (g2 v4 0)))) rfl Y hY i1 i2 i3 i4 ki1 ki2 ki3 ki4 (congrArg some ei1) (congrArg some ei2) (congrArg some ei3) (congrArg some ei4) (g0 v0) (g1 v0 (h4 v1)) (g2 v1 (h6 v2)) (g3 v2) ti1 (V_g0 b0) ti2 (V_g1 b0 (V_h4 b1)) ti3 (V_g2 b1 (V_h6 b2)) ti4 (V_g3 b2) j1 j2 j3 61 kj1 kj2 kj3 (by decide) (congrArg some ej1) (congrArg some ej2) (congrArg some ej3) rfl (g0 v3) (g1 v3 (h4 v4)) (g2 v4 0) 0 tj1 (V_g0 b3) tj2 (V_g1 b3 (V_h4 b4)) tj3 (V_g2 b4 V_02) rfl (by decide +kernel) rfl rfl hM hM2 hD2 nj3 aj3 (by rw [← ej3]; exact in16 b4)).mono ?_
  rintro _ _ ⟨na, de', D', rfl, hl, rfl⟩
  refine ⟨na, de', D', (((((Y.set 0 (.int (y0 (g0 v0) (g1 v0 (h4 v1))))).set 1 (.int (y1 (g1 v0 (h4 v1)) (g2 v1 (h6 v2))))).set 2 (.int (y2 (g2 v1 (h6 v2)) (g3 v2)))).set (3 + 0) (.int (y0 (g0 v3) (g1 v3 (h4 v4))))).set (3 + 1) (.int (y1 (g1 v3 (h4 v4)) (g2 v4 0)))), rfl, hl, ?_, ?_⟩
  · simp only [List.length_set]; exact hY
  · rw [tk5 Y hY, by0 b0 (V_h4 b1), by1 b0 b1 (V_h6 b2), by2 b1 b2, by0 b3 (V_h4 b4), by1 b3 b4 V_02]; rfl

set_option maxHeartbeats 4000000 in
theorem M_f6 {Γ : Gx} (hw : Words Γ) (hcs : CS Γ) (hG : Lits Γ) (ta dc : Addr) (hD : D64 Γ ta dc) (o rn rb de : Addr) (M : Nat) (X D Y : List Value) (hY : Y.length = 3072) (hM2 : M ≤ 23) (hD2 : D.length ≤ 23) (v0 v1 v2 v3 v4 v5 : Int32) (b0 : B8 v0) (b1 : B8 v1) (b2 : B8 v2) (b3 : B8 v3) (b4 : B8 v4) (b5 : B8 v5) (hM : 6 ≤ M) :
    Met Γ (⟨"com/example/delta_mirror/deltamirror/rrdp/Base64Binary", "finish", "()[B"⟩ : MethodName) prog_3_method_3_code 2 (some (.array .byte)) ({ frames := 5, cells := 5, slots := 140, locals := 80 } : Room) #[.ref o] [(o, true, BBO Γ rn rb de M.toInt32 (cst v0 v1 v2 v3 v4 v5 6).length.toInt32 0), (rn, true, BA Γ ((cst v0 v1 v2 v3 v4 v5 6).map Value.int ++ X)), (rb, true, BA Γ Y), (de, true, BA Γ D)] (fun v O' => ∃ (na de' : Addr) (D' Y' : List Value), v = some (.ref na) ∧ D'.length ≤ 23 ∧ Y'.length = 3072 ∧ O' = [(na, true, BA Γ ((byt v0 v1 v2 v3 v4 v5 6).map Value.int)), (o, true, BBO Γ rn rb de' M.toInt32 0 0), (rn, true, BA Γ ((cst v0 v1 v2 v3 v4 v5 6).map Value.int ++ X)), (rb, true, BA Γ Y'), (de', true, BA Γ D')]) := by
  obtain ⟨j1, ej1, kj1, tj1, -, nj1, aj1⟩ := sym_ok (V_g0 b3)
  obtain ⟨j2, ej2, kj2, tj2, -, nj2, aj2⟩ := sym_ok (V_g1 b3 (V_h4 b4))
  obtain ⟨j3, ej3, kj3, tj3, -, nj3, aj3⟩ := sym_ok (V_g2 b4 (V_h6 b5))
  obtain ⟨j4, ej4, kj4, tj4, -, nj4, aj4⟩ := sym_ok (V_g3 b5)
  obtain ⟨i1, ei1, ki1, ti1, -, -, -⟩ := sym_ok (V_g0 b0)
  obtain ⟨i2, ei2, ki2, ti2, -, -, -⟩ := sym_ok (V_g1 b0 (V_h4 b1))
  obtain ⟨i3, ei3, ki3, ti3, -, -, -⟩ := sym_ok (V_g2 b1 (V_h6 b2))
  obtain ⟨i4, ei4, ki4, ti4, -, -, -⟩ := sym_ok (V_g3 b2)
  refine (M_fiD hw hcs hG ta dc hD o rn rb de M X D (cst v0 v1 v2 v3 v4 v5 6) (3 + 3) ((((((Y.set 0 (.int (y0 (g0 v0) (g1 v0 (h4 v1))))).set 1 (.int (y1 (g1 v0 (h4 v1)) (g2 v1 (h6 v2))))).set 2 (.int (y2 (g2 v1 (h6 v2)) (g3 v2)))).set (3 + 0) (.int (y0 (g0 v3) (g1 v3 (h4 v4))))).set (3 + 1) (.int (y1 (g1 v3 (h4 v4)) (g2 v4 (h6 v5))))).set (3 + 2) (.int (y2 (g2 v4 (h6 v5)) (g3 v5)))) rfl Y hY i1 i2 i3 i4 ki1 ki2 ki3 ki4 (congrArg some ei1) (congrArg some ei2) (congrArg some ei3) (congrArg some ei4) (g0 v0) (g1 v0 (h4 v1)) (g2 v1 (h6 v2)) (g3 v2) ti1 (V_g0 b0) ti2 (V_g1 b0 (V_h4 b1)) ti3 (V_g2 b1 (V_h6 b2)) ti4 (V_g3 b2) j1 j2 j3 j4 kj1 kj2 kj3 kj4 (congrArg some ej1) (congrArg some ej2) (congrArg some ej3) (congrArg some ej4) (g0 v3) (g1 v3 (h4 v4)) (g2 v4 (h6 v5)) (g3 v5) tj1 (V_g0 b3) tj2 (V_g1 b3 (V_h4 b4)) tj3 (V_g2 b4 (V_h6 b5)) tj4 (V_g3 b5) rfl rfl hM hM2 hD2 nj4).mono ?_
  rintro _ _ ⟨na, de', D', rfl, hl, rfl⟩
  refine ⟨na, de', D', ((((((Y.set 0 (.int (y0 (g0 v0) (g1 v0 (h4 v1))))).set 1 (.int (y1 (g1 v0 (h4 v1)) (g2 v1 (h6 v2))))).set 2 (.int (y2 (g2 v1 (h6 v2)) (g3 v2)))).set (3 + 0) (.int (y0 (g0 v3) (g1 v3 (h4 v4))))).set (3 + 1) (.int (y1 (g1 v3 (h4 v4)) (g2 v4 (h6 v5))))).set (3 + 2) (.int (y2 (g2 v4 (h6 v5)) (g3 v5)))), rfl, hl, ?_, ?_⟩
  · simp only [List.length_set]; exact hY
  · rw [tk6 Y hY, by0 b0 (V_h4 b1), by1 b0 b1 (V_h6 b2), by2 b1 b2, by0 b3 (V_h4 b4), by1 b3 b4 (V_h6 b5), by2 b4 b5]; rfl

theorem M_fin {Γ : Gx} (hw : Words Γ) (hcs : CS Γ) (hG : Lits Γ) (ta dc : Addr) (hD : D64 Γ ta dc) (o rn rb de : Addr) (M : Nat) (X D Y : List Value) (hY : Y.length = 3072) (hM2 : M ≤ 23) (hD2 : D.length ≤ 23) (v0 v1 v2 v3 v4 v5 : Int32) (b0 : B8 v0) (b1 : B8 v1) (b2 : B8 v2) (b3 : B8 v3) (b4 : B8 v4) (b5 : B8 v5) (n : Nat) (hn : n ≤ 6) (hM : n ≤ M) :
    Met Γ (⟨"com/example/delta_mirror/deltamirror/rrdp/Base64Binary", "finish", "()[B"⟩ : MethodName) prog_3_method_3_code 2 (some (.array .byte)) ({ frames := 5, cells := 5, slots := 140, locals := 80 } : Room) #[.ref o] [(o, true, BBO Γ rn rb de M.toInt32 (cst v0 v1 v2 v3 v4 v5 n).length.toInt32 0), (rn, true, BA Γ ((cst v0 v1 v2 v3 v4 v5 n).map Value.int ++ X)), (rb, true, BA Γ Y), (de, true, BA Γ D)] (fun v O' => ∃ (na de' : Addr) (D' Y' : List Value), v = some (.ref na) ∧ D'.length ≤ 23 ∧ Y'.length = 3072 ∧ O' = [(na, true, BA Γ ((byt v0 v1 v2 v3 v4 v5 n).map Value.int)), (o, true, BBO Γ rn rb de' M.toInt32 0 0), (rn, true, BA Γ ((cst v0 v1 v2 v3 v4 v5 n).map Value.int ++ X)), (rb, true, BA Γ Y'), (de', true, BA Γ D')]) := by
  rcases n7 hn with rfl | rfl | rfl | rfl | rfl | rfl | rfl
  · exact M_f0 hw hcs hG ta dc hD o rn rb de M X D Y hY hM2 hD2 v0 v1 v2 v3 v4 v5 b0 b1 b2 b3 b4 b5 hM
  · exact M_f1 hw hcs hG ta dc hD o rn rb de M X D Y hY hM2 hD2 v0 v1 v2 v3 v4 v5 b0 b1 b2 b3 b4 b5 hM
  · exact M_f2 hw hcs hG ta dc hD o rn rb de M X D Y hY hM2 hD2 v0 v1 v2 v3 v4 v5 b0 b1 b2 b3 b4 b5 hM
  · exact M_f3 hw hcs hG ta dc hD o rn rb de M X D Y hY hM2 hD2 v0 v1 v2 v3 v4 v5 b0 b1 b2 b3 b4 b5 hM
  · exact M_f4 hw hcs hG ta dc hD o rn rb de M X D Y hY hM2 hD2 v0 v1 v2 v3 v4 v5 b0 b1 b2 b3 b4 b5 hM
  · exact M_f5 hw hcs hG ta dc hD o rn rb de M X D Y hY hM2 hD2 v0 v1 v2 v3 v4 v5 b0 b1 b2 b3 b4 b5 hM
  · exact M_f6 hw hcs hG ta dc hD o rn rb de M X D Y hY hM2 hD2 v0 v1 v2 v3 v4 v5 b0 b1 b2 b3 b4 b5 hM

-- CUT
theorem d_method_6_code_0 : decode method_6_code 0 = .ok (.iload_n 0, 1) := by decide +kernel
theorem d_method_6_code_1 : decode method_6_code 1 = .ok (.bipush 26, 2) := by decide +kernel
theorem d_method_6_code_3 : decode method_6_code 3 = .ok (.if_icmp .ge 9, 3) := by decide +kernel
theorem d_method_6_code_12 : decode method_6_code 12 = .ok (.iload_n 0, 1) := by decide +kernel
theorem d_method_6_code_13 : decode method_6_code 13 = .ok (.bipush 52, 2) := by decide +kernel
theorem d_method_6_code_15 : decode method_6_code 15 = .ok (.if_icmp .ge 12, 3) := by decide +kernel
theorem d_method_6_code_27 : decode method_6_code 27 = .ok (.iload_n 0, 1) := by decide +kernel
theorem d_method_6_code_28 : decode method_6_code 28 = .ok (.bipush 62, 2) := by decide +kernel
theorem d_method_6_code_30 : decode method_6_code 30 = .ok (.if_icmp .ge 12, 3) := by decide +kernel
theorem d_method_6_code_42 : decode method_6_code 42 = .ok (.iload_n 0, 1) := by decide +kernel
theorem d_method_6_code_43 : decode method_6_code 43 = .ok (.bipush 62, 2) := by decide +kernel
theorem d_method_6_code_45 : decode method_6_code 45 = .ok (.if_icmp .ne 6, 3) := by decide +kernel
theorem d_method_6_code_51 : decode method_6_code 51 = .ok (.bipush 47, 2) := by decide +kernel
theorem d_method_6_code_53 : decode method_6_code 53 = .ok (.ireturn, 1) := by decide +kernel
theorem d_method_6_code_48 : decode method_6_code 48 = .ok (.bipush 43, 2) := by decide +kernel
theorem d_method_6_code_50 : decode method_6_code 50 = .ok (.ireturn, 1) := by decide +kernel
theorem d_method_6_code_33 : decode method_6_code 33 = .ok (.bipush 48, 2) := by decide +kernel
theorem d_method_6_code_35 : decode method_6_code 35 = .ok (.iload_n 0, 1) := by decide +kernel
theorem d_method_6_code_36 : decode method_6_code 36 = .ok (.bipush 52, 2) := by decide +kernel
theorem d_method_6_code_38 : decode method_6_code 38 = .ok (.isub, 1) := by decide +kernel
theorem d_method_6_code_39 : decode method_6_code 39 = .ok (.iadd, 1) := by decide +kernel
theorem d_method_6_code_40 : decode method_6_code 40 = .ok (.i2c, 1) := by decide +kernel
theorem d_method_6_code_41 : decode method_6_code 41 = .ok (.ireturn, 1) := by decide +kernel
theorem d_method_6_code_18 : decode method_6_code 18 = .ok (.bipush 97, 2) := by decide +kernel
theorem d_method_6_code_20 : decode method_6_code 20 = .ok (.iload_n 0, 1) := by decide +kernel
theorem d_method_6_code_21 : decode method_6_code 21 = .ok (.bipush 26, 2) := by decide +kernel
theorem d_method_6_code_23 : decode method_6_code 23 = .ok (.isub, 1) := by decide +kernel
theorem d_method_6_code_24 : decode method_6_code 24 = .ok (.iadd, 1) := by decide +kernel
theorem d_method_6_code_25 : decode method_6_code 25 = .ok (.i2c, 1) := by decide +kernel
theorem d_method_6_code_26 : decode method_6_code 26 = .ok (.ireturn, 1) := by decide +kernel
theorem d_method_6_code_6 : decode method_6_code 6 = .ok (.bipush 65, 2) := by decide +kernel
theorem d_method_6_code_8 : decode method_6_code 8 = .ok (.iload_n 0, 1) := by decide +kernel
theorem d_method_6_code_9 : decode method_6_code 9 = .ok (.iadd, 1) := by decide +kernel
theorem d_method_6_code_10 : decode method_6_code 10 = .ok (.i2c, 1) := by decide +kernel
theorem d_method_6_code_11 : decode method_6_code 11 = .ok (.ireturn, 1) := by decide +kernel
theorem pn_com_example_delta_mirror_deltamirror_rrdp_Base64BinaryFinishPinLaw : plainName "com/example/delta_mirror/deltamirror/rrdp/Base64BinaryFinishPinLaw" = true := by first | (simp [plainName, overriddenIn]; done) | decide +kernel
theorem d_method_3_code_0 : decode method_3_code 0 = .ok (.iload_n 0, 1) := by decide +kernel
theorem d_method_3_code_1 : decode method_3_code 1 = .ok (.ifCond .ne 5, 3) := by decide +kernel
theorem d_method_3_code_4 : decode method_3_code 4 = .ok (.iconst 0, 1) := by decide +kernel
theorem d_method_3_code_5 : decode method_3_code 5 = .ok (.ireturn, 1) := by decide +kernel
theorem d_method_3_code_6 : decode method_3_code 6 = .ok (.iload_n 0, 1) := by decide +kernel
theorem d_method_3_code_7 : decode method_3_code 7 = .ok (.iconst 3, 1) := by decide +kernel
theorem d_method_3_code_8 : decode method_3_code 8 = .ok (.if_icmp .gt 5, 3) := by decide +kernel
theorem d_method_3_code_11 : decode method_3_code 11 = .ok (.iconst 4, 1) := by decide +kernel
theorem d_method_3_code_12 : decode method_3_code 12 = .ok (.ireturn, 1) := by decide +kernel
theorem d_method_3_code_13 : decode method_3_code 13 = .ok (.bipush 8, 2) := by decide +kernel
theorem d_method_3_code_15 : decode method_3_code 15 = .ok (.ireturn, 1) := by decide +kernel
theorem d_method_5_code_0 : decode method_5_code 0 = .ok (.aload_n 0, 1) := by decide +kernel
theorem d_method_5_code_1 : decode method_5_code 1 = .ok (.iload_n 1, 1) := by decide +kernel
theorem d_method_5_code_2 : decode method_5_code 2 = .ok (.iload_n 2, 1) := by decide +kernel
theorem d_method_5_code_3 : decode method_5_code 3 = .ok (.iconst 2, 1) := by decide +kernel
theorem d_method_5_code_4 : decode method_5_code 4 = .ok (.iushr, 1) := by decide +kernel
theorem d_method_5_code_5 : decode method_5_code 5 = .ok (.invokestatic 47, 3) := by decide +kernel
theorem pd_oIcC : parseMethodDescriptor "(I)C" = some ⟨[.int], some .char⟩ := by decide +kernel
theorem d_method_5_code_8 : decode method_5_code 8 = .ok (.castore, 1) := by decide +kernel
theorem d_method_5_code_9 : decode method_5_code 9 = .ok (.aload_n 0, 1) := by decide +kernel
theorem d_method_5_code_10 : decode method_5_code 10 = .ok (.iload_n 1, 1) := by decide +kernel
theorem d_method_5_code_11 : decode method_5_code 11 = .ok (.iconst 1, 1) := by decide +kernel
theorem d_method_5_code_12 : decode method_5_code 12 = .ok (.iadd, 1) := by decide +kernel
theorem d_method_5_code_13 : decode method_5_code 13 = .ok (.iload_n 2, 1) := by decide +kernel
theorem d_method_5_code_14 : decode method_5_code 14 = .ok (.iconst 3, 1) := by decide +kernel
theorem d_method_5_code_15 : decode method_5_code 15 = .ok (.iand, 1) := by decide +kernel
theorem d_method_5_code_16 : decode method_5_code 16 = .ok (.iconst 4, 1) := by decide +kernel
theorem d_method_5_code_17 : decode method_5_code 17 = .ok (.ishl, 1) := by decide +kernel
theorem d_method_5_code_18 : decode method_5_code 18 = .ok (.iload 5, 2) := by decide +kernel
theorem d_method_5_code_20 : decode method_5_code 20 = .ok (.iconst 1, 1) := by decide +kernel
theorem d_method_5_code_21 : decode method_5_code 21 = .ok (.if_icmp .le 9, 3) := by decide +kernel
theorem d_method_5_code_30 : decode method_5_code 30 = .ok (.iconst 0, 1) := by decide +kernel
theorem d_method_5_code_31 : decode method_5_code 31 = .ok (.ior, 1) := by decide +kernel
theorem d_method_5_code_32 : decode method_5_code 32 = .ok (.invokestatic 47, 3) := by decide +kernel
theorem d_method_5_code_35 : decode method_5_code 35 = .ok (.castore, 1) := by decide +kernel
theorem d_method_5_code_36 : decode method_5_code 36 = .ok (.aload_n 0, 1) := by decide +kernel
theorem d_method_5_code_37 : decode method_5_code 37 = .ok (.iload_n 1, 1) := by decide +kernel
theorem d_method_5_code_38 : decode method_5_code 38 = .ok (.iconst 2, 1) := by decide +kernel
theorem d_method_5_code_39 : decode method_5_code 39 = .ok (.iadd, 1) := by decide +kernel
theorem d_method_5_code_40 : decode method_5_code 40 = .ok (.iload 5, 2) := by decide +kernel
theorem d_method_5_code_42 : decode method_5_code 42 = .ok (.iconst 1, 1) := by decide +kernel
theorem d_method_5_code_43 : decode method_5_code 43 = .ok (.if_icmp .le 31, 3) := by decide +kernel
theorem d_method_5_code_74 : decode method_5_code 74 = .ok (.bipush 61, 2) := by decide +kernel
theorem d_method_5_code_76 : decode method_5_code 76 = .ok (.castore, 1) := by decide +kernel
theorem d_method_5_code_77 : decode method_5_code 77 = .ok (.aload_n 0, 1) := by decide +kernel
theorem d_method_5_code_78 : decode method_5_code 78 = .ok (.iload_n 1, 1) := by decide +kernel
theorem d_method_5_code_79 : decode method_5_code 79 = .ok (.iconst 3, 1) := by decide +kernel
theorem d_method_5_code_80 : decode method_5_code 80 = .ok (.iadd, 1) := by decide +kernel
theorem d_method_5_code_81 : decode method_5_code 81 = .ok (.iload 5, 2) := by decide +kernel
theorem d_method_5_code_83 : decode method_5_code 83 = .ok (.iconst 2, 1) := by decide +kernel
theorem d_method_5_code_84 : decode method_5_code 84 = .ok (.if_icmp .le 14, 3) := by decide +kernel
theorem d_method_5_code_98 : decode method_5_code 98 = .ok (.bipush 61, 2) := by decide +kernel
theorem d_method_5_code_100 : decode method_5_code 100 = .ok (.castore, 1) := by decide +kernel
theorem d_method_5_code_101 : decode method_5_code 101 = .ok (.return_, 1) := by decide +kernel
theorem d_method_5_code_24 : decode method_5_code 24 = .ok (.iload_n 3, 1) := by decide +kernel
theorem d_method_5_code_25 : decode method_5_code 25 = .ok (.iconst 4, 1) := by decide +kernel
theorem d_method_5_code_26 : decode method_5_code 26 = .ok (.iushr, 1) := by decide +kernel
theorem d_method_5_code_27 : decode method_5_code 27 = .ok (.goto 4, 3) := by decide +kernel
theorem d_method_5_code_46 : decode method_5_code 46 = .ok (.iload_n 3, 1) := by decide +kernel
theorem d_method_5_code_47 : decode method_5_code 47 = .ok (.bipush 15, 2) := by decide +kernel
theorem d_method_5_code_49 : decode method_5_code 49 = .ok (.iand, 1) := by decide +kernel
theorem d_method_5_code_50 : decode method_5_code 50 = .ok (.iconst 2, 1) := by decide +kernel
theorem d_method_5_code_51 : decode method_5_code 51 = .ok (.ishl, 1) := by decide +kernel
theorem d_method_5_code_52 : decode method_5_code 52 = .ok (.iload 5, 2) := by decide +kernel
theorem d_method_5_code_54 : decode method_5_code 54 = .ok (.iconst 2, 1) := by decide +kernel
theorem d_method_5_code_55 : decode method_5_code 55 = .ok (.if_icmp .le 11, 3) := by decide +kernel
theorem d_method_5_code_66 : decode method_5_code 66 = .ok (.iconst 0, 1) := by decide +kernel
theorem d_method_5_code_67 : decode method_5_code 67 = .ok (.ior, 1) := by decide +kernel
theorem d_method_5_code_68 : decode method_5_code 68 = .ok (.invokestatic 47, 3) := by decide +kernel
theorem d_method_5_code_71 : decode method_5_code 71 = .ok (.goto 5, 3) := by decide +kernel
theorem d_method_5_code_58 : decode method_5_code 58 = .ok (.iload 4, 2) := by decide +kernel
theorem d_method_5_code_60 : decode method_5_code 60 = .ok (.bipush 6, 2) := by decide +kernel
theorem d_method_5_code_62 : decode method_5_code 62 = .ok (.iushr, 1) := by decide +kernel
theorem d_method_5_code_63 : decode method_5_code 63 = .ok (.goto 4, 3) := by decide +kernel
theorem d_method_5_code_87 : decode method_5_code 87 = .ok (.iload 4, 2) := by decide +kernel
theorem d_method_5_code_89 : decode method_5_code 89 = .ok (.bipush 63, 2) := by decide +kernel
theorem d_method_5_code_91 : decode method_5_code 91 = .ok (.iand, 1) := by decide +kernel
theorem d_method_5_code_92 : decode method_5_code 92 = .ok (.invokestatic 47, 3) := by decide +kernel
theorem d_method_5_code_95 : decode method_5_code 95 = .ok (.goto 5, 3) := by decide +kernel
set_option maxRecDepth 65536 in
set_option maxHeartbeats 4000000 in
theorem M_ch {Γ : Gx} (hw : Words Γ) (v : Int32) (hv : V6 v) :
    Met Γ (⟨"com/example/delta_mirror/deltamirror/rrdp/Base64BinaryFinishPinLaw", "ch", "(I)C"⟩ : MethodName) method_6_code 1 (some .char) ({ frames := 0, cells := 0, slots := 0, locals := 0 } : Room) #[(.int v)] [] (fun r O' => r = some (.int (sy v)) ∧ O' = []) := by
  refine Met.intro pn_com_example_delta_mirror_deltamirror_rrdp_Base64BinaryFinishPinLaw (Ls := [.val (.int v)]) (fun m => by first | rfl | (simp [entryFrame, mkF, argsToLocals, Value.category]; done)) ?_
  intro F
  obtain ⟨a, rfl⟩ := hv
  refine R_iloadN d_method_6_code_0 rfl ?_
  refine R_bipush (26) d_method_6_code_1 (by decide) ?_
  refine R_icmp_ge (pc' := 12) d_method_6_code_3 (by decide) (by decide) (fun h1 => ?_) (fun h1 => ?_)
  · refine R_iloadN d_method_6_code_12 rfl ?_
    refine R_bipush (52) d_method_6_code_13 (by decide) ?_
    refine R_icmp_ge (pc' := 27) d_method_6_code_15 (by decide) (by decide) (fun h2 => ?_) (fun h2 => ?_)
    · refine R_iloadN d_method_6_code_27 rfl ?_
      refine R_bipush (62) d_method_6_code_28 (by decide) ?_
      refine R_icmp_ge (pc' := 42) d_method_6_code_30 (by decide) (by decide) (fun h3 => ?_) (fun h3 => ?_)
      · refine R_iloadN d_method_6_code_42 rfl ?_
        refine R_bipush (62) d_method_6_code_43 (by decide) ?_
        refine R_icmp_ne (pc' := 51) d_method_6_code_45 (by decide) (by decide) (fun h4 => ?_) (fun h4 => ?_)
        · refine R_bipush (47) d_method_6_code_51 (by decide) ?_
          exact R_ireturnN d_method_6_code_53 rfl (by simp) ⟨congrArg (fun z => some (Value.int z)) ((syD a h1 h2 h3).2 h4), rfl⟩ (Nat.le_of_ble_eq_true rfl) (Nat.le_of_ble_eq_true rfl)
        · refine R_bipush (43) d_method_6_code_48 (by decide) ?_
          exact R_ireturnN d_method_6_code_50 rfl (by simp) ⟨congrArg (fun z => some (Value.int z)) ((syD a h1 h2 h3).1 h4), rfl⟩ (Nat.le_of_ble_eq_true rfl) (Nat.le_of_ble_eq_true rfl)
      · refine R_bipush (48) d_method_6_code_33 (by decide) ?_
        refine R_iloadN d_method_6_code_35 rfl ?_
        refine R_bipush (52) d_method_6_code_36 (by decide) ?_
        refine R_isub d_method_6_code_38 ?_
        refine R_iadd d_method_6_code_39 ?_
        refine R_i2c d_method_6_code_40 ?_
        exact R_ireturnN d_method_6_code_41 rfl (by simp) ⟨congrArg (fun z => some (Value.int z)) (syC a h1 h2 h3), rfl⟩ (Nat.le_of_ble_eq_true rfl) (Nat.le_of_ble_eq_true rfl)
    · refine R_bipush (97) d_method_6_code_18 (by decide) ?_
      refine R_iloadN d_method_6_code_20 rfl ?_
      refine R_bipush (26) d_method_6_code_21 (by decide) ?_
      refine R_isub d_method_6_code_23 ?_
      refine R_iadd d_method_6_code_24 ?_
      refine R_i2c d_method_6_code_25 ?_
      exact R_ireturnN d_method_6_code_26 rfl (by simp) ⟨congrArg (fun z => some (Value.int z)) (syB a h1 h2), rfl⟩ (Nat.le_of_ble_eq_true rfl) (Nat.le_of_ble_eq_true rfl)
  · refine R_bipush (65) d_method_6_code_6 (by decide) ?_
    refine R_iloadN d_method_6_code_8 rfl ?_
    refine R_iadd d_method_6_code_9 ?_
    refine R_i2c d_method_6_code_10 ?_
    exact R_ireturnN d_method_6_code_11 rfl (by simp) ⟨congrArg (fun z => some (Value.int z)) (syA a h1), rfl⟩ (Nat.le_of_ble_eq_true rfl) (Nat.le_of_ble_eq_true rfl)

set_option maxRecDepth 65536 in
set_option maxHeartbeats 4000000 in
theorem M_tl0 {Γ : Gx} (hw : Words Γ)  :
    Met Γ (⟨"com/example/delta_mirror/deltamirror/rrdp/Base64BinaryFinishPinLaw", "textLength", "(I)I"⟩ : MethodName) method_3_code 1 (some .int) ({ frames := 0, cells := 0, slots := 0, locals := 0 } : Room) #[(.int (0 : Nat).toInt32)] [] (fun r O' => r = some (.int (tl 0).toInt32) ∧ O' = []) := by
  refine Met.intro pn_com_example_delta_mirror_deltamirror_rrdp_Base64BinaryFinishPinLaw (Ls := [.val (.int (0 : Nat).toInt32)]) (fun m => by first | rfl | (simp [entryFrame, mkF, argsToLocals, Value.category]; done)) ?_
  intro F
  refine R_iloadN d_method_3_code_0 rfl ?_
  refine R_if_ne (pc' := 6) d_method_3_code_1 (by decide) (by decide) (fun h => ?_) (fun h => ?_)
  · exact absurd rfl h
  · refine R_iconst (0) d_method_3_code_4 (by decide) ?_
    exact R_ireturn d_method_3_code_5 rfl ⟨rfl, rfl⟩ (Nat.le_of_ble_eq_true rfl) (Nat.le_of_ble_eq_true rfl)

set_option maxRecDepth 65536 in
set_option maxHeartbeats 4000000 in
theorem M_tl1 {Γ : Gx} (hw : Words Γ)  :
    Met Γ (⟨"com/example/delta_mirror/deltamirror/rrdp/Base64BinaryFinishPinLaw", "textLength", "(I)I"⟩ : MethodName) method_3_code 1 (some .int) ({ frames := 0, cells := 0, slots := 0, locals := 0 } : Room) #[(.int (1 : Nat).toInt32)] [] (fun r O' => r = some (.int (tl 1).toInt32) ∧ O' = []) := by
  refine Met.intro pn_com_example_delta_mirror_deltamirror_rrdp_Base64BinaryFinishPinLaw (Ls := [.val (.int (1 : Nat).toInt32)]) (fun m => by first | rfl | (simp [entryFrame, mkF, argsToLocals, Value.category]; done)) ?_
  intro F
  refine R_iloadN d_method_3_code_0 rfl ?_
  refine R_if_ne (pc' := 6) d_method_3_code_1 (by decide) (by decide) (fun h => ?_) (fun h => ?_)
  · refine R_iloadN d_method_3_code_6 rfl ?_
    refine R_iconst (3) d_method_3_code_7 (by decide) ?_
    refine R_icmp_gt (pc' := 13) d_method_3_code_8 (by decide) (by decide) (fun g => ?_) (fun g => ?_)
    · exact absurd g (by decide)
    · refine R_iconst (4) d_method_3_code_11 (by decide) ?_
      exact R_ireturn d_method_3_code_12 rfl ⟨rfl, rfl⟩ (Nat.le_of_ble_eq_true rfl) (Nat.le_of_ble_eq_true rfl)
  · exact absurd h (by decide)

set_option maxRecDepth 65536 in
set_option maxHeartbeats 4000000 in
theorem M_tl2 {Γ : Gx} (hw : Words Γ)  :
    Met Γ (⟨"com/example/delta_mirror/deltamirror/rrdp/Base64BinaryFinishPinLaw", "textLength", "(I)I"⟩ : MethodName) method_3_code 1 (some .int) ({ frames := 0, cells := 0, slots := 0, locals := 0 } : Room) #[(.int (2 : Nat).toInt32)] [] (fun r O' => r = some (.int (tl 2).toInt32) ∧ O' = []) := by
  refine Met.intro pn_com_example_delta_mirror_deltamirror_rrdp_Base64BinaryFinishPinLaw (Ls := [.val (.int (2 : Nat).toInt32)]) (fun m => by first | rfl | (simp [entryFrame, mkF, argsToLocals, Value.category]; done)) ?_
  intro F
  refine R_iloadN d_method_3_code_0 rfl ?_
  refine R_if_ne (pc' := 6) d_method_3_code_1 (by decide) (by decide) (fun h => ?_) (fun h => ?_)
  · refine R_iloadN d_method_3_code_6 rfl ?_
    refine R_iconst (3) d_method_3_code_7 (by decide) ?_
    refine R_icmp_gt (pc' := 13) d_method_3_code_8 (by decide) (by decide) (fun g => ?_) (fun g => ?_)
    · exact absurd g (by decide)
    · refine R_iconst (4) d_method_3_code_11 (by decide) ?_
      exact R_ireturn d_method_3_code_12 rfl ⟨rfl, rfl⟩ (Nat.le_of_ble_eq_true rfl) (Nat.le_of_ble_eq_true rfl)
  · exact absurd h (by decide)

set_option maxRecDepth 65536 in
set_option maxHeartbeats 4000000 in
theorem M_tl3 {Γ : Gx} (hw : Words Γ)  :
    Met Γ (⟨"com/example/delta_mirror/deltamirror/rrdp/Base64BinaryFinishPinLaw", "textLength", "(I)I"⟩ : MethodName) method_3_code 1 (some .int) ({ frames := 0, cells := 0, slots := 0, locals := 0 } : Room) #[(.int (3 : Nat).toInt32)] [] (fun r O' => r = some (.int (tl 3).toInt32) ∧ O' = []) := by
  refine Met.intro pn_com_example_delta_mirror_deltamirror_rrdp_Base64BinaryFinishPinLaw (Ls := [.val (.int (3 : Nat).toInt32)]) (fun m => by first | rfl | (simp [entryFrame, mkF, argsToLocals, Value.category]; done)) ?_
  intro F
  refine R_iloadN d_method_3_code_0 rfl ?_
  refine R_if_ne (pc' := 6) d_method_3_code_1 (by decide) (by decide) (fun h => ?_) (fun h => ?_)
  · refine R_iloadN d_method_3_code_6 rfl ?_
    refine R_iconst (3) d_method_3_code_7 (by decide) ?_
    refine R_icmp_gt (pc' := 13) d_method_3_code_8 (by decide) (by decide) (fun g => ?_) (fun g => ?_)
    · exact absurd g (by decide)
    · refine R_iconst (4) d_method_3_code_11 (by decide) ?_
      exact R_ireturn d_method_3_code_12 rfl ⟨rfl, rfl⟩ (Nat.le_of_ble_eq_true rfl) (Nat.le_of_ble_eq_true rfl)
  · exact absurd h (by decide)

set_option maxRecDepth 65536 in
set_option maxHeartbeats 4000000 in
theorem M_tl4 {Γ : Gx} (hw : Words Γ)  :
    Met Γ (⟨"com/example/delta_mirror/deltamirror/rrdp/Base64BinaryFinishPinLaw", "textLength", "(I)I"⟩ : MethodName) method_3_code 1 (some .int) ({ frames := 0, cells := 0, slots := 0, locals := 0 } : Room) #[(.int (4 : Nat).toInt32)] [] (fun r O' => r = some (.int (tl 4).toInt32) ∧ O' = []) := by
  refine Met.intro pn_com_example_delta_mirror_deltamirror_rrdp_Base64BinaryFinishPinLaw (Ls := [.val (.int (4 : Nat).toInt32)]) (fun m => by first | rfl | (simp [entryFrame, mkF, argsToLocals, Value.category]; done)) ?_
  intro F
  refine R_iloadN d_method_3_code_0 rfl ?_
  refine R_if_ne (pc' := 6) d_method_3_code_1 (by decide) (by decide) (fun h => ?_) (fun h => ?_)
  · refine R_iloadN d_method_3_code_6 rfl ?_
    refine R_iconst (3) d_method_3_code_7 (by decide) ?_
    refine R_icmp_gt (pc' := 13) d_method_3_code_8 (by decide) (by decide) (fun g => ?_) (fun g => ?_)
    · refine R_bipush (8) d_method_3_code_13 (by decide) ?_
      exact R_ireturn d_method_3_code_15 rfl ⟨rfl, rfl⟩ (Nat.le_of_ble_eq_true rfl) (Nat.le_of_ble_eq_true rfl)
    · exact absurd g (by decide)
  · exact absurd h (by decide)

set_option maxRecDepth 65536 in
set_option maxHeartbeats 4000000 in
theorem M_tl5 {Γ : Gx} (hw : Words Γ)  :
    Met Γ (⟨"com/example/delta_mirror/deltamirror/rrdp/Base64BinaryFinishPinLaw", "textLength", "(I)I"⟩ : MethodName) method_3_code 1 (some .int) ({ frames := 0, cells := 0, slots := 0, locals := 0 } : Room) #[(.int (5 : Nat).toInt32)] [] (fun r O' => r = some (.int (tl 5).toInt32) ∧ O' = []) := by
  refine Met.intro pn_com_example_delta_mirror_deltamirror_rrdp_Base64BinaryFinishPinLaw (Ls := [.val (.int (5 : Nat).toInt32)]) (fun m => by first | rfl | (simp [entryFrame, mkF, argsToLocals, Value.category]; done)) ?_
  intro F
  refine R_iloadN d_method_3_code_0 rfl ?_
  refine R_if_ne (pc' := 6) d_method_3_code_1 (by decide) (by decide) (fun h => ?_) (fun h => ?_)
  · refine R_iloadN d_method_3_code_6 rfl ?_
    refine R_iconst (3) d_method_3_code_7 (by decide) ?_
    refine R_icmp_gt (pc' := 13) d_method_3_code_8 (by decide) (by decide) (fun g => ?_) (fun g => ?_)
    · refine R_bipush (8) d_method_3_code_13 (by decide) ?_
      exact R_ireturn d_method_3_code_15 rfl ⟨rfl, rfl⟩ (Nat.le_of_ble_eq_true rfl) (Nat.le_of_ble_eq_true rfl)
    · exact absurd g (by decide)
  · exact absurd h (by decide)

set_option maxRecDepth 65536 in
set_option maxHeartbeats 4000000 in
theorem M_tl6 {Γ : Gx} (hw : Words Γ)  :
    Met Γ (⟨"com/example/delta_mirror/deltamirror/rrdp/Base64BinaryFinishPinLaw", "textLength", "(I)I"⟩ : MethodName) method_3_code 1 (some .int) ({ frames := 0, cells := 0, slots := 0, locals := 0 } : Room) #[(.int (6 : Nat).toInt32)] [] (fun r O' => r = some (.int (tl 6).toInt32) ∧ O' = []) := by
  refine Met.intro pn_com_example_delta_mirror_deltamirror_rrdp_Base64BinaryFinishPinLaw (Ls := [.val (.int (6 : Nat).toInt32)]) (fun m => by first | rfl | (simp [entryFrame, mkF, argsToLocals, Value.category]; done)) ?_
  intro F
  refine R_iloadN d_method_3_code_0 rfl ?_
  refine R_if_ne (pc' := 6) d_method_3_code_1 (by decide) (by decide) (fun h => ?_) (fun h => ?_)
  · refine R_iloadN d_method_3_code_6 rfl ?_
    refine R_iconst (3) d_method_3_code_7 (by decide) ?_
    refine R_icmp_gt (pc' := 13) d_method_3_code_8 (by decide) (by decide) (fun g => ?_) (fun g => ?_)
    · refine R_bipush (8) d_method_3_code_13 (by decide) ?_
      exact R_ireturn d_method_3_code_15 rfl ⟨rfl, rfl⟩ (Nat.le_of_ble_eq_true rfl) (Nat.le_of_ble_eq_true rfl)
    · exact absurd g (by decide)
  · exact absurd h (by decide)

theorem M_tl {Γ : Gx} (hw : Words Γ)  (n : Nat) (hn : n ≤ 6) :
    Met Γ (⟨"com/example/delta_mirror/deltamirror/rrdp/Base64BinaryFinishPinLaw", "textLength", "(I)I"⟩ : MethodName) method_3_code 1 (some .int) ({ frames := 0, cells := 0, slots := 0, locals := 0 } : Room) #[(.int n.toInt32)] [] (fun r O' => r = some (.int (tl n).toInt32) ∧ O' = []) := by
  rcases n7 hn with rfl | rfl | rfl | rfl | rfl | rfl | rfl
  · exact M_tl0 hw 
  · exact M_tl1 hw 
  · exact M_tl2 hw 
  · exact M_tl3 hw 
  · exact M_tl4 hw 
  · exact M_tl5 hw 
  · exact M_tl6 hw 

set_option maxRecDepth 65536 in
set_option maxHeartbeats 4000000 in
theorem M_put01 {Γ : Gx} (hw : Words Γ) (t : Addr) (x0 x1 x2 c0 c1 c2 c3 c4 c5 c6 c7 : Int32) (b0 : B8 x0) (b1 : B8 x1) (b2 : B8 x2) :
    Met Γ (⟨"com/example/delta_mirror/deltamirror/rrdp/Base64BinaryFinishPinLaw", "put", "([CIIIII)V"⟩ : MethodName) method_5_code 6 none ({ frames := 1, cells := 0, slots := 0, locals := 14 } : Room) #[(.ref t), (.int 0), (.int x0), (.int x1), (.int x2), (.int 1)] [(t, true, Ary Γ "[C" .char [.int c0, .int c1, .int c2, .int c3, .int c4, .int c5, .int c6, .int c7])] (fun v O' => v = none ∧ O' = [(t, true, Ary Γ "[C" .char [.int (sy (g0 x0)), .int (sy (g1 x0 0)), .int 61, .int 61, .int c4, .int c5, .int c6, .int c7])]) := by
  refine Met.intro pn_com_example_delta_mirror_deltamirror_rrdp_Base64BinaryFinishPinLaw (Ls := [.val (.ref t), .val (.int 0), .val (.int x0), .val (.int x1), .val (.int x2), .val (.int 1)]) (fun m => by first | rfl | (simp [entryFrame, mkF, argsToLocals, Value.category]; done)) ?_
  intro F
  refine R_aloadN d_method_5_code_0 rfl rfl ?_
  refine R_iloadN d_method_5_code_1 rfl ?_
  refine R_iloadN d_method_5_code_2 rfl ?_
  refine R_iconst (2) d_method_5_code_3 (by decide) ?_
  refine R_iushr d_method_5_code_4 ?_
  refine R_call (S_static (as := [_]) (rest := _) d_method_5_code_5 (hw _ (mem 13 rfl)) (hw _ (mem 14 rfl)) (hw _ (mem 3 rfl)) (hw _ (mem 15 rfl)) (by decide) pd_oIcC rfl rfl rfl) (M_ch hw (g0 x0) (V_g0 b0)) pk0 (hw _ (mem 15 rfl)) (hw _ (mem 3 rfl)) (Nat.le_of_ble_eq_true rfl) (Nat.le_of_ble_eq_true rfl) (Nat.le_of_ble_eq_true rfl) (Nat.le_of_ble_eq_true rfl) ?_
  rintro _ _ ⟨rfl, rfl⟩
  try dsimp only [List.set_cons_zero, List.set_cons_succ, List.eraseIdx_cons_zero, List.eraseIdx_cons_succ, List.cons_append, List.nil_append, Option.toList]
  refine R_castore 0 d_method_5_code_8 rfl (by decide) 0 (by decide) (Nat.le_of_ble_eq_true rfl) ?_
  try dsimp only [List.set_cons_zero, List.set_cons_succ, List.eraseIdx_cons_zero, List.eraseIdx_cons_succ, List.cons_append, List.nil_append, Option.toList]
  rw [nsy (V_g0 b0)]
  refine R_aloadN d_method_5_code_9 rfl rfl ?_
  refine R_iloadN d_method_5_code_10 rfl ?_
  refine R_iconst (1) d_method_5_code_11 (by decide) ?_
  refine R_iadd d_method_5_code_12 ?_
  refine R_iloadN d_method_5_code_13 rfl ?_
  refine R_iconst (3) d_method_5_code_14 (by decide) ?_
  refine R_iand d_method_5_code_15 ?_
  refine R_iconst (4) d_method_5_code_16 (by decide) ?_
  refine R_ishl d_method_5_code_17 ?_
  refine R_iload d_method_5_code_18 rfl ?_
  refine R_iconst (1) d_method_5_code_20 (by decide) ?_
  refine R_icmp_le (pc' := 30) d_method_5_code_21 (by decide) (by decide) (fun h0 => ?_) (fun h0 => ?_)
  · refine R_iconst (0) d_method_5_code_30 (by decide) ?_
    refine R_ior d_method_5_code_31 ?_
    refine R_call (S_static (as := [_]) (rest := _) d_method_5_code_32 (hw _ (mem 13 rfl)) (hw _ (mem 14 rfl)) (hw _ (mem 3 rfl)) (hw _ (mem 15 rfl)) (by decide) pd_oIcC rfl rfl rfl) (M_ch hw (g1 x0 0) (V_g1 b0 V_04)) pk0 (hw _ (mem 15 rfl)) (hw _ (mem 3 rfl)) (Nat.le_of_ble_eq_true rfl) (Nat.le_of_ble_eq_true rfl) (Nat.le_of_ble_eq_true rfl) (Nat.le_of_ble_eq_true rfl) ?_
    rintro _ _ ⟨rfl, rfl⟩
    try dsimp only [List.set_cons_zero, List.set_cons_succ, List.eraseIdx_cons_zero, List.eraseIdx_cons_succ, List.cons_append, List.nil_append, Option.toList]
    refine R_castore 0 d_method_5_code_35 rfl (by decide) 1 (by decide) (Nat.le_of_ble_eq_true rfl) ?_
    try dsimp only [List.set_cons_zero, List.set_cons_succ, List.eraseIdx_cons_zero, List.eraseIdx_cons_succ, List.cons_append, List.nil_append, Option.toList]
    rw [nsy (V_g1 b0 V_04)]
    refine R_aloadN d_method_5_code_36 rfl rfl ?_
    refine R_iloadN d_method_5_code_37 rfl ?_
    refine R_iconst (2) d_method_5_code_38 (by decide) ?_
    refine R_iadd d_method_5_code_39 ?_
    refine R_iload d_method_5_code_40 rfl ?_
    refine R_iconst (1) d_method_5_code_42 (by decide) ?_
    refine R_icmp_le (pc' := 74) d_method_5_code_43 (by decide) (by decide) (fun h1 => ?_) (fun h1 => ?_)
    · refine R_bipush (61) d_method_5_code_74 (by decide) ?_
      refine R_castore 0 d_method_5_code_76 rfl (by decide) 2 (by decide) (Nat.le_of_ble_eq_true rfl) ?_
      try dsimp only [List.set_cons_zero, List.set_cons_succ, List.eraseIdx_cons_zero, List.eraseIdx_cons_succ, List.cons_append, List.nil_append, Option.toList]
      rw [show nar .char 61 = 61 from by decide]
      refine R_aloadN d_method_5_code_77 rfl rfl ?_
      refine R_iloadN d_method_5_code_78 rfl ?_
      refine R_iconst (3) d_method_5_code_79 (by decide) ?_
      refine R_iadd d_method_5_code_80 ?_
      refine R_iload d_method_5_code_81 rfl ?_
      refine R_iconst (2) d_method_5_code_83 (by decide) ?_
      refine R_icmp_le (pc' := 98) d_method_5_code_84 (by decide) (by decide) (fun h3 => ?_) (fun h3 => ?_)
      · refine R_bipush (61) d_method_5_code_98 (by decide) ?_
        refine R_castore 0 d_method_5_code_100 rfl (by decide) 3 (by decide) (Nat.le_of_ble_eq_true rfl) ?_
        try dsimp only [List.set_cons_zero, List.set_cons_succ, List.eraseIdx_cons_zero, List.eraseIdx_cons_succ, List.cons_append, List.nil_append, Option.toList]
        rw [show nar .char 61 = 61 from by decide]
        exact R_return d_method_5_code_101 rfl ⟨rfl, rfl⟩ (Nat.le_of_ble_eq_true rfl) (Nat.le_of_ble_eq_true rfl)
      · exact absurd h3 (by decide)
    · exact absurd h1 (by decide)
  · exact absurd h0 (by decide)

set_option maxRecDepth 65536 in
set_option maxHeartbeats 4000000 in
theorem M_put02 {Γ : Gx} (hw : Words Γ) (t : Addr) (x0 x1 x2 c0 c1 c2 c3 c4 c5 c6 c7 : Int32) (b0 : B8 x0) (b1 : B8 x1) (b2 : B8 x2) :
    Met Γ (⟨"com/example/delta_mirror/deltamirror/rrdp/Base64BinaryFinishPinLaw", "put", "([CIIIII)V"⟩ : MethodName) method_5_code 6 none ({ frames := 1, cells := 0, slots := 0, locals := 14 } : Room) #[(.ref t), (.int 0), (.int x0), (.int x1), (.int x2), (.int 2)] [(t, true, Ary Γ "[C" .char [.int c0, .int c1, .int c2, .int c3, .int c4, .int c5, .int c6, .int c7])] (fun v O' => v = none ∧ O' = [(t, true, Ary Γ "[C" .char [.int (sy (g0 x0)), .int (sy (g1 x0 (h4 x1))), .int (sy (g2 x1 0)), .int 61, .int c4, .int c5, .int c6, .int c7])]) := by
  refine Met.intro pn_com_example_delta_mirror_deltamirror_rrdp_Base64BinaryFinishPinLaw (Ls := [.val (.ref t), .val (.int 0), .val (.int x0), .val (.int x1), .val (.int x2), .val (.int 2)]) (fun m => by first | rfl | (simp [entryFrame, mkF, argsToLocals, Value.category]; done)) ?_
  intro F
  refine R_aloadN d_method_5_code_0 rfl rfl ?_
  refine R_iloadN d_method_5_code_1 rfl ?_
  refine R_iloadN d_method_5_code_2 rfl ?_
  refine R_iconst (2) d_method_5_code_3 (by decide) ?_
  refine R_iushr d_method_5_code_4 ?_
  refine R_call (S_static (as := [_]) (rest := _) d_method_5_code_5 (hw _ (mem 13 rfl)) (hw _ (mem 14 rfl)) (hw _ (mem 3 rfl)) (hw _ (mem 15 rfl)) (by decide) pd_oIcC rfl rfl rfl) (M_ch hw (g0 x0) (V_g0 b0)) pk0 (hw _ (mem 15 rfl)) (hw _ (mem 3 rfl)) (Nat.le_of_ble_eq_true rfl) (Nat.le_of_ble_eq_true rfl) (Nat.le_of_ble_eq_true rfl) (Nat.le_of_ble_eq_true rfl) ?_
  rintro _ _ ⟨rfl, rfl⟩
  try dsimp only [List.set_cons_zero, List.set_cons_succ, List.eraseIdx_cons_zero, List.eraseIdx_cons_succ, List.cons_append, List.nil_append, Option.toList]
  refine R_castore 0 d_method_5_code_8 rfl (by decide) 0 (by decide) (Nat.le_of_ble_eq_true rfl) ?_
  try dsimp only [List.set_cons_zero, List.set_cons_succ, List.eraseIdx_cons_zero, List.eraseIdx_cons_succ, List.cons_append, List.nil_append, Option.toList]
  rw [nsy (V_g0 b0)]
  refine R_aloadN d_method_5_code_9 rfl rfl ?_
  refine R_iloadN d_method_5_code_10 rfl ?_
  refine R_iconst (1) d_method_5_code_11 (by decide) ?_
  refine R_iadd d_method_5_code_12 ?_
  refine R_iloadN d_method_5_code_13 rfl ?_
  refine R_iconst (3) d_method_5_code_14 (by decide) ?_
  refine R_iand d_method_5_code_15 ?_
  refine R_iconst (4) d_method_5_code_16 (by decide) ?_
  refine R_ishl d_method_5_code_17 ?_
  refine R_iload d_method_5_code_18 rfl ?_
  refine R_iconst (1) d_method_5_code_20 (by decide) ?_
  refine R_icmp_le (pc' := 30) d_method_5_code_21 (by decide) (by decide) (fun h0 => ?_) (fun h0 => ?_)
  · exact absurd h0 (by decide)
  · refine R_iloadN d_method_5_code_24 rfl ?_
    refine R_iconst (4) d_method_5_code_25 (by decide) ?_
    refine R_iushr d_method_5_code_26 ?_
    refine R_goto (pc' := 31) d_method_5_code_27 (by decide) (by decide) ?_
    refine R_ior d_method_5_code_31 ?_
    refine R_call (S_static (as := [_]) (rest := _) d_method_5_code_32 (hw _ (mem 13 rfl)) (hw _ (mem 14 rfl)) (hw _ (mem 3 rfl)) (hw _ (mem 15 rfl)) (by decide) pd_oIcC rfl rfl rfl) (M_ch hw (g1 x0 (h4 x1)) (V_g1 b0 (V_h4 b1))) pk0 (hw _ (mem 15 rfl)) (hw _ (mem 3 rfl)) (Nat.le_of_ble_eq_true rfl) (Nat.le_of_ble_eq_true rfl) (Nat.le_of_ble_eq_true rfl) (Nat.le_of_ble_eq_true rfl) ?_
    rintro _ _ ⟨rfl, rfl⟩
    try dsimp only [List.set_cons_zero, List.set_cons_succ, List.eraseIdx_cons_zero, List.eraseIdx_cons_succ, List.cons_append, List.nil_append, Option.toList]
    refine R_castore 0 d_method_5_code_35 rfl (by decide) 1 (by decide) (Nat.le_of_ble_eq_true rfl) ?_
    try dsimp only [List.set_cons_zero, List.set_cons_succ, List.eraseIdx_cons_zero, List.eraseIdx_cons_succ, List.cons_append, List.nil_append, Option.toList]
    rw [nsy (V_g1 b0 (V_h4 b1))]
    refine R_aloadN d_method_5_code_36 rfl rfl ?_
    refine R_iloadN d_method_5_code_37 rfl ?_
    refine R_iconst (2) d_method_5_code_38 (by decide) ?_
    refine R_iadd d_method_5_code_39 ?_
    refine R_iload d_method_5_code_40 rfl ?_
    refine R_iconst (1) d_method_5_code_42 (by decide) ?_
    refine R_icmp_le (pc' := 74) d_method_5_code_43 (by decide) (by decide) (fun h1 => ?_) (fun h1 => ?_)
    · exact absurd h1 (by decide)
    · refine R_iloadN d_method_5_code_46 rfl ?_
      refine R_bipush (15) d_method_5_code_47 (by decide) ?_
      refine R_iand d_method_5_code_49 ?_
      refine R_iconst (2) d_method_5_code_50 (by decide) ?_
      refine R_ishl d_method_5_code_51 ?_
      refine R_iload d_method_5_code_52 rfl ?_
      refine R_iconst (2) d_method_5_code_54 (by decide) ?_
      refine R_icmp_le (pc' := 66) d_method_5_code_55 (by decide) (by decide) (fun h2 => ?_) (fun h2 => ?_)
      · refine R_iconst (0) d_method_5_code_66 (by decide) ?_
        refine R_ior d_method_5_code_67 ?_
        refine R_call (S_static (as := [_]) (rest := _) d_method_5_code_68 (hw _ (mem 13 rfl)) (hw _ (mem 14 rfl)) (hw _ (mem 3 rfl)) (hw _ (mem 15 rfl)) (by decide) pd_oIcC rfl rfl rfl) (M_ch hw (g2 x1 0) (V_g2 b1 V_02)) pk0 (hw _ (mem 15 rfl)) (hw _ (mem 3 rfl)) (Nat.le_of_ble_eq_true rfl) (Nat.le_of_ble_eq_true rfl) (Nat.le_of_ble_eq_true rfl) (Nat.le_of_ble_eq_true rfl) ?_
        rintro _ _ ⟨rfl, rfl⟩
        try dsimp only [List.set_cons_zero, List.set_cons_succ, List.eraseIdx_cons_zero, List.eraseIdx_cons_succ, List.cons_append, List.nil_append, Option.toList]
        refine R_goto (pc' := 76) d_method_5_code_71 (by decide) (by decide) ?_
        refine R_castore 0 d_method_5_code_76 rfl (by decide) 2 (by decide) (Nat.le_of_ble_eq_true rfl) ?_
        try dsimp only [List.set_cons_zero, List.set_cons_succ, List.eraseIdx_cons_zero, List.eraseIdx_cons_succ, List.cons_append, List.nil_append, Option.toList]
        rw [nsy (V_g2 b1 V_02)]
        refine R_aloadN d_method_5_code_77 rfl rfl ?_
        refine R_iloadN d_method_5_code_78 rfl ?_
        refine R_iconst (3) d_method_5_code_79 (by decide) ?_
        refine R_iadd d_method_5_code_80 ?_
        refine R_iload d_method_5_code_81 rfl ?_
        refine R_iconst (2) d_method_5_code_83 (by decide) ?_
        refine R_icmp_le (pc' := 98) d_method_5_code_84 (by decide) (by decide) (fun h3 => ?_) (fun h3 => ?_)
        · refine R_bipush (61) d_method_5_code_98 (by decide) ?_
          refine R_castore 0 d_method_5_code_100 rfl (by decide) 3 (by decide) (Nat.le_of_ble_eq_true rfl) ?_
          try dsimp only [List.set_cons_zero, List.set_cons_succ, List.eraseIdx_cons_zero, List.eraseIdx_cons_succ, List.cons_append, List.nil_append, Option.toList]
          rw [show nar .char 61 = 61 from by decide]
          exact R_return d_method_5_code_101 rfl ⟨rfl, rfl⟩ (Nat.le_of_ble_eq_true rfl) (Nat.le_of_ble_eq_true rfl)
        · exact absurd h3 (by decide)
      · exact absurd h2 (by decide)

set_option maxRecDepth 65536 in
set_option maxHeartbeats 4000000 in
theorem M_put03 {Γ : Gx} (hw : Words Γ) (t : Addr) (x0 x1 x2 c0 c1 c2 c3 c4 c5 c6 c7 : Int32) (b0 : B8 x0) (b1 : B8 x1) (b2 : B8 x2) :
    Met Γ (⟨"com/example/delta_mirror/deltamirror/rrdp/Base64BinaryFinishPinLaw", "put", "([CIIIII)V"⟩ : MethodName) method_5_code 6 none ({ frames := 1, cells := 0, slots := 0, locals := 14 } : Room) #[(.ref t), (.int 0), (.int x0), (.int x1), (.int x2), (.int 3)] [(t, true, Ary Γ "[C" .char [.int c0, .int c1, .int c2, .int c3, .int c4, .int c5, .int c6, .int c7])] (fun v O' => v = none ∧ O' = [(t, true, Ary Γ "[C" .char [.int (sy (g0 x0)), .int (sy (g1 x0 (h4 x1))), .int (sy (g2 x1 (h6 x2))), .int (sy (g3 x2)), .int c4, .int c5, .int c6, .int c7])]) := by
  refine Met.intro pn_com_example_delta_mirror_deltamirror_rrdp_Base64BinaryFinishPinLaw (Ls := [.val (.ref t), .val (.int 0), .val (.int x0), .val (.int x1), .val (.int x2), .val (.int 3)]) (fun m => by first | rfl | (simp [entryFrame, mkF, argsToLocals, Value.category]; done)) ?_
  intro F
  refine R_aloadN d_method_5_code_0 rfl rfl ?_
  refine R_iloadN d_method_5_code_1 rfl ?_
  refine R_iloadN d_method_5_code_2 rfl ?_
  refine R_iconst (2) d_method_5_code_3 (by decide) ?_
  refine R_iushr d_method_5_code_4 ?_
  refine R_call (S_static (as := [_]) (rest := _) d_method_5_code_5 (hw _ (mem 13 rfl)) (hw _ (mem 14 rfl)) (hw _ (mem 3 rfl)) (hw _ (mem 15 rfl)) (by decide) pd_oIcC rfl rfl rfl) (M_ch hw (g0 x0) (V_g0 b0)) pk0 (hw _ (mem 15 rfl)) (hw _ (mem 3 rfl)) (Nat.le_of_ble_eq_true rfl) (Nat.le_of_ble_eq_true rfl) (Nat.le_of_ble_eq_true rfl) (Nat.le_of_ble_eq_true rfl) ?_
  rintro _ _ ⟨rfl, rfl⟩
  try dsimp only [List.set_cons_zero, List.set_cons_succ, List.eraseIdx_cons_zero, List.eraseIdx_cons_succ, List.cons_append, List.nil_append, Option.toList]
  refine R_castore 0 d_method_5_code_8 rfl (by decide) 0 (by decide) (Nat.le_of_ble_eq_true rfl) ?_
  try dsimp only [List.set_cons_zero, List.set_cons_succ, List.eraseIdx_cons_zero, List.eraseIdx_cons_succ, List.cons_append, List.nil_append, Option.toList]
  rw [nsy (V_g0 b0)]
  refine R_aloadN d_method_5_code_9 rfl rfl ?_
  refine R_iloadN d_method_5_code_10 rfl ?_
  refine R_iconst (1) d_method_5_code_11 (by decide) ?_
  refine R_iadd d_method_5_code_12 ?_
  refine R_iloadN d_method_5_code_13 rfl ?_
  refine R_iconst (3) d_method_5_code_14 (by decide) ?_
  refine R_iand d_method_5_code_15 ?_
  refine R_iconst (4) d_method_5_code_16 (by decide) ?_
  refine R_ishl d_method_5_code_17 ?_
  refine R_iload d_method_5_code_18 rfl ?_
  refine R_iconst (1) d_method_5_code_20 (by decide) ?_
  refine R_icmp_le (pc' := 30) d_method_5_code_21 (by decide) (by decide) (fun h0 => ?_) (fun h0 => ?_)
  · exact absurd h0 (by decide)
  · refine R_iloadN d_method_5_code_24 rfl ?_
    refine R_iconst (4) d_method_5_code_25 (by decide) ?_
    refine R_iushr d_method_5_code_26 ?_
    refine R_goto (pc' := 31) d_method_5_code_27 (by decide) (by decide) ?_
    refine R_ior d_method_5_code_31 ?_
    refine R_call (S_static (as := [_]) (rest := _) d_method_5_code_32 (hw _ (mem 13 rfl)) (hw _ (mem 14 rfl)) (hw _ (mem 3 rfl)) (hw _ (mem 15 rfl)) (by decide) pd_oIcC rfl rfl rfl) (M_ch hw (g1 x0 (h4 x1)) (V_g1 b0 (V_h4 b1))) pk0 (hw _ (mem 15 rfl)) (hw _ (mem 3 rfl)) (Nat.le_of_ble_eq_true rfl) (Nat.le_of_ble_eq_true rfl) (Nat.le_of_ble_eq_true rfl) (Nat.le_of_ble_eq_true rfl) ?_
    rintro _ _ ⟨rfl, rfl⟩
    try dsimp only [List.set_cons_zero, List.set_cons_succ, List.eraseIdx_cons_zero, List.eraseIdx_cons_succ, List.cons_append, List.nil_append, Option.toList]
    refine R_castore 0 d_method_5_code_35 rfl (by decide) 1 (by decide) (Nat.le_of_ble_eq_true rfl) ?_
    try dsimp only [List.set_cons_zero, List.set_cons_succ, List.eraseIdx_cons_zero, List.eraseIdx_cons_succ, List.cons_append, List.nil_append, Option.toList]
    rw [nsy (V_g1 b0 (V_h4 b1))]
    refine R_aloadN d_method_5_code_36 rfl rfl ?_
    refine R_iloadN d_method_5_code_37 rfl ?_
    refine R_iconst (2) d_method_5_code_38 (by decide) ?_
    refine R_iadd d_method_5_code_39 ?_
    refine R_iload d_method_5_code_40 rfl ?_
    refine R_iconst (1) d_method_5_code_42 (by decide) ?_
    refine R_icmp_le (pc' := 74) d_method_5_code_43 (by decide) (by decide) (fun h1 => ?_) (fun h1 => ?_)
    · exact absurd h1 (by decide)
    · refine R_iloadN d_method_5_code_46 rfl ?_
      refine R_bipush (15) d_method_5_code_47 (by decide) ?_
      refine R_iand d_method_5_code_49 ?_
      refine R_iconst (2) d_method_5_code_50 (by decide) ?_
      refine R_ishl d_method_5_code_51 ?_
      refine R_iload d_method_5_code_52 rfl ?_
      refine R_iconst (2) d_method_5_code_54 (by decide) ?_
      refine R_icmp_le (pc' := 66) d_method_5_code_55 (by decide) (by decide) (fun h2 => ?_) (fun h2 => ?_)
      · exact absurd h2 (by decide)
      · refine R_iload d_method_5_code_58 rfl ?_
        refine R_bipush (6) d_method_5_code_60 (by decide) ?_
        refine R_iushr d_method_5_code_62 ?_
        refine R_goto (pc' := 67) d_method_5_code_63 (by decide) (by decide) ?_
        refine R_ior d_method_5_code_67 ?_
        refine R_call (S_static (as := [_]) (rest := _) d_method_5_code_68 (hw _ (mem 13 rfl)) (hw _ (mem 14 rfl)) (hw _ (mem 3 rfl)) (hw _ (mem 15 rfl)) (by decide) pd_oIcC rfl rfl rfl) (M_ch hw (g2 x1 (h6 x2)) (V_g2 b1 (V_h6 b2))) pk0 (hw _ (mem 15 rfl)) (hw _ (mem 3 rfl)) (Nat.le_of_ble_eq_true rfl) (Nat.le_of_ble_eq_true rfl) (Nat.le_of_ble_eq_true rfl) (Nat.le_of_ble_eq_true rfl) ?_
        rintro _ _ ⟨rfl, rfl⟩
        try dsimp only [List.set_cons_zero, List.set_cons_succ, List.eraseIdx_cons_zero, List.eraseIdx_cons_succ, List.cons_append, List.nil_append, Option.toList]
        refine R_goto (pc' := 76) d_method_5_code_71 (by decide) (by decide) ?_
        refine R_castore 0 d_method_5_code_76 rfl (by decide) 2 (by decide) (Nat.le_of_ble_eq_true rfl) ?_
        try dsimp only [List.set_cons_zero, List.set_cons_succ, List.eraseIdx_cons_zero, List.eraseIdx_cons_succ, List.cons_append, List.nil_append, Option.toList]
        rw [nsy (V_g2 b1 (V_h6 b2))]
        refine R_aloadN d_method_5_code_77 rfl rfl ?_
        refine R_iloadN d_method_5_code_78 rfl ?_
        refine R_iconst (3) d_method_5_code_79 (by decide) ?_
        refine R_iadd d_method_5_code_80 ?_
        refine R_iload d_method_5_code_81 rfl ?_
        refine R_iconst (2) d_method_5_code_83 (by decide) ?_
        refine R_icmp_le (pc' := 98) d_method_5_code_84 (by decide) (by decide) (fun h3 => ?_) (fun h3 => ?_)
        · exact absurd h3 (by decide)
        · refine R_iload d_method_5_code_87 rfl ?_
          refine R_bipush (63) d_method_5_code_89 (by decide) ?_
          refine R_iand d_method_5_code_91 ?_
          refine R_call (S_static (as := [_]) (rest := _) d_method_5_code_92 (hw _ (mem 13 rfl)) (hw _ (mem 14 rfl)) (hw _ (mem 3 rfl)) (hw _ (mem 15 rfl)) (by decide) pd_oIcC rfl rfl rfl) (M_ch hw (g3 x2) (V_g3 b2)) pk0 (hw _ (mem 15 rfl)) (hw _ (mem 3 rfl)) (Nat.le_of_ble_eq_true rfl) (Nat.le_of_ble_eq_true rfl) (Nat.le_of_ble_eq_true rfl) (Nat.le_of_ble_eq_true rfl) ?_
          rintro _ _ ⟨rfl, rfl⟩
          try dsimp only [List.set_cons_zero, List.set_cons_succ, List.eraseIdx_cons_zero, List.eraseIdx_cons_succ, List.cons_append, List.nil_append, Option.toList]
          refine R_goto (pc' := 100) d_method_5_code_95 (by decide) (by decide) ?_
          refine R_castore 0 d_method_5_code_100 rfl (by decide) 3 (by decide) (Nat.le_of_ble_eq_true rfl) ?_
          try dsimp only [List.set_cons_zero, List.set_cons_succ, List.eraseIdx_cons_zero, List.eraseIdx_cons_succ, List.cons_append, List.nil_append, Option.toList]
          rw [nsy (V_g3 b2)]
          exact R_return d_method_5_code_101 rfl ⟨rfl, rfl⟩ (Nat.le_of_ble_eq_true rfl) (Nat.le_of_ble_eq_true rfl)

set_option maxRecDepth 65536 in
set_option maxHeartbeats 4000000 in
theorem M_put41 {Γ : Gx} (hw : Words Γ) (t : Addr) (x0 x1 x2 c0 c1 c2 c3 c4 c5 c6 c7 : Int32) (b0 : B8 x0) (b1 : B8 x1) (b2 : B8 x2) :
    Met Γ (⟨"com/example/delta_mirror/deltamirror/rrdp/Base64BinaryFinishPinLaw", "put", "([CIIIII)V"⟩ : MethodName) method_5_code 6 none ({ frames := 1, cells := 0, slots := 0, locals := 14 } : Room) #[(.ref t), (.int 4), (.int x0), (.int x1), (.int x2), (.int 1)] [(t, true, Ary Γ "[C" .char [.int c0, .int c1, .int c2, .int c3, .int c4, .int c5, .int c6, .int c7])] (fun v O' => v = none ∧ O' = [(t, true, Ary Γ "[C" .char [.int c0, .int c1, .int c2, .int c3, .int (sy (g0 x0)), .int (sy (g1 x0 0)), .int 61, .int 61])]) := by
  refine Met.intro pn_com_example_delta_mirror_deltamirror_rrdp_Base64BinaryFinishPinLaw (Ls := [.val (.ref t), .val (.int 4), .val (.int x0), .val (.int x1), .val (.int x2), .val (.int 1)]) (fun m => by first | rfl | (simp [entryFrame, mkF, argsToLocals, Value.category]; done)) ?_
  intro F
  refine R_aloadN d_method_5_code_0 rfl rfl ?_
  refine R_iloadN d_method_5_code_1 rfl ?_
  refine R_iloadN d_method_5_code_2 rfl ?_
  refine R_iconst (2) d_method_5_code_3 (by decide) ?_
  refine R_iushr d_method_5_code_4 ?_
  refine R_call (S_static (as := [_]) (rest := _) d_method_5_code_5 (hw _ (mem 13 rfl)) (hw _ (mem 14 rfl)) (hw _ (mem 3 rfl)) (hw _ (mem 15 rfl)) (by decide) pd_oIcC rfl rfl rfl) (M_ch hw (g0 x0) (V_g0 b0)) pk0 (hw _ (mem 15 rfl)) (hw _ (mem 3 rfl)) (Nat.le_of_ble_eq_true rfl) (Nat.le_of_ble_eq_true rfl) (Nat.le_of_ble_eq_true rfl) (Nat.le_of_ble_eq_true rfl) ?_
  rintro _ _ ⟨rfl, rfl⟩
  try dsimp only [List.set_cons_zero, List.set_cons_succ, List.eraseIdx_cons_zero, List.eraseIdx_cons_succ, List.cons_append, List.nil_append, Option.toList]
  refine R_castore 0 d_method_5_code_8 rfl (by decide) 4 (by decide) (Nat.le_of_ble_eq_true rfl) ?_
  try dsimp only [List.set_cons_zero, List.set_cons_succ, List.eraseIdx_cons_zero, List.eraseIdx_cons_succ, List.cons_append, List.nil_append, Option.toList]
  rw [nsy (V_g0 b0)]
  refine R_aloadN d_method_5_code_9 rfl rfl ?_
  refine R_iloadN d_method_5_code_10 rfl ?_
  refine R_iconst (1) d_method_5_code_11 (by decide) ?_
  refine R_iadd d_method_5_code_12 ?_
  refine R_iloadN d_method_5_code_13 rfl ?_
  refine R_iconst (3) d_method_5_code_14 (by decide) ?_
  refine R_iand d_method_5_code_15 ?_
  refine R_iconst (4) d_method_5_code_16 (by decide) ?_
  refine R_ishl d_method_5_code_17 ?_
  refine R_iload d_method_5_code_18 rfl ?_
  refine R_iconst (1) d_method_5_code_20 (by decide) ?_
  refine R_icmp_le (pc' := 30) d_method_5_code_21 (by decide) (by decide) (fun h0 => ?_) (fun h0 => ?_)
  · refine R_iconst (0) d_method_5_code_30 (by decide) ?_
    refine R_ior d_method_5_code_31 ?_
    refine R_call (S_static (as := [_]) (rest := _) d_method_5_code_32 (hw _ (mem 13 rfl)) (hw _ (mem 14 rfl)) (hw _ (mem 3 rfl)) (hw _ (mem 15 rfl)) (by decide) pd_oIcC rfl rfl rfl) (M_ch hw (g1 x0 0) (V_g1 b0 V_04)) pk0 (hw _ (mem 15 rfl)) (hw _ (mem 3 rfl)) (Nat.le_of_ble_eq_true rfl) (Nat.le_of_ble_eq_true rfl) (Nat.le_of_ble_eq_true rfl) (Nat.le_of_ble_eq_true rfl) ?_
    rintro _ _ ⟨rfl, rfl⟩
    try dsimp only [List.set_cons_zero, List.set_cons_succ, List.eraseIdx_cons_zero, List.eraseIdx_cons_succ, List.cons_append, List.nil_append, Option.toList]
    refine R_castore 0 d_method_5_code_35 rfl (by decide) 5 (by decide) (Nat.le_of_ble_eq_true rfl) ?_
    try dsimp only [List.set_cons_zero, List.set_cons_succ, List.eraseIdx_cons_zero, List.eraseIdx_cons_succ, List.cons_append, List.nil_append, Option.toList]
    rw [nsy (V_g1 b0 V_04)]
    refine R_aloadN d_method_5_code_36 rfl rfl ?_
    refine R_iloadN d_method_5_code_37 rfl ?_
    refine R_iconst (2) d_method_5_code_38 (by decide) ?_
    refine R_iadd d_method_5_code_39 ?_
    refine R_iload d_method_5_code_40 rfl ?_
    refine R_iconst (1) d_method_5_code_42 (by decide) ?_
    refine R_icmp_le (pc' := 74) d_method_5_code_43 (by decide) (by decide) (fun h1 => ?_) (fun h1 => ?_)
    · refine R_bipush (61) d_method_5_code_74 (by decide) ?_
      refine R_castore 0 d_method_5_code_76 rfl (by decide) 6 (by decide) (Nat.le_of_ble_eq_true rfl) ?_
      try dsimp only [List.set_cons_zero, List.set_cons_succ, List.eraseIdx_cons_zero, List.eraseIdx_cons_succ, List.cons_append, List.nil_append, Option.toList]
      rw [show nar .char 61 = 61 from by decide]
      refine R_aloadN d_method_5_code_77 rfl rfl ?_
      refine R_iloadN d_method_5_code_78 rfl ?_
      refine R_iconst (3) d_method_5_code_79 (by decide) ?_
      refine R_iadd d_method_5_code_80 ?_
      refine R_iload d_method_5_code_81 rfl ?_
      refine R_iconst (2) d_method_5_code_83 (by decide) ?_
      refine R_icmp_le (pc' := 98) d_method_5_code_84 (by decide) (by decide) (fun h3 => ?_) (fun h3 => ?_)
      · refine R_bipush (61) d_method_5_code_98 (by decide) ?_
        refine R_castore 0 d_method_5_code_100 rfl (by decide) 7 (by decide) (Nat.le_of_ble_eq_true rfl) ?_
        try dsimp only [List.set_cons_zero, List.set_cons_succ, List.eraseIdx_cons_zero, List.eraseIdx_cons_succ, List.cons_append, List.nil_append, Option.toList]
        rw [show nar .char 61 = 61 from by decide]
        exact R_return d_method_5_code_101 rfl ⟨rfl, rfl⟩ (Nat.le_of_ble_eq_true rfl) (Nat.le_of_ble_eq_true rfl)
      · exact absurd h3 (by decide)
    · exact absurd h1 (by decide)
  · exact absurd h0 (by decide)

set_option maxRecDepth 65536 in
set_option maxHeartbeats 4000000 in
theorem M_put42 {Γ : Gx} (hw : Words Γ) (t : Addr) (x0 x1 x2 c0 c1 c2 c3 c4 c5 c6 c7 : Int32) (b0 : B8 x0) (b1 : B8 x1) (b2 : B8 x2) :
    Met Γ (⟨"com/example/delta_mirror/deltamirror/rrdp/Base64BinaryFinishPinLaw", "put", "([CIIIII)V"⟩ : MethodName) method_5_code 6 none ({ frames := 1, cells := 0, slots := 0, locals := 14 } : Room) #[(.ref t), (.int 4), (.int x0), (.int x1), (.int x2), (.int 2)] [(t, true, Ary Γ "[C" .char [.int c0, .int c1, .int c2, .int c3, .int c4, .int c5, .int c6, .int c7])] (fun v O' => v = none ∧ O' = [(t, true, Ary Γ "[C" .char [.int c0, .int c1, .int c2, .int c3, .int (sy (g0 x0)), .int (sy (g1 x0 (h4 x1))), .int (sy (g2 x1 0)), .int 61])]) := by
  refine Met.intro pn_com_example_delta_mirror_deltamirror_rrdp_Base64BinaryFinishPinLaw (Ls := [.val (.ref t), .val (.int 4), .val (.int x0), .val (.int x1), .val (.int x2), .val (.int 2)]) (fun m => by first | rfl | (simp [entryFrame, mkF, argsToLocals, Value.category]; done)) ?_
  intro F
  refine R_aloadN d_method_5_code_0 rfl rfl ?_
  refine R_iloadN d_method_5_code_1 rfl ?_
  refine R_iloadN d_method_5_code_2 rfl ?_
  refine R_iconst (2) d_method_5_code_3 (by decide) ?_
  refine R_iushr d_method_5_code_4 ?_
  refine R_call (S_static (as := [_]) (rest := _) d_method_5_code_5 (hw _ (mem 13 rfl)) (hw _ (mem 14 rfl)) (hw _ (mem 3 rfl)) (hw _ (mem 15 rfl)) (by decide) pd_oIcC rfl rfl rfl) (M_ch hw (g0 x0) (V_g0 b0)) pk0 (hw _ (mem 15 rfl)) (hw _ (mem 3 rfl)) (Nat.le_of_ble_eq_true rfl) (Nat.le_of_ble_eq_true rfl) (Nat.le_of_ble_eq_true rfl) (Nat.le_of_ble_eq_true rfl) ?_
  rintro _ _ ⟨rfl, rfl⟩
  try dsimp only [List.set_cons_zero, List.set_cons_succ, List.eraseIdx_cons_zero, List.eraseIdx_cons_succ, List.cons_append, List.nil_append, Option.toList]
  refine R_castore 0 d_method_5_code_8 rfl (by decide) 4 (by decide) (Nat.le_of_ble_eq_true rfl) ?_
  try dsimp only [List.set_cons_zero, List.set_cons_succ, List.eraseIdx_cons_zero, List.eraseIdx_cons_succ, List.cons_append, List.nil_append, Option.toList]
  rw [nsy (V_g0 b0)]
  refine R_aloadN d_method_5_code_9 rfl rfl ?_
  refine R_iloadN d_method_5_code_10 rfl ?_
  refine R_iconst (1) d_method_5_code_11 (by decide) ?_
  refine R_iadd d_method_5_code_12 ?_
  refine R_iloadN d_method_5_code_13 rfl ?_
  refine R_iconst (3) d_method_5_code_14 (by decide) ?_
  refine R_iand d_method_5_code_15 ?_
  refine R_iconst (4) d_method_5_code_16 (by decide) ?_
  refine R_ishl d_method_5_code_17 ?_
  refine R_iload d_method_5_code_18 rfl ?_
  refine R_iconst (1) d_method_5_code_20 (by decide) ?_
  refine R_icmp_le (pc' := 30) d_method_5_code_21 (by decide) (by decide) (fun h0 => ?_) (fun h0 => ?_)
  · exact absurd h0 (by decide)
  · refine R_iloadN d_method_5_code_24 rfl ?_
    refine R_iconst (4) d_method_5_code_25 (by decide) ?_
    refine R_iushr d_method_5_code_26 ?_
    refine R_goto (pc' := 31) d_method_5_code_27 (by decide) (by decide) ?_
    refine R_ior d_method_5_code_31 ?_
    refine R_call (S_static (as := [_]) (rest := _) d_method_5_code_32 (hw _ (mem 13 rfl)) (hw _ (mem 14 rfl)) (hw _ (mem 3 rfl)) (hw _ (mem 15 rfl)) (by decide) pd_oIcC rfl rfl rfl) (M_ch hw (g1 x0 (h4 x1)) (V_g1 b0 (V_h4 b1))) pk0 (hw _ (mem 15 rfl)) (hw _ (mem 3 rfl)) (Nat.le_of_ble_eq_true rfl) (Nat.le_of_ble_eq_true rfl) (Nat.le_of_ble_eq_true rfl) (Nat.le_of_ble_eq_true rfl) ?_
    rintro _ _ ⟨rfl, rfl⟩
    try dsimp only [List.set_cons_zero, List.set_cons_succ, List.eraseIdx_cons_zero, List.eraseIdx_cons_succ, List.cons_append, List.nil_append, Option.toList]
    refine R_castore 0 d_method_5_code_35 rfl (by decide) 5 (by decide) (Nat.le_of_ble_eq_true rfl) ?_
    try dsimp only [List.set_cons_zero, List.set_cons_succ, List.eraseIdx_cons_zero, List.eraseIdx_cons_succ, List.cons_append, List.nil_append, Option.toList]
    rw [nsy (V_g1 b0 (V_h4 b1))]
    refine R_aloadN d_method_5_code_36 rfl rfl ?_
    refine R_iloadN d_method_5_code_37 rfl ?_
    refine R_iconst (2) d_method_5_code_38 (by decide) ?_
    refine R_iadd d_method_5_code_39 ?_
    refine R_iload d_method_5_code_40 rfl ?_
    refine R_iconst (1) d_method_5_code_42 (by decide) ?_
    refine R_icmp_le (pc' := 74) d_method_5_code_43 (by decide) (by decide) (fun h1 => ?_) (fun h1 => ?_)
    · exact absurd h1 (by decide)
    · refine R_iloadN d_method_5_code_46 rfl ?_
      refine R_bipush (15) d_method_5_code_47 (by decide) ?_
      refine R_iand d_method_5_code_49 ?_
      refine R_iconst (2) d_method_5_code_50 (by decide) ?_
      refine R_ishl d_method_5_code_51 ?_
      refine R_iload d_method_5_code_52 rfl ?_
      refine R_iconst (2) d_method_5_code_54 (by decide) ?_
      refine R_icmp_le (pc' := 66) d_method_5_code_55 (by decide) (by decide) (fun h2 => ?_) (fun h2 => ?_)
      · refine R_iconst (0) d_method_5_code_66 (by decide) ?_
        refine R_ior d_method_5_code_67 ?_
        refine R_call (S_static (as := [_]) (rest := _) d_method_5_code_68 (hw _ (mem 13 rfl)) (hw _ (mem 14 rfl)) (hw _ (mem 3 rfl)) (hw _ (mem 15 rfl)) (by decide) pd_oIcC rfl rfl rfl) (M_ch hw (g2 x1 0) (V_g2 b1 V_02)) pk0 (hw _ (mem 15 rfl)) (hw _ (mem 3 rfl)) (Nat.le_of_ble_eq_true rfl) (Nat.le_of_ble_eq_true rfl) (Nat.le_of_ble_eq_true rfl) (Nat.le_of_ble_eq_true rfl) ?_
        rintro _ _ ⟨rfl, rfl⟩
        try dsimp only [List.set_cons_zero, List.set_cons_succ, List.eraseIdx_cons_zero, List.eraseIdx_cons_succ, List.cons_append, List.nil_append, Option.toList]
        refine R_goto (pc' := 76) d_method_5_code_71 (by decide) (by decide) ?_
        refine R_castore 0 d_method_5_code_76 rfl (by decide) 6 (by decide) (Nat.le_of_ble_eq_true rfl) ?_
        try dsimp only [List.set_cons_zero, List.set_cons_succ, List.eraseIdx_cons_zero, List.eraseIdx_cons_succ, List.cons_append, List.nil_append, Option.toList]
        rw [nsy (V_g2 b1 V_02)]
        refine R_aloadN d_method_5_code_77 rfl rfl ?_
        refine R_iloadN d_method_5_code_78 rfl ?_
        refine R_iconst (3) d_method_5_code_79 (by decide) ?_
        refine R_iadd d_method_5_code_80 ?_
        refine R_iload d_method_5_code_81 rfl ?_
        refine R_iconst (2) d_method_5_code_83 (by decide) ?_
        refine R_icmp_le (pc' := 98) d_method_5_code_84 (by decide) (by decide) (fun h3 => ?_) (fun h3 => ?_)
        · refine R_bipush (61) d_method_5_code_98 (by decide) ?_
          refine R_castore 0 d_method_5_code_100 rfl (by decide) 7 (by decide) (Nat.le_of_ble_eq_true rfl) ?_
          try dsimp only [List.set_cons_zero, List.set_cons_succ, List.eraseIdx_cons_zero, List.eraseIdx_cons_succ, List.cons_append, List.nil_append, Option.toList]
          rw [show nar .char 61 = 61 from by decide]
          exact R_return d_method_5_code_101 rfl ⟨rfl, rfl⟩ (Nat.le_of_ble_eq_true rfl) (Nat.le_of_ble_eq_true rfl)
        · exact absurd h3 (by decide)
      · exact absurd h2 (by decide)

set_option maxRecDepth 65536 in
set_option maxHeartbeats 4000000 in
theorem M_put43 {Γ : Gx} (hw : Words Γ) (t : Addr) (x0 x1 x2 c0 c1 c2 c3 c4 c5 c6 c7 : Int32) (b0 : B8 x0) (b1 : B8 x1) (b2 : B8 x2) :
    Met Γ (⟨"com/example/delta_mirror/deltamirror/rrdp/Base64BinaryFinishPinLaw", "put", "([CIIIII)V"⟩ : MethodName) method_5_code 6 none ({ frames := 1, cells := 0, slots := 0, locals := 14 } : Room) #[(.ref t), (.int 4), (.int x0), (.int x1), (.int x2), (.int 3)] [(t, true, Ary Γ "[C" .char [.int c0, .int c1, .int c2, .int c3, .int c4, .int c5, .int c6, .int c7])] (fun v O' => v = none ∧ O' = [(t, true, Ary Γ "[C" .char [.int c0, .int c1, .int c2, .int c3, .int (sy (g0 x0)), .int (sy (g1 x0 (h4 x1))), .int (sy (g2 x1 (h6 x2))), .int (sy (g3 x2))])]) := by
  refine Met.intro pn_com_example_delta_mirror_deltamirror_rrdp_Base64BinaryFinishPinLaw (Ls := [.val (.ref t), .val (.int 4), .val (.int x0), .val (.int x1), .val (.int x2), .val (.int 3)]) (fun m => by first | rfl | (simp [entryFrame, mkF, argsToLocals, Value.category]; done)) ?_
  intro F
  refine R_aloadN d_method_5_code_0 rfl rfl ?_
  refine R_iloadN d_method_5_code_1 rfl ?_
  refine R_iloadN d_method_5_code_2 rfl ?_
  refine R_iconst (2) d_method_5_code_3 (by decide) ?_
  refine R_iushr d_method_5_code_4 ?_
  refine R_call (S_static (as := [_]) (rest := _) d_method_5_code_5 (hw _ (mem 13 rfl)) (hw _ (mem 14 rfl)) (hw _ (mem 3 rfl)) (hw _ (mem 15 rfl)) (by decide) pd_oIcC rfl rfl rfl) (M_ch hw (g0 x0) (V_g0 b0)) pk0 (hw _ (mem 15 rfl)) (hw _ (mem 3 rfl)) (Nat.le_of_ble_eq_true rfl) (Nat.le_of_ble_eq_true rfl) (Nat.le_of_ble_eq_true rfl) (Nat.le_of_ble_eq_true rfl) ?_
  rintro _ _ ⟨rfl, rfl⟩
  try dsimp only [List.set_cons_zero, List.set_cons_succ, List.eraseIdx_cons_zero, List.eraseIdx_cons_succ, List.cons_append, List.nil_append, Option.toList]
  refine R_castore 0 d_method_5_code_8 rfl (by decide) 4 (by decide) (Nat.le_of_ble_eq_true rfl) ?_
  try dsimp only [List.set_cons_zero, List.set_cons_succ, List.eraseIdx_cons_zero, List.eraseIdx_cons_succ, List.cons_append, List.nil_append, Option.toList]
  rw [nsy (V_g0 b0)]
  refine R_aloadN d_method_5_code_9 rfl rfl ?_
  refine R_iloadN d_method_5_code_10 rfl ?_
  refine R_iconst (1) d_method_5_code_11 (by decide) ?_
  refine R_iadd d_method_5_code_12 ?_
  refine R_iloadN d_method_5_code_13 rfl ?_
  refine R_iconst (3) d_method_5_code_14 (by decide) ?_
  refine R_iand d_method_5_code_15 ?_
  refine R_iconst (4) d_method_5_code_16 (by decide) ?_
  refine R_ishl d_method_5_code_17 ?_
  refine R_iload d_method_5_code_18 rfl ?_
  refine R_iconst (1) d_method_5_code_20 (by decide) ?_
  refine R_icmp_le (pc' := 30) d_method_5_code_21 (by decide) (by decide) (fun h0 => ?_) (fun h0 => ?_)
  · exact absurd h0 (by decide)
  · refine R_iloadN d_method_5_code_24 rfl ?_
    refine R_iconst (4) d_method_5_code_25 (by decide) ?_
    refine R_iushr d_method_5_code_26 ?_
    refine R_goto (pc' := 31) d_method_5_code_27 (by decide) (by decide) ?_
    refine R_ior d_method_5_code_31 ?_
    refine R_call (S_static (as := [_]) (rest := _) d_method_5_code_32 (hw _ (mem 13 rfl)) (hw _ (mem 14 rfl)) (hw _ (mem 3 rfl)) (hw _ (mem 15 rfl)) (by decide) pd_oIcC rfl rfl rfl) (M_ch hw (g1 x0 (h4 x1)) (V_g1 b0 (V_h4 b1))) pk0 (hw _ (mem 15 rfl)) (hw _ (mem 3 rfl)) (Nat.le_of_ble_eq_true rfl) (Nat.le_of_ble_eq_true rfl) (Nat.le_of_ble_eq_true rfl) (Nat.le_of_ble_eq_true rfl) ?_
    rintro _ _ ⟨rfl, rfl⟩
    try dsimp only [List.set_cons_zero, List.set_cons_succ, List.eraseIdx_cons_zero, List.eraseIdx_cons_succ, List.cons_append, List.nil_append, Option.toList]
    refine R_castore 0 d_method_5_code_35 rfl (by decide) 5 (by decide) (Nat.le_of_ble_eq_true rfl) ?_
    try dsimp only [List.set_cons_zero, List.set_cons_succ, List.eraseIdx_cons_zero, List.eraseIdx_cons_succ, List.cons_append, List.nil_append, Option.toList]
    rw [nsy (V_g1 b0 (V_h4 b1))]
    refine R_aloadN d_method_5_code_36 rfl rfl ?_
    refine R_iloadN d_method_5_code_37 rfl ?_
    refine R_iconst (2) d_method_5_code_38 (by decide) ?_
    refine R_iadd d_method_5_code_39 ?_
    refine R_iload d_method_5_code_40 rfl ?_
    refine R_iconst (1) d_method_5_code_42 (by decide) ?_
    refine R_icmp_le (pc' := 74) d_method_5_code_43 (by decide) (by decide) (fun h1 => ?_) (fun h1 => ?_)
    · exact absurd h1 (by decide)
    · refine R_iloadN d_method_5_code_46 rfl ?_
      refine R_bipush (15) d_method_5_code_47 (by decide) ?_
      refine R_iand d_method_5_code_49 ?_
      refine R_iconst (2) d_method_5_code_50 (by decide) ?_
      refine R_ishl d_method_5_code_51 ?_
      refine R_iload d_method_5_code_52 rfl ?_
      refine R_iconst (2) d_method_5_code_54 (by decide) ?_
      refine R_icmp_le (pc' := 66) d_method_5_code_55 (by decide) (by decide) (fun h2 => ?_) (fun h2 => ?_)
      · exact absurd h2 (by decide)
      · refine R_iload d_method_5_code_58 rfl ?_
        refine R_bipush (6) d_method_5_code_60 (by decide) ?_
        refine R_iushr d_method_5_code_62 ?_
        refine R_goto (pc' := 67) d_method_5_code_63 (by decide) (by decide) ?_
        refine R_ior d_method_5_code_67 ?_
        refine R_call (S_static (as := [_]) (rest := _) d_method_5_code_68 (hw _ (mem 13 rfl)) (hw _ (mem 14 rfl)) (hw _ (mem 3 rfl)) (hw _ (mem 15 rfl)) (by decide) pd_oIcC rfl rfl rfl) (M_ch hw (g2 x1 (h6 x2)) (V_g2 b1 (V_h6 b2))) pk0 (hw _ (mem 15 rfl)) (hw _ (mem 3 rfl)) (Nat.le_of_ble_eq_true rfl) (Nat.le_of_ble_eq_true rfl) (Nat.le_of_ble_eq_true rfl) (Nat.le_of_ble_eq_true rfl) ?_
        rintro _ _ ⟨rfl, rfl⟩
        try dsimp only [List.set_cons_zero, List.set_cons_succ, List.eraseIdx_cons_zero, List.eraseIdx_cons_succ, List.cons_append, List.nil_append, Option.toList]
        refine R_goto (pc' := 76) d_method_5_code_71 (by decide) (by decide) ?_
        refine R_castore 0 d_method_5_code_76 rfl (by decide) 6 (by decide) (Nat.le_of_ble_eq_true rfl) ?_
        try dsimp only [List.set_cons_zero, List.set_cons_succ, List.eraseIdx_cons_zero, List.eraseIdx_cons_succ, List.cons_append, List.nil_append, Option.toList]
        rw [nsy (V_g2 b1 (V_h6 b2))]
        refine R_aloadN d_method_5_code_77 rfl rfl ?_
        refine R_iloadN d_method_5_code_78 rfl ?_
        refine R_iconst (3) d_method_5_code_79 (by decide) ?_
        refine R_iadd d_method_5_code_80 ?_
        refine R_iload d_method_5_code_81 rfl ?_
        refine R_iconst (2) d_method_5_code_83 (by decide) ?_
        refine R_icmp_le (pc' := 98) d_method_5_code_84 (by decide) (by decide) (fun h3 => ?_) (fun h3 => ?_)
        · exact absurd h3 (by decide)
        · refine R_iload d_method_5_code_87 rfl ?_
          refine R_bipush (63) d_method_5_code_89 (by decide) ?_
          refine R_iand d_method_5_code_91 ?_
          refine R_call (S_static (as := [_]) (rest := _) d_method_5_code_92 (hw _ (mem 13 rfl)) (hw _ (mem 14 rfl)) (hw _ (mem 3 rfl)) (hw _ (mem 15 rfl)) (by decide) pd_oIcC rfl rfl rfl) (M_ch hw (g3 x2) (V_g3 b2)) pk0 (hw _ (mem 15 rfl)) (hw _ (mem 3 rfl)) (Nat.le_of_ble_eq_true rfl) (Nat.le_of_ble_eq_true rfl) (Nat.le_of_ble_eq_true rfl) (Nat.le_of_ble_eq_true rfl) ?_
          rintro _ _ ⟨rfl, rfl⟩
          try dsimp only [List.set_cons_zero, List.set_cons_succ, List.eraseIdx_cons_zero, List.eraseIdx_cons_succ, List.cons_append, List.nil_append, Option.toList]
          refine R_goto (pc' := 100) d_method_5_code_95 (by decide) (by decide) ?_
          refine R_castore 0 d_method_5_code_100 rfl (by decide) 7 (by decide) (Nat.le_of_ble_eq_true rfl) ?_
          try dsimp only [List.set_cons_zero, List.set_cons_succ, List.eraseIdx_cons_zero, List.eraseIdx_cons_succ, List.cons_append, List.nil_append, Option.toList]
          rw [nsy (V_g3 b2)]
          exact R_return d_method_5_code_101 rfl ⟨rfl, rfl⟩ (Nat.le_of_ble_eq_true rfl) (Nat.le_of_ble_eq_true rfl)

-- CUT
theorem d_method_4_code_0 : decode method_4_code 0 = .ok (.bipush 8, 2) := by decide +kernel
theorem d_method_4_code_2 : decode method_4_code 2 = .ok (.newarray .char, 2) := by decide +kernel
theorem d_method_4_code_4 : decode method_4_code 4 = .ok (.astore_n 2, 1) := by decide +kernel
theorem d_method_4_code_5 : decode method_4_code 5 = .ok (.iload_n 1, 1) := by decide +kernel
theorem d_method_4_code_6 : decode method_4_code 6 = .ok (.iconst 1, 1) := by decide +kernel
theorem d_method_4_code_7 : decode method_4_code 7 = .ok (.if_icmp .lt 22, 3) := by decide +kernel
theorem d_method_4_code_29 : decode method_4_code 29 = .ok (.iload_n 1, 1) := by decide +kernel
theorem d_method_4_code_30 : decode method_4_code 30 = .ok (.iconst 4, 1) := by decide +kernel
theorem d_method_4_code_31 : decode method_4_code 31 = .ok (.if_icmp .lt 20, 3) := by decide +kernel
theorem d_method_4_code_51 : decode method_4_code 51 = .ok (.aload_n 2, 1) := by decide +kernel
theorem d_method_4_code_52 : decode method_4_code 52 = .ok (.areturn, 1) := by decide +kernel
theorem d_method_4_code_10 : decode method_4_code 10 = .ok (.aload_n 2, 1) := by decide +kernel
theorem d_method_4_code_11 : decode method_4_code 11 = .ok (.iconst 0, 1) := by decide +kernel
theorem d_method_4_code_12 : decode method_4_code 12 = .ok (.aload_n 0, 1) := by decide +kernel
theorem d_method_4_code_13 : decode method_4_code 13 = .ok (.iconst 0, 1) := by decide +kernel
theorem d_method_4_code_14 : decode method_4_code 14 = .ok (.iaload, 1) := by decide +kernel
theorem d_method_4_code_15 : decode method_4_code 15 = .ok (.aload_n 0, 1) := by decide +kernel
theorem d_method_4_code_16 : decode method_4_code 16 = .ok (.iconst 1, 1) := by decide +kernel
theorem d_method_4_code_17 : decode method_4_code 17 = .ok (.iaload, 1) := by decide +kernel
theorem d_method_4_code_18 : decode method_4_code 18 = .ok (.aload_n 0, 1) := by decide +kernel
theorem d_method_4_code_19 : decode method_4_code 19 = .ok (.iconst 2, 1) := by decide +kernel
theorem d_method_4_code_20 : decode method_4_code 20 = .ok (.iaload, 1) := by decide +kernel
theorem d_method_4_code_21 : decode method_4_code 21 = .ok (.iload_n 1, 1) := by decide +kernel
theorem d_method_4_code_22 : decode method_4_code 22 = .ok (.iconst 3, 1) := by decide +kernel
theorem d_method_4_code_23 : decode method_4_code 23 = .ok (.invokestatic 40, 3) := by decide +kernel
theorem d_method_4_code_26 : decode method_4_code 26 = .ok (.invokestatic 43, 3) := by decide +kernel
theorem pd_oaCIIIIIcV : parseMethodDescriptor "([CIIIII)V" = some ⟨[(.array .char), .int, .int, .int, .int, .int], none⟩ := by decide +kernel
theorem d_method_4_code_34 : decode method_4_code 34 = .ok (.aload_n 2, 1) := by decide +kernel
theorem d_method_4_code_35 : decode method_4_code 35 = .ok (.iconst 4, 1) := by decide +kernel
theorem d_method_4_code_36 : decode method_4_code 36 = .ok (.aload_n 0, 1) := by decide +kernel
theorem d_method_4_code_37 : decode method_4_code 37 = .ok (.iconst 3, 1) := by decide +kernel
theorem d_method_4_code_38 : decode method_4_code 38 = .ok (.iaload, 1) := by decide +kernel
theorem d_method_4_code_39 : decode method_4_code 39 = .ok (.aload_n 0, 1) := by decide +kernel
theorem d_method_4_code_40 : decode method_4_code 40 = .ok (.iconst 4, 1) := by decide +kernel
theorem d_method_4_code_41 : decode method_4_code 41 = .ok (.iaload, 1) := by decide +kernel
theorem d_method_4_code_42 : decode method_4_code 42 = .ok (.aload_n 0, 1) := by decide +kernel
theorem d_method_4_code_43 : decode method_4_code 43 = .ok (.iconst 5, 1) := by decide +kernel
theorem d_method_4_code_44 : decode method_4_code 44 = .ok (.iaload, 1) := by decide +kernel
theorem d_method_4_code_45 : decode method_4_code 45 = .ok (.iload_n 1, 1) := by decide +kernel
theorem d_method_4_code_46 : decode method_4_code 46 = .ok (.iconst 3, 1) := by decide +kernel
theorem d_method_4_code_47 : decode method_4_code 47 = .ok (.isub, 1) := by decide +kernel
theorem d_method_4_code_48 : decode method_4_code 48 = .ok (.invokestatic 43, 3) := by decide +kernel
theorem d_method_7_code_0 : decode method_7_code 0 = .ok (.aload_n 0, 1) := by decide +kernel
theorem d_method_7_code_1 : decode method_7_code 1 = .ok (.arraylength, 1) := by decide +kernel
theorem d_method_7_code_2 : decode method_7_code 2 = .ok (.iload_n 2, 1) := by decide +kernel
theorem d_method_7_code_3 : decode method_7_code 3 = .ok (.if_icmp .ne 98, 3) := by decide +kernel
theorem d_method_7_code_6 : decode method_7_code 6 = .ok (.iload_n 2, 1) := by decide +kernel
theorem d_method_7_code_7 : decode method_7_code 7 = .ok (.iconst 1, 1) := by decide +kernel
theorem d_method_7_code_8 : decode method_7_code 8 = .ok (.if_icmp .lt 13, 3) := by decide +kernel
theorem d_method_7_code_21 : decode method_7_code 21 = .ok (.iload_n 2, 1) := by decide +kernel
theorem d_method_7_code_22 : decode method_7_code 22 = .ok (.iconst 2, 1) := by decide +kernel
theorem d_method_7_code_23 : decode method_7_code 23 = .ok (.if_icmp .lt 13, 3) := by decide +kernel
theorem d_method_7_code_36 : decode method_7_code 36 = .ok (.iload_n 2, 1) := by decide +kernel
theorem d_method_7_code_37 : decode method_7_code 37 = .ok (.iconst 3, 1) := by decide +kernel
theorem d_method_7_code_38 : decode method_7_code 38 = .ok (.if_icmp .lt 13, 3) := by decide +kernel
theorem d_method_7_code_51 : decode method_7_code 51 = .ok (.iload_n 2, 1) := by decide +kernel
theorem d_method_7_code_52 : decode method_7_code 52 = .ok (.iconst 4, 1) := by decide +kernel
theorem d_method_7_code_53 : decode method_7_code 53 = .ok (.if_icmp .lt 13, 3) := by decide +kernel
theorem d_method_7_code_66 : decode method_7_code 66 = .ok (.iload_n 2, 1) := by decide +kernel
theorem d_method_7_code_67 : decode method_7_code 67 = .ok (.iconst 5, 1) := by decide +kernel
theorem d_method_7_code_68 : decode method_7_code 68 = .ok (.if_icmp .lt 13, 3) := by decide +kernel
theorem d_method_7_code_81 : decode method_7_code 81 = .ok (.iload_n 2, 1) := by decide +kernel
theorem d_method_7_code_82 : decode method_7_code 82 = .ok (.bipush 6, 2) := by decide +kernel
theorem d_method_7_code_84 : decode method_7_code 84 = .ok (.if_icmp .lt 13, 3) := by decide +kernel
theorem d_method_7_code_97 : decode method_7_code 97 = .ok (.iconst 1, 1) := by decide +kernel
theorem d_method_7_code_98 : decode method_7_code 98 = .ok (.goto 4, 3) := by decide +kernel
theorem d_method_7_code_102 : decode method_7_code 102 = .ok (.ireturn, 1) := by decide +kernel
theorem d_method_7_code_11 : decode method_7_code 11 = .ok (.aload_n 0, 1) := by decide +kernel
theorem d_method_7_code_12 : decode method_7_code 12 = .ok (.iconst 0, 1) := by decide +kernel
theorem d_method_7_code_13 : decode method_7_code 13 = .ok (.baload, 1) := by decide +kernel
theorem d_method_7_code_14 : decode method_7_code 14 = .ok (.aload_n 1, 1) := by decide +kernel
theorem d_method_7_code_15 : decode method_7_code 15 = .ok (.iconst 0, 1) := by decide +kernel
theorem d_method_7_code_16 : decode method_7_code 16 = .ok (.iaload, 1) := by decide +kernel
theorem d_method_7_code_17 : decode method_7_code 17 = .ok (.i2b, 1) := by decide +kernel
theorem d_method_7_code_18 : decode method_7_code 18 = .ok (.if_icmp .ne 83, 3) := by decide +kernel
theorem d_method_7_code_26 : decode method_7_code 26 = .ok (.aload_n 0, 1) := by decide +kernel
theorem d_method_7_code_27 : decode method_7_code 27 = .ok (.iconst 1, 1) := by decide +kernel
theorem d_method_7_code_28 : decode method_7_code 28 = .ok (.baload, 1) := by decide +kernel
theorem d_method_7_code_29 : decode method_7_code 29 = .ok (.aload_n 1, 1) := by decide +kernel
theorem d_method_7_code_30 : decode method_7_code 30 = .ok (.iconst 1, 1) := by decide +kernel
theorem d_method_7_code_31 : decode method_7_code 31 = .ok (.iaload, 1) := by decide +kernel
theorem d_method_7_code_32 : decode method_7_code 32 = .ok (.i2b, 1) := by decide +kernel
theorem d_method_7_code_33 : decode method_7_code 33 = .ok (.if_icmp .ne 68, 3) := by decide +kernel
theorem d_method_7_code_41 : decode method_7_code 41 = .ok (.aload_n 0, 1) := by decide +kernel
theorem d_method_7_code_42 : decode method_7_code 42 = .ok (.iconst 2, 1) := by decide +kernel
theorem d_method_7_code_43 : decode method_7_code 43 = .ok (.baload, 1) := by decide +kernel
theorem d_method_7_code_44 : decode method_7_code 44 = .ok (.aload_n 1, 1) := by decide +kernel
theorem d_method_7_code_45 : decode method_7_code 45 = .ok (.iconst 2, 1) := by decide +kernel
theorem d_method_7_code_46 : decode method_7_code 46 = .ok (.iaload, 1) := by decide +kernel
theorem d_method_7_code_47 : decode method_7_code 47 = .ok (.i2b, 1) := by decide +kernel
theorem d_method_7_code_48 : decode method_7_code 48 = .ok (.if_icmp .ne 53, 3) := by decide +kernel
theorem d_method_7_code_56 : decode method_7_code 56 = .ok (.aload_n 0, 1) := by decide +kernel
theorem d_method_7_code_57 : decode method_7_code 57 = .ok (.iconst 3, 1) := by decide +kernel
theorem d_method_7_code_58 : decode method_7_code 58 = .ok (.baload, 1) := by decide +kernel
theorem d_method_7_code_59 : decode method_7_code 59 = .ok (.aload_n 1, 1) := by decide +kernel
theorem d_method_7_code_60 : decode method_7_code 60 = .ok (.iconst 3, 1) := by decide +kernel
theorem d_method_7_code_61 : decode method_7_code 61 = .ok (.iaload, 1) := by decide +kernel
theorem d_method_7_code_62 : decode method_7_code 62 = .ok (.i2b, 1) := by decide +kernel
theorem d_method_7_code_63 : decode method_7_code 63 = .ok (.if_icmp .ne 38, 3) := by decide +kernel
theorem d_method_7_code_71 : decode method_7_code 71 = .ok (.aload_n 0, 1) := by decide +kernel
theorem d_method_7_code_72 : decode method_7_code 72 = .ok (.iconst 4, 1) := by decide +kernel
theorem d_method_7_code_73 : decode method_7_code 73 = .ok (.baload, 1) := by decide +kernel
theorem d_method_7_code_74 : decode method_7_code 74 = .ok (.aload_n 1, 1) := by decide +kernel
theorem d_method_7_code_75 : decode method_7_code 75 = .ok (.iconst 4, 1) := by decide +kernel
theorem d_method_7_code_76 : decode method_7_code 76 = .ok (.iaload, 1) := by decide +kernel
theorem d_method_7_code_77 : decode method_7_code 77 = .ok (.i2b, 1) := by decide +kernel
theorem d_method_7_code_78 : decode method_7_code 78 = .ok (.if_icmp .ne 23, 3) := by decide +kernel
theorem d_method_7_code_87 : decode method_7_code 87 = .ok (.aload_n 0, 1) := by decide +kernel
theorem d_method_7_code_88 : decode method_7_code 88 = .ok (.iconst 5, 1) := by decide +kernel
theorem d_method_7_code_89 : decode method_7_code 89 = .ok (.baload, 1) := by decide +kernel
theorem d_method_7_code_90 : decode method_7_code 90 = .ok (.aload_n 1, 1) := by decide +kernel
theorem d_method_7_code_91 : decode method_7_code 91 = .ok (.iconst 5, 1) := by decide +kernel
theorem d_method_7_code_92 : decode method_7_code 92 = .ok (.iaload, 1) := by decide +kernel
theorem d_method_7_code_93 : decode method_7_code 93 = .ok (.i2b, 1) := by decide +kernel
theorem d_method_7_code_94 : decode method_7_code 94 = .ok (.if_icmp .ne 7, 3) := by decide +kernel
set_option maxRecDepth 65536 in
set_option maxHeartbeats 4000000 in
theorem M_enc0 {Γ : Gx} (hw : Words Γ) (va : Addr) (v0 v1 v2 v3 v4 v5 : Int32) (b0 : B8 v0) (b1 : B8 v1) (b2 : B8 v2) (b3 : B8 v3) (b4 : B8 v4) (b5 : B8 v5) :
    Met Γ (⟨"com/example/delta_mirror/deltamirror/rrdp/Base64BinaryFinishPinLaw", "encode", "([II)[C"⟩ : MethodName) method_4_code 3 (some (.array .char)) ({ frames := 2, cells := 1, slots := 8, locals := 31 } : Room) #[(.ref va), (.int (0 : Nat).toInt32)] [(va, true, Ary Γ "[I" .int [.int v0, .int v1, .int v2, .int v3, .int v4, .int v5])] (fun v O' => ∃ t, v = some (.ref t) ∧ O' = [(t, true, Ary Γ "[C" .char ((txt v0 v1 v2 v3 v4 v5 0).map Value.int)), (va, true, Ary Γ "[I" .int [.int v0, .int v1, .int v2, .int v3, .int v4, .int v5])]) := by
  refine Met.intro pn_com_example_delta_mirror_deltamirror_rrdp_Base64BinaryFinishPinLaw (Ls := [.val (.ref va), .val (.int (0 : Nat).toInt32), .unset]) (fun m => by first | rfl | (simp [entryFrame, mkF, argsToLocals, Value.category]; done)) ?_
  intro F
  refine R_bipush (8) d_method_4_code_0 (by decide) ?_
  refine R_newarray (ad := "[C") [.int 0, .int 0, .int 0, .int 0, .int 0, .int 0, .int 0, .int 0] 8 d_method_4_code_2 (hw _ (mem 5 rfl)) rfl (by decide) rfl (by decide) (by decide) (Nat.le_of_ble_eq_true rfl) (Nat.le_of_ble_eq_true rfl) fun t => ?_
  refine R_astoreN d_method_4_code_4 rfl rfl (by first | exact Or.inl rfl | exact Or.inr ⟨_, rfl, rfl⟩) ?_
  try dsimp only [List.set_cons_zero, List.set_cons_succ, List.eraseIdx_cons_zero, List.eraseIdx_cons_succ, List.cons_append, List.nil_append, Option.toList]
  refine R_iloadN d_method_4_code_5 rfl ?_
  refine R_iconst (1) d_method_4_code_6 (by decide) ?_
  refine R_icmp_lt (pc' := 29) d_method_4_code_7 (by decide) (by decide) (fun h1 => ?_) (fun h1 => ?_)
  · refine R_iloadN d_method_4_code_29 rfl ?_
    refine R_iconst (4) d_method_4_code_30 (by decide) ?_
    refine R_icmp_lt (pc' := 51) d_method_4_code_31 (by decide) (by decide) (fun h2 => ?_) (fun h2 => ?_)
    · refine R_aloadN d_method_4_code_51 rfl rfl ?_
      refine R_order (pkS 0 rfl (pkS 0 rfl pk0)) ?_
      try dsimp only [List.set_cons_zero, List.set_cons_succ, List.eraseIdx_cons_zero, List.eraseIdx_cons_succ, List.cons_append, List.nil_append, Option.toList]
      exact R_areturn d_method_4_code_52 rfl rfl rfl ⟨t, rfl, rfl⟩ (Nat.le_of_ble_eq_true rfl) (Nat.le_of_ble_eq_true rfl)
    · exact absurd h2 (by decide)
  · exact absurd h1 (by decide)

set_option maxRecDepth 65536 in
set_option maxHeartbeats 4000000 in
theorem M_enc1 {Γ : Gx} (hw : Words Γ) (va : Addr) (v0 v1 v2 v3 v4 v5 : Int32) (b0 : B8 v0) (b1 : B8 v1) (b2 : B8 v2) (b3 : B8 v3) (b4 : B8 v4) (b5 : B8 v5) :
    Met Γ (⟨"com/example/delta_mirror/deltamirror/rrdp/Base64BinaryFinishPinLaw", "encode", "([II)[C"⟩ : MethodName) method_4_code 3 (some (.array .char)) ({ frames := 2, cells := 1, slots := 8, locals := 31 } : Room) #[(.ref va), (.int (1 : Nat).toInt32)] [(va, true, Ary Γ "[I" .int [.int v0, .int v1, .int v2, .int v3, .int v4, .int v5])] (fun v O' => ∃ t, v = some (.ref t) ∧ O' = [(t, true, Ary Γ "[C" .char ((txt v0 v1 v2 v3 v4 v5 1).map Value.int)), (va, true, Ary Γ "[I" .int [.int v0, .int v1, .int v2, .int v3, .int v4, .int v5])]) := by
  refine Met.intro pn_com_example_delta_mirror_deltamirror_rrdp_Base64BinaryFinishPinLaw (Ls := [.val (.ref va), .val (.int (1 : Nat).toInt32), .unset]) (fun m => by first | rfl | (simp [entryFrame, mkF, argsToLocals, Value.category]; done)) ?_
  intro F
  refine R_bipush (8) d_method_4_code_0 (by decide) ?_
  refine R_newarray (ad := "[C") [.int 0, .int 0, .int 0, .int 0, .int 0, .int 0, .int 0, .int 0] 8 d_method_4_code_2 (hw _ (mem 5 rfl)) rfl (by decide) rfl (by decide) (by decide) (Nat.le_of_ble_eq_true rfl) (Nat.le_of_ble_eq_true rfl) fun t => ?_
  refine R_astoreN d_method_4_code_4 rfl rfl (by first | exact Or.inl rfl | exact Or.inr ⟨_, rfl, rfl⟩) ?_
  try dsimp only [List.set_cons_zero, List.set_cons_succ, List.eraseIdx_cons_zero, List.eraseIdx_cons_succ, List.cons_append, List.nil_append, Option.toList]
  refine R_iloadN d_method_4_code_5 rfl ?_
  refine R_iconst (1) d_method_4_code_6 (by decide) ?_
  refine R_icmp_lt (pc' := 29) d_method_4_code_7 (by decide) (by decide) (fun h1 => ?_) (fun h1 => ?_)
  · exact absurd h1 (by decide)
  · refine R_aloadN d_method_4_code_10 rfl rfl ?_
    refine R_iconst (0) d_method_4_code_11 (by decide) ?_
    refine R_aloadN d_method_4_code_12 rfl rfl ?_
    refine R_iconst (0) d_method_4_code_13 (by decide) ?_
    refine R_iaload d_method_4_code_14 (mem 1 rfl) (by decide) 0 rfl rfl ?_
    refine R_aloadN d_method_4_code_15 rfl rfl ?_
    refine R_iconst (1) d_method_4_code_16 (by decide) ?_
    refine R_iaload d_method_4_code_17 (mem 1 rfl) (by decide) 1 rfl rfl ?_
    refine R_aloadN d_method_4_code_18 rfl rfl ?_
    refine R_iconst (2) d_method_4_code_19 (by decide) ?_
    refine R_iaload d_method_4_code_20 (mem 1 rfl) (by decide) 2 rfl rfl ?_
    refine R_iloadN d_method_4_code_21 rfl ?_
    refine R_iconst (3) d_method_4_code_22 (by decide) ?_
    refine R_call (S_static (as := [_, _]) (rest := _) d_method_4_code_23 (hw _ (mem 6 rfl)) (hw _ (mem 7 rfl)) (hw _ (mem 8 rfl)) (hw _ (mem 9 rfl)) (by decide) pd_oIIcI rfl rfl rfl) (M_min hw 1 3 (by decide) (by decide)) pk0 (hw _ (mem 9 rfl)) (hw _ (mem 8 rfl)) (Nat.le_of_ble_eq_true rfl) (Nat.le_of_ble_eq_true rfl) (Nat.le_of_ble_eq_true rfl) (Nat.le_of_ble_eq_true rfl) ?_
    rintro _ _ ⟨rfl, rfl⟩
    try dsimp only [List.set_cons_zero, List.set_cons_succ, List.eraseIdx_cons_zero, List.eraseIdx_cons_succ, List.cons_append, List.nil_append, Option.toList]
    rw [show (min 1 3 : Nat).toInt32 = 1 from by decide]
    refine R_call (S_static (as := [_, _, _, _, _, _]) (rest := _) d_method_4_code_26 (hw _ (mem 10 rfl)) (hw _ (mem 11 rfl)) (hw _ (mem 3 rfl)) (hw _ (mem 12 rfl)) (by decide) pd_oaCIIIIIcV rfl rfl rfl) (M_put01 hw t v0 v1 v2 0 0 0 0 0 0 0 0 b0 b1 b2) (pkS 0 rfl pk0) (hw _ (mem 12 rfl)) (hw _ (mem 3 rfl)) (Nat.le_of_ble_eq_true rfl) (Nat.le_of_ble_eq_true rfl) (Nat.le_of_ble_eq_true rfl) (Nat.le_of_ble_eq_true rfl) ?_
    rintro _ _ ⟨rfl, rfl⟩
    try dsimp only [List.set_cons_zero, List.set_cons_succ, List.eraseIdx_cons_zero, List.eraseIdx_cons_succ, List.cons_append, List.nil_append, Option.toList]
    refine R_iloadN d_method_4_code_29 rfl ?_
    refine R_iconst (4) d_method_4_code_30 (by decide) ?_
    refine R_icmp_lt (pc' := 51) d_method_4_code_31 (by decide) (by decide) (fun h2 => ?_) (fun h2 => ?_)
    · refine R_aloadN d_method_4_code_51 rfl rfl ?_
      refine R_order (pkS 0 rfl (pkS 0 rfl pk0)) ?_
      try dsimp only [List.set_cons_zero, List.set_cons_succ, List.eraseIdx_cons_zero, List.eraseIdx_cons_succ, List.cons_append, List.nil_append, Option.toList]
      exact R_areturn d_method_4_code_52 rfl rfl rfl ⟨t, rfl, rfl⟩ (Nat.le_of_ble_eq_true rfl) (Nat.le_of_ble_eq_true rfl)
    · exact absurd h2 (by decide)

set_option maxRecDepth 65536 in
set_option maxHeartbeats 4000000 in
theorem M_enc2 {Γ : Gx} (hw : Words Γ) (va : Addr) (v0 v1 v2 v3 v4 v5 : Int32) (b0 : B8 v0) (b1 : B8 v1) (b2 : B8 v2) (b3 : B8 v3) (b4 : B8 v4) (b5 : B8 v5) :
    Met Γ (⟨"com/example/delta_mirror/deltamirror/rrdp/Base64BinaryFinishPinLaw", "encode", "([II)[C"⟩ : MethodName) method_4_code 3 (some (.array .char)) ({ frames := 2, cells := 1, slots := 8, locals := 31 } : Room) #[(.ref va), (.int (2 : Nat).toInt32)] [(va, true, Ary Γ "[I" .int [.int v0, .int v1, .int v2, .int v3, .int v4, .int v5])] (fun v O' => ∃ t, v = some (.ref t) ∧ O' = [(t, true, Ary Γ "[C" .char ((txt v0 v1 v2 v3 v4 v5 2).map Value.int)), (va, true, Ary Γ "[I" .int [.int v0, .int v1, .int v2, .int v3, .int v4, .int v5])]) := by
  refine Met.intro pn_com_example_delta_mirror_deltamirror_rrdp_Base64BinaryFinishPinLaw (Ls := [.val (.ref va), .val (.int (2 : Nat).toInt32), .unset]) (fun m => by first | rfl | (simp [entryFrame, mkF, argsToLocals, Value.category]; done)) ?_
  intro F
  refine R_bipush (8) d_method_4_code_0 (by decide) ?_
  refine R_newarray (ad := "[C") [.int 0, .int 0, .int 0, .int 0, .int 0, .int 0, .int 0, .int 0] 8 d_method_4_code_2 (hw _ (mem 5 rfl)) rfl (by decide) rfl (by decide) (by decide) (Nat.le_of_ble_eq_true rfl) (Nat.le_of_ble_eq_true rfl) fun t => ?_
  refine R_astoreN d_method_4_code_4 rfl rfl (by first | exact Or.inl rfl | exact Or.inr ⟨_, rfl, rfl⟩) ?_
  try dsimp only [List.set_cons_zero, List.set_cons_succ, List.eraseIdx_cons_zero, List.eraseIdx_cons_succ, List.cons_append, List.nil_append, Option.toList]
  refine R_iloadN d_method_4_code_5 rfl ?_
  refine R_iconst (1) d_method_4_code_6 (by decide) ?_
  refine R_icmp_lt (pc' := 29) d_method_4_code_7 (by decide) (by decide) (fun h1 => ?_) (fun h1 => ?_)
  · exact absurd h1 (by decide)
  · refine R_aloadN d_method_4_code_10 rfl rfl ?_
    refine R_iconst (0) d_method_4_code_11 (by decide) ?_
    refine R_aloadN d_method_4_code_12 rfl rfl ?_
    refine R_iconst (0) d_method_4_code_13 (by decide) ?_
    refine R_iaload d_method_4_code_14 (mem 1 rfl) (by decide) 0 rfl rfl ?_
    refine R_aloadN d_method_4_code_15 rfl rfl ?_
    refine R_iconst (1) d_method_4_code_16 (by decide) ?_
    refine R_iaload d_method_4_code_17 (mem 1 rfl) (by decide) 1 rfl rfl ?_
    refine R_aloadN d_method_4_code_18 rfl rfl ?_
    refine R_iconst (2) d_method_4_code_19 (by decide) ?_
    refine R_iaload d_method_4_code_20 (mem 1 rfl) (by decide) 2 rfl rfl ?_
    refine R_iloadN d_method_4_code_21 rfl ?_
    refine R_iconst (3) d_method_4_code_22 (by decide) ?_
    refine R_call (S_static (as := [_, _]) (rest := _) d_method_4_code_23 (hw _ (mem 6 rfl)) (hw _ (mem 7 rfl)) (hw _ (mem 8 rfl)) (hw _ (mem 9 rfl)) (by decide) pd_oIIcI rfl rfl rfl) (M_min hw 2 3 (by decide) (by decide)) pk0 (hw _ (mem 9 rfl)) (hw _ (mem 8 rfl)) (Nat.le_of_ble_eq_true rfl) (Nat.le_of_ble_eq_true rfl) (Nat.le_of_ble_eq_true rfl) (Nat.le_of_ble_eq_true rfl) ?_
    rintro _ _ ⟨rfl, rfl⟩
    try dsimp only [List.set_cons_zero, List.set_cons_succ, List.eraseIdx_cons_zero, List.eraseIdx_cons_succ, List.cons_append, List.nil_append, Option.toList]
    rw [show (min 2 3 : Nat).toInt32 = 2 from by decide]
    refine R_call (S_static (as := [_, _, _, _, _, _]) (rest := _) d_method_4_code_26 (hw _ (mem 10 rfl)) (hw _ (mem 11 rfl)) (hw _ (mem 3 rfl)) (hw _ (mem 12 rfl)) (by decide) pd_oaCIIIIIcV rfl rfl rfl) (M_put02 hw t v0 v1 v2 0 0 0 0 0 0 0 0 b0 b1 b2) (pkS 0 rfl pk0) (hw _ (mem 12 rfl)) (hw _ (mem 3 rfl)) (Nat.le_of_ble_eq_true rfl) (Nat.le_of_ble_eq_true rfl) (Nat.le_of_ble_eq_true rfl) (Nat.le_of_ble_eq_true rfl) ?_
    rintro _ _ ⟨rfl, rfl⟩
    try dsimp only [List.set_cons_zero, List.set_cons_succ, List.eraseIdx_cons_zero, List.eraseIdx_cons_succ, List.cons_append, List.nil_append, Option.toList]
    refine R_iloadN d_method_4_code_29 rfl ?_
    refine R_iconst (4) d_method_4_code_30 (by decide) ?_
    refine R_icmp_lt (pc' := 51) d_method_4_code_31 (by decide) (by decide) (fun h2 => ?_) (fun h2 => ?_)
    · refine R_aloadN d_method_4_code_51 rfl rfl ?_
      refine R_order (pkS 0 rfl (pkS 0 rfl pk0)) ?_
      try dsimp only [List.set_cons_zero, List.set_cons_succ, List.eraseIdx_cons_zero, List.eraseIdx_cons_succ, List.cons_append, List.nil_append, Option.toList]
      exact R_areturn d_method_4_code_52 rfl rfl rfl ⟨t, rfl, rfl⟩ (Nat.le_of_ble_eq_true rfl) (Nat.le_of_ble_eq_true rfl)
    · exact absurd h2 (by decide)

set_option maxRecDepth 65536 in
set_option maxHeartbeats 4000000 in
theorem M_enc3 {Γ : Gx} (hw : Words Γ) (va : Addr) (v0 v1 v2 v3 v4 v5 : Int32) (b0 : B8 v0) (b1 : B8 v1) (b2 : B8 v2) (b3 : B8 v3) (b4 : B8 v4) (b5 : B8 v5) :
    Met Γ (⟨"com/example/delta_mirror/deltamirror/rrdp/Base64BinaryFinishPinLaw", "encode", "([II)[C"⟩ : MethodName) method_4_code 3 (some (.array .char)) ({ frames := 2, cells := 1, slots := 8, locals := 31 } : Room) #[(.ref va), (.int (3 : Nat).toInt32)] [(va, true, Ary Γ "[I" .int [.int v0, .int v1, .int v2, .int v3, .int v4, .int v5])] (fun v O' => ∃ t, v = some (.ref t) ∧ O' = [(t, true, Ary Γ "[C" .char ((txt v0 v1 v2 v3 v4 v5 3).map Value.int)), (va, true, Ary Γ "[I" .int [.int v0, .int v1, .int v2, .int v3, .int v4, .int v5])]) := by
  refine Met.intro pn_com_example_delta_mirror_deltamirror_rrdp_Base64BinaryFinishPinLaw (Ls := [.val (.ref va), .val (.int (3 : Nat).toInt32), .unset]) (fun m => by first | rfl | (simp [entryFrame, mkF, argsToLocals, Value.category]; done)) ?_
  intro F
  refine R_bipush (8) d_method_4_code_0 (by decide) ?_
  refine R_newarray (ad := "[C") [.int 0, .int 0, .int 0, .int 0, .int 0, .int 0, .int 0, .int 0] 8 d_method_4_code_2 (hw _ (mem 5 rfl)) rfl (by decide) rfl (by decide) (by decide) (Nat.le_of_ble_eq_true rfl) (Nat.le_of_ble_eq_true rfl) fun t => ?_
  refine R_astoreN d_method_4_code_4 rfl rfl (by first | exact Or.inl rfl | exact Or.inr ⟨_, rfl, rfl⟩) ?_
  try dsimp only [List.set_cons_zero, List.set_cons_succ, List.eraseIdx_cons_zero, List.eraseIdx_cons_succ, List.cons_append, List.nil_append, Option.toList]
  refine R_iloadN d_method_4_code_5 rfl ?_
  refine R_iconst (1) d_method_4_code_6 (by decide) ?_
  refine R_icmp_lt (pc' := 29) d_method_4_code_7 (by decide) (by decide) (fun h1 => ?_) (fun h1 => ?_)
  · exact absurd h1 (by decide)
  · refine R_aloadN d_method_4_code_10 rfl rfl ?_
    refine R_iconst (0) d_method_4_code_11 (by decide) ?_
    refine R_aloadN d_method_4_code_12 rfl rfl ?_
    refine R_iconst (0) d_method_4_code_13 (by decide) ?_
    refine R_iaload d_method_4_code_14 (mem 1 rfl) (by decide) 0 rfl rfl ?_
    refine R_aloadN d_method_4_code_15 rfl rfl ?_
    refine R_iconst (1) d_method_4_code_16 (by decide) ?_
    refine R_iaload d_method_4_code_17 (mem 1 rfl) (by decide) 1 rfl rfl ?_
    refine R_aloadN d_method_4_code_18 rfl rfl ?_
    refine R_iconst (2) d_method_4_code_19 (by decide) ?_
    refine R_iaload d_method_4_code_20 (mem 1 rfl) (by decide) 2 rfl rfl ?_
    refine R_iloadN d_method_4_code_21 rfl ?_
    refine R_iconst (3) d_method_4_code_22 (by decide) ?_
    refine R_call (S_static (as := [_, _]) (rest := _) d_method_4_code_23 (hw _ (mem 6 rfl)) (hw _ (mem 7 rfl)) (hw _ (mem 8 rfl)) (hw _ (mem 9 rfl)) (by decide) pd_oIIcI rfl rfl rfl) (M_min hw 3 3 (by decide) (by decide)) pk0 (hw _ (mem 9 rfl)) (hw _ (mem 8 rfl)) (Nat.le_of_ble_eq_true rfl) (Nat.le_of_ble_eq_true rfl) (Nat.le_of_ble_eq_true rfl) (Nat.le_of_ble_eq_true rfl) ?_
    rintro _ _ ⟨rfl, rfl⟩
    try dsimp only [List.set_cons_zero, List.set_cons_succ, List.eraseIdx_cons_zero, List.eraseIdx_cons_succ, List.cons_append, List.nil_append, Option.toList]
    rw [show (min 3 3 : Nat).toInt32 = 3 from by decide]
    refine R_call (S_static (as := [_, _, _, _, _, _]) (rest := _) d_method_4_code_26 (hw _ (mem 10 rfl)) (hw _ (mem 11 rfl)) (hw _ (mem 3 rfl)) (hw _ (mem 12 rfl)) (by decide) pd_oaCIIIIIcV rfl rfl rfl) (M_put03 hw t v0 v1 v2 0 0 0 0 0 0 0 0 b0 b1 b2) (pkS 0 rfl pk0) (hw _ (mem 12 rfl)) (hw _ (mem 3 rfl)) (Nat.le_of_ble_eq_true rfl) (Nat.le_of_ble_eq_true rfl) (Nat.le_of_ble_eq_true rfl) (Nat.le_of_ble_eq_true rfl) ?_
    rintro _ _ ⟨rfl, rfl⟩
    try dsimp only [List.set_cons_zero, List.set_cons_succ, List.eraseIdx_cons_zero, List.eraseIdx_cons_succ, List.cons_append, List.nil_append, Option.toList]
    refine R_iloadN d_method_4_code_29 rfl ?_
    refine R_iconst (4) d_method_4_code_30 (by decide) ?_
    refine R_icmp_lt (pc' := 51) d_method_4_code_31 (by decide) (by decide) (fun h2 => ?_) (fun h2 => ?_)
    · refine R_aloadN d_method_4_code_51 rfl rfl ?_
      refine R_order (pkS 0 rfl (pkS 0 rfl pk0)) ?_
      try dsimp only [List.set_cons_zero, List.set_cons_succ, List.eraseIdx_cons_zero, List.eraseIdx_cons_succ, List.cons_append, List.nil_append, Option.toList]
      exact R_areturn d_method_4_code_52 rfl rfl rfl ⟨t, rfl, rfl⟩ (Nat.le_of_ble_eq_true rfl) (Nat.le_of_ble_eq_true rfl)
    · exact absurd h2 (by decide)

set_option maxRecDepth 65536 in
set_option maxHeartbeats 4000000 in
theorem M_enc4 {Γ : Gx} (hw : Words Γ) (va : Addr) (v0 v1 v2 v3 v4 v5 : Int32) (b0 : B8 v0) (b1 : B8 v1) (b2 : B8 v2) (b3 : B8 v3) (b4 : B8 v4) (b5 : B8 v5) :
    Met Γ (⟨"com/example/delta_mirror/deltamirror/rrdp/Base64BinaryFinishPinLaw", "encode", "([II)[C"⟩ : MethodName) method_4_code 3 (some (.array .char)) ({ frames := 2, cells := 1, slots := 8, locals := 31 } : Room) #[(.ref va), (.int (4 : Nat).toInt32)] [(va, true, Ary Γ "[I" .int [.int v0, .int v1, .int v2, .int v3, .int v4, .int v5])] (fun v O' => ∃ t, v = some (.ref t) ∧ O' = [(t, true, Ary Γ "[C" .char ((txt v0 v1 v2 v3 v4 v5 4).map Value.int)), (va, true, Ary Γ "[I" .int [.int v0, .int v1, .int v2, .int v3, .int v4, .int v5])]) := by
  refine Met.intro pn_com_example_delta_mirror_deltamirror_rrdp_Base64BinaryFinishPinLaw (Ls := [.val (.ref va), .val (.int (4 : Nat).toInt32), .unset]) (fun m => by first | rfl | (simp [entryFrame, mkF, argsToLocals, Value.category]; done)) ?_
  intro F
  refine R_bipush (8) d_method_4_code_0 (by decide) ?_
  refine R_newarray (ad := "[C") [.int 0, .int 0, .int 0, .int 0, .int 0, .int 0, .int 0, .int 0] 8 d_method_4_code_2 (hw _ (mem 5 rfl)) rfl (by decide) rfl (by decide) (by decide) (Nat.le_of_ble_eq_true rfl) (Nat.le_of_ble_eq_true rfl) fun t => ?_
  refine R_astoreN d_method_4_code_4 rfl rfl (by first | exact Or.inl rfl | exact Or.inr ⟨_, rfl, rfl⟩) ?_
  try dsimp only [List.set_cons_zero, List.set_cons_succ, List.eraseIdx_cons_zero, List.eraseIdx_cons_succ, List.cons_append, List.nil_append, Option.toList]
  refine R_iloadN d_method_4_code_5 rfl ?_
  refine R_iconst (1) d_method_4_code_6 (by decide) ?_
  refine R_icmp_lt (pc' := 29) d_method_4_code_7 (by decide) (by decide) (fun h1 => ?_) (fun h1 => ?_)
  · exact absurd h1 (by decide)
  · refine R_aloadN d_method_4_code_10 rfl rfl ?_
    refine R_iconst (0) d_method_4_code_11 (by decide) ?_
    refine R_aloadN d_method_4_code_12 rfl rfl ?_
    refine R_iconst (0) d_method_4_code_13 (by decide) ?_
    refine R_iaload d_method_4_code_14 (mem 1 rfl) (by decide) 0 rfl rfl ?_
    refine R_aloadN d_method_4_code_15 rfl rfl ?_
    refine R_iconst (1) d_method_4_code_16 (by decide) ?_
    refine R_iaload d_method_4_code_17 (mem 1 rfl) (by decide) 1 rfl rfl ?_
    refine R_aloadN d_method_4_code_18 rfl rfl ?_
    refine R_iconst (2) d_method_4_code_19 (by decide) ?_
    refine R_iaload d_method_4_code_20 (mem 1 rfl) (by decide) 2 rfl rfl ?_
    refine R_iloadN d_method_4_code_21 rfl ?_
    refine R_iconst (3) d_method_4_code_22 (by decide) ?_
    refine R_call (S_static (as := [_, _]) (rest := _) d_method_4_code_23 (hw _ (mem 6 rfl)) (hw _ (mem 7 rfl)) (hw _ (mem 8 rfl)) (hw _ (mem 9 rfl)) (by decide) pd_oIIcI rfl rfl rfl) (M_min hw 4 3 (by decide) (by decide)) pk0 (hw _ (mem 9 rfl)) (hw _ (mem 8 rfl)) (Nat.le_of_ble_eq_true rfl) (Nat.le_of_ble_eq_true rfl) (Nat.le_of_ble_eq_true rfl) (Nat.le_of_ble_eq_true rfl) ?_
    rintro _ _ ⟨rfl, rfl⟩
    try dsimp only [List.set_cons_zero, List.set_cons_succ, List.eraseIdx_cons_zero, List.eraseIdx_cons_succ, List.cons_append, List.nil_append, Option.toList]
    rw [show (min 4 3 : Nat).toInt32 = 3 from by decide]
    refine R_call (S_static (as := [_, _, _, _, _, _]) (rest := _) d_method_4_code_26 (hw _ (mem 10 rfl)) (hw _ (mem 11 rfl)) (hw _ (mem 3 rfl)) (hw _ (mem 12 rfl)) (by decide) pd_oaCIIIIIcV rfl rfl rfl) (M_put03 hw t v0 v1 v2 0 0 0 0 0 0 0 0 b0 b1 b2) (pkS 0 rfl pk0) (hw _ (mem 12 rfl)) (hw _ (mem 3 rfl)) (Nat.le_of_ble_eq_true rfl) (Nat.le_of_ble_eq_true rfl) (Nat.le_of_ble_eq_true rfl) (Nat.le_of_ble_eq_true rfl) ?_
    rintro _ _ ⟨rfl, rfl⟩
    try dsimp only [List.set_cons_zero, List.set_cons_succ, List.eraseIdx_cons_zero, List.eraseIdx_cons_succ, List.cons_append, List.nil_append, Option.toList]
    refine R_iloadN d_method_4_code_29 rfl ?_
    refine R_iconst (4) d_method_4_code_30 (by decide) ?_
    refine R_icmp_lt (pc' := 51) d_method_4_code_31 (by decide) (by decide) (fun h2 => ?_) (fun h2 => ?_)
    · exact absurd h2 (by decide)
    · refine R_aloadN d_method_4_code_34 rfl rfl ?_
      refine R_iconst (4) d_method_4_code_35 (by decide) ?_
      refine R_aloadN d_method_4_code_36 rfl rfl ?_
      refine R_iconst (3) d_method_4_code_37 (by decide) ?_
      refine R_iaload d_method_4_code_38 (mem 1 rfl) (by decide) 3 rfl rfl ?_
      refine R_aloadN d_method_4_code_39 rfl rfl ?_
      refine R_iconst (4) d_method_4_code_40 (by decide) ?_
      refine R_iaload d_method_4_code_41 (mem 1 rfl) (by decide) 4 rfl rfl ?_
      refine R_aloadN d_method_4_code_42 rfl rfl ?_
      refine R_iconst (5) d_method_4_code_43 (by decide) ?_
      refine R_iaload d_method_4_code_44 (mem 1 rfl) (by decide) 5 rfl rfl ?_
      refine R_iloadN d_method_4_code_45 rfl ?_
      refine R_iconst (3) d_method_4_code_46 (by decide) ?_
      refine R_isub d_method_4_code_47 ?_
      rw [show ((4 : Nat).toInt32 - 3 : Int32) = 1 from by decide]
      refine R_call (S_static (as := [_, _, _, _, _, _]) (rest := _) d_method_4_code_48 (hw _ (mem 10 rfl)) (hw _ (mem 11 rfl)) (hw _ (mem 3 rfl)) (hw _ (mem 12 rfl)) (by decide) pd_oaCIIIIIcV rfl rfl rfl) (M_put41 hw t v3 v4 v5 (sy (g0 v0)) (sy (g1 v0 (h4 v1))) (sy (g2 v1 (h6 v2))) (sy (g3 v2)) 0 0 0 0 b3 b4 b5) (pkS 0 rfl pk0) (hw _ (mem 12 rfl)) (hw _ (mem 3 rfl)) (Nat.le_of_ble_eq_true rfl) (Nat.le_of_ble_eq_true rfl) (Nat.le_of_ble_eq_true rfl) (Nat.le_of_ble_eq_true rfl) ?_
      rintro _ _ ⟨rfl, rfl⟩
      try dsimp only [List.set_cons_zero, List.set_cons_succ, List.eraseIdx_cons_zero, List.eraseIdx_cons_succ, List.cons_append, List.nil_append, Option.toList]
      refine R_aloadN d_method_4_code_51 rfl rfl ?_
      refine R_order (pkS 0 rfl (pkS 0 rfl pk0)) ?_
      try dsimp only [List.set_cons_zero, List.set_cons_succ, List.eraseIdx_cons_zero, List.eraseIdx_cons_succ, List.cons_append, List.nil_append, Option.toList]
      exact R_areturn d_method_4_code_52 rfl rfl rfl ⟨t, rfl, rfl⟩ (Nat.le_of_ble_eq_true rfl) (Nat.le_of_ble_eq_true rfl)

set_option maxRecDepth 65536 in
set_option maxHeartbeats 4000000 in
theorem M_enc5 {Γ : Gx} (hw : Words Γ) (va : Addr) (v0 v1 v2 v3 v4 v5 : Int32) (b0 : B8 v0) (b1 : B8 v1) (b2 : B8 v2) (b3 : B8 v3) (b4 : B8 v4) (b5 : B8 v5) :
    Met Γ (⟨"com/example/delta_mirror/deltamirror/rrdp/Base64BinaryFinishPinLaw", "encode", "([II)[C"⟩ : MethodName) method_4_code 3 (some (.array .char)) ({ frames := 2, cells := 1, slots := 8, locals := 31 } : Room) #[(.ref va), (.int (5 : Nat).toInt32)] [(va, true, Ary Γ "[I" .int [.int v0, .int v1, .int v2, .int v3, .int v4, .int v5])] (fun v O' => ∃ t, v = some (.ref t) ∧ O' = [(t, true, Ary Γ "[C" .char ((txt v0 v1 v2 v3 v4 v5 5).map Value.int)), (va, true, Ary Γ "[I" .int [.int v0, .int v1, .int v2, .int v3, .int v4, .int v5])]) := by
  refine Met.intro pn_com_example_delta_mirror_deltamirror_rrdp_Base64BinaryFinishPinLaw (Ls := [.val (.ref va), .val (.int (5 : Nat).toInt32), .unset]) (fun m => by first | rfl | (simp [entryFrame, mkF, argsToLocals, Value.category]; done)) ?_
  intro F
  refine R_bipush (8) d_method_4_code_0 (by decide) ?_
  refine R_newarray (ad := "[C") [.int 0, .int 0, .int 0, .int 0, .int 0, .int 0, .int 0, .int 0] 8 d_method_4_code_2 (hw _ (mem 5 rfl)) rfl (by decide) rfl (by decide) (by decide) (Nat.le_of_ble_eq_true rfl) (Nat.le_of_ble_eq_true rfl) fun t => ?_
  refine R_astoreN d_method_4_code_4 rfl rfl (by first | exact Or.inl rfl | exact Or.inr ⟨_, rfl, rfl⟩) ?_
  try dsimp only [List.set_cons_zero, List.set_cons_succ, List.eraseIdx_cons_zero, List.eraseIdx_cons_succ, List.cons_append, List.nil_append, Option.toList]
  refine R_iloadN d_method_4_code_5 rfl ?_
  refine R_iconst (1) d_method_4_code_6 (by decide) ?_
  refine R_icmp_lt (pc' := 29) d_method_4_code_7 (by decide) (by decide) (fun h1 => ?_) (fun h1 => ?_)
  · exact absurd h1 (by decide)
  · refine R_aloadN d_method_4_code_10 rfl rfl ?_
    refine R_iconst (0) d_method_4_code_11 (by decide) ?_
    refine R_aloadN d_method_4_code_12 rfl rfl ?_
    refine R_iconst (0) d_method_4_code_13 (by decide) ?_
    refine R_iaload d_method_4_code_14 (mem 1 rfl) (by decide) 0 rfl rfl ?_
    refine R_aloadN d_method_4_code_15 rfl rfl ?_
    refine R_iconst (1) d_method_4_code_16 (by decide) ?_
    refine R_iaload d_method_4_code_17 (mem 1 rfl) (by decide) 1 rfl rfl ?_
    refine R_aloadN d_method_4_code_18 rfl rfl ?_
    refine R_iconst (2) d_method_4_code_19 (by decide) ?_
    refine R_iaload d_method_4_code_20 (mem 1 rfl) (by decide) 2 rfl rfl ?_
    refine R_iloadN d_method_4_code_21 rfl ?_
    refine R_iconst (3) d_method_4_code_22 (by decide) ?_
    refine R_call (S_static (as := [_, _]) (rest := _) d_method_4_code_23 (hw _ (mem 6 rfl)) (hw _ (mem 7 rfl)) (hw _ (mem 8 rfl)) (hw _ (mem 9 rfl)) (by decide) pd_oIIcI rfl rfl rfl) (M_min hw 5 3 (by decide) (by decide)) pk0 (hw _ (mem 9 rfl)) (hw _ (mem 8 rfl)) (Nat.le_of_ble_eq_true rfl) (Nat.le_of_ble_eq_true rfl) (Nat.le_of_ble_eq_true rfl) (Nat.le_of_ble_eq_true rfl) ?_
    rintro _ _ ⟨rfl, rfl⟩
    try dsimp only [List.set_cons_zero, List.set_cons_succ, List.eraseIdx_cons_zero, List.eraseIdx_cons_succ, List.cons_append, List.nil_append, Option.toList]
    rw [show (min 5 3 : Nat).toInt32 = 3 from by decide]
    refine R_call (S_static (as := [_, _, _, _, _, _]) (rest := _) d_method_4_code_26 (hw _ (mem 10 rfl)) (hw _ (mem 11 rfl)) (hw _ (mem 3 rfl)) (hw _ (mem 12 rfl)) (by decide) pd_oaCIIIIIcV rfl rfl rfl) (M_put03 hw t v0 v1 v2 0 0 0 0 0 0 0 0 b0 b1 b2) (pkS 0 rfl pk0) (hw _ (mem 12 rfl)) (hw _ (mem 3 rfl)) (Nat.le_of_ble_eq_true rfl) (Nat.le_of_ble_eq_true rfl) (Nat.le_of_ble_eq_true rfl) (Nat.le_of_ble_eq_true rfl) ?_
    rintro _ _ ⟨rfl, rfl⟩
    try dsimp only [List.set_cons_zero, List.set_cons_succ, List.eraseIdx_cons_zero, List.eraseIdx_cons_succ, List.cons_append, List.nil_append, Option.toList]
    refine R_iloadN d_method_4_code_29 rfl ?_
    refine R_iconst (4) d_method_4_code_30 (by decide) ?_
    refine R_icmp_lt (pc' := 51) d_method_4_code_31 (by decide) (by decide) (fun h2 => ?_) (fun h2 => ?_)
    · exact absurd h2 (by decide)
    · refine R_aloadN d_method_4_code_34 rfl rfl ?_
      refine R_iconst (4) d_method_4_code_35 (by decide) ?_
      refine R_aloadN d_method_4_code_36 rfl rfl ?_
      refine R_iconst (3) d_method_4_code_37 (by decide) ?_
      refine R_iaload d_method_4_code_38 (mem 1 rfl) (by decide) 3 rfl rfl ?_
      refine R_aloadN d_method_4_code_39 rfl rfl ?_
      refine R_iconst (4) d_method_4_code_40 (by decide) ?_
      refine R_iaload d_method_4_code_41 (mem 1 rfl) (by decide) 4 rfl rfl ?_
      refine R_aloadN d_method_4_code_42 rfl rfl ?_
      refine R_iconst (5) d_method_4_code_43 (by decide) ?_
      refine R_iaload d_method_4_code_44 (mem 1 rfl) (by decide) 5 rfl rfl ?_
      refine R_iloadN d_method_4_code_45 rfl ?_
      refine R_iconst (3) d_method_4_code_46 (by decide) ?_
      refine R_isub d_method_4_code_47 ?_
      rw [show ((5 : Nat).toInt32 - 3 : Int32) = 2 from by decide]
      refine R_call (S_static (as := [_, _, _, _, _, _]) (rest := _) d_method_4_code_48 (hw _ (mem 10 rfl)) (hw _ (mem 11 rfl)) (hw _ (mem 3 rfl)) (hw _ (mem 12 rfl)) (by decide) pd_oaCIIIIIcV rfl rfl rfl) (M_put42 hw t v3 v4 v5 (sy (g0 v0)) (sy (g1 v0 (h4 v1))) (sy (g2 v1 (h6 v2))) (sy (g3 v2)) 0 0 0 0 b3 b4 b5) (pkS 0 rfl pk0) (hw _ (mem 12 rfl)) (hw _ (mem 3 rfl)) (Nat.le_of_ble_eq_true rfl) (Nat.le_of_ble_eq_true rfl) (Nat.le_of_ble_eq_true rfl) (Nat.le_of_ble_eq_true rfl) ?_
      rintro _ _ ⟨rfl, rfl⟩
      try dsimp only [List.set_cons_zero, List.set_cons_succ, List.eraseIdx_cons_zero, List.eraseIdx_cons_succ, List.cons_append, List.nil_append, Option.toList]
      refine R_aloadN d_method_4_code_51 rfl rfl ?_
      refine R_order (pkS 0 rfl (pkS 0 rfl pk0)) ?_
      try dsimp only [List.set_cons_zero, List.set_cons_succ, List.eraseIdx_cons_zero, List.eraseIdx_cons_succ, List.cons_append, List.nil_append, Option.toList]
      exact R_areturn d_method_4_code_52 rfl rfl rfl ⟨t, rfl, rfl⟩ (Nat.le_of_ble_eq_true rfl) (Nat.le_of_ble_eq_true rfl)

set_option maxRecDepth 65536 in
set_option maxHeartbeats 4000000 in
theorem M_enc6 {Γ : Gx} (hw : Words Γ) (va : Addr) (v0 v1 v2 v3 v4 v5 : Int32) (b0 : B8 v0) (b1 : B8 v1) (b2 : B8 v2) (b3 : B8 v3) (b4 : B8 v4) (b5 : B8 v5) :
    Met Γ (⟨"com/example/delta_mirror/deltamirror/rrdp/Base64BinaryFinishPinLaw", "encode", "([II)[C"⟩ : MethodName) method_4_code 3 (some (.array .char)) ({ frames := 2, cells := 1, slots := 8, locals := 31 } : Room) #[(.ref va), (.int (6 : Nat).toInt32)] [(va, true, Ary Γ "[I" .int [.int v0, .int v1, .int v2, .int v3, .int v4, .int v5])] (fun v O' => ∃ t, v = some (.ref t) ∧ O' = [(t, true, Ary Γ "[C" .char ((txt v0 v1 v2 v3 v4 v5 6).map Value.int)), (va, true, Ary Γ "[I" .int [.int v0, .int v1, .int v2, .int v3, .int v4, .int v5])]) := by
  refine Met.intro pn_com_example_delta_mirror_deltamirror_rrdp_Base64BinaryFinishPinLaw (Ls := [.val (.ref va), .val (.int (6 : Nat).toInt32), .unset]) (fun m => by first | rfl | (simp [entryFrame, mkF, argsToLocals, Value.category]; done)) ?_
  intro F
  refine R_bipush (8) d_method_4_code_0 (by decide) ?_
  refine R_newarray (ad := "[C") [.int 0, .int 0, .int 0, .int 0, .int 0, .int 0, .int 0, .int 0] 8 d_method_4_code_2 (hw _ (mem 5 rfl)) rfl (by decide) rfl (by decide) (by decide) (Nat.le_of_ble_eq_true rfl) (Nat.le_of_ble_eq_true rfl) fun t => ?_
  refine R_astoreN d_method_4_code_4 rfl rfl (by first | exact Or.inl rfl | exact Or.inr ⟨_, rfl, rfl⟩) ?_
  try dsimp only [List.set_cons_zero, List.set_cons_succ, List.eraseIdx_cons_zero, List.eraseIdx_cons_succ, List.cons_append, List.nil_append, Option.toList]
  refine R_iloadN d_method_4_code_5 rfl ?_
  refine R_iconst (1) d_method_4_code_6 (by decide) ?_
  refine R_icmp_lt (pc' := 29) d_method_4_code_7 (by decide) (by decide) (fun h1 => ?_) (fun h1 => ?_)
  · exact absurd h1 (by decide)
  · refine R_aloadN d_method_4_code_10 rfl rfl ?_
    refine R_iconst (0) d_method_4_code_11 (by decide) ?_
    refine R_aloadN d_method_4_code_12 rfl rfl ?_
    refine R_iconst (0) d_method_4_code_13 (by decide) ?_
    refine R_iaload d_method_4_code_14 (mem 1 rfl) (by decide) 0 rfl rfl ?_
    refine R_aloadN d_method_4_code_15 rfl rfl ?_
    refine R_iconst (1) d_method_4_code_16 (by decide) ?_
    refine R_iaload d_method_4_code_17 (mem 1 rfl) (by decide) 1 rfl rfl ?_
    refine R_aloadN d_method_4_code_18 rfl rfl ?_
    refine R_iconst (2) d_method_4_code_19 (by decide) ?_
    refine R_iaload d_method_4_code_20 (mem 1 rfl) (by decide) 2 rfl rfl ?_
    refine R_iloadN d_method_4_code_21 rfl ?_
    refine R_iconst (3) d_method_4_code_22 (by decide) ?_
    refine R_call (S_static (as := [_, _]) (rest := _) d_method_4_code_23 (hw _ (mem 6 rfl)) (hw _ (mem 7 rfl)) (hw _ (mem 8 rfl)) (hw _ (mem 9 rfl)) (by decide) pd_oIIcI rfl rfl rfl) (M_min hw 6 3 (by decide) (by decide)) pk0 (hw _ (mem 9 rfl)) (hw _ (mem 8 rfl)) (Nat.le_of_ble_eq_true rfl) (Nat.le_of_ble_eq_true rfl) (Nat.le_of_ble_eq_true rfl) (Nat.le_of_ble_eq_true rfl) ?_
    rintro _ _ ⟨rfl, rfl⟩
    try dsimp only [List.set_cons_zero, List.set_cons_succ, List.eraseIdx_cons_zero, List.eraseIdx_cons_succ, List.cons_append, List.nil_append, Option.toList]
    rw [show (min 6 3 : Nat).toInt32 = 3 from by decide]
    refine R_call (S_static (as := [_, _, _, _, _, _]) (rest := _) d_method_4_code_26 (hw _ (mem 10 rfl)) (hw _ (mem 11 rfl)) (hw _ (mem 3 rfl)) (hw _ (mem 12 rfl)) (by decide) pd_oaCIIIIIcV rfl rfl rfl) (M_put03 hw t v0 v1 v2 0 0 0 0 0 0 0 0 b0 b1 b2) (pkS 0 rfl pk0) (hw _ (mem 12 rfl)) (hw _ (mem 3 rfl)) (Nat.le_of_ble_eq_true rfl) (Nat.le_of_ble_eq_true rfl) (Nat.le_of_ble_eq_true rfl) (Nat.le_of_ble_eq_true rfl) ?_
    rintro _ _ ⟨rfl, rfl⟩
    try dsimp only [List.set_cons_zero, List.set_cons_succ, List.eraseIdx_cons_zero, List.eraseIdx_cons_succ, List.cons_append, List.nil_append, Option.toList]
    refine R_iloadN d_method_4_code_29 rfl ?_
    refine R_iconst (4) d_method_4_code_30 (by decide) ?_
    refine R_icmp_lt (pc' := 51) d_method_4_code_31 (by decide) (by decide) (fun h2 => ?_) (fun h2 => ?_)
    · exact absurd h2 (by decide)
    · refine R_aloadN d_method_4_code_34 rfl rfl ?_
      refine R_iconst (4) d_method_4_code_35 (by decide) ?_
      refine R_aloadN d_method_4_code_36 rfl rfl ?_
      refine R_iconst (3) d_method_4_code_37 (by decide) ?_
      refine R_iaload d_method_4_code_38 (mem 1 rfl) (by decide) 3 rfl rfl ?_
      refine R_aloadN d_method_4_code_39 rfl rfl ?_
      refine R_iconst (4) d_method_4_code_40 (by decide) ?_
      refine R_iaload d_method_4_code_41 (mem 1 rfl) (by decide) 4 rfl rfl ?_
      refine R_aloadN d_method_4_code_42 rfl rfl ?_
      refine R_iconst (5) d_method_4_code_43 (by decide) ?_
      refine R_iaload d_method_4_code_44 (mem 1 rfl) (by decide) 5 rfl rfl ?_
      refine R_iloadN d_method_4_code_45 rfl ?_
      refine R_iconst (3) d_method_4_code_46 (by decide) ?_
      refine R_isub d_method_4_code_47 ?_
      rw [show ((6 : Nat).toInt32 - 3 : Int32) = 3 from by decide]
      refine R_call (S_static (as := [_, _, _, _, _, _]) (rest := _) d_method_4_code_48 (hw _ (mem 10 rfl)) (hw _ (mem 11 rfl)) (hw _ (mem 3 rfl)) (hw _ (mem 12 rfl)) (by decide) pd_oaCIIIIIcV rfl rfl rfl) (M_put43 hw t v3 v4 v5 (sy (g0 v0)) (sy (g1 v0 (h4 v1))) (sy (g2 v1 (h6 v2))) (sy (g3 v2)) 0 0 0 0 b3 b4 b5) (pkS 0 rfl pk0) (hw _ (mem 12 rfl)) (hw _ (mem 3 rfl)) (Nat.le_of_ble_eq_true rfl) (Nat.le_of_ble_eq_true rfl) (Nat.le_of_ble_eq_true rfl) (Nat.le_of_ble_eq_true rfl) ?_
      rintro _ _ ⟨rfl, rfl⟩
      try dsimp only [List.set_cons_zero, List.set_cons_succ, List.eraseIdx_cons_zero, List.eraseIdx_cons_succ, List.cons_append, List.nil_append, Option.toList]
      refine R_aloadN d_method_4_code_51 rfl rfl ?_
      refine R_order (pkS 0 rfl (pkS 0 rfl pk0)) ?_
      try dsimp only [List.set_cons_zero, List.set_cons_succ, List.eraseIdx_cons_zero, List.eraseIdx_cons_succ, List.cons_append, List.nil_append, Option.toList]
      exact R_areturn d_method_4_code_52 rfl rfl rfl ⟨t, rfl, rfl⟩ (Nat.le_of_ble_eq_true rfl) (Nat.le_of_ble_eq_true rfl)

theorem M_enc {Γ : Gx} (hw : Words Γ) (va : Addr) (v0 v1 v2 v3 v4 v5 : Int32) (b0 : B8 v0) (b1 : B8 v1) (b2 : B8 v2) (b3 : B8 v3) (b4 : B8 v4) (b5 : B8 v5) (n : Nat) (hn : n ≤ 6) :
    Met Γ (⟨"com/example/delta_mirror/deltamirror/rrdp/Base64BinaryFinishPinLaw", "encode", "([II)[C"⟩ : MethodName) method_4_code 3 (some (.array .char)) ({ frames := 2, cells := 1, slots := 8, locals := 31 } : Room) #[(.ref va), (.int n.toInt32)] [(va, true, Ary Γ "[I" .int [.int v0, .int v1, .int v2, .int v3, .int v4, .int v5])] (fun v O' => ∃ t, v = some (.ref t) ∧ O' = [(t, true, Ary Γ "[C" .char ((txt v0 v1 v2 v3 v4 v5 n).map Value.int)), (va, true, Ary Γ "[I" .int [.int v0, .int v1, .int v2, .int v3, .int v4, .int v5])]) := by
  rcases n7 hn with rfl | rfl | rfl | rfl | rfl | rfl | rfl
  · exact M_enc0 hw va v0 v1 v2 v3 v4 v5 b0 b1 b2 b3 b4 b5
  · exact M_enc1 hw va v0 v1 v2 v3 v4 v5 b0 b1 b2 b3 b4 b5
  · exact M_enc2 hw va v0 v1 v2 v3 v4 v5 b0 b1 b2 b3 b4 b5
  · exact M_enc3 hw va v0 v1 v2 v3 v4 v5 b0 b1 b2 b3 b4 b5
  · exact M_enc4 hw va v0 v1 v2 v3 v4 v5 b0 b1 b2 b3 b4 b5
  · exact M_enc5 hw va v0 v1 v2 v3 v4 v5 b0 b1 b2 b3 b4 b5
  · exact M_enc6 hw va v0 v1 v2 v3 v4 v5 b0 b1 b2 b3 b4 b5

set_option maxRecDepth 65536 in
set_option maxHeartbeats 4000000 in
theorem M_same0 {Γ : Gx} (hw : Words Γ) (r va : Addr) (v0 v1 v2 v3 v4 v5 : Int32) :
    Met Γ (⟨"com/example/delta_mirror/deltamirror/rrdp/Base64BinaryFinishPinLaw", "same", "([B[II)Z"⟩ : MethodName) method_7_code 3 (some .boolean) ({ frames := 0, cells := 0, slots := 0, locals := 0 } : Room) #[(.ref r), (.ref va), (.int (0 : Nat).toInt32)] [(r, true, BA Γ ((byt v0 v1 v2 v3 v4 v5 0).map Value.int)), (va, true, Ary Γ "[I" .int [.int v0, .int v1, .int v2, .int v3, .int v4, .int v5])] (fun v O' => v = some (.int 1) ∧ O' = [(r, true, BA Γ ((byt v0 v1 v2 v3 v4 v5 0).map Value.int)), (va, true, Ary Γ "[I" .int [.int v0, .int v1, .int v2, .int v3, .int v4, .int v5])]) := by
  refine Met.intro pn_com_example_delta_mirror_deltamirror_rrdp_Base64BinaryFinishPinLaw (Ls := [.val (.ref r), .val (.ref va), .val (.int (0 : Nat).toInt32)]) (fun m => by first | rfl | (simp [entryFrame, mkF, argsToLocals, Value.category]; done)) ?_
  intro F
  show Run Γ _ 0 0 [(r, true, BA Γ []), (va, true, Ary Γ "[I" .int [.int v0, .int v1, .int v2, .int v3, .int v4, .int v5])] 0 _ _
  refine R_aloadN d_method_7_code_0 rfl rfl ?_
  refine R_arraylength d_method_7_code_1 (mem 0 rfl) (0 : Nat).toInt32 rfl ?_
  refine R_iloadN d_method_7_code_2 rfl ?_
  refine R_icmp_ne (pc' := 101) d_method_7_code_3 (by decide) (by decide) (fun h => ?_) (fun h => ?_)
  · exact absurd rfl h
  · refine R_iloadN d_method_7_code_6 rfl ?_
    refine R_iconst (1) d_method_7_code_7 (by decide) ?_
    refine R_icmp_lt (pc' := 21) d_method_7_code_8 (by decide) (by decide) (fun l0 => ?_) (fun l0 => ?_)
    · refine R_iloadN d_method_7_code_21 rfl ?_
      refine R_iconst (2) d_method_7_code_22 (by decide) ?_
      refine R_icmp_lt (pc' := 36) d_method_7_code_23 (by decide) (by decide) (fun l1 => ?_) (fun l1 => ?_)
      · refine R_iloadN d_method_7_code_36 rfl ?_
        refine R_iconst (3) d_method_7_code_37 (by decide) ?_
        refine R_icmp_lt (pc' := 51) d_method_7_code_38 (by decide) (by decide) (fun l2 => ?_) (fun l2 => ?_)
        · refine R_iloadN d_method_7_code_51 rfl ?_
          refine R_iconst (4) d_method_7_code_52 (by decide) ?_
          refine R_icmp_lt (pc' := 66) d_method_7_code_53 (by decide) (by decide) (fun l3 => ?_) (fun l3 => ?_)
          · refine R_iloadN d_method_7_code_66 rfl ?_
            refine R_iconst (5) d_method_7_code_67 (by decide) ?_
            refine R_icmp_lt (pc' := 81) d_method_7_code_68 (by decide) (by decide) (fun l4 => ?_) (fun l4 => ?_)
            · refine R_iloadN d_method_7_code_81 rfl ?_
              refine R_bipush (6) d_method_7_code_82 (by decide) ?_
              refine R_icmp_lt (pc' := 97) d_method_7_code_84 (by decide) (by decide) (fun l5 => ?_) (fun l5 => ?_)
              · refine R_iconst (1) d_method_7_code_97 (by decide) ?_
                refine R_goto (pc' := 102) d_method_7_code_98 (by decide) (by decide) ?_
                exact R_ireturnN d_method_7_code_102 rfl (by simp) ⟨rfl, rfl⟩ (Nat.le_of_ble_eq_true rfl) (Nat.le_of_ble_eq_true rfl)
              · exact absurd l5 (by decide)
            · exact absurd l4 (by decide)
          · exact absurd l3 (by decide)
        · exact absurd l2 (by decide)
      · exact absurd l1 (by decide)
    · exact absurd l0 (by decide)

set_option maxRecDepth 65536 in
set_option maxHeartbeats 4000000 in
theorem M_same1 {Γ : Gx} (hw : Words Γ) (r va : Addr) (v0 v1 v2 v3 v4 v5 : Int32) :
    Met Γ (⟨"com/example/delta_mirror/deltamirror/rrdp/Base64BinaryFinishPinLaw", "same", "([B[II)Z"⟩ : MethodName) method_7_code 3 (some .boolean) ({ frames := 0, cells := 0, slots := 0, locals := 0 } : Room) #[(.ref r), (.ref va), (.int (1 : Nat).toInt32)] [(r, true, BA Γ ((byt v0 v1 v2 v3 v4 v5 1).map Value.int)), (va, true, Ary Γ "[I" .int [.int v0, .int v1, .int v2, .int v3, .int v4, .int v5])] (fun v O' => v = some (.int 1) ∧ O' = [(r, true, BA Γ ((byt v0 v1 v2 v3 v4 v5 1).map Value.int)), (va, true, Ary Γ "[I" .int [.int v0, .int v1, .int v2, .int v3, .int v4, .int v5])]) := by
  refine Met.intro pn_com_example_delta_mirror_deltamirror_rrdp_Base64BinaryFinishPinLaw (Ls := [.val (.ref r), .val (.ref va), .val (.int (1 : Nat).toInt32)]) (fun m => by first | rfl | (simp [entryFrame, mkF, argsToLocals, Value.category]; done)) ?_
  intro F
  show Run Γ _ 0 0 [(r, true, BA Γ [.int (b8 v0)]), (va, true, Ary Γ "[I" .int [.int v0, .int v1, .int v2, .int v3, .int v4, .int v5])] 0 _ _
  refine R_aloadN d_method_7_code_0 rfl rfl ?_
  refine R_arraylength d_method_7_code_1 (mem 0 rfl) (1 : Nat).toInt32 rfl ?_
  refine R_iloadN d_method_7_code_2 rfl ?_
  refine R_icmp_ne (pc' := 101) d_method_7_code_3 (by decide) (by decide) (fun h => ?_) (fun h => ?_)
  · exact absurd rfl h
  · refine R_iloadN d_method_7_code_6 rfl ?_
    refine R_iconst (1) d_method_7_code_7 (by decide) ?_
    refine R_icmp_lt (pc' := 21) d_method_7_code_8 (by decide) (by decide) (fun l0 => ?_) (fun l0 => ?_)
    · exact absurd l0 (by decide)
    · refine R_aloadN d_method_7_code_11 rfl rfl ?_
      refine R_iconst (0) d_method_7_code_12 (by decide) ?_
      refine R_baload d_method_7_code_13 (mem 0 rfl) (by decide) 0 rfl rfl ?_
      refine R_aloadN d_method_7_code_14 rfl rfl ?_
      refine R_iconst (0) d_method_7_code_15 (by decide) ?_
      refine R_iaload d_method_7_code_16 (mem 1 rfl) (by decide) 0 rfl rfl ?_
      refine R_i2b d_method_7_code_17 ?_
      refine R_icmp_ne (pc' := 101) d_method_7_code_18 (by decide) (by decide) (fun e0 => ?_) (fun e0 => ?_)
      · exact absurd rfl e0
      · refine R_iloadN d_method_7_code_21 rfl ?_
        refine R_iconst (2) d_method_7_code_22 (by decide) ?_
        refine R_icmp_lt (pc' := 36) d_method_7_code_23 (by decide) (by decide) (fun l1 => ?_) (fun l1 => ?_)
        · refine R_iloadN d_method_7_code_36 rfl ?_
          refine R_iconst (3) d_method_7_code_37 (by decide) ?_
          refine R_icmp_lt (pc' := 51) d_method_7_code_38 (by decide) (by decide) (fun l2 => ?_) (fun l2 => ?_)
          · refine R_iloadN d_method_7_code_51 rfl ?_
            refine R_iconst (4) d_method_7_code_52 (by decide) ?_
            refine R_icmp_lt (pc' := 66) d_method_7_code_53 (by decide) (by decide) (fun l3 => ?_) (fun l3 => ?_)
            · refine R_iloadN d_method_7_code_66 rfl ?_
              refine R_iconst (5) d_method_7_code_67 (by decide) ?_
              refine R_icmp_lt (pc' := 81) d_method_7_code_68 (by decide) (by decide) (fun l4 => ?_) (fun l4 => ?_)
              · refine R_iloadN d_method_7_code_81 rfl ?_
                refine R_bipush (6) d_method_7_code_82 (by decide) ?_
                refine R_icmp_lt (pc' := 97) d_method_7_code_84 (by decide) (by decide) (fun l5 => ?_) (fun l5 => ?_)
                · refine R_iconst (1) d_method_7_code_97 (by decide) ?_
                  refine R_goto (pc' := 102) d_method_7_code_98 (by decide) (by decide) ?_
                  exact R_ireturnN d_method_7_code_102 rfl (by simp) ⟨rfl, rfl⟩ (Nat.le_of_ble_eq_true rfl) (Nat.le_of_ble_eq_true rfl)
                · exact absurd l5 (by decide)
              · exact absurd l4 (by decide)
            · exact absurd l3 (by decide)
          · exact absurd l2 (by decide)
        · exact absurd l1 (by decide)

set_option maxRecDepth 65536 in
set_option maxHeartbeats 4000000 in
theorem M_same2 {Γ : Gx} (hw : Words Γ) (r va : Addr) (v0 v1 v2 v3 v4 v5 : Int32) :
    Met Γ (⟨"com/example/delta_mirror/deltamirror/rrdp/Base64BinaryFinishPinLaw", "same", "([B[II)Z"⟩ : MethodName) method_7_code 3 (some .boolean) ({ frames := 0, cells := 0, slots := 0, locals := 0 } : Room) #[(.ref r), (.ref va), (.int (2 : Nat).toInt32)] [(r, true, BA Γ ((byt v0 v1 v2 v3 v4 v5 2).map Value.int)), (va, true, Ary Γ "[I" .int [.int v0, .int v1, .int v2, .int v3, .int v4, .int v5])] (fun v O' => v = some (.int 1) ∧ O' = [(r, true, BA Γ ((byt v0 v1 v2 v3 v4 v5 2).map Value.int)), (va, true, Ary Γ "[I" .int [.int v0, .int v1, .int v2, .int v3, .int v4, .int v5])]) := by
  refine Met.intro pn_com_example_delta_mirror_deltamirror_rrdp_Base64BinaryFinishPinLaw (Ls := [.val (.ref r), .val (.ref va), .val (.int (2 : Nat).toInt32)]) (fun m => by first | rfl | (simp [entryFrame, mkF, argsToLocals, Value.category]; done)) ?_
  intro F
  show Run Γ _ 0 0 [(r, true, BA Γ [.int (b8 v0), .int (b8 v1)]), (va, true, Ary Γ "[I" .int [.int v0, .int v1, .int v2, .int v3, .int v4, .int v5])] 0 _ _
  refine R_aloadN d_method_7_code_0 rfl rfl ?_
  refine R_arraylength d_method_7_code_1 (mem 0 rfl) (2 : Nat).toInt32 rfl ?_
  refine R_iloadN d_method_7_code_2 rfl ?_
  refine R_icmp_ne (pc' := 101) d_method_7_code_3 (by decide) (by decide) (fun h => ?_) (fun h => ?_)
  · exact absurd rfl h
  · refine R_iloadN d_method_7_code_6 rfl ?_
    refine R_iconst (1) d_method_7_code_7 (by decide) ?_
    refine R_icmp_lt (pc' := 21) d_method_7_code_8 (by decide) (by decide) (fun l0 => ?_) (fun l0 => ?_)
    · exact absurd l0 (by decide)
    · refine R_aloadN d_method_7_code_11 rfl rfl ?_
      refine R_iconst (0) d_method_7_code_12 (by decide) ?_
      refine R_baload d_method_7_code_13 (mem 0 rfl) (by decide) 0 rfl rfl ?_
      refine R_aloadN d_method_7_code_14 rfl rfl ?_
      refine R_iconst (0) d_method_7_code_15 (by decide) ?_
      refine R_iaload d_method_7_code_16 (mem 1 rfl) (by decide) 0 rfl rfl ?_
      refine R_i2b d_method_7_code_17 ?_
      refine R_icmp_ne (pc' := 101) d_method_7_code_18 (by decide) (by decide) (fun e0 => ?_) (fun e0 => ?_)
      · exact absurd rfl e0
      · refine R_iloadN d_method_7_code_21 rfl ?_
        refine R_iconst (2) d_method_7_code_22 (by decide) ?_
        refine R_icmp_lt (pc' := 36) d_method_7_code_23 (by decide) (by decide) (fun l1 => ?_) (fun l1 => ?_)
        · exact absurd l1 (by decide)
        · refine R_aloadN d_method_7_code_26 rfl rfl ?_
          refine R_iconst (1) d_method_7_code_27 (by decide) ?_
          refine R_baload d_method_7_code_28 (mem 0 rfl) (by decide) 1 rfl rfl ?_
          refine R_aloadN d_method_7_code_29 rfl rfl ?_
          refine R_iconst (1) d_method_7_code_30 (by decide) ?_
          refine R_iaload d_method_7_code_31 (mem 1 rfl) (by decide) 1 rfl rfl ?_
          refine R_i2b d_method_7_code_32 ?_
          refine R_icmp_ne (pc' := 101) d_method_7_code_33 (by decide) (by decide) (fun e1 => ?_) (fun e1 => ?_)
          · exact absurd rfl e1
          · refine R_iloadN d_method_7_code_36 rfl ?_
            refine R_iconst (3) d_method_7_code_37 (by decide) ?_
            refine R_icmp_lt (pc' := 51) d_method_7_code_38 (by decide) (by decide) (fun l2 => ?_) (fun l2 => ?_)
            · refine R_iloadN d_method_7_code_51 rfl ?_
              refine R_iconst (4) d_method_7_code_52 (by decide) ?_
              refine R_icmp_lt (pc' := 66) d_method_7_code_53 (by decide) (by decide) (fun l3 => ?_) (fun l3 => ?_)
              · refine R_iloadN d_method_7_code_66 rfl ?_
                refine R_iconst (5) d_method_7_code_67 (by decide) ?_
                refine R_icmp_lt (pc' := 81) d_method_7_code_68 (by decide) (by decide) (fun l4 => ?_) (fun l4 => ?_)
                · refine R_iloadN d_method_7_code_81 rfl ?_
                  refine R_bipush (6) d_method_7_code_82 (by decide) ?_
                  refine R_icmp_lt (pc' := 97) d_method_7_code_84 (by decide) (by decide) (fun l5 => ?_) (fun l5 => ?_)
                  · refine R_iconst (1) d_method_7_code_97 (by decide) ?_
                    refine R_goto (pc' := 102) d_method_7_code_98 (by decide) (by decide) ?_
                    exact R_ireturnN d_method_7_code_102 rfl (by simp) ⟨rfl, rfl⟩ (Nat.le_of_ble_eq_true rfl) (Nat.le_of_ble_eq_true rfl)
                  · exact absurd l5 (by decide)
                · exact absurd l4 (by decide)
              · exact absurd l3 (by decide)
            · exact absurd l2 (by decide)

set_option maxRecDepth 65536 in
set_option maxHeartbeats 4000000 in
theorem M_same3 {Γ : Gx} (hw : Words Γ) (r va : Addr) (v0 v1 v2 v3 v4 v5 : Int32) :
    Met Γ (⟨"com/example/delta_mirror/deltamirror/rrdp/Base64BinaryFinishPinLaw", "same", "([B[II)Z"⟩ : MethodName) method_7_code 3 (some .boolean) ({ frames := 0, cells := 0, slots := 0, locals := 0 } : Room) #[(.ref r), (.ref va), (.int (3 : Nat).toInt32)] [(r, true, BA Γ ((byt v0 v1 v2 v3 v4 v5 3).map Value.int)), (va, true, Ary Γ "[I" .int [.int v0, .int v1, .int v2, .int v3, .int v4, .int v5])] (fun v O' => v = some (.int 1) ∧ O' = [(r, true, BA Γ ((byt v0 v1 v2 v3 v4 v5 3).map Value.int)), (va, true, Ary Γ "[I" .int [.int v0, .int v1, .int v2, .int v3, .int v4, .int v5])]) := by
  refine Met.intro pn_com_example_delta_mirror_deltamirror_rrdp_Base64BinaryFinishPinLaw (Ls := [.val (.ref r), .val (.ref va), .val (.int (3 : Nat).toInt32)]) (fun m => by first | rfl | (simp [entryFrame, mkF, argsToLocals, Value.category]; done)) ?_
  intro F
  show Run Γ _ 0 0 [(r, true, BA Γ [.int (b8 v0), .int (b8 v1), .int (b8 v2)]), (va, true, Ary Γ "[I" .int [.int v0, .int v1, .int v2, .int v3, .int v4, .int v5])] 0 _ _
  refine R_aloadN d_method_7_code_0 rfl rfl ?_
  refine R_arraylength d_method_7_code_1 (mem 0 rfl) (3 : Nat).toInt32 rfl ?_
  refine R_iloadN d_method_7_code_2 rfl ?_
  refine R_icmp_ne (pc' := 101) d_method_7_code_3 (by decide) (by decide) (fun h => ?_) (fun h => ?_)
  · exact absurd rfl h
  · refine R_iloadN d_method_7_code_6 rfl ?_
    refine R_iconst (1) d_method_7_code_7 (by decide) ?_
    refine R_icmp_lt (pc' := 21) d_method_7_code_8 (by decide) (by decide) (fun l0 => ?_) (fun l0 => ?_)
    · exact absurd l0 (by decide)
    · refine R_aloadN d_method_7_code_11 rfl rfl ?_
      refine R_iconst (0) d_method_7_code_12 (by decide) ?_
      refine R_baload d_method_7_code_13 (mem 0 rfl) (by decide) 0 rfl rfl ?_
      refine R_aloadN d_method_7_code_14 rfl rfl ?_
      refine R_iconst (0) d_method_7_code_15 (by decide) ?_
      refine R_iaload d_method_7_code_16 (mem 1 rfl) (by decide) 0 rfl rfl ?_
      refine R_i2b d_method_7_code_17 ?_
      refine R_icmp_ne (pc' := 101) d_method_7_code_18 (by decide) (by decide) (fun e0 => ?_) (fun e0 => ?_)
      · exact absurd rfl e0
      · refine R_iloadN d_method_7_code_21 rfl ?_
        refine R_iconst (2) d_method_7_code_22 (by decide) ?_
        refine R_icmp_lt (pc' := 36) d_method_7_code_23 (by decide) (by decide) (fun l1 => ?_) (fun l1 => ?_)
        · exact absurd l1 (by decide)
        · refine R_aloadN d_method_7_code_26 rfl rfl ?_
          refine R_iconst (1) d_method_7_code_27 (by decide) ?_
          refine R_baload d_method_7_code_28 (mem 0 rfl) (by decide) 1 rfl rfl ?_
          refine R_aloadN d_method_7_code_29 rfl rfl ?_
          refine R_iconst (1) d_method_7_code_30 (by decide) ?_
          refine R_iaload d_method_7_code_31 (mem 1 rfl) (by decide) 1 rfl rfl ?_
          refine R_i2b d_method_7_code_32 ?_
          refine R_icmp_ne (pc' := 101) d_method_7_code_33 (by decide) (by decide) (fun e1 => ?_) (fun e1 => ?_)
          · exact absurd rfl e1
          · refine R_iloadN d_method_7_code_36 rfl ?_
            refine R_iconst (3) d_method_7_code_37 (by decide) ?_
            refine R_icmp_lt (pc' := 51) d_method_7_code_38 (by decide) (by decide) (fun l2 => ?_) (fun l2 => ?_)
            · exact absurd l2 (by decide)
            · refine R_aloadN d_method_7_code_41 rfl rfl ?_
              refine R_iconst (2) d_method_7_code_42 (by decide) ?_
              refine R_baload d_method_7_code_43 (mem 0 rfl) (by decide) 2 rfl rfl ?_
              refine R_aloadN d_method_7_code_44 rfl rfl ?_
              refine R_iconst (2) d_method_7_code_45 (by decide) ?_
              refine R_iaload d_method_7_code_46 (mem 1 rfl) (by decide) 2 rfl rfl ?_
              refine R_i2b d_method_7_code_47 ?_
              refine R_icmp_ne (pc' := 101) d_method_7_code_48 (by decide) (by decide) (fun e2 => ?_) (fun e2 => ?_)
              · exact absurd rfl e2
              · refine R_iloadN d_method_7_code_51 rfl ?_
                refine R_iconst (4) d_method_7_code_52 (by decide) ?_
                refine R_icmp_lt (pc' := 66) d_method_7_code_53 (by decide) (by decide) (fun l3 => ?_) (fun l3 => ?_)
                · refine R_iloadN d_method_7_code_66 rfl ?_
                  refine R_iconst (5) d_method_7_code_67 (by decide) ?_
                  refine R_icmp_lt (pc' := 81) d_method_7_code_68 (by decide) (by decide) (fun l4 => ?_) (fun l4 => ?_)
                  · refine R_iloadN d_method_7_code_81 rfl ?_
                    refine R_bipush (6) d_method_7_code_82 (by decide) ?_
                    refine R_icmp_lt (pc' := 97) d_method_7_code_84 (by decide) (by decide) (fun l5 => ?_) (fun l5 => ?_)
                    · refine R_iconst (1) d_method_7_code_97 (by decide) ?_
                      refine R_goto (pc' := 102) d_method_7_code_98 (by decide) (by decide) ?_
                      exact R_ireturnN d_method_7_code_102 rfl (by simp) ⟨rfl, rfl⟩ (Nat.le_of_ble_eq_true rfl) (Nat.le_of_ble_eq_true rfl)
                    · exact absurd l5 (by decide)
                  · exact absurd l4 (by decide)
                · exact absurd l3 (by decide)

set_option maxRecDepth 65536 in
set_option maxHeartbeats 4000000 in
theorem M_same4 {Γ : Gx} (hw : Words Γ) (r va : Addr) (v0 v1 v2 v3 v4 v5 : Int32) :
    Met Γ (⟨"com/example/delta_mirror/deltamirror/rrdp/Base64BinaryFinishPinLaw", "same", "([B[II)Z"⟩ : MethodName) method_7_code 3 (some .boolean) ({ frames := 0, cells := 0, slots := 0, locals := 0 } : Room) #[(.ref r), (.ref va), (.int (4 : Nat).toInt32)] [(r, true, BA Γ ((byt v0 v1 v2 v3 v4 v5 4).map Value.int)), (va, true, Ary Γ "[I" .int [.int v0, .int v1, .int v2, .int v3, .int v4, .int v5])] (fun v O' => v = some (.int 1) ∧ O' = [(r, true, BA Γ ((byt v0 v1 v2 v3 v4 v5 4).map Value.int)), (va, true, Ary Γ "[I" .int [.int v0, .int v1, .int v2, .int v3, .int v4, .int v5])]) := by
  refine Met.intro pn_com_example_delta_mirror_deltamirror_rrdp_Base64BinaryFinishPinLaw (Ls := [.val (.ref r), .val (.ref va), .val (.int (4 : Nat).toInt32)]) (fun m => by first | rfl | (simp [entryFrame, mkF, argsToLocals, Value.category]; done)) ?_
  intro F
  show Run Γ _ 0 0 [(r, true, BA Γ [.int (b8 v0), .int (b8 v1), .int (b8 v2), .int (b8 v3)]), (va, true, Ary Γ "[I" .int [.int v0, .int v1, .int v2, .int v3, .int v4, .int v5])] 0 _ _
  refine R_aloadN d_method_7_code_0 rfl rfl ?_
  refine R_arraylength d_method_7_code_1 (mem 0 rfl) (4 : Nat).toInt32 rfl ?_
  refine R_iloadN d_method_7_code_2 rfl ?_
  refine R_icmp_ne (pc' := 101) d_method_7_code_3 (by decide) (by decide) (fun h => ?_) (fun h => ?_)
  · exact absurd rfl h
  · refine R_iloadN d_method_7_code_6 rfl ?_
    refine R_iconst (1) d_method_7_code_7 (by decide) ?_
    refine R_icmp_lt (pc' := 21) d_method_7_code_8 (by decide) (by decide) (fun l0 => ?_) (fun l0 => ?_)
    · exact absurd l0 (by decide)
    · refine R_aloadN d_method_7_code_11 rfl rfl ?_
      refine R_iconst (0) d_method_7_code_12 (by decide) ?_
      refine R_baload d_method_7_code_13 (mem 0 rfl) (by decide) 0 rfl rfl ?_
      refine R_aloadN d_method_7_code_14 rfl rfl ?_
      refine R_iconst (0) d_method_7_code_15 (by decide) ?_
      refine R_iaload d_method_7_code_16 (mem 1 rfl) (by decide) 0 rfl rfl ?_
      refine R_i2b d_method_7_code_17 ?_
      refine R_icmp_ne (pc' := 101) d_method_7_code_18 (by decide) (by decide) (fun e0 => ?_) (fun e0 => ?_)
      · exact absurd rfl e0
      · refine R_iloadN d_method_7_code_21 rfl ?_
        refine R_iconst (2) d_method_7_code_22 (by decide) ?_
        refine R_icmp_lt (pc' := 36) d_method_7_code_23 (by decide) (by decide) (fun l1 => ?_) (fun l1 => ?_)
        · exact absurd l1 (by decide)
        · refine R_aloadN d_method_7_code_26 rfl rfl ?_
          refine R_iconst (1) d_method_7_code_27 (by decide) ?_
          refine R_baload d_method_7_code_28 (mem 0 rfl) (by decide) 1 rfl rfl ?_
          refine R_aloadN d_method_7_code_29 rfl rfl ?_
          refine R_iconst (1) d_method_7_code_30 (by decide) ?_
          refine R_iaload d_method_7_code_31 (mem 1 rfl) (by decide) 1 rfl rfl ?_
          refine R_i2b d_method_7_code_32 ?_
          refine R_icmp_ne (pc' := 101) d_method_7_code_33 (by decide) (by decide) (fun e1 => ?_) (fun e1 => ?_)
          · exact absurd rfl e1
          · refine R_iloadN d_method_7_code_36 rfl ?_
            refine R_iconst (3) d_method_7_code_37 (by decide) ?_
            refine R_icmp_lt (pc' := 51) d_method_7_code_38 (by decide) (by decide) (fun l2 => ?_) (fun l2 => ?_)
            · exact absurd l2 (by decide)
            · refine R_aloadN d_method_7_code_41 rfl rfl ?_
              refine R_iconst (2) d_method_7_code_42 (by decide) ?_
              refine R_baload d_method_7_code_43 (mem 0 rfl) (by decide) 2 rfl rfl ?_
              refine R_aloadN d_method_7_code_44 rfl rfl ?_
              refine R_iconst (2) d_method_7_code_45 (by decide) ?_
              refine R_iaload d_method_7_code_46 (mem 1 rfl) (by decide) 2 rfl rfl ?_
              refine R_i2b d_method_7_code_47 ?_
              refine R_icmp_ne (pc' := 101) d_method_7_code_48 (by decide) (by decide) (fun e2 => ?_) (fun e2 => ?_)
              · exact absurd rfl e2
              · refine R_iloadN d_method_7_code_51 rfl ?_
                refine R_iconst (4) d_method_7_code_52 (by decide) ?_
                refine R_icmp_lt (pc' := 66) d_method_7_code_53 (by decide) (by decide) (fun l3 => ?_) (fun l3 => ?_)
                · exact absurd l3 (by decide)
                · refine R_aloadN d_method_7_code_56 rfl rfl ?_
                  refine R_iconst (3) d_method_7_code_57 (by decide) ?_
                  refine R_baload d_method_7_code_58 (mem 0 rfl) (by decide) 3 rfl rfl ?_
                  refine R_aloadN d_method_7_code_59 rfl rfl ?_
                  refine R_iconst (3) d_method_7_code_60 (by decide) ?_
                  refine R_iaload d_method_7_code_61 (mem 1 rfl) (by decide) 3 rfl rfl ?_
                  refine R_i2b d_method_7_code_62 ?_
                  refine R_icmp_ne (pc' := 101) d_method_7_code_63 (by decide) (by decide) (fun e3 => ?_) (fun e3 => ?_)
                  · exact absurd rfl e3
                  · refine R_iloadN d_method_7_code_66 rfl ?_
                    refine R_iconst (5) d_method_7_code_67 (by decide) ?_
                    refine R_icmp_lt (pc' := 81) d_method_7_code_68 (by decide) (by decide) (fun l4 => ?_) (fun l4 => ?_)
                    · refine R_iloadN d_method_7_code_81 rfl ?_
                      refine R_bipush (6) d_method_7_code_82 (by decide) ?_
                      refine R_icmp_lt (pc' := 97) d_method_7_code_84 (by decide) (by decide) (fun l5 => ?_) (fun l5 => ?_)
                      · refine R_iconst (1) d_method_7_code_97 (by decide) ?_
                        refine R_goto (pc' := 102) d_method_7_code_98 (by decide) (by decide) ?_
                        exact R_ireturnN d_method_7_code_102 rfl (by simp) ⟨rfl, rfl⟩ (Nat.le_of_ble_eq_true rfl) (Nat.le_of_ble_eq_true rfl)
                      · exact absurd l5 (by decide)
                    · exact absurd l4 (by decide)

set_option maxRecDepth 65536 in
set_option maxHeartbeats 4000000 in
theorem M_same5 {Γ : Gx} (hw : Words Γ) (r va : Addr) (v0 v1 v2 v3 v4 v5 : Int32) :
    Met Γ (⟨"com/example/delta_mirror/deltamirror/rrdp/Base64BinaryFinishPinLaw", "same", "([B[II)Z"⟩ : MethodName) method_7_code 3 (some .boolean) ({ frames := 0, cells := 0, slots := 0, locals := 0 } : Room) #[(.ref r), (.ref va), (.int (5 : Nat).toInt32)] [(r, true, BA Γ ((byt v0 v1 v2 v3 v4 v5 5).map Value.int)), (va, true, Ary Γ "[I" .int [.int v0, .int v1, .int v2, .int v3, .int v4, .int v5])] (fun v O' => v = some (.int 1) ∧ O' = [(r, true, BA Γ ((byt v0 v1 v2 v3 v4 v5 5).map Value.int)), (va, true, Ary Γ "[I" .int [.int v0, .int v1, .int v2, .int v3, .int v4, .int v5])]) := by
  refine Met.intro pn_com_example_delta_mirror_deltamirror_rrdp_Base64BinaryFinishPinLaw (Ls := [.val (.ref r), .val (.ref va), .val (.int (5 : Nat).toInt32)]) (fun m => by first | rfl | (simp [entryFrame, mkF, argsToLocals, Value.category]; done)) ?_
  intro F
  show Run Γ _ 0 0 [(r, true, BA Γ [.int (b8 v0), .int (b8 v1), .int (b8 v2), .int (b8 v3), .int (b8 v4)]), (va, true, Ary Γ "[I" .int [.int v0, .int v1, .int v2, .int v3, .int v4, .int v5])] 0 _ _
  refine R_aloadN d_method_7_code_0 rfl rfl ?_
  refine R_arraylength d_method_7_code_1 (mem 0 rfl) (5 : Nat).toInt32 rfl ?_
  refine R_iloadN d_method_7_code_2 rfl ?_
  refine R_icmp_ne (pc' := 101) d_method_7_code_3 (by decide) (by decide) (fun h => ?_) (fun h => ?_)
  · exact absurd rfl h
  · refine R_iloadN d_method_7_code_6 rfl ?_
    refine R_iconst (1) d_method_7_code_7 (by decide) ?_
    refine R_icmp_lt (pc' := 21) d_method_7_code_8 (by decide) (by decide) (fun l0 => ?_) (fun l0 => ?_)
    · exact absurd l0 (by decide)
    · refine R_aloadN d_method_7_code_11 rfl rfl ?_
      refine R_iconst (0) d_method_7_code_12 (by decide) ?_
      refine R_baload d_method_7_code_13 (mem 0 rfl) (by decide) 0 rfl rfl ?_
      refine R_aloadN d_method_7_code_14 rfl rfl ?_
      refine R_iconst (0) d_method_7_code_15 (by decide) ?_
      refine R_iaload d_method_7_code_16 (mem 1 rfl) (by decide) 0 rfl rfl ?_
      refine R_i2b d_method_7_code_17 ?_
      refine R_icmp_ne (pc' := 101) d_method_7_code_18 (by decide) (by decide) (fun e0 => ?_) (fun e0 => ?_)
      · exact absurd rfl e0
      · refine R_iloadN d_method_7_code_21 rfl ?_
        refine R_iconst (2) d_method_7_code_22 (by decide) ?_
        refine R_icmp_lt (pc' := 36) d_method_7_code_23 (by decide) (by decide) (fun l1 => ?_) (fun l1 => ?_)
        · exact absurd l1 (by decide)
        · refine R_aloadN d_method_7_code_26 rfl rfl ?_
          refine R_iconst (1) d_method_7_code_27 (by decide) ?_
          refine R_baload d_method_7_code_28 (mem 0 rfl) (by decide) 1 rfl rfl ?_
          refine R_aloadN d_method_7_code_29 rfl rfl ?_
          refine R_iconst (1) d_method_7_code_30 (by decide) ?_
          refine R_iaload d_method_7_code_31 (mem 1 rfl) (by decide) 1 rfl rfl ?_
          refine R_i2b d_method_7_code_32 ?_
          refine R_icmp_ne (pc' := 101) d_method_7_code_33 (by decide) (by decide) (fun e1 => ?_) (fun e1 => ?_)
          · exact absurd rfl e1
          · refine R_iloadN d_method_7_code_36 rfl ?_
            refine R_iconst (3) d_method_7_code_37 (by decide) ?_
            refine R_icmp_lt (pc' := 51) d_method_7_code_38 (by decide) (by decide) (fun l2 => ?_) (fun l2 => ?_)
            · exact absurd l2 (by decide)
            · refine R_aloadN d_method_7_code_41 rfl rfl ?_
              refine R_iconst (2) d_method_7_code_42 (by decide) ?_
              refine R_baload d_method_7_code_43 (mem 0 rfl) (by decide) 2 rfl rfl ?_
              refine R_aloadN d_method_7_code_44 rfl rfl ?_
              refine R_iconst (2) d_method_7_code_45 (by decide) ?_
              refine R_iaload d_method_7_code_46 (mem 1 rfl) (by decide) 2 rfl rfl ?_
              refine R_i2b d_method_7_code_47 ?_
              refine R_icmp_ne (pc' := 101) d_method_7_code_48 (by decide) (by decide) (fun e2 => ?_) (fun e2 => ?_)
              · exact absurd rfl e2
              · refine R_iloadN d_method_7_code_51 rfl ?_
                refine R_iconst (4) d_method_7_code_52 (by decide) ?_
                refine R_icmp_lt (pc' := 66) d_method_7_code_53 (by decide) (by decide) (fun l3 => ?_) (fun l3 => ?_)
                · exact absurd l3 (by decide)
                · refine R_aloadN d_method_7_code_56 rfl rfl ?_
                  refine R_iconst (3) d_method_7_code_57 (by decide) ?_
                  refine R_baload d_method_7_code_58 (mem 0 rfl) (by decide) 3 rfl rfl ?_
                  refine R_aloadN d_method_7_code_59 rfl rfl ?_
                  refine R_iconst (3) d_method_7_code_60 (by decide) ?_
                  refine R_iaload d_method_7_code_61 (mem 1 rfl) (by decide) 3 rfl rfl ?_
                  refine R_i2b d_method_7_code_62 ?_
                  refine R_icmp_ne (pc' := 101) d_method_7_code_63 (by decide) (by decide) (fun e3 => ?_) (fun e3 => ?_)
                  · exact absurd rfl e3
                  · refine R_iloadN d_method_7_code_66 rfl ?_
                    refine R_iconst (5) d_method_7_code_67 (by decide) ?_
                    refine R_icmp_lt (pc' := 81) d_method_7_code_68 (by decide) (by decide) (fun l4 => ?_) (fun l4 => ?_)
                    · exact absurd l4 (by decide)
                    · refine R_aloadN d_method_7_code_71 rfl rfl ?_
                      refine R_iconst (4) d_method_7_code_72 (by decide) ?_
                      refine R_baload d_method_7_code_73 (mem 0 rfl) (by decide) 4 rfl rfl ?_
                      refine R_aloadN d_method_7_code_74 rfl rfl ?_
                      refine R_iconst (4) d_method_7_code_75 (by decide) ?_
                      refine R_iaload d_method_7_code_76 (mem 1 rfl) (by decide) 4 rfl rfl ?_
                      refine R_i2b d_method_7_code_77 ?_
                      refine R_icmp_ne (pc' := 101) d_method_7_code_78 (by decide) (by decide) (fun e4 => ?_) (fun e4 => ?_)
                      · exact absurd rfl e4
                      · refine R_iloadN d_method_7_code_81 rfl ?_
                        refine R_bipush (6) d_method_7_code_82 (by decide) ?_
                        refine R_icmp_lt (pc' := 97) d_method_7_code_84 (by decide) (by decide) (fun l5 => ?_) (fun l5 => ?_)
                        · refine R_iconst (1) d_method_7_code_97 (by decide) ?_
                          refine R_goto (pc' := 102) d_method_7_code_98 (by decide) (by decide) ?_
                          exact R_ireturnN d_method_7_code_102 rfl (by simp) ⟨rfl, rfl⟩ (Nat.le_of_ble_eq_true rfl) (Nat.le_of_ble_eq_true rfl)
                        · exact absurd l5 (by decide)

set_option maxRecDepth 65536 in
set_option maxHeartbeats 4000000 in
theorem M_same6 {Γ : Gx} (hw : Words Γ) (r va : Addr) (v0 v1 v2 v3 v4 v5 : Int32) :
    Met Γ (⟨"com/example/delta_mirror/deltamirror/rrdp/Base64BinaryFinishPinLaw", "same", "([B[II)Z"⟩ : MethodName) method_7_code 3 (some .boolean) ({ frames := 0, cells := 0, slots := 0, locals := 0 } : Room) #[(.ref r), (.ref va), (.int (6 : Nat).toInt32)] [(r, true, BA Γ ((byt v0 v1 v2 v3 v4 v5 6).map Value.int)), (va, true, Ary Γ "[I" .int [.int v0, .int v1, .int v2, .int v3, .int v4, .int v5])] (fun v O' => v = some (.int 1) ∧ O' = [(r, true, BA Γ ((byt v0 v1 v2 v3 v4 v5 6).map Value.int)), (va, true, Ary Γ "[I" .int [.int v0, .int v1, .int v2, .int v3, .int v4, .int v5])]) := by
  refine Met.intro pn_com_example_delta_mirror_deltamirror_rrdp_Base64BinaryFinishPinLaw (Ls := [.val (.ref r), .val (.ref va), .val (.int (6 : Nat).toInt32)]) (fun m => by first | rfl | (simp [entryFrame, mkF, argsToLocals, Value.category]; done)) ?_
  intro F
  show Run Γ _ 0 0 [(r, true, BA Γ [.int (b8 v0), .int (b8 v1), .int (b8 v2), .int (b8 v3), .int (b8 v4), .int (b8 v5)]), (va, true, Ary Γ "[I" .int [.int v0, .int v1, .int v2, .int v3, .int v4, .int v5])] 0 _ _
  refine R_aloadN d_method_7_code_0 rfl rfl ?_
  refine R_arraylength d_method_7_code_1 (mem 0 rfl) (6 : Nat).toInt32 rfl ?_
  refine R_iloadN d_method_7_code_2 rfl ?_
  refine R_icmp_ne (pc' := 101) d_method_7_code_3 (by decide) (by decide) (fun h => ?_) (fun h => ?_)
  · exact absurd rfl h
  · refine R_iloadN d_method_7_code_6 rfl ?_
    refine R_iconst (1) d_method_7_code_7 (by decide) ?_
    refine R_icmp_lt (pc' := 21) d_method_7_code_8 (by decide) (by decide) (fun l0 => ?_) (fun l0 => ?_)
    · exact absurd l0 (by decide)
    · refine R_aloadN d_method_7_code_11 rfl rfl ?_
      refine R_iconst (0) d_method_7_code_12 (by decide) ?_
      refine R_baload d_method_7_code_13 (mem 0 rfl) (by decide) 0 rfl rfl ?_
      refine R_aloadN d_method_7_code_14 rfl rfl ?_
      refine R_iconst (0) d_method_7_code_15 (by decide) ?_
      refine R_iaload d_method_7_code_16 (mem 1 rfl) (by decide) 0 rfl rfl ?_
      refine R_i2b d_method_7_code_17 ?_
      refine R_icmp_ne (pc' := 101) d_method_7_code_18 (by decide) (by decide) (fun e0 => ?_) (fun e0 => ?_)
      · exact absurd rfl e0
      · refine R_iloadN d_method_7_code_21 rfl ?_
        refine R_iconst (2) d_method_7_code_22 (by decide) ?_
        refine R_icmp_lt (pc' := 36) d_method_7_code_23 (by decide) (by decide) (fun l1 => ?_) (fun l1 => ?_)
        · exact absurd l1 (by decide)
        · refine R_aloadN d_method_7_code_26 rfl rfl ?_
          refine R_iconst (1) d_method_7_code_27 (by decide) ?_
          refine R_baload d_method_7_code_28 (mem 0 rfl) (by decide) 1 rfl rfl ?_
          refine R_aloadN d_method_7_code_29 rfl rfl ?_
          refine R_iconst (1) d_method_7_code_30 (by decide) ?_
          refine R_iaload d_method_7_code_31 (mem 1 rfl) (by decide) 1 rfl rfl ?_
          refine R_i2b d_method_7_code_32 ?_
          refine R_icmp_ne (pc' := 101) d_method_7_code_33 (by decide) (by decide) (fun e1 => ?_) (fun e1 => ?_)
          · exact absurd rfl e1
          · refine R_iloadN d_method_7_code_36 rfl ?_
            refine R_iconst (3) d_method_7_code_37 (by decide) ?_
            refine R_icmp_lt (pc' := 51) d_method_7_code_38 (by decide) (by decide) (fun l2 => ?_) (fun l2 => ?_)
            · exact absurd l2 (by decide)
            · refine R_aloadN d_method_7_code_41 rfl rfl ?_
              refine R_iconst (2) d_method_7_code_42 (by decide) ?_
              refine R_baload d_method_7_code_43 (mem 0 rfl) (by decide) 2 rfl rfl ?_
              refine R_aloadN d_method_7_code_44 rfl rfl ?_
              refine R_iconst (2) d_method_7_code_45 (by decide) ?_
              refine R_iaload d_method_7_code_46 (mem 1 rfl) (by decide) 2 rfl rfl ?_
              refine R_i2b d_method_7_code_47 ?_
              refine R_icmp_ne (pc' := 101) d_method_7_code_48 (by decide) (by decide) (fun e2 => ?_) (fun e2 => ?_)
              · exact absurd rfl e2
              · refine R_iloadN d_method_7_code_51 rfl ?_
                refine R_iconst (4) d_method_7_code_52 (by decide) ?_
                refine R_icmp_lt (pc' := 66) d_method_7_code_53 (by decide) (by decide) (fun l3 => ?_) (fun l3 => ?_)
                · exact absurd l3 (by decide)
                · refine R_aloadN d_method_7_code_56 rfl rfl ?_
                  refine R_iconst (3) d_method_7_code_57 (by decide) ?_
                  refine R_baload d_method_7_code_58 (mem 0 rfl) (by decide) 3 rfl rfl ?_
                  refine R_aloadN d_method_7_code_59 rfl rfl ?_
                  refine R_iconst (3) d_method_7_code_60 (by decide) ?_
                  refine R_iaload d_method_7_code_61 (mem 1 rfl) (by decide) 3 rfl rfl ?_
                  refine R_i2b d_method_7_code_62 ?_
                  refine R_icmp_ne (pc' := 101) d_method_7_code_63 (by decide) (by decide) (fun e3 => ?_) (fun e3 => ?_)
                  · exact absurd rfl e3
                  · refine R_iloadN d_method_7_code_66 rfl ?_
                    refine R_iconst (5) d_method_7_code_67 (by decide) ?_
                    refine R_icmp_lt (pc' := 81) d_method_7_code_68 (by decide) (by decide) (fun l4 => ?_) (fun l4 => ?_)
                    · exact absurd l4 (by decide)
                    · refine R_aloadN d_method_7_code_71 rfl rfl ?_
                      refine R_iconst (4) d_method_7_code_72 (by decide) ?_
                      refine R_baload d_method_7_code_73 (mem 0 rfl) (by decide) 4 rfl rfl ?_
                      refine R_aloadN d_method_7_code_74 rfl rfl ?_
                      refine R_iconst (4) d_method_7_code_75 (by decide) ?_
                      refine R_iaload d_method_7_code_76 (mem 1 rfl) (by decide) 4 rfl rfl ?_
                      refine R_i2b d_method_7_code_77 ?_
                      refine R_icmp_ne (pc' := 101) d_method_7_code_78 (by decide) (by decide) (fun e4 => ?_) (fun e4 => ?_)
                      · exact absurd rfl e4
                      · refine R_iloadN d_method_7_code_81 rfl ?_
                        refine R_bipush (6) d_method_7_code_82 (by decide) ?_
                        refine R_icmp_lt (pc' := 97) d_method_7_code_84 (by decide) (by decide) (fun l5 => ?_) (fun l5 => ?_)
                        · exact absurd l5 (by decide)
                        · refine R_aloadN d_method_7_code_87 rfl rfl ?_
                          refine R_iconst (5) d_method_7_code_88 (by decide) ?_
                          refine R_baload d_method_7_code_89 (mem 0 rfl) (by decide) 5 rfl rfl ?_
                          refine R_aloadN d_method_7_code_90 rfl rfl ?_
                          refine R_iconst (5) d_method_7_code_91 (by decide) ?_
                          refine R_iaload d_method_7_code_92 (mem 1 rfl) (by decide) 5 rfl rfl ?_
                          refine R_i2b d_method_7_code_93 ?_
                          refine R_icmp_ne (pc' := 101) d_method_7_code_94 (by decide) (by decide) (fun e5 => ?_) (fun e5 => ?_)
                          · exact absurd rfl e5
                          · refine R_iconst (1) d_method_7_code_97 (by decide) ?_
                            refine R_goto (pc' := 102) d_method_7_code_98 (by decide) (by decide) ?_
                            exact R_ireturnN d_method_7_code_102 rfl (by simp) ⟨rfl, rfl⟩ (Nat.le_of_ble_eq_true rfl) (Nat.le_of_ble_eq_true rfl)

theorem M_same {Γ : Gx} (hw : Words Γ) (r va : Addr) (v0 v1 v2 v3 v4 v5 : Int32) (n : Nat) (hn : n ≤ 6) :
    Met Γ (⟨"com/example/delta_mirror/deltamirror/rrdp/Base64BinaryFinishPinLaw", "same", "([B[II)Z"⟩ : MethodName) method_7_code 3 (some .boolean) ({ frames := 0, cells := 0, slots := 0, locals := 0 } : Room) #[(.ref r), (.ref va), (.int n.toInt32)] [(r, true, BA Γ ((byt v0 v1 v2 v3 v4 v5 n).map Value.int)), (va, true, Ary Γ "[I" .int [.int v0, .int v1, .int v2, .int v3, .int v4, .int v5])] (fun v O' => v = some (.int 1) ∧ O' = [(r, true, BA Γ ((byt v0 v1 v2 v3 v4 v5 n).map Value.int)), (va, true, Ary Γ "[I" .int [.int v0, .int v1, .int v2, .int v3, .int v4, .int v5])]) := by
  rcases n7 hn with rfl | rfl | rfl | rfl | rfl | rfl | rfl
  · exact M_same0 hw r va v0 v1 v2 v3 v4 v5
  · exact M_same1 hw r va v0 v1 v2 v3 v4 v5
  · exact M_same2 hw r va v0 v1 v2 v3 v4 v5
  · exact M_same3 hw r va v0 v1 v2 v3 v4 v5
  · exact M_same4 hw r va v0 v1 v2 v3 v4 v5
  · exact M_same5 hw r va v0 v1 v2 v3 v4 v5
  · exact M_same6 hw r va v0 v1 v2 v3 v4 v5

-- CUT
theorem pd_oaIIcaC : parseMethodDescriptor "([II)[C" = some ⟨[(.array .int), .int], some (.array .char)⟩ := by decide +kernel
theorem laid_com_example_delta_mirror_deltamirror_rrdp_Base64Binary {Γ : Gx} (hw : Words Γ) : ∀ f ∈ ([("com/example/delta_mirror/deltamirror/rrdp/Base64Binary", "run", "[B", .null), ("com/example/delta_mirror/deltamirror/rrdp/Base64Binary", "runBytes", "[B", .null), ("com/example/delta_mirror/deltamirror/rrdp/Base64Binary", "decoded", "[B", .null), ("com/example/delta_mirror/deltamirror/rrdp/Base64Binary", "maxBytes", "I", (.int 0)), ("com/example/delta_mirror/deltamirror/rrdp/Base64Binary", "runLength", "I", (.int 0)), ("com/example/delta_mirror/deltamirror/rrdp/Base64Binary", "decodedLength", "I", (.int 0))] : List Fd), Laid Γ.Z Γ.a0 "com/example/delta_mirror/deltamirror/rrdp/Base64Binary" f.1 f.2.1 f.2.2.1 ∧ ∃ ty, parseFieldDescriptor f.2.2.1 = some ty ∧ f.2.2.2 = defaultValue ty := (llS (Or.inr (hw _ (mem 33 rfl))) (ty := (.array .byte)) (by decide) rfl (llS (Or.inr (hw _ (mem 35 rfl))) (ty := (.array .byte)) (by decide) rfl (llS (Or.inl (hw _ (mem 37 rfl))) (ty := (.array .byte)) (by decide) rfl (llS (Or.inr (hw _ (mem 39 rfl))) (ty := .int) (by decide) rfl (llS (Or.inl (hw _ (mem 46 rfl))) (ty := .int) (by decide) rfl (llS (Or.inl (hw _ (mem 142 rfl))) (ty := .int) (by decide) rfl ll0))))))
theorem pd_oIcV : parseMethodDescriptor "(I)V" = some ⟨[.int], none⟩ := by decide +kernel
theorem pd_oaCIIcV : parseMethodDescriptor "([CII)V" = some ⟨[(.array .char), .int, .int], none⟩ := by decide +kernel
theorem pd_ocaB : parseMethodDescriptor "()[B" = some ⟨[], some (.array .byte)⟩ := by decide +kernel
theorem pd_oaBaIIcZ : parseMethodDescriptor "([B[II)Z" = some ⟨[(.array .byte), (.array .int), .int], some .boolean⟩ := by decide +kernel
set_option maxRecDepth 65536 in
set_option maxHeartbeats 4000000 in
theorem L_184 {Γ : Gx} (hw : Words Γ) (hcs : CS Γ) (hG : Lits Γ) (ta dc : Addr) (hD : D64 Γ ta dc) (p0 p1 p2 p3 p4 v0 v1 v2 v3 v4 v5 : Int32) (b0 : B8 v0) (b1 : B8 v1) (b2 : B8 v2) (b3 : B8 v3) (b4 : B8 v4) (b5 : B8 v5) (va : Addr) (n : Nat) (hn : n ≤ 6) (m : Nat) (hm : m ≤ 6) (t1 t2 ws : Addr) (s : Nat) (hs : s ≤ tl n) (ch : Int32) (hcw : nws ch = false) (hc7 : A7 ch) (w14 : Int32) (F : OL) :
    Run Γ (x, code, maxLocals, ret, room_1, (fun v O' => v = some (.int 1)), F) 4 23 [(va, true, Ary Γ "[I" .int [.int v0, .int v1, .int v2, .int v3, .int v4, .int v5]), (t1, true, Ary Γ "[C" .char ((txt v0 v1 v2 v3 v4 v5 n).map Value.int)), (t2, true, Ary Γ "[C" .char ((txt v0 v1 v2 v3 v4 v5 m).map Value.int)), (ws, true, Ary Γ "[C" .char [.int ch])] 184 [.val (.int p0), .val (.int p1), .val (.int p2), .val (.int p3), .val (.int p4), .val (.ref va), .val (.int n.toInt32), .val (.int m.toInt32), .val (.ref t1), .val (.ref t2), .val (.int (tl n).toInt32), .val (.int (tl m).toInt32), .val (.int s.toInt32), .val (.ref ws), .val (.int w14), .unset, .unset, .unset, .unset] [] := by
  have hT1 := txt_len v0 v1 v2 v3 v4 v5 n hn
  have hT2 := txt_len v0 v1 v2 v3 v4 v5 m hm
  have htn := tl_le n
  have htm := tl_le m
  refine R_iload at_184 rfl ?_
  refine R_iload at_186 rfl ?_
  refine R_call (S_static (as := [_, _]) (rest := _) at_188 (hw _ (mem 19 rfl)) (hw _ (mem 20 rfl)) (hw _ (mem 8 rfl)) (hw _ (mem 21 rfl)) (by decide) pd_oIIcI rfl rfl rfl) (M_max hw n m (by omega) (by omega)) pk0 (hw _ (mem 21 rfl)) (hw _ (mem 8 rfl)) (Nat.le_of_ble_eq_true rfl) (Nat.le_of_ble_eq_true rfl) (Nat.le_of_ble_eq_true rfl) (Nat.le_of_ble_eq_true rfl) ?_
  rintro _ _ ⟨rfl, rfl⟩
  try dsimp only [List.set_cons_zero, List.set_cons_succ, List.eraseIdx_cons_zero, List.eraseIdx_cons_succ, List.cons_append, List.nil_append, Option.toList]
  refine R_iloadN at_191 rfl ?_
  refine R_iconst (2) at_192 (by decide) ?_
  refine R_iushr at_193 ?_
  refine R_bipush (15) at_194 (by decide) ?_
  refine R_iand at_196 ?_
  obtain ⟨q, hq, eq⟩ := m15 (XT.ushr p3 2)
  rw [eq]
  refine R_iadd at_197 ?_
  rw [i32_add]
  have hMn : n ≤ max n m + q := by omega
  have hMm : m ≤ max n m + q := by omega
  have hM2 : max n m + q ≤ 23 := by omega
  generalize max n m + q = M at hMn hMm hM2 ⊢
  refine R_istore at_198 rfl (by first | exact Or.inl rfl | exact Or.inr ⟨_, rfl, rfl⟩) ?_
  try dsimp only [List.set_cons_zero, List.set_cons_succ, List.eraseIdx_cons_zero, List.eraseIdx_cons_succ, List.cons_append, List.nil_append, Option.toList]
  refine R_new _ at_200 (hw _ (mem 22 rfl)) (hw _ (mem 23 rfl)) (hw _ (mem 24 rfl)) (laid_com_example_delta_mirror_deltamirror_rrdp_Base64Binary hw) (Nat.le_of_ble_eq_true rfl) (Nat.le_of_ble_eq_true rfl) fun o => ?_
  refine R_dup at_203 rfl ?_
  refine R_iload at_204 rfl ?_
  refine R_call (S_special (as := [_]) (rest := _) at_206 rfl (hw _ (mem 25 rfl)) (hw _ (mem 26 rfl)) (hw _ (mem 27 rfl)) (by decide) pd_oIcV rfl rfl rfl) (M_bb hw o M.toInt32) (pkS 0 rfl pk0) (hw _ (mem 27 rfl)) (hw _ (mem 24 rfl)) (Nat.le_of_ble_eq_true rfl) (Nat.le_of_ble_eq_true rfl) (Nat.le_of_ble_eq_true rfl) (Nat.le_of_ble_eq_true rfl) ?_
  rintro _ _ ⟨rn, rb, de, rfl, rfl⟩
  try dsimp only [List.set_cons_zero, List.set_cons_succ, List.eraseIdx_cons_zero, List.eraseIdx_cons_succ, List.cons_append, List.nil_append, Option.toList]
  refine R_astore at_209 rfl rfl (by first | exact Or.inl rfl | exact Or.inr ⟨_, rfl, rfl⟩) ?_
  try dsimp only [List.set_cons_zero, List.set_cons_succ, List.eraseIdx_cons_zero, List.eraseIdx_cons_succ, List.cons_append, List.nil_append, Option.toList]
  refine R_aload at_211 rfl rfl ?_
  refine R_aload at_213 rfl rfl ?_
  refine R_iconst (0) at_215 (by decide) ?_
  refine R_iload at_216 rfl ?_
  have a1 : ∀ i, (hi : i < (txt v0 v1 v2 v3 v4 v5 n).length) → A7 ((txt v0 v1 v2 v3 v4 v5 n)[i]) := fun i hi => txt_a7 b0 b1 b2 b3 b4 b5 n hn _ (List.getElem_mem hi)
  have a2 : ∀ i, (hi : i < (txt v0 v1 v2 v3 v4 v5 m).length) → A7 ((txt v0 v1 v2 v3 v4 v5 m)[i]) := fun i hi => txt_a7 b0 b1 b2 b3 b4 b5 m hm _ (List.getElem_mem hi)
  refine R_call (S_virtual (as := [_, _, _]) (rest := _) (mem 0 rfl) at_218 (hw _ (mem 40 rfl)) (hw _ (mem 41 rfl)) (nf_sel (hw _ (mem 43 rfl))) (hw _ (mem 43 rfl)) (hw _ (mem 42 rfl)) (by decide) pd_oaCIIcV rfl rfl rfl) (M_app hw o rn rb de t1 true "[C" M.toInt32 0 (txt v0 v1 v2 v3 v4 v5 n) [] 0 s (List.replicate 4096 (Value.int 0)) (by simp) (by omega) (by omega) (fun i h1 h2 hi => a1 i hi) (by simp; omega)) (pkS 0 rfl (pkS 0 rfl (pkS 3 rfl pk0))) (hw _ (mem 44 rfl)) (hw _ (mem 24 rfl)) (Nat.le_of_ble_eq_true rfl) (Nat.le_of_ble_eq_true rfl) (Nat.le_of_ble_eq_true rfl) (Nat.le_of_ble_eq_true rfl) ?_
  rintro _ _ ⟨X1, rfl, hX1, rfl⟩
  try dsimp only [List.set_cons_zero, List.set_cons_succ, List.eraseIdx_cons_zero, List.eraseIdx_cons_succ, List.cons_append, List.nil_append, Option.toList]
  rw [List.nil_append, List.drop_zero] at hX1
  rw [List.drop_zero]
  generalize hC1 : List.filter nws (List.take s (txt v0 v1 v2 v3 v4 v5 n)) = C1 at hX1 ⊢
  have hC1l : C1.length ≤ 8 := by rw [← hC1]; exact Nat.le_trans (List.length_filter_le _ _) (by simp; omega)
  refine R_aload at_221 rfl rfl ?_
  refine R_aload at_223 rfl rfl ?_
  refine R_iconst (0) at_225 (by decide) ?_
  refine R_iconst (1) at_226 (by decide) ?_
  refine R_call (S_virtual (as := [_, _, _]) (rest := _) (mem 0 rfl) at_227 (hw _ (mem 40 rfl)) (hw _ (mem 41 rfl)) (nf_sel (hw _ (mem 43 rfl))) (hw _ (mem 43 rfl)) (hw _ (mem 42 rfl)) (by decide) pd_oaCIIcV rfl rfl rfl) (M_app hw o rn rb de ws true "[C" M.toInt32 0 [ch] C1 0 1 X1 hX1 (by simp) (by simp) (fun i h1 h2 hi => by obtain rfl : i = 0 := (by omega); exact hc7) (by omega)) (pkS 0 rfl (pkS 0 rfl (pkS 5 rfl pk0))) (hw _ (mem 44 rfl)) (hw _ (mem 24 rfl)) (Nat.le_of_ble_eq_true rfl) (Nat.le_of_ble_eq_true rfl) (Nat.le_of_ble_eq_true rfl) (Nat.le_of_ble_eq_true rfl) ?_
  rintro _ _ ⟨X2, rfl, hX2, rfl⟩
  try dsimp only [List.set_cons_zero, List.set_cons_succ, List.eraseIdx_cons_zero, List.eraseIdx_cons_succ, List.cons_append, List.nil_append, Option.toList]
  have hF2 : C1 ++ List.filter nws (List.take 1 (List.drop 0 [ch])) = C1 := by simp [hcw]
  rw [hF2] at hX2 ⊢
  refine R_aload at_230 rfl rfl ?_
  refine R_aload at_232 rfl rfl ?_
  refine R_iload at_234 rfl ?_
  refine R_iload at_236 rfl ?_
  refine R_iload at_238 rfl ?_
  refine R_isub at_240 ?_
  rw [i32_sub hs]
  refine R_call (S_virtual (as := [_, _, _]) (rest := _) (mem 0 rfl) at_241 (hw _ (mem 40 rfl)) (hw _ (mem 41 rfl)) (nf_sel (hw _ (mem 43 rfl))) (hw _ (mem 43 rfl)) (hw _ (mem 42 rfl)) (by decide) pd_oaCIIcV rfl rfl rfl) (M_app hw o rn rb de t1 true "[C" M.toInt32 0 (txt v0 v1 v2 v3 v4 v5 n) C1 s (tl n - s) X2 hX2 (by omega) (by omega) (fun i h1 h2 hi => a1 i hi) (by omega)) (pkS 0 rfl (pkS 0 rfl (pkS 1 rfl pk0))) (hw _ (mem 44 rfl)) (hw _ (mem 24 rfl)) (Nat.le_of_ble_eq_true rfl) (Nat.le_of_ble_eq_true rfl) (Nat.le_of_ble_eq_true rfl) (Nat.le_of_ble_eq_true rfl) ?_
  rintro _ _ ⟨X3, rfl, hX3, rfl⟩
  try dsimp only [List.set_cons_zero, List.set_cons_succ, List.eraseIdx_cons_zero, List.eraseIdx_cons_succ, List.cons_append, List.nil_append, Option.toList]
  rw [← hC1, ecs b0 b1 b2 b3 b4 b5 n hn s hs] at hX3 ⊢
  refine R_aload at_244 rfl rfl ?_
  refine R_call (S_virtual (as := []) (rest := _) (mem 0 rfl) at_246 (hw _ (mem 47 rfl)) (hw _ (mem 48 rfl)) (nf_sel (hw _ (mem 50 rfl))) (hw _ (mem 50 rfl)) (hw _ (mem 49 rfl)) (by decide) pd_ocaB rfl rfl rfl) (M_fin hw hcs hG ta dc hD o rn rb de M X3 (List.replicate 0 (Value.int 0)) (List.replicate 3072 (Value.int 0)) (by simp) hM2 (by simp) v0 v1 v2 v3 v4 v5 b0 b1 b2 b3 b4 b5 n hn hMn) (pkS 0 rfl (pkS 0 rfl (pkS 2 rfl (pkS 2 rfl pk0)))) (hw _ (mem 51 rfl)) (hw _ (mem 24 rfl)) (Nat.le_of_ble_eq_true rfl) (Nat.le_of_ble_eq_true rfl) (Nat.le_of_ble_eq_true rfl) (Nat.le_of_ble_eq_true rfl) ?_
  rintro _ _ ⟨na, de2, D2, Y2, rfl, hD2, hY2, rfl⟩
  try dsimp only [List.set_cons_zero, List.set_cons_succ, List.eraseIdx_cons_zero, List.eraseIdx_cons_succ, List.cons_append, List.nil_append, Option.toList]
  refine R_astore at_249 rfl rfl (by first | exact Or.inl rfl | exact Or.inr ⟨_, rfl, rfl⟩) ?_
  try dsimp only [List.set_cons_zero, List.set_cons_succ, List.eraseIdx_cons_zero, List.eraseIdx_cons_succ, List.cons_append, List.nil_append, Option.toList]
  refine R_aload at_251 rfl rfl ?_
  refine R_aload at_253 rfl rfl ?_
  refine R_iconst (0) at_255 (by decide) ?_
  refine R_iload at_256 rfl ?_
  refine R_call (S_virtual (as := [_, _, _]) (rest := _) (mem 1 rfl) at_258 (hw _ (mem 40 rfl)) (hw _ (mem 41 rfl)) (nf_sel (hw _ (mem 43 rfl))) (hw _ (mem 43 rfl)) (hw _ (mem 42 rfl)) (by decide) pd_oaCIIcV rfl rfl rfl) (M_app hw o rn rb de2 t2 true "[C" M.toInt32 0 (txt v0 v1 v2 v3 v4 v5 m) [] 0 (tl m) ((cst v0 v1 v2 v3 v4 v5 n).map Value.int ++ X3) (by simpa using hX3) (by omega) (by omega) (fun i h1 h2 hi => a2 i hi) (by simp; omega)) (pkS 1 rfl (pkS 1 rfl (pkS 6 rfl pk0))) (hw _ (mem 44 rfl)) (hw _ (mem 24 rfl)) (Nat.le_of_ble_eq_true rfl) (Nat.le_of_ble_eq_true rfl) (Nat.le_of_ble_eq_true rfl) (Nat.le_of_ble_eq_true rfl) ?_
  rintro _ _ ⟨X4, rfl, hX4, rfl⟩
  try dsimp only [List.set_cons_zero, List.set_cons_succ, List.eraseIdx_cons_zero, List.eraseIdx_cons_succ, List.cons_append, List.nil_append, Option.toList]
  have hF4 : ([] : List Int32) ++ List.filter nws (List.take (tl m) (List.drop 0 (txt v0 v1 v2 v3 v4 v5 m))) = (cst v0 v1 v2 v3 v4 v5 m) := by
    have e0 := ecs b0 b1 b2 b3 b4 b5 m hm 0 (Nat.zero_le _)
    simpa using e0
  rw [hF4] at hX4
  first | rw [hF4] | (rw [List.nil_append] at hF4; rw [hF4])
  refine R_aload at_261 rfl rfl ?_
  refine R_call (S_virtual (as := []) (rest := _) (mem 0 rfl) at_263 (hw _ (mem 47 rfl)) (hw _ (mem 48 rfl)) (nf_sel (hw _ (mem 50 rfl))) (hw _ (mem 50 rfl)) (hw _ (mem 49 rfl)) (by decide) pd_ocaB rfl rfl rfl) (M_fin hw hcs hG ta dc hD o rn rb de2 M X4 D2 Y2 hY2 hM2 hD2 v0 v1 v2 v3 v4 v5 b0 b1 b2 b3 b4 b5 m hm hMm) (pkS 0 rfl (pkS 0 rfl (pkS 2 rfl (pkS 2 rfl pk0)))) (hw _ (mem 51 rfl)) (hw _ (mem 24 rfl)) (Nat.le_of_ble_eq_true rfl) (Nat.le_of_ble_eq_true rfl) (Nat.le_of_ble_eq_true rfl) (Nat.le_of_ble_eq_true rfl) ?_
  rintro _ _ ⟨nb, de3, D3, Y3, rfl, hD3, hY3, rfl⟩
  try dsimp only [List.set_cons_zero, List.set_cons_succ, List.eraseIdx_cons_zero, List.eraseIdx_cons_succ, List.cons_append, List.nil_append, Option.toList]
  refine R_astore at_266 rfl rfl (by first | exact Or.inl rfl | exact Or.inr ⟨_, rfl, rfl⟩) ?_
  try dsimp only [List.set_cons_zero, List.set_cons_succ, List.eraseIdx_cons_zero, List.eraseIdx_cons_succ, List.cons_append, List.nil_append, Option.toList]
  refine R_aload at_268 rfl rfl ?_
  refine R_aload at_270 rfl rfl ?_
  refine R_iload at_272 rfl ?_
  refine R_call (S_static (as := [_, _, _]) (rest := _) at_274 (hw _ (mem 160 rfl)) (hw _ (mem 161 rfl)) (hw _ (mem 3 rfl)) (hw _ (mem 162 rfl)) (by decide) pd_oaBaIIcZ rfl rfl rfl) (M_same hw na va v0 v1 v2 v3 v4 v5 n hn) (pkS 6 rfl (pkS 8 rfl pk0)) (hw _ (mem 162 rfl)) (hw _ (mem 3 rfl)) (Nat.le_of_ble_eq_true rfl) (Nat.le_of_ble_eq_true rfl) (Nat.le_of_ble_eq_true rfl) (Nat.le_of_ble_eq_true rfl) ?_
  rintro _ _ ⟨rfl, rfl⟩
  try dsimp only [List.set_cons_zero, List.set_cons_succ, List.eraseIdx_cons_zero, List.eraseIdx_cons_succ, List.cons_append, List.nil_append, Option.toList]
  refine R_if_eq (pc' := 296) at_277 (by decide) (by decide) (fun z1 => ?_) (fun z1 => ?_)
  · exact absurd z1 (by decide)
  · refine R_aload at_280 rfl rfl ?_
    refine R_aload at_282 rfl rfl ?_
    refine R_iload at_284 rfl ?_
    refine R_call (S_static (as := [_, _, _]) (rest := _) at_286 (hw _ (mem 160 rfl)) (hw _ (mem 161 rfl)) (hw _ (mem 3 rfl)) (hw _ (mem 162 rfl)) (by decide) pd_oaBaIIcZ rfl rfl rfl) (M_same hw nb va v0 v1 v2 v3 v4 v5 m hm) (pkS 2 rfl (pkS 1 rfl pk0)) (hw _ (mem 162 rfl)) (hw _ (mem 3 rfl)) (Nat.le_of_ble_eq_true rfl) (Nat.le_of_ble_eq_true rfl) (Nat.le_of_ble_eq_true rfl) (Nat.le_of_ble_eq_true rfl) ?_
    rintro _ _ ⟨rfl, rfl⟩
    try dsimp only [List.set_cons_zero, List.set_cons_succ, List.eraseIdx_cons_zero, List.eraseIdx_cons_succ, List.cons_append, List.nil_append, Option.toList]
    refine R_if_eq (pc' := 296) at_289 (by decide) (by decide) (fun z2 => ?_) (fun z2 => ?_)
    · exact absurd z2 (by decide)
    · refine R_iconst (1) at_292 (by decide) ?_
      refine R_goto (pc' := 297) at_293 (by decide) (by decide) ?_
      exact R_ireturnN at_297 rfl (by simp) rfl (Nat.le_of_ble_eq_true rfl) (Nat.le_of_ble_eq_true rfl)

set_option maxRecDepth 65536 in
set_option maxHeartbeats 4000000 in
theorem L_72 {Γ : Gx} (hw : Words Γ) (hcs : CS Γ) (hG : Lits Γ) (ta dc : Addr) (hD : D64 Γ ta dc) (p0 p1 p2 p3 p4 v0 v1 v2 v3 v4 v5 : Int32) (b0 : B8 v0) (b1 : B8 v1) (b2 : B8 v2) (b3 : B8 v3) (b4 : B8 v4) (b5 : B8 v5) (va : Addr) (F : OL) :
    Run Γ (x, code, maxLocals, ret, room_1, (fun v O' => v = some (.int 1)), F) 1 6 [(va, true, Ary Γ "[I" .int [.int v0, .int v1, .int v2, .int v3, .int v4, .int v5])] 72 [.val (.int p0), .val (.int p1), .val (.int p2), .val (.int p3), .val (.int p4), .val (.ref va), .unset, .unset, .unset, .unset, .unset, .unset, .unset, .unset, .unset, .unset, .unset, .unset, .unset] [] := by
  refine R_iloadN at_72 rfl ?_
  refine R_bipush (7) at_73 (by decide) ?_
  refine R_iand at_75 ?_
  refine R_bipush (7) at_76 (by decide) ?_
  refine R_irem at_78 (by decide) ?_
  obtain ⟨n, hn, en⟩ := m7 p2
  rw [en]
  refine R_istore at_79 rfl (by first | exact Or.inl rfl | exact Or.inr ⟨_, rfl, rfl⟩) ?_
  try dsimp only [List.set_cons_zero, List.set_cons_succ, List.eraseIdx_cons_zero, List.eraseIdx_cons_succ, List.cons_append, List.nil_append, Option.toList]
  refine R_iload at_81 rfl ?_
  refine R_bipush (7) at_83 (by decide) ?_
  refine R_iand at_85 ?_
  refine R_bipush (7) at_86 (by decide) ?_
  refine R_irem at_88 (by decide) ?_
  obtain ⟨m, hm, em⟩ := m7 p4
  rw [em]
  refine R_istore at_89 rfl (by first | exact Or.inl rfl | exact Or.inr ⟨_, rfl, rfl⟩) ?_
  try dsimp only [List.set_cons_zero, List.set_cons_succ, List.eraseIdx_cons_zero, List.eraseIdx_cons_succ, List.cons_append, List.nil_append, Option.toList]
  refine R_aload at_91 rfl rfl ?_
  refine R_iload at_93 rfl ?_
  refine R_call (S_static (as := [_, _]) (rest := _) at_95 (hw _ (mem 1 rfl)) (hw _ (mem 2 rfl)) (hw _ (mem 3 rfl)) (hw _ (mem 4 rfl)) (by decide) pd_oaIIcaC rfl rfl rfl) (M_enc hw va v0 v1 v2 v3 v4 v5 b0 b1 b2 b3 b4 b5 n hn) (pkS 0 rfl pk0) (hw _ (mem 4 rfl)) (hw _ (mem 3 rfl)) (Nat.le_of_ble_eq_true rfl) (Nat.le_of_ble_eq_true rfl) (Nat.le_of_ble_eq_true rfl) (Nat.le_of_ble_eq_true rfl) ?_
  rintro _ _ ⟨t1, rfl, rfl⟩
  try dsimp only [List.set_cons_zero, List.set_cons_succ, List.eraseIdx_cons_zero, List.eraseIdx_cons_succ, List.cons_append, List.nil_append, Option.toList]
  refine R_astore at_98 rfl rfl (by first | exact Or.inl rfl | exact Or.inr ⟨_, rfl, rfl⟩) ?_
  try dsimp only [List.set_cons_zero, List.set_cons_succ, List.eraseIdx_cons_zero, List.eraseIdx_cons_succ, List.cons_append, List.nil_append, Option.toList]
  refine R_aload at_100 rfl rfl ?_
  refine R_iload at_102 rfl ?_
  refine R_call (S_static (as := [_, _]) (rest := _) at_104 (hw _ (mem 1 rfl)) (hw _ (mem 2 rfl)) (hw _ (mem 3 rfl)) (hw _ (mem 4 rfl)) (by decide) pd_oaIIcaC rfl rfl rfl) (M_enc hw va v0 v1 v2 v3 v4 v5 b0 b1 b2 b3 b4 b5 m hm) (pkS 1 rfl pk0) (hw _ (mem 4 rfl)) (hw _ (mem 3 rfl)) (Nat.le_of_ble_eq_true rfl) (Nat.le_of_ble_eq_true rfl) (Nat.le_of_ble_eq_true rfl) (Nat.le_of_ble_eq_true rfl) ?_
  rintro _ _ ⟨t2, rfl, rfl⟩
  try dsimp only [List.set_cons_zero, List.set_cons_succ, List.eraseIdx_cons_zero, List.eraseIdx_cons_succ, List.cons_append, List.nil_append, Option.toList]
  refine R_astore at_107 rfl rfl (by first | exact Or.inl rfl | exact Or.inr ⟨_, rfl, rfl⟩) ?_
  try dsimp only [List.set_cons_zero, List.set_cons_succ, List.eraseIdx_cons_zero, List.eraseIdx_cons_succ, List.cons_append, List.nil_append, Option.toList]
  refine R_iload at_109 rfl ?_
  refine R_call (S_static (as := [_]) (rest := _) at_111 (hw _ (mem 16 rfl)) (hw _ (mem 17 rfl)) (hw _ (mem 3 rfl)) (hw _ (mem 18 rfl)) (by decide) pd_oIcI rfl rfl rfl) (M_tl hw n hn) pk0 (hw _ (mem 18 rfl)) (hw _ (mem 3 rfl)) (Nat.le_of_ble_eq_true rfl) (Nat.le_of_ble_eq_true rfl) (Nat.le_of_ble_eq_true rfl) (Nat.le_of_ble_eq_true rfl) ?_
  rintro _ _ ⟨rfl, rfl⟩
  try dsimp only [List.set_cons_zero, List.set_cons_succ, List.eraseIdx_cons_zero, List.eraseIdx_cons_succ, List.cons_append, List.nil_append, Option.toList]
  refine R_istore at_114 rfl (by first | exact Or.inl rfl | exact Or.inr ⟨_, rfl, rfl⟩) ?_
  try dsimp only [List.set_cons_zero, List.set_cons_succ, List.eraseIdx_cons_zero, List.eraseIdx_cons_succ, List.cons_append, List.nil_append, Option.toList]
  refine R_iload at_116 rfl ?_
  refine R_call (S_static (as := [_]) (rest := _) at_118 (hw _ (mem 16 rfl)) (hw _ (mem 17 rfl)) (hw _ (mem 3 rfl)) (hw _ (mem 18 rfl)) (by decide) pd_oIcI rfl rfl rfl) (M_tl hw m hm) pk0 (hw _ (mem 18 rfl)) (hw _ (mem 3 rfl)) (Nat.le_of_ble_eq_true rfl) (Nat.le_of_ble_eq_true rfl) (Nat.le_of_ble_eq_true rfl) (Nat.le_of_ble_eq_true rfl) ?_
  rintro _ _ ⟨rfl, rfl⟩
  try dsimp only [List.set_cons_zero, List.set_cons_succ, List.eraseIdx_cons_zero, List.eraseIdx_cons_succ, List.cons_append, List.nil_append, Option.toList]
  refine R_istore at_121 rfl (by first | exact Or.inl rfl | exact Or.inr ⟨_, rfl, rfl⟩) ?_
  try dsimp only [List.set_cons_zero, List.set_cons_succ, List.eraseIdx_cons_zero, List.eraseIdx_cons_succ, List.cons_append, List.nil_append, Option.toList]
  refine R_iloadN at_123 rfl ?_
  refine R_iconst (3) at_124 (by decide) ?_
  refine R_iushr at_125 ?_
  refine R_bipush (15) at_126 (by decide) ?_
  refine R_iand at_128 ?_
  refine R_iload at_129 rfl ?_
  refine R_iconst (1) at_131 (by decide) ?_
  refine R_iadd at_132 ?_
  refine R_irem at_133 (tl_ne n) ?_
  obtain ⟨s, hs, es⟩ := ms (XT.ushr p2 3) n
  rw [es]
  refine R_istore at_134 rfl (by first | exact Or.inl rfl | exact Or.inr ⟨_, rfl, rfl⟩) ?_
  try dsimp only [List.set_cons_zero, List.set_cons_succ, List.eraseIdx_cons_zero, List.eraseIdx_cons_succ, List.cons_append, List.nil_append, Option.toList]
  refine R_iconst (1) at_136 (by decide) ?_
  refine R_newarray (ad := "[C") [.int 0] 1 at_137 (hw _ (mem 5 rfl)) rfl (by decide) rfl (by decide) (by decide) (Nat.le_of_ble_eq_true rfl) (Nat.le_of_ble_eq_true rfl) fun ws => ?_
  refine R_astore at_139 rfl rfl (by first | exact Or.inl rfl | exact Or.inr ⟨_, rfl, rfl⟩) ?_
  try dsimp only [List.set_cons_zero, List.set_cons_succ, List.eraseIdx_cons_zero, List.eraseIdx_cons_succ, List.cons_append, List.nil_append, Option.toList]
  refine R_iloadN at_141 rfl ?_
  refine R_iconst (3) at_142 (by decide) ?_
  refine R_iand at_143 ?_
  refine R_istore at_144 rfl (by first | exact Or.inl rfl | exact Or.inr ⟨_, rfl, rfl⟩) ?_
  try dsimp only [List.set_cons_zero, List.set_cons_succ, List.eraseIdx_cons_zero, List.eraseIdx_cons_succ, List.cons_append, List.nil_append, Option.toList]
  refine R_aload at_146 rfl rfl ?_
  refine R_iconst (0) at_148 (by decide) ?_
  refine R_iload at_149 rfl ?_
  rcases m3 p3 with hq | hq | hq | hq
  · rw [hq]
    refine R_if_ne (pc' := 159) at_151 (by decide) (by decide) (fun z0 => ?_) (fun z0 => ?_)
    · exact absurd rfl z0
    · refine R_bipush (32) at_154 (by decide) ?_
      refine R_goto (pc' := 183) at_156 (by decide) (by decide) ?_
      refine R_castore 0 at_183 rfl (by decide) 0 rfl (Nat.le_of_ble_eq_true rfl) ?_
      try dsimp only [List.set_cons_zero, List.set_cons_succ, List.eraseIdx_cons_zero, List.eraseIdx_cons_succ, List.cons_append, List.nil_append, Option.toList]
      rw [show nar .char 32 = 32 from by decide]
      refine R_order (pkS 2 rfl (pkS 2 rfl (pkS 1 rfl (pkS 0 rfl pk0)))) ?_
      try dsimp only [List.set_cons_zero, List.set_cons_succ, List.eraseIdx_cons_zero, List.eraseIdx_cons_succ, List.cons_append, List.nil_append, Option.toList]
      exact L_184 hw hcs hG ta dc hD p0 p1 p2 p3 p4 v0 v1 v2 v3 v4 v5 b0 b1 b2 b3 b4 b5 va n hn m hm t1 t2 ws s hs 32 (by decide) (by decide) _ F
  · rw [hq]
    refine R_if_ne (pc' := 159) at_151 (by decide) (by decide) (fun z0 => ?_) (fun z0 => ?_)
    · refine R_iload at_159 rfl ?_
      refine R_iconst (1) at_161 (by decide) ?_
      refine R_icmp_ne (pc' := 170) at_162 (by decide) (by decide) (fun z1 => ?_) (fun z1 => ?_)
      · exact absurd rfl z1
      · refine R_bipush (9) at_165 (by decide) ?_
        refine R_goto (pc' := 183) at_167 (by decide) (by decide) ?_
        refine R_castore 0 at_183 rfl (by decide) 0 rfl (Nat.le_of_ble_eq_true rfl) ?_
        try dsimp only [List.set_cons_zero, List.set_cons_succ, List.eraseIdx_cons_zero, List.eraseIdx_cons_succ, List.cons_append, List.nil_append, Option.toList]
        rw [show nar .char 9 = 9 from by decide]
        refine R_order (pkS 2 rfl (pkS 2 rfl (pkS 1 rfl (pkS 0 rfl pk0)))) ?_
        try dsimp only [List.set_cons_zero, List.set_cons_succ, List.eraseIdx_cons_zero, List.eraseIdx_cons_succ, List.cons_append, List.nil_append, Option.toList]
        exact L_184 hw hcs hG ta dc hD p0 p1 p2 p3 p4 v0 v1 v2 v3 v4 v5 b0 b1 b2 b3 b4 b5 va n hn m hm t1 t2 ws s hs 9 (by decide) (by decide) _ F
    · exact absurd z0 (by decide)
  · rw [hq]
    refine R_if_ne (pc' := 159) at_151 (by decide) (by decide) (fun z0 => ?_) (fun z0 => ?_)
    · refine R_iload at_159 rfl ?_
      refine R_iconst (1) at_161 (by decide) ?_
      refine R_icmp_ne (pc' := 170) at_162 (by decide) (by decide) (fun z1 => ?_) (fun z1 => ?_)
      · refine R_iload at_170 rfl ?_
        refine R_iconst (2) at_172 (by decide) ?_
        refine R_icmp_ne (pc' := 181) at_173 (by decide) (by decide) (fun z2 => ?_) (fun z2 => ?_)
        · exact absurd rfl z2
        · refine R_bipush (10) at_176 (by decide) ?_
          refine R_goto (pc' := 183) at_178 (by decide) (by decide) ?_
          refine R_castore 0 at_183 rfl (by decide) 0 rfl (Nat.le_of_ble_eq_true rfl) ?_
          try dsimp only [List.set_cons_zero, List.set_cons_succ, List.eraseIdx_cons_zero, List.eraseIdx_cons_succ, List.cons_append, List.nil_append, Option.toList]
          rw [show nar .char 10 = 10 from by decide]
          refine R_order (pkS 2 rfl (pkS 2 rfl (pkS 1 rfl (pkS 0 rfl pk0)))) ?_
          try dsimp only [List.set_cons_zero, List.set_cons_succ, List.eraseIdx_cons_zero, List.eraseIdx_cons_succ, List.cons_append, List.nil_append, Option.toList]
          exact L_184 hw hcs hG ta dc hD p0 p1 p2 p3 p4 v0 v1 v2 v3 v4 v5 b0 b1 b2 b3 b4 b5 va n hn m hm t1 t2 ws s hs 10 (by decide) (by decide) _ F
      · exact absurd z1 (by decide)
    · exact absurd z0 (by decide)
  · rw [hq]
    refine R_if_ne (pc' := 159) at_151 (by decide) (by decide) (fun z0 => ?_) (fun z0 => ?_)
    · refine R_iload at_159 rfl ?_
      refine R_iconst (1) at_161 (by decide) ?_
      refine R_icmp_ne (pc' := 170) at_162 (by decide) (by decide) (fun z1 => ?_) (fun z1 => ?_)
      · refine R_iload at_170 rfl ?_
        refine R_iconst (2) at_172 (by decide) ?_
        refine R_icmp_ne (pc' := 181) at_173 (by decide) (by decide) (fun z2 => ?_) (fun z2 => ?_)
        · refine R_bipush (13) at_181 (by decide) ?_
          refine R_castore 0 at_183 rfl (by decide) 0 rfl (Nat.le_of_ble_eq_true rfl) ?_
          try dsimp only [List.set_cons_zero, List.set_cons_succ, List.eraseIdx_cons_zero, List.eraseIdx_cons_succ, List.cons_append, List.nil_append, Option.toList]
          rw [show nar .char 13 = 13 from by decide]
          refine R_order (pkS 2 rfl (pkS 2 rfl (pkS 1 rfl (pkS 0 rfl pk0)))) ?_
          try dsimp only [List.set_cons_zero, List.set_cons_succ, List.eraseIdx_cons_zero, List.eraseIdx_cons_succ, List.cons_append, List.nil_append, Option.toList]
          exact L_184 hw hcs hG ta dc hD p0 p1 p2 p3 p4 v0 v1 v2 v3 v4 v5 b0 b1 b2 b3 b4 b5 va n hn m hm t1 t2 ws s hs 13 (by decide) (by decide) _ F
        · exact absurd z2 (by decide)
      · exact absurd z1 (by decide)
    · exact absurd z0 (by decide)

set_option maxRecDepth 65536 in
set_option maxHeartbeats 40000000 in
theorem M_law {Γ : Gx} (hw : Words Γ) (hcs : CS Γ) (hG : Lits Γ) (ta dc : Addr) (hD : D64 Γ ta dc) (p0 p1 p2 p3 p4 : Int32) :
    Met Γ x code maxLocals ret room_1 #[.int p0, .int p1, .int p2, .int p3, .int p4] [] (fun v O' => v = some (.int 1)) := by
  refine Met.intro pn_com_example_delta_mirror_deltamirror_rrdp_Base64BinaryFinishPinLaw (Ls := [.val (.int p0), .val (.int p1), .val (.int p2), .val (.int p3), .val (.int p4), .unset, .unset, .unset, .unset, .unset, .unset, .unset, .unset, .unset, .unset, .unset, .unset, .unset, .unset]) (fun m => by simp [entryFrame, mkF, argsToLocals, Value.category, maxLocals]) ?_
  intro F
  refine R_bipush (6) at_0 (by decide) ?_
  refine R_newarray (ad := "[I") [.int 0, .int 0, .int 0, .int 0, .int 0, .int 0] 6 at_2 (hw _ (mem 0 rfl)) rfl (by decide) rfl (by decide) (by decide) (Nat.le_of_ble_eq_true rfl) (Nat.le_of_ble_eq_true rfl) fun va => ?_
  refine R_astore at_4 rfl rfl (by first | exact Or.inl rfl | exact Or.inr ⟨_, rfl, rfl⟩) ?_
  try dsimp only [List.set_cons_zero, List.set_cons_succ, List.eraseIdx_cons_zero, List.eraseIdx_cons_succ, List.cons_append, List.nil_append, Option.toList]
  refine R_aload at_6 rfl rfl ?_
  refine R_iconst (0) at_8 (by decide) ?_
  refine R_iloadN at_9 rfl ?_
  refine R_sipush (255) at_10 (by decide) ?_
  refine R_iand at_13 ?_
  refine R_iastore 0 at_14 rfl (by decide) 0 rfl (Nat.le_of_ble_eq_true rfl) ?_
  try dsimp only [List.set_cons_zero, List.set_cons_succ, List.eraseIdx_cons_zero, List.eraseIdx_cons_succ, List.cons_append, List.nil_append, Option.toList]
  refine R_aload at_15 rfl rfl ?_
  refine R_iconst (1) at_17 (by decide) ?_
  refine R_iloadN at_18 rfl ?_
  refine R_bipush (8) at_19 (by decide) ?_
  refine R_iushr at_21 ?_
  refine R_sipush (255) at_22 (by decide) ?_
  refine R_iand at_25 ?_
  refine R_iastore 0 at_26 rfl (by decide) 1 rfl (Nat.le_of_ble_eq_true rfl) ?_
  try dsimp only [List.set_cons_zero, List.set_cons_succ, List.eraseIdx_cons_zero, List.eraseIdx_cons_succ, List.cons_append, List.nil_append, Option.toList]
  refine R_aload at_27 rfl rfl ?_
  refine R_iconst (2) at_29 (by decide) ?_
  refine R_iloadN at_30 rfl ?_
  refine R_bipush (16) at_31 (by decide) ?_
  refine R_iushr at_33 ?_
  refine R_sipush (255) at_34 (by decide) ?_
  refine R_iand at_37 ?_
  refine R_iastore 0 at_38 rfl (by decide) 2 rfl (Nat.le_of_ble_eq_true rfl) ?_
  try dsimp only [List.set_cons_zero, List.set_cons_succ, List.eraseIdx_cons_zero, List.eraseIdx_cons_succ, List.cons_append, List.nil_append, Option.toList]
  refine R_aload at_39 rfl rfl ?_
  refine R_iconst (3) at_41 (by decide) ?_
  refine R_iloadN at_42 rfl ?_
  refine R_bipush (24) at_43 (by decide) ?_
  refine R_iushr at_45 ?_
  refine R_sipush (255) at_46 (by decide) ?_
  refine R_iand at_49 ?_
  refine R_iastore 0 at_50 rfl (by decide) 3 rfl (Nat.le_of_ble_eq_true rfl) ?_
  try dsimp only [List.set_cons_zero, List.set_cons_succ, List.eraseIdx_cons_zero, List.eraseIdx_cons_succ, List.cons_append, List.nil_append, Option.toList]
  refine R_aload at_51 rfl rfl ?_
  refine R_iconst (4) at_53 (by decide) ?_
  refine R_iloadN at_54 rfl ?_
  refine R_sipush (255) at_55 (by decide) ?_
  refine R_iand at_58 ?_
  refine R_iastore 0 at_59 rfl (by decide) 4 rfl (Nat.le_of_ble_eq_true rfl) ?_
  try dsimp only [List.set_cons_zero, List.set_cons_succ, List.eraseIdx_cons_zero, List.eraseIdx_cons_succ, List.cons_append, List.nil_append, Option.toList]
  refine R_aload at_60 rfl rfl ?_
  refine R_iconst (5) at_62 (by decide) ?_
  refine R_iloadN at_63 rfl ?_
  refine R_bipush (8) at_64 (by decide) ?_
  refine R_iushr at_66 ?_
  refine R_sipush (255) at_67 (by decide) ?_
  refine R_iand at_70 ?_
  refine R_iastore 0 at_71 rfl (by decide) 5 rfl (Nat.le_of_ble_eq_true rfl) ?_
  try dsimp only [List.set_cons_zero, List.set_cons_succ, List.eraseIdx_cons_zero, List.eraseIdx_cons_succ, List.cons_append, List.nil_append, Option.toList]
  exact L_72 hw hcs hG ta dc hD p0 p1 p2 p3 p4 _ _ _ _ _ _ (fin_of (and255 _)) (fin_of (and255 _)) (fin_of (and255 _)) (fin_of (and255 _)) (fin_of (and255 _)) (fin_of (and255 _)) va F

-- CUT
theorem EWall (Z : State) (a0 : Array Value) (hw : ∀ d ∈ tables_1, d.before a0 Z = true) : EW Z a0 consts_1 := (EW.cons (text := "AQgw") (hw _ (mem 168 rfl)) (by decide +kernel) (EW.cons (text := "AEIMQUYcgkosw048") (hw _ (mem 56 rfl)) (by decide +kernel) EW.nil))
set_option maxRecDepth 65536 in
set_option maxHeartbeats 40000000 in
theorem comes_1 {Post : Tables → Env → Array Value → State → Outcome → State → Prop} (hpost : ∀ tb e args s v u, (limb_1_1.after args s (.returned v) u = true ∧ limb_1_2.after args s (.returned v) u = true) → FramedW s (.returned v) u (Jvm.fieldLocs frame_1_writes args s ++ Jvm.arrayLocs frame_1_arrays args s ++ Jvm.staticLocs frame_1_statics s) 40 16640 → Post tb e args s (.returned v) u) :
    ArmFor flags0 classFile x code maxLocals ret World_1 tables_1 room_1 Calls_1 rest_1 Pre_1 Post := by
  intro l hfl _ _ p e ha hc hk s m args below hf hA hF happ hP
  obtain ⟨hcalls, hrest, hpre⟩ := hP
  obtain ⟨-, -, -, hnamed, -, -, -, hat⟩ := (Spec.applies_iff hf).mp happ
  obtain ⟨hg, hn⟩ := and_e (Cond.before_iff.mp (show (Jvm.Cond.and given_1 narrow_1).before args s = true from hpre))
  obtain ⟨h1, h2⟩ := and_e hg
  obtain ⟨w0, w1, w2, w3, w4, rfl⟩ : ∃ w0 w1 w2 w3 w4 : Value, args = #[w0, w1, w2, w3, w4] := by
    have hs : args.size = 5 := by simpa [Cond.value, given_1] using h1
    obtain ⟨L⟩ := args
    match L, hs with
    | [w0, w1, w2, w3, w4], _ => exact ⟨w0, w1, w2, w3, w4, rfl⟩
  have hw := fun d (hd : d ∈ tables_1) => atoms_spec (ws := Jvm.Cond.code x code maxLocals ret :: tables_1) hat d (List.mem_cons_of_mem _ hd)
  obtain ⟨hsets, hown0⟩ := atoms_of _ (rest_1_c_eq ▸ (show rest_1_c.before _ s = true from hrest))
  obtain ⟨g0, r0⟩ := and_e h2
  obtain ⟨i0, e0⟩ := is_v g0
  obtain rfl : w0 = (.int i0) := Option.some.inj e0
  obtain ⟨g1, r1⟩ := and_e r0
  obtain ⟨i1, e1⟩ := is_v g1
  obtain rfl : w1 = (.int i1) := Option.some.inj e1
  obtain ⟨g2, r2⟩ := and_e r1
  obtain ⟨i2, e2⟩ := is_v g2
  obtain rfl : w2 = (.int i2) := Option.some.inj e2
  obtain ⟨g3, r3⟩ := and_e r2
  obtain ⟨i3, e3⟩ := is_v g3
  obtain rfl : w3 = (.int i3) := Option.some.inj e3
  obtain ⟨i4, e4⟩ := is_v r3
  obtain rfl : w4 = (.int i4) := Option.some.inj e4
  have ncs := not_v (Cond.before_iff.mp (hsets _ (mem 2 rfl)))
  obtain ⟨gcs, ecs⟩ := is_v (Cond.before_iff.mp (hsets _ (mem 1 rfl)))
  have hcs : ∃ g : Int32, Sta s s.heap "java/lang/String" "COMPACT_STRINGS" "Z" (.int g) ∧ ¬ g = 0 := ⟨gcs, Sta.start ecs (Or.inl (hsets _ (mem 0 rfl))), gotF (Cond.eq_ints ecs (Term.int_eval (0))) ncs⟩
  obtain ⟨n1, n23⟩ := and_e hn
  obtain ⟨n2, n3⟩ := and_e n23
  obtain ⟨dc, edc⟩ := exa_v n1
  have na := Cond.before_iff.mp (hsets _ (mem 11 rfl))
  obtain ⟨ta, eta⟩ := arr_v na
  obtain ⟨cta, Ata⟩ := Arr.start eta na
  have tta := arr_toList Ata eta (eq_const (Cond.before_iff.mp (hsets _ (mem 13 rfl)))) (vs := tab64.map Value.int) (by decide +kernel) (by rw [List.length_map, tab_len]; decide) (fun j hj => by
    have hj' : j < 256 := by rw [List.length_map, tab_len] at hj; exact hj
    rw [eq_const (Cond.before_iff.mp (hsets _ (List.mem_of_getElem? (tabW1 j hj')))), List.getElem_map, List.getD_eq_getElem?_getD, List.getElem?_eq_getElem (by rw [tab_len]; exact hj')]
    rfl)
  have hD : D64 (l, s, #[.int i0, .int i1, .int i2, .int i3, .int i4], consts_1, true) ta dc := ⟨Sta.start eta (Or.inl (hsets _ (mem 10 rfl))), Sta.start edc (Or.inr ⟨(hw _ (mem 24 rfl)), (hw _ (mem 117 rfl))⟩), ⟨cta, Ata.1, fun q => absurd rfl q, Ata.2.1, Ata.2.2, tta, by rw [List.length_map, tab_len]; decide, fun v hv => by
      obtain ⟨z, -, rfl⟩ := List.mem_map.mp hv
      rfl, fun C q => by cases q⟩, Obj.start (Γ := (l, s, #[.int i0, .int i1, .int i2, .int i3, .int i4], consts_1, true)) (Exa.start edc n1) (Fld.of_term edc (eq_const n2)) (olS (Or.inr (hw _ (mem 130 rfl))) (ty := .boolean) (by decide) (Fld.of_term edc (eq_const n2)) (olS (Or.inr (hw _ (mem 133 rfl))) (ty := .boolean) (by decide) (Fld.of_term edc (eq_const n3)) ol0))⟩
  have I0 : Inv (l, s, #[.int i0, .int i1, .int i2, .int i3, .int i4], consts_1, true) s.vm s.heap ([] ++ []) := ⟨State.Warmed39.refl s, ⟨Nat.le_refl _, fun _ _ q => q⟩, fun _ => ⟨EWall s _ hw, CHv.start (EWall s _ hw) (fun p hp => hcalls.1 p hp) (hsets _ (mem 2 rfl)) (hw _ (mem 31 rfl)) (hw _ (mem 58 rfl))⟩, fun x hx => by simp at hx, fun x hx => by simp at hx, List.Pairwise.nil⟩
  obtain ⟨n, o, k1, k2, k3, v, L, O', rfl, hQ, I', N, hE⟩ := M_law (Γ := (l, s, #[.int i0, .int i1, .int i2, .int i3, .int i4], consts_1, true)) hw hcs ⟨rfl, rfl⟩ ta dc hD i0 i1 i2 i3 i4 tables_1 [] p e ha hc hk s m _ below hf ((Spec.applies_iff_loose hf).mp happ).1 ⟨rfl, I0⟩ trivial
  obtain rfl := hQ
  exact ⟨n, _, k1, k2, k3, hpost _ _ _ _ _ _ ⟨Cond.after_iff.mpr rfl, Cond.after_iff.mpr (eq_i res_at (Term.int_eval (1)) rfl)⟩ ⟨⟨_, rfl⟩, (hE.1 rfl).2.1, (hE.1 rfl).2.2.1, ((hE.1 rfl).2.2.2.sift fun y hy => Or.inr (N y hy)).mono (by decide) (by decide)⟩⟩
theorem main_1_1 : Claimed_1_1 := comes_1 fun _ _ _ _ _ _ h hF => ⟨h.1, hF⟩
theorem main_1_2 : Claimed_1_2 := comes_1 fun _ _ _ _ _ _ h hF => ⟨h.2, hF⟩

end Jvm.Pilot.@@N@@
namespace Jvm.Pilot.@@N@@
open Jvm Jvm.ClassFile Sem Op Lib Jvm.Free Jvm.Stand Jvm.Pilot.@@N@@.Jvm.D
/-! MADE BY PROGRAM (witnessworld.py) out of the Statement's table words and the real class files: 22 classes; the members and pool entries that the words name. The judged class is class 1, her method 1. -/
namespace start1
open Jvm.ClassFile
def u (s : String) : CpInfo := .utf8 (stringToUtf16 s)
/-- a pool by its gaps: so many unusable entries, then the entry; so many at the end -/
def gap : Nat → List CpInfo → List CpInfo
  | 0, r => r
  | n + 1, r => .unusable :: gap n r
def poolList (es : List (Nat × CpInfo)) (last : Nat) : List CpInfo := es.foldr (fun e r => gap e.1 (e.2 :: r)) (gap last [])
def pool (es : List (Nat × CpInfo)) (last : Nat) : Array CpInfo := ⟨poolList es last⟩
def fileOf (pool : Array CpInfo) (this : Nat) (attrs : Array Attribute := #[]) (ms : Array MethodInfo := #[]) (fl : Nat := 33) (sup : Nat := 0) (ifs : Array Nat := #[]) (fds : Array FieldInfo := #[]) : ClassFile where
  minorVersion := 0
  majorVersion := 65
  constantPool := pool
  accessFlags := fl
  thisClass := this
  superClass := sup
  interfaces := ifs
  fields := fds
  methods := ms
  attributes := attrs
def plain (name : String) (sup : Option ClassId) : Class where
  name := name
  kind := .ordinary
  loader := none
  accessFlags := 33
  super := sup
  interfaces := #[]
  cf := none
  fields := #[]
  methods := #[]
  instanceTypes := #[]
  staticTypes := #[]
  resolved := #[]
  callSites := []
  init := .initialized
  statics := none
  mirror := none

def pool0 : Array CpInfo := pool [(5, u "<init>"), (0, u "()V"), (1, .class_ 10), (1, u "java/lang/Object"), (85, u "clone"), (0, u "()Ljava/lang/Object;")] 26

def k0c0 : Code := { maxStack := 0, maxLocals := 1, code := object_method_1_code, exceptionTable := #[], attributes := #[] }
def k0m0 : Method := { name := "<init>", desc := "()V", sig := { parameters := [], returnType := none }, accessFlags := 1, code := some k0c0 }
def k0m1 : Method := { name := "clone", desc := "()Ljava/lang/Object;", sig := { parameters := [], returnType := some (.object "java/lang/Object") }, accessFlags := 260, code := none }
/-- java/lang/Object -/
def k0 : Class := { plain "java/lang/Object" none with
  accessFlags := 33
  interfaces := #[]
  cf := some (fileOf pool0 8 #[] #[{ accessFlags := 1, nameIndex := 5, descriptorIndex := 6, attributes := #[] }, { accessFlags := 260, nameIndex := 96, descriptorIndex := 97, attributes := #[] }] 33 0 #[] #[])
  fields := #[]
  methods := #[k0m0, k0m1]
  instanceTypes := #[]
  staticTypes := #[]
  resolved := Array.replicate 124 none
  statics := none }

def pool1 : Array CpInfo := pool [(2, .class_ 4), (1, u "java/lang/Object"), (0, u "<init>"), (0, u "()V"), (0, .methodref 8 9), (0, .class_ 10), (0, .nameAndType 11 12), (0, u "com/example/delta_mirror/deltamirror/rrdp/Base64BinaryFinishPinLaw"), (0, u "encode"), (0, u "([II)[C"), (0, .methodref 8 14), (0, .nameAndType 15 16), (0, u "textLength"), (0, u "(I)I"), (0, .methodref 18 19), (0, .class_ 20), (0, .nameAndType 21 22), (0, u "java/lang/Math"), (0, u "max"), (0, u "(II)I"), (0, .class_ 24), (0, u "com/example/delta_mirror/deltamirror/rrdp/Base64Binary"), (0, .methodref 23 26), (0, .nameAndType 5 27), (0, u "(I)V"), (0, .methodref 23 29), (0, .nameAndType 30 31), (0, u "append"), (0, u "([CII)V"), (0, .methodref 23 33), (0, .nameAndType 34 35), (0, u "finish"), (0, u "()[B"), (0, .methodref 8 37), (0, .nameAndType 38 39), (0, u "same"), (0, u "([B[II)Z"), (0, .methodref 18 41), (0, .nameAndType 42 22), (0, u "min"), (0, .methodref 8 44), (0, .nameAndType 45 46), (0, u "put"), (0, u "([CIIIII)V"), (0, .methodref 8 48), (0, .nameAndType 49 50), (0, u "ch"), (0, u "(I)C"), (2, u "law"), (0, u "(IIIII)Z")] 12

def k1m0 : Method := { name := "<init>", desc := "()V", sig := { parameters := [], returnType := none }, accessFlags := 1, code := none }
def k1c1 : Code := { maxStack := 5, maxLocals := 19, code := code, exceptionTable := #[], attributes := #[] }
def k1m1 : Method := { name := "law", desc := "(IIIII)Z", sig := { parameters := [.int, .int, .int, .int, .int], returnType := some .boolean }, accessFlags := 9, code := some k1c1 }
def k1c2 : Code := { maxStack := 2, maxLocals := 1, code := method_3_code, exceptionTable := #[], attributes := #[] }
def k1m2 : Method := { name := "textLength", desc := "(I)I", sig := { parameters := [.int], returnType := some .int }, accessFlags := 10, code := some k1c2 }
def k1c3 : Code := { maxStack := 7, maxLocals := 3, code := method_4_code, exceptionTable := #[], attributes := #[] }
def k1m3 : Method := { name := "encode", desc := "([II)[C", sig := { parameters := [(.array .int), .int], returnType := some (.array .char) }, accessFlags := 10, code := some k1c3 }
def k1c4 : Code := { maxStack := 5, maxLocals := 6, code := method_5_code, exceptionTable := #[], attributes := #[] }
def k1m4 : Method := { name := "put", desc := "([CIIIII)V", sig := { parameters := [(.array .char), .int, .int, .int, .int, .int], returnType := none }, accessFlags := 10, code := some k1c4 }
def k1c5 : Code := { maxStack := 3, maxLocals := 1, code := method_6_code, exceptionTable := #[], attributes := #[] }
def k1m5 : Method := { name := "ch", desc := "(I)C", sig := { parameters := [.int], returnType := some .char }, accessFlags := 10, code := some k1c5 }
def k1c6 : Code := { maxStack := 3, maxLocals := 3, code := method_7_code, exceptionTable := #[], attributes := #[] }
def k1m6 : Method := { name := "same", desc := "([B[II)Z", sig := { parameters := [(.array .byte), (.array .int), .int], returnType := some .boolean }, accessFlags := 10, code := some k1c6 }
/-- com/example/delta_mirror/deltamirror/rrdp/Base64BinaryFinishPinLaw -/
def k1 : Class := { plain "com/example/delta_mirror/deltamirror/rrdp/Base64BinaryFinishPinLaw" (some 0) with
  accessFlags := 49
  interfaces := #[]
  cf := some (fileOf pool1 8 #[] #[{ accessFlags := 1, nameIndex := 5, descriptorIndex := 6, attributes := #[] }, { accessFlags := 9, nameIndex := 53, descriptorIndex := 54, attributes := #[] }, { accessFlags := 10, nameIndex := 15, descriptorIndex := 16, attributes := #[] }, { accessFlags := 10, nameIndex := 11, descriptorIndex := 12, attributes := #[] }, { accessFlags := 10, nameIndex := 45, descriptorIndex := 46, attributes := #[] }, { accessFlags := 10, nameIndex := 49, descriptorIndex := 50, attributes := #[] }, { accessFlags := 10, nameIndex := 38, descriptorIndex := 39, attributes := #[] }] 49 2 #[] #[])
  fields := #[]
  methods := #[k1m0, k1m1, k1m2, k1m3, k1m4, k1m5, k1m6]
  instanceTypes := #[]
  staticTypes := #[]
  resolved := Array.replicate 67 none
  statics := none }

def pool2 : Array CpInfo := pool [(1, .class_ 2), (0, u "java/lang/Math"), (1, .class_ 6), (1, u "java/lang/Object"), (0, u "<init>"), (0, u "()V"), (89, .class_ 100), (1, u "java/lang/Math$RandomNumberGeneratorHolder"), (20, u "(JJ)J"), (50, u "negativeZeroFloatBits"), (0, u "J"), (2, u "negativeZeroDoubleBits"), (21, u "max"), (2, u "min"), (43, u "$assertionsDisabled"), (0, u "Z"), (88, u "(II)I"), (2, u "twoToTheDoubleScaleDown"), (0, u "D"), (4, u "twoToTheDoubleScaleUp"), (9, u "E"), (3, u "PI"), (2, u "TAU"), (2, u "DEGREES_TO_RADIANS"), (0, u "RADIANS_TO_DEGREES")] 94

def k2m0 : Method := { name := "<init>", desc := "()V", sig := { parameters := [], returnType := none }, accessFlags := 2, code := none }
def k2c1 : Code := { maxStack := 2, maxLocals := 2, code := jdk_29_method_65_code, exceptionTable := #[], attributes := #[] }
def k2m1 : Method := { name := "max", desc := "(II)I", sig := { parameters := [.int, .int], returnType := some .int }, accessFlags := 9, code := some k2c1 }
def k2c2 : Code := { maxStack := 4, maxLocals := 4, code := jdk_29_method_66_code, exceptionTable := #[], attributes := #[] }
def k2m2 : Method := { name := "max", desc := "(JJ)J", sig := { parameters := [.long, .long], returnType := some .long }, accessFlags := 9, code := some k2c2 }
def k2c3 : Code := { maxStack := 2, maxLocals := 2, code := jdk_29_method_69_code, exceptionTable := #[], attributes := #[] }
def k2m3 : Method := { name := "min", desc := "(II)I", sig := { parameters := [.int, .int], returnType := some .int }, accessFlags := 9, code := some k2c3 }
def k2c4 : Code := { maxStack := 4, maxLocals := 4, code := jdk_29_method_70_code, exceptionTable := #[], attributes := #[] }
def k2m4 : Method := { name := "min", desc := "(JJ)J", sig := { parameters := [.long, .long], returnType := some .long }, accessFlags := 9, code := some k2c4 }
/-- java/lang/Math -/
def k2 : Class := { plain "java/lang/Math" (some 0) with
  accessFlags := 49
  interfaces := #[]
  cf := some (fileOf pool2 1 #[.nestMembers #[98]] #[{ accessFlags := 2, nameIndex := 7, descriptorIndex := 8, attributes := #[] }, { accessFlags := 9, nameIndex := 198, descriptorIndex := 335, attributes := #[] }, { accessFlags := 9, nameIndex := 198, descriptorIndex := 121, attributes := #[] }, { accessFlags := 9, nameIndex := 201, descriptorIndex := 335, attributes := #[] }, { accessFlags := 9, nameIndex := 201, descriptorIndex := 121, attributes := #[] }] 49 4 #[] #[{ accessFlags := 25, nameIndex := 354, descriptorIndex := 339, attributes := #[] }, { accessFlags := 25, nameIndex := 358, descriptorIndex := 339, attributes := #[] }, { accessFlags := 25, nameIndex := 361, descriptorIndex := 339, attributes := #[] }, { accessFlags := 26, nameIndex := 364, descriptorIndex := 339, attributes := #[] }, { accessFlags := 26, nameIndex := 365, descriptorIndex := 339, attributes := #[] }, { accessFlags := 26, nameIndex := 172, descriptorIndex := 173, attributes := #[] }, { accessFlags := 26, nameIndex := 176, descriptorIndex := 173, attributes := #[] }, { accessFlags := 8, nameIndex := 344, descriptorIndex := 339, attributes := #[] }, { accessFlags := 8, nameIndex := 338, descriptorIndex := 339, attributes := #[] }, { accessFlags := 4120, nameIndex := 245, descriptorIndex := 246, attributes := #[] }])
  fields := #[{ name := "E", type := .double, accessFlags := 25, slot := 0, constantValue := 0 }, { name := "PI", type := .double, accessFlags := 25, slot := 1, constantValue := 0 }, { name := "TAU", type := .double, accessFlags := 25, slot := 2, constantValue := 0 }, { name := "DEGREES_TO_RADIANS", type := .double, accessFlags := 26, slot := 3, constantValue := 0 }, { name := "RADIANS_TO_DEGREES", type := .double, accessFlags := 26, slot := 4, constantValue := 0 }, { name := "negativeZeroFloatBits", type := .long, accessFlags := 26, slot := 5, constantValue := 0 }, { name := "negativeZeroDoubleBits", type := .long, accessFlags := 26, slot := 6, constantValue := 0 }, { name := "twoToTheDoubleScaleUp", type := .double, accessFlags := 8, slot := 7, constantValue := 0 }, { name := "twoToTheDoubleScaleDown", type := .double, accessFlags := 8, slot := 8, constantValue := 0 }, { name := "$assertionsDisabled", type := .boolean, accessFlags := 4120, slot := 9, constantValue := 0 }]
  methods := #[k2m0, k2m1, k2m2, k2m3, k2m4]
  instanceTypes := #[]
  staticTypes := #[.double, .double, .double, .double, .double, .long, .long, .double, .double, .boolean]
  resolved := Array.replicate 460 none
  statics := none }

def pool3 : Array CpInfo := pool [(1, .methodref 2 3), (0, .class_ 4), (0, .nameAndType 5 6), (0, u "java/lang/Object"), (0, u "<init>"), (0, u "()V"), (0, .class_ 8), (0, u "com/example/delta_mirror/deltamirror/rrdp/Base64Binary"), (0, .fieldref 7 10), (0, .nameAndType 11 12), (0, u "run"), (0, u "[B"), (0, .fieldref 7 14), (0, .nameAndType 15 12), (0, u "runBytes"), (0, .fieldref 7 17), (0, .nameAndType 18 12), (0, u "decoded"), (0, .fieldref 7 20), (0, .nameAndType 21 22), (0, u "maxBytes"), (0, u "I"), (0, .fieldref 7 24), (0, .nameAndType 25 22), (0, u "runLength"), (10, .methodref 7 37), (0, .nameAndType 38 39), (0, u "endsAsBase64Binary"), (0, u "()Z"), (2, .methodref 7 43), (0, .nameAndType 44 6), (0, u "decodeRun"), (0, .fieldref 7 46), (0, .nameAndType 47 22), (0, u "decodedLength"), (0, .methodref 49 50), (0, .class_ 51), (0, .nameAndType 52 53), (0, u "java/util/Arrays"), (0, u "copyOf"), (0, u "([BI)[B"), (2, .fieldref 7 57), (0, .nameAndType 58 59), (0, u "DECODER"), (0, u "Ljava/util/Base64$Decoder;"), (0, .methodref 61 62), (0, .class_ 63), (0, .nameAndType 64 65), (0, u "java/util/Base64$Decoder"), (0, u "decode"), (0, u "([B[B)I"), (22, .class_ 90), (1, u "java/lang/String"), (2, .long 2), (1, .methodref 96 97), (0, .class_ 98), (0, .nameAndType 99 100), (0, u "java/lang/Math"), (0, u "max"), (0, u "(JJ)J"), (0, .methodref 96 102), (0, .nameAndType 103 100), (0, u "min"), (0, .methodref 105 106), (0, .class_ 107), (0, .nameAndType 108 109), (0, u "java/lang/System"), (0, u "arraycopy"), (0, u "(Ljava/lang/Object;ILjava/lang/Object;II)V"), (0, .string 111), (0, u "AQgw"), (0, .methodref 88 113), (0, .nameAndType 114 115), (0, u "indexOf"), (0, u "(I)I"), (0, .string 117), (0, u "AEIMQUYcgkosw048"), (6, u "RUN"), (2, u "BEFORE_TWO_PADS"), (0, u "Ljava/lang/String;"), (0, u "BEFORE_ONE_PAD"), (0, u "(I)V"), (2, u "append"), (0, u "([CII)V"), (5, u "finish"), (0, u "()[B")] 19

def k3c0 : Code := { maxStack := 2, maxLocals := 2, code := prog_3_method_1_code, exceptionTable := #[], attributes := #[] }
def k3m0 : Method := { name := "<init>", desc := "(I)V", sig := { parameters := [.int], returnType := none }, accessFlags := 0, code := some k3c0 }
def k3c1 : Code := { maxStack := 3, maxLocals := 9, code := prog_3_method_2_code, exceptionTable := #[], attributes := #[] }
def k3m1 : Method := { name := "append", desc := "([CII)V", sig := { parameters := [(.array .char), .int, .int], returnType := none }, accessFlags := 0, code := some k3c1 }
def k3c2 : Code := { maxStack := 3, maxLocals := 2, code := prog_3_method_3_code, exceptionTable := #[], attributes := #[] }
def k3m2 : Method := { name := "finish", desc := "()[B", sig := { parameters := [], returnType := some (.array .byte) }, accessFlags := 0, code := some k3c2 }
def k3c3 : Code := { maxStack := 8, maxLocals := 5, code := prog_3_method_5_code, exceptionTable := #[{ startPc := 29, endPc := 41, handlerPc := 44, catchType := 66 }], attributes := #[] }
def k3m3 : Method := { name := "decodeRun", desc := "()V", sig := { parameters := [], returnType := none }, accessFlags := 2, code := some k3c3 }
def k3c4 : Code := { maxStack := 4, maxLocals := 2, code := prog_3_method_6_code, exceptionTable := #[], attributes := #[] }
def k3m4 : Method := { name := "endsAsBase64Binary", desc := "()Z", sig := { parameters := [], returnType := some .boolean }, accessFlags := 2, code := some k3c4 }
/-- com/example/delta_mirror/deltamirror/rrdp/Base64Binary -/
def k3 : Class := { plain "com/example/delta_mirror/deltamirror/rrdp/Base64Binary" (some 0) with
  accessFlags := 32
  interfaces := #[]
  cf := some (fileOf pool3 7 #[] #[{ accessFlags := 0, nameIndex := 5, descriptorIndex := 130, attributes := #[] }, { accessFlags := 0, nameIndex := 133, descriptorIndex := 134, attributes := #[] }, { accessFlags := 0, nameIndex := 140, descriptorIndex := 141, attributes := #[] }, { accessFlags := 2, nameIndex := 44, descriptorIndex := 6, attributes := #[] }, { accessFlags := 2, nameIndex := 38, descriptorIndex := 39, attributes := #[] }] 32 2 #[] #[{ accessFlags := 24, nameIndex := 124, descriptorIndex := 22, attributes := #[] }, { accessFlags := 26, nameIndex := 127, descriptorIndex := 128, attributes := #[] }, { accessFlags := 26, nameIndex := 129, descriptorIndex := 128, attributes := #[] }, { accessFlags := 26, nameIndex := 58, descriptorIndex := 59, attributes := #[] }, { accessFlags := 18, nameIndex := 21, descriptorIndex := 22, attributes := #[] }, { accessFlags := 18, nameIndex := 11, descriptorIndex := 12, attributes := #[] }, { accessFlags := 18, nameIndex := 15, descriptorIndex := 12, attributes := #[] }, { accessFlags := 2, nameIndex := 25, descriptorIndex := 22, attributes := #[] }, { accessFlags := 2, nameIndex := 18, descriptorIndex := 12, attributes := #[] }, { accessFlags := 2, nameIndex := 47, descriptorIndex := 22, attributes := #[] }])
  fields := #[{ name := "RUN", type := .int, accessFlags := 24, slot := 0, constantValue := 0 }, { name := "BEFORE_TWO_PADS", type := (.object "java/lang/String"), accessFlags := 26, slot := 1, constantValue := 0 }, { name := "BEFORE_ONE_PAD", type := (.object "java/lang/String"), accessFlags := 26, slot := 2, constantValue := 0 }, { name := "DECODER", type := (.object "java/util/Base64$Decoder"), accessFlags := 26, slot := 3, constantValue := 0 }, { name := "maxBytes", type := .int, accessFlags := 18, slot := 0, constantValue := 0 }, { name := "run", type := (.array .byte), accessFlags := 18, slot := 1, constantValue := 0 }, { name := "runBytes", type := (.array .byte), accessFlags := 18, slot := 2, constantValue := 0 }, { name := "runLength", type := .int, accessFlags := 2, slot := 3, constantValue := 0 }, { name := "decoded", type := (.array .byte), accessFlags := 2, slot := 4, constantValue := 0 }, { name := "decodedLength", type := .int, accessFlags := 2, slot := 5, constantValue := 0 }]
  methods := #[k3m0, k3m1, k3m2, k3m3, k3m4]
  instanceTypes := #[.int, (.array .byte), (.array .byte), .int, (.array .byte), .int]
  staticTypes := #[.int, (.object "java/lang/String"), (.object "java/lang/String"), (.object "java/util/Base64$Decoder")]
  resolved := Array.replicate 161 none
  statics := some 0 }

def pool4 : Array CpInfo := pool [(1, .class_ 2), (0, u "java/io/Serializable"), (0, .class_ 4), (0, u "java/lang/Object")] 2

/-- java/io/Serializable -/
def k4 : Class := { plain "java/io/Serializable" (some 0) with
  accessFlags := 1537
  interfaces := #[]
  cf := some (fileOf pool4 1 #[] #[] 1537 3 #[] #[])
  fields := #[]
  methods := #[]
  instanceTypes := #[]
  staticTypes := #[]
  resolved := Array.replicate 7 none
  statics := none }

def pool5 : Array CpInfo := pool [(1, .class_ 2), (0, u "java/lang/Comparable"), (0, .class_ 4), (0, u "java/lang/Object")] 7

/-- java/lang/Comparable -/
def k5 : Class := { plain "java/lang/Comparable" (some 0) with
  accessFlags := 1537
  interfaces := #[]
  cf := some (fileOf pool5 1 #[] #[] 1537 3 #[] #[])
  fields := #[]
  methods := #[]
  instanceTypes := #[]
  staticTypes := #[]
  resolved := Array.replicate 12 none
  statics := none }

def pool6 : Array CpInfo := pool [(2, .class_ 4), (1, u "java/lang/CharSequence"), (42, .class_ 48), (0, u "java/lang/CharSequence$1CodePointIterator"), (10, .class_ 60), (0, u "java/lang/CharSequence$1CharIterator"), (5, .class_ 67), (0, u "java/lang/Object")] 63

/-- java/lang/CharSequence -/
def k6 : Class := { plain "java/lang/CharSequence" (some 0) with
  accessFlags := 1537
  interfaces := #[]
  cf := some (fileOf pool6 2 #[.nestMembers #[47, 59]] #[] 1537 66 #[] #[])
  fields := #[]
  methods := #[]
  instanceTypes := #[]
  staticTypes := #[]
  resolved := Array.replicate 131 none
  statics := none }

def pool7 : Array CpInfo := pool [(1, .class_ 2), (0, u "java/lang/constant/Constable"), (0, .class_ 4), (0, u "java/lang/Object")] 6

/-- java/lang/constant/Constable -/
def k7 : Class := { plain "java/lang/constant/Constable" (some 0) with
  accessFlags := 1537
  interfaces := #[]
  cf := some (fileOf pool7 1 #[] #[] 1537 3 #[] #[])
  fields := #[]
  methods := #[]
  instanceTypes := #[]
  staticTypes := #[]
  resolved := Array.replicate 11 none
  statics := none }

def pool8 : Array CpInfo := pool [(1, .class_ 2), (0, u "java/lang/constant/ConstantDesc"), (0, .class_ 4), (0, u "java/lang/Object")] 32

/-- java/lang/constant/ConstantDesc -/
def k8 : Class := { plain "java/lang/constant/ConstantDesc" (some 0) with
  accessFlags := 1537
  interfaces := #[]
  cf := some (fileOf pool8 1 #[] #[] 1537 3 #[] #[])
  fields := #[]
  methods := #[]
  instanceTypes := #[]
  staticTypes := #[]
  resolved := Array.replicate 37 none
  statics := none }

def pool9 : Array CpInfo := pool [(2, .class_ 4), (1, u "java/lang/Object"), (0, u "<init>"), (0, u "()V"), (2, .fieldref 10 11), (0, .class_ 12), (0, .nameAndType 13 14), (0, u "java/lang/String"), (0, u "value"), (0, u "[B"), (0, .fieldref 10 16), (0, .nameAndType 17 18), (0, u "coder"), (0, u "B"), (2, u "hash"), (0, u "I"), (2, u "hashIsZero"), (0, u "Z"), (11, .fieldref 10 39), (0, .nameAndType 40 26), (0, u "COMPACT_STRINGS"), (66, .class_ 109), (1, u "java/lang/StringLatin1"), (32, u "()Z"), (191, u "()I"), (0, .methodref 10 336), (0, .nameAndType 17 337), (0, u "()B"), (154, .methodref 10 493), (0, .nameAndType 494 142), (0, u "isLatin1"), (10, .methodref 10 506), (0, .nameAndType 507 334), (0, u "length"), (67, .class_ 576), (0, u "java/lang/CharSequence"), (22, u "CASE_INSENSITIVE_ORDER"), (0, u "Ljava/util/Comparator;"), (32, .methodref 10 634), (0, .nameAndType 635 636), (0, u "indexOf"), (0, u "(II)I"), (0, .methodref 107 638), (0, .nameAndType 635 639), (0, u "([BIII)I"), (125, u "(I)I"), (335, u "serialPersistentFields"), (0, u "[Ljava/io/ObjectStreamField;"), (0, .class_ 1104), (0, u "java/lang/String$CaseInsensitiveComparator"), (1, .class_ 1107), (0, u "java/io/Serializable"), (0, .class_ 1109), (0, u "java/lang/Comparable"), (0, .class_ 1111), (0, u "java/lang/constant/Constable"), (0, .class_ 1113), (0, u "java/lang/constant/ConstantDesc"), (2, u "serialVersionUID"), (0, u "J"), (3, u "REPL"), (0, u "C"), (2, u "LATIN1"), (1, u "UTF16")] 323

def k9m0 : Method := { name := "<init>", desc := "()V", sig := { parameters := [], returnType := none }, accessFlags := 1, code := none }
def k9c1 : Code := { maxStack := 2, maxLocals := 1, code := jdk_42_method_54_code, exceptionTable := #[], attributes := #[] }
def k9m1 : Method := { name := "length", desc := "()I", sig := { parameters := [], returnType := some .int }, accessFlags := 1, code := some k9c1 }
def k9c2 : Code := { maxStack := 3, maxLocals := 2, code := jdk_42_method_79_code, exceptionTable := #[], attributes := #[] }
def k9m2 : Method := { name := "indexOf", desc := "(I)I", sig := { parameters := [.int], returnType := some .int }, accessFlags := 1, code := some k9c2 }
def k9c3 : Code := { maxStack := 4, maxLocals := 3, code := jdk_42_method_80_code, exceptionTable := #[], attributes := #[] }
def k9m3 : Method := { name := "indexOf", desc := "(II)I", sig := { parameters := [.int, .int], returnType := some .int }, accessFlags := 1, code := some k9c3 }
def k9c4 : Code := { maxStack := 1, maxLocals := 1, code := jdk_42_method_152_code, exceptionTable := #[], attributes := #[] }
def k9m4 : Method := { name := "coder", desc := "()B", sig := { parameters := [], returnType := some .byte }, accessFlags := 0, code := some k9c4 }
def k9c5 : Code := { maxStack := 1, maxLocals := 1, code := jdk_42_method_154_code, exceptionTable := #[], attributes := #[] }
def k9m5 : Method := { name := "isLatin1", desc := "()Z", sig := { parameters := [], returnType := some .boolean }, accessFlags := 0, code := some k9c5 }
/-- java/lang/String -/
def k9 : Class := { plain "java/lang/String" (some 0) with
  accessFlags := 49
  interfaces := #[4, 5, 6, 7, 8]
  cf := some (fileOf pool9 10 #[.nestMembers #[1103]] #[{ accessFlags := 1, nameIndex := 5, descriptorIndex := 6, attributes := #[] }, { accessFlags := 1, nameIndex := 507, descriptorIndex := 334, attributes := #[] }, { accessFlags := 1, nameIndex := 635, descriptorIndex := 765, attributes := #[] }, { accessFlags := 1, nameIndex := 635, descriptorIndex := 636, attributes := #[] }, { accessFlags := 0, nameIndex := 17, descriptorIndex := 337, attributes := #[] }, { accessFlags := 0, nameIndex := 494, descriptorIndex := 142, attributes := #[] }] 49 2 #[1106, 1108, 575, 1110, 1112] #[{ accessFlags := 18, nameIndex := 13, descriptorIndex := 14, attributes := #[] }, { accessFlags := 18, nameIndex := 17, descriptorIndex := 18, attributes := #[] }, { accessFlags := 2, nameIndex := 21, descriptorIndex := 22, attributes := #[] }, { accessFlags := 2, nameIndex := 25, descriptorIndex := 26, attributes := #[] }, { accessFlags := 26, nameIndex := 1116, descriptorIndex := 1117, attributes := #[] }, { accessFlags := 24, nameIndex := 40, descriptorIndex := 26, attributes := #[] }, { accessFlags := 26, nameIndex := 1101, descriptorIndex := 1102, attributes := #[] }, { accessFlags := 26, nameIndex := 1121, descriptorIndex := 1122, attributes := #[] }, { accessFlags := 25, nameIndex := 599, descriptorIndex := 600, attributes := #[] }, { accessFlags := 24, nameIndex := 1125, descriptorIndex := 18, attributes := #[] }, { accessFlags := 24, nameIndex := 1127, descriptorIndex := 18, attributes := #[] }])
  fields := #[{ name := "value", type := (.array .byte), accessFlags := 18, slot := 0, constantValue := 0 }, { name := "coder", type := .byte, accessFlags := 18, slot := 1, constantValue := 0 }, { name := "hash", type := .int, accessFlags := 2, slot := 2, constantValue := 0 }, { name := "hashIsZero", type := .boolean, accessFlags := 2, slot := 3, constantValue := 0 }, { name := "serialVersionUID", type := .long, accessFlags := 26, slot := 0, constantValue := 0 }, { name := "COMPACT_STRINGS", type := .boolean, accessFlags := 24, slot := 1, constantValue := 0 }, { name := "serialPersistentFields", type := (.array (.object "java/io/ObjectStreamField")), accessFlags := 26, slot := 2, constantValue := 0 }, { name := "REPL", type := .char, accessFlags := 26, slot := 3, constantValue := 0 }, { name := "CASE_INSENSITIVE_ORDER", type := (.object "java/util/Comparator"), accessFlags := 25, slot := 4, constantValue := 0 }, { name := "LATIN1", type := .byte, accessFlags := 24, slot := 5, constantValue := 0 }, { name := "UTF16", type := .byte, accessFlags := 24, slot := 6, constantValue := 0 }]
  methods := #[k9m0, k9m1, k9m2, k9m3, k9m4, k9m5]
  instanceTypes := #[(.array .byte), .byte, .int, .boolean]
  staticTypes := #[.long, .boolean, (.array (.object "java/io/ObjectStreamField")), .char, (.object "java/util/Comparator"), .byte, .byte]
  resolved := Array.replicate 1451 none
  statics := some 1 }

def pool10 : Array CpInfo := pool [(4, .class_ 6), (1, u "java/lang/Object"), (0, u "<init>"), (0, u "()V"), (5, .class_ 16), (1, u "java/lang/StringLatin1"), (21, .methodref 39 40), (0, .class_ 41), (0, .nameAndType 42 43), (0, u "java/lang/Math"), (0, u "min"), (0, u "(II)I"), (44, .methodref 14 89), (0, .nameAndType 90 91), (0, u "canEncode"), (0, u "(I)Z"), (0, .methodref 39 93), (0, .nameAndType 94 43), (0, u "max"), (0, .methodref 14 96), (0, .nameAndType 97 98), (0, u "indexOfChar"), (0, u "([BIII)I"), (2, u "indexOf"), (19, u "$assertionsDisabled"), (0, u "Z"), (98, .class_ 223), (1, u "java/lang/StringLatin1$LinesSpliterator"), (166, .class_ 391), (0, u "java/lang/StringLatin1$CharsSpliterator")] 3

def k10m0 : Method := { name := "<init>", desc := "()V", sig := { parameters := [], returnType := none }, accessFlags := 0, code := none }
def k10c1 : Code := { maxStack := 2, maxLocals := 1, code := jdk_43_method_4_code, exceptionTable := #[], attributes := #[] }
def k10m1 : Method := { name := "canEncode", desc := "(I)Z", sig := { parameters := [.int], returnType := some .boolean }, accessFlags := 9, code := some k10c1 }
def k10c2 : Code := { maxStack := 4, maxLocals := 4, code := jdk_43_method_22_code, exceptionTable := #[], attributes := #[] }
def k10m2 : Method := { name := "indexOf", desc := "([BIII)I", sig := { parameters := [(.array .byte), .int, .int, .int], returnType := some .int }, accessFlags := 9, code := some k10c2 }
def k10c3 : Code := { maxStack := 2, maxLocals := 6, code := jdk_43_method_23_code, exceptionTable := #[], attributes := #[] }
def k10m3 : Method := { name := "indexOfChar", desc := "([BIII)I", sig := { parameters := [(.array .byte), .int, .int, .int], returnType := some .int }, accessFlags := 10, code := some k10c3 }
/-- java/lang/StringLatin1 -/
def k10 : Class := { plain "java/lang/StringLatin1" (some 0) with
  accessFlags := 48
  interfaces := #[]
  cf := some (fileOf pool10 14 #[.nestMembers #[390, 221]] #[{ accessFlags := 0, nameIndex := 7, descriptorIndex := 8, attributes := #[] }, { accessFlags := 9, nameIndex := 90, descriptorIndex := 91, attributes := #[] }, { accessFlags := 9, nameIndex := 101, descriptorIndex := 98, attributes := #[] }, { accessFlags := 10, nameIndex := 97, descriptorIndex := 98, attributes := #[] }] 48 4 #[] #[{ accessFlags := 4120, nameIndex := 121, descriptorIndex := 122, attributes := #[] }])
  fields := #[{ name := "$assertionsDisabled", type := .boolean, accessFlags := 4120, slot := 0, constantValue := 0 }]
  methods := #[k10m0, k10m1, k10m2, k10m3]
  instanceTypes := #[]
  staticTypes := #[.boolean]
  resolved := Array.replicate 395 none
  statics := none }

def pool11 : Array CpInfo := pool [(2, .class_ 4), (1, u "java/lang/Object"), (0, u "<init>"), (0, u "()V"), (7, .class_ 16), (1, u "java/util/Arrays"), (57, .class_ 76), (1, u "java/util/Arrays$NaturalOrder"), (32, u "()Ljava/lang/Object;"), (3, .class_ 115), (1, u "java/util/Arrays$LegacyMergeSort"), (1, u "Z"), (10, .nameAndType 129 109), (0, u "clone"), (20, .methodref 151 152), (0, .class_ 153), (0, .nameAndType 154 155), (0, u "java/lang/System"), (0, u "arraycopy"), (0, u "(Ljava/lang/Object;ILjava/lang/Object;II)V"), (146, u "copyOf"), (1, .methodref 305 306), (0, .class_ 307), (0, .nameAndType 308 309), (0, u "java/lang/Math"), (0, u "min"), (0, u "(II)I"), (0, .methodref 311 128), (0, .class_ 312), (0, u "[B"), (62, .class_ 376), (0, u "java/util/Arrays$ArrayList"), (68, u "$assertionsDisabled"), (269, u "MIN_ARRAY_SORT_GRAN"), (0, u "I"), (2, u "INSERTIONSORT_THRESHOLD"), (149, u "([BI)[B"), (105, .class_ 976), (0, u "java/util/Arrays$ArrayItr")] 52

def k11m0 : Method := { name := "<init>", desc := "()V", sig := { parameters := [], returnType := none }, accessFlags := 2, code := none }
def k11c1 : Code := { maxStack := 6, maxLocals := 3, code := jdk_65_method_121_code, exceptionTable := #[], attributes := #[] }
def k11m1 : Method := { name := "copyOf", desc := "([BI)[B", sig := { parameters := [(.array .byte), .int], returnType := some (.array .byte) }, accessFlags := 9, code := some k11c1 }
/-- java/util/Arrays -/
def k11 : Class := { plain "java/util/Arrays" (some 0) with
  accessFlags := 49
  interfaces := #[]
  cf := some (fileOf pool11 14 #[.nestMembers #[975, 375, 113, 74]] #[{ accessFlags := 2, nameIndex := 5, descriptorIndex := 6, attributes := #[] }, { accessFlags := 9, nameIndex := 302, descriptorIndex := 869, attributes := #[] }] 49 2 #[] #[{ accessFlags := 26, nameIndex := 715, descriptorIndex := 716, attributes := #[] }, { accessFlags := 26, nameIndex := 719, descriptorIndex := 716, attributes := #[] }, { accessFlags := 4120, nameIndex := 445, descriptorIndex := 117, attributes := #[] }])
  fields := #[{ name := "MIN_ARRAY_SORT_GRAN", type := .int, accessFlags := 26, slot := 0, constantValue := 0 }, { name := "INSERTIONSORT_THRESHOLD", type := .int, accessFlags := 26, slot := 1, constantValue := 0 }, { name := "$assertionsDisabled", type := .boolean, accessFlags := 4120, slot := 2, constantValue := 0 }]
  methods := #[k11m0, k11m1]
  instanceTypes := #[]
  staticTypes := #[.int, .int, .boolean]
  resolved := Array.replicate 1029 none
  statics := none }

def pool12 : Array CpInfo := pool [(2, .class_ 4), (1, u "java/lang/Object"), (0, u "<init>"), (0, u "()V"), (1, .class_ 10), (1, u "java/lang/System"), (0, u "allowSecurityManager"), (0, u "I"), (16, u "cons"), (0, u "Ljava/io/Console;"), (77, .class_ 110), (1, u "java/lang/System$CallersHolder"), (43, u "initialErrStream"), (0, u "Ljava/io/PrintStream;"), (19, u "security"), (0, u "Ljava/lang/SecurityManager;"), (31, .class_ 209), (0, u "java/lang/System$1"), (7, u "props"), (0, u "Ljava/util/Properties;"), (2, u "lineSeparator"), (0, u "Ljava/lang/String;"), (96, .class_ 321), (1, u "java/lang/System$LoggerFinder"), (5, .class_ 328), (0, u "java/lang/System$Logger"), (67, u "err"), (2, u "out"), (91, u "notSupportedJnuEncoding"), (15, u "in"), (17, u "initialIn"), (0, u "Ljava/io/InputStream;"), (35, u "bootLayer"), (0, u "Ljava/lang/ModuleLayer;"), (99, .class_ 664), (0, u "java/lang/System$2"), (9, u "NEVER"), (2, u "MAYBE"), (49, u "arraycopy"), (0, u "(Ljava/lang/Object;ILjava/lang/Object;II)V"), (72, .class_ 802), (0, u "java/lang/System$Logger$Level")] 31

def k12m0 : Method := { name := "<init>", desc := "()V", sig := { parameters := [], returnType := none }, accessFlags := 2, code := none }
def k12m1 : Method := { name := "arraycopy", desc := "(Ljava/lang/Object;ILjava/lang/Object;II)V", sig := { parameters := [(.object "java/lang/Object"), .int, (.object "java/lang/Object"), .int, .int], returnType := none }, accessFlags := 265, code := none }
/-- java/lang/System -/
def k12 : Class := { plain "java/lang/System" (some 0) with
  accessFlags := 49
  interfaces := #[]
  cf := some (fileOf pool12 8 #[.nestMembers #[319, 327, 801, 108, 663, 208]] #[{ accessFlags := 2, nameIndex := 5, descriptorIndex := 6, attributes := #[] }, { accessFlags := 265, nameIndex := 727, descriptorIndex := 728, attributes := #[] }] 49 2 #[] #[{ accessFlags := 25, nameIndex := 507, descriptorIndex := 526, attributes := #[] }, { accessFlags := 25, nameIndex := 399, descriptorIndex := 155, attributes := #[] }, { accessFlags := 25, nameIndex := 396, descriptorIndex := 155, attributes := #[] }, { accessFlags := 10, nameIndex := 525, descriptorIndex := 526, attributes := #[] }, { accessFlags := 26, nameIndex := 674, descriptorIndex := 12, attributes := #[] }, { accessFlags := 26, nameIndex := 677, descriptorIndex := 12, attributes := #[] }, { accessFlags := 10, nameIndex := 11, descriptorIndex := 12, attributes := #[] }, { accessFlags := 74, nameIndex := 175, descriptorIndex := 176, attributes := #[] }, { accessFlags := 10, nameIndex := 491, descriptorIndex := 222, attributes := #[] }, { accessFlags := 74, nameIndex := 29, descriptorIndex := 30, attributes := #[] }, { accessFlags := 74, nameIndex := 154, descriptorIndex := 155, attributes := #[] }, { accessFlags := 10, nameIndex := 217, descriptorIndex := 218, attributes := #[] }, { accessFlags := 10, nameIndex := 221, descriptorIndex := 222, attributes := #[] }, { accessFlags := 8, nameIndex := 562, descriptorIndex := 563, attributes := #[] }])
  fields := #[{ name := "in", type := (.object "java/io/InputStream"), accessFlags := 25, slot := 0, constantValue := 0 }, { name := "out", type := (.object "java/io/PrintStream"), accessFlags := 25, slot := 1, constantValue := 0 }, { name := "err", type := (.object "java/io/PrintStream"), accessFlags := 25, slot := 2, constantValue := 0 }, { name := "initialIn", type := (.object "java/io/InputStream"), accessFlags := 10, slot := 3, constantValue := 0 }, { name := "NEVER", type := .int, accessFlags := 26, slot := 4, constantValue := 0 }, { name := "MAYBE", type := .int, accessFlags := 26, slot := 5, constantValue := 0 }, { name := "allowSecurityManager", type := .int, accessFlags := 10, slot := 6, constantValue := 0 }, { name := "security", type := (.object "java/lang/SecurityManager"), accessFlags := 74, slot := 7, constantValue := 0 }, { name := "notSupportedJnuEncoding", type := (.object "java/lang/String"), accessFlags := 10, slot := 8, constantValue := 0 }, { name := "cons", type := (.object "java/io/Console"), accessFlags := 74, slot := 9, constantValue := 0 }, { name := "initialErrStream", type := (.object "java/io/PrintStream"), accessFlags := 74, slot := 10, constantValue := 0 }, { name := "props", type := (.object "java/util/Properties"), accessFlags := 10, slot := 11, constantValue := 0 }, { name := "lineSeparator", type := (.object "java/lang/String"), accessFlags := 10, slot := 12, constantValue := 0 }, { name := "bootLayer", type := (.object "java/lang/ModuleLayer"), accessFlags := 8, slot := 13, constantValue := 0 }]
  methods := #[k12m0, k12m1]
  instanceTypes := #[]
  staticTypes := #[(.object "java/io/InputStream"), (.object "java/io/PrintStream"), (.object "java/io/PrintStream"), (.object "java/io/InputStream"), .int, .int, .int, (.object "java/lang/SecurityManager"), (.object "java/lang/String"), (.object "java/io/Console"), (.object "java/io/PrintStream"), (.object "java/util/Properties"), (.object "java/lang/String"), (.object "java/lang/ModuleLayer")]
  resolved := Array.replicate 834 none
  statics := none }

def pool13 : Array CpInfo := pool [(2, .class_ 4), (1, u "java/lang/Object"), (2, .fieldref 8 9), (0, .class_ 10), (0, .nameAndType 11 12), (0, u "java/util/Base64$Decoder"), (0, u "isURL"), (0, u "Z"), (0, .fieldref 8 14), (0, .nameAndType 15 12), (0, u "isMIME"), (0, .methodref 8 17), (0, .nameAndType 18 19), (0, u "decodedOutLength"), (0, u "([BII)I"), (0, .methodref 8 21), (0, .nameAndType 22 23), (0, u "decode0"), (0, u "([BII[B)I"), (20, u "decode"), (52, u "fromBase64URL"), (0, u "[I"), (0, .fieldref 8 100), (0, .nameAndType 101 98), (0, u "fromBase64"), (5, .long 3), (1, .long 4), (1, .methodref 8 112), (0, .nameAndType 113 114), (0, u "decodeBlock"), (0, u "([BII[BIZZ)I"), (45, u "RFC4648"), (0, u "Ljava/util/Base64$Decoder;"), (2, u "RFC4648_URLSAFE"), (2, u "RFC2045"), (13, u "([B[B)I"), (38, .class_ 221), (0, u "java/util/Base64")] 4

def k13c0 : Code := { maxStack := 5, maxLocals := 4, code := jdk_2450_method_4_code, exceptionTable := #[], attributes := #[] }
def k13m0 : Method := { name := "decode", desc := "([B[B)I", sig := { parameters := [(.array .byte), (.array .byte)], returnType := some .int }, accessFlags := 1, code := some k13c0 }
def k13c1 : Code := { maxStack := 5, maxLocals := 9, code := jdk_2450_method_7_code, exceptionTable := #[], attributes := #[] }
def k13m1 : Method := { name := "decodedOutLength", desc := "([BII)I", sig := { parameters := [(.array .byte), .int, .int], returnType := some .int }, accessFlags := 2, code := some k13c1 }
def k13c2 : Code := { maxStack := 4, maxLocals := 16, code := jdk_2450_method_8_code, exceptionTable := #[], attributes := #[] }
def k13m2 : Method := { name := "decodeBlock", desc := "([BII[BIZZ)I", sig := { parameters := [(.array .byte), .int, .int, (.array .byte), .int, .boolean, .boolean], returnType := some .int }, accessFlags := 2, code := some k13c2 }
def k13c3 : Code := { maxStack := 8, maxLocals := 11, code := jdk_2450_method_9_code, exceptionTable := #[], attributes := #[] }
def k13m3 : Method := { name := "decode0", desc := "([BII[B)I", sig := { parameters := [(.array .byte), .int, .int, (.array .byte)], returnType := some .int }, accessFlags := 2, code := some k13c3 }
/-- java/util/Base64$Decoder -/
def k13 : Class := { plain "java/util/Base64$Decoder" (some 0) with
  accessFlags := 33
  interfaces := #[]
  cf := some (fileOf pool13 8 #[.nestHost 220] #[{ accessFlags := 1, nameIndex := 44, descriptorIndex := 181, attributes := #[] }, { accessFlags := 2, nameIndex := 18, descriptorIndex := 19, attributes := #[] }, { accessFlags := 2, nameIndex := 113, descriptorIndex := 114, attributes := #[] }, { accessFlags := 2, nameIndex := 22, descriptorIndex := 23, attributes := #[] }] 33 2 #[] #[{ accessFlags := 18, nameIndex := 11, descriptorIndex := 12, attributes := #[] }, { accessFlags := 18, nameIndex := 15, descriptorIndex := 12, attributes := #[] }, { accessFlags := 26, nameIndex := 101, descriptorIndex := 98, attributes := #[] }, { accessFlags := 26, nameIndex := 97, descriptorIndex := 98, attributes := #[] }, { accessFlags := 24, nameIndex := 160, descriptorIndex := 161, attributes := #[] }, { accessFlags := 24, nameIndex := 164, descriptorIndex := 161, attributes := #[] }, { accessFlags := 24, nameIndex := 167, descriptorIndex := 161, attributes := #[] }])
  fields := #[{ name := "isURL", type := .boolean, accessFlags := 18, slot := 0, constantValue := 0 }, { name := "isMIME", type := .boolean, accessFlags := 18, slot := 1, constantValue := 0 }, { name := "fromBase64", type := (.array .int), accessFlags := 26, slot := 0, constantValue := 0 }, { name := "fromBase64URL", type := (.array .int), accessFlags := 26, slot := 1, constantValue := 0 }, { name := "RFC4648", type := (.object "java/util/Base64$Decoder"), accessFlags := 24, slot := 2, constantValue := 0 }, { name := "RFC4648_URLSAFE", type := (.object "java/util/Base64$Decoder"), accessFlags := 24, slot := 3, constantValue := 0 }, { name := "RFC2045", type := (.object "java/util/Base64$Decoder"), accessFlags := 24, slot := 4, constantValue := 0 }]
  methods := #[k13m0, k13m1, k13m2, k13m3]
  instanceTypes := #[.boolean, .boolean]
  staticTypes := #[(.array .int), (.array .int), (.object "java/util/Base64$Decoder"), (.object "java/util/Base64$Decoder"), (.object "java/util/Base64$Decoder")]
  resolved := Array.replicate 226 none
  statics := some 2 }

def pool14 : Array CpInfo := pool [(1, .class_ 2), (0, u "java/lang/Cloneable"), (0, .class_ 4), (0, u "java/lang/Object")] 2

/-- java/lang/Cloneable -/
def k14 : Class := { plain "java/lang/Cloneable" (some 0) with
  accessFlags := 1537
  interfaces := #[]
  cf := some (fileOf pool14 1 #[] #[] 1537 3 #[] #[])
  fields := #[]
  methods := #[]
  instanceTypes := #[]
  staticTypes := #[]
  resolved := Array.replicate 7 none
  statics := none }

def pool15 : Array CpInfo := pool [(2, .class_ 4), (1, u "java/lang/Object"), (0, u "<init>"), (0, u "()V"), (17, .class_ 26), (1, u "jdk/internal/util/Preconditions"), (28, .class_ 56), (0, u "jdk/internal/util/Preconditions$4"), (57, .class_ 115), (0, u "jdk/internal/util/Preconditions$1"), (7, u "SIOOBE_FORMATTER"), (0, u "Ljava/util/function/BiFunction;"), (0, .class_ 126), (0, u "jdk/internal/util/Preconditions$2"), (3, u "AIOOBE_FORMATTER"), (0, .class_ 132), (0, u "jdk/internal/util/Preconditions$3"), (3, u "IOOBE_FORMATTER")] 57

def k15m0 : Method := { name := "<init>", desc := "()V", sig := { parameters := [], returnType := none }, accessFlags := 1, code := none }
/-- jdk/internal/util/Preconditions -/
def k15 : Class := { plain "jdk/internal/util/Preconditions" (some 0) with
  accessFlags := 33
  interfaces := #[]
  cf := some (fileOf pool15 24 #[.nestMembers #[55, 131, 125, 114]] #[{ accessFlags := 1, nameIndex := 5, descriptorIndex := 6, attributes := #[] }] 33 2 #[] #[{ accessFlags := 25, nameIndex := 123, descriptorIndex := 124, attributes := #[] }, { accessFlags := 25, nameIndex := 130, descriptorIndex := 124, attributes := #[] }, { accessFlags := 25, nameIndex := 136, descriptorIndex := 124, attributes := #[] }])
  fields := #[{ name := "SIOOBE_FORMATTER", type := (.object "java/util/function/BiFunction"), accessFlags := 25, slot := 0, constantValue := 0 }, { name := "AIOOBE_FORMATTER", type := (.object "java/util/function/BiFunction"), accessFlags := 25, slot := 1, constantValue := 0 }, { name := "IOOBE_FORMATTER", type := (.object "java/util/function/BiFunction"), accessFlags := 25, slot := 2, constantValue := 0 }]
  methods := #[k15m0]
  instanceTypes := #[]
  staticTypes := #[(.object "java/util/function/BiFunction"), (.object "java/util/function/BiFunction"), (.object "java/util/function/BiFunction")]
  resolved := Array.replicate 194 none
  statics := some 3 }

/-- the primitive byte -/
def k16 : Class := { plain "byte" none with kind := .primitive 'B', accessFlags := 0x411 }
/-- [B -/
def k17 : Class := { plain "[B" (some 0) with kind := .array 16 .byte, interfaces := #[14, 4], accessFlags := 1041 }

/-- the primitive char -/
def k18 : Class := { plain "char" none with kind := .primitive 'C', accessFlags := 0x411 }
/-- [C -/
def k19 : Class := { plain "[C" (some 0) with kind := .array 18 .char, interfaces := #[14, 4], accessFlags := 1041 }

/-- the primitive int -/
def k20 : Class := { plain "int" none with kind := .primitive 'I', accessFlags := 0x411 }
/-- [I -/
def k21 : Class := { plain "[I" (some 0) with kind := .array 20 .int, interfaces := #[14, 4], accessFlags := 1041 }

def heap : Heap := #[{ cls := 3, slots := #[.int 0, .null, .null, .ref 4], vm := .statics 3 },
  { cls := 9, slots := #[.long 0, .int 1, .null, .int 0, .null, .int 0, .int 0], vm := .statics 9 },
  { cls := 13, slots := #[.ref 5, .null, .null, .null, .null], vm := .statics 13 },
  { cls := 15, slots := #[.null, .null, .null], vm := .statics 15 },
  { cls := 13, slots := #[.int 0, .int 0], vm := .none },
  { cls := 21, slots := #[.int (-1), .int (-1), .int (-1), .int (-1), .int (-1), .int (-1), .int (-1), .int (-1), .int (-1), .int (-1), .int (-1), .int (-1), .int (-1), .int (-1), .int (-1), .int (-1), .int (-1), .int (-1), .int (-1), .int (-1), .int (-1), .int (-1), .int (-1), .int (-1), .int (-1), .int (-1), .int (-1), .int (-1), .int (-1), .int (-1), .int (-1), .int (-1), .int (-1), .int (-1), .int (-1), .int (-1), .int (-1), .int (-1), .int (-1), .int (-1), .int (-1), .int (-1), .int (-1), .int 62, .int (-1), .int (-1), .int (-1), .int 63, .int 52, .int 53, .int 54, .int 55, .int 56, .int 57, .int 58, .int 59, .int 60, .int 61, .int (-1), .int (-1), .int (-1), .int (-2), .int (-1), .int (-1), .int (-1), .int 0, .int 1, .int 2, .int 3, .int 4, .int 5, .int 6, .int 7, .int 8, .int 9, .int 10, .int 11, .int 12, .int 13, .int 14, .int 15, .int 16, .int 17, .int 18, .int 19, .int 20, .int 21, .int 22, .int 23, .int 24, .int 25, .int (-1), .int (-1), .int (-1), .int (-1), .int (-1), .int (-1), .int 26, .int 27, .int 28, .int 29, .int 30, .int 31, .int 32, .int 33, .int 34, .int 35, .int 36, .int 37, .int 38, .int 39, .int 40, .int 41, .int 42, .int 43, .int 44, .int 45, .int 46, .int 47, .int 48, .int 49, .int 50, .int 51, .int (-1), .int (-1), .int (-1), .int (-1), .int (-1), .int (-1), .int (-1), .int (-1), .int (-1), .int (-1), .int (-1), .int (-1), .int (-1), .int (-1), .int (-1), .int (-1), .int (-1), .int (-1), .int (-1), .int (-1), .int (-1), .int (-1), .int (-1), .int (-1), .int (-1), .int (-1), .int (-1), .int (-1), .int (-1), .int (-1), .int (-1), .int (-1), .int (-1), .int (-1), .int (-1), .int (-1), .int (-1), .int (-1), .int (-1), .int (-1), .int (-1), .int (-1), .int (-1), .int (-1), .int (-1), .int (-1), .int (-1), .int (-1), .int (-1), .int (-1), .int (-1), .int (-1), .int (-1), .int (-1), .int (-1), .int (-1), .int (-1), .int (-1), .int (-1), .int (-1), .int (-1), .int (-1), .int (-1), .int (-1), .int (-1), .int (-1), .int (-1), .int (-1), .int (-1), .int (-1), .int (-1), .int (-1), .int (-1), .int (-1), .int (-1), .int (-1), .int (-1), .int (-1), .int (-1), .int (-1), .int (-1), .int (-1), .int (-1), .int (-1), .int (-1), .int (-1), .int (-1), .int (-1), .int (-1), .int (-1), .int (-1), .int (-1), .int (-1), .int (-1), .int (-1), .int (-1), .int (-1), .int (-1), .int (-1), .int (-1), .int (-1), .int (-1), .int (-1), .int (-1), .int (-1), .int (-1), .int (-1), .int (-1), .int (-1), .int (-1), .int (-1), .int (-1), .int (-1), .int (-1), .int (-1), .int (-1), .int (-1), .int (-1), .int (-1), .int (-1), .int (-1), .int (-1), .int (-1), .int (-1), .int (-1), .int (-1), .int (-1), .int (-1), .int (-1), .int (-1), .int (-1), .int (-1), .int (-1)], vm := .none }]
def kMore : Class := plain "jdk/internal/util/ArraysSupport" (some 0)
def classes : Array Class := #[k0, k1, k2, k3, k4, k5, k6, k7, k8, k9, k10, k11, k12, k13, k14, k15, k16, k17, k18, k19, k20, k21, kMore]
def interned : List (Array UInt16 × Addr) := []
def slotsUsed : Nat := 277
def theMethod : MethodId := ⟨1, 1⟩
def args0 : Array Value := #[.int 1, .int 2, .int 3, .int 4, .int 5]
def aboutOver (below : List Frame) : State where
  vm := { classes := classes, interned := interned.toArray }
  heap := heap
  slotsUsed := slotsUsed
  threads := #[{ frames := .invoking theMethod args0 :: below }]
def below0 : List Frame := [.native { method := ⟨0, 0⟩, args := #[] }]
def about1 : State := aboutOver below0
def p0 : Program := .bare "" "" ""
def e0 : Env := launch0.env 0 0 0
theorem w_frames : about1.frames = Frame.invoking theMethod args0 :: below0 := rfl
set_option maxRecDepth 65536 in
theorem w_args : argsFit about1.vm theMethod args0 = true := by decide +kernel
set_option maxRecDepth 65536 in
theorem w_heap : heapFits about1 = true := by decide +kernel
set_option maxRecDepth 65536 in
theorem w_runnable : about1.curStatus? = some .runnable := by decide +kernel
set_option maxRecDepth 65536 in
theorem w_alone : about1.alone = true := by decide +kernel
set_option maxRecDepth 65536 in
theorem w_named : about1.methodNamed? x = some theMethod := by decide +kernel
set_option maxRecDepth 65536 in
theorem w_hears : about1.hears theMethod below0 = true := by decide +kernel
set_option maxRecDepth 65536 in
theorem w_ripe : about1.ripe theMethod args0 below0 = true := by decide +kernel
theorem w_running : about1.status = .running := rfl
set_option maxRecDepth 65536 in
theorem w_room : about1.hasRoom e0.platform room_1 = true :=
  launch0.hasRoom_least _ room_1 (by decide +kernel) (by decide +kernel) (by decide +kernel) (by decide +kernel) (by decide +kernel) (by decide +kernel)
theorem allAtoms_all (ts : List Jvm.Cond) (a : Array Jvm.Value) (st : Jvm.State) : (allAtoms ts).before a st = ts.all (fun c => c.before a st) := by
  induction ts with
  | nil => rfl
  | cons c t ih =>
    show (Jvm.Cond.and c (allAtoms t)).before a st = _
    rw [Jvm.Cond.before_and, ih, List.all_cons]
def words1 : List Jvm.Cond := Jvm.Cond.code x code maxLocals ret :: tables_1
/-- a 'code' word, met by the world's own term for the bytes: nothing is compared byte by byte -/
theorem code_word {y : MethodName} {bytes : ByteArray} {mx : Nat} {rt : Option FieldType} {a : Array Value} {s : State} {m : MethodId} {meth : Method} {c : Code} (h1 : s.methodNamed? y = some m) (h2 : s.vm.method? m = some meth) (h3 : meth.code = some c) (h4 : c.code = bytes)
    (h5 : (c.maxLocals == mx && c.exceptionTable.isEmpty && decide (c.maxStack ≤ mostOperands) && decide (meth.sig.returnType = rt) && !meth.locks && decide (parseMethodDescriptor y.desc = some meth.sig)) = true) : (Jvm.Cond.code y bytes mx rt).before a s = true := by
  simp only [Bool.and_eq_true, beq_iff_eq, Bool.not_eq_true', decide_eq_true_eq] at h5
  obtain ⟨⟨⟨⟨⟨g1, g2⟩, g3⟩, g4⟩, g5⟩, g6⟩ := h5
  simp [Cond.before, Cond.holds, Cond.value, h1, h2, h3, h4, g1, g2, g3, g4, g5, g6]
def isCode : Jvm.Cond → Bool
  | .code _ _ _ _ => true
  | _ => false
theorem all_split {L : List Jvm.Cond} {P : Jvm.Cond → Bool} (h1 : L.all (fun c => isCode c || P c) = true) (h2 : ∀ c ∈ L.filter isCode, P c = true) : L.all P = true := by
  refine List.all_eq_true.mpr fun c hc => ?_
  have h := List.all_eq_true.mp h1 c hc
  rcases Bool.eq_false_or_eq_true (isCode c) with hi | hi
  · exact h2 c (List.mem_filter.mpr ⟨hc, hi⟩)
  · simpa [hi] using h
set_option maxRecDepth 65536 in
theorem w_c0 : (Jvm.Cond.code x code maxLocals ret).before args0 about1 = true := code_word (m := ⟨1, 1⟩) (meth := k1m1) (c := k1c1) (by decide +kernel) rfl rfl rfl (by decide +kernel)
set_option maxRecDepth 65536 in
theorem w_c1 : (Jvm.Cond.code ({ cls := "com/example/delta_mirror/deltamirror/rrdp/Base64BinaryFinishPinLaw", name := "encode", desc := "([II)[C" } : Jvm.MethodName) method_4_code (3 : Nat) (Option.some (Jvm.ClassFile.FieldType.array Jvm.ClassFile.FieldType.char))).before args0 about1 = true := code_word (m := ⟨1, 3⟩) (meth := k1m3) (c := k1c3) (by decide +kernel) rfl rfl rfl (by decide +kernel)
set_option maxRecDepth 65536 in
theorem w_c2 : (Jvm.Cond.code ({ cls := "java/lang/Math", name := "min", desc := "(II)I" } : Jvm.MethodName) jdk_29_method_69_code (2 : Nat) (Option.some Jvm.ClassFile.FieldType.int)).before args0 about1 = true := code_word (m := ⟨2, 3⟩) (meth := k2m3) (c := k2c3) (by decide +kernel) rfl rfl rfl (by decide +kernel)
set_option maxRecDepth 65536 in
theorem w_c3 : (Jvm.Cond.code ({ cls := "com/example/delta_mirror/deltamirror/rrdp/Base64BinaryFinishPinLaw", name := "put", desc := "([CIIIII)V" } : Jvm.MethodName) method_5_code (6 : Nat) (Option.none : Option Jvm.ClassFile.FieldType)).before args0 about1 = true := code_word (m := ⟨1, 4⟩) (meth := k1m4) (c := k1c4) (by decide +kernel) rfl rfl rfl (by decide +kernel)
set_option maxRecDepth 65536 in
theorem w_c4 : (Jvm.Cond.code ({ cls := "com/example/delta_mirror/deltamirror/rrdp/Base64BinaryFinishPinLaw", name := "ch", desc := "(I)C" } : Jvm.MethodName) method_6_code (1 : Nat) (Option.some Jvm.ClassFile.FieldType.char)).before args0 about1 = true := code_word (m := ⟨1, 5⟩) (meth := k1m5) (c := k1c5) (by decide +kernel) rfl rfl rfl (by decide +kernel)
set_option maxRecDepth 65536 in
theorem w_c5 : (Jvm.Cond.code ({ cls := "com/example/delta_mirror/deltamirror/rrdp/Base64BinaryFinishPinLaw", name := "textLength", desc := "(I)I" } : Jvm.MethodName) method_3_code (1 : Nat) (Option.some Jvm.ClassFile.FieldType.int)).before args0 about1 = true := code_word (m := ⟨1, 2⟩) (meth := k1m2) (c := k1c2) (by decide +kernel) rfl rfl rfl (by decide +kernel)
set_option maxRecDepth 65536 in
theorem w_c6 : (Jvm.Cond.code ({ cls := "java/lang/Math", name := "max", desc := "(II)I" } : Jvm.MethodName) jdk_29_method_65_code (2 : Nat) (Option.some Jvm.ClassFile.FieldType.int)).before args0 about1 = true := code_word (m := ⟨2, 1⟩) (meth := k2m1) (c := k2c1) (by decide +kernel) rfl rfl rfl (by decide +kernel)
set_option maxRecDepth 65536 in
theorem w_c7 : (Jvm.Cond.code ({ cls := "com/example/delta_mirror/deltamirror/rrdp/Base64Binary", name := "<init>", desc := "(I)V" } : Jvm.MethodName) prog_3_method_1_code (2 : Nat) (Option.none : Option Jvm.ClassFile.FieldType)).before args0 about1 = true := code_word (m := ⟨3, 0⟩) (meth := k3m0) (c := k3c0) (by decide +kernel) rfl rfl rfl (by decide +kernel)
set_option maxRecDepth 65536 in
theorem w_c8 : (Jvm.Cond.code ({ cls := "java/lang/Object", name := "<init>", desc := "()V" } : Jvm.MethodName) object_method_1_code (1 : Nat) (Option.none : Option Jvm.ClassFile.FieldType)).before args0 about1 = true := code_word (m := ⟨0, 0⟩) (meth := k0m0) (c := k0c0) (by decide +kernel) rfl rfl rfl (by decide +kernel)
set_option maxRecDepth 65536 in
theorem w_c9 : (Jvm.Cond.code ({ cls := "com/example/delta_mirror/deltamirror/rrdp/Base64Binary", name := "append", desc := "([CII)V" } : Jvm.MethodName) prog_3_method_2_code (9 : Nat) (Option.none : Option Jvm.ClassFile.FieldType)).before args0 about1 = true := code_word (m := ⟨3, 1⟩) (meth := k3m1) (c := k3c1) (by decide +kernel) rfl rfl rfl (by decide +kernel)
set_option maxRecDepth 65536 in
theorem w_c10 : (Jvm.Cond.code ({ cls := "com/example/delta_mirror/deltamirror/rrdp/Base64Binary", name := "finish", desc := "()[B" } : Jvm.MethodName) prog_3_method_3_code (2 : Nat) (Option.some (Jvm.ClassFile.FieldType.array Jvm.ClassFile.FieldType.byte))).before args0 about1 = true := code_word (m := ⟨3, 2⟩) (meth := k3m2) (c := k3c2) (by decide +kernel) rfl rfl rfl (by decide +kernel)
set_option maxRecDepth 65536 in
theorem w_c11 : (Jvm.Cond.code ({ cls := "com/example/delta_mirror/deltamirror/rrdp/Base64Binary", name := "endsAsBase64Binary", desc := "()Z" } : Jvm.MethodName) prog_3_method_6_code (2 : Nat) (Option.some Jvm.ClassFile.FieldType.boolean)).before args0 about1 = true := code_word (m := ⟨3, 4⟩) (meth := k3m4) (c := k3c4) (by decide +kernel) rfl rfl rfl (by decide +kernel)
set_option maxRecDepth 65536 in
theorem w_c12 : (Jvm.Cond.code ({ cls := "java/lang/String", name := "indexOf", desc := "(I)I" } : Jvm.MethodName) jdk_42_method_79_code (2 : Nat) (Option.some Jvm.ClassFile.FieldType.int)).before args0 about1 = true := code_word (m := ⟨9, 2⟩) (meth := k9m2) (c := k9c2) (by decide +kernel) rfl rfl rfl (by decide +kernel)
set_option maxRecDepth 65536 in
theorem w_c13 : (Jvm.Cond.code ({ cls := "java/lang/String", name := "indexOf", desc := "(II)I" } : Jvm.MethodName) jdk_42_method_80_code (3 : Nat) (Option.some Jvm.ClassFile.FieldType.int)).before args0 about1 = true := code_word (m := ⟨9, 3⟩) (meth := k9m3) (c := k9c3) (by decide +kernel) rfl rfl rfl (by decide +kernel)
set_option maxRecDepth 65536 in
theorem w_c14 : (Jvm.Cond.code ({ cls := "java/lang/String", name := "isLatin1", desc := "()Z" } : Jvm.MethodName) jdk_42_method_154_code (1 : Nat) (Option.some Jvm.ClassFile.FieldType.boolean)).before args0 about1 = true := code_word (m := ⟨9, 5⟩) (meth := k9m5) (c := k9c5) (by decide +kernel) rfl rfl rfl (by decide +kernel)
set_option maxRecDepth 65536 in
theorem w_c15 : (Jvm.Cond.code ({ cls := "java/lang/String", name := "length", desc := "()I" } : Jvm.MethodName) jdk_42_method_54_code (1 : Nat) (Option.some Jvm.ClassFile.FieldType.int)).before args0 about1 = true := code_word (m := ⟨9, 1⟩) (meth := k9m1) (c := k9c1) (by decide +kernel) rfl rfl rfl (by decide +kernel)
set_option maxRecDepth 65536 in
theorem w_c16 : (Jvm.Cond.code ({ cls := "java/lang/String", name := "coder", desc := "()B" } : Jvm.MethodName) jdk_42_method_152_code (1 : Nat) (Option.some Jvm.ClassFile.FieldType.byte)).before args0 about1 = true := code_word (m := ⟨9, 4⟩) (meth := k9m4) (c := k9c4) (by decide +kernel) rfl rfl rfl (by decide +kernel)
set_option maxRecDepth 65536 in
theorem w_c17 : (Jvm.Cond.code ({ cls := "java/lang/StringLatin1", name := "indexOf", desc := "([BIII)I" } : Jvm.MethodName) jdk_43_method_22_code (4 : Nat) (Option.some Jvm.ClassFile.FieldType.int)).before args0 about1 = true := code_word (m := ⟨10, 2⟩) (meth := k10m2) (c := k10c2) (by decide +kernel) rfl rfl rfl (by decide +kernel)
set_option maxRecDepth 65536 in
theorem w_c18 : (Jvm.Cond.code ({ cls := "java/lang/StringLatin1", name := "canEncode", desc := "(I)Z" } : Jvm.MethodName) jdk_43_method_4_code (1 : Nat) (Option.some Jvm.ClassFile.FieldType.boolean)).before args0 about1 = true := code_word (m := ⟨10, 1⟩) (meth := k10m1) (c := k10c1) (by decide +kernel) rfl rfl rfl (by decide +kernel)
set_option maxRecDepth 65536 in
theorem w_c19 : (Jvm.Cond.code ({ cls := "java/lang/StringLatin1", name := "indexOfChar", desc := "([BIII)I" } : Jvm.MethodName) jdk_43_method_23_code (6 : Nat) (Option.some Jvm.ClassFile.FieldType.int)).before args0 about1 = true := code_word (m := ⟨10, 3⟩) (meth := k10m3) (c := k10c3) (by decide +kernel) rfl rfl rfl (by decide +kernel)
set_option maxRecDepth 65536 in
theorem w_c20 : (Jvm.Cond.code ({ cls := "java/util/Arrays", name := "copyOf", desc := "([BI)[B" } : Jvm.MethodName) jdk_65_method_121_code (3 : Nat) (Option.some (Jvm.ClassFile.FieldType.array Jvm.ClassFile.FieldType.byte))).before args0 about1 = true := code_word (m := ⟨11, 1⟩) (meth := k11m1) (c := k11c1) (by decide +kernel) rfl rfl rfl (by decide +kernel)
set_option maxRecDepth 65536 in
theorem w_c21 : (Jvm.Cond.code ({ cls := "java/util/Base64$Decoder", name := "decode", desc := "([B[B)I" } : Jvm.MethodName) jdk_2450_method_4_code (4 : Nat) (Option.some Jvm.ClassFile.FieldType.int)).before args0 about1 = true := code_word (m := ⟨13, 0⟩) (meth := k13m0) (c := k13c0) (by decide +kernel) rfl rfl rfl (by decide +kernel)
set_option maxRecDepth 65536 in
theorem w_c22 : (Jvm.Cond.code ({ cls := "java/util/Base64$Decoder", name := "decodedOutLength", desc := "([BII)I" } : Jvm.MethodName) jdk_2450_method_7_code (9 : Nat) (Option.some Jvm.ClassFile.FieldType.int)).before args0 about1 = true := code_word (m := ⟨13, 1⟩) (meth := k13m1) (c := k13c1) (by decide +kernel) rfl rfl rfl (by decide +kernel)
set_option maxRecDepth 65536 in
theorem w_c23 : (Jvm.Cond.code ({ cls := "java/util/Base64$Decoder", name := "decode0", desc := "([BII[B)I" } : Jvm.MethodName) jdk_2450_method_9_code (11 : Nat) (Option.some Jvm.ClassFile.FieldType.int)).before args0 about1 = true := code_word (m := ⟨13, 3⟩) (meth := k13m3) (c := k13c3) (by decide +kernel) rfl rfl rfl (by decide +kernel)
set_option maxRecDepth 65536 in
theorem w_c24 : (Jvm.Cond.code ({ cls := "java/lang/Math", name := "max", desc := "(JJ)J" } : Jvm.MethodName) jdk_29_method_66_code (4 : Nat) (Option.some Jvm.ClassFile.FieldType.long)).before args0 about1 = true := code_word (m := ⟨2, 2⟩) (meth := k2m2) (c := k2c2) (by decide +kernel) rfl rfl rfl (by decide +kernel)
set_option maxRecDepth 65536 in
theorem w_c25 : (Jvm.Cond.code ({ cls := "java/lang/Math", name := "min", desc := "(JJ)J" } : Jvm.MethodName) jdk_29_method_70_code (4 : Nat) (Option.some Jvm.ClassFile.FieldType.long)).before args0 about1 = true := code_word (m := ⟨2, 4⟩) (meth := k2m4) (c := k2c4) (by decide +kernel) rfl rfl rfl (by decide +kernel)
set_option maxRecDepth 65536 in
theorem w_c26 : (Jvm.Cond.code ({ cls := "com/example/delta_mirror/deltamirror/rrdp/Base64BinaryFinishPinLaw", name := "same", desc := "([B[II)Z" } : Jvm.MethodName) method_7_code (3 : Nat) (Option.some Jvm.ClassFile.FieldType.boolean)).before args0 about1 = true := code_word (m := ⟨1, 6⟩) (meth := k1m6) (c := k1c6) (by decide +kernel) rfl rfl rfl (by decide +kernel)
set_option maxRecDepth 65536 in
theorem w_c27 : (Jvm.Cond.code ({ cls := "java/util/Base64$Decoder", name := "decodeBlock", desc := "([BII[BIZZ)I" } : Jvm.MethodName) jdk_2450_method_8_code (16 : Nat) (Option.some Jvm.ClassFile.FieldType.int)).before args0 about1 = true := code_word (m := ⟨13, 2⟩) (meth := k13m2) (c := k13c2) (by decide +kernel) rfl rfl rfl (by decide +kernel)
def codes1 : List Jvm.Cond := [Jvm.Cond.code x code maxLocals ret, Jvm.Cond.code ({ cls := "com/example/delta_mirror/deltamirror/rrdp/Base64BinaryFinishPinLaw", name := "encode", desc := "([II)[C" } : Jvm.MethodName) method_4_code (3 : Nat) (Option.some (Jvm.ClassFile.FieldType.array Jvm.ClassFile.FieldType.char)), Jvm.Cond.code ({ cls := "java/lang/Math", name := "min", desc := "(II)I" } : Jvm.MethodName) jdk_29_method_69_code (2 : Nat) (Option.some Jvm.ClassFile.FieldType.int), Jvm.Cond.code ({ cls := "com/example/delta_mirror/deltamirror/rrdp/Base64BinaryFinishPinLaw", name := "put", desc := "([CIIIII)V" } : Jvm.MethodName) method_5_code (6 : Nat) (Option.none : Option Jvm.ClassFile.FieldType), Jvm.Cond.code ({ cls := "com/example/delta_mirror/deltamirror/rrdp/Base64BinaryFinishPinLaw", name := "ch", desc := "(I)C" } : Jvm.MethodName) method_6_code (1 : Nat) (Option.some Jvm.ClassFile.FieldType.char), Jvm.Cond.code ({ cls := "com/example/delta_mirror/deltamirror/rrdp/Base64BinaryFinishPinLaw", name := "textLength", desc := "(I)I" } : Jvm.MethodName) method_3_code (1 : Nat) (Option.some Jvm.ClassFile.FieldType.int), Jvm.Cond.code ({ cls := "java/lang/Math", name := "max", desc := "(II)I" } : Jvm.MethodName) jdk_29_method_65_code (2 : Nat) (Option.some Jvm.ClassFile.FieldType.int), Jvm.Cond.code ({ cls := "com/example/delta_mirror/deltamirror/rrdp/Base64Binary", name := "<init>", desc := "(I)V" } : Jvm.MethodName) prog_3_method_1_code (2 : Nat) (Option.none : Option Jvm.ClassFile.FieldType), Jvm.Cond.code ({ cls := "java/lang/Object", name := "<init>", desc := "()V" } : Jvm.MethodName) object_method_1_code (1 : Nat) (Option.none : Option Jvm.ClassFile.FieldType), Jvm.Cond.code ({ cls := "com/example/delta_mirror/deltamirror/rrdp/Base64Binary", name := "append", desc := "([CII)V" } : Jvm.MethodName) prog_3_method_2_code (9 : Nat) (Option.none : Option Jvm.ClassFile.FieldType), Jvm.Cond.code ({ cls := "com/example/delta_mirror/deltamirror/rrdp/Base64Binary", name := "finish", desc := "()[B" } : Jvm.MethodName) prog_3_method_3_code (2 : Nat) (Option.some (Jvm.ClassFile.FieldType.array Jvm.ClassFile.FieldType.byte)), Jvm.Cond.code ({ cls := "com/example/delta_mirror/deltamirror/rrdp/Base64Binary", name := "endsAsBase64Binary", desc := "()Z" } : Jvm.MethodName) prog_3_method_6_code (2 : Nat) (Option.some Jvm.ClassFile.FieldType.boolean), Jvm.Cond.code ({ cls := "java/lang/String", name := "indexOf", desc := "(I)I" } : Jvm.MethodName) jdk_42_method_79_code (2 : Nat) (Option.some Jvm.ClassFile.FieldType.int), Jvm.Cond.code ({ cls := "java/lang/String", name := "indexOf", desc := "(II)I" } : Jvm.MethodName) jdk_42_method_80_code (3 : Nat) (Option.some Jvm.ClassFile.FieldType.int), Jvm.Cond.code ({ cls := "java/lang/String", name := "isLatin1", desc := "()Z" } : Jvm.MethodName) jdk_42_method_154_code (1 : Nat) (Option.some Jvm.ClassFile.FieldType.boolean), Jvm.Cond.code ({ cls := "java/lang/String", name := "length", desc := "()I" } : Jvm.MethodName) jdk_42_method_54_code (1 : Nat) (Option.some Jvm.ClassFile.FieldType.int), Jvm.Cond.code ({ cls := "java/lang/String", name := "coder", desc := "()B" } : Jvm.MethodName) jdk_42_method_152_code (1 : Nat) (Option.some Jvm.ClassFile.FieldType.byte), Jvm.Cond.code ({ cls := "java/lang/StringLatin1", name := "indexOf", desc := "([BIII)I" } : Jvm.MethodName) jdk_43_method_22_code (4 : Nat) (Option.some Jvm.ClassFile.FieldType.int), Jvm.Cond.code ({ cls := "java/lang/StringLatin1", name := "canEncode", desc := "(I)Z" } : Jvm.MethodName) jdk_43_method_4_code (1 : Nat) (Option.some Jvm.ClassFile.FieldType.boolean), Jvm.Cond.code ({ cls := "java/lang/StringLatin1", name := "indexOfChar", desc := "([BIII)I" } : Jvm.MethodName) jdk_43_method_23_code (6 : Nat) (Option.some Jvm.ClassFile.FieldType.int), Jvm.Cond.code ({ cls := "java/util/Arrays", name := "copyOf", desc := "([BI)[B" } : Jvm.MethodName) jdk_65_method_121_code (3 : Nat) (Option.some (Jvm.ClassFile.FieldType.array Jvm.ClassFile.FieldType.byte)), Jvm.Cond.code ({ cls := "java/util/Base64$Decoder", name := "decode", desc := "([B[B)I" } : Jvm.MethodName) jdk_2450_method_4_code (4 : Nat) (Option.some Jvm.ClassFile.FieldType.int), Jvm.Cond.code ({ cls := "java/util/Base64$Decoder", name := "decodedOutLength", desc := "([BII)I" } : Jvm.MethodName) jdk_2450_method_7_code (9 : Nat) (Option.some Jvm.ClassFile.FieldType.int), Jvm.Cond.code ({ cls := "java/util/Base64$Decoder", name := "decode0", desc := "([BII[B)I" } : Jvm.MethodName) jdk_2450_method_9_code (11 : Nat) (Option.some Jvm.ClassFile.FieldType.int), Jvm.Cond.code ({ cls := "java/lang/Math", name := "max", desc := "(JJ)J" } : Jvm.MethodName) jdk_29_method_66_code (4 : Nat) (Option.some Jvm.ClassFile.FieldType.long), Jvm.Cond.code ({ cls := "java/lang/Math", name := "min", desc := "(JJ)J" } : Jvm.MethodName) jdk_29_method_70_code (4 : Nat) (Option.some Jvm.ClassFile.FieldType.long), Jvm.Cond.code ({ cls := "com/example/delta_mirror/deltamirror/rrdp/Base64BinaryFinishPinLaw", name := "same", desc := "([B[II)Z" } : Jvm.MethodName) method_7_code (3 : Nat) (Option.some Jvm.ClassFile.FieldType.boolean), Jvm.Cond.code ({ cls := "java/util/Base64$Decoder", name := "decodeBlock", desc := "([BII[BIZZ)I" } : Jvm.MethodName) jdk_2450_method_8_code (16 : Nat) (Option.some Jvm.ClassFile.FieldType.int)]
set_option maxRecDepth 65536 in
theorem codes_eq : words1.filter isCode = codes1 := rfl
theorem w_codes : ∀ c ∈ words1.filter isCode, c.before args0 about1 = true := by
  rw [codes_eq]
  intro c hc
  simp only [codes1, List.mem_cons, List.not_mem_nil, or_false] at hc
  rcases hc with rfl | rfl | rfl | rfl | rfl | rfl | rfl | rfl | rfl | rfl | rfl | rfl | rfl | rfl | rfl | rfl | rfl | rfl | rfl | rfl | rfl | rfl | rfl | rfl | rfl | rfl | rfl | rfl
  · exact w_c0
  · exact w_c1
  · exact w_c2
  · exact w_c3
  · exact w_c4
  · exact w_c5
  · exact w_c6
  · exact w_c7
  · exact w_c8
  · exact w_c9
  · exact w_c10
  · exact w_c11
  · exact w_c12
  · exact w_c13
  · exact w_c14
  · exact w_c15
  · exact w_c16
  · exact w_c17
  · exact w_c18
  · exact w_c19
  · exact w_c20
  · exact w_c21
  · exact w_c22
  · exact w_c23
  · exact w_c24
  · exact w_c25
  · exact w_c26
  · exact w_c27
set_option maxRecDepth 65536 in
theorem w_t1 : (words1.take 24).all (fun c => isCode c || c.before args0 about1) = true := by decide +kernel
set_option maxRecDepth 65536 in
theorem w_t2 : ((words1.drop 24).take 24).all (fun c => isCode c || c.before args0 about1) = true := by decide +kernel
set_option maxRecDepth 65536 in
theorem w_t3 : (((words1.drop 24).drop 24).take 24).all (fun c => isCode c || c.before args0 about1) = true := by decide +kernel
set_option maxRecDepth 65536 in
theorem w_t4 : ((((words1.drop 24).drop 24).drop 24).take 24).all (fun c => isCode c || c.before args0 about1) = true := by decide +kernel
set_option maxRecDepth 65536 in
theorem w_t5 : (((((words1.drop 24).drop 24).drop 24).drop 24).take 24).all (fun c => isCode c || c.before args0 about1) = true := by decide +kernel
set_option maxRecDepth 65536 in
theorem w_t6 : ((((((words1.drop 24).drop 24).drop 24).drop 24).drop 24).take 24).all (fun c => isCode c || c.before args0 about1) = true := by decide +kernel
set_option maxRecDepth 65536 in
theorem w_t7 : (((((((words1.drop 24).drop 24).drop 24).drop 24).drop 24).drop 24).take 24).all (fun c => isCode c || c.before args0 about1) = true := by decide +kernel
set_option maxRecDepth 65536 in
theorem w_t8 : (((((((words1.drop 24).drop 24).drop 24).drop 24).drop 24).drop 24).drop 24).all (fun c => isCode c || c.before args0 about1) = true := by decide +kernel
theorem w_tables : (allAtoms (Jvm.Cond.code x code maxLocals ret :: tables_1)).before args0 about1 = true := by
  rw [allAtoms_all]
  show words1.all (fun c => c.before args0 about1) = true
  refine all_split ?_ w_codes
  rw [← List.take_append_drop 24 words1, List.all_append, w_t1, ← List.take_append_drop 24 (words1.drop 24), List.all_append, w_t2, ← List.take_append_drop 24 ((words1.drop 24).drop 24), List.all_append, w_t3, ← List.take_append_drop 24 (((words1.drop 24).drop 24).drop 24), List.all_append, w_t4, ← List.take_append_drop 24 ((((words1.drop 24).drop 24).drop 24).drop 24), List.all_append, w_t5, ← List.take_append_drop 24 (((((words1.drop 24).drop 24).drop 24).drop 24).drop 24), List.all_append, w_t6, ← List.take_append_drop 24 ((((((words1.drop 24).drop 24).drop 24).drop 24).drop 24).drop 24), List.all_append, w_t7, w_t8]
  rfl
set_option maxRecDepth 65536 in
theorem w_rest : rest_1_c.before args0 about1 = true := by decide +kernel
set_option maxRecDepth 65536 in
theorem w_case : (Jvm.Cond.and given_1 narrow_1).before args0 about1 = true := by decide +kernel
set_option maxRecDepth 65536 in
theorem w_consts : constsHeld consts_1 about1 := Jvm.Lit.constsHeldB_iff.mp (by decide +kernel)
theorem w_applies : (headSpec (Jvm.Cond.code x code maxLocals ret :: tables_1) room_1).applies x e0.platform about1 = true :=
  (Spec.applies_iff w_frames).mpr ⟨w_running, w_runnable, w_alone, w_named, w_hears, w_ripe, w_room, w_tables⟩
theorem atStart : AtStart classFile x code maxLocals ret World_1 tables_1 room_1 Calls_1 rest_1 Pre_1 launch0 p0 e0 about1 theMethod args0 below0 :=
  ⟨lists_1, trivial, launch0.admits_env _ _ _, launch0.least_env, fairChoices_fair.cas, fairChoices_fair.clock, w_frames, w_args, w_heap, w_applies, ⟨w_consts, trivial⟩, w_rest, w_case⟩
end start1
theorem witness_1 : WitnessClaimed_1 := ⟨start1.p0, start1.e0, start1.about1, start1.theMethod, start1.args0, start1.below0, start1.atStart⟩
end Jvm.Pilot.@@N@@
