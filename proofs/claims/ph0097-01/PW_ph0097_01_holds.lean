import PyProof.Rows.All
import Wide.All
import OpenK.AllK
import Wide.FinOn
import PySem.Challenge.RW_ph0097_01
open PySem PySem.W PyProof.Rows
set_option Elab.async false
set_option maxRecDepth 100000
section
set_option maxHeartbeats 8000000
namespace Mine
open_top hd for PySem.Challenge.rw_ph0097_01
end Mine

end
section
set_option autoImplicit false
set_option linter.unusedSimpArgs false
namespace Mine

/-! ## Heaps: ghost parts -/
noncomputable def Sub (g h : Heap) : Prop := ∀ b o, g.get? b = some o → h.get? b = some o
theorem Sub.refl (g : Heap) : Sub g g := fun _ _ e => e
theorem Sub.trans {g h k : Heap} (a : Sub g h) (b : Sub h k) : Sub g k := fun x o e => b x o (a x o e)
theorem Sub.push (h : Heap) (o : Obj) : Sub h (h.push o) := fun _ _ e => Heap.get?_push_of_some _ e

/-- the part of a heap at the addresses that p names -/
noncomputable def cut (h : Heap) (p : Addr → Bool) : Heap := ⟨h.objs.mapIdx fun i o => if p i then o else { o with data := .freed }, h.life⟩
theorem get?_cut (h : Heap) (p : Addr → Bool) (a : Addr) : (cut h p).get? a = if p a then h.get? a else none := by
  unfold Heap.get? cut
  rw [Array.getElem?_mapIdx]
  cases hp : p a with
  | true => cases h.objs[a]? with
    | none => rfl
    | some o => simp [hp]
  | false => cases h.objs[a]? with
    | none => rfl
    | some o => simp [hp]

/-- the addresses of the two tables that a lambda's making writes -/
noncomputable abbrev X0 : List Addr := [111, 149]

structure TabOk (h g : Heap) (P : Addr) (qs : List (Pos × Str)) : Prop where
  off : g.get? P = none
  tab : ∃ ps, h.get? P = some (tabObj ps) ∧ TriplesOk ps.toList ∧ ∀ q ∈ qs, codeAmong q.1 ps.toList = none ∨ ∃ c, codeAmong q.1 ps.toList = some c ∧ g.CodeRec c q.2
theorem CodeRec.sub {g g' : Heap} {c : Value} {q : Str} (e : g.CodeRec c q) (s : Sub g g') : g'.CodeRec c q := by
  obtain ⟨a, o, vs, t, h1, h2, h3⟩ := e
  exact ⟨a, o, vs, t, h1, s _ _ h2, h3⟩
theorem TabOk.step {h g h' g' : Heap} {P : Addr} {qs : List (Pos × Str)} (T : TabOk h g P qs) (hP : ∀ o, h.get? P = some o → h'.get? P = some o) (hs : Sub g g') (hn : g'.get? P = none) : TabOk h' g' P qs := by
  obtain ⟨ps, h1, h2, h3⟩ := T.tab
  refine ⟨hn, ps, hP _ h1, h2, fun q hq => (h3 q hq).imp id ?_⟩
  rintro ⟨c, h4, h5⟩
  exact ⟨c, h4, CodeRec.sub h5 hs⟩

noncomputable abbrev qHeld : List (Pos × Str) := [(⟨100, 11, 100, 50⟩, "_law_held.<locals>.<lambda>")]
noncomputable abbrev qLaw : List (Pos × Str) := [(⟨140, 56, 140, 90⟩, "law.<locals>.<lambda>"), (⟨153, 62, 153, 109⟩, "law.<locals>.<lambda>")]
structure Wm (h g : Heap) : Prop where
  t1 : TabOk h g 111 qHeld
  t2 : TabOk h g 149 qLaw
theorem Wm.step {h g h' g' : Heap} (W : Wm h g) (hP : ∀ P ∈ X0, ∀ o, h.get? P = some o → h'.get? P = some o) (hs : Sub g g') (hn : ∀ P ∈ X0, g'.get? P = none) : Wm h' g' :=
  ⟨W.t1.step (hP 111 (by simp)) hs (hn 111 (by simp)), W.t2.step (hP 149 (by simp)) hs (hn 149 (by simp))⟩
theorem Wm.off {h g : Heap} (W : Wm h g) : ∀ P ∈ X0, g.get? P = none := by
  intro P hP
  rcases List.mem_cons.mp hP with rfl | hP
  · exact W.t1.off
  · rw [List.mem_singleton.mp hP]; exact W.t2.off
theorem Wm.at {h g : Heap} (W : Wm h g) : ∀ P ∈ X0, ∃ o, h.get? P = some o := by
  intro P hP
  rcases List.mem_cons.mp hP with rfl | hP
  · obtain ⟨ps, h1, _⟩ := W.t1.tab; exact ⟨_, h1⟩
  · rw [List.mem_singleton.mp hP]; obtain ⟨ps, h1, _⟩ := W.t2.tab; exact ⟨_, h1⟩

/-- from (h, g) to (h', g'): what the heap holds is kept but at X, nothing dies, the ghost part grows by new addresses alone -/
structure Step (X : List Addr) (h g h' g' : Heap) : Prop where
  alive : ∀ b, h'.get? b = none → h.get? b = none
  pres : ∀ b o, b ∉ X → h.get? b = some o → h'.get? b = some o
  sub : Sub g g'
  into : Sub g' h'
  new : ∀ b o, g'.get? b = some o → g.get? b = some o ∨ h.get? b = none
  wm : Wm h' g'

theorem Sub.alive {h h' : Heap} (k : Sub h h') : ∀ b, h'.get? b = none → h.get? b = none := fun b e => by
  cases q : h.get? b with
  | none => rfl
  | some o => rw [k _ _ q] at e; cases e
theorem fresh_size (h : Heap) : h.get? h.objs.size = none := by
  cases q : h.get? h.objs.size with
  | none => rfl
  | some o => exact absurd (Heap.lt_size q) (Nat.lt_irrefl _)
theorem ne_of_some {h : Heap} {a b : Addr} {o : Obj} (x : h.get? a = some o) (y : h.get? b = none) : a ≠ b := fun e => by rw [e, y] at x; cases x
theorem Step.refl {X : List Addr} {h g : Heap} (s : Sub g h) (w : Wm h g) : Step X h g h g := ⟨fun _ e => e, fun _ _ _ e => e, Sub.refl _, s, fun _ _ e => .inl e, w⟩
theorem Step.trans {X : List Addr} {h g h' g' h'' g'' : Heap} (a : Step X h g h' g') (b : Step X h' g' h'' g'') : Step X h g h'' g'' :=
  ⟨fun x e => a.alive x (b.alive x e), fun x o hx e => b.pres x o hx (a.pres x o hx e), a.sub.trans b.sub, b.into,
    fun x o e => (b.new x o e).elim (fun e => a.new x o e) fun l => .inr (a.alive x l), b.wm⟩
theorem Step.wide {X Y : List Addr} {h g h' g' : Heap} (a : Step X h g h' g') (s : ∀ x ∈ X, x ∈ Y) : Step Y h g h' g' :=
  ⟨a.alive, fun b o hb e => a.pres b o (fun q => hb (s b q)) e, a.sub, a.into, a.new, a.wm⟩
/-- an address of the heap that the ghost part did not hold is not in the new one -/
theorem Step.off {X : List Addr} {h g h' g' : Heap} {a : Addr} {o : Obj} (s : Step X h g h' g') (hl : h.get? a = some o) (hg : g.get? a = none) : g'.get? a = none := by
  cases e : g'.get? a with
  | none => rfl
  | some o' => exact (s.new a o' e).elim (fun q => by rw [hg] at q; cases q) fun l => by rw [hl] at l; cases l

/-! ## The static world -/
noncomputable abbrev pr : Program := PySem.Challenge.rw_ph0097_01.row.prog
noncomputable abbrev KK (w : World) : Frag := hd.heap_39 w.params
structure Wd (w : World) (mg mb : Str → Option Value) (g : Heap) : Prop where
  kin : (KK w).In g
  gl : g.Ns mainGlobals mg
  bl : g.Ns builtinsNs mb
  nolimit : g.NoLimit
  builtins : ∀ x : Str, x ≠ "__name__" → mb x = bootBuiltins x
  bat1 : g.BuiltinsAt mg 111
  bat2 : g.BuiltinsAt mg 149
  hd1 : CodeHd g 115 111
  hd2 : CodeHd g 151 149
theorem NoLimit.sub {g h : Heap} (x : g.NoLimit) (s : Sub g h) : h.NoLimit := by
  obtain ⟨mc, h1, h2⟩ := x; exact ⟨mc, h1.keeps s, h2⟩
theorem BuiltinsAt.sub {g h : Heap} {mg : Str → Option Value} {P : Addr} (x : g.BuiltinsAt mg P) (s : Sub g h) : h.BuiltinsAt mg P := by
  obtain ⟨bm, o, h1, h2, h3, h4, h5, h6⟩ := x; exact ⟨bm, o, h1, h2, h3, h4, s _ _ h5, h6⟩
theorem CodeHd.sub {g h : Heap} {c P : Addr} (x : CodeHd g c P) (s : Sub g h) : CodeHd h c P := by
  obtain ⟨o, vs, a1, a2, a3, a4, a5, a6, a7, h1, h2⟩ := x; exact ⟨o, vs, a1, a2, a3, a4, a5, a6, a7, s _ _ h1, h2⟩
theorem Wd.sub {w : World} {mg mb : Str → Option Value} {g h : Heap} (x : Wd w mg mb g) (s : Sub g h) : Wd w mg mb h :=
  ⟨x.kin.keeps s, x.gl.keeps s, x.bl.keeps s, NoLimit.sub x.nolimit s, x.builtins, BuiltinsAt.sub x.bat1 s, BuiltinsAt.sub x.bat2 s, CodeHd.sub x.hd1 s, CodeHd.sub x.hd2 s⟩

/-! ## The frame at hand -/
structure Loc (X : List Addr) (h₀ g₀ : Heap) (L : Addr) (h g : Heap) (m : Str → Option Value) (mu : List (Addr × Obj)) : Prop where
  st : Step X h₀ g₀ h g
  ns : h.Ns L m
  off : g.get? L = none
  hi : h₀.get? L = none
  own : ∀ p ∈ mu, h.get? p.1 = some p.2 ∧ g.get? p.1 = none ∧ p.1 ≠ L ∧ p.1 ∉ X0 ∧ (p.1 ∈ X ∨ h₀.get? p.1 = none)
  nd : (mu.map (·.1)).Nodup
  xs : ∀ x ∈ X0, x ∈ X
  lv : ∀ x ∈ X, ∃ o, h₀.get? x = some o

section
variable {X : List Addr} {h₀ g₀ h g h' g' : Heap} {L : Addr} {m m' : Str → Option Value} {mu mu' : List (Addr × Obj)}
theorem Loc.sub (F : Loc X h₀ g₀ L h g m mu) : Sub g h := F.st.into
theorem Loc.at (F : Loc X h₀ g₀ L h g m mu) : ∃ o, h.get? L = some o := let ⟨o, _, _, e, _⟩ := F.ns; ⟨o, e⟩
theorem Loc.nX (F : Loc X h₀ g₀ L h g m mu) : L ∉ X := fun q => by obtain ⟨o, e⟩ := F.lv L q; rw [F.hi] at e; cases e
theorem Loc.L0 (F : Loc X h₀ g₀ L h g m mu) : L ∉ X0 := fun q => F.nX (F.xs L q)

/-- a step that keeps all but at Y; Y is none of the frame's own -/
theorem Loc.step {Y : List Addr} (F : Loc X h₀ g₀ L h g m mu) (S : Step Y h g h' g') (hY : ∀ y ∈ Y, y ∈ X ∧ y ≠ L ∧ ∀ p ∈ mu, p.1 ≠ y) : Loc X h₀ g₀ L h' g' m mu := by
  have hL : L ∉ Y := fun q => (hY L q).2.1 rfl
  obtain ⟨oL, eL⟩ := F.at
  refine ⟨F.st.trans (S.wide fun y hy => (hY y hy).1), F.ns.at' fun o e => S.pres L o hL e, S.off eL F.off, F.hi, fun p hp => ?_, F.nd, F.xs, F.lv⟩
  obtain ⟨a, b, c, d, e⟩ := F.own p hp
  exact ⟨S.pres _ _ (fun q => (hY _ q).2.2 p hp rfl) a, S.off a b, c, d, e⟩
theorem Loc.call (F : Loc X h₀ g₀ L h g m mu) (S : Step X0 h g h' g') : Loc X h₀ g₀ L h' g' m mu :=
  F.step S fun y hy => ⟨F.xs y hy, fun q => F.L0 (q ▸ hy), fun p hp q => (F.own p hp).2.2.2.1 (q ▸ hy)⟩
theorem Step.ext {Y : List Addr} (s : Sub g h) (w : Wm h g) (k : Sub h h') : Step Y h g h' g :=
  ⟨k.alive, fun _ _ _ e => k _ _ e, Sub.refl _, s.trans k, fun _ _ e => .inl e, w.step (fun _ _ _ e => k _ _ e) (Sub.refl _) w.off⟩
theorem Step.push (s : Sub g h) (w : Wm h g) (o : Obj) (Y : List Addr) : Step Y h g (h.push o) g := Step.ext s w (Sub.push _ _)
theorem Loc.ext (F : Loc X h₀ g₀ L h g m mu) (k : Sub h h') : Loc X h₀ g₀ L h' g m mu := F.call (Step.ext F.sub F.st.wm k)
theorem Loc.push (F : Loc X h₀ g₀ L h g m mu) (o : Obj) : Loc X h₀ g₀ L (h.push o) g m mu := F.ext (Sub.push _ _)
/-- a new object, kept in the ghost part -/
theorem Step.alloc (s : Sub g h) (w : Wm h g) (o : Obj) (Y : List Addr) (hf : o.isFreed = false) : ∃ g', Step Y h g (h.push o) g' ∧ g'.get? h.objs.size = some o := by
  have q : ∀ b, (cut (h.push o) fun b => (g.get? b).isSome || b == h.objs.size).get? b = if ((g.get? b).isSome || b == h.objs.size) = true then (h.push o).get? b else none := fun b => get?_cut _ _ b
  have sb : Sub g (cut (h.push o) fun b => (g.get? b).isSome || b == h.objs.size) := fun b o' e => by
    rw [q b, e]; simp only [Option.isSome_some, Bool.true_or, if_true]
    exact Heap.get?_push_of_some _ (s _ _ e)
  have nw : ∀ b o', (cut (h.push o) fun b => (g.get? b).isSome || b == h.objs.size).get? b = some o' → g.get? b = some o' ∨ h.get? b = none := fun b o' e => by
    cases eg : g.get? b with
    | some o2 => rw [sb b o2 eg] at e; cases e; exact .inl rfl
    | none =>
      rw [q b, eg] at e
      by_cases hb : b = h.objs.size
      · exact .inr (hb ▸ fresh_size h)
      · rw [if_neg (by simpa using hb)] at e; cases e
  refine ⟨_, ⟨(Sub.push h o).alive, fun _ _ _ e => Heap.get?_push_of_some _ e, sb, fun b o' e => ?_, nw, ?_⟩, ?_⟩
  · rw [q b] at e
    split at e
    · exact e
    · cases e
  · refine w.step (fun _ _ _ e => Heap.get?_push_of_some _ e) sb fun P hP => ?_
    obtain ⟨oP, eP⟩ := w.at P hP
    cases e : (cut (h.push o) fun b => (g.get? b).isSome || b == h.objs.size).get? P with
    | none => rfl
    | some o' => exact (nw P o' e).elim (fun e => by rw [w.off P hP] at e; cases e) fun l => by rw [eP] at l; cases l
  · rw [q]; simp only [beq_self_eq_true, Bool.or_true, if_true]
    exact Heap.get?_push_size _ hf
theorem Loc.alloc (F : Loc X h₀ g₀ L h g m mu) (o : Obj) (hf : o.isFreed = false := by rfl) : ∃ g', Loc X h₀ g₀ L (h.push o) g' m mu ∧ Sub g g' ∧ g'.get? h.objs.size = some o := by
  obtain ⟨g', S, e⟩ := Step.alloc F.sub F.st.wm o X0 hf
  exact ⟨g', F.call S, S.sub, e⟩
/-- a local name stored -/
theorem Loc.store (F : Loc X h₀ g₀ L h g m mu) (hn : h'.Ns L m') (hs : Heap.SameBut L h h') : Loc X h₀ g₀ L h' g m' mu := by
  have k : ∀ b o, b ≠ L → h.get? b = some o → h'.get? b = some o := fun b o hb e => (hs.2 b hb).trans e
  have sb : Sub g h' := fun b o e => k b o (ne_of_some e F.off) (F.sub _ _ e)
  refine ⟨⟨fun b e => ?_, fun b o hb e => k b o (ne_of_some e F.hi) (F.st.pres b o hb e), F.st.sub, sb, F.st.new, ?_⟩, hn, F.off, F.hi, fun p hp => ?_, F.nd, F.xs, F.lv⟩
  · by_cases hb : b = L
    · rw [hb]; exact F.hi
    · exact F.st.alive b ((hs.2 b hb).symm.trans e)
  · exact F.st.wm.step (fun P hP o e => k P o (fun q => F.L0 (q ▸ hP)) e) (Sub.refl _) F.st.wm.off
  · obtain ⟨a, b, c, d, e⟩ := F.own p hp
    exact ⟨k _ _ c a, b, c, d, e⟩
/-- a mutable object written -/
theorem Loc.write {D : Addr} {o o' : Obj} {r : List (Addr × Obj)} (F : Loc X h₀ g₀ L h g m ((D, o) :: r)) (k : Heap.ExtBut D h h') (ho : h'.get? D = some o') : Loc X h₀ g₀ L h' g m ((D, o') :: r) := by
  have k : ∀ b o, b ≠ D → h.get? b = some o → h'.get? b = some o := k
  obtain ⟨a1, a2, a3, a4, a5⟩ := F.own (D, o) (.head _)
  dsimp only at a1 a2 a3 a4 a5
  have sb : Sub g h' := fun b o e => k b o (ne_of_some e a2) (F.sub _ _ e)
  have nd := F.nd
  rw [List.map_cons, List.nodup_cons] at nd
  refine ⟨⟨fun b e => ?_, fun b o hb e => k b o (fun q => ?_) (F.st.pres b o hb e), F.st.sub, sb, F.st.new, ?_⟩, F.ns.at' fun o e => k _ _ (Ne.symm a3) e, F.off, F.hi, fun p hp => ?_, ?_, F.xs, F.lv⟩
  · by_cases hb : b = D
    · subst hb; rw [ho] at e; cases e
    · refine F.st.alive b ?_
      cases eb : h.get? b with
      | none => rfl
      | some ob => rw [k _ _ hb eb] at e; cases e
  · exact a5.elim (fun z => hb (q ▸ z)) fun z => by rw [q, z] at e; cases e
  · exact F.st.wm.step (fun P hP o e => k P o (fun q => a4 (q ▸ hP)) e) (Sub.refl _) F.st.wm.off
  · rcases List.mem_cons.mp hp with rfl | hp'
    · exact ⟨ho, a2, a3, a4, a5⟩
    · obtain ⟨b1, b2, b3, b4, b5⟩ := F.own p (.tail _ hp')
      exact ⟨k _ _ (fun q => nd.1 (List.mem_map.mpr ⟨p, hp', q⟩)) b1, b2, b3, b4, b5⟩
  · rw [List.map_cons, List.nodup_cons]; exact nd
theorem sbExt {D : Addr} {h h' : Heap} (hs : Heap.SameBut D h h') : Heap.ExtBut D h h' := fun b _ hb e => (hs.2 b hb).trans e
/-- a mutable object of this call's own goes -/
theorem Loc.lost {D : Addr} {o : Obj} {r : List (Addr × Obj)} (F : Loc X h₀ g₀ L h g m ((D, o) :: r)) (k : Heap.ExtBut D h h') (hD : h₀.get? D = none) : Loc X h₀ g₀ L h' g m r := by
  have k : ∀ b o, b ≠ D → h.get? b = some o → h'.get? b = some o := k
  obtain ⟨a1, a2, a3, a4, a5⟩ := F.own (D, o) (.head _)
  dsimp only at a1 a2 a3 a4 a5
  have sb : Sub g h' := fun b o e => k b o (ne_of_some e a2) (F.sub _ _ e)
  have nd := F.nd
  rw [List.map_cons, List.nodup_cons] at nd
  refine ⟨⟨fun b e => ?_, fun b o hb e => k b o (ne_of_some e hD) (F.st.pres b o hb e), F.st.sub, sb, F.st.new, ?_⟩, F.ns.at' fun o e => k _ _ (Ne.symm a3) e, F.off, F.hi, fun p hp => ?_, nd.2, F.xs, F.lv⟩
  · by_cases hb : b = D
    · rw [hb]; exact hD
    · refine F.st.alive b ?_
      cases eb : h.get? b with
      | none => rfl
      | some ob => rw [k _ _ hb eb] at e; cases e
  · exact F.st.wm.step (fun P hP o e => k P o (fun q => a4 (q ▸ hP)) e) (Sub.refl _) F.st.wm.off
  · obtain ⟨b1, b2, b3, b4, b5⟩ := F.own p (.tail _ hp)
    exact ⟨k _ _ (fun q => nd.1 (List.mem_map.mpr ⟨p, hp, q⟩)) b1, b2, b3, b4, b5⟩
theorem Loc.perm (F : Loc X h₀ g₀ L h g m mu) (p : mu'.Perm mu) : Loc X h₀ g₀ L h g m mu' :=
  ⟨F.st, F.ns, F.off, F.hi, fun q hq => F.own q (p.mem_iff.mp hq), (p.map _).nodup_iff.mpr F.nd, F.xs, F.lv⟩
theorem Loc.swap {x y : Addr × Obj} (F : Loc X h₀ g₀ L h g m (x :: y :: mu)) : Loc X h₀ g₀ L h g m (y :: x :: mu) := F.perm (List.Perm.swap _ _ _)
theorem Loc.drop {x : Addr × Obj} (F : Loc X h₀ g₀ L h g m (x :: mu)) : Loc X h₀ g₀ L h g m mu :=
  ⟨F.st, F.ns, F.off, F.hi, fun q hq => F.own q (.tail _ hq), (List.nodup_cons.mp F.nd).2, F.xs, F.lv⟩
/-- a new mutable object -/
theorem Loc.made (F : Loc X h₀ g₀ L h g m mu) (o : Obj) (hf : o.isFreed = false := by rfl) : Loc X h₀ g₀ L (h.push o) g m ((h.objs.size, o) :: mu) := by
  have F' := F.push o
  refine ⟨F'.st, F'.ns, F'.off, F'.hi, fun p hp => ?_, ?_, F'.xs, F'.lv⟩
  · rcases List.mem_cons.mp hp with rfl | hp'
    · obtain ⟨oL, eL⟩ := F.at
      refine ⟨Heap.get?_push_size _ hf, F.sub.alive _ (fresh_size h), (ne_of_some eL (fresh_size h)).symm, fun q => ?_, .inr (F.st.alive _ (fresh_size h))⟩
      obtain ⟨oP, eP⟩ := F.st.wm.at _ q
      rw [fresh_size h] at eP; cases eP
    · exact F'.own p hp'
  · rw [List.map_cons, List.nodup_cons]
    refine ⟨fun q => ?_, F'.nd⟩
    obtain ⟨p, hp, e⟩ := List.mem_map.mp q
    exact ne_of_some (F.own p hp).1 (fresh_size h) e
theorem Loc.fresh (F : Loc X h₀ g₀ L h g m mu) : h₀.get? h.objs.size = none := F.st.alive _ (fresh_size h)
/-- a mutable object that is written no more goes to the ghost part -/
theorem Loc.freeze {D : Addr} {o : Obj} (F : Loc X h₀ g₀ L h g m ((D, o) :: mu)) (hD : h₀.get? D = none) : ∃ g', Loc X h₀ g₀ L h g' m mu ∧ Sub g g' ∧ g'.get? D = some o := by
  obtain ⟨a1, a2, a3, a4, a5⟩ := F.own (D, o) (.head _)
  dsimp only at a1 a2 a3 a4 a5
  have nd := F.nd
  rw [List.map_cons, List.nodup_cons] at nd
  have q : ∀ b, (cut h fun b => (g.get? b).isSome || b == D).get? b = if ((g.get? b).isSome || b == D) = true then h.get? b else none := fun b => get?_cut _ _ b
  have sb : Sub g (cut h fun b => (g.get? b).isSome || b == D) := fun b o' e => by
    rw [q b, e]; simp only [Option.isSome_some, Bool.true_or, if_true]
    exact F.sub _ _ e
  have nw : ∀ b o', (cut h fun b => (g.get? b).isSome || b == D).get? b = some o' → g.get? b = some o' ∨ b = D := fun b o' e => by
    cases eg : g.get? b with
    | some o2 => rw [sb b o2 eg] at e; cases e; exact .inl rfl
    | none =>
      rw [q b, eg] at e
      by_cases hb : b = D
      · exact .inr hb
      · rw [if_neg (by simpa using hb)] at e; cases e
  have non : ∀ b, g.get? b = none → b ≠ D → (cut h fun b => (g.get? b).isSome || b == D).get? b = none := fun b hb hne => by
    cases e : (cut h fun b => (g.get? b).isSome || b == D).get? b with
    | none => rfl
    | some o' => exact (nw b o' e).elim (fun e => by rw [hb] at e; cases e) fun e => absurd e hne
  refine ⟨_, ⟨⟨F.st.alive, F.st.pres, F.st.sub.trans sb, fun b o' e => ?_, fun b o' e => ?_, ?_⟩, F.ns, non L F.off (Ne.symm a3), F.hi, fun p hp => ?_, nd.2, F.xs, F.lv⟩, sb, ?_⟩
  · rw [q b] at e
    split at e
    · exact e
    · cases e
  · exact (nw b o' e).elim (F.st.new b o') fun e => .inr (e ▸ hD)
  · exact F.st.wm.step (fun _ _ _ e => e) sb fun P hP => non P (F.st.wm.off P hP) fun e => a4 (e ▸ hP)
  · obtain ⟨b1, b2, b3⟩ := F.own p (.tail _ hp)
    exact ⟨b1, non _ b2 fun e => nd.1 (List.mem_map.mpr ⟨p, hp, e⟩), b3⟩
  · rw [q]; simp only [beq_self_eq_true, Bool.or_true, if_true]; exact a1
end

/-! ## Room -/
structure Room (A : Around) (n : Nat) : Prop where
  hh : A.handled = none
  hd : A.depth + n < recursionLimit
  hu : A.units + 10 * n < cLine
theorem Room.deeper {A : Around} {n : Nat} (R : Room A (n + 1)) (env : Env) : Room (A.deeper env) n :=
  ⟨R.hh, by have := R.hd; show A.depth + 1 + n < _; omega, by have := R.hu; show A.units + 3 + 10 * n < _; omega⟩
theorem Room.in1 {A : Around} {n : Nat} (R : Room A (n + 1)) : Room A.in1 n :=
  ⟨R.hh, by have := R.hd; show A.depth + n < _; omega, by have := R.hu; show A.units + 1 + 10 * n < _; omega⟩
theorem Room.le {A : Around} {n k : Nat} (R : Room A n) (h : k ≤ n) : Room A k := ⟨R.hh, by have := R.hd; omega, by have := R.hu; omega⟩
theorem Room.room {A : Around} {n : Nat} (R : Room A n) : A.depth < recursionLimit := by have := R.hd; omega
theorem Room.units {A : Around} {n : Nat} (R : Room A n) : A.units < cLine := by have := R.hu; omega

/-! ## Names -/
structure EnvIs (env : Env) (names : List (Str × NameKind)) (L : Addr) (cl : List (Str × Addr)) : Prop where
  names : env.scope.names = names
  kind : env.scope.kind = .function
  loc : env.locals = L
  cells : env.cells = cl
  glob : env.globals = mainGlobals
  blt : env.builtins = builtinsNs
section
variable {w : World} {mg mb : Str → Option Value} {A : Around} {E : Value → Shared → Prop} {s : Shared} {env : Env} {names : List (Str × NameKind)} {L : Addr} {cl : List (Str × Addr)}
  {X : List Addr} {h₀ g₀ h g h' g' : Heap} {m m' : Str → Option Value} {mu mu' : List (Addr × Obj)} {x : Str} {pos : Pos} {v : Value} {Q : Value → Shared → Prop}
theorem EnvIs.kindOf (e : EnvIs env names L cl) (x : Str) : env.kindOf x = names.lookup x := by unfold Env.kindOf; rw [e.names]
theorem ldL (e : EnvIs env names L cl) (F : Loc X h₀ g₀ L s.heap g m mu) (hv : m x = some v) (h : Q v s) (hx : names.lookup x = some .local := by rfl) (hd : (x == ("__debug__" : Str)) = false := by decide) :
    wpAny (model pr w) A (eval (.Name x pos) env) Q E s :=
  wpAny_Name (wpAny_loadName_local e.kind (by rw [e.kindOf]; exact hx) (by rw [e.loc]; exact F.ns) hv h) hd
theorem ldF {c : Addr} (e : EnvIs env names L cl) (hc : s.heap.IsCell c (some v)) (h : Q v s) (hl : cl.lookup x = some c := by rfl) (hx : names.lookup x = some .free := by rfl) (hd : (x == ("__debug__" : Str)) = false := by decide) (hn : (x == ("__classdict__" : Str)) = false := by decide) :
    wpAny (model pr w) A (eval (.Name x pos) env) Q E s :=
  wpAny_Name (wpAny_loadName_free e.kind (by rw [e.kindOf]; exact hx) (by rw [e.cells]; exact hl) hc h hn) hd
theorem ldC {c : Addr} (e : EnvIs env names L cl) (hc : s.heap.IsCell c (some v)) (h : Q v s) (hl : cl.lookup x = some c := by rfl) (hx : names.lookup x = some .cell := by rfl) (hd : (x == ("__debug__" : Str)) = false := by decide) :
    wpAny (model pr w) A (eval (.Name x pos) env) Q E s :=
  wpAny_Name (wpAny_loadName_cell e.kind (by rw [e.kindOf]; exact hx) (by rw [e.cells]; exact hl) hc h) hd
theorem ldG (e : EnvIs env names L cl) (W : Wd w mg mb g) (S : Sub g s.heap) (hv : nsIn (KK w) mainGlobals x = some (some v)) (h : Q v s) (hx : names.lookup x = some .globalImplicit := by rfl) (hd : (x == ("__debug__" : Str)) = false := by decide) :
    wpAny (model pr w) A (eval (.Name x pos) env) Q E s :=
  Calls.Name_function_global e.kind (by rw [e.kindOf]; exact hx) (Calls.loadGlobal_global (by rw [e.glob]; exact W.gl.keeps S) (mg_of W.kin W.gl hv) h) hd
theorem ldB (e : EnvIs env names L cl) (W : Wd w mg mb g) (S : Sub g s.heap) (hm : nsIn (KK w) mainGlobals x = some none) (hv : bootBuiltins x = some v) (hn : x ≠ "__name__") (h : Q v s) (hx : names.lookup x = some .globalImplicit := by rfl) (hd : (x == ("__debug__" : Str)) = false := by decide) :
    wpAny (model pr w) A (eval (.Name x pos) env) Q E s :=
  Calls.Name_function_global e.kind (by rw [e.kindOf]; exact hx) (Calls.loadGlobal_builtin (by rw [e.glob]; exact W.gl.keeps S) (mg_none_of W.kin W.gl hm) (by rw [e.blt]; exact W.bl.keeps S) ((W.builtins x hn).trans hv) h) hd
theorem stL {Q : Unit → Shared → Prop} (e : EnvIs env names L cl) (F : Loc X h₀ g₀ L s.heap g m mu)
    (h : ∀ h', Loc X h₀ g₀ L h' g (fun y => if y = x then some v else m y) mu → Q () { s with heap := h', toks := s.toks + 1 }) (hx : names.lookup x = some .local := by rfl) :
    wpAny (model pr w) A (storeName env x v) Q E s :=
  wpAny_storeName_local (m := m) (by rw [e.kindOf]; exact hx) (by rw [e.loc]; exact F.ns) (fun h' hn hs => h h' (F.store (by rw [e.loc] at hn; exact hn) (by rw [e.loc] at hs; exact hs)))
    (by rw [e.kind]; rfl)
end

/-! ## Entering a def -/
section
variable {w : World} {mg mb : Str → Option Value} {A : Around} {E : Value → Shared → Prop} {s : Shared} {g : Heap} {Q : Value → Shared → Prop}
theorem loc_enter {h h₁ g : Heap} {L : Addr} {m : Str → Option Value} {X : List Addr} (S : Sub g h) (W : Wm h g) (k : Sub h h₁) (hn : h₁.Ns h.objs.size m) (hX : ∀ x ∈ X, ∃ o, h.get? x = some o) (h0 : ∀ x ∈ X0, x ∈ X) (hL : L = h.objs.size) : Loc X h g L h₁ g m [] := by
  subst hL
  exact ⟨Step.ext S W k, hn, S.alive _ (fresh_size h), fresh_size h, (fun _ hp => by cases hp), List.nodup_nil, h0, hX⟩
/-- a def of the text without cells of its own: its body is walked with the whole heap of the call below it -/
theorem enterK {f : Addr} {o : Obj} {fd : FuncData} {body : List Stmt} {args : List Value} {kw : List (Str × Value)} {binds : List (Str × Value)} {n : Nat} {X : List Addr}
    (R : Room A (n + 1)) (W : Wd w mg mb g) (S : Sub g s.heap) (M : Wm s.heap g) (hX : ∀ x ∈ X, ∃ o, s.heap.get? x = some o) (h0 : ∀ x ∈ X0, x ∈ X)
    (ho : g.get? f = some o) (hd : o.data = .func fd) (hb : fd.body = .stmts body) (hcd : g.CodeRec fd.code fd.qualname)
    (hbind : BindsTo s fd ⟨args, kw⟩ binds) (hcell : ∀ x ∈ fd.scope.names, x.2 ≠ .cell) (hloc : ∀ x ∈ binds, fd.scope.names.lookup x.1 = some .local)
    (hco : fd.scope.isCoroutine = false) (hgen : fd.scope.isGenerator = false) (hk : fd.scope.kind = .function) (hgl : fd.globals = mainGlobals) (hbl : fd.builtins = builtinsNs)
    (h : ∀ env A' L h₁ tk (E' : Value → Shared → Prop), EnvIs env fd.scope.names L fd.closure → Room A' n → Loc X s.heap g L h₁ g (fun x => binds.reverse.lookup x) [] → Sub s.heap h₁ →
      wpAny (model pr w) A' (execs body env) (fun f s' => Q (match f with | .ret v => v | _ => .none) s') E' { s with heap := h₁, toks := tk }) :
    wpAny (model pr w) A (call (.ref f) args kw) Q E s := by
  refine wpAny_call (codeAny_call_def R.room (S _ _ ho) hd (NoLimit.sub W.nolimit S) (CodeRec.sub hcd S) hb hbind hcell hloc (fun h₁ hn k => ?_) hco hgen hk)
  exact h (callEnv fd s.heap.objs.size f) _ s.heap.objs.size h₁ _ _ ⟨rfl, hk, rfl, rfl, hgl, hbl⟩ (R.deeper _) (loc_enter S M k hn hX h0 rfl) k
/-- a def of the text without cells of its own: its body is walked with the whole heap of the call below it -/
theorem enter {f : Addr} {o : Obj} {fd : FuncData} {body : List Stmt} {args : List Value} {kw : List (Str × Value)} {binds : List (Str × Value)} {n : Nat} {X : List Addr}
    (R : Room A (n + 1)) (W : Wd w mg mb g) (S : Sub g s.heap) (M : Wm s.heap g) (hX : ∀ x ∈ X, ∃ o, s.heap.get? x = some o) (h0 : ∀ x ∈ X0, x ∈ X)
    (ho : g.get? f = some o) (hd : o.data = .func fd) (hb : fd.body = .stmts body) (hcd : g.CodeRec fd.code fd.qualname)
    (hbind : BindsTo s fd ⟨args, kw⟩ binds) (hcell : ∀ x ∈ fd.scope.names, x.2 ≠ .cell) (hloc : ∀ x ∈ binds, fd.scope.names.lookup x.1 = some .local)
    (hco : fd.scope.isCoroutine = false) (hgen : fd.scope.isGenerator = false) (hk : fd.scope.kind = .function) (hgl : fd.globals = mainGlobals) (hbl : fd.builtins = builtinsNs)
    (h : ∀ env A' L h₁ tk (E' : Value → Shared → Prop), EnvIs env fd.scope.names L fd.closure → Room A' n → Loc X s.heap g L h₁ g (fun x => binds.reverse.lookup x) [] →
      wpAny (model pr w) A' (execs body env) (fun f s' => Q (match f with | .ret v => v | _ => .none) s') E' { s with heap := h₁, toks := tk }) :
    wpAny (model pr w) A (call (.ref f) args kw) Q E s := by
  exact enterK R W S M hX h0 ho hd hb hcd hbind hcell hloc hco hgen hk hgl hbl fun env A' L h₁ tk E' e RA F _ => h env A' L h₁ tk E' e RA F
end
end Mine

end
section
set_option autoImplicit false
namespace Mine
section
variable {w : World} {mg mb : Str → Option Value} {A : Around} {E : Value → Shared → Prop} {s : Shared} {env : Env} {names : List (Str × NameKind)} {L : Addr} {cl : List (Str × Addr)}
  {X : List Addr} {h₀ g₀ h g h' g' : Heap} {m m' : Str → Option Value} {mu mu' : List (Addr × Obj)}

theorem IsList.sub {g h : Heap} {l : Addr} {vs : Array Value} (x : g.IsList l vs) (s : Sub g h) : h.IsList l vs := by
  obtain ⟨o, e, r⟩ := x; exact ⟨o, s _ _ e, r⟩
theorem IsTuple.sub {g h : Heap} {l : Addr} {vs : Array Value} (x : g.IsTuple l vs) (s : Sub g h) : h.IsTuple l vs := by
  obtain ⟨o, e, r⟩ := x; exact ⟨o, s _ _ e, r⟩

/-- a walk's end may be hidden behind a letter (the proofs stay small) -/
theorem abs1 {α : Type} {M : Model} {t : Sem α} {Q : α → Shared → Prop} {E : Value → Shared → Prop} {s : Shared} (h : ∀ T : α → Shared → Prop, (∀ f s, Q f s → T f s) → wpAny M A t T E s) : wpAny M A t Q E s := h Q fun _ _ x => x
theorem abs2 {α β : Type} {M : Model} {t : Sem α} {t2 : Sem β} {Q : β → Shared → Prop} {E E2 : Value → Shared → Prop} {s : Shared} (h : ∀ T : β → Shared → Prop, (∀ f s, Q f s → T f s) → wpAny M A t (fun _ s₂ => wpAny M A t2 T E2 s₂) E s) : wpAny M A t (fun _ s₂ => wpAny M A t2 Q E2 s₂) E s := h Q fun _ _ x => x

theorem absW {α : Type} {M : Model} {t : Sem Bool} {t2 : Sem α} {Q : α → Shared → Prop} {Q3 : Shared → Prop} {E E2 : Value → Shared → Prop} {s : Shared} (h : ∀ (T : α → Shared → Prop) (U : Shared → Prop), (∀ f s, Q f s → T f s) → (∀ s, Q3 s → U s) → wpAny M A t (fun b s₂ => if b then wpAny M A t2 T E2 s₂ else U s₂) E s) : wpAny M A t (fun b s₂ => if b then wpAny M A t2 Q E2 s₂ else Q3 s₂) E s := h Q Q3 (fun _ _ x => x) fun _ x => x

inductive TurnPost (X : List Addr) (h₀ g₀ : Heap) (L : Addr) (s : Shared) (c : Addr × Obj) (P : Heap → (Str → Option Value) → List (Addr × Obj) → Prop) (g : Heap) (s₃ : Shared) : Prop
  | mk (h' g' : Heap) (m' : Str → Option Value) (mu' : List (Addr × Obj)) (tk' : Nat) (e : s₃ = { s with heap := h', toks := tk' }) (sg : Sub g g') (F : Loc X h₀ g₀ L h' g' m' (c :: mu')) (p : P g' m' mu')
/-- what a turn of a loop leaves behind -/
noncomputable def TurnEnd (X : List Addr) (h₀ g₀ : Heap) (L : Addr) (s : Shared) (c : Addr × Obj) (P : Heap → (Str → Option Value) → List (Addr × Obj) → Prop) (g : Heap) (Q : Flow → Shared → Prop) (f : Flow) (s₃ : Shared) : Prop :=
  match f with
  | .brk => Q .next s₃
  | .ret v => Q (.ret v) s₃
  | _ => TurnPost X h₀ g₀ L s c P g s₃

theorem turnEnd_mono {s : Shared} {c : Addr × Obj} {P P' : Heap → (Str → Option Value) → List (Addr × Obj) → Prop} {Q : Flow → Shared → Prop} (h : ∀ g m mu, P g m mu → P' g m mu) : ∀ f s₃, TurnEnd X h₀ g₀ L s c P g Q f s₃ → TurnEnd X h₀ g₀ L s c P' g Q f s₃
  | .brk, _, q => q
  | .ret _, _, q => q
  | .next, _, ⟨h', g', m', mu', tk, e, sg, F, p⟩ => ⟨h', g', m', mu', tk, e, sg, F, h _ _ _ p⟩
  | .cont, _, ⟨h', g', m', mu', tk, e, sg, F, p⟩ => ⟨h', g', m', mu', tk, e, sg, F, h _ _ _ p⟩
inductive ForInv (X : List Addr) (h₀ g₀ : Heap) (L : Addr) (s : Shared) (g : Heap) (N : Nat) (O : Nat → Obj → Prop) (I : Addr) (P : Nat → Heap → (Str → Option Value) → List (Addr × Obj) → Prop) (n : Nat) (s' : Shared) : Prop
  | mk (i : Nat) (h g' : Heap) (m' : Str → Option Value) (mu' : List (Addr × Obj)) (tk : Nat) (o : Obj) (e : s' = { s with heap := h, toks := tk }) (en : n = N - i) (hi : i ≤ N) (ho : O i o) (hs : Sub g g') (F : Loc X h₀ g₀ L h g' m' ((I, o) :: mu')) (p : P i g' m' mu')
theorem ForInv.next {s s₃ : Shared} {N i : Nat} {O : Nat → Obj → Prop} {I : Addr} {o : Obj} {P : Nat → Heap → (Str → Option Value) → List (Addr × Obj) → Prop} (hlt : i < N) (ho : O (i + 1) o) (hs : Sub g g') (x : TurnPost X h₀ g₀ L s (I, o) (P (i + 1)) g' s₃) :
    ∃ k, k < N - i ∧ ForInv X h₀ g₀ L s g N O I P k s₃ := by
  obtain ⟨h3, g3, m3, mu3, tk3, e3, s3, F3, p3⟩ := x
  exact ⟨N - (i + 1), Nat.sub_lt_sub_left hlt (Nat.lt_succ_self i), i + 1, h3, g3, m3, mu3, tk3, o, e3, rfl, hlt, ho, hs.trans s3, F3, p3⟩
/-- a loop's turns, whatever it goes through: O tells the iterator's object before turn i -/
theorem for_turns {target : Expr} {body : List Stmt} {Q : Flow → Shared → Prop} {H : Heap} {tk0 : Nat} {I : Addr} {o : Obj} (F1 : Loc X h₀ g₀ L H g m ((I, o) :: mu)) (N : Nat) (O : Nat → Obj → Prop) (o0 : O 0 o)
    (P : Nat → Heap → (Str → Option Value) → List (Addr × Obj) → Prop) (p0 : P 0 g m mu)
    (step : ∀ i h g' m' mu' tk o (T : Option Value → Shared → Prop) (E' : Value → Shared → Prop), i ≤ N → O i o → Sub g g' → Loc X h₀ g₀ L h g' m' ((I, o) :: mu') → P i g' m' mu' →
      (∀ s₁, Q .next s₁ → T none s₁) →
      (∀ v s₁ o', i < N → O (i + 1) o' → wpAny (model pr w) A (letOwnedTupleGo target (.ref I) v) (fun _ s₁' => wpAny (model pr w) A (assign target env v) (fun _ s₂ => wpAny (model pr w) A (execs body env) (TurnEnd X h₀ g₀ L s (I, o') (P (i + 1)) g' Q) E' s₂) E' s₁') E' s₁ → T (some v) s₁) →
      wpAny (model pr w) A (pyNext (.ref I)) T E' { s with heap := h, toks := tk }) :
    codeAny (model pr w) A (.forLoop target (.ref I) body [] env) (fun r s' => match r with | .ok f => Q f s' | .error e => cameBackBy (model pr w) A env E e s') { s with heap := H, toks := tk0 } := by
  refine codeAny_forLoop_any (ForInv X h₀ g₀ L s g N O I P) (fun n s' I0 => abs1 fun T hT => ?_) N ⟨0, H, g, m, mu, tk0, o, rfl, rfl, Nat.zero_le _, o0, Sub.refl _, F1, p0⟩
  obtain ⟨i, h, g', m', mu', tk, o, rfl, rfl, hi, ho, hs, F', p⟩ := I0
  refine step i h g' m' mu' tk o T _ hi ho hs F' p (fun s₁ q => hT none s₁ (wpAny_execs_nil q)) fun v s₁ o' hlt ho' q => hT (some v) s₁ ?_
  refine wpAny_mono q (fun _ s₁' q1 => wpAny_mono q1 (fun _ s₂ q2 => wpAny_mono q2 (fun f s₃ q3 => ?_) fun _ _ x => x) fun _ _ x => x) fun _ _ x => x
  cases f with
  | next => exact ForInv.next hlt ho' hs q3
  | cont => exact ForInv.next hlt ho' hs q3
  | brk => exact q3
  | ret v => exact q3

theorem for_list {l : Addr} {vs : List Value} {target : Expr} {body : List Stmt} {Q : Flow → Shared → Prop} (hh : A.handled = none)
    (F : Loc X h₀ g₀ L s.heap g m mu) (hl : g.IsList l vs.toArray) (P : Nat → Heap → (Str → Option Value) → List (Addr × Obj) → Prop) (p0 : P 0 g m mu)
    (hgo : ∀ I i v (s' : Shared) (Q' : Unit → Shared → Prop) (E' : Value → Shared → Prop), v ∈ vs → s'.heap.IsListIter I l i → Q' () s' → wpAny (model pr w) A (letOwnedTupleGo target (.ref I) v) Q' E' s')
    (turn : ∀ i v h g' m' mu' tk c (E' : Value → Shared → Prop), vs[i]? = some v → Sub g g' → Loc X h₀ g₀ L h g' m' (c :: mu') → P i g' m' mu' →
      wpAny (model pr w) A (assign target env v) (fun _ s₂ => wpAny (model pr w) A (execs body env) (TurnEnd X h₀ g₀ L s c (P (i + 1)) g' Q) E' s₂) E' { s with heap := h, toks := tk })
    (done : ∀ h g' m' mu' tk, Sub g g' → Loc X h₀ g₀ L h g' m' mu' → P vs.length g' m' mu' → Q .next { s with heap := h, toks := tk }) :
    wpAny (model pr w) A (pyIter (.ref l)) (fun it s₂ => codeAny (model pr w) A (.forLoop target it body [] env) (fun r s' => match r with | .ok f => Q f s' | .error e => cameBackBy (model pr w) A env E e s') s₂) E s := by
  refine wpAny_pyIter_list (IsList.sub hl F.sub) (for_turns (F.made { cls := .type "list_iterator", data := .fields #[.ref l, .int 0 0] }) vs.length (fun i o => o.cls = .type "list_iterator" ∧ o.data = .fields #[.ref l, .int i 0]) ⟨rfl, rfl⟩ P p0 ?_)
  intro i h g' m' mu' tk o T E' hi ho hs F' p hnone hsome
  have hit : h.IsListIter s.heap.objs.size l i := ⟨o, (F'.own _ (.head _)).1, ho⟩
  have hl' : h.IsList l vs.toArray := IsList.sub hl (hs.trans F'.sub)
  rcases Nat.lt_or_ge i vs.length with hlt | hge
  · have hx : vs.toArray[i]? = some vs[i] := by simp [hlt]
    refine wpAny_pyNext_list_item hit hl' hx fun h' hit' hsb => ?_
    obtain ⟨o', e1, e2⟩ := id hit'
    exact hsome _ _ o' hlt e2 (hgo _ (i + 1) _ _ _ _ (List.getElem_mem hlt) hit' (turn i _ h' g' m' mu' tk (_, o') _ (by simp [hlt]) hs (F'.write (sbExt hsb) e1) p))
  · obtain rfl := Nat.le_antisymm hi hge
    exact wpAny_pyNext_list_end hh hit hl' (by simp) fun h' hx => hnone _ (done h' g' m' mu' tk hs (F'.lost hx F.fresh) p)

theorem extFresh {h h' : Heap} (x : Heap.ExtBut h.objs.size h h') : Sub h h' := fun b o e => x b o (ne_of_some e (fresh_size h)) e
theorem asgTup {elts : List Expr} {x1 : Nat} {pos : Pos} {t : Addr} {items : Array Value} {Q : Unit → Shared → Prop} (hh : A.handled = none) (F : Loc X h₀ g₀ L s.heap g m mu) (ht : g.IsTuple t items)
    (hn : (assignEach elts env).length = items.size) (hstar : (assignEach elts env).findIdx? (·.1) = none)
    (h : ∀ h', Loc X h₀ g₀ L h' g m mu → wpAny (model pr w) A (assignInOrder ((assignEach elts env).map (·.2)) items.toList) Q E { s with heap := h' }) :
    wpAny (model pr w) A (assign (.Tuple elts x1 pos) env (.ref t)) Q E s :=
  wpAny_assign_Tuple hh (IsTuple.sub ht F.sub) hn hstar fun h' hx => h h' (F.ext (extFresh hx))
/-- an item of a tuple at a written place -/
theorem subTup {value slice : Expr} {t : Addr} {vs : List Value} {k : Int} {u : Tok} {j : Nat} {x : Value} {Q : Value → Shared → Prop} (S : Sub g s.heap) (ht : g.IsTuple t vs.toArray)
    (h0 : 0 ≤ k) (hk : k.toNat = j) (hx : vs[j]? = some x) (hb : vs.length < 2 ^ 62) (h : Q x s)
    (hs : subscripted slice false (.ref t) (.int k u) = operate [.ref t, .int k u] (getItem (.ref t) (.int k u)) := by with_unfolding_all rfl) :
    wpAny (model pr w) A (subscriptTail value slice (.ref t) (.int k u)) Q E s := by
  have hj : j < vs.length := by
    rcases Nat.lt_or_ge j vs.length with q | q
    · exact q
    · rw [List.getElem?_eq_none q] at hx; cases hx
  refine item_tupleT (IsTuple.sub ht S) (by omega) (by omega) ?_ hx h hs
  unfold seqIndex?
  simp only [if_neg (Int.not_lt.mpr h0)]
  rw [if_pos (by simp; omega), hk]
theorem subList {value slice : Expr} {t : Addr} {vs : List Value} {k : Int} {u : Tok} {x : Value} {Q : Value → Shared → Prop} (S : Sub g s.heap) (ht : g.IsList t vs.toArray)
    (h0 : 0 ≤ k) (hx : vs[k.toNat]? = some x) (hb : vs.length < 2 ^ 62) (h : Q x s)
    (hs : subscripted slice false (.ref t) (.int k u) = operate [.ref t, .int k u] (getItem (.ref t) (.int k u)) := by with_unfolding_all rfl) :
    wpAny (model pr w) A (subscriptTail value slice (.ref t) (.int k u)) Q E s := by
  have hj : k.toNat < vs.length := by
    rcases Nat.lt_or_ge k.toNat vs.length with q | q
    · exact q
    · rw [List.getElem?_eq_none q] at hx; cases hx
  exact tail_any (IsList.sub ht S).typeIs slot_list_getitem.lookup (wpAny_getItem_list (IsList.sub ht S) h0 (by omega) (by simpa using hx) h) hs

inductive WPost (X : List Addr) (h₀ g₀ : Heap) (L : Addr) (s : Shared) (P : Nat → Heap → (Str → Option Value) → List (Addr × Obj) → Prop) (n : Nat) (g : Heap) (s₃ : Shared) : Prop
  | mk (k : Nat) (h' g' : Heap) (m' : Str → Option Value) (mu' : List (Addr × Obj)) (tk' : Nat) (hk : k < n) (e : s₃ = { s with heap := h', toks := tk' }) (sg : Sub g g') (F : Loc X h₀ g₀ L h' g' m' mu') (p : P k g' m' mu')
/-- what a turn of a while leaves behind -/
noncomputable def WTurn (X : List Addr) (h₀ g₀ : Heap) (L : Addr) (s : Shared) (P : Nat → Heap → (Str → Option Value) → List (Addr × Obj) → Prop) (n : Nat) (g : Heap) (Q : Flow → Shared → Prop) (f : Flow) (s₃ : Shared) : Prop :=
  match f with
  | .brk => Q .next s₃
  | .ret v => Q (.ret v) s₃
  | _ => WPost X h₀ g₀ L s P n g s₃
theorem while_rule {test : Expr} {body : List Stmt} {pos : Pos} {Q : Flow → Shared → Prop} (F : Loc X h₀ g₀ L s.heap g m mu) (P : Nat → Heap → (Str → Option Value) → List (Addr × Obj) → Prop) (n : Nat) (p0 : P n g m mu)
    (turn : ∀ n h g' m' mu' tk (E' : Value → Shared → Prop), Sub g g' → Loc X h₀ g₀ L h g' m' mu' → P n g' m' mu' →
      wpAny (model pr w) A (isTrue test env (eval test env)) (fun b s₂ => if b then wpAny (model pr w) A (execs body env) (WTurn X h₀ g₀ L s P n g' Q) E' s₂ else Q .next s₂) E' { s with heap := h, toks := tk }) :
    wpAny (model pr w) A (exec (.While test body [] pos) env) Q E s := by
  refine wpAny_While (codeAny_whileLoop (fun n s' => ∃ h g' m' mu' tk, s' = { s with heap := h, toks := tk } ∧ Sub g g' ∧ Loc X h₀ g₀ L h g' m' mu' ∧ P n g' m' mu') ?_ n ⟨s.heap, g, m, mu, s.toks, rfl, Sub.refl _, F, p0⟩)
  intro n s' I0
  refine abs1 fun T hT => ?_
  obtain ⟨h, g', m', mu', tk, rfl, sg, F', p⟩ := I0
  refine wpAny_mono (turn n h g' m' mu' tk _ sg F' p) (fun b s₂ h₂ => hT b s₂ ?_) fun _ _ e => e
  have fin : ∀ {s₃}, WPost X h₀ g₀ L s P n g' s₃ → ∃ k, k < n ∧ ∃ h g' m' mu' tk, s₃ = { s with heap := h, toks := tk } ∧ Sub g g' ∧ Loc X h₀ g₀ L h g' m' mu' ∧ P k g' m' mu' := by
    rintro s₃ ⟨k, h3, g3, m3, mu3, tk3, hk, rfl, s3, F3, p3⟩
    exact ⟨k, hk, h3, g3, m3, mu3, tk3, rfl, sg.trans s3, F3, p3⟩
  cases b with
  | false => exact wpAny_execs_nil h₂
  | true =>
    refine wpAny_mono h₂ (fun f s₃ h₃ => ?_) fun _ _ e => e
    cases f with
    | next => exact fin h₃
    | cont => exact fin h₃
    | brk => exact h₃
    | ret v => exact h₃

/-- a call that writes a mutable object of ours -/
theorem Loc.stepOwn {D : Addr} {o o' : Obj} (F : Loc X h₀ g₀ L h g m ((D, o) :: mu)) (S : Step (D :: X0) h g h' g') (ho : h'.get? D = some o') : Loc X h₀ g₀ L h' g' m ((D, o') :: mu) := by
  obtain ⟨a1, a2, a3, a4, a5⟩ := F.own (D, o) (.head _)
  dsimp only at a1 a2 a3 a4 a5
  have nd := F.nd
  rw [List.map_cons, List.nodup_cons] at nd
  have no : ∀ b o, b ≠ D → b ∉ X0 → h.get? b = some o → h'.get? b = some o := fun b o h1 h2 e => S.pres b o (fun q => (List.mem_cons.mp q).elim h1 h2) e
  obtain ⟨oL, eL⟩ := F.at
  refine ⟨⟨fun b e => F.st.alive b (S.alive b e), fun b ob hb e => ?_, F.st.sub.trans S.sub, S.into, fun b ob e => ?_, S.wm⟩, F.ns.at' fun o e => no L o (Ne.symm a3) F.L0 e, S.off eL F.off, F.hi, fun p hp => ?_, ?_, F.xs, F.lv⟩
  · refine no b ob (fun q => ?_) (fun q => hb (F.xs b q)) (F.st.pres b ob hb e)
    subst q
    exact a5.elim (fun z => hb z) fun z => by rw [z] at e; cases e
  · exact (S.new b ob e).elim (F.st.new b ob) fun z => .inr (F.st.alive b z)
  · rcases List.mem_cons.mp hp with rfl | hp'
    · exact ⟨ho, S.off a1 a2, a3, a4, a5⟩
    · obtain ⟨b1, b2, b3, b4, b5⟩ := F.own p (.tail _ hp')
      exact ⟨no _ _ (fun q => nd.1 (List.mem_map.mpr ⟨p, hp', q⟩)) b4 b1, S.off b1 b2, b3, b4, b5⟩
  · rw [List.map_cons, List.nodup_cons]; exact nd
/-- new objects for the ghost part, and a write at Y -/
theorem Step.make {Y : List Addr} (S : Sub g h) (alive : ∀ b, h'.get? b = none → h.get? b = none) (k : ∀ b o, b ∉ Y → h.get? b = some o → h'.get? b = some o) (hY : ∀ y ∈ Y, g.get? y = none)
    (W : Wm h g) (as : List Addr) (fresh : ∀ a ∈ as, h.get? a = none)
    (hw : ∀ g', Sub g g' → (∀ a ∈ as, ∀ o, h'.get? a = some o → g'.get? a = some o) → (∀ P ∈ X0, g'.get? P = none) → Wm h' g') :
    ∃ g', Step Y h g h' g' ∧ ∀ a ∈ as, ∀ o, h'.get? a = some o → g'.get? a = some o := by
  have q : ∀ b, (cut h' fun b => (g.get? b).isSome || decide (b ∈ as)).get? b = if ((g.get? b).isSome || decide (b ∈ as)) = true then h'.get? b else none := fun b => get?_cut _ _ b
  have sb : Sub g (cut h' fun b => (g.get? b).isSome || decide (b ∈ as)) := fun b o' e => by
    rw [q b, e]; simp only [Option.isSome_some, Bool.true_or, if_true]
    exact k b o' (fun z => by rw [hY b z] at e; cases e) (S _ _ e)
  have nw : ∀ b o', (cut h' fun b => (g.get? b).isSome || decide (b ∈ as)).get? b = some o' → g.get? b = some o' ∨ h.get? b = none := fun b o' e => by
    cases eg : g.get? b with
    | some o2 => rw [sb b o2 eg] at e; cases e; exact .inl rfl
    | none =>
      rw [q b, eg] at e
      by_cases hb : b ∈ as
      · exact .inr (fresh b hb)
      · rw [if_neg (by simpa using hb)] at e; cases e
  have inn : ∀ a ∈ as, ∀ o, h'.get? a = some o → (cut h' fun b => (g.get? b).isSome || decide (b ∈ as)).get? a = some o := fun a ha o e => by
    rw [q a, if_pos (by simp [ha])]; exact e
  have no : ∀ P ∈ X0, (cut h' fun b => (g.get? b).isSome || decide (b ∈ as)).get? P = none := fun P hP => by
    obtain ⟨oP, eP⟩ := W.at P hP
    cases e : (cut h' fun b => (g.get? b).isSome || decide (b ∈ as)).get? P with
    | none => rfl
    | some o' => exact (nw P o' e).elim (fun e => by rw [W.off P hP] at e; cases e) fun l => by rw [eP] at l; cases l
  refine ⟨_, ⟨alive, k, sb, fun b o' e => ?_, nw, hw _ sb inn no⟩, inn⟩
  rw [q b] at e
  split at e
  · exact e
  · cases e
end

/-! ## Entering a def with cells, a lambda -/
section
variable {w : World} {mg mb : Str → Option Value} {A : Around} {E : Value → Shared → Prop} {s : Shared} {g : Heap} {Q : Value → Shared → Prop}
inductive CellsMu (cm : Str → Option Value) : List (Str × Addr) → List (Addr × Obj) → Prop
  | nil : CellsMu cm [] []
  | cons {n : Str} {c : Addr} {o : Obj} {cs : List (Str × Addr)} {mu : List (Addr × Obj)} : o.data = .cell (cm n) → CellsMu cm cs mu → CellsMu cm ((n, c) :: cs) ((c, o) :: mu)
theorem cellsMu {h : Heap} {cm : Str → Option Value} : ∀ {cs : List (Str × Addr)}, (∀ n c, (n, c) ∈ cs → h.IsCell c (cm n)) → ∃ mu, CellsMu cm cs mu ∧ (∀ p ∈ mu, h.get? p.1 = some p.2) ∧ mu.map (·.1) = cs.map (·.2)
  | [], _ => ⟨[], .nil, (fun _ hp => by cases hp), rfl⟩
  | (n, c) :: cs, H => by
    obtain ⟨mu, h1, h2, h3⟩ := cellsMu (cs := cs) fun n c hm => H n c (.tail _ hm)
    obtain ⟨o, e, d⟩ := H n c (.head _)
    refine ⟨(c, o) :: mu, .cons d h1, fun p hp => ?_, by simp [h3]⟩
    rcases List.mem_cons.mp hp with rfl | hp
    · exact e
    · exact h2 p hp
theorem enterC {f : Addr} {o : Obj} {fd : FuncData} {body : List Stmt} {args : List Value} {binds : List (Str × Value)} {n : Nat}
    (R : Room A (n + 1)) (W : Wd w mg mb g) (S : Sub g s.heap) (M : Wm s.heap g)
    (ho : g.get? f = some o) (hd : o.data = .func fd) (hb : fd.body = .stmts body) (hcd : g.CodeRec fd.code fd.qualname)
    (hbind : bindArgs fd ⟨args, []⟩ = pure binds) (hclo : fd.closure = [])
    (hkind : (binds.all fun y => fd.scope.names.lookup y.1 == some .local || fd.scope.names.lookup y.1 == some .cell) = true)
    (hnd : ((cellsFrom 0 fd.scope.names []).map (·.1)).Nodup)
    (hco : fd.scope.isCoroutine = false) (hgen : fd.scope.isGenerator = false) (hk : fd.scope.kind = .function) (hgl : fd.globals = mainGlobals) (hbl : fd.builtins = builtinsNs)
    (h : ∀ env A' L h₁ mu tk (E' : Value → Shared → Prop), env = callEnvC fd L f → EnvIs env fd.scope.names L (cellsFrom (L + 1) fd.scope.names []) → Room A' n →
      CellsMu (bindC (fun x => fd.scope.names.lookup x) binds fun _ => none) (cellsFrom (L + 1) fd.scope.names []) mu → (∀ p ∈ mu, s.heap.get? p.1 = none) →
      Loc X0 s.heap g L h₁ g (bindL (fun x => fd.scope.names.lookup x) binds fun _ => none) mu →
      wpAny (model pr w) A' (execs body env) (fun f s' => Q (match f with | .ret v => v | _ => .none) s') E' { s with heap := h₁, toks := tk }) :
    wpAny (model pr w) A (call (.ref f) args) Q E s := by
  refine wpAny_call (codeAny_call_cells R.room (S _ _ ho) hd (NoLimit.sub W.nolimit S) (CodeRec.sub hcd S) hb hbind hclo (kindsX hkind _) (fun s₁ I => ?_) hco hgen hk)
  obtain ⟨⟨⟨h₁, tk, rfl⟩, ns, keep, fresh⟩, cell, apart, above⟩ := I
  have nd : ((cellsFrom (s.heap.objs.size + 1) fd.scope.names []).map (·.1)).Nodup := by
    have : ∀ (names : List (Str × NameKind)) (a b : Nat) (acc acc' : List (Str × Addr)), acc.map (·.1) = acc'.map (·.1) → (cellsFrom a names acc).map (·.1) = (cellsFrom b names acc').map (·.1) := by
      intro names
      induction names with
      | nil => intro a b acc acc' e; exact e
      | cons p r ih =>
        intro a b acc acc' e
        unfold cellsFrom
        split
        · exact ih _ _ _ _ (by simp [e])
        · exact ih _ _ _ _ e
    rw [this fd.scope.names _ 0 [] [] rfl]; exact hnd
  have look : ∀ (cs : List (Str × Addr)), (cs.map (·.1)).Nodup → ∀ n c, (n, c) ∈ cs → cs.lookup n = some c := by
    intro cs
    induction cs with
    | nil => intro _ _ _ hm; cases hm
    | cons p r ih =>
      intro hn n c hm
      rw [List.map_cons, List.nodup_cons] at hn
      rcases List.mem_cons.mp hm with rfl | hm
      · simp [List.lookup]
      · have hne : n ≠ p.1 := fun q => hn.1 (List.mem_map.mpr ⟨_, hm, q⟩)
        rw [List.lookup_cons]
        have : (n == p.1) = false := by simpa using hne
        rw [this]; exact ih hn.2 n c hm
  obtain ⟨mu, m1, m2, m3⟩ := cellsMu (h := h₁) (cs := (callEnvC fd s.heap.objs.size f).cells) fun n c hm => cell n c (look _ nd n c hm)
  have out : ∀ p ∈ mu, s.heap.objs.size < p.1 := fun p hp => by
    have : p.1 ∈ mu.map (·.1) := List.mem_map.mpr ⟨p, hp, rfl⟩
    rw [m3] at this
    obtain ⟨q, hq, e⟩ := List.mem_map.mp this
    have z := above q.1 q.2 hq
    rw [e] at z
    exact z
  have none_of : ∀ a, s.heap.objs.size ≤ a → s.heap.get? a = none := fun a ha => by
    cases e : s.heap.get? a with
    | none => rfl
    | some o => exact absurd (Heap.lt_size e) (Nat.not_lt.mpr ha)
  have dead : ∀ p ∈ mu, s.heap.get? p.1 = none := fun p hp => none_of _ (Nat.le_of_lt (out p hp))
  refine h (callEnvC fd s.heap.objs.size f) _ s.heap.objs.size h₁ mu tk _ rfl ⟨rfl, hk, rfl, rfl, hgl, hbl⟩ (R.deeper _) m1 dead ?_
  refine ⟨Step.ext S M keep, ns, S.alive _ (fresh_size _), fresh_size _, fun p hp => ⟨m2 p hp, S.alive _ (dead p hp), Nat.ne_of_gt (out p hp), fun q => ?_, .inr (dead p hp)⟩, ?_, fun _ h => h, M.at⟩
  · obtain ⟨oP, eP⟩ := M.at _ q; rw [dead p hp] at eP; cases eP
  · rw [m3]
    exact List.pairwise_map.mpr apart

theorem enterE {f : Addr} {o : Obj} {fd : FuncData} {body : PySem.Expr} {args : List Value} {binds : List (Str × Value)} {n : Nat}
    (R : Room A (n + 1)) (W : Wd w mg mb g) (S : Sub g s.heap) (M : Wm s.heap g)
    (ho : g.get? f = some o) (hd : o.data = .func fd) (hb : fd.body = .expr body) (hcd : g.CodeRec fd.code fd.qualname)
    (hbind : BindsTo s fd ⟨args, []⟩ binds) (hcell : ∀ x ∈ fd.scope.names, x.2 ≠ .cell) (hloc : ∀ x ∈ binds, fd.scope.names.lookup x.1 = some .local)
    (hco : fd.scope.isCoroutine = false) (hgen : fd.scope.isGenerator = false) (hk : fd.scope.kind = .function) (hgl : fd.globals = mainGlobals) (hbl : fd.builtins = builtinsNs)
    (h : ∀ env A' L h₁ tk (E' : Value → Shared → Prop), EnvIs env fd.scope.names L fd.closure → Room A' n → Loc X0 s.heap g L h₁ g (fun x => binds.reverse.lookup x) [] →
      wpAny (model pr w) A' (eval body env) Q E' { s with heap := h₁, toks := tk }) :
    wpAny (model pr w) A (call (.ref f) args) Q E s := by
  refine wpAny_call (kla_callFunE R.room (S _ _ ho) hd hco hgen hb (CodeRec.sub hcd S) (hbind _ _ _ _ ?_))
  refine wpAny_newFunctionEnv hcell hloc (fun h₁ hn hs => ?_) hk
  have k : Sub s.heap h₁ := fun b o e => (sbExt hs) b o (ne_of_some e (fresh_size _)) (Heap.get?_push_of_some _ e)
  refine ⟨NoLimit.sub W.nolimit (S.trans k), kla_codeExpr ?_⟩
  exact h (callEnv fd s.heap.objs.size f) _ s.heap.objs.size h₁ _ _ ⟨rfl, hk, rfl, rfl, hgl, hbl⟩ (R.deeper _) (loc_enter S M k hn M.at (fun _ h => h) rfl)
end
end Mine

end
section
set_option autoImplicit false
set_option maxHeartbeats 1000000
namespace Mine

/-! ## The rows of the law, as data -/
noncomputable def c0 (x : Int) : Int := (x.fdiv 3).fmod 3
noncomputable def c1 (x : Int) : Int := (x.fdiv 9).fmod 3
noncomputable def c2 (x : Int) : Int := x.fdiv 27
noncomputable def tx (i : Int) : Str := if i = 0 then "" else if i = 1 then "a" else "ab"
noncomputable def nm (x : Int) : Str := if (x.fdiv 2).fmod 3 = 0 then "f" else if (x.fdiv 2).fmod 3 = 1 then "g" else "h"
/-- a column of a row as an int -/
noncomputable def col (c x : Int) : Int := if c = 0 then c0 x else if c = 1 then c1 x else c2 x

/-- what compare of a TupleComp of the keys ks tells of two rows -/
noncomputable def cmpR : List (Int × Int) → Int → Int → Int
  | [], _, _ => 0
  | (c, d) :: r, x, y => if col c x < col c y then -d else if col c y < col c x then d else cmpR r x y

noncomputable abbrev sk (w : World) := strKind pr w
structure EntryAt (w : World) (g : Heap) (e : Addr) (x : Int) : Prop where
  tup : ∃ t0 t1 t2 t3 d, g.IsTuple e #[.int 1 t0, .int (x.fmod 5) t1, .int x t2, .int (-x) t3, .ref d] ∧ (d == sysModules) = false ∧ ∃ tv, g.DictOf (sk w) d [(nm x, .int x tv)]
structure RowAt (w : World) (g : Heap) (v : Value) (x : Int) : Prop where
  tup : ∃ a t0 t1 t2 e, v = .ref a ∧ g.IsTuple a #[.int (c0 x) t0, .str (tx (c1 x)) t1, .int (c2 x) t2, .ref e] ∧ EntryAt w g e x
theorem DictOf.sub {K : Type} [DecidableEq K] {w : World} {knd : PySem.KeyKind pr w K} {g h : Heap} {d : Addr} {kvs : List (K × Value)} (x : g.DictOf knd d kvs) (s : Sub g h) : h.DictOf knd d kvs := by
  obtain ⟨o, es, ep, e, r⟩ := x; exact ⟨o, es, ep, s _ _ e, r⟩
theorem EntryAt.sub {w : World} {g h : Heap} {e : Addr} {x : Int} (q : EntryAt w g e x) (s : Sub g h) : EntryAt w h e x := by
  obtain ⟨t0, t1, t2, t3, d, h1, h2, tv, h3⟩ := q.tup
  exact ⟨t0, t1, t2, t3, d, IsTuple.sub h1 s, h2, tv, DictOf.sub h3 s⟩
theorem RowAt.sub {w : World} {g h : Heap} {v : Value} {x : Int} (q : RowAt w g v x) (s : Sub g h) : RowAt w h v x := by
  obtain ⟨a, t0, t1, t2, e, h0, h1, h2⟩ := q.tup
  exact ⟨a, t0, t1, t2, e, h0, IsTuple.sub h1 s, h2.sub s⟩

/-- a pair of the keys' list -/
noncomputable def KeyAt (g : Heap) (v : Value) (k : Int × Int) : Prop := ∃ a t u, v = .ref a ∧ g.IsTuple a #[.int k.1 t, .int k.2 u]
inductive All2 {α β : Type} (P : α → β → Prop) : List α → List β → Prop
  | nil : All2 P [] []
  | cons {a b as bs} : P a b → All2 P as bs → All2 P (a :: as) (b :: bs)
theorem All2.mono {α β : Type} {P Q : α → β → Prop} {as : List α} {bs : List β} (x : All2 P as bs) (h : ∀ a b, P a b → Q a b) : All2 Q as bs := by
  induction x with
  | nil => exact .nil
  | cons p _ ih => exact .cons (h _ _ p) ih
theorem All2.length {α β : Type} {P : α → β → Prop} {as : List α} {bs : List β} (x : All2 P as bs) : as.length = bs.length := by
  induction x with
  | nil => rfl
  | cons _ _ ih => simp [ih]
theorem All2.get {α β : Type} {P : α → β → Prop} {as : List α} {bs : List β} (x : All2 P as bs) {i : Nat} {a : α} (h : as[i]? = some a) : ∃ b, bs[i]? = some b ∧ P a b := by
  induction x generalizing i with
  | nil => simp at h
  | cons p _ ih =>
    cases i with
    | zero => simp at h; subst h; exact ⟨_, rfl, p⟩
    | succ i => simpa using ih (by simpa using h)
theorem All2.get' {α β : Type} {P : α → β → Prop} {as : List α} {bs : List β} (x : All2 P as bs) {i : Nat} {b : β} (h : bs[i]? = some b) : ∃ a, as[i]? = some a ∧ P a b := by
  induction x generalizing i with
  | nil => simp at h
  | cons p _ ih =>
    cases i with
    | zero => simp at h; subst h; exact ⟨_, rfl, p⟩
    | succ i => simpa using ih (by simpa using h)
theorem All2.append {α β : Type} {P : α → β → Prop} {as as' : List α} {bs bs' : List β} (x : All2 P as bs) (y : All2 P as' bs') : All2 P (as ++ as') (bs ++ bs') := by
  induction x with
  | nil => exact y
  | cons p _ ih => exact .cons p ih
structure KeysAt (g : Heap) (v : Value) (ks : List (Int × Int)) : Prop where
  lst : ∃ l vs, v = .ref l ∧ g.IsList l vs.toArray ∧ All2 (KeyAt g) vs ks
  ok : ∀ k ∈ ks, 0 ≤ k.1 ∧ k.1 < 3 ∧ (k.2 = 1 ∨ k.2 = -1)
  few : ks.length ≤ 3
theorem KeyAt.sub {g h : Heap} {v : Value} {k : Int × Int} (q : KeyAt g v k) (s : Sub g h) : KeyAt h v k := by
  obtain ⟨a, t, u, h0, h1⟩ := q; exact ⟨a, t, u, h0, IsTuple.sub h1 s⟩
theorem KeysAt.sub {g h : Heap} {v : Value} {ks : List (Int × Int)} (q : KeysAt g v ks) (s : Sub g h) : KeysAt h v ks := by
  obtain ⟨l, vs, h0, h1, h2⟩ := q.lst
  exact ⟨⟨l, vs, h0, IsList.sub h1 s, h2.mono fun _ _ x => x.sub s⟩, q.ok, q.few⟩
structure OrderAt (g : Heap) (v : Value) (ks : List (Int × Int)) : Prop where
  inst : ∃ a dx es n kv, v = .ref a ∧ g.get? a = some (instObj 38 dx) ∧ g.get? dx = some (dictOf es n) ∧ getL "comp_select_list" es = some (some kv) ∧ getL "compare" es = some none ∧ KeysAt g kv ks
theorem OrderAt.sub {g h : Heap} {v : Value} {ks : List (Int × Int)} (q : OrderAt g v ks) (s : Sub g h) : OrderAt h v ks := by
  obtain ⟨a, dx, es, n, kv, h0, h1, h2, h3, h4, h5⟩ := q.inst
  exact ⟨a, dx, es, n, kv, h0, s _ _ h1, s _ _ h2, h3, h4, h5.sub s⟩

theorem fmod3 (z : Int) : z.fmod 3 = 0 ∨ z.fmod 3 = 1 ∨ z.fmod 3 = 2 := by
  have h1 := Int.fmod_nonneg_of_pos z (b := 3) (by decide)
  have h2 := Int.fmod_lt_of_pos z (b := 3) (by decide)
  omega
theorem tx_lt {i j : Int} (hi : i = 0 ∨ i = 1 ∨ i = 2) (hj : j = 0 ∨ j = 1 ∨ j = 2) : decide ((tx i).cps.toList < (tx j).cps.toList) = decide (i < j) := by
  rcases hi with rfl | rfl | rfl <;> rcases hj with rfl | rfl | rfl <;> decide
/-- two values that are held against each other as two ints -/
structure Held (w : World) (vl vr : Value) (a b : Int) : Prop where
  lt : ∀ (A : Around) (s : Shared) (Q : Value → Shared → Prop) (E : Value → Shared → Prop), Q (.bool (decide (a < b))) s → wpAny (model pr w) A (compareOp .Lt vl vr) Q E s
  gt : ∀ (A : Around) (s : Shared) (Q : Value → Shared → Prop) (E : Value → Shared → Prop), Q (.bool (decide (b < a))) s → wpAny (model pr w) A (compareOp .Gt vl vr) Q E s
theorem Held.ints {w : World} {a b : Int} {t u : Tok} : Held w (.int a t) (.int b u) a b := ⟨fun _ _ _ _ h => PyProof.Rows.lt_int h, fun _ _ _ _ h => PyProof.Rows.gt_int h⟩
theorem Held.strs {w : World} {a b : Int} {t u : Tok} (ha : a = 0 ∨ a = 1 ∨ a = 2) (hb : b = 0 ∨ b = 1 ∨ b = 2) : Held w (.str (tx a) t) (.str (tx b) u) a b :=
  ⟨fun _ _ _ _ h => PyProof.Rows.lt_str (by rw [tx_lt ha hb]; exact h), fun _ _ _ _ h => PySem.P.gt_str (by rw [tx_lt hb ha]; exact h)⟩
theorem row_items {w : World} {g : Heap} {l r : Value} {x y c : Int} (hl : RowAt w g l x) (hr : RowAt w g r y) (h0 : 0 ≤ c) (h3 : c < 3) :
    ∃ al vsl ar vsr vl vr, l = .ref al ∧ r = .ref ar ∧ g.IsTuple al (List.toArray vsl) ∧ g.IsTuple ar (List.toArray vsr) ∧ vsl.length = 4 ∧ vsr.length = 4 ∧ vsl[c.toNat]? = some vl ∧ vsr[c.toNat]? = some vr ∧ Held w vl vr (col c x) (col c y) := by
  obtain ⟨a, t0, t1, t2, e, rfl, h1, _⟩ := hl.tup
  obtain ⟨b, u0, u1, u2, e', rfl, h2, _⟩ := hr.tup
  have hc : c = 0 ∨ c = 1 ∨ c = 2 := by omega
  rcases hc with rfl | rfl | rfl
  · exact ⟨a, _, b, _, _, _, rfl, rfl, h1, h2, rfl, rfl, rfl, rfl, Held.ints⟩
  · exact ⟨a, _, b, _, _, _, rfl, rfl, h1, h2, rfl, rfl, rfl, rfl, Held.strs (fmod3 _) (fmod3 _)⟩
  · exact ⟨a, _, b, _, _, _, rfl, rfl, h1, h2, rfl, rfl, rfl, rfl, Held.ints⟩

section
variable {w : World} {mg mb : Str → Option Value} {A : Around} {E : Value → Shared → Prop} {s : Shared} {g : Heap} {Q : Value → Shared → Prop}
theorem compare_spec {n : Nat} {o l r : Value} {ks : List (Int × Int)} {x y : Int} (R : Room A (n + 2)) (W : Wd w mg mb g) (S : Sub g s.heap) (M : Wm s.heap g)
    (hO : OrderAt g o ks) (hl : RowAt w g l x) (hr : RowAt w g r y)
    (h : ∀ t h' tk g', Step X0 s.heap g h' g' → Q (.int (cmpR ks x y) t) { s with heap := h', toks := tk }) :
    wpAny (model pr w) A (call (.ref 35) [o, l, r]) Q E s := by
  refine enter (n := n + 1) (X := X0) (binds := [("self", o), ("left", l), ("right", r)]) R W S M M.at (fun _ h => h) (W.kin 35 _ rfl) rfl rfl (codeRec_of W.kin rfl) (BindsTo.of_eq rfl) (by decide) (locs rfl) rfl rfl rfl rfl rfl ?_
  intro env A' L h₁ tk E' e RA F
  dsimp only at e F ⊢
  have ret : ∀ z t h' tk g', cmpR ks x y = z → Step X0 s.heap g h' g' → Q (.int z t) { s with heap := h', toks := tk } := by
    rintro _ t h' tk g' rfl st
    exact h t h' tk g' st
  obtain ⟨a, dx, es, nn, kv, rfl, i1, i2, i3, i4, hK⟩ := hO.inst
  obtain ⟨lk, vs, rfl, hlk, hks⟩ := hK.lst
  refine wpAny_execs_cons (wpAny_For (Attribute_Name_ (ldL e F rfl ?_) (by with_unfolding_all rfl)) (by intro _; rfl))
  refine get_value (W.sub F.sub).kin ⟨F.sub _ _ i1, rfl, rfl, F.sub _ _ i2⟩ rfl (findObj_own (od := dictOf es nn) rfl rfl rfl i3) rfl ?_
  refine for_list (g := g) RA.hh F hlk (fun i _ m' _ => m' "left" = some l ∧ m' "right" = some r ∧ cmpR ks x y = cmpR (ks.drop i) x y) ⟨rfl, rfl, rfl⟩ ?_ ?_ ?_
  · intro I i v s' Q' E'' hv hit hq
    obtain ⟨j, hj, e1⟩ := List.getElem_of_mem hv
    obtain ⟨k, _, ak, t, u, rfl, _⟩ := hks.get (i := j) (a := v) (by rw [← e1]; simp [hj])
    exact wpAny_letOwnedTupleGo_listiter hit hq
  · intro i v h2 g2 m2 mu2 tk2 c E2 hv sg F2 I2
    refine abs2 fun T hT => ?_
    obtain ⟨hm1, hm2, hc⟩ := I2
    obtain ⟨k, hk, ak, t, u, rfl, htk⟩ := hks.get hv
    have hd : ks.drop i = k :: ks.drop (i + 1) := by
      have hi : i < ks.length := (List.getElem?_eq_some_iff.mp hk).1
      rw [List.drop_eq_getElem_cons hi]
      congr 1
      exact (List.getElem?_eq_some_iff.mp hk).2
    have hok := hK.ok k (List.mem_of_getElem? hk)
    obtain ⟨al, vsl, ar, vsr, vl, vr, rfl, rfl, tl, tr, nl, nr, gl, gr, hH⟩ := row_items hl hr hok.1 hok.2.1
    refine asgTup RA.hh F2 (IsTuple.sub htk sg) rfl rfl fun h3 F3 => ?_
    refine wpAny_assignInOrder_more (wpAny_assign_Name (stL e F3 fun h4 F4 => ?_))
    refine wpAny_assignInOrder_more (wpAny_assign_Name (stL e F4 fun h5 F5 => ?_))
    refine wpAny_assignInOrder_none ?_
    refine wpAny_execs_cons (wpAny_Assign_Name (Subscript_ (ldL e F5 hm1 (ldL e F5 rfl (subTup (S := F5.sub) (ht := IsTuple.sub tl sg) hok.1 rfl gl (by omega) ?_)))) )
    refine stL e F5 fun h6 F6 => ?_
    refine wpAny_execs_cons (wpAny_Assign_Name (Subscript_ (ldL e F6 hm2 (ldL e F6 rfl (subTup (S := F6.sub) (ht := IsTuple.sub tr sg) hok.1 rfl gr (by omega) ?_)))) )
    refine stL e F6 fun h7 F7 => ?_
    refine wpAny_execs_cons (wpAny_If (wpAny_isTrue_Compare1 (ldL e F7 rfl (ldL e F7 rfl (hH.lt _ _ _ _ (wpAny_truthy_bool ?_))))))
    by_cases c1 : col k.1 x < col k.1 y
    · simp only [c1, decide_true, if_true]
      refine wpAny_execs_cons (wpAny_Return_some (wpAny_UnaryOp (ldL e F7 rfl (PyProof.Rows.neg_int ?_))))
      refine hT _ _ ?_
      dsimp only [TurnEnd]
      exact ret _ _ _ _ _ (by rw [hc, hd]; simp [cmpR, c1]) F7.st
    · simp only [c1, decide_false, Bool.false_eq_true, if_false]
      refine wpAny_execs_nil ?_
      dsimp only
      refine wpAny_execs_cons (wpAny_If (wpAny_isTrue_Compare1 (ldL e F7 rfl (ldL e F7 rfl (hH.gt _ _ _ _ (wpAny_truthy_bool ?_))))))
      by_cases c2 : col k.1 y < col k.1 x
      · simp only [c2, decide_true, if_true]
        refine wpAny_execs_cons (wpAny_Return_some (ldL e F7 rfl ?_))
        refine hT _ _ ?_
        dsimp only [TurnEnd]
        exact ret _ _ _ _ _ (by rw [hc, hd]; simp [cmpR, c1, c2]) F7.st
      · simp only [c2, decide_false, Bool.false_eq_true, if_false]
        refine wpAny_execs_nil ?_
        refine wpAny_execs_nil ?_
        refine hT _ _ ⟨h7, g2, _, mu2, _, rfl, Sub.refl _, F7, ?_, ?_, ?_⟩
        · exact hm1
        · exact hm2
        · rw [hc, hd]; simp [cmpR, c1, c2]
  · intro h2 g2 m2 mu2 tk2 sg F2 ⟨_, _, hc⟩
    dsimp only
    refine wpAny_execs_cons (wpAny_Return_some (wpAny_Constant_int ?_))
    dsimp only
    exact ret _ _ _ _ _ (by rw [hc, hks.length]; simp [cmpR]) F2.st
end
end Mine

end
section
set_option autoImplicit false
set_option maxHeartbeats 1000000
namespace Mine

/-! ## Making a lambda -/
theorem codeAmong_more (q : Pos) (a b : Nat) (v : Value) : ∀ l : List Value, TriplesOk l →
    codeAmong q (l ++ [rawInt a, rawInt b, v]) = match codeAmong q l with | some c => some c | none => if ((a : Int) == q.line && (b : Int) == q.col) = true then some v else none
  | [], _ => by simp [codeAmong, rawInt]
  | .int x t :: .int y u :: z :: l, h => by
    have ih := codeAmong_more q a b v l h
    show codeAmong q (.int x t :: .int y u :: z :: (l ++ [rawInt a, rawInt b, v])) = _
    unfold codeAmong
    by_cases hc : ((x == (q.line : Int)) && (y == (q.col : Int))) = true
    · rw [if_pos hc, if_pos hc]
    · rw [if_neg hc, if_neg hc]; exact ih
theorem TabOk.more {h h' g g' : Heap} {P : Addr} {qs : List (Pos × Str)} {pos : Pos} {qual : Str} {ps : Array Value} {c : Value} (T : TabOk h g P qs) (hp : h.get? P = some (tabObj ps)) (ht : TriplesOk ps.toList)
    (hq : h'.get? P = some (tabObj (ps ++ #[rawInt pos.line, rawInt pos.col, c]))) (S : Sub g g') (hc : g'.CodeRec c qual) (hn : g'.get? P = none) (same : ∀ q ∈ qs, q.1.line = pos.line → q.1.col = pos.col → q.2 = qual) : TabOk h' g' P qs := by
  refine ⟨hn, _, hq, ?_, fun q hq => ?_⟩
  · rw [Array.toList_append]; exact TriplesOk_snoc _ _ _ _ ht
  · obtain ⟨ps', e1, _, e3⟩ := T.tab
    rw [hp] at e1; cases e1
    rw [Array.toList_append]
    show codeAmong q.1 (ps.toList ++ [rawInt pos.line, rawInt pos.col, c]) = none ∨ ∃ c', codeAmong q.1 (ps.toList ++ [rawInt pos.line, rawInt pos.col, c]) = some c' ∧ _
    rw [codeAmong_more _ _ _ _ _ ht]
    rcases e3 q hq with e | ⟨c', e, r⟩
    · rw [e]
      by_cases hl : (((pos.line : Nat) : Int) == q.1.line && ((pos.col : Nat) : Int) == q.1.col) = true
      · simp only [hl, if_true]
        refine .inr ⟨c, rfl, ?_⟩
        rw [Bool.and_eq_true, beq_iff_eq, beq_iff_eq] at hl
        rw [same q hq (by omega) (by omega)]; exact hc
      · simp only [hl]; exact .inl rfl
    · rw [e]; exact .inr ⟨c', rfl, CodeRec.sub r S⟩

section
variable {w : World} {mg mb : Str → Option Value} {A : Around} {E : Value → Shared → Prop} {s : Shared} {env : Env} {L : Addr}
  {X : List Addr} {h₀ g₀ g : Heap} {m : Str → Option Value} {mu : List (Addr × Obj)}
theorem mkLam {params : Arguments} {body : PySem.Expr} {scope : Scope} {pos : Pos} {qual : Str} {clos : List (Str × Addr)} {c P : Addr} {qs : List (Pos × Str)} {Q : Value → Shared → Prop}
    (F : Loc X h₀ g₀ L s.heap g m mu) (W : Wd w mg mb g) (hP : P ∈ X0) (C : CodeHd g c P) (hb : g.BuiltinsAt mg P) (T : TabOk s.heap g P qs)
    (hcl : closureFor scope env = pure clos) (hgl : env.globals = mainGlobals) (hcode : env.code = .ref c)
    (inq : (pos, qual) ∈ qs) (same : ∀ q ∈ qs, q.1.line = pos.line → q.1.col = pos.col → q.2 = qual)
    (hw : ∀ h' g', (∀ b o, b ≠ P → s.heap.get? b = some o → h'.get? b = some o) → Sub g g' → (∀ P ∈ X0, g'.get? P = none) → TabOk h' g' P qs → Wm h' g')
    (h : ∀ f cv ct h' g' tk, Loc X h₀ g₀ L h' g' m mu → Sub g g' → Step X0 s.heap g h' g' → g'.get? f = some { cls := .type "function", data := .func (kla_fn "<lambda>" qual params body scope clos ((mg "__name__").getD .none) cv ct) } → g'.CodeRec cv qual →
      Q (.ref f) { s with heap := h', toks := tk }) :
    wpAny (model pr w) A (makeFunction "<lambda>" qual params (.expr body) scope env [] [] [] pos pos.line) Q E s := by
  obtain ⟨ps, hp, ht, hq⟩ := T.tab
  have S := F.sub
  have hg := W.gl.keeps S
  have hgP : mainGlobals ≠ P := fun q => by
    obtain ⟨o, es, ep, e, hd, _⟩ := hg
    rw [q, hp] at e; cases e; cases hd
  have offP : ∀ y ∈ [P], g.get? y = none := fun y hy => by rw [List.mem_singleton.mp hy]; exact T.off
  have P0 : ∀ y ∈ [P], y ∈ X0 := fun y hy => by rw [List.mem_singleton.mp hy]; exact hP
  rcases hq _ inq with e | ⟨cv, e, rc⟩
  · refine kla_makeFunction hcl hgl hg hcode (CodeHd.sub C S) hp ht e hgP (BuiltinsAt.sub hb S) fun c' ctv h' tk hx hge hlt hrec htb => ?_
    obtain ⟨ca, co, cvs, ctk, hc1, hc2, hc3⟩ := id hrec
    cases hc1
    have hsz : s.heap.objs.size ≤ h'.objs.size := by omega
    have none_of : ∀ a, s.heap.objs.size ≤ a → s.heap.get? a = none := fun a ha => by
      cases e : s.heap.get? a with
      | none => rfl
      | some o => exact absurd (Heap.lt_size e) (Nat.not_lt.mpr ha)
    have k : ∀ b o, b ≠ P → s.heap.get? b = some o → (h'.push (kla_obj "<lambda>" qual params body scope clos ((mg "__name__").getD .none) c' ctv)).get? b = some o := fun b o hb e => Heap.get?_push_of_some _ (hx b o hb e)
    have hP' := Heap.get?_push_of_some (kla_obj "<lambda>" qual params body scope clos ((mg "__name__").getD .none) c' ctv) htb
    obtain ⟨g', st, hin⟩ := Step.make (Y := X0) (as := [c', h'.objs.size]) S (h' := h'.push (kla_obj "<lambda>" qual params body scope clos ((mg "__name__").getD .none) c' ctv))
      (fun b hb => by
        by_cases q : b = P
        · rw [q, hP'] at hb; cases hb
        · cases eb : s.heap.get? b with
          | none => rfl
          | some o => rw [k b o q eb] at hb; cases hb)
      (fun b o hb e => k b o (fun q => hb (q ▸ hP)) e) F.st.wm.off F.st.wm
      (fun a ha => by
        rcases List.mem_cons.mp ha with rfl | ha
        · exact none_of _ hge
        · rw [List.mem_singleton.mp ha]; exact none_of _ hsz)
      (fun g' sg hin hX => hw _ g' k sg hX (T.more hp ht hP' sg (by
        exact ⟨c', co, cvs, ctk, rfl, hin c' (.head _) _ (Heap.get?_push_of_some _ hc2), hc3⟩) (hX P hP) same))
    exact h _ _ _ _ g' _ (F.call st) st.sub st (hin _ (.tail _ (.head _)) _ (Heap.get?_push_size _ rfl)) ⟨c', co, cvs, ctk, rfl, hin c' (.head _) _ (Heap.get?_push_of_some _ hc2), hc3⟩
  · refine kla_makeFunctionHit hcl hgl hg hcode (CodeHd.sub C S) hp ht e (BuiltinsAt.sub hb S) fun ctv h' tk k hsz => ?_
    have F1 := F.ext (h' := h') k
    obtain ⟨g', st1, e1⟩ := Step.alloc F1.sub F1.st.wm { cls := .type "function", data := .func (kla_fn "<lambda>" qual params body scope clos ((mg "__name__").getD .none) cv ctv) } X0 rfl
    have st : Step X0 s.heap g _ g' := (Step.ext S F.st.wm k).trans st1
    exact h _ _ _ _ g' _ (F.call st) st.sub st e1 (CodeRec.sub rc st.sub)
theorem evLam {params : Arguments} {body : PySem.Expr} {scope : Scope} {pos : Pos} {qual : Str} {Q : Value → Shared → Prop} (h1 : params.defaults = []) (h2 : params.kw_defaults = []) (hq : env.qual ++ "<lambda>" = qual)
    (h : wpAny (model pr w) A (makeFunction "<lambda>" qual params (.expr body) scope env [] [] [] pos pos.line) Q E s) : wpAny (model pr w) A (eval (.Lambda params body scope pos) env) Q E s := by
  obtain ⟨a, b, c, d, e, f, g⟩ := params
  dsimp only at h1 h2
  subst h1 h2 hq
  show wpAny (model pr w) A (do let dv ← evalAll []; let kdv ← holding dv (evalAllOpt []); makeFunction "<lambda>" (env.qual ++ "<lambda>") _ (.expr body) scope env dv kdv [] pos pos.line) Q E s
  exact wpAny_bind (wpAny_pure (wpAny_bind (wpAny_holding (wpAny_pure h))))
end

/-- a function of one argument that hands back an int -/
structure KeyFn (w : World) (mg mb : Str → Option Value) (n : Nat) (g : Heap) (f : Addr) (D : Heap → Value → Int → Prop) : Prop where
  fn : FnAt f g
  mono : ∀ {g g' : Heap} {v : Value} {z : Int}, Sub g g' → D g v z → D g' v z
  run : ∀ {A : Around} {s : Shared} {g' : Heap} {Q : Value → Shared → Prop} {E : Value → Shared → Prop} {a : Value} {z : Int}, Room A n → Sub g g' → Wd w mg mb g' → Sub g' s.heap → Wm s.heap g' → D g' a z →
    (∀ t h' tk g'', Step X0 s.heap g' h' g'' → Q (.int z t) { s with heap := h', toks := tk }) → wpAny (model pr w) A (call (.ref f) [a]) Q E s
theorem FnAt.sub {f : Addr} {g g' : Heap} (x : FnAt f g) (s : Sub g g') : FnAt f g' := by
  obtain ⟨a, b, c, d, e⟩ := x; exact ⟨a, b, c, d, s _ _ e⟩
theorem KeyFn.sub {w : World} {mg mb : Str → Option Value} {n : Nat} {g g' : Heap} {f : Addr} {D : Heap → Value → Int → Prop} (x : KeyFn w mg mb n g f D) (s : Sub g g') : KeyFn w mg mb n g' f D :=
  ⟨FnAt.sub x.fn s, x.mono, fun R s' => x.run R (s.trans s')⟩
section
variable {w : World} {mg mb : Str → Option Value} {A : Around} {E : Value → Shared → Prop} {s : Shared} {g : Heap} {Q : Value → Shared → Prop}
noncomputable def DHeld (w : World) (ks : List (Int × Int)) (x : Int) (g : Heap) (v : Value) (z : Int) : Prop := ∃ y, RowAt w g v y ∧ z = cmpR ks y x
theorem held_spec {n : Nat} {o r : Value} {ks : List (Int × Int)} {x : Int} (R : Room A (n + 2)) (W : Wd w mg mb g) (S : Sub g s.heap) (M : Wm s.heap g)
    (hO : OrderAt g o ks) (hr : RowAt w g r x)
    (h : ∀ f h' tk g', Step X0 s.heap g h' g' → KeyFn w mg mb 4 g' f (DHeld w ks x) → Q (.ref f) { s with heap := h', toks := tk }) :
    wpAny (model pr w) A (call (.ref 116) [o, r]) Q E s := by
  refine enterC (n := n + 1) (binds := [("order", o), ("row", r)]) R W S M (W.kin 116 _ rfl) rfl rfl (codeRec_of W.kin rfl) rfl rfl rfl (by decide) rfl rfl rfl rfl rfl ?_
  intro env A' L h₁ mu tk E' he e RA C dead F
  dsimp only at e F C he ⊢
  subst he
  refine wpAny_execs_cons (wpAny_Return_some (evLam (qual := "_law_held.<locals>.<lambda>") rfl rfl rfl ?_))
  cases C with
  | cons d1 C =>
    cases C with
    | cons d2 C =>
      cases C
      rename_i o1 o2
      obtain ⟨g1, F1, s1, e1⟩ := F.freeze (dead _ (.head _))
      obtain ⟨g2, F2, s2, e2⟩ := F1.freeze (dead _ (.tail _ (.head _)))
      refine mkLam (P := 111) (c := 115) (qs := qHeld) (clos := [("row", L + 2), ("order", L + 1)]) F2 (W.sub (s1.trans s2)) (by simp) (W.sub (s1.trans s2)).hd1 (W.sub (s1.trans s2)).bat1 F2.st.wm.t1 rfl rfl rfl (by decide) (by decide) ?_ ?_
      · intro h' g' k sg hX T
        exact ⟨T, F2.st.wm.t2.step (fun o e => k 149 o (by decide) e) sg (hX 149 (by simp))⟩
      · intro f cv ct h' g' tk' F3 s3 st ef hrc
        dsimp only
        refine h f h' tk' g' F3.st ⟨⟨_, _, _, _, ef⟩, fun sg ⟨y, hy, hz⟩ => ⟨y, hy.sub sg, hz⟩, ?_⟩
        have c1 : g'.IsCell (L + 1) (some o) := ⟨o2, s3 _ _ e2, d2⟩
        have c2 : g'.IsCell (L + 2) (some r) := ⟨o1, s3 _ _ (s2 _ _ e1), d1⟩
        have hO' : OrderAt g' o ks := hO.sub ((s1.trans s2).trans s3)
        have hr' : RowAt w g' r x := hr.sub ((s1.trans s2).trans s3)
        clear h st F F1 F2 F3 hO hr S M W R
        rintro A s g'' Q E a z R sg W S M ⟨y, hy, rfl⟩ ret
        refine enterE (n := 3) (binds := [("other", a)]) R W S M (sg _ _ ef) rfl rfl (CodeRec.sub hrc sg) (BindsTo.of_eq rfl) (by dsimp only; decide) (locs rfl) rfl rfl rfl rfl rfl ?_
        intro env A' L' h₁ tk E' e RA F
        dsimp only at e F ⊢
        obtain ⟨a', dx, es, nn, kv, rfl, i1, i2, i3, i4, hK⟩ := hO'.inst
        have cs : ∀ {c v}, g'.IsCell c v → h₁.IsCell c v := fun ⟨o, e, d⟩ => ⟨o, F.sub _ _ (sg _ _ e), d⟩
        refine MethodCall_ (ldF e (cs c1) ?_) (by rfl)
        refine method_fn (od := some (dictOf es nn)) (f := 35) (W.sub F.sub).kin ⟨F.sub _ _ (sg _ _ i1), rfl, rfl, F.sub _ _ (sg _ _ i2)⟩ rfl rfl rfl rfl (by show (lookIn _ (dictOf es nn)).map _ = _; rw [lookIn_dict, i4]; rfl) ?_
        dsimp only
        have fn : FnAt 35 h₁ := ⟨_, _, _, _, F.sub _ _ (W.kin 35 _ rfl)⟩
        refine callWith_F fn (spliced_more (ldL e F rfl (spliced_more (ldF e (cs c2) (spliced_none ⟨fn, ?_⟩)))))
        exact compare_spec (n := 1) RA (W.sub (Sub.refl _)) F.sub F.st.wm (hO'.sub sg) hy (hr'.sub sg) fun t h' tk g3 st => ret t h' tk g3 (F.call st).st
end
end Mine

end
section
set_option autoImplicit false
set_option maxHeartbeats 1000000
namespace Mine
theorem half (lo hi : Nat) : ((lo : Int) + (hi : Int)).fdiv 2 = (((lo + hi) / 2 : Nat) : Int) := by
  rw [Int.fdiv_eq_ediv_of_nonneg _ (by decide)]; omega
section
variable {w : World} {mg mb : Str → Option Value} {A : Around} {E : Value → Shared → Prop} {s : Shared} {g : Heap} {Q : Value → Shared → Prop}
/-- the middle of two places -/
theorem mid_facts {lo hi N : Nat} (h : lo < hi) (hN : hi ≤ N) : (lo + hi) / 2 < N ∧ lo ≤ (lo + hi) / 2 ∧ (lo + hi) / 2 ≤ N ∧ (lo + hi) / 2 - lo < hi - lo ∧ hi - ((lo + hi) / 2 + 1) < hi - lo ∧ (lo + hi) / 2 + 1 ≤ hi := by
  have h1 : (lo + hi) / 2 < hi := by omega
  have h2 : lo ≤ (lo + hi) / 2 := by omega
  refine ⟨Nat.lt_of_lt_of_le h1 hN, h2, Nat.le_of_lt (Nat.lt_of_lt_of_le h1 hN), Nat.sub_lt_sub_right h2 h1, ?_, h1⟩
  exact Nat.sub_lt_sub_left h (Nat.lt_succ_of_le h2)
theorem cast_nonneg (n : Nat) : (0 : Int) ≤ (n : Int) := Int.natCast_nonneg n
theorem pow60 {n : Nat} (h : n < 2 ^ 60) : n < 2 ^ 62 := Nat.lt_trans h (by decide)
theorem Loc.list {h₀ g₀ h g : Heap} {L : Addr} {m : Str → Option Value} {mu : List (Addr × Obj)} {X : List Addr} {l : Addr} {vs : Array Value} (F : Loc X h₀ g₀ L h g m mu) (hl : h₀.IsList l vs) (hX : l ∉ X) : h.IsList l vs := by
  obtain ⟨o, e, r⟩ := hl; exact ⟨o, F.st.pres _ _ hX e, r⟩

theorem bisR_spec {n k : Nat} {l f : Addr} {vs : List Value} {kf : Nat → Int} {x : Int} {tx t0 : Tok} {D : Heap → Value → Int → Prop} {args : List Value} {kw : List (Str × Value)}
    (R : Room A (n + 1 + k)) (W : Wd w mg mb g) (S : Sub g s.heap) (M : Wm s.heap g) (hl : s.heap.IsList l vs.toArray) (hlX : l ∉ X0) (hz : vs.length < 2 ^ 60)
    (hf : KeyFn w mg mb k g f D) (hd : ∀ i v, vs[i]? = some v → D g v (kf i)) (mono : ∀ i j, i ≤ j → j < vs.length → kf i ≤ kf j)
    (hbind : ∀ o fd, (KK w).lookup 81 = some o → o.data = .func fd → BindsTo s fd ⟨args, kw⟩ [("a", .ref l), ("x", .int x tx), ("lo", .int 0 t0), ("hi", .none), ("key", .ref f)])
    (h : ∀ (r : Nat) t h' tk g', Step X0 s.heap g h' g' → r ≤ vs.length → (∀ i, i < r → kf i ≤ x) → (∀ i, r ≤ i → i < vs.length → x < kf i) → Q (.int r t) { s with heap := h', toks := tk }) :
    wpAny (model pr w) A (call (.ref 81) args kw) Q E s := by
  refine enter (n := n + k) (X := X0) (R.le (by omega)) W S M M.at (fun _ h => h) (W.kin 81 _ rfl) rfl rfl (codeRec_of W.kin rfl) (hbind _ _ rfl rfl) (by decide) (locs rfl) rfl rfl rfl rfl rfl ?_
  intro env A' L h₁ tk E' e RA F
  dsimp only at e F ⊢
  refine wpAny_execs_cons (wpAny_If (wpAny_isTrue_Compare1 (ldL e F rfl (wpAny_Constant_int (PyProof.Rows.lt_int (wpAny_truthy_bool ?_))))))
  simp only [Int.lt_irrefl, decide_false, Bool.false_eq_true, if_false]
  refine wpAny_execs_nil ?_
  dsimp only
  refine wpAny_execs_cons (wpAny_If (wpAny_isTrue_Compare1 (ldL e F rfl (wpAny_Constant_none (PyProof.Rows.is_none_none (wpAny_truthy_bool ?_))))))
  simp only [if_true]
  refine wpAny_execs_cons (wpAny_Assign_Name (wpAny_Call_NameR (ldB e W F.sub rfl boot_len (by decide) ?_)))
  refine PyProof.Rows.callWith_builtin1 (spliced_more (ldL e F rfl (spliced_none (PyProof.Rows.len_list (F.list hl hlX) (by simp; omega) ?_))))
  refine stL e F fun h2 F2 => ?_
  refine wpAny_execs_nil ?_
  dsimp only
  refine wpAny_execs_cons (wpAny_If (wpAny_isTrue_Compare1 (ldL e F2 rfl (wpAny_Constant_none (PyProof.Rows.is_ref_none (wpAny_truthy_bool ?_))))))
  simp only [Bool.false_eq_true, if_false]
  refine wpAny_execs_cons (while_rule F2 (fun k _ m' _ => ∃ lo hi : Nat, (∃ t1, m' "lo" = some (.int lo t1)) ∧ (∃ t2, m' "hi" = some (.int hi t2)) ∧ m' "a" = some (.ref l) ∧ m' "x" = some (.int x tx) ∧ m' "key" = some (.ref f) ∧
    lo ≤ hi ∧ hi ≤ vs.length ∧ k = hi - lo ∧ (∀ i, i < lo → kf i ≤ x) ∧ (∀ i, hi ≤ i → i < vs.length → x < kf i)) vs.length
    ⟨0, vs.length, ⟨_, rfl⟩, ⟨_, by simp; rfl⟩, rfl, rfl, rfl, Nat.zero_le _, Nat.le_refl _, rfl, fun i hi => absurd hi (Nat.not_lt_zero _), fun i h1 h2 => absurd h2 (Nat.not_lt.mpr h1)⟩ ?_)
  intro nn h3 g3 m3 mu3 tk3 E3 sg F3 I3
  refine absW fun T U hT hU => ?_
  obtain ⟨lo, hi, ⟨t1, q1⟩, ⟨t2, q2⟩, q3, q4, q5, hlh, hhn, rfl, hlo, hhi⟩ := I3
  refine wpAny_isTrue_Compare1 (ldL e F3 q1 (ldL e F3 q2 (PyProof.Rows.lt_int (wpAny_truthy_bool ?_))))
  by_cases hlt : lo < hi
  · have hlt' : (lo : Int) < (hi : Int) := Int.ofNat_lt.mpr hlt
    simp only [hlt', decide_true, if_true]
    refine wpAny_execs_cons (wpAny_Assign_Name (wpAny_BinOp (wpAny_BinOp (ldL e F3 q1 (ldL e F3 q2 (PyProof.Rows.add_int (wpAny_Constant_int (floordiv_int (by decide) ?_ (Or.inl (PyProof.noPylong_of_log2 (by decide +kernel)))))))))))
    rw [half]
    refine stL e F3 fun h4 F4 => ?_
    dsimp only
    obtain ⟨hm, m1, m2, m3', m4, m5⟩ := mid_facts hlt hhn
    refine wpAny_execs_cons (wpAny_If (wpAny_isTrue_Compare1 (ldL e F4 q4 (wpAny_Call_NameR (ldL e F4 q5 ?_)))))
    have fn : ∀ {h g'}, Sub g g' → Sub g' h → FnAt f h := fun a b => FnAt.sub hf.fn (a.trans b)
    refine callWith_F (fn sg F4.sub) (spliced_more (Subscript_ (ldL e F4 q3 (ldL e F4 rfl (subList (Sub.refl _) (F4.list hl hlX) (cast_nonneg _) (x := vs[(lo + hi) / 2]) (by rw [Int.toNat_natCast, List.getElem?_eq_getElem hm]) (pow60 hz) (spliced_none ⟨fn sg F4.sub, ?_⟩))))))
    refine hf.run (RA.le (by omega)) sg (W.sub sg) F4.sub F4.st.wm (hf.mono sg (hd ((lo + hi) / 2) _ (List.getElem?_eq_getElem hm))) fun t5 h5 tk5 g5 st5 => ?_
    have F5 := F4.call st5
    refine PyProof.Rows.lt_int (wpAny_truthy_bool ?_)
    by_cases c : x < kf ((lo + hi) / 2)
    · simp only [c, decide_true, if_true]
      refine wpAny_execs_cons (wpAny_Assign_Name (ldL e F5 rfl (stL e F5 fun h6 F6 => ?_)))
      refine wpAny_execs_nil ?_
      refine wpAny_execs_nil ?_
      refine hT _ _ ⟨_, h6, g5, _, mu3, _, ?_, rfl, st5.sub, F6, lo, (lo + hi) / 2, ⟨_, q1⟩, ⟨_, rfl⟩, q3, q4, q5, ?_, ?_, rfl, hlo, ?_⟩
      · exact m3'
      · exact m1
      · exact m2
      · intro i h1 h2
        exact Int.lt_of_lt_of_le c (mono _ _ h1 h2)
    · simp only [c, decide_false, Bool.false_eq_true, if_false]
      refine wpAny_execs_cons (wpAny_Assign_Name (wpAny_BinOp (ldL e F5 rfl (wpAny_Constant_int (PyProof.Rows.add_int ?_)))))
      refine stL e F5 fun h6 F6 => ?_
      refine wpAny_execs_nil ?_
      refine wpAny_execs_nil ?_
      refine hT _ _ ⟨_, h6, g5, _, mu3, _, ?_, rfl, st5.sub, F6, (lo + hi) / 2 + 1, hi, ⟨_, by simp; rfl⟩, ⟨_, q2⟩, q3, q4, q5, ?_, hhn, rfl, ?_, hhi⟩
      · exact m4
      · exact m5
      · intro i h1
        exact Int.le_trans (mono i _ (Nat.le_of_lt_succ h1) hm) (Int.not_lt.mp c)
  · have hlt' : ¬ (lo : Int) < (hi : Int) := fun q => hlt (Int.ofNat_lt.mp q)
    simp only [hlt', decide_false, Bool.false_eq_true, if_false]
    refine hU _ ?_
    dsimp only
    refine wpAny_execs_nil ?_
    dsimp only
    refine wpAny_execs_cons (wpAny_Return_some (ldL e F3 q1 ?_))
    dsimp only
    obtain rfl := Nat.le_antisymm hlh (Nat.le_of_not_lt hlt)
    exact h lo _ _ _ _ F3.st hhn hlo hhi
theorem bisL_spec {n k : Nat} {l f : Addr} {vs : List Value} {kf : Nat → Int} {x : Int} {tx t0 : Tok} {D : Heap → Value → Int → Prop} {args : List Value} {kw : List (Str × Value)}
    (R : Room A (n + 1 + k)) (W : Wd w mg mb g) (S : Sub g s.heap) (M : Wm s.heap g) (hl : s.heap.IsList l vs.toArray) (hlX : l ∉ X0) (hz : vs.length < 2 ^ 60)
    (hf : KeyFn w mg mb k g f D) (hd : ∀ i v, vs[i]? = some v → D g v (kf i)) (mono : ∀ i j, i ≤ j → j < vs.length → kf i ≤ kf j)
    (hbind : ∀ o fd, (KK w).lookup 90 = some o → o.data = .func fd → BindsTo s fd ⟨args, kw⟩ [("a", .ref l), ("x", .int x tx), ("lo", .int 0 t0), ("hi", .none), ("key", .ref f)])
    (h : ∀ (r : Nat) t h' tk g', Step X0 s.heap g h' g' → r ≤ vs.length → (∀ i, i < r → kf i < x) → (∀ i, r ≤ i → i < vs.length → x ≤ kf i) → Q (.int r t) { s with heap := h', toks := tk }) :
    wpAny (model pr w) A (call (.ref 90) args kw) Q E s := by
  refine enter (n := n + k) (X := X0) (R.le (by omega)) W S M M.at (fun _ h => h) (W.kin 90 _ rfl) rfl rfl (codeRec_of W.kin rfl) (hbind _ _ rfl rfl) (by decide) (locs rfl) rfl rfl rfl rfl rfl ?_
  intro env A' L h₁ tk E' e RA F
  dsimp only at e F ⊢
  refine wpAny_execs_cons (wpAny_If (wpAny_isTrue_Compare1 (ldL e F rfl (wpAny_Constant_int (PyProof.Rows.lt_int (wpAny_truthy_bool ?_))))))
  simp only [Int.lt_irrefl, decide_false, Bool.false_eq_true, if_false]
  refine wpAny_execs_nil ?_
  dsimp only
  refine wpAny_execs_cons (wpAny_If (wpAny_isTrue_Compare1 (ldL e F rfl (wpAny_Constant_none (PyProof.Rows.is_none_none (wpAny_truthy_bool ?_))))))
  simp only [if_true]
  refine wpAny_execs_cons (wpAny_Assign_Name (wpAny_Call_NameR (ldB e W F.sub rfl boot_len (by decide) ?_)))
  refine PyProof.Rows.callWith_builtin1 (spliced_more (ldL e F rfl (spliced_none (PyProof.Rows.len_list (F.list hl hlX) (by simp; omega) ?_))))
  refine stL e F fun h2 F2 => ?_
  refine wpAny_execs_nil ?_
  dsimp only
  refine wpAny_execs_cons (wpAny_If (wpAny_isTrue_Compare1 (ldL e F2 rfl (wpAny_Constant_none (PyProof.Rows.is_ref_none (wpAny_truthy_bool ?_))))))
  simp only [Bool.false_eq_true, if_false]
  refine wpAny_execs_cons (while_rule F2 (fun k _ m' _ => ∃ lo hi : Nat, (∃ t1, m' "lo" = some (.int lo t1)) ∧ (∃ t2, m' "hi" = some (.int hi t2)) ∧ m' "a" = some (.ref l) ∧ m' "x" = some (.int x tx) ∧ m' "key" = some (.ref f) ∧
    lo ≤ hi ∧ hi ≤ vs.length ∧ k = hi - lo ∧ (∀ i, i < lo → kf i < x) ∧ (∀ i, hi ≤ i → i < vs.length → x ≤ kf i)) vs.length
    ⟨0, vs.length, ⟨_, rfl⟩, ⟨_, by simp; rfl⟩, rfl, rfl, rfl, Nat.zero_le _, Nat.le_refl _, rfl, fun i hi => absurd hi (Nat.not_lt_zero _), fun i h1 h2 => absurd h2 (Nat.not_lt.mpr h1)⟩ ?_)
  intro nn h3 g3 m3 mu3 tk3 E3 sg F3 I3
  refine absW fun T U hT hU => ?_
  obtain ⟨lo, hi, ⟨t1, q1⟩, ⟨t2, q2⟩, q3, q4, q5, hlh, hhn, rfl, hlo, hhi⟩ := I3
  refine wpAny_isTrue_Compare1 (ldL e F3 q1 (ldL e F3 q2 (PyProof.Rows.lt_int (wpAny_truthy_bool ?_))))
  by_cases hlt : lo < hi
  · have hlt' : (lo : Int) < (hi : Int) := Int.ofNat_lt.mpr hlt
    simp only [hlt', decide_true, if_true]
    refine wpAny_execs_cons (wpAny_Assign_Name (wpAny_BinOp (wpAny_BinOp (ldL e F3 q1 (ldL e F3 q2 (PyProof.Rows.add_int (wpAny_Constant_int (floordiv_int (by decide) ?_ (Or.inl (PyProof.noPylong_of_log2 (by decide +kernel)))))))))))
    rw [half]
    refine stL e F3 fun h4 F4 => ?_
    dsimp only
    obtain ⟨hm, m1, m2, m3', m4, m5⟩ := mid_facts hlt hhn
    refine wpAny_execs_cons (wpAny_If (wpAny_isTrue_Compare1 (wpAny_Call_NameR (ldL e F4 q5 ?_))))
    have fn : ∀ {h g'}, Sub g g' → Sub g' h → FnAt f h := fun a b => FnAt.sub hf.fn (a.trans b)
    refine callWith_F (fn sg F4.sub) (spliced_more (Subscript_ (ldL e F4 q3 (ldL e F4 rfl (subList (Sub.refl _) (F4.list hl hlX) (cast_nonneg _) (x := vs[(lo + hi) / 2]) (by rw [Int.toNat_natCast, List.getElem?_eq_getElem hm]) (pow60 hz) (spliced_none ⟨fn sg F4.sub, ?_⟩))))))
    refine hf.run (RA.le (by omega)) sg (W.sub sg) F4.sub F4.st.wm (hf.mono sg (hd ((lo + hi) / 2) _ (List.getElem?_eq_getElem hm))) fun t5 h5 tk5 g5 st5 => ?_
    have F5 := F4.call st5
    refine ldL e F5 q4 (PyProof.Rows.lt_int (wpAny_truthy_bool ?_))
    by_cases c : kf ((lo + hi) / 2) < x
    · simp only [c, decide_true, if_true]
      refine wpAny_execs_cons (wpAny_Assign_Name (wpAny_BinOp (ldL e F5 rfl (wpAny_Constant_int (PyProof.Rows.add_int ?_)))))
      refine stL e F5 fun h6 F6 => ?_
      refine wpAny_execs_nil ?_
      refine wpAny_execs_nil ?_
      refine hT _ _ ⟨_, h6, g5, _, mu3, _, ?_, rfl, st5.sub, F6, (lo + hi) / 2 + 1, hi, ⟨_, by simp; rfl⟩, ⟨_, q2⟩, q3, q4, q5, ?_, hhn, rfl, ?_, hhi⟩
      · exact m4
      · exact m5
      · intro i h1
        exact Int.lt_of_le_of_lt (mono i _ (Nat.le_of_lt_succ h1) hm) c
    · simp only [c, decide_false, Bool.false_eq_true, if_false]
      refine wpAny_execs_cons (wpAny_Assign_Name (ldL e F5 rfl (stL e F5 fun h6 F6 => ?_)))
      refine wpAny_execs_nil ?_
      refine wpAny_execs_nil ?_
      refine hT _ _ ⟨_, h6, g5, _, mu3, _, ?_, rfl, st5.sub, F6, lo, (lo + hi) / 2, ⟨_, q1⟩, ⟨_, rfl⟩, q3, q4, q5, ?_, ?_, rfl, hlo, ?_⟩
      · exact m3'
      · exact m1
      · exact m2
      · intro i h1 h2
        exact Int.le_trans (Int.not_lt.mp c) (mono _ _ h1 h2)
  · have hlt' : ¬ (lo : Int) < (hi : Int) := fun q => hlt (Int.ofNat_lt.mp q)
    simp only [hlt', decide_false, Bool.false_eq_true, if_false]
    refine hU _ ?_
    dsimp only
    refine wpAny_execs_nil ?_
    dsimp only
    refine wpAny_execs_cons (wpAny_Return_some (ldL e F3 q1 ?_))
    dsimp only
    obtain rfl := Nat.le_antisymm hlh (Nat.le_of_not_lt hlt)
    exact h lo _ _ _ _ F3.st hhn hlo hhi
theorem bisL0_spec {n : Nat} {l : Addr} {vs : List Value} {kf : Nat → Int} {x : Int} {tx t0 : Tok} {args : List Value} {kw : List (Str × Value)}
    (R : Room A (n + 1)) (W : Wd w mg mb g) (S : Sub g s.heap) (M : Wm s.heap g) (hl : s.heap.IsList l vs.toArray) (hlX : l ∉ X0) (hz : vs.length < 2 ^ 60)
    (hd : ∀ (i : Nat) (v : Value), vs[i]? = some v → ∃ t, v = Value.int (kf i) t) (mono : ∀ i j, i ≤ j → j < vs.length → kf i ≤ kf j)
    (hbind : ∀ o fd, (KK w).lookup 90 = some o → o.data = .func fd → BindsTo s fd ⟨args, kw⟩ [("a", .ref l), ("x", .int x tx), ("lo", .int 0 t0), ("hi", .none), ("key", .none)])
    (h : ∀ (r : Nat) t h' tk g', Step X0 s.heap g h' g' → r ≤ vs.length → (∀ i, i < r → kf i < x) → (∀ i, r ≤ i → i < vs.length → x ≤ kf i) → Q (.int r t) { s with heap := h', toks := tk }) :
    wpAny (model pr w) A (call (.ref 90) args kw) Q E s := by
  refine enter (n := n) (X := X0) R W S M M.at (fun _ h => h) (W.kin 90 _ rfl) rfl rfl (codeRec_of W.kin rfl) (hbind _ _ rfl rfl) (by decide) (locs rfl) rfl rfl rfl rfl rfl ?_
  intro env A' L h₁ tk E' e RA F
  dsimp only at e F ⊢
  refine wpAny_execs_cons (wpAny_If (wpAny_isTrue_Compare1 (ldL e F rfl (wpAny_Constant_int (PyProof.Rows.lt_int (wpAny_truthy_bool ?_))))))
  simp only [Int.lt_irrefl, decide_false, Bool.false_eq_true, if_false]
  refine wpAny_execs_nil ?_
  dsimp only
  refine wpAny_execs_cons (wpAny_If (wpAny_isTrue_Compare1 (ldL e F rfl (wpAny_Constant_none (PyProof.Rows.is_none_none (wpAny_truthy_bool ?_))))))
  simp only [if_true]
  refine wpAny_execs_cons (wpAny_Assign_Name (wpAny_Call_NameR (ldB e W F.sub rfl boot_len (by decide) ?_)))
  refine PyProof.Rows.callWith_builtin1 (spliced_more (ldL e F rfl (spliced_none (PyProof.Rows.len_list (F.list hl hlX) (by simp; omega) ?_))))
  refine stL e F fun h2 F2 => ?_
  refine wpAny_execs_nil ?_
  dsimp only
  refine wpAny_execs_cons (wpAny_If (wpAny_isTrue_Compare1 (ldL e F2 rfl (wpAny_Constant_none (PyProof.Rows.is_none_none (wpAny_truthy_bool ?_))))))
  simp only [if_true]
  refine wpAny_execs_cons (while_rule F2 (fun k _ m' _ => ∃ lo hi : Nat, (∃ t1, m' "lo" = some (.int lo t1)) ∧ (∃ t2, m' "hi" = some (.int hi t2)) ∧ m' "a" = some (.ref l) ∧ m' "x" = some (.int x tx) ∧ m' "key" = some .none ∧
    lo ≤ hi ∧ hi ≤ vs.length ∧ k = hi - lo ∧ (∀ i, i < lo → kf i < x) ∧ (∀ i, hi ≤ i → i < vs.length → x ≤ kf i)) vs.length
    ⟨0, vs.length, ⟨_, rfl⟩, ⟨_, by simp; rfl⟩, rfl, rfl, rfl, Nat.zero_le _, Nat.le_refl _, rfl, fun i hi => absurd hi (Nat.not_lt_zero _), fun i h1 h2 => absurd h2 (Nat.not_lt.mpr h1)⟩ ?_)
  intro nn h3 g3 m3 mu3 tk3 E3 sg F3 I3
  refine absW fun T U hT hU => ?_
  obtain ⟨lo, hi, ⟨t1, q1⟩, ⟨t2, q2⟩, q3, q4, q5, hlh, hhn, rfl, hlo, hhi⟩ := I3
  refine wpAny_isTrue_Compare1 (ldL e F3 q1 (ldL e F3 q2 (PyProof.Rows.lt_int (wpAny_truthy_bool ?_))))
  by_cases hlt : lo < hi
  · have hlt' : (lo : Int) < (hi : Int) := Int.ofNat_lt.mpr hlt
    simp only [hlt', decide_true, if_true]
    refine wpAny_execs_cons (wpAny_Assign_Name (wpAny_BinOp (wpAny_BinOp (ldL e F3 q1 (ldL e F3 q2 (PyProof.Rows.add_int (wpAny_Constant_int (floordiv_int (by decide) ?_ (Or.inl (PyProof.noPylong_of_log2 (by decide +kernel)))))))))))
    rw [half]
    refine stL e F3 fun h4 F4 => ?_
    dsimp only
    obtain ⟨hm, m1, m2, m3', m4, m5⟩ := mid_facts hlt hhn
    obtain ⟨tv, hv⟩ := hd ((lo + hi) / 2) _ (List.getElem?_eq_getElem hm)
    refine wpAny_execs_cons (wpAny_If (wpAny_isTrue_Compare1 (Subscript_ (ldL e F4 q3 (ldL e F4 rfl (subList (Sub.refl _) (F4.list hl hlX) (cast_nonneg _) (x := .int (kf ((lo + hi) / 2)) tv) (by rw [Int.toNat_natCast, List.getElem?_eq_getElem hm, hv]) (pow60 hz) ?_))))))
    refine ldL e F4 q4 (PyProof.Rows.lt_int (wpAny_truthy_bool ?_))
    by_cases c : kf ((lo + hi) / 2) < x
    · simp only [c, decide_true, if_true]
      refine wpAny_execs_cons (wpAny_Assign_Name (wpAny_BinOp (ldL e F4 rfl (wpAny_Constant_int (PyProof.Rows.add_int ?_)))))
      refine stL e F4 fun h6 F6 => ?_
      refine wpAny_execs_nil ?_
      refine wpAny_execs_nil ?_
      refine hT _ _ ⟨_, h6, g3, _, mu3, _, ?_, rfl, Sub.refl _, F6, (lo + hi) / 2 + 1, hi, ⟨_, by simp; rfl⟩, ⟨_, q2⟩, q3, q4, q5, ?_, hhn, rfl, ?_, hhi⟩
      · exact m4
      · exact m5
      · intro i h1
        exact Int.lt_of_le_of_lt (mono i _ (Nat.le_of_lt_succ h1) hm) c
    · simp only [c, decide_false, Bool.false_eq_true, if_false]
      refine wpAny_execs_cons (wpAny_Assign_Name (ldL e F4 rfl (stL e F4 fun h6 F6 => ?_)))
      refine wpAny_execs_nil ?_
      refine wpAny_execs_nil ?_
      refine hT _ _ ⟨_, h6, g3, _, mu3, _, ?_, rfl, Sub.refl _, F6, lo, (lo + hi) / 2, ⟨_, q1⟩, ⟨_, rfl⟩, q3, q4, q5, ?_, ?_, rfl, hlo, ?_⟩
      · exact m3'
      · exact m1
      · exact m2
      · intro i h1 h2
        exact Int.le_trans (Int.not_lt.mp c) (mono _ _ h1 h2)
  · have hlt' : ¬ (lo : Int) < (hi : Int) := fun q => hlt (Int.ofNat_lt.mp q)
    simp only [hlt', decide_false, Bool.false_eq_true, if_false]
    refine hU _ ?_
    dsimp only
    refine wpAny_execs_nil ?_
    dsimp only
    refine wpAny_execs_cons (wpAny_Return_some (ldL e F3 q1 ?_))
    dsimp only
    obtain rfl := Nat.le_antisymm hlh (Nat.le_of_not_lt hlt)
    exact h lo _ _ _ _ F3.st hhn hlo hhi
end
end Mine

end
section
set_option autoImplicit false
namespace Mine
/-! ## Plain: the order of the rows -/
noncomputable abbrev Keys := List (Int × Int)
noncomputable def KeysOk (ks : Keys) : Prop := ∀ k ∈ ks, 0 ≤ k.1 ∧ k.1 < 3 ∧ (k.2 = 1 ∨ k.2 = -1)
noncomputable def wt (ks : Keys) (x : Int) : List Int := ks.map fun k => k.2 * col k.1 x
noncomputable def lexc : List Int → List Int → Int
  | a :: as, b :: bs => if a < b then -1 else if b < a then 1 else lexc as bs
  | _, _ => 0
theorem lexc_lt {a b : Int} (h : a < b) (as bs : List Int) : lexc (a :: as) (b :: bs) = -1 := if_pos h
theorem lexc_gt {a b : Int} (h : b < a) (as bs : List Int) : lexc (a :: as) (b :: bs) = 1 := (if_neg (Int.lt_asymm h)).trans (if_pos h)
theorem lexc_eq (a : Int) (as bs : List Int) : lexc (a :: as) (a :: bs) = lexc as bs := (if_neg (Int.lt_irrefl a)).trans (if_neg (Int.lt_irrefl a))
theorem neg1_lt {a b : Int} (h : a < b) : -1 * b < -1 * a := by rw [Int.neg_one_mul, Int.neg_one_mul]; exact Int.neg_lt_neg h
theorem cmpR_lexc : ∀ {ks : Keys}, KeysOk ks → ∀ x y, cmpR ks x y = lexc (wt ks x) (wt ks y)
  | [], _, _, _ => rfl
  | (c, d) :: ks, h, x, y => by
    have ih := cmpR_lexc (ks := ks) (fun k hk => h k (.tail _ hk)) x y
    have hd := (h (c, d) (.head _)).2.2
    dsimp only at hd
    unfold cmpR
    show _ = lexc (d * col c x :: wt ks x) (d * col c y :: wt ks y)
    rw [ih]
    rcases hd with rfl | rfl
    · show (if col c x < col c y then _ else if col c y < col c x then _ else _) = _
      rw [Int.one_mul, Int.one_mul]
      rcases Int.lt_trichotomy (col c x) (col c y) with p | p | p
      · rw [if_pos p, lexc_lt p]
      · rw [p, if_neg (Int.lt_irrefl _), if_neg (Int.lt_irrefl _), lexc_eq]
      · rw [if_neg (Int.lt_asymm p), if_pos p, lexc_gt p]
    · show (if col c x < col c y then _ else if col c y < col c x then _ else _) = _
      rcases Int.lt_trichotomy (col c x) (col c y) with p | p | p
      · rw [if_pos p, lexc_gt (neg1_lt p)]; rfl
      · rw [p, if_neg (Int.lt_irrefl _), if_neg (Int.lt_irrefl _), lexc_eq]
      · rw [if_neg (Int.lt_asymm p), if_pos p, lexc_lt (neg1_lt p)]
theorem lexc_range : ∀ a b : List Int, lexc a b = -1 ∨ lexc a b = 0 ∨ lexc a b = 1
  | [], _ => .inr (.inl (by unfold lexc; rfl))
  | _ :: _, [] => .inr (.inl (by unfold lexc; rfl))
  | a :: as, b :: bs => by
    unfold lexc
    have := lexc_range as bs
    split
    · exact .inl rfl
    · split
      · exact .inr (.inr rfl)
      · exact this
theorem lexc_self : ∀ a : List Int, lexc a a = 0
  | [] => by unfold lexc; rfl
  | a :: as => by unfold lexc; simp [lexc_self as]
theorem lexc_anti : ∀ a b : List Int, lexc b a = -lexc a b
  | [], [] => by unfold lexc; rfl
  | [], _ :: _ => by unfold lexc; rfl
  | _ :: _, [] => by unfold lexc; rfl
  | a :: as, b :: bs => by
    rcases Int.lt_trichotomy a b with p | rfl | p
    · rw [lexc_lt p, lexc_gt p]; rfl
    · rw [lexc_eq, lexc_eq]; exact lexc_anti as bs
    · rw [lexc_gt p, lexc_lt p]
/-- lists of one length: less than or alike is transitive, and strict on one side -/
theorem lexc_trans : ∀ {a b c : List Int}, a.length = b.length → b.length = c.length → lexc a b ≤ 0 → lexc b c ≤ 0 → lexc a c ≤ 0 ∧ (lexc a c = 0 → lexc a b = 0 ∧ lexc b c = 0)
  | [], [], [], _, _, _, _ => by unfold lexc; simp
  | a :: as, b :: bs, c :: cs, h1, h2, h3, h4 => by
    rcases Int.lt_trichotomy a b with p | rfl | p
    · rcases Int.lt_trichotomy b c with q | rfl | q
      · rw [lexc_lt (Int.lt_trans p q)]; exact ⟨by decide, fun z => absurd z (by decide)⟩
      · rw [lexc_lt p]; exact ⟨by decide, fun z => absurd z (by decide)⟩
      · rw [lexc_gt q] at h4; exact absurd h4 (by decide)
    · rcases Int.lt_trichotomy a c with q | rfl | q
      · rw [lexc_lt q]; exact ⟨by decide, fun z => absurd z (by decide)⟩
      · rw [lexc_eq] at h3 h4 ⊢
        rw [lexc_eq, lexc_eq]
        exact lexc_trans (Nat.succ.inj h1) (Nat.succ.inj h2) h3 h4
      · rw [lexc_gt q] at h4; exact absurd h4 (by decide)
    · rw [lexc_gt p] at h3; exact absurd h3 (by decide)
  | [], [], _ :: _, _, h2, _, _ => by simp at h2
  | [], _ :: _, _, h1, _, _, _ => by simp at h1
  | _ :: _, [], _, h1, _, _, _ => by simp at h1
  | _ :: _, _ :: _, [], _, h2, _, _ => by simp at h2
theorem wt_length (ks : Keys) (x : Int) : (wt ks x).length = ks.length := by simp [wt]
/-- the order by the keys -/
noncomputable abbrev le (ks : Keys) (x y : Int) : Prop := lexc (wt ks x) (wt ks y) ≤ 0
noncomputable abbrev lt (ks : Keys) (x y : Int) : Prop := lexc (wt ks x) (wt ks y) < 0
section
variable {ks : Keys} {x y z : Int}
theorem le_refl : le ks x x := by unfold le; rw [lexc_self]; exact Int.le_refl 0
theorem le_total : le ks x y ∨ le ks y x := by unfold le; rw [lexc_anti (wt ks x) (wt ks y)]; omega
theorem not_le : ¬ le ks x y ↔ lt ks y x := by unfold le lt; rw [lexc_anti (wt ks x) (wt ks y)]; omega
theorem not_lt : ¬ lt ks x y ↔ le ks y x := by unfold le lt; rw [lexc_anti (wt ks x) (wt ks y)]; omega
theorem le_of_lt (h : lt ks x y) : le ks x y := by unfold lt at h; unfold le; omega
theorem le_trans (a : le ks x y) (b : le ks y z) : le ks x z := (lexc_trans (by simp [wt_length]) (by simp [wt_length]) a b).1
theorem lt_of_lt_of_le (a : lt ks x y) (b : le ks y z) : lt ks x z := by
  have h := lexc_trans (a := wt ks x) (b := wt ks y) (c := wt ks z) (by simp [wt_length]) (by simp [wt_length]) (le_of_lt a) b
  unfold lt at *; omega
theorem lt_of_le_of_lt (a : le ks x y) (b : lt ks y z) : lt ks x z := by
  have h := lexc_trans (a := wt ks x) (b := wt ks y) (c := wt ks z) (by simp [wt_length]) (by simp [wt_length]) a (le_of_lt b)
  unfold lt at *; omega
end
/-- what compare tells grows along a sorted list -/
theorem cmp_mono {ks : Keys} (hk : KeysOk ks) {a b x : Int} (h : le ks a b) : cmpR ks a x ≤ cmpR ks b x := by
  rw [cmpR_lexc hk, cmpR_lexc hk]
  have r1 := lexc_range (wt ks a) (wt ks x)
  have r2 := lexc_range (wt ks b) (wt ks x)
  by_cases c1 : le ks b x
  · have t := lexc_trans (a := wt ks a) (b := wt ks b) (c := wt ks x) (by simp [wt_length]) (by simp [wt_length]) h c1
    unfold le at c1 h; omega
  · unfold le at c1; omega
theorem cmp_le {ks : Keys} (hk : KeysOk ks) {a x : Int} : cmpR ks a x ≤ 0 ↔ le ks a x := by rw [cmpR_lexc hk]
theorem cmp_lt {ks : Keys} (hk : KeysOk ks) {a x : Int} : cmpR ks a x < 0 ↔ lt ks a x := by rw [cmpR_lexc hk]
theorem cmp_gt {ks : Keys} (hk : KeysOk ks) {a x : Int} : 0 < cmpR ks a x ↔ lt ks x a := by
  rw [← not_le, ← cmp_le hk]; omega
theorem cmp_ge {ks : Keys} (hk : KeysOk ks) {a x : Int} : 0 ≤ cmpR ks a x ↔ le ks x a := by
  rw [← not_lt, ← cmp_lt hk]; omega

/-! ## Plain: insertion -/
noncomputable abbrev PRow := Value × Int
noncomputable abbrev Srt (ks : Keys) (l : List PRow) : Prop := l.Pairwise fun p q => le ks p.2 q.2
noncomputable def insR (ks : Keys) (p : PRow) : List PRow → List PRow
  | [] => [p]
  | q :: l => if le ks q.2 p.2 then q :: insR ks p l else p :: q :: l
noncomputable def sortR (ks : Keys) (l : List PRow) : List PRow := l.foldl (fun acc p => insR ks p acc) []
theorem insR_at {ks : Keys} {p : PRow} : ∀ {l : List PRow} {r : Nat}, r ≤ l.length → (∀ i q, i < r → l[i]? = some q → le ks q.2 p.2) → (∀ i q, r ≤ i → l[i]? = some q → lt ks p.2 q.2) → l.take r ++ p :: l.drop r = insR ks p l
  | [], r, h, _, _ => by simp at h; subst h; rfl
  | q :: l, 0, _, _, h2 => by
    have := h2 0 q (Nat.le_refl 0) rfl
    simp only [List.take_zero, List.drop_zero, List.nil_append, insR]
    rw [if_neg (not_le.mpr this)]
  | q :: l, r + 1, h, h1, h2 => by
    have := h1 0 q (Nat.zero_lt_succ _) rfl
    simp only [List.take_succ_cons, List.drop_succ_cons, List.cons_append, insR]
    rw [if_pos this, insR_at (by simpa using h) (fun i q hi e => h1 (i + 1) q (by (exact Nat.lt_succ_of_le hi)) (by simpa using e)) (fun i q hi e => h2 (i + 1) q (by (exact Nat.lt_succ_of_le hi)) (by simpa using e))]
theorem mem_insR {ks : Keys} {p x : PRow} : ∀ {l : List PRow}, x ∈ insR ks p l ↔ x = p ∨ x ∈ l
  | [] => by simp [insR]
  | q :: l => by
    unfold insR
    split
    · rw [List.mem_cons, mem_insR, List.mem_cons]
      constructor
      · rintro (h | h | h)
        · exact .inr (.inl h)
        · exact .inl h
        · exact .inr (.inr h)
      · rintro (h | h | h)
        · exact .inr (.inl h)
        · exact .inl h
        · exact .inr (.inr h)
    · simp
theorem insR_srt {ks : Keys} {p : PRow} : ∀ {l : List PRow}, Srt ks l → Srt ks (insR ks p l)
  | [], _ => by simp [insR]
  | q :: l, h => by
    have h := List.pairwise_cons.mp h
    unfold insR
    split
    · rename_i c
      refine List.pairwise_cons.mpr ?_
      refine ⟨fun x hx => ?_, insR_srt h.2⟩
      rcases mem_insR.mp hx with rfl | hx
      · exact c
      · exact h.1 x hx
    · rename_i c
      refine List.pairwise_cons.mpr ?_
      refine ⟨fun x hx => ?_, List.pairwise_cons.mpr h⟩
      have c' := le_of_lt (not_le.mp c)
      rcases List.mem_cons.mp hx with rfl | hx
      · exact c'
      · exact le_trans c' (h.1 x hx)
theorem insR_length {ks : Keys} {p : PRow} : ∀ l : List PRow, (insR ks p l).length = l.length + 1
  | [] => rfl
  | q :: l => by unfold insR; split <;> simp [insR_length l]
theorem srt_get {ks : Keys} {l : List PRow} (h : Srt ks l) {i j : Nat} {p q : PRow} (hij : i ≤ j) (hp : l[i]? = some p) (hq : l[j]? = some q) : le ks p.2 q.2 := by
  obtain ⟨hi, e1⟩ := List.getElem?_eq_some_iff.mp hp
  obtain ⟨hj, e2⟩ := List.getElem?_eq_some_iff.mp hq
  rcases Nat.lt_or_ge i j with c | c
  · have := List.pairwise_iff_getElem.mp h i j hi hj c
    rw [e1, e2] at this; exact this
  · obtain rfl : i = j := by omega
    rw [e1] at e2; subst e2; exact le_refl
theorem sortR_snoc (ks : Keys) (l : List PRow) (p : PRow) : sortR ks (l ++ [p]) = insR ks p (sortR ks l) := by simp [sortR]
theorem foldIns_srt {ks : Keys} : ∀ (l acc : List PRow), Srt ks acc → Srt ks (l.foldl (fun acc p => insR ks p acc) acc)
  | [], _, h => h
  | _ :: l, _, h => foldIns_srt l _ (insR_srt h)
theorem sortR_srt (ks : Keys) (l : List PRow) : Srt ks (sortR ks l) := foldIns_srt l [] List.Pairwise.nil
theorem mem_foldIns {ks : Keys} {x : PRow} : ∀ (l acc : List PRow), x ∈ l.foldl (fun acc p => insR ks p acc) acc ↔ x ∈ l ∨ x ∈ acc
  | [], _ => by simp
  | p :: l, acc => by
    rw [List.foldl_cons, mem_foldIns l, mem_insR, List.mem_cons]
    constructor
    · rintro (h | h | h)
      · exact .inl (.inr h)
      · exact .inl (.inl h)
      · exact .inr h
    · rintro ((h | h) | h)
      · exact .inr (.inl h)
      · exact .inl h
      · exact .inr (.inr h)
theorem mem_sortR {ks : Keys} {x : PRow} {l : List PRow} : x ∈ sortR ks l ↔ x ∈ l := by simp [sortR, mem_foldIns]
theorem length_foldIns {ks : Keys} : ∀ (l acc : List PRow), (l.foldl (fun acc p => insR ks p acc) acc).length = l.length + acc.length
  | [], _ => by simp
  | p :: l, acc => by rw [List.foldl_cons, length_foldIns l, insR_length, List.length_cons]; omega
theorem sortR_length (ks : Keys) (l : List PRow) : (sortR ks l).length = l.length := by simp [sortR, length_foldIns]
end Mine

end
section
set_option autoImplicit false
set_option maxHeartbeats 1000000
namespace Mine
theorem EnvIs.quiet {env : Env} {names : List (Str × NameKind)} {L : Addr} {cl : List (Str × Addr)} (e : EnvIs env names L cl) : interactive env = false := by
  unfold interactive; rw [e.kind]; rfl
section
variable {w : World} {mg mb : Str → Option Value} {A : Around} {E : Value → Shared → Prop} {s : Shared} {g : Heap}
theorem listMeth {D : Addr} {its : Array Value} {n : Nat} {name : Str} {id : String} {pl : Sem Bool} {Q : Value × List Value → Shared → Prop} (ho : s.heap.get? D = some (listOf its n)) (slot : Slot "list" name id) (hty : typeOf (.builtin id) = pure (.type "method_descriptor"))
    (h : Q (.builtin id, [.ref D]) s) : wpAny (model pr w) A (getMethod (.ref D) name pl) Q E s :=
  getMethod_builtin ⟨_, ho, rfl⟩ PySem.F.plainAttrs_list slot hty (fun a e => by cases e; exact ⟨_, ho, rfl⟩) h
theorem insAt {D : Addr} {its : List Value} {n : Nat} {r : Nat} {x : Int} {u : Tok} {y : Value} {Q : Value → Shared → Prop} (ho : s.heap.get? D = some (listOf its.toArray n)) (hx : x = (r : Int)) (hr : r ≤ its.length) (hz : its.length < 2 ^ 20)
    (h : ∀ h', Heap.ExtBut D s.heap h' → h'.get? D = some (listOf (its.take r ++ y :: its.drop r).toArray (n + 1)) → Q .none { s with heap := h' }) :
    wpAny (model pr w) A (call (.builtin "list.insert") [.ref D, .int x u, y]) Q E s := by
  have hf : Builtin.List.listFitsIndex x = true := by
    unfold Builtin.List.listFitsIndex
    simp; omega
  refine call_meets PySem.F.slot_list_insert ⟨_, ho, rfl⟩ PySem.F.entry_list_insert (PySem.F.args_list_insert_3 _ _ _) (PySem.AutoSeq1.list_insert_list_int_val_1 D _ n x u y (by simp [hf]) (by rw [List.size_toArray, sizeLine_eq]; omega)) ⟨ho, h _ (sbExt (Heap.SameBut.update ..)) ?_⟩
  have q := PySem.IsL.update (h := s.heap) (l := D) (items := its.toArray) (n := n) ho (fun xs => (xs.extract 0 (if x < 0 then (x + (xs.size : Int)).toNat else min x.toNat xs.size)).push y ++ xs.extract (if x < 0 then (x + (xs.size : Int)).toNat else min x.toNat xs.size))
  have e : (its.toArray.extract 0 (if x < 0 then (x + (its.toArray.size : Int)).toNat else min x.toNat its.toArray.size)).push y ++ its.toArray.extract (if x < 0 then (x + (its.toArray.size : Int)).toNat else min x.toNat its.toArray.size) = (its.take r ++ y :: its.drop r).toArray := by
    rw [kl_ins_eq]
    have : (if x < 0 then (x + (its.toArray.size : Int)).toNat else min x.toNat its.toArray.size) = r := by
      rw [if_neg (by omega), List.size_toArray]; omega
    rw [this]
  rw [e] at q
  have : ((its.take r ++ y :: its.drop r).toArray.size == its.toArray.size) = false := by
    simp; omega
  rw [this] at q
  exact q

theorem bind81 {l f : Addr} {x xv hi : Value} {ks : Shared} (X : (KK w).In ks.heap) : ∀ o fd, (KK w).lookup 81 = some o → o.data = .func fd → BindsTo ks fd ⟨[.ref l, x, xv, hi], [("key", .ref f)]⟩ [("a", .ref l), ("x", x), ("lo", xv), ("hi", hi), ("key", .ref f)] := by
  intro o fd h1 h2
  have h3 : (KK w).lookup 81 = some _ := rfl
  rw [h3] at h1
  cases h1
  cases h2
  exact kp_binds X fun _ => rfl

theorem callKw {env : Env} {f : Addr} {pos : Pos} {e : PySem.Expr} {rest : List PySem.Expr} {kws : List Keyword} {Q : Value → Shared → Prop}
    (h : wpAny (model pr w) A (spliced (backTo pos (starEach (e :: rest) env))) (fun vs s₁ => wpAny (model pr w) A (evalAll ((backToKw pos (keywordEach kws env)).map (·.2)))
      (fun ks s₂ => FnAt f s₂.heap ∧ wpAny (model pr w) A (call (.ref f) vs (((backToKw pos (keywordEach kws env)).filterMap (·.1)).zip ks)) Q E s₂) E s₁) E s)
    (he : starEach (e :: rest) env = (false, eval e env) :: starEach rest env := by rfl) (hplain : (backTo pos (starEach (e :: rest) env)).any (·.1) = false := by rfl)
    (hall : (backToKw pos (keywordEach kws env)).all (·.1.isSome) = true := by rfl) (hkw : (backToKw pos (keywordEach kws env)).any (·.1.isNone) = false := by rfl) :
    wpAny (model pr w) A (callWith pos (.ref f) [] (backTo pos (starEach (e :: rest) env)) (backToKw pos (keywordEach kws env))) Q E s := by
  refine callWith_of (P := FnAt f) (by rw [hplain, hkw]; rfl) keeps_F (evalArgs_kw2 hall ?_ he)
  exact h
theorem insort_spec {n k : Nat} {a f : Addr} {its : List Value} {ne : Nat} {kf : Nat → Int} {xv : Value} {z : Int} {D : Heap → Value → Int → Prop} {Q : Value → Shared → Prop}
    (R : Room A (n + 3 + k)) (W : Wd w mg mb g) (S : Sub g s.heap) (M : Wm s.heap g) (ha : s.heap.get? a = some (listOf its.toArray ne)) (ga : g.get? a = none) (aX : a ∉ X0) (hz : its.length < 2 ^ 20)
    (hf : KeyFn w mg mb k g f D) (hd : ∀ i v, its[i]? = some v → D g v (kf i)) (mono : ∀ i j, i ≤ j → j < its.length → kf i ≤ kf j) (hx : D g xv z)
    (h : ∀ (r : Nat) h' tk g', Step (a :: X0) s.heap g h' g' → r ≤ its.length → (∀ i, i < r → kf i ≤ z) → (∀ i, r ≤ i → i < its.length → z < kf i) →
      h'.get? a = some (listOf (its.take r ++ xv :: its.drop r).toArray (ne + 1)) → Q .none { s with heap := h', toks := tk }) :
    wpAny (model pr w) A (call (.ref 72) [.ref a, xv] [("key", .ref f)]) Q E s := by
  refine enterK (n := n + 2 + k) (X := a :: X0) (binds := [("a", .ref a), ("x", xv), ("lo", .int 0 271), ("hi", .none), ("key", .ref f)]) (R.le (by omega)) W S M (fun x hx => (List.mem_cons.mp hx).elim (fun e => e ▸ ⟨_, ha⟩) (M.at x)) (fun _ h => .tail _ h) (W.kin 72 _ rfl) rfl rfl (codeRec_of W.kin rfl) (kp_binds (W.sub S).kin fun _ => rfl) (by decide) (locs rfl) rfl rfl rfl rfl rfl ?_
  intro env A' L h₁ tk E' e RA F k1
  dsimp only at e F ⊢
  have ha1 : h₁.get? a = some (listOf its.toArray ne) := k1 _ _ ha
  have F : Loc (a :: X0) s.heap g L h₁ g _ [(a, listOf its.toArray ne)] := ⟨F.st, F.ns, F.off, F.hi, fun p hp => by
    rw [List.mem_singleton.mp hp]; exact ⟨ha1, ga, ne_of_some ha F.hi, aX, .inl (.head _)⟩, by simp, F.xs, F.lv⟩
  have fn : ∀ {h}, Sub g h → FnAt f h := fun q => FnAt.sub hf.fn q
  refine wpAny_execs_cons (wpAny_If (wpAny_isTrue_Compare1 (ldL e F rfl (wpAny_Constant_none (PyProof.Rows.is_ref_none (wpAny_truthy_bool ?_))))))
  simp only [Bool.false_eq_true, if_false]
  refine wpAny_execs_cons (wpAny_Assign_Name (wpAny_Call_Name_kw (ldG e W F.sub rfl ?_)))
  refine callKw (spliced_more (ldL e F rfl (spliced_more (wpAny_Call_NameR (ldL e F rfl (callWith_F (fn F.sub) (spliced_more (ldL e F rfl (spliced_none ⟨fn F.sub, ?_⟩)))))))))
  refine hf.run (RA.le (by omega)) (Sub.refl _) W F.sub F.st.wm hx fun t2 h2 tk2 g2 st2 => ?_
  have F2 := F.call st2
  refine spliced_more (ldL e F2 rfl (spliced_more (ldL e F2 rfl (spliced_none (kws_cons (ldL e F2 rfl (kws_nil ⟨⟨_, _, _, _, F2.sub _ _ (st2.sub _ _ (W.kin 81 _ rfl))⟩, ?_⟩)))))))
  have W2 := W.sub st2.sub
  have ha2 := (F2.own _ (.head _)).1
  dsimp only at ha2
  refine bisR_spec (n := n) (k := k) (RA.le (by omega)) W2 F2.sub F2.st.wm ⟨_, ha2, rfl, _, rfl⟩ aX (by omega) (hf.sub st2.sub) (fun i v hv => hf.mono st2.sub (hd i v hv)) mono (bind81 (W2.sub F2.sub).kin) fun r t3 h3 tk3 g3 st3 hr h1 h2' => ?_
  have F3 := F2.call st3
  refine stL e F3 fun h4 F4 => ?_
  refine wpAny_execs_nil ?_
  dsimp only
  have ha4 := (F4.own _ (.head _)).1
  dsimp only at ha4
  refine wpAny_execs_cons (wpAny_Expr_any (MethodCall_ (ldL e F4 rfl (listMeth ha4 PySem.F.slot_list_insert PySem.F.type_list_insert ?_)) (by rfl)) e.quiet)
  dsimp only
  refine callWith_method1 (spliced_more (ldL e F4 rfl (spliced_more (ldL e F4 rfl (spliced_none ?_)))))
  refine insAt ha4 rfl hr hz fun h5 hx5 e5 => ?_
  refine wpAny_execs_nil ?_
  dsimp only
  exact h r _ _ _ (F4.write hx5 e5).st hr h1 h2' e5

/-! ## _law_listed -/
noncomputable def RowsAt (w : World) (g : Heap) (ps : List PRow) : Prop := ∀ p ∈ ps, RowAt w g p.1 p.2
theorem RowsAt.sub {g g' : Heap} {ps : List PRow} (x : RowsAt w g ps) (s : Sub g g') : RowsAt w g' ps := fun p hp => (x p hp).sub s
theorem listed_spec {n : Nat} {o : Value} {l : Addr} {ks : Keys} {ps : List PRow} {Q : Value → Shared → Prop} (R : Room A (n + 12)) (W : Wd w mg mb g) (S : Sub g s.heap) (M : Wm s.heap g)
    (hO : OrderAt g o ks) (hk : KeysOk ks) (hl : g.IsList l (ps.map (·.1)).toArray) (hp : RowsAt w g ps) (hz : ps.length < 1000)
    (h : ∀ D h' tk g', Step X0 s.heap g h' g' → g'.IsList D ((sortR ks ps).map (·.1)).toArray → Q (.ref D) { s with heap := h', toks := tk }) :
    wpAny (model pr w) A (call (.ref 123) [o, .ref l]) Q E s := by
  refine enter (n := n + 11) (X := X0) (binds := [("order", o), ("rows", .ref l)]) R W S M M.at (fun _ h => h) (W.kin 123 _ rfl) rfl rfl (codeRec_of W.kin rfl) (BindsTo.of_eq rfl) (by decide) (locs rfl) rfl rfl rfl rfl rfl ?_
  intro env A' L h₁ tk E' e RA F
  dsimp only at e F ⊢
  refine wpAny_execs_cons (wpAny_Assign_Name (wpAny_List (spliced_none ⟨by size_fits, ?_⟩)))
  have F1 := F.made (listOf (([] : List Value).toArray) 0)
  dsimp only
  have hD := F.fresh
  generalize h₁.objs.size = D at F1 hD ⊢
  refine stL e F1 fun h2 F2 => ?_
  dsimp only
  refine wpAny_execs_cons (wpAny_For (ldL e F2 rfl ?_) (by intro _; rfl))
  refine for_list (g := g) RA.hh F2 hl (fun i g' m' mu' => m' "order" = some o ∧ m' "kept" = some (.ref D) ∧ ∃ ne, mu' = [(D, listOf ((sortR ks (ps.take i)).map (·.1)).toArray ne)]) ⟨rfl, rfl, 0, rfl⟩ ?_ ?_ ?_
  · intro I i v s' Q' E'' hv hit hq
    exact wpAny_pure hq
  · intro i v h3 g3 m3 mu3 tk3 c E3 hv sg F3 I3
    refine abs2 fun T hT => ?_
    obtain ⟨q1, q2, ne, rfl⟩ := I3
    rw [List.getElem?_map] at hv
    obtain ⟨p, hpi, rfl⟩ := Option.map_eq_some_iff.mp hv
    have hmem := List.mem_of_getElem? hpi
    have hrow := hp p hmem
    have hnext : ps.take (i + 1) = ps.take i ++ [p] := by rw [List.take_add_one, hpi]; rfl
    refine wpAny_assign_Name (stL e F3 fun h4 F4 => ?_)
    dsimp only
    refine wpAny_execs_cons (wpAny_Expr_any (wpAny_Call_Name_kw (ldG e (W.sub sg) F4.sub rfl ?_)) e.quiet)
    refine callKw (spliced_more (ldL e F4 q2 (spliced_more (ldL e F4 rfl (spliced_none (kws_cons (wpAny_Call_NameR (ldG e (W.sub sg) F4.sub rfl ?_))))))))
    refine callWith_F ⟨_, _, _, _, F4.sub _ _ ((W.sub sg).kin 116 _ rfl)⟩ (spliced_more (ldL e F4 q1 (spliced_more (ldL e F4 rfl (spliced_none ⟨⟨_, _, _, _, F4.sub _ _ ((W.sub sg).kin 116 _ rfl)⟩, ?_⟩)))))
    refine held_spec (n := n + 9) RA (W.sub sg) F4.sub F4.st.wm (hO.sub sg) (hrow.sub sg) fun f h5 tk5 g5 st5 hf => ?_
    have F5 := F4.call st5
    have W5 := (W.sub sg).sub st5.sub
    refine kws_nil ⟨⟨_, _, _, _, F5.sub _ _ (W5.kin 72 _ rfl)⟩, ?_⟩
    have F5' := F5.swap
    obtain ⟨o1, o2, o3, o4, o5⟩ := F5'.own _ (.head _)
    dsimp only at o1 o2 o3 o4 o5
    have hlen : (sortR ks (ps.take i)).length ≤ ps.length := by rw [sortR_length, List.length_take]; omega
    have all : ∀ q ∈ sortR ks (ps.take i), RowAt w g5 q.1 q.2 := fun q hq => (hp q (List.mem_of_mem_take (mem_sortR.mp hq))).sub (sg.trans st5.sub)
    have srt := sortR_srt ks (ps.take i)
    generalize hacc : sortR ks (ps.take i) = acc at o1 F5' hlen all srt
    refine insort_spec (n := n + 4) (k := 4) (kf := fun j => match acc[j]? with | some q => cmpR ks q.2 p.2 | none => 0) (z := cmpR ks p.2 p.2) (RA.le (by omega)) W5 F5'.sub F5'.st.wm o1 o2 o4 (by rw [List.length_map]; omega) hf ?_ ?_ ⟨p.2, hrow.sub (sg.trans st5.sub), rfl⟩ ?_
    · intro j v hj
      rw [List.getElem?_map] at hj
      obtain ⟨q, hq, rfl⟩ := Option.map_eq_some_iff.mp hj
      exact ⟨q.2, all q (List.mem_of_getElem? hq), by simp [hq]⟩
    · intro j1 j2 h12 h2
      rw [List.length_map] at h2
      have e1 : acc[j1]? = some acc[j1] := List.getElem?_eq_getElem (Nat.lt_of_le_of_lt h12 h2)
      have e2 : acc[j2]? = some acc[j2] := List.getElem?_eq_getElem h2
      simp only [e1, e2]
      exact cmp_mono hk (srt_get srt h12 e1 e2)
    · intro r h6 tk6 g6 st6 hr hlo hhi e6
      rw [List.length_map] at hr hhi
      have F6 := (F5'.stepOwn st6 e6).swap
      refine wpAny_execs_nil ?_
      refine hT _ _ ⟨h6, g6, _, _, tk6, rfl, st5.sub.trans st6.sub, F6, q1, q2, ne + 1, ?_⟩
      have z0 : cmpR ks p.2 p.2 = 0 := by rw [cmpR_lexc hk, lexc_self]
      rw [hnext, sortR_snoc, hacc, ← insR_at (r := r) hr (fun j q hj e => ?_) (fun j q hj e => ?_)]
      · simp
      · have := hlo j hj
        simp only [e] at this
        rw [z0] at this
        exact (cmp_le hk).mp this
      · have := hhi j hj (List.getElem?_eq_some_iff.mp e).1
        simp only [e] at this
        rw [z0] at this
        exact (cmp_gt hk).mp this
  · rintro h3 g3 m3 mu3 tk3 sg F3 ⟨q1, q2, ne, rfl⟩
    dsimp only
    rw [List.length_map, List.take_length] at F3
    obtain ⟨g4, F4, s4, e4⟩ := F3.freeze hD
    refine wpAny_execs_cons (wpAny_Return_some (ldL e F4 q2 ?_))
    exact h D _ _ g4 F4.st ⟨_, e4, rfl, _, rfl⟩
end
end Mine

end
section
set_option autoImplicit false
set_option maxHeartbeats 1000000
namespace Mine
section
variable {w : World} {mg mb : Str → Option Value} {A : Around} {E : Value → Shared → Prop} {s : Shared} {env : Env} {names : List (Str × NameKind)} {L : Addr} {cl : List (Str × Addr)}
  {X : List Addr} {h₀ g₀ h g h' g' : Heap} {m m' : Str → Option Value} {mu mu' : List (Addr × Obj)}
theorem comp_turns {elt target iter : PySem.Expr} {ifs : List PySem.Expr} {scope : Scope} {pos : Pos} {it acc : Value} {env : Env} {R : Result → Shared → Prop} (I : Nat → Shared → Prop)
    (turn : ∀ n s (E' : Value → Shared → Prop), I n s → wpAny (model pr w) A (pyNext it) (fun r s₁ => match r with
      | none => R (.ok .next) s₁
      | some v => wpAny (model pr w) A (letOwnedTupleGo target it v) (fun _ s₁' => wpAny (model pr w) A (assign target env v) (fun _ s₂ =>
          wpAny (model pr w) A (forIn ifs true fun c r => if r = true then do let ok ← isTrue c env (eval c env); pure (ForInStep.yield ok) else pure (ForInStep.yield r)) (fun ok s₃ =>
            if ok = true then wpAny (model pr w) A (eval elt env) (fun x s₄ =>
              wpAny (model pr w) A (call (.builtin "list.append") [acc, x]) (fun _ s₅ => ∃ m, m < n ∧ I m s₅) E' s₄) E' s₃
            else ∃ m, m < n ∧ I m s₃) E' s₂) E' s₁') E' s₁) E' s)
    (n : Nat) (h : I n s) : codeAny (model pr w) A (.compLoop (.ListComp elt [⟨target, iter, ifs, 0⟩] scope pos) 0 it acc env) R s := by
  refine codeAny_loop rfl I (fun n s hI => ?_) n h
  show wpAny _ A ((compTurn (.ListComp elt [⟨target, iter, ifs, 0⟩] scope pos) 0 it acc env).onRaise (fun x => do noteFrame x env; theTreesLotGoes x)) _ _ s
  refine wpAny_noted ?_
  rw [compTurn_list]
  refine wpAny_bind (wpAny_standAt (wpAny_bind (wpAny_mono (turn n s _ hI) (fun r s₁ h₁ => ?_) fun _ _ h' => h')))
  cases r with
  | none => exact wpAny_pure h₁
  | some v =>
    refine wpAny_bind (wpAny_mono h₁ (fun _ s₁' h₁' => ?_) fun _ _ h' => h')
    refine wpAny_bind (wpAny_mono h₁' (fun _ s₂ h₂ => wpAny_bind (wpAny_mono h₂ (fun ok s₃ h₃ => ?_) fun _ _ h' => h')) fun _ _ h' => h')
    cases ok with
    | false => exact wpAny_pure ⟨rfl, h₃⟩
    | true => exact wpAny_bind (wpAny_bind (wpAny_mono h₃ (fun x s₄ h₄ => wpAny_bind (wpAny_mono h₄ (fun _ s₅ h₅ => wpAny_pure (wpAny_pure ⟨rfl, h₅⟩)) fun _ _ h' => h')) fun _ _ h' => h'))

noncomputable def relab (names : List (Str × NameKind)) (ns : List (Str × NameKind)) : List (Str × NameKind) := ns.map fun (n, k) => if (k == .free && names.lookup n == some .cell) then (n, .cell) else (n, k)
theorem relabel_names (e : EnvIs env names L cl) (scope : Scope) : (relabel scope env).names = relab names scope.names := by
  unfold relabel relab
  have : (env.scope.kind == ScopeKind.function) = true := by rw [e.kind]; rfl
  simp only [this, Bool.and_true, e.kindOf]
noncomputable abbrev lst (ys : List Value) : Obj := listOf ys.toArray ys.length

/-- what an element's evaluation leaves behind -/
inductive EltEnd (X : List Addr) (h₀ g₀ : Heap) (C : Addr) (s : Shared) (mu : List (Addr × Obj)) (g : Heap) (P : Heap → Value → Prop) (y : Value) (s' : Shared) : Prop
  | mk (h' g' : Heap) (m' : Str → Option Value) (tk' : Nat) (e : s' = { s with heap := h', toks := tk' }) (sg : Sub g g') (F : Loc X h₀ g₀ C h' g' m' mu) (p : P g' y)
inductive TestEnd (X : List Addr) (h₀ g₀ : Heap) (C : Addr) (s : Shared) (mu : List (Addr × Obj)) (g : Heap) (yes : Heap → Shared → Prop) (no : Heap → Prop) (b : Bool) (s' : Shared) : Prop
  | mk (h' g' : Heap) (m' : Str → Option Value) (tk' : Nat) (e : s' = { s with heap := h', toks := tk' }) (sg : Sub g g') (F : Loc X h₀ g₀ C h' g' m' mu) (p : if b = true then yes g' s' else no g')

theorem loc_comp {C : Addr} (F : Loc X h₀ g₀ L s.heap g m mu) (oL : Obj) (eL : s.heap.get? L = some oL) : ∀ {h₁ : Heap}, Sub s.heap h₁ → ∀ {mC}, h₁.Ns C mC → s.heap.get? C = none → Loc X h₀ g₀ C h₁ g mC ((L, oL) :: mu) := by
  intro h₁ k mC hn hC
  have F' := F.ext k
  refine ⟨F'.st, hn, F.sub.alive _ hC, F.st.alive _ hC, fun p hp => ?_, ?_, F.xs, F.lv⟩
  · rcases List.mem_cons.mp hp with rfl | hp'
    · exact ⟨k _ _ eL, F.off, ne_of_some eL hC, F.L0, .inr F.hi⟩
    · obtain ⟨a, b, c, d, e⟩ := F'.own p hp'
      exact ⟨a, b, ne_of_some (F.own p hp').1 hC, d, e⟩
  · rw [List.map_cons, List.nodup_cons]
    refine ⟨fun q => ?_, F.nd⟩
    obtain ⟨p, hp, e⟩ := List.mem_map.mp q
    exact (F.own p hp).2.2.1 e
/-- back from the comprehension's frame to ours -/
theorem loc_back {C : Addr} {oL : Obj} {mC : Str → Option Value} (F : Loc X h₀ g₀ C h g mC ((L, oL) :: mu)) (hn : ∀ h : Heap, h.get? L = some oL → h.Ns L m) (h0 : h₀.get? L = none) (oC : Obj) (eC : h.get? C = some oC) : Loc X h₀ g₀ L h g m ((C, oC) :: mu) := by
  obtain ⟨a1, a2, a3, a4, a5⟩ := F.own (L, oL) (.head _)
  dsimp only at a1 a2 a3 a4 a5
  have nd := F.nd
  rw [List.map_cons, List.nodup_cons] at nd
  refine ⟨F.st, hn h a1, a2, h0, fun p hp => ?_, ?_, F.xs, F.lv⟩
  · rcases List.mem_cons.mp hp with rfl | hp'
    · exact ⟨eC, F.off, Ne.symm a3, F.L0, .inr F.hi⟩
    · obtain ⟨a, b, c, d, e⟩ := F.own p (.tail _ hp')
      exact ⟨a, b, fun q => nd.1 (List.mem_map.mpr ⟨p, hp', q⟩), d, e⟩
  · rw [List.map_cons, List.nodup_cons]
    refine ⟨fun q => ?_, nd.2⟩
    obtain ⟨p, hp, e⟩ := List.mem_map.mp q
    exact (F.own p (.tail _ hp)).2.2.1 e
theorem ns_of_obj {a : Addr} {o : Obj} {m : Str → Option Value} (hn : h.Ns a m) (e : h.get? a = some o) : ∀ h' : Heap, h'.get? a = some o → h'.Ns a m := by
  intro h' e'
  obtain ⟨o', es, ep, e1, r⟩ := hn
  rw [e] at e1; cases e1
  exact ⟨o, es, ep, e', r⟩

inductive CInv (X : List Addr) (h₀ g₀ : Heap) (C : Addr) (s : Shared) (g : Heap) (n : Nat) (J : Nat → Heap → List Value → Prop) (U : List (Addr × Obj) → Prop) (St : Nat → Heap → Prop) (D L : Addr) (oL : Obj) (I : Addr) (k : Nat) (s' : Shared) : Prop
  | mk (i : Nat) (h g' : Heap) (ys : List Value) (mC : Str → Option Value) (tk : Nat) (oI : Obj) (mu1 : List (Addr × Obj)) (e : s' = { s with heap := h, toks := tk }) (en : k = n - i) (hi : i ≤ n) (sg : Sub g g') (j : J i g' ys) (hy : ys.length ≤ i) (st : St i h) (u : U mu1) (G : Loc X h₀ g₀ C h g' mC ((D, lst ys) :: (I, oI) :: (L, oL) :: mu1))
theorem few_le {n i : Nat} {ys : List Value} (hsz : n ≤ 2 ^ 20) (hi : i < n) (hy : ys.length ≤ i) : ys.length ≤ 16777216 := by omega
/-- the turns of a comprehension's loop, in its frame; U tells the other objects -/
theorem comp_core {elt target iter : PySem.Expr} {ifs : List PySem.Expr} {scope : Scope} {pos : Pos} {cenv : Env} {C D I : Addr} {oI oL : Obj} {h₁ : Heap} {mC0 : Str → Option Value} {mu0 : List (Addr × Obj)} {fp : List Addr} {n tk0 : Nat} {P : Nat → Value → Prop} {St : Nat → Heap → Prop} {R : Result → Shared → Prop}
    (W : Walks pr w A I fp [I] n P St) (hsz : n ≤ 2 ^ 20) (hI : h₀.get? I = none) (hfp : ∀ b ∈ fp, b ≠ I → ∃ o, g.get? b = some o) (hIo : ∀ i h, St i h → ∃ o, h.get? I = some o)
    (F1 : Loc X h₀ g₀ C h₁ g mC0 ((D, lst []) :: (I, oI) :: (L, oL) :: mu0)) (st1 : St 0 h₁) (U : List (Addr × Obj) → Prop) (u0 : U mu0)
    (J : Nat → Heap → List Value → Prop) (j0 : J 0 g [])
    (hgo : ∀ i v (s' : Shared) (Q' : Unit → Shared → Prop) (E' : Value → Shared → Prop), P i v → St (i + 1) s'.heap → Q' () s' → wpAny (model pr w) A (letOwnedTupleGo target (.ref I) v) Q' E' s')
    (turn : ∀ i v h g' ys mC tk c mu1 (E' : Value → Shared → Prop), i < n → P i v → Sub g g' → J i g' ys → U mu1 → Loc X h₀ g₀ C h g' mC ((D, lst ys) :: c :: (L, oL) :: mu1) →
      wpAny (model pr w) A (assign target cenv v) (fun _ s₂ => ∃ mu2, U mu2 ∧
        wpAny (model pr w) A (forIn ifs true fun c r => if r = true then do let ok ← isTrue c cenv (eval c cenv); pure (ForInStep.yield ok) else pure (ForInStep.yield r))
          (TestEnd X h₀ g₀ C s ((D, lst ys) :: c :: (L, oL) :: mu2) g' (fun g2 s₃ => wpAny (model pr w) A (eval elt cenv) (EltEnd X h₀ g₀ C s ((D, lst ys) :: c :: (L, oL) :: mu2) g2 (fun g3 y => J (i + 1) g3 (ys ++ [y]))) E' s₃) (fun g2 => J (i + 1) g2 ys)) E' s₂) E' { s with heap := h, toks := tk })
    (done : ∀ h g' ys mC tk mu1, Sub g g' → J n g' ys → U mu1 → Loc X h₀ g₀ C h g' mC ((D, lst ys) :: (L, oL) :: mu1) → R (.ok .next) { s with heap := h, toks := tk }) :
    codeAny (model pr w) A (.compLoop (.ListComp elt [⟨target, iter, ifs, 0⟩] scope pos) 0 (.ref I) (.ref D) cenv) R { s with heap := h₁, toks := tk0 } := by
  have keepI : ∀ {h1 h2 g1 g2 : Heap} {i : Nat} {o : Obj} {m1 m2 : Str → Option Value} {mu1 mu2 : List (Addr × Obj)}, St i h1 → Sub g g1 → Sub g g2 → Loc X h₀ g₀ C h1 g1 m1 mu1 → Loc X h₀ g₀ C h2 g2 m2 mu2 → (I, o) ∈ mu1 → (I, o) ∈ mu2 → St i h2 := by
    intro h1 h2 g1 g2 i o m1 m2 mu1 mu2 st a b G1 G2 q1 q2
    refine W.frame i h1 h2 st fun x hx ox ex => ?_
    by_cases hxI : x = I
    · subst hxI
      have z := (G1.own _ q1).1
      dsimp only at z
      rw [z] at ex; cases ex
      exact (G2.own _ q2).1
    · obtain ⟨o', e'⟩ := hfp x hx hxI
      have z := G1.sub _ _ (a _ _ e')
      rw [z] at ex; cases ex
      exact G2.sub _ _ (b _ _ e')
  have memI : ∀ {o : Obj} {y : List Value} {mu : List (Addr × Obj)}, (I, o) ∈ (D, lst y) :: (I, o) :: (L, oL) :: mu := .tail _ (.head _)
  refine comp_turns (CInv X h₀ g₀ C s g n J U St D L oL I) (fun k s' E' I0 => abs1 fun T hT => ?_) n ⟨0, h₁, g, [], mC0, tk0, oI, mu0, rfl, rfl, Nat.zero_le _, Sub.refl _, j0, Nat.le_refl _, st1, u0, F1⟩
  obtain ⟨i, h, g', ys, mC, tk, oI', mu1, rfl, rfl, hi, sg, j, hy, st, u, G⟩ := I0
  rcases Nat.lt_or_ge i n with hlt | hge
  · refine W.item i _ _ _ hlt st fun v h2 tk2 hPv st2 k2 => hT (some v) _ ?_
    dsimp only
    obtain ⟨o2, e2⟩ := hIo _ _ st2
    have G2 := (G.swap.write (fun b o hb q => k2 b o (by simpa using hb) q) e2).swap
    refine hgo i v _ _ _ hPv st2 ?_
    refine wpAny_mono (turn i v h2 g' ys mC tk2 (I, o2) mu1 E' hlt hPv sg j u G2) (fun _ s2 q2 => ?_) fun _ _ x => x
    obtain ⟨mu2, u2, q2⟩ := q2
    refine wpAny_mono q2 (fun ok s3 q3 => ?_) fun _ _ x => x
    obtain ⟨h3, g3, m3, tk3, rfl, sg3, G3, q4⟩ := q3
    cases ok with
    | false => exact ⟨n - (i + 1), Nat.sub_lt_sub_left hlt (Nat.lt_succ_self i), i + 1, h3, g3, ys, m3, tk3, o2, mu2, rfl, rfl, hlt, sg.trans sg3, q4, Nat.le_succ_of_le hy, keepI st2 sg (sg.trans sg3) G2 G3 memI memI, u2, G3⟩
    | true =>
      refine wpAny_mono q4 (fun y s4 q5 => ?_) fun _ _ x => x
      obtain ⟨h4, g4, m4, tk4, rfl, sg4, G4, jy⟩ := q5
      have eD := (G4.own _ (.head _)).1
      dsimp only at eD
      refine append_at (n := ys.length) (its := ys.toArray) eD (fun h5 hs5 e5 => ?_) (by rw [List.size_toArray, sizeLine_eq]; exact few_le hsz hlt hy)
      have e5' : h5.get? D = some (lst (ys ++ [y])) := by
        rw [e5]; simp [lst]
      have G5 := G4.write (sbExt hs5) e5'
      have sg5 := (sg.trans sg3).trans sg4
      exact ⟨n - (i + 1), Nat.sub_lt_sub_left hlt (Nat.lt_succ_self i), i + 1, h5, g4, ys ++ [y], m4, tk4, o2, mu2, rfl, rfl, hlt, sg5, jy, by rw [List.length_append, List.length_singleton]; exact Nat.succ_le_succ hy, keepI (keepI st2 sg sg5 G2 G4 memI memI) sg5 sg5 G4 G5 memI memI, u2, G5⟩
  · obtain rfl := Nat.le_antisymm hi hge
    exact W.done _ _ _ st fun h2 tk2 k2 => hT none _ (done h2 g' ys mC tk2 mu1 sg j u (G.swap.lost (fun b o hb q => k2 b o (by simpa using hb) q) hI))

theorem comp_block {elt target iter : PySem.Expr} {ifs : List PySem.Expr} {scope : Scope} {pos : Pos} {cl' : List (Str × Addr)} {I : Addr} {oI : Obj} {fp : List Addr} {n : Nat} {P : Nat → Value → Prop} {St : Nat → Heap → Prop} {RR : Value → Addr → Result → Shared → Prop}
    (e : EnvIs env names L cl) (hk : scope.kind = .function) (hcell : ∀ y ∈ scope.names, y.2 ≠ .cell)
    (W : Walks pr w A I fp [I] n P St) (hsz : n ≤ 2 ^ 20) (F : Loc X h₀ g₀ L s.heap g m ((I, oI) :: mu)) (hI : h₀.get? I = none) (hst : St 0 s.heap) (hfp : ∀ b ∈ fp, b ≠ I → ∃ o, g.get? b = some o) (hIo : ∀ i h, St i h → ∃ o, h.get? I = some o)
    (J : Nat → Heap → List Value → Prop) (j0 : J 0 g [])
    (hgo : ∀ i v (s' : Shared) (Q' : Unit → Shared → Prop) (E' : Value → Shared → Prop), P i v → St (i + 1) s'.heap → Q' () s' → wpAny (model pr w) A (letOwnedTupleGo target (.ref I) v) Q' E' s')
    (turn : ∀ i v h g' ys mC tk C D c oL cenv (E' : Value → Shared → Prop), i < n → P i v → Sub g g' → J i g' ys → EnvIs cenv (relab names scope.names) C cl' → Loc X h₀ g₀ C h g' mC ((D, lst ys) :: c :: (L, oL) :: mu) →
      wpAny (model pr w) A (assign target cenv v) (fun _ s₂ =>
        wpAny (model pr w) A (forIn ifs true fun c r => if r = true then do let ok ← isTrue c cenv (eval c cenv); pure (ForInStep.yield ok) else pure (ForInStep.yield r))
          (TestEnd X h₀ g₀ C s ((D, lst ys) :: c :: (L, oL) :: mu) g' (fun g2 s₃ => wpAny (model pr w) A (eval elt cenv) (EltEnd X h₀ g₀ C s ((D, lst ys) :: c :: (L, oL) :: mu) g2 (fun g3 y => J (i + 1) g3 (ys ++ [y]))) E' s₃) (fun g2 => J (i + 1) g2 ys)) E' s₂) E' { s with heap := h, toks := tk })
    (done : ∀ C D h g' ys mC tk oL, Sub g g' → J n g' ys → Loc X h₀ g₀ C h g' mC ((D, lst ys) :: (L, oL) :: mu) → (∀ h : Heap, h.get? L = some oL → h.Ns L m) → h₀.get? D = none → RR (.ref D) C (.ok .next) { s with heap := h, toks := tk }) :
    wpAny (model pr w) A (newList []) (fun acc s₃ => wpAny (model pr w) A (newFunctionEnv scope env.globals cl' [] env.qual none .none (some env)) (fun cenv s₄ =>
      codeAny (model pr w) A (.compStart (.ListComp elt [⟨target, iter, ifs, 0⟩] scope pos) 0 (.ref I) acc { cenv with scope := relabel scope env }) (RR acc cenv.locals) s₄) E s₃) E s := by
  refine wpAny_newObj_type (wpAny_newFunctionEnv hcell (by intro y hy; simp at hy) (fun h₁ hns₁ hsb₁ => ?_) hk)
  dsimp only at hns₁ hsb₁ ⊢
  have FD := F.made (lst [])
  have hD0 : h₀.get? s.heap.objs.size = none := F.fresh
  generalize hDe : s.heap.objs.size = D at FD hD0 hns₁ hsb₁ ⊢
  have FD : Loc X h₀ g₀ L (s.heap.push { cls := .type "list", dict := none, data := .seq ([] : List Value).toArray }) g m ((D, lst []) :: (I, oI) :: mu) := FD
  generalize hH : s.heap.push { cls := .type "list", dict := none, data := .seq ([] : List Value).toArray } = H at FD hns₁ hsb₁ ⊢
  obtain ⟨oL, eL⟩ := FD.at
  have k1 : Sub H h₁ := fun b o q => (sbExt hsb₁) b o (ne_of_some q (fresh_size _)) (Heap.get?_push_of_some _ q)
  have F1 : Loc X h₀ g₀ H.objs.size h₁ g _ ((L, oL) :: (D, lst []) :: (I, oI) :: mu) := loc_comp (s := { s with heap := H }) FD oL eL k1 hns₁ (fresh_size _)
  have hnL := ns_of_obj FD.ns eL
  generalize hC : H.objs.size = C at F1 ⊢
  have F1 : Loc X h₀ g₀ C h₁ g _ ((D, lst []) :: (I, oI) :: (L, oL) :: mu) := F1.perm (by
    exact ((List.Perm.swap (L, oL) (I, oI) mu).cons (D, lst [])).trans (List.Perm.swap (L, oL) (D, lst []) ((I, oI) :: mu)))
  have eC : EnvIs { newEnv scope C env.globals cl' env.qual none .none (some env) 0 with scope := relabel scope env } (relab names scope.names) C cl' :=
    ⟨relabel_names e scope, hk, rfl, rfl, e.glob, e.blt⟩
  have st1 : St 0 h₁ := by
    refine W.frame 0 s.heap h₁ hst fun x _ ox ex => k1 _ _ ?_
    rw [← hH]; exact Heap.get?_push_of_some _ ex
  have loop : ∀ tk0, codeAny (model pr w) A (.compLoop (.ListComp elt [⟨target, iter, ifs, 0⟩] scope pos) 0 (.ref I) (.ref D) { newEnv scope C env.globals cl' env.qual none .none (some env) 0 with scope := relabel scope env }) (RR (.ref D) C) { s with heap := h₁, toks := tk0 } := by
    intro tk0
    refine comp_core W hsz hI hfp hIo F1 st1 (· = mu) rfl J j0 hgo (fun i v h g' ys mC tk c mu1 E' hi hv sg j u G => ?_) fun h g' ys mC tk mu1 sg j u G => ?_
    · subst u
      exact wpAny_mono (turn i v h g' ys mC tk C D c oL _ E' hi hv sg j eC G) (fun _ s2 q2 => ⟨_, rfl, q2⟩) fun _ _ x => x
    · subst u
      exact done C D h g' ys mC tk oL sg j G hnL hD0
  exact codeAny_compStart_list (loop _) (W.self 0 _ _ _ st1 (loop _))

theorem fitsLong {x : Int} (h0 : 0 ≤ x) (h : x < 1000000000000) : Builtin.Range.rangeFitsLong x = true := by
  unfold Builtin.Range.rangeFitsLong
  simp only [Bool.and_eq_true, decide_eq_true_eq]
  omega
theorem range_facts (n : Nat) (hsz : n ≤ 2 ^ 20) : Builtin.Range.rangeSize 0 n 1 = (n : Int) ∧ Builtin.Range.small 0 n 1 = true := by
  have hsize : Builtin.Range.rangeSize 0 n 1 = (n : Int) := by
    unfold Builtin.Range.rangeSize
    rw [if_pos (by decide)]
    split <;> omega
  refine ⟨hsize, ?_⟩
  unfold Builtin.Range.small
  rw [hsize, fitsLong (x := 0) (by decide) (by decide), fitsLong (x := (n : Int)) (by (exact Int.natCast_nonneg n)) (by omega), fitsLong (x := 1) (by decide) (by decide), if_pos (by decide : (1 : Int) > 0), fitsLong (x := (n : Int) + (1 - 1)) (by (exact Int.natCast_nonneg (n + (1 - Nat.succ 0)))) (by omega)]
  simp
/-- a comprehension over a list of the ghost part -/
theorem comp_list {elt target iter : PySem.Expr} {ifs : List PySem.Expr} {scope : Scope} {pos : Pos} {cl' : List (Str × Addr)} {l : Addr} {vs : List Value} {RR : Value → Addr → Result → Shared → Prop}
    (e : EnvIs env names L cl) (hk : scope.kind = .function) (hcell : ∀ y ∈ scope.names, y.2 ≠ .cell) (hh : A.handled = none) (hl : g.IsList l vs.toArray) (hsz : vs.length ≤ 2 ^ 20)
    (F : Loc X h₀ g₀ L s.heap g m mu) (J : Nat → Heap → List Value → Prop) (j0 : J 0 g [])
    (hgo : ∀ I i v (s' : Shared) (Q' : Unit → Shared → Prop) (E' : Value → Shared → Prop), v ∈ vs → s'.heap.IsListIter I l i → Q' () s' → wpAny (model pr w) A (letOwnedTupleGo target (.ref I) v) Q' E' s')
    (turn : ∀ s' i v h g' ys mC tk C D c oL cenv (E' : Value → Shared → Prop), (∃ h₂, s' = { s with heap := h₂ }) → vs[i]? = some v → Sub g g' → J i g' ys → EnvIs cenv (relab names scope.names) C cl' → Loc X h₀ g₀ C h g' mC ((D, lst ys) :: c :: (L, oL) :: mu) →
      wpAny (model pr w) A (assign target cenv v) (fun _ s₂ =>
        wpAny (model pr w) A (forIn ifs true fun c r => if r = true then do let ok ← isTrue c cenv (eval c cenv); pure (ForInStep.yield ok) else pure (ForInStep.yield r))
          (TestEnd X h₀ g₀ C s' ((D, lst ys) :: c :: (L, oL) :: mu) g' (fun g2 s₃ => wpAny (model pr w) A (eval elt cenv) (EltEnd X h₀ g₀ C s' ((D, lst ys) :: c :: (L, oL) :: mu) g2 (fun g3 y => J (i + 1) g3 (ys ++ [y]))) E' s₃) (fun g2 => J (i + 1) g2 ys)) E' s₂) E' { s' with heap := h, toks := tk })
    (done : ∀ C D h g' ys mC tk oL, Sub g g' → J vs.length g' ys → Loc X h₀ g₀ C h g' mC ((D, lst ys) :: (L, oL) :: mu) → (∀ h : Heap, h.get? L = some oL → h.Ns L m) → h₀.get? D = none → RR (.ref D) C (.ok .next) { s with heap := h, toks := tk }) :
    wpAny (model pr w) A (pyIter (.ref l)) (fun it s₂ => wpAny (model pr w) A (newList []) (fun acc s₃ => wpAny (model pr w) A (newFunctionEnv scope env.globals cl' [] env.qual none .none (some env)) (fun cenv s₄ =>
      codeAny (model pr w) A (.compStart (.ListComp elt [⟨target, iter, ifs, 0⟩] scope pos) 0 it acc { cenv with scope := relabel scope env }) (RR acc cenv.locals) s₄) E s₃) E s₂) E s := by
  refine wpAny_pyIter_list (IsList.sub hl F.sub) ?_
  have hI0 : h₀.get? s.heap.objs.size = none := F.fresh
  have F1 := F.made { cls := .type "list_iterator", data := .fields #[.ref l, .int 0 0] }
  have hne : l ≠ s.heap.objs.size := by
    obtain ⟨o, eo, _⟩ := hl
    exact ne_of_some (F.sub _ _ eo) (fresh_size _)
  have hst : (s.heap.push { cls := .type "list_iterator", data := .fields #[.ref l, .int 0 0] }).IsListIter s.heap.objs.size l 0 ∧ (s.heap.push { cls := .type "list_iterator", data := .fields #[.ref l, .int 0 0] }).IsList l vs.toArray :=
    ⟨⟨_, (F1.own _ (.head _)).1, rfl, rfl⟩, IsList.sub hl F1.sub⟩
  generalize s.heap.push { cls := .type "list_iterator", data := .fields #[.ref l, .int 0 0] } = H at F1 hst ⊢
  generalize s.heap.objs.size = I at F1 hI0 hne hst ⊢
  have hsize : vs.toArray.size = vs.length := List.size_toArray
  refine comp_block (s := { s with heap := H }) e hk hcell (Walks.list hh I l hne vs.toArray) (by rw [hsize]; exact hsz) F1 hI0 hst ?_ ?_ J j0 ?_ ?_ ?_
  · intro b hb hne'
    rcases List.mem_cons.mp hb with rfl | hb
    · exact absurd rfl hne'
    · rw [List.mem_singleton.mp hb]
      obtain ⟨o, eo, _⟩ := hl
      exact ⟨o, eo⟩
  · rintro i h ⟨⟨o, eo, _⟩, _⟩
    exact ⟨o, eo⟩
  · rintro i v s' Q' E' hv ⟨hit, _⟩ hq
    exact hgo I (i + 1) v s' Q' E' (List.mem_of_getElem? (by simpa using hv)) hit hq
  · intro i v h g' ys mC tk C D c oL cenv E' hi hv sg j eC G
    exact turn { s with heap := H } i v h g' ys mC tk C D c oL cenv E' ⟨H, rfl⟩ (by simpa using hv) sg j eC G
  · intro C D h g' ys mC tk oL sg j G hn hD
    rw [hsize] at j
    exact done C D h g' ys mC tk oL sg j G hn hD
theorem comp_range {elt target iter : PySem.Expr} {ifs : List PySem.Expr} {scope : Scope} {pos : Pos} {cl' : List (Str × Addr)} {r : Addr} {n : Nat} {t u v : Tok} {RR : Value → Addr → Result → Shared → Prop}
    (e : EnvIs env names L cl) (hk : scope.kind = .function) (hcell : ∀ y ∈ scope.names, y.2 ≠ .cell) (hh : A.handled = none) (hr : IsRange s.heap r 0 n 1 t u v) (hsz : n ≤ 2 ^ 20)
    (F : Loc X h₀ g₀ L s.heap g m mu) (J : Nat → Heap → List Value → Prop) (j0 : J 0 g [])
    (hgo : ∀ I v, letOwnedTupleGo target (.ref I) v = pure ())
    (turn : ∀ s' i t h g' ys mC tk C D c oL cenv (E' : Value → Shared → Prop), (∃ h₂, s' = { s with heap := h₂ }) → i < n → Sub g g' → J i g' ys → EnvIs cenv (relab names scope.names) C cl' → Loc X h₀ g₀ C h g' mC ((D, lst ys) :: c :: (L, oL) :: mu) →
      wpAny (model pr w) A (assign target cenv (.int i t)) (fun _ s₂ =>
        wpAny (model pr w) A (forIn ifs true fun c r => if r = true then do let ok ← isTrue c cenv (eval c cenv); pure (ForInStep.yield ok) else pure (ForInStep.yield r))
          (TestEnd X h₀ g₀ C s' ((D, lst ys) :: c :: (L, oL) :: mu) g' (fun g2 s₃ => wpAny (model pr w) A (eval elt cenv) (EltEnd X h₀ g₀ C s' ((D, lst ys) :: c :: (L, oL) :: mu) g2 (fun g3 y => J (i + 1) g3 (ys ++ [y]))) E' s₃) (fun g2 => J (i + 1) g2 ys)) E' s₂) E' { s' with heap := h, toks := tk })
    (done : ∀ C D h g' ys mC tk oL, Sub g g' → J n g' ys → Loc X h₀ g₀ C h g' mC ((D, lst ys) :: (L, oL) :: mu) → (∀ h : Heap, h.get? L = some oL → h.Ns L m) → h₀.get? D = none → RR (.ref D) C (.ok .next) { s with heap := h, toks := tk }) :
    wpAny (model pr w) A (pyIter (.ref r)) (fun it s₂ => wpAny (model pr w) A (newList []) (fun acc s₃ => wpAny (model pr w) A (newFunctionEnv scope env.globals cl' [] env.qual none .none (some env)) (fun cenv s₄ =>
      codeAny (model pr w) A (.compStart (.ListComp elt [⟨target, iter, ifs, 0⟩] scope pos) 0 it acc { cenv with scope := relabel scope env }) (RR acc cenv.locals) s₄) E s₃) E s₂) E s := by
  obtain ⟨hsize, hsm⟩ := range_facts n hsz
  refine wpAny_pyIter_range hr hsm ?_
  have hI0 : h₀.get? s.heap.objs.size = none := F.fresh
  have F1 := F.made { cls := .type "range_iterator", data := .fields #[rawInt 0, rawInt (Builtin.Range.rangeSize 0 n 1), rawInt 1] }
  rw [hsize] at F1 ⊢
  have hst : IsRangeIter (s.heap.push { cls := .type "range_iterator", data := .fields #[rawInt 0, rawInt (n : Int), rawInt 1] }) s.heap.objs.size ((0 : Int) + ((0 : Nat) : Int) * 1) ((n : Int) - ((0 : Nat) : Int)) 1 := by
    have := (F1.own _ (.head _)).1
    simpa using this
  generalize s.heap.push { cls := .type "range_iterator", data := .fields #[rawInt 0, rawInt (n : Int), rawInt 1] } = H at F1 hst ⊢
  generalize s.heap.objs.size = I at F1 hI0 hst ⊢
  refine comp_block (s := { s with heap := H }) e hk hcell (LCg.range_walks hh 0 n) hsz F1 hI0 hst ?_ ?_ J j0 ?_ ?_ ?_
  · intro b hb hne'
    exact absurd (List.mem_singleton.mp hb) hne'
  · intro i h st
    exact ⟨_, st⟩
  · intro i v s' Q' E' _ _ hq
    rw [hgo]
    exact wpAny_pure hq
  · rintro i _ h g' ys mC tk C D c oL cenv E' hi ⟨t', rfl⟩ sg j eC G
    rw [Int.zero_add]
    exact turn { s with heap := H } i t' h g' ys mC tk C D c oL cenv E' ⟨H, rfl⟩ hi sg j eC G
  · intro C D h g' ys mC tk oL sg j G hn hD
    exact done C D h g' ys mC tk oL sg j G hn hD

/-- the comprehension's end where its value is used in an expression -/
theorem comp_fin {C D : Addr} {ys : List Value} {mC : Str → Option Value} {tk : Nat} {oL : Obj} {Q : Value → Shared → Prop} (G : Loc X h₀ g₀ C h g mC ((D, lst ys) :: (L, oL) :: mu)) (hn : ∀ h : Heap, h.get? L = some oL → h.Ns L m) (hL : h₀.get? L = none) (hD : h₀.get? D = none)
    (fin : ∀ h' g', Sub g g' → Loc X h₀ g₀ L h' g' m mu → g'.get? D = some (lst ys) → Q (.ref D) { s with heap := h', toks := tk }) :
    compPost (model pr w) A E none Q (.ref D) C (.ok .next) { s with heap := h, toks := tk } := by
  obtain ⟨oC, eC⟩ := G.at
  refine ⟨mC, G.ns, fun h' hs => ?_⟩
  have G1 := (loc_back G.swap hn hL oC eC).lost (sbExt hs) G.hi
  obtain ⟨g', G2, s2, e2⟩ := G1.freeze hD
  exact fin h' g' s2 G2 e2
theorem comp_finA {C D : Addr} {ys : List Value} {mC : Str → Option Value} {tk : Nat} {oL : Obj} {y : Str} {py : Pos} {Q : Value → Shared → Prop} (e : EnvIs env names L cl) (G : Loc X h₀ g₀ C h g mC ((D, lst ys) :: (L, oL) :: mu)) (hn : ∀ h : Heap, h.get? L = some oL → h.Ns L m) (hL : h₀.get? L = none) (hD : h₀.get? D = none)
    (hy : names.lookup y = some .local)
    (fin : ∀ h' g' tk', Sub g g' → Loc X h₀ g₀ L h' g' (fun z => if z = y then some (.ref D) else m z) mu → g'.get? D = some (lst ys) → Q .none { s with heap := h', toks := tk' }) :
    compPost (model pr w) A E (some (assign (.Name y py) env)) Q (.ref D) C (.ok .next) { s with heap := h, toks := tk } := by
  obtain ⟨oC, eC⟩ := G.at
  have hnC := ns_of_obj G.ns eC
  show wpAny (model pr w) A (assign (.Name y py) env (.ref D)) _ _ _
  have G0 := loc_back G.swap hn hL oC eC
  refine wpAny_assign_Name (stL e G0 (fun h2 G1 => ?_) hy)
  refine ⟨mC, hnC _ (G1.own _ (.head _)).1, fun h' hs => ?_⟩
  have G2 := G1.lost (sbExt hs) G.hi
  obtain ⟨g', G3, s3, e3⟩ := G2.freeze hD
  exact fin h' g' _ s3 G3 e3
theorem evComp {elt target iter : PySem.Expr} {ifs : List PySem.Expr} {scope : Scope} {pos : Pos} {cl' : List (Str × Addr)} {Q : Value → Shared → Prop} (hclos : closureFor scope env = pure cl') (hk : scope.kind = .function)
    (hnames : ∀ x ∈ scope.names, x.2 = .local → scope.names.lookup x.1 = some .local) (hs : ∀ x, foldedSetIterable iter env x = pure x)
    (h : wpAny (model pr w) A (eval iter env) (fun x s₁ => wpAny (model pr w) A (pyIter x) (fun it s₂ => wpAny (model pr w) A (newList []) (fun acc s₃ => wpAny (model pr w) A (newFunctionEnv scope env.globals cl' [] env.qual none .none (some env)) (fun cenv s₄ =>
      codeAny (model pr w) A (.compStart (.ListComp elt [⟨target, iter, ifs, 0⟩] scope pos) 0 it acc { cenv with scope := relabel scope env }) (compPost (model pr w) A E none Q acc cenv.locals) s₄) E s₃) E s₂) E s₁) E s) :
    wpAny (model pr w) A (eval (.ListComp elt [⟨target, iter, ifs, 0⟩] scope pos) env) Q E s := by
  rw [eval_ListComp]
  exact wpAny_comprehension_free (use := none) rfl hs hclos hk hnames h
theorem asComp {elt target iter : PySem.Expr} {ifs : List PySem.Expr} {scope : Scope} {pos spos py : Pos} {y : Str} {cl' : List (Str × Addr)} {Q : Flow → Shared → Prop}
    (hsw : swapsWith (.ListComp elt [⟨target, iter, ifs, 0⟩] scope pos) (some (.Name y py)) spos.line env = pure true)
    (hclos : closureFor scope env = pure cl') (hk : scope.kind = .function)
    (hnames : ∀ x ∈ scope.names, x.2 = .local → scope.names.lookup x.1 = some .local) (hs : ∀ x, foldedSetIterable iter env x = pure x)
    (h : wpAny (model pr w) A (eval iter env) (fun x s₁ => wpAny (model pr w) A (pyIter x) (fun it s₂ => wpAny (model pr w) A (newList []) (fun acc s₃ => wpAny (model pr w) A (newFunctionEnv scope env.globals cl' [] env.qual none .none (some env)) (fun cenv s₄ =>
      codeAny (model pr w) A (.compStart (.ListComp elt [⟨target, iter, ifs, 0⟩] scope pos) 0 it acc { cenv with scope := relabel scope env }) (compPost (model pr w) A E (some (assign (.Name y py) env)) (fun _ s' => Q .next s') acc cenv.locals) s₄) E s₃) E s₂) E s₁) E s) :
    wpAny (model pr w) A (exec (.Assign [.Name y py] (.ListComp elt [⟨target, iter, ifs, 0⟩] scope pos) spos) env) Q E s := by
  rw [exec_Assign_Name_used _ _ _ _ hsw]
  refine wpAny_bind (wpAny_standAt (wpAny_bind ?_))
  show wpAny _ A (do let _ ← comprehension (.ListComp elt [⟨target, iter, ifs, 0⟩] scope pos) scope env _ (newList []) false (eval iter env) (some (assign (.Name y py) env))) _ _ s
  exact wpAny_bind (wpAny_mono (wpAny_comprehension_free (use := some (assign (.Name y py) env)) (Q := fun _ s' => Q .next s') rfl hs hclos hk hnames h) (fun _ s' hq => wpAny_pure (wpAny_pure hq)) fun _ _ e => e)
end
end Mine

end
section
set_option autoImplicit false
set_option maxHeartbeats 1000000
namespace Mine
section
variable {w : World} {mg mb : Str → Option Value} {A : Around} {E : Value → Shared → Prop} {s : Shared} {env : Env} {names : List (Str × NameKind)} {L : Addr} {cl : List (Str × Addr)}
  {X : List Addr} {h₀ g₀ h g h' g' : Heap} {m m' : Str → Option Value} {mu mu' : List (Addr × Obj)}
noncomputable def closOf (cl : List (Str × Addr)) : List (Str × NameKind) → List (Str × Addr) → Option (List (Str × Addr))
  | [], acc => some acc
  | (n, k) :: r, acc => if (k == .free) = true then (match cl.lookup n with | some a => closOf cl r ((n, a) :: acc) | none => none) else closOf cl r acc
theorem closed (e : EnvIs env names L cl) {sc : Scope} {cl' : List (Str × Addr)} (h : closOf cl sc.names [] = some cl') : closureFor sc env = pure cl' := by
  have go : ∀ (ns : List (Str × NameKind)) (acc out : List (Str × Addr)), closOf cl ns acc = some out →
      (forIn ns acc fun (p : Str × NameKind) (r : List (Str × Addr)) => (do
        if (p.2 == .free) = true then do let a ← cellOf env p.1; pure (ForInStep.yield ((p.1, a) :: r))
        else pure (ForInStep.yield r) : Sem (ForInStep (List (Str × Addr))))) = pure out := by
    intro ns
    induction ns with
    | nil => intro acc out h; cases h; rfl
    | cons p r ih =>
      intro acc out h
      obtain ⟨n, k⟩ := p
      unfold closOf at h
      rw [List.forIn_cons]
      by_cases hk : (k == .free) = true
      · rw [if_pos hk] at h
        cases hl : cl.lookup n with
        | none => rw [hl] at h; cases h
        | some a =>
          rw [hl] at h
          have hc : cellOf env n = pure a := by unfold cellOf; rw [e.cells, hl]
          simp only [hk, if_true, hc]
          exact ih _ _ h
      · rw [if_neg hk] at h
        simp only [hk]
        exact ih _ _ h
  show ((forIn sc.names ([] : List (Str × Addr)) fun (p : Str × NameKind) (r : List (Str × Addr)) => (do
        if (p.2 == .free) = true then do let a ← cellOf env p.1; pure (ForInStep.yield ((p.1, a) :: r))
        else pure (ForInStep.yield r) : Sem (ForInStep (List (Str × Addr))))) >>= fun r => pure r) = pure cl'
  rw [go sc.names [] cl' h]
  rfl
theorem sumI {l : Addr} {vs : List Value} {ns : List Int} {Q : Value → Shared → Prop} (hh : A.handled = none) (F : Loc X h₀ g₀ L s.heap g m mu) (hl : s.heap.IsList l vs.toArray) (hi : IntsAre vs ns)
    (h : ∀ h' tk t', Loc X h₀ g₀ L h' g m mu → Q (.int ns.sum t') { s with heap := h', toks := tk }) :
    wpAny (model pr w) A (call (.builtin "sum") [.ref l]) Q E s := by
  obtain ⟨xs, hx⟩ := hi.allInts.items
  have hn : numsOf vs.toArray.toList = ns := by rw [show vs.toArray.toList = vs from rfl, hi.numsOf]
  rw [hx] at hl hn
  rw [nums_intItems] at hn
  refine sum_intListG hh hl fun h' tk t' hk => ?_
  have := h h' tk t' (F.ext hk)
  rw [preSum_eq, List.take_of_length_le (by simp), hn]
  exact this
theorem stC {c : Addr} {oc : Obj} {v₀ : Option Value} {x : Str} {v : Value} {Q : Unit → Shared → Prop} (e : EnvIs env names L cl) (F : Loc X h₀ g₀ L s.heap g m ((c, oc) :: mu)) (hd : oc.data = .cell v₀)
    (h : ∀ h' oc', Loc X h₀ g₀ L h' g m ((c, oc') :: mu) → oc'.data = .cell (some v) → Q () { s with heap := h' }) (hl : cl.lookup x = some c := by rfl) (hx : names.lookup x = some .cell := by rfl) :
    wpAny (model pr w) A (storeName env x v) Q E s := by
  refine wpAny_storeName_cell e.kind (by rw [e.kindOf]; exact hx) (by rw [e.cells]; exact hl) ⟨oc, (F.own _ (.head _)).1, hd⟩ fun h' ⟨o, eo, d⟩ hs => ?_
  exact h h' o (F.write (sbExt hs) eo) d
/-- a cell of the frame's own, read -/
theorem ldM {c : Addr} {oc : Obj} {x : Str} {pos : Pos} {v : Value} {Q : Value → Shared → Prop} (e : EnvIs env names L cl) (F : Loc X h₀ g₀ L s.heap g m mu) (hm : (c, oc) ∈ mu) (hd : oc.data = .cell (some v)) (h : Q v s)
    (hl : cl.lookup x = some c := by rfl) (hx : names.lookup x = some .cell := by rfl) (hd' : (x == ("__debug__" : Str)) = false := by decide) :
    wpAny (model pr w) A (eval (.Name x pos) env) Q E s := ldC e ⟨oc, (F.own _ hm).1, hd⟩ h hl hx hd'

theorem sliceTo {value upper : PySem.Expr} {p pos : Pos} {l : Addr} {vs : List Value} {k : Nat} {t : Tok} {Q : Value → Shared → Prop}
    (h : wpAny (model pr w) A (eval value env) (fun o s₁ => o = .ref l ∧ wpAny (model pr w) A (eval upper env) (fun vu s₂ => vu = .int k t ∧ s₂.heap.IsList l vs.toArray ∧ vs.length ≤ 2 ^ 20 ∧
      Q (.ref (s₂.heap.objs.size + 1)) { s₂ with heap := (s₂.heap.push { cls := .type "slice", data := .fields #[.none, .int k t, .none] }).push (listOf (vs.take k).toArray 0) }) E s₁) E s)
    (ht : ∀ o r, letTemporaryGo value o r = pure () := by intro _ _; rfl) :
    wpAny (model pr w) A (eval (.Subscript value (.Slice none (some upper) none p) pos) env) Q E s := by
  refine wpAny_Subscript_list_slice (wpAny_mono h (fun o s₁ ⟨ho, h₁⟩ => evalPart_none_step (evalPart_some_step (wpAny_mono h₁ (fun vu s₂ h₂ => ?_) fun _ _ e => e))) fun _ _ e => e) ht
  obtain ⟨hvu, hl, hz, hq⟩ := h₂
  subst ho hvu
  refine ⟨l, vs.toArray, none, some (k : Int), rfl, hl, by rw [List.size_toArray, sizeLine_eq]; omega, .none, .int _ _, ?_⟩
  rw [slicePick_upto']
  exact hq
theorem sliceFrom {value lower : PySem.Expr} {p pos : Pos} {l : Addr} {vs : List Value} {k : Nat} {t : Tok} {Q : Value → Shared → Prop}
    (h : wpAny (model pr w) A (eval value env) (fun o s₁ => o = .ref l ∧ wpAny (model pr w) A (eval lower env) (fun vu s₂ => vu = .int k t ∧ s₂.heap.IsList l vs.toArray ∧ vs.length ≤ 2 ^ 20 ∧
      Q (.ref (s₂.heap.objs.size + 1)) { s₂ with heap := (s₂.heap.push { cls := .type "slice", data := .fields #[.int k t, .none, .none] }).push (listOf (vs.drop k).toArray 0) }) E s₁) E s)
    (ht : ∀ o r, letTemporaryGo value o r = pure () := by intro _ _; rfl) :
    wpAny (model pr w) A (eval (.Subscript value (.Slice (some lower) none none p) pos) env) Q E s := by
  refine wpAny_Subscript_list_slice (wpAny_mono h (fun o s₁ ⟨ho, h₁⟩ => evalPart_some_step (wpAny_mono h₁ (fun vu s₂ h₂ => evalPart_none_step ?_) fun _ _ e => e)) fun _ _ e => e) ht
  obtain ⟨hvu, hl, hz, hq⟩ := h₂
  subst ho hvu
  refine ⟨l, vs.toArray, some (k : Int), none, rfl, hl, by rw [List.size_toArray, sizeLine_eq]; omega, .int _ _, .none, ?_⟩
  rw [slicePick_from']
  exact hq

/-- an enumerate object and the iterator below it, written at once -/
theorem enum_two {e1 i1 : Addr} {o1 o1' o o2 : Obj} (F' : Loc X h₀ g₀ L h g' m' ((e1, o1) :: (i1, o) :: mu')) (hE0 : h₀.get? e1 = none) (hI0 : h₀.get? i1 = none) {h2 : Heap}
    (out : h2.get? e1 = some o1') (ei2 : h2.get? i1 = some o2) (k2 : ∀ b ob, b ≠ e1 → b ≠ i1 → h.get? b = some ob → h2.get? b = some ob) : Loc X h₀ g₀ L h2 g' m' ((e1, o1') :: (i1, o2) :: mu') := by
  have a1 := F'.own _ (.head _)
  have a2 := F'.own _ (.tail _ (.head _))
  dsimp only at a1 a2
  have nd := F'.nd
  rw [List.map_cons, List.nodup_cons, List.map_cons, List.nodup_cons] at nd
  have no1 : ∀ p ∈ mu', p.1 ≠ e1 := fun p hp q => nd.1 (.tail _ (List.mem_map.mpr ⟨p, hp, q⟩))
  have no2 : ∀ p ∈ mu', p.1 ≠ i1 := fun p hp q => nd.2.1 (List.mem_map.mpr ⟨p, hp, q⟩)
  have sb : Sub g' h2 := fun b ob eb => k2 b ob (ne_of_some eb a1.2.1) (ne_of_some eb a2.2.1) (F'.sub _ _ eb)
  refine ⟨⟨fun b eb => ?_, fun b ob hb eb => k2 b ob (ne_of_some eb hE0) (ne_of_some eb hI0) (F'.st.pres b ob hb eb), F'.st.sub, sb, F'.st.new, ?_⟩, F'.ns.at' fun o e => k2 L o (Ne.symm a1.2.2.1) (Ne.symm a2.2.2.1) e, F'.off, F'.hi, fun p hp => ?_, ?_, F'.xs, F'.lv⟩
  · by_cases q1 : b = e1
    · rw [q1]; exact hE0
    · by_cases q2 : b = i1
      · rw [q2]; exact hI0
      · refine F'.st.alive b ?_
        cases z : h.get? b with
        | none => rfl
        | some ob => rw [k2 b ob q1 q2 z] at eb; cases eb
  · exact F'.st.wm.step (fun P hP ob eb => k2 P ob (fun q => a1.2.2.2.1 (q ▸ hP)) (fun q => a2.2.2.2.1 (q ▸ hP)) eb) (Sub.refl _) F'.st.wm.off
  · rcases List.mem_cons.mp hp with rfl | hp
    · exact ⟨out, a1.2⟩
    · rcases List.mem_cons.mp hp with rfl | hp
      · exact ⟨ei2, a2.2⟩
      · have z := F'.own p (.tail _ (.tail _ hp))
        exact ⟨k2 _ _ (no1 p hp) (no2 p hp) z.1, z.2⟩
  · rw [List.map_cons, List.nodup_cons, List.map_cons, List.nodup_cons]; exact nd

theorem for_enum {l : Addr} {vs : List Value} {elts : List PySem.Expr} {x1 : Nat} {tp : Pos} {body : List Stmt} {Q : Flow → Shared → Prop} (hh : A.handled = none)
    (F : Loc X h₀ g₀ L s.heap g m mu) (hl : g.IsList l vs.toArray) (hn : (assignEach elts env).length = 2) (hstar : (assignEach elts env).findIdx? (·.1) = none)
    (P : Nat → Heap → (Str → Option Value) → List (Addr × Obj) → Prop) (p0 : P 0 g m mu)
    (turn : ∀ i v t h g' m' mu' tk c1 c2 (E' : Value → Shared → Prop), vs[i]? = some v → Sub g g' → Loc X h₀ g₀ L h g' m' (c1 :: c2 :: mu') → P i g' m' mu' →
      wpAny (model pr w) A (assignInOrder ((assignEach elts env).map (·.2)) [.int i t, v]) (fun _ s₂ => wpAny (model pr w) A (execs body env) (TurnEnd X h₀ g₀ L s c1 (fun g m mu2 => ∃ mu', mu2 = c2 :: mu' ∧ P (i + 1) g m mu') g' Q) E' s₂) E' { s with heap := h, toks := tk })
    (done : ∀ h g' m' mu' tk, Sub g g' → Loc X h₀ g₀ L h g' m' mu' → P vs.length g' m' mu' → Q .next { s with heap := h, toks := tk }) :
    wpAny (model pr w) A (call (.type "enumerate") [.ref l]) (fun x s₁ => wpAny (model pr w) A (pyIter x) (fun it s₂ => codeAny (model pr w) A (.forLoop (.Tuple elts x1 tp) it body [] env) (fun r s' => match r with | .ok f => Q f s' | .error e => cameBackBy (model pr w) A env E e s') s₂) E s₁) E s := by
  refine enum_rows (h₀ := {}) (L := L) (m := m) ⟨F.ns, fun b o e => by simp [Heap.get?] at e, Nat.zero_le _⟩ (IsList.sub hl F.sub) fun h1 en it1 l1 _ k1 ne1 ne2 ne3 _ _ => ?_
  refine wpAny_pyIter_enum en ?_
  have hI0 : h₀.get? s.heap.objs.size = none := F.fresh
  have hz : s.heap.get? (s.heap.objs.size + 1) = none := by
    cases q : s.heap.get? (s.heap.objs.size + 1) with
    | none => rfl
    | some o => exact absurd (Heap.lt_size q) (Nat.not_lt.mpr (Nat.le_succ _))
  have hE0 : h₀.get? (s.heap.objs.size + 1) = none := F.st.alive _ hz
  obtain ⟨oi, ei, ci, di⟩ := it1
  have F1 : Loc X h₀ g₀ L h1 g m ((s.heap.objs.size + 1, { cls := .type "enumerate", dict := none, data := .fields #[.none, .bool false, .ref s.heap.objs.size, rawInt 0, .none, .none], slots := #[] }) :: (s.heap.objs.size, oi) :: mu) := by
    have G := F.ext k1
    obtain ⟨oL, eL⟩ := F.at
    have n0 : ∀ a, s.heap.get? a = none → a ∉ X0 := fun a ha q => by obtain ⟨o, eo⟩ := F.st.wm.at a q; rw [ha] at eo; cases eo
    refine ⟨G.st, G.ns, G.off, G.hi, fun p hp => ?_, ?_, G.xs, G.lv⟩
    · rcases List.mem_cons.mp hp with rfl | hp
      · exact ⟨en, F.sub.alive _ hz, (ne_of_some eL hz).symm, n0 _ hz, .inr hE0⟩
      · rcases List.mem_cons.mp hp with rfl | hp
        · exact ⟨ei, F.sub.alive _ (fresh_size _), (ne_of_some eL (fresh_size _)).symm, n0 _ (fresh_size _), .inr hI0⟩
        · exact G.own p hp
    · rw [List.map_cons, List.nodup_cons, List.map_cons, List.nodup_cons]
      refine ⟨fun q => ?_, fun q => ?_, F.nd⟩
      · rcases List.mem_cons.mp q with q | q
        · exact ne1 q
        · obtain ⟨p, hp, e⟩ := List.mem_map.mp q
          exact ne_of_some (F.own p hp).1 hz e
      · obtain ⟨p, hp, e⟩ := List.mem_map.mp q
        exact ne_of_some (F.own p hp).1 (fresh_size _) e
  clear k1 en l1 ei hz
  generalize s.heap.objs.size + 1 = e1 at F1 hE0 ne1 ne2 ⊢
  generalize s.heap.objs.size = i1 at F1 hI0 ne1 ne3 di ⊢
  refine for_turns F1 vs.length (fun i o => ∃ old, o = { cls := .type "enumerate", dict := none, data := .fields #[.none, .bool false, .ref i1, rawInt (i : Nat), .none, old], slots := #[] }) ⟨_, rfl⟩
    (fun i g' m' mu2 => ∃ o mu', mu2 = (i1, o) :: mu' ∧ (o.cls = .type "list_iterator" ∧ o.data = .fields #[.ref l, .int i 0]) ∧ P i g' m' mu') ⟨_, _, rfl, ⟨ci, di⟩, p0⟩ ?_
  intro i h g' m' mu2 tk oe T E' hi ho hs F' p hnone hsome
  obtain ⟨old, rfl⟩ := ho
  obtain ⟨o, mu', rfl, hcd, p⟩ := p
  have he : IsEnum h e1 i1 i old := (F'.own _ (.head _)).1
  have hit : h.IsListIter i1 l i := ⟨o, (F'.own _ (.tail _ (.head _))).1, hcd⟩
  have hl' : h.IsList l vs.toArray := IsList.sub hl (hs.trans F'.sub)
  rcases Nat.lt_or_ge i vs.length with hlt | hge
  · have hx : vs.toArray[i]? = some vs[i] := by simp [hlt]
    refine wpAny_pyNext_enum_item he hit hl' hx ne1 fun h2 out it2 tup sz k2 => ?_
    obtain ⟨o2, ei2, cd2⟩ := it2
    have F2 := enum_two F' hE0 hI0 out ei2 k2
    refine hsome _ _ { cls := .type "enumerate", dict := none, data := .fields #[.none, .bool false, .ref i1, rawInt ((i : Int) + 1), .none, vs[i]], slots := #[] } hlt ⟨_, rfl⟩ ?_
    refine wpAny_letOwnedTupleGo_enum out fun h3 en3 sb3 => ?_
    have F3 := F2.write (sbExt sb3) en3
    have ht : h3.IsTuple h.objs.size #[.int i tk, vs[i]] := by
      have hne : h.objs.size ≠ e1 := fun q => ne_of_some he (fresh_size h) q.symm
      exact ⟨_, (sb3.2 _ hne).trans tup, rfl, _, rfl⟩
    refine wpAny_assign_Tuple hh ht (by rw [hn]; rfl) hstar fun h4 x4 => ?_
    refine wpAny_mono (turn i _ tk h4 g' m' mu' _ _ (i1, o2) _ (by simp [hlt]) hs (F3.ext (extFresh x4)) p) (fun _ s₂ h₂ => wpAny_mono h₂ (turnEnd_mono ?_) fun _ _ e => e) fun _ _ e => e
    rintro g m mu ⟨mu', rfl, p⟩
    exact ⟨o2, mu', rfl, cd2, p⟩
  · obtain rfl := Nat.le_antisymm hi hge
    exact wpAny_pyNext_enum_end hh he hit hl' (by simp) fun h2 x2 => hnone _ (done h2 g' m' mu' _ hs (F'.drop.lost x2 hI0) p)
end
end Mine

end
section
set_option autoImplicit false
set_option maxHeartbeats 1000000
namespace Mine
/-! ## The places, in plain words -/
noncomputable def cR (ks : Keys) (l : List PRow) (x : Int) : Nat := l.countP fun q => decide (le ks q.2 x)
noncomputable def cL (ks : Keys) (l : List PRow) (x : Int) : Nat := l.countP fun q => decide (lt ks q.2 x)
theorem countP_at {α : Type} {p : α → Bool} : ∀ {l : List α} {r : Nat}, r ≤ l.length → (∀ i q, i < r → l[i]? = some q → p q = true) → (∀ i q, r ≤ i → l[i]? = some q → p q = false) → l.countP p = r
  | [], r, h, _, _ => by simp at h; subst h; rfl
  | q :: l, 0, _, _, h2 => by
    rw [List.countP_cons_of_neg (by simp [h2 0 q (Nat.le_refl 0) rfl])]
    exact countP_at (Nat.zero_le _) (fun i q hi => absurd hi (Nat.not_lt_zero _)) fun i q' _ e => h2 (i + 1) q' (Nat.zero_le _) (by simpa using e)
  | q :: l, r + 1, h, h1, h2 => by
    rw [List.countP_cons_of_pos (h1 0 q (Nat.zero_lt_succ _) rfl)]
    rw [countP_at (r := r) (by simpa using h) (fun i q hi e => h1 (i + 1) q (Nat.succ_lt_succ hi) (by simpa using e)) fun i q hi e => h2 (i + 1) q (Nat.succ_le_succ hi) (by simpa using e)]
noncomputable def plOf (ks : Keys) (Ls : List (List PRow)) (turn i : Nat) (x : Int) : Int :=
  (i : Int) + ((Ls.take turn).map fun l => (cR ks l x : Int)).sum + ((Ls.drop (turn + 1)).map fun l => (cL ks l x : Int)).sum
noncomputable def placesOf (ks : Keys) (Ls : List (List PRow)) (turn : Nat) (ps : List PRow) : List Int := ps.zipIdx.map fun q => plOf ks Ls turn q.2 q.1.2
theorem placesOf_snoc (ks : Keys) (Ls : List (List PRow)) (turn : Nat) (ps : List PRow) (p : PRow) : placesOf ks Ls turn (ps ++ [p]) = placesOf ks Ls turn ps ++ [plOf ks Ls turn ps.length p.2] := by
  unfold placesOf
  rw [List.zipIdx_append, List.map_append]
  simp
theorem IntsAre.snoc {n : Int} {t : Tok} : ∀ {vs : List Value} {ns : List Int}, IntsAre vs ns → IntsAre (vs ++ [.int n t]) (ns ++ [n])
  | _, _, .nil => .cons n t .nil
  | _, _, .cons n' t' h => .cons n' t' (IntsAre.snoc h)

noncomputable def ListAt (g : Heap) (v : Value) (ps : List PRow) : Prop := ∃ l, v = .ref l ∧ g.IsList l (ps.map (·.1)).toArray
theorem ListAt.sub {g g' : Heap} {v : Value} {ps : List PRow} (x : ListAt g v ps) (s : Sub g g') : ListAt g' v ps := by
  obtain ⟨l, h1, h2⟩ := x; exact ⟨l, h1, IsList.sub h2 s⟩
structure ListsAt (w : World) (ks : Keys) (g : Heap) (ll : Addr) (vs : List Value) (Ls : List (List PRow)) : Prop where
  lst : g.IsList ll vs.toArray
  each : All2 (ListAt g) vs Ls
  rows : ∀ l ∈ Ls, RowsAt w g l
  srt : ∀ l ∈ Ls, Srt ks l
  few : ∀ l ∈ Ls, l.length < 1000
  three : Ls.length = 3
theorem ListsAt.sub {w : World} {ks : Keys} {g g' : Heap} {ll : Addr} {vs : List Value} {Ls : List (List PRow)} (x : ListsAt w ks g ll vs Ls) (s : Sub g g') : ListsAt w ks g' ll vs Ls :=
  ⟨IsList.sub x.lst s, x.each.mono fun _ _ q => q.sub s, fun l hl => (x.rows l hl).sub s, x.srt, x.few, x.three⟩
section
variable {w : World} {mg mb : Str → Option Value} {A : Around} {E : Value → Shared → Prop} {s : Shared} {g : Heap}
theorem bind81b {l f : Addr} {x : Value} {ks : Shared} (X : (KK w).In ks.heap) : ∀ o fd, (KK w).lookup 81 = some o → o.data = .func fd → BindsTo ks fd ⟨[.ref l, x], [("key", .ref f)]⟩ [("a", .ref l), ("x", x), ("lo", .int 0 284), ("hi", .none), ("key", .ref f)] := by
  intro o fd h1 h2
  have h3 : (KK w).lookup 81 = some _ := rfl
  rw [h3] at h1
  cases h1
  cases h2
  exact kp_binds X fun _ => rfl
theorem bind90b {l f : Addr} {x : Value} {ks : Shared} (X : (KK w).In ks.heap) : ∀ o fd, (KK w).lookup 90 = some o → o.data = .func fd → BindsTo ks fd ⟨[.ref l, x], [("key", .ref f)]⟩ [("a", .ref l), ("x", x), ("lo", .int 0 298), ("hi", .none), ("key", .ref f)] := by
  intro o fd h1 h2
  have h3 : (KK w).lookup 90 = some _ := rfl
  rw [h3] at h1
  cases h1
  cases h2
  exact kp_binds X fun _ => rfl

/-- bisect_right of a sorted list of rows with a held row, as a count -/
theorem bisR_rows {n : Nat} {l f : Addr} {ps : List PRow} {ks : Keys} {x : Int} {tx : Tok} {Q : Value → Shared → Prop} (R : Room A (n + 5)) (W : Wd w mg mb g) (S : Sub g s.heap) (M : Wm s.heap g)
    (hk : KeysOk ks) (hl : g.IsList l (ps.map (·.1)).toArray) (hp : RowsAt w g ps) (hs : Srt ks ps) (hz : ps.length < 1000) (hf : KeyFn w mg mb 4 g f (DHeld w ks x))
    (h : ∀ t h' tk g', Step X0 s.heap g h' g' → Q (.int (cR ks ps x) t) { s with heap := h', toks := tk }) :
    wpAny (model pr w) A (call (.ref 81) [.ref l, .int 0 tx] [("key", .ref f)]) Q E s := by
  have lX : l ∉ X0 := fun q => by
    obtain ⟨o, eo, _⟩ := hl
    rw [M.off l q] at eo; cases eo
  refine bisR_spec (n := n) (k := 4) (kf := fun j => match ps[j]? with | some q => cmpR ks q.2 x | none => 0) R W S M (IsList.sub hl S) lX (by rw [List.length_map]; exact Nat.lt_trans hz (by decide)) hf ?_ ?_ (bind81b (W.sub S).kin) ?_
  · intro j v hj
    rw [List.getElem?_map] at hj
    obtain ⟨q, hq, rfl⟩ := Option.map_eq_some_iff.mp hj
    exact ⟨q.2, hp q (List.mem_of_getElem? hq), by simp [hq]⟩
  · intro j1 j2 h12 h2
    rw [List.length_map] at h2
    have e1 : ps[j1]? = some ps[j1] := List.getElem?_eq_getElem (Nat.lt_of_le_of_lt h12 h2)
    have e2 : ps[j2]? = some ps[j2] := List.getElem?_eq_getElem h2
    simp only [e1, e2]
    exact cmp_mono hk (srt_get hs h12 e1 e2)
  · intro r t h' tk g' st hr hlo hhi
    rw [List.length_map] at hr hhi
    have e : cR ks ps x = r := countP_at hr (fun j q hj e => by
      have := hlo j hj
      simp only [e] at this
      simpa using (cmp_le hk).mp this) (fun j q hj e => by
      have := hhi j hj (List.getElem?_eq_some_iff.mp e).1
      simp only [e] at this
      have := not_le.mpr ((cmp_gt hk).mp this)
      simpa using this)
    have := h t h' tk g' st
    rw [e] at this
    exact this
theorem bisL_rows {n : Nat} {l f : Addr} {ps : List PRow} {ks : Keys} {x : Int} {tx : Tok} {Q : Value → Shared → Prop} (R : Room A (n + 5)) (W : Wd w mg mb g) (S : Sub g s.heap) (M : Wm s.heap g)
    (hk : KeysOk ks) (hl : g.IsList l (ps.map (·.1)).toArray) (hp : RowsAt w g ps) (hs : Srt ks ps) (hz : ps.length < 1000) (hf : KeyFn w mg mb 4 g f (DHeld w ks x))
    (h : ∀ t h' tk g', Step X0 s.heap g h' g' → Q (.int (cL ks ps x) t) { s with heap := h', toks := tk }) :
    wpAny (model pr w) A (call (.ref 90) [.ref l, .int 0 tx] [("key", .ref f)]) Q E s := by
  have lX : l ∉ X0 := fun q => by
    obtain ⟨o, eo, _⟩ := hl
    rw [M.off l q] at eo; cases eo
  refine bisL_spec (n := n) (k := 4) (kf := fun j => match ps[j]? with | some q => cmpR ks q.2 x | none => 0) R W S M (IsList.sub hl S) lX (by rw [List.length_map]; exact Nat.lt_trans hz (by decide)) hf ?_ ?_ (bind90b (W.sub S).kin) ?_
  · intro j v hj
    rw [List.getElem?_map] at hj
    obtain ⟨q, hq, rfl⟩ := Option.map_eq_some_iff.mp hj
    exact ⟨q.2, hp q (List.mem_of_getElem? hq), by simp [hq]⟩
  · intro j1 j2 h12 h2
    rw [List.length_map] at h2
    have e1 : ps[j1]? = some ps[j1] := List.getElem?_eq_getElem (Nat.lt_of_le_of_lt h12 h2)
    have e2 : ps[j2]? = some ps[j2] := List.getElem?_eq_getElem h2
    simp only [e1, e2]
    exact cmp_mono hk (srt_get hs h12 e1 e2)
  · intro r t h' tk g' st hr hlo hhi
    rw [List.length_map] at hr hhi
    have e : cL ks ps x = r := countP_at hr (fun j q hj e => by
      have := hlo j hj
      simp only [e] at this
      simpa using (cmp_lt hk).mp this) (fun j q hj e => by
      have := hhi j hj (List.getElem?_eq_some_iff.mp e).1
      simp only [e] at this
      have := not_lt.mpr ((cmp_ge hk).mp this)
      simpa using this)
    have := h t h' tk g' st
    rw [e] at this
    exact this

theorem places_spec {n : Nat} {o : Value} {ll : Addr} {ks : Keys} {vs : List Value} {Ls : List (List PRow)} {turn : Nat} {tt : Tok} {ps : List PRow} {Q : Value → Shared → Prop} (R : Room A (n + 12)) (W : Wd w mg mb g) (S : Sub g s.heap) (M : Wm s.heap g)
    (hO : OrderAt g o ks) (hk : KeysOk ks) (hL : ListsAt w ks g ll vs Ls) (ht : Ls[turn]? = some ps)
    (h : ∀ D its ne h' tk g', Step X0 s.heap g h' g' → g'.get? D = some (listOf its.toArray ne) → IntsAre its (placesOf ks Ls turn ps) → Q (.ref D) { s with heap := h', toks := tk }) :
    wpAny (model pr w) A (call (.ref 128) [o, .ref ll, .int turn tt]) Q E s := by
  refine enterC (n := n + 11) (binds := [("order", o), ("lists", .ref ll), ("turn", .int turn tt)]) R W S M (W.kin 128 _ rfl) rfl rfl (codeRec_of W.kin rfl) rfl rfl rfl (by decide) rfl rfl rfl rfl rfl ?_
  intro env A' L h₁ mu tk E' he e RA C dead F
  dsimp only at e F C he ⊢
  clear he
  cases C with
  | cons d1 C =>
    cases C
    rename_i oc
    have hcell := dead _ (.head _)
    dsimp only at hcell
    have hlt : turn < 3 := by rw [← hL.three]; exact (List.getElem?_eq_some_iff.mp ht).1
    refine wpAny_execs_cons (wpAny_Assign_Name (wpAny_List (spliced_none ⟨by size_fits, ?_⟩)))
    have F1 := F.made (listOf (([] : List Value).toArray) 0)
    dsimp only
    have hD := F.fresh
    generalize h₁.objs.size = D at F1 hD ⊢
    refine stL e F1 fun h2 F2 => ?_
    dsimp only
    obtain ⟨vt, hvt, lt, rfl, hlt'⟩ := hL.each.get' ht
    refine wpAny_execs_cons (wpAny_For (wpAny_Call_NameR (ldB e W F2.sub rfl boot_enumerate (by decide) (PyProof.Rows.callWith_type1 (spliced_more (Subscript_ (ldL e F2 rfl (ldL e F2 rfl (subList F2.sub hL.lst (cast_nonneg _) (by rw [Int.toNat_natCast]; exact hvt) (by rw [hL.each.length, hL.three]; decide) (spliced_none ?_))))))))) (by intro _; rfl))
    refine for_enum (g := g) RA.hh F2 hlt' rfl rfl (fun i g' m' mu' => m' "order" = some o ∧ m' "lists" = some (.ref ll) ∧ m' "turn" = some (.int turn tt) ∧ m' "places" = some (.ref D) ∧
      ∃ its ne oc v0, mu' = [(D, listOf its.toArray ne), (L + 1, oc)] ∧ oc.data = .cell v0 ∧ IntsAre its (placesOf ks Ls turn (ps.take i))) ⟨rfl, rfl, rfl, rfl, [], 0, oc, _, rfl, d1, .nil⟩ ?_ ?_
    · intro i v t h3 g3 m3 mu3 tk3 c1 c2 E3 hv sg F3 q0
      refine abs2 fun T hT => ?_
      obtain ⟨q1, q2, q3, q4, its, ne, oc, v0, rfl, hoc, hits⟩ := q0
      rw [List.getElem?_map] at hv
      obtain ⟨p, hpi, rfl⟩ := Option.map_eq_some_iff.mp hv
      have hps := List.mem_of_getElem? ht
      have hmem := List.mem_of_getElem? hpi
      have hrow := hL.rows ps hps p hmem
      have hnext : ps.take (i + 1) = ps.take i ++ [p] := by rw [List.take_add_one, hpi]; rfl
      have hilen : (ps.take i).length = i := by
        have := (List.getElem?_eq_some_iff.mp hpi).1
        rw [List.length_take]; exact Nat.min_eq_left (Nat.le_of_lt this)
      refine wpAny_assignInOrder_more (wpAny_assign_Name (stL e F3 fun h4 F4 => ?_))
      refine wpAny_assignInOrder_more (wpAny_assign_Name (stL e F4 fun h5 F5 => ?_))
      refine wpAny_assignInOrder_none ?_
      dsimp only
      have W5 := W.sub sg
      refine wpAny_execs_cons (wpAny_Assign_Name (wpAny_Call_NameR (ldG e W5 F5.sub rfl ?_)))
      refine callWith_F ⟨_, _, _, _, F5.sub _ _ (W5.kin 116 _ rfl)⟩ (spliced_more (ldL e F5 q1 (spliced_more (ldL e F5 rfl (spliced_none ⟨⟨_, _, _, _, F5.sub _ _ (W5.kin 116 _ rfl)⟩, ?_⟩)))))
      refine held_spec (n := n + 9) RA W5 F5.sub F5.st.wm (hO.sub sg) (hrow.sub sg) fun f h6 tk6 g6 st6 hf => ?_
      have F6 := F5.call st6
      have W6 := W5.sub st6.sub
      have hL6 := hL.sub (sg.trans st6.sub)
      have F6 : Loc X0 s.heap g L h6 g6 _ ((L + 1, oc) :: [c1, c2, (D, listOf its.toArray ne)]) := F6.perm (by
        exact (List.perm_append_comm (l₁ := [(L + 1, oc)]) (l₂ := [c1, c2, (D, listOf its.toArray ne)])))
      refine stC e F6 hoc fun h7 oc7 F7 hoc7 => ?_
      dsimp only
      -- ahead
      refine wpAny_execs_cons (wpAny_Assign_Name (wpAny_Call_NameR (ldB e W6 F7.sub rfl boot_sum (by decide) (PyProof.Rows.callWith_builtin1 (spliced_more (evComp (closed e rfl) rfl (by decide) (by intro _; rfl) ?_))))))
      refine sliceTo (ldL e F7 q2 ⟨rfl, ldL e F7 q3 ⟨rfl, IsList.sub hL6.lst F7.sub, by rw [hL6.each.length, hL6.three]; decide, ?_⟩⟩)
      have F7' := F7.push { cls := .type "slice", data := .fields #[.none, .int turn tt, .none] }
      obtain ⟨g8, F8, s8, e8⟩ := F7'.alloc (listOf (vs.take turn).toArray 0)
      rw [show h7.objs.size + 1 = (h7.push { cls := .type "slice", data := .fields #[.none, .int turn tt, .none] }).objs.size from (Heap.size_push _ _).symm]
      have W8 := W6.sub s8
      have hL8 := hL6.sub s8
      have hf8 := hf.sub s8
      have each8 : All2 (ListAt g8) (vs.take turn) (Ls.take turn) := by
        have : ∀ {as : List Value} {bs : List (List PRow)} (k : Nat), All2 (ListAt g8) as bs → All2 (ListAt g8) (as.take k) (bs.take k) := by
          intro as bs k x
          induction x generalizing k with
          | nil => simp; exact .nil
          | cons p _ ih => cases k with
            | zero => simp; exact .nil
            | succ k => exact .cons p (ih k)
        exact this turn hL8.each
      refine comp_list e rfl (by decide) RA.hh ⟨_, e8, rfl, _, rfl⟩ (by rw [List.length_take, hL6.each.length, hL6.three]; omega) F8 (fun j _ ys => IntsAre ys (((Ls.take turn).take j).map fun l => (cR ks l p.2 : Int))) .nil ?_ ?_ ?_
      · intro I j v s' Q' E'' _ _ hq
        exact wpAny_pure hq
      · intro s' j v h9 g9 ys mC tk9 C D9 c oL cenv E9 hs' hv sg9 jj eC G
        refine abs2 fun T hT => ?_
        obtain ⟨h92, rfl⟩ := hs'
        obtain ⟨l, hl, lv, rfl, hlv⟩ := each8.get hv
        have hlm : l ∈ Ls := List.mem_of_mem_take (List.mem_of_getElem? hl)
        refine wpAny_assign_Name (stL eC G fun h10 G10 => ?_)
        refine wpAny_tests_nil (hT _ _ ⟨h10, g9, _, _, rfl, Sub.refl _, G10, ?_⟩)
        clear hT T
        rw [if_pos rfl]
        refine abs1 fun T hT => ?_
        have W9 := W8.sub sg9
        refine wpAny_Call_Name_kw (ldG eC W9 G10.sub rfl (callKw (spliced_more (ldL eC G10 rfl (spliced_more (wpAny_Constant_int (spliced_none (kws_cons (ldM eC G10 (.tail _ (.tail _ (.tail _ (.head _)))) hoc7 (kws_nil ⟨⟨_, _, _, _, G10.sub _ _ (W9.kin 81 _ rfl)⟩, ?_⟩))))))))))
        refine bisR_rows (n := n + 6) (RA.le (Nat.add_le_add_left (show 11 ≤ 11 by decide) n)) W9 G10.sub G10.st.wm hk (IsList.sub hlv sg9) (((hL8.sub sg9).rows l hlm)) (hL.srt l hlm) (hL.few l hlm) (hf8.sub sg9) fun t11 h11 tk11 g11 st11 => ?_
        refine hT _ _ ⟨h11, g11, _, tk11, rfl, st11.sub, G10.call st11, ?_⟩
        rw [List.take_add_one, hl]
        simp only [Option.toList_some, List.map_append, List.map_cons, List.map_nil]
        exact IntsAre.snoc jj
      intro C D9 h9 g9 ys mC tk9 oL sg9 jj G hn hD9
      refine comp_fin G hn F8.hi hD9 fun h10 g10 s10 F10 e10 => ?_
      refine spliced_none (sumI RA.hh F10 (IsList.sub ⟨_, e10, rfl, _, rfl⟩ F10.sub) jj fun h11 tk11 t11 F11 => ?_)
      refine stL e F11 fun h12 F12 => ?_
      dsimp only
      have sA : Sub g6 g10 := (s8.trans sg9).trans s10
      clear F8 F7' e8 each8 hf8 hL8 W8 F10 F11 G jj
      have WA := W6.sub sA
      have hLA := hL6.sub sA
      have hfA := hf.sub sA
      generalize hahead : (((Ls.take turn).take (vs.take turn).length).map fun l => (cR ks l p.2 : Int)).sum = ahead at F12
      have hahead : ahead = ((Ls.take turn).map fun l => (cR ks l p.2 : Int)).sum := by
        rw [← hahead, List.length_take, hL.each.length, List.take_of_length_le (by rw [List.length_take]; omega)]
      -- behind
      refine wpAny_execs_cons (wpAny_Assign_Name (wpAny_Call_NameR (ldB e WA F12.sub rfl boot_sum (by decide) (PyProof.Rows.callWith_builtin1 (spliced_more (evComp (closed e rfl) rfl (by decide) (by intro _; rfl) ?_))))))
      refine sliceFrom (k := turn + 1) (ldL e F12 q2 ⟨rfl, wpAny_BinOp (ldL e F12 q3 (wpAny_Constant_int (PyProof.Rows.add_int ⟨rfl, IsList.sub hLA.lst F12.sub, by rw [hLA.each.length, hLA.three]; decide, ?_⟩)))⟩)
      dsimp only
      generalize tk11 + 1 + 1 = tkB
      have F7' := F12.push { cls := .type "slice", data := .fields #[.int ((turn + 1 : Nat) : Int) tkB, .none, .none] }
      obtain ⟨g8, F8, s8, e8⟩ := F7'.alloc (listOf (vs.drop (turn + 1)).toArray 0)
      rw [show h12.objs.size + 1 = (h12.push { cls := .type "slice", data := .fields #[.int ((turn + 1 : Nat) : Int) tkB, .none, .none] }).objs.size from (Heap.size_push _ _).symm]
      have W8 := WA.sub s8
      have hL8 := hLA.sub s8
      have hf8 := hfA.sub s8
      have each8 : All2 (ListAt g8) (vs.drop (turn + 1)) (Ls.drop (turn + 1)) := by
        have : ∀ {as : List Value} {bs : List (List PRow)} (k : Nat), All2 (ListAt g8) as bs → All2 (ListAt g8) (as.drop k) (bs.drop k) := by
          intro as bs k x
          induction x generalizing k with
          | nil => simp; exact .nil
          | cons p r ih => cases k with
            | zero => exact .cons p r
            | succ k => exact ih k
        exact this (turn + 1) hL8.each
      refine comp_list e rfl (by decide) RA.hh ⟨_, e8, rfl, _, rfl⟩ (by rw [List.length_drop, hL6.each.length, hL6.three]; omega) F8 (fun j _ ys => IntsAre ys (((Ls.drop (turn + 1)).take j).map fun l => (cL ks l p.2 : Int))) .nil ?_ ?_ ?_
      · intro I j v s' Q' E'' _ _ hq
        exact wpAny_pure hq
      · intro s' j v h9 g9 ys mC tk9 C D9 c oL cenv E9 hs' hv sg9 jj eC G
        refine abs2 fun T hT => ?_
        obtain ⟨h92, rfl⟩ := hs'
        obtain ⟨l, hl, lv, rfl, hlv⟩ := each8.get hv
        have hlm : l ∈ Ls := List.mem_of_mem_drop (List.mem_of_getElem? hl)
        refine wpAny_assign_Name (stL eC G fun h10 G10 => ?_)
        refine wpAny_tests_nil (hT _ _ ⟨h10, g9, _, _, rfl, Sub.refl _, G10, ?_⟩)
        clear hT T
        rw [if_pos rfl]
        refine abs1 fun T hT => ?_
        have W9 := W8.sub sg9
        refine wpAny_Call_Name_kw (ldG eC W9 G10.sub rfl (callKw (spliced_more (ldL eC G10 rfl (spliced_more (wpAny_Constant_int (spliced_none (kws_cons (ldM eC G10 (.tail _ (.tail _ (.tail _ (.head _)))) hoc7 (kws_nil ⟨⟨_, _, _, _, G10.sub _ _ (W9.kin 90 _ rfl)⟩, ?_⟩))))))))))
        refine bisL_rows (n := n + 6) (RA.le (Nat.add_le_add_left (show 11 ≤ 11 by decide) n)) W9 G10.sub G10.st.wm hk (IsList.sub hlv sg9) (((hL8.sub sg9).rows l hlm)) (hL.srt l hlm) (hL.few l hlm) (hf8.sub sg9) fun t11 h11 tk11 g11 st11 => ?_
        refine hT _ _ ⟨h11, g11, _, tk11, rfl, st11.sub, G10.call st11, ?_⟩
        rw [List.take_add_one, hl]
        simp only [Option.toList_some, List.map_append, List.map_cons, List.map_nil]
        exact IntsAre.snoc jj
      intro C D9' h9' g9' ys' mC' tk9' oL' sg9' jj' G' hn' hD9'
      refine comp_fin G' hn' F8.hi hD9' fun h10' g10' s10' F10' e10' => ?_
      refine spliced_none (sumI RA.hh F10' (IsList.sub ⟨_, e10', rfl, _, rfl⟩ F10'.sub) jj' fun h11' tk11' t11' F11' => ?_)
      refine stL e F11' fun h13 F13 => ?_
      dsimp only
      have sB : Sub g10 g10' := (s8.trans sg9').trans s10'
      clear F8 F7' e8 each8 hf8 hL8 W8 F10' F11' G' jj'
      generalize hbehind : (((Ls.drop (turn + 1)).take (vs.drop (turn + 1)).length).map fun l => (cL ks l p.2 : Int)).sum = behind at F13
      have hbehind : behind = ((Ls.drop (turn + 1)).map fun l => (cL ks l p.2 : Int)).sum := by
        rw [← hbehind, List.length_drop, hL.each.length, List.take_of_length_le (by rw [List.length_drop]; omega)]
      -- places.append
      have F13 : Loc X0 s.heap g L h13 g10' _ ((D, listOf its.toArray ne) :: [(L + 1, oc7), c1, c2]) := F13.perm (by
        exact (List.perm_append_comm (l₁ := [(D, listOf its.toArray ne)]) (l₂ := [(L + 1, oc7), c1, c2])))
      have eD := (F13.own _ (.head _)).1
      dsimp only at eD
      have hlen : its.length ≤ 1000 := by
        rw [hits.length]
        unfold placesOf
        rw [List.length_map, List.length_zipIdx, hilen]
        have := (List.getElem?_eq_some_iff.mp hpi).1
        have := hL.few ps hps
        omega
      refine wpAny_execs_cons (wpAny_Expr_any (MethodCall_ (ldL e F13 q4 (listMeth eD PySem.F.slot_list_append PySem.F.type_list_append ?_)) (by rfl)) e.quiet)
      dsimp only
      refine callWith_method1 (spliced_more (wpAny_BinOp (wpAny_BinOp (ldL e F13 rfl (ldL e F13 rfl (PyProof.Rows.add_int (ldL e F13 rfl (PyProof.Rows.add_int (spliced_none ?_)))))))))
      dsimp only
      refine append_at eD (fun h14 hs14 e14 => ?_) (by rw [List.size_toArray, sizeLine_eq]; exact Nat.le_trans hlen (by decide))
      rw [List.push_toArray] at e14
      have F14 := F13.write (sbExt hs14) e14
      have F15 : Loc X0 s.heap g L h14 g10' _ (c1 :: c2 :: [_, (L + 1, oc7)]) := F14.perm (List.perm_append_comm (l₁ := [c1, c2]) (l₂ := [_, (L + 1, oc7)]))
      refine wpAny_execs_nil ?_
      refine hT _ _ ⟨h14, g10', _, _, _, rfl, ((st6.sub.trans sA).trans sB), F15, _, rfl, q1, q2, q3, q4, _, ne + 1, oc7, _, rfl, hoc7, ?_⟩
      · rw [hnext, placesOf_snoc, hilen]
        have : plOf ks Ls turn i p.2 = (i : Int) + ahead + behind := by rw [hahead, hbehind]; rfl
        rw [this]
        exact IntsAre.snoc hits
    · rintro h3 g3 m3 mu3 tk3 sg F3 ⟨q1, q2, q3, q4, its, ne, oc, v0, rfl, hoc, hits⟩
      dsimp only
      rw [List.length_map, List.take_length] at hits
      obtain ⟨g4, F4, s4, e4⟩ := F3.freeze hD
      refine wpAny_execs_cons (wpAny_Return_some (ldL e F4 q4 ?_))
      exact h D its ne _ _ g4 F4.st e4 hits
end
end Mine

end
section
set_option autoImplicit false
set_option maxHeartbeats 1000000
namespace Mine
/-! ## Plain: callers -/
noncomputable abbrev Cs := List (Str × Int)
noncomputable def cf (xs : List Int) (k : Str) : Option Int := if (xs.filter fun x => decide (nm x = k)) = [] then none else some (xs.filter fun x => decide (nm x = k)).sum
structure CS (cs : Cs) (xs : List Int) : Prop where
  nd : (cs.map (·.1)).Nodup
  at_ : ∀ k, cs.lookup k = cf xs k
  sum : (cs.map (·.2)).sum = xs.sum
  len : cs.length ≤ xs.length
noncomputable def putC (cs : Cs) (k : Str) (v : Int) : Cs := if cs.any (fun c => decide (c.1 = k)) = true then cs.map (fun c => if c.1 = k then (c.1, v) else c) else cs ++ [(k, v)]
noncomputable def comb : Option Int → Option Int → Option Int
  | none, b => b
  | some a, none => some a
  | some a, some b => some (a + b)
theorem lookup_none_iff {cs : Cs} {k : Str} : cs.lookup k = none ↔ k ∉ cs.map (·.1) := by
  induction cs with
  | nil => simp
  | cons c cs ih =>
    rw [List.lookup_cons, List.map_cons, List.mem_cons]
    by_cases h : k = c.1
    · simp [h]
    · have : (k == c.1) = false := by simpa using h
      rw [this]; simp only [h, false_or]; exact ih
theorem any_iff {cs : Cs} {k : Str} : cs.any (fun c => decide (c.1 = k)) = true ↔ k ∈ cs.map (·.1) := by
  rw [List.any_eq_true]
  constructor
  · rintro ⟨c, hc, e⟩
    exact List.mem_map.mpr ⟨c, hc, by simpa using e⟩
  · intro h
    obtain ⟨c, hc, e⟩ := List.mem_map.mp h
    exact ⟨c, hc, by simpa using e⟩
theorem lookup_append {cs ds : Cs} {k : Str} : (cs ++ ds).lookup k = (cs.lookup k).or (ds.lookup k) := by
  induction cs with
  | nil => simp
  | cons c cs ih =>
    rw [List.cons_append, List.lookup_cons, List.lookup_cons]
    cases k == c.1 <;> simp [ih]
theorem lookup_mapk {k : Str} {v : Int} (j : Str) : ∀ cs : Cs, (cs.map fun c => if c.1 = k then (c.1, v) else c).lookup j = if j = k then (cs.lookup k).map (fun _ => v) else cs.lookup j
  | [] => by simp
  | c :: cs => by
    have ih := lookup_mapk (k := k) (v := v) j cs
    rw [List.map_cons, List.lookup_cons, List.lookup_cons, List.lookup_cons, ih]
    by_cases hc : c.1 = k
    · rw [if_pos hc]
      by_cases hj : j = k
      · subst hj; simp [hc]
      · have : (j == c.1) = false := by simp [hc, hj]
        simp [this, hj]
    · rw [if_neg hc]
      have h1 : (k == c.1) = false := by simp; exact fun e => hc e.symm
      by_cases hj : j = k
      · subst hj; simp [h1]
      · simp [hj]
theorem lookup_putC {cs : Cs} {k : Str} {v : Int} (j : Str) : (putC cs k v).lookup j = if j = k then some v else cs.lookup j := by
  unfold putC
  by_cases h : cs.any (fun c => decide (c.1 = k)) = true
  · rw [if_pos h, lookup_mapk]
    have hk := any_iff.mp h
    cases e : cs.lookup k with
    | none => exact absurd hk (lookup_none_iff.mp e)
    | some a => rfl
  · rw [if_neg h, lookup_append]
    have hk : cs.lookup k = none := lookup_none_iff.mpr fun e => h (any_iff.mpr e)
    by_cases hj : j = k
    · subst hj; simp [hk]
    · have : (j == k) = false := by simpa using hj
      simp [hj, List.lookup_cons, this]
theorem putC_keys_in {cs : Cs} {k : Str} {v : Int} (h : k ∈ cs.map (·.1)) : (putC cs k v).map (·.1) = cs.map (·.1) := by
  unfold putC
  rw [if_pos (any_iff.mpr h), List.map_map]
  refine List.map_congr_left fun c _ => ?_
  show (if c.1 = k then (c.1, v) else c).1 = c.1
  split <;> rfl
theorem putC_nodup {cs : Cs} {k : Str} {v : Int} (h : (cs.map (·.1)).Nodup) : ((putC cs k v).map (·.1)).Nodup := by
  by_cases hk : k ∈ cs.map (·.1)
  · rw [putC_keys_in hk]; exact h
  · unfold putC
    rw [if_neg (fun e => hk (any_iff.mp e)), List.map_append]
    exact List.nodup_append.mpr ⟨h, by simp, fun a ha b hb => by
      rw [List.map_cons, List.map_nil, List.mem_singleton] at hb
      subst hb
      exact fun e => hk (e ▸ ha)⟩
theorem putC_sum {cs : Cs} {k : Str} {n : Int} (h : (cs.map (·.1)).Nodup) : ((putC cs k ((cs.lookup k).getD 0 + n)).map (·.2)).sum = (cs.map (·.2)).sum + n := by
  by_cases hk : k ∈ cs.map (·.1)
  · unfold putC
    rw [if_pos (any_iff.mpr hk)]
    generalize hv : (cs.lookup k).getD 0 + n = v
    have go : ∀ cs : Cs, (cs.map (·.1)).Nodup → ((cs.map fun c => if c.1 = k then (c.1, v) else c).map (·.2)).sum = (cs.map (·.2)).sum + ((cs.lookup k).elim 0 fun a => v - a) := by
      intro cs
      induction cs with
      | nil => intro _; simp
      | cons c cs ih =>
        intro hn
        rw [List.map_cons, List.nodup_cons] at hn
        rw [List.map_cons, List.map_cons, List.sum_cons, List.map_cons, List.sum_cons, ih hn.2, List.lookup_cons]
        by_cases hc : c.1 = k
        · have : cs.lookup k = none := lookup_none_iff.mpr (hc ▸ hn.1)
          have h1 : (k == c.1) = true := by simp [hc]
          rw [if_pos hc, this, h1]
          show v + ((cs.map (·.2)).sum + 0) = c.2 + (cs.map (·.2)).sum + (v - c.2)
          omega
        · have : (k == c.1) = false := by simp; exact fun e => hc e.symm
          simp only [hc, this, if_false]
          omega
    rw [go cs h]
    cases e : cs.lookup k with
    | none => exact absurd hk (lookup_none_iff.mp e)
    | some a => rw [e] at hv; simp at hv; simp; omega
  · unfold putC
    rw [if_neg (fun e => hk (any_iff.mp e)), lookup_none_iff.mpr hk]
    simp
theorem putC_len (cs : Cs) (k : Str) (v : Int) : (putC cs k v).length ≤ cs.length + 1 := by
  unfold putC; split <;> simp
theorem cf_append (xs ys : List Int) (k : Str) : cf (xs ++ ys) k = comb (cf xs k) (cf ys k) := by
  unfold cf
  rw [List.filter_append]
  generalize xs.filter _ = a
  generalize ys.filter _ = b
  cases a <;> cases b <;> simp [comb, List.sum_append]
  omega
theorem cf_one (x : Int) (k : Str) : cf [x] k = if k = nm x then some x else none := by
  unfold cf
  by_cases h : nm x = k
  · simp [h]
  · have h' : ¬ k = nm x := fun e => h e.symm
    simp [h, h']
theorem CS.one (x : Int) : CS [(nm x, x)] [x] := by
  refine ⟨by simp, fun k => ?_, by simp, by simp⟩
  rw [cf_one, List.lookup_cons]
  by_cases h : k = nm x
  · simp [h]
  · have : (k == nm x) = false := by simpa using h
    simp [this, h]
theorem CS.nil : CS [] [] := ⟨by simp, fun k => by simp [cf], by simp, by simp⟩
/-- callers of two lists of rows, put together entry by entry -/
structure Mix (tc sc : Cs) (i : Nat) (acc : Cs) : Prop where
  nd : (acc.map (·.1)).Nodup
  at_ : ∀ k, acc.lookup k = comb (tc.lookup k) ((sc.take i).lookup k)
  sum : (acc.map (·.2)).sum = (tc.map (·.2)).sum + ((sc.take i).map (·.2)).sum
  len : acc.length ≤ tc.length + i
theorem Mix.start {tc : Cs} (sc : Cs) (h : (tc.map (·.1)).Nodup) : Mix tc sc 0 tc := ⟨h, fun k => by simp; cases tc.lookup k <;> rfl, by simp, Nat.le_refl _⟩
theorem Mix.next {tc sc : Cs} {i : Nat} {acc : Cs} {k : Str} {n : Int} (M : Mix tc sc i acc) (hs : (sc.map (·.1)).Nodup) (hi : sc[i]? = some (k, n)) : Mix tc sc (i + 1) (putC acc k ((acc.lookup k).getD 0 + n)) := by
  have hnext : sc.take (i + 1) = sc.take i ++ [(k, n)] := by rw [List.take_add_one, hi]; rfl
  have hk : (sc.take i).lookup k = none := by
    refine lookup_none_iff.mpr fun hm => ?_
    have h1 : (sc.map (·.1))[i]? = some k := by rw [List.getElem?_map, hi]; rfl
    obtain ⟨c, hc, e⟩ := List.mem_map.mp hm
    obtain ⟨j, hj, e2⟩ := List.getElem_of_mem hc
    rw [List.length_take] at hj
    have hj' : j < sc.length := Nat.lt_of_lt_of_le hj (Nat.min_le_right _ _)
    have h2 : (sc.map (·.1))[j]? = some k := by
      rw [List.getElem?_map, List.getElem?_eq_getElem hj']
      rw [List.getElem_take] at e2
      simp [e2, e]
    obtain ⟨a1, a2⟩ := List.getElem?_eq_some_iff.mp h1
    obtain ⟨b1, b2⟩ := List.getElem?_eq_some_iff.mp h2
    have := (List.pairwise_iff_getElem.mp hs) j i b1 a1 (Nat.lt_of_lt_of_le hj (Nat.min_le_left _ _))
    exact this (b2.trans a2.symm)
  refine ⟨putC_nodup M.nd, fun j => ?_, ?_, Nat.le_trans (putC_len _ _ _) (by have := M.len; omega)⟩
  · rw [lookup_putC, hnext, lookup_append, List.lookup_cons]
    have ha := M.at_ k
    rw [hk] at ha
    by_cases hj : j = k
    · subst hj
      rw [if_pos rfl, hk, ha]
      simp
      cases tc.lookup j <;> simp [comb]
    · have : (j == k) = false := by simpa using hj
      rw [if_neg hj, M.at_ j, this]
      simp
  · rw [putC_sum M.nd, M.sum, hnext]
    simp
    omega
theorem Mix.done {tc sc acc : Cs} {xs ys : List Int} (M : Mix tc sc sc.length acc) (ht : CS tc xs) (hs : CS sc ys) : CS acc (xs ++ ys) := by
  refine ⟨M.nd, fun k => ?_, ?_, by have := M.len; have := ht.len; have := hs.len; rw [List.length_append]; omega⟩
  · rw [M.at_ k, List.take_length, ht.at_, hs.at_, cf_append]
  · rw [M.sum, List.take_length, ht.sum, hs.sum, List.sum_append]
end Mine

end
section
set_option autoImplicit false
set_option maxHeartbeats 1000000
namespace Mine
/-! ## Dicts of callers in the heap -/
noncomputable abbrev KV := All2 fun (kv : Str × Value) (c : Str × Int) => kv.1 = c.1 ∧ ∃ t, kv.2 = Value.int c.2 t
theorem KV.keys {kvs : List (Str × Value)} {cs : Cs} (h : KV kvs cs) : kvs.map (·.1) = cs.map (·.1) := by
  induction h with
  | nil => rfl
  | cons p _ ih => simp [p.1, ih]
theorem KV.look {kvs : List (Str × Value)} {cs : Cs} (h : KV kvs cs) (k : Str) : (valueAt kvs k = none ∧ cs.lookup k = none) ∨ ∃ n t, valueAt kvs k = some (.int n t) ∧ cs.lookup k = some n := by
  induction h with
  | nil => exact .inl ⟨rfl, rfl⟩
  | cons p _ ih =>
    rename_i kv c kvs cs _
    obtain ⟨p1, t, p2⟩ := p
    unfold valueAt at ih ⊢
    rw [List.find?_cons, List.lookup_cons]
    by_cases hk : kv.1 = k
    · have : (k == c.1) = true := by simp [← p1, hk]
      simp only [hk, decide_true, this]
      exact .inr ⟨c.2, t, by simp [p2], rfl⟩
    · have : (k == c.1) = false := by rw [← p1]; simp; exact fun e => hk e.symm
      simp only [hk, decide_false, this]
      exact ih
theorem KV.stored {kvs : List (Str × Value)} {cs : Cs} (h : KV kvs cs) (k : Str) (n : Int) (t : Tok) : KV (PySem.stored kvs k (.int n t)) (putC cs k n) := by
  unfold PySem.stored putC
  have e : kvs.any (fun kv => decide (kv.1 = k)) = cs.any (fun c => decide (c.1 = k)) := by
    induction h with
    | nil => rfl
    | cons p _ ih => simp [p.1, ih]
  rw [e]
  by_cases c : cs.any (fun c => decide (c.1 = k)) = true
  · rw [if_pos c, if_pos c]
    clear e c
    induction h with
    | nil => exact .nil
    | cons p _ ih =>
      refine .cons ?_ ih
      dsimp only
      rw [p.1]
      split
      · exact ⟨rfl, t, rfl⟩
      · exact p
  · rw [if_neg c, if_neg c]
    exact h.append (.cons ⟨rfl, t, rfl⟩ .nil)

structure CallersAt (w : World) (g : Heap) (d : Addr) (xs : List Int) : Prop where
  low : (d == sysModules) = false
  dict : ∃ kvs cs, g.DictOf (sk w) d kvs ∧ KV kvs cs ∧ CS cs xs
theorem CallersAt.sub {w : World} {g g' : Heap} {d : Addr} {xs : List Int} (x : CallersAt w g d xs) (s : Sub g g') : CallersAt w g' d xs := by
  obtain ⟨kvs, cs, h1, h2, h3⟩ := x.dict
  exact ⟨x.low, kvs, cs, DictOf.sub h1 s, h2, h3⟩
noncomputable def s2 (xs : List Int) : Int := (xs.map fun x => x.fmod 5).sum
structure ProfAt (w : World) (g : Heap) (v : Value) (xs : List Int) : Prop where
  tup : ∃ a t0 t1 t2 t3 d, v = .ref a ∧ g.IsTuple a #[.int xs.length t0, .int (s2 xs) t1, .int xs.sum t2, .int (-xs.sum) t3, .ref d] ∧ CallersAt w g d xs
theorem ProfAt.sub {w : World} {g g' : Heap} {v : Value} {xs : List Int} (x : ProfAt w g v xs) (s : Sub g g') : ProfAt w g' v xs := by
  obtain ⟨a, t0, t1, t2, t3, d, h1, h2, h3⟩ := x.tup
  exact ⟨a, t0, t1, t2, t3, d, h1, IsTuple.sub h2 s, h3.sub s⟩
theorem EntryAt.prof {w : World} {g : Heap} {e : Addr} {x : Int} (q : EntryAt w g e x) : ProfAt w g (.ref e) [x] := by
  obtain ⟨t0, t1, t2, t3, d, h1, h2, tv, h3⟩ := q.tup
  refine ⟨e, t0, t1, t2, t3, d, rfl, ?_, h2, _, _, h3, .cons ⟨rfl, tv, rfl⟩ .nil, CS.one x⟩
  simpa [s2] using h1

section
variable {w : World} {mg mb : Str → Option Value} {A : Around} {E : Value → Shared → Prop} {s : Shared} {env : Env} {names : List (Str × NameKind)} {L : Addr} {cl : List (Str × Addr)}
  {X : List Addr} {h₀ g₀ h g h' g' : Heap} {m m' : Str → Option Value} {mu mu' : List (Addr × Obj)}
theorem for_items {v d : Addr} {kvs : List (Str × Value)} {elts : List PySem.Expr} {x1 : Nat} {tp : Pos} {body : List Stmt} {Q : Flow → Shared → Prop} (hh : A.handled = none)
    (F : Loc X h₀ g₀ L s.heap g m mu) (hv : s.heap.IsItemsView v d) (hd : g.DictOf (sk w) d kvs) (hn : (assignEach elts env).length = 2) (hstar : (assignEach elts env).findIdx? (·.1) = none)
    (P : Nat → Heap → (Str → Option Value) → List (Addr × Obj) → Prop) (p0 : P 0 g m mu)
    (turn : ∀ i k v t h g' m' mu' tk c (E' : Value → Shared → Prop), kvs[i]? = some (k, v) → Sub g g' → Loc X h₀ g₀ L h g' m' (c :: mu') → P i g' m' mu' →
      wpAny (model pr w) A (assignInOrder ((assignEach elts env).map (·.2)) [.str k t, v]) (fun _ s₂ => wpAny (model pr w) A (execs body env) (TurnEnd X h₀ g₀ L s c (P (i + 1)) g' Q) E' s₂) E' { s with heap := h, toks := tk })
    (done : ∀ h g' m' mu' tk, Sub g g' → Loc X h₀ g₀ L h g' m' mu' → P kvs.length g' m' mu' → Q .next { s with heap := h, toks := tk }) :
    wpAny (model pr w) A (pyIter (.ref v)) (fun it s₂ => codeAny (model pr w) A (.forLoop (.Tuple elts x1 tp) it body [] env) (fun r s' => match r with | .ok f => Q f s' | .error e => cameBackBy (model pr w) A env E e s') s₂) E s := by
  obtain ⟨ep, hda⟩ := hd.dictAt
  have up : ∀ {h2 : Heap}, Sub g h2 → h2.DictAt (sk w) d kvs ep := fun q => by
    obtain ⟨o, es, e, r⟩ := hda
    exact ⟨o, es, q _ _ e, r⟩
  refine wpAny_pyIter_items hv (up F.sub) (for_turns (F.made { cls := .type "dict_itemiterator", data := .fields #[.none, .bool false, .ref d, .int 0 0, .int kvs.length 0, .int ep 0, .none, .none] }) kvs.length
    (fun i o => ∃ ok ov, o = { cls := .type "dict_itemiterator", dict := none, data := .fields #[.none, .bool false, .ref d, .int (i : Nat) 0, .int kvs.length 0, .int ep 0, ok, ov], slots := #[] }) ⟨_, _, rfl⟩ P p0 ?_)
  intro i h g' m' mu' tk o T E' hi ho hs F' p hnone hsome
  obtain ⟨ok, ov, rfl⟩ := ho
  have hI0 : h₀.get? s.heap.objs.size = none := F.fresh
  generalize s.heap.objs.size = I at F' hI0 hsome ⊢
  have hit : IsItemIter h I d i kvs.length ep ok ov := (F'.own _ (.head _)).1
  rcases Nat.lt_or_ge i kvs.length with hlt | hge
  · rcases hkv : kvs[i] with ⟨k, v⟩
    have hx : kvs[i]? = some (k, v) := by rw [List.getElem?_eq_getElem hlt, hkv]
    refine wpAny_pyNext_items_item hit (up (hs.trans F'.sub)) hx fun key h2 hkey out tup sz k2 => ?_
    obtain ⟨t, rfl⟩ := Value.isStrOf_shape hkey
    refine hsome _ _ _ hlt ⟨.str k t, v, rfl⟩ ?_
    refine wpAny_letOwnedTupleGo_items out fun h3 en3 sb3 => ?_
    have F2 := F'.write (fun b o hb e => k2 b o hb e) out
    have F3 := F2.write (sbExt sb3) en3
    have ht : h3.IsTuple h.objs.size #[.str k t, v] := by
      have hne : h.objs.size ≠ I := fun q => ne_of_some hit (fresh_size h) q.symm
      exact ⟨_, (sb3.2 _ hne).trans tup, rfl, _, rfl⟩
    refine wpAny_assign_Tuple hh ht (by rw [hn]; rfl) hstar fun h4 x4 => ?_
    exact turn i k v t h4 g' m' mu' _ _ _ hx hs (F3.ext (extFresh x4)) p
  · obtain rfl := Nat.le_antisymm hi hge
    exact wpAny_pyNext_items_end hh hit (up (hs.trans F'.sub)) (by simp) fun h2 x2 => hnone _ (done h2 g' m' mu' _ hs (F'.lost x2 hI0) p)

theorem isDict_of {D : Addr} {kvs : List (Str × Value)} (x : h.DictOf (sk w) D kvs) : ∃ o, h.get? D = some o ∧ o.IsDictOf (sk w) kvs := by
  obtain ⟨o, es, ep, e, r⟩ := x; exact ⟨o, e, es, ep, r⟩
theorem of_isDict {D : Addr} {o : Obj} {kvs : List (Str × Value)} (e : h.get? D = some o) (x : o.IsDictOf (sk w) kvs) : h.DictOf (sk w) D kvs := by
  obtain ⟨es, ep, r⟩ := x; exact ⟨o, es, ep, e, r⟩
theorem putC_fresh {cs : Cs} {k : Str} {v : Int} (h : k ∉ cs.map (·.1)) : putC cs k v = cs ++ [(k, v)] := by
  unfold putC; rw [if_neg fun e => h (any_iff.mp e)]
theorem not_in_take {cs : Cs} {i : Nat} {k : Str} {n : Int} (hn : (cs.map (·.1)).Nodup) (hi : cs[i]? = some (k, n)) : k ∉ (cs.take i).map (·.1) := by
  intro hm
  have h1 : (cs.map (·.1))[i]? = some k := by rw [List.getElem?_map, hi]; rfl
  obtain ⟨c, hc, e⟩ := List.mem_map.mp hm
  obtain ⟨j, hj, e2⟩ := List.getElem_of_mem hc
  rw [List.length_take] at hj
  have hj' : j < cs.length := Nat.lt_of_lt_of_le hj (Nat.min_le_right _ _)
  have h2 : (cs.map (·.1))[j]? = some k := by
    rw [List.getElem?_map, List.getElem?_eq_getElem hj']
    rw [List.getElem_take] at e2
    simp [e2, e]
  obtain ⟨a1, a2⟩ := List.getElem?_eq_some_iff.mp h1
  obtain ⟨b1, b2⟩ := List.getElem?_eq_some_iff.mp h2
  exact (List.pairwise_iff_getElem.mp hn) j i b1 a1 (Nat.lt_of_lt_of_le hj (Nat.min_le_left _ _)) (b2.trans a2.symm)
theorem low_new (W : Wd w mg mb g) (S : Sub g h) : (h.objs.size == sysModules) = false := by
  obtain ⟨o, es, ep, e, _⟩ := W.gl
  have := Heap.lt_size (S _ _ e)
  have : sysModules < h.objs.size := Nat.lt_trans (by decide) this
  simpa using Nat.ne_of_gt this
/-- d[k] = v on a mutable dict of ours -/
theorem putD {D : Addr} {o : Obj} {kvs : List (Str × Value)} {cs : Cs} {k : Str} {t u : Tok} {n : Int} {Q : Unit → Shared → Prop} (F : Loc X h₀ g₀ L s.heap g m ((D, o) :: mu)) (ho : o.IsDictOf (sk w) kvs) (hkv : KV kvs cs) (hz : cs.length ≤ 1000)
    (h : ∀ h' o' kvs', Loc X h₀ g₀ L h' g m ((D, o') :: mu) → o'.IsDictOf (sk w) kvs' → KV kvs' (putC cs k n) → Q () { s with heap := h', toks := s.toks + 1 }) :
    wpAny (model pr w) A (setItem (.ref D) (.str k t) (.int n u)) Q E s := by
  refine wpAny_setItem_pairs (knd := sk w) (k := k) (by show Value.isStrOf k (.str k t) = true; simp [Value.isStrOf]) (of_isDict (F.own _ (.head _)).1 ho) (fun h' hd hs => ?_) (by rw [hkv.length, sizeLine_eq]; exact Nat.le_trans hz (by decide))
  obtain ⟨o', e', i'⟩ := isDict_of hd
  exact h h' o' _ (F.write (sbExt hs) e') i' (hkv.stored k n u)
theorem inD {D : Addr} {o : Obj} {kvs : List (Str × Value)} {cs : Cs} {k : Str} {t : Tok} {Q : Value → Shared → Prop} (F : Loc X h₀ g₀ L s.heap g m ((D, o) :: mu)) (ho : o.IsDictOf (sk w) kvs) (hkv : KV kvs cs) (hl : (D == sysModules) = false)
    (h : Q (.bool (cs.lookup k).isSome) { s with toks := s.toks + 1 }) : wpAny (model pr w) A (compareOp .In (.str k t) (.ref D)) Q E s := by
  refine wpAny_in_of (knd := sk w) (k := k) (by show Value.isStrOf k (.str k t) = true; simp [Value.isStrOf]) hl (of_isDict (F.own _ (.head _)).1 ho).mapOf ?_
  rcases hkv.look k with ⟨a, b⟩ | ⟨n, u, a, b⟩
  · rw [a]; rw [b] at h; exact h
  · rw [a]; rw [b] at h; exact h
theorem getD {D : Addr} {o : Obj} {kvs : List (Str × Value)} {cs : Cs} {k : Str} {t : Tok} {n : Int} {Q : Value → Shared → Prop} (F : Loc X h₀ g₀ L s.heap g m ((D, o) :: mu)) (ho : o.IsDictOf (sk w) kvs) (hkv : KV kvs cs) (hn : cs.lookup k = some n)
    (h : ∀ u, Q (.int n u) { s with toks := s.toks + 1 }) : wpAny (model pr w) A (getItem (.ref D) (.str k t)) Q E s := by
  rcases hkv.look k with ⟨a, b⟩ | ⟨n', u, a, b⟩
  · rw [hn] at b; cases b
  · rw [hn] at b; cases b
    exact wpAny_getItem_of (knd := sk w) (k := k) (by show Value.isStrOf k (.str k t) = true; simp [Value.isStrOf]) (of_isDict (F.own _ (.head _)).1 ho).mapOf a (h u)
end
section
variable {w : World} {mg mb : Str → Option Value} {A : Around} {E : Value → Shared → Prop} {s : Shared} {g : Heap}
theorem add_callers_spec {n : Nat} {dt ds : Addr} {xs ys : List Int} {Q : Value → Shared → Prop} (R : Room A (n + 1)) (W : Wd w mg mb g) (S : Sub g s.heap) (M : Wm s.heap g)
    (ht : CallersAt w g dt xs) (hs : CallersAt w g ds ys) (hz : xs.length + ys.length ≤ 300)
    (h : ∀ D h' tk g', Step X0 s.heap g h' g' → CallersAt w g' D (xs ++ ys) → Q (.ref D) { s with heap := h', toks := tk }) :
    wpAny (model pr w) A (call (.ref 56) [.ref dt, .ref ds]) Q E s := by
  refine enter (n := n) (X := X0) (binds := [("target", .ref dt), ("source", .ref ds)]) R W S M M.at (fun _ h => h) (W.kin 56 _ rfl) rfl rfl (codeRec_of W.kin rfl) (BindsTo.of_eq rfl) (by decide) (locs rfl) rfl rfl rfl rfl rfl ?_
  intro env A' L h₁ tk E' e RA F
  dsimp only at e F ⊢
  obtain ⟨kt, ct, dkt, kvt, cst⟩ := ht.dict
  obtain ⟨kz, cz, dkz, kvz, csz⟩ := hs.dict
  have len : ∀ {cs : Cs} {xs : List Int}, CS cs xs → cs.length ≤ xs.length := fun c => c.len
  refine wpAny_execs_cons (wpAny_Assign_Name (wpAny_Dict_empty ?_))
  have F1 := F.made { cls := .type "dict", data := .dict #[] }
  have hlow := low_new (mg := mg) (mb := mb) W F.sub
  have hD := F.fresh
  have hnew : (h₁.push { cls := .type "dict", data := .dict #[] }).DictOf (sk w) h₁.objs.size [] := Heap.DictOf.new h₁
  obtain ⟨o1, eo1, io1⟩ := isDict_of hnew
  rw [(F1.own _ (.head _)).1] at eo1
  cases eo1
  dsimp only
  generalize h₁.push { cls := .type "dict", data := .dict #[] } = H at F1 ⊢
  generalize h₁.objs.size = D at F1 hD hlow ⊢
  refine stL e F1 fun h2 F2 => ?_
  dsimp only
  refine wpAny_execs_cons (wpAny_For (wpAny_Call_items (knd := sk w) ht.low (DictOf.sub dkt F2.sub) (by rfl) (by rfl) (fun Q' q => ldL e F2 rfl q) ?_) (by intro _; rfl))
  have F3 := F2.push { cls := .type "dict_items", data := .fields #[.ref dt] }
  refine for_items (g := g) RA.hh F3 ⟨_, Heap.get?_push_size _ rfl, rfl, rfl⟩ dkt rfl rfl (fun i _ m' mu' => m' "source" = some (.ref ds) ∧ m' "new_callers" = some (.ref D) ∧ ∃ o kvs, mu' = [(D, o)] ∧ o.IsDictOf (sk w) kvs ∧ KV kvs (ct.take i)) ⟨rfl, rfl, _, _, rfl, io1, .nil⟩ ?_ ?_
  · intro i k v t h3 g3 m3 mu3 tk3 c E3 hv sg F3 I3
    refine abs2 fun T hT => ?_
    obtain ⟨q1, q2, o3, kvs3, rfl, io3, kv3⟩ := I3
    obtain ⟨⟨k', n'⟩, hc, hk', t', rfl⟩ := kvt.get hv
    dsimp only at hk' hc
    subst hk'
    refine wpAny_assignInOrder_more (wpAny_assign_Name (stL e F3 fun h4 F4 => ?_))
    refine wpAny_assignInOrder_more (wpAny_assign_Name (stL e F4 fun h5 F5 => ?_))
    refine wpAny_assignInOrder_none ?_
    dsimp only
    refine wpAny_execs_cons (wpAny_Assign_Subscript (ldL e F5 rfl (ldL e F5 q2 (ldL e F5 rfl ?_))))
    refine putD F5.swap io3 kv3 (by rw [List.length_take]; have := len cst; omega) fun h6 o6 kvs6 F6 io6 kv6 => ?_
    refine wpAny_execs_nil ?_
    refine hT _ _ ⟨h6, g3, _, _, _, rfl, Sub.refl _, F6.swap, q1, q2, o6, kvs6, rfl, io6, ?_⟩
    rw [putC_fresh (not_in_take cst.nd hc)] at kv6
    rw [List.take_add_one, hc]
    exact kv6
  · rintro h3 g3 m3 mu3 tk3 sg F3 ⟨q1, q2, o3, kvs3, rfl, io3, kv3⟩
    rw [kvt.length, List.take_length] at kv3
    dsimp only
    refine wpAny_execs_cons (wpAny_For (wpAny_Call_items (knd := sk w) hs.low (DictOf.sub dkz (sg.trans F3.sub)) (by rfl) (by rfl) (fun Q' q => ldL e F3 q1 q) ?_) (by intro _; rfl))
    have F4 := F3.push { cls := .type "dict_items", data := .fields #[.ref ds] }
    refine for_items (g := g3) RA.hh F4 ⟨_, Heap.get?_push_size _ rfl, rfl, rfl⟩ (DictOf.sub dkz sg) rfl rfl (fun i _ m' mu' => m' "new_callers" = some (.ref D) ∧ ∃ o kvs acc, mu' = [(D, o)] ∧ o.IsDictOf (sk w) kvs ∧ KV kvs acc ∧ Mix ct cz i acc) ⟨q2, _, _, _, rfl, io3, kv3, Mix.start cz cst.nd⟩ ?_ ?_
    · intro i k v t h5 g5 m5 mu5 tk5 c E5 hv sg5 F5 I5
      refine abs2 fun T hT => ?_
      obtain ⟨q2, o5, kvs5, acc, rfl, io5, kv5, mix⟩ := I5
      obtain ⟨⟨k', n'⟩, hc, hk', t', rfl⟩ := kvz.get hv
      dsimp only at hk' hc
      subst hk'
      have W5 := W.sub (sg.trans sg5)
      have hlen : acc.length ≤ 1000 := by
        have := (List.getElem?_eq_some_iff.mp hc).1
        have := len cst
        have := len csz
        have := mix.len
        omega
      refine wpAny_assignInOrder_more (wpAny_assign_Name (stL e F5 fun h6 F6 => ?_))
      refine wpAny_assignInOrder_more (wpAny_assign_Name (stL e F6 fun h7 F7 => ?_))
      refine wpAny_assignInOrder_none ?_
      dsimp only
      have mnext := mix.next csz.nd hc
      refine wpAny_execs_cons (wpAny_If (wpAny_isTrue_Compare1 (ldL e F7 rfl (ldL e F7 q2 (inD F7.swap io5 kv5 hlow (wpAny_truthy_bool ?_))))))
      cases hl : acc.lookup k with
      | some a =>
        simp only [Option.isSome_some, if_true]
        refine wpAny_execs_cons (wpAny_If (wpAny_isTrue_value (wpAny_Call_NameR (ldB e W5 F7.sub rfl boot_isinstance (by decide) (PyProof.Rows.callWith_builtin1 (spliced_more (ldL e F7 rfl (spliced_more (ldB e W5 F7.sub rfl PyProof.Rows.boot_tuple (by decide) (spliced_none ?_)))))))) (by rfl)))
        refine PySem.IsiPair.int_tuple (wpAny_truthy_bool ?_)
        simp only [Bool.false_eq_true, if_false]
        refine wpAny_execs_cons (wpAny_AugAssign_Subscript (ldL e F7 q2 (ldL e F7 rfl (getD F7.swap io5 kv5 hl fun u => ldL e F7 rfl (PyProof.Rows.iadd_int ?_)))))
        refine putD (s := { heap := h7, gens := s.gens, drawn := s.drawn, toks := _, os := s.os }) F7.swap io5 kv5 hlen fun h8 o8 kvs8 F8 io8 kv8 => ?_
        refine wpAny_execs_nil ?_
        refine wpAny_execs_nil ?_
        refine wpAny_execs_nil ?_
        refine hT _ _ ⟨h8, g5, _, _, _, rfl, Sub.refl _, F8.swap, q2, o8, kvs8, _, rfl, io8, kv8, ?_⟩
        rw [hl] at mnext
        simpa using mnext
      | none =>
        simp only [Option.isSome_none, Bool.false_eq_true, if_false]
        refine wpAny_execs_cons (wpAny_Assign_Subscript (ldL e F7 rfl (ldL e F7 q2 (ldL e F7 rfl ?_))))
        refine putD F7.swap io5 kv5 hlen fun h8 o8 kvs8 F8 io8 kv8 => ?_
        refine wpAny_execs_nil ?_
        refine wpAny_execs_nil ?_
        refine hT _ _ ⟨h8, g5, _, _, _, rfl, Sub.refl _, F8.swap, q2, o8, kvs8, _, rfl, io8, kv8, ?_⟩
        rw [hl] at mnext
        simpa using mnext
    · rintro h5 g5 m5 mu5 tk5 sg5 F5 ⟨q2, o5, kvs5, acc, rfl, io5, kv5, mix⟩
      rw [kvz.length] at mix
      dsimp only
      obtain ⟨g6, F6, s6, e6⟩ := F5.freeze hD
      refine wpAny_execs_cons (wpAny_Return_some (ldL e F6 q2 ?_))
      exact h D _ _ g6 F6.st ⟨hlow, kvs5, acc, of_isDict e6 io5, kv5, mix.done cst csz⟩

theorem profMk {a d : Addr} {i0 i1 i2 i3 : Int} {t0 t1 t2 t3 : Tok} {n : Nat} {xs : List Int} (e : g.get? a = some { cls := .type "tuple", data := .seq (List.toArray [.int i0 t0, .int i1 t1, .int i2 t2, .int i3 t3, .ref d]) n })
    (h0 : i0 = (xs.length : Int)) (h1 : i1 = s2 xs) (h2 : i2 = xs.sum) (h3 : i3 = -xs.sum) (hC : CallersAt w g d xs) : ProfAt w g (.ref a) xs := by
  subst h0 h1 h2 h3
  exact ⟨a, t0, t1, t2, t3, d, rfl, ⟨_, e, rfl, _, rfl⟩, hC⟩
theorem s2_append (xs ys : List Int) : s2 (xs ++ ys) = s2 xs + s2 ys := by simp [s2]
theorem add_stats_spec {n : Nat} {vt vs : Value} {xs ys : List Int} {Q : Value → Shared → Prop} (R : Room A (n + 2)) (W : Wd w mg mb g) (S : Sub g s.heap) (M : Wm s.heap g)
    (ht : ProfAt w g vt xs) (hs : ProfAt w g vs ys) (hz : xs.length + ys.length ≤ 300)
    (h : ∀ a h' tk g', Step X0 s.heap g h' g' → ProfAt w g' (.ref a) (xs ++ ys) → Q (.ref a) { s with heap := h', toks := tk }) :
    wpAny (model pr w) A (call (.ref 49) [vt, vs]) Q E s := by
  refine enter (n := n + 1) (X := X0) (binds := [("target", vt), ("source", vs)]) R W S M M.at (fun _ h => h) (W.kin 49 _ rfl) rfl rfl (codeRec_of W.kin rfl) (BindsTo.of_eq rfl) (by decide) (locs rfl) rfl rfl rfl rfl rfl ?_
  intro env A' L h₁ tk E' e RA F
  dsimp only at e F ⊢
  obtain ⟨a, t0, t1, t2, t3, d, rfl, h2, h3⟩ := ht.tup
  obtain ⟨a', t0', t1', t2', t3', d', rfl, h2', h3'⟩ := hs.tup
  refine wpAny_execs_cons (Assign_Tuple (ldL e F rfl ?_) (by rfl) (by rfl))
  refine asgTup RA.hh F h2' rfl rfl fun h4 F4 => ?_
  refine wpAny_assignInOrder_more (wpAny_assign_Name (stL e F4 fun h5 F5 => ?_))
  refine wpAny_assignInOrder_more (wpAny_assign_Name (stL e F5 fun h6 F6 => ?_))
  refine wpAny_assignInOrder_more (wpAny_assign_Name (stL e F6 fun h7 F7 => ?_))
  refine wpAny_assignInOrder_more (wpAny_assign_Name (stL e F7 fun h8 F8 => ?_))
  refine wpAny_assignInOrder_more (wpAny_assign_Name (stL e F8 fun h9 F9 => ?_))
  refine wpAny_assignInOrder_none ?_
  dsimp only
  clear F4 F5 F6 F7 F8
  refine wpAny_execs_cons (Assign_Tuple (ldL e F9 rfl ?_) (by rfl) (by rfl))
  refine asgTup RA.hh F9 h2 rfl rfl fun k4 G4 => ?_
  refine wpAny_assignInOrder_more (wpAny_assign_Name (stL e G4 fun k5 G5 => ?_))
  refine wpAny_assignInOrder_more (wpAny_assign_Name (stL e G5 fun k6 G6 => ?_))
  refine wpAny_assignInOrder_more (wpAny_assign_Name (stL e G6 fun k7 G7 => ?_))
  refine wpAny_assignInOrder_more (wpAny_assign_Name (stL e G7 fun k8 G8 => ?_))
  refine wpAny_assignInOrder_more (wpAny_assign_Name (stL e G8 fun k9 G9 => ?_))
  refine wpAny_assignInOrder_none ?_
  dsimp only
  clear G4 G5 G6 G7 G8 F9
  refine wpAny_execs_cons (wpAny_Return_some (wpAny_Tuple ?_))
  refine spliced_more (wpAny_BinOp (ldL e G9 rfl (ldL e G9 rfl (PyProof.Rows.add_int ?_))))
  dsimp only
  refine spliced_more (wpAny_BinOp (ldL e G9 rfl (ldL e G9 rfl (PyProof.Rows.add_int ?_))))
  dsimp only
  refine spliced_more (wpAny_BinOp (ldL e G9 rfl (ldL e G9 rfl (PyProof.Rows.add_int ?_))))
  dsimp only
  refine spliced_more (wpAny_BinOp (ldL e G9 rfl (ldL e G9 rfl (PyProof.Rows.add_int ?_))))
  dsimp only
  refine spliced_more (wpAny_Call_NameR (ldG e W G9.sub rfl (callWith_F ⟨_, _, _, _, G9.sub _ _ (W.kin 56 _ rfl)⟩ (spliced_more (ldL e G9 rfl (spliced_more (ldL e G9 rfl (spliced_none ⟨⟨_, _, _, _, G9.sub _ _ (W.kin 56 _ rfl)⟩, ?_⟩))))))))
  refine add_callers_spec (n := n) RA W G9.sub G9.st.wm h3 h3' hz fun D h10 tk10 g10 st10 hC => ?_
  have G10 := G9.call st10
  refine spliced_none ⟨by show 5 ≤ sizeLine; decide, ?_⟩
  dsimp only
  obtain ⟨g11, G11, s11, e11⟩ := G10.alloc { cls := .type "tuple", data := .seq (List.toArray [_, _, _, _, _]) }
  refine h _ _ _ g11 G11.st (profMk e11 ?_ ?_ ?_ ?_ (hC.sub s11))
  · rw [List.length_append]; exact Int.add_comm _ _
  · rw [s2_append]; exact Int.add_comm _ _
  · rw [List.sum_append]; exact Int.add_comm _ _
  · rw [List.sum_append, Int.neg_add]; exact Int.add_comm _ _
end
section
variable {w : World} {mg mb : Str → Option Value} {A : Around} {E : Value → Shared → Prop} {s : Shared} {env : Env} {names : List (Str × NameKind)} {L : Addr} {cl : List (Str × Addr)}
  {X : List Addr} {h₀ g₀ h g h' g' : Heap} {m m' : Str → Option Value} {mu mu' : List (Addr × Obj)}
theorem for_values {v d : Addr} {kvs : List (Str × Value)} {x : Str} {px : Pos} {body : List Stmt} {Q : Flow → Shared → Prop} (hh : A.handled = none)
    (F : Loc X h₀ g₀ L s.heap g m mu) (hv : s.heap.IsValuesView v d) (hd : g.DictOf (sk w) d kvs)
    (P : Nat → Heap → (Str → Option Value) → List (Addr × Obj) → Prop) (p0 : P 0 g m mu)
    (turn : ∀ i k v h g' m' mu' tk c (E' : Value → Shared → Prop), kvs[i]? = some (k, v) → Sub g g' → Loc X h₀ g₀ L h g' m' (c :: mu') → P i g' m' mu' →
      wpAny (model pr w) A (assign (.Name x px) env v) (fun _ s₂ => wpAny (model pr w) A (execs body env) (TurnEnd X h₀ g₀ L s c (P (i + 1)) g' Q) E' s₂) E' { s with heap := h, toks := tk })
    (done : ∀ h g' m' mu' tk, Sub g g' → Loc X h₀ g₀ L h g' m' mu' → P kvs.length g' m' mu' → Q .next { s with heap := h, toks := tk }) :
    wpAny (model pr w) A (pyIter (.ref v)) (fun it s₂ => codeAny (model pr w) A (.forLoop (.Name x px) it body [] env) (fun r s' => match r with | .ok f => Q f s' | .error e => cameBackBy (model pr w) A env E e s') s₂) E s := by
  obtain ⟨ep, hda⟩ := hd.dictAt
  have up : ∀ {h2 : Heap}, Sub g h2 → h2.DictAt (sk w) d kvs ep := fun q => by
    obtain ⟨o, es, e, r⟩ := hda
    exact ⟨o, es, q _ _ e, r⟩
  refine wpAny_pyIter_values hv (up F.sub) (for_turns (F.made { cls := .type "dict_valueiterator", data := .fields #[.ref d, .int 0 0, .int kvs.length 0, .int ep 0] }) kvs.length
    (fun i o => o.cls = .type "dict_valueiterator" ∧ o.data = .fields #[.ref d, .int (i : Nat) 0, .int kvs.length 0, .int ep 0]) ⟨rfl, rfl⟩ P p0 ?_)
  intro i h g' m' mu' tk o T E' hi ho hs F' p hnone hsome
  have hit : h.IsValIter s.heap.objs.size d i kvs.length ep := ⟨o, (F'.own _ (.head _)).1, ho⟩
  rcases Nat.lt_or_ge i kvs.length with hlt | hge
  · rcases hkv : kvs[i] with ⟨k, v⟩
    have hx : kvs[i]? = some (k, v) := by rw [List.getElem?_eq_getElem hlt, hkv]
    refine wpAny_pyNext_values_item hit (up (hs.trans F'.sub)) hx fun h2 it2 sb2 => ?_
    obtain ⟨o2, e2, cd2⟩ := it2
    exact hsome _ _ o2 hlt cd2 (wpAny_pure (turn i k v h2 g' m' mu' _ _ _ hx hs (F'.write (sbExt sb2) e2) p))
  · obtain rfl := Nat.le_antisymm hi hge
    exact wpAny_pyNext_values_end hh hit (up (hs.trans F'.sub)) (by simp) fun h2 x2 => hnone _ (done h2 g' m' mu' _ hs (F'.lost x2 F.fresh) p)
end
section
variable {w : World} {mg mb : Str → Option Value} {A : Around} {E : Value → Shared → Prop} {s : Shared} {g : Heap}
theorem ldN {env : Env} {names : List (Str × NameKind)} {L : Addr} {cl : List (Str × Addr)} {X : List Addr} {h₀ g₀ : Heap} {m : Str → Option Value} {mu : List (Addr × Obj)} {x : Str} {v : Value} {Q : Value → Shared → Prop}
    (e : EnvIs env names L cl) (F : Loc X h₀ g₀ L s.heap g m mu) (hv : m x = some v) (h : Q v s) (hx : names.lookup x = some .local := by rfl) : wpAny (model pr w) A (loadName env x) Q E s :=
  wpAny_loadName_local e.kind (by rw [e.kindOf]; exact hx) (by rw [e.loc]; exact F.ns) hv h
theorem count_spec {n : Nat} {d : Addr} {xs : List Int} {Q : Value → Shared → Prop} (R : Room A (n + 1)) (W : Wd w mg mb g) (S : Sub g s.heap) (M : Wm s.heap g) (hd : CallersAt w g d xs)
    (h : ∀ t h' tk g', Step X0 s.heap g h' g' → Q (.int xs.sum t) { s with heap := h', toks := tk }) :
    wpAny (model pr w) A (call (.ref 63) [.ref d]) Q E s := by
  refine enter (n := n) (X := X0) (binds := [("callers", .ref d)]) R W S M M.at (fun _ h => h) (W.kin 63 _ rfl) rfl rfl (codeRec_of W.kin rfl) (BindsTo.of_eq rfl) (by decide) (locs rfl) rfl rfl rfl rfl rfl ?_
  intro env A' L h₁ tk E' e RA F
  dsimp only at e F ⊢
  obtain ⟨kvs, cs, dk, kv, csx⟩ := hd.dict
  refine wpAny_execs_cons (wpAny_Assign_Name (wpAny_Constant_int (stL e F fun h2 F2 => ?_)))
  dsimp only
  have dk2 := DictOf.sub dk F2.sub
  refine wpAny_execs_cons (wpAny_For (MethodCall_ (ldL e F2 rfl (getMethod_builtin dk2.typeIs PySem.F.plainAttrs_dict PySem.F.slot_dict_values PySem.F.type_dict_values dk2.mapOf.noDict ?_)) (by rfl)) (by intro _; rfl))
  dsimp only
  refine callWith_method0 ?_
  refine call_meetsIn PySem.F.slot_dict_values dk2.typeIs PySem.F.entry_dict_values (PySem.F.args_dict_values_1 _) (meets_dict_values (sk w) d hd.low) ⟨⟨kvs, dk2⟩, ?_⟩
  have F3 := F2.push { cls := .type "dict_values", data := .fields #[.ref d] }
  refine for_values (g := g) RA.hh F3 ⟨_, Heap.get?_push_size _ rfl, rfl, rfl⟩ dk (fun i _ m' _ => ∃ t, m' "nc" = some (.int ((cs.take i).map (·.2)).sum t)) ⟨_, rfl⟩ ?_ ?_
  · intro i k v h4 g4 m4 mu4 tk4 c E4 hv sg F4 I4
    refine abs2 fun T hT => ?_
    obtain ⟨t, q⟩ := I4
    obtain ⟨⟨k', n'⟩, hc, hk', t', rfl⟩ := kv.get hv
    refine wpAny_assign_Name (stL e F4 fun h5 F5 => ?_)
    refine wpAny_execs_cons (wpAny_AugAssign_Name (ldN e F5 q (ldL e F5 rfl (PyProof.Rows.iadd_int ?_))))
    refine stL e F5 fun h6 F6 => ?_
    refine wpAny_execs_nil ?_
    have e1 : ((cs.take (i + 1)).map (·.2)).sum = ((cs.take i).map (·.2)).sum + n' := by
      rw [List.take_add_one, hc]; simp
    exact hT _ _ ⟨h6, g4, _, mu4, _, rfl, Sub.refl _, F6, _, by rw [e1]; rfl⟩
  · rintro h4 g4 m4 mu4 tk4 sg F4 ⟨t, q⟩
    dsimp only
    rw [kv.length, List.take_length, csx.sum] at q
    refine wpAny_execs_cons (wpAny_Return_some (ldL e F4 q ?_))
    exact h t _ _ g4 F4.st
end
end Mine

end
section
set_option autoImplicit false
set_option maxHeartbeats 1000000
namespace Mine
section
variable {w : World} {mg mb : Str → Option Value} {A : Around} {E : Value → Shared → Prop} {s : Shared} {env : Env} {names : List (Str × NameKind)} {L : Addr} {cl : List (Str × Addr)}
  {X : List Addr} {h₀ g₀ h g h' g' : Heap} {m m' : Str → Option Value} {mu mu' : List (Addr × Obj)}
theorem for_range {r : Addr} {n : Nat} {t u v : Tok} {x : Str} {px : Pos} {body : List Stmt} {Q : Flow → Shared → Prop} (hh : A.handled = none) (F : Loc X h₀ g₀ L s.heap g m mu) (hr : IsRange s.heap r 0 n 1 t u v) (hsz : n ≤ 2 ^ 20)
    (P : Nat → Heap → (Str → Option Value) → List (Addr × Obj) → Prop) (p0 : P 0 g m mu)
    (turn : ∀ i t h g' m' mu' tk c (E' : Value → Shared → Prop), i < n → Sub g g' → Loc X h₀ g₀ L h g' m' (c :: mu') → P i g' m' mu' →
      wpAny (model pr w) A (assign (.Name x px) env (.int (i : Nat) t)) (fun _ s₂ => wpAny (model pr w) A (execs body env) (TurnEnd X h₀ g₀ L s c (P (i + 1)) g' Q) E' s₂) E' { s with heap := h, toks := tk })
    (done : ∀ h g' m' mu' tk, Sub g g' → Loc X h₀ g₀ L h g' m' mu' → P n g' m' mu' → Q .next { s with heap := h, toks := tk }) :
    wpAny (model pr w) A (pyIter (.ref r)) (fun it s₂ => codeAny (model pr w) A (.forLoop (.Name x px) it body [] env) (fun r s' => match r with | .ok f => Q f s' | .error e => cameBackBy (model pr w) A env E e s') s₂) E s := by
  obtain ⟨hsize, hsm⟩ := range_facts n hsz
  refine wpAny_pyIter_range hr hsm ?_
  have hI0 : h₀.get? s.heap.objs.size = none := F.fresh
  have F1 := F.made { cls := .type "range_iterator", data := .fields #[rawInt 0, rawInt (Builtin.Range.rangeSize 0 n 1), rawInt 1] }
  rw [hsize] at F1 ⊢
  refine for_turns F1 n (fun i o => ∃ a b : Int, a = (i : Int) ∧ b = (n : Int) - i ∧ o = { cls := .type "range_iterator", dict := none, data := .fields #[rawInt a, rawInt b, rawInt 1], slots := #[] }) ⟨0, n, rfl, by omega, rfl⟩ P p0 ?_
  intro i h g' m' mu' tk o T E' hi ho hs F' p hnone hsome
  obtain ⟨a, b, ha, hb, rfl⟩ := ho
  have hit : IsRangeIter h s.heap.objs.size a b 1 := (F'.own _ (.head _)).1
  rcases Nat.lt_or_ge i n with hlt | hge
  · refine wpAny_pyNext_range_item hit (by omega) fun h2 it2 sb2 => ?_
    subst ha
    exact hsome _ _ _ hlt ⟨(i : Int) + 1, b - 1, by omega, by omega, rfl⟩ (wpAny_pure (turn i _ h2 g' m' mu' _ _ _ hlt hs (F'.write (sbExt sb2) it2) p))
  · obtain rfl := Nat.le_antisymm hi hge
    exact wpAny_pyNext_range_end hh hit (by omega) fun h2 x2 => hnone _ (done h2 g' m' mu' _ hs (F'.lost x2 hI0) p)
/-- the last item of a list -/
theorem subLast {value slice : PySem.Expr} {l : Addr} {vs : List Value} {v : Value} {u : Tok} {Q : Value → Shared → Prop} (hl : s.heap.IsList l (vs ++ [v]).toArray) (hz : vs.length < 2 ^ 20) (h : Q v s)
    (hs : subscripted slice false (.ref l) (.int (-1) u) = operate [.ref l, .int (-1) u] (getItem (.ref l) (.int (-1) u)) := by with_unfolding_all rfl) :
    wpAny (model pr w) A (subscriptTail value slice (.ref l) (.int (-1) u)) Q E s := by
  refine tail_any hl.typeIs PySem.F.slot_list_getitem.lookup (wpAny_getItem_list_neg hl (by decide) ?_ (by decide) ?_ h) hs
  · simp; (exact Int.ofNat_lt.mpr (Nat.le_add_left (Nat.succ 0) vs.length))
  · have : (-1 + ((vs ++ [v]).toArray.size : Int)).toNat = vs.length := by simp; omega
    rw [this]; simp
end

/-- a list of profiles, one for each count of first rows -/
structure SumsAt (w : World) (g : Heap) (v : Value) (ps : List PRow) : Prop where
  lst : ∃ (D : Addr) (ys : List Value) (ne : Nat), v = .ref D ∧ g.get? D = some (listOf ys.toArray ne) ∧ ys.length = ps.length + 1 ∧ ∀ i y, ys[i]? = some y → ProfAt w g y ((ps.take i).map (·.2))
theorem SumsAt.sub {w : World} {g g' : Heap} {v : Value} {ps : List PRow} (x : SumsAt w g v ps) (s : Sub g g') : SumsAt w g' v ps := by
  obtain ⟨D, ys, ne, h1, h2, h3, h4⟩ := x.lst
  exact ⟨D, ys, ne, h1, s _ _ h2, h3, fun i y hy => (h4 i y hy).sub s⟩
section
variable {w : World} {mg mb : Str → Option Value} {A : Around} {E : Value → Shared → Prop} {s : Shared} {g : Heap}
/-- the empty profile, as it is written -/
theorem zero_prof {env : Env} {L : Addr} {X : List Addr} {h₀ g₀ : Heap} {m : Str → Option Value} {mu : List (Addr × Obj)} {pos p0 p1 p2 p3 p4 : Pos} {k k0 k1 k2 k3 : Nat} {Q : Value → Shared → Prop}
    (F : Loc X h₀ g₀ L s.heap g m mu) (W : Wd w mg mb g)
    (h : ∀ v h' tk g', Loc X h₀ g₀ L h' g' m mu → Sub g g' → ProfAt w g' v [] → Q v { s with heap := h', toks := tk }) :
    wpAny (model pr w) A (eval (.Tuple [.Constant (.int 0) k0 p0, .Constant (.int 0) k1 p1, .Constant (.int 0) k2 p2, .Constant (.int 0) k3 p3, .Dict [] [] p4] k pos) env) Q E s := by
  refine wpAny_Tuple (spliced_more (wpAny_Constant_int ?_))
  try dsimp only
  refine spliced_more (wpAny_Constant_int ?_)
  try dsimp only
  refine spliced_more (wpAny_Constant_int ?_)
  try dsimp only
  refine spliced_more (wpAny_Constant_int ?_)
  try dsimp only
  refine spliced_more (wpAny_Dict_empty ?_)
  try dsimp only
  have hlow := low_new (mg := mg) (mb := mb) W F.sub
  obtain ⟨g1, F1, s1, e1⟩ := F.alloc { cls := .type "dict", data := .dict #[] }
  refine spliced_none ⟨by show 5 ≤ sizeLine; decide, ?_⟩
  dsimp only
  obtain ⟨g2, F2, s2, e2⟩ := F1.alloc { cls := .type "tuple", data := .seq (List.toArray [_, _, _, _, _]) }
  refine h _ _ _ g2 F2 (s1.trans s2) (profMk e2 rfl rfl rfl rfl ⟨hlow, [], [], ?_, .nil, CS.nil⟩)
  obtain ⟨o, es, ep, eo, r⟩ := Heap.DictOf.new (knd := sk w) s.heap
  rw [Heap.get?_push_size _ rfl] at eo
  cases eo
  exact ⟨_, es, ep, s2 _ _ e1, r⟩

theorem sums_spec {n : Nat} {l : Addr} {ps : List PRow} {Q : Value → Shared → Prop} (R : Room A (n + 4)) (W : Wd w mg mb g) (S : Sub g s.heap) (M : Wm s.heap g)
    (hl : g.IsList l (ps.map (·.1)).toArray) (hp : RowsAt w g ps) (hz : ps.length ≤ 100)
    (h : ∀ v h' tk g', Step X0 s.heap g h' g' → SumsAt w g' v ps → Q v { s with heap := h', toks := tk }) :
    wpAny (model pr w) A (call (.ref 135) [.ref l]) Q E s := by
  refine enter (n := n + 3) (X := X0) (binds := [("rows", .ref l)]) R W S M M.at (fun _ h => h) (W.kin 135 _ rfl) rfl rfl (codeRec_of W.kin rfl) (BindsTo.of_eq rfl) (by decide) (locs rfl) rfl rfl rfl rfl rfl ?_
  intro env A' L h₁ tk E' e RA F
  dsimp only at e F ⊢
  with_reducible refine wpAny_execs_cons ?_
  with_reducible refine wpAny_Assign_Name ?_ ?hs
  case hs => rfl
  with_reducible refine wpAny_List ?_
  with_reducible refine spliced_more ?_ ?he
  case he => rfl
  refine zero_prof (mg := mg) (mb := mb) F W ?_
  intro v0 h2 tk2 g2 F2 sg2 hv0
  refine spliced_none ⟨by show 1 ≤ sizeLine; decide, ?_⟩
  have F3 := F2.made (listOf (List.toArray [v0]) 0)
  dsimp only
  have hD := F2.fresh
  generalize h2.push (listOf (List.toArray [v0]) 0) = h3 at F3 ⊢
  generalize h2.objs.size = D at F3 hD ⊢
  refine stL e F3 fun h4 F4 => ?_
  dsimp only
  refine wpAny_execs_cons (wpAny_For (ldL e F4 rfl ?_) (by intro _; rfl))
  refine for_list (g := g2) RA.hh F4 (IsList.sub hl sg2) (fun i g' m' mu' => m' "sums" = some (.ref D) ∧ ∃ ys y ne, mu' = [(D, listOf (ys ++ [y]).toArray ne)] ∧ ys.length = i ∧ (∀ j z, (ys ++ [y])[j]? = some z → ProfAt w g' z ((ps.take j).map (·.2)))) ⟨rfl, [], v0, 0, rfl, rfl, ?_⟩ ?_ ?_ ?_
  · intro j z hz
    cases j with
    | zero => simp at hz; subst hz; simpa using hv0
    | succ j => simp at hz
  · intro I i v s' Q' E'' hv hit hq
    exact wpAny_pure hq
  · intro i v h5 g5 m5 mu5 tk5 c E5 hv sg F5 I5
    refine abs2 fun T hT => ?_
    obtain ⟨q1, ys, y, ne, rfl, hys, hall⟩ := I5
    rw [List.getElem?_map] at hv
    obtain ⟨p, hpi, rfl⟩ := Option.map_eq_some_iff.mp hv
    have hrow := (hp p (List.mem_of_getElem? hpi)).sub (sg2.trans sg)
    have hi := (List.getElem?_eq_some_iff.mp hpi).1
    obtain ⟨a, t0, t1, t2, en, hpv, ta, hen⟩ := hrow.tup
    have hnext : ps.take (i + 1) = ps.take i ++ [p] := by rw [List.take_add_one, hpi]; rfl
    refine wpAny_assign_Name (stL e F5 fun h6 F6 => ?_)
    dsimp only
    have eD := (F6.swap.own _ (.head _)).1
    dsimp only at eD
    have W6 := W.sub (sg2.trans sg)
    refine wpAny_execs_cons (wpAny_Expr_any (MethodCall_ (ldL e F6 q1 (listMeth eD PySem.F.slot_list_append PySem.F.type_list_append ?_)) (by rfl)) e.quiet)
    dsimp only
    refine callWith_method1 (spliced_more (wpAny_Call_NameR (ldG e W6 F6.sub rfl (callWith_F ⟨_, _, _, _, F6.sub _ _ (W6.kin 49 _ rfl)⟩ ?_))))
    refine spliced_more (Subscript_ (ldL e F6 q1 (wpAny_UnaryOp (wpAny_Constant_int (PyProof.Rows.neg_int ?_)))))
    dsimp only
    refine subLast ⟨_, eD, rfl, _, rfl⟩ (by omega) ?_ ?_
    rotate_left
    · with_unfolding_all rfl
    refine spliced_more (Subscript_ (ldL e F6 rfl (wpAny_Constant_int ?_)))
    rw [hpv]
    refine subTup (S := F6.sub) ta (by decide) rfl rfl (by simp) (spliced_none ⟨⟨_, _, _, _, F6.sub _ _ (W6.kin 49 _ rfl)⟩, ?_⟩)
    have hy : ProfAt w g5 y ((ps.take i).map (·.2)) := hall i y (by rw [List.getElem?_append_right (by omega), hys]; simp)
    refine add_stats_spec (n := n + 1) RA W6 F6.sub F6.st.wm hy hen.prof (by rw [List.length_map, List.length_take]; simp; omega) fun a7 h7 tk7 g7 st7 pr7 => ?_
    have F7 := F6.call st7
    refine spliced_none ?_
    have eD7 := (F7.swap.own _ (.head _)).1
    dsimp only at eD7
    refine append_at eD7 (fun h8 hs8 e8 => ?_) (by rw [List.size_toArray, sizeLine_eq, List.length_append, List.length_singleton]; omega)
    rw [List.push_toArray] at e8
    have F8 := (F7.swap.write (sbExt hs8) e8).swap
    refine wpAny_execs_nil ?_
    refine hT _ _ ⟨h8, g7, _, _, _, rfl, st7.sub, F8, q1, ys ++ [y], .ref a7, ne + 1, rfl, by simp [hys], fun j z hz => ?_⟩
    rcases Nat.lt_or_ge j (ys ++ [y]).length with hj | hj
    · rw [List.getElem?_append_left hj] at hz
      exact (hall j z hz).sub st7.sub
    · have : j = i + 1 := by
        have h1 := (List.getElem?_eq_some_iff.mp hz).1
        simp at h1 hj; omega
      subst this
      rw [List.getElem?_append_right (by simp; omega)] at hz
      simp [hys] at hz
      subst hz
      rw [hnext, List.map_append]
      exact pr7
  · rintro h5 g5 m5 mu5 tk5 sg F5 ⟨q1, ys, y, ne, rfl, hys, hall⟩
    dsimp only
    obtain ⟨g6, F6, s6, e6⟩ := F5.freeze hD
    refine wpAny_execs_cons (wpAny_Return_some (ldL e F6 q1 ?_))
    refine h _ _ _ g6 F6.st ⟨D, ys ++ [y], ne, rfl, e6, by simp [hys], fun j z hz => (hall j z hz).sub s6⟩
end
end Mine

end
section
set_option autoImplicit false
set_option maxHeartbeats 1000000
namespace Mine
noncomputable def IntsAt (g : Heap) (v : Value) (ns : List Int) : Prop := ∃ (l : Addr) (its : List Value) (ne : Nat), v = .ref l ∧ g.get? l = some (listOf its.toArray ne) ∧ IntsAre its ns
theorem IntsAt.sub {g g' : Heap} {v : Value} {ns : List Int} (x : IntsAt g v ns) (s : Sub g g') : IntsAt g' v ns := by
  obtain ⟨l, its, ne, h1, h2, h3⟩ := x; exact ⟨l, its, ne, h1, s _ _ h2, h3⟩
structure PlacesAt (g : Heap) (l : Addr) (pls : List (List Int)) : Prop where
  lst : ∃ vs : List Value, g.IsList l vs.toArray ∧ All2 (IntsAt g) vs pls
theorem PlacesAt.sub {g g' : Heap} {l : Addr} {pls : List (List Int)} (x : PlacesAt g l pls) (s : Sub g g') : PlacesAt g' l pls := by
  obtain ⟨vs, h1, h2⟩ := x.lst; exact ⟨vs, IsList.sub h1 s, h2.mono fun _ _ q => q.sub s⟩
structure AllSums (w : World) (g : Heap) (l : Addr) (Ls : List (List PRow)) : Prop where
  lst : ∃ vs : List Value, g.IsList l vs.toArray ∧ All2 (SumsAt w g) vs Ls
theorem AllSums.sub {w : World} {g g' : Heap} {l : Addr} {Ls : List (List PRow)} (x : AllSums w g l Ls) (s : Sub g g') : AllSums w g' l Ls := by
  obtain ⟨vs, h1, h2⟩ := x.lst; exact ⟨vs, IsList.sub h1 s, h2.mono fun _ _ q => q.sub s⟩
/-- the first rows of each list that the count picks -/
noncomputable def pick (pls : List (List Int)) (Ls : List (List PRow)) (c : Nat) : List PRow := (pls.zip Ls).flatMap fun q => q.2.take (q.1.countP fun z => decide (z < (c : Int)))
/-- three lists of places and of rows that belong together -/
structure Fit (pls : List (List Int)) (Ls : List (List PRow)) : Prop where
  n1 : pls.length = 3
  n2 : Ls.length = 3
  len : ∀ (i : Nat) (p : List Int) (l : List PRow), pls[i]? = some p → Ls[i]? = some l → p.length = l.length
  few : ∀ l ∈ Ls, l.length ≤ 50
  srt : ∀ p ∈ pls, p.Pairwise (· ≤ ·)
theorem pick_len (c : Nat) : ∀ zs : List (List Int × List PRow), (∀ q ∈ zs, q.2.length ≤ 50) → (zs.flatMap fun q => q.2.take (q.1.countP fun z => decide (z < (c : Int)))).length ≤ 50 * zs.length
  | [], _ => by simp
  | q :: zs, h => by
    have ih := pick_len c zs fun q hq => h q (.tail _ hq)
    have h1 := h q (.head _)
    rw [List.flatMap_cons, List.length_append, List.length_cons, List.length_take]
    omega
section
variable {w : World} {mg mb : Str → Option Value} {A : Around} {E : Value → Shared → Prop} {s : Shared} {g : Heap}
theorem bind90c {l : Addr} {x : Value} {ks : Shared} (X : (KK w).In ks.heap) : ∀ o fd, (KK w).lookup 90 = some o → o.data = .func fd → BindsTo ks fd ⟨[.ref l, x], []⟩ [("a", .ref l), ("x", x), ("lo", .int 0 298), ("hi", .none), ("key", .none)] := by
  intro o fd h1 h2
  have h3 : (KK w).lookup 90 = some _ := rfl
  rw [h3] at h1
  cases h1
  cases h2
  exact kp_binds X fun _ => rfl
theorem ints_get {its : List Value} {ns : List Int} (h : IntsAre its ns) (i : Nat) (v : Value) (hv : its[i]? = some v) : ∃ n t, ns[i]? = some n ∧ v = .int n t := by
  induction h generalizing i with
  | nil => simp at hv
  | cons n t _ ih =>
    cases i with
    | zero => simp at hv; subst hv; exact ⟨n, t, rfl, rfl⟩
    | succ i => simpa using ih i (by simpa using hv)
/-- bisect_left among sorted ints, as a count -/
theorem bisL_ints {n : Nat} {l : Addr} {its : List Value} {ne : Nat} {ns : List Int} {x : Int} {tx : Tok} {Q : Value → Shared → Prop} (R : Room A (n + 1)) (W : Wd w mg mb g) (S : Sub g s.heap) (M : Wm s.heap g)
    (hl : g.get? l = some (listOf its.toArray ne)) (hi : IntsAre its ns) (hs : ns.Pairwise (· ≤ ·)) (hz : ns.length ≤ 1000)
    (h : ∀ t h' tk g', Step X0 s.heap g h' g' → Q (.int (ns.countP fun z => decide (z < x)) t) { s with heap := h', toks := tk }) :
    wpAny (model pr w) A (call (.ref 90) [.ref l, .int x tx]) Q E s := by
  have lX : l ∉ X0 := fun q => by rw [M.off l q] at hl; cases hl
  have hlen := hi.length
  refine bisL0_spec (n := n) (kf := fun j => ns.getD j 0) R W S M ⟨_, S _ _ hl, rfl, _, rfl⟩ lX (by omega) ?_ ?_ (bind90c (W.sub S).kin) ?_
  · intro j v hj
    obtain ⟨n, t, h1, h2⟩ := ints_get hi j v hj
    exact ⟨t, by rw [h2]; simp [h1]⟩
  · intro j1 j2 h12 h2
    rw [hlen] at h2
    rcases Nat.lt_or_ge j1 j2 with c | c
    · have := List.pairwise_iff_getElem.mp hs j1 j2 (by omega) h2 c
      rw [List.getD_eq_getElem?_getD, List.getD_eq_getElem?_getD, List.getElem?_eq_getElem h2, List.getElem?_eq_getElem (by omega : j1 < ns.length)]
      exact this
    · obtain rfl : j1 = j2 := by omega
      exact Int.le_refl _
  · intro r t h' tk g' st hr hlo hhi
    rw [hlen] at hr hhi
    have e : (ns.countP fun z => decide (z < x)) = r := countP_at hr (fun j q hj e => by
      have := hlo j hj
      rw [List.getD_eq_getElem?_getD, e] at this
      simpa using this) (fun j q hj e => by
      have := hhi j hj (List.getElem?_eq_some_iff.mp e).1
      rw [List.getD_eq_getElem?_getD, e] at this
      simpa using Int.not_lt.mpr this)
    have := h t h' tk g' st
    rw [e] at this
    exact this

theorem told_spec {n : Nat} {pl sl : Addr} {pls : List (List Int)} {Ls : List (List PRow)} {c : Nat} {tc : Tok} {Q : Value → Shared → Prop} (R : Room A (n + 5)) (W : Wd w mg mb g) (S : Sub g s.heap) (M : Wm s.heap g)
    (hP : PlacesAt g pl pls) (hS : AllSums w g sl Ls) (hF : Fit pls Ls)
    (h : ∀ v h' tk g', Step X0 s.heap g h' g' → ProfAt w g' v ((pick pls Ls c).map (·.2)) → Q v { s with heap := h', toks := tk }) :
    wpAny (model pr w) A (call (.ref 142) [.ref pl, .ref sl, .int c tc]) Q E s := by
  refine enter (n := n + 4) (X := X0) (binds := [("places", .ref pl), ("sums", .ref sl), ("count", .int c tc)]) R W S M M.at (fun _ h => h) (W.kin 142 _ rfl) rfl rfl (codeRec_of W.kin rfl) (BindsTo.of_eq rfl) (by decide) (locs rfl) rfl rfl rfl rfl rfl ?_
  intro env A' L h₁ tk E' e RA F
  dsimp only at e F ⊢
  with_reducible refine wpAny_execs_cons ?_
  with_reducible refine wpAny_Assign_Name ?_ ?hs
  case hs => rfl
  refine zero_prof (mg := mg) (mb := mb) F W ?_
  intro v0 h2 tk2 g2 F2 sg2 hv0
  refine stL e F2 fun h3 F3 => ?_
  dsimp only
  refine wpAny_execs_cons (wpAny_For (wpAny_Call_NameR (ldB e (W.sub sg2) F3.sub rfl boot_range (by decide) (PyProof.Rows.callWith_type1 (spliced_more (wpAny_Constant_int (spliced_none (call_range_1 ?_))))))) (by intro _; rfl))
  dsimp only
  have F4 := F3.push { cls := .type "range", data := .fields #[.int 0 (tk2 + 1 + 1), .int 3 (tk2 + 1), .int 1 (tk2 + 1 + 1 + 1)] }
  refine for_range (n := 3) (g := g2) RA.hh F4 (Heap.get?_push_size _ rfl) (by decide) (fun i g' m' _ => m' "places" = some (.ref pl) ∧ m' "sums" = some (.ref sl) ∧ m' "count" = some (.int c tc) ∧ ∃ v, m' "whole" = some v ∧ ProfAt w g' v ((((pls.zip Ls).take i).flatMap fun q => q.2.take (q.1.countP fun z => decide (z < (c : Int)))).map (·.2))) ⟨rfl, rfl, rfl, v0, rfl, hv0⟩ ?_ ?_
  · intro i t h5 g5 m5 mu5 tk5 ci E5 hi sg F5 I5
    refine abs2 fun T hT => ?_
    obtain ⟨q1, q2, q3, v, q4, hv⟩ := I5
    obtain ⟨pvs, pl1, pl2⟩ := (hP.sub (sg2.trans sg)).lst
    obtain ⟨svs, sl1, sl2⟩ := (hS.sub (sg2.trans sg)).lst
    have W5 := W.sub (sg2.trans sg)
    have e1 : pls[i]? = some (pls[i]'(by rw [hF.n1]; exact hi)) := List.getElem?_eq_getElem _
    have e2 : Ls[i]? = some (Ls[i]'(by rw [hF.n2]; exact hi)) := List.getElem?_eq_getElem _
    generalize hp : pls[i]'(by rw [hF.n1]; exact hi) = p at e1
    generalize hl : Ls[i]'(by rw [hF.n2]; exact hi) = l at e2
    obtain ⟨pv, pv1, la, its, ne, rfl, pv2, pv3⟩ := pl2.get' e1
    obtain ⟨sv, sv1, svS⟩ := sl2.get' e2
    obtain ⟨D, ys, ne', rfl, sv2, sv3, sv4⟩ := svS.lst
    have hlen := hF.len i p l e1 e2
    have hfew := hF.few l (List.mem_of_getElem? e2)
    refine wpAny_assign_Name (stL e F5 fun h6 F6 => ?_)
    dsimp only
    refine wpAny_execs_cons (wpAny_Assign_Name (wpAny_Call_NameR (ldG e W5 F6.sub rfl (callWith_F ⟨_, _, _, _, F6.sub _ _ (W5.kin 49 _ rfl)⟩ ?_))))
    refine spliced_more (ldL e F6 q4 (spliced_more (Subscript_ (Subscript_ (ldL e F6 q2 (ldL e F6 rfl ?_))))))
    refine subList F6.sub sl1 (by (exact Int.natCast_nonneg i)) (by rw [Int.toNat_natCast]; exact sv1) (by rw [sl2.length, hF.n2]; decide) ?_
    refine wpAny_Call_NameR (ldG e W5 F6.sub rfl (callWith_F ⟨_, _, _, _, F6.sub _ _ (W5.kin 90 _ rfl)⟩ ?_))
    refine spliced_more (Subscript_ (ldL e F6 q1 (ldL e F6 rfl ?_)))
    refine subList F6.sub pl1 (by (exact Int.natCast_nonneg i)) (by rw [Int.toNat_natCast]; exact pv1) (by rw [pl2.length, hF.n1]; decide) ?_
    refine spliced_more (ldL e F6 q3 (spliced_none ⟨⟨_, _, _, _, F6.sub _ _ (W5.kin 90 _ rfl)⟩, ?_⟩))
    refine bisL_ints (n := n + 3) RA W5 F6.sub F6.st.wm pv2 pv3 (hF.srt p (List.mem_of_getElem? e1)) (by omega) fun t7 h7 tk7 g7 st7 => ?_
    have F7 := F6.call st7
    have hr : (p.countP fun z => decide (z < (c : Int))) ≤ l.length := by rw [← hlen]; exact List.countP_le_length
    generalize hrr : (p.countP fun z => decide (z < (c : Int))) = r at hr ⊢
    have hy : r < ys.length := by omega
    refine subList (g := g7) F7.sub ⟨_, st7.sub _ _ sv2, rfl, _, rfl⟩ (by (exact Int.natCast_nonneg r)) (x := ys[r]) (by rw [Int.toNat_natCast, List.getElem?_eq_getElem hy]) (by omega) ?_ ?_
    rotate_left
    · with_unfolding_all rfl
    have W7 := W5.sub st7.sub
    refine spliced_none ⟨⟨_, _, _, _, F7.sub _ _ (W7.kin 49 _ rfl)⟩, ?_⟩
    have hxs : ((((pls.zip Ls).take i).flatMap fun q => q.2.take (q.1.countP fun z => decide (z < (c : Int)))).map (·.2)).length ≤ 150 := by
      rw [List.length_map]
      refine Nat.le_trans (pick_len c _ fun q hq => ?_) (by rw [List.length_take]; omega)
      exact hF.few _ (List.of_mem_zip (List.mem_of_mem_take hq)).2
    refine add_stats_spec (n := n + 2) RA W7 F7.sub F7.st.wm (hv.sub st7.sub) ((sv4 r _ (List.getElem?_eq_getElem hy)).sub st7.sub) (by rw [List.length_map] at hxs; rw [List.length_map, List.length_map, List.length_take]; omega) fun a8 h8 tk8 g8 st8 pr8 => ?_
    have F8 := F7.call st8
    refine stL e F8 fun h9 F9 => ?_
    refine wpAny_execs_nil ?_
    refine hT _ _ ⟨h9, g8, _, mu5, _, rfl, st7.sub.trans st8.sub, F9, q1, q2, q3, _, rfl, ?_⟩
    have hzip : (pls.zip Ls)[i]? = some (p, l) := by rw [List.getElem?_zip_eq_some]; exact ⟨e1, e2⟩
    rw [List.take_add_one, hzip, Option.toList_some, List.flatMap_append, List.map_append]
    simp only [List.flatMap_cons, List.flatMap_nil, List.append_nil, hrr]
    exact pr8
  · rintro h5 g5 m5 mu5 tk5 sg F5 ⟨q1, q2, q3, v, q4, hv⟩
    dsimp only
    rw [List.take_of_length_le (by rw [List.length_zip, hF.n1, hF.n2]; decide)] at hv
    refine wpAny_execs_cons (wpAny_Return_some (ldL e F5 q4 ?_))
    exact h v _ _ g5 F5.st hv
end
end Mine

end
section
set_option autoImplicit false
set_option maxHeartbeats 1000000
namespace Mine
section
variable {w : World} {mg mb : Str → Option Value} {A : Around} {E : Value → Shared → Prop} {s : Shared} {g : Heap}
theorem CS.more {cs : Cs} {xs : List Int} (h : CS cs xs) (x : Int) : CS (putC cs (nm x) ((cs.lookup (nm x)).getD 0 + x)) (xs ++ [x]) :=
  ((Mix.start [(nm x, x)] h.nd).next (i := 0) (by simp) rfl).done h (CS.one x)
theorem plain_spec {n : Nat} {l : Addr} {ps : List PRow} {Q : Value → Shared → Prop} (R : Room A (n + 1)) (W : Wd w mg mb g) (S : Sub g s.heap) (M : Wm s.heap g)
    (hl : g.IsList l (ps.map (·.1)).toArray) (hp : RowsAt w g ps) (hz : ps.length ≤ 100)
    (h : ∀ v h' tk g', Step X0 s.heap g h' g' → ProfAt w g' v (ps.map (·.2)) → Q v { s with heap := h', toks := tk }) :
    wpAny (model pr w) A (call (.ref 147) [.ref l]) Q E s := by
  refine enter (n := n) (X := X0) (binds := [("rows", .ref l)]) R W S M M.at (fun _ h => h) (W.kin 147 _ rfl) rfl rfl (codeRec_of W.kin rfl) (BindsTo.of_eq rfl) (by decide) (locs rfl) rfl rfl rfl rfl rfl ?_
  intro env A' L h₁ tk E' e RA F
  dsimp only at e F ⊢
  with_reducible refine wpAny_execs_cons ?_
  with_reducible refine wpAny_Assign_Name ?_ ?hs
  case hs => rfl
  refine wpAny_Dict_empty ?_
  have F1 := F.made { cls := .type "dict", data := .dict #[] }
  have hlow := low_new (mg := mg) (mb := mb) W F.sub
  have hD := F.fresh
  obtain ⟨o1, eo1, io1⟩ := isDict_of (Heap.DictOf.new (knd := sk w) h₁)
  rw [(F1.own _ (.head _)).1] at eo1
  cases eo1
  dsimp only
  generalize h₁.push { cls := .type "dict", data := .dict #[] } = H at F1 ⊢
  generalize h₁.objs.size = D at F1 hD hlow ⊢
  refine stL e F1 fun h2 F2 => ?_
  dsimp only
  refine wpAny_execs_cons (wpAny_For (ldL e F2 rfl ?_) (by intro _; rfl))
  refine for_list (g := g) RA.hh F2 hl (fun i _ m' mu' => m' "rows" = some (.ref l) ∧ m' "callers" = some (.ref D) ∧ ∃ o kvs cs, mu' = [(D, o)] ∧ o.IsDictOf (sk w) kvs ∧ KV kvs cs ∧ CS cs ((ps.take i).map (·.2))) ⟨rfl, rfl, _, _, _, rfl, io1, .nil, CS.nil⟩ ?_ ?_ ?_
  · intro I i v s' Q' E'' hv hit hq
    exact wpAny_pure hq
  · intro i v h3 g3 m3 mu3 tk3 c E3 hv sg F3 I3
    refine abs2 fun T hT => ?_
    obtain ⟨q0, q1, o3, kvs3, cs3, rfl, io3, kv3, csx⟩ := I3
    rw [List.getElem?_map] at hv
    obtain ⟨p, hpi, rfl⟩ := Option.map_eq_some_iff.mp hv
    have hrow := (hp p (List.mem_of_getElem? hpi)).sub sg
    have hi := (List.getElem?_eq_some_iff.mp hpi).1
    have hnext : ps.take (i + 1) = ps.take i ++ [p] := by rw [List.take_add_one, hpi]; rfl
    obtain ⟨a, t0, t1, t2, en, hpv, ta, hen⟩ := hrow.tup
    obtain ⟨u0, u1, u2, u3, d, td, hlowd, tv, hd⟩ := hen.tup
    refine wpAny_assign_Name (stL e F3 fun h4 F4 => ?_)
    dsimp only
    rw [hpv] at F4
    have dk4 := DictOf.sub hd F4.sub
    refine wpAny_execs_cons (wpAny_For (MethodCall_ (Subscript_ (Subscript_ (ldL e F4 rfl (wpAny_Constant_int ?_)))) (by rfl)) (by intro _; rfl))
    refine subTup (S := F4.sub) ta (by decide) rfl rfl (by simp) (wpAny_Constant_int (subTup (S := F4.sub) td (by decide) rfl rfl (by simp) ?_))
    dsimp only
    refine getMethod_builtin dk4.typeIs PySem.F.plainAttrs_dict PySem.F.slot_dict_items PySem.F.type_dict_items dk4.mapOf.noDict ?_
    refine callWith_method0 ?_
    refine call_meetsIn PySem.F.slot_dict_items dk4.typeIs PySem.F.entry_dict_items (PySem.F.args_dict_items_1 _) (meets_dict_items (sk w) d hlowd) ⟨⟨_, dk4⟩, ?_⟩
    have F5 := F4.push { cls := .type "dict_items", data := .fields #[.ref d] }
    refine for_items (g := g3) RA.hh F5 ⟨_, Heap.get?_push_size _ rfl, rfl, rfl⟩ hd rfl rfl (fun j _ m' mu' => m' "rows" = some (.ref l) ∧ m' "callers" = some (.ref D) ∧ ∃ o kvs cs, mu' = [c, (D, o)] ∧ o.IsDictOf (sk w) kvs ∧ KV kvs cs ∧ CS cs ((ps.take i).map (·.2) ++ (if j = 0 then [] else [p.2]))) ⟨q0, q1, _, _, _, rfl, io3, kv3, by simpa using csx⟩ ?_ ?_
    · intro j k v t h6 g6 m6 mu6 tk6 c6 E6 hv sg6 F6 I6
      refine abs2 fun U hU => ?_
      obtain ⟨q0, q1, o6, kvs6, cs6, rfl, io6, kv6, csx6⟩ := I6
      obtain rfl : j = 0 := by
        have := (List.getElem?_eq_some_iff.mp hv).1
        simpa using this
      simp at hv
      obtain ⟨rfl, rfl⟩ := hv
      refine wpAny_assignInOrder_more (wpAny_assign_Name (stL e F6 fun h7 F7 => ?_))
      refine wpAny_assignInOrder_more (wpAny_assign_Name (stL e F7 fun h8 F8 => ?_))
      refine wpAny_assignInOrder_none ?_
      dsimp only
      have F8 : Loc X0 s.heap g L h8 g6 _ ((D, o6) :: [c6, c]) := F8.perm (List.perm_append_comm (l₁ := [(D, o6)]) (l₂ := [c6, c]))
      have dk8 := of_isDict (F8.own _ (.head _)).1 io6
      refine wpAny_execs_cons (wpAny_Assign_Subscript (wpAny_BinOp (MethodCall_ (ldL e F8 q1 (getMethod_builtin dk8.typeIs PySem.F.plainAttrs_dict PySem.F.slot_dict_get PySem.F.type_dict_get dk8.mapOf.noDict ?_)) (by rfl))))
      dsimp only
      refine wpAny_dict_get2 (knd := sk w) hlow ?_
      refine ldL e F8 rfl ?_
      rw [if_neg Bool.false_ne_true]
      with_reducible refine wpAny_Constant_int ?_
      refine ⟨nm p.2, _, (by show Value.isStrOf _ (.str _ t) = true; simp [Value.isStrOf]), dk8.mapOf, ?_⟩
      have hget : ∀ u, ∃ u', (valueAt kvs6 (nm p.2)).getD (.int 0 u) = .int ((cs6.lookup (nm p.2)).getD 0) u' := by
        intro u
        rcases kv6.look (nm p.2) with ⟨a, b⟩ | ⟨n, u2, a, b⟩
        · exact ⟨u, by rw [a, b]; rfl⟩
        · exact ⟨u2, by rw [a, b]; rfl⟩
      obtain ⟨u', hu'⟩ := hget _
      rw [hu']
      refine ldL e F8 rfl (PyProof.Rows.add_int ?_)
      dsimp only
      refine ldL e F8 q1 (ldL e F8 rfl ?_)
      refine putD F8 io6 kv6 (by have := csx6.len; rw [List.length_append, List.length_map, List.length_take] at this; simp at this; omega) fun h9 o9 kvs9 F9 io9 kv9 => ?_
      have F9 : Loc X0 s.heap g L h9 g6 _ (c6 :: [c, (D, o9)]) := F9.perm (List.perm_append_comm (l₁ := [c6, c]) (l₂ := [(D, o9)]))
      refine wpAny_execs_nil ?_
      refine hU _ _ ⟨h9, g6, _, _, _, rfl, Sub.refl _, F9, q0, q1, o9, kvs9, _, rfl, io9, kv9, ?_⟩
      simp at csx6 ⊢
      exact csx6.more p.2
    · rintro h6 g6 m6 mu6 tk6 sg6 F6 ⟨q0, q1, o6, kvs6, cs6, rfl, io6, kv6, csx6⟩
      refine wpAny_execs_nil ?_
      refine hT _ _ ⟨h6, g6, _, _, _, rfl, sg6, F6, q0, q1, o6, kvs6, cs6, rfl, io6, kv6, ?_⟩
      rw [hnext, List.map_append]
      simpa using csx6
  · rintro h3 g3 m3 mu3 tk3 sg F3 ⟨q0, q1, o3, kvs3, cs3, rfl, io3, kv3, csx⟩
    dsimp only
    rw [List.length_map, List.take_length] at csx
    obtain ⟨g4, F4, s4, e4⟩ := F3.freeze hD
    have hC : CallersAt w g4 D (ps.map (·.2)) := ⟨hlow, kvs3, cs3, of_isDict e4 io3, kv3, csx⟩
    have sg4 := sg.trans s4
    have W4 := W.sub sg4
    have hp4 : ∀ {g' : Heap}, Sub g4 g' → RowsAt w g' ps := fun q p hp' => (hp p hp').sub (sg4.trans q)
    clear F3 io3 e4 F2 F1 F
    refine wpAny_execs_cons (wpAny_Assign_Name (wpAny_Call_NameR (ldB e W4 F4.sub rfl boot_sum (by decide) (PyProof.Rows.callWith_builtin1 (spliced_more (evComp (closed e rfl) rfl (by decide) (by intro _; rfl) ?_))))))
    refine ldL e F4 q0 ?_
    refine comp_list e rfl (by decide) RA.hh (IsList.sub hl sg4) (by rw [List.length_map]; omega) F4 (fun j _ ys => IntsAre ys (((ps.take j).map (·.2)).map fun x => x.fmod 5)) .nil ?_ ?_ ?_
    · intro I j v s' Q' E'' _ _ hq
      exact wpAny_pure hq
    · intro s' j v h9 g9 ys mC tk9 C D9 c oL cenv E9 hs' hv sg9 jj eC G
      refine abs2 fun T hT => ?_
      obtain ⟨h92, rfl⟩ := hs'
      rw [List.getElem?_map] at hv
      obtain ⟨p, hpi, rfl⟩ := Option.map_eq_some_iff.mp hv
      have hrow := hp4 sg9 p (List.mem_of_getElem? hpi)
      obtain ⟨a, t0, t1, t2, en, hpv, ta, hen⟩ := hrow.tup
      obtain ⟨u0, u1, u2, u3, d, td, hlowd, tv, hd⟩ := hen.tup
      refine wpAny_assign_Name (stL eC G fun h10 G10 => ?_)
      rw [hpv] at G10
      refine wpAny_tests_nil (hT _ _ ⟨h10, g9, _, _, rfl, Sub.refl _, G10, ?_⟩)
      clear hT T
      rw [if_pos rfl]
      refine abs1 fun T hT => ?_
      refine Subscript_ (Subscript_ (ldL eC G10 rfl (wpAny_Constant_int ?_)))
      refine subTup (S := G10.sub) ta (by decide) rfl rfl (by simp) (wpAny_Constant_int (subTup (S := G10.sub) td (by decide) rfl rfl (by simp) ?_))
      refine hT _ _ ⟨h10, g9, _, _, rfl, Sub.refl _, G10, ?_⟩
      rw [List.take_add_one, hpi]
      simp only [Option.toList_some, List.map_append, List.map_cons, List.map_nil]
      exact IntsAre.snoc jj
    intro C D9 h9 g9 ys mC tk9 oL sg9 jj G hn hD9
    refine comp_fin G hn F4.hi hD9 fun h10 g10 s10 F10 e10 => ?_
    refine spliced_none (sumI RA.hh F10 (IsList.sub ⟨_, e10, rfl, _, rfl⟩ F10.sub) jj fun h11 tk11 t11 F11 => ?_)
    refine stL e F11 fun h12 F12 => ?_
    dsimp only
    have sA : Sub g4 g10 := sg9.trans s10
    clear F4 F10 F11 G jj e10
    have WA := W4.sub sA
    refine wpAny_execs_cons (wpAny_Assign_Name (wpAny_Call_NameR (ldB e WA F12.sub rfl boot_sum (by decide) (PyProof.Rows.callWith_builtin1 (spliced_more (evComp (closed e rfl) rfl (by decide) (by intro _; rfl) ?_))))))
    refine ldL e F12 q0 ?_
    refine comp_list e rfl (by decide) RA.hh (IsList.sub hl (sg4.trans sA)) (by rw [List.length_map]; omega) F12 (fun j _ ys => IntsAre ys ((ps.take j).map (·.2))) .nil ?_ ?_ ?_
    · intro I j v s' Q' E'' _ _ hq
      exact wpAny_pure hq
    · intro s' j v h9 g9 ys mC tk9 C D9 c oL cenv E9 hs' hv sg9 jj eC G
      refine abs2 fun T hT => ?_
      obtain ⟨h92, rfl⟩ := hs'
      rw [List.getElem?_map] at hv
      obtain ⟨p, hpi, rfl⟩ := Option.map_eq_some_iff.mp hv
      have hrow := hp4 (sA.trans sg9) p (List.mem_of_getElem? hpi)
      obtain ⟨a, t0, t1, t2, en, hpv, ta, hen⟩ := hrow.tup
      obtain ⟨u0, u1, u2, u3, d, td, hlowd, tv, hd⟩ := hen.tup
      refine wpAny_assign_Name (stL eC G fun h10 G10 => ?_)
      rw [hpv] at G10
      refine wpAny_tests_nil (hT _ _ ⟨h10, g9, _, _, rfl, Sub.refl _, G10, ?_⟩)
      clear hT T
      rw [if_pos rfl]
      refine abs1 fun T hT => ?_
      refine Subscript_ (Subscript_ (ldL eC G10 rfl (wpAny_Constant_int ?_)))
      refine subTup (S := G10.sub) ta (by decide) rfl rfl (by simp) (wpAny_Constant_int (subTup (S := G10.sub) td (by decide) rfl rfl (by simp) ?_))
      refine hT _ _ ⟨h10, g9, _, _, rfl, Sub.refl _, G10, ?_⟩
      rw [List.take_add_one, hpi]
      simp only [Option.toList_some, List.map_append, List.map_cons, List.map_nil]
      exact IntsAre.snoc jj
    intro C9 D9' h9' g9' ys' mC' tk9' oL' sg9' jj' G' hn' hD9'
    refine comp_fin G' hn' F12.hi hD9' fun h10' g10' s10' F10' e10' => ?_
    refine spliced_none (sumI RA.hh F10' (IsList.sub ⟨_, e10', rfl, _, rfl⟩ F10'.sub) jj' fun h11' tk11' t11' F11' => ?_)
    refine stL e F11' fun h13 F13 => ?_
    dsimp only
    have sB : Sub g10 g10' := sg9'.trans s10'
    clear F12 F10' F11' G' jj' e10'
    have WB := WA.sub sB
    rw [List.length_map, List.take_length] at F13
    refine wpAny_execs_cons (wpAny_Return_some (wpAny_Tuple ?_))
    refine spliced_more (wpAny_Call_NameR (ldB e WB F13.sub rfl boot_len (by decide) (PyProof.Rows.callWith_builtin1 (spliced_more (ldL e F13 q0 (spliced_none (PyProof.Rows.len_list (IsList.sub hl ((sg4.trans (sA.trans sB)).trans F13.sub)) (by simp; omega) ?_)))))))
    refine spliced_more (ldL e F13 rfl (spliced_more (ldL e F13 rfl (spliced_more (wpAny_UnaryOp (ldL e F13 rfl (neg_int ?_)))))))
    refine spliced_more (ldL e F13 q1 (spliced_none ⟨by show 5 ≤ sizeLine; decide, ?_⟩))
    dsimp only
    obtain ⟨g14, G14, s14, e14⟩ := F13.alloc { cls := .type "tuple", data := .seq (List.toArray [_, _, _, _, _]) }
    refine h _ _ _ g14 G14.st (profMk e14 ?_ ?_ ?_ ?_ (hC.sub ((sA.trans sB).trans s14)))
    · simp
    · rfl
    · rfl
    · rfl
end
end Mine

end
section
set_option autoImplicit false
set_option maxHeartbeats 1000000
namespace Mine
theorem fm3 (y : Int) : y.fmod 3 = 0 ∨ y.fmod 3 = 1 ∨ y.fmod 3 = 2 := by
  have h1 : 0 ≤ y.fmod 3 := Int.fmod_nonneg_of_pos y (by decide)
  have h2 : y.fmod 3 < 3 := Int.fmod_lt_of_pos y (by decide)
  omega
theorem pick3 {i : Int} (hi : i = 0 ∨ i = 1 ∨ i = 2) (f g h : Str) (a b c : Tok) : ∃ t, ([.str f a, .str g b, .str h c] : List Value)[i.toNat]? = some (.str (if i = 0 then f else if i = 1 then g else h) t) := by
  rcases hi with rfl | rfl | rfl
  · exact ⟨a, rfl⟩
  · exact ⟨b, rfl⟩
  · exact ⟨c, rfl⟩
section
variable {w : World} {mg mb : Str → Option Value} {A : Around} {E : Value → Shared → Prop} {s : Shared} {g : Heap}
theorem row_spec {n : Nat} {x : Int} {tx0 : Tok} {Q : Value → Shared → Prop} (R : Room A (n + 1)) (W : Wd w mg mb g) (S : Sub g s.heap) (M : Wm s.heap g)
    (h : ∀ v h' tk g', Step X0 s.heap g h' g' → RowAt w g' v x → Q v { s with heap := h', toks := tk }) :
    wpAny (model pr w) A (call (.ref 97) [.int x tx0]) Q E s := by
  refine enter (n := n) (X := X0) (binds := [("x", .int x tx0)]) R W S M M.at (fun _ h => h) (W.kin 97 _ rfl) rfl rfl (codeRec_of W.kin rfl) (BindsTo.of_eq rfl) (by decide) (locs rfl) rfl rfl rfl rfl rfl ?_
  intro env A' L h₁ tk E' e RA F
  dsimp only at e F ⊢
  with_reducible refine wpAny_execs_cons ?_
  with_reducible refine wpAny_Assign_Name ?_ ?hs
  case hs => rfl
  with_reducible refine wpAny_Tuple ?_
  refine spliced_more (wpAny_Constant_int ?_)
  refine spliced_more (wpAny_BinOp (ldL e F rfl (wpAny_Constant_int (mod_int' (by decide) ?_))))
  refine spliced_more (ldL e F rfl ?_)
  refine spliced_more (wpAny_UnaryOp (ldL e F rfl (PyProof.Rows.neg_int ?_)))
  dsimp only
  refine spliced_more (wpAny_Dict_walk (knd := sk w) (by rfl) (by rfl) (by simp) (by simp) ?_)
  have F1 := F.made { cls := .type "dict", data := .dict #[] }
  have hlow := low_new (mg := mg) (mb := mb) W F.sub
  have hD := F.fresh
  have hdk := Heap.DictOf.new (knd := sk w) h₁
  dsimp only
  generalize h₁.push { cls := .type "dict", data := .dict #[] } = H at F1 hdk ⊢
  generalize h₁.objs.size = D at F1 hD hlow hdk ⊢
  obtain ⟨o1, eo1, io1⟩ := isDict_of hdk
  refine pairTrees_cons_walk (Subscript_ (wpAny_List (spliced_more (wpAny_Constant_str (spliced_more (wpAny_Constant_str (spliced_more (wpAny_Constant_str (spliced_none ⟨by show 3 ≤ sizeLine; decide, ?_⟩)))))))))
  dsimp only
  obtain ⟨g2, F2, s2, e2⟩ := F1.alloc { cls := .type "list", data := .seq (List.toArray [_, _, _]) }
  refine wpAny_BinOp (wpAny_BinOp (ldL e F2 rfl (wpAny_Constant_int (floordiv_int (by decide) ?_ (Or.inl (PyProof.noPylong_of_log2 (by decide +kernel)))))))
  refine wpAny_Constant_int (mod_int' (by decide) ?_)
  dsimp only
  have hidx := fm3 (x.fdiv 2)
  obtain ⟨t3, ht3⟩ := pick3 hidx "f" "g" "h" _ _ _
  refine subList F2.sub ⟨_, e2, rfl, _, rfl⟩ (by omega) ht3 (by show 3 < 2 ^ 62; decide) ?_ ?_
  rotate_left
  · with_unfolding_all rfl
  refine ldL e F2 rfl (pairTrees_nil_walk ⟨[(nm x, .int x tx0)], ⟨(by show Value.isStrOf _ (.str _ t3) = true; simp [Value.isStrOf, nm]), rfl, trivial⟩, ?_, ?_⟩)
  · have := F1.own _ (.head _)
    dsimp only at this
    rw [this.1] at eo1
    cases eo1
    exact of_isDict (F2.own _ (.head _)).1 io1
  intro h3 dk3 sb3
  obtain ⟨o3, eo3, io3⟩ := isDict_of dk3
  have F3 := F2.write (sbExt sb3) eo3
  obtain ⟨g4, F4, s4, e4⟩ := F3.freeze hD
  refine spliced_none ⟨by show 5 ≤ sizeLine; decide, ?_⟩
  dsimp only
  obtain ⟨g5, F5, s5, e5⟩ := F4.alloc { cls := .type "tuple", data := .seq (List.toArray [_, _, _, _, _]) }
  refine stL e F5 fun h6 F6 => ?_
  dsimp only
  have hE : EntryAt w g5 h3.objs.size x := ⟨_, _, _, _, D, ⟨_, e5, rfl, _, rfl⟩, hlow, tx0, of_isDict (s5 _ _ e4) io3⟩
  clear F F1 F2 F3 F4 F5 e5 e2
  refine wpAny_execs_cons (wpAny_Return_some (wpAny_Tuple ?_))
  refine spliced_more (wpAny_BinOp (wpAny_BinOp (ldL e F6 rfl (wpAny_Constant_int (floordiv_int (by decide) ?_ (Or.inl (PyProof.noPylong_of_log2 (by decide +kernel))))))))
  refine wpAny_Constant_int (mod_int' (by decide) ?_)
  dsimp only
  refine spliced_more (Subscript_ (wpAny_List (spliced_more (wpAny_Constant_str (spliced_more (wpAny_Constant_str (spliced_more (wpAny_Constant_str (spliced_none ⟨by show 3 ≤ sizeLine; decide, ?_⟩)))))))))
  dsimp only
  obtain ⟨g7, F7, s7, e7⟩ := F6.alloc { cls := .type "list", data := .seq (List.toArray [_, _, _]) }
  refine wpAny_BinOp (wpAny_BinOp (ldL e F7 rfl (wpAny_Constant_int (floordiv_int (by decide) ?_ (Or.inl (PyProof.noPylong_of_log2 (by decide +kernel)))))))
  refine wpAny_Constant_int (mod_int' (by decide) ?_)
  dsimp only
  obtain ⟨t8, ht8⟩ := pick3 (fm3 (x.fdiv 9)) "" "a" "ab" _ _ _
  have hi8 := fm3 (x.fdiv 9)
  refine subList F7.sub ⟨_, e7, rfl, _, rfl⟩ (by omega) ht8 (by show 3 < 2 ^ 62; decide) ?_ ?_
  rotate_left
  · with_unfolding_all rfl
  refine spliced_more (wpAny_BinOp (ldL e F7 rfl (wpAny_Constant_int (floordiv_int (by decide) ?_ (Or.inl (PyProof.noPylong_of_log2 (by decide +kernel)))))))
  refine spliced_more (ldL e F7 rfl (spliced_none ⟨by show 4 ≤ sizeLine; decide, ?_⟩))
  dsimp only
  obtain ⟨g8, F8, s8, e8⟩ := F7.alloc { cls := .type "tuple", data := .seq (List.toArray [_, _, _, _]) }
  refine h _ _ _ g8 F8.st ⟨_, _, _, _, _, rfl, ⟨_, e8, rfl, _, rfl⟩, hE.sub (s7.trans s8)⟩
end
end Mine

end
section
set_option autoImplicit false
set_option maxHeartbeats 1000000
namespace Mine
noncomputable def keyR (r : Int) : Int × Int := (r.fmod 3, 1 - (r.fdiv 3).fmod 2 * 2)
noncomputable def restR (r : Int) : Nat → Int
  | 0 => r
  | k + 1 => (restR r k).fdiv 6
noncomputable def keysR (r : Int) : Nat → Keys
  | 0 => []
  | k + 1 => keysR r k ++ [keyR (restR r k)]
/-- the keys that the number told chooses -/
noncomputable def keysOf (told : Int) : Keys := keysR (told.fdiv 3) (1 + told.fmod 3).toNat
theorem keyR_ok (r : Int) : 0 ≤ (keyR r).1 ∧ (keyR r).1 < 3 ∧ ((keyR r).2 = 1 ∨ (keyR r).2 = -1) := by
  have := fm3 r
  have h1 : 0 ≤ (r.fdiv 3).fmod 2 := Int.fmod_nonneg_of_pos _ (by decide)
  have h2 : (r.fdiv 3).fmod 2 < 2 := Int.fmod_lt_of_pos _ (by decide)
  unfold keyR
  dsimp only
  omega
theorem keysR_ok (r : Int) : ∀ k, KeysOk (keysR r k)
  | 0 => by intro p hp; cases hp
  | k + 1 => by
    intro p hp
    rcases List.mem_append.mp hp with q | q
    · exact keysR_ok r k p q
    · rw [List.mem_singleton.mp q]; exact keyR_ok _
theorem keysR_len (r : Int) : ∀ k, (keysR r k).length = k
  | 0 => rfl
  | k + 1 => by rw [keysR, List.length_append, keysR_len r k]; rfl
theorem keysOf_ok (t : Int) : KeysOk (keysOf t) := keysR_ok _ _
theorem keysOf_len (t : Int) : (keysOf t).length ≤ 3 := by
  rw [keysOf, keysR_len]
  have := fm3 t
  omega
section
variable {w : World} {mg mb : Str → Option Value} {A : Around} {E : Value → Shared → Prop} {s : Shared} {g : Heap}
theorem keys_spec {n : Nat} {told : Int} {t0 : Tok} {Q : Value → Shared → Prop} (R : Room A (n + 1)) (W : Wd w mg mb g) (S : Sub g s.heap) (M : Wm s.heap g)
    (h : ∀ v h' tk g', Step X0 s.heap g h' g' → KeysAt g' v (keysOf told) → Q v { s with heap := h', toks := tk }) :
    wpAny (model pr w) A (call (.ref 104) [.int told t0]) Q E s := by
  refine enter (n := n) (X := X0) (binds := [("told", .int told t0)]) R W S M M.at (fun _ h => h) (W.kin 104 _ rfl) rfl rfl (codeRec_of W.kin rfl) (BindsTo.of_eq rfl) (by decide) (locs rfl) rfl rfl rfl rfl rfl ?_
  intro env A' L h₁ tk E' e RA F
  dsimp only at e F ⊢
  with_reducible refine wpAny_execs_cons ?_
  with_reducible refine wpAny_Assign_Name ?_ ?hs
  case hs => rfl
  with_reducible refine wpAny_List ?_
  refine spliced_none ⟨by show 0 ≤ sizeLine; decide, ?_⟩
  have F1 := F.made (listOf (List.toArray []) 0)
  have hD := F.fresh
  dsimp only
  generalize h₁.push (listOf (List.toArray []) 0) = H at F1 ⊢
  generalize h₁.objs.size = D at F1 hD ⊢
  refine stL e F1 fun h2 F2 => ?_
  dsimp only
  refine wpAny_execs_cons (wpAny_Assign_Name (wpAny_BinOp (ldL e F2 rfl (wpAny_Constant_int (floordiv_int (by decide) ?_ (Or.inl (PyProof.noPylong_of_log2 (by decide +kernel))))))))
  refine stL e F2 fun h3 F3 => ?_
  dsimp only
  refine wpAny_execs_cons (wpAny_For (wpAny_Call_NameR (ldB e W F3.sub rfl boot_range (by decide) (PyProof.Rows.callWith_type1 (spliced_more (wpAny_BinOp (wpAny_Constant_int (wpAny_BinOp (ldL e F3 rfl (wpAny_Constant_int (mod_int' (by decide) (PyProof.Rows.add_int (spliced_none (call_range_1 ?_))))))))))))) (by intro _; rfl))
  dsimp only
  have hN : (1 + told.fmod 3) = (((1 + told.fmod 3).toNat : Nat) : Int) := by have := fm3 told; omega
  have hN3 : (1 + told.fmod 3).toNat ≤ 3 := by have := fm3 told; omega
  rw [hN]
  generalize hNe : (1 + told.fmod 3).toNat = N at hN3 ⊢
  refine for_range (n := N) (g := g) RA.hh (F3.push _) (Heap.get?_push_size _ rfl) (by omega) (fun i g' m' mu' => m' "keys" = some (.ref D) ∧ (∃ t, m' "rest" = some (.int (restR (told.fdiv 3) i) t)) ∧ ∃ vs ne, mu' = [(D, listOf vs.toArray ne)] ∧ All2 (KeyAt g') vs (keysR (told.fdiv 3) i)) ⟨rfl, ⟨_, rfl⟩, [], 0, rfl, .nil⟩ ?_ ?_
  · intro i t h5 g5 m5 mu5 tk5 c E5 hi sg F5 I5
    refine abs2 fun T hT => ?_
    obtain ⟨q1, ⟨tr, q2⟩, vs, ne, rfl, hall⟩ := I5
    refine wpAny_assign_Name (stL e F5 fun h6 F6 => ?_)
    dsimp only
    have eD := (F6.swap.own _ (.head _)).1
    dsimp only at eD
    refine wpAny_execs_cons (wpAny_Expr_any (MethodCall_ (ldL e F6 q1 (listMeth eD PySem.F.slot_list_append PySem.F.type_list_append ?_)) (by rfl)) e.quiet)
    dsimp only
    refine callWith_method1 (spliced_more (wpAny_Tuple (spliced_more (wpAny_BinOp (ldL e F6 q2 (wpAny_Constant_int (mod_int' (by decide) ?_)))))))
    dsimp only
    refine spliced_more (wpAny_BinOp (wpAny_Constant_int (wpAny_BinOp (wpAny_BinOp (wpAny_BinOp (ldL e F6 q2 (wpAny_Constant_int (floordiv_int (by decide) ?_ (Or.inl (PyProof.noPylong_of_log2 (by decide +kernel)))))))))))
    dsimp only
    refine wpAny_Constant_int (mod_int' (by decide) (wpAny_Constant_int (PyProof.Rows.mul_int (PyProof.Rows.sub_int (spliced_none ⟨by show 2 ≤ sizeLine; decide, ?_⟩)) ?_)))
    rotate_left
    · exact .of_right (by decide)
    dsimp only
    obtain ⟨g7, F7, s7, e7⟩ := F6.alloc { cls := .type "tuple", data := .seq (List.toArray [_, _]) }
    have eD7 := (F7.swap.own _ (.head _)).1
    dsimp only at eD7
    refine spliced_none (append_at eD7 (fun h8 hs8 e8 => ?_) (by rw [List.size_toArray, sizeLine_eq, hall.length, keysR_len]; omega))
    rw [List.push_toArray] at e8
    have F8 := (F7.swap.write (sbExt hs8) e8).swap
    dsimp only
    refine wpAny_execs_cons (wpAny_Assign_Name (wpAny_BinOp (ldL e F8 q2 (wpAny_Constant_int (floordiv_int (by decide) ?_ (Or.inl (PyProof.noPylong_of_log2 (by decide +kernel))))))))
    refine stL e F8 fun h9 F9 => ?_
    refine wpAny_execs_nil (hT _ _ ⟨h9, g7, _, _, _, rfl, s7, F9, q1, ⟨_, rfl⟩, _, ne + 1, rfl, ?_⟩)
    exact (hall.mono fun _ _ q => q.sub s7).append (.cons ⟨_, _, _, rfl, ⟨_, e7, rfl, _, rfl⟩⟩ .nil)
  · rintro h5 g5 m5 mu5 tk5 sg F5 ⟨q1, _, vs, ne, rfl, hall⟩
    dsimp only
    obtain ⟨g6, F6, s6, e6⟩ := F5.freeze hD
    refine wpAny_execs_cons (wpAny_Return_some (ldL e F6 q1 ?_))
    refine h _ _ _ g6 F6.st ⟨⟨D, vs, rfl, ⟨_, e6, rfl, _, rfl⟩, ?_⟩, keysOf_ok told, keysOf_len told⟩
    unfold keysOf
    rw [hNe]
    exact hall.mono fun _ _ q => q.sub s6
end
end Mine

end
section
set_option autoImplicit false
set_option maxHeartbeats 1000000
namespace Mine
theorem tx_len (x : Int) : ((tx (c1 x)).length : Int) = c1 x := by
  have h := fm3 (x.fdiv 9)
  unfold c1
  rcases h with h | h | h <;> rw [h] <;> rfl
theorem col3 {x k : Int} (h0 : 0 ≤ k) (h3 : k < 3) (a b c : Tok) : ∃ t, ([.int (c0 x) a, .int (c1 x) b, .int (c2 x) c] : List Value)[k.toNat]? = some (.int (col k x) t) := by
  have : k = 0 ∨ k = 1 ∨ k = 2 := by omega
  rcases this with q | q | q <;> subst q
  · exact ⟨a, rfl⟩
  · exact ⟨b, rfl⟩
  · exact ⟨c, rfl⟩
section
variable {w : World} {mg mb : Str → Option Value} {A : Around} {E : Value → Shared → Prop} {s : Shared} {g : Heap}
theorem weight_spec {n : Nat} {v kv : Value} {x : Int} {ks : Keys} {Q : Value → Shared → Prop} (R : Room A (n + 1)) (W : Wd w mg mb g) (S : Sub g s.heap) (M : Wm s.heap g)
    (hr : RowAt w g v x) (hK : KeysAt g kv ks)
    (h : ∀ v h' tk g', Step X0 s.heap g h' g' → IntsAt g' v (wt ks x) → Q v { s with heap := h', toks := tk }) :
    wpAny (model pr w) A (call (.ref 109) [v, kv]) Q E s := by
  refine enterC (n := n) (binds := [("row", v), ("keys", kv)]) R W S M (W.kin 109 _ rfl) rfl rfl (codeRec_of W.kin rfl) rfl rfl rfl (by decide) rfl rfl rfl rfl rfl ?_
  intro env A' L h₁ mu tk E' he e RA C dead F
  dsimp only at e F C he ⊢
  clear he
  obtain ⟨a, t0, t1, t2, en, rfl, ta, hen⟩ := hr.tup
  obtain ⟨lk, vs, rfl, hlk, hks⟩ := hK.lst
  cases C with
  | cons d1 C =>
    cases C
    rename_i oc
    have hcell := dead _ (.head _)
    dsimp only at hcell
    with_reducible refine wpAny_execs_cons ?_
    with_reducible refine wpAny_Assign_Name ?_ ?hs
    case hs => rfl
    with_reducible refine wpAny_List ?_
    refine spliced_more (Subscript_ (ldL e F rfl (wpAny_Constant_int (subTup (S := F.sub) ta (by decide) rfl rfl (by simp) ?_))))
    refine spliced_more (wpAny_Call_NameR (ldB e W F.sub rfl boot_len (by decide) (PyProof.Rows.callWith_builtin1 (spliced_more (Subscript_ (ldL e F rfl (wpAny_Constant_int (subTup (S := F.sub) ta (by decide) rfl rfl (by simp) (spliced_none (PyProof.Rows.len_str ?_ ?_))))))))))
    · rw [tx_len]
      have := fm3 (x.fdiv 9)
      unfold c1
      omega
    rw [tx_len]
    refine spliced_more (Subscript_ (ldL e F rfl (wpAny_Constant_int (subTup (S := F.sub) ta (by decide) rfl rfl (by simp) ?_))))
    refine spliced_none ⟨by show 3 ≤ sizeLine; decide, ?_⟩
    dsimp only
    obtain ⟨g2, F2, s2, e2⟩ := F.alloc { cls := .type "list", data := .seq (List.toArray [_, _, _]) }
    refine stC e F2 d1 fun h3 oc3 F3 hoc3 => ?_
    dsimp only
    clear F F2
    refine wpAny_execs_cons (wpAny_Return_some (evComp (closed e rfl) rfl (by decide) (by intro _; rfl) ?_))
    refine ldL e F3 rfl ?_
    refine comp_list e rfl (by decide) RA.hh (IsList.sub hlk s2) (by rw [hks.length]; have := hK.few; omega) F3 (fun j _ ys => IntsAre ys (wt (ks.take j) x)) .nil ?_ ?_ ?_
    · intro I i v s' Q' E'' hv hit hq
      obtain ⟨j, hj, e1⟩ := List.getElem_of_mem hv
      obtain ⟨k, _, ak, t, u, rfl, _⟩ := hks.get (i := j) (a := v) (by rw [← e1]; simp [hj])
      exact wpAny_letOwnedTupleGo_listiter hit hq
    · intro s' j v h9 g9 ys mC tk9 C D9 c oL cenv E9 hs' hv sg9 jj eC G
      refine abs2 fun T hT => ?_
      obtain ⟨h92, rfl⟩ := hs'
      obtain ⟨k, hk, ak, t, u, rfl, htk⟩ := hks.get hv
      have hok := hK.ok k (List.mem_of_getElem? hk)
      refine asgTup RA.hh G (IsTuple.sub htk (s2.trans sg9)) rfl rfl fun h3 F3 => ?_
      refine wpAny_assignInOrder_more (wpAny_assign_Name (stL eC F3 fun h4 F4 => ?_))
      refine wpAny_assignInOrder_more (wpAny_assign_Name (stL eC F4 fun h5 F5 => ?_))
      refine wpAny_assignInOrder_none ?_
      dsimp only
      refine wpAny_tests_nil (hT _ _ ⟨h5, g9, _, _, rfl, Sub.refl _, F5, ?_⟩)
      clear hT T
      rw [if_pos rfl]
      refine abs1 fun T hT => ?_
      refine wpAny_BinOp (ldL eC F5 rfl (Subscript_ (ldM eC F5 (.tail _ (.tail _ (.tail _ (.head _)))) hoc3 (ldL eC F5 rfl ?_))))
      obtain ⟨tc, hcol⟩ := col3 (x := x) hok.1 hok.2.1 _ _ _
      refine subList F5.sub ⟨_, sg9 _ _ e2, rfl, _, rfl⟩ hok.1 hcol (by show 3 < 2 ^ 62; decide) ?_ ?_
      rotate_left
      · with_unfolding_all rfl
      refine PyProof.Rows.mul_int ?_ (.of_left (by rcases hok.2.2 with q | q <;> rw [q] <;> decide))
      refine hT _ _ ⟨h5, g9, _, _, rfl, Sub.refl _, F5, ?_⟩
      rw [List.take_add_one, hk]
      unfold wt
      rw [List.map_append]
      exact IntsAre.snoc jj
    intro C D9 h9 g9 ys mC tk9 oL sg9 jj G hn hD9
    refine comp_fin G hn F3.hi hD9 fun h10 g10 s10 F10 e10 => ?_
    rw [hks.length, List.take_length] at jj
    exact h _ _ _ g10 F10.st ⟨_, _, _, rfl, e10, jj⟩
end
end Mine

end
section
set_option autoImplicit false
set_option maxHeartbeats 1000000
namespace Mine
section
variable {w : World} {mg mb : Str → Option Value} {A : Around} {E : Value → Shared → Prop} {s : Shared} {g : Heap}
theorem order_spec {n : Nat} {kv : Value} {ks : Keys} {Q : Value → Shared → Prop} (R : Room A (n + 2)) (W : Wd w mg mb g) (S : Sub g s.heap) (M : Wm s.heap g) (hK : KeysAt g kv ks)
    (h : ∀ v h' tk g', Step X0 s.heap g h' g' → OrderAt g' v ks → Q v { s with heap := h', toks := tk }) :
    wpAny (model pr w) A (call (.ref 38) [kv]) Q E s := by
  obtain ⟨hp, gens, drawn, toks, os⟩ := s
  dsimp only at S M h
  have X := (W.sub S).kin
  refine wpAny_call (make_core (init := .ref 28) (makes_of X rfl) (looks_findIn X rfl) (fun self => bind_fn X self rfl) (.inl rfl) ?_)
  have k0 : Sub hp ((hp.push emptyDict).push (instObj 38 hp.objs.size)) := fun b o e => Heap.get?_push_of_some _ (Heap.get?_push_of_some _ e)
  have hx : ((hp.push emptyDict).push (instObj 38 hp.objs.size)).get? (hp.objs.size + 1) = some (instObj 38 hp.objs.size) := by heap_get
  have hdx : ((hp.push emptyDict).push (instObj 38 hp.objs.size)).get? hp.objs.size = some emptyDict := by heap_get
  have f1 : hp.get? (hp.objs.size + 1) = none := by
    cases q : hp.get? (hp.objs.size + 1) with
    | none => rfl
    | some o => exact absurd (Heap.lt_size q) (Nat.not_lt.mpr (Nat.le_succ _))
  have f0 : hp.get? hp.objs.size = none := fresh_size _
  have hne : hp.objs.size + 1 ≠ hp.objs.size := Nat.succ_ne_self _
  generalize (hp.push emptyDict).push (instObj 38 hp.objs.size) = H at k0 hx hdx ⊢
  generalize hp.objs.size + 1 = x at hx f1 hne ⊢
  generalize hp.objs.size = dx at hx hdx f0 hne ⊢
  have S2 := S.trans k0
  have W2 := W.sub S2
  refine codeAny_call_def (o := _) (binds := [("self", .ref x), ("comp_select_list", kv)]) (by rw [depth_under_make]; have := R.hd; omega) (S2 _ _ (W.kin 28 _ rfl)) rfl (NoLimit.sub W.nolimit S2) (CodeRec.sub (codeRec_of W.kin rfl) S2) rfl (BindsTo.of_eq rfl) (by decide) (locs rfl) (fun h₁ hn k => ?_) rfl rfl rfl
  dsimp only at hn k ⊢
  have fL : H.get? H.objs.size = none := fresh_size _
  have gx : g.get? x = none := S.alive _ f1
  have gd : g.get? dx = none := S.alive _ f0
  have xL : x ≠ H.objs.size := ne_of_some hx fL
  have dL : dx ≠ H.objs.size := ne_of_some hdx fL
  have x0 : ∀ a, hp.get? a = none → a ∉ X0 := fun a ha q => by obtain ⟨o, eo⟩ := M.at a q; rw [ha] at eo; cases eo
  have F : Loc X0 hp g H.objs.size h₁ g (fun x_1 => ([("self", .ref x), ("comp_select_list", kv)] : List (Str × Value)).reverse.lookup x_1) [(x, instObj 38 dx), (dx, emptyDict)] := by
    refine ⟨Step.ext S M (k0.trans k), hn, S2.alive _ fL, k0.alive _ fL, fun p hp => ?_, by simp [hne], fun _ h => h, M.at⟩
    rcases List.mem_cons.mp hp with rfl | hp
    · exact ⟨k _ _ hx, gx, xL, x0 _ f1, .inr f1⟩
    · rw [List.mem_singleton.mp hp]
      exact ⟨k _ _ hdx, gd, dL, x0 _ f0, .inr f0⟩
  refine wpAny_execs_cons (plainObj_wpAny_Assign_Attribute (ldL ⟨rfl, rfl, rfl, rfl, rfl, rfl⟩ F rfl (ldL ⟨rfl, rfl, rfl, rfl, rfl, rfl⟩ F rfl ?_)))
  have F0 : Fr (cut H fun b => b != dx) H.objs.size h₁ (fun x_1 => ([("self", .ref x), ("comp_select_list", kv)] : List (Str × Value)).reverse.lookup x_1) := by
    refine ⟨hn, fun b o q => ?_, ?_⟩
    · rw [get?_cut] at q
      split at q
      · exact k _ _ q
      · cases q
    · show (H.objs.mapIdx _).size ≤ _
      rw [Array.size_mapIdx]
      exact Nat.le_refl _
  have N0 : News (cut H fun b => b != dx) H.objs.size h₁ [(dx, dictOf [] 0)] := by
    intro p hp
    rw [List.mem_singleton.mp hp]
    exact ⟨k _ _ hdx, dL, by rw [get?_cut]; simp⟩
  have K0 : (KK w).In (cut H fun b => b != dx) := by
    intro b o q
    have hb := W.kin b o q
    rw [get?_cut, if_pos (by
      have : b ≠ dx := ne_of_some hb gd
      simpa using this)]
    exact S2 _ _ hb
  refine set_dict (C := 38) (ox := instObj 38 dx) F0 K0 N0 ⟨k _ _ hx, rfl, rfl, k _ _ hdx⟩ rfl rfl rfl rfl rfl rfl rfl (.head (by intro p hp; cases hp)) (by show 1 ≤ 1000; decide) fun h2 F2 N2 => ?_
  refine wpAny_execs_nil ?_
  have e2 := (N2 _ (.head _)).1
  dsimp only at e2
  have hes : ∃ (es : List DictEntry) (n : Nat), h2.get? dx = some (dictOf es n) ∧ getL "comp_select_list" es = some (some kv) ∧ getL "compare" es = some none := ⟨_, _, e2, rfl, rfl⟩
  clear e2
  obtain ⟨es, ne, e2, l1, l2⟩ := hes
  have k2 : ∀ b o, b ≠ dx → H.get? b = some o → h2.get? b = some o := fun b o hb q => F2.keep b o (by rw [get?_cut, if_pos (by simpa using hb)]; exact q)
  have s2 : Sub hp h2 := fun b o q => k2 b o (ne_of_some q f0) (k0 _ _ q)
  refine ⟨rfl, ?_⟩
  have G : Loc X0 hp g H.objs.size h2 g (fun x_1 => ([("self", .ref x), ("comp_select_list", kv)] : List (Str × Value)).reverse.lookup x_1) [(x, instObj 38 dx), (dx, dictOf es ne)] := by
    refine ⟨Step.ext S M s2, F2.ns, S2.alive _ fL, k0.alive _ fL, fun p hp => ?_, by simp [hne], fun _ h => h, M.at⟩
    rcases List.mem_cons.mp hp with rfl | hp
    · exact ⟨k2 _ _ hne hx, gx, xL, x0 _ f1, .inr f1⟩
    · rw [List.mem_singleton.mp hp]
      exact ⟨e2, gd, dL, x0 _ f0, .inr f0⟩
  obtain ⟨g3, G3, s3, e3⟩ := G.freeze f1
  obtain ⟨g4, G4, s4, e4⟩ := G3.freeze f0
  refine h _ _ _ g4 G4.st ⟨x, dx, _, _, kv, rfl, s4 _ _ e3, e4, l1, l2, hK.sub (s3.trans s4)⟩
end
end Mine

end
section
set_option autoImplicit false
set_option maxHeartbeats 1000000
namespace Mine
open PySem.AutoSeq1 (wpAny_loadPart')
open PySem.MeetsSeq
open PySem.MeetsSeq3 (plain_eq_loop entry_eq_loop)
theorem lt_loop (l b : Addr) (items items2 : Array Value) (n n2 : Nat) (ns ms : List Int) (hn : IntsAre items.toList ns) (hm : IntsAre items2.toList ms) (hsz : items.size = items2.size) (k : Nat) :
    ∀ i : Nat, items.size - i = k → Meets (Builtin.«list.__eq__.loop» ⟨[.ref l, .ref b, rawInt i, rawInt 0], []⟩)
      (fun _ R s => s.heap.get? l = some (listOf items n) ∧ s.heap.get? b = some (listOf items2 n2) ∧
        R (.ok (.ret (.bool (decide (lexc (ns.drop i) (ms.drop i) < 0))))) s) := by
  have l1 : items.size = ns.length := by rw [← hn.length]; simp
  have l2 : items2.size = ms.length := by rw [← hm.length]; simp
  induction k with
  | zero =>
    intro i hk prog w A R s h
    obtain ⟨hp, g, d, tk, os⟩ := s; obtain ⟨hl, hb, h⟩ := h
    wp_walk using wpAny_loadPart' hl, wpAny_loadPart' hb
    have hi1 : items[((i : Nat) : Int).toNat]? = none := by simp; omega
    have hi2 : items2[((i : Nat) : Int).toNat]? = none := by simp; omega
    rw [hi1, hi2]
    wp_walk using wpAny_loadPart' hl, wpAny_loadPart' hb
    show R (.ok (.ret (.bool (decide (items.size < items2.size))))) _
    rw [List.drop_eq_nil_of_le (by omega)] at h
    unfold lexc at h
    simpa [hsz] using h
  | succ k ih =>
    intro i hk prog w A R s h
    obtain ⟨hp, g, d, tk, os⟩ := s; obtain ⟨hl, hb, h⟩ := h
    wp_walk using wpAny_loadPart' hl, wpAny_loadPart' hb
    have hlt : i < items.size := by omega
    have hlt2 : i < items2.size := by omega
    obtain ⟨a, t, ea, va⟩ := ints_get hn i items[i] (by simp [hlt])
    obtain ⟨c, u, ec, vc⟩ := ints_get hm i items2[i] (by simp [hlt2])
    have hi1 : items[((i : Nat) : Int).toNat]? = some (.int a t) := by rw [← va]; simp [hlt]
    have hi2 : items2[((i : Nat) : Int).toNat]? = some (.int c u) := by rw [← vc]; simp [hlt2]
    have hc : ((i : Int) + 1) = ((i + 1 : Nat) : Int) := by push_cast; rfl
    have d1 : ns.drop i = a :: ns.drop (i + 1) := by
      obtain ⟨q, e⟩ := List.getElem?_eq_some_iff.mp ea
      rw [List.drop_eq_getElem_cons q, e]
    have d2 : ms.drop i = c :: ms.drop (i + 1) := by
      obtain ⟨q, e⟩ := List.getElem?_eq_some_iff.mp ec
      rw [List.drop_eq_getElem_cons q, e]
    rw [d1, d2] at h
    unfold lexc at h
    rw [hi1, hi2]
    refine wpAny_bind (EqGives.int a c t u prog w _ _ _ _ ?_)
    by_cases hac : a = c
    · subst hac
      simp only [Int.lt_irrefl, if_false] at h
      rw [show (a == a) = true from by simp]
      wp_walk
      rw [hc]
      exact ⟨plainId_quiet plain_eq_loop _, codeAny_builtin entry_eq_loop (by
        rw [Around.under_plainId plain_eq_loop _]
        exact ih (i + 1) (by omega) prog w A R _ ⟨hl, hb, h⟩)⟩
    · rw [show (a == c) = false from by simpa using hac]
      wp_walk using wpAny_loadPart' hl, wpAny_loadPart' hb
      rw [hi1, hi2]
      dsimp only
      refine wpAny_bind (show wpAny (model prog w) A.in1 (compareOp .Lt (.int a t) (.int c u)) _ _ _ from PyProof.Rows.lt_int (wpAny_pure ?_))
      dsimp only
      have e : decide (a < c) = decide ((if a < c then (-1 : Int) else if c < a then 1 else lexc (ns.drop (i + 1)) (ms.drop (i + 1))) < 0) := by
        by_cases q : a < c
        · rw [if_pos q]; simp [q]
        · rw [if_neg q, if_pos (by omega)]; simp [q]
      rw [e]
      exact h
theorem list_lt (l b : Addr) (items items2 : Array Value) (n n2 : Nat) (ns ms : List Int) (hn : IntsAre items.toList ns) (hm : IntsAre items2.toList ms) (hsz : items.size = items2.size) :
    Meets (Builtin.«list.__lt__» ⟨[.ref l, .ref b], []⟩)
      (fun _ R s => s.heap.get? l = some (listOf items n) ∧ s.heap.get? b = some (listOf items2 n2) ∧ R (.ok (.ret (.bool (decide (lexc ns ms < 0))))) s) := by
  intro prog w A R s h
  obtain ⟨hp, g, d, tk, os⟩ := s; obtain ⟨hl, hb, h⟩ := h
  have f3 := AutoSeq1.sub_list_list
  wp_walk using wpAny_loadPart' hl, wpAny_loadPart' hb
  exact ⟨plainId_quiet plain_eq_loop _, codeAny_builtin entry_eq_loop (by
    rw [Around.under_plainId plain_eq_loop _]
    exact lt_loop l b items items2 n n2 ns ms hn hm hsz _ 0 rfl prog w A R _ ⟨hl, hb, h⟩)⟩
section
variable {w : World} {A : Around} {E : Value → Shared → Prop} {s : Shared}
theorem keyLt_ints {l b : Addr} {its its2 : List Value} {n n2 : Nat} {ns ms : List Int} {Q : Bool → Shared → Prop} (hu : A.units < cLine) (hl : s.heap.get? l = some (listOf its.toArray n)) (hb : s.heap.get? b = some (listOf its2.toArray n2))
    (hn : IntsAre its ns) (hm : IntsAre its2 ms) (hsz : ns.length = ms.length) (h : Q (decide (lexc ns ms < 0)) s) : wpAny (model pr w) A (keyLt' oneType' (.ref l) (.ref b)) Q E s := by
  rw [keyLt'_oneType, oneLt'_eq]
  simp only [if_true]
  refine wpAny_bind (wpAny_cRoomFor hu ?_)
  refine wpAny_bind (wpAny_callSpecialIfBound?_slot (T := "list") ⟨_, hl, rfl⟩ PySem.F.slot_list_lt ?_)
  refine call_meets PySem.F.slot_list_lt ⟨_, hl, rfl⟩ PySem.F.entry_list_lt (PySem.F.args_list_lt_2 _ _) (list_lt l b _ _ n n2 ns ms (by simpa using hn) (by simpa using hm) (by rw [List.size_toArray, List.size_toArray, hn.length, hm.length, hsz])) ⟨hl, hb, ?_⟩
  exact wpAny_truthy_bool h
end
end Mine

end
section
set_option autoImplicit false
set_option maxHeartbeats 1000000
namespace Mine
/-! ## The model's sort is stable: the decision tree with an order's answers -/
noncomputable def Sp {α : Type} (n : Nat) (ltb : Nat → Nat → Bool) : KasT α → (α → Prop) → Prop
  | .ret a, P => P a
  | .ask i j k, P => i < n ∧ j < n ∧ Sp n ltb (k (ltb i j)) P
theorem Sp.bind {α β : Type} {n : Nat} {ltb : Nat → Nat → Bool} {f : α → KasT β} {P : β → Prop} : ∀ {t : KasT α}, Sp n ltb t (fun a => Sp n ltb (f a) P) → Sp n ltb (t.bind f) P
  | .ret _, h => h
  | .ask _ _ k, ⟨a, b, h⟩ => ⟨a, b, Sp.bind (t := k _) h⟩
theorem Sp.mono {α : Type} {n : Nat} {ltb : Nat → Nat → Bool} {P P' : α → Prop} (hp : ∀ a, P a → P' a) : ∀ {t : KasT α}, Sp n ltb t P → Sp n ltb t P'
  | .ret _, h => hp _ h
  | .ask _ _ k, ⟨a, b, h⟩ => ⟨a, b, Sp.mono hp (t := k _) h⟩
theorem Sp.wp {α : Type} {n : Nat} {ltb : Nat → Nat → Bool} {cmp : Nat → Nat → (Bool → Shared → Prop) → Shared → Prop} {I : Shared → Prop} {P : α → Prop} {Q : α → Shared → Prop}
    (hc : ∀ i j C s, i < n → j < n → I s → (∀ s', I s' → C (ltb i j) s') → cmp i j C s) (hq : ∀ a s, P a → I s → Q a s) : ∀ {t : KasT α} {s : Shared}, Sp n ltb t P → I s → t.kasWp cmp Q s
  | .ret _, _, h, hi => hq _ _ h hi
  | .ask i j k, s, ⟨a, b, h⟩, hi => hc i j _ s a b hi fun _ hs => Sp.wp hc hq (t := k _) h hs
theorem n_lt {n f N : Nat} (h : n + (f + 1) = N) : n < N := h ▸ Nat.lt_add_of_pos_right (Nat.succ_pos f)
theorem n_nx {n f N : Nat} (h : n + (f + 1) = N) : n + 1 + f = N := (Nat.succ_add_eq_add_succ n f).trans h
structure SW (ltb : Nat → Nat → Bool) : Prop where
  asym : ∀ i j, ltb i j = true → ltb j i = false
  tr : ∀ i j k, ltb j i = false → ltb k j = false → ltb k i = false
section
variable {ltb : Nat → Nat → Bool}
noncomputable def bf (ltb : Nat → Nat → Bool) (i j : Nat) : Prop := ltb i j = true ∨ (ltb j i = false ∧ i < j)
theorem SW.irr (S : SW ltb) (i : Nat) : ltb i i = false := by
  cases h : ltb i i with
  | false => rfl
  | true => rw [S.asym i i h] at h; cases h
theorem bf.nl (S : SW ltb) {i j : Nat} (h : bf ltb i j) : ltb j i = false := h.elim (S.asym _ _) (·.1)
theorem SW.lt_nl (S : SW ltb) {i j k : Nat} (h1 : ltb i j = true) (h2 : ltb k j = false) : ltb i k = true := by
  cases h : ltb i k with
  | true => rfl
  | false =>
    have := S.tr j k i h2 h
    rw [this] at h1; cases h1
theorem SW.nl_lt (S : SW ltb) {i j k : Nat} (h1 : ltb j i = false) (h2 : ltb j k = true) : ltb i k = true := by
  cases h : ltb i k with
  | true => rfl
  | false =>
    have := S.tr k i j h h1
    rw [this] at h2; cases h2
theorem bf.trans (S : SW ltb) {i j k : Nat} (h1 : bf ltb i j) (h2 : bf ltb j k) : bf ltb i k := by
  rcases h1 with h1 | ⟨h1, l1⟩
  · exact .inl (S.lt_nl h1 (h2.nl S))
  · rcases h2 with h2 | ⟨h2, l2⟩
    · exact .inl (S.nl_lt h1 h2)
    · exact .inr ⟨S.tr _ _ _ h1 h2, Nat.lt_trans l1 l2⟩
end
theorem mir (a b t : Nat) : a + (a + b) - 1 - (a + t) = a + b - 1 - t := by
  rw [Nat.sub_sub, Nat.add_left_comm 1, Nat.add_sub_add_left, Nat.sub_sub]
theorem rev_list {p : Array Nat} {A B C : List Nat} {i j : Nat} (h : p.toList = A ++ B ++ C) (hi : A.length = i) (hj : A.length + B.length = j) : (kas_rev p i j).toList = A ++ B.reverse ++ C := by
  subst hi hj
  have hsz : A.length + B.length ≤ p.size := by
    rw [← Array.length_toList, h, List.length_append, List.length_append]
    exact Nat.le_add_right _ _
  have hp : ∀ q, p[q]? = (A ++ (B ++ C))[q]? := fun q => by rw [← List.append_assoc, ← h, Array.getElem?_toList]
  apply List.ext_getElem?
  intro k
  unfold kas_rev
  rw [Array.getElem?_toList, getElem?_mirror_all hsz k, hp, hp, List.append_assoc]
  rcases Nat.lt_or_ge k A.length with c | c
  · rw [if_neg (fun z => Nat.not_lt_of_le z.1 c), List.getElem?_append_left c, List.getElem?_append_left c]
  · obtain ⟨t, rfl⟩ := Nat.exists_eq_add_of_le c
    rw [List.getElem?_append_right (l₁ := A) (l₂ := B.reverse ++ C) c, List.getElem?_append_right (l₁ := A) (l₂ := B ++ C) (i := A.length + t) c, Nat.add_sub_cancel_left]
    rcases Nat.lt_or_ge t B.length with d | d
    · rw [if_pos ⟨c, Nat.add_lt_add_left d _⟩, mir, Nat.add_sub_assoc (Nat.le_trans (Nat.succ_le_succ (Nat.zero_le t)) d), Nat.add_sub_assoc (Nat.le_sub_one_of_lt d), List.getElem?_append_right (Nat.le_add_right _ _), Nat.add_sub_cancel_left,
        List.getElem?_append_left (Nat.lt_of_le_of_lt (Nat.sub_le _ _) (Nat.sub_one_lt_of_lt d)), List.getElem?_append_left (by rw [List.length_reverse]; exact d), List.getElem?_reverse d]
    · rw [if_neg (fun z => Nat.not_lt_of_le d (Nat.lt_of_add_lt_add_left z.2)), List.getElem?_append_right d, List.getElem?_append_right (by rw [List.length_reverse]; exact d), List.length_reverse]
theorem bub_list {p : Array Nat} {A B C : List Nat} {x k l : Nat} (h : p.toList = A ++ B ++ x :: C) (hl : A.length = l) (hk : A.length + B.length = k) : (bubble p k (k - l)).toList = A ++ x :: B ++ C := by
  subst hl hk
  have hsz : A.length + B.length < p.size := by
    rw [← Array.length_toList, h, List.length_append, List.length_append, List.length_cons]
    exact Nat.lt_add_of_pos_right (Nat.succ_pos _)
  have hp : ∀ q, p[q]? = (A ++ (B ++ x :: C))[q]? := fun q => by rw [← List.append_assoc, ← h, Array.getElem?_toList]
  apply List.ext_getElem?
  intro q
  rw [Nat.add_sub_cancel_left, Array.getElem?_toList, getElem?_bubble hsz _ (Nat.le_add_left _ _), Nat.add_sub_cancel, hp, hp, hp, List.append_assoc]
  rcases Nat.lt_trichotomy q A.length with c | c | c
  · rw [if_neg (Nat.ne_of_lt c), if_neg (fun z => Nat.lt_asymm c z.1), List.getElem?_append_left c, List.getElem?_append_left c]
  · subst c
    rw [if_pos rfl, List.getElem?_append_right (Nat.le_add_right _ _), List.getElem?_append_right (Nat.le_refl _), Nat.add_sub_cancel_left, Nat.sub_self, List.getElem?_append_right (Nat.le_refl _), Nat.sub_self]
    rfl
  · obtain ⟨j, rfl⟩ := Nat.exists_eq_add_of_lt c
    rw [if_neg (Nat.ne_of_gt c), Nat.add_sub_cancel, List.getElem?_append_right (Nat.le_add_right _ _), List.getElem?_append_right (Nat.le_of_lt c), List.getElem?_append_right (Nat.le_of_lt c), Nat.add_assoc, Nat.add_sub_cancel_left, Nat.add_sub_cancel_left]
    show _ = (B ++ C)[j]?
    rcases Nat.lt_or_ge j B.length with d | d
    · rw [if_pos ⟨c, Nat.add_le_add_left d _⟩, List.getElem?_append_left d, List.getElem?_append_left d]
    · rw [if_neg (fun z => Nat.not_lt_of_le d (Nat.lt_of_succ_le (Nat.le_of_add_le_add_left z.2))), List.getElem?_append_right d, List.getElem?_append_right (Nat.le_succ_of_le d), Nat.succ_sub d]
      rfl

structure StS (N n : Nat) (p : Array Nat) (B : List Nat) : Prop where
  eq : p.toList = B ++ List.range' n (N - n)
  pm : B.Perm (List.range n)
  le : n ≤ N
section
variable {ltb : Nat → Nat → Bool} {N n : Nat} {p : Array Nat} {B : List Nat}
theorem StS.len (s : StS N n p B) : B.length = n := by rw [s.pm.length_eq, List.length_range]
theorem StS.low (s : StS N n p B) {b : Nat} (h : b ∈ B) : b < n := by simpa using s.pm.mem_iff.mp h
theorem StS.getD (s : StS N n p B) (k : Nat) : p.getD k 0 = (B ++ List.range' n (N - n)).getD k 0 := by
  rw [← s.eq, Array.getD_eq_getD_getElem?, List.getD_eq_getElem?_getD, Array.getElem?_toList]
theorem StS.here (s : StS N n p B) (h : n < N) : p.getD n 0 = n := by
  rw [s.getD, List.getD_eq_getElem?_getD, List.getElem?_append_right (by rw [s.len]; exact Nat.le_refl _), s.len]
  obtain ⟨k, hk⟩ : ∃ k, N - n = k + 1 := ⟨N - n - 1, (Nat.sub_add_cancel (Nat.sub_pos_of_lt h)).symm⟩
  rw [hk, List.range'_succ, Nat.sub_self]
  rfl
theorem StS.old (s : StS N n p B) {k : Nat} (h : k < n) : ∃ b, B[k]? = some b ∧ b ∈ B ∧ p.getD k 0 = b := by
  have hk : k < B.length := by rw [s.len]; exact h
  refine ⟨B[k], List.getElem?_eq_getElem hk, List.getElem_mem hk, ?_⟩
  rw [s.getD, List.getD_eq_getElem?_getD, List.getElem?_append_left hk, List.getElem?_eq_getElem hk]
  rfl
theorem StS.next (s : StS N n p B) (h : n < N) : StS N (n + 1) p (B ++ [n]) := by
  refine ⟨?_, ?_, h⟩
  · rw [s.eq]
    have : N - n = (N - (n + 1)) + 1 := (Nat.sub_add_cancel (Nat.sub_pos_of_lt h)).symm
    rw [this, List.range'_succ, List.append_assoc]
    rfl
  · rw [List.range_succ]; exact s.pm.append_right _
theorem asc_spec (S : SW ltb) : ∀ (f n : Nat) (B : List Nat), StS N n p B → B.Pairwise (bf ltb) → 1 ≤ n → n + f = N →
    Sp N ltb (kas_asc p f n) (fun m => ∃ B', StS N m p B' ∧ B'.Pairwise (bf ltb) ∧ 1 ≤ m ∧ (m < N → ltb m (p.getD (m - 1) 0) = true))
  | 0, n, B, s, hb, h1, hf => ⟨B, s, hb, h1, fun h => absurd h (by subst hf; exact Nat.lt_irrefl _)⟩
  | f + 1, n, B, s, hb, h1, hf => by
    unfold kas_asc
    obtain ⟨z, ez, hz, gz⟩ := s.old (k := n - 1) (by (exact Nat.sub_one_lt_of_lt h1))
    have lz := s.low hz
    rw [s.here (n_lt hf), gz]
    refine ⟨n_lt hf, Nat.lt_trans lz (n_lt hf), ?_⟩
    cases c : ltb n z with
    | true => exact ⟨B, s, hb, h1, fun _ => by rw [gz]; exact c⟩
    | false =>
      simp only [Bool.false_eq_true, if_false]
      refine asc_spec S f (n + 1) (B ++ [n]) (s.next (n_lt hf)) ?_ (by (exact Nat.le_of_lt_succ (Nat.le_add_left (Nat.succ 1) n))) (n_nx hf)
      refine List.pairwise_append.mpr ⟨hb, List.pairwise_singleton _ _, fun b hb' x hx => ?_⟩
      rw [List.mem_singleton.mp hx]
      obtain ⟨i, hi, rfl⟩ := List.getElem_of_mem hb'
      have last : bf ltb z n := .inr ⟨c, lz⟩
      obtain ⟨hj, rfl⟩ := List.getElem?_eq_some_iff.mp ez
      rcases Nat.lt_or_ge i (n - 1) with q | q
      · exact (List.pairwise_iff_getElem.mp hb i (n - 1) hi hj q).trans S last
      · have : i = n - 1 := Nat.le_antisymm (Nat.le_sub_one_of_lt (s.len ▸ hi)) q
        subst this
        exact last
/-- the state of a run that goes down: D before, E the last equal ones, not turned yet -/
structure StD (ltb : Nat → Nat → Bool) (N n q : Nat) (p : Array Nat) (D E : List Nat) : Prop where
  st : StS N n p (D ++ E)
  lenE : E.length = q + 1
  dd : D.Pairwise (fun a b => bf ltb b a)
  de : ∀ b ∈ D, ∀ e ∈ E, ltb e b = true
  ee : ∀ a ∈ E, ∀ b ∈ E, ltb a b = false
  up : E.Pairwise (· < ·)
theorem StD.down {q : Nat} {D E : List Nat} (s : StD ltb N n q p D E) : (D ++ E.reverse).Pairwise (fun a b => bf ltb b a) := by
  refine List.pairwise_append.mpr ⟨s.dd, ?_, fun b hb e he => .inl (s.de b hb e (List.mem_reverse.mp he))⟩
  rw [List.pairwise_reverse]
  refine (List.Pairwise.and_mem.mp s.up).imp fun {a b} h => .inr ⟨s.ee _ h.2.1 _ h.1, h.2.2⟩
theorem StD.turn {q : Nat} {D E : List Nat} (s : StD ltb N n q p D E) : ∃ p', (if q > 0 then kas_rev p (n - (q + 1)) n else p) = p' ∧ StS N n p' (D ++ E.reverse) := by
  have hl := s.st.len
  rw [List.length_append, s.lenE] at hl
  refine ⟨_, rfl, ?_, ?_, s.st.le⟩
  · split
    · exact rev_list s.st.eq (Nat.eq_sub_of_add_eq hl) (by rw [s.lenE]; exact hl)
    · have hq : q = 0 := Nat.eq_zero_of_not_pos (by assumption)
      have : E.reverse = E := by
        have h1 := s.lenE
        rw [hq] at h1
        obtain ⟨x, rfl⟩ := List.length_eq_one_iff.mp h1
        rfl
      rw [this]; exact s.st.eq
  · exact (List.Perm.append_left D (List.reverse_perm E)).trans s.st.pm
theorem desc_spec (S : SW ltb) : ∀ (f n q : Nat) (p : Array Nat) (D E : List Nat), StD ltb N n q p D E → 1 ≤ n → n + f = N →
    Sp N ltb (kas_desc f p n q) (fun r => ∃ D' E', StD ltb N r.2.1 r.2.2 r.1 D' E' ∧ 1 ≤ r.2.1)
  | 0, n, q, p, D, E, s, h1, hf => ⟨D, E, s, h1⟩
  | f + 1, n, q, p, D, E, s, h1, hf => by
    unfold kas_desc
    obtain ⟨z, ez, hz, gz⟩ := s.st.old (k := n - 1) (by (exact Nat.sub_one_lt_of_lt h1))
    have lz := s.st.low hz
    have zE : z ∈ E := by
      have hl := s.st.len
      rw [List.length_append, s.lenE] at hl
      rw [List.getElem?_append_right (Nat.le_sub_one_of_lt (n_lt hl))] at ez
      exact List.mem_of_getElem? ez
    rw [s.st.here (n_lt hf), gz]
    refine ⟨n_lt hf, Nat.lt_trans lz (n_lt hf), ?_⟩
    have hn := s.st.next (n_lt hf)
    cases c : ltb n z with
    | true =>
      simp only [if_true]
      have all : ∀ b ∈ D ++ E.reverse, ltb n b = true := by
        intro b hb
        rcases List.mem_append.mp hb with hb | hb
        · exact S.lt_nl c (S.asym _ _ (s.de b hb z zE))
        · exact S.lt_nl c (s.ee b (List.mem_reverse.mp hb) z zE)
      obtain ⟨p', ep, sp⟩ := s.turn
      have s' : StD ltb N (n + 1) 0 p' (D ++ E.reverse) [n] := ⟨sp.next (n_lt hf), rfl, s.down, fun b hb e he => by rw [List.mem_singleton.mp he]; exact all b hb, fun a ha b hb => by rw [List.mem_singleton.mp ha, List.mem_singleton.mp hb]; exact S.irr n, List.pairwise_singleton _ _⟩
      have := desc_spec S f (n + 1) 0 p' _ _ s' (by (exact Nat.le_of_lt_succ (Nat.le_add_left (Nat.succ 1) n))) (n_nx hf)
      split at ep
      · rename_i hq; rw [if_pos hq, ep]; exact this
      · rename_i hq; rw [if_neg hq, ep]; exact this
    | false =>
      simp only [Bool.false_eq_true, if_false]
      refine ⟨Nat.lt_trans lz (n_lt hf), n_lt hf, ?_⟩
      cases d : ltb z n with
      | true => exact ⟨D, E, s, h1⟩
      | false =>
        simp only [Bool.false_eq_true, if_false]
        refine desc_spec S f (n + 1) (q + 1) p D (E ++ [n]) ⟨by rw [← List.append_assoc]; exact hn, by simp [s.lenE], s.dd, fun b hb e he => ?_, fun a ha b hb => ?_, ?_⟩ (by (exact Nat.le_of_lt_succ (Nat.le_add_left (Nat.succ 1) n))) (n_nx hf)
        · rcases List.mem_append.mp he with he | he
          · exact s.de b hb e he
          · rw [List.mem_singleton.mp he]
            exact S.nl_lt d (s.de b hb z zE)
        · rcases List.mem_append.mp ha with ha | ha <;> rcases List.mem_append.mp hb with hb | hb
          · exact s.ee a ha b hb
          · rw [List.mem_singleton.mp hb]
            exact S.tr n z a d (s.ee a ha z zE)
          · rw [List.mem_singleton.mp ha]
            exact S.tr b z n (s.ee z zE b hb) c
          · rw [List.mem_singleton.mp ha, List.mem_singleton.mp hb]; exact S.irr n
        · refine List.pairwise_append.mpr ⟨s.up, List.pairwise_singleton _ _, fun e he x hx => ?_⟩
          rw [List.mem_singleton.mp hx]
          exact s.st.low (List.mem_append_right _ he)
theorem StS.rev (s : StS N n p B) : StS N n (kas_rev p 0 n) B.reverse := ⟨by
    have := rev_list (A := []) (B := B) (C := List.range' n (N - n)) (i := 0) (j := n) (by simpa using s.eq) rfl (by simpa using s.len)
    simpa using this, (List.reverse_perm B).trans s.pm, s.le⟩
theorem tail3_spec (S : SW ltb) {B : List Nat} (s : StS N n p B) (hb : B.Pairwise (fun a b => bf ltb b a)) (h1 : 1 ≤ n) :
    Sp N ltb (kas_tail3 n N p) (fun r => ∃ B', StS N r.1 r.2 B' ∧ B'.Pairwise (bf ltb) ∧ 1 ≤ r.1) := by
  unfold kas_tail3
  have s' := s.rev
  refine Sp.bind (Sp.mono (fun m hm => ?_) (asc_spec S (N - n) n B.reverse s' (List.pairwise_reverse.mpr hb) h1 (Nat.add_sub_cancel' s.le)))
  obtain ⟨B', a, b, c, _⟩ := hm
  exact ⟨B', a, b, c⟩
theorem descPart_spec (S : SW ltb) {B : List Nat} (s : StS N n p B) (hb : B.Pairwise (fun a b => bf ltb b a)) (hn : n < N) (hl : ∀ b ∈ B, ltb n b = true) :
    Sp N ltb (kas_descPart n N p) (fun r => ∃ B', StS N r.1 r.2 B' ∧ B'.Pairwise (bf ltb) ∧ 1 ≤ r.1) := by
  unfold kas_descPart
  refine Sp.bind (Sp.mono (fun r hr => ?_) (desc_spec S (N - (n + 1)) (n + 1) 0 p B [n] ⟨s.next hn, rfl, hb, fun b hb e he => by rw [List.mem_singleton.mp he]; exact hl b hb, fun a ha b hb => by rw [List.mem_singleton.mp ha, List.mem_singleton.mp hb]; exact S.irr n, List.pairwise_singleton _ _⟩ (by (exact Nat.le_of_lt_succ (Nat.le_add_left (Nat.succ 1) n))) (Nat.add_sub_cancel' hn)))
  obtain ⟨D, E, sd, h1⟩ := hr
  obtain ⟨p', ep, sp⟩ := sd.turn
  have := tail3_spec S sp sd.down h1
  split at ep
  · rename_i hq; rw [if_pos hq, ep]; exact this
  · rename_i hq; rw [if_neg hq, ep]; exact this
theorem StS.init (h : 1 ≤ N) : StS N 1 (List.toArray (List.range N)) [0] := by
  refine ⟨?_, ?_, h⟩
  · obtain ⟨k, rfl⟩ : ∃ k, N = k + 1 := ⟨N - 1, (Nat.sub_add_cancel h).symm⟩
    show List.range (k + 1) = _
    rw [List.range_eq_range', List.range'_succ]
    simp
  · exact List.Perm.refl _
theorem count_spec' (S : SW ltb) (h : 1 ≤ N) : Sp N ltb (kas_count N (List.toArray (List.range N))) (fun r => ∃ B', StS N r.1 r.2 B' ∧ B'.Pairwise (bf ltb) ∧ 1 ≤ r.1) := by
  unfold kas_count
  refine Sp.bind (Sp.mono (fun m hm => ?_) (asc_spec S (N - 1) 1 [0] (StS.init h) (List.pairwise_singleton _ _) (Nat.le_refl _) (Nat.add_sub_cancel' h)))
  obtain ⟨B, s, hb, h1, hlt⟩ := hm
  have hB : B = List.range m := by
    have e := s.eq
    have e2 := congrArg (List.take m) e
    rw [List.take_left' s.len] at e2
    rw [← e2]
    show (List.range N).take m = _
    rw [List.take_range, Nat.min_eq_left s.le]
  split
  · exact ⟨B, s, hb, h1⟩
  · rename_i hne
    have hmN : m < N := by
      have : m ≠ N := by simpa using hne
      exact Nat.lt_of_le_of_ne s.le this
    have hlt := hlt hmN
    obtain ⟨z, ez, hz, gz⟩ := s.old (k := m - 1) (by (exact Nat.sub_one_lt_of_lt h1))
    obtain ⟨a, ea, ha, ga⟩ := s.old (k := 0) (by assumption)
    rw [gz] at hlt
    rw [hB] at ez ea
    have zv : z = m - 1 := by
      rw [List.getElem?_range (by (exact Nat.sub_one_lt_of_lt h1))] at ez
      simpa using ez.symm
    have av : a = 0 := by
      rw [List.getElem?_range (by assumption)] at ea
      simpa using ea.symm
    split
    · rename_i h2
      rw [ga, gz]
      refine ⟨Nat.lt_trans (s.low ha) hmN, Nat.lt_trans (s.low hz) hmN, ?_⟩
      cases c : ltb a z with
      | true => exact ⟨B, s, hb, h1⟩
      | false =>
        simp only [Bool.false_eq_true, if_false]
        have sr := s.rev
        have hle : ∀ i j, i ≤ j → j < m → ltb j i = false := by
          intro i j hij hj
          rcases Nat.lt_or_ge i j with q | q
          · have := List.pairwise_iff_getElem.mp hb i j (by rw [s.len]; exact Nat.lt_trans q hj) (by rw [s.len]; assumption) q
            have g : ∀ k (hk : k < B.length), B[k] = k := by
              intro k hk
              have hk' : k < m := by rw [← s.len]; exact hk
              have : B[k]? = some k := by rw [hB, List.getElem?_range hk']
              exact (List.getElem?_eq_some_iff.mp this).2
            rw [g, g] at this
            exact this.nl S
          · have : i = j := Nat.le_antisymm hij q
            subst this; exact S.irr i
        rw [av, zv] at c
        have heq : ∀ i j, i < m → j < m → ltb i j = false := by
          intro i j hi hj
          -- i ≤ m-1 ≤ 0 ≤ j
          exact S.tr j 0 i (hle 0 j (by (exact Nat.le_of_lt_succ (Nat.le_add_left (Nat.succ 0) j))) hj |> fun _ => by
            exact S.tr j (m - 1) 0 (hle j (m - 1) (Nat.le_sub_one_of_lt hj) (by (exact Nat.sub_one_lt_of_lt h1))) c) (hle 0 i (by (exact Nat.le_of_lt_succ (Nat.le_add_left (Nat.succ 0) i))) hi)
        refine descPart_spec S sr ?_ hmN ?_
        · rw [hB]
          refine List.pairwise_reverse.mpr ?_
          refine (List.Pairwise.and_mem.mp (List.pairwise_lt_range (n := m))).imp fun {x y} hxy => ?_
          have hx := List.mem_range.mp hxy.1
          have hy := List.mem_range.mp hxy.2.1
          exact .inr ⟨heq y x hy hx, hxy.2.2⟩
        · intro b hbm
          have hbl : b < m := s.low (List.mem_reverse.mp hbm)
          exact S.lt_nl hlt (heq b z hbl (s.low hz))
    · rename_i h2
      have hm1 : m = 1 := Nat.le_antisymm (Nat.le_of_not_lt h2) h1
      subst hm1
      have hB1 : B = [0] := hB
      subst hB1
      refine descPart_spec S s (List.pairwise_singleton _ _) hmN ?_
      intro b hb'
      rw [List.mem_singleton.mp hb']
      rw [zv] at hlt
      exact hlt
theorem place_spec (S : SW ltb) {k : Nat} (s : StS N k p B) (hb : B.Pairwise (bf ltb)) (hk : k < N) : ∀ (f l r : Nat), r ≤ k → l ≤ r → r - l ≤ f →
    (∀ i b, i < l → B[i]? = some b → ltb k b = false) → (∀ i b, r ≤ i → B[i]? = some b → ltb k b = true) →
    Sp N ltb (kas_place p k f l r) (fun l => l ≤ k ∧ (∀ i b, i < l → B[i]? = some b → ltb k b = false) ∧ (∀ i b, l ≤ i → B[i]? = some b → ltb k b = true))
  | 0, l, r, h1, h2, h3, h4, h5 => by
    obtain rfl := Nat.le_antisymm h2 (Nat.sub_eq_zero_iff_le.mp (Nat.le_zero.mp h3))
    exact ⟨h1, h4, h5⟩
  | f + 1, l, r, h1, h2, h3, h4, h5 => by
    unfold kas_place
    split
    · rename_i hlr
      obtain rfl := Nat.le_antisymm h2 hlr
      exact ⟨h1, h4, h5⟩
    · rename_i hlr
      obtain ⟨m1, m2, m3, m4, m5, m6⟩ := mid_facts (Nat.lt_of_not_le hlr) h1
      obtain ⟨z, ez, hz, gz⟩ := s.old (k := (l + r) / 2) m1
      rw [s.here hk, gz]
      refine ⟨hk, Nat.lt_trans (s.low hz) hk, ?_⟩
      have mono : ∀ (i j b c : Nat), i ≤ j → B[i]? = some b → B[j]? = some c → ltb c b = false := by
        intro i j b c hij eb ec
        obtain ⟨hi, rfl⟩ := List.getElem?_eq_some_iff.mp eb
        obtain ⟨hj, rfl⟩ := List.getElem?_eq_some_iff.mp ec
        rcases Nat.lt_or_ge i j with q | q
        · exact (List.pairwise_iff_getElem.mp hb i j hi hj q).nl S
        · have : i = j := Nat.le_antisymm hij q
          subst this; exact S.irr _
      cases c : ltb k z with
      | true =>
        simp only [if_true]
        refine place_spec S s hb hk f l _ m3 m2 (Nat.le_of_lt_succ (Nat.lt_of_lt_of_le m4 h3)) h4 fun i b hi eb => ?_
        exact S.lt_nl c (mono _ _ _ _ hi ez eb)
      | false =>
        simp only [Bool.false_eq_true, if_false]
        refine place_spec S s hb hk f _ r h1 m6 (Nat.le_of_lt_succ (Nat.lt_of_lt_of_le m5 h3)) (fun i b hi eb => ?_) h5
        exact S.tr b z k (mono _ _ _ _ (by (exact Nat.le_of_lt_succ (by assumption))) eb ez) c
theorem bin_spec (S : SW ltb) : ∀ (f k : Nat) (p : Array Nat) (B : List Nat), StS N k p B → B.Pairwise (bf ltb) → k + f = N →
    Sp N ltb (kas_bin f p k) (fun p => p.toList.Perm (List.range N) ∧ p.toList.Pairwise (bf ltb))
  | 0, k, p, B, s, hb, hf => by
    obtain rfl : k = N := by assumption
    have e := s.eq
    rw [Nat.sub_self] at e
    simp at e
    exact ⟨by rw [e]; exact s.pm, by rw [e]; exact hb⟩
  | f + 1, k, p, B, s, hb, hf => by
    unfold kas_bin
    refine Sp.bind (Sp.mono (fun l hl => ?_) (place_spec S s hb (n_lt hf) k 0 k (Nat.le_refl _) (by (exact Nat.le_of_lt_succ (Nat.le_add_left (Nat.succ 0) k))) (by (exact Nat.le_of_not_lt (Nat.lt_irrefl k))) (fun i b hi => absurd hi (Nat.not_lt_zero _)) fun i b hi eb => ?_))
    · obtain ⟨h1, h2, h3⟩ := hl
      have hk : k < N := n_lt hf
      have e : p.toList = B.take l ++ B.drop l ++ k :: List.range' (k + 1) (N - (k + 1)) := by
        rw [List.take_append_drop, (s.next hk).eq, List.append_assoc]; rfl
      have e2 := bub_list e (l := l) (k := k) (by rw [List.length_take, s.len]; exact Nat.min_eq_left h1) (by rw [List.length_take, List.length_drop, s.len, Nat.min_eq_left h1]; exact Nat.add_sub_cancel' h1)
      refine bin_spec S f (k + 1) _ (B.take l ++ k :: B.drop l) ⟨e2, ?_, hk⟩ ?_ (n_nx hf)
      · refine List.perm_middle.trans ?_
        rw [List.take_append_drop, List.range_succ]
        exact (List.Perm.cons k s.pm).trans (List.perm_append_comm (l₁ := [k]))
      · have hb' := hb
        rw [← List.take_append_drop l B] at hb'
        obtain ⟨b1, b2, b3⟩ := List.pairwise_append.mp hb'
        refine List.pairwise_append.mpr ⟨b1, List.pairwise_cons.mpr ⟨fun b hb => ?_, b2⟩, fun a ha b hb => ?_⟩
        · obtain ⟨j, hj, e3⟩ := List.getElem_of_mem hb
          exact .inl (h3 (l + j) b (by (exact Nat.le_add_right l j)) (by rw [← List.getElem?_drop, List.getElem?_eq_getElem hj, e3]))
        · rcases List.mem_cons.mp hb with rfl | hb
          · obtain ⟨j, hj, e3⟩ := List.getElem_of_mem ha
            have hj' : j < l := by rw [List.length_take] at hj; exact Nat.lt_of_lt_of_le hj (Nat.min_le_left _ _)
            exact .inr ⟨h2 j a hj' (by rw [← List.getElem?_take_of_lt hj', List.getElem?_eq_getElem hj, e3]), s.low (List.mem_of_mem_take ha)⟩
          · exact b3 a ha b hb
    · rw [List.getElem?_eq_none (by rw [s.len]; exact hi)] at eb; cases eb
theorem sort_spec (S : SW ltb) (h : 1 ≤ N) : Sp N ltb (kas_sort N) (fun p => p.toList.Perm (List.range N) ∧ p.toList.Pairwise (bf ltb)) := by
  unfold kas_sort
  refine Sp.bind (Sp.mono (fun r hr => ?_) (count_spec' S h))
  obtain ⟨B, s, hb, h1⟩ := hr
  have hmax : max r.1 1 = r.1 := Nat.max_eq_left h1
  split
  · rw [hmax]
    exact bin_spec S _ _ _ B s hb (Nat.add_sub_cancel' s.le)
  · have : r.1 = N := Nat.le_antisymm s.le (Nat.le_of_not_lt (by assumption))
    have e := s.eq
    rw [this, Nat.sub_self] at e
    simp at e
    have pm := s.pm
    rw [this] at pm
    exact ⟨by rw [e]; exact pm, by rw [e]; exact hb⟩
end
end Mine

end
section
set_option autoImplicit false
set_option maxHeartbeats 1000000
namespace Mine
/-- the objects of a heap as a list, but one -/
noncomputable def allBut (h : Heap) (L : Addr) : List (Addr × Obj) := (List.range h.objs.size).filterMap fun b => if b = L then none else (h.get? b).map fun o => (b, o)
theorem mem_allBut {h : Heap} {L : Addr} {p : Addr × Obj} : p ∈ allBut h L ↔ p.1 ≠ L ∧ h.get? p.1 = some p.2 := by
  unfold allBut
  rw [List.mem_filterMap]
  constructor
  · rintro ⟨b, _, e⟩
    split at e
    · cases e
    · rename_i hb
      obtain ⟨o, eo, rfl⟩ := Option.map_eq_some_iff.mp e
      exact ⟨hb, eo⟩
  · rintro ⟨h1, h2⟩
    exact ⟨p.1, List.mem_range.mpr (Heap.lt_size h2), by rw [if_neg h1, h2]; rfl⟩
section
variable {w : World} {mg mb : Str → Option Value} {A : Around} {E : Value → Shared → Prop} {s : Shared}
  {X : List Addr} {h₀ g₀ h g h' g' : Heap} {L : Addr} {m m' : Str → Option Value} {mu mu' : List (Addr × Obj)}
theorem Loc.fr (F : Loc X h₀ g₀ L h g m mu) : Fr {} L h m := ⟨F.ns, fun b o e => by simp [Heap.get?] at e, Nat.zero_le _⟩
theorem no_empty (a : Addr) : ({} : Heap).get? a = none := by simp [Heap.get?]
theorem Loc.news (_ : Loc X h₀ g₀ L h g m mu) : News {} L h (allBut h L) := fun _ hp => ⟨(mem_allBut.mp hp).2, (mem_allBut.mp hp).1, no_empty _⟩
/-- all but the frame's own table and one object of ours stays as it is -/
theorem Loc.upd {D : Addr} {o o2 : Obj} (F : Loc X h₀ g₀ L h g m ((D, o) :: mu)) (k : ∀ b o', b ≠ D → b ≠ L → h.get? b = some o' → h'.get? b = some o') (hn : h'.Ns L m') (e : h'.get? D = some o2) :
    Loc X h₀ g₀ L h' g m' ((D, o2) :: mu) := by
  obtain ⟨a1, a2, a3, a4, a5⟩ := F.own (D, o) (.head _)
  dsimp only at a1 a2 a3 a4 a5
  have sb : Sub g h' := fun b o e => k b o (ne_of_some e a2) (ne_of_some e F.off) (F.sub _ _ e)
  have nd := F.nd
  rw [List.map_cons, List.nodup_cons] at nd
  obtain ⟨oL, _, _, eL, _⟩ := id hn
  refine ⟨⟨fun b eb => ?_, fun b o hb eb => k b o (fun q => ?_) (ne_of_some eb F.hi) (F.st.pres b o hb eb), F.st.sub, sb, F.st.new, ?_⟩, hn, F.off, F.hi, fun p hp => ?_, ?_, F.xs, F.lv⟩
  · by_cases hb : b = D
    · subst hb; rw [e] at eb; cases eb
    · by_cases hL : b = L
      · subst hL; rw [eL] at eb; cases eb
      · refine F.st.alive b ?_
        cases q : h.get? b with
        | none => rfl
        | some o => rw [k b o hb hL q] at eb; cases eb
  · subst q
    rcases a5 with a5 | a5
    · exact hb a5
    · rw [a5] at eb; cases eb
  · exact F.st.wm.step (fun P hP ob eb => k P ob (fun q => a4 (q ▸ hP)) (fun q => F.L0 (q ▸ hP)) eb) (Sub.refl _) F.st.wm.off
  · rcases List.mem_cons.mp hp with rfl | hp
    · exact ⟨e, a2, a3, a4, a5⟩
    · obtain ⟨b1, b2, b3, b4, b5⟩ := F.own p (.tail _ hp)
      exact ⟨k _ _ (fun q => nd.1 (List.mem_map.mpr ⟨p, hp, q⟩)) b3 b1, b2, b3, b4, b5⟩
  · rw [List.map_cons, List.nodup_cons]; exact nd
/-- a new object that lies there already -/
theorem Loc.adopt {D : Addr} {o : Obj} (F : Loc X h₀ g₀ L h g m mu) (e : h.get? D = some o) (hg : g.get? D = none) (h0 : h₀.get? D = none) (hL : D ≠ L) (hX : D ∉ X0) (hmu : ∀ p ∈ mu, p.1 ≠ D) : Loc X h₀ g₀ L h g m ((D, o) :: mu) := by
  refine ⟨F.st, F.ns, F.off, F.hi, fun p hp => ?_, ?_, F.xs, F.lv⟩
  · rcases List.mem_cons.mp hp with rfl | hp
    · exact ⟨e, hg, hL, hX, .inr h0⟩
    · exact F.own p hp
  · rw [List.map_cons, List.nodup_cons]
    refine ⟨fun q => ?_, F.nd⟩
    obtain ⟨p, hp, q⟩ := List.mem_map.mp q
    exact hmu p hp q
theorem Loc.ext' (F : Loc X h₀ g₀ L h g m mu) (k : ∀ b o', b ≠ L → h.get? b = some o' → h'.get? b = some o') (hn : h'.Ns L m') : Loc X h₀ g₀ L h' g m' mu := by
  have sb : Sub g h' := fun b o e => k b o (ne_of_some e F.off) (F.sub _ _ e)
  obtain ⟨oL, _, _, eL, _⟩ := id hn
  refine ⟨⟨fun b eb => ?_, fun b o hb eb => k b o (ne_of_some eb F.hi) (F.st.pres b o hb eb), F.st.sub, sb, F.st.new, ?_⟩, hn, F.off, F.hi, fun p hp => ?_, F.nd, F.xs, F.lv⟩
  · by_cases hL : b = L
    · subst hL; rw [eL] at eb; cases eb
    · refine F.st.alive b ?_
      cases q : h.get? b with
      | none => rfl
      | some o => rw [k b o hL q] at eb; cases eb
  · exact F.st.wm.step (fun P hP ob eb => k P ob (fun q => F.L0 (q ▸ hP)) eb) (Sub.refl _) F.st.wm.off
  · obtain ⟨b1, b2, b3, b4, b5⟩ := F.own p hp
    exact ⟨k _ _ b3 b1, b2, b3, b4, b5⟩
noncomputable def restOf (h : Heap) (L D : Addr) : List (Addr × Obj) := (allBut h L).filter fun p => p.1 != D
theorem Loc.news1 {D : Addr} {o : Obj} (F : Loc X h₀ g₀ L h g m ((D, o) :: mu)) : News {} L h ((D, o) :: restOf h L D) := by
  intro p hp
  rcases List.mem_cons.mp hp with rfl | hp
  · obtain ⟨a1, a2, a3, a4, a5⟩ := F.own _ (.head _)
    exact ⟨a1, a3, no_empty _⟩
  · exact F.news p (List.mem_filter.mp hp).1
theorem updRest {h : Heap} {L D : Addr} {o : Obj} : UpdF D o ((D, o) :: restOf h L D) (fun o' => (D, o') :: restOf h L D) :=
  .head fun p hp => by simpa using (List.mem_filter.mp hp).2
theorem Loc.back1 {D : Addr} {o o2 : Obj} (F : Loc X h₀ g₀ L h g m ((D, o) :: mu)) (F' : Fr {} L h' m) (N' : News {} L h' ((D, o2) :: restOf h L D)) : Loc X h₀ g₀ L h' g m ((D, o2) :: mu) :=
  F.upd (fun b o' hb hL e => (N' (b, o') (.tail _ (List.mem_filter.mpr ⟨mem_allBut.mpr ⟨hL, e⟩, by simpa using hb⟩))).1) F'.ns (N' _ (.head _)).1
/-- a function of one argument that hands back a list of ints -/
structure SortFn (w : World) (mg mb : Str → Option Value) (n : Nat) (g : Heap) (f : Addr) (ks : Keys) : Prop where
  run : ∀ {A : Around} {s : Shared} {g' : Heap} {Q : Value → Shared → Prop} {E : Value → Shared → Prop} {a : Value} {x : Int}, Room A n → Sub g g' → Wd w mg mb g' → Sub g' s.heap → Wm s.heap g' → RowAt w g' a x →
    (∀ v h' tk g'', Step X0 s.heap g' h' g'' → IntsAt g'' v (wt ks x) → Q v { s with heap := h', toks := tk }) → wpAny (model pr w) A (call (.ref f) [a]) Q E s
theorem SortFn.sub {n : Nat} {f : Addr} {ks : Keys} (x : SortFn w mg mb n g f ks) (s : Sub g g') : SortFn w mg mb n g' f ks := ⟨fun R s' => x.run R (s.trans s')⟩
/-- the order by the weights of listed rows -/
noncomputable def ltI (ks : Keys) (xs : List Int) (i j : Nat) : Bool := decide (lexc (wt ks (xs.getD i 0)) (wt ks (xs.getD j 0)) < 0)
theorem ltI_sw (ks : Keys) (xs : List Int) : SW (ltI ks xs) := by
  refine ⟨fun i j h => ?_, fun i j k h1 h2 => ?_⟩
  · unfold ltI at h ⊢
    have h : lt ks (xs.getD i 0) (xs.getD j 0) := by simpa using h
    have : ¬ lt ks (xs.getD j 0) (xs.getD i 0) := not_lt.mpr (le_of_lt h)
    simpa using this
  · unfold ltI at h1 h2 ⊢
    have h1 : ¬ lt ks (xs.getD j 0) (xs.getD i 0) := by simpa using h1
    have h2 : ¬ lt ks (xs.getD k 0) (xs.getD j 0) := by simpa using h2
    have : ¬ lt ks (xs.getD k 0) (xs.getD i 0) := not_lt.mpr (le_trans (not_lt.mp h1) (not_lt.mp h2))
    simpa using this
theorem keys_run {n : Nat} {kS : Addr} {q : Addr} {ks : Keys} {ps : List PRow} {Fin : List Value → Nat → Shared → Prop} (R : Room A n) (hf : SortFn w mg mb n g q ks) (W : Wd w mg mb g) (hp : RowsAt w g ps) :
    ∀ (r : List PRow) (dn : List PRow) (kv : List Value) (e : Nat) (s : Shared) (g' : Heap), dn ++ r = ps → Sub g g' → Loc X h₀ g₀ L s.heap g' m ((kS, listOf kv.toArray e) :: mu) → All2 (IntsAt g') kv (dn.map fun p => wt ks p.2) →
      (∀ kv e h' tk g', Sub g g' → Loc X h₀ g₀ L h' g' m ((kS, listOf kv.toArray e) :: mu) → All2 (IntsAt g') kv (ps.map fun p => wt ks p.2) → Fin kv e { s with heap := h', toks := tk }) →
      KatKeys pr w A {} L m kS (.ref q) Fin (r.map (·.1)) kv e s
  | [], dn, kv, e, s, g', hd, sg, F, a2, fin => by
    rw [List.append_nil] at hd
    subst hd
    exact KatKeys.nil (fin kv e s.heap s.toks g' sg F a2)
  | p :: r, dn, kv, e, s, g', hd, sg, F, a2, fin => by
    refine KatKeys.cons ?_
    have hpm : p ∈ ps := by rw [← hd]; simp
    refine hf.run R sg (W.sub sg) F.sub F.st.wm ((hp p hpm).sub sg) fun v h2 tk2 g2 st2 hv => ?_
    have F2 := F.call st2
    refine KatBack.intro F2.fr F2.news1 updRest fun h3 c F3 N3 => ?_
    have G := F2.back1 F3 N3
    refine keys_run R hf W hp r (dn ++ [p]) (kv ++ [v]) c _ g2 (by rw [← hd]; simp) (sg.trans st2.sub) G ?_ fun kv e h' tk g' a b c => ?_
    · rw [List.map_append]
      exact (a2.mono fun _ _ x => x.sub st2.sub).append (.cons hv .nil)
    · exact fin kv e h' tk g' a b c
/-- sorted(rows, key=f): the rows by the model's sort, which is stable -/
theorem sorted_spec {n : Nat} {l q : Addr} {ks : Keys} {ps : List PRow} {Q : Value → Shared → Prop} (R : Room A (n + 2)) (W : Wd w mg mb g) (F : Loc X h₀ g₀ L s.heap g m mu)
    (hl : g.IsList l (ps.map (·.1)).toArray) (hp : RowsAt w g ps) (h2 : 2 ≤ ps.length) (h64 : ps.length < 64) (hf : SortFn w mg mb n g q ks)
    (h : ∀ D (p : List Nat) c h' tk g', Sub g g' → Loc X h₀ g₀ L h' g' m mu → g'.get? D = some (listOf (p.map fun i => (ps.map (·.1)).getD i Value.none).toArray c) → p.Perm (List.range ps.length) → p.Pairwise (bf (ltI ks (ps.map (·.2)))) →
      Q (.ref D) { s with heap := h', toks := tk }) :
    wpAny (model pr w) A (call (.builtin "sorted") [.ref l] [(Str.ofString "key", .ref q)]) Q E s := by
  refine kat_sortedK (vs := ps.map (·.1)) (b := false) (f := .ref q) F.fr F.news (IsList.sub hl F.sub) (by simpa using h2) (by simpa using h64) (ksk_s1 _ _) (fun _ => ksk_l1 _ _) (fun x => ksk_t1 q x) ?_
  intro D kS e1 h' F' N' hDk hlow
  have nD := N' (D, _) (.tail _ (.head _))
  have nk := N' (kS, _) (.head _)
  dsimp only at nD nk
  have fresh : ∀ b, b ≠ L → D ≤ b → s.heap.get? b = none := by
    intro b hb hD
    cases q : s.heap.get? b with
    | none => rfl
    | some o => exact absurd (hlow (b, o) (mem_allBut.mpr ⟨hb, q⟩)) (Nat.not_lt.mpr hD)
  have fD := fresh D nD.2.1 (Nat.le_refl _)
  have fk := fresh kS nk.2.1 (Nat.le_of_lt hDk)
  have x0 : ∀ a, s.heap.get? a = none → a ∉ X0 := fun a ha q => by obtain ⟨o, eo⟩ := F.st.wm.at a q; rw [ha] at eo; cases eo
  have F1 := F.ext' (h' := h') (m' := m) (fun b o hb e => (N' (b, o) (.tail _ (.tail _ (mem_allBut.mpr ⟨hb, e⟩)))).1) F'.ns
  have F2 := F1.adopt nD.1 (F.sub.alive _ fD) (F.st.alive _ fD) nD.2.1 (x0 _ fD) fun p hp q => ne_of_some (F.own p hp).1 fD q
  have F3 := F2.adopt nk.1 (F.sub.alive _ fk) (F.st.alive _ fk) nk.2.1 (x0 _ fk) fun p hp q => by
    rcases List.mem_cons.mp hp with rfl | hp
    · exact absurd q (Nat.ne_of_lt hDk)
    · exact ne_of_some (F.own p hp).1 fk q
  clear F1 F2 N' nk nD
  have R2 : Room A.in1.in1 n := R.in1.in1
  refine keys_run (n := n) R2 hf W hp ps [] [] 0 _ g rfl (Sub.refl _) F3 .nil ?_
  intro kv e h4 tk4 g4 sg F4 a2
  have hlen : kv.length = ps.length := by rw [a2.length, List.length_map]
  have a2h : ∀ i v, kv[i]? = some v → ∃ l its ne, v = .ref l ∧ h4.get? l = some (listOf its.toArray ne) ∧ IntsAre its (wt ks ((ps.map (·.2)).getD i 0)) := by
    intro i v hv
    obtain ⟨ws, hw, l, its, ne, h1, h2, h3⟩ := a2.get hv
    rw [List.getElem?_map] at hw
    obtain ⟨p, hp, rfl⟩ := Option.map_eq_some_iff.mp hw
    refine ⟨l, its, ne, h1, F4.sub _ _ h2, ?_⟩
    rw [List.getD_eq_getElem?_getD, List.getElem?_map, hp]
    exact h3
  dsimp only
  refine kas_kind (T := .type "list") (by omega) (fun v hv => ?_) (by decide) (by decide) ?_
  · obtain ⟨i, hi, e1⟩ := List.getElem_of_mem hv
    obtain ⟨l, its, ne, rfl, h1, _⟩ := a2h i v (by rw [List.getElem?_eq_getElem hi, e1])
    exact (Looks.ld h1).andThen .now
  rw [List.length_map]
  refine Sp.wp (ltb := ltI ks (ps.map (·.2))) (I := fun s' => s' = { s with heap := h4, toks := tk4 }) ?_ ?_ (sort_spec (ltI_sw _ _) (by (exact Nat.le_of_lt h2))) rfl
  · rintro i j C _ hi hj rfl hC
    unfold kas_ask
    obtain ⟨l1, its1, ne1, e1, g1, i1⟩ := a2h i kv[i] (List.getElem?_eq_getElem (by omega))
    obtain ⟨l2, its2, ne2, e2, g2, i2⟩ := a2h j kv[j] (List.getElem?_eq_getElem (by omega))
    have d1 : (katRev false kv).getD i Value.none = .ref l1 := by show kv.getD i _ = _; rw [List.getD_eq_getElem?_getD, List.getElem?_eq_getElem (by omega), e1]; rfl
    have d2 : (katRev false kv).getD j Value.none = .ref l2 := by show kv.getD j _ = _; rw [List.getD_eq_getElem?_getD, List.getElem?_eq_getElem (by omega), e2]; rfl
    rw [d1, d2]
    exact keyLt_ints R2.units g1 g2 i1 i2 (by rw [wt_length, wt_length]) (hC _ rfl)
  · rintro p _ ⟨hperm, hpair⟩ rfl
    refine KatFin.intro F4.fr F4.news1 updRest fun h5 c5 F5 N5 => ?_
    have G5 := (F4.back1 F5 N5).drop
    refine KasFin.intro G5.fr G5.news1 updRest fun h6 c6 F6 N6 => ?_
    have G6 := G5.back1 F6 N6
    obtain ⟨g7, G7, s7, e7⟩ := G6.freeze (F.st.alive _ fD)
    exact h D p.toList c6 h6 tk4 g7 (sg.trans s7) G7 e7 hperm hpair
end
end Mine

end
section
set_option autoImplicit false
set_option maxHeartbeats 1000000
namespace Mine
/-! ## Plain: the law -/
noncomputable def cls (ks : Keys) (x : Int) (q : PRow) : Bool := decide (le ks q.2 x) && decide (le ks x q.2)
noncomputable def ltB (ks : Keys) (x : Int) (q : PRow) : Bool := decide (lt ks q.2 x)
noncomputable def gtB (ks : Keys) (x : Int) (q : PRow) : Bool := decide (lt ks x q.2)
section
variable {ks : Keys} {x : Int}
theorem cls_iff {q : PRow} : cls ks x q = true ↔ le ks q.2 x ∧ le ks x q.2 := by simp [cls]
theorem ltB_iff {q : PRow} : ltB ks x q = true ↔ lt ks q.2 x := by simp [ltB]
theorem gtB_iff {q : PRow} : gtB ks x q = true ↔ lt ks x q.2 := by simp [gtB]
theorem no_of {α : Type} {p : α → Bool} {l : List α} (h : ∀ a ∈ l, ¬ p a = true) : l.filter p = [] := List.filter_eq_nil_iff.mpr h
theorem all_of {α : Type} {p : α → Bool} {l : List α} (h : ∀ a ∈ l, p a = true) : l.filter p = l := List.filter_eq_self.mpr h
theorem tri (q : PRow) : (lt ks q.2 x ∧ ¬ (le ks q.2 x ∧ le ks x q.2) ∧ ¬ lt ks x q.2) ∨ (¬ lt ks q.2 x ∧ (le ks q.2 x ∧ le ks x q.2) ∧ ¬ lt ks x q.2) ∨ (¬ lt ks q.2 x ∧ ¬ (le ks q.2 x ∧ le ks x q.2) ∧ lt ks x q.2) := by
  by_cases h1 : le ks q.2 x
  · by_cases h2 : le ks x q.2
    · exact .inr (.inl ⟨not_lt.mpr h2, ⟨h1, h2⟩, not_lt.mpr h1⟩)
    · exact .inl ⟨not_le.mp h2, fun h => h2 h.2, not_lt.mpr h1⟩
  · exact .inr (.inr ⟨fun h => h1 (le_of_lt h), fun h => h1 h.1, not_le.mp h1⟩)
theorem split_sorted : ∀ {R : List PRow}, Srt ks R → R = R.filter (ltB ks x) ++ R.filter (cls ks x) ++ R.filter (gtB ks x)
  | [], _ => rfl
  | q :: R, h => by
    have h := List.pairwise_cons.mp h
    have ih := split_sorted h.2
    rcases tri (ks := ks) (x := x) q with ⟨a, b, c⟩ | ⟨a, b, c⟩ | ⟨a, b, c⟩
    · rw [List.filter_cons_of_pos (ltB_iff.mpr a), List.filter_cons_of_neg (fun z => b (cls_iff.mp z)), List.filter_cons_of_neg (fun z => c (gtB_iff.mp z))]
      simp only [List.cons_append]
      rw [← ih]
    · have e1 : R.filter (ltB ks x) = [] := no_of fun r hr z => by
        exact a (lt_of_le_of_lt (h.1 r hr) (ltB_iff.mp z))
      rw [List.filter_cons_of_neg (fun z => a (ltB_iff.mp z)), List.filter_cons_of_pos (cls_iff.mpr b), List.filter_cons_of_neg (fun z => c (gtB_iff.mp z)), e1]
      rw [e1] at ih
      simp only [List.nil_append, List.cons_append] at ih ⊢
      rw [← ih]
    · have g : ∀ r ∈ R, gtB ks x r = true := fun r hr => gtB_iff.mpr (lt_of_lt_of_le c (h.1 r hr))
      have e1 : R.filter (ltB ks x) = [] := no_of fun r hr z => a (lt_of_le_of_lt (h.1 r hr) (ltB_iff.mp z))
      have e2 : R.filter (cls ks x) = [] := no_of fun r hr z => not_le.mpr (gtB_iff.mp (g r hr)) (cls_iff.mp z).1
      rw [List.filter_cons_of_neg (fun z => a (ltB_iff.mp z)), List.filter_cons_of_neg (fun z => b (cls_iff.mp z)), List.filter_cons_of_pos (gtB_iff.mpr c), e1, e2, all_of g]
      rfl
theorem cL_len (l : List PRow) : (l.filter (ltB ks x)).length = cL ks l x := by rw [← List.countP_eq_length_filter]; rfl
theorem cR_len : ∀ (l : List PRow), cR ks l x = cL ks l x + (l.filter (cls ks x)).length
  | [] => rfl
  | q :: l => by
    have ih := cR_len l
    unfold cR cL at ih ⊢
    rw [List.countP_cons, List.countP_cons, List.filter_cons, ih]
    rcases tri (ks := ks) (x := x) q with ⟨a, b, c⟩ | ⟨a, b, c⟩ | ⟨a, b, c⟩
    · have h1 : decide (le ks q.2 x) = true := decide_eq_true (le_of_lt a)
      have h2 : decide (lt ks q.2 x) = true := decide_eq_true a
      have h3 : ¬ cls ks x q = true := fun z => b (cls_iff.mp z)
      rw [h1, h2, if_neg h3]; simp; exact Nat.add_right_comm _ _ _
    · have h1 : decide (le ks q.2 x) = true := decide_eq_true b.1
      have h2 : decide (lt ks q.2 x) = false := decide_eq_false a
      rw [h1, h2, if_pos (cls_iff.mpr b)]; simp; exact Nat.add_assoc _ _ _
    · have h1 : decide (le ks q.2 x) = false := decide_eq_false (not_le.mpr c)
      have h2 : decide (lt ks q.2 x) = false := decide_eq_false a
      have h3 : ¬ cls ks x q = true := fun z => b (cls_iff.mp z)
      rw [h1, h2, if_neg h3]; simp
theorem own_at {l : List PRow} (h : Srt ks l) {i : Nat} {q : PRow} (e : l[i]? = some q) : ∃ j, i = cL ks l q.2 + j ∧ (l.filter (cls ks q.2))[j]? = some q := by
  have sp := split_sorted (x := q.2) h
  have e' := e
  rw [sp] at e'
  have l1 := cL_len (ks := ks) (x := q.2) l
  by_cases c1 : i < (l.filter (ltB ks q.2)).length
  · rw [List.append_assoc, List.getElem?_append_left c1] at e'
    have := List.mem_of_getElem? e'
    exact absurd (ltB_iff.mp (List.mem_filter.mp this).2) (not_lt.mpr le_refl)
  · rw [List.append_assoc, List.getElem?_append_right (by (exact Nat.le_of_not_lt c1))] at e'
    by_cases c2 : i - (l.filter (ltB ks q.2)).length < (l.filter (cls ks q.2)).length
    · rw [List.getElem?_append_left c2] at e'
      exact ⟨_, by omega, e'⟩
    · rw [List.getElem?_append_right (by (exact Nat.le_of_not_lt c2))] at e'
      have := List.mem_of_getElem? e'
      exact absurd (gtB_iff.mp (List.mem_filter.mp this).2) (not_lt.mpr le_refl)
theorem rank_at {R : List PRow} (h : Srt ks R) {j : Nat} {q : PRow} (e : (R.filter (cls ks x))[j]? = some q) : R[cL ks R x + j]? = some q := by
  have sp := split_sorted (x := x) h
  have l1 := cL_len (ks := ks) (x := x) R
  rw [← l1]
  have go : ∀ (R' A B C : List PRow), R' = A ++ B ++ C → B[j]? = some q → R'[A.length + j]? = some q := by
    rintro _ A B C rfl e
    have hj := (List.getElem?_eq_some_iff.mp e).1
    rw [List.append_assoc, List.getElem?_append_right (by (exact Nat.le_add_right A.length j)), Nat.add_sub_cancel_left, List.getElem?_append_left hj, e]
  exact go R _ _ _ sp e
/-- where the place is, there is the row -/
theorem place_at {L0 L1 L2 R : List PRow} (h0 : Srt ks L0) (h1 : Srt ks L1) (h2 : Srt ks L2) (hR : Srt ks R) (pm : R.Perm (L0 ++ L1 ++ L2)) (hf : ∀ x, R.filter (cls ks x) = (L0 ++ L1 ++ L2).filter (cls ks x))
    {t i : Nat} {l : List PRow} {q : PRow} (ht : [L0, L1, L2][t]? = some l) (hq : l[i]? = some q) :
    ∃ k : Nat, plOf ks [L0, L1, L2] t i q.2 = (k : Int) ∧ R[k]? = some q := by
  have cc : cL ks R q.2 = cL ks L0 q.2 + cL ks L1 q.2 + cL ks L2 q.2 := by
    unfold cL
    rw [pm.countP_eq, List.countP_append, List.countP_append]
  have hfx := hf q.2
  rw [List.filter_append, List.filter_append] at hfx
  have fin : ∀ j, (R.filter (cls ks q.2))[j]? = some q → ∀ k : Nat, k = cL ks R q.2 + j → R[k]? = some q := fun j e k hk => by rw [hk]; exact rank_at hR e
  match t, ht with
  | 0, ht =>
    cases ht
    obtain ⟨j, hi, e⟩ := own_at h0 hq
    refine ⟨cL ks R q.2 + j, ?_, fin j ?_ _ rfl⟩
    · unfold plOf
      simp
      omega
    · rw [hfx, List.append_assoc, List.getElem?_append_left (List.getElem?_eq_some_iff.mp e).1]; exact e
  | 1, ht =>
    cases ht
    obtain ⟨j, hi, e⟩ := own_at h1 hq
    have r0 := cR_len (ks := ks) (x := q.2) L0
    refine ⟨cL ks R q.2 + ((L0.filter (cls ks q.2)).length + j), ?_, fin _ ?_ _ rfl⟩
    · unfold plOf
      simp
      omega
    · rw [hfx, List.append_assoc, List.getElem?_append_right (Nat.le_add_right _ _), Nat.add_sub_cancel_left, List.getElem?_append_left (List.getElem?_eq_some_iff.mp e).1]; exact e
  | 2, ht =>
    cases ht
    obtain ⟨j, hi, e⟩ := own_at h2 hq
    have r0 := cR_len (ks := ks) (x := q.2) L0
    have r1 := cR_len (ks := ks) (x := q.2) L1
    refine ⟨cL ks R q.2 + ((L0.filter (cls ks q.2)).length + ((L1.filter (cls ks q.2)).length + j)), ?_, fin _ ?_ _ rfl⟩
    · unfold plOf
      simp
      omega
    · rw [hfx, List.append_assoc, List.getElem?_append_right (Nat.le_add_right _ _), Nat.add_sub_cancel_left, List.getElem?_append_right (Nat.le_add_right _ _), Nat.add_sub_cancel_left]; exact e
  | t + 3, ht => simp at ht
theorem insR_perm {p : PRow} : ∀ l : List PRow, (insR ks p l).Perm (p :: l)
  | [] => List.Perm.refl _
  | q :: l => by
    unfold insR
    split
    · exact ((insR_perm l).cons q).trans (List.Perm.swap _ _ _)
    · exact List.Perm.refl _
theorem insR_filter {p : PRow} : ∀ {l : List PRow}, Srt ks l → (insR ks p l).filter (cls ks x) = l.filter (cls ks x) ++ [p].filter (cls ks x)
  | [], _ => rfl
  | q :: l, h => by
    have hc := List.pairwise_cons.mp h
    unfold insR
    split
    · rw [List.filter_cons, List.filter_cons, insR_filter hc.2]
      split <;> rfl
    · rename_i hn
      have hn := not_le.mp hn
      by_cases c : cls ks x p = true
      · have e : (q :: l).filter (cls ks x) = [] := no_of fun r hr z => by
          have hr' : le ks q.2 r.2 := by
            rcases List.mem_cons.mp hr with rfl | hr
            · exact le_refl
            · exact hc.1 r hr
          have h1 := lt_of_lt_of_le hn hr'
          exact not_le.mpr h1 (le_trans (cls_iff.mp z).1 (cls_iff.mp c).2)
        rw [List.filter_cons_of_pos c, e]
        simp [c]
      · rw [List.filter_cons_of_neg c]
        simp [c]
theorem foldIns_perm : ∀ (l acc : List PRow), (l.foldl (fun acc p => insR ks p acc) acc).Perm (acc ++ l)
  | [], acc => by simp
  | p :: l, acc => by
    rw [List.foldl_cons]
    refine (foldIns_perm l _).trans ?_
    refine (List.Perm.append_right l (insR_perm acc)).trans ?_
    exact List.perm_middle.symm
theorem foldIns_filter : ∀ (l acc : List PRow), Srt ks acc → (l.foldl (fun acc p => insR ks p acc) acc).filter (cls ks x) = acc.filter (cls ks x) ++ l.filter (cls ks x)
  | [], acc, _ => by simp
  | p :: l, acc, h => by
    rw [List.foldl_cons, foldIns_filter l _ (insR_srt h), insR_filter h, List.append_assoc, ← List.filter_append]
    rfl
theorem sortR_perm (l : List PRow) : (sortR ks l).Perm l := by simpa [sortR] using foldIns_perm (ks := ks) l []
theorem sortR_filter (l : List PRow) : (sortR ks l).filter (cls ks x) = l.filter (cls ks x) := by simpa [sortR] using foldIns_filter (ks := ks) (x := x) l [] List.Pairwise.nil
/-- the rows in the order that the sort chose -/
noncomputable def repOf (ps : List PRow) (p : List Nat) : List PRow := p.map fun i => ps.getD i (.none, 0)
theorem getD_snd (ps : List PRow) (i : Nat) : (ps.getD i (.none, 0)).2 = (ps.map (·.2)).getD i 0 := by
  rw [List.getD_eq_getElem?_getD, List.getD_eq_getElem?_getD, List.getElem?_map]
  cases ps[i]? <;> rfl
theorem getD_fst (ps : List PRow) (i : Nat) : (ps.getD i (.none, 0)).1 = (ps.map (·.1)).getD i .none := by
  rw [List.getD_eq_getElem?_getD, List.getD_eq_getElem?_getD, List.getElem?_map]
  cases ps[i]? <;> rfl
theorem map_getD (ps : List PRow) : (List.range ps.length).map (fun i => ps.getD i (.none, 0)) = ps := by
  apply List.ext_getElem?
  intro i
  rw [List.getElem?_map]
  by_cases h : i < ps.length
  · rw [List.getElem?_range h, List.getElem?_eq_getElem h]
    simp [h]
  · rw [List.getElem?_eq_none (by simpa using Nat.le_of_not_lt h), List.getElem?_eq_none (Nat.le_of_not_lt h)]; rfl
section
variable {ps : List PRow} {p : List Nat}
theorem rep_srt (h : p.Pairwise (bf (ltI ks (ps.map (·.2))))) : Srt ks (repOf ps p) := by
  unfold repOf
  rw [Srt, List.pairwise_map]
  refine h.imp fun {a b} hab => ?_
  have := hab.nl (ltI_sw _ _)
  unfold ltI at this
  rw [getD_snd, getD_snd]
  exact not_lt.mp (by simpa using this)
theorem rep_perm (h : p.Perm (List.range ps.length)) : (repOf ps p).Perm ps := by
  have := h.map fun i => ps.getD i ((.none, 0) : PRow)
  rw [map_getD] at this
  exact this
theorem rep_filter (h1 : p.Perm (List.range ps.length)) (h : p.Pairwise (bf (ltI ks (ps.map (·.2))))) : (repOf ps p).filter (cls ks x) = ps.filter (cls ks x) := by
  have e : p.filter (cls ks x ∘ fun i => ps.getD i (.none, 0)) = (List.range ps.length).filter (cls ks x ∘ fun i => ps.getD i (.none, 0)) := by
    refine List.Perm.eq_of_pairwise (le := (· < ·)) (fun a b _ _ h1 h2 => by omega) ?_ ((List.pairwise_lt_range (n := ps.length)).filter _) (h1.filter _)
    refine (List.Pairwise.and_mem.mp (h.filter _)).imp fun {a b} hab => ?_
    have ha := cls_iff.mp (List.mem_filter.mp hab.1).2
    have hb := cls_iff.mp (List.mem_filter.mp hab.2.1).2
    rcases hab.2.2 with q | q
    · unfold ltI at q
      rw [← getD_snd, ← getD_snd] at q
      have q : lt ks (ps.getD a (.none, 0)).2 (ps.getD b (.none, 0)).2 := by simpa using q
      exact absurd q (not_lt.mpr (le_trans hb.1 ha.2))
    · exact q.2
  have e2 : ps.filter (cls ks x) = ((List.range ps.length).map (fun i => ps.getD i ((.none, 0) : PRow))).filter (cls ks x) := by rw [map_getD]
  unfold repOf
  rw [List.filter_map, e, e2, List.filter_map]
end
/-! ### the places are all places -/
theorem perm_of_sub {α : Type} [BEq α] [LawfulBEq α] : ∀ {a b : List α}, a.Nodup → (∀ x ∈ a, x ∈ b) → b.length ≤ a.length → a.Perm b
  | [], b, _, _, h => by simp at h; subst h; exact List.Perm.refl _
  | x :: a, b, hn, hs, hl => by
    have hx := hs x (.head _)
    have hn := List.nodup_cons.mp hn
    have pb := List.perm_cons_erase hx
    refine ((perm_of_sub hn.2 (fun y hy => ?_) ?_).cons x).trans pb.symm
    · exact (List.mem_erase_of_ne (fun e : y = x => hn.1 (e ▸ hy))).mpr (hs y (.tail _ hy))
    · have := pb.length_eq
      rw [List.length_cons] at this hl
      omega
noncomputable def tagL (s : Nat) (l : List PRow) : List PRow := (l.zipIdx s).map fun q => (.int (q.2 : Int) 0, q.1.2)
theorem tag_len (s : Nat) (l : List PRow) : (tagL s l).length = l.length := by simp [tagL]
theorem tag_get (s : Nat) (l : List PRow) (i : Nat) : (tagL s l)[i]? = (l[i]?).map fun q => (.int ((s + i : Nat) : Int) 0, q.2) := by
  unfold tagL
  rw [List.getElem?_map, List.getElem?_zipIdx]
  cases l[i]? <;> rfl
theorem tag_snd (s : Nat) (l : List PRow) : (tagL s l).map (·.2) = l.map (·.2) := by
  apply List.ext_getElem?
  intro i
  rw [List.getElem?_map, List.getElem?_map, tag_get]
  cases l[i]? <;> rfl
theorem cR_snd (l : List PRow) : cR ks l x = (l.map (·.2)).countP fun y => decide (le ks y x) := by unfold cR; rw [List.countP_map]; rfl
theorem cL_snd (l : List PRow) : cL ks l x = (l.map (·.2)).countP fun y => decide (lt ks y x) := by unfold cL; rw [List.countP_map]; rfl
theorem tag_cR (s : Nat) (l : List PRow) : cR ks (tagL s l) x = cR ks l x := by rw [cR_snd, cR_snd, tag_snd]
theorem tag_cL (s : Nat) (l : List PRow) : cL ks (tagL s l) x = cL ks l x := by rw [cL_snd, cL_snd, tag_snd]
theorem tag_srt (s : Nat) {l : List PRow} (h : Srt ks l) : Srt ks (tagL s l) := by
  have h1 : (l.map (·.2)).Pairwise (le ks) := List.pairwise_map.mpr h
  rw [← tag_snd s l] at h1
  exact List.pairwise_map.mp h1
theorem tag_append (s : Nat) (a b : List PRow) : tagL s (a ++ b) = tagL s a ++ tagL (s + a.length) b := by
  unfold tagL
  rw [List.zipIdx_append, List.map_append]
theorem tag_pl (a b c L0 L1 L2 : _) (t i : Nat) (y : Int) : plOf ks [tagL a L0, tagL b L1, tagL c L2] t i y = plOf ks [L0, L1, L2] t i y := by
  unfold plOf
  match t with
  | 0 => simp [tag_cL]
  | 1 => simp [tag_cL, tag_cR]
  | 2 => simp [tag_cR]
  | t + 3 => simp [tag_cR]
/-- all places, list by list -/
noncomputable def allPl (ks : Keys) (L0 L1 L2 : List PRow) : List Int := placesOf ks [L0, L1, L2] 0 L0 ++ placesOf ks [L0, L1, L2] 1 L1 ++ placesOf ks [L0, L1, L2] 2 L2
theorem placesOf_len (Ls : List (List PRow)) (t : Nat) (l : List PRow) : (placesOf ks Ls t l).length = l.length := by simp [placesOf]
theorem placesOf_get (Ls : List (List PRow)) (t : Nat) (l : List PRow) (i : Nat) : (placesOf ks Ls t l)[i]? = (l[i]?).map fun q => plOf ks Ls t i q.2 := by
  unfold placesOf
  rw [List.getElem?_map, List.getElem?_zipIdx]
  cases l[i]? <;> simp
section
variable {L0 L1 L2 R : List PRow}
/-- at every place of the list of places stands its row -/
theorem allPl_at (h0 : Srt ks L0) (h1 : Srt ks L1) (h2 : Srt ks L2) (hR : Srt ks R) (pm : R.Perm (L0 ++ L1 ++ L2)) (hf : ∀ x, R.filter (cls ks x) = (L0 ++ L1 ++ L2).filter (cls ks x))
    {i : Nat} {q : PRow} (hq : (L0 ++ L1 ++ L2)[i]? = some q) : ∃ k : Nat, (allPl ks L0 L1 L2)[i]? = some (k : Int) ∧ R[k]? = some q := by
  unfold allPl
  have go : ∀ (t j : Nat) (l : List PRow), [L0, L1, L2][t]? = some l → l[j]? = some q → ∃ k : Nat, (placesOf ks [L0, L1, L2] t l)[j]? = some (k : Int) ∧ R[k]? = some q := by
    intro t j l ht hj
    obtain ⟨k, e1, e2⟩ := place_at h0 h1 h2 hR pm hf ht hj
    exact ⟨k, by rw [placesOf_get, hj, Option.map_some, e1], e2⟩
  rw [List.append_assoc] at hq ⊢
  by_cases c0 : i < L0.length
  · rw [List.getElem?_append_left c0] at hq
    rw [List.getElem?_append_left (by rw [placesOf_len]; exact c0)]
    exact go 0 i L0 rfl hq
  · rw [List.getElem?_append_right (by (exact Nat.le_of_not_lt c0))] at hq
    rw [List.getElem?_append_right (by rw [placesOf_len]; (exact Nat.le_of_not_lt c0)), placesOf_len]
    by_cases c1 : i - L0.length < L1.length
    · rw [List.getElem?_append_left c1] at hq
      rw [List.getElem?_append_left (by rw [placesOf_len]; exact c1)]
      exact go 1 _ L1 rfl hq
    · rw [List.getElem?_append_right (by (exact Nat.le_of_not_lt c1))] at hq
      rw [List.getElem?_append_right (by rw [placesOf_len]; (exact Nat.le_of_not_lt c1)), placesOf_len]
      exact go 2 _ L2 rfl hq
theorem tag_allPl (a b c : Nat) : allPl ks (tagL a L0) (tagL b L1) (tagL c L2) = allPl ks L0 L1 L2 := by
  have go : ∀ t s (l : List PRow), placesOf ks [tagL a L0, tagL b L1, tagL c L2] t (tagL s l) = placesOf ks [L0, L1, L2] t l := by
    intro t s l
    apply List.ext_getElem?
    intro i
    rw [placesOf_get, placesOf_get, tag_get]
    cases l[i]? with
    | none => rfl
    | some q => simp [tag_pl]
  unfold allPl
  rw [go, go, go]
theorem allPl_len : (allPl ks L0 L1 L2).length = (L0 ++ L1 ++ L2).length := by simp [allPl, placesOf_len]
theorem allPl_perm (h0 : Srt ks L0) (h1 : Srt ks L1) (h2 : Srt ks L2) : (allPl ks L0 L1 L2).Perm ((List.range (L0 ++ L1 ++ L2).length).map fun i : Nat => (i : Int)) := by
  let U := tagL 0 (L0 ++ L1 ++ L2)
  have hU : U = tagL 0 L0 ++ tagL L0.length L1 ++ tagL (L0 ++ L1).length L2 := by
    show tagL 0 (L0 ++ L1 ++ L2) = _
    rw [tag_append, tag_append]
    simp
  have at_ := @allPl_at ks _ _ _ (sortR ks U) (tag_srt 0 h0) (tag_srt L0.length h1) (tag_srt (L0 ++ L1).length h2) (sortR_srt ks U) (by rw [← hU]; exact sortR_perm U) (fun x => by rw [← hU]; exact sortR_filter U)
  rw [← hU] at at_
  simp only [tag_allPl] at at_
  have ulen : U.length = (L0 ++ L1 ++ L2).length := tag_len _ _
  have get : ∀ i, i < (L0 ++ L1 ++ L2).length → ∃ k : Nat, (allPl ks L0 L1 L2)[i]? = some (k : Int) ∧ (sortR ks U)[k]? = U[i]? := by
    intro i hi
    obtain ⟨k, e1, e2⟩ := at_ (List.getElem?_eq_getElem (l := U) (i := i) (by rw [ulen]; exact hi))
    exact ⟨k, e1, by rw [e2, List.getElem?_eq_getElem]⟩
  have tagat : ∀ i, i < (L0 ++ L1 ++ L2).length → ∃ y, U[i]? = some (.int (i : Int) 0, y) := by
    intro i hi
    exact ⟨((L0 ++ L1 ++ L2)[i]).2, by show (tagL 0 (L0 ++ L1 ++ L2))[i]? = _; rw [tag_get, List.getElem?_eq_getElem hi]; simp⟩
  refine perm_of_sub ?_ ?_ ?_
  · refine List.pairwise_iff_getElem.mpr fun i j hi hj hij e0 => ?_
    have e0 : (allPl ks L0 L1 L2)[i]? = (allPl ks L0 L1 L2)[j]? := by rw [List.getElem?_eq_getElem hi, List.getElem?_eq_getElem hj, e0]
    revert e0
    have hl := allPl_len (ks := ks) (L0 := L0) (L1 := L1) (L2 := L2)
    obtain ⟨k, e1, f1⟩ := get i (by omega)
    obtain ⟨k', e2, f2⟩ := get j (by omega)
    rw [e1, e2]
    intro e
    have : k = k' := by have := Option.some.inj e; omega
    subst this
    obtain ⟨y, g1⟩ := tagat i (by omega)
    obtain ⟨z, g2⟩ := tagat j (by omega)
    rw [f1, g1, g2] at f2
    simp at f2
    omega
  · intro z hz
    obtain ⟨i, hi, e⟩ := List.getElem_of_mem hz
    have hl := allPl_len (ks := ks) (L0 := L0) (L1 := L1) (L2 := L2)
    obtain ⟨k, e1, f1⟩ := get i (by omega)
    rw [List.getElem?_eq_getElem hi, e] at e1
    obtain ⟨y, g1⟩ := tagat i (by omega)
    rw [g1] at f1
    have hk := (List.getElem?_eq_some_iff.mp f1).1
    rw [sortR_length, ulen] at hk
    exact List.mem_map.mpr ⟨k, List.mem_range.mpr hk, by simpa using e1.symm⟩
  · rw [allPl_len]; simp
/-! ### what a count picks -/
theorem take_zip : ∀ (l : List PRow) (P : List Int) (c : Nat), P.Pairwise (· ≤ ·) → P.length = l.length → l.take (P.countP fun z => decide (z < (c : Int))) = ((l.zip P).filter fun q => decide (q.2 < (c : Int))).map (·.1)
  | [], P, c, _, h => by simp at h; subst h; rfl
  | b :: l, [], c, _, h => by simp at h
  | b :: l, a :: P, c, hp, h => by
    have hp := List.pairwise_cons.mp hp
    have ih := take_zip l P c hp.2 (by simpa using h)
    rw [List.zip_cons_cons, List.countP_cons, List.filter_cons]
    by_cases q : a < (c : Int)
    · rw [if_pos (by simpa using q), if_pos (by simpa using q), List.take_succ_cons, ih]; rfl
    · have e : P.countP (fun z => decide (z < (c : Int))) = 0 := by
        rw [List.countP_eq_zero]
        intro z hz
        have := hp.1 z hz
        simp; omega
      rw [if_neg (by simpa using q), if_neg (by simpa using q), e]
      rw [e] at ih
      rw [← ih]; rfl
theorem cR_mono (l : List PRow) {x y : Int} (h : le ks x y) : cR ks l x ≤ cR ks l y := by
  unfold cR
  refine List.countP_mono_left fun q _ hq => ?_
  have hq : le ks q.2 x := by simpa using hq
  simpa using le_trans hq h
theorem cL_mono (l : List PRow) {x y : Int} (h : le ks x y) : cL ks l x ≤ cL ks l y := by
  unfold cL
  refine List.countP_mono_left fun q _ hq => ?_
  have hq : lt ks q.2 x := by simpa using hq
  simpa using lt_of_lt_of_le hq h
theorem sum_mono {α : Type} {f g : α → Int} (h : ∀ a, f a ≤ g a) : ∀ l : List α, (l.map f).sum ≤ (l.map g).sum
  | [] => by simp
  | a :: l => by have := sum_mono h l; have := h a; simp; omega
theorem places_up (Ls : List (List PRow)) (t : Nat) {l : List PRow} (h : Srt ks l) : (placesOf ks Ls t l).Pairwise (· ≤ ·) := by
  refine List.pairwise_iff_getElem.mpr fun i j hi hj hij => ?_
  rw [placesOf_len] at hi hj
  have e1 := placesOf_get (ks := ks) Ls t l i
  have e2 := placesOf_get (ks := ks) Ls t l j
  rw [List.getElem?_eq_getElem hi, List.getElem?_eq_getElem (by rw [placesOf_len]; exact hi)] at e1
  rw [List.getElem?_eq_getElem hj, List.getElem?_eq_getElem (by rw [placesOf_len]; exact hj)] at e2
  simp only [Option.map_some, Option.some.injEq] at e1 e2
  rw [e1, e2]
  have hle := List.pairwise_iff_getElem.mp h i j hi hj hij
  unfold plOf
  have s1 : ((Ls.take t).map fun q => (cR ks q (l[i]).2 : Int)).sum ≤ ((Ls.take t).map fun q => (cR ks q (l[j]).2 : Int)).sum := sum_mono (fun a => by have := cR_mono (ks := ks) a hle; omega) _
  have s2 : ((Ls.drop (t + 1)).map fun q => (cL ks q (l[i]).2 : Int)).sum ≤ ((Ls.drop (t + 1)).map fun q => (cL ks q (l[j]).2 : Int)).sum := sum_mono (fun a => by have := cL_mono (ks := ks) a hle; omega) _
  omega
theorem pick_perm (h0 : Srt ks L0) (h1 : Srt ks L1) (h2 : Srt ks L2) (hR : Srt ks R) (pm : R.Perm (L0 ++ L1 ++ L2)) (hf : ∀ x, R.filter (cls ks x) = (L0 ++ L1 ++ L2).filter (cls ks x)) (c : Nat) :
    (pick [placesOf ks [L0, L1, L2] 0 L0, placesOf ks [L0, L1, L2] 1 L1, placesOf ks [L0, L1, L2] 2 L2] [L0, L1, L2] c).Perm (R.take c) := by
  have hp : pick [placesOf ks [L0, L1, L2] 0 L0, placesOf ks [L0, L1, L2] 1 L1, placesOf ks [L0, L1, L2] 2 L2] [L0, L1, L2] c = (((L0 ++ L1 ++ L2).zip (allPl ks L0 L1 L2)).filter fun q => decide (q.2 < (c : Int))).map (·.1) := by
    unfold pick allPl
    rw [List.zip_append (by simp [placesOf_len]), List.zip_append (by simp [placesOf_len]), List.filter_append, List.filter_append, List.map_append, List.map_append]
    rw [← take_zip _ _ _ (places_up _ _ h0) (placesOf_len _ _ _), ← take_zip _ _ _ (places_up _ _ h1) (placesOf_len _ _ _), ← take_zip _ _ _ (places_up _ _ h2) (placesOf_len _ _ _)]
    simp
  rw [hp]
  have hlen := allPl_len (ks := ks) (L0 := L0) (L1 := L1) (L2 := L2)
  have hz : (L0 ++ L1 ++ L2).zip (allPl ks L0 L1 L2) = (allPl ks L0 L1 L2).map fun i => (R.getD i.toNat ((.none, 0) : PRow), i) := by
    apply List.ext_getElem?
    intro i
    rw [List.getElem?_map]
    by_cases hi : i < (L0 ++ L1 ++ L2).length
    · have e0 := List.getElem?_eq_getElem hi
      obtain ⟨k, e1, e2⟩ := allPl_at h0 h1 h2 hR pm hf e0
      have : ((L0 ++ L1 ++ L2).zip (allPl ks L0 L1 L2))[i]? = some ((L0 ++ L1 ++ L2)[i], (k : Int)) := by
        rw [List.getElem?_zip_eq_some]; exact ⟨e0, e1⟩
      rw [this, e1]
      simp [e2]
    · rw [List.getElem?_eq_none (by rw [List.length_zip, hlen]; omega), List.getElem?_eq_none (by omega)]; rfl
  rw [hz]
  refine ((((allPl_perm h0 h1 h2).map _).filter _).map _).trans ?_
  rw [← pm.length_eq, List.map_map, List.filter_map, List.map_map]
  have e : (List.range R.length).filter ((fun q : PRow × Int => decide (q.2 < (c : Int))) ∘ (fun i : Int => (R.getD i.toNat ((.none, 0) : PRow), i)) ∘ fun i : Nat => (i : Int)) = List.range (min c R.length) := by
    have : ((fun q : PRow × Int => decide (q.2 < (c : Int))) ∘ (fun i : Int => (R.getD i.toNat ((.none, 0) : PRow), i)) ∘ fun i : Nat => (i : Int)) = fun i : Nat => decide (i < c) := by
      funext i; simp
    rw [this]
    clear this hz hp hlen pm hf hR
    generalize R.length = n
    induction n with
    | zero => simp
    | succ n ih =>
      rw [List.range_succ, List.filter_append, ih]
      by_cases h : n < c
      · rw [Nat.min_eq_right (by (exact Nat.le_of_lt h)), Nat.min_eq_right (by assumption)]; simp [h, List.range_succ]
      · rw [Nat.min_eq_left (by (exact Nat.le_of_not_lt h)), Nat.min_eq_left (by omega)]; simp [h]
  rw [e]
  have e2 : (List.range (min c R.length)).map ((fun q : PRow × Int => q.1) ∘ (fun i : Int => (R.getD i.toNat ((.none, 0) : PRow), i)) ∘ fun i : Nat => (i : Int)) = R.take c := by
    apply List.ext_getElem?
    intro i
    rw [List.getElem?_map, List.getElem?_take]
    by_cases hi : i < min c R.length
    · rw [List.getElem?_range hi, if_pos (by omega), List.getElem?_eq_getElem (by omega)]
      simp [show i < R.length by omega]
    · rw [List.getElem?_eq_none (by simpa using Nat.le_of_not_lt hi)]
      by_cases hc : i < c
      · rw [if_pos hc, List.getElem?_eq_none (by omega)]; rfl
      · rw [if_neg hc]; rfl
  rw [e2]
end
end
end Mine

end
section
set_option autoImplicit false
set_option maxHeartbeats 1000000
namespace Mine
open PySem.AutoSeq1 (wpAny_loadPart')
open PySem.SeqAt
theorem eqSelf {A : Around} {s : Shared} (a : Addr) : EqAt A s (.ref a) (.ref a) true := fun prog w E Q h => by
  unfold eqBool
  refine wpAny_holding ?_
  rw [if_pos (by simp)]
  exact wpAny_bind (wpAny_rule (wpAny_pure h))
noncomputable def EqIn (w : World) (A : Around) (s : Shared) (y x : Value) : Prop := ∀ (E : Value → Shared → Prop) (Q : Bool → Shared → Prop), Q true s → wpAny (model pr w) A (eqBool y x) Q E s
theorem eqIn_at {w : World} {A : Around} {s : Shared} {y x : Value} (h : EqAt A s y x true) : EqIn w A s y x := fun E Q hq => h pr w E Q hq
theorem tup_ne (w : World) (l b : Addr) (vs us : List Value) (n n2 : Nat) (dd dd2 : Option Addr) (sl sl2 : Array (Option Value)) (hsz : vs.length = us.length) :
    MeetsIn pr w (Builtin.«tuple.__ne__» ⟨[.ref l, .ref b], []⟩)
      (fun A R s => s.heap.get? l = some { cls := .type "tuple", dict := dd, data := .seq vs.toArray n, slots := sl } ∧ s.heap.get? b = some { cls := .type "tuple", dict := dd2, data := .seq us.toArray n2, slots := sl2 } ∧
        (∀ p ∈ vs.zip us, EqIn w A.in1 s p.1 p.2) ∧ R (.ok (.ret (.bool false))) s) := by
  intro A R s h
  obtain ⟨hp, g, d, tk, os⟩ := s; obtain ⟨hl, hb, he, h⟩ := h
  have f2 := AutoSeq1.sub_tuple_tuple
  wp_walk using wpAny_loadPart' hl, wpAny_loadPart' hb, wpAny_forIn_list _ (fun rest b s' => b.1 = none ∧ s' = ⟨hp, g, d, tk, os⟩ ∧ ∀ p ∈ rest, p ∈ vs.zip us) _
  case turn =>
    rintro ⟨y, x⟩ rest b s' ⟨hb', rfl, hz⟩
    refine wpAny_bind (he (y, x) (hz _ (.head _)) _ _ ?_)
    wp_walk
    exact ⟨rfl, rfl, fun p hp => hz p (.tail _ hp)⟩
  case fin =>
    rintro ⟨b1, b2⟩ s' ⟨hb', rfl, hz⟩
    simp only at hb'
    subst hb'
    wp_walk
    simpa [Builtin.Tuple.tupleCompareSizes, hsz] using h
  case h =>
    exact ⟨rfl, rfl, fun p hp => by simpa using hp⟩
theorem allTrue (n : Nat) : ((List.range n).all fun _ => true) = true := by rw [List.all_eq_true]; intro _ _; rfl
section
variable {w : World} {A : Around} {E : Value → Shared → Prop} {s : Shared} {Q : Value → Shared → Prop}
theorem neTup {l b : Addr} {vs us : List Value} (hl : s.heap.IsTuple l vs.toArray) (hb : s.heap.IsTuple b us.toArray) (hsz : vs.length = us.length) (hu : A.units < cLine) (he : ∀ p ∈ vs.zip us, EqIn w A.in1 s p.1 p.2) (h : Q (.bool false) s) :
    wpAny (model pr w) A (compareOp .NotEq (.ref l) (.ref b)) Q E s := by
  obtain ⟨⟨cls, dd, data, sl⟩, ho, hc, n, hd⟩ := id hl
  obtain ⟨⟨cls2, dd2, data2, sl2⟩, ho2, hc2, n2, hd2⟩ := id hb
  simp only at hc hd hc2 hd2
  subst hc hd hc2 hd2
  refine wpAny_richCompare_same_room (op := .NotEq) ⟨_, ho, rfl⟩ ⟨_, ho2, rfl⟩ PySem.F.slot_tuple_ne ?_ hu
  exact call_meetsIn PySem.F.slot_tuple_ne ⟨_, ho, rfl⟩ PySem.F.entry_tuple_ne (PySem.F.args_tuple_ne_2 _ _) (tup_ne w l b vs us n n2 dd dd2 sl sl2 hsz) ⟨ho, ho2, he, ⟨(fun x => nomatch x), h⟩⟩
theorem neInts {l b : Addr} {vs us : List Value} {ns : List Int} (hl : s.heap.IsList l vs.toArray) (hb : s.heap.IsList b us.toArray) (h1 : IntsAre vs ns) (h2 : IntsAre us ns) (hu : A.units < cLine) (h : Q (.bool false) s) :
    wpAny (model pr w) A (compareOp .NotEq (.ref l) (.ref b)) Q E s := by
  have hsz : vs.toArray.size = us.toArray.size := by rw [List.size_toArray, List.size_toArray, h1.length, h2.length]
  refine RcNeAt.lists (e := fun _ => true) hl hb hsz hu (fun j a b => ?_) pr w E Q ?_
  · rw [List.size_toArray] at a b
    obtain ⟨m, t, e1, v1⟩ := ints_get h1 j _ (List.getElem?_eq_getElem a)
    obtain ⟨k, u, e2, v2⟩ := ints_get h2 j _ (List.getElem?_eq_getElem b)
    rw [e1] at e2; cases e2
    rw [List.getElem_toArray, List.getElem_toArray, v1, v2]
    have := EqAt.int_int (A := A.in1) (s := s) m t m u
    simpa using this
  · rw [allTrue]; exact h
/-- two lists of lists with the very same items -/
theorem neLists {l b : Addr} {vs us : List Value} {Ls : List (List Value)} (hl : s.heap.IsList l vs.toArray) (hb : s.heap.IsList b us.toArray)
    (h1 : All2 (fun v ys => ∃ a, v = .ref a ∧ s.heap.IsList a ys.toArray) vs Ls) (h2 : All2 (fun v ys => ∃ a, v = .ref a ∧ s.heap.IsList a ys.toArray) us Ls) (href : ∀ ys ∈ Ls, ∀ v ∈ ys, ∃ a, v = .ref a)
    (hu : A.units + 1 < cLine) (h : Q (.bool false) s) : wpAny (model pr w) A (compareOp .NotEq (.ref l) (.ref b)) Q E s := by
  have hsz : vs.toArray.size = us.toArray.size := by rw [List.size_toArray, List.size_toArray, h1.length, h2.length]
  refine RcNeAt.lists (e := fun _ => true) hl hb hsz (by omega) (fun j a b => ?_) pr w E Q ?_
  · rw [List.size_toArray] at a b
    obtain ⟨ys, e1, x, v1, i1⟩ := h1.get (List.getElem?_eq_getElem a)
    obtain ⟨ys', e2, y, v2, i2⟩ := h2.get (List.getElem?_eq_getElem b)
    rw [e1] at e2; cases e2
    rw [List.getElem_toArray, List.getElem_toArray, v1, v2]
    by_cases hxy : x = y
    · subst hxy; exact eqSelf x
    · have := EqAt.of_refs hxy (RcAt.lists (A := A.in1) (e := fun _ => true) i1 i2 rfl (by show A.units + 1 < cLine; exact hu) fun k p q => by
        obtain ⟨c, ec⟩ := href ys (List.mem_of_getElem? e1) ys[k] (List.getElem_mem (by simpa using p))
        rw [List.getElem_toArray, ec]; exact eqSelf c)
      rw [allTrue] at this
      exact this
  · rw [allTrue]; exact h
/-! ### Profiles of the same rows in another order -/
theorem sum_perm {xs ys : List Int} (h : xs.Perm ys) : xs.sum = ys.sum := by
  induction h with
  | nil => rfl
  | cons x _ ih => simp [ih]
  | swap x y l => simp; omega
  | trans _ _ ih1 ih2 => rw [ih1, ih2]
theorem s2_perm {xs ys : List Int} (h : xs.Perm ys) : s2 xs = s2 ys := sum_perm (h.map _)
theorem cf_perm {xs ys : List Int} (h : xs.Perm ys) (k : Str) : cf xs k = cf ys k := by
  have hp := h.filter fun x => decide (nm x = k)
  unfold cf
  by_cases e : (xs.filter fun x => decide (nm x = k)) = []
  · rw [e] at hp
    rw [if_pos e, if_pos hp.nil_eq.symm]
  · rw [if_neg e, if_neg (fun e' => e (by rw [e'] at hp; exact hp.eq_nil)), sum_perm hp]
theorem lookup_mem {cs : Cs} {k : Str} {v : Int} (h : cs.lookup k = some v) : k ∈ cs.map (·.1) := by
  cases q : decide (k ∈ cs.map (·.1)) with
  | true => simpa using q
  | false =>
    have : cs.lookup k = none := lookup_none_iff.mpr (by simpa using q)
    rw [this] at h; cases h
theorem mem_lookup {cs : Cs} {k : Str} (h : k ∈ cs.map (·.1)) : ∃ v, cs.lookup k = some v := by
  cases q : cs.lookup k with
  | some v => exact ⟨v, rfl⟩
  | none => exact absurd h (lookup_none_iff.mp q)
theorem cs_len {cs ds : Cs} {xs ys : List Int} (h1 : CS cs xs) (h2 : CS ds ys) (h : xs.Perm ys) : cs.length = ds.length := by
  have sub : ∀ {cs ds : Cs}, (∀ k, cs.lookup k = ds.lookup k) → ∀ k ∈ cs.map (·.1), k ∈ ds.map (·.1) := fun e k hk => by
    obtain ⟨v, hv⟩ := mem_lookup hk
    exact lookup_mem ((e k).symm.trans hv)
  have e : ∀ k, cs.lookup k = ds.lookup k := fun k => by rw [h1.at_, h2.at_, cf_perm h]
  have p : ∀ {a b : List Str}, a.Nodup → (∀ x ∈ a, x ∈ b) → a.length ≤ b.length := by
    intro a
    induction a with
    | nil => intro b _ _; simp
    | cons x a ih =>
      intro b hn hs
      have hn := List.nodup_cons.mp hn
      have hx := hs x (.head _)
      have pb := (List.perm_cons_erase hx).length_eq
      have := ih (b := b.erase x) hn.2 fun y hy => (List.mem_erase_of_ne (fun e : y = x => hn.1 (e ▸ hy))).mpr (hs y (.tail _ hy))
      rw [List.length_cons] at pb ⊢
      omega
  have a1 := p h1.nd (sub e)
  have a2 := p h2.nd (sub fun k => (e k).symm)
  simp only [List.length_map] at a1 a2
  omega
theorem lookup_at {cs : Cs} (h : (cs.map (·.1)).Nodup) {k : Str} {v : Int} (hm : (k, v) ∈ cs) : cs.lookup k = some v := by
  induction cs with
  | nil => cases hm
  | cons c cs ih =>
    rw [List.map_cons, List.nodup_cons] at h
    rw [List.lookup_cons]
    rcases List.mem_cons.mp hm with rfl | hm
    · simp
    · have : k ≠ c.1 := fun e => h.1 (e ▸ List.mem_map.mpr ⟨_, hm, rfl⟩)
      rw [show (k == c.1) = false by simpa using this]
      exact ih h.2 hm
theorem hits_of {kvs kvs' : List (Str × Value)} {cs ds : Cs} (kv' : KV kvs' ds) (e : ∀ k v, (k, v) ∈ cs → ds.lookup k = some v) (kv : KV kvs cs) : KeqHits A s kvs' kvs true := by
  induction kv with
  | nil => exact .nil
  | @cons a b as bs hab _ ih =>
    obtain ⟨h1, t, h2⟩ := hab
    obtain ⟨k, v⟩ := a
    dsimp only at h1 h2
    subst h1 h2
    have hb := e b.1 b.2 (.head _)
    rcases kv'.look b.1 with ⟨_, n⟩ | ⟨n, u, x, y⟩
    · rw [n] at hb; cases hb
    · rw [y] at hb
      cases hb
      have := KeqHits.hit (e := true) x (by have := EqAt.int_int (A := A) (s := s) b.2 t b.2 u; simpa using this) (ih fun k v hm => e k v (.tail _ hm))
      simpa using this
theorem neProf {g : Heap} {v u : Value} {xs ys : List Int} (hv : ProfAt w g v xs) (hy : ProfAt w g u ys) (hp : xs.Perm ys) (S : Sub g s.heap) (hu : A.units + 1 < cLine) (h : Q (.bool false) s) :
    wpAny (model pr w) A (compareOp .NotEq v u) Q E s := by
  obtain ⟨a, t0, t1, t2, t3, d, rfl, ht, hlow, kvs, cs, hd, kv, csx⟩ := hv.tup
  obtain ⟨b, u0, u1, u2, u3, d', rfl, ht', hlow', kvs', cs', hd', kv', csx'⟩ := hy.tup
  rw [← hp.length_eq, ← s2_perm hp, ← sum_perm hp] at ht'
  refine neTup (IsTuple.sub ht S) (IsTuple.sub ht' S) rfl (by omega) ?_ h
  have ii : ∀ (n : Int) (t u : Tok), EqIn w A.in1 s (.int n t) (.int n u) := fun n t u => eqIn_at (by have := EqAt.int_int (A := A.in1) (s := s) n t n u; simpa using this)
  intro p hp'
  simp only [List.zip_cons_cons, List.zip_nil_left, List.mem_cons, List.not_mem_nil, or_false] at hp'
  rcases hp' with rfl | rfl | rfl | rfl | rfl
  · exact ii _ _ _
  · exact ii _ _ _
  · exact ii _ _ _
  · exact ii _ _ _
  · intro E' Q' hq
    unfold eqBool
    refine wpAny_holding ?_
    by_cases hdd : d = d'
    · subst hdd
      rw [if_pos (by simp)]
      exact wpAny_bind (wpAny_rule (wpAny_pure hq))
    · rw [if_neg (by simpa using hdd)]
      refine wpAny_bind (show wpAny (model pr w) A.in1 (compareOp .Eq (.ref d) (.ref d')) _ _ _ from keq_eq (r := true) hlow hlow' (DictOf.sub hd S) (DictOf.sub hd' S) (by show A.units + 1 < cLine; exact hu) (fun _ => hits_of kv' (fun k v hm => ?_) kv) ?_)
      · rw [csx'.at_, ← cf_perm hp, ← csx.at_]
        exact lookup_at csx.nd hm
      · have hl : kvs.length = kvs'.length := by rw [kv.length, kv'.length]; exact cs_len csx csx' hp
        rw [hl]
        simp only [beq_self_eq_true, Bool.and_self]
        exact wpAny_truthy_bool hq
end
end Mine

end
section
set_option autoImplicit false
set_option maxHeartbeats 1000000
namespace Mine
section
variable {w : World} {mg mb : Str → Option Value} {A : Around} {E : Value → Shared → Prop} {s : Shared} {Q : Value → Shared → Prop}
  {X : List Addr} {h₀ g₀ h g h' g' : Heap} {L : Addr} {m m' : Str → Option Value} {mu mu' : List (Addr × Obj)}
theorem addL {a b : Addr} {vs us : List Value} (F : Loc X h₀ g₀ L s.heap g m mu) (ha : g.IsList a vs.toArray) (hb : g.IsList b us.toArray) (hz : vs.length + us.length ≤ 1000)
    (h : ∀ D h' g', Sub g g' → Loc X h₀ g₀ L h' g' m mu → g'.get? D = some (listOf (vs ++ us).toArray 0) → Q (.ref D) { s with heap := h' }) :
    wpAny (model pr w) A (binaryOp .Add (.ref a) (.ref b)) Q E s := by
  obtain ⟨⟨cls, dd, data, sl⟩, ho, hc, n, hd⟩ := IsList.sub ha F.sub
  obtain ⟨⟨cls2, dd2, data2, sl2⟩, ho2, hc2, n2, hd2⟩ := IsList.sub hb F.sub
  simp only at hc hd hc2 hd2
  subst hc hd hc2 hd2
  have e : vs.toArray ++ us.toArray = (vs ++ us).toArray := by simp
  refine concat_meets ⟨_, ho, rfl⟩ ⟨_, ho2, rfl⟩ noFill_list_add seq_list_add PySem.F.slot_list_add PySem.F.entry_list_add (PySem.F.args_list_add_2 _ _) (list_addW a b vs.toArray us.toArray n n2 dd dd2 sl sl2 (by simp only [List.size_toArray]; rw [sizeLine_eq]; omega)) ⟨ho, ho2, ?_⟩
  rw [e]
  obtain ⟨g1, F1, s1, e1⟩ := F.alloc (listOf (vs ++ us).toArray 0)
  exact h _ _ g1 s1 F1 e1
/-- a new object that a builtin has made, taken over -/
theorem Loc.take {D : Addr} {o : Obj} (F : Loc X h₀ g₀ L s.heap g m mu) (k : Sub s.heap h') (fD : s.heap.get? D = none) (eD : h'.get? D = some o) :
    ∃ g', Loc X h₀ g₀ L h' g' m mu ∧ Sub g g' ∧ g'.get? D = some o := by
  have F1 := F.ext k
  obtain ⟨oL, eL⟩ := F.at
  have x0 : D ∉ X0 := fun q => by obtain ⟨o, eo⟩ := F.st.wm.at D q; rw [fD] at eo; cases eo
  have F2 := F1.adopt eD (F.sub.alive _ fD) (F.st.alive _ fD) (fun q => ne_of_some eL fD q.symm) x0 fun p hp q => ne_of_some (F.own p hp).1 fD q
  exact F2.freeze (F.st.alive _ fD)
theorem copyL {a : Addr} {vs : List Value} (F : Loc X h₀ g₀ L s.heap g m mu) (ha : s.heap.IsList a vs.toArray) (hz : vs.length ≤ 1000)
    (h : ∀ D c h' g', Sub g g' → Loc X h₀ g₀ L h' g' m mu → g'.get? D = some (listOf vs.toArray c) → Q (.ref D) { s with heap := h' }) :
    wpAny (model pr w) A (call (.type "list") [.ref a]) Q E s := by
  obtain ⟨o, ho, hc, n, hd⟩ := ha
  refine call_list_seq (hsz := by rw [List.size_toArray, sizeLine_eq]; omega) a (.inl rfl) ho hc hd fun h' c' hk hD => ?_
  obtain ⟨g1, F1, s1, e1⟩ := F.take (h' := h') hk (fresh_size _) hD
  exact h _ c' h' g1 s1 F1 e1
theorem ints_of_get : ∀ {its : List Value} {ns : List Int}, its.length = ns.length → (∀ (i : Nat) v n, its[i]? = some v → ns[i]? = some n → ∃ t, v = .int n t) → IntsAre its ns
  | [], [], _, _ => .nil
  | v :: its, n :: ns, hl, h => by
    obtain ⟨t, rfl⟩ := h 0 v n rfl rfl
    exact .cons n t (ints_of_get (by simpa using hl) fun i v n h1 h2 => h (i + 1) v n (by simpa using h1) (by simpa using h2))
  | [], _ :: _, h, _ => by simp at h
  | _ :: _, [], h, _ => by simp at h
theorem ints_of_items {acc : Array Value} {n : Nat} (h : ItemsOf (fun i v => ∃ t, v = .int (0 + (i : Int) * 1) t) acc n) : IntsAre acc.toList ((List.range n).map fun i : Nat => (i : Int)) := by
  refine ints_of_get (by simp [h.1]) fun i v n h1 h2 => ?_
  obtain ⟨t, rfl⟩ := h.2 i v (by simpa using h1)
  rw [List.getElem?_map] at h2
  obtain ⟨j, hj, rfl⟩ := Option.map_eq_some_iff.mp h2
  obtain ⟨hlt, e⟩ := List.getElem?_eq_some_iff.mp hj
  rw [List.getElem_range] at e
  exact ⟨t, by rw [e]; simp⟩
theorem rangeL {r : Addr} {n : Nat} {t u v : Tok} (hh : A.handled = none) (F : Loc X h₀ g₀ L s.heap g m mu) (hr : IsRange s.heap r 0 n 1 t u v) (hz : n ≤ 1000)
    (h : ∀ D c (its : List Value) h' tk g', Sub g g' → Loc X h₀ g₀ L h' g' m mu → g'.get? D = some (listOf its.toArray c) → IntsAre its ((List.range n).map fun i : Nat => (i : Int)) → Q (.ref D) { s with heap := h', toks := tk }) :
    wpAny (model pr w) A (call (.type "list") [.ref r]) Q E s := by
  obtain ⟨h1, h2⟩ := range_facts n (by omega)
  refine call_list_range hh hr h2 h1 (by omega) fun h' tk acc c' hk hD hacc => ?_
  obtain ⟨g1, F1, s1, e1⟩ := F.take (h' := h') hk (fresh_size _) hD
  exact h _ c' acc.toList h' tk g1 s1 F1 (by simpa using e1) (ints_of_items hacc)
theorem sortedI {l : Addr} {vs : List Value} {ns : List Int} (F : Loc X h₀ g₀ L s.heap g m mu) (hl : g.IsList l vs.toArray) (hi : IntsAre vs ns) (h64 : ns.length < 64)
    (h : ∀ D c (its : List Value) (ms : List Int) h' tk g', Sub g g' → Loc X h₀ g₀ L h' g' m mu → g'.get? D = some (listOf its.toArray c) → IntsAre its ms → ms.Perm ns → ms.Pairwise (· ≤ ·) → Q (.ref D) { s with heap := h', toks := tk }) :
    wpAny (model pr w) A (call (.builtin "sorted") [.ref l]) Q E s := by
  refine kso_sorted F.fr F.news (IsList.sub hl F.sub) hi h64 fun D its ms c h' F' N' hlow a1 _ a2 a3 _ => ?_
  have nD := N' (D, _) (.head _)
  dsimp only at nD
  have fD : s.heap.get? D = none := by
    cases q : s.heap.get? D with
    | none => rfl
    | some o => exact absurd (hlow (D, o) (mem_allBut.mpr ⟨nD.2.1, q⟩)) (Nat.lt_irrefl _)
  have x0 : D ∉ X0 := fun q => by obtain ⟨o, eo⟩ := F.st.wm.at D q; rw [fD] at eo; cases eo
  have F1 := F.ext' (h' := h') (m' := m) (fun b o hb e => (N' (b, o) (.tail _ (mem_allBut.mpr ⟨hb, e⟩))).1) F'.ns
  have F2 := F1.adopt nD.1 (F.sub.alive _ fD) (F.st.alive _ fD) nD.2.1 x0 fun p hp q => ne_of_some (F.own p hp).1 fD q
  obtain ⟨g1, G1, s1, e1⟩ := F2.freeze (F.st.alive _ fD)
  exact h D c its ms h' s.toks g1 s1 G1 e1 a1 a2 a3
end
end Mine

end
section
set_option autoImplicit false
set_option maxHeartbeats 1000000
namespace Mine
noncomputable def bodyOf (w : World) (f : Addr) : List Stmt := match (KK w).lookup f with | some ⟨_, _, .func fd, _⟩ => (match fd.body with | .stmts b => b | _ => []) | _ => []
noncomputable abbrev lb (w : World) (k : Nat) : List Stmt := (bodyOf w 152).drop k
noncomputable abbrev lawN : List (Str × NameKind) := [("script", .local), ("numbers", .cell), ("told", .local), ("size", .local), ("order", .cell), ("parts", .local), ("lists", .cell), ("report", .cell), ("count", .local), ("dues", .local), ("whole", .local), ("bound", .cell), ("reach", .local), ("keys", .cell), ("places", .cell), ("sums", .cell),
  ("list", .globalImplicit), ("sum", .globalImplicit), ("len", .globalImplicit), ("_law_keys", .globalImplicit), ("TupleComp", .globalImplicit), ("range", .globalImplicit), ("sorted", .globalImplicit), ("_law_told", .globalImplicit), ("count_calls", .globalImplicit), ("bisect_left", .globalImplicit)]
noncomputable abbrev lawC (L : Addr) : List (Str × Addr) := cellsFrom (L + 1) lawN []
structure LawEnv (env : Env) (L : Addr) : Prop where
  e : EnvIs env lawN L (lawC L)
  code : env.code = .ref 151
  qual : env.qual = "law.<locals>."
/-- the numbers of the law -/
noncomputable def numsOfL (ns : List Int) : List Int := ns.take 4 ++ [4, 12, 3, 31, 20, 5, 45]
theorem nums_len (ns : List Int) : 7 ≤ (numsOfL ns).length ∧ (numsOfL ns).length ≤ 11 := by
  unfold numsOfL
  rw [List.length_append, List.length_take]
  simp
  omega
structure IntL (g : Heap) (l : Addr) (ns : List Int) : Prop where
  it : ∃ its : List Value, g.IsList l its.toArray ∧ IntsAre its ns
theorem IntL.sub {g g' : Heap} {l : Addr} {ns : List Int} (x : IntL g l ns) (s : Sub g g') : IntL g' l ns := by
  obtain ⟨its, h1, h2⟩ := x.it; exact ⟨its, IsList.sub h1 s, h2⟩
theorem ints_take {vs : List Value} {ns : List Int} (h : IntsAre vs ns) (k : Nat) : IntsAre (vs.take k) (ns.take k) := by
  induction h generalizing k with
  | nil => simp; exact .nil
  | cons n t _ ih => cases k with
    | zero => exact .nil
    | succ k => exact .cons n t (ih k)
theorem nums_ints {vs : List Value} {ns : List Int} (hi : IntsAre vs ns) (a b c d e f g : Tok) : IntsAre (vs.take 4 ++ [.int 4 a, .int 12 b, .int 3 c, .int 31 d, .int 20 e, .int 5 f, .int 45 g]) (numsOfL ns) :=
  PyProof.Rows.IntsAre.append (ints_take hi 4) (.cons _ _ (.cons _ _ (.cons _ _ (.cons _ _ (.cons _ _ (.cons _ _ (.cons _ _ .nil)))))))
section
variable {w : World} {mg mb : Str → Option Value} {A : Around} {E : Value → Shared → Prop} {s : Shared} {Q : Flow → Shared → Prop} {env : Env}
  {h₀ g₀ g : Heap} {L : Addr} {m : Str → Option Value}
theorem isCell_sub {g g' : Heap} {c : Addr} {v : Option Value} (x : g.IsCell c v) (s : Sub g g') : g'.IsCell c v := by
  obtain ⟨o, e, d⟩ := x; exact ⟨o, s _ _ e, d⟩
/-- numbers, told, size -/
theorem law_1 {sc : Addr} {vs : List Value} {ns : List Int} {c8 c7 c6 c5 c4 c3 c2 c1 : Obj} {v1 : Option Value} (e : LawEnv env L) (R : Room A 40) (W : Wd w mg mb g)
    (F : Loc X0 h₀ g₀ L s.heap g m [(L + 8, c8), (L + 7, c7), (L + 6, c6), (L + 5, c5), (L + 4, c4), (L + 3, c3), (L + 2, c2), (L + 1, c1)]) (h1 : c1.data = .cell v1) (hm : m "script" = some (.ref sc)) (hl : g.IsList sc vs.toArray) (hi : IntsAre vs ns) (hz : ns.length ≤ 1000) (hL : h₀.get? (L + 1) = none)
    (h : ∀ h' tk g' nl t u, Sub g g' → Loc X0 h₀ g₀ L h' g' (fun y => if y = "size" then some (.int (numsOfL ns).length u) else if y = "told" then some (.int (numsOfL ns).sum t) else m y) [(L + 8, c8), (L + 7, c7), (L + 6, c6), (L + 5, c5), (L + 4, c4), (L + 3, c3), (L + 2, c2)] →
      g'.IsCell (L + 1) (some (.ref nl)) → IntL g' nl (numsOfL ns) → wpAny (model pr w) A (execs (lb w 3) env) Q E { s with heap := h', toks := tk }) :
    wpAny (model pr w) A (execs (lb w 0) env) Q E s := by
  have b0 : lb w 0 = _ :: lb w 1 := rfl
  have b1 : lb w 1 = _ :: lb w 2 := rfl
  have b2 : lb w 2 = _ :: lb w 3 := rfl
  rw [b0]
  refine wpAny_execs_cons (wpAny_Assign_Name (wpAny_BinOp (wpAny_Call_NameR (ldB e.e W F.sub rfl boot_list (by decide) (PyProof.Rows.callWith_type1 (spliced_more (sliceTo (l := sc) (vs := vs) (k := 4) (t := s.toks) ?_)))))))
  refine ldL e.e F hm ⟨rfl, wpAny_Constant_int ⟨rfl, IsList.sub hl F.sub, by rw [hi.length]; omega, ?_⟩⟩
  dsimp only
  have F1 := F.push { cls := .type "slice", data := .fields #[.none, .int 4 s.toks, .none] }
  obtain ⟨g2, F2, s2, e2⟩ := F1.alloc (listOf (vs.take 4).toArray 0)
  rw [Heap.size_push] at e2
  refine spliced_none (copyL F2 (vs := vs.take 4) ⟨_, F2.sub _ _ e2, rfl, _, rfl⟩ (by rw [List.length_take]; omega) fun D c h3 g3 s3 F3 e3 => ?_)
  dsimp only
  with_reducible refine wpAny_List ?_
  refine spliced_more (wpAny_Constant_int ?_)
  dsimp only
  refine spliced_more (wpAny_Constant_int ?_)
  dsimp only
  refine spliced_more (wpAny_Constant_int ?_)
  dsimp only
  refine spliced_more (wpAny_Constant_int ?_)
  dsimp only
  refine spliced_more (wpAny_Constant_int ?_)
  dsimp only
  refine spliced_more (wpAny_Constant_int ?_)
  dsimp only
  refine spliced_more (wpAny_Constant_int ?_)
  refine spliced_none ⟨by show 7 ≤ sizeLine; decide, ?_⟩
  dsimp only
  obtain ⟨g4, F4, s4, e4⟩ := F3.alloc (listOf (List.toArray [_, _, _, _, _, _, _]) 0)
  refine addL F4 (vs := vs.take 4) ⟨_, s4 _ _ e3, rfl, _, rfl⟩ ⟨_, e4, rfl, _, rfl⟩ (by rw [List.length_take]; simp; omega) fun D5 h5 g5 s5 F5 e5 => ?_
  have hN : IntL g5 D5 (numsOfL ns) := ⟨_, ⟨_, e5, rfl, _, rfl⟩, nums_ints hi _ _ _ _ _ _ _⟩
  clear e4 e3 F4 F3 F2 F1 F
  have F5 : Loc X0 h₀ g₀ L h5 g5 m ((L + 1, c1) :: [(L + 8, c8), (L + 7, c7), (L + 6, c6), (L + 5, c5), (L + 4, c4), (L + 3, c3), (L + 2, c2)]) := F5.perm (List.perm_append_comm (l₁ := [(L + 1, c1)]))
  refine stC e.e F5 h1 fun h6 oc F6 d6 => ?_
  obtain ⟨g7, F7, s7, e7⟩ := F6.freeze hL
  dsimp only
  have hc7 : g7.IsCell (L + 1) (some (.ref D5)) := ⟨_, e7, d6⟩
  have hN7 := hN.sub s7
  have sg := ((((s2.trans s3).trans s4).trans s5).trans s7)
  have W7 := W.sub sg
  obtain ⟨its, i1, i2⟩ := hN7.it
  rw [b1]
  refine wpAny_execs_cons (wpAny_Assign_Name (wpAny_Call_NameR (ldB e.e W7 F7.sub rfl boot_sum (by decide) (PyProof.Rows.callWith_builtin1 (spliced_more (ldC e.e (isCell_sub hc7 F7.sub) (spliced_none ?_)))))))
  refine sumI R.hh F7 (IsList.sub i1 F7.sub) i2 fun h8 tk8 t8 F8 => ?_
  refine stL e.e F8 fun h9 F9 => ?_
  dsimp only
  rw [b2]
  refine wpAny_execs_cons (wpAny_Assign_Name (wpAny_Call_NameR (ldB e.e W7 F9.sub rfl boot_len (by decide) (PyProof.Rows.callWith_builtin1 (spliced_more (ldC e.e (isCell_sub hc7 F9.sub) (spliced_none (PyProof.Rows.len_list (IsList.sub i1 F9.sub) (by have := nums_len ns; rw [List.size_toArray, i2.length]; omega) ?_))))))))
  dsimp only
  rw [List.size_toArray, i2.length]
  refine stL e.e F9 fun h10 F10 => ?_
  exact h h10 _ g7 D5 _ _ sg F10 hc7 hN7
end
end Mine

end
section
set_option autoImplicit false
set_option maxHeartbeats 1000000
namespace Mine
section
variable {w : World} {mg mb : Str → Option Value} {A : Around} {E : Value → Shared → Prop} {s : Shared} {Q : Flow → Shared → Prop} {env : Env}
  {h₀ g₀ g : Heap} {L : Addr} {m : Str → Option Value}
/-- keys, order -/
theorem law_2 {told : Int} {t : Tok} {c8 c7 c6 c5 c4 c3 c2 : Obj} {v6 v2 : Option Value} (e : LawEnv env L) (R : Room A 40) (W : Wd w mg mb g)
    (F : Loc X0 h₀ g₀ L s.heap g m [(L + 8, c8), (L + 7, c7), (L + 6, c6), (L + 5, c5), (L + 4, c4), (L + 3, c3), (L + 2, c2)]) (d6 : c6.data = .cell v6) (d2 : c2.data = .cell v2) (hm : m "told" = some (.int told t)) (hL6 : h₀.get? (L + 6) = none) (hL2 : h₀.get? (L + 2) = none)
    (h : ∀ h' tk g' kv ov, Sub g g' → Loc X0 h₀ g₀ L h' g' m [(L + 8, c8), (L + 7, c7), (L + 5, c5), (L + 4, c4), (L + 3, c3)] →
      g'.IsCell (L + 6) (some kv) → KeysAt g' kv (keysOf told) → g'.IsCell (L + 2) (some ov) → OrderAt g' ov (keysOf told) → wpAny (model pr w) A (execs (lb w 5) env) Q E { s with heap := h', toks := tk }) :
    wpAny (model pr w) A (execs (lb w 3) env) Q E s := by
  have b3 : lb w 3 = _ :: lb w 4 := rfl
  have b4 : lb w 4 = _ :: lb w 5 := rfl
  rw [b3]
  have fn : FnAt 104 s.heap := ⟨_, _, _, _, F.sub _ _ (W.kin 104 _ rfl)⟩
  refine wpAny_execs_cons (wpAny_Assign_Name (wpAny_Call_NameR (ldG e.e W F.sub rfl (callWith_F fn (spliced_more (ldL e.e F hm (spliced_none ⟨fn, ?_⟩)))))))
  refine keys_spec (n := 39) R W F.sub F.st.wm fun kv h2 tk2 g2 st2 hK => ?_
  have F2 := F.call st2
  have F2 : Loc X0 h₀ g₀ L h2 g2 m ((L + 6, c6) :: [(L + 8, c8), (L + 7, c7), (L + 5, c5), (L + 4, c4), (L + 3, c3), (L + 2, c2)]) := F2.perm (List.perm_append_comm (l₁ := [(L + 6, c6)]) (l₂ := [(L + 8, c8), (L + 7, c7)]) |>.append_right [(L + 5, c5), (L + 4, c4), (L + 3, c3), (L + 2, c2)])
  refine stC e.e F2 d6 fun h3 o6 F3 d3 => ?_
  obtain ⟨g4, F4, s4, e4⟩ := F3.freeze hL6
  dsimp only
  have hc6 : g4.IsCell (L + 6) (some kv) := ⟨_, e4, d3⟩
  have W4 := W.sub (st2.sub.trans s4)
  have hK4 := hK.sub s4
  rw [b4]
  refine wpAny_execs_cons (wpAny_Assign_Name (wpAny_Call_NameR (ldG e.e W4 F4.sub rfl (callWith_K (K := KK w) (W4.sub F4.sub).kin rfl (spliced_more (ldC e.e (isCell_sub hc6 F4.sub) (spliced_none ⟨(W4.sub F4.sub).kin, ?_⟩)))))))
  refine order_spec (n := 38) R W4 F4.sub F4.st.wm hK4 fun ov h5 tk5 g5 st5 hO => ?_
  have F5 := F4.call st5
  have F5 : Loc X0 h₀ g₀ L h5 g5 m ((L + 2, c2) :: [(L + 8, c8), (L + 7, c7), (L + 5, c5), (L + 4, c4), (L + 3, c3)]) := F5.perm (List.perm_append_comm (l₁ := [(L + 2, c2)]))
  refine stC e.e F5 d2 fun h6 o2 F6 d7 => ?_
  obtain ⟨g7, F7, s7, e7⟩ := F6.freeze hL2
  dsimp only
  exact h h6 _ g7 kv ov ((st2.sub.trans s4).trans (st5.sub.trans s7)) F7 (isCell_sub hc6 (st5.sub.trans s7)) (hK4.sub (st5.sub.trans s7)) ⟨_, e7, d7⟩ (hO.sub s7)
end
end Mine

end
section
set_option autoImplicit false
set_option maxHeartbeats 1000000
namespace Mine
theorem newEnvOwn {M : Model} {A : Around} {E : Value → Shared → Prop} {s : Shared} {scope : Scope} {globals : Addr} {closure : List (Str × Addr)} {qual : Str} {outer : Env} {Q : Env → Shared → Prop}
    (h : Q (newEnv scope s.heap.objs.size globals (cellsFrom (s.heap.objs.size + 1) scope.names closure) qual none .none (some outer) 0) { s with heap := pushCells (s.heap.push { cls := .type "dict", data := .dict #[] }) scope.names }) :
    wpAny M A (newFunctionEnv scope globals closure [] qual none .none (some outer)) Q E s := by
  simp only [newFunctionEnv, Option.isSome_some, if_true]
  refine wpAny_bind (wpAny_alloc ?_)
  refine wpAny_bind (wpAny_layCells _ (fun name kind cells => by cases hkc : kind == NameKind.cell <;> simp) _ _ _ _ ?_)
  rw [show ({ s with heap := s.heap.push { cls := .type "dict", data := .dict #[] } } : Shared).heap.objs.size = s.heap.objs.size + 1 from Heap.size_push ..]
  exact wpAny_bind (wpAny_pure (wpAny_pure h))
section
variable {w : World} {mg mb : Str → Option Value} {A : Around} {E : Value → Shared → Prop} {s : Shared} {env : Env} {names : List (Str × NameKind)} {L : Addr} {cl : List (Str × Addr)}
  {X : List Addr} {h₀ g₀ h g h' g' : Heap} {m m' : Str → Option Value} {mu mu' : List (Addr × Obj)}
/-- a comprehension over a range, whose own variable lies in a cell -/
theorem comp_rangeC {elt target iter : PySem.Expr} {ifs : List PySem.Expr} {scope : Scope} {pos : Pos} {cl' : List (Str × Addr)} {r : Addr} {n : Nat} {t u v : Tok} {x : Str} {RR : Value → Addr → Result → Shared → Prop}
    (e : EnvIs env names L cl) (hk : scope.kind = .function) (hcell : ∀ (k : Nat) (acc : List (Str × Addr)), cellsFrom k scope.names acc = (x, k) :: acc) (hpush : ∀ h : Heap, pushCells h scope.names = h.push { cls := .type "cell", data := .cell none })
    (hh : A.handled = none) (hr : IsRange s.heap r 0 n 1 t u v) (hsz : n ≤ 2 ^ 20)
    (F : Loc X h₀ g₀ L s.heap g m mu) (J : Nat → Heap → List Value → Prop) (j0 : J 0 g [])
    (hgo : ∀ I v, letOwnedTupleGo target (.ref I) v = pure ())
    (turn : ∀ s' i t h g' ys mC tk C K D c oL oK vK cenv (E' : Value → Shared → Prop), (∃ h₂, s' = { s with heap := h₂ }) → i < n → Sub g g' → J i g' ys → EnvIs cenv (relab names scope.names) C ((x, K) :: cl') → Loc X h₀ g₀ C h g' mC ((D, lst ys) :: c :: (L, oL) :: (K, oK) :: mu) → oK.data = .cell vK →
      wpAny (model pr w) A (assign target cenv (.int i t)) (fun _ s₂ => ∃ oK' vK', oK'.data = .cell vK' ∧
        wpAny (model pr w) A (forIn ifs true fun c r => if r = true then do let ok ← isTrue c cenv (eval c cenv); pure (ForInStep.yield ok) else pure (ForInStep.yield r))
          (TestEnd X h₀ g₀ C s' ((D, lst ys) :: c :: (L, oL) :: (K, oK') :: mu) g' (fun g2 s₃ => wpAny (model pr w) A (eval elt cenv) (EltEnd X h₀ g₀ C s' ((D, lst ys) :: c :: (L, oL) :: (K, oK') :: mu) g2 (fun g3 y => J (i + 1) g3 (ys ++ [y]))) E' s₃) (fun g2 => J (i + 1) g2 ys)) E' s₂) E' { s' with heap := h, toks := tk })
    (done : ∀ C D h g' ys mC tk oL, Sub g g' → J n g' ys → Loc X h₀ g₀ C h g' mC ((D, lst ys) :: (L, oL) :: mu) → (∀ h : Heap, h.get? L = some oL → h.Ns L m) → h₀.get? D = none → RR (.ref D) C (.ok .next) { s with heap := h, toks := tk }) :
    wpAny (model pr w) A (pyIter (.ref r)) (fun it s₂ => wpAny (model pr w) A (newList []) (fun acc s₃ => wpAny (model pr w) A (newFunctionEnv scope env.globals cl' [] env.qual none .none (some env)) (fun cenv s₄ =>
      codeAny (model pr w) A (.compStart (.ListComp elt [⟨target, iter, ifs, 0⟩] scope pos) 0 it acc { cenv with scope := relabel scope env }) (RR acc cenv.locals) s₄) E s₃) E s₂) E s := by
  obtain ⟨hsize, hsm⟩ := range_facts n hsz
  refine wpAny_pyIter_range hr hsm ?_
  have hI0 : h₀.get? s.heap.objs.size = none := F.fresh
  have F1 := F.made { cls := .type "range_iterator", data := .fields #[rawInt 0, rawInt (Builtin.Range.rangeSize 0 n 1), rawInt 1] }
  rw [hsize] at F1 ⊢
  have hst : IsRangeIter (s.heap.push { cls := .type "range_iterator", data := .fields #[rawInt 0, rawInt (n : Int), rawInt 1] }) s.heap.objs.size ((0 : Int) + ((0 : Nat) : Int) * 1) ((n : Int) - ((0 : Nat) : Int)) 1 := by
    have := (F1.own _ (.head _)).1
    simpa using this
  generalize s.heap.push { cls := .type "range_iterator", data := .fields #[rawInt 0, rawInt (n : Int), rawInt 1] } = H0 at F1 hst ⊢
  generalize s.heap.objs.size = I at F1 hI0 hst ⊢
  have WW := LCg.range_walks (prog := pr) (w := w) (A := A) (I := I) hh 0 n
  generalize hoI : ({ cls := .type "range_iterator", data := .fields #[rawInt 0, rawInt (n : Int), rawInt 1] } : Obj) = oI at F1
  refine wpAny_newObj_type (newEnvOwn ?_)
  dsimp only
  rw [hpush, hcell]
  have FD := F1.made (lst [])
  have hD0 : h₀.get? H0.objs.size = none := F1.fresh
  have kD : Sub H0 (H0.push { cls := .type "list", dict := none, data := .seq ([] : List Value).toArray }) := Sub.push _ _
  generalize hDe : H0.objs.size = D at FD hD0 ⊢
  have FD : Loc X h₀ g₀ L (H0.push { cls := .type "list", dict := none, data := .seq ([] : List Value).toArray }) g m ((D, lst []) :: (I, oI) :: mu) := FD
  generalize hH : H0.push { cls := .type "list", dict := none, data := .seq ([] : List Value).toArray } = H at FD kD ⊢
  obtain ⟨oL, eL⟩ := FD.at
  have hnL := ns_of_obj FD.ns eL
  have k1 : Sub H (H.push { cls := .type "dict", data := .dict #[] }) := Sub.push _ _
  have F2 : Loc X h₀ g₀ H.objs.size (H.push { cls := .type "dict", data := .dict #[] }) g _ ((L, oL) :: (D, lst []) :: (I, oI) :: mu) := loc_comp (s := { s with heap := H }) FD oL eL k1 (Heap.Ns.new ..) (fresh_size _)
  have F3 := F2.made { cls := .type "cell", data := .cell none }
  have k2 : Sub H ((H.push { cls := .type "dict", data := .dict #[] }).push { cls := .type "cell", data := .cell none }) := k1.trans (Sub.push _ _)
  rw [Heap.size_push] at F3
  generalize hC2 : (H.push { cls := .type "dict", data := .dict #[] }).push { cls := .type "cell", data := .cell none } = H3 at F3 k2 ⊢
  generalize hK : H.objs.size + 1 = K at F3 ⊢
  generalize hC : H.objs.size = C at F3 ⊢
  have F3 : Loc X h₀ g₀ C H3 g _ ((D, lst []) :: (I, oI) :: (L, oL) :: (K, { cls := .type "cell", data := .cell none }) :: mu) :=
    F3.perm (((List.perm_append_comm (l₁ := [(D, lst []), (I, oI)]) (l₂ := [(L, oL), (K, { cls := .type "cell", data := .cell none })])).trans (List.Perm.swap _ _ _)).append_right mu)
  have eC : EnvIs { newEnv scope C env.globals ((x, K) :: cl') env.qual none .none (some env) 0 with scope := relabel scope env } (relab names scope.names) C ((x, K) :: cl') :=
    ⟨relabel_names e scope, hk, rfl, rfl, e.glob, e.blt⟩
  have st1 : IsRangeIter H3 I ((0 : Int) + ((0 : Nat) : Int) * 1) ((n : Int) - ((0 : Nat) : Int)) 1 := WW.frame 0 H0 H3 hst fun y _ oy ey => k2 _ _ (kD _ _ ey)
  have loop : ∀ tk0, codeAny (model pr w) A (.compLoop (.ListComp elt [⟨target, iter, ifs, 0⟩] scope pos) 0 (.ref I) (.ref D) { newEnv scope C env.globals ((x, K) :: cl') env.qual none .none (some env) 0 with scope := relabel scope env }) (RR (.ref D) C) { s with heap := H3, toks := tk0 } := by
    intro tk0
    refine comp_core (s := { s with heap := H3 }) WW hsz hI0 (fun b hb hne => absurd (List.mem_singleton.mp hb) hne) (fun i h st => ⟨_, st⟩) F3 st1 (fun l => ∃ oK vK, l = (K, oK) :: mu ∧ oK.data = .cell vK) ⟨_, none, rfl, rfl⟩ J j0 (fun i v s' Q' E' _ _ hq => by rw [hgo]; exact wpAny_pure hq) ?_ ?_
    · rintro i v h g' ys mC tk c mu1 E' hi ⟨tv, rfl⟩ sg j ⟨oK, vK, rfl, dK⟩ G
      rw [Int.zero_add]
      exact wpAny_mono (turn { s with heap := H3 } i tv h g' ys mC tk C K D c oL oK vK _ E' ⟨H3, rfl⟩ hi sg j eC G dK) (fun _ s2 ⟨oK', vK', dK', q2⟩ => ⟨_, ⟨oK', vK', rfl, dK'⟩, q2⟩) fun _ _ x => x
    · rintro h g' ys mC tk mu1 sg j ⟨oK, vK, rfl, dK⟩ G
      have G : Loc X h₀ g₀ C h g' mC ((K, oK) :: (D, lst ys) :: (L, oL) :: mu) := G.perm ((List.perm_append_comm (l₁ := [(K, oK)]) (l₂ := [(D, lst ys), (L, oL)])).append_right mu)
      exact done C D h g' ys mC tk oL sg j G.drop hnL hD0
  exact codeAny_compStart_list (loop _) (WW.self 0 _ _ _ st1 (loop _))
end
end Mine

end
section
set_option autoImplicit false
set_option maxHeartbeats 1000000
namespace Mine
/-- the numbers of one part -/
noncomputable def partN (xs : List Int) (t : Nat) : List Int := xs.filter fun x => x.fmod 3 == (t : Int)
structure PartsAt (w : World) (g : Heap) (l : Addr) (P : List (List PRow)) (xs : List Int) : Prop where
  lst : ∃ vs : List Value, g.IsList l vs.toArray ∧ All2 (ListAt g) vs P
  rows : ∀ p ∈ P, RowsAt w g p
  nums : P.map (fun p => p.map (·.2)) = (List.range 3).map (partN xs)
theorem PartsAt.sub {w : World} {g g' : Heap} {l : Addr} {P : List (List PRow)} {xs : List Int} (x : PartsAt w g l P xs) (s : Sub g g') : PartsAt w g' l P xs := by
  obtain ⟨vs, h1, h2⟩ := x.lst
  exact ⟨⟨vs, IsList.sub h1 s, h2.mono fun _ _ q => q.sub s⟩, fun p hp => (x.rows p hp).sub s, x.nums⟩
section
variable {w : World} {mg mb : Str → Option Value} {A : Around} {E : Value → Shared → Prop} {s : Shared} {Q : Flow → Shared → Prop} {env : Env} {names : List (Str × NameKind)} {cl : List (Str × Addr)}
  {h₀ g₀ g : Heap} {L : Addr} {m : Str → Option Value} {mu : List (Addr × Obj)}
theorem swaps_yes (e : EnvIs env names L cl) {elt : PySem.Expr} {gens : List Comprehension} {sc : Scope} {pos py : Pos} {t : Str} {line : Nat} (h1 : names.lookup t = some .local) (h2 : (py.line == pos.line) = true) (h3 : (sc.names.any fun x => x.1 == t && (x.2 == .local || x.2 == .cell)) = false) :
    swapsWith (.ListComp elt gens sc pos) (some (.Name t py)) line env = pure true := by
  have hb : env.blockKind = .function := by unfold Env.blockKind; rw [e.kind]; rfl
  show pure (env.blockKind == .function && env.kindOf t == some .local && py.line == pos.line && !(sc.names.any fun (x : Str × NameKind) => x.1 == t && (x.2 == .local || x.2 == .cell))) = _
  rw [hb, e.kindOf, h1, h2, h3]
  rfl
theorem swaps_no (e : EnvIs env names L cl) {elt : PySem.Expr} {gens : List Comprehension} {sc : Scope} {pos py : Pos} {t : Str} {line : Nat} (h1 : names.lookup t = some .cell) :
    swapsWith (.ListComp elt gens sc pos) (some (.Name t py)) line env = pure false := by
  show pure (env.blockKind == .function && env.kindOf t == some .local && py.line == pos.line && !(sc.names.any fun (x : Str × NameKind) => x.1 == t && (x.2 == .local || x.2 == .cell))) = _
  rw [e.kindOf, h1]
  have : ((some NameKind.cell : Option NameKind) == some NameKind.local) = false := rfl
  rw [this]
  simp
/-- parts -/
theorem law_3 {nl : Addr} {xs : List Int} (e : LawEnv env L) (R : Room A 40) (W : Wd w mg mb g)
    (F : Loc X0 h₀ g₀ L s.heap g m mu) (hc : g.IsCell (L + 1) (some (.ref nl))) (hN : IntL g nl xs) (hz : xs.length ≤ 11)
    (h : ∀ h' tk g' pl P, Sub g g' → Loc X0 h₀ g₀ L h' g' (fun y => if y = "parts" then some (.ref pl) else m y) mu → PartsAt w g' pl P xs → wpAny (model pr w) A (execs (lb w 6) env) Q E { s with heap := h', toks := tk }) :
    wpAny (model pr w) A (execs (lb w 5) env) Q E s := by
  have b5 : lb w 5 = _ :: lb w 6 := rfl
  rw [b5]
  obtain ⟨its, i1, i2⟩ := hN.it
  refine wpAny_execs_cons (asComp (swaps_yes e.e rfl rfl rfl) (closed e.e rfl) rfl (by decide) (by intro _; rfl) ?_)
  refine wpAny_Call_NameR (ldB e.e W F.sub rfl boot_range (by decide) (PyProof.Rows.callWith_type1 (spliced_more (wpAny_Constant_int (spliced_none (call_range_1 ?_))))))
  dsimp only
  have F1 := F.push { cls := .type "range", data := .fields #[.int 0 (s.toks + 1), .int 3 s.toks, .int 1 (s.toks + 1 + 1)] }
  refine comp_rangeC (n := 3) (x := "turn") e.e rfl (fun k acc => rfl) (fun h => rfl) R.hh (Heap.get?_push_size _ rfl) (by decide) F1
    (fun i g' ys => ∃ P : List (List PRow), All2 (ListAt g') ys P ∧ (∀ p ∈ P, RowsAt w g' p) ∧ P.map (fun p => p.map (·.2)) = (List.range i).map (partN xs)) ⟨[], .nil, by simp, rfl⟩ (by intro _ _; rfl) ?_ ?_
  · rintro s' i t h2 g2 ys mC tk2 C K D c oL oK vK cenv E2 ⟨h92, rfl⟩ hi sg2 ⟨P, a1, a2, a3⟩ eC G dK
    have G : Loc X0 h₀ g₀ C h2 g2 mC ((K, oK) :: ((D, lst ys) :: c :: (L, oL) :: mu)) := G.perm ((List.perm_append_comm (l₁ := [(K, oK)]) (l₂ := [(D, lst ys), c, (L, oL)])).append_right mu)
    refine wpAny_assign_Name (stC eC G dK fun h3 oK' G3 dK' => ?_)
    refine ⟨oK', _, dK', ?_⟩
    have G3' : Loc X0 h₀ g₀ C h3 g2 mC ((D, lst ys) :: c :: (L, oL) :: (K, oK') :: mu) := G3.perm ((List.perm_append_comm (l₁ := [(D, lst ys), c, (L, oL)]) (l₂ := [(K, oK')])).append_right mu)
    refine wpAny_tests_nil ⟨h3, g2, _, _, rfl, Sub.refl _, G3', ?_⟩
    simp only [if_true]
    refine evComp (closed eC rfl) rfl (by decide) (by intro _; rfl) ?_
    refine ldC eC (isCell_sub hc (sg2.trans G3'.sub)) ?_
    have W2 := W.sub sg2
    refine comp_list eC rfl (by decide) R.hh (IsList.sub i1 sg2) (by rw [i2.length]; omega) G3' (fun j g' zs => ∃ ps : List PRow, zs = ps.map (·.1) ∧ RowsAt w g' ps ∧ ps.map (·.2) = partN (xs.take j) i) ⟨[], rfl, (fun p hp => by cases hp), rfl⟩ ?_ ?_ ?_
    · intro I j v s' Q' E'' _ _ hq
      exact wpAny_pure hq
    · rintro s' j v h5 g5 zs mC5 tk5 C5 D5 c5 oL5 cenv5 E5 ⟨h95, rfl⟩ hv sg5 ⟨ps, rfl, p2, p3⟩ eC5 G5
      obtain ⟨x, tx, hx, rfl⟩ := ints_get i2 j v hv
      have hnext : xs.take (j + 1) = xs.take j ++ [x] := by rw [List.take_add_one, hx]; rfl
      refine wpAny_assign_Name (stL eC5 G5 fun h6 G6 => ?_)
      dsimp only
      refine wpAny_tests_one (wpAny_isTrue_Compare1 (wpAny_BinOp (ldL eC5 G6 rfl (wpAny_Constant_int (mod_int' (by decide) ?_)))))
      dsimp only
      refine ldM eC5 G6 (.tail _ (.tail _ (.tail _ (.tail _ (.tail _ (.tail _ (.head _))))))) dK' ?_
      refine PyProof.Rows.eq_int (wpAny_truthy_bool ?_)
      refine ⟨h6, g5, _, _, rfl, Sub.refl _, G6, ?_⟩
      have W5 := W2.sub sg5
      by_cases hb : (x.fmod 3 == (i : Int)) = true
      · rw [if_pos hb]
        have fn : FnAt 97 h6 := ⟨_, _, _, _, G6.sub _ _ (W5.kin 97 _ rfl)⟩
        refine wpAny_Call_NameR (ldG eC5 W5 G6.sub rfl (callWith_F fn (spliced_more (ldL eC5 G6 rfl (spliced_none ⟨fn, ?_⟩)))))
        refine row_spec (n := 39) R W5 G6.sub G6.st.wm fun v7 h7 tk7 g7 st7 hr => ?_
        refine ⟨h7, g7, _, tk7, rfl, st7.sub, G6.call st7, ps ++ [(v7, x)], by simp, ?_, ?_⟩
        · refine fun p hp => ?_
          rcases List.mem_append.mp hp with hp | hp
          · exact (p2 p hp).sub st7.sub
          · rw [List.mem_singleton.mp hp]; exact hr
        · rw [hnext, List.map_append, p3]
          unfold partN
          rw [List.filter_append]
          simp [hb]
      · rw [if_neg hb]
        refine ⟨ps, rfl, p2, ?_⟩
        rw [hnext, p3]
        unfold partN
        rw [List.filter_append]
        simp [hb]
    · intro C5 D5 h5 g5 zs mC5 tk5 oL5 sg5 ⟨ps, ez, p2, p3⟩ G5 hn5 hD5
      subst ez
      refine comp_fin G5 hn5 G3'.hi hD5 fun h6 g6 s6 G6 e6 => ?_
      refine ⟨h6, g6, _, _, rfl, sg5.trans s6, G6, P ++ [ps], ?_, ?_, ?_⟩
      · exact (a1.mono fun _ _ q => q.sub (sg5.trans s6)).append (.cons ⟨D5, rfl, ⟨_, e6, rfl, _, rfl⟩⟩ .nil)
      · intro p hp
        rcases List.mem_append.mp hp with hp | hp
        · exact (a2 p hp).sub (sg5.trans s6)
        · rw [List.mem_singleton.mp hp]; exact RowsAt.sub p2 s6
      · rw [List.map_append, a3, List.range_succ, List.map_append]
        rw [i2.length, List.take_length] at p3
        simp [p3]
  · intro C D h2 g2 ys mC tk2 oL sg2 ⟨P, a1, a2, a3⟩ G hn hD
    refine comp_finA e.e G hn F1.hi hD rfl fun h3 g3 tk3 s3 G3 e3 => ?_
    exact h h3 tk3 g3 D P (sg2.trans s3) G3 ⟨⟨ys, ⟨_, e3, rfl, _, rfl⟩, a1.mono fun _ _ q => q.sub s3⟩, fun p hp => (a2 p hp).sub s3, a3⟩
end
end Mine

end
section
set_option autoImplicit false
set_option maxHeartbeats 1000000
namespace Mine
theorem PartsAt.three {w : World} {g : Heap} {l : Addr} {P : List (List PRow)} {xs : List Int} (x : PartsAt w g l P xs) : P.length = 3 := by
  have := congrArg List.length x.nums
  simpa using this
theorem PartsAt.few {w : World} {g : Heap} {l : Addr} {P : List (List PRow)} {xs : List Int} (x : PartsAt w g l P xs) : ∀ p ∈ P, p.length ≤ xs.length := by
  intro p hp
  have : p.map (·.2) ∈ P.map (fun p => p.map (·.2)) := List.mem_map.mpr ⟨p, hp, rfl⟩
  rw [x.nums] at this
  obtain ⟨t, _, e⟩ := List.mem_map.mp this
  have := congrArg List.length e
  rw [List.length_map] at this
  rw [← this]
  exact List.length_filter_le _ _
section
variable {w : World} {mg mb : Str → Option Value} {A : Around} {E : Value → Shared → Prop} {s : Shared} {Q : Flow → Shared → Prop} {env : Env}
  {h₀ g₀ g : Heap} {L : Addr} {m : Str → Option Value} {mu : List (Addr × Obj)}
/-- lists -/
theorem law_4 {pl : Addr} {P : List (List PRow)} {xs : List Int} {ov : Value} {ks : Keys} {c3 : Obj} {v3 : Option Value} (e : LawEnv env L) (R : Room A 40) (W : Wd w mg mb g)
    (F : Loc X0 h₀ g₀ L s.heap g m ((L + 3, c3) :: mu)) (d3 : c3.data = .cell v3) (hL3 : h₀.get? (L + 3) = none) (hm : m "parts" = some (.ref pl)) (hP : PartsAt w g pl P xs) (hz : xs.length ≤ 11) (hc : g.IsCell (L + 2) (some ov)) (hO : OrderAt g ov ks) (hk : KeysOk ks)
    (h : ∀ h' tk g' ll vs, Sub g g' → Loc X0 h₀ g₀ L h' g' m mu → g'.IsCell (L + 3) (some (.ref ll)) → ListsAt w ks g' ll vs (P.map (sortR ks)) → wpAny (model pr w) A (execs (lb w 7) env) Q E { s with heap := h', toks := tk }) :
    wpAny (model pr w) A (execs (lb w 6) env) Q E s := by
  have b6 : lb w 6 = _ :: lb w 7 := rfl
  rw [b6]
  obtain ⟨pvs, i1, i2⟩ := hP.lst
  refine wpAny_execs_cons (wpAny_Assign_Name (evComp (closed e.e rfl) rfl (by decide) (by intro _; rfl) ?_) (swaps_no e.e rfl))
  refine ldL e.e F hm ?_
  refine comp_list e.e rfl (by decide) R.hh i1 (by rw [i2.length, hP.three]; omega) F
    (fun i g' ys => All2 (ListAt g') ys ((P.take i).map (sortR ks))) .nil ?_ ?_ ?_
  · intro I j v s' Q' E'' _ _ hq
    exact wpAny_pure hq
  · intro s' i v h2 g2 ys mC tk2 C D c oL cenv E2 hs' hv sg2 a1 eC G
    refine abs2 fun T hT => ?_
    obtain ⟨h92, rfl⟩ := hs'
    obtain ⟨p, hp, l, rfl, hl⟩ := i2.get hv
    have hpm := List.mem_of_getElem? hp
    refine wpAny_assign_Name (stL eC G fun h3 G3 => ?_)
    dsimp only
    refine wpAny_tests_nil (hT _ _ ⟨h3, g2, _, _, rfl, Sub.refl _, G3, ?_⟩)
    clear hT T
    rw [if_pos rfl]
    refine abs1 fun T hT => ?_
    have W2 := W.sub sg2
    have fn : FnAt 123 h3 := ⟨_, _, _, _, G3.sub _ _ (W2.kin 123 _ rfl)⟩
    refine wpAny_Call_NameR (ldG eC W2 G3.sub rfl (callWith_F fn (spliced_more (ldC eC (isCell_sub hc (sg2.trans G3.sub)) (spliced_more (ldL eC G3 rfl (spliced_none ⟨fn, ?_⟩)))))))
    refine listed_spec (n := 20) (R.le (by decide)) W2 G3.sub G3.st.wm (hO.sub sg2) hk (IsList.sub hl sg2) ((hP.rows p hpm).sub sg2) (by have := hP.few p hpm; omega) fun D4 h4 tk4 g4 st4 hl4 => ?_
    refine hT _ _ ⟨h4, g4, _, tk4, rfl, st4.sub, G3.call st4, ?_⟩
    rw [List.take_add_one, hp]
    simp only [Option.toList_some, List.map_append, List.map_cons, List.map_nil]
    exact (a1.mono fun _ _ q => q.sub st4.sub).append (.cons ⟨D4, rfl, hl4⟩ .nil)
  · intro C D h2 g2 ys mC tk2 oL sg2 a1 G hn hD
    refine comp_fin G hn F.hi hD fun h3 g3 s3 G3 e3 => ?_
    refine stC e.e G3 d3 fun h4 oc G4 d4 => ?_
    obtain ⟨g5, G5, s5, e5⟩ := G4.freeze hL3
    dsimp only
    refine h h4 _ g5 D ys ((sg2.trans s3).trans s5) G5 ⟨_, e5, d4⟩ ⟨⟨_, s5 _ _ e3, rfl, _, rfl⟩, ?_, ?_, ?_, ?_, by rw [List.length_map, hP.three]⟩
    · rw [i2.length, List.take_length] at a1
      exact a1.mono fun _ _ q => q.sub (s3.trans s5)
    · intro l hl
      obtain ⟨p, hp, rfl⟩ := List.mem_map.mp hl
      exact fun q hq => (hP.rows p hp q (mem_sortR.mp hq)).sub ((sg2.trans s3).trans s5)
    · intro l hl
      obtain ⟨p, hp, rfl⟩ := List.mem_map.mp hl
      exact sortR_srt ks p
    · intro l hl
      obtain ⟨p, hp, rfl⟩ := List.mem_map.mp hl
      rw [sortR_length]
      have := hP.few p hp
      omega
end
end Mine

end
section
set_option autoImplicit false
set_option maxHeartbeats 1000000
namespace Mine
section
variable {w : World} {mg mb : Str → Option Value} {A : Around} {E : Value → Shared → Prop} {s : Shared} {Q : Flow → Shared → Prop} {env : Env}
  {h₀ g₀ g : Heap} {L : Addr} {m : Str → Option Value} {mu : List (Addr × Obj)}
/-- report -/
theorem law_5 {pl : Addr} {P0 P1 P2 : List PRow} {xs : List Int} {kv : Value} {ks : Keys} {c4 : Obj} {v4 : Option Value} (e : LawEnv env L) (R : Room A 40) (W : Wd w mg mb g)
    (F : Loc X0 h₀ g₀ L s.heap g m ((L + 4, c4) :: mu)) (d4 : c4.data = .cell v4) (hL4 : h₀.get? (L + 4) = none) (hm : m "parts" = some (.ref pl)) (hP : PartsAt w g pl [P0, P1, P2] xs) (hz : xs.length ≤ 11) (hn : 2 ≤ (P0 ++ P1 ++ P2).length) (hc : g.IsCell (L + 6) (some kv)) (hK : KeysAt g kv ks)
    (h : ∀ h' tk g' D p, Sub g g' → Loc X0 h₀ g₀ L h' g' m mu → g'.IsCell (L + 4) (some (.ref D)) → g'.IsList D ((repOf (P0 ++ P1 ++ P2) p).map (·.1)).toArray → p.Perm (List.range (P0 ++ P1 ++ P2).length) → p.Pairwise (bf (ltI ks ((P0 ++ P1 ++ P2).map (·.2)))) →
      wpAny (model pr w) A (execs (lb w 8) env) Q E { s with heap := h', toks := tk }) :
    wpAny (model pr w) A (execs (lb w 7) env) Q E s := by
  have b7 : lb w 7 = _ :: lb w 8 := rfl
  rw [b7]
  obtain ⟨pvs, i1, i2⟩ := hP.lst
  obtain ⟨l0, l1, l2, rfl, j0, j1, j2⟩ : ∃ l0 l1 l2, pvs = [.ref l0, .ref l1, .ref l2] ∧ g.IsList l0 (P0.map (·.1)).toArray ∧ g.IsList l1 (P1.map (·.1)).toArray ∧ g.IsList l2 (P2.map (·.1)).toArray := by
    cases i2 with
    | cons a i2 => cases i2 with
      | cons b i2 => cases i2 with
        | cons c i2 =>
          cases i2
          obtain ⟨x, rfl, hx⟩ := a
          obtain ⟨y, rfl, hy⟩ := b
          obtain ⟨z, rfl, hz⟩ := c
          exact ⟨x, y, z, rfl, hx, hy, hz⟩
  have f0 := hP.few P0 (by simp)
  have f1 := hP.few P1 (by simp)
  have f2 := hP.few P2 (by simp)
  refine wpAny_execs_cons (wpAny_Assign_Name (wpAny_Call_Name_kw (ldB e.e W F.sub rfl boot_sorted (by decide) ?_)))
  refine callWith_kw ?_
  refine spliced_more (wpAny_BinOp (wpAny_BinOp (Subscript_ (ldL e.e F hm (wpAny_Constant_int (subList F.sub i1 (by decide) rfl (by simp) ?_ ?_))))))
  rotate_left
  · with_unfolding_all rfl
  refine Subscript_ (ldL e.e F hm (wpAny_Constant_int (subList F.sub i1 (by decide) rfl (by simp) ?_ ?_)))
  rotate_left
  · with_unfolding_all rfl
  refine addL F j0 j1 (by simp only [List.length_map]; omega) fun D1 h1 g1 s1 F1 e1 => ?_
  dsimp only
  refine Subscript_ (ldL e.e F1 hm (wpAny_Constant_int (subList F1.sub (IsList.sub i1 s1) (by decide) rfl (by simp) ?_ ?_)))
  rotate_left
  · with_unfolding_all rfl
  refine addL F1 ⟨_, e1, rfl, _, rfl⟩ (IsList.sub j2 s1) (by simp only [List.length_map, List.length_append]; omega) fun D2 h2 g2 s2 F2 e2 => ?_
  dsimp only
  refine spliced_none ?_
  have sg2 := s1.trans s2
  have W2 := W.sub sg2
  refine kws_cons (evLam (qual := "law.<locals>.<lambda>") rfl rfl (by rw [e.qual]; rfl) ?_)
  refine mkLam (P := 149) (c := 151) (qs := qLaw) (clos := [("keys", L + 6)]) F2 W2 (by simp) W2.hd2 W2.bat2 F2.st.wm.t2 (closed e.e rfl) e.e.glob e.code (by decide) (by decide) ?_ ?_
  · intro h' g' k sg hX T
    exact ⟨F2.st.wm.t1.step (fun o e => k 111 o (by decide) e) sg (hX 111 (by simp)), T⟩
  intro f cv ct h3 g3 tk3 F3 s3 st3 ef hrc
  dsimp only
  refine kws_nil ?_
  have sg3 := sg2.trans s3
  have hcK : g3.IsCell (L + 6) (some kv) := isCell_sub hc sg3
  have hK3 : KeysAt g3 kv ks := hK.sub sg3
  have hf : SortFn w mg mb 3 g3 f ks := by
    clear h F F1 F2 F3 W W2 R st3
    refine ⟨?_⟩
    intro A s g'' Q E a x R sg W S M hr ret
    refine enterE (n := 2) (binds := [("row", a)]) R W S M (sg _ _ ef) rfl rfl (CodeRec.sub hrc sg) (BindsTo.of_eq rfl) (by dsimp only; decide) (locs rfl) rfl rfl rfl rfl rfl ?_
    intro env A' L' h₁ tk E' e RA F
    dsimp only at e F ⊢
    have fn : FnAt 109 h₁ := ⟨_, _, _, _, F.sub _ _ (W.kin 109 _ rfl)⟩
    refine wpAny_Call_NameR (ldG e W F.sub rfl (callWith_F fn (spliced_more (ldL e F rfl (spliced_more (ldF e (isCell_sub hcK (sg.trans F.sub)) (spliced_none ⟨fn, ?_⟩)))))))
    exact weight_spec (n := 1) RA W F.sub F.st.wm hr (hK3.sub sg) fun v h' tk g3 st hi => ret v h' tk g3 (F.call st).st hi
  have hl3 : g3.IsList D2 ((P0 ++ P1 ++ P2).map (·.1)).toArray := by
    rw [List.map_append, List.map_append]
    exact ⟨_, s3 _ _ e2, rfl, _, rfl⟩
  have hr3 : RowsAt w g3 (P0 ++ P1 ++ P2) := by
    refine fun p hp => ?_
    rcases List.mem_append.mp hp with hp | hp
    · rcases List.mem_append.mp hp with hp | hp
      · exact (hP.rows P0 (by simp) p hp).sub sg3
      · exact (hP.rows P1 (by simp) p hp).sub sg3
    · exact (hP.rows P2 (by simp) p hp).sub sg3
  refine sorted_spec (n := 3) (R.le (by omega)) (W.sub sg3) F3 hl3 hr3 hn (by simp only [List.length_append]; omega) hf ?_
  intro D p c h4 tk4 g4 s4 F4 e4 hp1 hp2
  refine stC e.e F4 d4 fun h5 oc F5 d5 => ?_
  obtain ⟨g6, F6, s6, e6⟩ := F5.freeze hL4
  dsimp only
  refine h h5 tk4 g6 D p ((sg3.trans s4).trans s6) F6 ⟨_, e6, d5⟩ ⟨_, s6 _ _ e4, rfl, c, ?_⟩ hp1 hp2
  unfold repOf
  rw [List.map_map]
  have : ((fun x : PRow => x.1) ∘ fun i => (P0 ++ P1 ++ P2).getD i (.none, 0)) = fun i => ((P0 ++ P1 ++ P2).map (·.1)).getD i .none := by
    funext i; exact getD_fst _ _
  rw [this]
end
end Mine

end
section
set_option autoImplicit false
set_option maxHeartbeats 1000000
namespace Mine
/-- the three lists of places -/
noncomputable abbrev pl3 (ks : Keys) (L0 L1 L2 : List PRow) : List (List Int) := [placesOf ks [L0, L1, L2] 0 L0, placesOf ks [L0, L1, L2] 1 L1, placesOf ks [L0, L1, L2] 2 L2]
section
variable {w : World} {mg mb : Str → Option Value} {A : Around} {E : Value → Shared → Prop} {s : Shared} {Q : Flow → Shared → Prop} {env : Env}
  {h₀ g₀ g : Heap} {L : Addr} {m : Str → Option Value} {mu : List (Addr × Obj)}
/-- places -/
theorem law_6 {ll : Addr} {lvs : List Value} {L0 L1 L2 : List PRow} {ov : Value} {ks : Keys} {c7 : Obj} {v7 : Option Value} (e : LawEnv env L) (R : Room A 40) (W : Wd w mg mb g)
    (F : Loc X0 h₀ g₀ L s.heap g m ((L + 7, c7) :: mu)) (d7 : c7.data = .cell v7) (hL7 : h₀.get? (L + 7) = none) (hc2 : g.IsCell (L + 2) (some ov)) (hO : OrderAt g ov ks) (hk : KeysOk ks) (hc3 : g.IsCell (L + 3) (some (.ref ll))) (hl : ListsAt w ks g ll lvs [L0, L1, L2])
    (h : ∀ h' tk g' pl, Sub g g' → Loc X0 h₀ g₀ L h' g' m mu → g'.IsCell (L + 7) (some (.ref pl)) → PlacesAt g' pl (pl3 ks L0 L1 L2) → wpAny (model pr w) A (execs (lb w 9) env) Q E { s with heap := h', toks := tk }) :
    wpAny (model pr w) A (execs (lb w 8) env) Q E s := by
  have b8 : lb w 8 = _ :: lb w 9 := rfl
  rw [b8]
  refine wpAny_execs_cons (wpAny_Assign_Name (evComp (closed e.e rfl) rfl (by decide) (by intro _; rfl) ?_) (swaps_no e.e rfl))
  refine wpAny_Call_NameR (ldB e.e W F.sub rfl boot_range (by decide) (PyProof.Rows.callWith_type1 (spliced_more (wpAny_Constant_int (spliced_none (call_range_1 ?_))))))
  dsimp only
  have F1 := F.push { cls := .type "range", data := .fields #[.int 0 (s.toks + 1), .int 3 s.toks, .int 1 (s.toks + 1 + 1)] }
  refine comp_range (n := 3) e.e rfl (by decide) R.hh (Heap.get?_push_size _ rfl) (by decide) F1 (fun i g' ys => All2 (IntsAt g') ys ((pl3 ks L0 L1 L2).take i)) .nil (by intro _ _; rfl) ?_ ?_
  · rintro s' i t h2 g2 ys mC tk2 C D c oL cenv E2 ⟨h92, rfl⟩ hi sg2 a1 eC G
    refine wpAny_assign_Name (stL eC G fun h3 G3 => ?_)
    dsimp only
    refine wpAny_tests_nil ⟨h3, g2, _, _, rfl, Sub.refl _, G3, ?_⟩
    simp only [if_true]
    have W2 := W.sub sg2
    have fn : FnAt 128 h3 := ⟨_, _, _, _, G3.sub _ _ (W2.kin 128 _ rfl)⟩
    refine wpAny_Call_NameR (ldG eC W2 G3.sub rfl (callWith_F fn (spliced_more (ldC eC (isCell_sub hc2 (sg2.trans G3.sub)) (spliced_more (ldC eC (isCell_sub hc3 (sg2.trans G3.sub)) (spliced_more (ldL eC G3 rfl (spliced_none ⟨fn, ?_⟩)))))))))
    obtain ⟨ps, hps⟩ : ∃ ps, [L0, L1, L2][i]? = some ps := ⟨_, List.getElem?_eq_getElem (by exact hi)⟩
    refine places_spec (n := 20) (R.le (by decide)) W2 G3.sub G3.st.wm (hO.sub sg2) hk (hl.sub sg2) hps fun D4 its ne h4 tk4 g4 st4 e4 i4 => ?_
    refine ⟨h4, g4, _, tk4, rfl, st4.sub, G3.call st4, ?_⟩
    have hx : (pl3 ks L0 L1 L2)[i]? = some (placesOf ks [L0, L1, L2] i ps) := by
      match i, hi, hps with
      | 0, _, hps => cases hps; rfl
      | 1, _, hps => cases hps; rfl
      | 2, _, hps => cases hps; rfl
    rw [List.take_add_one, hx]
    exact (a1.mono fun _ _ q => q.sub st4.sub).append (.cons ⟨D4, its, ne, rfl, e4, i4⟩ .nil)
  · intro C D h2 g2 ys mC tk2 oL sg2 a1 G hn hD
    refine comp_fin G hn F1.hi hD fun h3 g3 s3 G3 e3 => ?_
    refine stC e.e G3 d7 fun h4 oc G4 d4 => ?_
    obtain ⟨g5, G5, s5, e5⟩ := G4.freeze hL7
    dsimp only
    exact h h4 _ g5 D ((sg2.trans s3).trans s5) G5 ⟨_, e5, d4⟩ ⟨ys, ⟨_, s5 _ _ e3, rfl, _, rfl⟩, a1.mono fun _ _ q => q.sub (s3.trans s5)⟩
end
end Mine

end
section
set_option autoImplicit false
set_option maxHeartbeats 1000000
namespace Mine
theorem sorted_range {ms : List Int} {n : Nat} (h1 : ms.Perm ((List.range n).map fun i : Nat => (i : Int))) (h2 : ms.Pairwise (· ≤ ·)) : ms = (List.range n).map fun i : Nat => (i : Int) := by
  refine List.Perm.eq_of_pairwise (le := (· ≤ ·)) (fun a b _ _ h1 h2 => by omega) h2 ?_ h1
  refine List.pairwise_map.mpr ((List.pairwise_lt_range (n := n)).imp fun {a b} h => ?_)
  omega
section
variable {w : World} {mg mb : Str → Option Value} {A : Around} {E : Value → Shared → Prop} {s : Shared} {Q : Flow → Shared → Prop} {env : Env}
  {h₀ g₀ g : Heap} {L : Addr} {m : Str → Option Value} {mu : List (Addr × Obj)}
/-- the places are all places -/
theorem law_7 {pl : Addr} {q0 q1 q2 : List Int} {n : Nat} {tn : Tok} (e : LawEnv env L) (R : Room A 40) (W : Wd w mg mb g)
    (F : Loc X0 h₀ g₀ L s.heap g m mu) (hm : m "size" = some (.int n tn)) (hc : g.IsCell (L + 7) (some (.ref pl))) (hp : PlacesAt g pl [q0, q1, q2]) (hn : n ≤ 11) (hpm : (q0 ++ q1 ++ q2).Perm ((List.range n).map fun i : Nat => (i : Int)))
    (h : ∀ h' tk g', Sub g g' → Loc X0 h₀ g₀ L h' g' m mu → wpAny (model pr w) A (execs (lb w 10) env) Q E { s with heap := h', toks := tk }) :
    wpAny (model pr w) A (execs (lb w 9) env) Q E s := by
  have b9 : lb w 9 = _ :: lb w 10 := rfl
  rw [b9]
  obtain ⟨pvs, i1, i2⟩ := hp.lst
  have hlen := hpm.length_eq
  rw [List.length_map, List.length_range, List.length_append, List.length_append] at hlen
  cases i2 with
  | cons a i2 => cases i2 with
    | cons b i2 => cases i2 with
      | cons c i2 =>
        cases i2
        obtain ⟨l0, t0, n0, rfl, x0, y0⟩ := a
        obtain ⟨l1, t1, n1, rfl, x1, y1⟩ := b
        obtain ⟨l2, t2, n2, rfl, x2, y2⟩ := c
        refine wpAny_execs_cons (wpAny_If (wpAny_isTrue_Compare1 (wpAny_Call_NameR (ldB e.e W F.sub rfl boot_sorted (by decide) (PyProof.Rows.callWith_builtin1 (spliced_more (wpAny_BinOp (wpAny_BinOp (Subscript_ (ldC e.e (isCell_sub hc F.sub) (wpAny_Constant_int (subList F.sub i1 (by decide) rfl (by simp) ?_ ?_)))))))))))) 
        rotate_left
        · with_unfolding_all rfl
        refine Subscript_ (ldC e.e (isCell_sub hc F.sub) (wpAny_Constant_int (subList F.sub i1 (by decide) rfl (by simp) ?_ ?_)))
        rotate_left
        · with_unfolding_all rfl
        refine addL F ⟨_, x0, rfl, _, rfl⟩ ⟨_, x1, rfl, _, rfl⟩ (by rw [y0.length, y1.length]; omega) fun D1 h1 g1 s1 F1 e1 => ?_
        dsimp only
        refine Subscript_ (ldC e.e (isCell_sub hc (s1.trans F1.sub)) (wpAny_Constant_int (subList F1.sub (IsList.sub i1 s1) (by decide) rfl (by simp) ?_ ?_)))
        rotate_left
        · with_unfolding_all rfl
        refine addL F1 ⟨_, e1, rfl, _, rfl⟩ ⟨_, s1 _ _ x2, rfl, _, rfl⟩ (by rw [List.length_append, y0.length, y1.length, y2.length]; omega) fun D2 h2 g2 s2 F2 e2 => ?_
        dsimp only
        refine spliced_none (sortedI F2 (ns := q0 ++ q1 ++ q2) ⟨_, e2, rfl, _, rfl⟩ (PyProof.Rows.IntsAre.append (PyProof.Rows.IntsAre.append y0 y1) y2) (by simp only [List.length_append]; omega) fun D3 c3 its ms h3 tk3 g3 s3 F3 e3 i3 p3 o3 => ?_)
        dsimp only
        have W3 := W.sub ((s1.trans s2).trans s3)
        refine wpAny_Call_NameR (ldB e.e W3 F3.sub rfl boot_list (by decide) (PyProof.Rows.callWith_type1 (spliced_more (wpAny_Call_NameR (ldB e.e W3 F3.sub rfl boot_range (by decide) (PyProof.Rows.callWith_type1 (spliced_more (ldL e.e F3 hm (spliced_none (call_range_1 ?_))))))))))
        refine spliced_none (rangeL (n := n) R.hh (F3.push _) (Heap.get?_push_size _ rfl) (by omega) fun D4 c4 its4 h4 tk4 g4 s4 F4 e4 i4 => ?_)
        have hms := sorted_range (p3.trans hpm) o3
        rw [hms] at i3
        refine neInts (IsList.sub ⟨_, s4 _ _ e3, rfl, _, rfl⟩ F4.sub) (IsList.sub ⟨_, e4, rfl, _, rfl⟩ F4.sub) i3 i4 (by have := R.units; exact this) ?_
        refine wpAny_truthy_bool ?_
        simp only [Bool.false_eq_true, if_false]
        refine wpAny_execs_nil ?_
        exact h h4 _ g4 (((s1.trans s2).trans s3).trans s4) F4
end
end Mine

end
section
set_option autoImplicit false
set_option maxHeartbeats 1000000
namespace Mine
theorem All2.mapR {α β γ : Type} {P : α → γ → Prop} {f : β → γ} : ∀ {as : List α} {bs : List β}, All2 (fun a b => P a (f b)) as bs → All2 P as (bs.map f)
  | _, _, .nil => .nil
  | _, _, .cons h r => .cons h (All2.mapR r)
section
variable {w : World} {mg mb : Str → Option Value} {A : Around} {E : Value → Shared → Prop} {s : Shared} {Q : Flow → Shared → Prop} {env : Env}
  {h₀ g₀ g : Heap} {L : Addr} {m : Str → Option Value} {mu : List (Addr × Obj)}
/-- at the places stand the rows -/
theorem law_8 {pl ll D : Addr} {pls : List (List Int)} {Ls : List (List PRow)} {lvs : List Value} {Rv : List Value} {ks : Keys} (e : LawEnv env L) (R : Room A 40) (W : Wd w mg mb g)
    (F : Loc X0 h₀ g₀ L s.heap g m mu) (hc7 : g.IsCell (L + 7) (some (.ref pl))) (hp : PlacesAt g pl pls) (hc3 : g.IsCell (L + 3) (some (.ref ll))) (hl : ListsAt w ks g ll lvs Ls) (hc4 : g.IsCell (L + 4) (some (.ref D))) (hD : g.IsList D Rv.toArray) (hRv : Rv.length ≤ 11)
    (h3 : pls.length = 3) (hrep : ∀ (t : Nat) q l, pls[t]? = some q → Ls[t]? = some l → q.length = l.length ∧ l.length ≤ 11 ∧ ∀ (i : Nat) z, q[i]? = some z → ∃ k : Nat, z = (k : Int) ∧ Rv[k]? = (l.map (·.1))[i]?)
    (h : ∀ h' tk g', Sub g g' → Loc X0 h₀ g₀ L h' g' m mu → wpAny (model pr w) A (execs (lb w 11) env) Q E { s with heap := h', toks := tk }) :
    wpAny (model pr w) A (execs (lb w 10) env) Q E s := by
  have b10 : lb w 10 = _ :: lb w 11 := rfl
  rw [b10]
  obtain ⟨pvs, i1, i2⟩ := hp.lst
  refine wpAny_execs_cons (wpAny_If (wpAny_isTrue_Compare1 (evComp (closed e.e rfl) rfl (by decide) (by intro _; rfl) ?_)))
  refine ldC e.e (isCell_sub hc7 F.sub) ?_
  refine comp_list e.e rfl (by decide) R.hh i1 (by rw [i2.length, h3]; omega) F (fun i g' ys => All2 (ListAt g') ys (Ls.take i)) .nil ?_ ?_ ?_
  · intro I j v s' Q' E'' _ _ hq
    exact wpAny_pure hq
  · intro s' t v h2 g2 ys mC tk2 C D2 c oL cenv E2 hs' hv sg2 a1 eC G
    refine abs2 fun T hT => ?_
    obtain ⟨h92, rfl⟩ := hs'
    obtain ⟨q, hq, lq, its, ne, rfl, x1, x2⟩ := i2.get hv
    have htl : t < Ls.length := by rw [hl.three, ← h3]; exact (List.getElem?_eq_some_iff.mp hq).1
    have hlt := List.getElem?_eq_getElem htl
    generalize Ls[t] = l at hlt
    obtain ⟨r1, r2, r3⟩ := hrep t q l hq hlt
    refine wpAny_assign_Name (stL eC G fun h3 G3 => ?_)
    dsimp only
    refine wpAny_tests_nil (hT _ _ ⟨h3, g2, _, _, rfl, Sub.refl _, G3, ?_⟩)
    clear hT T
    rw [if_pos rfl]
    refine abs1 fun T hT => ?_
    refine evComp (closed eC rfl) rfl (by decide) (by intro _; rfl) ?_
    refine ldL eC G3 rfl ?_
    refine comp_list eC rfl (by decide) R.hh ⟨_, sg2 _ _ x1, rfl, _, rfl⟩ (by rw [x2.length]; omega) G3 (fun j _ zs => zs = (l.map (·.1)).take j) rfl ?_ ?_ ?_
    · intro I j v s' Q' E'' _ _ hq
      exact wpAny_pure hq
    · intro s' j v h5 g5 zs mC5 tk5 C5 D5 c5 oL5 cenv5 E5 hs' hv sg5 J5 eC5 G5
      refine abs2 fun U hU => ?_
      obtain ⟨h95, rfl⟩ := hs'
      obtain rfl := J5
      obtain ⟨z, tz, hz, rfl⟩ := ints_get x2 j v hv
      obtain ⟨k, rfl, hk⟩ := r3 j z hz
      refine wpAny_assign_Name (stL eC5 G5 fun h6 G6 => ?_)
      dsimp only
      refine wpAny_tests_nil (hU _ _ ⟨h6, g5, _, _, rfl, Sub.refl _, G6, ?_⟩)
      clear hU U
      rw [if_pos rfl]
      refine abs1 fun U hU => ?_
      have hj : j < (l.map (·.1)).length := by rw [List.length_map, ← r1]; exact (List.getElem?_eq_some_iff.mp hz).1
      rw [List.getElem?_eq_getElem hj] at hk
      refine Subscript_ (ldC eC5 (isCell_sub hc4 ((sg2.trans sg5).trans G6.sub)) (ldL eC5 G6 rfl (subList G6.sub (IsList.sub hD (sg2.trans sg5)) (cast_nonneg _) (by rw [Int.toNat_natCast]; exact hk) (by omega) ?_ ?_)))
      rotate_left
      · with_unfolding_all rfl
      refine hU _ _ ⟨h6, g5, _, _, rfl, Sub.refl _, G6, ?_⟩
      rw [List.take_add_one, List.getElem?_eq_getElem hj]
      rfl
    · intro C5 D5 h5 g5 zs mC5 tk5 oL5 sg5 ez G5 hn5 hD5
      subst ez
      refine comp_fin G5 hn5 G3.hi hD5 fun h6 g6 s6 G6 e6 => ?_
      refine hT _ _ ⟨h6, g6, _, _, rfl, sg5.trans s6, G6, ?_⟩
      rw [List.take_add_one, hlt]
      refine (a1.mono fun _ _ q => q.sub (sg5.trans s6)).append (.cons ⟨D5, rfl, ?_⟩ .nil)
      rw [x2.length, r1, ← List.length_map (f := fun x : PRow => x.1), List.take_length] at e6
      exact ⟨_, e6, rfl, _, rfl⟩
  · intro C D2 h2 g2 ys mC tk2 oL sg2 a1 G hn hD2
    refine comp_fin G hn F.hi hD2 fun h3' g3 s3 G3 e3 => ?_
    have sg := sg2.trans s3
    refine ldC e.e (isCell_sub hc3 (sg.trans G3.sub)) ?_
    rw [i2.length, h3, ← hl.three, List.take_length] at a1
    have hl3 := hl.sub sg
    refine neLists (Ls := Ls.map fun l => l.map (·.1)) (IsList.sub ⟨_, e3, rfl, _, rfl⟩ G3.sub) (IsList.sub hl3.lst G3.sub) (All2.mapR (a1.mono fun v l ⟨a, x, y⟩ => ⟨a, x, IsList.sub y (s3.trans G3.sub)⟩)) (All2.mapR (hl3.each.mono fun v l ⟨a, x, y⟩ => ⟨a, x, IsList.sub y G3.sub⟩)) ?_ (by have := R.hu; omega) ?_
    · intro zs hzs v hv
      obtain ⟨l, hlm, rfl⟩ := List.mem_map.mp hzs
      obtain ⟨p, hpm, rfl⟩ := List.mem_map.mp hv
      obtain ⟨a, t0, t1, t2, en, hpv, _⟩ := (hl.rows l hlm p hpm).tup
      exact ⟨a, hpv⟩
    · refine wpAny_truthy_bool ?_
      simp only [Bool.false_eq_true, if_false]
      refine wpAny_execs_nil ?_
      exact h h3' _ g3 sg G3
end
end Mine

end
section
set_option autoImplicit false
set_option maxHeartbeats 1000000
namespace Mine
structure DuesAt (w : World) (g : Heap) (l : Addr) (Rr : List PRow) (n : Nat) : Prop where
  lst : ∃ vs : List Value, g.IsList l vs.toArray ∧ vs.length = n ∧ ∀ (c : Nat) v, vs[c]? = some v → ProfAt w g v ((Rr.take c).map (·.2))
theorem DuesAt.sub {w : World} {g g' : Heap} {l : Addr} {Rr : List PRow} {n : Nat} (x : DuesAt w g l Rr n) (s : Sub g g') : DuesAt w g' l Rr n := by
  obtain ⟨vs, h1, h2, h3⟩ := x.lst
  exact ⟨vs, IsList.sub h1 s, h2, fun c v hv => (h3 c v hv).sub s⟩
section
variable {w : World} {mg mb : Str → Option Value} {A : Around} {E : Value → Shared → Prop} {s : Shared} {Q : Flow → Shared → Prop} {env : Env}
  {h₀ g₀ g : Heap} {L : Addr} {m : Str → Option Value} {mu : List (Addr × Obj)}
/-- sums -/
theorem law_9 {ll : Addr} {Ls : List (List PRow)} {lvs : List Value} {ks : Keys} {c8 : Obj} {v8 : Option Value} (e : LawEnv env L) (R : Room A 40) (W : Wd w mg mb g)
    (F : Loc X0 h₀ g₀ L s.heap g m ((L + 8, c8) :: mu)) (d8 : c8.data = .cell v8) (hL8 : h₀.get? (L + 8) = none) (hc3 : g.IsCell (L + 3) (some (.ref ll))) (hl : ListsAt w ks g ll lvs Ls) (hf : ∀ l ∈ Ls, l.length ≤ 50)
    (h : ∀ h' tk g' sl, Sub g g' → Loc X0 h₀ g₀ L h' g' m mu → g'.IsCell (L + 8) (some (.ref sl)) → AllSums w g' sl Ls → wpAny (model pr w) A (execs (lb w 12) env) Q E { s with heap := h', toks := tk }) :
    wpAny (model pr w) A (execs (lb w 11) env) Q E s := by
  have b11 : lb w 11 = _ :: lb w 12 := rfl
  rw [b11]
  refine wpAny_execs_cons (wpAny_Assign_Name (evComp (closed e.e rfl) rfl (by decide) (by intro _; rfl) ?_) (swaps_no e.e rfl))
  refine ldC e.e (isCell_sub hc3 F.sub) ?_
  refine comp_list e.e rfl (by decide) R.hh hl.lst (by rw [hl.each.length, hl.three]; omega) F (fun i g' ys => All2 (SumsAt w g') ys (Ls.take i)) .nil ?_ ?_ ?_
  · intro I j v s' Q' E'' _ _ hq
    exact wpAny_pure hq
  · intro s' i v h2 g2 ys mC tk2 C D c oL cenv E2 hs' hv sg2 a1 eC G
    refine abs2 fun T hT => ?_
    obtain ⟨h92, rfl⟩ := hs'
    obtain ⟨p, hp, l, rfl, hlp⟩ := hl.each.get hv
    have hpm := List.mem_of_getElem? hp
    refine wpAny_assign_Name (stL eC G fun h3 G3 => ?_)
    dsimp only
    refine wpAny_tests_nil (hT _ _ ⟨h3, g2, _, _, rfl, Sub.refl _, G3, ?_⟩)
    clear hT T
    rw [if_pos rfl]
    refine abs1 fun T hT => ?_
    have W2 := W.sub sg2
    have fn : FnAt 135 h3 := ⟨_, _, _, _, G3.sub _ _ (W2.kin 135 _ rfl)⟩
    refine wpAny_Call_NameR (ldG eC W2 G3.sub rfl (callWith_F fn (spliced_more (ldL eC G3 rfl (spliced_none ⟨fn, ?_⟩)))))
    refine sums_spec (n := 30) (R.le (by decide)) W2 G3.sub G3.st.wm (IsList.sub hlp sg2) (RowsAt.sub (hl.rows p hpm) sg2) (by have := hf p hpm; omega) fun v4 h4 tk4 g4 st4 hs4 => ?_
    refine hT _ _ ⟨h4, g4, _, tk4, rfl, st4.sub, G3.call st4, ?_⟩
    rw [List.take_add_one, hp]
    exact (a1.mono fun _ _ q => q.sub st4.sub).append (.cons hs4 .nil)
  · intro C D h2 g2 ys mC tk2 oL sg2 a1 G hn hD
    refine comp_fin G hn F.hi hD fun h3 g3 s3 G3 e3 => ?_
    refine stC e.e G3 d8 fun h4 oc G4 d4 => ?_
    obtain ⟨g5, G5, s5, e5⟩ := G4.freeze hL8
    dsimp only
    rw [hl.each.length, List.take_length] at a1
    exact h h4 _ g5 D ((sg2.trans s3).trans s5) G5 ⟨_, e5, d4⟩ ⟨ys, ⟨_, s5 _ _ e3, rfl, _, rfl⟩, a1.mono fun _ _ q => q.sub (s3.trans s5)⟩
/-- dues -/
theorem law_10 {D : Addr} {Rr : List PRow} {n : Nat} {tn : Tok} (e : LawEnv env L) (R : Room A 40) (W : Wd w mg mb g)
    (F : Loc X0 h₀ g₀ L s.heap g m mu) (hm : m "size" = some (.int n tn)) (hc4 : g.IsCell (L + 4) (some (.ref D))) (hD : g.IsList D (Rr.map (·.1)).toArray) (hr : RowsAt w g Rr) (hz : Rr.length ≤ 11) (hn : n ≤ 11)
    (h : ∀ h' tk g' dl, Sub g g' → Loc X0 h₀ g₀ L h' g' (fun y => if y = "dues" then some (.ref dl) else m y) mu → DuesAt w g' dl Rr (n + 1) → wpAny (model pr w) A (execs (lb w 13) env) Q E { s with heap := h', toks := tk }) :
    wpAny (model pr w) A (execs (lb w 12) env) Q E s := by
  have b12 : lb w 12 = _ :: lb w 13 := rfl
  rw [b12]
  refine wpAny_execs_cons (asComp (swaps_yes e.e rfl rfl rfl) (closed e.e rfl) rfl (by decide) (by intro _; rfl) ?_)
  refine wpAny_Call_NameR (ldB e.e W F.sub rfl boot_range (by decide) (PyProof.Rows.callWith_type1 (spliced_more (wpAny_BinOp (ldL e.e F hm (wpAny_Constant_int (PyProof.Rows.add_int (spliced_none (call_range_1 ?_)))))))))
  dsimp only
  have hN : (n : Int) + 1 = ((n + 1 : Nat) : Int) := rfl
  rw [hN]
  refine comp_range (n := n + 1) e.e rfl (by decide) R.hh (Heap.get?_push_size _ rfl) (by omega) (F.push _) (fun i g' ys => ys.length = i ∧ ∀ (c : Nat) v, ys[c]? = some v → ProfAt w g' v ((Rr.take c).map (·.2))) ⟨rfl, by intro c v hv; simp at hv⟩ (by intro _ _; rfl) ?_ ?_
  · intro s' i t h2 g2 ys mC tk2 C D2 c oL cenv E2 hs' hi sg2 J2 eC G
    refine abs2 fun T hT => ?_
    obtain ⟨h92, rfl⟩ := hs'
    obtain ⟨a1, a2⟩ := J2
    refine wpAny_assign_Name (stL eC G fun h3 G3 => ?_)
    dsimp only
    refine wpAny_tests_nil (hT _ _ ⟨h3, g2, _, _, rfl, Sub.refl _, G3, ?_⟩)
    clear hT T
    rw [if_pos rfl]
    refine abs1 fun T hT => ?_
    have W2 := W.sub sg2
    have fn : FnAt 147 h3 := ⟨_, _, _, _, G3.sub _ _ (W2.kin 147 _ rfl)⟩
    refine wpAny_Call_NameR (ldG eC W2 G3.sub rfl (callWith_F fn (spliced_more (sliceTo (l := D) (vs := Rr.map (·.1)) (k := i) (t := t) ?_))))
    refine ldC eC (isCell_sub hc4 (sg2.trans G3.sub)) ⟨rfl, ldL eC G3 rfl ⟨rfl, IsList.sub hD (sg2.trans G3.sub), by rw [List.length_map]; omega, ?_⟩⟩
    dsimp only
    have G4 := G3.push { cls := .type "slice", data := .fields #[.none, .int i t, .none] }
    obtain ⟨g5, G5, s5, e5⟩ := G4.alloc (listOf ((Rr.map (·.1)).take i).toArray 0)
    rw [Heap.size_push] at e5
    have fn5 : FnAt 147 _ := ⟨_, _, _, _, G5.sub _ _ ((W2.sub s5).kin 147 _ rfl)⟩
    refine spliced_none ⟨fn5, ?_⟩
    rw [← List.map_take] at e5
    refine plain_spec (n := 30) (R.le (by decide)) (W2.sub s5) G5.sub G5.st.wm ⟨_, e5, rfl, _, rfl⟩ (fun p hp => (hr p (List.mem_of_mem_take hp)).sub (sg2.trans s5)) (by rw [List.length_take]; omega) fun v6 h6 tk6 g6 st6 hp6 => ?_
    refine hT _ _ ⟨h6, g6, _, tk6, rfl, s5.trans st6.sub, G5.call st6, by rw [List.length_append, a1]; rfl, ?_⟩
    intro c v hv
    by_cases hc : c < ys.length
    · rw [List.getElem?_append_left hc] at hv
      exact (a2 c v hv).sub (s5.trans st6.sub)
    · rw [List.getElem?_append_right (by omega)] at hv
      have hci : c = i := by
        have := (List.getElem?_eq_some_iff.mp hv).1
        simp at this
        omega
      subst hci
      rw [a1, Nat.sub_self] at hv
      simp at hv
      subst hv
      exact hp6
  · intro C D2 h2 g2 ys mC tk2 oL sg2 ⟨a1, a2⟩ G hn' hD2
    refine comp_finA e.e G hn' F.hi hD2 rfl fun h3 g3 tk3 s3 G3 e3 => ?_
    exact h h3 tk3 g3 D2 (sg2.trans s3) G3 ⟨ys, ⟨_, e3, rfl, _, rfl⟩, a1, fun c v hv => (a2 c v hv).sub s3⟩
end
end Mine

end
section
set_option autoImplicit false
set_option maxHeartbeats 1000000
namespace Mine
section
variable {w : World} {mg mb : Str → Option Value} {A : Around} {E : Value → Shared → Prop} {s : Shared} {Q : Flow → Shared → Prop} {env : Env}
  {h₀ g₀ g : Heap} {L : Addr} {m : Str → Option Value} {mu : List (Addr × Obj)}
/-- the loop over the counts -/
theorem law_11 {pl sl dl : Addr} {pls : List (List Int)} {Ls : List (List PRow)} {Rr : List PRow} {n : Nat} {tn : Tok} (e : LawEnv env L) (R : Room A 40) (W : Wd w mg mb g)
    (F : Loc X0 h₀ g₀ L s.heap g m mu) (hm : m "size" = some (.int n tn)) (hd : m "dues" = some (.ref dl)) (hn : n ≤ 11) (hc7 : g.IsCell (L + 7) (some (.ref pl))) (hp : PlacesAt g pl pls) (hc8 : g.IsCell (L + 8) (some (.ref sl))) (hs : AllSums w g sl Ls) (hf : Fit pls Ls)
    (hD : DuesAt w g dl Rr (n + 1)) (hpick : ∀ c : Nat, (pick pls Ls c).Perm (Rr.take c))
    (h : ∀ h' tk g' m', Sub g g' → Loc X0 h₀ g₀ L h' g' m' mu → (∀ y : Str, y ≠ "count" → y ≠ "whole" → m' y = m y) → wpAny (model pr w) A (execs (lb w 14) env) Q E { s with heap := h', toks := tk }) :
    wpAny (model pr w) A (execs (lb w 13) env) Q E s := by
  have b13 : lb w 13 = _ :: lb w 14 := rfl
  rw [b13]
  refine wpAny_execs_cons (wpAny_For (wpAny_Call_NameR (ldB e.e W F.sub rfl boot_range (by decide) (PyProof.Rows.callWith_type1 (spliced_more (wpAny_BinOp (ldL e.e F hm (wpAny_Constant_int (PyProof.Rows.add_int (spliced_none (call_range_1 ?_)))))))))) (by intro _; rfl))
  dsimp only
  have hN : (n : Int) + 1 = ((n + 1 : Nat) : Int) := rfl
  rw [hN]
  obtain ⟨dvs, d1, d2, d3⟩ := hD.lst
  refine for_range (n := n + 1) (g := g) R.hh (F.push _) (Heap.get?_push_size _ rfl) (by omega) (fun i g' m' mu' => mu' = mu ∧ (∀ y : Str, y ≠ "count" → y ≠ "whole" → m' y = m y)) ⟨rfl, fun _ _ _ => rfl⟩ ?_ ?_
  · intro i t h5 g5 m5 mu5 tk5 ci E5 hi sg F5 I5
    refine abs2 fun T hT => ?_
    obtain ⟨rfl, hsame⟩ := I5
    refine wpAny_assign_Name (stL e.e F5 fun h6 F6 => ?_)
    dsimp only
    have W5 := W.sub sg
    have fn : FnAt 142 h6 := ⟨_, _, _, _, F6.sub _ _ (W5.kin 142 _ rfl)⟩
    refine wpAny_execs_cons (wpAny_Assign_Name (wpAny_Call_NameR (ldG e.e W5 F6.sub rfl (callWith_F fn (spliced_more (ldC e.e (isCell_sub hc7 (sg.trans F6.sub)) (spliced_more (ldC e.e (isCell_sub hc8 (sg.trans F6.sub)) (spliced_more (ldL e.e F6 rfl (spliced_none ⟨fn, ?_⟩)))))))))))
    refine told_spec (n := 30) (R.le (by decide)) W5 F6.sub F6.st.wm (hp.sub sg) (hs.sub sg) hf fun v h7 tk7 g7 st7 hv => ?_
    have F7 := F6.call st7
    refine stL e.e F7 fun h8 F8 => ?_
    dsimp only
    have sg7 := sg.trans st7.sub
    have W7 := W.sub sg7
    have hi' : i < dvs.length := by omega
    have hdi := List.getElem?_eq_getElem hi'
    generalize dvs[i] = dv at hdi
    have hdv := (d3 i dv hdi).sub sg7
    have hm8 : ∀ y : Str, y ≠ "count" → y ≠ "whole" → (if y = "whole" then some v else if y = "count" then some (.int i t) else m5 y) = m y := fun y h1 h2 => by rw [if_neg h2, if_neg h1, hsame y h1 h2]
    obtain ⟨a, t0, t1, t2, t3, d, rfl, ht, hC⟩ := hv.tup
    refine wpAny_execs_cons (wpAny_If (wpAny_isTrue_BoolOp (wpAny_allTrue_Or_cons (wpAny_isTrue_Compare1 (ldL e.e F8 rfl (Subscript_ (ldL e.e F8 ((hm8 "dues" (by decide) (by decide)).trans hd) (ldL e.e F8 rfl (subList F8.sub (IsList.sub d1 sg7) (cast_nonneg _) (by rw [Int.toNat_natCast]; exact hdi) (by omega) ?_ ?_))))))))) 
    rotate_left
    · with_unfolding_all rfl
    refine neProf hv hdv ((hpick i).map _) F8.sub (by have := R.hu; omega) ?_
    refine wpAny_truthy_bool ?_
    simp only [Bool.false_eq_true, if_false]
    have fn8 : FnAt 63 h8 := ⟨_, _, _, _, F8.sub _ _ (W7.kin 63 _ rfl)⟩
    refine wpAny_allTrue_Or_cons (wpAny_isTrue_Compare1 (wpAny_Call_NameR (ldG e.e W7 F8.sub rfl (callWith_F fn8 (spliced_more (Subscript_ (ldL e.e F8 rfl (wpAny_Constant_int (subTup (S := F8.sub) ht (by decide) rfl rfl (by simp) (spliced_none ⟨fn8, ?_⟩))))))))))
    refine count_spec (n := 30) (R.le (by decide)) W7 F8.sub F8.st.wm hC fun t9 h9 tk9 g9 st9 => ?_
    have F9 := F8.call st9
    refine Subscript_ (ldL e.e F9 rfl (wpAny_Constant_int (subTup (S := F9.sub) (IsTuple.sub ht st9.sub) (by decide) rfl rfl (by simp) ?_)))
    refine PyProof.Rows.ne_int (wpAny_truthy_bool ?_)
    rw [show (((pick pls Ls i).map fun x => x.2).sum != ((pick pls Ls i).map fun x => x.2).sum) = false by simp]
    simp only [Bool.false_eq_true, if_false]
    refine wpAny_allTrue_Or_nil ?_
    simp only [Bool.false_eq_true, if_false]
    refine wpAny_execs_nil (wpAny_execs_nil ?_)
    exact hT _ _ ⟨h9, g9, _, _, _, rfl, st7.sub.trans st9.sub, F9, rfl, hm8⟩
  · rintro h5 g5 m5 mu5 tk5 sg F5 ⟨rfl, hsame⟩
    exact h h5 tk5 g5 m5 sg F5 hsame
end
end Mine

end
section
set_option autoImplicit false
set_option maxHeartbeats 1000000
namespace Mine
/-- the second figure of the first c rows -/
noncomputable def dueOf (Rr : List PRow) (c : Nat) : Int := s2 ((Rr.take c).map (·.2))
theorem s2_nonneg : ∀ xs : List Int, 0 ≤ s2 xs
  | [] => by simp [s2]
  | x :: xs => by
    have := s2_nonneg xs
    have h : 0 ≤ x.fmod 5 := Int.fmod_nonneg_of_pos x (by decide)
    unfold s2 at this ⊢
    simp only [List.map_cons, List.sum_cons]
    omega
theorem dueOf_mono (Rr : List PRow) {i j : Nat} (h : i ≤ j) : dueOf Rr i ≤ dueOf Rr j := by
  unfold dueOf
  have e : Rr.take j = Rr.take i ++ (Rr.take j).drop i := by
    have := (List.take_append_drop i (Rr.take j)).symm
    rwa [List.take_take, Nat.min_eq_left h] at this
  rw [e, List.map_append, s2_append]
  have := s2_nonneg (((Rr.take j).drop i).map (·.2))
  omega
noncomputable def DCount (Rr : List PRow) (n : Nat) (_ : Heap) (v : Value) (z : Int) : Prop := ∃ (c : Nat) (t : Tok), v = .int c t ∧ c ≤ n ∧ z = dueOf Rr c
section
variable {w : World} {mg mb : Str → Option Value} {A : Around} {E : Value → Shared → Prop} {s : Shared} {Q : Flow → Shared → Prop} {env : Env}
  {h₀ g₀ g : Heap} {L : Addr} {m : Str → Option Value} {mu : List (Addr × Obj)}
/-- the loop over the bounds -/
theorem law_12 {pl sl dl : Addr} {pls : List (List Int)} {Ls : List (List PRow)} {Rr : List PRow} {n : Nat} {tn tt : Tok} {told : Int} {c5 : Obj} {v5 : Option Value} (e : LawEnv env L) (R : Room A 40) (W : Wd w mg mb g)
    (F : Loc X0 h₀ g₀ L s.heap g m ((L + 5, c5) :: mu)) (d5 : c5.data = .cell v5) (hm : m "size" = some (.int n tn)) (hd : m "dues" = some (.ref dl)) (ht : m "told" = some (.int told tt)) (hn : n ≤ 11) (hc7 : g.IsCell (L + 7) (some (.ref pl))) (hp : PlacesAt g pl pls) (hc8 : g.IsCell (L + 8) (some (.ref sl))) (hs : AllSums w g sl Ls) (hf : Fit pls Ls)
    (hD : DuesAt w g dl Rr (n + 1)) (hpick : ∀ c : Nat, (pick pls Ls c).Perm (Rr.take c))
    (h : ∀ h' tk g', Step X0 h₀ g₀ h' g' → Q (.ret (.bool true)) { s with heap := h', toks := tk }) :
    wpAny (model pr w) A (execs (lb w 14) env) Q E s := by
  have b14 : lb w 14 = _ :: _ :: [] := rfl
  rw [b14]
  obtain ⟨dvs, d1, d2, d3⟩ := hD.lst
  have hdn : dvs[n]? = some (dvs[n]'(by omega)) := List.getElem?_eq_getElem _
  generalize dvs[n]'(by omega) = dv at hdn
  have hdv := d3 n dv hdn
  obtain ⟨a, t0, t1, t2, t3, d, rfl, hdt, _⟩ := hdv.tup
  have hpos := s2_nonneg ((Rr.take n).map (·.2))
  refine wpAny_execs_cons (wpAny_For (wpAny_List ?_) (by intro _; rfl))
  refine spliced_more (Subscript_ (Subscript_ (ldL e.e F hd (ldL e.e F hm (subList F.sub d1 (cast_nonneg _) (by rw [Int.toNat_natCast]; exact hdn) (by omega) ?_ ?_)))))
  rotate_left
  · with_unfolding_all rfl
  refine wpAny_Constant_int (subTup (S := F.sub) hdt (by decide) rfl rfl (by simp) ?_)
  refine spliced_more (wpAny_BinOp (ldL e.e F ht (wpAny_BinOp (Subscript_ (Subscript_ (ldL e.e F hd (ldL e.e F hm (subList F.sub d1 (cast_nonneg _) (by rw [Int.toNat_natCast]; exact hdn) (by omega) ?_ ?_))))))))
  rotate_left
  · with_unfolding_all rfl
  refine wpAny_Constant_int (subTup (S := F.sub) hdt (by decide) rfl rfl (by simp) (wpAny_Constant_int (PyProof.Rows.add_int (mod_int' (by omega) ?_))))
  refine spliced_none ⟨by show 2 ≤ sizeLine; decide, ?_⟩
  dsimp only
  obtain ⟨g1, F1, s1, e1⟩ := F.alloc (listOf (List.toArray [_, _]) 0)
  refine for_list (g := g1) R.hh F1 ⟨_, e1, rfl, _, rfl⟩ (fun i g' m' mu' => (∃ o5 v5, mu' = (L + 5, o5) :: mu ∧ o5.data = .cell v5) ∧ ∀ y : Str, y ≠ "reach" → m' y = m y) ⟨⟨c5, v5, rfl, d5⟩, fun _ _ => rfl⟩ ?_ ?_ ?_
  · intro I i v s' Q' E'' _ _ hq
    exact wpAny_pure hq
  · intro i v h2 g2 m2 mu2 tk2 c E2 hv sg F2 I2
    refine abs2 fun T hT => ?_
    obtain ⟨⟨o5, v5', rfl, d5'⟩, hsame⟩ := I2
    obtain ⟨B, tb, rfl⟩ : ∃ B tb, v = .int B tb := by
      match i, hv with
      | 0, hv => simp at hv; exact ⟨_, _, hv.symm⟩
      | 1, hv => simp at hv; exact ⟨_, _, hv.symm⟩
      | i + 2, hv => simp at hv
    have sg2 := s1.trans sg
    refine wpAny_assign_Name (stC e.e F2.swap d5' fun h3 o6 F3 d6 => ?_)
    dsimp only
    have W3 := W.sub sg2
    refine wpAny_execs_cons (wpAny_Assign_Name (wpAny_Call_Name_kw (ldG e.e W3 F3.sub rfl (callKw (spliced_more (wpAny_Call_NameR (ldB e.e W3 F3.sub rfl boot_list (by decide) (PyProof.Rows.callWith_type1 (spliced_more (wpAny_Call_NameR (ldB e.e W3 F3.sub rfl boot_range (by decide) (PyProof.Rows.callWith_type1 (spliced_more (wpAny_BinOp (ldL e.e F3 ((hsame "size" (by decide)).trans hm) (wpAny_Constant_int (PyProof.Rows.add_int (spliced_none (call_range_1 ?_))))))))))))))))))) 
    dsimp only
    have hN : (n : Int) + 1 = ((n + 1 : Nat) : Int) := rfl
    rw [hN]
    refine spliced_none (rangeL (n := n + 1) R.hh (F3.push _) (Heap.get?_push_size _ rfl) (by omega) fun D4 c4 its4 h4 tk4 g4 s4 F4 e4 i4 => ?_)
    dsimp only
    refine spliced_more (ldM e.e F4 (.head _) d6 (spliced_none ?_))
    have sg4 := sg2.trans s4
    have W4 := W.sub sg4
    refine kws_cons (evLam (qual := "law.<locals>.<lambda>") rfl rfl (by rw [e.qual]; rfl) ?_)
    refine mkLam (P := 149) (c := 151) (qs := qLaw) (clos := [("sums", L + 8), ("places", L + 7)]) F4 W4 (by simp) W4.hd2 W4.bat2 F4.st.wm.t2 (closed e.e rfl) e.e.glob e.code (by decide) (by decide) ?_ ?_
    · intro h' g' k sg hX T
      exact ⟨F4.st.wm.t1.step (fun o e => k 111 o (by decide) e) sg (hX 111 (by simp)), T⟩
    intro f cv ct h5 g5 tk5 F5 s5 st5 ef hrc
    have sg5 := sg4.trans s5
    have W5 := W.sub sg5
    refine kws_nil ⟨⟨_, _, _, _, F5.sub _ _ (W5.kin 90 _ rfl)⟩, ?_⟩
    have hkf : KeyFn w mg mb 6 g5 f (DCount Rr n) := by
      have hc7' := isCell_sub hc7 sg5
      have hc8' := isCell_sub hc8 sg5
      have hp' := hp.sub sg5
      have hs' := hs.sub sg5
      clear hT T h F F1 F2 F3 F4 F5 W W3 W4 W5 R st5
      refine ⟨⟨_, _, _, _, ef⟩, fun sg x => x, ?_⟩
      rintro A s g'' Q E a z R sg W S M ⟨c, tc, rfl, hcn, rfl⟩ ret
      refine enterE (n := 5) (binds := [("count", .int c tc)]) R W S M (sg _ _ ef) rfl rfl (CodeRec.sub hrc sg) (BindsTo.of_eq rfl) (by dsimp only; decide) (locs rfl) rfl rfl rfl rfl rfl ?_
      intro env A' L' h₁ tk E' e RA F
      dsimp only at e F ⊢
      have fn : FnAt 142 h₁ := ⟨_, _, _, _, F.sub _ _ (W.kin 142 _ rfl)⟩
      refine Subscript_ (wpAny_Call_NameR (ldG e W F.sub rfl (callWith_F fn (spliced_more (ldF e (isCell_sub hc7' (sg.trans F.sub)) (spliced_more (ldF e (isCell_sub hc8' (sg.trans F.sub)) (spliced_more (ldL e F rfl (spliced_none ⟨fn, ?_⟩))))))))))
      refine told_spec (n := 0) RA W F.sub F.st.wm (hp'.sub sg) (hs'.sub sg) hf fun v h' tk g3 st hv => ?_
      obtain ⟨a, t0, t1, t2, t3, d, rfl, ht, _⟩ := hv.tup
      have F' := F.call st
      refine wpAny_Constant_int (subTup (S := F'.sub) ht (by decide) rfl rfl (by simp) ?_ ?_)
      · have := ret t1 h' (tk + 1) g3 F'.st
        unfold dueOf at this
        rw [← s2_perm ((hpick c).map (·.2))] at this
        exact this
      · with_unfolding_all rfl
    have hlen4 : its4.length = n + 1 := by rw [i4.length]; simp
    have lX : D4 ∉ X0 := fun q => by have := F5.st.wm.off D4 q; rw [s5 _ _ e4] at this; cases this
    refine bisL_spec (n := 20) (k := 6) (kf := fun j => dueOf Rr j) (R.le (by decide)) W5 F5.sub F5.st.wm (IsList.sub ⟨_, s5 _ _ e4, rfl, _, rfl⟩ F5.sub) lX (by rw [hlen4]; omega) hkf ?_ (fun i j hij _ => dueOf_mono Rr hij) (bind90b (W5.sub F5.sub).kin) ?_
    · intro j v hj
      obtain ⟨z, tz, hz, rfl⟩ := ints_get i4 j v hj
      rw [List.getElem?_map] at hz
      obtain ⟨k, hk, rfl⟩ := Option.map_eq_some_iff.mp hz
      obtain ⟨hlt, ek⟩ := List.getElem?_eq_some_iff.mp hk
      rw [List.getElem_range] at ek
      rw [List.length_range] at hlt
      exact ⟨k, tz, rfl, by omega, by rw [ek]⟩
    · intro r tr h6 tk6 g6 st6 hr hlo hhi
      rw [hlen4] at hr hhi
      have F6 := F5.call st6
      have sg6 := sg5.trans st6.sub
      have W6 := W.sub sg6
      refine stL e.e F6 fun h7 F7 => ?_
      dsimp only
      have hm7 : ∀ y : Str, y ≠ "reach" → (if y = "reach" then some (.int r tr) else m2 y) = m y := fun y hy => by rw [if_neg hy, hsame y hy]
      refine wpAny_execs_cons (wpAny_If (wpAny_isTrue_Compare1 (ldL e.e F7 rfl (wpAny_Call_NameR (ldB e.e W6 F7.sub rfl boot_len (by decide) (PyProof.Rows.callWith_builtin1 (spliced_more (evComp (closed e.e rfl) rfl (by decide) (by intro _; rfl) ?_))))))))
      refine ldL e.e F7 ((hm7 "dues" (by decide)).trans hd) ?_
      refine comp_list e.e rfl (by decide) R.hh (IsList.sub d1 sg6) (by rw [d2]; omega) F7 (fun j _ ys => ys.length = (List.range j).countP fun c => decide (dueOf Rr c < B)) rfl ?_ ?_ ?_
      · intro I j v s' Q' E'' _ _ hq
        exact wpAny_pure hq
      · intro s' j v h8 g8 ys mC tk8 C D8 c8 oL cenv E8 hs' hv sg8 jj eC G
        refine abs2 fun U hU => ?_
        obtain ⟨h98, rfl⟩ := hs'
        have hprof := (d3 j v hv).sub (sg6.trans sg8)
        obtain ⟨a, t0, t1, t2, t3, d, rfl, htu, _⟩ := hprof.tup
        refine wpAny_assign_Name (stL eC G fun h9 G9 => ?_)
        dsimp only
        refine wpAny_tests_one (wpAny_isTrue_Compare1 (Subscript_ (ldL eC G9 rfl (wpAny_Constant_int (subTup (S := G9.sub) htu (by decide) rfl rfl (by simp) ?_)))))
        refine ldM eC G9 (.tail _ (.tail _ (.tail _ (.head _)))) d6 ?_
        refine PyProof.Rows.lt_int (wpAny_truthy_bool ?_)
        refine hU _ _ ⟨h9, g8, _, _, rfl, Sub.refl _, G9, ?_⟩
        rw [List.range_succ, List.countP_append]
        by_cases hb : dueOf Rr j < B
        · rw [if_pos (decide_eq_true (show s2 ((Rr.take j).map (·.2)) < B from hb))]
          refine ldL eC G9 rfl ⟨h9, g8, _, _, rfl, Sub.refl _, G9, ?_⟩
          show (ys ++ [_]).length = _
          rw [List.length_append, jj]
          simp [hb]
        · rw [if_neg (show ¬ (decide (s2 ((Rr.take j).map (·.2)) < B) = true) from fun q => hb (of_decide_eq_true q))]
          show ys.length = _
          rw [jj]
          simp [hb]
      · intro C D8 h8 g8 ys mC tk8 oL sg8 jj G hn8 hD8
        refine comp_fin G hn8 F7.hi hD8 fun h9 g9 s9 F9 e9 => ?_
        have hcnt : ((List.range (n + 1)).countP fun c => decide (dueOf Rr c < B)) = r := by
          refine countP_at (by simpa using hr) (fun j q hj hq => ?_) (fun j q hj hq => ?_)
          · obtain ⟨hlt, ek⟩ := List.getElem?_eq_some_iff.mp hq
            rw [List.getElem_range] at ek
            rw [← ek]
            simpa using hlo j hj
          · obtain ⟨hlt, ek⟩ := List.getElem?_eq_some_iff.mp hq
            rw [List.getElem_range] at ek
            rw [List.length_range] at hlt
            rw [← ek]
            simpa using hhi j hj hlt
        rw [d2, hcnt] at jj
        refine spliced_none (PyProof.Rows.len_list (IsList.sub ⟨_, e9, rfl, _, rfl⟩ F9.sub) (by rw [List.size_toArray]; omega) ?_)
        rw [List.size_toArray, jj]
        refine PyProof.Rows.ne_int (wpAny_truthy_bool ?_)
        rw [show ((r : Int) != (r : Int)) = false by simp]
        simp only [Bool.false_eq_true, if_false]
        refine wpAny_execs_nil (wpAny_execs_nil ?_)
        refine hT _ _ ⟨h9, g9, _, _, _, rfl, (((s4.trans s5).trans st6.sub).trans sg8).trans s9, F9.swap, ⟨o6, _, rfl, d6⟩, hm7⟩
  · rintro h2 g2 m2 mu2 tk2 sg F2 ⟨_, hsame⟩
    dsimp only
    refine wpAny_execs_cons (wpAny_Return_some (wpAny_Constant_bool ?_))
    exact h h2 _ g2 F2.st
end
end Mine

end
section
set_option autoImplicit false
set_option maxHeartbeats 1000000
namespace Mine
theorem part_len : ∀ xs : List Int, (partN xs 0).length + (partN xs 1).length + (partN xs 2).length = xs.length
  | [] => rfl
  | x :: xs => by
    have ih := part_len xs
    unfold partN at ih ⊢
    rw [List.filter_cons, List.filter_cons, List.filter_cons]
    rcases fm3 x with q | q | q <;> rw [q] <;> simp <;> simp at ih <;> omega
theorem three_of {w : World} {g : Heap} {l : Addr} {P : List (List PRow)} {xs : List Int} (x : PartsAt w g l P xs) : ∃ P0 P1 P2, P = [P0, P1, P2] ∧ (P0 ++ P1 ++ P2).length = xs.length := by
  have h3 := x.three
  match P, h3, x with
  | [P0, P1, P2], _, x =>
    refine ⟨P0, P1, P2, rfl, ?_⟩
    have hn := x.nums
    have e : (List.range 3).map (partN xs) = [partN xs 0, partN xs 1, partN xs 2] := rfl
    rw [e] at hn
    simp only [List.map_cons, List.map_nil, List.cons.injEq, and_true] at hn
    have h0 := congrArg List.length hn.1
    have h1 := congrArg List.length hn.2.1
    have h2 := congrArg List.length hn.2.2
    rw [List.length_map] at h0 h1 h2
    have := part_len xs
    simp only [List.length_append]
    omega
section
variable {w : World} {mg mb : Str → Option Value} {A : Around} {E : Value → Shared → Prop} {s : Shared} {Q : Flow → Shared → Prop} {env : Env}
  {h₀ g₀ g : Heap} {L : Addr} {m : Str → Option Value}
theorem sum3 {a b c n : Nat} (h : a + b + c = n) (hn : 7 ≤ n ∧ n ≤ 11) : a ≤ 11 ∧ b ≤ 11 ∧ c ≤ 11 := by
  have h1 : a + b ≤ n := h ▸ Nat.le_add_right _ _
  exact ⟨Nat.le_trans (Nat.le_trans (Nat.le_add_right a b) h1) hn.2, Nat.le_trans (Nat.le_trans (Nat.le_add_left b a) h1) hn.2, Nat.le_trans (h ▸ Nat.le_add_left _ _) hn.2⟩
theorem law_body {sc : Addr} {vs : List Value} {ns : List Int} {c8 c7 c6 c5 c4 c3 c2 c1 : Obj} {v8 v7 v6 v5 v4 v3 v2 v1 : Option Value} (e : LawEnv env L) (R : Room A 40) (W : Wd w mg mb g)
    (F : Loc X0 h₀ g₀ L s.heap g m [(L + 8, c8), (L + 7, c7), (L + 6, c6), (L + 5, c5), (L + 4, c4), (L + 3, c3), (L + 2, c2), (L + 1, c1)])
    (d8 : c8.data = .cell v8) (d7 : c7.data = .cell v7) (d6 : c6.data = .cell v6) (d5 : c5.data = .cell v5) (d4 : c4.data = .cell v4) (d3 : c3.data = .cell v3) (d2 : c2.data = .cell v2) (d1 : c1.data = .cell v1)
    (dead : ∀ k ∈ ([1, 2, 3, 4, 5, 6, 7, 8] : List Addr), h₀.get? (L + k) = none) (hm : m "script" = some (.ref sc)) (hl : g.IsList sc vs.toArray) (hi : IntsAre vs ns) (hz : ns.length ≤ 1000)
    (h : ∀ h' tk g', Step X0 h₀ g₀ h' g' → Q (.ret (.bool true)) { s with heap := h', toks := tk }) : wpAny (model pr w) A (execs (lb w 0) env) Q E s := by
  have hxl := nums_len ns
  refine law_1 e R W F d1 hm hl hi hz (dead 1 (by simp)) fun h1 tk1 g1 nl t u s1 F1 hc1 hN => ?_
  generalize numsOfL ns = xs at hxl F1 hN
  refine law_2 e R (W.sub s1) F1 d6 d2 rfl (dead 6 (by simp)) (dead 2 (by simp)) fun h2 tk2 g2 kv ov s2 F2 hc6 hK hc2 hO => ?_
  have hkk := keysOf_ok xs.sum
  generalize keysOf xs.sum = ks at hK hO hkk
  refine law_3 e R (W.sub (s1.trans s2)) F2 (isCell_sub hc1 s2) (hN.sub s2) (by first | exact hxl.2 | omega) fun h3 tk3 g3 pl P s3 F3 hP => ?_
  obtain ⟨P0, P1, P2, rfl, hPl⟩ := three_of hP
  have F3 := F3.perm (List.perm_append_comm (l₁ := [(L + 3, c3)]) (l₂ := [(L + 8, c8), (L + 7, c7), (L + 5, c5), (L + 4, c4)]))
  have s13 := (s1.trans s2).trans s3
  refine law_4 e R (W.sub s13) F3 d3 (dead 3 (by simp)) rfl hP (by first | exact hxl.2 | omega) (isCell_sub hc2 s3) (hO.sub s3) hkk fun h4 tk4 g4 ll lvs s4 F4 hc3 hL => ?_
  have F4 := F4.perm (List.perm_append_comm (l₁ := [(L + 4, c4)]) (l₂ := [(L + 8, c8), (L + 7, c7), (L + 5, c5)]))
  have s14 := s13.trans s4
  refine law_5 e R (W.sub s14) F4 d4 (dead 4 (by simp)) rfl (hP.sub s4) (by first | exact hxl.2 | omega) (by first | exact hxl.2 | omega) (isCell_sub hc6 (s3.trans s4)) (hK.sub (s3.trans s4)) fun h5 tk5 g5 D p s5 F5 hc4 hD hp1 hp2 => ?_
  have s15 := s14.trans s5
  have F5 := F5.perm (List.perm_append_comm (l₁ := [(L + 7, c7)]) (l₂ := [(L + 8, c8)]) |>.append_right [(L + 5, c5)])
  have hL5 := hL.sub s5
  refine law_6 e R (W.sub s15) F5 d7 (dead 7 (by simp)) (isCell_sub hc2 ((s3.trans s4).trans s5)) (hO.sub ((s3.trans s4).trans s5)) hkk (isCell_sub hc3 s5) hL5 fun h6 tk6 g6 pl6 s6 F6 hc7 hpl => ?_
  have s16 := s15.trans s6
  -- the plain facts
  have o0 := sortR_srt ks P0
  have o1 := sortR_srt ks P1
  have o2 := sortR_srt ks P2
  have oR : Srt ks (repOf (P0 ++ P1 ++ P2) p) := rep_srt hp2
  have pm : (repOf (P0 ++ P1 ++ P2) p).Perm (sortR ks P0 ++ sortR ks P1 ++ sortR ks P2) := (rep_perm hp1).trans (((sortR_perm P0).append (sortR_perm P1)).append (sortR_perm P2)).symm
  have hf : ∀ x, (repOf (P0 ++ P1 ++ P2) p).filter (cls ks x) = (sortR ks P0 ++ sortR ks P1 ++ sortR ks P2).filter (cls ks x) := fun x => by
    rw [rep_filter hp1 hp2, List.filter_append, List.filter_append, List.filter_append, List.filter_append, sortR_filter, sortR_filter, sortR_filter]
  have hrr : RowsAt w g3 (P0 ++ P1 ++ P2) := by
    refine fun q hq => ?_
    rcases List.mem_append.mp hq with hq | hq
    · rcases List.mem_append.mp hq with hq | hq
      · exact hP.rows P0 (by simp) q hq
      · exact hP.rows P1 (by simp) q hq
    · exact hP.rows P2 (by simp) q hq
  have hRl : (repOf (P0 ++ P1 ++ P2) p).length = xs.length := by rw [(rep_perm hp1).length_eq, hPl]
  have hRr : RowsAt w g3 (repOf (P0 ++ P1 ++ P2) p) := fun q hq => hrr q ((rep_perm hp1).mem_iff.mp hq)
  have l0 := sortR_length ks P0
  have l1 := sortR_length ks P1
  have l2 := sortR_length ks P2
  have hLl : (sortR ks P0 ++ sortR ks P1 ++ sortR ks P2).length = xs.length := by rw [← pm.length_eq, hRl]
  have hLl' := hLl
  rw [List.length_append, List.length_append] at hLl'
  have hap := allPl_perm o0 o1 o2
  rw [hLl] at hap
  have hpick := fun c => pick_perm o0 o1 o2 oR pm hf c
  have hpla : ∀ {t i : Nat} {l : List PRow} {q : PRow}, [sortR ks P0, sortR ks P1, sortR ks P2][t]? = some l → l[i]? = some q → ∃ k : Nat, plOf ks [sortR ks P0, sortR ks P1, sortR ks P2] t i q.2 = (k : Int) ∧ (repOf (P0 ++ P1 ++ P2) p)[k]? = some q := fun ht hq => place_at o0 o1 o2 oR pm hf ht hq
  have F6 := F6
  generalize repOf (P0 ++ P1 ++ P2) p = Rr at *
  have hL5 : ListsAt w ks g5 ll lvs [sortR ks P0, sortR ks P1, sortR ks P2] := hL5
  generalize sortR ks P0 = L0 at *
  generalize sortR ks P1 = L1 at *
  generalize sortR ks P2 = L2 at *
  obtain ⟨z0, z1, z2⟩ := sum3 hLl' hxl
  refine law_7 e R (W.sub s16) F6 (n := xs.length) rfl hc7 hpl (by first | exact hxl.2 | omega) hap fun h7 tk7 g7 s7 F7 => ?_
  have s17 := s16.trans s7
  have s57 := s6.trans s7
  refine law_8 e R (W.sub s17) F7 (isCell_sub hc7 s7) (hpl.sub s7) (isCell_sub hc3 (s5.trans s57)) (hL5.sub s57) (isCell_sub hc4 s57) (IsList.sub hD s57) (by rw [List.length_map]; omega) rfl ?_ fun h8 tk8 g8 s8 F8 => ?_
  · intro t q l hq hl'
    have hq' : q = placesOf ks [L0, L1, L2] t l := by
      match t, hq, hl' with
      | 0, hq, hl' => cases hq; cases hl'; rfl
      | 1, hq, hl' => cases hq; cases hl'; rfl
      | 2, hq, hl' => cases hq; cases hl'; rfl
      | t + 3, hq, _ => simp at hq
    subst hq'
    refine ⟨placesOf_len _ _ _, ?_, fun i z hz' => ?_⟩
    · have := List.mem_of_getElem? hl'
      simp only [List.mem_cons, List.not_mem_nil, or_false] at this
      rcases this with rfl | rfl | rfl
      · exact z0
      · exact z1
      · exact z2
    · rw [placesOf_get] at hz'
      obtain ⟨r, hr, rfl⟩ := Option.map_eq_some_iff.mp hz'
      obtain ⟨k, e1, e2⟩ := hpla hl' hr
      exact ⟨k, e1, by rw [List.getElem?_map, List.getElem?_map, hr, e2]⟩
  have s18 := s17.trans s8
  have s58 := s57.trans s8
  have hfit : Fit (pl3 ks L0 L1 L2) [L0, L1, L2] := by
    refine ⟨rfl, rfl, fun i q l hq hl' => ?_, fun l hl' => ?_, fun q hq => ?_⟩
    · match i, hq, hl' with
      | 0, hq, hl' => cases hq; cases hl'; exact placesOf_len _ _ _
      | 1, hq, hl' => cases hq; cases hl'; exact placesOf_len _ _ _
      | 2, hq, hl' => cases hq; cases hl'; exact placesOf_len _ _ _
      | t + 3, hq, _ => simp at hq
    · simp only [List.mem_cons, List.not_mem_nil, or_false] at hl'
      rcases hl' with rfl | rfl | rfl
      · exact Nat.le_trans z0 (by decide)
      · exact Nat.le_trans z1 (by decide)
      · exact Nat.le_trans z2 (by decide)
    · simp only [List.mem_cons, List.not_mem_nil, or_false] at hq
      rcases hq with rfl | rfl | rfl
      · exact places_up _ _ o0
      · exact places_up _ _ o1
      · exact places_up _ _ o2
  refine law_9 e R (W.sub s18) F8 d8 (dead 8 (by simp)) (isCell_sub hc3 (s5.trans s58)) (hL5.sub s58) hfit.few fun h9 tk9 g9 sl s9 F9 hc8 hS => ?_
  have s19 := s18.trans s9
  have s59 := s58.trans s9
  refine law_10 e R (W.sub s19) F9 (n := xs.length) rfl (isCell_sub hc4 s59) (IsList.sub hD s59) (RowsAt.sub hRr ((s4.trans s5).trans s59)) (by first | exact hxl.2 | omega) (by first | exact hxl.2 | omega) fun h10 tk10 g10 dl s10 F10 hDu => ?_
  have s110 := s19.trans s10
  have s710 := ((s7.trans s8).trans s9).trans s10
  refine law_11 e R (W.sub s110) F10 (n := xs.length) rfl rfl (by first | exact hxl.2 | omega) (isCell_sub hc7 s710) (hpl.sub s710) (isCell_sub hc8 s10) (hS.sub s10) hfit hDu hpick fun h11 tk11 g11 m11 s11 F11 hsame => ?_
  have s711 := s710.trans s11
  exact law_12 e R (W.sub (s110.trans s11)) F11 d5 (n := xs.length) ((hsame "size" (by decide) (by decide)).trans rfl) ((hsame "dues" (by decide) (by decide)).trans rfl) ((hsame "told" (by decide) (by decide)).trans rfl) (by first | exact hxl.2 | omega) (isCell_sub hc7 s711) (hpl.sub s711) (isCell_sub hc8 (s10.trans s11)) (hS.sub (s10.trans s11)) hfit (hDu.sub s11) hpick fun h' tk g' hw => h h' tk g' hw
end
end Mine

end
section
set_option autoImplicit false
set_option maxHeartbeats 1000000
namespace Mine
theorem law_join {w : World} {mg mb : Str → Option Value} {p : Program} {loose : List Str} {mean : ExcName → Option Value} {A : Around} {E : Value → Shared → Prop} {s : Shared} {Q : Flow → Shared → Prop} {env : Env} {H h₁ : Heap} {m : Str → Option Value}
    {sc : Addr} {vs : List Value} {ns : List Int} {c8 c7 c6 c5 c4 c3 c2 c1 : Obj} {v8 v7 v6 v5 v4 v3 v2 v1 : Option Value} {tk : Nat}
    (hT8 : ∀ P : Addr, P ∈ [111, 149] → H.get? P = some (tabObj #[])) (X' : (KK w).In (ghostOf H [(115, 111), (151, 149)])) (T' : Top p loose mean mg mb (ghostOf H [(115, 111), (151, 149)]))
    (F' : Fr (ghostOf H [(115, 111), (151, 149)]) H.objs.size h₁ m) (hl : (ghostOf H [(115, 111), (151, 149)]).IsList sc vs.toArray) (hd1 : CodeHd (ghostOf H [(115, 111), (151, 149)]) 115 111) (hd2 : CodeHd (ghostOf H [(115, 111), (151, 149)]) 151 149)
    (N' : News (ghostOf H [(115, 111), (151, 149)]) H.objs.size h₁ [(H.objs.size + 8, c8), (H.objs.size + 7, c7), (H.objs.size + 6, c6), (H.objs.size + 5, c5), (H.objs.size + 4, c4), (H.objs.size + 3, c3), (H.objs.size + 2, c2), (H.objs.size + 1, c1), (111, tabObj #[]), (149, tabObj #[])])
    (d8 : c8.data = .cell v8) (d7 : c7.data = .cell v7) (d6 : c6.data = .cell v6) (d5 : c5.data = .cell v5) (d4 : c4.data = .cell v4) (d3 : c3.data = .cell v3) (d2 : c2.data = .cell v2) (d1 : c1.data = .cell v1)
    (e : LawEnv env H.objs.size) (R : Room A 40) (hm : m "script" = some (.ref sc)) (hi : IntsAre vs ns) (hz : ns.length ≤ 1000)
    (h : ∀ h' tk g', Step X0 H (ghostOf H [(115, 111), (151, 149)]) h' g' → Q (.ret (.bool true)) { s with heap := h', toks := tk }) : wpAny (model pr w) A (execs (lb w 0) env) Q E { s with heap := h₁, toks := tk } := by
  generalize hg : ghostOf H [(115, 111), (151, 149)] = g at *
  have big : ∀ k : Addr, H.objs.size ≤ k → H.get? k = none := fun k hk => by
    cases q : H.get? k with
    | none => rfl
    | some o => exact absurd (Heap.lt_size q) (Nat.not_lt.mpr hk)
  have gk : ∀ b o, b ∉ ([111, 149] : List Addr) → H.get? b = some o → g.get? b = some o := fun b o hb q => by
    rw [← hg]; exact ghost_ne q (by simpa using hb)
  have off : ∀ P ∈ X0, g.get? P = none := fun P hP => by
    have hP : P ∈ ([111, 149] : List Addr) := hP
    simp only [List.mem_cons, List.not_mem_nil, or_false] at hP
    rcases hP with rfl | rfl
    · exact (N' (111, tabObj #[]) (by simp)).2.2
    · exact (N' (149, tabObj #[]) (by simp)).2.2
  have tab : ∀ P ∈ X0, h₁.get? P = some (tabObj #[]) := fun P hP => by
    have hP : P ∈ ([111, 149] : List Addr) := hP
    simp only [List.mem_cons, List.not_mem_nil, or_false] at hP
    rcases hP with rfl | rfl
    · exact (N' (111, tabObj #[]) (by simp)).1
    · exact (N' (149, tabObj #[]) (by simp)).1
  have wm : Wm h₁ g := ⟨⟨off 111 (by simp), #[], tab 111 (by simp), trivial, fun q _ => .inl rfl⟩, ⟨off 149 (by simp), #[], tab 149 (by simp), trivial, fun q _ => .inl rfl⟩⟩
  have gH : Sub g H := fun b o q => by rw [← hg] at q; exact of_hideAll _ q
  have pres : ∀ b o, b ∉ X0 → H.get? b = some o → h₁.get? b = some o := fun b o hb q => F'.keep b o (gk b o hb q)
  have st : Step X0 H g h₁ g := by
    refine ⟨fun b q => ?_, pres, Sub.refl _, F'.keep, fun b o q => .inl q, wm⟩
    cases q2 : H.get? b with
    | none => rfl
    | some o =>
      by_cases hb : b ∈ X0
      · rw [tab b hb] at q; cases q
      · rw [pres b o hb q2] at q; cases q
  obtain ⟨bm, ob, b1, b2, b3, b4, b5, b6⟩ := T'.bmain
  have bmg : bm ≠ mainGlobals := fun q => by
    obtain ⟨o, es, ep, eo, hd, _⟩ := T'.g
    rw [q, eo] at b3
    cases b3
    rw [b6] at hd
    cases hd
  have bat : ∀ P ∈ X0, g.BuiltinsAt mg P := fun P hP => ⟨bm, ob, b1, b2, bmg, ne_of_some b3 (off P hP), b3, b4, b5, b6⟩
  have W : Wd w mg mb g := ⟨X', T'.g, T'.b, T'.nolimit, T'.builtins, bat 111 (by simp), bat 149 (by simp), hd1, hd2⟩
  have F : Loc X0 H g H.objs.size h₁ g m [(H.objs.size + 8, c8), (H.objs.size + 7, c7), (H.objs.size + 6, c6), (H.objs.size + 5, c5), (H.objs.size + 4, c4), (H.objs.size + 3, c3), (H.objs.size + 2, c2), (H.objs.size + 1, c1)] := by
    refine ⟨st, F'.ns, gH.alive _ (big _ (Nat.le_refl _)), big _ (Nat.le_refl _), fun q hq => ?_, ?_, fun _ h => h, fun x hx => ⟨_, hT8 x hx⟩⟩
    · have hq' : q ∈ [(H.objs.size + 8, c8), (H.objs.size + 7, c7), (H.objs.size + 6, c6), (H.objs.size + 5, c5), (H.objs.size + 4, c4), (H.objs.size + 3, c3), (H.objs.size + 2, c2), (H.objs.size + 1, c1), (111, tabObj #[]), (149, tabObj #[])] := by
        exact List.mem_append_left (bs := [(111, tabObj #[]), (149, tabObj #[])]) hq
      obtain ⟨n1, n2, n3⟩ := N' q hq'
      have hge : H.objs.size ≤ q.1 := by
        simp only [List.mem_cons, List.not_mem_nil, or_false] at hq
        rcases hq with rfl | rfl | rfl | rfl | rfl | rfl | rfl | rfl <;> exact Nat.le_add_right _ _
      have hno := big _ hge
      exact ⟨n1, n3, n2, (fun hx => by rw [hT8 _ hx] at hno; cases hno), .inr hno⟩
    · simp
  exact law_body (s := { s with heap := h₁, toks := tk }) e R W F d8 d7 d6 d5 d4 d3 d2 d1 (fun k hk => big _ (Nat.le_add_right _ _)) hm hl hi hz fun h' tk g' hw => h h' tk g' hw
end Mine

end
section
set_option maxHeartbeats 8000000 in
theorem PySem.Challenge.cw_ph0097_01_holds : PySem.Challenge.rw_ph0097_01.Holds := by
  exact Mine.hd (by
    k_go0
    rename Top _ _ _ _ _ (ghostOf _ _) => T'
    rename Fr (ghostOf _ _) _ _ _ => F'
    rename News (ghostOf _ _) _ _ _ => N'
    rename (Frag.In _ (ghostOf _ _)) => X'
    rename IntsAre _ _ => hI
    rename CodeHd _ _ _ => cd2
    refine Mine.law_join hT8 X' T' F' lifted codeHd cd2 N' (by assumption) (by assumption) (by assumption) (by assumption) (by assumption) (by assumption) (by assumption) (by assumption) ⟨⟨rfl, rfl, rfl, rfl, rfl, rfl⟩, rfl, rfl⟩ ⟨rfl, by show callerA.depth + 1 + 40 < recursionLimit; decide, by show callerA.units + 3 + 10 * 40 < cLine; decide⟩ rfl hI (by omega) ?_
    intro h' tk g' hw
    refine ⟨⟨.inl ⟨.bool true, ofPy (.bool true), [], rfl, fun _ => rfl, ?_, ?_, ?_⟩, (hw.sub.trans hw.into), rfl, by assumption⟩, ?_, ?_, True.intro⟩
    · first | exact .bool _ | exact rfl | exact ⟨rfl, rfl⟩ | (constructor <;> rfl) | (simp [ofPy]; constructor)
    · first | rfl | (with_unfolding_all rfl) | decide
    · exact fun _ => ⟨List.nodup_nil, fun a ha => nomatch ha⟩
    · exact let ⟨ps, q, _⟩ := hw.wm.t1.tab; ⟨ps, q⟩
    · exact let ⟨ps, q, _⟩ := hw.wm.t2.tab; ⟨ps, q⟩)

end
