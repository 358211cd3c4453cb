/- Walks and plain laws joined (Sa, Sb). Conditions: stand in each law. -/
import Derived.Test.YtghajgdiaopioaaGreatDoorJp
import Derived.Test.YtghajgdiaopioaaGreatDoorJs
set_option linter.unusedVariables false
set_option linter.unusedSimpArgs false
section
/- Plain: the spec's functions on shapes, and what they say of a geometry. -/
namespace Go.Proofs.YtghajgdiaopioaaGreatDoor
open Go.RowKit Go.Proofs Tx
/-- The form of a kind. -/
def formS (s : Sh) : Bool :=
  if s.kind = 1 then decide (s.lists.length = 1) && decide ((s.lists.headD []).length = 1) && decide (s.parts.length = 0)
  else if s.kind = 2 ∨ s.kind = 4 then decide (s.lists.length = 1) && decide (s.parts.length = 0)
  else if s.kind = 3 ∨ s.kind = 5 then decide (s.parts.length = 0)
  else decide (s.lists.length = 0)
def sumL (l : List (List Pt)) : Nat := (l.map List.length).sum
def cntF (f : Sh → Option (Nat × Nat)) (k : Int) : List Sh → Option (Nat × Nat)
  | [] => some (0, 0)
  | p :: l => match f p with
    | none => none
    | some x => if k = 6 ∧ p.kind ≠ 3 then none else (cntF f k l).map fun y => (x.1 + y.1, x.2 + y.2)
def headOk (s : Sh) : Bool := decide (1 ≤ s.kind) && decide (s.kind ≤ 7) && decide (s.lists.length ≤ 40) && decide (s.parts.length ≤ 40)
/-- counted. -/
def cnt : Nat → Sh → Option (Nat × Nat)
  | 0, _ => none
  | d + 1, s => if headOk s then
      (cntF (cnt d) s.kind s.parts).bind fun x => if formS s then some (sumL s.lists + x.1, 1 + x.2) else none
    else none

/-- All points. -/
def ptsS : Sh → List Pt
  | .mk _ ls ps => ls.flatten ++ ptsSs ps
where ptsSs : List Sh → List Pt
  | [] => []
  | s :: l => ptsS s ++ ptsSs l
/-- No list empty. -/
def fullS : Sh → Bool
  | .mk _ ls ps => ls.all (fun l => decide (l.length ≠ 0)) && fullSs ps && decide (0 < ls.length + ps.length)
where fullSs : List Sh → Bool
  | [] => true
  | s :: l => fullS s && fullSs l
def emptyS (s : Sh) : Bool := decide ((ptsS s).length = 0) && decide (s.parts.length = 0) && (decide (s.lists.length = 0) || decide (s.kind = 2) || decide (s.kind = 4))
/-- All coordinates are of a sort. -/
def AllS (q : Nat → Prop) : Sh → Prop
  | .mk _ ls ps => (∀ l ∈ ls, ∀ p ∈ l, q p.1 ∧ q p.2) ∧ AllSs q ps
where AllSs (q : Nat → Prop) : List Sh → Prop
  | [] => True
  | s :: l => AllS q s ∧ AllSs q l
theorem ptsSs_eq (l : List Sh) : ptsS.ptsSs l = (l.map ptsS).flatten := by
  induction l with
  | nil => rfl
  | cons s l ih => rw [ptsS.ptsSs, ih]; rfl
theorem fullSs_eq (l : List Sh) : fullS.fullSs l = l.all fullS := by
  induction l with
  | nil => rfl
  | cons s l ih => rw [fullS.fullSs, ih]; rfl
theorem AllSs_iff (q : Nat → Prop) (l : List Sh) : AllS.AllSs q l ↔ ∀ s ∈ l, AllS q s := by
  induction l with
  | nil => simp [AllS.AllSs]
  | cons s l ih => rw [AllS.AllSs, ih]; simp
/-! ### How great a geometry is -/
def wtL (l : List (List Pt)) : Nat := (l.map fun r => r.length + 1).sum
def wt : Geo → Nat
  | .point _ => 2
  | .line ps => ps.length + 1
  | .poly rs => wtL rs + 1
  | .mpoint ps => ps.length + 1
  | .mline ls => wtL ls + 1
  | .mpoly qs => (qs.map fun q => wtL q + 1).sum + 1
  | .coll gs => wts gs + 1
where wts : List Geo → Nat
  | [] => 0
  | g :: l => wt g + wts l
theorem wts_eq (l : List Geo) : wt.wts l = (l.map wt).sum := by
  induction l with
  | nil => rfl
  | cons s l ih => rw [wt.wts, ih]; rfl
theorem wtL_eq (l : List (List Pt)) : wtL l = sumL l + l.length := by
  induction l with
  | nil => rfl
  | cons r l ih => simp only [wtL, sumL, List.map_cons, List.sum_cons, List.length_cons] at ih ⊢; omega
theorem le_sum {l : List Nat} {a : Nat} (h : a ∈ l) : a ≤ l.sum := by
  induction l with
  | nil => cases h
  | cons b l ih =>
    rw [List.sum_cons]
    rcases List.mem_cons.1 h with rfl | h
    · omega
    · have := ih h; omega
theorem len_sum {α : Type} (f : α → Nat) (l : List α) (h : ∀ a ∈ l, 1 ≤ f a) : l.length ≤ (l.map f).sum := by
  induction l with
  | nil => simp
  | cons b l ih =>
    rw [List.map_cons, List.sum_cons, List.length_cons]
    have := ih fun a ha => h a (List.mem_cons_of_mem _ ha)
    have := h b (List.mem_cons_self ..)
    omega
theorem wt_pos (g : Geo) : 1 ≤ wt g := by cases g <;> simp [wt]
theorem limL {l : List (List Pt)} (h : wtL l ≤ 1000000000) : l.length ≤ 1000000000 ∧ ∀ r ∈ l, r.length ≤ 1000000000 := by
  refine ⟨Nat.le_trans (len_sum (fun r : List Pt => r.length + 1) l fun _ _ => by omega) h, fun r hr => ?_⟩
  have := le_sum (List.mem_map_of_mem (f := fun r : List Pt => r.length + 1) hr)
  unfold wtL at h
  omega
theorem wt_lim : ∀ (n : Nat) (g : Geo), g.deep ≤ n → wt g ≤ 1000000000 → LimG g := by
  intro n
  induction n with
  | zero => intro g hg; exfalso; cases g <;> simp [Geo.deep] at hg
  | succ n ih =>
    intro g hd hw
    cases g with
    | point p => exact .point p
    | line ps => simp only [wt] at hw; exact .line (by omega)
    | poly rs => simp only [wt] at hw; exact .poly (limL (by omega)).1 (limL (by omega)).2
    | mpoint ps => simp only [wt] at hw; exact .mpoint (by omega)
    | mline ls => simp only [wt] at hw; exact .mline (limL (by omega)).1 (limL (by omega)).2
    | mpoly qs =>
      simp only [wt] at hw
      refine .mpoly (Nat.le_trans (len_sum (fun q => wtL q + 1) qs fun _ _ => by omega) (by omega)) fun q hq => ?_
      have := le_sum (List.mem_map_of_mem (f := fun q : List (List Pt) => wtL q + 1) hq)
      exact limL (by omega)
    | coll gs =>
      simp only [wt, wts_eq] at hw
      refine .coll (Nat.le_trans (len_sum wt gs fun g _ => wt_pos g) (by omega)) fun g hg => ?_
      have := le_sum (List.mem_map_of_mem (f := wt) hg)
      simp only [Geo.deep] at hd
      exact ih g (deeps_le (by omega) g hg) (by omega)

/-! ### A counted shape is that of a geometry -/
theorem cntF_geo {f : Sh → Option (Nat × Nat)} {d : Nat} {k : Int} (hf : ∀ s a b, f s = some (a, b) → ∃ g, s = shOf g ∧ g.deep ≤ d ∧ wt g + 1 ≤ a + 42 * b ∧ 1 ≤ b) :
    ∀ (l : List Sh) (a b : Nat), cntF f k l = some (a, b) → ∃ gs : List Geo, l = gs.map shOf ∧ (∀ g ∈ gs, g.deep ≤ d) ∧ (gs.map wt).sum + gs.length ≤ a + 42 * b ∧ (k = 6 → ∀ s ∈ l, s.kind = 3) ∧ gs.length ≤ b := by
  intro l
  induction l with
  | nil =>
    intro a b h
    simp only [cntF, Option.some.injEq, Prod.mk.injEq] at h
    obtain ⟨rfl, rfl⟩ := h
    exact ⟨[], rfl, by simp, by simp, by simp, by simp⟩
  | cons p l ih =>
    intro a b h
    rw [cntF] at h
    cases hp : f p with
    | none => rw [hp] at h; cases h
    | some x =>
      rw [hp] at h
      simp only at h
      split at h
      · cases h
      · rename_i hk
        cases hl : cntF f k l with
        | none => rw [hl] at h; cases h
        | some y =>
          rw [hl] at h
          simp only [Option.map_some, Option.some.injEq, Prod.mk.injEq] at h
          obtain ⟨rfl, rfl⟩ := h
          obtain ⟨gs, rfl, h1, h2, h3, h4⟩ := ih y.1 y.2 hl
          obtain ⟨g, rfl, g1, g2, g3⟩ := hf p x.1 x.2 hp
          refine ⟨g :: gs, rfl, ?_, ?_, ?_, ?_⟩
          · intro q hq
            rcases List.mem_cons.1 hq with rfl | hq
            · exact g1
            · exact h1 q hq
          · simp only [List.map_cons, List.sum_cons, List.length_cons]; omega
          · intro h6 s hs
            rcases List.mem_cons.1 hs with rfl | hs
            · exact Classical.byContradiction fun hc => hk ⟨h6, hc⟩
            · exact h3 h6 s hs
          · simp only [List.length_cons]; omega
theorem deeps_of {gs : List Geo} {n : Nat} (h : ∀ g ∈ gs, g.deep ≤ n) : Geo.deep.deeps gs ≤ n := by
  induction gs with
  | nil => simp [Geo.deep.deeps]
  | cons g l ih =>
    rw [Geo.deep.deeps]
    have := ih fun x hx => h x (List.mem_cons_of_mem _ hx)
    have := h g (List.mem_cons_self ..)
    omega
theorem polys_of {gs : List Geo} (h : ∀ s ∈ gs.map shOf, s.kind = 3) : ∃ qs : List (List (List Pt)), gs = qs.map .poly := by
  induction gs with
  | nil => exact ⟨[], rfl⟩
  | cons g l ih =>
    obtain ⟨qs, rfl⟩ := ih fun s hs => h s (List.mem_cons_of_mem _ hs)
    have h3 := h (shOf g) (List.mem_cons_self ..)
    cases g with
    | poly rs => exact ⟨rs :: qs, rfl⟩
    | _ => simp [shOf, Sh.kind] at h3
theorem cnt_geo : ∀ (d : Nat) (s : Sh) (a b : Nat), cnt d s = some (a, b) → ∃ g, s = shOf g ∧ g.deep ≤ d ∧ wt g + 1 ≤ a + 42 * b ∧ 1 ≤ b := by
  intro d
  induction d with
  | zero => intro s a b h; cases h
  | succ d ih =>
    rintro ⟨k, ls, ps⟩ a b h
    rw [cnt] at h
    split at h
    · rename_i hh
      simp only [headOk, Bool.and_eq_true, decide_eq_true_eq] at hh
      simp only [Sh.kind, Sh.lists, Sh.parts] at hh
      obtain ⟨⟨⟨k1, k7⟩, hl⟩, hp⟩ := hh
      simp only [Sh.kind, Sh.lists, Sh.parts] at h
      cases hc : cntF (cnt d) k ps with
      | none => rw [hc] at h; cases h
      | some x =>
        rw [hc] at h
        simp only [Option.bind_some] at h
        split at h
        · rename_i hform
          simp only [Option.some.injEq, Prod.mk.injEq] at h
          obtain ⟨rfl, rfl⟩ := h
          obtain ⟨gs, rfl, g1, g2, g3, g4⟩ := cntF_geo ih ps x.1 x.2 hc
          have hk : k = 1 ∨ k = 2 ∨ k = 3 ∨ k = 4 ∨ k = 5 ∨ k = 6 ∨ k = 7 := by omega
          have hf2 : (k = 1 → ls.length = 1 ∧ (ls.headD []).length = 1 ∧ (gs.map shOf).length = 0) ∧ (k = 2 ∨ k = 4 → ls.length = 1 ∧ (gs.map shOf).length = 0) ∧ (k = 3 ∨ k = 5 → (gs.map shOf).length = 0) ∧ (k = 6 ∨ k = 7 → ls.length = 0) := by
            unfold formS at hform
            refine ⟨fun e => ?_, fun e => ?_, fun e => ?_, fun e => ?_⟩
            · rw [if_pos (show Sh.kind (.mk k ls (gs.map shOf)) = 1 from e)] at hform
              simp only [Bool.and_eq_true, decide_eq_true_eq] at hform
              exact ⟨hform.1.1, hform.1.2, hform.2⟩
            · rw [if_neg (show ¬ Sh.kind (.mk k ls (gs.map shOf)) = 1 by show ¬ k = 1; omega), if_pos (show Sh.kind (.mk k ls (gs.map shOf)) = 2 ∨ Sh.kind (.mk k ls (gs.map shOf)) = 4 from e)] at hform
              simp only [Bool.and_eq_true, decide_eq_true_eq] at hform
              exact hform
            · rw [if_neg (show ¬ Sh.kind (.mk k ls (gs.map shOf)) = 1 by show ¬ k = 1; omega), if_neg (show ¬ (Sh.kind (.mk k ls (gs.map shOf)) = 2 ∨ Sh.kind (.mk k ls (gs.map shOf)) = 4) by show ¬ (k = 2 ∨ k = 4); omega), if_pos (show Sh.kind (.mk k ls (gs.map shOf)) = 3 ∨ Sh.kind (.mk k ls (gs.map shOf)) = 5 from e)] at hform
              simp only [decide_eq_true_eq] at hform
              exact hform
            · rw [if_neg (show ¬ Sh.kind (.mk k ls (gs.map shOf)) = 1 by show ¬ k = 1; omega), if_neg (show ¬ (Sh.kind (.mk k ls (gs.map shOf)) = 2 ∨ Sh.kind (.mk k ls (gs.map shOf)) = 4) by show ¬ (k = 2 ∨ k = 4); omega), if_neg (show ¬ (Sh.kind (.mk k ls (gs.map shOf)) = 3 ∨ Sh.kind (.mk k ls (gs.map shOf)) = 5) by show ¬ (k = 3 ∨ k = 5); omega)] at hform
              simp only [decide_eq_true_eq] at hform
              exact hform
          clear hform
          simp only [List.length_map, List.length_eq_zero_iff] at hf2
          obtain ⟨f1, f2, f3, f6⟩ := hf2
          rcases hk with rfl | rfl | rfl | rfl | rfl | rfl | rfl
          · obtain ⟨e1, e2, e3⟩ := f1 rfl
            obtain ⟨r, rfl⟩ := List.length_eq_one_iff.1 e1
            obtain ⟨p, rfl⟩ := List.length_eq_one_iff.1 (show r.length = 1 from e2)
            subst e3
            exact ⟨.point p, rfl, by simp [Geo.deep], by simp [wt, sumL, Sh.lists]; omega, by omega⟩
          · obtain ⟨e1, e3⟩ := f2 (by omega)
            obtain ⟨r, rfl⟩ := List.length_eq_one_iff.1 e1
            subst e3
            exact ⟨.line r, rfl, by simp [Geo.deep], by simp [wt, sumL, Sh.lists]; omega, by omega⟩
          · have e3 := f3 (by omega)
            subst e3
            exact ⟨.poly ls, rfl, by simp [Geo.deep], by simp only [wt, wtL_eq, Sh.lists]; omega, by omega⟩
          · obtain ⟨e1, e3⟩ := f2 (by omega)
            obtain ⟨r, rfl⟩ := List.length_eq_one_iff.1 e1
            subst e3
            exact ⟨.mpoint r, rfl, by simp [Geo.deep], by simp [wt, sumL, Sh.lists]; omega, by omega⟩
          · have e3 := f3 (by omega)
            subst e3
            exact ⟨.mline ls, rfl, by simp [Geo.deep], by simp only [wt, wtL_eq, Sh.lists]; omega, by omega⟩
          · have e3 := f6 (by omega)
            subst e3
            obtain ⟨qs, rfl⟩ := polys_of (g3 rfl)
            refine ⟨.mpoly qs, by simp [shOf, Function.comp_def], by simp [Geo.deep], ?_, by omega⟩
            simp only [wt, List.map_map, List.length_map, Function.comp_def] at g2 ⊢
            have e : (qs.map fun x => wt (.poly x)).sum = (qs.map fun q => wtL q + 1).sum := rfl
            omega
          · have e3 := f6 (by omega)
            subst e3
            refine ⟨.coll gs, by simp [shOf, shOfs_map], ?_, ?_, by omega⟩
            · simp only [Geo.deep]
              have := deeps_of g1
              omega
            · simp only [wt, wts_eq]; omega
        · cases h
    · cases h

/-! ### Full and empty ones -/
theorem fullS_geo : ∀ (n : Nat) (g : Geo), g.deep ≤ n → fullS (shOf g) = true → Full g ∧ ptsS (shOf g) ≠ [] := by
  intro n
  induction n with
  | zero => intro g hg; exfalso; cases g <;> simp [Geo.deep] at hg
  | succ n ih =>
    intro g hd hf
    have flat : ∀ ls : List (List Pt), ls ≠ [] → (∀ r ∈ ls, r ≠ []) → ls.flatten ≠ [] := by
      intro ls h0 h1 he
      cases ls with
      | nil => exact h0 rfl
      | cons r l =>
        simp only [List.flatten_cons, List.append_eq_nil_iff] at he
        exact h1 r (List.mem_cons_self ..) he.1
    cases g with
    | point p => exact ⟨.point p, by simp [shOf, ptsS]⟩
    | line ps =>
      simp [shOf, fullS, fullS.fullSs] at hf
      exact ⟨.line hf, by simp [shOf, ptsS, ptsS.ptsSs, hf]⟩
    | mpoint ps =>
      simp [shOf, fullS, fullS.fullSs] at hf
      exact ⟨.mpoint hf, by simp [shOf, ptsS, ptsS.ptsSs, hf]⟩
    | poly rs =>
      simp only [shOf, fullS, fullS.fullSs, Bool.and_eq_true, List.all_eq_true, decide_eq_true_eq, List.length_nil, Nat.add_zero, and_true] at hf
      have h0 : rs ≠ [] := by rintro rfl; simp at hf
      have h1 : ∀ r ∈ rs, r ≠ [] := by rintro r hr rfl; exact hf.1 _ hr rfl
      exact ⟨.poly h0 h1, by simpa [shOf, ptsS, ptsS.ptsSs] using flat rs h0 h1⟩
    | mline rs =>
      simp only [shOf, fullS, fullS.fullSs, Bool.and_eq_true, List.all_eq_true, decide_eq_true_eq, List.length_nil, Nat.add_zero, and_true] at hf
      have h0 : rs ≠ [] := by rintro rfl; simp at hf
      have h1 : ∀ r ∈ rs, r ≠ [] := by rintro r hr rfl; exact hf.1 _ hr rfl
      exact ⟨.mline h0 h1, by simpa [shOf, ptsS, ptsS.ptsSs] using flat rs h0 h1⟩
    | mpoly qs =>
      simp only [shOf, fullS, fullSs_eq, Bool.and_eq_true, List.all_eq_true, decide_eq_true_eq, List.length_nil, Nat.zero_add, List.length_map, List.mem_map, forall_exists_index, and_imp, forall_apply_eq_imp_iff₂, fullS.fullSs, Nat.add_zero, and_true] at hf
      obtain ⟨⟨_, h1⟩, h0⟩ := hf
      have h0' : qs ≠ [] := by rintro rfl; simp at h0
      have h2 : ∀ q ∈ qs, q ≠ [] ∧ ∀ r ∈ q, r ≠ [] := by
        intro q hq
        obtain ⟨a, b⟩ := h1 q hq
        exact ⟨by rintro rfl; simp at b, by rintro r hr rfl; exact a _ hr rfl⟩
      refine ⟨.mpoly h0' h2, ?_⟩
      cases qs with
      | nil => exact absurd rfl h0'
      | cons q l =>
        obtain ⟨a, b⟩ := h2 q (List.mem_cons_self ..)
        have := flat q a b
        simp only [shOf, ptsS, List.map_cons, ptsS.ptsSs]
        intro he
        simp only [List.append_eq_nil_iff] at he
        exact this he.2.1.1
    | coll gs =>
      simp only [shOf, shOfs_map, fullS, fullSs_eq, Bool.and_eq_true, List.all_eq_true, decide_eq_true_eq, List.length_nil, Nat.zero_add, List.length_map, List.mem_map, forall_exists_index, and_imp, forall_apply_eq_imp_iff₂] at hf
      obtain ⟨⟨_, h1⟩, h0⟩ := hf
      have h0' : gs ≠ [] := by rintro rfl; simp at h0
      simp only [Geo.deep] at hd
      have h2 : ∀ g ∈ gs, Full g ∧ ptsS (shOf g) ≠ [] := fun g hg => ih g (deeps_le (by omega) g hg) (h1 g hg)
      refine ⟨.coll h0' fun g hg => (h2 g hg).1, ?_⟩
      cases gs with
      | nil => exact absurd rfl h0'
      | cons q l =>
        have := (h2 q (List.mem_cons_self ..)).2
        simp only [shOf, shOf.shOfs, ptsS, ptsS.ptsSs]
        intro he
        simp only [List.append_eq_nil_iff] at he
        exact this he.2.1
theorem emptyS_geo (g : Geo) (h : emptyS (shOf g) = true) : 2 ≤ g.kind ∧ g = emptyOf g.kind := by
  unfold emptyS at h
  simp only [Bool.and_eq_true, Bool.or_eq_true, decide_eq_true_eq] at h
  cases g with
  | point p => simp [shOf, Sh.kind, Sh.lists] at h
  | line ps =>
    have : ps = [] := by simpa [shOf, ptsS, ptsS.ptsSs, Sh.kind, Sh.lists, Sh.parts] using h
    subst this; exact ⟨by simp [Geo.kind], rfl⟩
  | mpoint ps =>
    have : ps = [] := by simpa [shOf, ptsS, ptsS.ptsSs, Sh.kind, Sh.lists, Sh.parts] using h
    subst this; exact ⟨by simp [Geo.kind], rfl⟩
  | poly rs =>
    have : rs = [] := by have := h.2; simpa [shOf, Sh.kind, Sh.lists] using this
    subst this; exact ⟨by simp [Geo.kind], rfl⟩
  | mline rs =>
    have : rs = [] := by have := h.2; simpa [shOf, Sh.kind, Sh.lists] using this
    subst this; exact ⟨by simp [Geo.kind], rfl⟩
  | mpoly qs =>
    have : qs = [] := by have := h.1.2; simpa [shOf, Sh.parts] using this
    subst this; exact ⟨by simp [Geo.kind], rfl⟩
  | coll gs =>
    have : gs = [] := by have := h.1.2; simpa [shOf, Sh.parts, shOfs_map] using this
    subst this; exact ⟨by simp [Geo.kind], rfl⟩
theorem allS_geo (q : Nat → Prop) : ∀ (n : Nat) (g : Geo), g.deep ≤ n → AllS q (shOf g) → AllC q g := by
  intro n
  induction n with
  | zero => intro g hg; exfalso; cases g <;> simp [Geo.deep] at hg
  | succ n ih =>
    intro g hd h
    cases g with
    | point p => exact .point (h.1 _ (List.mem_cons_self ..) _ (List.mem_cons_self ..))
    | line ps => exact .line (h.1 _ (List.mem_cons_self ..))
    | mpoint ps => exact .mpoint (h.1 _ (List.mem_cons_self ..))
    | poly rs => exact .poly h.1
    | mline rs => exact .mline h.1
    | mpoly qs =>
      have h2 := h.2
      rw [AllSs_iff] at h2
      exact .mpoly fun s hs => (h2 _ (List.mem_map_of_mem hs)).1
    | coll gs =>
      have h2 := h.2
      rw [shOfs_map, AllSs_iff] at h2
      simp only [Geo.deep] at hd
      exact .coll fun g hg => ih g (deeps_le (by omega) g hg) (h2 _ (List.mem_map_of_mem hg))

/-! ### The text -/
end Go.Proofs.YtghajgdiaopioaaGreatDoor
end
section
/- Plain: how long the text of a geometry is, and of what bytes. -/
namespace Go.Proofs.YtghajgdiaopioaaGreatDoor
open Go.RowKit Go.Proofs Tx
theorem sum_le {α : Type} {f g : α → Nat} : ∀ {l : List α}, (∀ a ∈ l, f a ≤ g a) → (l.map f).sum ≤ (l.map g).sum
  | [], _ => Nat.le_refl _
  | a :: l, h => by
    simp only [List.map_cons, List.sum_cons]
    have := sum_le (l := l) fun x hx => h x (List.mem_cons_of_mem _ hx)
    have := h a (List.mem_cons_self ..)
    omega
theorem sum_mul {α : Type} (c : Nat) (f : α → Nat) : ∀ l : List α, (l.map fun a => c * f a).sum = c * (l.map f).sum
  | [] => rfl
  | a :: l => by simp only [List.map_cons, List.sum_cons, sum_mul c f l, Nat.mul_add]
theorem join_len (sep : Bs) : ∀ l : List Bs, (joinS sep l).length ≤ (l.map fun x => x.length + sep.length).sum
  | [] => Nat.le_refl _
  | [a] => by simp [joinS]
  | a :: b :: l => by
    have := join_len sep (b :: l)
    rw [joinS, List.map_cons, List.sum_cons, List.length_append, List.length_append]
    omega
section
variable {nf : Nat → Bs} {sp : Bs} {small : Bool}
abbrev Nl (nf : Nat → Bs) (x : Nat) : Prop := (nf x).length ≤ 30
theorem pt_len {p : Pt} (h : Nl nf p.1 ∧ Nl nf p.2) : (ptT nf p).length ≤ 61 := by
  have h1 := h.1
  have h2 := h.2
  unfold Nl at h1 h2
  simp only [ptT, List.length_append, List.length_cons]
  omega
theorem join_le {α : Type} (f : α → Bs) (l : List α) (g : α → Nat) (hs : sp.length ≤ 1) (h : ∀ a ∈ l, (f a).length + 2 ≤ g a) : (joinS (44 :: sp) (l.map f)).length ≤ (l.map g).sum := by
  refine Nat.le_trans (join_len _ _) ?_
  rw [List.map_map]
  refine sum_le fun a ha => ?_
  have := h a ha
  simp only [Function.comp_def, List.length_cons]
  omega
theorem const_sum {α : Type} (c : Nat) : ∀ l : List α, (l.map fun _ => c).sum = c * l.length
  | [] => rfl
  | a :: l => by simp only [List.map_cons, List.sum_cons, const_sum c l, List.length_cons]; rw [Nat.mul_succ]; omega
theorem pts_len (hs : sp.length ≤ 1) {ps : List Pt} (h : ∀ p ∈ ps, Nl nf p.1 ∧ Nl nf p.2) : (ptsT nf sp ps).length ≤ 63 * ps.length + 2 := by
  have := join_le (ptT nf) ps (fun _ => 63) hs fun p hp => by have := pt_len (h p hp); omega
  rw [const_sum] at this
  simp only [ptsT, br, List.length_cons, List.length_append, List.length_nil]
  omega
theorem rings_len (hs : sp.length ≤ 1) {rs : List (List Pt)} (h : ∀ r ∈ rs, ∀ p ∈ r, Nl nf p.1 ∧ Nl nf p.2) : (ringsT nf sp rs).length ≤ 63 * wtL rs + 2 := by
  have := join_le (ptsT nf sp) rs (fun r => 63 * (r.length + 1)) hs fun r hr => by have := pts_len hs (h r hr); omega
  rw [sum_mul] at this
  simp only [ringsT, br, List.length_cons, List.length_append, List.length_nil]
  unfold wtL
  omega
theorem word_len (small : Bool) (k : Nat) : (low small (word k)).length ≤ 20 := by rw [low_length]; exact (word_lim k).1
theorem text_len (hs : sp.length ≤ 1) : ∀ (n : Nat) (g : Geo), g.deep ≤ n → AllC (Nl nf) g → (text nf sp small g).length + 2 ≤ 65 * wt g := by
  intro n
  induction n with
  | zero => intro g hg; exfalso; cases g <;> simp [Geo.deep] at hg
  | succ n ih =>
    intro g hd ha
    cases g with
    | point p =>
      cases ha with
      | point h =>
        have := pt_len h
        have := word_len small 1
        simp only [text, br, List.length_append, List.length_cons, List.length_nil, wt]
        omega
    | line ps =>
      cases ha with
      | line h =>
        have := pts_len hs h
        have := word_len small 2
        simp only [text, List.length_append, wt]
        omega
    | poly rs =>
      cases ha with
      | poly h =>
        have := rings_len hs h
        have := word_len small 3
        simp only [text, List.length_append, wt]
        omega
    | mpoint ps =>
      cases ha with
      | mpoint h =>
        have := join_le (sp := sp) (fun p => br (ptT nf p)) ps (fun _ => 65) hs fun p hp => by have := pt_len (h p hp); simp only [br, List.length_append, List.length_cons, List.length_nil]; omega
        rw [const_sum] at this
        have h6 := word_len small 4
        have hb : ∀ l : Bs, (br l).length = l.length + 2 := by intro l; simp [br]
        rw [text, List.length_append, List.length_append, hb, wt]
        omega
    | mline rs =>
      cases ha with
      | mline h =>
        have := rings_len hs h
        have := word_len small 5
        simp only [text, List.length_append, wt]
        omega
    | mpoly qs =>
      cases ha with
      | mpoly h =>
        have := join_le (sp := sp) (ringsT nf sp) qs (fun q => 63 * (wtL q + 1)) hs fun q hq => by have := rings_len hs (h q hq); omega
        rw [sum_mul] at this
        have := word_len small 6
        simp only [text, br, List.length_append, List.length_cons, List.length_nil, wt] at this ⊢
        omega
    | coll gs =>
      cases ha with
      | coll h =>
        simp only [Geo.deep] at hd
        have hj := join_le (sp := sp) (text nf sp small) gs (fun g => 65 * wt g) hs fun g hg => ih g (deeps_le (by omega) g hg) (h g hg)
        rw [sum_mul] at hj
        have := word_len small 7
        simp only [text, texts_eq, br, List.length_append, List.length_cons, List.length_nil, wt, wts_eq]
        omega

/-! ### Its bytes -/
theorem Asc.app {a b : Bs} (h : Asc a) (h' : Asc b) : Asc (a ++ b) := by
  intro c hc
  rcases List.mem_append.1 hc with hc | hc
  · exact h c hc
  · exact h' c hc
theorem Asc.cons {c : UInt8} {b : Bs} (h : c.toNat < 128) (h' : Asc b) : Asc (c :: b) := by
  intro d hd
  rcases List.mem_cons.1 hd with rfl | hd
  · exact h
  · exact h' d hd
theorem asc_nil : Asc [] := fun c hc => by cases hc
theorem Asc.br {b : Bs} (h : Asc b) : Asc (br b) := (h.app (Asc.cons (by decide) asc_nil)).cons (by decide)
theorem asc_join {sep : Bs} (hs : Asc sep) : ∀ l : List Bs, (∀ x ∈ l, Asc x) → Asc (joinS sep l)
  | [], _ => asc_nil
  | [a], h => h a (List.mem_cons_self ..)
  | a :: b :: l, h => ((h a (List.mem_cons_self ..)).app hs).app (asc_join hs (b :: l) fun x hx => h x (List.mem_cons_of_mem _ hx))
theorem asc_word (small : Bool) (k : Nat) : Asc (low small (word k)) := by
  unfold Asc
  match k with
  | 0 | 1 | 2 | 3 | 4 | 5 | 6 | 7 => cases small <;> decide
  | n + 8 => cases small <;> simp [low, word]
theorem asc_pt {p : Pt} (h : Asc (nf p.1) ∧ Asc (nf p.2)) : Asc (ptT nf p) := h.1.app (h.2.cons (by decide))
theorem asc_pts (hs : Asc sp) {ps : List Pt} (h : ∀ p ∈ ps, Asc (nf p.1) ∧ Asc (nf p.2)) : Asc (ptsT nf sp ps) := by
  refine Asc.br (asc_join (hs.cons (by decide)) _ fun x hx => ?_)
  obtain ⟨p, hp, rfl⟩ := List.mem_map.1 hx
  exact asc_pt (h p hp)
theorem asc_rings (hs : Asc sp) {rs : List (List Pt)} (h : ∀ r ∈ rs, ∀ p ∈ r, Asc (nf p.1) ∧ Asc (nf p.2)) : Asc (ringsT nf sp rs) := by
  refine Asc.br (asc_join (hs.cons (by decide)) _ fun x hx => ?_)
  obtain ⟨r, hr, rfl⟩ := List.mem_map.1 hx
  exact asc_pts hs (h r hr)
theorem text_asc (hs : Asc sp) : ∀ (n : Nat) (g : Geo), g.deep ≤ n → AllC (fun x => Asc (nf x)) g → Asc (text nf sp small g) := by
  intro n
  induction n with
  | zero => intro g hg; exfalso; cases g <;> simp [Geo.deep] at hg
  | succ n ih =>
    intro g hd ha
    cases g with
    | point p => cases ha with | point h => exact ((asc_word small 1).app hs).app (asc_pt h).br
    | line ps => cases ha with | line h => exact ((asc_word small 2).app hs).app (asc_pts hs h)
    | poly rs => cases ha with | poly h => exact ((asc_word small 3).app hs).app (asc_rings hs h)
    | mpoint ps =>
      cases ha with
      | mpoint h =>
        refine ((asc_word small 4).app hs).app (Asc.br (asc_join (hs.cons (by decide)) _ fun x hx => ?_))
        obtain ⟨p, hp, rfl⟩ := List.mem_map.1 hx
        exact (asc_pt (h p hp)).br
    | mline rs => cases ha with | mline h => exact ((asc_word small 5).app hs).app (asc_rings hs h)
    | mpoly qs =>
      cases ha with
      | mpoly h =>
        refine ((asc_word small 6).app hs).app (Asc.br (asc_join (hs.cons (by decide)) _ fun x hx => ?_))
        obtain ⟨q, hq, rfl⟩ := List.mem_map.1 hx
        exact asc_rings hs (h q hq)
    | coll gs =>
      cases ha with
      | coll h =>
        simp only [Geo.deep] at hd
        rw [text, texts_eq]
        refine ((asc_word small 7).app hs).app (Asc.br (asc_join (hs.cons (by decide)) _ fun x hx => ?_))
        obtain ⟨g, hg, rfl⟩ := List.mem_map.1 hx
        exact ih g (deeps_le (by omega) g hg) (h g hg)
theorem allC_imp {q r : Nat → Prop} (h : ∀ x, q x → r x) : ∀ (n : Nat) (g : Geo), g.deep ≤ n → AllC q g → AllC r g := by
  intro n
  induction n with
  | zero => intro g hg; exfalso; cases g <;> simp [Geo.deep] at hg
  | succ n ih =>
    intro g hd ha
    cases ha with
    | point k => exact .point ⟨h _ k.1, h _ k.2⟩
    | line k => exact .line fun p hp => ⟨h _ (k p hp).1, h _ (k p hp).2⟩
    | poly k => exact .poly fun r hr p hp => ⟨h _ (k r hr p hp).1, h _ (k r hr p hp).2⟩
    | mpoint k => exact .mpoint fun p hp => ⟨h _ (k p hp).1, h _ (k p hp).2⟩
    | mline k => exact .mline fun r hr p hp => ⟨h _ (k r hr p hp).1, h _ (k r hr p hp).2⟩
    | mpoly k => exact .mpoly fun s hs r hr p hp => ⟨h _ (k s hs r hr p hp).1, h _ (k s hs r hr p hp).2⟩
    | coll k =>
      simp only [Geo.deep] at hd
      exact .coll fun g hg => ih g (deeps_le (by omega) g hg) (k g hg)
end
end Go.Proofs.YtghajgdiaopioaaGreatDoor
end
