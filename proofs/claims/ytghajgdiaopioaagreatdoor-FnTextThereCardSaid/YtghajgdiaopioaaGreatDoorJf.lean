/- Walks and plain laws joined (We). Conditions: stand in each law. -/
import Derived.Test.YtghajgdiaopioaaGreatDoorJe
set_option linter.unusedVariables false
set_option linter.unusedSimpArgs false
section
/- Walks: splitOnComma. Conditions: stand in each contract. -/
namespace Go.Proofs.YtghajgdiaopioaaGreatDoor
open Go.RowKit Go.Proofs Tx
open Go.Proofs.YtghajgdiaopioaaGreatDoorW.PrintWords
theorem map_map {α β γ : Type} (f : α → β) (g : β → γ) (r : Rd α) : Rd.map g (Rd.map f r) = Rd.map (g ∘ f) r := by cases r <;> rfl
/-- Where splitOnComma stands. -/
structure CSt {α : Type} (f : Bs → Rd α) (l : Bs) (R : Rd (List α)) (done : List α) (s e i : Nat) (run sc : Bool) : Prop where
  se : s ≤ (if run then e else i)
  ei : (if run then e else i) ≤ i
  il : i ≤ l.length
  dl : done.length ≤ i
  sr : sc = true → run = true
  eq : (mapR f (goC ((l.take (if run then e else i)).drop s) (if run then (l.take i).drop e else []) sc (l.drop i))).map (done ++ ·) = R
section
variable {α : Type} {f : Bs → Rd α} {l : Bs} {R : Rd (List α)} {done : List α} {s e i : Nat} {run sc : Bool}
theorem CSt.start (l : Bs) : CSt f l (mapR f (splitC l)) [] 0 0 0 false false := ⟨by simp, by simp, by simp, by simp, by simp, by
  unfold splitC
  simp
  cases mapR f (goC [] [] false l) <;> rfl⟩
theorem take_drop_snoc {l : Bs} {e i : Nat} (he : e ≤ i) (hi : i < l.length) : (l.take (i + 1)).drop e = (l.take i).drop e ++ [l[i]] := by
  rw [List.take_add_one, List.drop_append, List.getElem?_eq_getElem hi]
  simp [show e - min i l.length = 0 by omega]
theorem CSt.comma (h : CSt f l R done s e i run sc) (hi : i < l.length) (hc : l[i] = 44) : CSt f l R done s (if run then e else i) (i + 1) true true := by
  obtain ⟨h1, h2, h3, h4, h5, h6⟩ := h
  refine ⟨by simpa using h1, by simp; omega, by omega, by omega, by simp, ?_⟩
  rw [← h6, List.drop_eq_getElem_cons hi, hc]
  cases run
  · simp only [Bool.false_eq_true, if_false, if_true] at *
    rw [goC, if_pos rfl, take_drop_snoc (Nat.le_refl i) hi, hc]
    simp
  · simp only [if_true] at *
    rw [goC, if_pos rfl, take_drop_snoc h2 hi, hc]
theorem CSt.blank (h : CSt f l R done s e i run sc) (hi : i < l.length) (hc : l[i] ≠ 44) (hs : isSp l[i] = true) : CSt f l R done s (if run then e else i) (i + 1) true sc := by
  obtain ⟨h1, h2, h3, h4, h5, h6⟩ := h
  refine ⟨by simpa using h1, by simp; omega, by omega, by omega, by simp, ?_⟩
  rw [← h6, List.drop_eq_getElem_cons hi]
  cases run
  · simp only [Bool.false_eq_true, if_false, if_true] at *
    rw [goC, if_neg hc, if_pos hs, take_drop_snoc (Nat.le_refl i) hi]
    simp
  · simp only [if_true] at *
    rw [goC, if_neg hc, if_pos hs, take_drop_snoc h2 hi]
theorem CSt.plain (h : CSt f l R done s e i run false) (hi : i < l.length) (hc : l[i] ≠ 44) (hs : isSp l[i] = false) (e' : Nat) : CSt f l R done s e' (i + 1) false false := by
  obtain ⟨h1, h2, h3, h4, h5, h6⟩ := h
  refine ⟨by simp; omega, by simp, by omega, by omega, by simp, ?_⟩
  rw [← h6, List.drop_eq_getElem_cons hi]
  cases run
  · simp only [Bool.false_eq_true, if_false, if_true] at *
    rw [goC, if_neg hc, hs, take_drop_snoc h1 hi]
    simp
  · simp only [Bool.false_eq_true, if_true, if_false] at *
    rw [goC, if_neg hc, hs, take_drop_snoc (by omega) hi]
    simp only [Bool.false_eq_true, if_false]
    congr 3
    have : (l.take i).drop s = (l.take e).drop s ++ (l.take i).drop e := by
      rw [show l.take i = l.take e ++ (l.take i).drop e from by rw [show l.take e = (l.take i).take e from by rw [List.take_take, Nat.min_eq_left h2]]; rw [List.take_append_drop], List.drop_append]
      have hle : (l.take e).length = e := by simp; omega
      rw [hle, show s - e = 0 by omega]
      simp [List.drop_append, hle]
    rw [this]
theorem CSt.piece (h : CSt f l R done s e i run true) (hi : i < l.length) (hc : l[i] ≠ 44) (hs : isSp l[i] = false) :
    run = true ∧ s ≤ e ∧ e ≤ i ∧ R ≠ .unk → f ((l.take e).drop s) ≠ .unk ∧ (f ((l.take e).drop s) = .err → R = .err) ∧ ∀ a, f ((l.take e).drop s) = .ok a → ∀ e', CSt f l R (done ++ [a]) i e' (i + 1) false false := by
  obtain ⟨h1, h2, h3, h4, h5, h6⟩ := h
  rintro ⟨rfl, hse, hei, hR⟩
  simp only [if_true] at *
  rw [List.drop_eq_getElem_cons hi, goC, if_neg hc, hs] at h6
  simp only [Bool.false_eq_true, if_false, if_true, mapR] at h6
  refine ⟨?_, ?_, ?_⟩
  · intro e0
    rw [e0] at h6
    exact hR h6.symm
  · intro e0
    rw [e0] at h6
    exact h6.symm
  · intro a e0 e'
    rw [e0] at h6
    refine ⟨by simp, by simp, by omega, by simp; omega, by simp, ?_⟩
    rw [← h6]
    simp only [Bool.false_eq_true, if_false, Rd.bind]
    rw [map_map, take_drop_snoc (Nat.le_refl i) hi]
    simp [Function.comp_def]
theorem CSt.last (h : CSt f l R done s e i run sc) (hi : ¬ i < l.length) : R = (f (l.drop s)).bind fun a => .ok (done ++ [a]) := by
  obtain ⟨h1, h2, h3, h4, h5, h6⟩ := h
  rw [← h6]
  have hil : i = l.length := by omega
  rw [hil, List.drop_length, goC]
  have : List.drop s (List.take (if run = true then e else l.length) l) ++ (if run = true then List.drop e (List.take l.length l) else []) = l.drop s := by
    cases run
    · simp
    · simp only [if_true, List.take_length] at *
      have hle : (l.take e).length = e := by simp; omega
      conv => rhs; rw [← List.take_append_drop e l, List.drop_append, hle, show s - e = 0 by omega, List.drop_zero]
  rw [this]
  simp only [mapR]
  cases f (l.drop s) <;> rfl
theorem CSt.lim (h : CSt f l R done s e i run sc) : s ≤ i ∧ i ≤ l.length ∧ done.length ≤ i ∧ (run = true → s ≤ e ∧ e ≤ i) ∧ (sc = true → run = true) := by
  obtain ⟨h1, h2, h3, h4, h5, h6⟩ := h
  refine ⟨by omega, h3, by omega, ?_, h5⟩
  rintro rfl
  exact ⟨h1, h2⟩
end

/-- What splitOnComma wants of its closure. -/
def Yields {α : Type} (fn b B : Nat) (f : Bs → Rd α) (Inv : List α → World → Prop) : Prop :=
  ∀ l (done : List α) w r, l.length ≤ 1000000000 → done.length ≤ 1000000000 → Inv done w → f l = r → r ≠ .unk →
    Calls Tryz.prog fn #[S l, .pointer (some ⟨b, 0, none⟩)] w fun e w' => Yr r (fun a w' => Inv (done ++ [a]) w') e w' ∧ Below B w w'

set_option maxRecDepth 20000 in
set_option maxHeartbeats 2000000 in
theorem splitC_any {α : Type} (fn b B : Nat) (f : Bs → Rd α) (Inv : List α → World → Prop) (hcf : ∀ args w, (callFunc fn args).run Tryz.prog w = .ok (.enter fn args) w) (hY : Yields fn b B f Inv) (l : Bs) (w : World) (R : Rd (List α)) (hl : l.length ≤ 1000000000)
    (hI : Inv [] w) (hR : mapR f (splitC l) = R) (hn : R ≠ .unk) (hB : B ≤ w.heap.size) :
    Calls Tryz.prog 79 #[S l, .func (.func fn) #[] #[.pointer (some ⟨b, 0, none⟩)]] w fun e w' => Yr R Inv e w' ∧ Below B w w' := by
  have h0 := CSt.start (f := f) l
  rw [hR] at h0
  have HY := Lib.hid hY
  clear hY hR
  go_enter Tryz.func79, Tryz.ntmps79
  go_wp2
  go_loopw [5, 6, 7, 8, 9] (fun v5 v6 v7 v8 v9 wr => ∃ (s e i : Nat) (run sc : Bool) (done : List α), v5 = .int .i64 s ∧ v6 = .int .i64 e ∧ v7 = .bool run ∧ v8 = .bool sc ∧ v9 = .int .i64 i ∧ CSt f l R done s e i run sc ∧ Inv done wr ∧ Below B w wr) (fun v5 v6 v7 v8 v9 wr => l.length - (intOf v9).toNat)
  case atStart => exact ⟨0, 0, 0, false, false, [], rfl, rfl, rfl, rfl, rfl, h0, hI, Below.refl _ _⟩
  case round =>
    obtain ⟨s, e, i, run, sc, done, rfl, rfl, rfl, rfl, rfl, hc, hi, hb⟩ := hrel
    obtain ⟨hsi, hil, hdi, hre, hsr⟩ := hc.lim
    clear h0 hI
    by_cases hgo : i < l.length
    · obtain ⟨c, hcc⟩ : ∃ c : UInt8, ∀ h, (ByteArray.mk l.toArray)[i]'h = c := ⟨l[i], fun _ => rfl⟩
      have hci : l[i] = c := hcc (by simpa [ByteArray.size] using hgo)
      by_cases h44 : c = 44
      · subst h44
        have HC := Lib.hid (hc.comma hgo hci)
        have HI := Lib.hid hi
        have HB := Lib.hid hb
        clear hci hc hi hb
        cases run
        all_goals
          go_wp2
          refine ⟨⟨s, _, i + 1, true, true, done, rfl, rfl, rfl, rfl, by go_num, HC.out, HI.out, HB.out⟩, by simp [intOf]; omega⟩
      · have t44 := beq44 h44
        by_cases hsp : isSp c = true
        · have hsp2 : ((c.toNat : Int) == 32 || (c.toNat : Int) == 9 || (c.toNat : Int) == 10) = true := by rw [← sp_tests]; exact hsp
          have HC := Lib.hid (hc.blank hgo (by rw [hci]; exact h44) (by rw [hci]; exact hsp))
          have HS := Lib.hid hsp2
          have HI := Lib.hid hi
          have HB := Lib.hid hb
          clear hci hc hi hb hsp hsp2 h44
          cases run
          all_goals
            go_wp2
            all_goals first
            | (refine ⟨⟨s, _, i + 1, true, sc, done, rfl, rfl, rfl, rfl, by go_num, HC.out, HI.out, HB.out⟩, by simp [intOf]; omega⟩)
            | (exfalso; have := HS.out; simp_all; done)
        · have hsp' : isSp c = false := by simpa using hsp
          obtain ⟨⟨t1, t2, t3⟩, -⟩ := nsp_tests hsp'
          cases sc
          · have HC := Lib.hid (hc.plain hgo (by rw [hci]; exact h44) (by rw [hci]; exact hsp'))
            have HI := Lib.hid hi
            have HB := Lib.hid hb
            clear hci hc hi hb hsp hsp' h44
            cases run
            all_goals
              go_wp2
              refine ⟨⟨s, _, i + 1, false, false, done, rfl, rfl, rfl, rfl, by go_num, HC.out _, HI.out, HB.out⟩, by simp [intOf]; omega⟩
          · have hrun := hsr rfl
            subst hrun
            obtain ⟨hse, hei⟩ := hre rfl
            obtain ⟨p1, p2, p3⟩ := hc.piece hgo (by rw [hci]; exact h44) (by rw [hci]; exact hsp') ⟨rfl, hse, hei, hn⟩
            have hpl : ((l.take e).drop s).length ≤ 1000000000 := by simp; omega
            have hcall := HY.out _ done wr _ hpl (by omega) hi rfl p1
            have HP1 := Lib.hid p1
            have HP2 := Lib.hid p2
            have HP3 := Lib.hid p3
            have HB := Lib.hid hb
            clear hci hc hi hb hsp hsp' h44 p1 p2 p3 hsr hre
            go_wp2_with fail
            refine hcall.mono ?_
            clear hcall
            cases hr : f ((l.take e).drop s) with
            | unk => exact absurd hr HP1.out
            | err =>
              rintro e1 w1 ⟨⟨u, v, rfl⟩, hb1⟩
              have hRe := HP2.out hr
              subst hRe
              have HB1 := Lib.hid (HB.out.trans hb1)
              clear hr hb1
              go_wp2
              go_ret
              exact ⟨⟨_, _, rfl⟩, HB1.out⟩
            | ok a =>
              rintro e1 w1 ⟨⟨rfl, hi1⟩, hb1⟩
              have HC := Lib.hid (HP3.out a hr)
              have HB1 := Lib.hid (HB.out.trans hb1)
              have HI1 := Lib.hid hi1
              clear hr hb1 hi1
              go_wp2
              refine ⟨⟨i, _, i + 1, false, false, done ++ [a], rfl, rfl, rfl, rfl, by go_num, HC.out _, HI1.out, HB1.out⟩, by simp [intOf]; omega⟩
    · have hlast := hc.last hgo
      have hpl : (l.drop s).length ≤ 1000000000 := by simp; omega
      have hfn : f (l.drop s) ≠ .unk := by
        intro e0; rw [e0] at hlast; exact hn hlast
      have hcall := HY.out _ done wr _ hpl (by omega) hi rfl hfn
      have HL := Lib.hid hlast
      have HB := Lib.hid hb
      have HN := Lib.hid hfn
      clear hc hi hb hsr hre hlast hfn
      go_wp2_with fail
      refine hcall.mono ?_
      clear hcall
      cases hr : f (l.drop s) with
      | unk => exact absurd hr HN.out
      | err =>
        rintro e1 w1 ⟨⟨u, v, rfl⟩, hb1⟩
        have hRe := HL.out
        rw [hr] at hRe
        simp only [Rd.bind] at hRe
        subst hRe
        have HB1 := Lib.hid (HB.out.trans hb1)
        clear hr hb1
        go_wp2
        go_ret
        exact ⟨⟨_, _, rfl⟩, HB1.out⟩
      | ok a =>
        rintro e1 w1 ⟨⟨rfl, hi1⟩, hb1⟩
        have hRe := HL.out
        rw [hr] at hRe
        simp only [Rd.bind] at hRe
        subst hRe
        have HB1 := Lib.hid (HB.out.trans hb1)
        have HI1 := Lib.hid hi1
        clear hr hb1 hi1
        go_wp2
        go_ret
        exact ⟨⟨rfl, HI1.out⟩, HB1.out⟩

theorem call80 : ∀ args w, (callFunc 80 args).run Tryz.prog w = .ok (.enter 80 args) w := by
  intro args w
  kernel_rfl
end Go.Proofs.YtghajgdiaopioaaGreatDoor
end
