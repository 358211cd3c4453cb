/- Walks and plain laws joined (Wk). Conditions: stand in each law. -/
import Derived.Test.YtghajgdiaopioaaGreatDoorJj
set_option linter.unusedVariables false
set_option linter.unusedSimpArgs false
section
/- Walks: splitByRegexpYield. Conditions: stand in each contract. -/
namespace Go.Proofs.YtghajgdiaopioaaGreatDoor
open Go.RowKit Go.Proofs Tx
open Go.Proofs.YtghajgdiaopioaaGreatDoorW.PrintWords
/-- The closure that makes the row. -/
def Makes {α : Type} (fa : Nat) (d : Kd α) (e T : Nat) : Prop := ∀ (n : Nat) (w : World) (b : Nat), n ≤ 1000000001 → b < w.heap.size → w.heap[b]? = some (.cells #[.slice none 0 0] T (0, 0)) →
  Calls Tryz.prog fa #[.int .i64 n, .pointer (some ⟨b, 0, none⟩)] w fun e' w' => (∃ v, e' = .returned v) ∧ RowIn d e T w.heap.size b [] w' ∧ Fr w.heap.size b w w'

theorem call82 : ∀ args w, (callFunc 82 args).run Tryz.prog w = .ok (.enter 82 args) w := by
  intro args w
  kernel_rfl
theorem makes82 : Makes 82 lineK 117 69 := by
  intro n w b hn hbl hk
  have hc := box_cell hk
  have hf := box_free hk
  have HK := Lib.hid hk
  clear hk
  go_enter Tryz.func82, Tryz.ntmps82
  go_wp2_with (at_make; go_loud (refine make0 lineK _ rfl _ _ 69 rfl 117 _ _ Tryz.underlying69 info117 _ n rfl rfl rfl (by omega) (by omega) ?_))
  intro w1 hsz hb1 hR
  have hR1 := hR w.heap.size (fun _ => True) (Nat.le_refl _) trivial
  have hk1 := blk_below HK.out hb1
  have hc1 := box_cell hk1
  have hf1 := box_free hk1
  have HK1 := Lib.hid hk1
  have HR1 := Lib.hid hR1
  have HB1 := Lib.hid hb1
  clear hk1 hR hR1 hb1 hc hf
  go_wp2
  go_end0
  refine ⟨⟨_, rfl⟩, ⟨hbl, by simp [World.setCell]; omega, _, box_set HK1.out, Kd.R_mono (Kd.R_far (p := ⟨b, 0, none⟩) (R_own_ge HR1.out) (fun k hk => by show k ≠ b; omega) _) (fun _ _ => trivial)⟩, (Fr.of_below HB1.out).setCell _⟩

theorem call86 : ∀ args w, (callFunc 86 args).run Tryz.prog w = .ok (.enter 86 args) w := by
  intro args w
  kernel_rfl
theorem makes86 : Makes 86 lineK 65 76 := by
  intro n w b hn hbl hk
  have hc := box_cell hk
  have hf := box_free hk
  have HK := Lib.hid hk
  clear hk
  go_enter Tryz.func86, Tryz.ntmps86
  go_wp2_with (at_make; go_loud (refine make0 lineK _ rfl _ _ 76 rfl 65 _ _ Tryz.underlying76 info65 _ n rfl rfl rfl (by omega) (by omega) ?_))
  intro w1 hsz hb1 hR
  have hR1 := hR w.heap.size (fun _ => True) (Nat.le_refl _) trivial
  have hk1 := blk_below HK.out hb1
  have hc1 := box_cell hk1
  have hf1 := box_free hk1
  have HK1 := Lib.hid hk1
  have HR1 := Lib.hid hR1
  have HB1 := Lib.hid hb1
  clear hk1 hR hR1 hb1 hc hf
  go_wp2
  go_end0
  refine ⟨⟨_, rfl⟩, ⟨hbl, by simp [World.setCell]; omega, _, box_set HK1.out, Kd.R_mono (Kd.R_far (p := ⟨b, 0, none⟩) (R_own_ge HR1.out) (fun k hk => by show k ≠ b; omega) _) (fun _ _ => trivial)⟩, (Fr.of_below HB1.out).setCell _⟩

theorem call91 : ∀ args w, (callFunc 91 args).run Tryz.prog w = .ok (.enter 91 args) w := by
  intro args w
  kernel_rfl
theorem makes91 : Makes 91 lineK 117 69 := by
  intro n w b hn hbl hk
  have hc := box_cell hk
  have hf := box_free hk
  have HK := Lib.hid hk
  clear hk
  go_enter Tryz.func91, Tryz.ntmps91
  go_wp2_with (at_make; go_loud (refine make0 lineK _ rfl _ _ 69 rfl 117 _ _ Tryz.underlying69 info117 _ n rfl rfl rfl (by omega) (by omega) ?_))
  intro w1 hsz hb1 hR
  have hR1 := hR w.heap.size (fun _ => True) (Nat.le_refl _) trivial
  have hk1 := blk_below HK.out hb1
  have hc1 := box_cell hk1
  have hf1 := box_free hk1
  have HK1 := Lib.hid hk1
  have HR1 := Lib.hid hR1
  have HB1 := Lib.hid hb1
  clear hk1 hR hR1 hb1 hc hf
  go_wp2
  go_end0
  refine ⟨⟨_, rfl⟩, ⟨hbl, by simp [World.setCell]; omega, _, box_set HK1.out, Kd.R_mono (Kd.R_far (p := ⟨b, 0, none⟩) (R_own_ge HR1.out) (fun k hk => by show k ≠ b; omega) _) (fun _ _ => trivial)⟩, (Fr.of_below HB1.out).setCell _⟩

def polyK : Kd (List (List Pt)) := Kd.slice 117 lineK

theorem call89 : ∀ args w, (callFunc 89 args).run Tryz.prog w = .ok (.enter 89 args) w := by
  intro args w
  kernel_rfl
theorem makes89 : Makes 89 polyK 69 80 := by
  intro n w b hn hbl hk
  have hc := box_cell hk
  have hf := box_free hk
  have HK := Lib.hid hk
  clear hk
  go_enter Tryz.func89, Tryz.ntmps89
  go_wp2_with (at_make; go_loud (refine make0 polyK _ rfl _ _ 80 rfl 69 _ _ Tryz.underlying80 info69 _ n rfl rfl rfl (by omega) (by omega) ?_))
  intro w1 hsz hb1 hR
  have hR1 := hR w.heap.size (fun _ => True) (Nat.le_refl _) trivial
  have hk1 := blk_below HK.out hb1
  have hc1 := box_cell hk1
  have hf1 := box_free hk1
  have HK1 := Lib.hid hk1
  have HR1 := Lib.hid hR1
  have HB1 := Lib.hid hb1
  clear hk1 hR hR1 hb1 hc hf
  go_wp2
  go_end0
  refine ⟨⟨_, rfl⟩, ⟨hbl, by simp [World.setCell]; omega, _, box_set HK1.out, Kd.R_mono (Kd.R_far (p := ⟨b, 0, none⟩) (R_own_ge HR1.out) (fun k hk => by show k ≠ b; omega) _) (fun _ _ => trivial)⟩, (Fr.of_below HB1.out).setCell _⟩

/-! ### Plain: the pieces lie in the text -/
def Ch (l : Bs) : Nat → List (Nat × Nat × Nat × Nat) → Prop
  | b, [] => b ≤ l.length
  | b, x :: ms => b ≤ x.2.2.1 ∧ x.2.2.1 ≤ l.length ∧ Ch l x.2.2.2 ms
theorem mts_ch (double : Bool) (l : Bs) : ∀ n i b, b ≤ i → i ≤ l.length → Ch l b (mts double l n i)
  | 0, i, b, h1, h2 => by unfold mts Ch; omega
  | n + 1, i, b, h1, h2 => by
    unfold mts
    by_cases hlt : i < l.length
    · rw [if_pos hlt]
      cases hm : mPa double l i with
      | none => exact mts_ch double l n (i + 1) b (by omega) (by omega)
      | some x =>
        obtain ⟨f, t, e⟩ := x
        obtain ⟨m1, m2, m3, m4⟩ := mPa_lim hm
        exact ⟨by show b ≤ f; omega, by show f ≤ _; omega, mts_ch double l n e t (by omega) m4⟩
    · rw [if_neg hlt]; unfold Ch; omega
theorem mts_len (double : Bool) (l : Bs) : ∀ n i, i ≤ l.length → (mts double l n i).length ≤ l.length - i
  | 0, i, h => by simp [mts]
  | n + 1, i, h => by
    unfold mts
    by_cases hlt : i < l.length
    · rw [if_pos hlt]
      cases hm : mPa double l i with
      | none => have := mts_len double l n (i + 1) (by omega); simp only; omega
      | some x =>
        obtain ⟨f, t, e⟩ := x
        obtain ⟨m1, m2, m3, m4⟩ := mPa_lim hm
        have := mts_len double l n e m4
        simp only [List.length_cons]; omega
    · rw [if_neg hlt]; simp
/-- Where splitByRegexpYield stands: j matches are behind it. -/
structure SSt {α : Type} (f : Bs → Rd α) (l : Bs) (R : Rd (List α)) (ms : List (Nat × Nat × Nat × Nat)) (done : List α) (b j : Nat) : Prop where
  jm : j ≤ ms.length
  dl : done.length = j
  ch : Ch l b (ms.drop j)
  eq : (mapR f (cutM l b (ms.drop j))).map (done ++ ·) = R
theorem SSt.next {α : Type} {f : Bs → Rd α} {l : Bs} {R : Rd (List α)} {ms : List (Nat × Nat × Nat × Nat)} {done : List α} {b j : Nat} (h : SSt f l R ms done b j) (hj : j < ms.length) (hR : R ≠ .unk) :
    b ≤ ms[j].2.2.1 ∧ ms[j].2.2.1 ≤ l.length ∧ f ((l.take ms[j].2.2.1).drop b) ≠ .unk ∧ (f ((l.take ms[j].2.2.1).drop b) = .err → R = .err) ∧ ∀ a, f ((l.take ms[j].2.2.1).drop b) = .ok a → SSt f l R ms (done ++ [a]) ms[j].2.2.2 (j + 1) := by
  obtain ⟨h1, h2, h3, h4⟩ := h
  rw [List.drop_eq_getElem_cons hj] at h3 h4
  simp only [cutM, mapR] at h4
  refine ⟨h3.1, h3.2.1, ?_, ?_, ?_⟩
  · intro e0; rw [e0] at h4; exact hR h4.symm
  · intro e0; rw [e0] at h4; exact h4.symm
  · intro a e0
    rw [e0] at h4
    simp only [Rd.bind, map_map] at h4
    refine ⟨by omega, by simp; omega, h3.2.2, ?_⟩
    rw [← h4]
    simp [Function.comp_def]
theorem SSt.last {α : Type} {f : Bs → Rd α} {l : Bs} {R : Rd (List α)} {ms : List (Nat × Nat × Nat × Nat)} {done : List α} {b j : Nat} (h : SSt f l R ms done b j) (hj : ¬ j < ms.length) : b ≤ l.length ∧ R = (f (l.drop b)).bind fun a => .ok (done ++ [a]) := by
  obtain ⟨h1, h2, h3, h4⟩ := h
  have : j = ms.length := by omega
  subst this
  rw [List.drop_length] at h3 h4
  refine ⟨h3, ?_⟩
  rw [← h4]
  simp only [cutM, mapR]
  cases f (l.drop b) <;> rfl
theorem SSt.le {α : Type} {f : Bs → Rd α} {l : Bs} {R : Rd (List α)} {ms : List (Nat × Nat × Nat × Nat)} {done : List α} {b j : Nat} (h : SSt f l R ms done b j) : b ≤ l.length := by
  obtain ⟨h1, h2, h3, h4⟩ := h
  cases hm : ms.drop j with
  | nil => rw [hm] at h3; exact h3
  | cons x _ => rw [hm] at h3; have := h3.1; have := h3.2.1; omega

/-- What splitByRegexpYield wants of the closure. -/
def YieldsIn {α : Type} (fn B0 : Nat) (d : Kd α) (e T : Nat) (f : Bs → Rd α) : Prop :=
  ∀ l (done : List α) w b B r, l.length ≤ 1000000000 → done.length ≤ 1000000000 → Gl B0 w → B0 ≤ b → RowIn d e T B b done w → f l = r → r ≠ .unk →
    Calls Tryz.prog fn #[S l, .pointer (some ⟨b, 0, none⟩)] w fun e' w' => Yr r (fun a w' => RowIn d e T B b (done ++ [a]) w') e' w' ∧ Fr B b w w'

/-- The cells of a match, in every world that keeps the rows' blocks. -/
theorem get_row {w1 : World} {B1 : Nat} {A : Option Addr} {n c : Nat} {ms : List (Nat × Nat × Nat × Nat)} (h : rowsK.R 144 w1 B1 (fun _ => True) (.slice A n c) (ms.map encM)) (j : Nat) (hj : j < ms.length) :
    ∃ ad ad' c', A = some ad ∧ ∀ wr : World, (∀ k, B1 ≤ k → k < w1.heap.size → wr.heap[k]? = w1.heap[k]?) →
      wr.cell? (ad.add j) = some (.slice (some ad') 4 c') ∧ wr.cell? ⟨ad'.block, ad'.off + 2, none⟩ = some (.int .i64 ms[j].2.2.1) ∧ wr.cell? ⟨ad'.block, ad'.off + 3, none⟩ = some (.int .i64 ms[j].2.2.2) := by
  obtain ⟨h0, inner, hown, hr⟩ := h
  have hj' : j < (ms.map encM).length := by simpa using hj
  have hx : (ms.map encM)[j]? = some (encM ms[j]) := by simp [hj]
  obtain ⟨v, hv, hR⟩ := hr.2 j _ hx
  obtain ⟨g', cap', rfl, hb', hs', -⟩ := Kd.R_form hR (by simp [encM])
  obtain ⟨-, -, hC⟩ := Kd.R_reads' hR
  obtain ⟨hlen, hown⟩ := hown
  rcases hown with ⟨-, h2⟩ | ⟨g, cap, cur, hsl, hg, hh, h1, h2, h3, h4⟩
  · omega
  · cases hsl
    refine ⟨_, ⟨g', 0, none⟩, cap', rfl, fun wr hwr => ?_⟩
    have hgl : g < w1.heap.size := box_lt hh
    have e1 : (⟨g, 0, none⟩ : Addr).add j = ⟨g, j, none⟩ := by unfold Addr.add; split <;> simp_all
    have q1 : wr.cell? ⟨g, j, none⟩ = some (.slice (some ⟨g', 0, none⟩) 4 cap') := by
      rw [cell_of_row wr g j cur 144 (0, 0) ((hwr g hg hgl).trans hh)]
      have h5 : (cur.toList.take ((ms.map encM).length * rowsK.sz))[j]? = inner[j]? := by rw [h4]
      have h6 : inner[j]? = some (.slice (some ⟨g', 0, none⟩) 4 cap') := by
        have h7 : (inner.drop (j * 1)).take 1 = [.slice (some ⟨g', 0, none⟩) 4 cap'] := hv
        have h8 : ((inner.drop (j * 1)).take 1)[0]? = some (.slice (some ⟨g', 0, none⟩) 4 cap') := by rw [h7]; rfl
        simpa using h8
      rw [h6, List.getElem?_take] at h5
      have h9 : j < (ms.map encM).length * rowsK.sz := by show j < _ * 1; omega
      rw [if_pos h9] at h5
      simpa using h5
    obtain ⟨ad', hA', q2⟩ := Kd.at_int hC 2 (by decide) (by simp [encM])
    obtain ⟨ad2, hA2, q3⟩ := Kd.at_int hC 3 (by decide) (by simp [encM])
    cases hA'
    cases hA2
    have e2 : (⟨g', 0, none⟩ : Addr).add (2 : Int).toNat = ⟨g', 2, none⟩ := rfl
    have e3 : (⟨g', 0, none⟩ : Addr).add (3 : Int).toNat = ⟨g', 3, none⟩ := rfl
    rw [e2] at q2
    rw [e3] at q3
    have tr : ∀ (o : Nat) u, w1.cell? ⟨g', o, none⟩ = some u → wr.cell? ⟨g', o, none⟩ = some u := by
      intro o u hu
      have := hwr g' hb' hs'
      rw [← hu]
      simp [World.cell?, this]
    exact ⟨by rw [e1]; exact q1, tr 2 _ q2, tr 3 _ q3⟩
set_option maxRecDepth 20000 in
set_option maxHeartbeats 1000000 in
theorem regex_any {α : Type} (fa fn : Nat) (d : Kd α) (e T : Nat) (f : Bs → Rd α) (hca : ∀ args w, (callFunc fa args).run Tryz.prog w = .ok (.enter fa args) w) (hcf : ∀ args w, (callFunc fn args).run Tryz.prog w = .ok (.enter fn args) w)
    (hM : Makes fa d e T) (B0 : Nat) (hY : YieldsIn fn B0 d e T f) (double : Bool) (l : Bs) (w : World) (b : Nat) (R : Rd (List α)) (hl : l.length ≤ 1000000000) (hg : Gl B0 w) (hB0 : B0 ≤ b) (hb : w.heap[b]? = some (.cells #[.slice none 0 0] T (0, 0)))
    (hR : mapR f (splitP double l) = R) (hn : R ≠ .unk) :
    Calls Tryz.prog 81 #[S l, .bool double, .func (.func fa) #[] #[.pointer (some ⟨b, 0, none⟩)], .func (.func fn) #[] #[.pointer (some ⟨b, 0, none⟩)]] w fun e' w' =>
      Yr R (fun xs w' => ∃ sv, w'.heap[b]? = some (.cells #[sv] T (0, 0)) ∧ d.R e w' w.heap.size (fun _ => True) sv xs) e' w' ∧ Fr w.heap.size b w w' := by
  have hbl : b < w.heap.size := box_lt hb
  rw [splitP_cut] at hR
  obtain ⟨ms, hms⟩ : ∃ ms, ms = mts double l l.length 0 := ⟨_, rfl⟩
  have hch := mts_ch double l l.length 0 0 (Nat.le_refl _) (Nat.zero_le _)
  have hln := mts_len double l l.length 0 (Nat.zero_le _)
  have hfind := find_any double l w hl
  rw [← hms] at hR hch hln hfind
  have hst : SSt f l R ms [] 0 0 := ⟨Nat.zero_le _, rfl, hch, by rw [List.drop_zero, hR]; cases R <;> simp [Rd.map]⟩
  have HST := Lib.hid hst
  have HM := Lib.hid hM
  have HY := Lib.hid hY
  have HG := Lib.hid hg
  have HK := Lib.hid hb
  clear hms hch hR hst hM hY hg hb
  go_enter Tryz.func81, Tryz.ntmps81
  go_wp2_with fail
  refine hfind.mono ?_
  rintro e1 w1 ⟨v, rfl, hR1, hb1⟩
  clear hfind
  obtain ⟨A, c, rfl, hlc, hC1⟩ := Kd.R_reads hR1
  have hmsl : (ms.map encM).length = ms.length := by simp
  rw [hmsl] at hlc hC1
  have hcall := HM.out (ms.length + 1) w1 b (by omega) (by have := hb1.size; omega) (blk_below HK.out hb1)
  have HC1 := Lib.hid hC1
  have HB1 := Lib.hid hb1
  have hsz1 := hb1.size
  have HR1 := Lib.hid hR1
  clear hC1 hb1 hR1 hmsl
  simp only [List.length_map]
  go_wp2_with fail
  refine hcall.mono ?_
  rintro e2 w2 ⟨⟨v2, rfl⟩, hrow, hfr⟩
  clear hcall
  have HROW := Lib.hid hrow
  have HFR := Lib.hid hfr
  clear hrow hfr
  go_wp2
  go_loopw [10, 24] (fun v10 v24 wr => ∃ (j bb : Nat) (done : List α), v10 = .int .i64 bb ∧ v24 = .int .i64 j ∧ SSt f l R ms done bb j ∧ RowIn d e T w1.heap.size b done wr ∧ Fr w1.heap.size b w1 wr) (fun v10 v24 wr => ms.length - (intOf v24).toNat)
  case atStart => exact ⟨0, 0, [], rfl, rfl, HST.out, HROW.out, HFR.out⟩
  case round =>
    obtain ⟨j, bb, done, rfl, rfl, hst, hrow, hfr⟩ := hrel
    have hjm := hst.jm
    have hdl := hst.dl
    have hle := hst.le
    have hgr : Gl B0 wr := (HG.out.low HB1.out).below (hfr.below (by omega)) hB0
    by_cases hlt : j < ms.length
    · obtain ⟨p0, p1, p2, p3, p4⟩ := hst.next hlt hn
      obtain ⟨ad, ad', c', rfl, hqs⟩ := get_row HR1.out j hlt
      obtain ⟨q1, q2, q3⟩ := hqs wr (fun k h1 h2 => hfr.block k h2 (by omega))
      have HQ := Lib.hid hqs
      clear hqs
      obtain ⟨F, hF⟩ : ∃ F, F = ms[j].2.2.1 := ⟨_, rfl⟩
      obtain ⟨G, hG⟩ : ∃ G, G = ms[j].2.2.2 := ⟨_, rfl⟩
      rw [← hF] at p0 p1 p2 p3 p4 q2
      rw [← hG] at p4 q3
      have HG1 := Lib.hid hG
      have hpl : ((l.take F).drop bb).length ≤ 1000000000 := by simp; omega
      have hcall := HY.out _ done wr b w1.heap.size _ hpl (by omega) hgr hB0 hrow rfl p2
      have HP2 := Lib.hid p2
      have HP3 := Lib.hid p3
      have HP4 := Lib.hid p4
      have HFR2 := Lib.hid hfr
      clear p2 p3 p4 hF hG hst hrow hfr hgr hdl hpl
      go_wp2_with fail
      refine hcall.mono ?_
      clear hcall
      cases hr : f ((l.take F).drop bb) with
      | unk => exact absurd hr HP2.out
      | err =>
        rintro e3 w3 ⟨⟨u, v, rfl⟩, hfr3⟩
        have hRe := HP3.out hr
        subst hRe
        have HF3 := Lib.hid (Fr.trans (Fr.of_below HB1.out) ((HFR2.out.trans hfr3).mono hsz1))
        clear hr hfr3
        go_wp2
        go_ret
        exact ⟨⟨_, _, rfl⟩, HF3.out⟩
      | ok a =>
        rintro e3 w3 ⟨⟨rfl, hrow3⟩, hfr3⟩
        obtain ⟨_, _, q6⟩ := HQ.out w3 (fun k h1 h2 => (HFR2.out.trans hfr3).block k h2 (by omega))
        have HS3 := Lib.hid (HP4.out a hr)
        have HR3 := Lib.hid hrow3
        have HF3 := Lib.hid (HFR2.out.trans hfr3)
        rw [← HG1.out] at q6
        clear hr hfr3 hrow3 q1 q2 q3
        go_wp2
        exact ⟨⟨j + 1, G, done ++ [a], rfl, by go_num, HS3.out, HR3.out, HF3.out⟩, by simp [intOf]; omega⟩
    · obtain ⟨hbl2, hlast⟩ := hst.last hlt
      have hpl : (l.drop bb).length ≤ 1000000000 := by simp; omega
      have hfn : f (l.drop bb) ≠ .unk := by
        intro e0; rw [e0] at hlast; exact hn hlast
      have hcall := HY.out _ done wr b w1.heap.size _ hpl (by omega) hgr hB0 hrow rfl hfn
      have HL := Lib.hid hlast
      have HFR2 := Lib.hid hfr
      have HN := Lib.hid hfn
      clear hst hrow hfr hlast hfn hgr hpl
      go_wp2_with fail
      refine hcall.mono ?_
      clear hcall
      cases hr : f (l.drop bb) with
      | unk => exact absurd hr HN.out
      | err =>
        rintro e3 w3 ⟨⟨u, v, rfl⟩, hfr3⟩
        have hRe := HL.out
        rw [hr] at hRe
        simp only [Rd.bind] at hRe
        subst hRe
        have HF3 := Lib.hid (Fr.trans (Fr.of_below HB1.out) ((HFR2.out.trans hfr3).mono hsz1))
        clear hr hfr3
        go_wp2
        go_ret
        exact ⟨⟨_, _, rfl⟩, HF3.out⟩
      | ok a =>
        rintro e3 w3 ⟨⟨rfl, -, -, sv, hsv, hsR⟩, hfr3⟩
        have hRe := HL.out
        rw [hr] at hRe
        simp only [Rd.bind] at hRe
        subst hRe
        have HF3 := Lib.hid (Fr.trans (Fr.of_below HB1.out) ((HFR2.out.trans hfr3).mono hsz1))
        have HSV := Lib.hid hsv
        have HSR := Lib.hid (Kd.R_lower hsR hsz1)
        clear hr hfr3 hsv hsR
        go_wp2
        go_ret
        exact ⟨⟨rfl, sv, HSV.out, HSR.out⟩, HF3.out⟩
end Go.Proofs.YtghajgdiaopioaaGreatDoor
end
