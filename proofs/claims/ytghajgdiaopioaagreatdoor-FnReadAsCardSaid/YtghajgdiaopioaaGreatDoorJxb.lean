/- Walks and plain laws joined (Ma). Conditions: stand in each law. -/
import Derived.Test.YtghajgdiaopioaaGreatDoorJk
/- Walks: UnmarshalX of each kind. Conditions: stand in each contract. -/
section
set_option linter.unusedVariables false
set_option linter.unusedSimpArgs false
namespace Go.Proofs.YtghajgdiaopioaaGreatDoor
open Go.RowKit Go.Proofs Tx
open Go.Proofs.YtghajgdiaopioaaGreatDoorW.PrintWords

/-- The error of a text of another kind. -/
def E2 (w : World) : Prop := ∃ u v, w.cell? ⟨2, 0, none⟩ = some (.iface u v)
theorem E2.below {B : Nat} {w w' : World} (h : E2 w) (hb : Below B w w') (hB : 2 < B) : E2 w' := let ⟨u, v, e⟩ := h; ⟨u, v, cell_below e hb hB⟩

set_option maxRecDepth 20000 in
set_option maxHeartbeats 1000000 in
theorem umx1_no (s t : Bs) (w : World) (he : E2 w) (h2 : 2 < w.heap.size) (hl : s.length ≤ 1000000000) (ht : trim s = t) (h1 : hasW t (word 1) = false) :
    Calls Tryz.prog 36 #[S s] w fun e w' => (∃ u v, e = .returned (.tuple #[ptV (0, 0), .iface u v])) ∧ Below w.heap.size w w' := by
  have hb0 := below_alloc1 w (.cells #[.float .f64 0, .float .f64 0] 61 (0, 0))
  have hk0 := blk_new w (.cells #[.float .f64 0, .float .f64 0] 61 (0, 0))
  have htl : t.length ≤ s.length := by rw [← ht]; exact trim_le s
  have htr := trim_any s (w.alloc (.cells #[.float .f64 0, .float .f64 0] 61 (0, 0))) (by omega)
  rw [ht] at htr
  clear ht
  go_enter Tryz.func36, Tryz.ntmps36
  go_wp2_with fail
  refine htr.mono ?_
  rintro e w' ⟨rfl, rfl⟩
  clear htr
  go_wp2_with fail
  refine (upper_any t _ (by omega)).mono ?_
  rintro e w1 ⟨rfl, hb1, hu⟩
  rw [show (w.alloc (.cells #[.float .f64 0, .float .f64 0] 61 (0, 0))).heap.size = w.heap.size + 1 by simp] at hu
  have hsz1 := blk_lt hu
  have hv1 := Go.Joins.run_convert_bytes_const_at (P := Tryz.prog) w1 92 5 #[.int .u8 80, .int .u8 79, .int .u8 73, .int .u8 78, .int .u8 84] 5 5 (w1.heap.size) (by simp) Tryz.underlying92 Tryz.underlying5
  have hk1 := blk_new_at w1 (.cells #[.int .u8 80, .int .u8 79, .int .u8 73, .int .u8 78, .int .u8 84] 5 (5, 6)) (w1.heap.size) (by simp)
  have hu1 := blk_alloc hu (.cells #[.int .u8 80, .int .u8 79, .int .u8 73, .int .u8 78, .int .u8 84] 5 (5, 6))
  have hB1 := (below_then hb0 (by simp) hb1).alloc (by omega) (.cells #[.int .u8 80, .int .u8 79, .int .u8 73, .int .u8 78, .int .u8 84] 5 (5, 6))
  have hk2 := blk_alloc (blk_below hk0 hb1) (.cells #[.int .u8 80, .int .u8 79, .int .u8 73, .int .u8 78, .int .u8 84] 5 (5, 6))
  have hc1 := hasW_any t 1 _ (w.heap.size + 1) _ hu1 hk1
  rw [h1] at hc1
  obtain ⟨u, v, he1⟩ := he.below hB1 h2
  have HB := Lib.hid hB1
  have HK := Lib.hid hk2
  clear hk0 hk2 hb0
  clear hk1 hu1 hu hB1 hb1 h1 he
  go_wp2_with fail
  refine hc1.mono ?_
  rintro e w' ⟨rfl, rfl⟩
  clear hc1 hv1
  have hne : 2 ≠ w.heap.size := by omega
  obtain ⟨c0, c1, f0, f1⟩ := two_facts HK.out
  go_wp2_with fail
  go_region
  go_wp2
  first
  | (refine bodyPost_ret (results_ct rfl _ _ _ _ _ _ _ rfl (blk_drew (two_set HK.out)) Tryz.underlying61 rfl size61) rfl ?_
     exact ⟨⟨_, _, rfl⟩, bdrew ((HB.out.setCell (Nat.le_refl _) _).setCell (Nat.le_refl _) _)⟩)
  | (refine bodyPost_ret (results_ct rfl _ _ _ _ _ _ _ rfl (two_set (blk_drew HK.out)) Tryz.underlying61 rfl size61) rfl ?_
     exact ⟨⟨_, _, rfl⟩, ((bdrew HB.out).setCell (Nat.le_refl _) _).setCell (Nat.le_refl _) _⟩)

set_option maxRecDepth 20000 in
set_option maxHeartbeats 1000000 in
theorem umx1_yes {α : Type} (s t : Bs) (w : World) {B0 : Nat} (hg : Gl B0 w) (hl : s.length ≤ 1000000000) (ht : trim s = t) (h1 : hasW t (word 1) = true) (r : Rd α) (ok : Nat → α → Value → World → Prop) (hok : ∀ B B' a x w, B' ≤ B → ok B a x w → ok B' a x w)
    (hz : ∀ B a x w, ok B a x w → ∃ p, x = ptV p)
    (hn : r ≠ .unk) (hR : RdOk 53 (ptV (0, 0)) t r B0 ok) :
    Calls Tryz.prog 36 #[S s] w fun e w' => Res (ptV (0, 0)) r (fun a x w' => ∃ w0, ok w.heap.size a x w0) e w' ∧ Below w.heap.size w w' := by
  have hb0 := below_alloc1 w (.cells #[.float .f64 0, .float .f64 0] 61 (0, 0))
  have hk0 := blk_new w (.cells #[.float .f64 0, .float .f64 0] 61 (0, 0))
  have htl : t.length ≤ s.length := by rw [← ht]; exact trim_le s
  have htr := trim_any s (w.alloc (.cells #[.float .f64 0, .float .f64 0] 61 (0, 0))) (by omega)
  rw [ht] at htr
  clear ht
  go_enter Tryz.func36, Tryz.ntmps36
  go_wp2_with fail
  refine htr.mono ?_
  rintro e w' ⟨rfl, rfl⟩
  clear htr
  go_wp2_with fail
  refine (upper_any t _ (by omega)).mono ?_
  rintro e w1 ⟨rfl, hb1, hu⟩
  rw [show (w.alloc (.cells #[.float .f64 0, .float .f64 0] 61 (0, 0))).heap.size = w.heap.size + 1 by simp] at hu
  have hsz1 := blk_lt hu
  have hv1 := Go.Joins.run_convert_bytes_const_at (P := Tryz.prog) w1 92 5 #[.int .u8 80, .int .u8 79, .int .u8 73, .int .u8 78, .int .u8 84] 5 5 (w1.heap.size) (by simp) Tryz.underlying92 Tryz.underlying5
  have hk1 := blk_new_at w1 (.cells #[.int .u8 80, .int .u8 79, .int .u8 73, .int .u8 78, .int .u8 84] 5 (5, 6)) (w1.heap.size) (by simp)
  have hu1 := blk_alloc hu (.cells #[.int .u8 80, .int .u8 79, .int .u8 73, .int .u8 78, .int .u8 84] 5 (5, 6))
  have hB1 := (below_then hb0 (by simp) hb1).alloc (by omega) (.cells #[.int .u8 80, .int .u8 79, .int .u8 73, .int .u8 78, .int .u8 84] 5 (5, 6))
  have hk2 := blk_alloc (blk_below hk0 hb1) (.cells #[.int .u8 80, .int .u8 79, .int .u8 73, .int .u8 78, .int .u8 84] 5 (5, 6))
  have hc1 := hasW_any t 1 _ (w.heap.size + 1) _ hu1 hk1
  rw [h1] at hc1
  have hg1 := hg.low hB1
  have hcall := hR _ hg1
  have HB := Lib.hid hB1
  have HK := Lib.hid hk2
  clear hk0 hk2 hb0
  clear hk1 hu1 hu hB1 hb1 h1 hg1 hR
  go_wp2_with fail
  refine hc1.mono ?_
  rintro e w' ⟨rfl, rfl⟩
  clear hc1 hv1
  go_wp2_with fail
  refine hcall.mono ?_
  clear hcall
  cases r with
  | unk => exact absurd rfl hn
  | err =>
    rintro e w2 ⟨⟨u, v, rfl⟩, hb2⟩
    have HB2 := Lib.hid (below_then HB.out (by simp; omega) hb2)
    have hk3 := blk_below HK.out hb2
    obtain ⟨c0, c1, f0, f1⟩ := two_facts hk3
    have HK3 := Lib.hid hk3
    clear hb2 hk3
    unfold ptV
    go_wp2
    refine bodyPost_ret (results_ct rfl _ _ _ _ _ _ _ rfl (two_set HK3.out) Tryz.underlying61 rfl size61) rfl ?_
    exact ⟨⟨_, _, rfl⟩, (HB2.out.setCell (Nat.le_refl _) _).setCell (Nat.le_refl _) _⟩
  | ok a =>
    rintro e w2 ⟨⟨x, rfl, hx⟩, hb2⟩
    have HB2 := Lib.hid (below_then HB.out (by simp; omega) hb2)
    have hx2 := hok _ w.heap.size _ _ _ (by simp; omega) hx
    obtain ⟨p, rfl⟩ := hz _ _ _ _ hx
    have HX := Lib.hid hx2
    have hk3 := blk_below HK.out hb2
    obtain ⟨c0, c1, f0, f1⟩ := two_facts hk3
    have HK3 := Lib.hid hk3
    clear hb2 hx hx2 hk3
    unfold ptV
    go_wp2
    refine bodyPost_ret (results_ct rfl _ _ _ _ _ _ _ rfl (two_set HK3.out) Tryz.underlying61 rfl size61) rfl ?_
    exact ⟨⟨_, rfl, _, HX.out⟩, (HB2.out.setCell (Nat.le_refl _) _).setCell (Nat.le_refl _) _⟩

set_option maxRecDepth 20000 in
set_option maxHeartbeats 1000000 in
theorem umx2_no (s t : Bs) (w : World) (he : E2 w) (h2 : 2 < w.heap.size) (hl : s.length ≤ 1000000000) (ht : trim s = t) (h1 : hasW t (word 2) = false) :
    Calls Tryz.prog 37 #[S s] w fun e w' => (∃ u v, e = .returned (.tuple #[.slice none 0 0, .iface u v])) ∧ Below w.heap.size w w' := by
  have htl : t.length ≤ s.length := by rw [← ht]; exact trim_le s
  have htr := trim_any s w (by omega)
  rw [ht] at htr
  clear ht
  go_enter Tryz.func37, Tryz.ntmps37
  go_wp2_with fail
  refine htr.mono ?_
  rintro e w' ⟨rfl, rfl⟩
  clear htr
  go_wp2_with fail
  refine (upper_any t _ (by omega)).mono ?_
  rintro e w1 ⟨rfl, hb1, hu⟩
  have hsz1 := blk_lt hu
  have hv1 := Go.Joins.run_convert_bytes_const_at (P := Tryz.prog) w1 92 5 #[.int .u8 76, .int .u8 73, .int .u8 78, .int .u8 69, .int .u8 83, .int .u8 84, .int .u8 82, .int .u8 73, .int .u8 78, .int .u8 71] 10 10 (w1.heap.size) (by simp) Tryz.underlying92 Tryz.underlying5
  have hk1 := blk_new_at w1 (.cells #[.int .u8 76, .int .u8 73, .int .u8 78, .int .u8 69, .int .u8 83, .int .u8 84, .int .u8 82, .int .u8 73, .int .u8 78, .int .u8 71] 5 (10, 11)) (w1.heap.size) (by simp)
  have hu1 := blk_alloc hu (.cells #[.int .u8 76, .int .u8 73, .int .u8 78, .int .u8 69, .int .u8 83, .int .u8 84, .int .u8 82, .int .u8 73, .int .u8 78, .int .u8 71] 5 (10, 11))
  have hB1 := hb1.alloc (by have := hb1.size; omega) (.cells #[.int .u8 76, .int .u8 73, .int .u8 78, .int .u8 69, .int .u8 83, .int .u8 84, .int .u8 82, .int .u8 73, .int .u8 78, .int .u8 71] 5 (10, 11))
  have hc1 := hasW_any t 2 _ w.heap.size _ hu1 hk1
  rw [h1] at hc1
  obtain ⟨u, v, he1⟩ := he.below hB1 h2
  have HB := Lib.hid hB1
  clear hk1 hu1 hu hB1 hb1 h1 he
  go_wp2_with fail
  refine hc1.mono ?_
  rintro e w' ⟨rfl, rfl⟩
  clear hc1 hv1
  go_wp2_with fail
  first
  | (go_quiet (fail)
     go_wp2
     go_ret2
     exact ⟨⟨_, _, rfl⟩, pw_below_drewN HB.out _⟩)
  | (go_wp2
     go_ret2
     exact ⟨⟨_, _, rfl⟩, HB.out⟩)

set_option maxRecDepth 20000 in
set_option maxHeartbeats 1000000 in
theorem umx2_yes {α : Type} (s t : Bs) (w : World) {B0 : Nat} (hg : Gl B0 w) (hl : s.length ≤ 1000000000) (ht : trim s = t) (h1 : hasW t (word 2) = true) (r : Rd α) (ok : Nat → α → Value → World → Prop) (hok : ∀ B B' a x w, B' ≤ B → ok B a x w → ok B' a x w)
    (hz : ∀ B a x w, ok B a x w → ∃ A n c, x = .slice A n c)
    (hn : r ≠ .unk) (hR : RdOk 54 (.slice none 0 0) t r B0 ok) :
    Calls Tryz.prog 37 #[S s] w fun e w' => Res (.slice none 0 0) r (fun a x w' => ok w.heap.size a x w') e w' ∧ Below w.heap.size w w' := by
  have htl : t.length ≤ s.length := by rw [← ht]; exact trim_le s
  have htr := trim_any s w (by omega)
  rw [ht] at htr
  clear ht
  go_enter Tryz.func37, Tryz.ntmps37
  go_wp2_with fail
  refine htr.mono ?_
  rintro e w' ⟨rfl, rfl⟩
  clear htr
  go_wp2_with fail
  refine (upper_any t _ (by omega)).mono ?_
  rintro e w1 ⟨rfl, hb1, hu⟩
  have hsz1 := blk_lt hu
  have hv1 := Go.Joins.run_convert_bytes_const_at (P := Tryz.prog) w1 92 5 #[.int .u8 76, .int .u8 73, .int .u8 78, .int .u8 69, .int .u8 83, .int .u8 84, .int .u8 82, .int .u8 73, .int .u8 78, .int .u8 71] 10 10 (w1.heap.size) (by simp) Tryz.underlying92 Tryz.underlying5
  have hk1 := blk_new_at w1 (.cells #[.int .u8 76, .int .u8 73, .int .u8 78, .int .u8 69, .int .u8 83, .int .u8 84, .int .u8 82, .int .u8 73, .int .u8 78, .int .u8 71] 5 (10, 11)) (w1.heap.size) (by simp)
  have hu1 := blk_alloc hu (.cells #[.int .u8 76, .int .u8 73, .int .u8 78, .int .u8 69, .int .u8 83, .int .u8 84, .int .u8 82, .int .u8 73, .int .u8 78, .int .u8 71] 5 (10, 11))
  have hB1 := hb1.alloc (by have := hb1.size; omega) (.cells #[.int .u8 76, .int .u8 73, .int .u8 78, .int .u8 69, .int .u8 83, .int .u8 84, .int .u8 82, .int .u8 73, .int .u8 78, .int .u8 71] 5 (10, 11))
  have hc1 := hasW_any t 2 _ w.heap.size _ hu1 hk1
  rw [h1] at hc1
  have hg1 := hg.low hB1
  have hcall := hR _ hg1
  have HB := Lib.hid hB1
  clear hk1 hu1 hu hB1 hb1 h1 hg1 hR
  go_wp2_with fail
  refine hc1.mono ?_
  rintro e w' ⟨rfl, rfl⟩
  clear hc1 hv1
  go_wp2_with fail
  refine hcall.mono ?_
  clear hcall
  cases r with
  | unk => exact absurd rfl hn
  | err =>
    rintro e w2 ⟨⟨u, v, rfl⟩, hb2⟩
    have HB2 := Lib.hid (below_then HB.out (by simp; omega) hb2)
    clear hb2
    go_wp2
    go_ret2
    exact ⟨⟨_, _, rfl⟩, HB2.out⟩
  | ok a =>
    rintro e w2 ⟨⟨x, rfl, hx⟩, hb2⟩
    have HB2 := Lib.hid (below_then HB.out (by simp; omega) hb2)
    have hx2 := hok _ w.heap.size _ _ _ (by simp; omega) hx
    obtain ⟨A, q, c, rfl⟩ := hz _ _ _ _ hx
    have HX := Lib.hid hx2
    clear hb2 hx hx2
    go_wp2
    go_ret2
    exact ⟨⟨_, rfl, HX.out⟩, HB2.out⟩

set_option maxRecDepth 20000 in
set_option maxHeartbeats 1000000 in
theorem umx3_no (s t : Bs) (w : World) (he : E2 w) (h2 : 2 < w.heap.size) (hl : s.length ≤ 1000000000) (ht : trim s = t) (h1 : hasW t (word 3) = false) :
    Calls Tryz.prog 38 #[S s] w fun e w' => (∃ u v, e = .returned (.tuple #[.slice none 0 0, .iface u v])) ∧ Below w.heap.size w w' := by
  have htl : t.length ≤ s.length := by rw [← ht]; exact trim_le s
  have htr := trim_any s w (by omega)
  rw [ht] at htr
  clear ht
  go_enter Tryz.func38, Tryz.ntmps38
  go_wp2_with fail
  refine htr.mono ?_
  rintro e w' ⟨rfl, rfl⟩
  clear htr
  go_wp2_with fail
  refine (upper_any t _ (by omega)).mono ?_
  rintro e w1 ⟨rfl, hb1, hu⟩
  have hsz1 := blk_lt hu
  have hv1 := Go.Joins.run_convert_bytes_const_at (P := Tryz.prog) w1 92 5 #[.int .u8 80, .int .u8 79, .int .u8 76, .int .u8 89, .int .u8 71, .int .u8 79, .int .u8 78] 7 7 (w1.heap.size) (by simp) Tryz.underlying92 Tryz.underlying5
  have hk1 := blk_new_at w1 (.cells #[.int .u8 80, .int .u8 79, .int .u8 76, .int .u8 89, .int .u8 71, .int .u8 79, .int .u8 78] 5 (7, 8)) (w1.heap.size) (by simp)
  have hu1 := blk_alloc hu (.cells #[.int .u8 80, .int .u8 79, .int .u8 76, .int .u8 89, .int .u8 71, .int .u8 79, .int .u8 78] 5 (7, 8))
  have hB1 := hb1.alloc (by have := hb1.size; omega) (.cells #[.int .u8 80, .int .u8 79, .int .u8 76, .int .u8 89, .int .u8 71, .int .u8 79, .int .u8 78] 5 (7, 8))
  have hc1 := hasW_any t 3 _ w.heap.size _ hu1 hk1
  rw [h1] at hc1
  obtain ⟨u, v, he1⟩ := he.below hB1 h2
  have HB := Lib.hid hB1
  clear hk1 hu1 hu hB1 hb1 h1 he
  go_wp2_with fail
  refine hc1.mono ?_
  rintro e w' ⟨rfl, rfl⟩
  clear hc1 hv1
  go_wp2_with fail
  first
  | (go_quiet (fail)
     go_wp2
     go_ret2
     exact ⟨⟨_, _, rfl⟩, pw_below_drewN HB.out _⟩)
  | (go_wp2
     go_ret2
     exact ⟨⟨_, _, rfl⟩, HB.out⟩)

set_option maxRecDepth 20000 in
set_option maxHeartbeats 1000000 in
theorem umx3_yes {α : Type} (s t : Bs) (w : World) {B0 : Nat} (hg : Gl B0 w) (hl : s.length ≤ 1000000000) (ht : trim s = t) (h1 : hasW t (word 3) = true) (r : Rd α) (ok : Nat → α → Value → World → Prop) (hok : ∀ B B' a x w, B' ≤ B → ok B a x w → ok B' a x w)
    (hz : ∀ B a x w, ok B a x w → ∃ A n c, x = .slice A n c)
    (hn : r ≠ .unk) (hR : RdOk 55 (.slice none 0 0) t r B0 ok) :
    Calls Tryz.prog 38 #[S s] w fun e w' => Res (.slice none 0 0) r (fun a x w' => ok w.heap.size a x w') e w' ∧ Below w.heap.size w w' := by
  have htl : t.length ≤ s.length := by rw [← ht]; exact trim_le s
  have htr := trim_any s w (by omega)
  rw [ht] at htr
  clear ht
  go_enter Tryz.func38, Tryz.ntmps38
  go_wp2_with fail
  refine htr.mono ?_
  rintro e w' ⟨rfl, rfl⟩
  clear htr
  go_wp2_with fail
  refine (upper_any t _ (by omega)).mono ?_
  rintro e w1 ⟨rfl, hb1, hu⟩
  have hsz1 := blk_lt hu
  have hv1 := Go.Joins.run_convert_bytes_const_at (P := Tryz.prog) w1 92 5 #[.int .u8 80, .int .u8 79, .int .u8 76, .int .u8 89, .int .u8 71, .int .u8 79, .int .u8 78] 7 7 (w1.heap.size) (by simp) Tryz.underlying92 Tryz.underlying5
  have hk1 := blk_new_at w1 (.cells #[.int .u8 80, .int .u8 79, .int .u8 76, .int .u8 89, .int .u8 71, .int .u8 79, .int .u8 78] 5 (7, 8)) (w1.heap.size) (by simp)
  have hu1 := blk_alloc hu (.cells #[.int .u8 80, .int .u8 79, .int .u8 76, .int .u8 89, .int .u8 71, .int .u8 79, .int .u8 78] 5 (7, 8))
  have hB1 := hb1.alloc (by have := hb1.size; omega) (.cells #[.int .u8 80, .int .u8 79, .int .u8 76, .int .u8 89, .int .u8 71, .int .u8 79, .int .u8 78] 5 (7, 8))
  have hc1 := hasW_any t 3 _ w.heap.size _ hu1 hk1
  rw [h1] at hc1
  have hg1 := hg.low hB1
  have hcall := hR _ hg1
  have HB := Lib.hid hB1
  clear hk1 hu1 hu hB1 hb1 h1 hg1 hR
  go_wp2_with fail
  refine hc1.mono ?_
  rintro e w' ⟨rfl, rfl⟩
  clear hc1 hv1
  go_wp2_with fail
  refine hcall.mono ?_
  clear hcall
  cases r with
  | unk => exact absurd rfl hn
  | err =>
    rintro e w2 ⟨⟨u, v, rfl⟩, hb2⟩
    have HB2 := Lib.hid (below_then HB.out (by simp; omega) hb2)
    clear hb2
    go_wp2
    go_ret2
    exact ⟨⟨_, _, rfl⟩, HB2.out⟩
  | ok a =>
    rintro e w2 ⟨⟨x, rfl, hx⟩, hb2⟩
    have HB2 := Lib.hid (below_then HB.out (by simp; omega) hb2)
    have hx2 := hok _ w.heap.size _ _ _ (by simp; omega) hx
    obtain ⟨A, q, c, rfl⟩ := hz _ _ _ _ hx
    have HX := Lib.hid hx2
    clear hb2 hx hx2
    go_wp2
    go_ret2
    exact ⟨⟨_, rfl, HX.out⟩, HB2.out⟩

set_option maxRecDepth 20000 in
set_option maxHeartbeats 1000000 in
theorem umx4_no (s t : Bs) (w : World) (he : E2 w) (h2 : 2 < w.heap.size) (hl : s.length ≤ 1000000000) (ht : trim s = t) (h1 : hasW t (word 4) = false) :
    Calls Tryz.prog 39 #[S s] w fun e w' => (∃ u v, e = .returned (.tuple #[.slice none 0 0, .iface u v])) ∧ Below w.heap.size w w' := by
  have htl : t.length ≤ s.length := by rw [← ht]; exact trim_le s
  have htr := trim_any s w (by omega)
  rw [ht] at htr
  clear ht
  go_enter Tryz.func39, Tryz.ntmps39
  go_wp2_with fail
  refine htr.mono ?_
  rintro e w' ⟨rfl, rfl⟩
  clear htr
  go_wp2_with fail
  refine (upper_any t _ (by omega)).mono ?_
  rintro e w1 ⟨rfl, hb1, hu⟩
  have hsz1 := blk_lt hu
  have hv1 := Go.Joins.run_convert_bytes_const_at (P := Tryz.prog) w1 92 5 #[.int .u8 77, .int .u8 85, .int .u8 76, .int .u8 84, .int .u8 73, .int .u8 80, .int .u8 79, .int .u8 73, .int .u8 78, .int .u8 84] 10 10 (w1.heap.size) (by simp) Tryz.underlying92 Tryz.underlying5
  have hk1 := blk_new_at w1 (.cells #[.int .u8 77, .int .u8 85, .int .u8 76, .int .u8 84, .int .u8 73, .int .u8 80, .int .u8 79, .int .u8 73, .int .u8 78, .int .u8 84] 5 (10, 11)) (w1.heap.size) (by simp)
  have hu1 := blk_alloc hu (.cells #[.int .u8 77, .int .u8 85, .int .u8 76, .int .u8 84, .int .u8 73, .int .u8 80, .int .u8 79, .int .u8 73, .int .u8 78, .int .u8 84] 5 (10, 11))
  have hB1 := hb1.alloc (by have := hb1.size; omega) (.cells #[.int .u8 77, .int .u8 85, .int .u8 76, .int .u8 84, .int .u8 73, .int .u8 80, .int .u8 79, .int .u8 73, .int .u8 78, .int .u8 84] 5 (10, 11))
  have hc1 := hasW_any t 4 _ w.heap.size _ hu1 hk1
  rw [h1] at hc1
  obtain ⟨u, v, he1⟩ := he.below hB1 h2
  have HB := Lib.hid hB1
  clear hk1 hu1 hu hB1 hb1 h1 he
  go_wp2_with fail
  refine hc1.mono ?_
  rintro e w' ⟨rfl, rfl⟩
  clear hc1 hv1
  go_wp2_with fail
  first
  | (go_quiet (fail)
     go_wp2
     go_ret2
     exact ⟨⟨_, _, rfl⟩, pw_below_drewN HB.out _⟩)
  | (go_wp2
     go_ret2
     exact ⟨⟨_, _, rfl⟩, HB.out⟩)

set_option maxRecDepth 20000 in
set_option maxHeartbeats 1000000 in
theorem umx4_yes {α : Type} (s t : Bs) (w : World) {B0 : Nat} (hg : Gl B0 w) (hl : s.length ≤ 1000000000) (ht : trim s = t) (h1 : hasW t (word 4) = true) (r : Rd α) (ok : Nat → α → Value → World → Prop) (hok : ∀ B B' a x w, B' ≤ B → ok B a x w → ok B' a x w)
    (hz : ∀ B a x w, ok B a x w → ∃ A n c, x = .slice A n c)
    (hn : r ≠ .unk) (hR : RdOk 56 (.slice none 0 0) t r B0 ok) :
    Calls Tryz.prog 39 #[S s] w fun e w' => Res (.slice none 0 0) r (fun a x w' => ok w.heap.size a x w') e w' ∧ Below w.heap.size w w' := by
  have htl : t.length ≤ s.length := by rw [← ht]; exact trim_le s
  have htr := trim_any s w (by omega)
  rw [ht] at htr
  clear ht
  go_enter Tryz.func39, Tryz.ntmps39
  go_wp2_with fail
  refine htr.mono ?_
  rintro e w' ⟨rfl, rfl⟩
  clear htr
  go_wp2_with fail
  refine (upper_any t _ (by omega)).mono ?_
  rintro e w1 ⟨rfl, hb1, hu⟩
  have hsz1 := blk_lt hu
  have hv1 := Go.Joins.run_convert_bytes_const_at (P := Tryz.prog) w1 92 5 #[.int .u8 77, .int .u8 85, .int .u8 76, .int .u8 84, .int .u8 73, .int .u8 80, .int .u8 79, .int .u8 73, .int .u8 78, .int .u8 84] 10 10 (w1.heap.size) (by simp) Tryz.underlying92 Tryz.underlying5
  have hk1 := blk_new_at w1 (.cells #[.int .u8 77, .int .u8 85, .int .u8 76, .int .u8 84, .int .u8 73, .int .u8 80, .int .u8 79, .int .u8 73, .int .u8 78, .int .u8 84] 5 (10, 11)) (w1.heap.size) (by simp)
  have hu1 := blk_alloc hu (.cells #[.int .u8 77, .int .u8 85, .int .u8 76, .int .u8 84, .int .u8 73, .int .u8 80, .int .u8 79, .int .u8 73, .int .u8 78, .int .u8 84] 5 (10, 11))
  have hB1 := hb1.alloc (by have := hb1.size; omega) (.cells #[.int .u8 77, .int .u8 85, .int .u8 76, .int .u8 84, .int .u8 73, .int .u8 80, .int .u8 79, .int .u8 73, .int .u8 78, .int .u8 84] 5 (10, 11))
  have hc1 := hasW_any t 4 _ w.heap.size _ hu1 hk1
  rw [h1] at hc1
  have hg1 := hg.low hB1
  have hcall := hR _ hg1
  have HB := Lib.hid hB1
  clear hk1 hu1 hu hB1 hb1 h1 hg1 hR
  go_wp2_with fail
  refine hc1.mono ?_
  rintro e w' ⟨rfl, rfl⟩
  clear hc1 hv1
  go_wp2_with fail
  refine hcall.mono ?_
  clear hcall
  cases r with
  | unk => exact absurd rfl hn
  | err =>
    rintro e w2 ⟨⟨u, v, rfl⟩, hb2⟩
    have HB2 := Lib.hid (below_then HB.out (by simp; omega) hb2)
    clear hb2
    go_wp2
    go_ret2
    exact ⟨⟨_, _, rfl⟩, HB2.out⟩
  | ok a =>
    rintro e w2 ⟨⟨x, rfl, hx⟩, hb2⟩
    have HB2 := Lib.hid (below_then HB.out (by simp; omega) hb2)
    have hx2 := hok _ w.heap.size _ _ _ (by simp; omega) hx
    obtain ⟨A, q, c, rfl⟩ := hz _ _ _ _ hx
    have HX := Lib.hid hx2
    clear hb2 hx hx2
    go_wp2
    go_ret2
    exact ⟨⟨_, rfl, HX.out⟩, HB2.out⟩

set_option maxRecDepth 20000 in
set_option maxHeartbeats 1000000 in
theorem umx5_no (s t : Bs) (w : World) (he : E2 w) (h2 : 2 < w.heap.size) (hl : s.length ≤ 1000000000) (ht : trim s = t) (h1 : hasW t (word 5) = false) :
    Calls Tryz.prog 40 #[S s] w fun e w' => (∃ u v, e = .returned (.tuple #[.slice none 0 0, .iface u v])) ∧ Below w.heap.size w w' := by
  have htl : t.length ≤ s.length := by rw [← ht]; exact trim_le s
  have htr := trim_any s w (by omega)
  rw [ht] at htr
  clear ht
  go_enter Tryz.func40, Tryz.ntmps40
  go_wp2_with fail
  refine htr.mono ?_
  rintro e w' ⟨rfl, rfl⟩
  clear htr
  go_wp2_with fail
  refine (upper_any t _ (by omega)).mono ?_
  rintro e w1 ⟨rfl, hb1, hu⟩
  have hsz1 := blk_lt hu
  have hv1 := Go.Joins.run_convert_bytes_const_at (P := Tryz.prog) w1 92 5 #[.int .u8 77, .int .u8 85, .int .u8 76, .int .u8 84, .int .u8 73, .int .u8 76, .int .u8 73, .int .u8 78, .int .u8 69, .int .u8 83, .int .u8 84, .int .u8 82, .int .u8 73, .int .u8 78, .int .u8 71] 15 15 (w1.heap.size) (by simp) Tryz.underlying92 Tryz.underlying5
  have hk1 := blk_new_at w1 (.cells #[.int .u8 77, .int .u8 85, .int .u8 76, .int .u8 84, .int .u8 73, .int .u8 76, .int .u8 73, .int .u8 78, .int .u8 69, .int .u8 83, .int .u8 84, .int .u8 82, .int .u8 73, .int .u8 78, .int .u8 71] 5 (15, 16)) (w1.heap.size) (by simp)
  have hu1 := blk_alloc hu (.cells #[.int .u8 77, .int .u8 85, .int .u8 76, .int .u8 84, .int .u8 73, .int .u8 76, .int .u8 73, .int .u8 78, .int .u8 69, .int .u8 83, .int .u8 84, .int .u8 82, .int .u8 73, .int .u8 78, .int .u8 71] 5 (15, 16))
  have hB1 := hb1.alloc (by have := hb1.size; omega) (.cells #[.int .u8 77, .int .u8 85, .int .u8 76, .int .u8 84, .int .u8 73, .int .u8 76, .int .u8 73, .int .u8 78, .int .u8 69, .int .u8 83, .int .u8 84, .int .u8 82, .int .u8 73, .int .u8 78, .int .u8 71] 5 (15, 16))
  have hc1 := hasW_any t 5 _ w.heap.size _ hu1 hk1
  rw [h1] at hc1
  obtain ⟨u, v, he1⟩ := he.below hB1 h2
  have HB := Lib.hid hB1
  clear hk1 hu1 hu hB1 hb1 h1 he
  go_wp2_with fail
  refine hc1.mono ?_
  rintro e w' ⟨rfl, rfl⟩
  clear hc1 hv1
  go_wp2_with fail
  first
  | (go_quiet (fail)
     go_wp2
     go_ret2
     exact ⟨⟨_, _, rfl⟩, pw_below_drewN HB.out _⟩)
  | (go_wp2
     go_ret2
     exact ⟨⟨_, _, rfl⟩, HB.out⟩)

set_option maxRecDepth 20000 in
set_option maxHeartbeats 1000000 in
theorem umx5_yes {α : Type} (s t : Bs) (w : World) {B0 : Nat} (hg : Gl B0 w) (hl : s.length ≤ 1000000000) (ht : trim s = t) (h1 : hasW t (word 5) = true) (r : Rd α) (ok : Nat → α → Value → World → Prop) (hok : ∀ B B' a x w, B' ≤ B → ok B a x w → ok B' a x w)
    (hz : ∀ B a x w, ok B a x w → ∃ A n c, x = .slice A n c)
    (hn : r ≠ .unk) (hR : RdOk 57 (.slice none 0 0) t r B0 ok) :
    Calls Tryz.prog 40 #[S s] w fun e w' => Res (.slice none 0 0) r (fun a x w' => ok w.heap.size a x w') e w' ∧ Below w.heap.size w w' := by
  have htl : t.length ≤ s.length := by rw [← ht]; exact trim_le s
  have htr := trim_any s w (by omega)
  rw [ht] at htr
  clear ht
  go_enter Tryz.func40, Tryz.ntmps40
  go_wp2_with fail
  refine htr.mono ?_
  rintro e w' ⟨rfl, rfl⟩
  clear htr
  go_wp2_with fail
  refine (upper_any t _ (by omega)).mono ?_
  rintro e w1 ⟨rfl, hb1, hu⟩
  have hsz1 := blk_lt hu
  have hv1 := Go.Joins.run_convert_bytes_const_at (P := Tryz.prog) w1 92 5 #[.int .u8 77, .int .u8 85, .int .u8 76, .int .u8 84, .int .u8 73, .int .u8 76, .int .u8 73, .int .u8 78, .int .u8 69, .int .u8 83, .int .u8 84, .int .u8 82, .int .u8 73, .int .u8 78, .int .u8 71] 15 15 (w1.heap.size) (by simp) Tryz.underlying92 Tryz.underlying5
  have hk1 := blk_new_at w1 (.cells #[.int .u8 77, .int .u8 85, .int .u8 76, .int .u8 84, .int .u8 73, .int .u8 76, .int .u8 73, .int .u8 78, .int .u8 69, .int .u8 83, .int .u8 84, .int .u8 82, .int .u8 73, .int .u8 78, .int .u8 71] 5 (15, 16)) (w1.heap.size) (by simp)
  have hu1 := blk_alloc hu (.cells #[.int .u8 77, .int .u8 85, .int .u8 76, .int .u8 84, .int .u8 73, .int .u8 76, .int .u8 73, .int .u8 78, .int .u8 69, .int .u8 83, .int .u8 84, .int .u8 82, .int .u8 73, .int .u8 78, .int .u8 71] 5 (15, 16))
  have hB1 := hb1.alloc (by have := hb1.size; omega) (.cells #[.int .u8 77, .int .u8 85, .int .u8 76, .int .u8 84, .int .u8 73, .int .u8 76, .int .u8 73, .int .u8 78, .int .u8 69, .int .u8 83, .int .u8 84, .int .u8 82, .int .u8 73, .int .u8 78, .int .u8 71] 5 (15, 16))
  have hc1 := hasW_any t 5 _ w.heap.size _ hu1 hk1
  rw [h1] at hc1
  have hg1 := hg.low hB1
  have hcall := hR _ hg1
  have HB := Lib.hid hB1
  clear hk1 hu1 hu hB1 hb1 h1 hg1 hR
  go_wp2_with fail
  refine hc1.mono ?_
  rintro e w' ⟨rfl, rfl⟩
  clear hc1 hv1
  go_wp2_with fail
  refine hcall.mono ?_
  clear hcall
  cases r with
  | unk => exact absurd rfl hn
  | err =>
    rintro e w2 ⟨⟨u, v, rfl⟩, hb2⟩
    have HB2 := Lib.hid (below_then HB.out (by simp; omega) hb2)
    clear hb2
    go_wp2
    go_ret2
    exact ⟨⟨_, _, rfl⟩, HB2.out⟩
  | ok a =>
    rintro e w2 ⟨⟨x, rfl, hx⟩, hb2⟩
    have HB2 := Lib.hid (below_then HB.out (by simp; omega) hb2)
    have hx2 := hok _ w.heap.size _ _ _ (by simp; omega) hx
    obtain ⟨A, q, c, rfl⟩ := hz _ _ _ _ hx
    have HX := Lib.hid hx2
    clear hb2 hx hx2
    go_wp2
    go_ret2
    exact ⟨⟨_, rfl, HX.out⟩, HB2.out⟩

set_option maxRecDepth 20000 in
set_option maxHeartbeats 1000000 in
theorem umx6_no (s t : Bs) (w : World) (he : E2 w) (h2 : 2 < w.heap.size) (hl : s.length ≤ 1000000000) (ht : trim s = t) (h1 : hasW t (word 6) = false) :
    Calls Tryz.prog 41 #[S s] w fun e w' => (∃ u v, e = .returned (.tuple #[.slice none 0 0, .iface u v])) ∧ Below w.heap.size w w' := by
  have htl : t.length ≤ s.length := by rw [← ht]; exact trim_le s
  have htr := trim_any s w (by omega)
  rw [ht] at htr
  clear ht
  go_enter Tryz.func41, Tryz.ntmps41
  go_wp2_with fail
  refine htr.mono ?_
  rintro e w' ⟨rfl, rfl⟩
  clear htr
  go_wp2_with fail
  refine (upper_any t _ (by omega)).mono ?_
  rintro e w1 ⟨rfl, hb1, hu⟩
  have hsz1 := blk_lt hu
  have hv1 := Go.Joins.run_convert_bytes_const_at (P := Tryz.prog) w1 92 5 #[.int .u8 77, .int .u8 85, .int .u8 76, .int .u8 84, .int .u8 73, .int .u8 80, .int .u8 79, .int .u8 76, .int .u8 89, .int .u8 71, .int .u8 79, .int .u8 78] 12 12 (w1.heap.size) (by simp) Tryz.underlying92 Tryz.underlying5
  have hk1 := blk_new_at w1 (.cells #[.int .u8 77, .int .u8 85, .int .u8 76, .int .u8 84, .int .u8 73, .int .u8 80, .int .u8 79, .int .u8 76, .int .u8 89, .int .u8 71, .int .u8 79, .int .u8 78] 5 (12, 13)) (w1.heap.size) (by simp)
  have hu1 := blk_alloc hu (.cells #[.int .u8 77, .int .u8 85, .int .u8 76, .int .u8 84, .int .u8 73, .int .u8 80, .int .u8 79, .int .u8 76, .int .u8 89, .int .u8 71, .int .u8 79, .int .u8 78] 5 (12, 13))
  have hB1 := hb1.alloc (by have := hb1.size; omega) (.cells #[.int .u8 77, .int .u8 85, .int .u8 76, .int .u8 84, .int .u8 73, .int .u8 80, .int .u8 79, .int .u8 76, .int .u8 89, .int .u8 71, .int .u8 79, .int .u8 78] 5 (12, 13))
  have hc1 := hasW_any t 6 _ w.heap.size _ hu1 hk1
  rw [h1] at hc1
  obtain ⟨u, v, he1⟩ := he.below hB1 h2
  have HB := Lib.hid hB1
  clear hk1 hu1 hu hB1 hb1 h1 he
  go_wp2_with fail
  refine hc1.mono ?_
  rintro e w' ⟨rfl, rfl⟩
  clear hc1 hv1
  go_wp2_with fail
  first
  | (go_quiet (fail)
     go_wp2
     go_ret2
     exact ⟨⟨_, _, rfl⟩, pw_below_drewN HB.out _⟩)
  | (go_wp2
     go_ret2
     exact ⟨⟨_, _, rfl⟩, HB.out⟩)

set_option maxRecDepth 20000 in
set_option maxHeartbeats 1000000 in
theorem umx6_yes {α : Type} (s t : Bs) (w : World) {B0 : Nat} (hg : Gl B0 w) (hl : s.length ≤ 1000000000) (ht : trim s = t) (h1 : hasW t (word 6) = true) (r : Rd α) (ok : Nat → α → Value → World → Prop) (hok : ∀ B B' a x w, B' ≤ B → ok B a x w → ok B' a x w)
    (hz : ∀ B a x w, ok B a x w → ∃ A n c, x = .slice A n c)
    (hn : r ≠ .unk) (hR : RdOk 58 (.slice none 0 0) t r B0 ok) :
    Calls Tryz.prog 41 #[S s] w fun e w' => Res (.slice none 0 0) r (fun a x w' => ok w.heap.size a x w') e w' ∧ Below w.heap.size w w' := by
  have htl : t.length ≤ s.length := by rw [← ht]; exact trim_le s
  have htr := trim_any s w (by omega)
  rw [ht] at htr
  clear ht
  go_enter Tryz.func41, Tryz.ntmps41
  go_wp2_with fail
  refine htr.mono ?_
  rintro e w' ⟨rfl, rfl⟩
  clear htr
  go_wp2_with fail
  refine (upper_any t _ (by omega)).mono ?_
  rintro e w1 ⟨rfl, hb1, hu⟩
  have hsz1 := blk_lt hu
  have hv1 := Go.Joins.run_convert_bytes_const_at (P := Tryz.prog) w1 92 5 #[.int .u8 77, .int .u8 85, .int .u8 76, .int .u8 84, .int .u8 73, .int .u8 80, .int .u8 79, .int .u8 76, .int .u8 89, .int .u8 71, .int .u8 79, .int .u8 78] 12 12 (w1.heap.size) (by simp) Tryz.underlying92 Tryz.underlying5
  have hk1 := blk_new_at w1 (.cells #[.int .u8 77, .int .u8 85, .int .u8 76, .int .u8 84, .int .u8 73, .int .u8 80, .int .u8 79, .int .u8 76, .int .u8 89, .int .u8 71, .int .u8 79, .int .u8 78] 5 (12, 13)) (w1.heap.size) (by simp)
  have hu1 := blk_alloc hu (.cells #[.int .u8 77, .int .u8 85, .int .u8 76, .int .u8 84, .int .u8 73, .int .u8 80, .int .u8 79, .int .u8 76, .int .u8 89, .int .u8 71, .int .u8 79, .int .u8 78] 5 (12, 13))
  have hB1 := hb1.alloc (by have := hb1.size; omega) (.cells #[.int .u8 77, .int .u8 85, .int .u8 76, .int .u8 84, .int .u8 73, .int .u8 80, .int .u8 79, .int .u8 76, .int .u8 89, .int .u8 71, .int .u8 79, .int .u8 78] 5 (12, 13))
  have hc1 := hasW_any t 6 _ w.heap.size _ hu1 hk1
  rw [h1] at hc1
  have hg1 := hg.low hB1
  have hcall := hR _ hg1
  have HB := Lib.hid hB1
  clear hk1 hu1 hu hB1 hb1 h1 hg1 hR
  go_wp2_with fail
  refine hc1.mono ?_
  rintro e w' ⟨rfl, rfl⟩
  clear hc1 hv1
  go_wp2_with fail
  refine hcall.mono ?_
  clear hcall
  cases r with
  | unk => exact absurd rfl hn
  | err =>
    rintro e w2 ⟨⟨u, v, rfl⟩, hb2⟩
    have HB2 := Lib.hid (below_then HB.out (by simp; omega) hb2)
    clear hb2
    go_wp2
    go_ret2
    exact ⟨⟨_, _, rfl⟩, HB2.out⟩
  | ok a =>
    rintro e w2 ⟨⟨x, rfl, hx⟩, hb2⟩
    have HB2 := Lib.hid (below_then HB.out (by simp; omega) hb2)
    have hx2 := hok _ w.heap.size _ _ _ (by simp; omega) hx
    obtain ⟨A, q, c, rfl⟩ := hz _ _ _ _ hx
    have HX := Lib.hid hx2
    clear hb2 hx hx2
    go_wp2
    go_ret2
    exact ⟨⟨_, rfl, HX.out⟩, HB2.out⟩

set_option maxRecDepth 20000 in
set_option maxHeartbeats 1000000 in
theorem umx7_no (s t : Bs) (w : World) (he : E2 w) (h2 : 2 < w.heap.size) (hl : s.length ≤ 1000000000) (ht : trim s = t) (h1 : hasW t (word 7) = false) :
    Calls Tryz.prog 42 #[S s] w fun e w' => (∃ u v, e = .returned (.tuple #[.slice none 0 0, .iface u v])) ∧ Below w.heap.size w w' := by
  have htl : t.length ≤ s.length := by rw [← ht]; exact trim_le s
  have htr := trim_any s w (by omega)
  rw [ht] at htr
  clear ht
  go_enter Tryz.func42, Tryz.ntmps42
  go_wp2_with fail
  refine htr.mono ?_
  rintro e w' ⟨rfl, rfl⟩
  clear htr
  go_wp2_with fail
  refine (upper_any t _ (by omega)).mono ?_
  rintro e w1 ⟨rfl, hb1, hu⟩
  have hsz1 := blk_lt hu
  have hv1 := Go.Joins.run_convert_bytes_const_at (P := Tryz.prog) w1 92 5 #[.int .u8 71, .int .u8 69, .int .u8 79, .int .u8 77, .int .u8 69, .int .u8 84, .int .u8 82, .int .u8 89, .int .u8 67, .int .u8 79, .int .u8 76, .int .u8 76, .int .u8 69, .int .u8 67, .int .u8 84, .int .u8 73, .int .u8 79, .int .u8 78] 18 18 (w1.heap.size) (by simp) Tryz.underlying92 Tryz.underlying5
  have hk1 := blk_new_at w1 (.cells #[.int .u8 71, .int .u8 69, .int .u8 79, .int .u8 77, .int .u8 69, .int .u8 84, .int .u8 82, .int .u8 89, .int .u8 67, .int .u8 79, .int .u8 76, .int .u8 76, .int .u8 69, .int .u8 67, .int .u8 84, .int .u8 73, .int .u8 79, .int .u8 78] 5 (18, 19)) (w1.heap.size) (by simp)
  have hu1 := blk_alloc hu (.cells #[.int .u8 71, .int .u8 69, .int .u8 79, .int .u8 77, .int .u8 69, .int .u8 84, .int .u8 82, .int .u8 89, .int .u8 67, .int .u8 79, .int .u8 76, .int .u8 76, .int .u8 69, .int .u8 67, .int .u8 84, .int .u8 73, .int .u8 79, .int .u8 78] 5 (18, 19))
  have hB1 := hb1.alloc (by have := hb1.size; omega) (.cells #[.int .u8 71, .int .u8 69, .int .u8 79, .int .u8 77, .int .u8 69, .int .u8 84, .int .u8 82, .int .u8 89, .int .u8 67, .int .u8 79, .int .u8 76, .int .u8 76, .int .u8 69, .int .u8 67, .int .u8 84, .int .u8 73, .int .u8 79, .int .u8 78] 5 (18, 19))
  have hc1 := hasW_any t 7 _ w.heap.size _ hu1 hk1
  rw [h1] at hc1
  obtain ⟨u, v, he1⟩ := he.below hB1 h2
  have HB := Lib.hid hB1
  clear hk1 hu1 hu hB1 hb1 h1 he
  go_wp2_with fail
  refine hc1.mono ?_
  rintro e w' ⟨rfl, rfl⟩
  clear hc1 hv1
  go_wp2_with fail
  first
  | (go_quiet (fail)
     go_wp2
     go_ret2
     exact ⟨⟨_, _, rfl⟩, pw_below_drewN HB.out _⟩)
  | (go_wp2
     go_ret2
     exact ⟨⟨_, _, rfl⟩, HB.out⟩)

set_option maxRecDepth 20000 in
set_option maxHeartbeats 1000000 in
theorem umx7_yes {α : Type} (s t : Bs) (w : World) {B0 : Nat} (hg : Gl B0 w) (hl : s.length ≤ 1000000000) (ht : trim s = t) (h1 : hasW t (word 7) = true) (r : Rd α) (ok : Nat → α → Value → World → Prop) (hok : ∀ B B' a x w, B' ≤ B → ok B a x w → ok B' a x w)
    (hz : ∀ B a x w, ok B a x w → ∃ A n c, x = .slice A n c)
    (hn : r ≠ .unk) (hR : RdOk 59 (.slice none 0 0) t r B0 ok) :
    Calls Tryz.prog 42 #[S s] w fun e w' => Res (.slice none 0 0) r (fun a x w' => ok w.heap.size a x w') e w' ∧ Below w.heap.size w w' := by
  have htl : t.length ≤ s.length := by rw [← ht]; exact trim_le s
  have htr := trim_any s w (by omega)
  rw [ht] at htr
  clear ht
  go_enter Tryz.func42, Tryz.ntmps42
  go_wp2_with fail
  refine htr.mono ?_
  rintro e w' ⟨rfl, rfl⟩
  clear htr
  go_wp2_with fail
  refine (upper_any t _ (by omega)).mono ?_
  rintro e w1 ⟨rfl, hb1, hu⟩
  have hsz1 := blk_lt hu
  have hv1 := Go.Joins.run_convert_bytes_const_at (P := Tryz.prog) w1 92 5 #[.int .u8 71, .int .u8 69, .int .u8 79, .int .u8 77, .int .u8 69, .int .u8 84, .int .u8 82, .int .u8 89, .int .u8 67, .int .u8 79, .int .u8 76, .int .u8 76, .int .u8 69, .int .u8 67, .int .u8 84, .int .u8 73, .int .u8 79, .int .u8 78] 18 18 (w1.heap.size) (by simp) Tryz.underlying92 Tryz.underlying5
  have hk1 := blk_new_at w1 (.cells #[.int .u8 71, .int .u8 69, .int .u8 79, .int .u8 77, .int .u8 69, .int .u8 84, .int .u8 82, .int .u8 89, .int .u8 67, .int .u8 79, .int .u8 76, .int .u8 76, .int .u8 69, .int .u8 67, .int .u8 84, .int .u8 73, .int .u8 79, .int .u8 78] 5 (18, 19)) (w1.heap.size) (by simp)
  have hu1 := blk_alloc hu (.cells #[.int .u8 71, .int .u8 69, .int .u8 79, .int .u8 77, .int .u8 69, .int .u8 84, .int .u8 82, .int .u8 89, .int .u8 67, .int .u8 79, .int .u8 76, .int .u8 76, .int .u8 69, .int .u8 67, .int .u8 84, .int .u8 73, .int .u8 79, .int .u8 78] 5 (18, 19))
  have hB1 := hb1.alloc (by have := hb1.size; omega) (.cells #[.int .u8 71, .int .u8 69, .int .u8 79, .int .u8 77, .int .u8 69, .int .u8 84, .int .u8 82, .int .u8 89, .int .u8 67, .int .u8 79, .int .u8 76, .int .u8 76, .int .u8 69, .int .u8 67, .int .u8 84, .int .u8 73, .int .u8 79, .int .u8 78] 5 (18, 19))
  have hc1 := hasW_any t 7 _ w.heap.size _ hu1 hk1
  rw [h1] at hc1
  have hg1 := hg.low hB1
  have hcall := hR _ hg1
  have HB := Lib.hid hB1
  clear hk1 hu1 hu hB1 hb1 h1 hg1 hR
  go_wp2_with fail
  refine hc1.mono ?_
  rintro e w' ⟨rfl, rfl⟩
  clear hc1 hv1
  go_wp2_with fail
  refine hcall.mono ?_
  clear hcall
  cases r with
  | unk => exact absurd rfl hn
  | err =>
    rintro e w2 ⟨⟨u, v, rfl⟩, hb2⟩
    have HB2 := Lib.hid (below_then HB.out (by simp; omega) hb2)
    clear hb2
    go_wp2
    go_ret2
    exact ⟨⟨_, _, rfl⟩, HB2.out⟩
  | ok a =>
    rintro e w2 ⟨⟨x, rfl, hx⟩, hb2⟩
    have HB2 := Lib.hid (below_then HB.out (by simp; omega) hb2)
    have hx2 := hok _ w.heap.size _ _ _ (by simp; omega) hx
    obtain ⟨A, q, c, rfl⟩ := hz _ _ _ _ hx
    have HX := Lib.hid hx2
    clear hb2 hx hx2
    go_wp2
    go_ret2
    exact ⟨⟨_, rfl, HX.out⟩, HB2.out⟩
end Go.Proofs.YtghajgdiaopioaaGreatDoor
end
