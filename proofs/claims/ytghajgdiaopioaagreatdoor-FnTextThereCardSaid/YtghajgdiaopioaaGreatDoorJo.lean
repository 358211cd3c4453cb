/- Walks and plain laws joined (Wr). Conditions: stand in each law. -/
import Derived.Test.YtghajgdiaopioaaGreatDoorJn
import Derived.Lib.SmallJoins
set_option linter.unusedVariables false
set_option linter.unusedSimpArgs false
section
/- Walks: Unmarshal. Conditions: stand in each contract. -/
namespace Go.Proofs.YtghajgdiaopioaaGreatDoor
open Go.RowKit Go.Proofs Tx
open Go.Proofs.YtghajgdiaopioaaGreatDoorW.PrintWords
theorem blk_new_at (w : World) (o : Obj) (n : Nat) (hn : n = w.heap.size) : (w.alloc o).heap[n]? = some o := by subst hn; exact blk_new w o
theorem hasW_len {s w : Bs} (h : hasW s w = true) : w.length ≤ s.length := by
  unfold hasW at h
  have := congrArg List.length (beq_iff_eq.1 h)
  simp at this
  omega
/-- What a reader of one kind answers, as Unmarshal takes it. -/
def RdOk {α : Type} (f : Nat) (z : Value) (t : Bs) (r : Rd α) (B0 : Nat) (ok : Nat → α → Value → World → Prop) : Prop :=
  ∀ w, Gl B0 w → Calls Tryz.prog f #[S t] w fun e w' => Res z r (fun a x w' => ok w.heap.size a x w') e w' ∧ Below w.heap.size w w'

set_option maxRecDepth 20000 in
set_option maxHeartbeats 1000000 in
theorem unm1 {α : Type} (s t : Bs) (w : World) {B0 : Nat} (hg : Gl B0 w) (hl : s.length ≤ 1000000000) (ht : trim s = t) (h1 : hasW t (word 1) = true) (r : Rd α) (ok : Nat → α → Value → World → Prop) (hok : ∀ B B' a x w, B' ≤ B → ok B a x w → ok B' a x w)
    (hz : ∀ B a x w, ok B a x w → ∃ p, x = ptV p)
    (hn : r ≠ .unk) (hR : RdOk 53 (ptV (0, 0)) t r B0 ok) :
    Calls Tryz.prog 32 #[S s] w fun e w' => Res .nilIface r (fun a x w' => ∃ y, x = .iface 61 y ∧ ok w.heap.size a y w') e w' ∧ Below w.heap.size w w' := by
  have htl : t.length ≤ s.length := by rw [← ht]; exact trim_le s
  have htr := trim_any s w (by omega)
  rw [ht] at htr
  clear ht
  go_enter Tryz.func32, Tryz.ntmps32
  go_wp2_with fail
  refine htr.mono ?_
  rintro e w' ⟨rfl, rfl⟩
  clear htr
  go_wp2_with fail
  refine (upper_any t _ (by omega)).mono ?_
  rintro e w1 ⟨rfl, hb1, hu⟩
  have hsz1 : w.heap.size < w1.heap.size := blk_lt hu
  have hv1 := Go.Joins.run_convert_bytes_const_at (P := Tryz.prog) w1 92 5 #[.int .u8 80, .int .u8 79, .int .u8 73, .int .u8 78, .int .u8 84] 5 5 (w1.heap.size) (by simp) Tryz.underlying92 Tryz.underlying5
  have hk1 := blk_new_at w1 (.cells #[.int .u8 80, .int .u8 79, .int .u8 73, .int .u8 78, .int .u8 84] 5 (5, 6)) (w1.heap.size) (by simp)
  have hu1 := blk_alloc hu (.cells #[.int .u8 80, .int .u8 79, .int .u8 73, .int .u8 78, .int .u8 84] 5 (5, 6))
  have hB1 := hb1.alloc (by have := hb1.size; omega) (.cells #[.int .u8 80, .int .u8 79, .int .u8 73, .int .u8 78, .int .u8 84] 5 (5, 6))
  have hc1 := hasW_any t 1 _ w.heap.size _ hu1 hk1
  rw [h1] at hc1
  have hg1 := hg.low hB1
  have hcall := hR _ hg1
  have HB := Lib.hid hB1
  clear hk1 hu1 hu hB1 hb1 h1 hg1 hR
  go_wp2_with fail
  refine hc1.mono ?_
  rintro e w' ⟨rfl, rfl⟩
  clear hc1 hv1
  go_wp2_with fail
  refine hcall.mono ?_
  clear hcall
  cases r with
  | unk => exact absurd rfl hn
  | err =>
    rintro e w2 ⟨⟨u, v, rfl⟩, hb2⟩
    have HB2 := Lib.hid (below_then HB.out (by simp; omega) hb2)
    clear hb2
    unfold ptV
    go_wp2
    go_ret2
    exact ⟨⟨_, _, rfl⟩, HB2.out⟩
  | ok a =>
    rintro e w2 ⟨⟨x, rfl, hx⟩, hb2⟩
    have HB2 := Lib.hid (below_then HB.out (by simp; omega) hb2)
    have hx2 := hok _ w.heap.size _ _ _ (by simp; omega) hx
    obtain ⟨p, rfl⟩ := hz _ _ _ _ hx
    have HX := Lib.hid hx2
    clear hb2 hx hx2
    unfold ptV
    go_wp2
    go_ret2
    exact ⟨⟨_, rfl, _, rfl, HX.out⟩, HB2.out⟩

set_option maxRecDepth 20000 in
set_option maxHeartbeats 1000000 in
theorem unm2 {α : Type} (s t : Bs) (w : World) {B0 : Nat} (hg : Gl B0 w) (hl : s.length ≤ 1000000000) (ht : trim s = t) (h1 : hasW t (word 1) = false) (h2 : hasW t (word 2) = true) (r : Rd α) (ok : Nat → α → Value → World → Prop) (hok : ∀ B B' a x w, B' ≤ B → ok B a x w → ok B' a x w)
    (hz : ∀ B a x w, ok B a x w → ∃ A n c, x = .slice A n c)
    (hn : r ≠ .unk) (hR : RdOk 54 (.slice none 0 0) t r B0 ok) :
    Calls Tryz.prog 32 #[S s] w fun e w' => Res .nilIface r (fun a x w' => ∃ y, x = .iface 65 y ∧ ok w.heap.size a y w') e w' ∧ Below w.heap.size w w' := by
  have htl : t.length ≤ s.length := by rw [← ht]; exact trim_le s
  have htr := trim_any s w (by omega)
  rw [ht] at htr
  clear ht
  go_enter Tryz.func32, Tryz.ntmps32
  go_wp2_with fail
  refine htr.mono ?_
  rintro e w' ⟨rfl, rfl⟩
  clear htr
  go_wp2_with fail
  refine (upper_any t _ (by omega)).mono ?_
  rintro e w1 ⟨rfl, hb1, hu⟩
  have hsz1 : w.heap.size < w1.heap.size := blk_lt hu
  have hv1 := Go.Joins.run_convert_bytes_const_at (P := Tryz.prog) w1 92 5 #[.int .u8 80, .int .u8 79, .int .u8 73, .int .u8 78, .int .u8 84] 5 5 (w1.heap.size) (by simp) Tryz.underlying92 Tryz.underlying5
  have hk1 := blk_new_at w1 (.cells #[.int .u8 80, .int .u8 79, .int .u8 73, .int .u8 78, .int .u8 84] 5 (5, 6)) (w1.heap.size) (by simp)
  have hu1 := blk_alloc hu (.cells #[.int .u8 80, .int .u8 79, .int .u8 73, .int .u8 78, .int .u8 84] 5 (5, 6))
  have hB1 := hb1.alloc (by have := hb1.size; omega) (.cells #[.int .u8 80, .int .u8 79, .int .u8 73, .int .u8 78, .int .u8 84] 5 (5, 6))
  have hc1 := hasW_any t 1 _ w.heap.size _ hu1 hk1
  rw [h1] at hc1
  have hv2 := Go.Joins.run_convert_bytes_const_at (P := Tryz.prog) (w1.alloc (.cells #[.int .u8 80, .int .u8 79, .int .u8 73, .int .u8 78, .int .u8 84] 5 (5, 6))) 92 5 #[.int .u8 76, .int .u8 73, .int .u8 78, .int .u8 69, .int .u8 83, .int .u8 84, .int .u8 82, .int .u8 73, .int .u8 78, .int .u8 71] 10 10 (w1.heap.size + 1) (by simp) Tryz.underlying92 Tryz.underlying5
  have hk2 := blk_new_at (w1.alloc (.cells #[.int .u8 80, .int .u8 79, .int .u8 73, .int .u8 78, .int .u8 84] 5 (5, 6))) (.cells #[.int .u8 76, .int .u8 73, .int .u8 78, .int .u8 69, .int .u8 83, .int .u8 84, .int .u8 82, .int .u8 73, .int .u8 78, .int .u8 71] 5 (10, 11)) (w1.heap.size + 1) (by simp)
  have hu2 := blk_alloc hu1 (.cells #[.int .u8 76, .int .u8 73, .int .u8 78, .int .u8 69, .int .u8 83, .int .u8 84, .int .u8 82, .int .u8 73, .int .u8 78, .int .u8 71] 5 (10, 11))
  have hB2 := hB1.alloc (by simp; omega) (.cells #[.int .u8 76, .int .u8 73, .int .u8 78, .int .u8 69, .int .u8 83, .int .u8 84, .int .u8 82, .int .u8 73, .int .u8 78, .int .u8 71] 5 (10, 11))
  have hc2 := hasW_any t 2 _ w.heap.size _ hu2 hk2
  rw [h2] at hc2
  have hg1 := hg.low hB2
  have hcall := hR _ hg1
  have HB := Lib.hid hB2
  clear hk1 hu1 hk2 hu2 hu hB1 hB2 hb1 h1 h2 hg1 hR
  go_wp2_with fail
  refine hc1.mono ?_
  rintro e w' ⟨rfl, rfl⟩
  clear hc1 hv1
  go_wp2_with fail
  refine hc2.mono ?_
  rintro e w' ⟨rfl, rfl⟩
  clear hc2 hv2
  go_wp2_with fail
  refine hcall.mono ?_
  clear hcall
  cases r with
  | unk => exact absurd rfl hn
  | err =>
    rintro e w2 ⟨⟨u, v, rfl⟩, hb2⟩
    have HB2 := Lib.hid (below_then HB.out (by simp; omega) hb2)
    clear hb2
    
    go_wp2
    go_ret2
    exact ⟨⟨_, _, rfl⟩, HB2.out⟩
  | ok a =>
    rintro e w2 ⟨⟨x, rfl, hx⟩, hb2⟩
    have HB2 := Lib.hid (below_then HB.out (by simp; omega) hb2)
    have hx2 := hok _ w.heap.size _ _ _ (by simp; omega) hx
    obtain ⟨A, q, c, rfl⟩ := hz _ _ _ _ hx
    have HX := Lib.hid hx2
    clear hb2 hx hx2
    
    go_wp2
    go_ret2
    exact ⟨⟨_, rfl, _, rfl, HX.out⟩, HB2.out⟩

set_option maxRecDepth 20000 in
set_option maxHeartbeats 1000000 in
theorem unm3 {α : Type} (s t : Bs) (w : World) {B0 : Nat} (hg : Gl B0 w) (hl : s.length ≤ 1000000000) (ht : trim s = t) (h1 : hasW t (word 1) = false) (h2 : hasW t (word 2) = false) (h3 : hasW t (word 3) = true) (r : Rd α) (ok : Nat → α → Value → World → Prop) (hok : ∀ B B' a x w, B' ≤ B → ok B a x w → ok B' a x w)
    (hz : ∀ B a x w, ok B a x w → ∃ A n c, x = .slice A n c)
    (hn : r ≠ .unk) (hR : RdOk 55 (.slice none 0 0) t r B0 ok) :
    Calls Tryz.prog 32 #[S s] w fun e w' => Res .nilIface r (fun a x w' => ∃ y, x = .iface 69 y ∧ ok w.heap.size a y w') e w' ∧ Below w.heap.size w w' := by
  have htl : t.length ≤ s.length := by rw [← ht]; exact trim_le s
  have htr := trim_any s w (by omega)
  rw [ht] at htr
  clear ht
  go_enter Tryz.func32, Tryz.ntmps32
  go_wp2_with fail
  refine htr.mono ?_
  rintro e w' ⟨rfl, rfl⟩
  clear htr
  go_wp2_with fail
  refine (upper_any t _ (by omega)).mono ?_
  rintro e w1 ⟨rfl, hb1, hu⟩
  have hsz1 : w.heap.size < w1.heap.size := blk_lt hu
  have hv1 := Go.Joins.run_convert_bytes_const_at (P := Tryz.prog) w1 92 5 #[.int .u8 80, .int .u8 79, .int .u8 73, .int .u8 78, .int .u8 84] 5 5 (w1.heap.size) (by simp) Tryz.underlying92 Tryz.underlying5
  have hk1 := blk_new_at w1 (.cells #[.int .u8 80, .int .u8 79, .int .u8 73, .int .u8 78, .int .u8 84] 5 (5, 6)) (w1.heap.size) (by simp)
  have hu1 := blk_alloc hu (.cells #[.int .u8 80, .int .u8 79, .int .u8 73, .int .u8 78, .int .u8 84] 5 (5, 6))
  have hB1 := hb1.alloc (by have := hb1.size; omega) (.cells #[.int .u8 80, .int .u8 79, .int .u8 73, .int .u8 78, .int .u8 84] 5 (5, 6))
  have hc1 := hasW_any t 1 _ w.heap.size _ hu1 hk1
  rw [h1] at hc1
  have hv2 := Go.Joins.run_convert_bytes_const_at (P := Tryz.prog) (w1.alloc (.cells #[.int .u8 80, .int .u8 79, .int .u8 73, .int .u8 78, .int .u8 84] 5 (5, 6))) 92 5 #[.int .u8 76, .int .u8 73, .int .u8 78, .int .u8 69, .int .u8 83, .int .u8 84, .int .u8 82, .int .u8 73, .int .u8 78, .int .u8 71] 10 10 (w1.heap.size + 1) (by simp) Tryz.underlying92 Tryz.underlying5
  have hk2 := blk_new_at (w1.alloc (.cells #[.int .u8 80, .int .u8 79, .int .u8 73, .int .u8 78, .int .u8 84] 5 (5, 6))) (.cells #[.int .u8 76, .int .u8 73, .int .u8 78, .int .u8 69, .int .u8 83, .int .u8 84, .int .u8 82, .int .u8 73, .int .u8 78, .int .u8 71] 5 (10, 11)) (w1.heap.size + 1) (by simp)
  have hu2 := blk_alloc hu1 (.cells #[.int .u8 76, .int .u8 73, .int .u8 78, .int .u8 69, .int .u8 83, .int .u8 84, .int .u8 82, .int .u8 73, .int .u8 78, .int .u8 71] 5 (10, 11))
  have hB2 := hB1.alloc (by simp; omega) (.cells #[.int .u8 76, .int .u8 73, .int .u8 78, .int .u8 69, .int .u8 83, .int .u8 84, .int .u8 82, .int .u8 73, .int .u8 78, .int .u8 71] 5 (10, 11))
  have hc2 := hasW_any t 2 _ w.heap.size _ hu2 hk2
  rw [h2] at hc2
  have hv3 := Go.Joins.run_convert_bytes_const_at (P := Tryz.prog) ((w1.alloc (.cells #[.int .u8 80, .int .u8 79, .int .u8 73, .int .u8 78, .int .u8 84] 5 (5, 6))).alloc (.cells #[.int .u8 76, .int .u8 73, .int .u8 78, .int .u8 69, .int .u8 83, .int .u8 84, .int .u8 82, .int .u8 73, .int .u8 78, .int .u8 71] 5 (10, 11))) 92 5 #[.int .u8 80, .int .u8 79, .int .u8 76, .int .u8 89, .int .u8 71, .int .u8 79, .int .u8 78] 7 7 (w1.heap.size + 2) (by simp) Tryz.underlying92 Tryz.underlying5
  have hk3 := blk_new_at ((w1.alloc (.cells #[.int .u8 80, .int .u8 79, .int .u8 73, .int .u8 78, .int .u8 84] 5 (5, 6))).alloc (.cells #[.int .u8 76, .int .u8 73, .int .u8 78, .int .u8 69, .int .u8 83, .int .u8 84, .int .u8 82, .int .u8 73, .int .u8 78, .int .u8 71] 5 (10, 11))) (.cells #[.int .u8 80, .int .u8 79, .int .u8 76, .int .u8 89, .int .u8 71, .int .u8 79, .int .u8 78] 5 (7, 8)) (w1.heap.size + 2) (by simp)
  have hu3 := blk_alloc hu2 (.cells #[.int .u8 80, .int .u8 79, .int .u8 76, .int .u8 89, .int .u8 71, .int .u8 79, .int .u8 78] 5 (7, 8))
  have hB3 := hB2.alloc (by simp; omega) (.cells #[.int .u8 80, .int .u8 79, .int .u8 76, .int .u8 89, .int .u8 71, .int .u8 79, .int .u8 78] 5 (7, 8))
  have hc3 := hasW_any t 3 _ w.heap.size _ hu3 hk3
  rw [h3] at hc3
  have hg1 := hg.low hB3
  have hcall := hR _ hg1
  have HB := Lib.hid hB3
  clear hk1 hu1 hk2 hu2 hk3 hu3 hu hB1 hB2 hB3 hb1 h1 h2 h3 hg1 hR
  go_wp2_with fail
  refine hc1.mono ?_
  rintro e w' ⟨rfl, rfl⟩
  clear hc1 hv1
  go_wp2_with fail
  refine hc2.mono ?_
  rintro e w' ⟨rfl, rfl⟩
  clear hc2 hv2
  go_wp2_with fail
  refine hc3.mono ?_
  rintro e w' ⟨rfl, rfl⟩
  clear hc3 hv3
  go_wp2_with fail
  refine hcall.mono ?_
  clear hcall
  cases r with
  | unk => exact absurd rfl hn
  | err =>
    rintro e w2 ⟨⟨u, v, rfl⟩, hb2⟩
    have HB2 := Lib.hid (below_then HB.out (by simp; omega) hb2)
    clear hb2
    
    go_wp2
    go_ret2
    exact ⟨⟨_, _, rfl⟩, HB2.out⟩
  | ok a =>
    rintro e w2 ⟨⟨x, rfl, hx⟩, hb2⟩
    have HB2 := Lib.hid (below_then HB.out (by simp; omega) hb2)
    have hx2 := hok _ w.heap.size _ _ _ (by simp; omega) hx
    obtain ⟨A, q, c, rfl⟩ := hz _ _ _ _ hx
    have HX := Lib.hid hx2
    clear hb2 hx hx2
    
    go_wp2
    go_ret2
    exact ⟨⟨_, rfl, _, rfl, HX.out⟩, HB2.out⟩

set_option maxRecDepth 20000 in
set_option maxHeartbeats 1000000 in
theorem unm4 {α : Type} (s t : Bs) (w : World) {B0 : Nat} (hg : Gl B0 w) (hl : s.length ≤ 1000000000) (ht : trim s = t) (h1 : hasW t (word 1) = false) (h2 : hasW t (word 2) = false) (h3 : hasW t (word 3) = false) (h4 : hasW t (word 4) = true) (r : Rd α) (ok : Nat → α → Value → World → Prop) (hok : ∀ B B' a x w, B' ≤ B → ok B a x w → ok B' a x w)
    (hz : ∀ B a x w, ok B a x w → ∃ A n c, x = .slice A n c)
    (hn : r ≠ .unk) (hR : RdOk 56 (.slice none 0 0) t r B0 ok) :
    Calls Tryz.prog 32 #[S s] w fun e w' => Res .nilIface r (fun a x w' => ∃ y, x = .iface 72 y ∧ ok w.heap.size a y w') e w' ∧ Below w.heap.size w w' := by
  have htl : t.length ≤ s.length := by rw [← ht]; exact trim_le s
  have htr := trim_any s w (by omega)
  rw [ht] at htr
  clear ht
  go_enter Tryz.func32, Tryz.ntmps32
  go_wp2_with fail
  refine htr.mono ?_
  rintro e w' ⟨rfl, rfl⟩
  clear htr
  go_wp2_with fail
  refine (upper_any t _ (by omega)).mono ?_
  rintro e w1 ⟨rfl, hb1, hu⟩
  have hsz1 : w.heap.size < w1.heap.size := blk_lt hu
  have hv1 := Go.Joins.run_convert_bytes_const_at (P := Tryz.prog) w1 92 5 #[.int .u8 80, .int .u8 79, .int .u8 73, .int .u8 78, .int .u8 84] 5 5 (w1.heap.size) (by simp) Tryz.underlying92 Tryz.underlying5
  have hk1 := blk_new_at w1 (.cells #[.int .u8 80, .int .u8 79, .int .u8 73, .int .u8 78, .int .u8 84] 5 (5, 6)) (w1.heap.size) (by simp)
  have hu1 := blk_alloc hu (.cells #[.int .u8 80, .int .u8 79, .int .u8 73, .int .u8 78, .int .u8 84] 5 (5, 6))
  have hB1 := hb1.alloc (by have := hb1.size; omega) (.cells #[.int .u8 80, .int .u8 79, .int .u8 73, .int .u8 78, .int .u8 84] 5 (5, 6))
  have hc1 := hasW_any t 1 _ w.heap.size _ hu1 hk1
  rw [h1] at hc1
  have hv2 := Go.Joins.run_convert_bytes_const_at (P := Tryz.prog) (w1.alloc (.cells #[.int .u8 80, .int .u8 79, .int .u8 73, .int .u8 78, .int .u8 84] 5 (5, 6))) 92 5 #[.int .u8 76, .int .u8 73, .int .u8 78, .int .u8 69, .int .u8 83, .int .u8 84, .int .u8 82, .int .u8 73, .int .u8 78, .int .u8 71] 10 10 (w1.heap.size + 1) (by simp) Tryz.underlying92 Tryz.underlying5
  have hk2 := blk_new_at (w1.alloc (.cells #[.int .u8 80, .int .u8 79, .int .u8 73, .int .u8 78, .int .u8 84] 5 (5, 6))) (.cells #[.int .u8 76, .int .u8 73, .int .u8 78, .int .u8 69, .int .u8 83, .int .u8 84, .int .u8 82, .int .u8 73, .int .u8 78, .int .u8 71] 5 (10, 11)) (w1.heap.size + 1) (by simp)
  have hu2 := blk_alloc hu1 (.cells #[.int .u8 76, .int .u8 73, .int .u8 78, .int .u8 69, .int .u8 83, .int .u8 84, .int .u8 82, .int .u8 73, .int .u8 78, .int .u8 71] 5 (10, 11))
  have hB2 := hB1.alloc (by simp; omega) (.cells #[.int .u8 76, .int .u8 73, .int .u8 78, .int .u8 69, .int .u8 83, .int .u8 84, .int .u8 82, .int .u8 73, .int .u8 78, .int .u8 71] 5 (10, 11))
  have hc2 := hasW_any t 2 _ w.heap.size _ hu2 hk2
  rw [h2] at hc2
  have hv3 := Go.Joins.run_convert_bytes_const_at (P := Tryz.prog) ((w1.alloc (.cells #[.int .u8 80, .int .u8 79, .int .u8 73, .int .u8 78, .int .u8 84] 5 (5, 6))).alloc (.cells #[.int .u8 76, .int .u8 73, .int .u8 78, .int .u8 69, .int .u8 83, .int .u8 84, .int .u8 82, .int .u8 73, .int .u8 78, .int .u8 71] 5 (10, 11))) 92 5 #[.int .u8 80, .int .u8 79, .int .u8 76, .int .u8 89, .int .u8 71, .int .u8 79, .int .u8 78] 7 7 (w1.heap.size + 2) (by simp) Tryz.underlying92 Tryz.underlying5
  have hk3 := blk_new_at ((w1.alloc (.cells #[.int .u8 80, .int .u8 79, .int .u8 73, .int .u8 78, .int .u8 84] 5 (5, 6))).alloc (.cells #[.int .u8 76, .int .u8 73, .int .u8 78, .int .u8 69, .int .u8 83, .int .u8 84, .int .u8 82, .int .u8 73, .int .u8 78, .int .u8 71] 5 (10, 11))) (.cells #[.int .u8 80, .int .u8 79, .int .u8 76, .int .u8 89, .int .u8 71, .int .u8 79, .int .u8 78] 5 (7, 8)) (w1.heap.size + 2) (by simp)
  have hu3 := blk_alloc hu2 (.cells #[.int .u8 80, .int .u8 79, .int .u8 76, .int .u8 89, .int .u8 71, .int .u8 79, .int .u8 78] 5 (7, 8))
  have hB3 := hB2.alloc (by simp; omega) (.cells #[.int .u8 80, .int .u8 79, .int .u8 76, .int .u8 89, .int .u8 71, .int .u8 79, .int .u8 78] 5 (7, 8))
  have hc3 := hasW_any t 3 _ w.heap.size _ hu3 hk3
  rw [h3] at hc3
  have hv4 := Go.Joins.run_convert_bytes_const_at (P := Tryz.prog) (((w1.alloc (.cells #[.int .u8 80, .int .u8 79, .int .u8 73, .int .u8 78, .int .u8 84] 5 (5, 6))).alloc (.cells #[.int .u8 76, .int .u8 73, .int .u8 78, .int .u8 69, .int .u8 83, .int .u8 84, .int .u8 82, .int .u8 73, .int .u8 78, .int .u8 71] 5 (10, 11))).alloc (.cells #[.int .u8 80, .int .u8 79, .int .u8 76, .int .u8 89, .int .u8 71, .int .u8 79, .int .u8 78] 5 (7, 8))) 92 5 #[.int .u8 77, .int .u8 85, .int .u8 76, .int .u8 84, .int .u8 73, .int .u8 80, .int .u8 79, .int .u8 73, .int .u8 78, .int .u8 84] 10 10 (w1.heap.size + 3) (by simp) Tryz.underlying92 Tryz.underlying5
  have hk4 := blk_new_at (((w1.alloc (.cells #[.int .u8 80, .int .u8 79, .int .u8 73, .int .u8 78, .int .u8 84] 5 (5, 6))).alloc (.cells #[.int .u8 76, .int .u8 73, .int .u8 78, .int .u8 69, .int .u8 83, .int .u8 84, .int .u8 82, .int .u8 73, .int .u8 78, .int .u8 71] 5 (10, 11))).alloc (.cells #[.int .u8 80, .int .u8 79, .int .u8 76, .int .u8 89, .int .u8 71, .int .u8 79, .int .u8 78] 5 (7, 8))) (.cells #[.int .u8 77, .int .u8 85, .int .u8 76, .int .u8 84, .int .u8 73, .int .u8 80, .int .u8 79, .int .u8 73, .int .u8 78, .int .u8 84] 5 (10, 11)) (w1.heap.size + 3) (by simp)
  have hu4 := blk_alloc hu3 (.cells #[.int .u8 77, .int .u8 85, .int .u8 76, .int .u8 84, .int .u8 73, .int .u8 80, .int .u8 79, .int .u8 73, .int .u8 78, .int .u8 84] 5 (10, 11))
  have hB4 := hB3.alloc (by simp; omega) (.cells #[.int .u8 77, .int .u8 85, .int .u8 76, .int .u8 84, .int .u8 73, .int .u8 80, .int .u8 79, .int .u8 73, .int .u8 78, .int .u8 84] 5 (10, 11))
  have hc4 := hasW_any t 4 _ w.heap.size _ hu4 hk4
  rw [h4] at hc4
  have hg1 := hg.low hB4
  have hcall := hR _ hg1
  have HB := Lib.hid hB4
  clear hk1 hu1 hk2 hu2 hk3 hu3 hk4 hu4 hu hB1 hB2 hB3 hB4 hb1 h1 h2 h3 h4 hg1 hR
  go_wp2_with fail
  refine hc1.mono ?_
  rintro e w' ⟨rfl, rfl⟩
  clear hc1 hv1
  go_wp2_with fail
  refine hc2.mono ?_
  rintro e w' ⟨rfl, rfl⟩
  clear hc2 hv2
  go_wp2_with fail
  refine hc3.mono ?_
  rintro e w' ⟨rfl, rfl⟩
  clear hc3 hv3
  go_wp2_with fail
  refine hc4.mono ?_
  rintro e w' ⟨rfl, rfl⟩
  clear hc4 hv4
  go_wp2_with fail
  refine hcall.mono ?_
  clear hcall
  cases r with
  | unk => exact absurd rfl hn
  | err =>
    rintro e w2 ⟨⟨u, v, rfl⟩, hb2⟩
    have HB2 := Lib.hid (below_then HB.out (by simp; omega) hb2)
    clear hb2
    
    go_wp2
    go_ret2
    exact ⟨⟨_, _, rfl⟩, HB2.out⟩
  | ok a =>
    rintro e w2 ⟨⟨x, rfl, hx⟩, hb2⟩
    have HB2 := Lib.hid (below_then HB.out (by simp; omega) hb2)
    have hx2 := hok _ w.heap.size _ _ _ (by simp; omega) hx
    obtain ⟨A, q, c, rfl⟩ := hz _ _ _ _ hx
    have HX := Lib.hid hx2
    clear hb2 hx hx2
    
    go_wp2
    go_ret2
    exact ⟨⟨_, rfl, _, rfl, HX.out⟩, HB2.out⟩

set_option maxRecDepth 20000 in
set_option maxHeartbeats 1000000 in
theorem unm5 {α : Type} (s t : Bs) (w : World) {B0 : Nat} (hg : Gl B0 w) (hl : s.length ≤ 1000000000) (ht : trim s = t) (h1 : hasW t (word 1) = false) (h2 : hasW t (word 2) = false) (h3 : hasW t (word 3) = false) (h4 : hasW t (word 4) = false) (h5 : hasW t (word 5) = true) (r : Rd α) (ok : Nat → α → Value → World → Prop) (hok : ∀ B B' a x w, B' ≤ B → ok B a x w → ok B' a x w)
    (hz : ∀ B a x w, ok B a x w → ∃ A n c, x = .slice A n c)
    (hn : r ≠ .unk) (hR : RdOk 57 (.slice none 0 0) t r B0 ok) :
    Calls Tryz.prog 32 #[S s] w fun e w' => Res .nilIface r (fun a x w' => ∃ y, x = .iface 76 y ∧ ok w.heap.size a y w') e w' ∧ Below w.heap.size w w' := by
  have htl : t.length ≤ s.length := by rw [← ht]; exact trim_le s
  have htr := trim_any s w (by omega)
  rw [ht] at htr
  clear ht
  go_enter Tryz.func32, Tryz.ntmps32
  go_wp2_with fail
  refine htr.mono ?_
  rintro e w' ⟨rfl, rfl⟩
  clear htr
  go_wp2_with fail
  refine (upper_any t _ (by omega)).mono ?_
  rintro e w1 ⟨rfl, hb1, hu⟩
  have hsz1 : w.heap.size < w1.heap.size := blk_lt hu
  have hv1 := Go.Joins.run_convert_bytes_const_at (P := Tryz.prog) w1 92 5 #[.int .u8 80, .int .u8 79, .int .u8 73, .int .u8 78, .int .u8 84] 5 5 (w1.heap.size) (by simp) Tryz.underlying92 Tryz.underlying5
  have hk1 := blk_new_at w1 (.cells #[.int .u8 80, .int .u8 79, .int .u8 73, .int .u8 78, .int .u8 84] 5 (5, 6)) (w1.heap.size) (by simp)
  have hu1 := blk_alloc hu (.cells #[.int .u8 80, .int .u8 79, .int .u8 73, .int .u8 78, .int .u8 84] 5 (5, 6))
  have hB1 := hb1.alloc (by have := hb1.size; omega) (.cells #[.int .u8 80, .int .u8 79, .int .u8 73, .int .u8 78, .int .u8 84] 5 (5, 6))
  have hc1 := hasW_any t 1 _ w.heap.size _ hu1 hk1
  rw [h1] at hc1
  have hv2 := Go.Joins.run_convert_bytes_const_at (P := Tryz.prog) (w1.alloc (.cells #[.int .u8 80, .int .u8 79, .int .u8 73, .int .u8 78, .int .u8 84] 5 (5, 6))) 92 5 #[.int .u8 76, .int .u8 73, .int .u8 78, .int .u8 69, .int .u8 83, .int .u8 84, .int .u8 82, .int .u8 73, .int .u8 78, .int .u8 71] 10 10 (w1.heap.size + 1) (by simp) Tryz.underlying92 Tryz.underlying5
  have hk2 := blk_new_at (w1.alloc (.cells #[.int .u8 80, .int .u8 79, .int .u8 73, .int .u8 78, .int .u8 84] 5 (5, 6))) (.cells #[.int .u8 76, .int .u8 73, .int .u8 78, .int .u8 69, .int .u8 83, .int .u8 84, .int .u8 82, .int .u8 73, .int .u8 78, .int .u8 71] 5 (10, 11)) (w1.heap.size + 1) (by simp)
  have hu2 := blk_alloc hu1 (.cells #[.int .u8 76, .int .u8 73, .int .u8 78, .int .u8 69, .int .u8 83, .int .u8 84, .int .u8 82, .int .u8 73, .int .u8 78, .int .u8 71] 5 (10, 11))
  have hB2 := hB1.alloc (by simp; omega) (.cells #[.int .u8 76, .int .u8 73, .int .u8 78, .int .u8 69, .int .u8 83, .int .u8 84, .int .u8 82, .int .u8 73, .int .u8 78, .int .u8 71] 5 (10, 11))
  have hc2 := hasW_any t 2 _ w.heap.size _ hu2 hk2
  rw [h2] at hc2
  have hv3 := Go.Joins.run_convert_bytes_const_at (P := Tryz.prog) ((w1.alloc (.cells #[.int .u8 80, .int .u8 79, .int .u8 73, .int .u8 78, .int .u8 84] 5 (5, 6))).alloc (.cells #[.int .u8 76, .int .u8 73, .int .u8 78, .int .u8 69, .int .u8 83, .int .u8 84, .int .u8 82, .int .u8 73, .int .u8 78, .int .u8 71] 5 (10, 11))) 92 5 #[.int .u8 80, .int .u8 79, .int .u8 76, .int .u8 89, .int .u8 71, .int .u8 79, .int .u8 78] 7 7 (w1.heap.size + 2) (by simp) Tryz.underlying92 Tryz.underlying5
  have hk3 := blk_new_at ((w1.alloc (.cells #[.int .u8 80, .int .u8 79, .int .u8 73, .int .u8 78, .int .u8 84] 5 (5, 6))).alloc (.cells #[.int .u8 76, .int .u8 73, .int .u8 78, .int .u8 69, .int .u8 83, .int .u8 84, .int .u8 82, .int .u8 73, .int .u8 78, .int .u8 71] 5 (10, 11))) (.cells #[.int .u8 80, .int .u8 79, .int .u8 76, .int .u8 89, .int .u8 71, .int .u8 79, .int .u8 78] 5 (7, 8)) (w1.heap.size + 2) (by simp)
  have hu3 := blk_alloc hu2 (.cells #[.int .u8 80, .int .u8 79, .int .u8 76, .int .u8 89, .int .u8 71, .int .u8 79, .int .u8 78] 5 (7, 8))
  have hB3 := hB2.alloc (by simp; omega) (.cells #[.int .u8 80, .int .u8 79, .int .u8 76, .int .u8 89, .int .u8 71, .int .u8 79, .int .u8 78] 5 (7, 8))
  have hc3 := hasW_any t 3 _ w.heap.size _ hu3 hk3
  rw [h3] at hc3
  have hv4 := Go.Joins.run_convert_bytes_const_at (P := Tryz.prog) (((w1.alloc (.cells #[.int .u8 80, .int .u8 79, .int .u8 73, .int .u8 78, .int .u8 84] 5 (5, 6))).alloc (.cells #[.int .u8 76, .int .u8 73, .int .u8 78, .int .u8 69, .int .u8 83, .int .u8 84, .int .u8 82, .int .u8 73, .int .u8 78, .int .u8 71] 5 (10, 11))).alloc (.cells #[.int .u8 80, .int .u8 79, .int .u8 76, .int .u8 89, .int .u8 71, .int .u8 79, .int .u8 78] 5 (7, 8))) 92 5 #[.int .u8 77, .int .u8 85, .int .u8 76, .int .u8 84, .int .u8 73, .int .u8 80, .int .u8 79, .int .u8 73, .int .u8 78, .int .u8 84] 10 10 (w1.heap.size + 3) (by simp) Tryz.underlying92 Tryz.underlying5
  have hk4 := blk_new_at (((w1.alloc (.cells #[.int .u8 80, .int .u8 79, .int .u8 73, .int .u8 78, .int .u8 84] 5 (5, 6))).alloc (.cells #[.int .u8 76, .int .u8 73, .int .u8 78, .int .u8 69, .int .u8 83, .int .u8 84, .int .u8 82, .int .u8 73, .int .u8 78, .int .u8 71] 5 (10, 11))).alloc (.cells #[.int .u8 80, .int .u8 79, .int .u8 76, .int .u8 89, .int .u8 71, .int .u8 79, .int .u8 78] 5 (7, 8))) (.cells #[.int .u8 77, .int .u8 85, .int .u8 76, .int .u8 84, .int .u8 73, .int .u8 80, .int .u8 79, .int .u8 73, .int .u8 78, .int .u8 84] 5 (10, 11)) (w1.heap.size + 3) (by simp)
  have hu4 := blk_alloc hu3 (.cells #[.int .u8 77, .int .u8 85, .int .u8 76, .int .u8 84, .int .u8 73, .int .u8 80, .int .u8 79, .int .u8 73, .int .u8 78, .int .u8 84] 5 (10, 11))
  have hB4 := hB3.alloc (by simp; omega) (.cells #[.int .u8 77, .int .u8 85, .int .u8 76, .int .u8 84, .int .u8 73, .int .u8 80, .int .u8 79, .int .u8 73, .int .u8 78, .int .u8 84] 5 (10, 11))
  have hc4 := hasW_any t 4 _ w.heap.size _ hu4 hk4
  rw [h4] at hc4
  have hv5 := Go.Joins.run_convert_bytes_const_at (P := Tryz.prog) ((((w1.alloc (.cells #[.int .u8 80, .int .u8 79, .int .u8 73, .int .u8 78, .int .u8 84] 5 (5, 6))).alloc (.cells #[.int .u8 76, .int .u8 73, .int .u8 78, .int .u8 69, .int .u8 83, .int .u8 84, .int .u8 82, .int .u8 73, .int .u8 78, .int .u8 71] 5 (10, 11))).alloc (.cells #[.int .u8 80, .int .u8 79, .int .u8 76, .int .u8 89, .int .u8 71, .int .u8 79, .int .u8 78] 5 (7, 8))).alloc (.cells #[.int .u8 77, .int .u8 85, .int .u8 76, .int .u8 84, .int .u8 73, .int .u8 80, .int .u8 79, .int .u8 73, .int .u8 78, .int .u8 84] 5 (10, 11))) 92 5 #[.int .u8 77, .int .u8 85, .int .u8 76, .int .u8 84, .int .u8 73, .int .u8 76, .int .u8 73, .int .u8 78, .int .u8 69, .int .u8 83, .int .u8 84, .int .u8 82, .int .u8 73, .int .u8 78, .int .u8 71] 15 15 (w1.heap.size + 4) (by simp) Tryz.underlying92 Tryz.underlying5
  have hk5 := blk_new_at ((((w1.alloc (.cells #[.int .u8 80, .int .u8 79, .int .u8 73, .int .u8 78, .int .u8 84] 5 (5, 6))).alloc (.cells #[.int .u8 76, .int .u8 73, .int .u8 78, .int .u8 69, .int .u8 83, .int .u8 84, .int .u8 82, .int .u8 73, .int .u8 78, .int .u8 71] 5 (10, 11))).alloc (.cells #[.int .u8 80, .int .u8 79, .int .u8 76, .int .u8 89, .int .u8 71, .int .u8 79, .int .u8 78] 5 (7, 8))).alloc (.cells #[.int .u8 77, .int .u8 85, .int .u8 76, .int .u8 84, .int .u8 73, .int .u8 80, .int .u8 79, .int .u8 73, .int .u8 78, .int .u8 84] 5 (10, 11))) (.cells #[.int .u8 77, .int .u8 85, .int .u8 76, .int .u8 84, .int .u8 73, .int .u8 76, .int .u8 73, .int .u8 78, .int .u8 69, .int .u8 83, .int .u8 84, .int .u8 82, .int .u8 73, .int .u8 78, .int .u8 71] 5 (15, 16)) (w1.heap.size + 4) (by simp)
  have hu5 := blk_alloc hu4 (.cells #[.int .u8 77, .int .u8 85, .int .u8 76, .int .u8 84, .int .u8 73, .int .u8 76, .int .u8 73, .int .u8 78, .int .u8 69, .int .u8 83, .int .u8 84, .int .u8 82, .int .u8 73, .int .u8 78, .int .u8 71] 5 (15, 16))
  have hB5 := hB4.alloc (by simp; omega) (.cells #[.int .u8 77, .int .u8 85, .int .u8 76, .int .u8 84, .int .u8 73, .int .u8 76, .int .u8 73, .int .u8 78, .int .u8 69, .int .u8 83, .int .u8 84, .int .u8 82, .int .u8 73, .int .u8 78, .int .u8 71] 5 (15, 16))
  have hc5 := hasW_any t 5 _ w.heap.size _ hu5 hk5
  rw [h5] at hc5
  have hg1 := hg.low hB5
  have hcall := hR _ hg1
  have HB := Lib.hid hB5
  clear hk1 hu1 hk2 hu2 hk3 hu3 hk4 hu4 hk5 hu5 hu hB1 hB2 hB3 hB4 hB5 hb1 h1 h2 h3 h4 h5 hg1 hR
  go_wp2_with fail
  refine hc1.mono ?_
  rintro e w' ⟨rfl, rfl⟩
  clear hc1 hv1
  go_wp2_with fail
  refine hc2.mono ?_
  rintro e w' ⟨rfl, rfl⟩
  clear hc2 hv2
  go_wp2_with fail
  refine hc3.mono ?_
  rintro e w' ⟨rfl, rfl⟩
  clear hc3 hv3
  go_wp2_with fail
  refine hc4.mono ?_
  rintro e w' ⟨rfl, rfl⟩
  clear hc4 hv4
  go_wp2_with fail
  refine hc5.mono ?_
  rintro e w' ⟨rfl, rfl⟩
  clear hc5 hv5
  go_wp2_with fail
  refine hcall.mono ?_
  clear hcall
  cases r with
  | unk => exact absurd rfl hn
  | err =>
    rintro e w2 ⟨⟨u, v, rfl⟩, hb2⟩
    have HB2 := Lib.hid (below_then HB.out (by simp; omega) hb2)
    clear hb2
    
    go_wp2
    go_ret2
    exact ⟨⟨_, _, rfl⟩, HB2.out⟩
  | ok a =>
    rintro e w2 ⟨⟨x, rfl, hx⟩, hb2⟩
    have HB2 := Lib.hid (below_then HB.out (by simp; omega) hb2)
    have hx2 := hok _ w.heap.size _ _ _ (by simp; omega) hx
    obtain ⟨A, q, c, rfl⟩ := hz _ _ _ _ hx
    have HX := Lib.hid hx2
    clear hb2 hx hx2
    
    go_wp2
    go_ret2
    exact ⟨⟨_, rfl, _, rfl, HX.out⟩, HB2.out⟩

set_option maxRecDepth 20000 in
set_option maxHeartbeats 1000000 in
theorem unm6 {α : Type} (s t : Bs) (w : World) {B0 : Nat} (hg : Gl B0 w) (hl : s.length ≤ 1000000000) (ht : trim s = t) (h1 : hasW t (word 1) = false) (h2 : hasW t (word 2) = false) (h3 : hasW t (word 3) = false) (h4 : hasW t (word 4) = false) (h5 : hasW t (word 5) = false) (h6 : hasW t (word 6) = true) (r : Rd α) (ok : Nat → α → Value → World → Prop) (hok : ∀ B B' a x w, B' ≤ B → ok B a x w → ok B' a x w)
    (hz : ∀ B a x w, ok B a x w → ∃ A n c, x = .slice A n c)
    (hn : r ≠ .unk) (hR : RdOk 58 (.slice none 0 0) t r B0 ok) :
    Calls Tryz.prog 32 #[S s] w fun e w' => Res .nilIface r (fun a x w' => ∃ y, x = .iface 80 y ∧ ok w.heap.size a y w') e w' ∧ Below w.heap.size w w' := by
  have htl : t.length ≤ s.length := by rw [← ht]; exact trim_le s
  have htr := trim_any s w (by omega)
  rw [ht] at htr
  clear ht
  go_enter Tryz.func32, Tryz.ntmps32
  go_wp2_with fail
  refine htr.mono ?_
  rintro e w' ⟨rfl, rfl⟩
  clear htr
  go_wp2_with fail
  refine (upper_any t _ (by omega)).mono ?_
  rintro e w1 ⟨rfl, hb1, hu⟩
  have hsz1 : w.heap.size < w1.heap.size := blk_lt hu
  have hv1 := Go.Joins.run_convert_bytes_const_at (P := Tryz.prog) w1 92 5 #[.int .u8 80, .int .u8 79, .int .u8 73, .int .u8 78, .int .u8 84] 5 5 (w1.heap.size) (by simp) Tryz.underlying92 Tryz.underlying5
  have hk1 := blk_new_at w1 (.cells #[.int .u8 80, .int .u8 79, .int .u8 73, .int .u8 78, .int .u8 84] 5 (5, 6)) (w1.heap.size) (by simp)
  have hu1 := blk_alloc hu (.cells #[.int .u8 80, .int .u8 79, .int .u8 73, .int .u8 78, .int .u8 84] 5 (5, 6))
  have hB1 := hb1.alloc (by have := hb1.size; omega) (.cells #[.int .u8 80, .int .u8 79, .int .u8 73, .int .u8 78, .int .u8 84] 5 (5, 6))
  have hc1 := hasW_any t 1 _ w.heap.size _ hu1 hk1
  rw [h1] at hc1
  have hv2 := Go.Joins.run_convert_bytes_const_at (P := Tryz.prog) (w1.alloc (.cells #[.int .u8 80, .int .u8 79, .int .u8 73, .int .u8 78, .int .u8 84] 5 (5, 6))) 92 5 #[.int .u8 76, .int .u8 73, .int .u8 78, .int .u8 69, .int .u8 83, .int .u8 84, .int .u8 82, .int .u8 73, .int .u8 78, .int .u8 71] 10 10 (w1.heap.size + 1) (by simp) Tryz.underlying92 Tryz.underlying5
  have hk2 := blk_new_at (w1.alloc (.cells #[.int .u8 80, .int .u8 79, .int .u8 73, .int .u8 78, .int .u8 84] 5 (5, 6))) (.cells #[.int .u8 76, .int .u8 73, .int .u8 78, .int .u8 69, .int .u8 83, .int .u8 84, .int .u8 82, .int .u8 73, .int .u8 78, .int .u8 71] 5 (10, 11)) (w1.heap.size + 1) (by simp)
  have hu2 := blk_alloc hu1 (.cells #[.int .u8 76, .int .u8 73, .int .u8 78, .int .u8 69, .int .u8 83, .int .u8 84, .int .u8 82, .int .u8 73, .int .u8 78, .int .u8 71] 5 (10, 11))
  have hB2 := hB1.alloc (by simp; omega) (.cells #[.int .u8 76, .int .u8 73, .int .u8 78, .int .u8 69, .int .u8 83, .int .u8 84, .int .u8 82, .int .u8 73, .int .u8 78, .int .u8 71] 5 (10, 11))
  have hc2 := hasW_any t 2 _ w.heap.size _ hu2 hk2
  rw [h2] at hc2
  have hv3 := Go.Joins.run_convert_bytes_const_at (P := Tryz.prog) ((w1.alloc (.cells #[.int .u8 80, .int .u8 79, .int .u8 73, .int .u8 78, .int .u8 84] 5 (5, 6))).alloc (.cells #[.int .u8 76, .int .u8 73, .int .u8 78, .int .u8 69, .int .u8 83, .int .u8 84, .int .u8 82, .int .u8 73, .int .u8 78, .int .u8 71] 5 (10, 11))) 92 5 #[.int .u8 80, .int .u8 79, .int .u8 76, .int .u8 89, .int .u8 71, .int .u8 79, .int .u8 78] 7 7 (w1.heap.size + 2) (by simp) Tryz.underlying92 Tryz.underlying5
  have hk3 := blk_new_at ((w1.alloc (.cells #[.int .u8 80, .int .u8 79, .int .u8 73, .int .u8 78, .int .u8 84] 5 (5, 6))).alloc (.cells #[.int .u8 76, .int .u8 73, .int .u8 78, .int .u8 69, .int .u8 83, .int .u8 84, .int .u8 82, .int .u8 73, .int .u8 78, .int .u8 71] 5 (10, 11))) (.cells #[.int .u8 80, .int .u8 79, .int .u8 76, .int .u8 89, .int .u8 71, .int .u8 79, .int .u8 78] 5 (7, 8)) (w1.heap.size + 2) (by simp)
  have hu3 := blk_alloc hu2 (.cells #[.int .u8 80, .int .u8 79, .int .u8 76, .int .u8 89, .int .u8 71, .int .u8 79, .int .u8 78] 5 (7, 8))
  have hB3 := hB2.alloc (by simp; omega) (.cells #[.int .u8 80, .int .u8 79, .int .u8 76, .int .u8 89, .int .u8 71, .int .u8 79, .int .u8 78] 5 (7, 8))
  have hc3 := hasW_any t 3 _ w.heap.size _ hu3 hk3
  rw [h3] at hc3
  have hv4 := Go.Joins.run_convert_bytes_const_at (P := Tryz.prog) (((w1.alloc (.cells #[.int .u8 80, .int .u8 79, .int .u8 73, .int .u8 78, .int .u8 84] 5 (5, 6))).alloc (.cells #[.int .u8 76, .int .u8 73, .int .u8 78, .int .u8 69, .int .u8 83, .int .u8 84, .int .u8 82, .int .u8 73, .int .u8 78, .int .u8 71] 5 (10, 11))).alloc (.cells #[.int .u8 80, .int .u8 79, .int .u8 76, .int .u8 89, .int .u8 71, .int .u8 79, .int .u8 78] 5 (7, 8))) 92 5 #[.int .u8 77, .int .u8 85, .int .u8 76, .int .u8 84, .int .u8 73, .int .u8 80, .int .u8 79, .int .u8 73, .int .u8 78, .int .u8 84] 10 10 (w1.heap.size + 3) (by simp) Tryz.underlying92 Tryz.underlying5
  have hk4 := blk_new_at (((w1.alloc (.cells #[.int .u8 80, .int .u8 79, .int .u8 73, .int .u8 78, .int .u8 84] 5 (5, 6))).alloc (.cells #[.int .u8 76, .int .u8 73, .int .u8 78, .int .u8 69, .int .u8 83, .int .u8 84, .int .u8 82, .int .u8 73, .int .u8 78, .int .u8 71] 5 (10, 11))).alloc (.cells #[.int .u8 80, .int .u8 79, .int .u8 76, .int .u8 89, .int .u8 71, .int .u8 79, .int .u8 78] 5 (7, 8))) (.cells #[.int .u8 77, .int .u8 85, .int .u8 76, .int .u8 84, .int .u8 73, .int .u8 80, .int .u8 79, .int .u8 73, .int .u8 78, .int .u8 84] 5 (10, 11)) (w1.heap.size + 3) (by simp)
  have hu4 := blk_alloc hu3 (.cells #[.int .u8 77, .int .u8 85, .int .u8 76, .int .u8 84, .int .u8 73, .int .u8 80, .int .u8 79, .int .u8 73, .int .u8 78, .int .u8 84] 5 (10, 11))
  have hB4 := hB3.alloc (by simp; omega) (.cells #[.int .u8 77, .int .u8 85, .int .u8 76, .int .u8 84, .int .u8 73, .int .u8 80, .int .u8 79, .int .u8 73, .int .u8 78, .int .u8 84] 5 (10, 11))
  have hc4 := hasW_any t 4 _ w.heap.size _ hu4 hk4
  rw [h4] at hc4
  have hv5 := Go.Joins.run_convert_bytes_const_at (P := Tryz.prog) ((((w1.alloc (.cells #[.int .u8 80, .int .u8 79, .int .u8 73, .int .u8 78, .int .u8 84] 5 (5, 6))).alloc (.cells #[.int .u8 76, .int .u8 73, .int .u8 78, .int .u8 69, .int .u8 83, .int .u8 84, .int .u8 82, .int .u8 73, .int .u8 78, .int .u8 71] 5 (10, 11))).alloc (.cells #[.int .u8 80, .int .u8 79, .int .u8 76, .int .u8 89, .int .u8 71, .int .u8 79, .int .u8 78] 5 (7, 8))).alloc (.cells #[.int .u8 77, .int .u8 85, .int .u8 76, .int .u8 84, .int .u8 73, .int .u8 80, .int .u8 79, .int .u8 73, .int .u8 78, .int .u8 84] 5 (10, 11))) 92 5 #[.int .u8 77, .int .u8 85, .int .u8 76, .int .u8 84, .int .u8 73, .int .u8 76, .int .u8 73, .int .u8 78, .int .u8 69, .int .u8 83, .int .u8 84, .int .u8 82, .int .u8 73, .int .u8 78, .int .u8 71] 15 15 (w1.heap.size + 4) (by simp) Tryz.underlying92 Tryz.underlying5
  have hk5 := blk_new_at ((((w1.alloc (.cells #[.int .u8 80, .int .u8 79, .int .u8 73, .int .u8 78, .int .u8 84] 5 (5, 6))).alloc (.cells #[.int .u8 76, .int .u8 73, .int .u8 78, .int .u8 69, .int .u8 83, .int .u8 84, .int .u8 82, .int .u8 73, .int .u8 78, .int .u8 71] 5 (10, 11))).alloc (.cells #[.int .u8 80, .int .u8 79, .int .u8 76, .int .u8 89, .int .u8 71, .int .u8 79, .int .u8 78] 5 (7, 8))).alloc (.cells #[.int .u8 77, .int .u8 85, .int .u8 76, .int .u8 84, .int .u8 73, .int .u8 80, .int .u8 79, .int .u8 73, .int .u8 78, .int .u8 84] 5 (10, 11))) (.cells #[.int .u8 77, .int .u8 85, .int .u8 76, .int .u8 84, .int .u8 73, .int .u8 76, .int .u8 73, .int .u8 78, .int .u8 69, .int .u8 83, .int .u8 84, .int .u8 82, .int .u8 73, .int .u8 78, .int .u8 71] 5 (15, 16)) (w1.heap.size + 4) (by simp)
  have hu5 := blk_alloc hu4 (.cells #[.int .u8 77, .int .u8 85, .int .u8 76, .int .u8 84, .int .u8 73, .int .u8 76, .int .u8 73, .int .u8 78, .int .u8 69, .int .u8 83, .int .u8 84, .int .u8 82, .int .u8 73, .int .u8 78, .int .u8 71] 5 (15, 16))
  have hB5 := hB4.alloc (by simp; omega) (.cells #[.int .u8 77, .int .u8 85, .int .u8 76, .int .u8 84, .int .u8 73, .int .u8 76, .int .u8 73, .int .u8 78, .int .u8 69, .int .u8 83, .int .u8 84, .int .u8 82, .int .u8 73, .int .u8 78, .int .u8 71] 5 (15, 16))
  have hc5 := hasW_any t 5 _ w.heap.size _ hu5 hk5
  rw [h5] at hc5
  have hv6 := Go.Joins.run_convert_bytes_const_at (P := Tryz.prog) (((((w1.alloc (.cells #[.int .u8 80, .int .u8 79, .int .u8 73, .int .u8 78, .int .u8 84] 5 (5, 6))).alloc (.cells #[.int .u8 76, .int .u8 73, .int .u8 78, .int .u8 69, .int .u8 83, .int .u8 84, .int .u8 82, .int .u8 73, .int .u8 78, .int .u8 71] 5 (10, 11))).alloc (.cells #[.int .u8 80, .int .u8 79, .int .u8 76, .int .u8 89, .int .u8 71, .int .u8 79, .int .u8 78] 5 (7, 8))).alloc (.cells #[.int .u8 77, .int .u8 85, .int .u8 76, .int .u8 84, .int .u8 73, .int .u8 80, .int .u8 79, .int .u8 73, .int .u8 78, .int .u8 84] 5 (10, 11))).alloc (.cells #[.int .u8 77, .int .u8 85, .int .u8 76, .int .u8 84, .int .u8 73, .int .u8 76, .int .u8 73, .int .u8 78, .int .u8 69, .int .u8 83, .int .u8 84, .int .u8 82, .int .u8 73, .int .u8 78, .int .u8 71] 5 (15, 16))) 92 5 #[.int .u8 77, .int .u8 85, .int .u8 76, .int .u8 84, .int .u8 73, .int .u8 80, .int .u8 79, .int .u8 76, .int .u8 89, .int .u8 71, .int .u8 79, .int .u8 78] 12 12 (w1.heap.size + 5) (by simp) Tryz.underlying92 Tryz.underlying5
  have hk6 := blk_new_at (((((w1.alloc (.cells #[.int .u8 80, .int .u8 79, .int .u8 73, .int .u8 78, .int .u8 84] 5 (5, 6))).alloc (.cells #[.int .u8 76, .int .u8 73, .int .u8 78, .int .u8 69, .int .u8 83, .int .u8 84, .int .u8 82, .int .u8 73, .int .u8 78, .int .u8 71] 5 (10, 11))).alloc (.cells #[.int .u8 80, .int .u8 79, .int .u8 76, .int .u8 89, .int .u8 71, .int .u8 79, .int .u8 78] 5 (7, 8))).alloc (.cells #[.int .u8 77, .int .u8 85, .int .u8 76, .int .u8 84, .int .u8 73, .int .u8 80, .int .u8 79, .int .u8 73, .int .u8 78, .int .u8 84] 5 (10, 11))).alloc (.cells #[.int .u8 77, .int .u8 85, .int .u8 76, .int .u8 84, .int .u8 73, .int .u8 76, .int .u8 73, .int .u8 78, .int .u8 69, .int .u8 83, .int .u8 84, .int .u8 82, .int .u8 73, .int .u8 78, .int .u8 71] 5 (15, 16))) (.cells #[.int .u8 77, .int .u8 85, .int .u8 76, .int .u8 84, .int .u8 73, .int .u8 80, .int .u8 79, .int .u8 76, .int .u8 89, .int .u8 71, .int .u8 79, .int .u8 78] 5 (12, 13)) (w1.heap.size + 5) (by simp)
  have hu6 := blk_alloc hu5 (.cells #[.int .u8 77, .int .u8 85, .int .u8 76, .int .u8 84, .int .u8 73, .int .u8 80, .int .u8 79, .int .u8 76, .int .u8 89, .int .u8 71, .int .u8 79, .int .u8 78] 5 (12, 13))
  have hB6 := hB5.alloc (by simp; omega) (.cells #[.int .u8 77, .int .u8 85, .int .u8 76, .int .u8 84, .int .u8 73, .int .u8 80, .int .u8 79, .int .u8 76, .int .u8 89, .int .u8 71, .int .u8 79, .int .u8 78] 5 (12, 13))
  have hc6 := hasW_any t 6 _ w.heap.size _ hu6 hk6
  rw [h6] at hc6
  have hg1 := hg.low hB6
  have hcall := hR _ hg1
  have HB := Lib.hid hB6
  clear hk1 hu1 hk2 hu2 hk3 hu3 hk4 hu4 hk5 hu5 hk6 hu6 hu hB1 hB2 hB3 hB4 hB5 hB6 hb1 h1 h2 h3 h4 h5 h6 hg1 hR
  go_wp2_with fail
  refine hc1.mono ?_
  rintro e w' ⟨rfl, rfl⟩
  clear hc1 hv1
  go_wp2_with fail
  refine hc2.mono ?_
  rintro e w' ⟨rfl, rfl⟩
  clear hc2 hv2
  go_wp2_with fail
  refine hc3.mono ?_
  rintro e w' ⟨rfl, rfl⟩
  clear hc3 hv3
  go_wp2_with fail
  refine hc4.mono ?_
  rintro e w' ⟨rfl, rfl⟩
  clear hc4 hv4
  go_wp2_with fail
  refine hc5.mono ?_
  rintro e w' ⟨rfl, rfl⟩
  clear hc5 hv5
  go_wp2_with fail
  refine hc6.mono ?_
  rintro e w' ⟨rfl, rfl⟩
  clear hc6 hv6
  go_wp2_with fail
  refine hcall.mono ?_
  clear hcall
  cases r with
  | unk => exact absurd rfl hn
  | err =>
    rintro e w2 ⟨⟨u, v, rfl⟩, hb2⟩
    have HB2 := Lib.hid (below_then HB.out (by simp; omega) hb2)
    clear hb2
    
    go_wp2
    go_ret2
    exact ⟨⟨_, _, rfl⟩, HB2.out⟩
  | ok a =>
    rintro e w2 ⟨⟨x, rfl, hx⟩, hb2⟩
    have HB2 := Lib.hid (below_then HB.out (by simp; omega) hb2)
    have hx2 := hok _ w.heap.size _ _ _ (by simp; omega) hx
    obtain ⟨A, q, c, rfl⟩ := hz _ _ _ _ hx
    have HX := Lib.hid hx2
    clear hb2 hx hx2
    
    go_wp2
    go_ret2
    exact ⟨⟨_, rfl, _, rfl, HX.out⟩, HB2.out⟩

set_option maxRecDepth 20000 in
set_option maxHeartbeats 1000000 in
theorem unm7 {α : Type} (s t : Bs) (w : World) {B0 : Nat} (hg : Gl B0 w) (hl : s.length ≤ 1000000000) (ht : trim s = t) (h1 : hasW t (word 1) = false) (h2 : hasW t (word 2) = false) (h3 : hasW t (word 3) = false) (h4 : hasW t (word 4) = false) (h5 : hasW t (word 5) = false) (h6 : hasW t (word 6) = false) (h7 : hasW t (word 7) = true) (r : Rd α) (ok : Nat → α → Value → World → Prop) (hok : ∀ B B' a x w, B' ≤ B → ok B a x w → ok B' a x w)
    (hz : ∀ B a x w, ok B a x w → ∃ A n c, x = .slice A n c)
    (hn : r ≠ .unk) (hR : RdOk 59 (.slice none 0 0) t r B0 ok) :
    Calls Tryz.prog 32 #[S s] w fun e w' => Res .nilIface r (fun a x w' => ∃ y, x = .iface 84 y ∧ ok w.heap.size a y w') e w' ∧ Below w.heap.size w w' := by
  have htl : t.length ≤ s.length := by rw [← ht]; exact trim_le s
  have htr := trim_any s w (by omega)
  rw [ht] at htr
  clear ht
  go_enter Tryz.func32, Tryz.ntmps32
  go_wp2_with fail
  refine htr.mono ?_
  rintro e w' ⟨rfl, rfl⟩
  clear htr
  go_wp2_with fail
  refine (upper_any t _ (by omega)).mono ?_
  rintro e w1 ⟨rfl, hb1, hu⟩
  have hsz1 : w.heap.size < w1.heap.size := blk_lt hu
  have hv1 := Go.Joins.run_convert_bytes_const_at (P := Tryz.prog) w1 92 5 #[.int .u8 80, .int .u8 79, .int .u8 73, .int .u8 78, .int .u8 84] 5 5 (w1.heap.size) (by simp) Tryz.underlying92 Tryz.underlying5
  have hk1 := blk_new_at w1 (.cells #[.int .u8 80, .int .u8 79, .int .u8 73, .int .u8 78, .int .u8 84] 5 (5, 6)) (w1.heap.size) (by simp)
  have hu1 := blk_alloc hu (.cells #[.int .u8 80, .int .u8 79, .int .u8 73, .int .u8 78, .int .u8 84] 5 (5, 6))
  have hB1 := hb1.alloc (by have := hb1.size; omega) (.cells #[.int .u8 80, .int .u8 79, .int .u8 73, .int .u8 78, .int .u8 84] 5 (5, 6))
  have hc1 := hasW_any t 1 _ w.heap.size _ hu1 hk1
  rw [h1] at hc1
  have hv2 := Go.Joins.run_convert_bytes_const_at (P := Tryz.prog) (w1.alloc (.cells #[.int .u8 80, .int .u8 79, .int .u8 73, .int .u8 78, .int .u8 84] 5 (5, 6))) 92 5 #[.int .u8 76, .int .u8 73, .int .u8 78, .int .u8 69, .int .u8 83, .int .u8 84, .int .u8 82, .int .u8 73, .int .u8 78, .int .u8 71] 10 10 (w1.heap.size + 1) (by simp) Tryz.underlying92 Tryz.underlying5
  have hk2 := blk_new_at (w1.alloc (.cells #[.int .u8 80, .int .u8 79, .int .u8 73, .int .u8 78, .int .u8 84] 5 (5, 6))) (.cells #[.int .u8 76, .int .u8 73, .int .u8 78, .int .u8 69, .int .u8 83, .int .u8 84, .int .u8 82, .int .u8 73, .int .u8 78, .int .u8 71] 5 (10, 11)) (w1.heap.size + 1) (by simp)
  have hu2 := blk_alloc hu1 (.cells #[.int .u8 76, .int .u8 73, .int .u8 78, .int .u8 69, .int .u8 83, .int .u8 84, .int .u8 82, .int .u8 73, .int .u8 78, .int .u8 71] 5 (10, 11))
  have hB2 := hB1.alloc (by simp; omega) (.cells #[.int .u8 76, .int .u8 73, .int .u8 78, .int .u8 69, .int .u8 83, .int .u8 84, .int .u8 82, .int .u8 73, .int .u8 78, .int .u8 71] 5 (10, 11))
  have hc2 := hasW_any t 2 _ w.heap.size _ hu2 hk2
  rw [h2] at hc2
  have hv3 := Go.Joins.run_convert_bytes_const_at (P := Tryz.prog) ((w1.alloc (.cells #[.int .u8 80, .int .u8 79, .int .u8 73, .int .u8 78, .int .u8 84] 5 (5, 6))).alloc (.cells #[.int .u8 76, .int .u8 73, .int .u8 78, .int .u8 69, .int .u8 83, .int .u8 84, .int .u8 82, .int .u8 73, .int .u8 78, .int .u8 71] 5 (10, 11))) 92 5 #[.int .u8 80, .int .u8 79, .int .u8 76, .int .u8 89, .int .u8 71, .int .u8 79, .int .u8 78] 7 7 (w1.heap.size + 2) (by simp) Tryz.underlying92 Tryz.underlying5
  have hk3 := blk_new_at ((w1.alloc (.cells #[.int .u8 80, .int .u8 79, .int .u8 73, .int .u8 78, .int .u8 84] 5 (5, 6))).alloc (.cells #[.int .u8 76, .int .u8 73, .int .u8 78, .int .u8 69, .int .u8 83, .int .u8 84, .int .u8 82, .int .u8 73, .int .u8 78, .int .u8 71] 5 (10, 11))) (.cells #[.int .u8 80, .int .u8 79, .int .u8 76, .int .u8 89, .int .u8 71, .int .u8 79, .int .u8 78] 5 (7, 8)) (w1.heap.size + 2) (by simp)
  have hu3 := blk_alloc hu2 (.cells #[.int .u8 80, .int .u8 79, .int .u8 76, .int .u8 89, .int .u8 71, .int .u8 79, .int .u8 78] 5 (7, 8))
  have hB3 := hB2.alloc (by simp; omega) (.cells #[.int .u8 80, .int .u8 79, .int .u8 76, .int .u8 89, .int .u8 71, .int .u8 79, .int .u8 78] 5 (7, 8))
  have hc3 := hasW_any t 3 _ w.heap.size _ hu3 hk3
  rw [h3] at hc3
  have hv4 := Go.Joins.run_convert_bytes_const_at (P := Tryz.prog) (((w1.alloc (.cells #[.int .u8 80, .int .u8 79, .int .u8 73, .int .u8 78, .int .u8 84] 5 (5, 6))).alloc (.cells #[.int .u8 76, .int .u8 73, .int .u8 78, .int .u8 69, .int .u8 83, .int .u8 84, .int .u8 82, .int .u8 73, .int .u8 78, .int .u8 71] 5 (10, 11))).alloc (.cells #[.int .u8 80, .int .u8 79, .int .u8 76, .int .u8 89, .int .u8 71, .int .u8 79, .int .u8 78] 5 (7, 8))) 92 5 #[.int .u8 77, .int .u8 85, .int .u8 76, .int .u8 84, .int .u8 73, .int .u8 80, .int .u8 79, .int .u8 73, .int .u8 78, .int .u8 84] 10 10 (w1.heap.size + 3) (by simp) Tryz.underlying92 Tryz.underlying5
  have hk4 := blk_new_at (((w1.alloc (.cells #[.int .u8 80, .int .u8 79, .int .u8 73, .int .u8 78, .int .u8 84] 5 (5, 6))).alloc (.cells #[.int .u8 76, .int .u8 73, .int .u8 78, .int .u8 69, .int .u8 83, .int .u8 84, .int .u8 82, .int .u8 73, .int .u8 78, .int .u8 71] 5 (10, 11))).alloc (.cells #[.int .u8 80, .int .u8 79, .int .u8 76, .int .u8 89, .int .u8 71, .int .u8 79, .int .u8 78] 5 (7, 8))) (.cells #[.int .u8 77, .int .u8 85, .int .u8 76, .int .u8 84, .int .u8 73, .int .u8 80, .int .u8 79, .int .u8 73, .int .u8 78, .int .u8 84] 5 (10, 11)) (w1.heap.size + 3) (by simp)
  have hu4 := blk_alloc hu3 (.cells #[.int .u8 77, .int .u8 85, .int .u8 76, .int .u8 84, .int .u8 73, .int .u8 80, .int .u8 79, .int .u8 73, .int .u8 78, .int .u8 84] 5 (10, 11))
  have hB4 := hB3.alloc (by simp; omega) (.cells #[.int .u8 77, .int .u8 85, .int .u8 76, .int .u8 84, .int .u8 73, .int .u8 80, .int .u8 79, .int .u8 73, .int .u8 78, .int .u8 84] 5 (10, 11))
  have hc4 := hasW_any t 4 _ w.heap.size _ hu4 hk4
  rw [h4] at hc4
  have hv5 := Go.Joins.run_convert_bytes_const_at (P := Tryz.prog) ((((w1.alloc (.cells #[.int .u8 80, .int .u8 79, .int .u8 73, .int .u8 78, .int .u8 84] 5 (5, 6))).alloc (.cells #[.int .u8 76, .int .u8 73, .int .u8 78, .int .u8 69, .int .u8 83, .int .u8 84, .int .u8 82, .int .u8 73, .int .u8 78, .int .u8 71] 5 (10, 11))).alloc (.cells #[.int .u8 80, .int .u8 79, .int .u8 76, .int .u8 89, .int .u8 71, .int .u8 79, .int .u8 78] 5 (7, 8))).alloc (.cells #[.int .u8 77, .int .u8 85, .int .u8 76, .int .u8 84, .int .u8 73, .int .u8 80, .int .u8 79, .int .u8 73, .int .u8 78, .int .u8 84] 5 (10, 11))) 92 5 #[.int .u8 77, .int .u8 85, .int .u8 76, .int .u8 84, .int .u8 73, .int .u8 76, .int .u8 73, .int .u8 78, .int .u8 69, .int .u8 83, .int .u8 84, .int .u8 82, .int .u8 73, .int .u8 78, .int .u8 71] 15 15 (w1.heap.size + 4) (by simp) Tryz.underlying92 Tryz.underlying5
  have hk5 := blk_new_at ((((w1.alloc (.cells #[.int .u8 80, .int .u8 79, .int .u8 73, .int .u8 78, .int .u8 84] 5 (5, 6))).alloc (.cells #[.int .u8 76, .int .u8 73, .int .u8 78, .int .u8 69, .int .u8 83, .int .u8 84, .int .u8 82, .int .u8 73, .int .u8 78, .int .u8 71] 5 (10, 11))).alloc (.cells #[.int .u8 80, .int .u8 79, .int .u8 76, .int .u8 89, .int .u8 71, .int .u8 79, .int .u8 78] 5 (7, 8))).alloc (.cells #[.int .u8 77, .int .u8 85, .int .u8 76, .int .u8 84, .int .u8 73, .int .u8 80, .int .u8 79, .int .u8 73, .int .u8 78, .int .u8 84] 5 (10, 11))) (.cells #[.int .u8 77, .int .u8 85, .int .u8 76, .int .u8 84, .int .u8 73, .int .u8 76, .int .u8 73, .int .u8 78, .int .u8 69, .int .u8 83, .int .u8 84, .int .u8 82, .int .u8 73, .int .u8 78, .int .u8 71] 5 (15, 16)) (w1.heap.size + 4) (by simp)
  have hu5 := blk_alloc hu4 (.cells #[.int .u8 77, .int .u8 85, .int .u8 76, .int .u8 84, .int .u8 73, .int .u8 76, .int .u8 73, .int .u8 78, .int .u8 69, .int .u8 83, .int .u8 84, .int .u8 82, .int .u8 73, .int .u8 78, .int .u8 71] 5 (15, 16))
  have hB5 := hB4.alloc (by simp; omega) (.cells #[.int .u8 77, .int .u8 85, .int .u8 76, .int .u8 84, .int .u8 73, .int .u8 76, .int .u8 73, .int .u8 78, .int .u8 69, .int .u8 83, .int .u8 84, .int .u8 82, .int .u8 73, .int .u8 78, .int .u8 71] 5 (15, 16))
  have hc5 := hasW_any t 5 _ w.heap.size _ hu5 hk5
  rw [h5] at hc5
  have hv6 := Go.Joins.run_convert_bytes_const_at (P := Tryz.prog) (((((w1.alloc (.cells #[.int .u8 80, .int .u8 79, .int .u8 73, .int .u8 78, .int .u8 84] 5 (5, 6))).alloc (.cells #[.int .u8 76, .int .u8 73, .int .u8 78, .int .u8 69, .int .u8 83, .int .u8 84, .int .u8 82, .int .u8 73, .int .u8 78, .int .u8 71] 5 (10, 11))).alloc (.cells #[.int .u8 80, .int .u8 79, .int .u8 76, .int .u8 89, .int .u8 71, .int .u8 79, .int .u8 78] 5 (7, 8))).alloc (.cells #[.int .u8 77, .int .u8 85, .int .u8 76, .int .u8 84, .int .u8 73, .int .u8 80, .int .u8 79, .int .u8 73, .int .u8 78, .int .u8 84] 5 (10, 11))).alloc (.cells #[.int .u8 77, .int .u8 85, .int .u8 76, .int .u8 84, .int .u8 73, .int .u8 76, .int .u8 73, .int .u8 78, .int .u8 69, .int .u8 83, .int .u8 84, .int .u8 82, .int .u8 73, .int .u8 78, .int .u8 71] 5 (15, 16))) 92 5 #[.int .u8 77, .int .u8 85, .int .u8 76, .int .u8 84, .int .u8 73, .int .u8 80, .int .u8 79, .int .u8 76, .int .u8 89, .int .u8 71, .int .u8 79, .int .u8 78] 12 12 (w1.heap.size + 5) (by simp) Tryz.underlying92 Tryz.underlying5
  have hk6 := blk_new_at (((((w1.alloc (.cells #[.int .u8 80, .int .u8 79, .int .u8 73, .int .u8 78, .int .u8 84] 5 (5, 6))).alloc (.cells #[.int .u8 76, .int .u8 73, .int .u8 78, .int .u8 69, .int .u8 83, .int .u8 84, .int .u8 82, .int .u8 73, .int .u8 78, .int .u8 71] 5 (10, 11))).alloc (.cells #[.int .u8 80, .int .u8 79, .int .u8 76, .int .u8 89, .int .u8 71, .int .u8 79, .int .u8 78] 5 (7, 8))).alloc (.cells #[.int .u8 77, .int .u8 85, .int .u8 76, .int .u8 84, .int .u8 73, .int .u8 80, .int .u8 79, .int .u8 73, .int .u8 78, .int .u8 84] 5 (10, 11))).alloc (.cells #[.int .u8 77, .int .u8 85, .int .u8 76, .int .u8 84, .int .u8 73, .int .u8 76, .int .u8 73, .int .u8 78, .int .u8 69, .int .u8 83, .int .u8 84, .int .u8 82, .int .u8 73, .int .u8 78, .int .u8 71] 5 (15, 16))) (.cells #[.int .u8 77, .int .u8 85, .int .u8 76, .int .u8 84, .int .u8 73, .int .u8 80, .int .u8 79, .int .u8 76, .int .u8 89, .int .u8 71, .int .u8 79, .int .u8 78] 5 (12, 13)) (w1.heap.size + 5) (by simp)
  have hu6 := blk_alloc hu5 (.cells #[.int .u8 77, .int .u8 85, .int .u8 76, .int .u8 84, .int .u8 73, .int .u8 80, .int .u8 79, .int .u8 76, .int .u8 89, .int .u8 71, .int .u8 79, .int .u8 78] 5 (12, 13))
  have hB6 := hB5.alloc (by simp; omega) (.cells #[.int .u8 77, .int .u8 85, .int .u8 76, .int .u8 84, .int .u8 73, .int .u8 80, .int .u8 79, .int .u8 76, .int .u8 89, .int .u8 71, .int .u8 79, .int .u8 78] 5 (12, 13))
  have hc6 := hasW_any t 6 _ w.heap.size _ hu6 hk6
  rw [h6] at hc6
  have hv7 := Go.Joins.run_convert_bytes_const_at (P := Tryz.prog) ((((((w1.alloc (.cells #[.int .u8 80, .int .u8 79, .int .u8 73, .int .u8 78, .int .u8 84] 5 (5, 6))).alloc (.cells #[.int .u8 76, .int .u8 73, .int .u8 78, .int .u8 69, .int .u8 83, .int .u8 84, .int .u8 82, .int .u8 73, .int .u8 78, .int .u8 71] 5 (10, 11))).alloc (.cells #[.int .u8 80, .int .u8 79, .int .u8 76, .int .u8 89, .int .u8 71, .int .u8 79, .int .u8 78] 5 (7, 8))).alloc (.cells #[.int .u8 77, .int .u8 85, .int .u8 76, .int .u8 84, .int .u8 73, .int .u8 80, .int .u8 79, .int .u8 73, .int .u8 78, .int .u8 84] 5 (10, 11))).alloc (.cells #[.int .u8 77, .int .u8 85, .int .u8 76, .int .u8 84, .int .u8 73, .int .u8 76, .int .u8 73, .int .u8 78, .int .u8 69, .int .u8 83, .int .u8 84, .int .u8 82, .int .u8 73, .int .u8 78, .int .u8 71] 5 (15, 16))).alloc (.cells #[.int .u8 77, .int .u8 85, .int .u8 76, .int .u8 84, .int .u8 73, .int .u8 80, .int .u8 79, .int .u8 76, .int .u8 89, .int .u8 71, .int .u8 79, .int .u8 78] 5 (12, 13))) 92 5 #[.int .u8 71, .int .u8 69, .int .u8 79, .int .u8 77, .int .u8 69, .int .u8 84, .int .u8 82, .int .u8 89, .int .u8 67, .int .u8 79, .int .u8 76, .int .u8 76, .int .u8 69, .int .u8 67, .int .u8 84, .int .u8 73, .int .u8 79, .int .u8 78] 18 18 (w1.heap.size + 6) (by simp) Tryz.underlying92 Tryz.underlying5
  have hk7 := blk_new_at ((((((w1.alloc (.cells #[.int .u8 80, .int .u8 79, .int .u8 73, .int .u8 78, .int .u8 84] 5 (5, 6))).alloc (.cells #[.int .u8 76, .int .u8 73, .int .u8 78, .int .u8 69, .int .u8 83, .int .u8 84, .int .u8 82, .int .u8 73, .int .u8 78, .int .u8 71] 5 (10, 11))).alloc (.cells #[.int .u8 80, .int .u8 79, .int .u8 76, .int .u8 89, .int .u8 71, .int .u8 79, .int .u8 78] 5 (7, 8))).alloc (.cells #[.int .u8 77, .int .u8 85, .int .u8 76, .int .u8 84, .int .u8 73, .int .u8 80, .int .u8 79, .int .u8 73, .int .u8 78, .int .u8 84] 5 (10, 11))).alloc (.cells #[.int .u8 77, .int .u8 85, .int .u8 76, .int .u8 84, .int .u8 73, .int .u8 76, .int .u8 73, .int .u8 78, .int .u8 69, .int .u8 83, .int .u8 84, .int .u8 82, .int .u8 73, .int .u8 78, .int .u8 71] 5 (15, 16))).alloc (.cells #[.int .u8 77, .int .u8 85, .int .u8 76, .int .u8 84, .int .u8 73, .int .u8 80, .int .u8 79, .int .u8 76, .int .u8 89, .int .u8 71, .int .u8 79, .int .u8 78] 5 (12, 13))) (.cells #[.int .u8 71, .int .u8 69, .int .u8 79, .int .u8 77, .int .u8 69, .int .u8 84, .int .u8 82, .int .u8 89, .int .u8 67, .int .u8 79, .int .u8 76, .int .u8 76, .int .u8 69, .int .u8 67, .int .u8 84, .int .u8 73, .int .u8 79, .int .u8 78] 5 (18, 19)) (w1.heap.size + 6) (by simp)
  have hu7 := blk_alloc hu6 (.cells #[.int .u8 71, .int .u8 69, .int .u8 79, .int .u8 77, .int .u8 69, .int .u8 84, .int .u8 82, .int .u8 89, .int .u8 67, .int .u8 79, .int .u8 76, .int .u8 76, .int .u8 69, .int .u8 67, .int .u8 84, .int .u8 73, .int .u8 79, .int .u8 78] 5 (18, 19))
  have hB7 := hB6.alloc (by simp; omega) (.cells #[.int .u8 71, .int .u8 69, .int .u8 79, .int .u8 77, .int .u8 69, .int .u8 84, .int .u8 82, .int .u8 89, .int .u8 67, .int .u8 79, .int .u8 76, .int .u8 76, .int .u8 69, .int .u8 67, .int .u8 84, .int .u8 73, .int .u8 79, .int .u8 78] 5 (18, 19))
  have hc7 := hasW_any t 7 _ w.heap.size _ hu7 hk7
  rw [h7] at hc7
  have hg1 := hg.low hB7
  have hcall := hR _ hg1
  have HB := Lib.hid hB7
  clear hk1 hu1 hk2 hu2 hk3 hu3 hk4 hu4 hk5 hu5 hk6 hu6 hk7 hu7 hu hB1 hB2 hB3 hB4 hB5 hB6 hB7 hb1 h1 h2 h3 h4 h5 h6 h7 hg1 hR
  go_wp2_with fail
  refine hc1.mono ?_
  rintro e w' ⟨rfl, rfl⟩
  clear hc1 hv1
  go_wp2_with fail
  refine hc2.mono ?_
  rintro e w' ⟨rfl, rfl⟩
  clear hc2 hv2
  go_wp2_with fail
  refine hc3.mono ?_
  rintro e w' ⟨rfl, rfl⟩
  clear hc3 hv3
  go_wp2_with fail
  refine hc4.mono ?_
  rintro e w' ⟨rfl, rfl⟩
  clear hc4 hv4
  go_wp2_with fail
  refine hc5.mono ?_
  rintro e w' ⟨rfl, rfl⟩
  clear hc5 hv5
  go_wp2_with fail
  refine hc6.mono ?_
  rintro e w' ⟨rfl, rfl⟩
  clear hc6 hv6
  go_wp2_with fail
  refine hc7.mono ?_
  rintro e w' ⟨rfl, rfl⟩
  clear hc7 hv7
  go_wp2_with fail
  refine hcall.mono ?_
  clear hcall
  cases r with
  | unk => exact absurd rfl hn
  | err =>
    rintro e w2 ⟨⟨u, v, rfl⟩, hb2⟩
    have HB2 := Lib.hid (below_then HB.out (by simp; omega) hb2)
    clear hb2
    
    go_wp2
    go_ret2
    exact ⟨⟨_, _, rfl⟩, HB2.out⟩
  | ok a =>
    rintro e w2 ⟨⟨x, rfl, hx⟩, hb2⟩
    have HB2 := Lib.hid (below_then HB.out (by simp; omega) hb2)
    have hx2 := hok _ w.heap.size _ _ _ (by simp; omega) hx
    obtain ⟨A, q, c, rfl⟩ := hz _ _ _ _ hx
    have HX := Lib.hid hx2
    clear hb2 hx hx2
    
    go_wp2
    go_ret2
    exact ⟨⟨_, rfl, _, rfl, HX.out⟩, HB2.out⟩

set_option maxRecDepth 20000 in
set_option maxHeartbeats 1000000 in
theorem unm0 (s t : Bs) (w : World) {B0 : Nat} (hg : Gl B0 w) (hl : s.length ≤ 1000000000) (ht : trim s = t) (h1 : hasW t (word 1) = false) (h2 : hasW t (word 2) = false) (h3 : hasW t (word 3) = false) (h4 : hasW t (word 4) = false) (h5 : hasW t (word 5) = false) (h6 : hasW t (word 6) = false) (h7 : hasW t (word 7) = false) :
    Calls Tryz.prog 32 #[S s] w fun e w' => (∃ u v, e = .returned (.tuple #[.nilIface, .iface u v])) ∧ Below w.heap.size w w' := by
  have htl : t.length ≤ s.length := by rw [← ht]; exact trim_le s
  have htr := trim_any s w (by omega)
  rw [ht] at htr
  clear ht
  go_enter Tryz.func32, Tryz.ntmps32
  go_wp2_with fail
  refine htr.mono ?_
  rintro e w' ⟨rfl, rfl⟩
  clear htr
  go_wp2_with fail
  refine (upper_any t _ (by omega)).mono ?_
  rintro e w1 ⟨rfl, hb1, hu⟩
  have hsz1 : w.heap.size < w1.heap.size := blk_lt hu
  have hv1 := Go.Joins.run_convert_bytes_const_at (P := Tryz.prog) w1 92 5 #[.int .u8 80, .int .u8 79, .int .u8 73, .int .u8 78, .int .u8 84] 5 5 (w1.heap.size) (by simp) Tryz.underlying92 Tryz.underlying5
  have hk1 := blk_new_at w1 (.cells #[.int .u8 80, .int .u8 79, .int .u8 73, .int .u8 78, .int .u8 84] 5 (5, 6)) (w1.heap.size) (by simp)
  have hu1 := blk_alloc hu (.cells #[.int .u8 80, .int .u8 79, .int .u8 73, .int .u8 78, .int .u8 84] 5 (5, 6))
  have hB1 := hb1.alloc (by have := hb1.size; omega) (.cells #[.int .u8 80, .int .u8 79, .int .u8 73, .int .u8 78, .int .u8 84] 5 (5, 6))
  have hc1 := hasW_any t 1 _ w.heap.size _ hu1 hk1
  rw [h1] at hc1
  have hv2 := Go.Joins.run_convert_bytes_const_at (P := Tryz.prog) (w1.alloc (.cells #[.int .u8 80, .int .u8 79, .int .u8 73, .int .u8 78, .int .u8 84] 5 (5, 6))) 92 5 #[.int .u8 76, .int .u8 73, .int .u8 78, .int .u8 69, .int .u8 83, .int .u8 84, .int .u8 82, .int .u8 73, .int .u8 78, .int .u8 71] 10 10 (w1.heap.size + 1) (by simp) Tryz.underlying92 Tryz.underlying5
  have hk2 := blk_new_at (w1.alloc (.cells #[.int .u8 80, .int .u8 79, .int .u8 73, .int .u8 78, .int .u8 84] 5 (5, 6))) (.cells #[.int .u8 76, .int .u8 73, .int .u8 78, .int .u8 69, .int .u8 83, .int .u8 84, .int .u8 82, .int .u8 73, .int .u8 78, .int .u8 71] 5 (10, 11)) (w1.heap.size + 1) (by simp)
  have hu2 := blk_alloc hu1 (.cells #[.int .u8 76, .int .u8 73, .int .u8 78, .int .u8 69, .int .u8 83, .int .u8 84, .int .u8 82, .int .u8 73, .int .u8 78, .int .u8 71] 5 (10, 11))
  have hB2 := hB1.alloc (by simp; omega) (.cells #[.int .u8 76, .int .u8 73, .int .u8 78, .int .u8 69, .int .u8 83, .int .u8 84, .int .u8 82, .int .u8 73, .int .u8 78, .int .u8 71] 5 (10, 11))
  have hc2 := hasW_any t 2 _ w.heap.size _ hu2 hk2
  rw [h2] at hc2
  have hv3 := Go.Joins.run_convert_bytes_const_at (P := Tryz.prog) ((w1.alloc (.cells #[.int .u8 80, .int .u8 79, .int .u8 73, .int .u8 78, .int .u8 84] 5 (5, 6))).alloc (.cells #[.int .u8 76, .int .u8 73, .int .u8 78, .int .u8 69, .int .u8 83, .int .u8 84, .int .u8 82, .int .u8 73, .int .u8 78, .int .u8 71] 5 (10, 11))) 92 5 #[.int .u8 80, .int .u8 79, .int .u8 76, .int .u8 89, .int .u8 71, .int .u8 79, .int .u8 78] 7 7 (w1.heap.size + 2) (by simp) Tryz.underlying92 Tryz.underlying5
  have hk3 := blk_new_at ((w1.alloc (.cells #[.int .u8 80, .int .u8 79, .int .u8 73, .int .u8 78, .int .u8 84] 5 (5, 6))).alloc (.cells #[.int .u8 76, .int .u8 73, .int .u8 78, .int .u8 69, .int .u8 83, .int .u8 84, .int .u8 82, .int .u8 73, .int .u8 78, .int .u8 71] 5 (10, 11))) (.cells #[.int .u8 80, .int .u8 79, .int .u8 76, .int .u8 89, .int .u8 71, .int .u8 79, .int .u8 78] 5 (7, 8)) (w1.heap.size + 2) (by simp)
  have hu3 := blk_alloc hu2 (.cells #[.int .u8 80, .int .u8 79, .int .u8 76, .int .u8 89, .int .u8 71, .int .u8 79, .int .u8 78] 5 (7, 8))
  have hB3 := hB2.alloc (by simp; omega) (.cells #[.int .u8 80, .int .u8 79, .int .u8 76, .int .u8 89, .int .u8 71, .int .u8 79, .int .u8 78] 5 (7, 8))
  have hc3 := hasW_any t 3 _ w.heap.size _ hu3 hk3
  rw [h3] at hc3
  have hv4 := Go.Joins.run_convert_bytes_const_at (P := Tryz.prog) (((w1.alloc (.cells #[.int .u8 80, .int .u8 79, .int .u8 73, .int .u8 78, .int .u8 84] 5 (5, 6))).alloc (.cells #[.int .u8 76, .int .u8 73, .int .u8 78, .int .u8 69, .int .u8 83, .int .u8 84, .int .u8 82, .int .u8 73, .int .u8 78, .int .u8 71] 5 (10, 11))).alloc (.cells #[.int .u8 80, .int .u8 79, .int .u8 76, .int .u8 89, .int .u8 71, .int .u8 79, .int .u8 78] 5 (7, 8))) 92 5 #[.int .u8 77, .int .u8 85, .int .u8 76, .int .u8 84, .int .u8 73, .int .u8 80, .int .u8 79, .int .u8 73, .int .u8 78, .int .u8 84] 10 10 (w1.heap.size + 3) (by simp) Tryz.underlying92 Tryz.underlying5
  have hk4 := blk_new_at (((w1.alloc (.cells #[.int .u8 80, .int .u8 79, .int .u8 73, .int .u8 78, .int .u8 84] 5 (5, 6))).alloc (.cells #[.int .u8 76, .int .u8 73, .int .u8 78, .int .u8 69, .int .u8 83, .int .u8 84, .int .u8 82, .int .u8 73, .int .u8 78, .int .u8 71] 5 (10, 11))).alloc (.cells #[.int .u8 80, .int .u8 79, .int .u8 76, .int .u8 89, .int .u8 71, .int .u8 79, .int .u8 78] 5 (7, 8))) (.cells #[.int .u8 77, .int .u8 85, .int .u8 76, .int .u8 84, .int .u8 73, .int .u8 80, .int .u8 79, .int .u8 73, .int .u8 78, .int .u8 84] 5 (10, 11)) (w1.heap.size + 3) (by simp)
  have hu4 := blk_alloc hu3 (.cells #[.int .u8 77, .int .u8 85, .int .u8 76, .int .u8 84, .int .u8 73, .int .u8 80, .int .u8 79, .int .u8 73, .int .u8 78, .int .u8 84] 5 (10, 11))
  have hB4 := hB3.alloc (by simp; omega) (.cells #[.int .u8 77, .int .u8 85, .int .u8 76, .int .u8 84, .int .u8 73, .int .u8 80, .int .u8 79, .int .u8 73, .int .u8 78, .int .u8 84] 5 (10, 11))
  have hc4 := hasW_any t 4 _ w.heap.size _ hu4 hk4
  rw [h4] at hc4
  have hv5 := Go.Joins.run_convert_bytes_const_at (P := Tryz.prog) ((((w1.alloc (.cells #[.int .u8 80, .int .u8 79, .int .u8 73, .int .u8 78, .int .u8 84] 5 (5, 6))).alloc (.cells #[.int .u8 76, .int .u8 73, .int .u8 78, .int .u8 69, .int .u8 83, .int .u8 84, .int .u8 82, .int .u8 73, .int .u8 78, .int .u8 71] 5 (10, 11))).alloc (.cells #[.int .u8 80, .int .u8 79, .int .u8 76, .int .u8 89, .int .u8 71, .int .u8 79, .int .u8 78] 5 (7, 8))).alloc (.cells #[.int .u8 77, .int .u8 85, .int .u8 76, .int .u8 84, .int .u8 73, .int .u8 80, .int .u8 79, .int .u8 73, .int .u8 78, .int .u8 84] 5 (10, 11))) 92 5 #[.int .u8 77, .int .u8 85, .int .u8 76, .int .u8 84, .int .u8 73, .int .u8 76, .int .u8 73, .int .u8 78, .int .u8 69, .int .u8 83, .int .u8 84, .int .u8 82, .int .u8 73, .int .u8 78, .int .u8 71] 15 15 (w1.heap.size + 4) (by simp) Tryz.underlying92 Tryz.underlying5
  have hk5 := blk_new_at ((((w1.alloc (.cells #[.int .u8 80, .int .u8 79, .int .u8 73, .int .u8 78, .int .u8 84] 5 (5, 6))).alloc (.cells #[.int .u8 76, .int .u8 73, .int .u8 78, .int .u8 69, .int .u8 83, .int .u8 84, .int .u8 82, .int .u8 73, .int .u8 78, .int .u8 71] 5 (10, 11))).alloc (.cells #[.int .u8 80, .int .u8 79, .int .u8 76, .int .u8 89, .int .u8 71, .int .u8 79, .int .u8 78] 5 (7, 8))).alloc (.cells #[.int .u8 77, .int .u8 85, .int .u8 76, .int .u8 84, .int .u8 73, .int .u8 80, .int .u8 79, .int .u8 73, .int .u8 78, .int .u8 84] 5 (10, 11))) (.cells #[.int .u8 77, .int .u8 85, .int .u8 76, .int .u8 84, .int .u8 73, .int .u8 76, .int .u8 73, .int .u8 78, .int .u8 69, .int .u8 83, .int .u8 84, .int .u8 82, .int .u8 73, .int .u8 78, .int .u8 71] 5 (15, 16)) (w1.heap.size + 4) (by simp)
  have hu5 := blk_alloc hu4 (.cells #[.int .u8 77, .int .u8 85, .int .u8 76, .int .u8 84, .int .u8 73, .int .u8 76, .int .u8 73, .int .u8 78, .int .u8 69, .int .u8 83, .int .u8 84, .int .u8 82, .int .u8 73, .int .u8 78, .int .u8 71] 5 (15, 16))
  have hB5 := hB4.alloc (by simp; omega) (.cells #[.int .u8 77, .int .u8 85, .int .u8 76, .int .u8 84, .int .u8 73, .int .u8 76, .int .u8 73, .int .u8 78, .int .u8 69, .int .u8 83, .int .u8 84, .int .u8 82, .int .u8 73, .int .u8 78, .int .u8 71] 5 (15, 16))
  have hc5 := hasW_any t 5 _ w.heap.size _ hu5 hk5
  rw [h5] at hc5
  have hv6 := Go.Joins.run_convert_bytes_const_at (P := Tryz.prog) (((((w1.alloc (.cells #[.int .u8 80, .int .u8 79, .int .u8 73, .int .u8 78, .int .u8 84] 5 (5, 6))).alloc (.cells #[.int .u8 76, .int .u8 73, .int .u8 78, .int .u8 69, .int .u8 83, .int .u8 84, .int .u8 82, .int .u8 73, .int .u8 78, .int .u8 71] 5 (10, 11))).alloc (.cells #[.int .u8 80, .int .u8 79, .int .u8 76, .int .u8 89, .int .u8 71, .int .u8 79, .int .u8 78] 5 (7, 8))).alloc (.cells #[.int .u8 77, .int .u8 85, .int .u8 76, .int .u8 84, .int .u8 73, .int .u8 80, .int .u8 79, .int .u8 73, .int .u8 78, .int .u8 84] 5 (10, 11))).alloc (.cells #[.int .u8 77, .int .u8 85, .int .u8 76, .int .u8 84, .int .u8 73, .int .u8 76, .int .u8 73, .int .u8 78, .int .u8 69, .int .u8 83, .int .u8 84, .int .u8 82, .int .u8 73, .int .u8 78, .int .u8 71] 5 (15, 16))) 92 5 #[.int .u8 77, .int .u8 85, .int .u8 76, .int .u8 84, .int .u8 73, .int .u8 80, .int .u8 79, .int .u8 76, .int .u8 89, .int .u8 71, .int .u8 79, .int .u8 78] 12 12 (w1.heap.size + 5) (by simp) Tryz.underlying92 Tryz.underlying5
  have hk6 := blk_new_at (((((w1.alloc (.cells #[.int .u8 80, .int .u8 79, .int .u8 73, .int .u8 78, .int .u8 84] 5 (5, 6))).alloc (.cells #[.int .u8 76, .int .u8 73, .int .u8 78, .int .u8 69, .int .u8 83, .int .u8 84, .int .u8 82, .int .u8 73, .int .u8 78, .int .u8 71] 5 (10, 11))).alloc (.cells #[.int .u8 80, .int .u8 79, .int .u8 76, .int .u8 89, .int .u8 71, .int .u8 79, .int .u8 78] 5 (7, 8))).alloc (.cells #[.int .u8 77, .int .u8 85, .int .u8 76, .int .u8 84, .int .u8 73, .int .u8 80, .int .u8 79, .int .u8 73, .int .u8 78, .int .u8 84] 5 (10, 11))).alloc (.cells #[.int .u8 77, .int .u8 85, .int .u8 76, .int .u8 84, .int .u8 73, .int .u8 76, .int .u8 73, .int .u8 78, .int .u8 69, .int .u8 83, .int .u8 84, .int .u8 82, .int .u8 73, .int .u8 78, .int .u8 71] 5 (15, 16))) (.cells #[.int .u8 77, .int .u8 85, .int .u8 76, .int .u8 84, .int .u8 73, .int .u8 80, .int .u8 79, .int .u8 76, .int .u8 89, .int .u8 71, .int .u8 79, .int .u8 78] 5 (12, 13)) (w1.heap.size + 5) (by simp)
  have hu6 := blk_alloc hu5 (.cells #[.int .u8 77, .int .u8 85, .int .u8 76, .int .u8 84, .int .u8 73, .int .u8 80, .int .u8 79, .int .u8 76, .int .u8 89, .int .u8 71, .int .u8 79, .int .u8 78] 5 (12, 13))
  have hB6 := hB5.alloc (by simp; omega) (.cells #[.int .u8 77, .int .u8 85, .int .u8 76, .int .u8 84, .int .u8 73, .int .u8 80, .int .u8 79, .int .u8 76, .int .u8 89, .int .u8 71, .int .u8 79, .int .u8 78] 5 (12, 13))
  have hc6 := hasW_any t 6 _ w.heap.size _ hu6 hk6
  rw [h6] at hc6
  have hv7 := Go.Joins.run_convert_bytes_const_at (P := Tryz.prog) ((((((w1.alloc (.cells #[.int .u8 80, .int .u8 79, .int .u8 73, .int .u8 78, .int .u8 84] 5 (5, 6))).alloc (.cells #[.int .u8 76, .int .u8 73, .int .u8 78, .int .u8 69, .int .u8 83, .int .u8 84, .int .u8 82, .int .u8 73, .int .u8 78, .int .u8 71] 5 (10, 11))).alloc (.cells #[.int .u8 80, .int .u8 79, .int .u8 76, .int .u8 89, .int .u8 71, .int .u8 79, .int .u8 78] 5 (7, 8))).alloc (.cells #[.int .u8 77, .int .u8 85, .int .u8 76, .int .u8 84, .int .u8 73, .int .u8 80, .int .u8 79, .int .u8 73, .int .u8 78, .int .u8 84] 5 (10, 11))).alloc (.cells #[.int .u8 77, .int .u8 85, .int .u8 76, .int .u8 84, .int .u8 73, .int .u8 76, .int .u8 73, .int .u8 78, .int .u8 69, .int .u8 83, .int .u8 84, .int .u8 82, .int .u8 73, .int .u8 78, .int .u8 71] 5 (15, 16))).alloc (.cells #[.int .u8 77, .int .u8 85, .int .u8 76, .int .u8 84, .int .u8 73, .int .u8 80, .int .u8 79, .int .u8 76, .int .u8 89, .int .u8 71, .int .u8 79, .int .u8 78] 5 (12, 13))) 92 5 #[.int .u8 71, .int .u8 69, .int .u8 79, .int .u8 77, .int .u8 69, .int .u8 84, .int .u8 82, .int .u8 89, .int .u8 67, .int .u8 79, .int .u8 76, .int .u8 76, .int .u8 69, .int .u8 67, .int .u8 84, .int .u8 73, .int .u8 79, .int .u8 78] 18 18 (w1.heap.size + 6) (by simp) Tryz.underlying92 Tryz.underlying5
  have hk7 := blk_new_at ((((((w1.alloc (.cells #[.int .u8 80, .int .u8 79, .int .u8 73, .int .u8 78, .int .u8 84] 5 (5, 6))).alloc (.cells #[.int .u8 76, .int .u8 73, .int .u8 78, .int .u8 69, .int .u8 83, .int .u8 84, .int .u8 82, .int .u8 73, .int .u8 78, .int .u8 71] 5 (10, 11))).alloc (.cells #[.int .u8 80, .int .u8 79, .int .u8 76, .int .u8 89, .int .u8 71, .int .u8 79, .int .u8 78] 5 (7, 8))).alloc (.cells #[.int .u8 77, .int .u8 85, .int .u8 76, .int .u8 84, .int .u8 73, .int .u8 80, .int .u8 79, .int .u8 73, .int .u8 78, .int .u8 84] 5 (10, 11))).alloc (.cells #[.int .u8 77, .int .u8 85, .int .u8 76, .int .u8 84, .int .u8 73, .int .u8 76, .int .u8 73, .int .u8 78, .int .u8 69, .int .u8 83, .int .u8 84, .int .u8 82, .int .u8 73, .int .u8 78, .int .u8 71] 5 (15, 16))).alloc (.cells #[.int .u8 77, .int .u8 85, .int .u8 76, .int .u8 84, .int .u8 73, .int .u8 80, .int .u8 79, .int .u8 76, .int .u8 89, .int .u8 71, .int .u8 79, .int .u8 78] 5 (12, 13))) (.cells #[.int .u8 71, .int .u8 69, .int .u8 79, .int .u8 77, .int .u8 69, .int .u8 84, .int .u8 82, .int .u8 89, .int .u8 67, .int .u8 79, .int .u8 76, .int .u8 76, .int .u8 69, .int .u8 67, .int .u8 84, .int .u8 73, .int .u8 79, .int .u8 78] 5 (18, 19)) (w1.heap.size + 6) (by simp)
  have hu7 := blk_alloc hu6 (.cells #[.int .u8 71, .int .u8 69, .int .u8 79, .int .u8 77, .int .u8 69, .int .u8 84, .int .u8 82, .int .u8 89, .int .u8 67, .int .u8 79, .int .u8 76, .int .u8 76, .int .u8 69, .int .u8 67, .int .u8 84, .int .u8 73, .int .u8 79, .int .u8 78] 5 (18, 19))
  have hB7 := hB6.alloc (by simp; omega) (.cells #[.int .u8 71, .int .u8 69, .int .u8 79, .int .u8 77, .int .u8 69, .int .u8 84, .int .u8 82, .int .u8 89, .int .u8 67, .int .u8 79, .int .u8 76, .int .u8 76, .int .u8 69, .int .u8 67, .int .u8 84, .int .u8 73, .int .u8 79, .int .u8 78] 5 (18, 19))
  have hc7 := hasW_any t 7 _ w.heap.size _ hu7 hk7
  rw [h7] at hc7
  have hg1 := hg.low hB7
  obtain ⟨u, v, he1⟩ := hg1.e1
  have HB := Lib.hid hB7
  clear hk1 hu1 hk2 hu2 hk3 hu3 hk4 hu4 hk5 hu5 hk6 hu6 hk7 hu7 hu hB1 hB2 hB3 hB4 hB5 hB6 hB7 hb1 h1 h2 h3 h4 h5 h6 h7 hg1
  go_wp2_with fail
  refine hc1.mono ?_
  rintro e w' ⟨rfl, rfl⟩
  clear hc1 hv1
  go_wp2_with fail
  refine hc2.mono ?_
  rintro e w' ⟨rfl, rfl⟩
  clear hc2 hv2
  go_wp2_with fail
  refine hc3.mono ?_
  rintro e w' ⟨rfl, rfl⟩
  clear hc3 hv3
  go_wp2_with fail
  refine hc4.mono ?_
  rintro e w' ⟨rfl, rfl⟩
  clear hc4 hv4
  go_wp2_with fail
  refine hc5.mono ?_
  rintro e w' ⟨rfl, rfl⟩
  clear hc5 hv5
  go_wp2_with fail
  refine hc6.mono ?_
  rintro e w' ⟨rfl, rfl⟩
  clear hc6 hv6
  go_wp2_with fail
  refine hc7.mono ?_
  rintro e w' ⟨rfl, rfl⟩
  clear hc7 hv7
  go_wp2_with fail
  go_quiet (fail)
  go_wp2
  go_ret2
  exact ⟨⟨_, _, rfl⟩, pw_below_drewN HB.out _⟩
end Go.Proofs.YtghajgdiaopioaaGreatDoor
end
