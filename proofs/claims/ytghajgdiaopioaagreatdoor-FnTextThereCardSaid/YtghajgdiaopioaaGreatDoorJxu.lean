/- Walks and plain laws joined (Hm). Conditions: stand in each law. -/
import Derived.Test.YtghajgdiaopioaaGreatDoorJu
set_option linter.unusedVariables false
set_option linter.unusedSimpArgs false
section
/- Walks: shortFloat on subnormal floats. Conditions: stand in each contract. -/
namespace Go.Proofs.YtghajgdiaopioaaGreatDoor
open Go.RowKit Go.Proofs Tx
open Go.Proofs.YtghajgdiaopioaaGreatDoorW.PrintWords
set_option maxRecDepth 100000 in
set_option maxHeartbeats 2000000 in
theorem sfA2_any (m : Nat) (w : World) (hm : m = 9223372036854775808)
    (odd hi lo sh q : Nat) (hsh : (sh : Int) = -((-1085) + 1076 + 3)) (hs64 : sh < 64)
    (hodd : odd = m / 2048 % 2) (hq : q = 672)
    (hhi : hi < 18446744073709551616) (hlo : lo < 18446744073709551616) (hhi2 : 9223372036854775808 ≤ hi)
    (h22 : 22 < w.heap.size)
    (h0 : w.cell? ⟨22, q * 2, none⟩ = some (.int .u64 hi)) (h1 : w.cell? ⟨22, q * 2 + 1, none⟩ = some (.int .u64 lo))
    (x1 x2 x3 : Nat) (hx1 : x1 = uscN (m - 1024) hi lo sh) (hx2 : x2 = uscN (m + 1024) hi lo sh) (hx3 : x3 = uscN m hi lo sh)
    (hb1 : 2 ≤ x1 ∧ x1 < 4611686018427387904) (hb2 : 2 ≤ x2 ∧ x2 < 4611686018427387904) (hb3 : 2 ≤ x3 ∧ x3 < 4611686018427387904) :
    Calls Tryz.prog 158 #[.int .u64 m, .int .i64 (-1085)] w fun r w' => r = .returned (.tuple #[.int .u64 (sfEnd m (m - 1024) (m + 1024) odd hi lo sh 324).1, .int .i64 (sfEnd m (m - 1024) (m + 1024) odd hi lo sh 324).2]) ∧ Below w.heap.size w w' := by
  have hW := blk_new w (.cells #[.int .u64 0, .int .u64 0, .int .i64 0] 246 (0, 0))
  have c0 := cell_below h0 (below_alloc1 w (.cells #[.int .u64 0, .int .u64 0, .int .i64 0] 246 (0, 0))) h22
  have c1 := cell_below h1 (below_alloc1 w (.cells #[.int .u64 0, .int .u64 0, .int .i64 0] 246 (0, 0))) h22
  have hl10 := l10_any (-1074) w (by omega) (by omega)
  have hcl : (-1074 * 78913 / 262144 : Int) = -324 := by decide
  rw [hcl] at hl10
  clear hcl
  have hl2 := l2_any 324 (w.alloc (.cells #[.int .u64 0, .int .u64 0, .int .i64 0] 246 (0, 0))) (by omega) (by omega)
  have hcl : (324 * 108853 / 32768 : Int) = 1076 := by decide
  rw [hcl] at hl2
  clear hcl
  have hpre := pre_any w.heap.size (-1085) 324 1076 (w.alloc (.cells #[.int .u64 0, .int .u64 0, .int .i64 0] 246 (0, 0))) _ _ _ hi lo h22 (by omega) (by omega) (by omega) hW q (by omega) c0 c1
  rw [← hsh] at hpre
  have hne : ((m : Int) == 9223372036854775808) = true := by rw [hm]; rfl
  have HM := Lib.hid hm
  have hmb : 9223372036854775808 ≤ m ∧ m + 1024 < 18446744073709551616 := by omega
  clear hm
  have hge : ∀ x : Nat, 4611686018427387904 ≤ x → 1 ≤ x * hi / 18446744073709551616 := by
    intro x hx
    have : 4611686018427387904 * 9223372036854775808 ≤ x * hi := Nat.mul_le_mul hx hhi2
    omega
  obtain ⟨a, ha⟩ : ∃ a, a = m - 1024 := ⟨_, rfl⟩
  obtain ⟨c, hc⟩ : ∃ c, c = m + 1024 := ⟨_, rfl⟩
  have hA : (m : Int) - 1024 = (a : Int) := by omega
  have hC : (m : Int) + 1024 = (c : Int) := by omega
  rw [← ha, ← hc]
  rw [← ha] at hx1
  rw [← hc] at hx2
  have hodd1 : odd ≤ 1 := by omega
  have hO : (m : Int) / 2048 % 2 = (odd : Int) := by omega
  have hand : bits BinOp.and IntKind.i64 ((m : Int) / 2048) 1 = (odd : Int) := by
    rw [← hO, i64_one]
  clear hO hodd
  have HX1 := Lib.hid hx1
  have HX2 := Lib.hid hx2
  have HX3 := Lib.hid hx3
  clear hx1 hx2 hx3
  have HA := Lib.hid ha
  have HC := Lib.hid hc
  clear ha hc
  go_enter Tryz.func158, Tryz.ntmps158
  go_wp2_with fail
  refine hl10.mono ?_
  rintro e' w' ⟨rfl, rfl⟩
  go_wp2_with fail
  clear hl10
  refine hl2.mono ?_
  rintro e' w' ⟨rfl, rfl⟩
  clear hl2 hand
  go_wp2_with fail
  refine hpre.mono ?_
  rintro e' w1 ⟨rfl, hk1, hB1⟩
  clear hpre c0 c1 hW
  have hB1' := (below_alloc1 w (.cells #[.int .u64 0, .int .u64 0, .int .i64 0] 246 (0, 0))).trans hB1
  have hsz : w.heap.size < w1.heap.size := by
    rcases Nat.lt_or_ge w.heap.size w1.heap.size with h | h
    · exact h
    · rw [Array.getElem?_eq_none h] at hk1; cases hk1
  have hus1 := usc_any a hi lo sh w.heap.size w1 (by have := HA.out; omega) hhi hlo hs64 (hge _ (by have := HA.out; omega)) hk1
  rw [← HX1.out] at hus1
  go_wp2_with fail
  refine hus1.mono ?_
  rintro e' w2 ⟨rfl, hB2⟩
  clear hus1
  have hk2 := (hB2.block _ hsz).trans hk1
  have hB2' := hB1'.trans (hB2.mono (Nat.le_of_lt hsz))
  have hsz2 : w.heap.size < w2.heap.size := Nat.lt_of_lt_of_le hsz hB2.size
  have hn1 := nudge_any x1 odd w2 hb1.1 (by omega) (by omega) (by omega)
  obtain ⟨y1, hy1⟩ : ∃ y1, y1 = x1 + odd := ⟨_, rfl⟩
  have hy1' : (x1 : Int) + odd = (y1 : Int) := by omega
  rw [hy1'] at hn1
  have HY1 := Lib.hid hy1
  have hy1b : y1 ≤ x1 + 1 := by omega
  clear hy1 hy1'
  go_wp2_with fail
  refine hn1.mono ?_
  rintro e' w' ⟨rfl, rfl⟩
  clear hn1
  have hce := ceil_any y1 w2 (by omega)
  obtain ⟨dmin, hdmin⟩ : ∃ d, d = (y1 + 3) / 4 := ⟨_, rfl⟩
  rw [← hdmin] at hce
  have HD1 := Lib.hid hdmin
  have hdminb : dmin < 4611686018427387904 := by omega
  clear hdmin
  go_wp2_with fail
  refine hce.mono ?_
  rintro e' w' ⟨rfl, rfl⟩
  clear hce
  have hus2 := usc_any c hi lo sh w.heap.size w2 (by have := HC.out; omega) hhi hlo hs64 (hge _ (by have := HC.out; omega)) hk2
  rw [← HX2.out] at hus2
  go_wp2_with fail
  refine hus2.mono ?_
  rintro e' w3 ⟨rfl, hB3⟩
  clear hus2
  have hk3 := (hB3.block _ hsz2).trans hk2
  have hB3' := hB2'.trans (hB3.mono (Nat.le_of_lt hsz2))
  have hsz3 : w.heap.size < w3.heap.size := Nat.lt_of_lt_of_le hsz2 hB3.size
  have hn2 := nudge_any x2 (-(odd : Int)) w3 hb2.1 (by omega) (by omega) (by omega)
  obtain ⟨y2, hy2⟩ : ∃ y2, y2 = x2 - odd := ⟨_, rfl⟩
  have hy2' : (x2 : Int) + -(odd : Int) = (y2 : Int) := by omega
  rw [hy2'] at hn2
  have HY2 := Lib.hid hy2
  have hy2b : y2 ≤ x2 := by omega
  clear hy2 hy2'
  go_wp2_with fail
  refine hn2.mono ?_
  rintro e' w' ⟨rfl, rfl⟩
  clear hn2
  have hfl := floor_any y2 w3 (by omega)
  obtain ⟨dmax, hdmax⟩ : ∃ d, d = y2 / 4 := ⟨_, rfl⟩
  rw [← hdmax] at hfl
  have HD2 := Lib.hid hdmax
  have hdmaxb : dmax < 4611686018427387904 := by omega
  clear hdmax
  go_wp2_with fail
  refine hfl.mono ?_
  rintro e' w' ⟨rfl, rfl⟩
  clear hfl
  have hE : sfEnd m a c odd hi lo sh 324 = if dmin ≤ dmax / 10 * 10 then (dmax / 10, -(324 - 1)) else if dmin < dmax then ((x3 + 1 + x3 / 4 % 2) / 4, -324) else (dmin, -324) := by
    unfold sfEnd
    rw [← HX1.out, ← HX2.out, ← HX3.out, ← HY1.out, ← HY2.out, ← HD1.out, ← HD2.out]
  have HE := Lib.hid hE
  clear hE
  obtain ⟨t, ht⟩ : ∃ t, t = dmax / 10 := ⟨_, rfl⟩
  have htI : (dmax : Int) / 10 = (t : Int) := by omega
  have htb : t ≤ dmax := by omega
  have HT := Lib.hid ht
  clear ht
  by_cases hc1 : dmin ≤ t * 10
  · have HF := Lib.hid hc1
    have HR : sfEnd m a c odd hi lo sh 324 = (t, -(324 - 1)) := by rw [HE.out, ← HT.out, if_pos hc1]
    have HR' := Lib.hid HR
    clear HR
    have hcI : ((dmin : Int) ≤ (t : Int) * 10) = True := by simp; omega
    go_wp2_with fail
    ((try simp only [Exit.inBlock, Exit.then]); refine bodyPost_ret (results_tmp2 rfl _ _ _) rfl ?_)
    exact ⟨by rw [HR'.out]; rfl, hB3'⟩
  · have HF := Lib.hid hc1
    have hcI : ((dmin : Int) ≤ (t : Int) * 10) = False := by simp; omega
    by_cases hc2 : dmin < dmax
    · have HR : sfEnd m a c odd hi lo sh 324 = ((x3 + 1 + x3 / 4 % 2) / 4, -324) := by rw [HE.out, ← HT.out, if_neg hc1, if_pos hc2]
      have HR' := Lib.hid HR
      clear HR
      have hcJ : ((dmin : Int) < (dmax : Int)) = True := by simp; omega
      have hus3 := usc_any m hi lo sh w.heap.size w3 (by omega) hhi hlo hs64 (hge _ (by omega)) hk3
      rw [← HX3.out] at hus3
      go_wp2_with fail
      refine hus3.mono ?_
      rintro e' w4 ⟨rfl, hB4⟩
      clear hus3
      have hB4' := hB3'.trans (hB4.mono (Nat.le_of_lt hsz3))
      have hro := round_any x3 w4 (by omega)
      go_wp2_with fail
      refine hro.mono ?_
      rintro e' w' ⟨rfl, rfl⟩
      clear hro
      go_wp2_with fail
      ((try simp only [Exit.inBlock, Exit.then]); refine bodyPost_ret (results_tmp2 rfl _ _ _) rfl ?_)
      exact ⟨by rw [HR'.out]; simp only [Array.getD_eq_getD_getElem?]; push_cast; rfl, hB4'⟩
    · have HR : sfEnd m a c odd hi lo sh 324 = (dmin, -324) := by rw [HE.out, ← HT.out, if_neg hc1, if_neg hc2]
      have HR' := Lib.hid HR
      clear HR
      have hcJ : ((dmin : Int) < (dmax : Int)) = False := by simp; omega
      go_wp2_with fail
      ((try simp only [Exit.inBlock, Exit.then]); refine bodyPost_ret (results_tmp2 rfl _ _ _) rfl ?_)
      exact ⟨by rw [HR'.out]; rfl, hB3'⟩
set_option maxRecDepth 100000 in
set_option maxHeartbeats 2000000 in
theorem sfC0_any (m z : Nat) (w : World) (hz : 12 ≤ z) (hz2 : z ≤ 63) (hm : 9223372036854775808 < m) (hm2 : m + 2 ^ (z - 1) < 18446744073709551616)
    (odd hi lo sh q : Nat) (hsh : (sh : Int) = -((-1074 - (z : Int)) + 1076 + 3)) (hs64 : sh < 64)
    (hodd : odd = m / 2 ^ z % 2) (hq : q = 672)
    (hhi : hi < 18446744073709551616) (hlo : lo < 18446744073709551616) (hhi2 : 9223372036854775808 ≤ hi)
    (h22 : 22 < w.heap.size)
    (h0 : w.cell? ⟨22, q * 2, none⟩ = some (.int .u64 hi)) (h1 : w.cell? ⟨22, q * 2 + 1, none⟩ = some (.int .u64 lo))
    (x1 x2 x3 : Nat) (hx1 : x1 = uscN (m - 2 ^ (z - 1)) hi lo sh) (hx2 : x2 = uscN (m + 2 ^ (z - 1)) hi lo sh) (hx3 : x3 = uscN m hi lo sh)
    (hb1 : 2 ≤ x1 ∧ x1 < 4611686018427387904) (hb2 : 2 ≤ x2 ∧ x2 < 4611686018427387904) (hb3 : 2 ≤ x3 ∧ x3 < 4611686018427387904) :
    Calls Tryz.prog 158 #[.int .u64 m, .int .i64 (-1074 - (z : Int))] w fun r w' => r = .returned (.tuple #[.int .u64 (sfEnd m (m - 2 ^ (z - 1)) (m + 2 ^ (z - 1)) odd hi lo sh 324).1, .int .i64 (sfEnd m (m - 2 ^ (z - 1)) (m + 2 ^ (z - 1)) odd hi lo sh 324).2]) ∧ Below w.heap.size w w' := by
  have hW := blk_new w (.cells #[.int .u64 0, .int .u64 0, .int .i64 0] 246 (0, 0))
  have c0 := cell_below h0 (below_alloc1 w (.cells #[.int .u64 0, .int .u64 0, .int .i64 0] 246 (0, 0))) h22
  have c1 := cell_below h1 (below_alloc1 w (.cells #[.int .u64 0, .int .u64 0, .int .i64 0] 246 (0, 0))) h22
  have hl10 := l10_any (-1074) w (by omega) (by omega)
  have hcl : (-1074 * 78913 / 262144 : Int) = -324 := by decide
  rw [hcl] at hl10
  clear hcl
  have hl2 := l2_any 324 (w.alloc (.cells #[.int .u64 0, .int .u64 0, .int .i64 0] 246 (0, 0))) (by omega) (by omega)
  have hcl : (324 * 108853 / 32768 : Int) = 1076 := by decide
  rw [hcl] at hl2
  clear hcl
  have hpre := pre_any w.heap.size (-1074 - (z : Int)) 324 1076 (w.alloc (.cells #[.int .u64 0, .int .u64 0, .int .i64 0] 246 (0, 0))) _ _ _ hi lo h22 (by omega) (by omega) (by omega) hW q (by omega) c0 c1
  rw [← hsh] at hpre
  have hne : ((m : Int) == 9223372036854775808) = false := by rw [beq_eq_false_iff_ne]; omega
  have f1 : (11 + (-1085 - (-1074 - (z : Int)))) = z := by omega
  have f2 : -1074 - (z : Int) + z = -1074 := by omega
  have f3 : ((-1085 : Int) < -1074 - (z : Int)) = False := eq_false (by omega)
  have f4 : ((-1085 : Int) ≤ -1074 - (z : Int)) = False := eq_false (by omega)
  have hge : ∀ x : Nat, 4611686018427387904 ≤ x → 1 ≤ x * hi / 18446744073709551616 := by
    intro x hx
    have : 4611686018427387904 * 9223372036854775808 ≤ x * hi := Nat.mul_le_mul hx hhi2
    omega
  obtain ⟨a, ha⟩ : ∃ a, a = m - 2 ^ (z - 1) := ⟨_, rfl⟩
  obtain ⟨c, hc⟩ : ∃ c, c = m + 2 ^ (z - 1) := ⟨_, rfl⟩
  have hpw : 2 ^ (z - 1) ≤ 4611686018427387904 := by
    have : 2 ^ (z - 1) ≤ 2 ^ 62 := Nat.pow_le_pow_right (by decide) (by omega)
    simpa using this
  obtain ⟨W2, hW2⟩ : ∃ W2 : Nat, W2 = 2 ^ (z - 1) := ⟨_, rfl⟩
  rw [← hW2] at ha
  rw [← hW2] at hc
  rw [← hW2] at hpw
  rw [← hW2] at hm2
  rw [← hW2] at hx1
  rw [← hW2] at hx2
  rw [← hW2]
  have hA : (m : Int) - W2 = (a : Int) := by omega
  have hC : (m : Int) + W2 = (c : Int) := by omega
  have f5 : IntKind.u64.wrap ((2 : Int) ^ (z - 1)) = (W2 : Int) := by
    rw [show (2 : Int) ^ (z - 1) = (W2 : Int) from by rw [hW2]; push_cast; rfl, IntKind.wrap_u64]; omega
  have f6 : IntKind.u64.wrap ((m : Int) - (W2 : Int)) = (a : Int) := by rw [IntKind.wrap_u64]; omega
  have f7 : IntKind.u64.wrap ((m : Int) + (W2 : Int)) = (c : Int) := by rw [IntKind.wrap_u64]; omega
  clear hW2
  rw [← ha, ← hc]
  rw [← ha] at hx1
  rw [← hc] at hx2
  have hodd1 : odd ≤ 1 := by rw [hodd]; omega
  have hO : ((m / 2 ^ z : Nat) : Int) % 2 = (odd : Int) := by rw [hodd]; omega
  have f8 : wrap64 ((m : Int) / 2 ^ z) = ((m / 2 ^ z : Nat) : Int) := by
    have h1 : (m : Int) / 2 ^ z = ((m / 2 ^ z : Nat) : Int) := by push_cast; rfl
    have h2 : m / 2 ^ z ≤ m / 2 ^ 12 := Nat.div_le_div_left (Nat.pow_le_pow_right (by decide) hz) (by decide)
    rw [h1]
    generalize m / 2 ^ z = M at h2 ⊢
    unfold wrap64
    omega
  have hand : bits BinOp.and IntKind.i64 ((m / 2 ^ z : Nat) : Int) 1 = (odd : Int) := by
    rw [← hO, i64_one]
  rw [← f8] at hand
  clear f8 hO
  clear hodd
  have HX1 := Lib.hid hx1
  have HX2 := Lib.hid hx2
  have HX3 := Lib.hid hx3
  clear hx1 hx2 hx3
  have HA := Lib.hid ha
  have HC := Lib.hid hc
  clear ha hc
  go_enter Tryz.func158, Tryz.ntmps158
  go_wp2_with fail
  refine hl10.mono ?_
  rintro e' w' ⟨rfl, rfl⟩
  go_wp2_with fail
  clear hl10
  refine hl2.mono ?_
  rintro e' w' ⟨rfl, rfl⟩
  clear hl2 hand
  go_wp2_with fail
  refine hpre.mono ?_
  rintro e' w1 ⟨rfl, hk1, hB1⟩
  clear hpre c0 c1 hW
  have hB1' := (below_alloc1 w (.cells #[.int .u64 0, .int .u64 0, .int .i64 0] 246 (0, 0))).trans hB1
  have hsz : w.heap.size < w1.heap.size := by
    rcases Nat.lt_or_ge w.heap.size w1.heap.size with h | h
    · exact h
    · rw [Array.getElem?_eq_none h] at hk1; cases hk1
  have hus1 := usc_any a hi lo sh w.heap.size w1 (by have := HA.out; omega) hhi hlo hs64 (hge _ (by have := HA.out; omega)) hk1
  rw [← HX1.out] at hus1
  go_wp2_with fail
  refine hus1.mono ?_
  rintro e' w2 ⟨rfl, hB2⟩
  clear hus1
  have hk2 := (hB2.block _ hsz).trans hk1
  have hB2' := hB1'.trans (hB2.mono (Nat.le_of_lt hsz))
  have hsz2 : w.heap.size < w2.heap.size := Nat.lt_of_lt_of_le hsz hB2.size
  have hn1 := nudge_any x1 odd w2 hb1.1 (by omega) (by omega) (by omega)
  obtain ⟨y1, hy1⟩ : ∃ y1, y1 = x1 + odd := ⟨_, rfl⟩
  have hy1' : (x1 : Int) + odd = (y1 : Int) := by omega
  rw [hy1'] at hn1
  have HY1 := Lib.hid hy1
  have hy1b : y1 ≤ x1 + 1 := by omega
  clear hy1 hy1'
  go_wp2_with fail
  refine hn1.mono ?_
  rintro e' w' ⟨rfl, rfl⟩
  clear hn1
  have hce := ceil_any y1 w2 (by omega)
  obtain ⟨dmin, hdmin⟩ : ∃ d, d = (y1 + 3) / 4 := ⟨_, rfl⟩
  rw [← hdmin] at hce
  have HD1 := Lib.hid hdmin
  have hdminb : dmin < 4611686018427387904 := by omega
  clear hdmin
  go_wp2_with fail
  refine hce.mono ?_
  rintro e' w' ⟨rfl, rfl⟩
  clear hce
  have hus2 := usc_any c hi lo sh w.heap.size w2 (by have := HC.out; omega) hhi hlo hs64 (hge _ (by have := HC.out; omega)) hk2
  rw [← HX2.out] at hus2
  go_wp2_with fail
  refine hus2.mono ?_
  rintro e' w3 ⟨rfl, hB3⟩
  clear hus2
  have hk3 := (hB3.block _ hsz2).trans hk2
  have hB3' := hB2'.trans (hB3.mono (Nat.le_of_lt hsz2))
  have hsz3 : w.heap.size < w3.heap.size := Nat.lt_of_lt_of_le hsz2 hB3.size
  have hn2 := nudge_any x2 (-(odd : Int)) w3 hb2.1 (by omega) (by omega) (by omega)
  obtain ⟨y2, hy2⟩ : ∃ y2, y2 = x2 - odd := ⟨_, rfl⟩
  have hy2' : (x2 : Int) + -(odd : Int) = (y2 : Int) := by omega
  rw [hy2'] at hn2
  have HY2 := Lib.hid hy2
  have hy2b : y2 ≤ x2 := by omega
  clear hy2 hy2'
  go_wp2_with fail
  refine hn2.mono ?_
  rintro e' w' ⟨rfl, rfl⟩
  clear hn2
  have hfl := floor_any y2 w3 (by omega)
  obtain ⟨dmax, hdmax⟩ : ∃ d, d = y2 / 4 := ⟨_, rfl⟩
  rw [← hdmax] at hfl
  have HD2 := Lib.hid hdmax
  have hdmaxb : dmax < 4611686018427387904 := by omega
  clear hdmax
  go_wp2_with fail
  refine hfl.mono ?_
  rintro e' w' ⟨rfl, rfl⟩
  clear hfl
  have hE : sfEnd m a c odd hi lo sh 324 = if dmin ≤ dmax / 10 * 10 then (dmax / 10, -(324 - 1)) else if dmin < dmax then ((x3 + 1 + x3 / 4 % 2) / 4, -324) else (dmin, -324) := by
    unfold sfEnd
    rw [← HX1.out, ← HX2.out, ← HX3.out, ← HY1.out, ← HY2.out, ← HD1.out, ← HD2.out]
  have HE := Lib.hid hE
  clear hE
  obtain ⟨t, ht⟩ : ∃ t, t = dmax / 10 := ⟨_, rfl⟩
  have htI : (dmax : Int) / 10 = (t : Int) := by omega
  have htb : t ≤ dmax := by omega
  have HT := Lib.hid ht
  clear ht
  by_cases hc1 : dmin ≤ t * 10
  · have HF := Lib.hid hc1
    have HR : sfEnd m a c odd hi lo sh 324 = (t, -(324 - 1)) := by rw [HE.out, ← HT.out, if_pos hc1]
    have HR' := Lib.hid HR
    clear HR
    have hcI : ((dmin : Int) ≤ (t : Int) * 10) = True := by simp; omega
    go_wp2_with fail
    ((try simp only [Exit.inBlock, Exit.then]); refine bodyPost_ret (results_tmp2 rfl _ _ _) rfl ?_)
    exact ⟨by rw [HR'.out]; rfl, hB3'⟩
  · have HF := Lib.hid hc1
    have hcI : ((dmin : Int) ≤ (t : Int) * 10) = False := by simp; omega
    by_cases hc2 : dmin < dmax
    · have HR : sfEnd m a c odd hi lo sh 324 = ((x3 + 1 + x3 / 4 % 2) / 4, -324) := by rw [HE.out, ← HT.out, if_neg hc1, if_pos hc2]
      have HR' := Lib.hid HR
      clear HR
      have hcJ : ((dmin : Int) < (dmax : Int)) = True := by simp; omega
      have hus3 := usc_any m hi lo sh w.heap.size w3 (by omega) hhi hlo hs64 (hge _ (by omega)) hk3
      rw [← HX3.out] at hus3
      go_wp2_with fail
      refine hus3.mono ?_
      rintro e' w4 ⟨rfl, hB4⟩
      clear hus3
      have hB4' := hB3'.trans (hB4.mono (Nat.le_of_lt hsz3))
      have hro := round_any x3 w4 (by omega)
      go_wp2_with fail
      refine hro.mono ?_
      rintro e' w' ⟨rfl, rfl⟩
      clear hro
      go_wp2_with fail
      ((try simp only [Exit.inBlock, Exit.then]); refine bodyPost_ret (results_tmp2 rfl _ _ _) rfl ?_)
      exact ⟨by rw [HR'.out]; simp only [Array.getD_eq_getD_getElem?]; push_cast; rfl, hB4'⟩
    · have HR : sfEnd m a c odd hi lo sh 324 = (dmin, -324) := by rw [HE.out, ← HT.out, if_neg hc1, if_neg hc2]
      have HR' := Lib.hid HR
      clear HR
      have hcJ : ((dmin : Int) < (dmax : Int)) = False := by simp; omega
      go_wp2_with fail
      ((try simp only [Exit.inBlock, Exit.then]); refine bodyPost_ret (results_tmp2 rfl _ _ _) rfl ?_)
      exact ⟨by rw [HR'.out]; rfl, hB3'⟩
set_option maxRecDepth 100000 in
set_option maxHeartbeats 2000000 in
theorem sfC1_any (m z : Nat) (w : World) (hz : 12 ≤ z) (hz2 : z ≤ 63) (hm : m = 9223372036854775808) (hm2 : m + 2 ^ (z - 1) < 18446744073709551616)
    (odd hi lo sh q : Nat) (hsh : (sh : Int) = -((-1074 - (z : Int)) + 1076 + 3)) (hs64 : sh < 64)
    (hodd : odd = m / 2 ^ z % 2) (hq : q = 672)
    (hhi : hi < 18446744073709551616) (hlo : lo < 18446744073709551616) (hhi2 : 9223372036854775808 ≤ hi)
    (h22 : 22 < w.heap.size)
    (h0 : w.cell? ⟨22, q * 2, none⟩ = some (.int .u64 hi)) (h1 : w.cell? ⟨22, q * 2 + 1, none⟩ = some (.int .u64 lo))
    (x1 x2 x3 : Nat) (hx1 : x1 = uscN (m - 2 ^ (z - 1)) hi lo sh) (hx2 : x2 = uscN (m + 2 ^ (z - 1)) hi lo sh) (hx3 : x3 = uscN m hi lo sh)
    (hb1 : 2 ≤ x1 ∧ x1 < 4611686018427387904) (hb2 : 2 ≤ x2 ∧ x2 < 4611686018427387904) (hb3 : 2 ≤ x3 ∧ x3 < 4611686018427387904) :
    Calls Tryz.prog 158 #[.int .u64 m, .int .i64 (-1074 - (z : Int))] w fun r w' => r = .returned (.tuple #[.int .u64 (sfEnd m (m - 2 ^ (z - 1)) (m + 2 ^ (z - 1)) odd hi lo sh 324).1, .int .i64 (sfEnd m (m - 2 ^ (z - 1)) (m + 2 ^ (z - 1)) odd hi lo sh 324).2]) ∧ Below w.heap.size w w' := by
  have hW := blk_new w (.cells #[.int .u64 0, .int .u64 0, .int .i64 0] 246 (0, 0))
  have c0 := cell_below h0 (below_alloc1 w (.cells #[.int .u64 0, .int .u64 0, .int .i64 0] 246 (0, 0))) h22
  have c1 := cell_below h1 (below_alloc1 w (.cells #[.int .u64 0, .int .u64 0, .int .i64 0] 246 (0, 0))) h22
  have hl10 := l10_any (-1074) w (by omega) (by omega)
  have hcl : (-1074 * 78913 / 262144 : Int) = -324 := by decide
  rw [hcl] at hl10
  clear hcl
  have hl2 := l2_any 324 (w.alloc (.cells #[.int .u64 0, .int .u64 0, .int .i64 0] 246 (0, 0))) (by omega) (by omega)
  have hcl : (324 * 108853 / 32768 : Int) = 1076 := by decide
  rw [hcl] at hl2
  clear hcl
  have hpre := pre_any w.heap.size (-1074 - (z : Int)) 324 1076 (w.alloc (.cells #[.int .u64 0, .int .u64 0, .int .i64 0] 246 (0, 0))) _ _ _ hi lo h22 (by omega) (by omega) (by omega) hW q (by omega) c0 c1
  rw [← hsh] at hpre
  have hne : ((m : Int) == 9223372036854775808) = true := by rw [hm]; rfl
  have HM := Lib.hid hm
  have hmb : 9223372036854775808 ≤ m := by omega
  clear hm
  have f1 : (11 + (-1085 - (-1074 - (z : Int)))) = z := by omega
  have f2 : -1074 - (z : Int) + z = -1074 := by omega
  have f3 : ((-1085 : Int) < -1074 - (z : Int)) = False := eq_false (by omega)
  have f4 : ((-1085 : Int) ≤ -1074 - (z : Int)) = False := eq_false (by omega)
  have hge : ∀ x : Nat, 4611686018427387904 ≤ x → 1 ≤ x * hi / 18446744073709551616 := by
    intro x hx
    have : 4611686018427387904 * 9223372036854775808 ≤ x * hi := Nat.mul_le_mul hx hhi2
    omega
  obtain ⟨a, ha⟩ : ∃ a, a = m - 2 ^ (z - 1) := ⟨_, rfl⟩
  obtain ⟨c, hc⟩ : ∃ c, c = m + 2 ^ (z - 1) := ⟨_, rfl⟩
  have hpw : 2 ^ (z - 1) ≤ 4611686018427387904 := by
    have : 2 ^ (z - 1) ≤ 2 ^ 62 := Nat.pow_le_pow_right (by decide) (by omega)
    simpa using this
  obtain ⟨W2, hW2⟩ : ∃ W2 : Nat, W2 = 2 ^ (z - 1) := ⟨_, rfl⟩
  rw [← hW2] at ha
  rw [← hW2] at hc
  rw [← hW2] at hpw
  rw [← hW2] at hm2
  rw [← hW2] at hx1
  rw [← hW2] at hx2
  rw [← hW2]
  have hA : (m : Int) - W2 = (a : Int) := by omega
  have hC : (m : Int) + W2 = (c : Int) := by omega
  have f5 : IntKind.u64.wrap ((2 : Int) ^ (z - 1)) = (W2 : Int) := by
    rw [show (2 : Int) ^ (z - 1) = (W2 : Int) from by rw [hW2]; push_cast; rfl, IntKind.wrap_u64]; omega
  have f6 : IntKind.u64.wrap ((m : Int) - (W2 : Int)) = (a : Int) := by rw [IntKind.wrap_u64]; omega
  have f7 : IntKind.u64.wrap ((m : Int) + (W2 : Int)) = (c : Int) := by rw [IntKind.wrap_u64]; omega
  clear hW2
  rw [← ha, ← hc]
  rw [← ha] at hx1
  rw [← hc] at hx2
  have hodd1 : odd ≤ 1 := by rw [hodd]; omega
  have hO : ((m / 2 ^ z : Nat) : Int) % 2 = (odd : Int) := by rw [hodd]; omega
  have f8 : wrap64 ((m : Int) / 2 ^ z) = ((m / 2 ^ z : Nat) : Int) := by
    have h1 : (m : Int) / 2 ^ z = ((m / 2 ^ z : Nat) : Int) := by push_cast; rfl
    have h2 : m / 2 ^ z ≤ m / 2 ^ 12 := Nat.div_le_div_left (Nat.pow_le_pow_right (by decide) hz) (by decide)
    rw [h1]
    generalize m / 2 ^ z = M at h2 ⊢
    unfold wrap64
    omega
  have hand : bits BinOp.and IntKind.i64 ((m / 2 ^ z : Nat) : Int) 1 = (odd : Int) := by
    rw [← hO, i64_one]
  rw [← f8] at hand
  clear f8 hO
  clear hodd
  have HX1 := Lib.hid hx1
  have HX2 := Lib.hid hx2
  have HX3 := Lib.hid hx3
  clear hx1 hx2 hx3
  have HA := Lib.hid ha
  have HC := Lib.hid hc
  clear ha hc
  go_enter Tryz.func158, Tryz.ntmps158
  go_wp2_with fail
  refine hl10.mono ?_
  rintro e' w' ⟨rfl, rfl⟩
  go_wp2_with fail
  clear hl10
  refine hl2.mono ?_
  rintro e' w' ⟨rfl, rfl⟩
  clear hl2 hand
  go_wp2_with fail
  refine hpre.mono ?_
  rintro e' w1 ⟨rfl, hk1, hB1⟩
  clear hpre c0 c1 hW
  have hB1' := (below_alloc1 w (.cells #[.int .u64 0, .int .u64 0, .int .i64 0] 246 (0, 0))).trans hB1
  have hsz : w.heap.size < w1.heap.size := by
    rcases Nat.lt_or_ge w.heap.size w1.heap.size with h | h
    · exact h
    · rw [Array.getElem?_eq_none h] at hk1; cases hk1
  have hus1 := usc_any a hi lo sh w.heap.size w1 (by have := HA.out; omega) hhi hlo hs64 (hge _ (by have := HA.out; omega)) hk1
  rw [← HX1.out] at hus1
  go_wp2_with fail
  refine hus1.mono ?_
  rintro e' w2 ⟨rfl, hB2⟩
  clear hus1
  have hk2 := (hB2.block _ hsz).trans hk1
  have hB2' := hB1'.trans (hB2.mono (Nat.le_of_lt hsz))
  have hsz2 : w.heap.size < w2.heap.size := Nat.lt_of_lt_of_le hsz hB2.size
  have hn1 := nudge_any x1 odd w2 hb1.1 (by omega) (by omega) (by omega)
  obtain ⟨y1, hy1⟩ : ∃ y1, y1 = x1 + odd := ⟨_, rfl⟩
  have hy1' : (x1 : Int) + odd = (y1 : Int) := by omega
  rw [hy1'] at hn1
  have HY1 := Lib.hid hy1
  have hy1b : y1 ≤ x1 + 1 := by omega
  clear hy1 hy1'
  go_wp2_with fail
  refine hn1.mono ?_
  rintro e' w' ⟨rfl, rfl⟩
  clear hn1
  have hce := ceil_any y1 w2 (by omega)
  obtain ⟨dmin, hdmin⟩ : ∃ d, d = (y1 + 3) / 4 := ⟨_, rfl⟩
  rw [← hdmin] at hce
  have HD1 := Lib.hid hdmin
  have hdminb : dmin < 4611686018427387904 := by omega
  clear hdmin
  go_wp2_with fail
  refine hce.mono ?_
  rintro e' w' ⟨rfl, rfl⟩
  clear hce
  have hus2 := usc_any c hi lo sh w.heap.size w2 (by have := HC.out; omega) hhi hlo hs64 (hge _ (by have := HC.out; omega)) hk2
  rw [← HX2.out] at hus2
  go_wp2_with fail
  refine hus2.mono ?_
  rintro e' w3 ⟨rfl, hB3⟩
  clear hus2
  have hk3 := (hB3.block _ hsz2).trans hk2
  have hB3' := hB2'.trans (hB3.mono (Nat.le_of_lt hsz2))
  have hsz3 : w.heap.size < w3.heap.size := Nat.lt_of_lt_of_le hsz2 hB3.size
  have hn2 := nudge_any x2 (-(odd : Int)) w3 hb2.1 (by omega) (by omega) (by omega)
  obtain ⟨y2, hy2⟩ : ∃ y2, y2 = x2 - odd := ⟨_, rfl⟩
  have hy2' : (x2 : Int) + -(odd : Int) = (y2 : Int) := by omega
  rw [hy2'] at hn2
  have HY2 := Lib.hid hy2
  have hy2b : y2 ≤ x2 := by omega
  clear hy2 hy2'
  go_wp2_with fail
  refine hn2.mono ?_
  rintro e' w' ⟨rfl, rfl⟩
  clear hn2
  have hfl := floor_any y2 w3 (by omega)
  obtain ⟨dmax, hdmax⟩ : ∃ d, d = y2 / 4 := ⟨_, rfl⟩
  rw [← hdmax] at hfl
  have HD2 := Lib.hid hdmax
  have hdmaxb : dmax < 4611686018427387904 := by omega
  clear hdmax
  go_wp2_with fail
  refine hfl.mono ?_
  rintro e' w' ⟨rfl, rfl⟩
  clear hfl
  have hE : sfEnd m a c odd hi lo sh 324 = if dmin ≤ dmax / 10 * 10 then (dmax / 10, -(324 - 1)) else if dmin < dmax then ((x3 + 1 + x3 / 4 % 2) / 4, -324) else (dmin, -324) := by
    unfold sfEnd
    rw [← HX1.out, ← HX2.out, ← HX3.out, ← HY1.out, ← HY2.out, ← HD1.out, ← HD2.out]
  have HE := Lib.hid hE
  clear hE
  obtain ⟨t, ht⟩ : ∃ t, t = dmax / 10 := ⟨_, rfl⟩
  have htI : (dmax : Int) / 10 = (t : Int) := by omega
  have htb : t ≤ dmax := by omega
  have HT := Lib.hid ht
  clear ht
  by_cases hc1 : dmin ≤ t * 10
  · have HF := Lib.hid hc1
    have HR : sfEnd m a c odd hi lo sh 324 = (t, -(324 - 1)) := by rw [HE.out, ← HT.out, if_pos hc1]
    have HR' := Lib.hid HR
    clear HR
    have hcI : ((dmin : Int) ≤ (t : Int) * 10) = True := by simp; omega
    go_wp2_with fail
    ((try simp only [Exit.inBlock, Exit.then]); refine bodyPost_ret (results_tmp2 rfl _ _ _) rfl ?_)
    exact ⟨by rw [HR'.out]; rfl, hB3'⟩
  · have HF := Lib.hid hc1
    have hcI : ((dmin : Int) ≤ (t : Int) * 10) = False := by simp; omega
    by_cases hc2 : dmin < dmax
    · have HR : sfEnd m a c odd hi lo sh 324 = ((x3 + 1 + x3 / 4 % 2) / 4, -324) := by rw [HE.out, ← HT.out, if_neg hc1, if_pos hc2]
      have HR' := Lib.hid HR
      clear HR
      have hcJ : ((dmin : Int) < (dmax : Int)) = True := by simp; omega
      have hus3 := usc_any m hi lo sh w.heap.size w3 (by omega) hhi hlo hs64 (hge _ (by omega)) hk3
      rw [← HX3.out] at hus3
      go_wp2_with fail
      refine hus3.mono ?_
      rintro e' w4 ⟨rfl, hB4⟩
      clear hus3
      have hB4' := hB3'.trans (hB4.mono (Nat.le_of_lt hsz3))
      have hro := round_any x3 w4 (by omega)
      go_wp2_with fail
      refine hro.mono ?_
      rintro e' w' ⟨rfl, rfl⟩
      clear hro
      go_wp2_with fail
      ((try simp only [Exit.inBlock, Exit.then]); refine bodyPost_ret (results_tmp2 rfl _ _ _) rfl ?_)
      exact ⟨by rw [HR'.out]; simp only [Array.getD_eq_getD_getElem?]; push_cast; rfl, hB4'⟩
    · have HR : sfEnd m a c odd hi lo sh 324 = (dmin, -324) := by rw [HE.out, ← HT.out, if_neg hc1, if_neg hc2]
      have HR' := Lib.hid HR
      clear HR
      have hcJ : ((dmin : Int) < (dmax : Int)) = False := by simp; omega
      go_wp2_with fail
      ((try simp only [Exit.inBlock, Exit.then]); refine bodyPost_ret (results_tmp2 rfl _ _ _) rfl ?_)
      exact ⟨by rw [HR'.out]; rfl, hB3'⟩
end Go.Proofs.YtghajgdiaopioaaGreatDoor
end
