/- Walks and plain laws joined (Uc, Ud, Ue, Uf, Ug, Uh, Va). Conditions: stand in each law. -/
import Derived.Test.YtghajgdiaopioaaGreatDoorJt
import GoSem.PinnedTables
import Derived.Test.YtghajgdiaopioaaGreatDoorJs
set_option linter.unusedVariables false
set_option linter.unusedSimpArgs false
section
/- Walks: shortFloat on a normal mantissa. -/
namespace Go.Proofs.YtghajgdiaopioaaGreatDoor
open Go.RowKit Go.Proofs Tx
open Go.Proofs.YtghajgdiaopioaaGreatDoorW.PrintWords
theorem i64_one (n : Int) : bits .and .i64 n 1 = n % 2 := by
  have h1 : (BitVec.ofInt 64 1).toNat = 2 ^ 1 - 1 := by decide
  have key : (BitVec.ofInt 64 n &&& BitVec.ofInt 64 1).toNat = (n % ((2 ^ 64 : Nat) : Int)).toNat % 2 ^ 1 := by
    rw [BitVec.toNat_and, BitVec.toNat_ofInt, h1, Nat.and_two_pow_sub_one_eq_mod]
  show IntKind.i64.wrap ((BitVec.ofInt 64 n &&& BitVec.ofInt 64 1).toNat : Nat) = n % 2
  rw [key, IntKind.wrap_i64]
  omega

/-- The common end of shortFloat. -/
def sfEnd (m minv maxv odd : Nat) (hi lo sh : Nat) (p : Int) : Nat × Int :=
  let dmin := (uscN minv hi lo sh + odd + 3) / 4
  let dmax := (uscN maxv hi lo sh - odd) / 4
  if dmin ≤ dmax / 10 * 10 then (dmax / 10, -(p - 1))
  else if dmin < dmax then ((uscN m hi lo sh + 1 + uscN m hi lo sh / 4 % 2) / 4, -p)
  else (dmin, -p)

set_option maxRecDepth 100000 in
set_option maxHeartbeats 2000000 in
theorem sfA_any (m : Nat) (e : Int) (w : World) (hm : 9223372036854775808 < m) (hm2 : m + 1024 < 18446744073709551616) (he : -1085 ≤ e ∧ e ≤ 1000)
    (odd hi lo sh q : Nat) (p lp : Int) (hp : p = -((e + 11) * 78913 / 262144)) (hlp : lp = p * 108853 / 32768) (hsh : (sh : Int) = -(e + lp + 3)) (hs64 : sh < 64)
    (hodd : odd = m / 2048 % 2) (hq : (q : Int) = p + 348) (hpr : -348 ≤ p ∧ p ≤ 347)
    (hhi : hi < 18446744073709551616) (hlo : lo < 18446744073709551616) (hhi2 : 9223372036854775808 ≤ hi)
    (h22 : 22 < w.heap.size)
    (h0 : w.cell? ⟨22, q * 2, none⟩ = some (.int .u64 hi)) (h1 : w.cell? ⟨22, q * 2 + 1, none⟩ = some (.int .u64 lo))
    (x1 x2 x3 : Nat) (hx1 : x1 = uscN (m - 1024) hi lo sh) (hx2 : x2 = uscN (m + 1024) hi lo sh) (hx3 : x3 = uscN m hi lo sh)
    (hb1 : 2 ≤ x1 ∧ x1 < 4611686018427387904) (hb2 : 2 ≤ x2 ∧ x2 < 4611686018427387904) (hb3 : 2 ≤ x3 ∧ x3 < 4611686018427387904) :
    Calls Tryz.prog 158 #[.int .u64 m, .int .i64 e] w fun r w' => r = .returned (.tuple #[.int .u64 (sfEnd m (m - 1024) (m + 1024) odd hi lo sh p).1, .int .i64 (sfEnd m (m - 1024) (m + 1024) odd hi lo sh p).2]) ∧ Below w.heap.size w w' := by
  have hW := blk_new w (.cells #[.int .u64 0, .int .u64 0, .int .i64 0] 246 (0, 0))
  have c0 := cell_below h0 (below_alloc1 w (.cells #[.int .u64 0, .int .u64 0, .int .i64 0] 246 (0, 0))) h22
  have c1 := cell_below h1 (below_alloc1 w (.cells #[.int .u64 0, .int .u64 0, .int .i64 0] 246 (0, 0))) h22
  have hl10 := l10_any (e + 11) w (by omega) (by omega)
  have hpI : -((e + 11) * 78913 / 262144) = p := hp.symm
  have hl2 := l2_any p (w.alloc (.cells #[.int .u64 0, .int .u64 0, .int .i64 0] 246 (0, 0))) (by omega) (by omega)
  rw [← hlp] at hl2
  have hpre := pre_any w.heap.size e p lp (w.alloc (.cells #[.int .u64 0, .int .u64 0, .int .i64 0] 246 (0, 0))) _ _ _ hi lo h22 (by omega) hpr (by omega) hW q hq c0 c1
  rw [← hsh] at hpre
  have hne : ((m : Int) == 9223372036854775808) = false := by rw [beq_eq_false_iff_ne]; omega
  have hge : ∀ x : Nat, 4611686018427387904 ≤ x → 1 ≤ x * hi / 18446744073709551616 := by
    intro x hx
    have : 4611686018427387904 * 9223372036854775808 ≤ x * hi := Nat.mul_le_mul hx hhi2
    omega
  obtain ⟨a, ha⟩ : ∃ a, a = m - 1024 := ⟨_, rfl⟩
  obtain ⟨c, hc⟩ : ∃ c, c = m + 1024 := ⟨_, rfl⟩
  have hA : (m : Int) - 1024 = (a : Int) := by omega
  have hC : (m : Int) + 1024 = (c : Int) := by omega
  rw [← ha, ← hc]
  rw [← ha] at hx1
  rw [← hc] at hx2
  have hodd1 : odd ≤ 1 := by omega
  have hO : (m : Int) / 2048 % 2 = (odd : Int) := by omega
  have hand : bits BinOp.and IntKind.i64 ((m : Int) / 2048) 1 = (odd : Int) := by
    rw [← hO, i64_one]
  clear hO hodd
  clear hp hlp
  have HX1 := Lib.hid hx1
  have HX2 := Lib.hid hx2
  have HX3 := Lib.hid hx3
  clear hx1 hx2 hx3
  have HA := Lib.hid ha
  have HC := Lib.hid hc
  clear ha hc
  go_enter Tryz.func158, Tryz.ntmps158
  go_wp2_with fail
  refine hl10.mono ?_
  rintro e' w' ⟨rfl, rfl⟩
  go_wp2_with fail
  clear hl10
  refine hl2.mono ?_
  rintro e' w' ⟨rfl, rfl⟩
  clear hl2 hpI hand
  go_wp2_with fail
  refine hpre.mono ?_
  rintro e' w1 ⟨rfl, hk1, hB1⟩
  clear hpre c0 c1 hW
  have hB1' := (below_alloc1 w (.cells #[.int .u64 0, .int .u64 0, .int .i64 0] 246 (0, 0))).trans hB1
  have hsz : w.heap.size < w1.heap.size := by
    rcases Nat.lt_or_ge w.heap.size w1.heap.size with h | h
    · exact h
    · rw [Array.getElem?_eq_none h] at hk1; cases hk1
  have hus1 := usc_any a hi lo sh w.heap.size w1 (by have := HA.out; omega) hhi hlo hs64 (hge _ (by have := HA.out; omega)) hk1
  rw [← HX1.out] at hus1
  go_wp2_with fail
  refine hus1.mono ?_
  rintro e' w2 ⟨rfl, hB2⟩
  clear hus1
  have hk2 := (hB2.block _ hsz).trans hk1
  have hB2' := hB1'.trans (hB2.mono (Nat.le_of_lt hsz))
  have hsz2 : w.heap.size < w2.heap.size := Nat.lt_of_lt_of_le hsz hB2.size
  have hn1 := nudge_any x1 odd w2 hb1.1 (by omega) (by omega) (by omega)
  obtain ⟨y1, hy1⟩ : ∃ y1, y1 = x1 + odd := ⟨_, rfl⟩
  have hy1' : (x1 : Int) + odd = (y1 : Int) := by omega
  rw [hy1'] at hn1
  have HY1 := Lib.hid hy1
  have hy1b : y1 ≤ x1 + 1 := by omega
  clear hy1 hy1'
  go_wp2_with fail
  refine hn1.mono ?_
  rintro e' w' ⟨rfl, rfl⟩
  clear hn1
  have hce := ceil_any y1 w2 (by omega)
  obtain ⟨dmin, hdmin⟩ : ∃ d, d = (y1 + 3) / 4 := ⟨_, rfl⟩
  rw [← hdmin] at hce
  have HD1 := Lib.hid hdmin
  have hdminb : dmin < 4611686018427387904 := by omega
  clear hdmin
  go_wp2_with fail
  refine hce.mono ?_
  rintro e' w' ⟨rfl, rfl⟩
  clear hce
  have hus2 := usc_any c hi lo sh w.heap.size w2 (by have := HC.out; omega) hhi hlo hs64 (hge _ (by have := HC.out; omega)) hk2
  rw [← HX2.out] at hus2
  go_wp2_with fail
  refine hus2.mono ?_
  rintro e' w3 ⟨rfl, hB3⟩
  clear hus2
  have hk3 := (hB3.block _ hsz2).trans hk2
  have hB3' := hB2'.trans (hB3.mono (Nat.le_of_lt hsz2))
  have hsz3 : w.heap.size < w3.heap.size := Nat.lt_of_lt_of_le hsz2 hB3.size
  have hn2 := nudge_any x2 (-(odd : Int)) w3 hb2.1 (by omega) (by omega) (by omega)
  obtain ⟨y2, hy2⟩ : ∃ y2, y2 = x2 - odd := ⟨_, rfl⟩
  have hy2' : (x2 : Int) + -(odd : Int) = (y2 : Int) := by omega
  rw [hy2'] at hn2
  have HY2 := Lib.hid hy2
  have hy2b : y2 ≤ x2 := by omega
  clear hy2 hy2'
  go_wp2_with fail
  refine hn2.mono ?_
  rintro e' w' ⟨rfl, rfl⟩
  clear hn2
  have hfl := floor_any y2 w3 (by omega)
  obtain ⟨dmax, hdmax⟩ : ∃ d, d = y2 / 4 := ⟨_, rfl⟩
  rw [← hdmax] at hfl
  have HD2 := Lib.hid hdmax
  have hdmaxb : dmax < 4611686018427387904 := by omega
  clear hdmax
  go_wp2_with fail
  refine hfl.mono ?_
  rintro e' w' ⟨rfl, rfl⟩
  clear hfl
  have hE : sfEnd m a c odd hi lo sh p = if dmin ≤ dmax / 10 * 10 then (dmax / 10, -(p - 1)) else if dmin < dmax then ((x3 + 1 + x3 / 4 % 2) / 4, -p) else (dmin, -p) := by
    unfold sfEnd
    rw [← HX1.out, ← HX2.out, ← HX3.out, ← HY1.out, ← HY2.out, ← HD1.out, ← HD2.out]
  have HE := Lib.hid hE
  clear hE
  obtain ⟨t, ht⟩ : ∃ t, t = dmax / 10 := ⟨_, rfl⟩
  have htI : (dmax : Int) / 10 = (t : Int) := by omega
  have htb : t ≤ dmax := by omega
  have HT := Lib.hid ht
  clear ht
  by_cases hc1 : dmin ≤ t * 10
  · have HF := Lib.hid hc1
    have HR : sfEnd m a c odd hi lo sh p = (t, -(p - 1)) := by rw [HE.out, ← HT.out, if_pos hc1]
    have HR' := Lib.hid HR
    clear HR
    have hcI : ((dmin : Int) ≤ (t : Int) * 10) = True := by simp; omega
    go_wp2_with fail
    ((try simp only [Exit.inBlock, Exit.then]); refine bodyPost_ret (results_tmp2 rfl _ _ _) rfl ?_)
    exact ⟨by rw [HR'.out]; rfl, hB3'⟩
  · have HF := Lib.hid hc1
    have hcI : ((dmin : Int) ≤ (t : Int) * 10) = False := by simp; omega
    by_cases hc2 : dmin < dmax
    · have HR : sfEnd m a c odd hi lo sh p = ((x3 + 1 + x3 / 4 % 2) / 4, -p) := by rw [HE.out, ← HT.out, if_neg hc1, if_pos hc2]
      have HR' := Lib.hid HR
      clear HR
      have hcJ : ((dmin : Int) < (dmax : Int)) = True := by simp; omega
      have hus3 := usc_any m hi lo sh w.heap.size w3 (by omega) hhi hlo hs64 (hge _ (by omega)) hk3
      rw [← HX3.out] at hus3
      go_wp2_with fail
      refine hus3.mono ?_
      rintro e' w4 ⟨rfl, hB4⟩
      clear hus3
      have hB4' := hB3'.trans (hB4.mono (Nat.le_of_lt hsz3))
      have hro := round_any x3 w4 (by omega)
      go_wp2_with fail
      refine hro.mono ?_
      rintro e' w' ⟨rfl, rfl⟩
      clear hro
      go_wp2_with fail
      ((try simp only [Exit.inBlock, Exit.then]); refine bodyPost_ret (results_tmp2 rfl _ _ _) rfl ?_)
      exact ⟨by rw [HR'.out]; simp only [Array.getD_eq_getD_getElem?]; push_cast; rfl, hB4'⟩
    · have HR : sfEnd m a c odd hi lo sh p = (dmin, -p) := by rw [HE.out, ← HT.out, if_neg hc1, if_neg hc2]
      have HR' := Lib.hid HR
      clear HR
      have hcJ : ((dmin : Int) < (dmax : Int)) = False := by simp; omega
      go_wp2_with fail
      ((try simp only [Exit.inBlock, Exit.then]); refine bodyPost_ret (results_tmp2 rfl _ _ _) rfl ?_)
      exact ⟨by rw [HR'.out]; rfl, hB3'⟩
/-! Walks: shortFloat on a power of two. -/
set_option maxRecDepth 100000 in
set_option maxHeartbeats 2000000 in
theorem sfB_any (m : Nat) (e : Int) (w : World) (hm : m = 9223372036854775808) (he : -1085 < e ∧ e ≤ 1000)
    (odd hi lo sh q : Nat) (p lp : Int) (hp : p = -(((e + 11) * 631305 - 261663) / 2097152)) (hlp : lp = p * 108853 / 32768) (hsh : (sh : Int) = -(e + lp + 3)) (hs64 : sh < 64)
    (hodd : odd = 0) (hq : (q : Int) = p + 348) (hpr : -348 ≤ p ∧ p ≤ 347)
    (hhi : hi < 18446744073709551616) (hlo : lo < 18446744073709551616) (hhi2 : 9223372036854775808 ≤ hi)
    (h22 : 22 < w.heap.size)
    (h0 : w.cell? ⟨22, q * 2, none⟩ = some (.int .u64 hi)) (h1 : w.cell? ⟨22, q * 2 + 1, none⟩ = some (.int .u64 lo))
    (x1 x2 x3 : Nat) (hx1 : x1 = uscN (m - 512) hi lo sh) (hx2 : x2 = uscN (m + 1024) hi lo sh) (hx3 : x3 = uscN m hi lo sh)
    (hb1 : 2 ≤ x1 ∧ x1 < 4611686018427387904) (hb2 : 2 ≤ x2 ∧ x2 < 4611686018427387904) (hb3 : 2 ≤ x3 ∧ x3 < 4611686018427387904) :
    Calls Tryz.prog 158 #[.int .u64 m, .int .i64 e] w fun r w' => r = .returned (.tuple #[.int .u64 (sfEnd m (m - 512) (m + 1024) odd hi lo sh p).1, .int .i64 (sfEnd m (m - 512) (m + 1024) odd hi lo sh p).2]) ∧ Below w.heap.size w w' := by
  have hW := blk_new w (.cells #[.int .u64 0, .int .u64 0, .int .i64 0] 246 (0, 0))
  have c0 := cell_below h0 (below_alloc1 w (.cells #[.int .u64 0, .int .u64 0, .int .i64 0] 246 (0, 0))) h22
  have c1 := cell_below h1 (below_alloc1 w (.cells #[.int .u64 0, .int .u64 0, .int .i64 0] 246 (0, 0))) h22
  have hl10 := skew_any (e + 11) w (by omega) (by omega)
  have hpI : -(((e + 11) * 631305 - 261663) / 2097152) = p := hp.symm
  have hl2 := l2_any p (w.alloc (.cells #[.int .u64 0, .int .u64 0, .int .i64 0] 246 (0, 0))) (by omega) (by omega)
  rw [← hlp] at hl2
  have hpre := pre_any w.heap.size e p lp (w.alloc (.cells #[.int .u64 0, .int .u64 0, .int .i64 0] 246 (0, 0))) _ _ _ hi lo h22 (by omega) hpr (by omega) hW q hq c0 c1
  rw [← hsh] at hpre
  have hne : ((m : Int) == 9223372036854775808) = true := by rw [beq_iff_eq]; omega
  have hge : ∀ x : Nat, 4611686018427387904 ≤ x → 1 ≤ x * hi / 18446744073709551616 := by
    intro x hx
    have : 4611686018427387904 * 9223372036854775808 ≤ x * hi := Nat.mul_le_mul hx hhi2
    omega
  obtain ⟨a, ha⟩ : ∃ a, a = m - 512 := ⟨_, rfl⟩
  obtain ⟨c, hc⟩ : ∃ c, c = m + 1024 := ⟨_, rfl⟩
  have hA : (m : Int) - 512 = (a : Int) := by omega
  have hC : (m : Int) + 1024 = (c : Int) := by omega
  rw [← ha, ← hc]
  rw [← ha] at hx1
  rw [← hc] at hx2
  have hodd1 : odd ≤ 1 := by omega
  have hO : (m : Int) / 2048 % 2 = (odd : Int) := by omega
  have HM := Lib.hid hm
  have hm1 : 9223372036854775808 ≤ m := by omega
  have hm2 : m + 1024 < 18446744073709551616 := by omega
  clear hm
  have hand : bits BinOp.and IntKind.i64 ((m : Int) / 2048) 1 = (odd : Int) := by
    rw [← hO, i64_one]
  clear hO hodd
  clear hp hlp
  have HX1 := Lib.hid hx1
  have HX2 := Lib.hid hx2
  have HX3 := Lib.hid hx3
  clear hx1 hx2 hx3
  have HA := Lib.hid ha
  have HC := Lib.hid hc
  clear ha hc
  go_enter Tryz.func158, Tryz.ntmps158
  go_wp2_with fail
  refine hl10.mono ?_
  rintro e' w' ⟨rfl, rfl⟩
  go_wp2_with fail
  clear hl10
  refine hl2.mono ?_
  rintro e' w' ⟨rfl, rfl⟩
  clear hl2 hpI hand
  go_wp2_with fail
  refine hpre.mono ?_
  rintro e' w1 ⟨rfl, hk1, hB1⟩
  clear hpre c0 c1 hW
  have hB1' := (below_alloc1 w (.cells #[.int .u64 0, .int .u64 0, .int .i64 0] 246 (0, 0))).trans hB1
  have hsz : w.heap.size < w1.heap.size := by
    rcases Nat.lt_or_ge w.heap.size w1.heap.size with h | h
    · exact h
    · rw [Array.getElem?_eq_none h] at hk1; cases hk1
  have hus1 := usc_any a hi lo sh w.heap.size w1 (by have := HA.out; omega) hhi hlo hs64 (hge _ (by have := HA.out; omega)) hk1
  rw [← HX1.out] at hus1
  go_wp2_with fail
  refine hus1.mono ?_
  rintro e' w2 ⟨rfl, hB2⟩
  clear hus1
  have hk2 := (hB2.block _ hsz).trans hk1
  have hB2' := hB1'.trans (hB2.mono (Nat.le_of_lt hsz))
  have hsz2 : w.heap.size < w2.heap.size := Nat.lt_of_lt_of_le hsz hB2.size
  have hn1 := nudge_any x1 odd w2 hb1.1 (by omega) (by omega) (by omega)
  obtain ⟨y1, hy1⟩ : ∃ y1, y1 = x1 + odd := ⟨_, rfl⟩
  have hy1' : (x1 : Int) + odd = (y1 : Int) := by omega
  rw [hy1'] at hn1
  have HY1 := Lib.hid hy1
  have hy1b : y1 ≤ x1 + 1 := by omega
  clear hy1 hy1'
  go_wp2_with fail
  refine hn1.mono ?_
  rintro e' w' ⟨rfl, rfl⟩
  clear hn1
  have hce := ceil_any y1 w2 (by omega)
  obtain ⟨dmin, hdmin⟩ : ∃ d, d = (y1 + 3) / 4 := ⟨_, rfl⟩
  rw [← hdmin] at hce
  have HD1 := Lib.hid hdmin
  have hdminb : dmin < 4611686018427387904 := by omega
  clear hdmin
  go_wp2_with fail
  refine hce.mono ?_
  rintro e' w' ⟨rfl, rfl⟩
  clear hce
  have hus2 := usc_any c hi lo sh w.heap.size w2 (by have := HC.out; omega) hhi hlo hs64 (hge _ (by have := HC.out; omega)) hk2
  rw [← HX2.out] at hus2
  go_wp2_with fail
  refine hus2.mono ?_
  rintro e' w3 ⟨rfl, hB3⟩
  clear hus2
  have hk3 := (hB3.block _ hsz2).trans hk2
  have hB3' := hB2'.trans (hB3.mono (Nat.le_of_lt hsz2))
  have hsz3 : w.heap.size < w3.heap.size := Nat.lt_of_lt_of_le hsz2 hB3.size
  have hn2 := nudge_any x2 (-(odd : Int)) w3 hb2.1 (by omega) (by omega) (by omega)
  obtain ⟨y2, hy2⟩ : ∃ y2, y2 = x2 - odd := ⟨_, rfl⟩
  have hy2' : (x2 : Int) + -(odd : Int) = (y2 : Int) := by omega
  rw [hy2'] at hn2
  have HY2 := Lib.hid hy2
  have hy2b : y2 ≤ x2 := by omega
  clear hy2 hy2'
  go_wp2_with fail
  refine hn2.mono ?_
  rintro e' w' ⟨rfl, rfl⟩
  clear hn2
  have hfl := floor_any y2 w3 (by omega)
  obtain ⟨dmax, hdmax⟩ : ∃ d, d = y2 / 4 := ⟨_, rfl⟩
  rw [← hdmax] at hfl
  have HD2 := Lib.hid hdmax
  have hdmaxb : dmax < 4611686018427387904 := by omega
  clear hdmax
  go_wp2_with fail
  refine hfl.mono ?_
  rintro e' w' ⟨rfl, rfl⟩
  clear hfl
  have hE : sfEnd m a c odd hi lo sh p = if dmin ≤ dmax / 10 * 10 then (dmax / 10, -(p - 1)) else if dmin < dmax then ((x3 + 1 + x3 / 4 % 2) / 4, -p) else (dmin, -p) := by
    unfold sfEnd
    rw [← HX1.out, ← HX2.out, ← HX3.out, ← HY1.out, ← HY2.out, ← HD1.out, ← HD2.out]
  have HE := Lib.hid hE
  clear hE
  obtain ⟨t, ht⟩ : ∃ t, t = dmax / 10 := ⟨_, rfl⟩
  have htI : (dmax : Int) / 10 = (t : Int) := by omega
  have htb : t ≤ dmax := by omega
  have HT := Lib.hid ht
  clear ht
  by_cases hc1 : dmin ≤ t * 10
  · have HF := Lib.hid hc1
    have HR : sfEnd m a c odd hi lo sh p = (t, -(p - 1)) := by rw [HE.out, ← HT.out, if_pos hc1]
    have HR' := Lib.hid HR
    clear HR
    have hcI : ((dmin : Int) ≤ (t : Int) * 10) = True := by simp; omega
    go_wp2_with fail
    ((try simp only [Exit.inBlock, Exit.then]); refine bodyPost_ret (results_tmp2 rfl _ _ _) rfl ?_)
    exact ⟨by rw [HR'.out]; rfl, hB3'⟩
  · have HF := Lib.hid hc1
    have hcI : ((dmin : Int) ≤ (t : Int) * 10) = False := by simp; omega
    by_cases hc2 : dmin < dmax
    · have HR : sfEnd m a c odd hi lo sh p = ((x3 + 1 + x3 / 4 % 2) / 4, -p) := by rw [HE.out, ← HT.out, if_neg hc1, if_pos hc2]
      have HR' := Lib.hid HR
      clear HR
      have hcJ : ((dmin : Int) < (dmax : Int)) = True := by simp; omega
      have hus3 := usc_any m hi lo sh w.heap.size w3 (by omega) hhi hlo hs64 (hge _ (by omega)) hk3
      rw [← HX3.out] at hus3
      go_wp2_with fail
      refine hus3.mono ?_
      rintro e' w4 ⟨rfl, hB4⟩
      clear hus3
      have hB4' := hB3'.trans (hB4.mono (Nat.le_of_lt hsz3))
      have hro := round_any x3 w4 (by omega)
      go_wp2_with fail
      refine hro.mono ?_
      rintro e' w' ⟨rfl, rfl⟩
      clear hro
      go_wp2_with fail
      ((try simp only [Exit.inBlock, Exit.then]); refine bodyPost_ret (results_tmp2 rfl _ _ _) rfl ?_)
      exact ⟨by rw [HR'.out]; simp only [Array.getD_eq_getD_getElem?]; push_cast; rfl, hB4'⟩
    · have HR : sfEnd m a c odd hi lo sh p = (dmin, -p) := by rw [HE.out, ← HT.out, if_neg hc1, if_neg hc2]
      have HR' := Lib.hid HR
      clear HR
      have hcJ : ((dmin : Int) < (dmax : Int)) = False := by simp; omega
      go_wp2_with fail
      ((try simp only [Exit.inBlock, Exit.then]); refine bodyPost_ret (results_tmp2 rfl _ _ _) rfl ?_)
      exact ⟨by rw [HR'.out]; rfl, hB3'⟩
/-! Plain: shortFloat on the whole numbers up to 1000. -/
/-- shortFloat of the whole number n: mantissa, exponent, the table's row, and what comes out. -/
def sfP (n : Nat) : Int :=
  let e : Int := (n.log2 : Int) + 1 - 64
  if n = 2 ^ n.log2 then -(((e + 11) * 631305 - 261663) / 2097152) else -((e + 11) * 78913 / 262144)
def sfM (n : Nat) : Nat := n * 2 ^ (63 - n.log2)
def sfQ (n : Nat) : Nat := (sfP n + 348).toNat
def sfS (n : Nat) : Nat := (-((n.log2 : Int) + 1 - 64 + sfP n * 108853 / 32768 + 3)).toNat
def sfLow (n : Nat) : Nat := if n = 2 ^ n.log2 then sfM n - 512 else sfM n - 1024
def sfOut (n hi lo : Nat) : Nat × Int := sfEnd (sfM n) (sfLow n) (sfM n + 1024) 0 hi lo (sfS n) (sfP n)
def sfChk (n hi lo : Nat) : Bool :=
  decide (hi < 18446744073709551616) && decide (lo < 18446744073709551616) && decide (9223372036854775808 ≤ hi) && decide (sfS n < 64)
  && decide ((sfS n : Int) = -((n.log2 : Int) + 1 - 64 + sfP n * 108853 / 32768 + 3)) && decide ((sfQ n : Int) = sfP n + 348) && decide (-348 ≤ sfP n) && decide (sfP n ≤ 347)
  && decide (sfM n / 2048 % 2 = 0) && (if n = 2 ^ n.log2 then decide (sfM n = 9223372036854775808) else decide (9223372036854775808 < sfM n) && decide (sfM n + 1024 < 18446744073709551616))
  && (let x := uscN (sfLow n) hi lo (sfS n); decide (2 ≤ x) && decide (x < 4611686018427387904))
  && (let x := uscN (sfM n + 1024) hi lo (sfS n); decide (2 ≤ x) && decide (x < 4611686018427387904))
  && (let x := uscN (sfM n) hi lo (sfS n); decide (2 ≤ x) && decide (x < 4611686018427387904))
/-- All that the walk asks, and the answer: n with at most fifteen noughts behind. -/
def sfGood (n : Nat) : Bool :=
  match Go.Pinned.pow10Rows[sfQ n]? with
  | none => false
  | some x => sfChk n x.1 x.2 && (let r := sfOut n x.1 x.2; decide (r.2 ≤ 0) && decide (-15 ≤ r.2) && decide (r.1 = n * 10 ^ (-r.2).toNat))
set_option maxRecDepth 100000 in
theorem sf_good : ∀ n, n < 1001 → 1 ≤ n → sfGood n = true := by
  have h : (List.range 1001).all (fun n => n == 0 || sfGood n) = true := by decide +kernel
  intro n hn h1
  have := List.all_eq_true.1 h n (List.mem_range.2 hn)
  rcases Bool.or_eq_true_iff.1 this with k | k
  · have := beq_iff_eq.1 k
    omega
  · exact k
/-! shortFloat on the whole numbers: the walk and the plain law joined. -/
/-- The table of the powers of ten stands in the heap. -/
structure P10 (w : World) : Prop where
  le : 22 < w.heap.size
  at_ : ∀ q x, Go.Pinned.pow10Rows[q]? = some x → w.cell? ⟨22, q * 2, none⟩ = some (.int .u64 x.1) ∧ w.cell? ⟨22, q * 2 + 1, none⟩ = some (.int .u64 x.2)
theorem P10.below {B : Nat} {w w' : World} (h : P10 w) (hb : Below B w w') (hB : 22 < B) : P10 w' where
  le := Nat.lt_of_lt_of_le h.le hb.size
  at_ := fun q x hx => ⟨cell_below (h.at_ q x hx).1 hb hB, cell_below (h.at_ q x hx).2 hb hB⟩

theorem short_any (n : Nat) (h1 : 1 ≤ n) (hn : n ≤ 1000) (w : World) (hp : P10 w) :
    ∃ j : Nat, j ≤ 15 ∧ Calls Tryz.prog 158 #[.int .u64 (sfM n), .int .i64 ((n.log2 : Int) + 1 - 64)] w fun r w' => r = .returned (.tuple #[.int .u64 ((n * 10 ^ j : Nat) : Int), .int .i64 (-(j : Int))]) ∧ Below w.heap.size w w' := by
  have hg := sf_good n (by omega) h1
  unfold sfGood at hg
  split at hg
  · exact absurd hg (by decide)
  · rename_i x hx
    obtain ⟨c0, c1⟩ := hp.at_ _ _ hx
    unfold sfChk at hg
    simp only [Bool.and_eq_true, decide_eq_true_eq] at hg
    obtain ⟨⟨⟨⟨⟨⟨⟨⟨⟨⟨⟨⟨⟨g1, g2⟩, g3⟩, g4⟩, g5⟩, g6⟩, g7⟩, g8⟩, g9⟩, g10⟩, g11⟩, g12⟩, g13⟩, ⟨g14, g15⟩, g16⟩ := hg
    refine ⟨(-(sfOut n x.1 x.2).2).toNat, by omega, ?_⟩
    have hl : n.log2 ≤ 9 := by
      have := (Nat.log2_lt (by omega : n ≠ 0)).2 (by omega : n < 2 ^ 10)
      omega
    have hk : -(((-(sfOut n x.1 x.2).2).toNat : Nat) : Int) = (sfOut n x.1 x.2).2 := by omega
    rw [← g16, hk]
    by_cases h2 : n = 2 ^ n.log2
    · rw [if_pos h2] at g10
      have g10 := of_decide_eq_true g10
      have hP : sfP n = -(((((n.log2 : Int) + 1 - 64) + 11) * 631305 - 261663) / 2097152) := by unfold sfP; rw [if_pos h2]
      have hL : sfLow n = sfM n - 512 := by unfold sfLow; rw [if_pos h2]
      unfold sfOut
      rw [hL] at g11 ⊢
      exact sfB_any (sfM n) _ w g10 (by omega) 0 x.1 x.2 (sfS n) (sfQ n) (sfP n) _ hP rfl g5 g4 rfl g6 ⟨g7, g8⟩ g1 g2 g3 hp.le c0 c1 _ _ _ rfl rfl rfl g11 g12 g13
    · rw [if_neg h2] at g10
      obtain ⟨ga, gb⟩ := Bool.and_eq_true_iff.1 g10
      have ga := of_decide_eq_true ga
      have gb := of_decide_eq_true gb
      have hP : sfP n = -((((n.log2 : Int) + 1 - 64) + 11) * 78913 / 262144) := by unfold sfP; rw [if_neg h2]
      have hL : sfLow n = sfM n - 1024 := by unfold sfLow; rw [if_neg h2]
      unfold sfOut
      rw [hL] at g11 ⊢
      exact sfA_any (sfM n) _ w ga gb (by omega) 0 x.1 x.2 (sfS n) (sfQ n) (sfP n) _ hP rfl g5 g4 g9.symm g6 ⟨g7, g8⟩ g1 g2 g3 hp.le c0 c1 _ _ _ rfl rfl rfl g11 g12 g13
end Go.Proofs.YtghajgdiaopioaaGreatDoor
end
section
/- setDigits: the plain facts and the walk. -/
namespace Go.Proofs.YtghajgdiaopioaaGreatDoor
open Go.RowKit Go.Proofs Tx Go.Lib Go.Sort
open Go.Proofs.YtghajgdiaopioaaGreatDoorW.PrintWords
theorem nDig_pow (m : Nat) (hm : 1 ≤ m) : ∀ r, nDigits (m * 10 ^ r) = nDigits m + r := by
  intro r
  induction r with
  | zero => simp
  | succ r ih =>
    have h1 : 1 ≤ m * 10 ^ r := Nat.mul_pos hm (Nat.pow_pos (by decide))
    have h2 : m * 10 ^ (r + 1) = m * 10 ^ r * 10 := by rw [Nat.pow_succ, Nat.mul_assoc]
    rw [h2, nDigits_big (by omega), Nat.mul_div_cancel _ (by decide), ih]
    omega
theorem dg_low (m r k : Nat) (h : k < r) : dg (m * 10 ^ r) k = 48 := by
  have h1 : m * 10 ^ r / 10 ^ k % 10 = 0 := by
    have : m * 10 ^ r = m * 10 ^ (r - k - 1) * 10 * 10 ^ k := by
      rw [Nat.mul_assoc, Nat.mul_assoc, ← Nat.pow_add_one', ← Nat.pow_add]
      congr 2
      omega
    rw [this, Nat.mul_div_cancel _ (Nat.pow_pos (by decide)), Nat.mul_mod_left]
  unfold dg
  rw [h1]
  rfl
theorem dg_high (m r k : Nat) (h : r ≤ k) : dg (m * 10 ^ r) k = dg m (k - r) := by
  unfold dg
  have : m * 10 ^ r / 10 ^ k = m / 10 ^ (k - r) := by
    have e : 10 ^ k = 10 ^ r * 10 ^ (k - r) := by rw [← Nat.pow_add]; congr 1; omega
    rw [e, ← Nat.div_div_eq_div_mul, Nat.mul_div_cancel _ (Nat.pow_pos (by decide))]
  rw [this]
theorem dg_last (m : Nat) (h : m % 10 ≠ 0) : dg m 0 ≠ 48 := by
  have : ∀ x : Nat, x < 10 → x ≠ 0 → UInt8.ofNat (48 + x) ≠ 48 := by decide
  unfold dg
  rw [Nat.pow_zero, Nat.div_one]
  exact this _ (Nat.mod_lt _ (by decide)) h

abbrev encB : UInt8 → Value := fun b => Value.int .u8 (b.toNat : Int)

set_option maxRecDepth 100000 in
set_option maxHeartbeats 2000000 in
theorem setd_any (g m r : Nat) (w : World) (hm1 : 1 ≤ m) (hm : m % 10 ≠ 0) (hN : nDigits m + r ≤ 32) (h64 : m * 10 ^ r < 18446744073709551616) (p : Int) (hp : -100 ≤ p ∧ p ≤ 100)
    (hH : Holds encB w g 0 (Array.replicate (nDigits m + r) 0)) (hg : g < w.heap.size) :
    Calls Tryz.prog 153 #[.slice (some ⟨g, 0, none⟩) 32 32, .int .u64 (m * 10 ^ r : Nat), .int .i64 p, .int .i64 (nDigits m + r : Nat)] w fun e w' =>
      e = .returned (.tuple #[.int .i64 ((nDigits m + r : Nat) + p), .int .i64 (nDigits m)]) ∧ DigAt g (decDigits m) w' ∧ Below g w w' := by
  obtain ⟨N, hNe⟩ : ∃ N, N = nDigits m + r := ⟨_, rfl⟩
  obtain ⟨u, hu⟩ : ∃ u, u = m * 10 ^ r := ⟨_, rfl⟩
  have hnu : nDigits u = N := by rw [hu, nDig_pow m hm1, hNe]
  have hlt : u < 10 ^ N := by rw [← hnu]; exact lt_pow_nDigits u
  have hsz : (Array.replicate N (0 : UInt8)).size = N := by simp
  rw [← hNe] at hN hH ⊢
  rw [← hu] at h64 ⊢
  have hpos := nDigits_pos m
  obtain ⟨D, hD⟩ : ∃ D, D = nDigits m := ⟨_, rfl⟩
  rw [← hD] at hNe hpos ⊢
  have hfb := Tryz.internal_strconv_formatBase10 g 0 32 u (Array.replicate N 0) w hH (by rw [hsz]; exact hlt) h64 (by rw [hsz]; omega)
  rw [hsz] at hfb
  have HH := Lib.hid hH
  have HU := Lib.hid hu
  have HN := Lib.hid hNe
  have HD := Lib.hid hD
  have HNU := Lib.hid hnu
  have HSZ := Lib.hid hsz
  have hDN : D ≤ N := by omega
  clear hH hu hNe hD hlt hsz hnu
  have q1 : ((N : Int) ≤ 32) = True := by simp; omega
  go_enter Tryz.func153, Tryz.ntmps153
  go_wp2_with fail
  refine hfb.mono ?_
  rintro e w' ⟨rfl, n, v', dk, hw', hfm⟩
  have hdk : dk.size = N := hfm.size
  have hcell : ∀ t, t < N → w'.cell? ⟨g, t, none⟩ = some (encB (dg u (N - 1 - t))) := by
    intro t ht
    have h1 := (holds_putRow encB w g 0 _ dk HH.out (by rw [hdk, HSZ.out]) t (by omega)).1
    rw [Nat.zero_add] at h1
    rw [← hfm.done t (Nat.zero_le _) ht, ← h1, hw']
    rfl
  have hbel : Below g w w' := by
    rw [hw']
    refine ⟨rfl, rfl, rfl, ?_, fun k hk => ?_⟩
    · show w.heap.size ≤ (putRow encB w g 0 dk).heap.size
      simp [putRow, mapBlock]
    · show (putRow encB w g 0 dk).heap[k]? = w.heap[k]?
      have : g ≠ k := by omega
      simp [putRow, mapBlock, Array.getElem?_modify, this]
  have hszw : g < w'.heap.size := Nat.lt_of_lt_of_le hg hbel.size
  have HB := Lib.hid hbel
  have HC := Lib.hid hcell
  clear hfb hw' hfm hdk hbel hcell
  go_wp2_with fail
  go_loop [3] (fun v3 => ∃ k : Nat, D ≤ k ∧ k ≤ N ∧ v3 = .int .i64 k) (fun v3 => (RowKit.intOf v3).toNat)
  case atStart => exact ⟨N, hDN, Nat.le_refl _, rfl⟩
  case round =>
    obtain ⟨k, hk1, hk2, rfl⟩ := hrel
    have hk0 : ((0 : Int) < (k : Int)) = True := by simp; omega
    have hkm : ((k : Int) - 1) = ((k - 1 : Nat) : Int) := by omega
    have hk24 : k ≤ 32 := by omega
    have hcl := HC.out (k - 1) (by omega)
    by_cases he : k = D
    · have h1 : dg u (N - 1 - (k - 1)) ≠ 48 := by
        rw [HU.out, dg_high _ _ _ (by have := HN.out; omega)]
        have : N - 1 - (k - 1) - r = 0 := by have := HN.out; omega
        rw [this]
        exact dg_last m hm
      obtain ⟨x, hx⟩ : ∃ x : UInt8, x = dg u (N - 1 - (k - 1)) := ⟨_, rfl⟩
      rw [← hx] at hcl h1
      have hxn : ((x.toNat : Int) == 48) = false := by
        rw [beq_eq_false_iff_ne]
        intro hh
        exact h1 (UInt8.toNat_inj.1 (by simpa using Int.ofNat.inj hh))
      unfold encB at hcl
      clear hx h1
      subst he
      go_wp2_with fail
      ((try simp only [Exit.inBlock, Exit.then]); refine bodyPost_ret (results_tmp2 rfl _ _ _) rfl ?_)
      refine ⟨rfl, ⟨hszw, fun j hj => ?_⟩, HB.out⟩
      have hj2 : j < nDigits m := by rw [← decDigits_length]; exact hj
      have hNr := HN.out
      have hDm := HD.out
      rw [HC.out j (by omega), HU.out, dg_high _ _ _ (by omega)]
      simp only [decDigits_eq, List.getElem_map, List.getElem_range]
      unfold byteV encB
      rw [show N - 1 - j - r = nDigits m - 1 - j by omega]
    · have h1 : dg u (N - 1 - (k - 1)) = 48 := by
        rw [HU.out]
        exact dg_low _ _ _ (by have := HN.out; omega)
      rw [h1] at hcl
      have hcl2 : w'.cell? ⟨g, k - 1, none⟩ = some (.int .u8 48) := hcl
      clear hcl h1
      go_wp2_with fail
      exact ⟨⟨k - 1, by omega, by omega, rfl⟩, by simp [RowKit.intOf]; omega⟩
end Go.Proofs.YtghajgdiaopioaaGreatDoor
end
section
/- Plain: a number with noughts behind. -/
namespace Go.Proofs.YtghajgdiaopioaaGreatDoor
open Go.RowKit Go.Proofs Tx Go.Lib
open Go.Proofs.YtghajgdiaopioaaGreatDoorW.PrintWords
theorem strip10 (n : Nat) (h : 1 ≤ n) : ∃ m i, n = m * 10 ^ i ∧ m % 10 ≠ 0 := by
  induction n using Nat.strongRecOn with
  | _ n ih =>
    by_cases h0 : n % 10 = 0
    · obtain ⟨m, i, h1, h2⟩ := ih (n / 10) (by omega) (by omega)
      refine ⟨m, i + 1, ?_, h2⟩
      rw [Nat.pow_succ, ← Nat.mul_assoc, ← h1]
      omega
    · exact ⟨n, 0, by simp, h0⟩
theorem dec_pow (m i : Nat) (hm : 1 ≤ m) : decDigits (m * 10 ^ i) = decDigits m ++ List.replicate i 48 := by
  apply List.ext_getElem
  · simp only [decDigits_length, List.length_append, List.length_replicate, nDig_pow m hm]
  · intro k h1 h2
    simp only [decDigits_length, nDig_pow m hm] at h1
    by_cases hk : k < nDigits m
    · rw [List.getElem_append_left (by rw [decDigits_length]; exact hk)]
      simp only [decDigits_eq, List.getElem_map, List.getElem_range, nDig_pow m hm]
      rw [dg_high _ _ _ (by omega)]
      congr 1
      omega
    · rw [List.getElem_append_right (by rw [decDigits_length]; omega)]
      simp only [decDigits_eq, List.getElem_map, List.getElem_range, nDig_pow m hm, List.getElem_replicate]
      exact dg_low _ _ _ (by omega)
end Go.Proofs.YtghajgdiaopioaaGreatDoor
end
section
/- Plain: the parts of a whole number's bits. -/
namespace Go.Proofs.YtghajgdiaopioaaGreatDoor
open Go.RowKit Go.Proofs Tx
open Go.Proofs.YtghajgdiaopioaaGreatDoorW.PrintWords
def partsOk (n : Nat) : Bool :=
  let x := wbits false n
  let y := wbits true n
  decide (x < 9223372036854775808) && decide (y = x + 9223372036854775808) && decide (x / 4503599627370496 = n.log2 + 1023)
  && decide (((x % 4503599627370496) ||| 4503599627370496) = sfM n / 2048) && decide (sfM n % 2048 = 0) && decide (Lib.bitLen (sfM n / 2048) = 53) && decide (n.log2 ≤ 9)
set_option maxRecDepth 100000 in
theorem parts_ok : ∀ n, n < 1001 → 1 ≤ n → partsOk n = true := by
  have h : (List.range 1001).all (fun n => n == 0 || partsOk n) = true := by decide +kernel
  intro n hn h1
  have := List.all_eq_true.1 h n (List.mem_range.2 hn)
  rcases Bool.or_eq_true_iff.1 this with k | k
  · have := beq_iff_eq.1 k
    omega
  · exact k
end Go.Proofs.YtghajgdiaopioaaGreatDoor
end
