/- Walks and plain laws joined (Ge, Gf). Conditions: stand in each law. -/
import Derived.Test.YtghajgdiaopioaaGreatDoorJxi
import Ieee.Arith
set_option linter.unusedVariables false
set_option linter.unusedSimpArgs false
section
/- Plain laws: what parseFloat64 answers for a number of a float's interval. Conditions: stand in each law; no program is named here. -/
namespace Go.Proofs.YtghajgdiaopioaaGreatDoor.Fl
theorem pow_near : ∀ q : Int, -345 ≤ q → q ≤ 310 → 8 * dnB q ≤ upA q ∧ upA q * 18014398509481984 ≤ 16 * dnB q * 18014398509481983 := by
  have h : (List.range 656).all (fun i => let q : Int := (i : Int) - 345; decide (8 * dnB q ≤ upA q) && decide (upA q * 18014398509481984 ≤ 16 * dnB q * 18014398509481983)) = true := by decide +kernel
  intro q h1 h2
  have := List.all_eq_true.1 h (q + 345).toNat (List.mem_range.2 (by omega))
  simp only [show (((q + 345).toNat : Nat) : Int) - 345 = q by omega, Bool.and_eq_true, decide_eq_true_eq] at this
  exact this

/-- The binary exponent that parseFloat64 takes. -/
def pe (a : Nat) (q : Int) : Int := min 1074 (53 - (a.log2 + 1 : Nat) - lp10 q)
def psh (a : Nat) (q : Int) : Int := 61 - pe a q - (a.log2 + 1 : Nat) - lp10 q
def px (a : Nat) : Nat := a * 2 ^ (63 - a.log2)

theorem px_top {a : Nat} (h1 : 1 ≤ a) (h2 : a < 18446744073709551616) : 9223372036854775808 ≤ px a ∧ px a < 18446744073709551616 ∧ a.log2 ≤ 63 := by
  have hl : a.log2 < 64 := (Nat.log2_lt (by omega)).2 h2
  have k1 : 2 ^ a.log2 ≤ a := Nat.log2_self_le (by omega)
  have k2 : a < 2 ^ (a.log2 + 1) := Nat.lt_log2_self
  unfold px
  refine ⟨?_, ?_, by omega⟩
  · rw [show (9223372036854775808 : Nat) = 2 ^ 63 by rfl, show (63 : Nat) = a.log2 + (63 - a.log2) by omega, Nat.pow_add, show a.log2 + (63 - a.log2) - a.log2 = 63 - a.log2 by omega]
    exact Nat.mul_le_mul_right _ k1
  · have : a * 2 ^ (63 - a.log2) < 2 ^ (a.log2 + 1) * 2 ^ (63 - a.log2) := Nat.mul_lt_mul_of_pos_right k2 (Nat.two_pow_pos _)
    rw [← Nat.pow_add, show a.log2 + 1 + (63 - a.log2) = 64 by omega] at this
    exact this

theorem lp_lim {q : Int} (h1 : -345 ≤ q) (h2 : q ≤ 310) : -1147 ≤ lp10 q ∧ lp10 q ≤ 1029 := by unfold lp10; omega

theorem pow2 (b x y z w : Nat) (h : x + y = z + w) : b ^ x * b ^ y = b ^ z * b ^ w := by rw [← Nat.pow_add, ← Nat.pow_add, h]
theorem pow5 (x y z u v w : Nat) (h : x + y + z = u + v + w) : 2 ^ x * 2 ^ y * 2 ^ z = 2 ^ u * 2 ^ v * 2 ^ w := by rw [← Nat.pow_add, ← Nat.pow_add, ← Nat.pow_add, ← Nat.pow_add, h]
theorem U_is (e : Int) (n : Nat) (h : (n : Int) = e + 1400) : U e = 2 ^ n := by unfold U; rw [← h, Int.toNat_natCast]
theorem T_is (e : Int) (n : Nat) (h : (n : Int) = e + 400) : T e = 10 ^ n := by unfold T; rw [← h, Int.toNat_natCast]
theorem scale_U (a : Nat) (q : Int) (sh : Nat) (l1 : -1147 ≤ lp10 q) (l2 : lp10 q ≤ 1029) (hlog : a.log2 < 57) (hpe : pe a q ≤ 1074) (hsh : (sh : Int) = psh a q) :
    U (3 - lp10 q) * U (-pe a q) * 2 ^ (63 - a.log2) = U 0 * U 0 * (4 * 2 ^ (4 + sh)) := by
  have e4 : (4 : Nat) * 2 ^ (4 + sh) = 2 ^ (6 + sh) := by rw [show 6 + sh = 2 + (4 + sh) by omega, Nat.pow_add 2 2]
  rw [e4]
  unfold psh at hsh
  obtain ⟨n0, hn0⟩ : ∃ n0 : Nat, (n0 : Int) = 0 + 1400 := ⟨1400, by omega⟩
  obtain ⟨n1, hn1⟩ : ∃ n1 : Nat, (n1 : Int) = 3 - lp10 q + 1400 := ⟨(3 - lp10 q + 1400).toNat, by omega⟩
  obtain ⟨n2, hn2⟩ : ∃ n2 : Nat, (n2 : Int) = -pe a q + 1400 := ⟨(-pe a q + 1400).toNat, by omega⟩
  rw [U_is 0 n0 hn0, U_is _ n1 hn1, U_is _ n2 hn2]
  clear e4
  exact pow5 _ _ _ _ _ _ (by omega)
theorem scale_T (q : Int) (hq : -345 ≤ q) (hq2 : q ≤ 310) : T q * T (-q) = T 0 * T 0 := by
  obtain ⟨n0, hn0⟩ : ∃ n0 : Nat, (n0 : Int) = 0 + 400 := ⟨400, by omega⟩
  obtain ⟨n1, hn1⟩ : ∃ n1 : Nat, (n1 : Int) = q + 400 := ⟨(q + 400).toNat, by omega⟩
  obtain ⟨n2, hn2⟩ : ∃ n2 : Nat, (n2 : Int) = -q + 400 := ⟨(-q + 400).toNat, by omega⟩
  rw [T_is 0 n0 hn0, T_is _ n1 hn1, T_is _ n2 hn2]
  exact pow2 _ _ _ _ _ (by omega)
/-- The scaled number N / D is 4 * a * 10^q * 2^(pe a q). -/
theorem scale_eq (a : Nat) (q : Int) (h1 : 1 ≤ a) (h2 : a < 144115188075855872) (hq : -345 ≤ q) (hq2 : q ≤ 310) (sh : Nat) (hsh : (sh : Int) = psh a q) :
    px a * upA q * (T (-q) * U (-pe a q)) = 4 * a * (T 0 * U 0) * (dnB q * 2 ^ (4 + sh)) := by
  obtain ⟨l1, l2⟩ := lp_lim hq hq2
  have hlog : a.log2 < 57 := (Nat.log2_lt (by omega)).2 h2
  have hK := up_dn q (by omega) (by omega) 0 (3 - lp10 q) (by omega) (by omega) (by omega)
  rw [Nat.pow_zero, Nat.mul_one] at hK
  have hT : T q * T (-q) = T 0 * T 0 := scale_T q hq hq2
  have hpe : pe a q ≤ 1074 := by unfold pe; omega
  have hU : U (3 - lp10 q) * U (-pe a q) * 2 ^ (63 - a.log2) = U 0 * U 0 * (4 * 2 ^ (4 + sh)) := scale_U a q sh l1 l2 hlog hpe hsh
  have hK0 : 0 < T 0 * U 0 := Nat.mul_pos (T_pos _) (U_pos _)
  apply Nat.eq_of_mul_eq_mul_right hK0
  unfold px
  obtain ⟨x1, e1⟩ : ∃ x, x = upA q := ⟨_, rfl⟩
  obtain ⟨x2, e2⟩ : ∃ x, x = T 0 := ⟨_, rfl⟩
  obtain ⟨x3, e3⟩ : ∃ x, x = U 0 := ⟨_, rfl⟩
  obtain ⟨x4, e4⟩ : ∃ x, x = T (-q) := ⟨_, rfl⟩
  obtain ⟨x5, e5⟩ : ∃ x, x = U (-pe a q) := ⟨_, rfl⟩
  obtain ⟨x6, e6⟩ : ∃ x, x = T q := ⟨_, rfl⟩
  obtain ⟨x7, e7⟩ : ∃ x, x = U (3 - lp10 q) := ⟨_, rfl⟩
  obtain ⟨x8, e8⟩ : ∃ x, x = dnB q := ⟨_, rfl⟩
  obtain ⟨x9, e9⟩ : ∃ x, x = 2 ^ (63 - a.log2) := ⟨_, rfl⟩
  obtain ⟨y1, f1⟩ : ∃ x, x = 2 ^ (4 + sh) := ⟨_, rfl⟩
  rw [← e1, ← e2, ← e3, ← e4, ← e5, ← e8, ← e9, ← f1]
  rw [← e1, ← e2, ← e3, ← e6, ← e7, ← e8] at hK
  rw [← e2, ← e4, ← e6] at hT
  rw [← e3, ← e5, ← e7, ← e9, ← f1] at hU
  calc a * x9 * x1 * (x4 * x5) * (x2 * x3) = a * x9 * (x4 * x5) * (x1 * (x2 * x3)) := by grind
    _ = a * x9 * (x4 * x5) * (x8 * (x6 * x7)) := by rw [hK]
    _ = a * x8 * (x6 * x4) * (x7 * x5 * x9) := by grind
    _ = a * x8 * (x2 * x2) * (x3 * x3 * (4 * y1)) := by rw [hT, hU]
    _ = 4 * a * (x2 * x3) * (x8 * y1) * (x2 * x3) := by grind

/-- What parseFloat64 does behind uscale. -/
def PEnd (u : Nat) (m : Nat) (e pe : Int) : Prop :=
  (u < 36028797018963966 ∧ (u + 1 + u / 4 % 2) / 4 = m ∧ -pe = e) ∨
  (36028797018963966 ≤ u ∧ u < 144115188075855872 ∧ ((u / 2 ||| u % 2) + 1 + (u / 2 ||| u % 2) / 4 % 2) / 4 = m ∧ -(pe - 1) = e)

theorem or_bit (n b : Nat) (hb : b < 2) : n ||| b = if b = 0 then n else n + 1 - n % 2 := by
  rcases (show b = 0 ∨ b = 1 by omega) with rfl | rfl
  · simp
  · rw [or_one]; simp

theorem round_same {u m : Nat} (h1 : 4 * m - 2 ≤ u) (h2 : u ≤ 4 * m + 2) (hm : 1 ≤ m) (ho : m % 2 = 1 → 4 * m - 2 < u ∧ u < 4 * m + 2) : (u + 1 + u / 4 % 2) / 4 = m := by
  rcases (show u = 4 * m - 2 ∨ u = 4 * m - 1 ∨ u = 4 * m ∨ u = 4 * m + 1 ∨ u = 4 * m + 2 by omega) with k | k | k | k | k
  · have : u / 4 = m - 1 := by omega
    rw [this]
    omega
  · have : u / 4 = m - 1 := by omega
    rw [this]
    omega
  · have : u / 4 = m := by omega
    rw [this]
    omega
  · have : u / 4 = m := by omega
    rw [this]
    omega
  · have : u / 4 = m := by omega
    rw [this]
    omega
theorem round_half {u m : Nat} (h1 : 8 * m - 4 ≤ u) (h2 : u ≤ 8 * m + 4) (hm : 1 ≤ m) (ho : m % 2 = 1 → 8 * m - 4 < u ∧ u < 8 * m + 4) : ((u / 2 ||| u % 2) + 1 + (u / 2 ||| u % 2) / 4 % 2) / 4 = m := by
  rw [or_bit _ _ (Nat.mod_lt _ (by decide))]
  by_cases hu : u % 2 = 0
  · rw [if_pos hu]
    exact round_same (by omega) (by omega) hm fun h => by have := ho h; omega
  · rw [if_neg hu]
    exact round_same (by omega) (by omega) hm fun h => by have := ho h; omega

/-- ████ A number of a float's interval is read as the float. ████ -/
theorem parse_in {m : Nat} {e : Int} (hf : Fin m e) {a : Nat} {q : Int} (h1 : 1 ≤ a) (h2 : a < 144115188075855872) (hq : -345 ≤ q) (hq2 : q ≤ 310) (hin : InR m e a q) {hi lo : Nat} (hrow : rowOk q hi lo) :
    8 ≤ psh a q ∧ psh a q < 64 ∧ PEnd (usc (px a) hi lo (psh a q).toNat) m e (pe a q) := by
  obtain ⟨l1, l2⟩ := lp_lim hq hq2
  have hlog : a.log2 < 57 := (Nat.log2_lt (by omega)).2 h2
  obtain ⟨x1, x2, -⟩ := px_top h1 (by omega)
  obtain ⟨n1, n2⟩ := pow_near q hq hq2
  have s8 : 8 ≤ psh a q := by unfold psh pe; omega
  obtain ⟨sh, hsh⟩ : ∃ sh : Nat, (sh : Int) = psh a q := ⟨(psh a q).toNat, by omega⟩
  have hseq := scale_eq a q h1 h2 hq hq2 sh hsh
  obtain ⟨N, hN⟩ : ∃ N, N = px a * upA q := ⟨_, rfl⟩
  obtain ⟨D, hD⟩ : ∃ D, D = dnB q * 2 ^ (4 + sh) := ⟨_, rfl⟩
  obtain ⟨Y, hY⟩ : ∃ Y, Y = T (-q) * U (-pe a q) := ⟨_, rfl⟩
  obtain ⟨K, hK⟩ : ∃ K, K = 4 * a * (T 0 * U 0) := ⟨_, rfl⟩
  rw [← hN, ← hD, ← hY, ← hK] at hseq
  have hD0 : 0 < D := by rw [hD]; exact Nat.mul_pos (dn_pos _) (Nat.two_pow_pos _)
  have hY0 : 0 < Y := by rw [hY]; exact Nat.mul_pos (T_pos _) (U_pos _)
  have toN : ∀ c : Nat, c * Y ≤ K → c * D ≤ N := fun c hc => by
    have := Nat.mul_le_mul_right D hc
    rw [← hseq] at this
    have e1 : c * Y * D = c * D * Y := by grind
    rw [e1] at this
    exact Nat.le_of_mul_le_mul_right this hY0
  have toN' : ∀ c : Nat, K ≤ c * Y → N ≤ c * D := fun c hc => by
    have := Nat.mul_le_mul_right D hc
    rw [← hseq] at this
    have e1 : c * Y * D = c * D * Y := by grind
    rw [e1] at this
    exact Nat.le_of_mul_le_mul_right this hY0
  have toNl : ∀ c : Nat, c * Y < K → c * D < N := fun c hc => by
    have := Nat.mul_lt_mul_of_pos_right hc hD0
    rw [← hseq] at this
    have e1 : c * Y * D = c * D * Y := by grind
    rw [e1] at this
    exact Nat.lt_of_mul_lt_mul_right this
  have toNl' : ∀ c : Nat, K < c * Y → N < c * D := fun c hc => by
    have := Nat.mul_lt_mul_of_pos_right hc hD0
    rw [← hseq] at this
    have e1 : c * Y * D = c * D * Y := by grind
    rw [e1] at this
    exact Nat.lt_of_mul_lt_mul_right this
  obtain ⟨i1, i2, i3⟩ := hin
  rw [← hK] at i1 i2 i3
  obtain ⟨X, hX⟩ : ∃ X, X = T (-q) * U e := ⟨_, rfl⟩
  rw [← hX] at i1 i2 i3
  have hpe : pe a q ≤ 1074 := by unfold pe; omega
  have hpe2 : -1400 ≤ -pe a q := by omega
  have he0 := hf.e0
  have hm0 := hf.m0
  have hm1 := hf.m1
  -- the two scales
  have up1 : ∀ i : Nat, e = -pe a q + i → X = 2 ^ i * Y := fun i hi => by rw [hX, hY, hi, U_add _ _ hpe2]; grind
  have dn1 : ∀ i : Nat, -pe a q = e + i → Y = 2 ^ i * X := fun i hi => by rw [hX, hY, hi, U_add _ _ (by omega)]; grind
  have loGe : 2 ≤ loM m e := by unfold loM; split <;> omega
  -- N against the powers of two
  have nlo : 2 ^ 66 * dnB q ≤ N := by
    rw [hN]
    have := Nat.mul_le_mul x1 n1
    have e1 : 9223372036854775808 * (8 * dnB q) = 2 ^ 66 * dnB q := by rw [← Nat.mul_assoc]
    rw [e1] at this
    exact this
  have nhi : N * 18014398509481984 ≤ 18446744073709551615 * (16 * dnB q * 18014398509481983) := by
    rw [hN, Nat.mul_assoc]
    exact Nat.mul_le_mul (by omega) n2
  have s64 : psh a q < 64 := by
    apply Int.lt_of_not_ge
    intro hge
    have hpe4 : pe a q = 1074 := by
      rcases (show pe a q = 1074 ∨ pe a q = 53 - (a.log2 + 1 : Nat) - lp10 q by unfold pe; omega) with k | k
      · exact k
      · exfalso; unfold psh at hge; omega
    obtain ⟨i, hi⟩ : ∃ i : Nat, e = -pe a q + i := ⟨(e + 1074).toNat, by omega⟩
    have hXY := up1 i hi
    have hYX : Y ≤ X := by rw [hXY]; exact Nat.le_mul_of_pos_left _ (Nat.two_pow_pos _)
    have k1 : 1 * Y ≤ K := Nat.le_trans (Nat.mul_le_mul (by omega) hYX) i1
    have k2 := toN 1 k1
    have k3 : 2 ^ 68 ≤ 2 ^ (4 + sh) := Nat.pow_le_pow_right (by decide) (by omega)
    have k4 := Nat.mul_le_mul_left (dnB q) k3
    rw [← hD] at k4
    have := dn_pos q
    simp only [Nat.reducePow] at k4
    omega
  refine ⟨s8, s64, ?_⟩
  -- uscale is exact
  have hx128 : px a = 128 * (a * 2 ^ (56 - a.log2)) := by
    unfold px
    rw [show 63 - a.log2 = 7 + (56 - a.log2) by omega, Nat.pow_add, show 2 ^ 7 = 128 by rfl]; grind
  have husc : usc (px a) hi lo (psh a q).toNat = unr N D := by
    rw [show (psh a q).toNat = sh by omega, hN, hD, hx128]
    exact usc_parse hq hq2 hrow (by omega) (by omega) (by omega)
  rw [husc]
  have ule : ∀ w : Nat, unr N D ≤ 2 * w ↔ N ≤ 2 * w * D := fun w => unr_le hD0
  have ult : ∀ w : Nat, unr N D < 2 * w ↔ N < 2 * w * D := fun w => unr_lt hD0
  have lim : e = -pe a q ∨ e = -pe a q + 1 := by
    rcases (show e = -pe a q ∨ e = -pe a q + 1 ∨ e + 1 ≤ -pe a q ∨ -pe a q + 2 ≤ e by omega) with k | k | k | k
    · exact .inl k
    · exact .inr k
    · -- too small
      exfalso
      have hpe5 : psh a q = 8 := by unfold psh; unfold pe at k ⊢; omega
      obtain ⟨i, hi⟩ : ∃ i : Nat, -pe a q = e + (i + 1 : Nat) := ⟨(-pe a q - e - 1).toNat, by omega⟩
      have hYX := dn1 _ hi
      have hY2 : 2 * X ≤ Y := by
        rw [hYX, Nat.pow_succ, Nat.mul_assoc]
        exact Nat.le_mul_of_pos_left _ (Nat.two_pow_pos _)
      have k1 : K ≤ (2 * m + 1) * Y := by
        have : hiM m * X ≤ (2 * m + 1) * Y := by
          unfold hiM
          rw [show 4 * m + 2 = (2 * m + 1) * 2 by omega, Nat.mul_assoc]
          exact Nat.mul_le_mul_left _ hY2
        omega
      have k2 := toN' _ k1
      have k3 : (2 * m + 1) * D ≤ 18014398509481983 * D := Nat.mul_le_mul_right _ (by omega)
      have k4 : D = 4096 * dnB q := by rw [hD, show 4 + sh = 12 by omega, show 2 ^ 12 = 4096 by rfl, Nat.mul_comm]
      have := dn_pos q
      simp only [Nat.reducePow] at nlo
      omega
    · -- too great
      exfalso
      obtain ⟨i, hi⟩ : ∃ i : Nat, e = -pe a q + (i + 2 : Nat) := ⟨(e + pe a q - 2).toNat, by omega⟩
      have hXY := up1 _ hi
      have hX4 : 4 * Y ≤ X := by
        rw [hXY, Nat.pow_succ, Nat.pow_succ, Nat.mul_assoc, Nat.mul_assoc]
        have := Nat.le_mul_of_pos_left (2 * (2 * Y)) (Nat.two_pow_pos i)
        omega
      have hnm := hf.nm (by omega)
      have hlo : 18014398509481983 ≤ loM m e := by unfold loM; split <;> omega
      have k1 : 18014398509481983 * (4 * Y) ≤ K := Nat.le_trans (Nat.mul_le_mul hlo hX4) i1
      have k2 := toN 72057594037927932 (by omega)
      have k3 : 2 ^ 12 ≤ 2 ^ (4 + sh) := Nat.pow_le_pow_right (by decide) (by omega)
      have k4 := Nat.mul_le_mul_left (dnB q) k3
      rw [← hD] at k4
      have := dn_pos q
      simp only [Nat.reducePow] at k4
      omega
  rcases lim with k | k
  · left
    have hXY : X = Y := by have := up1 0 (by omega); rwa [Nat.pow_zero, Nat.one_mul] at this
    rw [hXY] at i1 i2 i3
    have a1 := toN _ i1
    have a2 := toN' _ i2
    have b1 : ¬ unr N D < 2 * (2 * m - 1) := fun h => by
      have h5 := (ult _).1 h
      have h6 : 2 * (2 * m - 1) * D ≤ loM m e * D := Nat.mul_le_mul_right _ (by have := (lo_between hf).1; omega)
      omega
    have b2 : unr N D ≤ 2 * (2 * m + 1) := (ule _).2 (by rw [show 2 * (2 * m + 1) = hiM m by unfold hiM; omega]; exact a2)
    have b3 : m % 2 = 1 → 4 * m - 2 < unr N D ∧ unr N D < 4 * m + 2 := fun ho => by
      obtain ⟨g1, g2⟩ := i3 ho
      have c1 := toNl _ g1
      have c2 := toNl' _ g2
      constructor
      · apply Nat.lt_of_not_le
        intro h
        have h5 := (ule (2 * m - 1)).1 (by omega)
        have h6 : 2 * (2 * m - 1) * D ≤ loM m e * D := Nat.mul_le_mul_right _ (by have := (lo_between hf).1; omega)
        omega
      · have := (ult (2 * m + 1)).2 (by rw [show 2 * (2 * m + 1) = hiM m by unfold hiM; omega]; exact c2)
        omega
    refine ⟨?_, round_same (by omega) (by omega) hm0 b3, by omega⟩
    by_cases hmx : m = 9007199254740991
    · have := b3 (by omega); omega
    · omega
  · right
    have hXY : X = 2 * Y := by have := up1 1 (by omega); rwa [Nat.pow_one] at this
    have hnm := hf.nm (by omega)
    have r1 : ∀ c : Nat, c * X = 2 * c * Y := fun c => by rw [hXY]; grind
    rw [r1, r1] at i3
    rw [r1] at i1 i2
    have a1 := toN _ i1
    have a2 := toN' _ i2
    have b1 : ∀ w : Nat, w ≤ loM m e → ¬ unr N D < 2 * w := fun w hw h => by
      have h5 := (ult _).1 h
      have h6 : 2 * w * D ≤ 2 * loM m e * D := Nat.mul_le_mul_right _ (by omega)
      omega
    have b2 : unr N D ≤ 2 * (4 * m + 2) := (ule _).2 a2
    have b3 : m % 2 = 1 → 8 * m - 4 < unr N D ∧ unr N D < 8 * m + 4 := fun ho => by
      obtain ⟨g1, g2⟩ := i3 ho
      have c1 := toNl _ g1
      have c2 := toNl' _ g2
      constructor
      · apply Nat.lt_of_not_le
        intro h
        have h5 := (ule (4 * m - 2)).1 (by omega)
        have h6 : 2 * (4 * m - 2) * D ≤ 2 * loM m e * D := Nat.mul_le_mul_right _ (by have := (lo_between hf).1; omega)
        omega
      · have := (ult (4 * m + 2)).2 c2
        omega
    have b4 := b1 (4 * m - 2) (lo_between hf).1
    refine ⟨?_, by omega, round_half (by omega) (by omega) hm0 b3, by omega⟩
    by_cases hmn : m = 4503599627370496
    · have hlo : loM m e = 4 * m - 1 := by unfold loM; rw [if_pos ⟨hmn, by omega⟩]
      have := b1 (4 * m - 1) (by omega)
      omega
    · omega
/-! Plain laws: the model's rounding of a number of a float's interval. -/
/-- mag * 2^place is rounded to m * 2^e. -/
def InN (m : Nat) (e : Int) (mag : Nat) (place : Int) : Prop :=
  loM m e * U e ≤ 4 * mag * U place ∧ 4 * mag * U place ≤ hiM m * U e ∧ (m % 2 = 1 → loM m e * U e < 4 * mag * U place ∧ 4 * mag * U place < hiM m * U e)
/-- The lower bits of the float's word. -/
def rung (m : Nat) (e : Int) : Nat := (e + 1074).toNat * 4503599627370496 + m

theorem cut_even (neg : Bool) (n d m : Nat) (hm : 1 ≤ m) (h1 : (4 * m - 2) * 2 ^ d ≤ 4 * n) (h2 : 4 * n ≤ (4 * m + 2) * 2 ^ d) (h3 : m % 2 = 1 → (4 * m - 2) * 2 ^ d < 4 * n ∧ 4 * n < (4 * m + 2) * 2 ^ d) :
    Ieee.Toward.even.cut neg n d = m := by
  obtain ⟨g, hg⟩ : ∃ g, g = 2 ^ d := ⟨_, rfl⟩
  have hg0 : 0 < g := by rw [hg]; exact Nat.two_pow_pos d
  have hmin : min d (n.log2 + 2) = d := by
    have hn : n ≠ 0 := by
      intro h
      rw [h, ← hg] at h1
      have : 2 * g ≤ (4 * m - 2) * g := Nat.mul_le_mul_right _ (by omega)
      omega
    rcases Nat.lt_or_ge d (n.log2 + 2) with h | h
    · omega
    · exfalso
      have k1 : n < 2 ^ (n.log2 + 1) := Nat.lt_log2_self
      have k2 : 2 ^ (n.log2 + 2) ≤ 2 ^ d := Nat.pow_le_pow_right (by decide) h
      rw [← hg, Nat.pow_succ] at k2
      rw [← hg] at h1
      have : 2 * g ≤ (4 * m - 2) * g := Nat.mul_le_mul_right _ (by omega)
      omega
  unfold Ieee.Toward.cut
  simp only [hmin, Nat.one_shiftLeft]
  rw [← hg] at h1 h2 h3 ⊢
  have e1 := Nat.div_add_mod n g
  have e2 := Nat.mod_lt n hg0
  obtain ⟨low, hlow⟩ : ∃ x, x = n / g := ⟨_, rfl⟩
  obtain ⟨rest, hrest⟩ : ∃ x, x = n % g := ⟨_, rfl⟩
  rw [← hlow, ← hrest] at e1
  rw [← hrest] at e2
  rw [← hlow, ← hrest]
  have b1 : (4 * m - 2) * g + 2 * g = 4 * (m * g) := by
    rw [← Nat.add_mul, show 4 * m - 2 + 2 = 4 * m by omega, Nat.mul_assoc]
  have b2 : (4 * m + 2) * g = 4 * (m * g) + 2 * g := by rw [Nat.add_mul, Nat.mul_assoc]
  have lim : low = m ∨ low + 1 = m := by
    rcases (show low = m ∨ low + 1 = m ∨ m + 1 ≤ low ∨ low + 2 ≤ m by omega) with k | k | k | k
    · exact .inl k
    · exact .inr k
    · exfalso
      have := Nat.mul_le_mul_left g k
      rw [Nat.mul_add, Nat.mul_one, Nat.mul_comm g m] at this
      omega
    · exfalso
      have := Nat.mul_le_mul_left g k
      rw [Nat.mul_add, Nat.mul_comm g m] at this
      omega
  rcases lim with k | k
  · rw [k] at e1
    rw [Nat.mul_comm g m] at e1
    have n1 : ¬ g < 2 * rest := by omega
    have n2 : ¬ (g = 2 * rest ∧ low % 2 = 1) := fun h => by have := h3 (by omega); omega
    have : (decide (g < 2 * rest) || (g == 2 * rest && low % 2 == 1)) = false := by
      simp only [Bool.or_eq_false_iff, decide_eq_false_iff_not, Bool.and_eq_false_iff, beq_eq_false_iff_ne]
      refine ⟨n1, ?_⟩
      by_cases h : g = 2 * rest
      · right; intro h2; exact n2 ⟨h, h2⟩
      · left; exact h
    rw [this, k]
    rfl
  · have e3 : g * low + g = m * g := by rw [← k, Nat.add_mul, Nat.one_mul, Nat.mul_comm g low]
    have : (decide (g < 2 * rest) || (g == 2 * rest && low % 2 == 1)) = true := by
      by_cases h : g < 2 * rest
      · simp [h]
      · have h5 : g = 2 * rest := by omega
        have h6 : low % 2 = 1 := by
          rcases Nat.mod_two_eq_zero_or_one m with h7 | h7
          · omega
          · have := h3 h7; omega
        rw [h6, Bool.or_eq_true]; right
        rw [Bool.and_eq_true]
        exact ⟨by rw [beq_iff_eq]; exact h5, rfl⟩
    rw [this, ← k]
    rfl

theorem near_core {m : Nat} {e : Int} (hf : Fin m e) (neg : Bool) (mag : Nat) (place : Int) (hp : -1400 ≤ place) (hin : InN m e mag place) (hmag : mag ≠ 0)
    (last : Int) (hlast : last = max (place + (mag.log2 : Nat) - 52) (-1074)) (d n : Nat) (hd : d = (last - place).toNat) (hn : n = mag * 2 ^ (place - last).toNat) :
    (e = last ∧ Ieee.Toward.even.cut neg n d = m) ∨ (e = last + 1 ∧ m = 4503599627370496 ∧ Ieee.Toward.even.cut neg n d = 9007199254740992) := by
  obtain ⟨i1, i2, i3⟩ := hin
  have he0 := hf.e0
  have he1 := hf.e1
  have hm0 := hf.m0
  have hm1 := hf.m1
  obtain ⟨lb1, lb2⟩ := lo_between hf
  have k1 : mag < 2 ^ (mag.log2 + 1) := Nat.lt_log2_self
  have k2 : 2 ^ mag.log2 ≤ mag := Nat.log2_self_le hmag
  -- n / 2^d is mag * 2^(place - last)
  have hU0 := U_pos last
  have hsc : n * U last = mag * U place * 2 ^ d := by
    rcases Int.le_total last place with h | h
    · rw [show d = 0 by omega, Nat.pow_zero, Nat.mul_one, hn, show place = last + ((place - last).toNat : Nat) by omega, U_add _ _ (by omega)]
      rw [show (last + ((place - last).toNat : Nat) - last).toNat = (place - last).toNat by omega]
      grind
    · rw [hn, show (place - last).toNat = 0 by omega, Nat.pow_zero, Nat.mul_one, show last = place + (d : Nat) by omega, U_add _ _ (by omega)]
      grind
  have hnhi : n < 9007199254740992 * 2 ^ d := by
    rcases Int.le_total last place with h | h
    · rw [show d = 0 by omega, Nat.pow_zero, Nat.mul_one, hn]
      have h5 : mag * 2 ^ (place - last).toNat < 2 ^ (mag.log2 + 1) * 2 ^ (place - last).toNat := Nat.mul_lt_mul_of_pos_right k1 (Nat.two_pow_pos _)
      rw [← Nat.pow_add] at h5
      have h6 : 2 ^ (mag.log2 + 1 + (place - last).toNat) ≤ 2 ^ 53 := Nat.pow_le_pow_right (by decide) (by omega)
      rw [show (2 : Nat) ^ 53 = 9007199254740992 by rfl] at h6
      omega
    · rw [hn, show (place - last).toNat = 0 by omega, Nat.pow_zero, Nat.mul_one]
      have h6 : 2 ^ (mag.log2 + 1) ≤ 2 ^ (53 + d) := Nat.pow_le_pow_right (by decide) (by omega)
      rw [Nat.pow_add 2 53 d, show (2 : Nat) ^ 53 = 9007199254740992 by rfl] at h6
      omega
  have hnlo : last ≠ -1074 → 4503599627370496 * 2 ^ d ≤ n := by
    intro hne
    have hle : last = place + (mag.log2 : Nat) - 52 := by omega
    rcases Int.le_total last place with h | h
    · rw [show d = 0 by omega, Nat.pow_zero, Nat.mul_one, hn]
      have h5 : 2 ^ mag.log2 * 2 ^ (place - last).toNat ≤ mag * 2 ^ (place - last).toNat := Nat.mul_le_mul_right _ k2
      rw [← Nat.pow_add] at h5
      have h6 : 2 ^ 52 ≤ 2 ^ (mag.log2 + (place - last).toNat) := Nat.pow_le_pow_right (by decide) (by omega)
      rw [show (2 : Nat) ^ 52 = 4503599627370496 by rfl] at h6
      omega
    · rw [hn, show (place - last).toNat = 0 by omega, Nat.pow_zero, Nat.mul_one]
      have h6 : 2 ^ (52 + d) ≤ 2 ^ mag.log2 := Nat.pow_le_pow_right (by decide) (by omega)
      rw [Nat.pow_add 2 52 d, show (2 : Nat) ^ 52 = 4503599627370496 by rfl] at h6
      omega
  have p0 : 0 < 2 ^ d := Nat.two_pow_pos d
  -- comparisons in units of 2^last
  have e4 : 4 * mag * U place * 2 ^ d = 4 * n * U last := by
    have : 4 * n * U last = 4 * (n * U last) := Nat.mul_assoc ..
    rw [this, hsc]; grind
  have le1 : ∀ c : Nat, c * U last ≤ 4 * mag * U place → c * 2 ^ d ≤ 4 * n := fun c hc => by
    have := Nat.mul_le_mul_right (2 ^ d) hc
    rw [e4] at this
    have e5 : c * U last * 2 ^ d = c * 2 ^ d * U last := by grind
    rw [e5] at this
    exact Nat.le_of_mul_le_mul_right this hU0
  have le2 : ∀ c : Nat, 4 * mag * U place ≤ c * U last → 4 * n ≤ c * 2 ^ d := fun c hc => by
    have := Nat.mul_le_mul_right (2 ^ d) hc
    rw [e4] at this
    have e5 : c * U last * 2 ^ d = c * 2 ^ d * U last := by grind
    rw [e5] at this
    exact Nat.le_of_mul_le_mul_right this hU0
  have lt1 : ∀ c : Nat, c * U last < 4 * mag * U place → c * 2 ^ d < 4 * n := fun c hc => by
    have := Nat.mul_lt_mul_of_pos_right hc p0
    rw [e4] at this
    have e5 : c * U last * 2 ^ d = c * 2 ^ d * U last := by grind
    rw [e5] at this
    exact Nat.lt_of_mul_lt_mul_right this
  have lt2 : ∀ c : Nat, 4 * mag * U place < c * U last → 4 * n < c * 2 ^ d := fun c hc => by
    have := Nat.mul_lt_mul_of_pos_right hc p0
    rw [e4] at this
    have e5 : c * U last * 2 ^ d = c * 2 ^ d * U last := by grind
    rw [e5] at this
    exact Nat.lt_of_mul_lt_mul_right this
  have lim : e = last ∨ e = last + 1 := by
    rcases (show e = last ∨ e = last + 1 ∨ e + 1 ≤ last ∨ last + 2 ≤ e by omega) with k | k | k | k
    · exact .inl k
    · exact .inr k
    · exfalso
      obtain ⟨i, hi⟩ : ∃ i : Nat, last = e + (i + 1 : Nat) := ⟨(last - e - 1).toNat, by omega⟩
      have hU : 2 * U e ≤ U last := by
        rw [hi, U_add _ _ (by omega), Nat.pow_succ, Nat.mul_assoc]
        exact Nat.le_mul_of_pos_left _ (Nat.two_pow_pos _)
      have h5 : 4 * mag * U place ≤ (2 * m + 1) * U last := by
        have : hiM m * U e ≤ (2 * m + 1) * U last := by
          unfold hiM
          rw [show 4 * m + 2 = (2 * m + 1) * 2 by omega, Nat.mul_assoc]
          exact Nat.mul_le_mul_left _ hU
        omega
      have h6 := le2 _ h5
      have h7 := hnlo (by omega)
      have h8 : (2 * m + 1) * 2 ^ d ≤ 18014398509481983 * 2 ^ d := Nat.mul_le_mul_right _ (by omega)
      omega
    · exfalso
      obtain ⟨i, hi⟩ : ∃ i : Nat, e = last + (i + 2 : Nat) := ⟨(e - last - 2).toNat, by omega⟩
      have hU : 4 * U last ≤ U e := by
        rw [hi, U_add _ _ (by omega), Nat.pow_succ, Nat.pow_succ, Nat.mul_assoc, Nat.mul_assoc]
        have := Nat.le_mul_of_pos_left (2 * (2 * U last)) (Nat.two_pow_pos i)
        omega
      have hnm := hf.nm (by omega)
      have h5 : 18014398509481982 * (4 * U last) ≤ loM m e * U e := Nat.mul_le_mul (by omega) hU
      have h6 := le1 72057594037927928 (by omega)
      omega
  rcases lim with k | k
  · left
    refine ⟨k, ?_⟩
    have hcut : Ieee.Toward.even.cut neg n d = m := by
      rw [k] at i1 i2 i3 lb1
      have a1 := le1 _ i1
      have a2 := le2 _ i2
      rw [show hiM m = 4 * m + 2 from rfl] at a2
      refine cut_even neg n d m hm0 ?_ a2 fun ho => ?_
      · exact Nat.le_trans (Nat.mul_le_mul_right _ lb1) a1
      · obtain ⟨g1, g2⟩ := i3 ho
        exact ⟨Nat.lt_of_le_of_lt (Nat.mul_le_mul_right _ lb1) (lt1 _ g1), lt2 _ g2⟩
    exact hcut
  · right
    refine ⟨k, ?_⟩
    have hU : U e = 2 * U last := by rw [k, show last + 1 = last + ((1 : Nat) : Int) by omega, U_add _ _ (by omega), Nat.pow_one]
    have hnm := hf.nm (by omega)
    have r1 : ∀ c : Nat, c * U e = 2 * c * U last := fun c => by rw [hU]; grind
    rw [r1] at i1
    have a1 := le1 _ i1
    have hm2 : m = 4503599627370496 := by
      by_cases h : m = 4503599627370496
      · exact h
      · exfalso
        have : 2 * 18014398509481986 * 2 ^ d ≤ 2 * loM m e * 2 ^ d := Nat.mul_le_mul_right _ (by omega)
        omega
    have hlo : loM m e = 4 * m - 1 := by unfold loM; rw [if_pos ⟨hm2, by omega⟩]
    rw [hlo, hm2] at a1
    have hcut : Ieee.Toward.even.cut neg n d = 9007199254740992 := by
      refine cut_even neg n d _ (by decide) (by omega) (by omega) fun ho => by omega
    exact ⟨hm2, hcut⟩

theorem min_rung (x m : Nat) (hx : x ≤ 2045) (hm : m < 9007199254740992) : min (x * 4503599627370496 + m) 9218868437227405312 = x * 4503599627370496 + m := by
  apply Nat.min_eq_left
  omega
theorem min_rung2 (x : Nat) (hx : x ≤ 2044) : min (x * 4503599627370496 + 9007199254740992) 9218868437227405312 = (x + 1) * 4503599627370496 + 4503599627370496 := by
  rw [Nat.min_eq_left (by omega)]
  omega
/-- ████ The model's rounding. ████ -/
theorem nearest_in {m : Nat} {e : Int} (hf : Fin m e) (neg : Bool) (mag : Nat) (place : Int) (hp : -1400 ≤ place) (hin : InN m e mag place) :
    Ieee.double.nearest neg mag place = Ieee.double.word neg (rung m e) := by
  have he0 := hf.e0
  have he1 := hf.e1
  have hm1 := hf.m1
  have hmag : mag ≠ 0 := by
    intro h
    have i1 := hin.1
    rw [h, Nat.mul_zero, Nat.zero_mul] at i1
    have h2 : 2 * U e ≤ loM m e * U e := Nat.mul_le_mul_right _ (by have := (lo_between hf).1; have := hf.m0; omega)
    have h3 := U_pos e
    clear hin
    omega
  unfold Ieee.Format.nearest
  rw [if_neg hmag]
  have hlp : Ieee.Format.leastPlace Ieee.double = -1074 := by decide
  have hfb : (Ieee.Format.fractionBits Ieee.double : Int) = 52 := by decide
  have hbin : Ieee.Format.binade Ieee.double = 4503599627370496 := by decide
  have hinf : Ieee.Format.infRung Ieee.double = 9218868437227405312 := by decide
  rw [hlp, hfb, hbin, hinf]
  simp only []
  obtain ⟨last, hlast⟩ : ∃ x, x = max (place + (mag.log2 : Nat) - 52) (-1074) := ⟨_, rfl⟩
  rw [← hlast, Nat.shiftLeft_eq]
  have core := near_core hf neg mag place hp hin hmag last hlast _ _ rfl rfl
  clear hin
  rcases core with ⟨k1, k2⟩ | ⟨k1, k2, k3⟩
  · rw [k2, show (last - -1074).toNat = (e + 1074).toNat by omega, min_rung _ _ (by omega) hm1]
    rfl
  · rw [k3, show (last - -1074).toNat = (last + 1074).toNat by omega, min_rung2 _ (by omega)]
    unfold rung
    rw [show (e + 1074).toNat = (last + 1074).toNat + 1 by omega, k2]
end Go.Proofs.YtghajgdiaopioaaGreatDoor.Fl
end
