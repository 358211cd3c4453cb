/- Walks and plain laws joined (Gg, Gh). Conditions: stand in each law. -/
import Derived.Test.YtghajgdiaopioaaGreatDoorJxj
set_option linter.unusedVariables false
set_option linter.unusedSimpArgs false
section
/- Plain laws: reading a float's word, products and quotients with powers of ten. Conditions: stand in each law; no program is named here. -/
namespace Go.Proofs.YtghajgdiaopioaaGreatDoor.Fl
open Ieee (double Datum)
theorem word_is (neg : Bool) (r : Nat) : double.word neg r = if neg then 9223372036854775808 + r else r := by
  unfold Ieee.Format.word
  cases neg <;> rfl
theorem rung_lt {m : Nat} {e : Int} (hf : Fin m e) : rung m e < 9218868437227405312 ∧ 1 ≤ rung m e := by
  have := hf.m1; have := hf.e0; have := hf.e1; have := hf.m0
  unfold rung
  omega
theorem read_rung (neg : Bool) (r : Nat) (h : r < 9218868437227405312) :
    double.read (double.word neg r) = if r < 4503599627370496 then .number neg r (-1074) else .number neg (4503599627370496 + r % 4503599627370496) (-1074 + (r / 4503599627370496 - 1 : Nat)) := by
  have hs : Ieee.Format.signWeight double = 9223372036854775808 := by decide
  have hb : Ieee.Format.binade double = 4503599627370496 := by decide
  have hi : Ieee.Format.infRung double = 9218868437227405312 := by decide
  have hl : Ieee.Format.leastPlace double = -1074 := by decide
  unfold Ieee.Format.read
  simp only [hs, hb, hi, hl, word_is]
  have e1 : (if neg = true then 9223372036854775808 + r else r) % 9223372036854775808 = r := by split <;> omega
  have e2 : ((if neg = true then 9223372036854775808 + r else r) / 9223372036854775808 % 2 == 1) = neg := by
    cases neg
    · simp only [Bool.false_eq_true, if_false]
      have : r / 9223372036854775808 = 0 := by omega
      rw [this]; rfl
    · simp only [if_true]
      have : (9223372036854775808 + r) / 9223372036854775808 = 1 := by omega
      rw [this]; rfl
  rw [e1, e2]
  by_cases h1 : r < 4503599627370496
  · rw [if_pos h1, if_pos h1]
  · rw [if_neg h1, if_neg h1, if_pos h]
theorem read_word {m : Nat} {e : Int} (hf : Fin m e) (neg : Bool) : double.read (double.word neg (rung m e)) = .number neg m e := by
  have h0 := hf.m0
  have h1 := hf.m1
  have h2 := hf.e0
  have h3 := hf.e1
  rw [read_rung neg _ (rung_lt hf).1]
  by_cases hm : m < 4503599627370496
  · have he : e = -1074 := by
      by_cases h : -1074 < e
      · have := hf.nm h; omega
      · omega
    have hr : rung m e = m := by unfold rung; rw [he]; omega
    rw [hr, if_pos hm, he]
  · have hr : rung m e = ((e + 1074).toNat + 1) * 4503599627370496 + (m - 4503599627370496) := by unfold rung; omega
    have k1 : ¬ rung m e < 4503599627370496 := by omega
    have k2 : rung m e % 4503599627370496 = m - 4503599627370496 := by omega
    have k3 : rung m e / 4503599627370496 = (e + 1074).toNat + 1 := by omega
    have q1 : 4503599627370496 + (m - 4503599627370496) = m := by omega
    have q2 : (-1074 : Int) + (((e + 1074).toNat + 1 - 1 : Nat) : Int) = e := by omega
    rw [if_neg k1, k2, k3, q1, q2]

/-- A whole number of at most 53 digits as a float. -/
def nM (a : Nat) : Nat := a * 2 ^ (52 - a.log2)
def nE (a : Nat) : Int := (a.log2 : Int) - 52
theorem fin_nat {a : Nat} (h1 : 1 ≤ a) (h2 : a < 9007199254740992) : Fin (nM a) (nE a) ∧ 4503599627370496 ≤ nM a ∧ nM a * U (nE a) = a * U 0 := by
  have hl : a.log2 < 53 := (Nat.log2_lt (by omega)).2 h2
  have k1 : 2 ^ a.log2 ≤ a := Nat.log2_self_le (by omega)
  have k2 : a < 2 ^ (a.log2 + 1) := Nat.lt_log2_self
  have m1 : 4503599627370496 ≤ nM a := by
    unfold nM
    have := Nat.mul_le_mul_right (2 ^ (52 - a.log2)) k1
    rw [← Nat.pow_add, show a.log2 + (52 - a.log2) = 52 by omega] at this
    exact this
  have m2 : nM a < 9007199254740992 := by
    unfold nM
    have := Nat.mul_lt_mul_of_pos_right k2 (Nat.two_pow_pos (52 - a.log2))
    rw [← Nat.pow_add, show a.log2 + 1 + (52 - a.log2) = 53 by omega] at this
    exact this
  refine ⟨⟨by omega, m2, by unfold nE; omega, by unfold nE; omega, fun _ => m1⟩, m1, ?_⟩
  have hU : U 0 = 2 ^ (52 - a.log2) * U (nE a) := by
    have h52 : (0 : Int) = nE a + ((52 - a.log2 : Nat) : Int) := by unfold nE; omega
    rw [← U_add _ _ (by unfold nE; omega), ← h52]
  unfold nM
  rw [hU]
  grind
theorem nat_in {a : Nat} (h1 : 1 ≤ a) (h2 : a < 9007199254740992) : InN (nM a) (nE a) a 0 := by
  obtain ⟨hf, hm, hv⟩ := fin_nat h1 h2
  have hU := U_pos (nE a)
  have e : 4 * a * U 0 = 4 * nM a * U (nE a) := by rw [Nat.mul_assoc, ← hv]; grind
  have lo : loM (nM a) (nE a) < 4 * nM a := by unfold loM; split <;> omega
  have hi : 4 * nM a < hiM (nM a) := by unfold hiM; omega
  unfold InN
  rw [e]
  have l1 := Nat.mul_lt_mul_of_pos_right lo hU
  have l2 := Nat.mul_lt_mul_of_pos_right hi hU
  exact ⟨Nat.le_of_lt l1, Nat.le_of_lt l2, fun _ => ⟨l1, l2⟩⟩
theorem nearest_nat {a : Nat} (h1 : 1 ≤ a) (h2 : a < 9007199254740992) (neg : Bool) : double.nearest neg a 0 = double.word neg (rung (nM a) (nE a)) :=
  nearest_in (fin_nat h1 h2).1 neg a 0 (by omega) (nat_in h1 h2)
/-- An exact value is rounded to itself. -/
theorem nearest_same {m : Nat} {e : Int} (hf : Fin m e) (neg : Bool) (mag : Nat) (place : Int) (hp : -1400 ≤ place) (hv : mag * U place = m * U e) : double.nearest neg mag place = double.word neg (rung m e) := by
  have hU := U_pos e
  have h0 := hf.m0
  have e1 : 4 * mag * U place = 4 * m * U e := by rw [Nat.mul_assoc, hv]; grind
  have lo : loM m e < 4 * m := by unfold loM; split <;> omega
  have hi : 4 * m < hiM m := by unfold hiM; omega
  refine nearest_in hf neg mag place hp ?_
  unfold InN
  rw [e1]
  have l1 := Nat.mul_lt_mul_of_pos_right lo hU
  have l2 := Nat.mul_lt_mul_of_pos_right hi hU
  exact ⟨Nat.le_of_lt l1, Nat.le_of_lt l2, fun _ => ⟨l1, l2⟩⟩

/-! ### The powers of ten up to 10^22 -/
def tM (k : Nat) : Nat := if k ≤ 15 then nM (10 ^ k) else 10 ^ k / 2 ^ ((10 ^ k).log2 - 52)
def tE (k : Nat) : Int := ((10 ^ k).log2 : Int) - 52
def tF (k : Nat) : Nat := double.word false (rung (tM k) (tE k))
theorem ten_ok : ∀ k, k ≤ 22 → Fin (tM k) (tE k) ∧ 4503599627370496 ≤ tM k ∧ tM k * U (tE k) = 10 ^ k * U 0 ∧ tE k ≤ 22 ∧ -52 ≤ tE k := by
  have h : (List.range 23).all (fun k => decide (4503599627370496 ≤ tM k) && decide (tM k < 9007199254740992) && decide (-52 ≤ tE k) && decide (tE k ≤ 22) && decide (tM k * U (tE k) = 10 ^ k * U 0)) = true := by decide +kernel
  intro k hk
  have := List.all_eq_true.1 h k (List.mem_range.2 (by omega))
  simp only [Bool.and_eq_true, decide_eq_true_eq] at this
  obtain ⟨⟨⟨⟨a1, a2⟩, a3⟩, a4⟩, a5⟩ := this
  exact ⟨⟨by omega, a2, by omega, by omega, fun _ => a1⟩, a1, a5, a4, a3⟩
theorem T_zero (k : Nat) (hk : k ≤ 400) : T 0 = 10 ^ k * T (-(k : Int)) := by
  have := T_add (-(k : Int)) k (by omega)
  rwa [Int.add_left_neg] at this
theorem T_up (k : Nat) : T (k : Int) = 10 ^ k * T 0 := by
  have := T_add 0 k (by omega)
  rwa [Int.zero_add] at this
theorem U_mul (i j : Int) (hi : -1400 ≤ i) (hj : -1400 ≤ j) (hij : -1400 ≤ i + j) : U i * U j = U (i + j) * U 0 := by
  obtain ⟨n0, h0⟩ : ∃ n0 : Nat, (n0 : Int) = 0 + 1400 := ⟨1400, by omega⟩
  obtain ⟨n1, h1⟩ : ∃ n1 : Nat, (n1 : Int) = i + 1400 := ⟨(i + 1400).toNat, by omega⟩
  obtain ⟨n2, h2⟩ : ∃ n2 : Nat, (n2 : Int) = j + 1400 := ⟨(j + 1400).toNat, by omega⟩
  obtain ⟨n3, h3⟩ : ∃ n3 : Nat, (n3 : Int) = i + j + 1400 := ⟨(i + j + 1400).toNat, by omega⟩
  rw [U_is 0 n0 h0, U_is i n1 h1, U_is j n2 h2, U_is (i + j) n3 h3]
  exact pow2 _ _ _ _ _ (by omega)

/-- A product with a power of ten, of a number of a float's interval. -/
theorem mul_in {m : Nat} {e : Int} {a k : Nat} (hk : k ≤ 22) (hin : InR m e a (k : Int)) {x : Nat} {i : Int} (hi : -52 ≤ i) (hx : x * U i = a * U 0) : InN m e (x * tM k) (i + tE k) := by
  obtain ⟨hf, h1, hv, h3, h4⟩ := ten_ok k hk
  have hU := U_mul i (tE k) (by omega) (by omega) (by omega)
  have hT := T_zero k (by omega)
  have hT0 := T_pos (-(k : Int))
  have hU0 := U_pos 0
  obtain ⟨Y, hY⟩ : ∃ Y, Y = T (-(k : Int)) := ⟨_, rfl⟩
  obtain ⟨V, hV⟩ : ∃ V, V = U (i + tE k) := ⟨_, rfl⟩
  obtain ⟨Z, hZ⟩ : ∃ Z, Z = U 0 := ⟨_, rfl⟩
  obtain ⟨E, hE⟩ : ∃ E, E = U e := ⟨_, rfl⟩
  obtain ⟨I, hI⟩ : ∃ E, E = U i := ⟨_, rfl⟩
  obtain ⟨J, hJ⟩ : ∃ E, E = U (tE k) := ⟨_, rfl⟩
  obtain ⟨W, hW⟩ : ∃ W, W = 10 ^ k := ⟨_, rfl⟩
  obtain ⟨M, hM⟩ : ∃ M, M = tM k := ⟨_, rfl⟩
  rw [← hV, ← hZ, ← hI, ← hJ] at hU
  rw [← hZ, ← hJ, ← hW, ← hM] at hv
  rw [← hI, ← hZ] at hx
  rw [← hY, ← hW] at hT
  rw [← hY] at hT0
  rw [← hZ] at hU0
  have key : x * M * V = a * W * Z := by
    apply Nat.eq_of_mul_eq_mul_right hU0
    calc x * M * V * Z = x * M * (V * Z) := by grind
      _ = x * M * (I * J) := by rw [hU]
      _ = (x * I) * (M * J) := by grind
      _ = (a * Z) * (W * Z) := by rw [hx, hv]
      _ = a * W * Z * Z := by grind
  unfold InR at hin
  unfold InN
  rw [← hY, ← hE, ← hZ, hT] at hin
  rw [← hV, ← hE, ← hM]
  have e1 : ∀ c : Nat, c * (Y * E) = c * E * Y := fun c => by grind
  have e2 : 4 * a * (W * Y * Z) = 4 * (x * M) * V * Y := by
    have : 4 * (x * M) * V * Y = 4 * (x * M * V) * Y := by grind
    rw [this, key]; grind
  rw [e1, e1, e2] at hin
  simp only [Nat.mul_le_mul_right_iff hT0, Nat.mul_lt_mul_right hT0] at hin
  exact hin

/-- A quotient by a power of ten, of a number of a float's interval. -/
theorem div_in {m : Nat} {e : Int} (hfm : Fin m e) {a k : Nat} (hk : k ≤ 22) (hin : InR m e a (-(k : Int))) {x : Nat} {i : Int} (hi : -52 ≤ i) (hi2 : i ≤ 52) (hx : x * U i = a * U 0) (hx1 : 4503599627370496 ≤ x) :
    InN m e (2 * (x * 2 ^ 54 / tM k) + (x * 2 ^ 54 % tM k != 0).toNat) (i - tE k - 55) := by
  obtain ⟨hf, h1, hv, h3, h4⟩ := ten_ok k hk
  have hm1 := hf.m1
  obtain ⟨M, hM⟩ : ∃ M, M = tM k := ⟨_, rfl⟩
  rw [← hM] at hm1 h1 hv ⊢
  have hM0 : 0 < M := by omega
  obtain ⟨D, hD⟩ : ∃ D, D = x * 2 ^ 54 := ⟨_, rfl⟩
  rw [← hD]
  obtain ⟨G, hG⟩ : ∃ G, G = 2 * (D / M) + (D % M != 0).toNat := ⟨_, rfl⟩
  rw [← hG]
  have d1 := Nat.div_add_mod D M
  have d2 := Nat.mod_lt D hM0
  have hbit : (D % M = 0 ∧ G = 2 * (D / M)) ∨ (D % M ≠ 0 ∧ G = 2 * (D / M) + 1) := by
    by_cases h : D % M = 0
    · left; exact ⟨h, by rw [hG, h]; rfl⟩
    · right; refine ⟨h, ?_⟩
      rw [hG]
      have : (D % M != 0) = true := by simpa using h
      rw [this]; rfl
  -- against even numbers
  have gle : ∀ w : Nat, w * M ≤ D → 2 * w ≤ G := fun w hw => by
    have : w ≤ D / M := (Nat.le_div_iff_mul_le hM0).2 hw
    omega
  have ggt : ∀ w : Nat, w * M < D → 2 * w < G := fun w hw => by
    have k1 : w ≤ D / M := (Nat.le_div_iff_mul_le hM0).2 (Nat.le_of_lt hw)
    rcases hbit with ⟨b1, b2⟩ | ⟨b1, b2⟩
    · rcases Nat.lt_or_ge w (D / M) with k2 | k2
      · omega
      · exfalso
        have : w = D / M := by omega
        rw [b1, ← this, Nat.mul_comm] at d1
        omega
    · omega
  have glt : ∀ w : Nat, D < w * M → G < 2 * w := fun w hw => by
    have : D / M < w := (Nat.div_lt_iff_lt_mul hM0).2 hw
    omega
  have gge : ∀ w : Nat, D ≤ w * M → G ≤ 2 * w := fun w hw => by
    rcases hbit with ⟨b1, b2⟩ | ⟨b1, b2⟩
    · have : D / M ≤ w := Nat.div_le_of_le_mul (by rw [Nat.mul_comm]; exact hw)
      omega
    · have : D / M < w := (Nat.div_lt_iff_lt_mul hM0).2 (by
        rcases Nat.lt_or_ge D (w * M) with k2 | k2
        · exact k2
        · exfalso
          have : D = M * w := by rw [Nat.mul_comm]; omega
          rw [this, Nat.mul_mod_right] at b1
          omega)
      omega
  -- the interval, in units of 2^(place)
  obtain ⟨p, hp⟩ : ∃ p : Int, p = i - tE k - 55 := ⟨_, rfl⟩
  rw [← hp]
  have he0 := hfm.e0
  have he1 := hfm.e1
  have hT := T_up k
  have hT0 := T_pos 0
  have hU1 := U_mul (tE k) (p + 1) (by omega) (by omega) (by omega)
  have hUi : U i = 2 ^ 54 * U (tE k + (p + 1)) := by
    have h54 : i = tE k + (p + 1) + ((54 : Nat) : Int) := by omega
    rw [h54, U_add _ _ (by omega)]
  have hUp : U (p + 1) = 2 * U p := by
    have := U_add p 1 (by omega)
    rwa [Nat.pow_one] at this
  have hUt := U_pos (tE k)
  have hU0 := U_pos 0
  have hUp0 := U_pos p
  obtain ⟨J, hJ⟩ : ∃ E, E = U (tE k) := ⟨_, rfl⟩
  obtain ⟨Z, hZ⟩ : ∃ Z, Z = U 0 := ⟨_, rfl⟩
  obtain ⟨W, hW⟩ : ∃ W, W = 10 ^ k := ⟨_, rfl⟩
  obtain ⟨Pp, hPp⟩ : ∃ W, W = U p := ⟨_, rfl⟩
  obtain ⟨E, hE⟩ : ∃ E, E = U e := ⟨_, rfl⟩
  obtain ⟨S, hS⟩ : ∃ S, S = U (tE k + (p + 1)) := ⟨_, rfl⟩
  obtain ⟨C, hC⟩ : ∃ C, C = 2 ^ 54 := ⟨_, rfl⟩
  obtain ⟨t0, ht0⟩ : ∃ t, t = T 0 := ⟨_, rfl⟩
  rw [← hC] at hD hUi
  rw [hUp, ← hJ, ← hPp, ← hS, ← hZ] at hU1
  rw [← hS] at hUi
  rw [hUi, ← hZ] at hx
  rw [← hJ, ← hZ, ← hW] at hv
  rw [← ht0, ← hW] at hT
  rw [← ht0] at hT0
  rw [← hJ] at hUt
  rw [← hZ] at hU0
  rw [← hPp] at hUp0
  -- 4 a Z = 4 D S
  have hx' : a * Z = D * S := by rw [← hx, hD]; grind
  -- c * E compared with what is given: c * (W t0 E) against 4 a t0 Z
  unfold InR at hin
  rw [Int.neg_neg, ← hE, ← hZ, hT, ← ht0] at hin
  have e1 : ∀ c : Nat, c * (W * t0 * E) = c * W * E * t0 := fun c => by grind
  have e2 : 4 * a * (t0 * Z) = 4 * (D * S) * t0 := by rw [← hx']; grind
  rw [e1, e1, e2] at hin
  simp only [Nat.mul_le_mul_right_iff hT0, Nat.mul_lt_mul_right hT0] at hin
  -- W Z = M J; multiply by Z: c M J E against 4 D S Z = 8 D J Pp
  have conv : ∀ c : Nat, c * W * E * Z = c * M * E * J := fun c => by
    have : c * W * E * Z = c * E * (W * Z) := by grind
    rw [this, ← hv]; grind
  have conv2 : 4 * (D * S) * Z = 8 * D * Pp * J := by
    have : 4 * (D * S) * Z = 4 * D * (S * Z) := by grind
    rw [this, ← hU1]; grind
  have a1 : loM m e * M * E ≤ 8 * D * Pp := by
    have := Nat.mul_le_mul_right Z hin.1
    rw [conv, conv2] at this
    exact Nat.le_of_mul_le_mul_right this hUt
  have a2 : 8 * D * Pp ≤ hiM m * M * E := by
    have := Nat.mul_le_mul_right Z hin.2.1
    rw [conv, conv2] at this
    exact Nat.le_of_mul_le_mul_right this hUt
  have a3 : m % 2 = 1 → loM m e * M * E < 8 * D * Pp ∧ 8 * D * Pp < hiM m * M * E := fun ho => by
    obtain ⟨g1, g2⟩ := hin.2.2 ho
    have k1 := Nat.mul_lt_mul_of_pos_right g1 hU0
    have k2 := Nat.mul_lt_mul_of_pos_right g2 hU0
    rw [conv, conv2] at k1
    rw [conv, conv2] at k2
    exact ⟨Nat.lt_of_mul_lt_mul_right k1, Nat.lt_of_mul_lt_mul_right k2⟩
  have hhi : hiM m ≤ 36028797018963966 := by have := hfm.m1; unfold hiM; omega
  have hDlo : 4503599627370496 * C ≤ D := by rw [hD]; exact Nat.mul_le_mul_right _ hx1
  have hCv : C = 18014398509481984 := by rw [hC]
  rw [hCv] at hDlo
  -- e - place is at least 2
  have hge : p + 2 ≤ e := by
    apply Int.le_of_not_gt
    intro hlt
    obtain ⟨j, hj⟩ : ∃ j : Nat, p + 1 = e + (j : Nat) := ⟨(p + 1 - e).toNat, by omega⟩
    have hEU : E ≤ 2 * Pp := by
      rw [hPp, ← hUp, hE, hj, U_add _ _ (by omega)]
      exact Nat.le_mul_of_pos_left _ (Nat.two_pow_pos _)
    have k1 : 8 * D * Pp ≤ hiM m * M * (2 * Pp) := Nat.le_trans a2 (Nat.mul_le_mul_left _ hEU)
    have k2 : hiM m * M * (2 * Pp) = 2 * (hiM m * M) * Pp := by grind
    rw [k2] at k1
    have k3 := Nat.le_of_mul_le_mul_right k1 hUp0
    have k4 : hiM m * M ≤ 36028797018963966 * 9007199254740991 := Nat.mul_le_mul hhi (by omega)
    omega
  obtain ⟨c, hc⟩ : ∃ c : Nat, e = p + (c + 2 : Nat) := ⟨(e - p - 2).toNat, by omega⟩
  have hEp : E = 4 * 2 ^ c * Pp := by
    rw [hE, hc, U_add _ _ (by omega), ← hPp, Nat.pow_add]
    grind
  obtain ⟨R, hR⟩ : ∃ R, R = 2 ^ c := ⟨_, rfl⟩
  rw [← hR] at hEp
  have r1 : ∀ y : Nat, y * M * E = 4 * (y * R * M) * Pp := fun y => by rw [hEp]; grind
  have r2 : 8 * D * Pp = 4 * (2 * D) * Pp := by grind
  rw [r1, r2] at a1 a2
  rw [r1, r1, r2] at a3
  simp only [Nat.mul_le_mul_right_iff hUp0] at a1 a2
  simp only [Nat.mul_lt_mul_right hUp0] at a3
  have b1 : loM m e * R * M ≤ 2 * D := by omega
  have b2 : 2 * D ≤ hiM m * R * M := by omega
  have b3 : m % 2 = 1 → loM m e * R * M < 2 * D ∧ 2 * D < hiM m * R * M := fun ho => by have := a3 ho; omega
  unfold InN
  rw [← hE, ← hPp, hEp]
  have r3 : ∀ y : Nat, y * (4 * R * Pp) = 4 * (y * R) * Pp := fun y => by grind
  have r4 : 4 * G * Pp = 4 * G * Pp := rfl
  rw [r3, r3]
  have hR0 : 1 ≤ R := by rw [hR]; exact Nat.one_le_two_pow
  have up : ∀ z : Nat, hiM m * R = 2 * z → hiM m * R * M = 2 * (z * M) := fun z hz => by rw [hz]; grind
  have hz1 : hiM m * R = 2 * ((2 * m + 1) * R) := by unfold hiM; grind
  have u1 := up _ hz1
  have c2 : G ≤ hiM m * R := by rw [hz1]; exact gge _ (by omega)
  have c2' : m % 2 = 1 → G < hiM m * R := fun ho => by rw [hz1]; exact glt _ (by have := (b3 ho).2; omega)
  have lowEven : ∀ z : Nat, loM m e * R = 2 * z → loM m e * R ≤ G ∧ (m % 2 = 1 → loM m e * R < G) := fun z hz => by
    have : loM m e * R * M = 2 * (z * M) := by rw [hz]; grind
    rw [this] at b1 b3
    rw [hz]
    exact ⟨gle z (by omega), fun ho => ggt z (by have := (b3 ho).1; omega)⟩
  have c1 : loM m e * R ≤ G ∧ (m % 2 = 1 → loM m e * R < G) := by
    by_cases hev : loM m e = 4 * m - 2
    · exact lowEven ((2 * m - 1) * R) (by rw [hev, show 4 * m - 2 = 2 * (2 * m - 1) by omega, Nat.mul_assoc])
    · have hsk : m = 4503599627370496 ∧ -1074 < e := by
        by_cases h : m = 4503599627370496 ∧ -1074 < e
        · exact h
        · exact absurd (by unfold loM; rw [if_neg h]) hev
      have hlo : loM m e = 4 * m - 1 := by unfold loM; rw [if_pos hsk]
      rcases Nat.eq_zero_or_pos c with hc0 | hc0
      · have hR1 : R = 1 := by rw [hR, hc0]
        refine ⟨?_, fun ho => by omega⟩
        have hDM : 9007199254740992 * M ≤ D := by omega
        have := gle _ hDM
        rw [hlo, hR1, hsk.1]
        omega
      · obtain ⟨c', hc'⟩ : ∃ c', c = c' + 1 := ⟨c - 1, by omega⟩
        exact lowEven (loM m e * 2 ^ c') (by rw [hR, hc', Nat.pow_succ]; grind)
  have f : ∀ y z : Nat, y ≤ z → 4 * y * Pp ≤ 4 * z * Pp := fun y z h => Nat.mul_le_mul_right _ (Nat.mul_le_mul_left _ h)
  have f' : ∀ y z : Nat, y < z → 4 * y * Pp < 4 * z * Pp := fun y z h => Nat.mul_lt_mul_of_pos_right (by omega) hUp0
  exact ⟨f _ _ c1.1, f _ _ c2, fun ho => ⟨f' _ _ (c1.2 ho), f' _ _ (c2' ho)⟩⟩
/-! Plain laws: comparing floats with 10^15; the exact ways of reading. -/
theorem cmp_gt (a b : Int) : (some (compare a b) == some Ordering.gt) = decide (b < a) := by
  rcases Int.lt_trichotomy a b with h | h | h
  · have : compare a b = .lt := Int.compare_eq_lt.2 h
    rw [this, decide_eq_false (by omega)]; rfl
  · have : compare a b = .eq := Int.compare_eq_eq.2 h
    rw [this, decide_eq_false (by omega)]; rfl
  · have : compare a b = .gt := Int.compare_eq_gt.2 h
    rw [this, decide_eq_true h]; rfl
theorem cmp_lt (a b : Int) : (some (compare a b) == some Ordering.lt) = decide (a < b) := by
  rcases Int.lt_trichotomy a b with h | h | h
  · have : compare a b = .lt := Int.compare_eq_lt.2 h
    rw [this, decide_eq_true h]; rfl
  · have : compare a b = .eq := Int.compare_eq_eq.2 h
    rw [this, decide_eq_false (by omega)]; rfl
  · have : compare a b = .gt := Int.compare_eq_gt.2 h
    rw [this, decide_eq_false (by omega)]; rfl

/-- A whole value against 10^15. -/
theorem scaled {m : Nat} {i : Int} {V : Nat} (hi : -1000 ≤ i) (hv : m * U i = V * U 0) (b : Int) (hb : b ≤ i) (hb2 : -1400 ≤ b) : m <<< (i - b).toNat * U b = V * U 0 := by
  rw [← hv, Nat.shiftLeft_eq]
  have : U i = 2 ^ (i - b).toNat * U b := by
    rw [← U_add _ _ hb2]; congr 1; omega
  rw [this]; grind
theorem ten15 : tM 15 * U (tE 15) = 1000000000000000 * U 0 ∧ -52 ≤ tE 15 := by
  obtain ⟨h1, h2, h3, h4, h5⟩ := ten_ok 15 (by omega)
  exact ⟨by rw [h3], h5⟩
theorem order_num (neg s : Bool) {m : Nat} {i : Int} {V : Nat} (hi : -1000 ≤ i) (hv : m * U i = V * U 0) :
    ∃ x y : Nat, (Datum.number neg m i).order (Datum.number s (tM 15) (tE 15)) = some (compare (if neg then -(x : Int) else x) (if s then -(y : Int) else y)) ∧ (x < y ↔ V < 1000000000000000) ∧ (y < x ↔ 1000000000000000 < V) := by
  obtain ⟨t1, t2⟩ := ten15
  refine ⟨m <<< (i - min i (tE 15)).toNat, tM 15 <<< (tE 15 - min i (tE 15)).toNat, rfl, ?_⟩
  have e1 := scaled hi hv (min i (tE 15)) (by omega) (by omega)
  have e2 := scaled (by omega) t1 (min i (tE 15)) (by omega) (by omega)
  obtain ⟨x, hx⟩ : ∃ x, x = m <<< (i - min i (tE 15)).toNat := ⟨_, rfl⟩
  obtain ⟨y, hy⟩ : ∃ y, y = tM 15 <<< (tE 15 - min i (tE 15)).toNat := ⟨_, rfl⟩
  rw [← hx] at e1 ⊢
  rw [← hy] at e2 ⊢
  have p1 := U_pos (min i (tE 15))
  have p2 := U_pos 0
  obtain ⟨u, hu⟩ : ∃ u, u = U (min i (tE 15)) := ⟨_, rfl⟩
  obtain ⟨z, hz⟩ : ∃ z, z = U 0 := ⟨_, rfl⟩
  rw [← hu, ← hz] at e1 e2
  rw [← hu] at p1
  rw [← hz] at p2
  constructor
  · constructor
    · intro h
      have := Nat.mul_lt_mul_of_pos_right h p1
      rw [e1, e2] at this
      exact Nat.lt_of_mul_lt_mul_right this
    · intro h
      have := Nat.mul_lt_mul_of_pos_right h p2
      rw [← e1, ← e2] at this
      exact Nat.lt_of_mul_lt_mul_right this
  · constructor
    · intro h
      have := Nat.mul_lt_mul_of_pos_right h p1
      rw [e1, e2] at this
      exact Nat.lt_of_mul_lt_mul_right this
    · intro h
      have := Nat.mul_lt_mul_of_pos_right h p2
      rw [← e1, ← e2] at this
      exact Nat.lt_of_mul_lt_mul_right this
theorem words15 : double.read 4831355200913801216 = .number false (tM 15) (tE 15) ∧ double.read 14054727237768577024 = .number true (tM 15) (tE 15) := by decide +kernel
theorem too_num {x : Nat} {neg : Bool} {m : Nat} {i : Int} {V : Nat} (hr : double.read x = .number neg m i) (hi : -1000 ≤ i) (hv : m * U i = V * U 0) :
    (double.order x 4831355200913801216 == some .gt) = (!neg && decide (1000000000000000 < V)) ∧ (double.order x 14054727237768577024 == some .lt) = (neg && decide (1000000000000000 < V)) := by
  obtain ⟨w1, w2⟩ := words15
  obtain ⟨x1, y1, k1, k2, k3⟩ := order_num neg false hi hv
  obtain ⟨x2, y2, j1, j2, j3⟩ := order_num neg true hi hv
  unfold Ieee.Format.order
  rw [hr, w1, w2, k1, j1, cmp_gt, cmp_lt]
  have hy : 0 < y1 ∨ V < 1000000000000000 → True := fun _ => trivial
  cases neg
  · simp only [Bool.false_eq_true, if_false, if_true, Bool.not_false, Bool.true_and, Bool.false_and]
    refine ⟨?_, ?_⟩
    · congr 1
      apply propext
      rw [← k3]
      omega
    · exact decide_eq_false (by omega)
  · simp only [Bool.false_eq_true, if_false, if_true, Bool.not_true, Bool.true_and, Bool.false_and]
    refine ⟨?_, ?_⟩
    · exact decide_eq_false (by omega)
    · congr 1
      apply propext
      rw [← j3]
      omega
/-! ### The model's product and quotient -/
theorem mul_word {neg : Bool} {x : Nat} {m : Nat} {i : Int} (hr : double.read x = .number neg m i) {k : Nat} (hk : k ≤ 22) : double.mul x (tF k) = some (double.nearest neg (m * tM k) (i + tE k)) := by
  have h2 : double.read (tF k) = .number false (tM k) (tE k) := read_word (ten_ok k hk).1 false
  unfold Ieee.Format.mul
  rw [hr, h2]
  simp only [Datum.product, Option.map_some, Ieee.Format.write, Bool.xor_false]
theorem div_word {neg : Bool} {x : Nat} {m : Nat} {i : Int} (hr : double.read x = .number neg m i) (hm : 4503599627370496 ≤ m) (hm2 : m < 9007199254740992) {k : Nat} (hk : k ≤ 22) :
    double.div x (tF k) = some (double.nearest neg (2 * (m * 2 ^ 54 / tM k) + (m * 2 ^ 54 % tM k != 0).toNat) (i - tE k - 55)) := by
  obtain ⟨hf, h1, -, -, -⟩ := ten_ok k hk
  have h2 : double.read (tF k) = .number false (tM k) (tE k) := read_word hf false
  have l1 : m.log2 = 52 := (Nat.log2_eq_iff (by omega)).2 ⟨by simpa using hm, by simpa using hm2⟩
  have l2 : (tM k).log2 = 52 := (Nat.log2_eq_iff (by omega)).2 ⟨by simpa using h1, by simpa using hf.m1⟩
  have hd : Ieee.Format.fractionBits double = 52 := by decide
  have hne : ¬ tM k = 0 := by omega
  unfold Ieee.Format.div
  rw [hr, h2, hd]
  simp only [Datum.quotient, if_neg hne, l1, l2, Option.map_some, Ieee.Format.write, Bool.xor_false, Nat.shiftLeft_eq]
  congr 2
  omega

/-- A product that is too great is found so. -/
theorem too_big {neg : Bool} {mag : Nat} {place : Int} {P : Nat} (hp : -200 ≤ place) (hp2 : place ≤ 400) (hm : mag < 2 ^ 120) (hv : mag * U place = P * U 0) (hP : 9007199254740992 ≤ P) :
    ∃ m i, (double.read (double.nearest neg mag place) = .number neg m i ∧ -1000 ≤ i ∧ ∃ V, m * U i = V * U 0 ∧ 1000000000000000 < V) := by
  have hmag : mag ≠ 0 := by
    intro h
    rw [h, Nat.zero_mul] at hv
    have := Nat.mul_pos (show 0 < P by omega) (U_pos 0)
    omega
  have k1 : mag < 2 ^ (mag.log2 + 1) := Nat.lt_log2_self
  have k2 : 2 ^ mag.log2 ≤ mag := Nat.log2_self_le hmag
  have k3 : mag.log2 < 120 := (Nat.log2_lt hmag).2 hm
  -- the last digit's place is at least 1
  have hlast : 1 ≤ place + (mag.log2 : Nat) - 52 := by
    apply Int.le_of_not_gt
    intro hlt
    have h1 : mag * U place < 2 ^ (mag.log2 + 1) * U place := Nat.mul_lt_mul_of_pos_right k1 (U_pos _)
    rw [← U_add _ _ (by omega)] at h1
    have h2 : U (place + ((mag.log2 + 1 : Nat) : Int)) ≤ U 53 := by
      unfold U
      exact Nat.pow_le_pow_right (by decide) (by omega)
    have h3 : U 53 = 9007199254740992 * U 0 := by
      have := U_add 0 53 (by omega)
      rw [show (0 : Int) + ((53 : Nat) : Int) = 53 by rfl, show (2 : Nat) ^ 53 = 9007199254740992 by rfl] at this
      exact this
    rw [hv] at h1
    have h4 : 9007199254740992 * U 0 ≤ P * U 0 := Nat.mul_le_mul_right _ hP
    omega
  unfold Ieee.Format.nearest
  rw [if_neg hmag]
  have hlp : Ieee.Format.leastPlace double = -1074 := by decide
  have hfb : (Ieee.Format.fractionBits double : Int) = 52 := by decide
  have hbin : Ieee.Format.binade double = 4503599627370496 := by decide
  have hinf : Ieee.Format.infRung double = 9218868437227405312 := by decide
  rw [hlp, hfb, hbin, hinf]
  simp only []
  obtain ⟨last, hl⟩ : ∃ x, x = place + (mag.log2 : Nat) - 52 := ⟨_, rfl⟩
  rw [← hl] at hlast
  rw [← hl, show max last (-1074) = last by omega]
  obtain ⟨d, hd⟩ : ∃ d, d = (last - place).toNat := ⟨_, rfl⟩
  obtain ⟨n, hn⟩ : ∃ n, n = mag <<< (place - last).toNat := ⟨_, rfl⟩
  rw [← hd, ← hn]
  rw [Nat.shiftLeft_eq] at hn
  obtain ⟨c, hc⟩ : ∃ c, c = Ieee.Toward.even.cut neg n d := ⟨_, rfl⟩
  rw [← hc]
  have hlo : 4503599627370496 * 2 ^ d ≤ n := by
    rcases Int.le_total last place with h | h
    · rw [show d = 0 by omega, Nat.pow_zero, Nat.mul_one, hn]
      have h5 : 2 ^ mag.log2 * 2 ^ (place - last).toNat ≤ mag * 2 ^ (place - last).toNat := Nat.mul_le_mul_right _ k2
      rw [← Nat.pow_add, show mag.log2 + (place - last).toNat = 52 by omega] at h5
      exact h5
    · rw [hn, show (place - last).toNat = 0 by omega, Nat.pow_zero, Nat.mul_one]
      have h6 : 2 ^ (52 + d) ≤ 2 ^ mag.log2 := Nat.pow_le_pow_right (by decide) (by omega)
      rw [Nat.pow_add 2 52 d] at h6
      exact Nat.le_trans h6 k2
  have hhi : n < 9007199254740992 * 2 ^ d := by
    rcases Int.le_total last place with h | h
    · rw [show d = 0 by omega, Nat.pow_zero, Nat.mul_one, hn]
      have h5 : mag * 2 ^ (place - last).toNat < 2 ^ (mag.log2 + 1) * 2 ^ (place - last).toNat := Nat.mul_lt_mul_of_pos_right k1 (Nat.two_pow_pos _)
      rw [← Nat.pow_add, show mag.log2 + 1 + (place - last).toNat = 53 by omega] at h5
      exact h5
    · rw [hn, show (place - last).toNat = 0 by omega, Nat.pow_zero, Nat.mul_one]
      have h6 : 2 ^ (mag.log2 + 1) ≤ 2 ^ (53 + d) := Nat.pow_le_pow_right (by decide) (by omega)
      rw [Nat.pow_add 2 53 d] at h6
      exact Nat.lt_of_lt_of_le k1 h6
  have hdn : d ≤ n.log2 + 2 := by
    have hn0 : n ≠ 0 := by
      have := Nat.two_pow_pos d
      omega
    have h1 : 2 ^ d ≤ n := by omega
    have : d ≤ n.log2 := (Nat.le_log2 hn0).2 h1
    omega
  have hcb : 4503599627370496 ≤ c ∧ c ≤ 9007199254740992 := by
    rw [hc]
    unfold Ieee.Toward.cut
    simp only [Nat.min_eq_left hdn, Nat.one_shiftLeft]
    have p0 := Nat.two_pow_pos d
    have q1 : 4503599627370496 ≤ n / 2 ^ d := (Nat.le_div_iff_mul_le p0).2 hlo
    have q2 : n / 2 ^ d < 9007199254740992 := (Nat.div_lt_iff_lt_mul p0).2 hhi
    have q3 : ∀ b : Bool, b.toNat ≤ 1 := by decide
    have := q3 (decide (2 ^ d < 2 * (n % 2 ^ d)) || (2 ^ d == 2 * (n % 2 ^ d) && n / 2 ^ d % 2 == 1))
    omega
  obtain ⟨z, hz⟩ : ∃ z : Nat, (z : Int) = last := ⟨last.toNat, by omega⟩
  have hz1 : 1 ≤ z := by omega
  have hz2 : z ≤ 600 := by omega
  have hr : (last - -1074).toNat * 4503599627370496 + c < 9218868437227405312 := by
    rw [show (last - -1074).toNat = z + 1074 by omega]
    omega
  rw [Nat.min_eq_left (Nat.le_of_lt hr), read_rung neg _ hr]
  have hz3 : (last - -1074).toNat = z + 1074 := by omega
  rw [hz3]
  have hge : ¬ (z + 1074) * 4503599627370496 + c < 4503599627370496 := by omega
  rw [if_neg hge]
  refine ⟨_, _, rfl, by omega, ?_⟩
  obtain ⟨y, hy⟩ : ∃ y : Nat, (-1074 : Int) + (((((z + 1074) * 4503599627370496 + c) / 4503599627370496 - 1 : Nat) : Int)) = 0 + (y : Int) ∧ 1 ≤ y := ⟨((z + 1074) * 4503599627370496 + c) / 4503599627370496 - 1 - 1074, by omega⟩
  rw [hy.1, U_add _ _ (by omega)]
  refine ⟨(4503599627370496 + ((z + 1074) * 4503599627370496 + c) % 4503599627370496) * 2 ^ y, by rw [Nat.mul_assoc], ?_⟩
  have h2 : 2 ^ 1 ≤ 2 ^ y := Nat.pow_le_pow_right (by decide) hy.2
  have h3 : 4503599627370496 * 2 ^ 1 ≤ (4503599627370496 + ((z + 1074) * 4503599627370496 + c) % 4503599627370496) * 2 ^ y := Nat.mul_le_mul (by omega) h2
  simp only [Nat.reducePow, Nat.reduceMul] at h3
  omega
theorem inN_zero {m : Nat} {e : Int} {a : Nat} (h : InR m e a 0) : InN m e a 0 := by
  unfold InR at h
  unfold InN
  have hT := T_pos 0
  have e1 : ∀ c : Nat, c * (T (-0) * U e) = c * U e * T 0 := fun c => by rw [Int.neg_zero]; grind
  have e2 : 4 * a * (T 0 * U 0) = 4 * a * U 0 * T 0 := by grind
  rw [e1, e1, e2] at h
  simp only [Nat.mul_le_mul_right_iff hT, Nat.mul_lt_mul_right hT] at h
  exact h
end Go.Proofs.YtghajgdiaopioaaGreatDoor.Fl
end
