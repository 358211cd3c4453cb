/- Walks and plain laws joined (Ga, Gb). Conditions: stand in each law. -/
import GoSem.PinnedTables
set_option linter.unusedVariables false
set_option linter.unusedSimpArgs false
section
/- Plain laws: how near a multiple of a power of ten comes to a whole number. Conditions: stand in each law; no program is named here. -/
set_option linter.unusedVariables false
namespace Go.Proofs.YtghajgdiaopioaaGreatDoor.Fl

/-- Neighbours among the fractions near A/B: a multiple x*A of a smaller x is no nearer to a multiple of B than the first of them. -/
theorem best (A B q1 p1 q2 p2 x y R : Int) (hq1 : 0 ≤ q1) (hR : 0 ≤ R)
    (hD : q1 * p2 - q2 * p1 = 1 ∨ q1 * p2 - q2 * p1 = -1) (h0 : 0 < x) (hx : x < q2)
    (hs : (R ≤ q1 * A - p1 * B ∧ q2 * A - p2 * B ≤ 0) ∨ (R ≤ p1 * B - q1 * A ∧ 0 ≤ q2 * A - p2 * B)) :
    R ≤ x * A - y * B ∨ R ≤ y * B - x * A := by
  obtain ⟨a, b, hxe, hye⟩ : ∃ a b : Int, x = a * q1 + b * q2 ∧ y = a * p1 + b * p2 := by
    rcases hD with h | h
    · exact ⟨x * p2 - y * q2, q1 * y - p1 * x, by grind, by grind⟩
    · exact ⟨y * q2 - x * p2, p1 * x - q1 * y, by grind, by grind⟩
  obtain ⟨r1, hr1⟩ : ∃ r, r = q1 * A - p1 * B := ⟨_, rfl⟩
  obtain ⟨r2, hr2⟩ : ∃ r, r = q2 * A - p2 * B := ⟨_, rfl⟩
  have hr1' : p1 * B - q1 * A = -r1 := by omega
  rw [hr1', ← hr1, ← hr2] at hs
  have he : x * A - y * B = a * r1 + b * r2 := by rw [hxe, hye, hr1, hr2]; grind
  have he' : y * B - x * A = -(a * r1 + b * r2) := by omega
  rw [he, he']
  have hq2 : 0 < q2 := by omega
  by_cases hb : b ≤ 0
  · have ha : 1 ≤ a := by
      by_cases h : 1 ≤ a
      · exact h
      · have h1 : 0 ≤ (-a) * q1 := Int.mul_nonneg (by omega) hq1
        have h2 : 0 ≤ (-b) * q2 := Int.mul_nonneg (by omega) (by omega)
        have h3 : (-a) * q1 = -(a * q1) := Int.neg_mul ..
        have h4 : (-b) * q2 = -(b * q2) := Int.neg_mul ..
        omega
    rcases hs with ⟨g1, g2⟩ | ⟨g1, g2⟩
    · have h1 : 0 ≤ (a - 1) * r1 := Int.mul_nonneg (by omega) (by omega)
      have h2 : 0 ≤ (-b) * (-r2) := Int.mul_nonneg (by omega) (by omega)
      have h3 : (a - 1) * r1 = a * r1 - r1 := by rw [Int.sub_mul, Int.one_mul]
      have h4 : (-b) * (-r2) = b * r2 := Int.neg_mul_neg ..
      left; omega
    · have h1 : 0 ≤ (a - 1) * (-r1) := Int.mul_nonneg (by omega) (by omega)
      have h2 : 0 ≤ (-b) * r2 := Int.mul_nonneg (by omega) (by omega)
      have h3 : (a - 1) * (-r1) = r1 - a * r1 := by grind
      have h4 : (-b) * r2 = -(b * r2) := Int.neg_mul ..
      right; omega
  · have ha : a ≤ -1 := by
      by_cases h : a ≤ -1
      · exact h
      · have h1 : 0 ≤ a * q1 := Int.mul_nonneg (by omega) hq1
        have h2 : 0 ≤ (b - 1) * q2 := Int.mul_nonneg (by omega) (by omega)
        have h3 : (b - 1) * q2 = b * q2 - q2 := by rw [Int.sub_mul, Int.one_mul]
        omega
    rcases hs with ⟨g1, g2⟩ | ⟨g1, g2⟩
    · have h1 : 0 ≤ (-a - 1) * r1 := Int.mul_nonneg (by omega) (by omega)
      have h2 : 0 ≤ b * (-r2) := Int.mul_nonneg (by omega) (by omega)
      have h3 : (-a - 1) * r1 = -(a * r1) - r1 := by grind
      have h4 : b * (-r2) = -(b * r2) := Int.mul_neg ..
      right; omega
    · have h1 : 0 ≤ (-a - 1) * (-r1) := Int.mul_nonneg (by omega) (by omega)
      have h2 : 0 ≤ b * r2 := Int.mul_nonneg (by omega) (by omega)
      have h3 : (-a - 1) * (-r1) = a * r1 + r1 := by grind
      left; omega

/-- Euclid's walk: the last fraction ahead of the bound X, and the next. -/
def cf : Nat → Nat → Nat → Nat → Nat → Nat → Nat → Nat → Option (Nat × Nat × Nat × Nat)
  | 0, _, _, _, _, _, _, _ => none
  | n + 1, X, a, b, h0, k0, h1, k1 =>
    if b = 0 then none
    else if X ≤ a / b * k1 + k0 then some (k1, h1, a / b * k1 + k0, a / b * h1 + h0)
    else cf n X b (a % b) h1 k1 (a / b * h1 + h0) (a / b * k1 + k0)

def fits (A B X k : Nat) (q1 p1 q2 p2 : Nat) : Bool :=
  decide (X ≤ q2) && (decide (q1 * p2 = q2 * p1 + 1) || decide (q1 * p2 + 1 = q2 * p1))
  && ((decide (B ≤ (q1 * A - p1 * B) * 2 ^ k) && decide (q2 * A ≤ p2 * B)) || (decide (B ≤ (p1 * B - q1 * A) * 2 ^ k) && decide (p2 * B ≤ q2 * A)))

/-- No x*A with 0 < x < X comes nearer to a multiple of B than B/2^k, unless it is one. -/
def far (A B X k : Nat) : Bool :=
  decide (0 < B) && (decide (B ≤ Nat.gcd A B * 2 ^ k) || match cf 200 X A B 0 1 1 0 with
  | none => false
  | some (q1, p1, q2, p2) => fits A B X k q1 p1 q2 p2)

theorem far_of_gcd {A B k : Nat} (h : B ≤ Nat.gcd A B * 2 ^ k) (x y : Nat) (h1 : (x * A - y * B) * 2 ^ k < B) (h2 : (y * B - x * A) * 2 ^ k < B) : x * A = y * B := by
  obtain ⟨a, ha⟩ := Nat.gcd_dvd_left A B
  obtain ⟨b, hb⟩ := Nat.gcd_dvd_right A B
  obtain ⟨g, hg⟩ : ∃ g, g = Nat.gcd A B := ⟨_, rfl⟩
  rw [← hg] at ha hb h
  have key : ∀ u v : Nat, (u - v) * g * 2 ^ k < B → u ≤ v := by
    intro u v huv
    by_cases hle : u ≤ v
    · exact hle
    · exfalso
      have : 1 * (g * 2 ^ k) ≤ (u - v) * (g * 2 ^ k) := Nat.mul_le_mul_right _ (by omega)
      rw [Nat.one_mul, ← Nat.mul_assoc (u - v)] at this
      omega
  have e1 : x * A - y * B = (x * a - y * b) * g := by rw [ha, hb, Nat.sub_mul]; congr 1 <;> (rw [Nat.mul_comm g, Nat.mul_assoc])
  have e2 : y * B - x * A = (y * b - x * a) * g := by rw [ha, hb, Nat.sub_mul]; congr 1 <;> (rw [Nat.mul_comm g, Nat.mul_assoc])
  rw [e1] at h1
  rw [e2] at h2
  have k1 := key _ _ h1
  have k2 := key _ _ h2
  have : x * a = y * b := Nat.le_antisymm k1 k2
  rw [ha, hb, Nat.mul_comm g a, Nat.mul_comm g b, ← Nat.mul_assoc, ← Nat.mul_assoc, this]

theorem far_of_fits {A B X k q1 p1 q2 p2 : Nat} (hf : fits A B X k q1 p1 q2 p2 = true) (x y : Nat) (h0 : 0 < x) (hx : x < X) (hB : 0 < B) (h1 : (x * A - y * B) * 2 ^ k < B) (h2 : (y * B - x * A) * 2 ^ k < B) : x * A = y * B := by
  exfalso
  simp only [fits, Bool.and_eq_true, Bool.or_eq_true, decide_eq_true_eq] at hf
  obtain ⟨⟨hX, hD⟩, hs⟩ := hf
  -- the distance R of the first fraction
  have main : ∀ R : Nat, B ≤ R * 2 ^ k → ((R : Int) ≤ x * A - y * B ∨ (R : Int) ≤ y * B - x * A) → False := by
    intro R hR h
    have hle : R ≤ x * A - y * B ∨ R ≤ y * B - x * A := by
      rcases h with h | h
      · left
        have : ((R + y * B : Nat) : Int) ≤ ((x * A : Nat) : Int) := by push_cast; omega
        have := Int.ofNat_le.1 this
        omega
      · right
        have : ((R + x * A : Nat) : Int) ≤ ((y * B : Nat) : Int) := by push_cast; omega
        have := Int.ofNat_le.1 this
        omega
    rcases hle with h | h
    · have := Nat.mul_le_mul_right (2 ^ k) h; omega
    · have := Nat.mul_le_mul_right (2 ^ k) h; omega
  have hDi : (q1 : Int) * p2 - q2 * p1 = 1 ∨ (q1 : Int) * p2 - q2 * p1 = -1 := by
    rcases hD with h | h
    · left
      have : ((q1 * p2 : Nat) : Int) = ((q2 * p1 + 1 : Nat) : Int) := by rw [h]
      push_cast at this; omega
    · right
      have : ((q1 * p2 + 1 : Nat) : Int) = ((q2 * p1 : Nat) : Int) := by rw [h]
      push_cast at this; omega
  rcases hs with ⟨g1, g2⟩ | ⟨g1, g2⟩
  · have hpos : 0 < q1 * A - p1 * B := by
      rcases Nat.eq_zero_or_pos (q1 * A - p1 * B) with h | h
      · rw [h, Nat.zero_mul] at g1; omega
      · exact h
    have e : ((q1 * A - p1 * B : Nat) : Int) = q1 * A - p1 * B := by rw [Int.ofNat_sub (by omega)]; push_cast; rfl
    refine main (q1 * A - p1 * B) g1 (best A B q1 p1 q2 p2 x y _ (by omega) (by omega) hDi (by omega) (by omega) (.inl ⟨by rw [e]; exact Int.le_refl _, ?_⟩))
    have : ((q2 * A : Nat) : Int) ≤ ((p2 * B : Nat) : Int) := Int.ofNat_le.2 g2
    push_cast at this; omega
  · have hpos : 0 < p1 * B - q1 * A := by
      rcases Nat.eq_zero_or_pos (p1 * B - q1 * A) with h | h
      · rw [h, Nat.zero_mul] at g1; omega
      · exact h
    have e : ((p1 * B - q1 * A : Nat) : Int) = p1 * B - q1 * A := by rw [Int.ofNat_sub (by omega)]; push_cast; rfl
    refine main (p1 * B - q1 * A) g1 (best A B q1 p1 q2 p2 x y _ (by omega) (by omega) hDi (by omega) (by omega) (.inr ⟨by rw [e]; exact Int.le_refl _, ?_⟩))
    have : ((p2 * B : Nat) : Int) ≤ ((q2 * A : Nat) : Int) := Int.ofNat_le.2 g2
    push_cast at this; omega

theorem far_spec {A B X k : Nat} (hf : far A B X k = true) (x y : Nat) (h0 : 0 < x) (hx : x < X) (h1 : (x * A - y * B) * 2 ^ k < B) (h2 : (y * B - x * A) * 2 ^ k < B) : x * A = y * B := by
  simp only [far, Bool.and_eq_true, Bool.or_eq_true, decide_eq_true_eq] at hf
  obtain ⟨hB, hf⟩ := hf
  rcases hf with h | h
  · exact far_of_gcd h x y h1 h2
  · split at h
    · cases h
    · exact far_of_fits h x y h0 hx hB h1 h2

/-! ### The powers of ten -/
/-- The whole part of the binary logarithm of 10^p, as the code has it. -/
def lp10 (p : Int) : Int := p * 108853 / 32768
/-- 10^p * 2^(3 - lp10 p) is upA p / dnB p. -/
def upA (p : Int) : Nat := if 0 ≤ p then 8 * 10 ^ p.toNat else 8 * 2 ^ (-lp10 p).toNat
def dnB (p : Int) : Nat := if 0 ≤ p then 2 ^ (lp10 p).toNat else 10 ^ (-p).toNat

theorem far_short : ∀ p : Int, -292 ≤ p → p ≤ 324 → far (upA p) (dnB p) 36028797018963968 68 = true := by
  have h : (List.range 617).all (fun i => far (upA ((i : Int) - 292)) (dnB ((i : Int) - 292)) 36028797018963968 68) = true := by decide +kernel
  intro p h1 h2
  have := List.all_eq_true.1 h (p + 292).toNat (List.mem_range.2 (by omega))
  rwa [show (((p + 292).toNat : Nat) : Int) - 292 = p by omega] at this
theorem far_parse : ∀ p : Int, -345 ≤ p → p ≤ 310 → far (upA p) (32 * dnB p) 144115188075855872 71 = true := by
  have h : (List.range 656).all (fun i => far (upA ((i : Int) - 345)) (32 * dnB ((i : Int) - 345)) 144115188075855872 71) = true := by decide +kernel
  intro p h1 h2
  have := List.all_eq_true.1 h (p + 345).toNat (List.mem_range.2 (by omega))
  rwa [show (((p + 345).toNat : Nat) : Int) - 345 = p by omega] at this
end Go.Proofs.YtghajgdiaopioaaGreatDoor.Fl
end
section
/- Plain laws: uscale's value is exact. Conditions: stand in each law; no program is named here. -/
namespace Go.Proofs.YtghajgdiaopioaaGreatDoor.Fl
/-- n/d made whole, with a last digit 1 where anything is left over. -/
def unr (n d : Nat) : Nat := n / d ||| (if n % d = 0 then 0 else 1)

theorem or_one (n : Nat) : n ||| 1 = n + 1 - n % 2 := by
  apply Nat.eq_of_testBit_eq
  intro i
  cases i with
  | zero =>
    rw [Nat.testBit_or]
    simp only [Nat.testBit_zero]
    have : (n + 1 - n % 2) % 2 = 1 := by omega
    rw [this]; simp
  | succ i =>
    rw [Nat.testBit_or]
    simp only [Nat.testBit_succ]
    have : (n + 1 - n % 2) / 2 = n / 2 := by omega
    rw [this]; simp
theorem unr_spec (n d : Nat) (hd : 0 < d) : (n % d = 0 ∧ unr n d = n / d) ∨ (n % d ≠ 0 ∧ unr n d = n / d + 1 - n / d % 2) := by
  unfold unr
  by_cases h : n % d = 0
  · left; exact ⟨h, by rw [if_pos h]; simp⟩
  · right; exact ⟨h, by rw [if_neg h, or_one]⟩
/-- Against an even number it stands as n stands against that number times d. -/
theorem unr_le {n d w : Nat} (hd : 0 < d) : unr n d ≤ 2 * w ↔ n ≤ 2 * w * d := by
  have h1 := Nat.div_add_mod n d
  have h2 := Nat.mod_lt n hd
  rcases unr_spec n d hd with ⟨h, e⟩ | ⟨h, e⟩
  · rw [e]
    constructor
    · intro hle
      have := Nat.mul_le_mul_left d hle
      rw [Nat.mul_comm d (2 * w)] at this
      omega
    · intro hle
      exact Nat.div_le_of_le_mul (by rw [Nat.mul_comm]; exact hle)
  · rw [e]
    constructor
    · intro hle
      have h3 : n / d + 1 ≤ 2 * w := by omega
      have := Nat.mul_le_mul_left d h3
      rw [Nat.mul_comm d (2 * w), Nat.mul_add, Nat.mul_one] at this
      omega
    · intro hle
      have h3 : n / d ≤ 2 * w := Nat.div_le_of_le_mul (by rw [Nat.mul_comm]; exact hle)
      have h4 : n / d ≠ 2 * w := by
        intro he
        rw [he, Nat.mul_comm d (2 * w)] at h1
        omega
      omega
theorem unr_lt {n d w : Nat} (hd : 0 < d) : unr n d < 2 * w ↔ n < 2 * w * d := by
  have h1 := Nat.div_add_mod n d
  have h2 := Nat.mod_lt n hd
  rcases unr_spec n d hd with ⟨h, e⟩ | ⟨h, e⟩
  · rw [e, Nat.div_lt_iff_lt_mul hd]
  · rw [e, ← Nat.div_lt_iff_lt_mul hd]
    obtain ⟨k, hk⟩ : ∃ k, k = n / d := ⟨_, rfl⟩
    rw [← hk]
    omega
/-- It depends on the fraction alone. -/
theorem unr_scale {n d c : Nat} (hc : 0 < c) : unr (c * n) (c * d) = unr n d := by
  unfold unr
  rw [Nat.mul_div_mul_left n d hc, Nat.mul_mod_mul_left]
  have : c * (n % d) = 0 ↔ n % d = 0 := by
    constructor
    · intro h; rcases Nat.mul_eq_zero.1 h with h | h
      · omega
      · exact h
    · intro h; rw [h, Nat.mul_zero]
  by_cases h : n % d = 0
  · rw [if_pos h, if_pos (this.2 h)]
  · rw [if_neg h, if_neg (fun k => h (this.1 k))]

/-- uscale's value. -/
def usc (x hi lo sh : Nat) : Nat :=
  let h := x * hi / 18446744073709551616
  let l := x * hi % 18446744073709551616
  if h / 2 ^ sh * 2 ^ sh ≠ h then (h / 2 ^ sh) ||| 1
  else
    let h2 := x * lo / 18446744073709551616
    let h' := if l < h2 then h - 1 else h
    (h' / 2 ^ sh) ||| (if 1 < (l + 18446744073709551616 - h2) % 18446744073709551616 then 1 else 0)

/-- A row of the table: 10^p, as hi * 2^64 - lo, cut to 128 binary digits and made greater. -/
def rowOk (p : Int) (hi lo : Nat) : Prop :=
  lo < 18446744073709551616 ∧ 9223372036854775808 ≤ hi ∧ hi < 18446744073709551616 ∧
  upA p * 21267647932558653966460912964485513216 ≤ (hi * 18446744073709551616 - lo) * dnB p ∧ (hi * 18446744073709551616 - lo) * dnB p < upA p * 21267647932558653966460912964485513216 + dnB p
instance (p : Int) (hi lo : Nat) : Decidable (rowOk p hi lo) := by unfold rowOk; infer_instance

theorem between {N D y : Nat} (h1 : y * D < N) (h2 : N < (y + 1) * D) : N / D = y ∧ N % D ≠ 0 := by
  have hd : 0 < D := by
    rcases Nat.eq_zero_or_pos D with h | h
    · subst h; omega
    · exact h
  have e : N / D = y := by
    apply Nat.div_eq_of_lt_le
    · omega
    · exact h2
  refine ⟨e, fun h => ?_⟩
  have := Nat.div_add_mod N D
  rw [e, h, Nat.mul_comm] at this
  omega

section
variable {z h l m2 fr x : Nat} (hz : z + (18446744073709551616 * m2 + fr) = 340282366920938463463374607431768211456 * h + 18446744073709551616 * l)
include hz
theorem lin1 (l1 : l < 18446744073709551616) (f1 : fr < 18446744073709551616) (m1 : m2 ≤ 18446744073709551614) (hx : x < 18446744073709551616) (hh1 : 1 ≤ h) :
    (h - 1) * 340282366920938463463374607431768211456 + x ≤ z := by
  obtain ⟨k, rfl⟩ : ∃ k, h = k + 1 := ⟨h - 1, by omega⟩
  rw [Nat.add_sub_cancel]
  omega
theorem lin2 (hl : l < m2) : z < h * 340282366920938463463374607431768211456 := by omega
theorem lin3 (hl : m2 + 2 ≤ l) (f1 : fr < 18446744073709551616) (hx : x < 18446744073709551616) : h * 340282366920938463463374607431768211456 + x ≤ z := by omega
theorem lin4 (hl : m2 ≤ l) (f1 : fr < 18446744073709551616) : h * 340282366920938463463374607431768211456 ≤ z + 18446744073709551615 := by omega
theorem lin5 (hl : l ≤ m2 + 1) : z ≤ h * 340282366920938463463374607431768211456 + 18446744073709551616 := by omega
theorem lin6 (l1 : l < 18446744073709551616) : z < (h + 1) * 340282366920938463463374607431768211456 := by omega
end

set_option maxRecDepth 20000 in
theorem usc_exact (p : Int) (x hi lo s : Nat) (hrow : rowOk p hi lo) (hx0 : 0 < x) (hx : x < 18446744073709551616) (hge : 1 ≤ x * hi / 18446744073709551616)
    (hfar : ∀ y : Nat, (x * upA p - y * (dnB p * 2 ^ (4 + s))) * 576460752303423488 < dnB p → (y * (dnB p * 2 ^ (4 + s)) - x * upA p) * 576460752303423488 < dnB p → x * upA p = y * (dnB p * 2 ^ (4 + s))) :
    usc x hi lo s = unr (x * upA p) (dnB p * 2 ^ (4 + s)) := by
  obtain ⟨hlo, hhi1, hhi2, ht1, ht2⟩ := hrow
  obtain ⟨A, hA⟩ : ∃ A, A = upA p := ⟨_, rfl⟩
  obtain ⟨B, hB⟩ : ∃ B, B = dnB p := ⟨_, rfl⟩
  rw [← hA, ← hB] at ht1 ht2 hfar ⊢
  have hB0 : 0 < B := by
    rcases Nat.eq_zero_or_pos B with h | h
    · rw [h, Nat.mul_zero] at ht1 ht2; omega
    · exact h
  obtain ⟨h, hh⟩ : ∃ h, h = x * hi / 18446744073709551616 := ⟨_, rfl⟩
  obtain ⟨l, hl⟩ : ∃ l, l = x * hi % 18446744073709551616 := ⟨_, rfl⟩
  obtain ⟨m2, hm2⟩ : ∃ m2, m2 = x * lo / 18446744073709551616 := ⟨_, rfl⟩
  obtain ⟨fr, hfr⟩ : ∃ fr, fr = x * lo % 18446744073709551616 := ⟨_, rfl⟩
  have e1 : x * hi = 18446744073709551616 * h + l := by rw [hh, hl]; exact (Nat.div_add_mod _ _).symm
  have e2 : x * lo = 18446744073709551616 * m2 + fr := by rw [hm2, hfr]; exact (Nat.div_add_mod _ _).symm
  have l1 : l < 18446744073709551616 := by rw [hl]; exact Nat.mod_lt _ (by decide)
  have f1 : fr < 18446744073709551616 := by rw [hfr]; exact Nat.mod_lt _ (by decide)
  have hxl : x * lo ≤ 18446744073709551615 * 18446744073709551615 := Nat.mul_le_mul (by omega) (by omega)
  have m1 : m2 ≤ 18446744073709551614 := by omega
  clear hxl
  -- pm
  obtain ⟨pm, hpm⟩ : ∃ pm, pm = hi * 18446744073709551616 - lo := ⟨_, rfl⟩
  rw [← hpm] at ht1 ht2
  have hh1 : 1 ≤ h := by rw [hh]; exact hge
  have hxpm : x * pm + x * lo = x * hi * 18446744073709551616 := by
    rw [hpm, Nat.mul_sub, ← Nat.mul_assoc]
    have : x * lo ≤ x * hi * 18446744073709551616 := by omega
    omega
  have hz : x * pm + (18446744073709551616 * m2 + fr) = 340282366920938463463374607431768211456 * h + 18446744073709551616 * l := by
    rw [← e2, hxpm, e1]; grind
  -- the truth, scaled: N * 2^124 lies in (x * pm * B - x * B, x * pm * B]
  obtain ⟨N, hN⟩ : ∃ N, N = x * A := ⟨_, rfl⟩
  have t1 : N * 21267647932558653966460912964485513216 ≤ x * pm * B := by
    rw [hN, Nat.mul_assoc, Nat.mul_assoc]; exact Nat.mul_le_mul_left _ ht1
  have t2 : x * pm * B < N * 21267647932558653966460912964485513216 + x * B := by
    rw [hN, Nat.mul_assoc, Nat.mul_assoc, ← Nat.mul_add]; exact Nat.mul_lt_mul_of_pos_left ht2 hx0
  obtain ⟨S, hS⟩ : ∃ S, S = 2 ^ s := ⟨_, rfl⟩
  have hS0 : 0 < S := by rw [hS]; exact Nat.two_pow_pos s
  have hD : B * 2 ^ (4 + s) = 16 * (S * B) := by rw [Nat.pow_add, hS, show 2 ^ 4 = 16 by rfl]; grind
  obtain ⟨D, hDe⟩ : ∃ D, D = B * 2 ^ (4 + s) := ⟨_, rfl⟩
  rw [← hDe] at hfar ⊢
  rw [hD] at hDe
  rw [← hN] at hfar ⊢
  -- bounds for N from bounds for x * pm, in units of 2^128
  have up : ∀ y : Nat, x * pm < y * S * 340282366920938463463374607431768211456 → N < y * D := by
    intro y hy
    have h1 : x * pm * B < y * S * 340282366920938463463374607431768211456 * B := Nat.mul_lt_mul_of_pos_right hy hB0
    have h2 : y * S * 340282366920938463463374607431768211456 * B = y * D * 21267647932558653966460912964485513216 := by rw [hDe]; grind
    rw [h2] at h1
    exact Nat.lt_of_mul_lt_mul_right (Nat.lt_of_le_of_lt t1 h1)
  have dn : ∀ y : Nat, y * S * 340282366920938463463374607431768211456 + x ≤ x * pm → y * D < N := by
    intro y hy
    have h1 : (y * S * 340282366920938463463374607431768211456 + x) * B ≤ x * pm * B := Nat.mul_le_mul_right _ hy
    have h2 : y * S * 340282366920938463463374607431768211456 * B = y * D * 21267647932558653966460912964485513216 := by rw [hDe]; grind
    rw [Nat.add_mul, h2] at h1
    have h3 : y * D * 21267647932558653966460912964485513216 < N * 21267647932558653966460912964485513216 := by omega
    exact Nat.lt_of_mul_lt_mul_right h3
  have a1 : x * pm < (h + 1) * 340282366920938463463374607431768211456 := lin6 hz l1
  have a2 : (h - 1) * 340282366920938463463374607431768211456 + x ≤ x * pm := lin1 hz l1 f1 m1 hx hh1
  unfold usc
  simp only []
  rw [← hh, ← hl, ← hm2, ← hS]
  have hdm := Nat.div_add_mod h S
  have hml := Nat.mod_lt h hS0
  obtain ⟨y, hy⟩ : ∃ y, y = h / S := ⟨_, rfl⟩
  rw [← hy] at hdm ⊢
  by_cases c1 : y * S ≠ h
  · rw [if_pos c1]
    have hr : 1 ≤ h % S := by
      rcases Nat.eq_zero_or_pos (h % S) with k | k
      · rw [k, Nat.mul_comm] at hdm; omega
      · exact k
    have b1 : h + 1 ≤ (y + 1) * S := by rw [Nat.add_mul, Nat.one_mul, Nat.mul_comm y S]; omega
    have b2 : y * S ≤ h - 1 := by rw [Nat.mul_comm y S]; omega
    have k1 : N < (y + 1) * D := up _ (Nat.lt_of_lt_of_le a1 (Nat.mul_le_mul_right _ b1))
    have k2 : y * D < N := dn _ (Nat.le_trans (Nat.add_le_add_right (Nat.mul_le_mul_right _ b2) _) a2)
    obtain ⟨g1, g2⟩ := between k2 k1
    unfold unr
    rw [g1, if_neg g2]
  · rw [if_neg c1]
    have c1' : y * S = h := by omega
    have b1 : h + 1 ≤ (y + 1) * S := by rw [Nat.add_mul, Nat.one_mul]; omega
    by_cases c2 : l < m2
    · rw [if_pos c2]
      have e3 : (l + 18446744073709551616 - m2) % 18446744073709551616 = l + 18446744073709551616 - m2 := Nat.mod_eq_of_lt (by omega)
      rw [e3, if_pos (by omega)]
      have hy1 : 1 ≤ y := by
        rcases Nat.eq_zero_or_pos y with k | k
        · rw [k, Nat.zero_mul] at c1'; omega
        · exact k
      have e4 : (h - 1) / S = y - 1 := by
        apply Nat.div_eq_of_lt_le
        · have := Nat.sub_mul y 1 S; rw [Nat.one_mul] at this; omega
        · rw [show y - 1 + 1 = y by omega]; omega
      rw [e4]
      have k1 : N < (y - 1 + 1) * D := by
        rw [show y - 1 + 1 = y by omega]
        apply up
        rw [c1']
        exact lin2 hz c2
      have k2 : (y - 1) * D < N := by
        apply dn
        have : (y - 1) * S ≤ h - 1 := by rw [Nat.sub_mul, Nat.one_mul]; omega
        exact Nat.le_trans (Nat.add_le_add_right (Nat.mul_le_mul_right _ this) _) a2
      obtain ⟨g1, g2⟩ := between k2 k1
      unfold unr
      rw [g1, if_neg g2]
    · rw [if_neg c2, ← hy]
      have e3 : (l + 18446744073709551616 - m2) % 18446744073709551616 = l - m2 := by
        rw [show l + 18446744073709551616 - m2 = (l - m2) + 18446744073709551616 by omega, Nat.add_mod_right]
        exact Nat.mod_eq_of_lt (by omega)
      rw [e3]
      by_cases c3 : 1 < l - m2
      · rw [if_pos c3]
        have k1 : N < (y + 1) * D := up _ (Nat.lt_of_lt_of_le a1 (Nat.mul_le_mul_right _ b1))
        have k2 : y * D < N := by
          apply dn
          rw [c1']
          exact lin3 hz (by omega) f1 hx
        obtain ⟨g1, g2⟩ := between k2 k1
        unfold unr
        rw [g1, if_neg g2]
      · rw [if_neg c3]
        -- nearer than 2^65: it is one
        have k3 : N = y * D := by
          refine hfar y ?_ ?_
          · by_cases g : N ≤ y * D
            · rw [Nat.sub_eq_zero_of_le g, Nat.zero_mul]; exact hB0
            · have h1 : x * pm ≤ y * S * 340282366920938463463374607431768211456 + 18446744073709551616 := by rw [c1']; exact lin5 hz (by omega)
              have h2 := Nat.mul_le_mul_right B h1
              have h3 : (y * S * 340282366920938463463374607431768211456 + 18446744073709551616) * B = y * D * 21267647932558653966460912964485513216 + 18446744073709551616 * B := by rw [hDe]; grind
              rw [h3] at h2
              have h4 : (N - y * D) * 576460752303423488 * 36893488147419103232 < B * 36893488147419103232 := by
                rw [Nat.mul_assoc, Nat.sub_mul]
                omega
              exact Nat.lt_of_mul_lt_mul_right h4
          · by_cases g : y * D ≤ N
            · rw [Nat.sub_eq_zero_of_le g, Nat.zero_mul]; exact hB0
            · have h1 : y * S * 340282366920938463463374607431768211456 ≤ x * pm + 18446744073709551615 := by rw [c1']; exact lin4 hz (by omega) f1
              have h2 := Nat.mul_le_mul_right B h1
              have h3 : y * S * 340282366920938463463374607431768211456 * B = y * D * 21267647932558653966460912964485513216 := by rw [hDe]; grind
              rw [h3, Nat.add_mul] at h2
              have h5 : x * B ≤ 18446744073709551615 * B := Nat.mul_le_mul_right _ (by omega)
              have h4 : (y * D - N) * 576460752303423488 * 36893488147419103232 < B * 36893488147419103232 := by
                rw [Nat.mul_assoc, Nat.sub_mul]
                omega
              exact Nat.lt_of_mul_lt_mul_right h4
        have hD0 : 0 < D := by rw [hDe]; exact Nat.mul_pos (by decide) (Nat.mul_pos hS0 hB0)
        unfold unr
        rw [k3, Nat.mul_mod_left, if_pos rfl, Nat.mul_div_cancel _ hD0]
end Go.Proofs.YtghajgdiaopioaaGreatDoor.Fl
end
