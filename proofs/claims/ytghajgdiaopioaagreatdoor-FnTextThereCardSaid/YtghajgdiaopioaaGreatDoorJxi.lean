/- Walks and plain laws joined (Gc, Gd). Conditions: stand in each law. -/
import Derived.Test.YtghajgdiaopioaaGreatDoorJxh
set_option linter.unusedVariables false
set_option linter.unusedSimpArgs false
section
/- Plain laws: the shortest text of a float lies in its interval. Conditions: stand in each law; no program is named here. -/
namespace Go.Proofs.YtghajgdiaopioaaGreatDoor.Fl
theorem rows_ok : ∀ (q : Nat) (x : Nat × Nat), Go.Pinned.pow10Rows[q]? = some x → rowOk ((q : Int) - 348) x.1 x.2 := by
  have h : (List.range 696).all (fun q => match Go.Pinned.pow10Rows[q]? with | none => false | some x => decide (rowOk ((q : Int) - 348) x.1 x.2)) = true := by decide +kernel
  have hl : Go.Pinned.pow10Rows.length = 696 := by decide +kernel
  intro q x hq
  have hlt : q < 696 := by
    rw [← hl]
    by_cases h : q < Go.Pinned.pow10Rows.length
    · exact h
    · rw [List.getElem?_eq_none (by omega)] at hq; cases hq
  have := List.all_eq_true.1 h q (List.mem_range.2 hlt)
  rw [hq] at this
  exact of_decide_eq_true this
theorem row_at (p : Int) (h1 : -348 ≤ p) (h2 : p ≤ 347) : ∃ x, Go.Pinned.pow10Rows[(p + 348).toNat]? = some x ∧ rowOk p x.1 x.2 := by
  have hl : Go.Pinned.pow10Rows.length = 696 := by decide +kernel
  have hx : Go.Pinned.pow10Rows[(p + 348).toNat]? = some (Go.Pinned.pow10Rows[(p + 348).toNat]'(by omega)) := List.getElem?_eq_getElem _
  refine ⟨_, hx, ?_⟩
  have := rows_ok _ _ hx
  rwa [show (((p + 348).toNat : Nat) : Int) - 348 = p by omega] at this

theorem dn_pos (p : Int) : 0 < dnB p := by
  unfold dnB; split
  · exact Nat.two_pow_pos _
  · exact Nat.pow_pos (by decide)
theorem top_ge {x hi : Nat} (hx : 4611686018427387904 ≤ x) (hhi : 9223372036854775808 ≤ hi) : 1 ≤ x * hi / 18446744073709551616 := by
  have := Nat.mul_le_mul hx hhi
  omega
/-- uscale on a multiple of 512 of fewer than 55 digits, ahead of the shift 5. -/
theorem usc_short {p : Int} (h1 : -292 ≤ p) (h2 : p ≤ 324) {hi lo : Nat} (hrow : rowOk p hi lo) {x s : Nat} (hx0 : 4611686018427387904 ≤ 512 * x) (hx : x < 36028797018963968) (hs : 5 ≤ s) :
    usc (512 * x) hi lo s = unr (512 * x * upA p) (dnB p * 2 ^ (4 + s)) := by
  refine usc_exact p (512 * x) hi lo s hrow (by omega) (by omega) (top_ge hx0 hrow.2.1) fun y k1 k2 => ?_
  have e : dnB p * 2 ^ (4 + s) = 512 * (2 ^ (s - 5) * dnB p) := by
    rw [show 4 + s = 9 + (s - 5) by omega, Nat.pow_add, show 2 ^ 9 = 512 by rfl]; grind
  have e1 : y * (dnB p * 2 ^ (4 + s)) = 512 * (y * 2 ^ (s - 5) * dnB p) := by rw [e]; grind
  have e2 : 512 * x * upA p = 512 * (x * upA p) := Nat.mul_assoc ..
  rw [e1, e2] at k1 k2 ⊢
  rw [← Nat.mul_sub, Nat.mul_comm 512, Nat.mul_assoc, show 512 * 2 ^ 59 = 2 ^ 68 by rfl] at k1 k2
  rw [far_spec (far_short p h1 h2) x (y * 2 ^ (s - 5)) (by omega) hx k1 k2]
/-- uscale on a multiple of 128 of fewer than 57 digits, ahead of the shift 8. -/
theorem usc_parse {p : Int} (h1 : -345 ≤ p) (h2 : p ≤ 310) {hi lo : Nat} (hrow : rowOk p hi lo) {x s : Nat} (hx0 : 4611686018427387904 ≤ 128 * x) (hx : x < 144115188075855872) (hs : 8 ≤ s) :
    usc (128 * x) hi lo s = unr (128 * x * upA p) (dnB p * 2 ^ (4 + s)) := by
  refine usc_exact p (128 * x) hi lo s hrow (by omega) (by omega) (top_ge hx0 hrow.2.1) fun y k1 k2 => ?_
  have e : dnB p * 2 ^ (4 + s) = 128 * (2 ^ (s - 8) * (32 * dnB p)) := by
    rw [show 4 + s = 12 + (s - 8) by omega, Nat.pow_add, show 2 ^ 12 = 128 * 32 by rfl]; grind
  have e1 : y * (dnB p * 2 ^ (4 + s)) = 128 * (y * 2 ^ (s - 8) * (32 * dnB p)) := by rw [e]; grind
  have e2 : 128 * x * upA p = 128 * (x * upA p) := Nat.mul_assoc ..
  rw [e1, e2] at k1 k2 ⊢
  rw [← Nat.mul_sub, Nat.mul_comm 128, Nat.mul_assoc, show 128 * 2 ^ 59 = 2 ^ 66 by rfl] at k1 k2
  have g : ∀ z : Nat, z * 2 ^ 66 < dnB p → z * 2 ^ 71 < 32 * dnB p := by
    intro z hz
    obtain ⟨c, hc⟩ : ∃ c, c = 2 ^ 66 := ⟨_, rfl⟩
    have : z * 2 ^ 71 = 32 * (z * 2 ^ 66) := by rw [show 71 = 5 + 66 by rfl, Nat.pow_add, ← hc]; grind
    rw [this, ← hc]
    rw [← hc] at hz
    omega
  rw [far_spec (far_parse p h1 h2) x (y * 2 ^ (s - 8)) (by omega) hx (g _ k1) (g _ k2)]

/-! ### The interval of a float -/
/-- The lower end of the interval of m * 2^e, in fourths. -/
def loM (m : Nat) (e : Int) : Nat := if m = 4503599627370496 ∧ -1074 < e then 4 * m - 1 else 4 * m - 2
def hiM (m : Nat) : Nat := 4 * m + 2
def T (q : Int) : Nat := 10 ^ (q + 400).toNat
def U (e : Int) : Nat := 2 ^ (e + 1400).toNat
/-- a * 10^q is rounded to m * 2^e. -/
def InR (m : Nat) (e : Int) (a : Nat) (q : Int) : Prop :=
  loM m e * (T (-q) * U e) ≤ 4 * a * (T 0 * U 0) ∧ 4 * a * (T 0 * U 0) ≤ hiM m * (T (-q) * U e) ∧ (m % 2 = 1 → loM m e * (T (-q) * U e) < 4 * a * (T 0 * U 0) ∧ 4 * a * (T 0 * U 0) < hiM m * (T (-q) * U e))
theorem T_pos (q : Int) : 0 < T q := Nat.pow_pos (by decide)
theorem U_pos (q : Int) : 0 < U q := Nat.two_pow_pos _
theorem T_add (q : Int) (i : Nat) (h : -400 ≤ q) : T (q + i) = 10 ^ i * T q := by
  unfold T; rw [← Nat.pow_add]; congr 1; omega
theorem U_add (q : Int) (i : Nat) (h : -1400 ≤ q) : U (q + i) = 2 ^ i * U q := by
  unfold U; rw [← Nat.pow_add]; congr 1; omega
theorem InR.shift {m : Nat} {e : Int} {a : Nat} {q : Int} {i : Nat} (h1 : q + i ≤ 400) : InR m e (a * 10 ^ i) q ↔ InR m e a (q + i) := by
  have hT : T (-q) = 10 ^ i * T (-(q + i)) := by
    rw [← T_add _ _ (by omega)]; congr 1; omega
  have hp : 0 < 10 ^ i := Nat.pow_pos (by decide)
  have e1 : ∀ c : Nat, c * (T (-q) * U e) = 10 ^ i * (c * (T (-(q + i)) * U e)) := by intro c; rw [hT]; grind
  have e2 : 4 * (a * 10 ^ i) * (T 0 * U 0) = 10 ^ i * (4 * a * (T 0 * U 0)) := by grind
  unfold InR
  rw [e1, e1, e2]
  simp only [Nat.mul_le_mul_left_iff hp, Nat.mul_lt_mul_left hp]

theorem mul4 (a b c d : Nat) : a * b * (c * d) = a * c * (b * d) := by grind
theorem mul5 (a b c d f : Nat) : a * b * (c * d * f) = c * d * (a * b * f) := by grind
/-- What the table's powers stand for. -/
theorem up_dn (p : Int) (h1 : -348 ≤ p) (h2 : p ≤ 347) (t : Nat) (e : Int) (ht : (t : Int) = 3 - e - lp10 p) (he : -1300 ≤ e) (he2 : e ≤ 1300) :
    upA p * (T 0 * U 0) = dnB p * 2 ^ t * (T p * U e) := by
  unfold upA dnB T U lp10 at *
  by_cases hp : 0 ≤ p
  · rw [if_pos hp, if_pos hp, show (8 : Nat) = 2 ^ 3 by rfl]
    have e1 : 10 ^ (p + 400).toNat = 10 ^ p.toNat * 10 ^ (0 + 400 : Int).toNat := by rw [← Nat.pow_add]; congr 1; omega
    have e2 : 2 ^ (p * 108853 / 32768).toNat * 2 ^ t * 2 ^ (e + 1400).toNat = 2 ^ 3 * 2 ^ (0 + 1400 : Int).toNat := by
      rw [← Nat.pow_add, ← Nat.pow_add, ← Nat.pow_add]; congr 1; omega
    rw [e1]
    have : 2 ^ (p * 108853 / 32768).toNat * 2 ^ t * (10 ^ p.toNat * 10 ^ (0 + 400 : Int).toNat * 2 ^ (e + 1400).toNat) = 10 ^ p.toNat * 10 ^ (0 + 400 : Int).toNat * (2 ^ (p * 108853 / 32768).toNat * 2 ^ t * 2 ^ (e + 1400).toNat) := mul5 _ _ _ _ _
    rw [this, e2]
    clear this e1 e2
    generalize (10 : Nat) ^ (0 + 400 : Int).toNat = X400
    generalize (2 : Nat) ^ (0 + 1400 : Int).toNat = X1400
    grind
  · rw [if_neg hp, if_neg hp, show (8 : Nat) = 2 ^ 3 by rfl]
    have e1 : 10 ^ (-p).toNat * 10 ^ (p + 400).toNat = 10 ^ (0 + 400 : Int).toNat := by rw [← Nat.pow_add]; congr 1; omega
    have e2 : 2 ^ t * 2 ^ (e + 1400).toNat = 2 ^ 3 * 2 ^ (-(p * 108853 / 32768)).toNat * 2 ^ (0 + 1400 : Int).toNat := by
      rw [← Nat.pow_add, ← Nat.pow_add, ← Nat.pow_add]; congr 1; omega
    have : 10 ^ (-p).toNat * 2 ^ t * (10 ^ (p + 400).toNat * 2 ^ (e + 1400).toNat) = 10 ^ (-p).toNat * 10 ^ (p + 400).toNat * (2 ^ t * 2 ^ (e + 1400).toNat) := mul4 _ _ _ _
    rw [this, e1, e2]
    clear this e1 e2
    generalize (10 : Nat) ^ (0 + 400 : Int).toNat = X400
    generalize (2 : Nat) ^ (0 + 1400 : Int).toNat = X1400
    grind

/-! ### The shortest number -/
/-- The end of shortFloat. -/
def sEnd (um umin umax odd : Nat) (p : Int) : Nat × Int :=
  if (umin + odd + 3) / 4 ≤ (umax - odd) / 4 / 10 * 10 then ((umax - odd) / 4 / 10, -(p - 1))
  else if (umin + odd + 3) / 4 < (umax - odd) / 4 then ((um + 1 + um / 4 % 2) / 4, -p)
  else ((umin + odd + 3) / 4, -p)

/-- What the end chooses lies between the ends. a / d is the interval's width in units; the lower end is lo, in fourths. -/
theorem sEnd_in (m lo a d : Nat) (hd : 0 < d) (hm : 1 ≤ m) (p : Int)
    (hlo : (lo = 4 * m - 2 ∧ d ≤ a) ∨ (lo = 4 * m - 1 ∧ 4 * d ≤ 3 * a ∧ m % 2 = 0)) (hub : (4 * m + 2) * a < 400000000000000000 * d)
    (um umin umax : Nat) (h1 : um = unr (4 * m * a) d) (h2 : umin = unr (lo * a) d) (h3 : umax = unr ((4 * m + 2) * a) d) (odd : Nat) (ho : odd = m % 2) :
    ∃ v j : Nat, v = (sEnd um umin umax odd p).1 * 10 ^ j ∧ (sEnd um umin umax odd p).2 = -p + j ∧ j ≤ 1 ∧ 1 ≤ (sEnd um umin umax odd p).1 ∧ v < 100000000000000000 ∧
      lo * a ≤ 4 * v * d ∧ 4 * v * d ≤ (4 * m + 2) * a ∧ (m % 2 = 1 → lo * a < 4 * v * d ∧ 4 * v * d < (4 * m + 2) * a) := by
  have o2 : odd ≤ 1 := by omega
  have hda : d ≤ a := by rcases hlo with h | h <;> omega
  -- against even numbers
  have cle : ∀ v : Nat, umin ≤ 4 * v ↔ lo * a ≤ 4 * v * d := fun v => by rw [h2, show 4 * v = 2 * (2 * v) by omega]; exact unr_le hd
  have clt : ∀ v : Nat, umin < 4 * v ↔ lo * a < 4 * v * d := fun v => by rw [h2, show 4 * v = 2 * (2 * v) by omega]; exact unr_lt hd
  have dle : ∀ v : Nat, umax < 4 * v ↔ (4 * m + 2) * a < 4 * v * d := fun v => by rw [h3, show 4 * v = 2 * (2 * v) by omega]; exact unr_lt hd
  have dlt : ∀ v : Nat, umax ≤ 4 * v ↔ (4 * m + 2) * a ≤ 4 * v * d := fun v => by rw [h3, show 4 * v = 2 * (2 * v) by omega]; exact unr_le hd
  have mle : ∀ w : Nat, um ≤ 2 * w ↔ 4 * m * a ≤ 2 * w * d := fun w => by rw [h1]; exact unr_le hd
  have mlt : ∀ w : Nat, um < 2 * w ↔ 4 * m * a < 2 * w * d := fun w => by rw [h1]; exact unr_lt hd
  -- the products that occur
  obtain ⟨ma, hma⟩ : ∃ z, z = m * a := ⟨_, rfl⟩
  have p1 : (4 * m + 2) * a = 4 * ma + 2 * a := by rw [hma]; grind
  have p2 : 4 * m * a = 4 * ma := by rw [hma]; grind
  have p3 : (lo * a = 4 * ma - 2 * a ∧ d ≤ a) ∨ (lo * a = 4 * ma - a ∧ 4 * d ≤ 3 * a ∧ m % 2 = 0) := by
    rcases hlo with ⟨h, k⟩ | ⟨h, k⟩
    · left; refine ⟨?_, k⟩; rw [h, hma, Nat.sub_mul]; congr 1; grind
    · right; refine ⟨?_, k⟩; rw [h, hma, Nat.sub_mul, Nat.one_mul]; congr 1; grind
  have hma2 : a ≤ ma := by rw [hma]; exact Nat.le_mul_of_pos_left _ hm
  have hmd : m * d ≤ ma := by rw [hma]; exact Nat.mul_le_mul_left _ hda
  -- a number between the two ends chosen is good
  have good : ∀ v : Nat, (umin + odd + 3) / 4 ≤ v → v ≤ (umax - odd) / 4 → odd ≤ umax → lo * a ≤ 4 * v * d ∧ 4 * v * d ≤ (4 * m + 2) * a ∧ (m % 2 = 1 → lo * a < 4 * v * d ∧ 4 * v * d < (4 * m + 2) * a) := by
    intro v g1 g2 g3
    refine ⟨(cle v).1 (by omega), Nat.le_of_not_lt fun h => ?_, fun hodd => ⟨(clt v).1 (by omega), Nat.lt_of_not_le fun h => ?_⟩⟩
    · have := (dle v).2 h; omega
    · have := (dlt v).2 h; omega
  have ub : ∀ v : Nat, 4 * v * d ≤ (4 * m + 2) * a → v < 100000000000000000 := by
    intro v hv
    apply Nat.lt_of_not_le
    intro h
    have k1 : 4 * 100000000000000000 * d ≤ 4 * v * d := Nat.mul_le_mul_right _ (by omega)
    omega
  -- the greatest one below the upper end
  have hu2 : odd ≤ umax := by
    have : ¬ umax < 4 * 1 := fun h => by
      have := (dle 1).1 h
      have h5 : 4 * 1 * d = 4 * d := by rw [Nat.mul_one]
      omega
    omega
  have hex : (umin + odd + 3) / 4 ≤ (umax - odd) / 4 := by
    -- a witness
    obtain ⟨v, hv1, hv2⟩ : ∃ v : Nat, umin + odd ≤ 4 * v ∧ 4 * v + odd ≤ umax := by
      by_cases hodd : m % 2 = 1
      · have p3' : lo * a = 4 * ma - 2 * a := by rcases p3 with h | h <;> omega
        by_cases had : a = d
        · refine ⟨m, ?_, ?_⟩
          · have := (clt m).2 (by rw [p3', Nat.mul_assoc, ← had, ← hma]; omega)
            omega
          · have : ¬ umax ≤ 4 * m := fun h => by
              have := (dlt m).1 h
              rw [p1, Nat.mul_assoc, ← had, ← hma] at this
              omega
            omega
        · obtain ⟨v, hv⟩ : ∃ v, v = ((4 * m + 2) * a - 1) / (4 * d) := ⟨_, rfl⟩
          have k1 := Nat.div_add_mod ((4 * m + 2) * a - 1) (4 * d)
          have k2 := Nat.mod_lt ((4 * m + 2) * a - 1) (show 0 < 4 * d by omega)
          rw [← hv, show 4 * d * v = 4 * v * d by grind] at k1
          refine ⟨v, ?_, ?_⟩
          · have := (clt v).2 (by omega)
            omega
          · have : ¬ umax ≤ 4 * v := fun h => by
              have := (dlt v).1 h
              omega
            omega
      · obtain ⟨v, hv⟩ : ∃ v, v = ((4 * m + 2) * a) / (4 * d) := ⟨_, rfl⟩
        have k1 := Nat.div_add_mod ((4 * m + 2) * a) (4 * d)
        have k2 := Nat.mod_lt ((4 * m + 2) * a) (show 0 < 4 * d by omega)
        rw [← hv, show 4 * d * v = 4 * v * d by grind] at k1
        refine ⟨v, ?_, ?_⟩
        · have := (cle v).2 (by omega)
          omega
        · have : ¬ umax < 4 * v := fun h => by
            have := (dle v).1 h
            omega
          omega
    omega
  have hpos : ∀ v : Nat, lo * a ≤ 4 * v * d → 1 ≤ v := by
    intro v hv
    rcases Nat.eq_zero_or_pos v with h | h
    · subst h
      rw [Nat.mul_zero, Nat.zero_mul] at hv
      omega
    · exact h
  unfold sEnd
  by_cases c1 : (umin + odd + 3) / 4 ≤ (umax - odd) / 4 / 10 * 10
  · rw [if_pos c1]
    have g := good ((umax - odd) / 4 / 10 * 10) c1 (by omega) hu2
    have := hpos _ g.1
    exact ⟨(umax - odd) / 4 / 10 * 10, 1, rfl, by simp only []; omega, by omega, by simp only []; omega, ub _ g.2.1, g⟩
  · rw [if_neg c1]
    by_cases c2 : (umin + odd + 3) / 4 < (umax - odd) / 4
    · rw [if_pos c2]
      obtain ⟨v, hv⟩ : ∃ v, v = (um + 1 + um / 4 % 2) / 4 := ⟨_, rfl⟩
      rw [← hv]
      have g1 := good _ (Nat.le_refl _) (Nat.le_of_lt c2) hu2
      have g2 := good _ (Nat.le_of_lt c2) (Nat.le_refl _) hu2
      obtain ⟨v1, hv1⟩ : ∃ z, z = (umin + odd + 3) / 4 := ⟨_, rfl⟩
      obtain ⟨v2, hv2⟩ : ∃ z, z = (umax - odd) / 4 := ⟨_, rfl⟩
      rw [← hv1] at g1 c2
      rw [← hv2] at g2 c2
      -- um lies within 2 of 4 * v
      have r1 : um ≤ 4 * v + 2 := by omega
      have r2 : 4 * v ≤ um + 2 := by omega
      have s1 : 4 * ma ≤ 4 * v * d + 2 * d := by
        have := (mle (2 * v + 1)).1 (by omega)
        rw [p2] at this
        have e : 2 * (2 * v + 1) * d = 4 * v * d + 2 * d := by grind
        omega
      have s2 : 4 * v * d ≤ 4 * ma + 2 * d := by
        by_cases hv0 : v = 0
        · subst hv0; omega
        · have h5 : ¬ um < 2 * (2 * v - 1) := by omega
          rw [mlt, p2] at h5
          have e : 2 * (2 * v - 1) * d + 2 * d = 4 * v * d := by
            rw [show 4 * v = 2 * (2 * v - 1) + 2 by omega, Nat.add_mul]
          omega
      have fin : (umin + odd + 3) / 4 ≤ v ∧ v ≤ (umax - odd) / 4 := by
        rw [← hv1, ← hv2]
        have w1 : ∀ i : Nat, v + i ≤ v2 → 4 * v * d + 4 * (i * d) ≤ (4 * m + 2) * a := by
          intro i hi
          have : 4 * (v + i) * d ≤ 4 * v2 * d := Nat.mul_le_mul_right _ (by omega)
          have e : 4 * (v + i) * d = 4 * v * d + 4 * (i * d) := by grind
          omega
        constructor
        · apply Nat.le_of_not_lt
          intro h
          have k := w1 2 (by omega)
          by_cases hodd : m % 2 = 1
          · have k2 : 4 * v * d ≤ lo * a := Nat.le_of_not_lt fun h2 => by
              have := (clt v).2 h2
              omega
            have had : a = d := by rcases p3 with h3 | h3 <;> omega
            have k3 : 4 * v * d + 2 * d = 4 * (m * d) := by
              rw [had] at hma p3
              rcases p3 with h3 | h3 <;> omega
            have k4 : (4 * v + 2) * d = 4 * m * d := by grind
            have := Nat.eq_of_mul_eq_mul_right hd k4
            omega
          · have k2 : 4 * v * d < lo * a := Nat.lt_of_not_le fun h2 => by
              have := (cle v).2 h2
              omega
            rcases p3 with h3 | h3 <;> omega
        · apply Nat.le_of_not_lt
          intro h
          by_cases hodd : m % 2 = 1
          · have k2 : (4 * m + 2) * a ≤ 4 * v * d := (dlt v).1 (by omega)
            have had : a = d := by omega
            have k3 : 4 * v * d = 4 * (m * d) + 2 * d := by
              rw [had] at hma
              omega
            have k4 : 4 * v * d = (4 * m + 2) * d := by grind
            have := Nat.eq_of_mul_eq_mul_right hd k4
            omega
          · have k2 : (4 * m + 2) * a < 4 * v * d := (dle v).1 (by omega)
            omega
      have g := good v fin.1 fin.2 hu2
      exact ⟨v, 0, by simp, by simp, by omega, hpos _ g.1, ub _ g.2.1, g⟩
    · rw [if_neg c2]
      have g := good _ (Nat.le_refl _) hex hu2
      exact ⟨_, 0, by simp, by simp, by omega, hpos _ g.1, ub _ g.2.1, g⟩
end Go.Proofs.YtghajgdiaopioaaGreatDoor.Fl
end
section
/- Plain laws: what shortFloat answers is rounded to the float. Conditions: stand in each law; no program is named here. -/
namespace Go.Proofs.YtghajgdiaopioaaGreatDoor.Fl
/-- m * 2^e is a float that is not 0. -/
structure Fin (m : Nat) (e : Int) : Prop where
  m0 : 1 ≤ m
  m1 : m < 9007199254740992
  e0 : -1074 ≤ e
  e1 : e ≤ 971
  nm : -1074 < e → 4503599627370496 ≤ m
/-- How far the digits of m are moved. -/
def s0 (m : Nat) : Nat := 63 - m.log2
def skew (m : Nat) (e : Int) : Bool := decide (m = 4503599627370496) && decide (-1074 < e)
/-- The power of ten that shortFloat takes. -/
def sp (m : Nat) (e : Int) : Int := if skew m e then -((e * 631305 - 261663) / 2097152) else -(e * 78913 / 262144)
def st (m : Nat) (e : Int) : Nat := (3 - e - lp10 (sp m e)).toNat
def ssh (m : Nat) (e : Int) : Nat := s0 m + st m e - 6

def okB (e : Int) (p : Int) : Bool := decide (-292 ≤ p) && decide (p ≤ 324) && decide (0 ≤ 3 - e - lp10 p) && decide (3 - e - lp10 p ≤ 3)
theorem plain_ok : ∀ e : Int, -1074 ≤ e → e ≤ 971 → okB e (-(e * 78913 / 262144)) = true ∧ dnB (-(e * 78913 / 262144)) * 2 ^ (3 - e - lp10 (-(e * 78913 / 262144))).toNat ≤ upA (-(e * 78913 / 262144))
    ∧ upA (-(e * 78913 / 262144)) < 10 * (dnB (-(e * 78913 / 262144)) * 2 ^ (3 - e - lp10 (-(e * 78913 / 262144))).toNat) := by
  have h : (List.range 2046).all (fun i => let e : Int := (i : Int) - 1074; let p := -(e * 78913 / 262144); okB e p && decide (dnB p * 2 ^ (3 - e - lp10 p).toNat ≤ upA p) && decide (upA p < 10 * (dnB p * 2 ^ (3 - e - lp10 p).toNat))) = true := by decide +kernel
  intro e h1 h2
  have := List.all_eq_true.1 h (e + 1074).toNat (List.mem_range.2 (by omega))
  simp only [show (((e + 1074).toNat : Nat) : Int) - 1074 = e by omega, Bool.and_eq_true, decide_eq_true_eq] at this
  exact ⟨this.1.1, this.1.2, this.2⟩
theorem skew_ok : ∀ e : Int, -1074 < e → e ≤ 971 → okB e (-((e * 631305 - 261663) / 2097152)) = true ∧ 4 * (dnB (-((e * 631305 - 261663) / 2097152)) * 2 ^ (3 - e - lp10 (-((e * 631305 - 261663) / 2097152))).toNat) ≤ 3 * upA (-((e * 631305 - 261663) / 2097152))
    ∧ upA (-((e * 631305 - 261663) / 2097152)) < 20 * (dnB (-((e * 631305 - 261663) / 2097152)) * 2 ^ (3 - e - lp10 (-((e * 631305 - 261663) / 2097152))).toNat) := by
  have h : (List.range 2046).all (fun i => let e : Int := (i : Int) - 1074; let p := -((e * 631305 - 261663) / 2097152); okB e p && decide (4 * (dnB p * 2 ^ (3 - e - lp10 p).toNat) ≤ 3 * upA p) && decide (upA p < 20 * (dnB p * 2 ^ (3 - e - lp10 p).toNat))) = true := by decide +kernel
  intro e h1 h2
  have := List.all_eq_true.1 h (e + 1074).toNat (List.mem_range.2 (by omega))
  simp only [show (((e + 1074).toNat : Nat) : Int) - 1074 = e by omega, Bool.and_eq_true, decide_eq_true_eq] at this
  exact ⟨this.1.1, this.1.2, this.2⟩

variable {m : Nat} {e : Int}
theorem Fin.log (h : Fin m e) : m.log2 ≤ 52 := by
  have : m.log2 < 53 := (Nat.log2_lt (by have := h.m0; omega)).2 h.m1
  omega
theorem Fin.s0_ge (h : Fin m e) : 11 ≤ s0 m ∧ s0 m ≤ 63 := by have := h.log; unfold s0; omega
theorem Fin.top (h : Fin m e) : 2 ^ 63 ≤ m * 2 ^ s0 m ∧ (m + 1) * 2 ^ s0 m ≤ 2 ^ 64 := by
  have hl := h.log
  have h1 : 2 ^ m.log2 ≤ m := Nat.log2_self_le (by have := h.m0; omega)
  have h2 : m + 1 ≤ 2 ^ (m.log2 + 1) := Nat.lt_log2_self
  unfold s0
  constructor
  · rw [show (63 : Nat) = m.log2 + (63 - m.log2) by omega, Nat.pow_add, show m.log2 + (63 - m.log2) - m.log2 = 63 - m.log2 by omega]
    exact Nat.mul_le_mul_right _ h1
  · rw [show (64 : Nat) = (m.log2 + 1) + (63 - m.log2) by omega, Nat.pow_add]
    have : (m.log2 + 1) + (63 - m.log2) - 1 - m.log2 = 63 - m.log2 := by omega
    first
    | exact Nat.mul_le_mul_right _ h2
    | (rw [this]; exact Nat.mul_le_mul_right _ h2)

/-- What is known of the power that is taken. -/
structure Taken (m : Nat) (e : Int) : Prop where
  p0 : -292 ≤ sp m e
  p1 : sp m e ≤ 324
  t0 : (st m e : Int) = 3 - e - lp10 (sp m e)
  t1 : st m e ≤ 3
  sh0 : 5 ≤ ssh m e
  sh1 : ssh m e < 64
  sh : (ssh m e : Int) = -(e - s0 m + lp10 (sp m e) + 3)
  wid : (loM m e = 4 * m - 2 ∧ dnB (sp m e) * 2 ^ st m e ≤ upA (sp m e)) ∨ (loM m e = 4 * m - 1 ∧ 4 * (dnB (sp m e) * 2 ^ st m e) ≤ 3 * upA (sp m e) ∧ m % 2 = 0)
  ub : (4 * m + 2) * upA (sp m e) < 400000000000000000 * (dnB (sp m e) * 2 ^ st m e)
theorem Fin.taken (h : Fin m e) : Taken m e := by
  obtain ⟨z1, z2⟩ := h.s0_ge
  have hm1 := h.m1
  by_cases hk : skew m e = true
  · obtain ⟨k1, k2⟩ : m = 4503599627370496 ∧ -1074 < e := by simpa [skew] using hk
    obtain ⟨g1, g2, g3⟩ := skew_ok e k2 h.e1
    have hp : sp m e = -((e * 631305 - 261663) / 2097152) := by unfold sp; rw [if_pos hk]
    rw [← hp] at g1 g2 g3
    simp only [okB, Bool.and_eq_true, decide_eq_true_eq] at g1
    obtain ⟨⟨⟨a1, a2⟩, a3⟩, a4⟩ := g1
    have hs : (st m e : Int) = 3 - e - lp10 (sp m e) := by unfold st; omega
    refine ⟨a1, a2, hs, by omega, by unfold ssh; omega, by unfold ssh; omega, by unfold ssh; omega, .inr ⟨by unfold loM; rw [if_pos ⟨k1, k2⟩], g2, by omega⟩, ?_⟩
    have e1 : (3 - e - lp10 (sp m e)).toNat = st m e := rfl
    rw [e1] at g3
    have := Nat.mul_le_mul_left (4 * m + 2) (Nat.le_of_lt g3)
    obtain ⟨D, hD⟩ : ∃ D, D = dnB (sp m e) * 2 ^ st m e := ⟨_, rfl⟩
    have hD0 : 0 < D := by rw [hD]; exact Nat.mul_pos (dn_pos _) (Nat.two_pow_pos _)
    rw [← hD] at this ⊢
    rw [k1] at this ⊢
    omega
  · obtain ⟨g1, g2, g3⟩ := plain_ok e h.e0 h.e1
    have hp : sp m e = -(e * 78913 / 262144) := by unfold sp; rw [if_neg hk]
    rw [← hp] at g1 g2 g3
    simp only [okB, Bool.and_eq_true, decide_eq_true_eq] at g1
    obtain ⟨⟨⟨a1, a2⟩, a3⟩, a4⟩ := g1
    have hs : (st m e : Int) = 3 - e - lp10 (sp m e) := by unfold st; omega
    refine ⟨a1, a2, hs, by omega, by unfold ssh; omega, by unfold ssh; omega, by unfold ssh; omega, .inl ⟨?_, g2⟩, ?_⟩
    · unfold loM
      rw [if_neg]
      intro hh
      exact hk (by simpa [skew] using hh)
    · have e1 : (3 - e - lp10 (sp m e)).toNat = st m e := rfl
      rw [e1] at g3
      have k1 := Nat.mul_le_mul_left (4 * m + 2) (Nat.le_of_lt g3)
      obtain ⟨D, hD⟩ : ∃ D, D = dnB (sp m e) * 2 ^ st m e := ⟨_, rfl⟩
      have hD0 : 0 < D := by rw [hD]; exact Nat.mul_pos (dn_pos _) (Nat.two_pow_pos _)
      rw [← hD] at k1 ⊢
      have k2 : (4 * m + 2) * (10 * D) ≤ 36028797018963966 * (10 * D) := Nat.mul_le_mul_right _ (by omega)
      omega

/-- uscale of c fourths of a unit. -/
theorem usc_c (h : Fin m e) {hi lo : Nat} (hrow : rowOk (sp m e) hi lo) (c : Nat) (hc : 4 * m - 2 ≤ c) (hc2 : c ≤ 4 * m + 2) :
    usc (c * 2 ^ (s0 m - 2)) hi lo (ssh m e) = unr (c * upA (sp m e)) (dnB (sp m e) * 2 ^ st m e) := by
  obtain ⟨z1, z2⟩ := h.s0_ge
  obtain ⟨t1, t2⟩ := h.top
  have hm0 := h.m0
  have k := h.taken
  obtain ⟨n, hn⟩ : ∃ n, s0 m = n + 11 := ⟨s0 m - 11, by omega⟩
  have e1 : c * 2 ^ (s0 m - 2) = 512 * (c * 2 ^ n) := by
    rw [show s0 m - 2 = n + 9 by omega, Nat.pow_add, show 2 ^ 9 = 512 by rfl]; grind
  rw [hn] at t1 t2
  have e2 : m * 2 ^ (n + 11) = 2048 * (m * 2 ^ n) := by rw [Nat.pow_add, show 2 ^ 11 = 2048 by rfl]; grind
  have e3 : (m + 1) * 2 ^ (n + 11) = 2048 * (m * 2 ^ n) + 2048 * 2 ^ n := by rw [Nat.pow_add, show 2 ^ 11 = 2048 by rfl]; grind
  rw [e2] at t1
  rw [e3] at t2
  have b1 : c * 2 ^ n ≤ (4 * m + 2) * 2 ^ n := Nat.mul_le_mul_right _ hc2
  have b2 : (4 * m - 2) * 2 ^ n ≤ c * 2 ^ n := Nat.mul_le_mul_right _ hc
  have b3 : (4 * m + 2) * 2 ^ n = 4 * (m * 2 ^ n) + 2 * 2 ^ n := by grind
  have b4 : (4 * m - 2) * 2 ^ n = 4 * (m * 2 ^ n) - 2 * 2 ^ n := by rw [Nat.sub_mul]; congr 1; grind
  have b5 : 2 ^ n ≤ m * 2 ^ n := Nat.le_mul_of_pos_left _ hm0
  have b6 : 0 < 2 ^ n := Nat.two_pow_pos n
  simp only [Nat.reducePow] at t1 t2
  have key := usc_short k.p0 k.p1 hrow (x := c * 2 ^ n) (s := ssh m e) (by omega) (by omega) k.sh0
  rw [e1, key, ← e1]
  have e4 : dnB (sp m e) * 2 ^ (4 + ssh m e) = 2 ^ (s0 m - 2) * (dnB (sp m e) * 2 ^ st m e) := by
    have : 4 + ssh m e = (s0 m - 2) + st m e := by have := k.sh0; unfold ssh at *; omega
    rw [this, Nat.pow_add]; grind
  rw [e4, Nat.mul_comm c, Nat.mul_assoc]
  exact unr_scale (Nat.two_pow_pos _)

/-- What shortFloat answers. -/
def sOut (m : Nat) (e : Int) (hi lo : Nat) : Nat × Int :=
  sEnd (usc (4 * m * 2 ^ (s0 m - 2)) hi lo (ssh m e)) (usc (loM m e * 2 ^ (s0 m - 2)) hi lo (ssh m e)) (usc ((4 * m + 2) * 2 ^ (s0 m - 2)) hi lo (ssh m e)) (m % 2) (sp m e)
theorem lo_between (h : Fin m e) : 4 * m - 2 ≤ loM m e ∧ loM m e ≤ 4 * m + 2 := by unfold loM; split <;> omega
/-- ████ It is rounded to the float. ████ -/
theorem sOut_in (h : Fin m e) {hi lo : Nat} (hrow : rowOk (sp m e) hi lo) :
    InR m e (sOut m e hi lo).1 (sOut m e hi lo).2 ∧ 1 ≤ (sOut m e hi lo).1 ∧ (sOut m e hi lo).1 < 100000000000000000 ∧ -324 ≤ (sOut m e hi lo).2 ∧ (sOut m e hi lo).2 ≤ 293 := by
  have k := h.taken
  obtain ⟨D, hD⟩ : ∃ D, D = dnB (sp m e) * 2 ^ st m e := ⟨_, rfl⟩
  have hD0 : 0 < D := by rw [hD]; exact Nat.mul_pos (dn_pos _) (Nat.two_pow_pos _)
  obtain ⟨l1, l2⟩ := lo_between h
  have u1 := usc_c h hrow (4 * m) (by omega) (by omega)
  have u2 := usc_c h hrow (loM m e) l1 l2
  have u3 := usc_c h hrow (4 * m + 2) (by omega) (by omega)
  have hw := k.wid
  have hu := k.ub
  rw [← hD] at u1 u2 u3 hw hu
  obtain ⟨v, j, hv, hj, hj1, hd1, hvb, i1, i2, i3⟩ := sEnd_in m (loM m e) (upA (sp m e)) D hD0 h.m0 (sp m e) hw hu _ _ _ u1 u2 u3 (m % 2) rfl
  have hsO : sOut m e hi lo = sEnd (usc (4 * m * 2 ^ (s0 m - 2)) hi lo (ssh m e)) (usc (loM m e * 2 ^ (s0 m - 2)) hi lo (ssh m e)) (usc ((4 * m + 2) * 2 ^ (s0 m - 2)) hi lo (ssh m e)) (m % 2) (sp m e) := rfl
  rw [← hsO] at hv hj hd1
  have hpw : 1 ≤ 10 ^ j := Nat.one_le_pow _ _ (by decide)
  have hle : (sOut m e hi lo).1 ≤ v := by rw [hv]; exact Nat.le_mul_of_pos_right _ hpw
  have p0 := k.p0
  have p1 := k.p1
  refine ⟨?_, hd1, by omega, by omega, by omega⟩
  rw [hj]
  refine (InR.shift (by omega)).1 ?_
  rw [← hv]
  -- from units to the scale
  have hK := up_dn (sp m e) (by omega) (by omega) (st m e) e k.t0 (by have := h.e0; omega) (by have := h.e1; omega)
  rw [← hD] at hK
  obtain ⟨X, hX⟩ : ∃ X, X = T (sp m e) * U e := ⟨_, rfl⟩
  obtain ⟨K, hKe⟩ : ∃ K, K = T 0 * U 0 := ⟨_, rfl⟩
  have hK0 : 0 < K := by rw [hKe]; exact Nat.mul_pos (T_pos _) (U_pos _)
  unfold InR hiM
  rw [Int.neg_neg, ← hX, ← hKe]
  rw [← hX, ← hKe] at hK
  have cv : ∀ c : Nat, c * X * D = c * upA (sp m e) * K := by intro c; rw [Nat.mul_assoc c, Nat.mul_assoc c, hK]; grind
  have cv2 : 4 * v * K * D = 4 * v * D * K := by grind
  have toLe1 : ∀ c : Nat, c * upA (sp m e) ≤ 4 * v * D → c * X ≤ 4 * v * K := fun c hc => by
    have := Nat.mul_le_mul_right K hc
    rw [← cv, ← cv2] at this
    exact Nat.le_of_mul_le_mul_right this hD0
  have toLe2 : ∀ c : Nat, 4 * v * D ≤ c * upA (sp m e) → 4 * v * K ≤ c * X := fun c hc => by
    have := Nat.mul_le_mul_right K hc
    rw [← cv, ← cv2] at this
    exact Nat.le_of_mul_le_mul_right this hD0
  have toLt1 : ∀ c : Nat, c * upA (sp m e) < 4 * v * D → c * X < 4 * v * K := fun c hc => by
    have := Nat.mul_lt_mul_of_pos_right hc hK0
    rw [← cv, ← cv2] at this
    exact Nat.lt_of_mul_lt_mul_right this
  have toLt2 : ∀ c : Nat, 4 * v * D < c * upA (sp m e) → 4 * v * K < c * X := fun c hc => by
    have := Nat.mul_lt_mul_of_pos_right hc hK0
    rw [← cv, ← cv2] at this
    exact Nat.lt_of_mul_lt_mul_right this
  exact ⟨toLe1 _ i1, toLe2 _ i2, fun ho => ⟨toLt1 _ (i3 ho).1, toLt2 _ (i3 ho).2⟩⟩
end Go.Proofs.YtghajgdiaopioaaGreatDoor.Fl
end
