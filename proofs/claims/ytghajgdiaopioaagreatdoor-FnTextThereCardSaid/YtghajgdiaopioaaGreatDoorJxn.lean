/- Walks and plain laws joined (Hc, Hd). Conditions: stand in each law. -/
import Derived.Test.YtghajgdiaopioaaGreatDoorJxm
import Derived.Test.YtghajgdiaopioaaGreatDoorJxk
import Derived.Laws.FloatArith
import Derived.Laws.Cover2
set_option linter.unusedVariables false
set_option linter.unusedSimpArgs false
section
/- Walks: atof64exact. Conditions: stand in each contract. -/
namespace Go.Proofs.YtghajgdiaopioaaGreatDoor
open Go.RowKit Go.Proofs Tx
open Go.Proofs.YtghajgdiaopioaaGreatDoorW.PrintWords
open Fl (rung InR nM nE tM tE tF)
theorem f10_tF : ∀ k, k ≤ 22 → f10L[k]? = some (tF k) := by
  have h : (List.range 23).all (fun k => f10L[k]? == some (tF k)) = true := by decide +kernel
  intro k hk
  exact beq_iff_eq.1 (List.all_eq_true.1 h k (List.mem_range.2 (by omega)))
theorem fl_nat {a : Nat} (h1 : 1 ≤ a) (h2 : a < 9007199254740992) : floatOfInt .f64 (a : Int) = Ieee.double.word false (rung (nM a) (nE a)) := by
  rw [← Fl.nearest_nat h1 h2]
  show Ieee.double.nearest (decide ((a : Int) < 0)) (a : Int).natAbs 0 = _
  rw [decide_eq_false (by omega), Int.natAbs_natCast]
theorem xor63 {r : Nat} (h : r < 9223372036854775808) : r ^^^ 9223372036854775808 = 9223372036854775808 + r := by
  have h1 := Nat.two_pow_add_eq_or_of_lt (i := 63) (b := r) h 1
  rw [show (2 : Nat) ^ 63 * 1 = 9223372036854775808 by rfl] at h1
  rw [h1]
  apply Nat.eq_of_testBit_eq
  intro i
  rw [Nat.testBit_xor, Nat.testBit_or]
  have h3 : (9223372036854775808 : Nat).testBit i = decide (63 = i) := by
    rw [show (9223372036854775808 : Nat) = 2 ^ 63 by rfl]; exact Nat.testBit_two_pow
  rw [h3]
  by_cases hi : 63 = i
  · subst hi
    have : r.testBit 63 = false := Nat.testBit_lt_two_pow h
    rw [this]; rfl
  · rw [decide_eq_false hi]; cases r.testBit i <;> rfl
theorem neg_word {m : Nat} {e : Int} (hf : Fl.Fin m e) : Op.negFloat .f64 (Ieee.double.word false (rung m e)) = Ieee.double.word true (rung m e) := by
  have h := (Fl.rung_lt hf).1
  rw [Fl.word_is, Fl.word_is]
  simp only [Bool.false_eq_true, if_false, if_true]
  show rung m e ^^^ 9223372036854775808 = _
  exact xor63 (by omega)

/-- What atof64exact answers. -/
def ExPost (m : Nat) (e : Int) (neg : Bool) (w : World) (r : Ending) (w' : World) : Prop :=
  (∃ y b, r = .returned (.tuple #[.float .f64 y, .bool b]) ∧ (b = true → y = Ieee.double.word neg (rung m e))) ∧ w = w'

/-- The mantissa is too great. -/
theorem exact_A (neg : Bool) (m : Nat) (e : Int) (a : Nat) (q : Int) (ha : 4503599627370496 ≤ a) (ha2 : a < 18446744073709551616) (w : World) (h16 : w.cell? ⟨16, 0, none⟩ = some (.int .u64 52)) :
    Calls Tryz.prog 172 #[.int .u64 a, .int .i64 q, .bool neg] w (ExPost m e neg w) := by
  go_enter Tryz.func172, Tryz.ntmps172
  go_wp2
  go_ret2
  exact ⟨⟨_, _, rfl, fun h => by cases h⟩, rfl⟩
/-- The float of the mantissa. -/
theorem exact_word {m : Nat} {e : Int} (hf : Fl.Fin m e) {a : Nat} (h1 : 1 ≤ a) (h2 : a < 9007199254740992) (hin : InR m e a 0) (neg : Bool) : Ieee.double.word neg (rung (nM a) (nE a)) = Ieee.double.word neg (rung m e) := by
  rw [← Fl.nearest_nat h1 h2, Fl.nearest_in hf neg a 0 (by omega) (Fl.inN_zero hin)]
theorem exact_B (neg : Bool) (m : Nat) (e : Int) (hf : Fl.Fin m e) (a : Nat) (h1 : 1 ≤ a) (ha : a < 4503599627370496) (hin : InR m e a 0) (w : World) (h16 : w.cell? ⟨16, 0, none⟩ = some (.int .u64 52)) :
    Calls Tryz.prog 172 #[.int .u64 a, .int .i64 0, .bool neg] w (ExPost m e neg w) := by
  have hw := exact_word hf h1 (by omega) hin neg
  have hf0 := (Fl.fin_nat h1 (by omega)).1
  cases neg
  · refine (exact_pos a w ha h16).mono fun e' w' ⟨he, hw'⟩ => ⟨⟨_, _, he, fun _ => ?_⟩, hw'⟩
    rw [fl_nat h1 (by omega), hw]
  · refine (exact_neg a w ha h16).mono fun e' w' ⟨he, hw'⟩ => ⟨⟨_, _, he, fun _ => ?_⟩, hw'⟩
    rw [fl_nat h1 (by omega), neg_word hf0, hw]
/-- The exponent is too great. -/
theorem exact_E (neg : Bool) (m : Nat) (e : Int) (a : Nat) (q : Int) (ha : a < 4503599627370496) (hq : 37 < q) (w : World) (h16 : w.cell? ⟨16, 0, none⟩ = some (.int .u64 52)) :
    Calls Tryz.prog 172 #[.int .u64 a, .int .i64 q, .bool neg] w (ExPost m e neg w) := by
  cases neg
  all_goals
    go_enter Tryz.func172, Tryz.ntmps172
    go_wp2
    go_ret2
    exact ⟨⟨_, _, rfl, fun h => by cases h⟩, rfl⟩
/-- The exponent is too small. -/
theorem exact_G (neg : Bool) (m : Nat) (e : Int) (a : Nat) (q : Int) (ha : a < 4503599627370496) (hq : q < -22) (w : World) (h16 : w.cell? ⟨16, 0, none⟩ = some (.int .u64 52)) :
    Calls Tryz.prog 172 #[.int .u64 a, .int .i64 q, .bool neg] w (ExPost m e neg w) := by
  cases neg
  all_goals
    go_enter Tryz.func172, Tryz.ntmps172
    go_wp2
    go_ret2
    exact ⟨⟨_, _, rfl, fun h => by cases h⟩, rfl⟩
theorem exact_F (neg : Bool) (m : Nat) (e : Int) (hf : Fl.Fin m e) (a k : Nat) (h1 : 1 ≤ a) (ha : a < 4503599627370496) (hk1 : 1 ≤ k) (hk : k ≤ 22) (hin : InR m e a (-(k : Int))) (w : World) (h16 : w.cell? ⟨16, 0, none⟩ = some (.int .u64 52)) {B0 : Nat} (hT : F10 B0 w) :
    Calls Tryz.prog 172 #[.int .u64 a, .int .i64 (-(k : Int)), .bool neg] w (ExPost m e neg w) := by
  obtain ⟨hf0, hm0, hv0⟩ := Fl.fin_nat h1 (show a < 9007199254740992 by omega)
  have hn := Fl.read_word hf0 neg
  have hdv := Fl.div_word hn hm0 hf0.m1 hk
  have hin' := Fl.div_in hf hk hin (x := nM a) (i := nE a) (by unfold Fl.nE; omega) (by unfold Fl.nE; have := (Nat.log2_lt (by omega : a ≠ 0)).2 (show a < 2 ^ 53 by omega); omega) hv0 hm0
  have hpl : -1400 ≤ nE a - tE k - 55 := by have := (Fl.ten_ok k hk).2.2.2.1; unfold Fl.nE; omega
  rw [Fl.nearest_in hf neg _ _ hpl hin'] at hdv
  have hfl := fl_nat h1 (show a < 9007199254740992 by omega)
  have hng := neg_word hf0
  obtain ⟨ad, c, hb, hc1, hc2, hc3⟩ := hT
  have hcell := hc3 k _ (f10_tF k hk)
  obtain ⟨F, hF⟩ : ∃ F, F = Ieee.double.word neg (rung m e) := ⟨_, rfl⟩
  rw [← hF] at hdv
  obtain ⟨z, hz⟩ : ∃ z, z = tF k := ⟨_, rfl⟩
  rw [← hz] at hdv hcell
  clear hz
  have HF := Lib.hid hF
  obtain ⟨x0, hx0⟩ : ∃ x, x = Ieee.double.word false (rung (nM a) (nE a)) := ⟨_, rfl⟩
  obtain ⟨x1, hx1⟩ : ∃ x, x = Ieee.double.word true (rung (nM a) (nE a)) := ⟨_, rfl⟩
  rw [← hx0] at hfl hng
  rw [← hx1] at hng
  cases neg
  · rw [← hx0] at hdv
    have hr : ∀ w, (binOp .quo 47 (.float .f64 x0) (.float .f64 z)).run Tryz.prog w = .ok (.float .f64 F) w := fun w => run_float_arith w .quo 47 .f64 x0 z F hdv
    clear hx0 hx1 hF hn hin' hin hf hf0 hm0 hv0 hdv
    go_enter Tryz.func172, Tryz.ntmps172
    go_wp2
    go_ret2
    exact ⟨⟨_, _, rfl, fun _ => HF.out⟩, rfl⟩
  · rw [← hx1] at hdv
    have hr : ∀ w, (binOp .quo 47 (.float .f64 x1) (.float .f64 z)).run Tryz.prog w = .ok (.float .f64 F) w := fun w => run_float_arith w .quo 47 .f64 x1 z F hdv
    clear hx0 hx1 hF hn hin' hin hf hf0 hm0 hv0 hdv
    go_enter Tryz.func172, Tryz.ntmps172
    go_wp2
    go_ret2
    exact ⟨⟨_, _, rfl, fun _ => HF.out⟩, rfl⟩

/-- A product with a power of ten, behind the comparisons. -/
theorem exact_C (neg : Bool) (m : Nat) (e : Int) (hf : Fl.Fin m e) (a k : Nat) (h1 : 1 ≤ a) (ha : a < 4503599627370496) (hk1 : 1 ≤ k) (hk : k ≤ 22) (hin : InR m e a (k : Int)) (w : World) (h16 : w.cell? ⟨16, 0, none⟩ = some (.int .u64 52)) {B0 : Nat} (hT : F10 B0 w) :
    Calls Tryz.prog 172 #[.int .u64 a, .int .i64 k, .bool neg] w (ExPost m e neg w) := by
  obtain ⟨hf0, hm0, hv0⟩ := Fl.fin_nat h1 (show a < 9007199254740992 by omega)
  have hn := Fl.read_word hf0 neg
  have hmu := Fl.mul_word hn hk
  have hin' := Fl.mul_in hk hin (x := nM a) (i := nE a) (by unfold Fl.nE; omega) hv0
  have hpl : -1400 ≤ nE a + tE k := by have := (Fl.ten_ok k hk).2.2.2.2; unfold Fl.nE; omega
  rw [Fl.nearest_in hf neg _ _ hpl hin'] at hmu
  have hfl := fl_nat h1 (show a < 9007199254740992 by omega)
  have hng := neg_word hf0
  obtain ⟨ad, c, hb, hc1, hc2, hc3⟩ := hT
  have hcell := hc3 k _ (f10_tF k hk)
  obtain ⟨F, hF⟩ : ∃ F, F = Ieee.double.word neg (rung m e) := ⟨_, rfl⟩
  rw [← hF] at hmu
  obtain ⟨z, hz⟩ : ∃ z, z = tF k := ⟨_, rfl⟩
  rw [← hz] at hmu hcell
  clear hz
  have HF := Lib.hid hF
  obtain ⟨x0, hx0⟩ : ∃ x, x = Ieee.double.word false (rung (nM a) (nE a)) := ⟨_, rfl⟩
  obtain ⟨x1, hx1⟩ : ∃ x, x = Ieee.double.word true (rung (nM a) (nE a)) := ⟨_, rfl⟩
  rw [← hx0] at hfl hng
  rw [← hx1] at hng
  cases neg
  · rw [← hx0] at hmu
    have hr : ∀ w, (binOp .mul 47 (.float .f64 x0) (.float .f64 z)).run Tryz.prog w = .ok (.float .f64 F) w := fun w => run_float_arith w .mul 47 .f64 x0 z F hmu
    clear hx0 hx1 hF hn hin' hin hf hf0 hm0 hv0 hmu
    go_enter Tryz.func172, Tryz.ntmps172
    go_wp2
    all_goals go_ret2
    all_goals exact ⟨⟨_, _, rfl, fun h => by first | exact HF.out | (cases h; done)⟩, rfl⟩
  · rw [← hx1] at hmu
    have hr : ∀ w, (binOp .mul 47 (.float .f64 x1) (.float .f64 z)).run Tryz.prog w = .ok (.float .f64 F) w := fun w => run_float_arith w .mul 47 .f64 x1 z F hmu
    clear hx0 hx1 hF hn hin' hin hf hf0 hm0 hv0 hmu
    go_enter Tryz.func172, Tryz.ntmps172
    go_wp2
    all_goals go_ret2
    all_goals exact ⟨⟨_, _, rfl, fun h => by first | exact HF.out | (cases h; done)⟩, rfl⟩

/-- What the comparisons say. -/
abbrev NotGreat (x : Nat) : Prop := (FloatKind.f64.format.order x 4831355200913801216 == some Ordering.gt) = false ∧ (FloatKind.f64.format.order x 14054727237768577024 == some Ordering.lt) = false
/-- Two products. -/
theorem exact_D (neg : Bool) (m : Nat) (e : Int) (hf : Fl.Fin m e) (a j : Nat) (h1 : 1 ≤ a) (ha : a < 4503599627370496) (hj1 : 1 ≤ j) (hj : j ≤ 15) (hin : InR m e a (22 + (j : Int))) (w : World) (h16 : w.cell? ⟨16, 0, none⟩ = some (.int .u64 52)) {B0 : Nat} (hT : F10 B0 w) :
    Calls Tryz.prog 172 #[.int .u64 a, .int .i64 (22 + (j : Int)), .bool neg] w (ExPost m e neg w) := by
  obtain ⟨hf0, hm0, hv0⟩ := Fl.fin_nat h1 (show a < 9007199254740992 by omega)
  obtain ⟨ht1, ht2, ht3, ht4, ht5⟩ := Fl.ten_ok j (by omega)
  have hn := Fl.read_word hf0 neg
  have hm1 := Fl.mul_word hn (show j ≤ 22 by omega)
  obtain ⟨x2, hx2⟩ : ∃ x, x = Ieee.double.nearest neg (nM a * tM j) (nE a + tE j) := ⟨_, rfl⟩
  rw [← hx2] at hm1
  obtain ⟨P, hP⟩ : ∃ P, P = a * 10 ^ j := ⟨_, rfl⟩
  have hval : nM a * tM j * Fl.U (nE a + tE j) = P * Fl.U 0 := by
    have hU := Fl.U_mul (nE a) (tE j) (by unfold Fl.nE; omega) (by omega) (by unfold Fl.nE; omega)
    have hU0 := Fl.U_pos 0
    obtain ⟨V, hV⟩ : ∃ V, V = Fl.U (nE a + tE j) := ⟨_, rfl⟩
    obtain ⟨Z, hZ⟩ : ∃ Z, Z = Fl.U 0 := ⟨_, rfl⟩
    obtain ⟨I, hI⟩ : ∃ Z, Z = Fl.U (nE a) := ⟨_, rfl⟩
    obtain ⟨J, hJ⟩ : ∃ Z, Z = Fl.U (tE j) := ⟨_, rfl⟩
    rw [← hV, ← hZ, ← hI, ← hJ] at hU
    rw [← hI, ← hZ] at hv0
    rw [← hJ, ← hZ] at ht3
    rw [← hZ] at hU0
    rw [← hV, ← hZ, hP]
    apply Nat.eq_of_mul_eq_mul_right hU0
    calc nM a * tM j * V * Z = nM a * tM j * (V * Z) := by grind
      _ = nM a * tM j * (I * J) := by rw [hU]
      _ = (nM a * I) * (tM j * J) := by grind
      _ = (a * Z) * (10 ^ j * Z) := by rw [hv0, ht3]
      _ = a * 10 ^ j * Z * Z := by grind
  have hP1 : 1 ≤ P := by rw [hP]; exact Nat.mul_pos h1 (Nat.pow_pos (by decide))
  -- x2 is read as a number
  have hread : ∃ m2 i2, Ieee.double.read x2 = .number neg m2 i2 ∧ -1000 ≤ i2 ∧ (P ≤ 1000000000000000 → m2 * Fl.U i2 = P * Fl.U 0 ∧ -52 ≤ i2) ∧ (1000000000000000 < P → ∃ V, m2 * Fl.U i2 = V * Fl.U 0 ∧ 1000000000000000 < V) := by
    by_cases hb : P < 9007199254740992
    · obtain ⟨g1, g2, g3⟩ := Fl.fin_nat hP1 hb
      have hs := Fl.nearest_same g1 neg (nM a * tM j) (nE a + tE j) (by unfold Fl.nE; omega) (by rw [hval, g3])
      rw [← hx2] at hs
      refine ⟨nM P, nE P, by rw [hs]; exact Fl.read_word g1 neg, by unfold Fl.nE; omega, fun _ => ⟨g3, by unfold Fl.nE; omega⟩, fun h => ⟨P, g3, h⟩⟩
    · have hl := (Nat.log2_lt (by omega : a ≠ 0)).2 (show a < 2 ^ 52 by omega)
      have hmb : nM a * tM j < 2 ^ 120 := by
        have := Nat.mul_lt_mul_of_lt_of_lt hf0.m1 ht1.m1
        exact Nat.lt_trans this (by decide)
      obtain ⟨m2, i2, r1, r2, V, r3, r4⟩ := Fl.too_big (neg := neg) (mag := nM a * tM j) (place := nE a + tE j) (P := P) (by unfold Fl.nE; omega) (by unfold Fl.nE; omega) hmb hval (by omega)
      rw [← hx2] at r1
      exact ⟨m2, i2, r1, r2, fun h => by omega, fun _ => ⟨V, r3, r4⟩⟩
  obtain ⟨m2, i2, r1, r2, r3, r4⟩ := hread
  have hm2 := Fl.mul_word r1 (show 22 ≤ 22 by omega)
  obtain ⟨y2, hy2⟩ : ∃ y, y = Ieee.double.nearest neg (m2 * tM 22) (i2 + tE 22) := ⟨_, rfl⟩
  rw [← hy2] at hm2
  have hY : NotGreat x2 → y2 = Ieee.double.word neg (rung m e) := by
    rintro ⟨c1, c2⟩
    have c1 : (Ieee.double.order x2 4831355200913801216 == some Ordering.gt) = false := c1
    have c2 : (Ieee.double.order x2 14054727237768577024 == some Ordering.lt) = false := c2
    by_cases hb : P ≤ 1000000000000000
    · obtain ⟨v1, v2⟩ := r3 hb
      have hin2 : InR m e P ((22 : Nat) : Int) := by
        rw [hP]
        have := (Fl.InR.shift (m := m) (e := e) (a := a) (q := ((22 : Nat) : Int)) (i := j) (by omega)).2
        exact this (by have h5 : (((22 : Nat) : Int)) + (j : Int) = 22 + (j : Int) := by omega
                       rw [h5]; exact hin)
      rw [hy2]
      exact Fl.nearest_in hf neg _ _ (by have := (Fl.ten_ok 22 (by omega)).2.2.2.2; omega) (Fl.mul_in (by omega) hin2 v2 v1)
    · obtain ⟨V, v1, v2⟩ := r4 (by omega)
      obtain ⟨o1, o2⟩ := Fl.too_num r1 r2 v1
      rw [o1, decide_eq_true v2] at c1
      rw [o2, decide_eq_true v2] at c2
      cases neg <;> simp at c1 c2
  have HY := Lib.hid hY
  clear hY
  clear hval hP hP1 hx2 r1 r2 r3 r4 hy2 ht1 ht2 ht3 ht4 ht5
  have hfl := fl_nat h1 (show a < 9007199254740992 by omega)
  have hng := neg_word hf0
  obtain ⟨ad, c, hb, hc1, hc2, hc3⟩ := hT
  have hcell := hc3 j _ (f10_tF j (by omega))
  have hcell2 : w.cell? ⟨ad.block, ad.off + 22, none⟩ = some (.float .f64 (tF 22)) := by
    have := hc3 22 _ (f10_tF 22 (by omega))
    unfold Addr.add at this
    rwa [if_neg (by decide)] at this
  obtain ⟨z1, hz1⟩ : ∃ z, z = tF j := ⟨_, rfl⟩
  obtain ⟨z2, hz2⟩ : ∃ z, z = tF 22 := ⟨_, rfl⟩
  rw [← hz1] at hm1 hcell
  rw [← hz2] at hm2 hcell2
  clear hz1 hz2 hc3 hin hf
  obtain ⟨x0, hx0⟩ : ∃ x, x = Ieee.double.word false (rung (nM a) (nE a)) := ⟨_, rfl⟩
  obtain ⟨x1, hx1⟩ : ∃ x, x = Ieee.double.word true (rung (nM a) (nE a)) := ⟨_, rfl⟩
  rw [← hx0] at hfl hng
  rw [← hx1] at hng
  have hjj : 22 + (j : Int) - 22 = j := by omega
  cases neg
  · rw [← hx0] at hm1
    have hr1 : ∀ w, (binOp .mul 47 (.float .f64 x0) (.float .f64 z1)).run Tryz.prog w = .ok (.float .f64 x2) w := fun w => run_float_arith w .mul 47 .f64 x0 z1 x2 hm1
    have hr2 : ∀ w, (binOp .mul 47 (.float .f64 x2) (.float .f64 z2)).run Tryz.prog w = .ok (.float .f64 y2) w := fun w => run_float_arith w .mul 47 .f64 x2 z2 y2 hm2
    clear hx0 hx1 hn hf0 hm0 hv0 hm1 hm2
    go_enter Tryz.func172, Tryz.ntmps172
    go_wp2
    all_goals go_ret2
    all_goals
      refine ⟨⟨_, _, rfl, fun h => ?_⟩, rfl⟩
      first
      | (exfalso; cases h; done)
      | (refine HY.out ?_
         assumption)
  · rw [← hx1] at hm1
    have hr1 : ∀ w, (binOp .mul 47 (.float .f64 x1) (.float .f64 z1)).run Tryz.prog w = .ok (.float .f64 x2) w := fun w => run_float_arith w .mul 47 .f64 x1 z1 x2 hm1
    have hr2 : ∀ w, (binOp .mul 47 (.float .f64 x2) (.float .f64 z2)).run Tryz.prog w = .ok (.float .f64 y2) w := fun w => run_float_arith w .mul 47 .f64 x2 z2 y2 hm2
    clear hx0 hx1 hn hf0 hm0 hv0 hm1 hm2
    go_enter Tryz.func172, Tryz.ntmps172
    go_wp2
    all_goals go_ret2
    all_goals
      refine ⟨⟨_, _, rfl, fun h => ?_⟩, rfl⟩
      first
      | (exfalso; cases h; done)
      | (refine HY.out ?_
         assumption)

/-- ████ atof64exact answers with the float, or not at all. ████ -/
theorem exact_any (neg : Bool) (m : Nat) (e : Int) (hf : Fl.Fin m e) (a : Nat) (q : Int) (h1 : 1 ≤ a) (ha : a < 144115188075855872) (hin : InR m e a q) (w : World) (h16 : w.cell? ⟨16, 0, none⟩ = some (.int .u64 52)) {B0 : Nat} (hT : F10 B0 w) :
    Calls Tryz.prog 172 #[.int .u64 a, .int .i64 q, .bool neg] w (ExPost m e neg w) := by
  by_cases hA : 4503599627370496 ≤ a
  · exact exact_A neg m e a q hA (by omega) w h16
  have ha' : a < 4503599627370496 := by omega
  rcases (show q < -22 ∨ (-22 ≤ q ∧ q < 0) ∨ q = 0 ∨ (0 < q ∧ q ≤ 22) ∨ (22 < q ∧ q ≤ 37) ∨ 37 < q by omega) with k | k | k | k | k | k
  · exact exact_G neg m e a q ha' k w h16
  · obtain ⟨i, hi⟩ : ∃ i : Nat, q = -(i : Int) := ⟨(-q).toNat, by omega⟩
    subst hi
    exact exact_F neg m e hf a i h1 ha' (by omega) (by omega) hin w h16 hT
  · subst k
    exact exact_B neg m e hf a h1 ha' hin w h16
  · obtain ⟨i, hi⟩ : ∃ i : Nat, q = (i : Int) := ⟨q.toNat, by omega⟩
    subst hi
    exact exact_C neg m e hf a i h1 ha' (by omega) (by omega) hin w h16 hT
  · obtain ⟨i, hi⟩ : ∃ i : Nat, q = 22 + (i : Int) := ⟨(q - 22).toNat, by omega⟩
    subst hi
    exact exact_D neg m e hf a i h1 ha' (by omega) (by omega) hin w h16 hT
  · exact exact_E neg m e a q ha' k w h16
end Go.Proofs.YtghajgdiaopioaaGreatDoor
end
section
/- Walks: ParseFloat on any token of a float's interval. Conditions: stand in each contract. -/
namespace Go.Proofs.YtghajgdiaopioaaGreatDoor
open Go.RowKit Go.Proofs Tx
open Go.Proofs.YtghajgdiaopioaaGreatDoorW.PrintWords
open Fl (rung InR)
/-- What is read of a token: sign, digits, power of ten. -/
structure TokF (T : Bs) (neg : Bool) (a : Nat) (q : Int) : Prop where
  len : T.length ≤ 1000
  sp : ∀ w, Calls Tryz.prog 161 #[S T] w fun e w' => e = .returned (.tuple #[.float .f64 0, .int .i64 0, .bool false]) ∧ w = w'
  rd : ∀ w, Calls Tryz.prog 162 #[S T] w fun e w' => e = .returned (.tuple #[.int .u64 a, .int .i64 q, .bool neg, .bool false, .bool false, .int .i64 T.length, .bool true]) ∧ w = w'

set_option maxRecDepth 20000 in
set_option maxHeartbeats 4000000 in
theorem atofF_any (T : Bs) (neg : Bool) (a : Nat) (q : Int) (h : TokF T neg a q) (m : Nat) (e : Int) (hf : Fl.Fin m e) (h1 : 1 ≤ a) (h2 : a < 144115188075855872) (hq : -345 ≤ q) (hq2 : q ≤ 310) (hin : InR m e a q) (w : World) {B0 : Nat} (hg : Gl B0 w) :
    Calls Tryz.prog 143 #[S T] w fun r w' => r = .returned (.tuple #[.float .f64 (Ieee.double.word neg (rung m e)), .int .i64 T.length, .nilIface]) ∧ Below w.heap.size w w' := by
  have c1 := h.sp w
  have c2 := h.rd w
  have c3 := b2u neg w
  have c4 := exact_any neg m e hf a q h1 h2 hin w hg.fi0 hg.f10
  have c5 := pf64_any neg m e hf a q h1 h2 hq hq2 hin w ⟨by have := hg.big; have := hg.le; omega, hg.tens⟩
  have hm0 : ((a : Int) == 0) = false := by rw [beq_eq_false_iff_ne]; omega
  have h14 := hg.opt
  have hq3 : ¬ (310 < q) := by omega
  have hq4 : ¬ (q < -345) := by omega
  clear h hg hin hf
  obtain ⟨F, hF⟩ : ∃ F, F = Ieee.double.word neg (rung m e) := ⟨_, rfl⟩
  unfold ExPost at c4
  rw [← hF] at c4 c5 ⊢
  clear hF
  have hrefl := Below.refl w.heap.size w
  have HREFL := Lib.hid hrefl
  clear hrefl
  cases neg
  all_goals
    unfold sgn at c5
    simp only [Bool.false_eq_true, if_false, if_true] at c3 c5
    go_enter Tryz.func143, Tryz.ntmps143
    go_wp2_with fail
    refine c1.mono ?_
    rintro e w' ⟨rfl, rfl⟩
    clear c1
    go_wp2_with fail
    refine c2.mono ?_
    rintro e w' ⟨rfl, rfl⟩
    clear c2
    go_wp2_with fail
    refine c3.mono ?_
    rintro e w' ⟨rfl, rfl⟩
    clear c3
    go_wp2_with fail
    refine c4.mono ?_
    rintro e w' ⟨⟨y, b, rfl, hy⟩, rfl⟩
    clear c4
    cases b with
    | true =>
      have := hy rfl
      subst this
      go_wp2
      go_ret3
      exact ⟨rfl, HREFL.out⟩
    | false =>
      clear hy
      go_wp2_with fail
      refine c5.mono ?_
      clear c5
      rintro e w2 ⟨rfl, hb2⟩
      have HB := Lib.hid hb2
      clear hb2
      go_wp2
      go_ret3
      exact ⟨rfl, HB.out⟩
set_option maxRecDepth 20000 in
theorem atofZ_any (T : Bs) (neg : Bool) (h : TokF T neg 0 0) (w : World) {B0 : Nat} (hg : Gl B0 w) :
    Calls Tryz.prog 143 #[S T] w fun r w' => r = .returned (.tuple #[.float .f64 (sgn neg), .int .i64 T.length, .nilIface]) ∧ Below w.heap.size w w' := by
  have c1 := h.sp w
  have c2 := h.rd w
  have c3 := b2u neg w
  have h14 := hg.opt
  clear h hg
  have hrefl := Below.refl w.heap.size w
  have HREFL := Lib.hid hrefl
  clear hrefl
  cases neg
  all_goals
    unfold sgn
    have ho : bits BinOp.or IntKind.u64 9223372036854775808 0 = 9223372036854775808 := by decide
    have hfb : ∀ w, (callFunc 171 #[.int .u64 9223372036854775808]).run Tryz.prog w = .ok (.value (.float .f64 9223372036854775808)) w := fun w => run_frombits 9223372036854775808 w
    simp only [Bool.false_eq_true, if_false, if_true] at c3 ⊢
    go_enter Tryz.func143, Tryz.ntmps143
    go_wp2_with fail
    refine c1.mono ?_
    rintro e w' ⟨rfl, rfl⟩
    clear c1
    go_wp2_with fail
    refine c2.mono ?_
    rintro e w' ⟨rfl, rfl⟩
    clear c2
    go_wp2_with fail
    refine c3.mono ?_
    rintro e w' ⟨rfl, rfl⟩
    clear c3
    go_wp2
    go_ret3
    exact ⟨rfl, HREFL.out⟩

/-- ParseFloat, of what atof64 answers. -/
theorem parseF_of (T : Bs) (x : Nat) (w : World) (h1 : Calls Tryz.prog 143 #[S T] w fun r w' => r = .returned (.tuple #[.float .f64 x, .int .i64 T.length, .nilIface]) ∧ Below w.heap.size w w') (hl : T.length ≤ 1000) :
    Calls Tryz.prog 104 #[S T, .int .i64 64] w fun e w' => e = .returned (.tuple #[.float .f64 x, .nilIface]) ∧ Below w.heap.size w w' := by
  have h2 : Calls Tryz.prog 128 #[S T, .int .i64 64] w fun e w' => e = .returned (.tuple #[.float .f64 x, .int .i64 T.length, .nilIface]) ∧ Below w.heap.size w w' := by
    go_enter Tryz.func128, Tryz.ntmps128
    go_wp2_with fail
    refine h1.mono ?_
    rintro e w' ⟨rfl, hb⟩
    have HB := Lib.hid hb
    clear h1 hb
    go_wp2
    go_ret3
    exact ⟨rfl, HB.out⟩
  have h3 : Calls Tryz.prog 114 #[S T, .int .i64 64] w fun e w' => e = .returned (.tuple #[.float .f64 x, .nilIface]) ∧ Below w.heap.size w w' := by
    clear h1
    go_enter Tryz.func114, Tryz.ntmps114
    go_wp2_with fail
    refine h2.mono ?_
    rintro e w' ⟨rfl, hb⟩
    have HB := Lib.hid hb
    clear h2 hb
    go_wp2
    go_ret2
    exact ⟨rfl, HB.out⟩
  clear h1 h2
  go_enter Tryz.func104, Tryz.ntmps104
  go_wp2_with fail
  refine h3.mono ?_
  rintro e w' ⟨rfl, hb⟩
  have HB := Lib.hid hb
  clear h3 hb
  go_wp2
  go_ret2
  exact ⟨rfl, HB.out⟩
end Go.Proofs.YtghajgdiaopioaaGreatDoor
end
