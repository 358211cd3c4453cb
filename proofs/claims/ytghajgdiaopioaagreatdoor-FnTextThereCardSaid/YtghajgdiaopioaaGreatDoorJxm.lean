/- Walks and plain laws joined (Ha, Hb). Conditions: stand in each law. -/
import Derived.Test.YtghajgdiaopioaaGreatDoorJxj
import Derived.Test.YtghajgdiaopioaaGreatDoorJu
import Derived.Lib.ItoaNum
import Derived.Laws.BitsAllLaws
set_option linter.unusedVariables false
set_option linter.unusedSimpArgs false
section
/- Walks: pack64, parseFloat64. Conditions: stand in each contract. -/
namespace Go.Proofs.YtghajgdiaopioaaGreatDoor
open Go.RowKit Go.Proofs Tx
open Go.Proofs.YtghajgdiaopioaaGreatDoorW.PrintWords
open Fl (rowOk usc px psh pe lp10 rung InR PEnd)
theorem uscN_usc (x hi lo s : Nat) : uscN x hi lo s = usc x hi lo s := rfl
theorem bitLen_log (x : Nat) (h0 : x ≠ 0) (h : x < 2 ^ 64) : Lib.bitLen x = x.log2 + 1 := by
  obtain ⟨h1, h2, h3⟩ := Lib.bitLenAux_bounds 64 x h h0
  have : x.log2 = Lib.bitLenAux 64 x - 1 := (Nat.log2_eq_iff h0).2 ⟨h2, by rw [show Lib.bitLenAux 64 x - 1 + 1 = Lib.bitLenAux 64 x by omega]; exact h3⟩
  unfold Lib.bitLen
  omega
/-- The sign's bit. -/
def sgn (neg : Bool) : Nat := if neg then 9223372036854775808 else 0
theorem sgn_or (neg : Bool) (m : Nat) (h : m < 9223372036854775808) : sgn neg ||| m = sgn neg + m := by
  unfold sgn
  cases neg
  · simp
  · have := Nat.two_pow_add_eq_or_of_lt (i := 63) (b := m) h 1
    simp only [if_true]
    exact this.symm
theorem word_sgn (neg : Bool) (r : Nat) : Ieee.double.word neg r = sgn neg + r := by
  unfold Ieee.Format.word sgn
  cases neg
  · simp
  · rfl
theorem and52 (neg : Bool) (m : Nat) (h : m < 9007199254740992) : (sgn neg + m) &&& 4503599627370496 = if 4503599627370496 ≤ m then 4503599627370496 else 0 := by
  have e : (4503599627370496 : Nat) = 2 ^ 52 := by rfl
  have h2 : (sgn neg + m).testBit 52 = decide (4503599627370496 ≤ m) := by
    rw [Nat.testBit_eq_decide_div_mod_eq, ← e]
    congr 1
    apply propext
    have : sgn neg = 0 ∨ sgn neg = 9223372036854775808 := by unfold sgn; cases neg <;> simp
    rcases this with k | k <;> rw [k] <;> omega
  apply Nat.eq_of_testBit_eq
  intro i
  rw [Nat.testBit_and]
  have h3 : (4503599627370496 : Nat).testBit i = decide (52 = i) := by rw [e]; exact Nat.testBit_two_pow
  rw [h3]
  by_cases hi : 52 = i
  · subst hi
    rw [h2]
    by_cases hm : 4503599627370496 ≤ m
    · rw [if_pos hm, decide_eq_true hm, h3]; rfl
    · rw [if_neg hm, decide_eq_false hm, Nat.zero_testBit]; rfl
  · rw [decide_eq_false hi, Bool.and_false]
    by_cases hm : 4503599627370496 ≤ m
    · rw [if_pos hm, h3, decide_eq_false hi]
    · rw [if_neg hm, Nat.zero_testBit]
theorem andNot52 (neg : Bool) (m : Nat) (h0 : 4503599627370496 ≤ m) (h : m < 9007199254740992) : (sgn neg + m) &&& (18446744073709551615 - 4503599627370496) = sgn neg + (m - 4503599627370496) := by
  obtain ⟨r, hr⟩ : ∃ r, r = m - 4503599627370496 := ⟨_, rfl⟩
  have hr2 : r < 4503599627370496 := by omega
  have e1 : m = 4503599627370496 ||| r := by
    have := Nat.two_pow_add_eq_or_of_lt (i := 52) (b := r) hr2 1
    rw [show (2 : Nat) ^ 52 * 1 = 4503599627370496 by rfl] at this
    omega
  have e2 : r &&& (18446744073709551615 - 4503599627370496) = r := by
    have k1 : r &&& 4503599627370495 = r := by
      have := Nat.and_two_pow_sub_one_eq_mod r 52
      rw [show (2 : Nat) ^ 52 - 1 = 4503599627370495 by rfl] at this
      rw [this]
      exact Nat.mod_eq_of_lt hr2
    have k2 : (4503599627370495 &&& (18446744073709551615 - 4503599627370496) : Nat) = 4503599627370495 := by decide
    rw [← k1, Nat.and_assoc, k2]
  have e3 : sgn neg &&& (18446744073709551615 - 4503599627370496) = sgn neg := by cases neg <;> decide
  have e4 : (4503599627370496 &&& (18446744073709551615 - 4503599627370496) : Nat) = 0 := by decide
  rw [← hr, ← sgn_or neg m (by omega), ← sgn_or neg r (by omega), Nat.and_or_distrib_right, e3]
  congr 1
  rw [e1, Nat.and_or_distrib_right, e4, e2, Nat.zero_or]
theorem or_shift (neg : Bool) (r k : Nat) (hr : r < 4503599627370496) (hk : k < 2048) : (sgn neg + r) ||| (k * 4503599627370496) = sgn neg + (k * 4503599627370496 + r) := by
  have e1 : k * 4503599627370496 + r = k * 4503599627370496 ||| r := by
    have := Nat.two_pow_add_eq_or_of_lt (i := 52) (b := r) hr k
    rw [show (2 : Nat) ^ 52 = 4503599627370496 by rfl, Nat.mul_comm] at this
    exact this
  rw [← sgn_or neg r (by omega), ← sgn_or neg (k * 4503599627370496 + r) (by omega), e1, Nat.or_assoc, Nat.or_comm r]

theorem sgn_lt (neg : Bool) : sgn neg ≤ 9223372036854775808 := by unfold sgn; cases neg <;> simp
set_option maxRecDepth 20000 in
theorem pack_any (neg : Bool) (m : Nat) (e : Int) (hf : Fl.Fin m e) (w : World) :
    Calls Tryz.prog 199 #[.int .u64 (sgn neg + m : Nat), .int .i64 e] w fun r w' => r = .returned (.tuple #[.float .f64 (Ieee.double.word neg (rung m e)), .nilIface]) ∧ w = w' := by
  have hs := sgn_lt neg
  have hm1 := hf.m1
  have he0 := hf.e0
  have he1 := hf.e1
  have hnm := hf.nm
  have ha : bits BinOp.and IntKind.u64 ((sgn neg + m : Nat) : Int) 4503599627370496 = ((if 4503599627370496 ≤ m then 4503599627370496 else 0 : Nat) : Int) := by
    rw [← and52 neg m hm1]
    exact u64_and_nat _ _ (by omega) (by decide)
  rw [word_sgn]
  by_cases hm : 4503599627370496 ≤ m
  · rw [if_pos hm] at ha
    have hb : bits BinOp.andNot IntKind.u64 ((sgn neg + m : Nat) : Int) 4503599627370496 = ((sgn neg + (m - 4503599627370496) : Nat) : Int) := by
      rw [← andNot52 neg m hm hm1]
      exact u64_andNot_nat _ _ (by omega) (by decide)
    obtain ⟨x, hx⟩ : ∃ x : Nat, (x : Int) = 1075 + e := ⟨(1075 + e).toNat, by omega⟩
    have ho : bits BinOp.or IntKind.u64 ((sgn neg + (m - 4503599627370496) : Nat) : Int) ((x * 4503599627370496 : Nat) : Int) = ((sgn neg + rung m e : Nat) : Int) := by
      have hr : rung m e = x * 4503599627370496 + (m - 4503599627370496) := by
        have h5 : (e + 1074).toNat + 1 = x := by omega
        unfold rung
        rw [← h5, Nat.add_mul]
        omega
      rw [u64_or_nat _ _ (by omega) (by omega), or_shift neg _ _ (by omega) (by omega), hr]
    obtain ⟨M, hM⟩ : ∃ M, M = sgn neg + m := ⟨_, rfl⟩
    obtain ⟨M2, hM2⟩ : ∃ M, M = sgn neg + (m - 4503599627370496) := ⟨_, rfl⟩
    obtain ⟨R, hR⟩ : ∃ R, R = sgn neg + rung m e := ⟨_, rfl⟩
    obtain ⟨X, hX⟩ : ∃ X, X = x * 4503599627370496 := ⟨_, rfl⟩
    rw [← hM] at ha hb ⊢
    rw [← hM2] at hb ho
    rw [← hX] at ho
    rw [← hR] at ho ⊢
    have hxs : (1075 + e) * 4503599627370496 = (X : Int) := by omega

    have hXb : X < 18446744073709551616 := by omega
    have he5 : ¬ (972 ≤ e) := by omega
    clear hM hM2 hR hX hnm hs hm hm1 hf
    go_enter Tryz.func199, Tryz.ntmps199
    go_wp2_with fail
    first
    | (go_ret2; exact ⟨rfl, rfl⟩)
    | (go_wp2
       go_ret2
       exact ⟨rfl, rfl⟩)
  · rw [if_neg hm] at ha
    have he : e = -1074 := by
      by_cases h : -1074 < e
      · exact absurd (hnm h) hm
      · omega
    have hr : rung m e = m := by unfold rung; rw [he]; omega
    rw [hr]
    obtain ⟨M, hM⟩ : ∃ M, M = sgn neg + m := ⟨_, rfl⟩
    rw [← hM] at ha ⊢
    clear hM hnm hs hm hm1 hf
    go_enter Tryz.func199, Tryz.ntmps199
    go_wp2
    go_ret2
    exact ⟨rfl, rfl⟩
/-! Walks: parseFloat64. -/
theorem and1 (u : Nat) (h : u < 18446744073709551616) : bits BinOp.and IntKind.u64 (u : Int) 1 = ((u % 2 : Nat) : Int) := by
  rw [show (1 : Int) = ((1 : Nat) : Int) by rfl, u64_and_nat u 1 h (by decide), Nat.and_one_is_mod]
theorem unmin_any (w : World) : Calls Tryz.prog 185 #[.int .u64 9007199254740992] w fun e w' => e = .returned (.int .u64 36028797018963966) ∧ w = w' := by
  go_enter Tryz.func185, Tryz.ntmps185
  go_wp2
  go_ret
  exact ⟨rfl, rfl⟩
theorem b2i_any (b : Bool) (w : World) : Calls Tryz.prog 139 #[.bool b] w fun e w' => e = .returned (.int .i64 (if b then 1 else 0)) ∧ w = w' := by
  go_enter Tryz.func139, Tryz.ntmps139
  cases b
  all_goals
    go_wp2
    go_ret
    exact ⟨rfl, rfl⟩
theorem usc_lt (x hi lo s : Nat) (hx : x < 18446744073709551616) (hhi : hi < 18446744073709551616) (hs : 8 ≤ s) : usc x hi lo s < 144115188075855872 := by
  have h1 : x * hi / 18446744073709551616 < 18446744073709551616 := by
    apply Nat.div_lt_of_lt_mul
    exact Nat.mul_lt_mul_of_lt_of_lt hx hhi
  obtain ⟨h, hh⟩ : ∃ h, h = x * hi / 18446744073709551616 := ⟨_, rfl⟩
  have h2 : 2 ^ 8 ≤ 2 ^ s := Nat.pow_le_pow_right (by decide) hs
  have h3 : ∀ y, y < 18446744073709551616 → y / 2 ^ s < 72057594037927936 := by
    intro y hy
    apply Nat.div_lt_of_lt_mul
    have : 2 ^ 8 * 72057594037927936 ≤ 2 ^ s * 72057594037927936 := Nat.mul_le_mul_right _ h2
    simp only [Nat.reducePow, Nat.reduceMul] at this
    omega
  have hor : ∀ a b : Nat, a < 2 ^ 56 → b < 2 → a ||| b < 2 ^ 56 := fun a b ha hb => Nat.or_lt_two_pow ha (by omega)
  unfold usc
  simp only []
  rw [← hh] at h1 ⊢
  split
  · have := hor _ 1 (h3 h h1) (by decide)
    omega
  · split
    · have := hor ((h - 1) / 2 ^ s) (if 1 < (x * hi % 18446744073709551616 + 18446744073709551616 - x * lo / 18446744073709551616) % 18446744073709551616 then 1 else 0) (h3 (h - 1) (by omega)) (by split <;> decide)
      omega
    · have := hor (h / 2 ^ s) (if 1 < (x * hi % 18446744073709551616 + 18446744073709551616 - x * lo / 18446744073709551616) % 18446744073709551616 then 1 else 0) (h3 h h1) (by split <;> decide)
      omega

set_option maxRecDepth 40000 in
set_option maxHeartbeats 2000000 in
theorem pf64_any (neg : Bool) (m : Nat) (e : Int) (hf : Fl.Fin m e) (a : Nat) (q : Int) (h1 : 1 ≤ a) (h2 : a < 144115188075855872) (hq : -345 ≤ q) (hq2 : q ≤ 310) (hin : InR m e a q) (w : World) (hp : P10 w) :
    Calls Tryz.prog 173 #[.int .u64 a, .int .i64 q, .int .u64 (sgn neg)] w fun r w' => r = .returned (.tuple #[.float .f64 (Ieee.double.word neg (rung m e)), .nilIface]) ∧ Below w.heap.size w w' := by
  obtain ⟨x, hx, hrow⟩ := Fl.row_at q (by omega) (by omega)
  obtain ⟨s8, s64, hend⟩ := Fl.parse_in hf h1 h2 hq hq2 hin hrow
  obtain ⟨c0, c1⟩ := hp.at_ _ _ hx
  obtain ⟨l1, l2⟩ := Fl.lp_lim hq hq2
  obtain ⟨t1, t2, t3⟩ := Fl.px_top h1 (by omega)
  obtain ⟨hi, lo⟩ := x
  obtain ⟨r1, r2, r3, -, -⟩ := hrow
  have hb0 := below_alloc1 w (.cells #[.int .u64 0, .int .u64 0, .int .i64 0] 246 (0, 0))
  have hW := blk_new w (.cells #[.int .u64 0, .int .u64 0, .int .i64 0] 246 (0, 0))
  have d0 := cell_below c0 hb0 hp.le
  have d1 := cell_below c1 hb0 hp.le
  have hlog : a.log2 < 57 := (Nat.log2_lt (by omega)).2 h2
  have hlen := Tryz.bits_Len64 (a : Int) w (by omega) (by omega)
  rw [Int.toNat_natCast, bitLen_log a (by omega) (by omega)] at hlen
  have hl2 := l2_any q w (by omega) (by omega)
  obtain ⟨lp, hlp⟩ : ∃ lp, lp = lp10 q := ⟨_, rfl⟩
  have hlp' : q * 108853 / 32768 = lp := by rw [hlp]; rfl
  rw [hlp'] at hl2
  obtain ⟨b, hb⟩ : ∃ b, b = a.log2 + 1 := ⟨_, rfl⟩
  rw [← hb] at hlen
  obtain ⟨E, hE⟩ : ∃ E, E = pe a q := ⟨_, rfl⟩
  obtain ⟨sh, hsh⟩ : ∃ sh : Nat, sh = (psh a q).toNat := ⟨_, rfl⟩
  have hsh' : (sh : Int) = psh a q := by omega
  rw [← hE, ← hsh] at hend
  have hEb : E = min 1074 (53 - (b : Int) - lp) := by rw [hE, hb, hlp]; rfl
  have hshE : (sh : Int) = -(E - (64 - b) + lp + 3) := by rw [hsh', hE, hb, hlp]; unfold psh; omega
  rw [← hlp] at l1 l2
  have hpre := pre_any w.heap.size (E - (64 - b)) q lp (w.alloc (.cells #[.int .u64 0, .int .u64 0, .int .i64 0] 246 (0, 0))) _ _ _ hi lo hp.le (by omega) (by omega) (by omega) hW (q + 348).toNat (by omega) d0 d1
  rw [← hshE] at hpre
  have hpx : px a = a * 2 ^ (64 - b) := by rw [hb]; unfold px; congr 2; omega
  obtain ⟨X, hX⟩ : ∃ X, X = px a := ⟨_, rfl⟩
  rw [← hX] at hend t1 t2 hpx
  obtain ⟨u, hu⟩ : ∃ u, u = usc X hi lo sh := ⟨_, rfl⟩
  have hub : u < 144115188075855872 := by rw [hu]; exact usc_lt X hi lo sh t2 r3 (by omega)
  rw [← hu] at hend
  have hb57 : b ≤ 57 := by omega
  have hb1 : 1 ≤ b := by omega
  have hE1 : E ≤ 1074 := by omega
  have hE2 : -1100 ≤ E := by omega
  have hmin : min 1074 (53 - (b : Int) - lp) = E := hEb.symm
  have hsh8 : 8 ≤ sh := by omega
  have hsh64 : sh < 64 := by omega
  have hsh64' : ¬ (64 : Int) ≤ sh := by omega
  have hxw : IntKind.u64.wrap ((a : Int) * 2 ^ (64 - b)) = (X : Int) := by
    have k : (a : Int) * 2 ^ (64 - b) = (X : Int) := by rw [hpx]; push_cast; rfl
    rw [k, IntKind.wrap_u64]
    omega
  obtain ⟨F, hF⟩ : ∃ F, F = Ieee.double.word neg (rung m e) := ⟨_, rfl⟩
  rw [← hF]
  have HF := Lib.hid hF
  clear hF
  have HEND := Lib.hid hend
  have HU := Lib.hid hu
  have HX := Lib.hid hpx
  have HROW := Lib.hid (And.intro r1 (And.intro r2 r3))
  have HSZ := Lib.hid hp.le
  clear hend hX hu r1 r2 r3 hx hp c0 c1 hin hsh hsh' hshE hlp hlp' hb hE hEb hpx
  go_enter Tryz.func173, Tryz.ntmps173
  go_wp2_with fail
  refine hlen.mono ?_
  rintro e' w' ⟨rfl, hw⟩
  subst hw
  clear hlen
  go_wp2_with fail
  refine hl2.mono ?_
  rintro e' w' ⟨rfl, rfl⟩
  clear hl2
  go_wp2_with fail
  refine hpre.mono ?_
  clear hpre
  rintro e' w1 ⟨rfl, hk1, hB1⟩
  have hsz : w'.heap.size < w1.heap.size := blk_lt hk1
  obtain ⟨m0, m1, m2, n0, n1, n2⟩ := three_facts hk1
  have hB1' := hb0.trans hB1
  have hus := usc_any X hi lo sh w'.heap.size w1 t2 HROW.out.2.2 HROW.out.1 hsh64 (Fl.top_ge (by omega) HROW.out.2.1) hk1
  rw [uscN_usc, ← HU.out] at hus
  go_wp2_with fail
  refine hus.mono ?_
  clear hus
  rintro e' w2 ⟨rfl, hB2⟩
  have HB2 := Lib.hid (below_then hB1' (Nat.le_of_lt hsz) hB2)
  clear hB1' hB2 hB1 hk1 m0 m1 m2 n0 n1 n2 hW hb0 d0 d1 hxw
  rcases HEND.out with ⟨k1, k2, k3⟩ | ⟨k1, k5, k2, k3⟩
  · subst k3
    have g1 : ¬ ((36028797018963966 : Int) ≤ u) := by omega
    have g1' : decide ((36028797018963966 : Int) ≤ u) = false := by simp; omega
    have hor : bits BinOp.or IntKind.u64 (u : Int) (bits BinOp.and IntKind.u64 (u : Int) 1) = ((u : Nat) : Int) := by
      rw [and1 u (by omega), u64_or_nat _ _ (by omega) (by omega)]
      congr 1
      rw [Fl.or_bit _ _ (by omega)]
      split <;> omega
    have hrd := round_any u w2 (by omega)
    rw [k2] at hrd
    have hpk := pack_any neg m _ hf w2
    have hbs := b2i_any false w2
    have hsg : bits BinOp.or IntKind.u64 (sgn neg : Int) (m : Int) = ((sgn neg + m : Nat) : Int) := by
      rw [u64_or_nat _ _ (by have := sgn_lt neg; omega) (by have := hf.m1; omega), sgn_or neg m (by have := hf.m1; omega)]
    obtain ⟨z, hz⟩ : ∃ z, z = sgn neg + m := ⟨_, rfl⟩
    rw [← hz] at hpk hsg
    clear hz
    rw [← HF.out] at hpk
    have he0 := hf.e0
    have he1 := hf.e1
    clear hf
    go_wp2_with fail
    refine (unmin_any w2).mono ?_
    rintro e' w3 ⟨rfl, rfl⟩
    go_wp2_with fail
    refine hbs.mono ?_
    clear hbs
    rintro e' w3 ⟨rfl, rfl⟩
    go_wp2_with fail
    refine hrd.mono ?_
    clear hrd
    rintro e' w3 ⟨rfl, rfl⟩
    go_wp2_with fail
    refine hpk.mono ?_
    clear hpk
    rintro e' w3 ⟨rfl, rfl⟩
    go_wp2
    go_ret2
    exact ⟨rfl, HB2.out⟩
  · subst k3
    have g1 : ((36028797018963966 : Int) ≤ u) := by omega
    have g1' : decide ((36028797018963966 : Int) ≤ u) = true := by simp; omega
    obtain ⟨u2, hu2⟩ : ∃ u2, u2 = u / 2 ||| u % 2 := ⟨_, rfl⟩
    have hu2b : u2 < 9223372036854775808 := by
      rw [hu2]
      exact Nat.or_lt_two_pow (n := 63) (by omega) (by omega)
    have hor : bits BinOp.or IntKind.u64 ((u : Int) / 2) (bits BinOp.and IntKind.u64 (u : Int) 1) = ((u2 : Nat) : Int) := by
      rw [and1 u (by omega), show ((u : Int) / 2) = ((u / 2 : Nat) : Int) by omega, u64_or_nat _ _ (by omega) (by omega), hu2]
    have hrd := round_any u2 w2 hu2b
    rw [← hu2] at k2
    rw [k2] at hrd
    have hpk := pack_any neg m _ hf w2
    have hbs := b2i_any true w2
    have hsg : bits BinOp.or IntKind.u64 (sgn neg : Int) (m : Int) = ((sgn neg + m : Nat) : Int) := by
      rw [u64_or_nat _ _ (by have := sgn_lt neg; omega) (by have := hf.m1; omega), sgn_or neg m (by have := hf.m1; omega)]
    clear hu2 hu2b
    obtain ⟨z, hz⟩ : ∃ z, z = sgn neg + m := ⟨_, rfl⟩
    rw [← hz] at hpk hsg
    clear hz
    rw [← HF.out] at hpk
    have he0 := hf.e0
    have he1 := hf.e1
    clear hf
    go_wp2_with fail
    refine (unmin_any w2).mono ?_
    rintro e' w3 ⟨rfl, rfl⟩
    go_wp2_with fail
    refine hbs.mono ?_
    clear hbs
    rintro e' w3 ⟨rfl, rfl⟩
    go_wp2_with fail
    refine hrd.mono ?_
    clear hrd
    rintro e' w3 ⟨rfl, rfl⟩
    go_wp2_with fail
    refine hpk.mono ?_
    clear hpk
    rintro e' w3 ⟨rfl, rfl⟩
    go_wp2
    go_ret2
    exact ⟨rfl, HB2.out⟩
end Go.Proofs.YtghajgdiaopioaaGreatDoor
end
