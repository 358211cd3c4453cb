/- Walks and plain laws joined (Hp, Hq, Hr, Hs). Conditions: stand in each law. -/
import Derived.Test.YtghajgdiaopioaaGreatDoorJxv
import Derived.Test.YtghajgdiaopioaaGreatDoorJv
import Derived.Test.YtghajgdiaopioaaGreatDoorJxp
import Derived.Test.YtghajgdiaopioaaGreatDoorJxl
import Derived.Test.YtghajgdiaopioaaGreatDoorJxj
import Derived.Test.YtghajgdiaopioaaGreatDoorJy
import Derived.Test.YtghajgdiaopioaaGreatDoorJxk
import Derived.Test.YtghajgdiaopioaaGreatDoorJxg
set_option linter.unusedVariables false
set_option linter.unusedSimpArgs false
section
/- Walks: the two noughts written and read; FormatFloat and number on any float whose ftoa64 is known. -/
namespace Go.Proofs.YtghajgdiaopioaaGreatDoor
open Go.RowKit Go.Proofs Tx
open Go.Proofs.YtghajgdiaopioaaGreatDoorW.PrintWords
set_option maxRecDepth 40000 in
set_option maxHeartbeats 8000000 in
theorem efg_zeroN (w : World) (B : Nat) (A : Option Addr) (k c : Nat) (xs : Bs) (g : Nat) (hR : byteK.R 5 w B (fun q => q ≠ g) (.slice A k c) xs) (hD : DigAt g [] w) (hB : B ≤ w.heap.size) (hx : xs.length ≤ 1000) :
    Calls Tryz.prog 151 #[.slice A k c, .bool true, .slice none 0 0, .int .i64 0, .int .i64 0, .int .i64 (-1), .int .u8 103, .bool true] w fun e w' =>
      ∃ v, e = .returned v ∧ byteK.R 5 w' B (fun q => q ≠ g) v (xs ++ [45, 48]) ∧ Below B w w' := by
  have HR := Lib.hid hR
  have HD := Lib.hid hD
  clear hR hD
  go_enter Tryz.func151, Tryz.ntmps151
  go_wp2_with (at_builtin; go_loud (refine byte_append (w0 := w) g B rfl (.tmp 179) (.tmp 180) rfl Tryz.underlying92 info5 A k c xs 45 (by simp [Act.eval]) (by simp [Act.eval]) HR.out [] HD.out (Below.refl _ _) hB (by omega) ?_))
  intro A0 k0 c0 w0 hR0 hD0 hb0 hs0
  have HR0 := Lib.hid (show byteK.R 5 w0 B (fun q => q ≠ g) (.slice A0 k0 c0) (xs ++ [45]) by simpa using hR0)
  have HD0 := Lib.hid hD0
  have HB0 := Lib.hid hb0
  clear hR0 hD0 hb0
  go_wp2_with (at_builtin; go_loud (refine byte_append (w0 := w) g B rfl (.tmp 209) (.tmp 210) rfl Tryz.underlying92 info5 A0 k0 c0 (xs ++ [45]) 48 (by simp [Act.eval]) (by simp [Act.eval]) HR0.out [] HD0.out HB0.out (by omega) (by simp only [List.length_append, List.length_singleton]; omega) ?_))
  intro A1 k1 c1 w1 hR1 hD1 hb1 hs1
  have HR1 := Lib.hid (show byteK.R 5 w1 B (fun q => q ≠ g) (.slice A1 k1 c1) (xs ++ [45, 48]) by simpa using hR1)
  have HB1 := Lib.hid hb1
  clear hR1 hD1 hb1
  go_wp2
  go_ret
  exact ⟨_, rfl, HR1.out, HB1.out⟩
set_option maxRecDepth 100000 in
set_option maxHeartbeats 4000000 in
theorem ftoa_zeroN (w : World) (B : Nat) (A : Option Addr) (k c : Nat) (hR : byteK.R 5 w B (fun _ => True) (.slice A k c) []) (hB : B ≤ w.heap.size) (hB22 : 22 < B) :
    Calls Tryz.prog 136 #[.slice A k c, .float .f64 9223372036854775808, .int .u8 103, .int .i64 (-1)] w fun e w' =>
      ∃ v, e = .returned v ∧ byteK.R 5 w' B (fun _ => True) v [45, 48] ∧ Below B w w' := by
  have HR := Lib.hid hR
  clear hR
  have hand : bits BinOp.and IntKind.i64 2048 2047 = 0 := by decide
  have hand2 : bits BinOp.and IntKind.u64 9223372036854775808 4503599627370495 = 0 := by decide
  go_enter Tryz.func136, Tryz.ntmps136
  go_wp2_with fail
  go_quiet (fail)
  go_wp2_with fail
  have hef := efg_zeroN (w.drewN nq) B A k c [] 22 (Kd.R_below (Kd.R_mono (R_own_ge HR.out) (fun q hq => by omega)) (below_drewN w nq)) ⟨by show 22 < w.heap.size; omega, fun j hj => absurd hj (by simp)⟩ hB (by simp)
  refine hef.mono ?_
  rintro e w4 ⟨v, rfl, hRv, hb4⟩
  have HFIN := Lib.hid (((below_drewN w nq).mono hB).trans hb4)
  have HRV := Lib.hid hRv
  clear hb4 hRv hef
  go_wp2_with fail
  go_ret
  exact ⟨v, rfl, Kd.R_mono HRV.out (fun _ _ => trivial), HFIN.out⟩

/-- ftoa64 of x is T. -/
def FtoaF (x : Nat) (T : Bs) : Prop := ∀ (w : World) (B : Nat) (A : Option Addr) (k c : Nat), byteK.R 5 w B (fun _ => True) (.slice A k c) [] → B ≤ w.heap.size → P10 w → 22 < B →
    Lib.TabIs Tryz.prog w "internal/strconv.uint64pow10" .u64 Lib.pow10Tab →
    Calls Tryz.prog 136 #[.slice A k c, .float .f64 x, .int .u8 103, .int .i64 (-1)] w fun e w' =>
      ∃ v, e = .returned v ∧ byteK.R 5 w' B (fun _ => True) v T ∧ Below B w w'
theorem ftoaF_zero : FtoaF 0 [48] := fun w B A k c hR hB _ h22 _ => ftoa_zero w B A k c hR hB h22
theorem ftoaF_zeroN : FtoaF 9223372036854775808 [45, 48] := fun w B A k c hR hB _ h22 _ => ftoa_zeroN w B A k c hR hB h22
theorem ftoaF_fin {m : Nat} {e : Int} (h : Fl.Fin m e) (neg : Bool) {d r : Nat} (hsig : sig (sU m e).1 d r) :
    FtoaF (sgn neg + Fl.rung m e) (numT neg (Lib.decDigits d) ((Lib.nDigits (sU m e).1 : Nat) + (sU m e).2)) := by
  intro w B A k c hR hB hp h22 htab
  have hR' : byteK.R 5 w B (fun q => q ≠ w.heap.size) (.slice A k c) [] := Kd.R_mono (Kd.R_bound hR) (fun q hq => Nat.ne_of_lt hq.2.2.1)
  by_cases h52 : m < 4503599627370496
  · have he : e = -1074 := by
      apply Classical.byContradiction
      intro hh
      have h0 := h.e0
      have := h.nm (by omega)
      omega
    exact (ftoa_sub h h52 he neg hsig w B A k c hR' hB hp h22 htab).mono fun e w' ⟨v, a, b, d⟩ => ⟨v, a, Kd.R_mono b (fun _ _ => trivial), d⟩
  · exact (ftoa_nrm h (by omega) neg hsig w B A k c hR' hB hp h22 htab).mono fun e w' ⟨v, a, b, d⟩ => ⟨v, a, Kd.R_mono b (fun _ _ => trivial), d⟩

set_option maxRecDepth 20000 in
set_option maxHeartbeats 1000000 in
theorem fmtF (x : Nat) (T : Bs) (hF : FtoaF x T) (w : World) (hT : Tb w) (hB : 22 < w.heap.size) :
    Calls Tryz.prog 123 #[.float .f64 x, .int .u8 103, .int .i64 (-1), .int .i64 64] w fun e w' => e = .returned (S T) ∧ Below w.heap.size w w' := by
  have HX := Lib.hid hF
  clear hF
  go_enter Tryz.func123, Tryz.ntmps123
  go_wp2_with (at_make; go_loud (refine make0 byteK _ rfl _ _ 92 rfl 5 _ _ Tryz.underlying92 info5 _ 24 rfl rfl (by rfl) (by omega) (by omega) ?_))
  intro w1 hs1 hb1 hR1
  have hcall := HX.out w1 w.heap.size (some ⟨w.heap.size, 0, none⟩) 0 24 (hR1 _ _ (Nat.le_refl _) trivial) (by omega) (hT.below hb1 hB).p10 (by omega) (hT.below hb1 hB).tab
  have HB1 := Lib.hid hb1
  clear hb1 hR1
  go_wp2_with fail
  refine hcall.mono ?_
  rintro e w2 ⟨v, rfl, hRv, hb2⟩
  obtain ⟨A2, n2, c2, rfl⟩ := R_sl hRv
  have hconv := str_of_row hRv
  have HB2 := Lib.hid (HB1.out.trans hb2)
  clear hcall hRv hb2
  go_wp2
  go_ret
  exact ⟨rfl, HB2.out⟩
theorem call110F (x : Nat) (T : Bs) (hF : FtoaF x T) (w : World) (hT : Tb w) (hB : 22 < w.heap.size) :
    Calls Tryz.prog 110 #[.float .f64 x, .int .u8 103, .int .i64 (-1), .int .i64 64] w fun e w' => e = .returned (S T) ∧ Below w.heap.size w w' := by
  have hcall := fmtF x T hF w hT hB
  clear hF
  go_enter Tryz.func110, Tryz.ntmps110
  go_wp2_with fail
  refine hcall.mono ?_
  rintro e w2 ⟨rfl, hb2⟩
  have HB2 := Lib.hid hb2
  clear hcall hb2
  go_wp2
  go_ret
  exact ⟨rfl, HB2.out⟩
theorem numberF (x : Nat) (T : Bs) (hF : FtoaF x T) (w : World) (hT : Tb w) (hB : 22 < w.heap.size) :
    Calls Tryz.prog 96 #[.float .f64 x] w fun e w' => e = .returned (S T) ∧ Below w.heap.size w w' := by
  have hcall := call110F x T hF w hT hB
  clear hF
  go_enter Tryz.func96, Tryz.ntmps96
  go_wp2_with fail
  refine hcall.mono ?_
  rintro e w2 ⟨rfl, hb2⟩
  have HB2 := Lib.hid hb2
  clear hcall hb2
  go_wp2
  go_ret
  exact ⟨rfl, HB2.out⟩
end Go.Proofs.YtghajgdiaopioaaGreatDoor
end
section
/- The texts of the finite floats: written, read, told apart. Conditions: stand in each law. -/
namespace Go.Proofs.YtghajgdiaopioaaGreatDoor
open Go.RowKit Go.Proofs Tx
open Go.Proofs.YtghajgdiaopioaaGreatDoorW.PrintWords
set_option maxRecDepth 20000 in
set_option maxHeartbeats 4000000 in
theorem readF_zeroN (w : World) :
    Calls Tryz.prog 162 #[S [45, 48]] w fun e w' => e = .returned (.tuple #[.int .u64 0, .int .i64 0, .bool true, .bool false, .bool false, .int .i64 2, .bool true]) ∧ w = w' := by
  go_enter Tryz.func162, Tryz.ntmps162
  go_wp2
  go_step3
  go_wp2
  try go_step3
  go_wp2
  go_loop [2, 5, 7, 9, 13, 14, 15, 16, 17] (fun v2 v5 v7 v9 v13 v14 v15 v16 v17 => ∃ k : Nat, k ≤ 1 ∧ v17 = .int .i64 (-(k : Int)) ∧ v2 = .int .u64 0 ∧ v5 = .bool false ∧ v7 = .int .i64 ((k + 1 : Nat) : Int) ∧ v9 = .bool false ∧ v13 = .bool false ∧ v14 = .bool (decide (0 < k)) ∧ v15 = .int .i64 0 ∧ v16 = .int .i64 0) (fun v2 v5 v7 v9 v13 v14 v15 v16 v17 => 2 - (intOf v7).toNat)
  case atStart => exact ⟨0, Nat.zero_le _, rfl, rfl, rfl, rfl, rfl, rfl, rfl, rfl, rfl⟩
  case round =>
    obtain ⟨k, hk, rfl, rfl, rfl, rfl, rfl, rfl, rfl, rfl, rfl⟩ := hrel
    rcases (by omega : k = 0 ∨ k = 1) with rfl | rfl
    · go_wp2
      exact ⟨⟨1, Nat.le_refl _, rfl, rfl, rfl, rfl, rfl, rfl, rfl, rfl, rfl⟩, by simp [intOf]⟩
    · go_wp2
      ((try simp only [Exit.inBlock, Exit.then]); refine bodyPost_ret (results_tmp7 rfl _ _ _) rfl ?_)
      exact ⟨rfl, rfl⟩

theorem tokF_zero : TokF [48] false 0 0 where
  len := by decide
  sp := fun w => special_dig 48 [] w (by decide) (by decide)
  rd := fun w => readF_zero w
theorem tokF_zeroN : TokF [45, 48] true 0 0 where
  len := by decide
  sp := fun w => special_neg 48 [] w (by decide) (by decide)
  rd := fun w => readF_zeroN w

open Fl (Fin rung InR)
/-- T is the text of x. -/
inductive Txt : Nat → Bs → Prop
  | zero : Txt 0 [48]
  | zeroN : Txt 9223372036854775808 [45, 48]
  | fin {m : Nat} {e : Int} (neg : Bool) {d r : Nat} (h : Fin m e) (hs : sig (sU m e).1 d r) : Txt (sgn neg + rung m e) (numT neg (Lib.decDigits d) ((Lib.nDigits (sU m e).1 : Nat) + (sU m e).2))

structure FinT (m : Nat) (e : Int) (ds : Bs) (dp : Int) : Prop where
  dd : Ds ds
  lo : -330 ≤ dp
  hi : dp ≤ 330
  m1 : 1 ≤ rdM ds dp
  m2 : rdM ds dp < 144115188075855872
  q1 : -345 ≤ rdQ ds dp
  q2 : rdQ ds dp ≤ 310
  inr : InR m e (rdM ds dp) (rdQ ds dp)
theorem finT {m : Nat} {e : Int} {d r : Nat} (h : Fin m e) (hs : sig (sU m e).1 d r) : FinT m e (Lib.decDigits d) ((Lib.nDigits (sU m e).1 : Nat) + (sU m e).2) := by
  obtain ⟨i0, u1, u2, u3, u4⟩ := sU_in h
  obtain ⟨u, hu⟩ : ∃ u, u = (sU m e).1 := ⟨_, rfl⟩
  obtain ⟨p, hp⟩ : ∃ p, p = (sU m e).2 := ⟨_, rfl⟩
  rw [← hu] at u1 u2 hs i0 ⊢
  rw [← hp] at u3 u4 i0 ⊢
  clear hu hp
  obtain ⟨hs1, hs2, hs3⟩ := hs
  have hnd : Lib.nDigits u = Lib.nDigits d + r := by rw [hs1, nDig_pow d hs3]
  have hnl : Lib.nDigits u ≤ 17 := by
    have := (dec_all u).2.2.2.2 16 u2
    rwa [Lib.decDigits_length] at this
  have hnp := Lib.nDigits_pos d
  have hlen : (Lib.decDigits d).length = Lib.nDigits d := Lib.decDigits_length d
  have hdv : dv (Lib.decDigits d) = d := (dec_all d).2.1
  have hdu : d ≤ u := by rw [hs1]; exact Nat.le_mul_of_pos_right _ (Nat.pow_pos (by decide))
  have hDs := dec_Ds hs3 (by omega)
  rw [hs1, Fl.InR.shift (by omega)] at i0
  have hmp := rdM_pos hDs ((Lib.nDigits u : Nat) + p)
  have hkey : rdM (Lib.decDigits d) ((Lib.nDigits u : Nat) + p) < 144115188075855872 ∧ -345 ≤ rdQ (Lib.decDigits d) ((Lib.nDigits u : Nat) + p) ∧ rdQ (Lib.decDigits d) ((Lib.nDigits u : Nat) + p) ≤ 310
      ∧ InR m e (rdM (Lib.decDigits d) ((Lib.nDigits u : Nat) + p)) (rdQ (Lib.decDigits d) ((Lib.nDigits u : Nat) + p)) := by
    unfold rdM rdQ
    rw [hdv, hlen]
    by_cases k : isE ((Lib.nDigits u : Nat) + p) = false ∧ (Lib.nDigits d : Int) ≤ (Lib.nDigits u : Nat) + p
    · rw [if_pos k, if_pos k]
      obtain ⟨k1, k2⟩ := k
      unfold isE at k1
      simp only [Bool.or_eq_false_iff, decide_eq_false_iff_not] at k1
      obtain ⟨i, hi⟩ : ∃ i : Nat, (i : Int) = (Lib.nDigits u : Nat) + p - (Lib.nDigits d : Nat) := ⟨((Lib.nDigits u : Nat) + p - (Lib.nDigits d : Nat) : Int).toNat, by omega⟩
      rw [← hi, Int.toNat_natCast]
      have h3 : d < 10 ^ Lib.nDigits d := Lib.lt_pow_nDigits d
      have h4 : 10 ^ Lib.nDigits d * 10 ^ i ≤ 10 ^ 6 := by rw [← Nat.pow_add]; exact Nat.pow_le_pow_right (by decide) (by omega)
      have h5 : d * 10 ^ i ≤ 10 ^ Lib.nDigits d * 10 ^ i := Nat.mul_le_mul_right _ (by omega)
      refine ⟨by omega, by omega, by omega, ?_⟩
      rw [Fl.InR.shift (by omega)]
      rwa [show (0 : Int) + (i : Int) = p + r by omega]
    · rw [if_neg k, if_neg k]
      refine ⟨by omega, by omega, by omega, ?_⟩
      rwa [show (Lib.nDigits u : Int) + p - (Lib.nDigits d : Int) = p + r by omega]
  exact ⟨hDs, by omega, by omega, hmp, hkey.1, hkey.2.1, hkey.2.2.1, hkey.2.2.2⟩

theorem Txt.ftoa {x : Nat} {T : Bs} (h : Txt x T) : FtoaF x T := by
  cases h with
  | zero => exact ftoaF_zero
  | zeroN => exact ftoaF_zeroN
  | fin neg h hs => exact ftoaF_fin h neg hs
theorem Txt.short {x : Nat} {T : Bs} (h : Txt x T) : T.length ≤ 30 ∧ T ≠ [] := by
  cases h with
  | zero => decide
  | zeroN => decide
  | fin neg h hs => have k := finT h hs; exact numT_short k.dd k.lo k.hi neg
theorem Txt.sg {x : Nat} {T : Bs} (h : Txt x T) : ∀ c ∈ T, Dp c ∨ c = 101 ∨ c = 45 ∨ c = 43 := by
  cases h with
  | zero => intro c hc; rw [List.mem_singleton.1 hc]; exact .inl (.inr (by decide))
  | zeroN =>
    intro c hc
    simp only [List.mem_cons, List.not_mem_nil, or_false] at hc
    rcases hc with rfl | rfl
    · exact .inr (.inr (.inl rfl))
    · exact .inl (.inr (by decide))
  | fin neg h hs => have k := finT h hs; exact numT_sg k.dd k.lo k.hi neg
theorem Txt.tok {x : Nat} {T : Bs} (h : Txt x T) : ∀ c ∈ T, Tx.Tok c := fun c hc => tok_of (h.sg c hc)
theorem Txt.asc {x : Nat} {T : Bs} (h : Txt x T) : Asc T := by
  intro c hc
  rcases h.sg c hc with (rfl | h) | rfl | rfl | rfl
  · decide
  · omega
  · decide
  · decide
  · decide
theorem Txt.parse {x : Nat} {T : Bs} (h : Txt x T) (w : World) {B0 : Nat} (hg : Gl B0 w) :
    Calls Tryz.prog 104 #[S T, .int .i64 64] w fun e w' => e = .returned (.tuple #[.float .f64 x, .nilIface]) ∧ Below w.heap.size w w' := by
  have hl := h.short.1
  refine parseF_of T x w ?_ (by omega)
  cases h with
  | zero => exact atofZ_any _ false tokF_zero w hg
  | zeroN => exact atofZ_any _ true tokF_zeroN w hg
  | fin neg h hs =>
    have k := finT h hs
    have := atofF_any _ neg _ _ (tok_numT k.dd k.lo k.hi neg) _ _ h k.m1 k.m2 k.q1 k.q2 k.inr w hg
    rw [word_sgn] at this
    exact this
theorem pend_det {u m m' : Nat} {e e' p : Int} (h : Fl.PEnd u m e p) (h' : Fl.PEnd u m' e' p) : m = m' ∧ e = e' := by
  unfold Fl.PEnd at h h'
  omega
theorem fin_one {m m' : Nat} {e e' : Int} (h : Fin m e) (h' : Fin m' e') {a : Nat} {q : Int} (h1 : 1 ≤ a) (h2 : a < 144115188075855872) (hq : -345 ≤ q) (hq2 : q ≤ 310) (hin : InR m e a q) (hin' : InR m' e' a q) : m = m' ∧ e = e' := by
  obtain ⟨x, hx, hrow⟩ := Fl.row_at q (by omega) (by omega)
  exact pend_det (Fl.parse_in h h1 h2 hq hq2 hin hrow).2.2 (Fl.parse_in h' h1 h2 hq hq2 hin' hrow).2.2
theorem Txt.bk {x : Nat} {T : Bs} (h : Txt x T) : (bk T).2.1 = 0 ∧ x = sgn (bk T).1 ∨ ∃ m e, Fin m e ∧ x = sgn (bk T).1 + rung m e ∧ 1 ≤ (bk T).2.1 ∧ (bk T).2.1 < 144115188075855872 ∧ -345 ≤ (bk T).2.2 ∧ (bk T).2.2 ≤ 310 ∧ InR m e (bk T).2.1 (bk T).2.2 := by
  cases h with
  | zero => exact .inl (by rw [bk_zero.1]; exact ⟨rfl, rfl⟩)
  | zeroN => exact .inl (by rw [bk_zero.2]; exact ⟨rfl, rfl⟩)
  | fin neg h hs =>
    have k := finT h hs
    refine .inr ⟨_, _, h, ?_⟩
    rw [bk_numT k.dd k.lo k.hi neg]
    exact ⟨rfl, k.m1, k.m2, k.q1, k.q2, k.inr⟩
theorem Txt.inj {x y : Nat} {T : Bs} (h : Txt x T) (h' : Txt y T) : x = y := by
  rcases h.bk with ⟨a, b⟩ | ⟨m, e, hf, a1, a2, a3, a4, a5, a6⟩
  · rcases h'.bk with ⟨a', b'⟩ | ⟨m', e', hf', b1, b2, b3, b4, b5, b6⟩
    · rw [b, b']
    · omega
  · rcases h'.bk with ⟨a', b'⟩ | ⟨m', e', hf', b1, b2, b3, b4, b5, b6⟩
    · omega
    · obtain ⟨rfl, rfl⟩ := fin_one hf hf' a2 a3 a4 a5 a6 b6
      rw [a1, b1]
/-- Every finite float has a text. -/
theorem Txt.ex {x : Nat} (hx : x < 18446744073709551616) (hf : x / 4503599627370496 % 2048 ≠ 2047) : ∃ T, Txt x T := by
  obtain ⟨neg, y, hy, rfl⟩ : ∃ (neg : Bool) (y : Nat), y < 9218868437227405312 ∧ x = sgn neg + y := by
    by_cases h : x < 9223372036854775808
    · exact ⟨false, x, by omega, by unfold sgn; simp⟩
    · exact ⟨true, x - 9223372036854775808, by omega, by unfold sgn; simp; omega⟩
  by_cases h0 : y = 0
  · subst h0
    cases neg
    · exact ⟨_, Txt.zero⟩
    · exact ⟨_, Txt.zeroN⟩
  · have key : ∃ m e, Fin m e ∧ rung m e = y := by
      by_cases h1 : y < 9007199254740992
      · exact ⟨y, -1074, ⟨by omega, h1, by omega, by omega, fun h => by omega⟩, by unfold rung; omega⟩
      · obtain ⟨E, hE⟩ : ∃ E, E = y / 4503599627370496 := ⟨_, rfl⟩
        refine ⟨y % 4503599627370496 + 4503599627370496, (E : Int) - 1075, ⟨by omega, by omega, by omega, by omega, fun h => by omega⟩, ?_⟩
        unfold rung
        omega
    obtain ⟨m, e, hfm, rfl⟩ := key
    obtain ⟨d, r, h1, h2⟩ := strip10 (sU m e).1 (sU_in hfm).2.1
    have hd : 1 ≤ d := by
      rcases Nat.eq_zero_or_pos d with h | h
      · subst h; simp at h2
      · exact h
    exact ⟨_, Txt.fin neg hfm ⟨h1, h2, hd⟩⟩

open Classical in
/-- The text of a float. -/
noncomputable def nfF (x : Nat) : Bs := if h : ∃ T, Txt x T then Classical.choose h else []
open Classical in
/-- The float of a text. -/
noncomputable def pfF (l : Bs) : Rd Nat := if h : ∃ x, Txt x l then .ok (Classical.choose h) else .unk
/-- A finite float. -/
def Fx (x : Nat) : Prop := ∃ T, Txt x T
theorem Fx.txt {x : Nat} (h : Fx x) : Txt x (nfF x) := by
  have h2 : ∃ T, Txt x T := h
  unfold nfF
  rw [dif_pos h2]
  exact Classical.choose_spec h2
theorem pfF_of {x : Nat} {l : Bs} (h : Txt x l) : pfF l = .ok x := by
  have he : ∃ x, Txt x l := ⟨x, h⟩
  unfold pfF
  rw [dif_pos he, (Classical.choose_spec he).inj h]
theorem pfF_is {x : Nat} {l : Bs} (h : pfF l = .ok x) : Txt x l := by
  unfold pfF at h
  split at h
  · rename_i he
    cases h
    exact Classical.choose_spec he
  · cases h
theorem pfF_ok : PfOk pfF := by
  intro l
  constructor
  · unfold pfF
    split <;> simp
  · intro x B0 w h hl hg
    exact (pfF_is h).parse w hg
theorem Fx.numOk {x : Nat} (h : Fx x) : NumOk pfF nfF x := ⟨h.txt.short.2, h.txt.tok, pfF_of h.txt⟩
theorem Fx.asc {x : Nat} (h : Fx x) : Asc (nfF x) := h.txt.asc
theorem numFF : NumF nfF Fx where
  num := fun x w hx hT hb => numberF x (nfF x) hx.txt.ftoa w hT hb
  short := fun x hx => hx.txt.short.1
end Go.Proofs.YtghajgdiaopioaaGreatDoor
end
section
/- IsFinite; the shapes with finite coordinates. Conditions: stand in each contract. -/
namespace Go.Proofs.YtghajgdiaopioaaGreatDoor
open Go.RowKit Go.Proofs Tx
open Go.Proofs.YtghajgdiaopioaaGreatDoorW.PrintWords
/-- A word whose exponent is the greatest is no number. -/
theorem read_top (x : Nat) (h : x / 4503599627370496 % 2048 = 2047) :
    Ieee.double.read x = if x % 9223372036854775808 = 9218868437227405312 then .infinity (x / 9223372036854775808 % 2 == 1) else .nan (x / 9223372036854775808 % 2 == 1) (x % 4503599627370496) := by
  have hs : Ieee.Format.signWeight Ieee.double = 9223372036854775808 := by decide
  have hb : Ieee.Format.binade Ieee.double = 4503599627370496 := by decide
  have hi : Ieee.Format.infRung Ieee.double = 9218868437227405312 := by decide
  unfold Ieee.Format.read
  simp only [hs, hb, hi]
  rw [if_neg (by omega), if_neg (by omega)]
  by_cases h1 : x % 9223372036854775808 = 9218868437227405312
  · rw [if_pos h1, if_pos h1]
  · rw [if_neg h1, if_neg h1]
    rw [show x % 9223372036854775808 - 9218868437227405312 = x % 4503599627370496 by omega]
theorem sub_top (x : Nat) (h : x / 4503599627370496 % 2048 = 2047) : FloatKind.f64.format.sub x x = none := by
  show ((Ieee.double.read x).sum (Ieee.double.read x).opposite).map Ieee.double.write = none
  rw [read_top x h]
  split
  · generalize (x / 9223372036854775808 % 2 == 1) = s
    cases s <;> rfl
  · rfl
theorem nan_not0 (a b z : Nat) (ha : a < 2) (hb : b < 4503599627370495) : ¬ FloatKind.f64.format.order (a * 9223372036854775808 + 9218868437227405312 + 1 + b) z = some Ordering.eq := by
  obtain ⟨y, hy⟩ : ∃ y, y = a * 9223372036854775808 + 9218868437227405312 + 1 + b := ⟨_, rfl⟩
  rw [← hy]
  have h := read_top y (by omega)
  rw [if_neg (by omega)] at h
  intro hh
  have h2 : (Ieee.double.read y).order (Ieee.double.read z) = some Ordering.eq := hh
  rw [h] at h2
  simp [Ieee.Datum.order] at h2
theorem nan_not (t z : Nat) : ¬ FloatKind.f64.format.order ((t % 2) * 2 ^ 63 + 0x7ff0000000000000 + 1 + (t / 2) % (2 ^ 52 - 1)) z = some Ordering.eq := by
  have e1 : (2 : Nat) ^ 63 = 9223372036854775808 := by decide
  have e2 : (2 : Nat) ^ 52 - 1 = 4503599627370495 := by decide
  rw [e1, e2]
  exact nan_not0 (t % 2) (t / 2 % 4503599627370495) z (Nat.mod_lt _ (by decide)) (Nat.mod_lt _ (by decide))
theorem sub_run (x : Nat) (w : World) : ∃ y w', (binOp BinOp.sub 47 (.float .f64 x) (.float .f64 x)).run Tryz.prog w = .ok (.float .f64 y) w' ∧ Below w.heap.size w w' ∧ (x / 4503599627370496 % 2048 = 2047 → ¬ FloatKind.f64.format.order y 0 = some Ordering.eq) := by
  cases hs : FloatKind.f64.format.sub x x with
  | some r =>
    refine ⟨r, w, run_float_arith w .sub 47 .f64 x x r hs, Below.refl _ _, fun h => ?_⟩
    rw [sub_top x h] at hs
    cases hs
  | none =>
    refine ⟨_, w.drew, ?_, below_drew _, fun _ => nan_not (w.tape w.drawn (.nanBits .f64 x x)) 0⟩
    simp [binOp, Op.floatArith, hs, Question.forced]
    rfl
set_option maxRecDepth 20000 in
theorem finite_any (x : Nat) (w : World) (hx : x < 18446744073709551616) :
    Calls Tryz.prog 43 #[.float .f64 x] w fun e w' => ∃ b, e = .returned (.bool b) ∧ Below w.heap.size w w' ∧ (b = true → x / 4503599627370496 % 2048 ≠ 2047) := by
  obtain ⟨y, w1, hr, hb, hn⟩ := sub_run x w
  have HB := Lib.hid hb
  have HN := Lib.hid hn
  clear hb hn
  go_enter Tryz.func43, Tryz.ntmps43
  go_wp2
  go_ret
  exact ⟨_, rfl, HB.out, fun hb h => HN.out h (by simpa using hb)⟩
/-! The laws: FiniteShape; FnTextThere. -/
theorem call43 : ∀ args w, (callFunc 43 args).run Tryz.prog w = .ok (.enter 43 args) w := by
  intro args w
  kernel_rfl
/-- IsFinite, as the code asks. -/
def FinB (x : Nat) : Prop := x / 4503599627370496 % 2048 ≠ 2047
set_option maxRecDepth 20000 in
set_option maxHeartbeats 1000000 in
theorem finiteShape_any (n : Nat) (w : World) (s : Sh) (v : Value) (h : ShV n w s v) (hL : LenS s) (hX : AllS F64 s) :
    Calls Tryz.prog 19 #[v] w fun e w' => ∃ b, e = .returned (.bool b) ∧ Below w.heap.size w w' ∧ (b = true → (∃ P Q, cnt 4 s = some (P, Q) ∧ P ≤ 300 ∧ Q ≤ 40) ∧ AllS FinB s) := by
  obtain ⟨k, A, l, c, A', p, c', rfl, -, -, -, -, -⟩ := h.open_
  have hb0 := below_alloc1 w (.cells #[.int .i64 k, .slice A l c, .slice A' p c'] 25)
  have hk0 := blk_new w (.cells #[.int .i64 k, .slice A l c, .slice A' p c'] 25)
  have hcall := isShape_any n _ s _ (h.below hb0) hL
  obtain ⟨m0, m1, m2, n0, n1, n2⟩ := three_facts hk0
  have HB0 := Lib.hid hb0
  have HK0 := Lib.hid hk0
  have HH := Lib.hid h
  clear hb0 hk0 h
  go_enter Tryz.func19, Tryz.ntmps19
  go_wp2_with fail
  refine hcall.mono ?_
  clear hcall
  rintro e w1 ⟨b, rfl, hb1, hs⟩
  have HB1 := Lib.hid (below_then HB0.out (by simp) hb1)
  obtain ⟨m0', m1', m2', n0', n1', n2'⟩ := three_facts (blk_below HK0.out hb1)
  clear hb1
  cases b with
  | false =>
    go_wp2
    go_ret
    exact ⟨_, rfl, HB1.out, by simp⟩
  | true =>
    have HS := Lib.hid (hs rfl)
    clear hs
    have hcall := all_any 43 FinB call43 finite_any n w1 s _ (HH.out.below HB1.out) hX
    go_wp2_with fail
    refine hcall.mono ?_
    clear hcall
    rintro e w2 ⟨b, rfl, hb2, hq⟩
    have HB2 := Lib.hid (below_then HB1.out HB1.out.size hb2)
    have HQ := Lib.hid hq
    clear hb2 hq
    go_wp2
    go_ret
    exact ⟨_, rfl, HB2.out, fun hb => ⟨HS.out, HQ.out (by simpa using hb)⟩⟩

/-- What is known of a shape that the law speaks of. -/
structure GoodF (g : Geo) : Prop where
  deep : g.deep ≤ 4
  wt : wt g ≤ 2000
  fx : AllC Fx g
theorem goodF_of {s : Sh} (h : (∃ P Q, cnt 4 s = some (P, Q) ∧ P ≤ 300 ∧ Q ≤ 40) ∧ AllS FinB s) (hX : AllS F64 s) : ∃ g, s = shOf g ∧ GoodF g := by
  obtain ⟨⟨P, Q, hc, hP, hQ⟩, hw⟩ := h
  obtain ⟨g, rfl, hd, hwt, -⟩ := cnt_geo 4 s P Q hc
  refine ⟨g, rfl, hd, by omega, allC_imp (fun x hx => ?_) g.deep g (Nat.le_refl _) (allC_and g.deep g (Nat.le_refl _) (allS_geo _ g.deep g (Nat.le_refl _) hX) (allS_geo _ g.deep g (Nat.le_refl _) hw))⟩
  exact Txt.ex hx.1 hx.2
theorem GoodF.pts {g : Geo} (h : GoodF g) : (ptsS (shOf g)).length ≤ 1000000000 := by have := pts_le g.deep g (Nat.le_refl _); have := h.wt; omega
theorem textF_of {g : Geo} (hf : emptyS (shOf g) = true ∨ fullS (shOf g) = true) : ∃ t, textE nfF g t := by
  rcases hf with hf | hf
  · obtain ⟨h2, he⟩ := emptyS_geo g hf
    exact ⟨_, .inr ⟨h2, he, rfl⟩⟩
  · exact ⟨_, .inl ⟨(fullS_geo g.deep g (Nat.le_refl _) hf).1, rfl⟩⟩
theorem textF_facts {g : Geo} (hg : GoodF g) {t : Bs} (h : textE nfF g t) : readG pfF 4 t = .ok g ∧ Asc t ∧ t.length ≤ 1000000000 := by
  rcases h with ⟨hf, rfl⟩ | ⟨h2, he, rfl⟩
  · refine ⟨read_text (by simp) 4 g hg.deep hf (allC_imp (fun x h => Fx.numOk h) g.deep g (Nat.le_refl _) hg.fx), text_asc (by intro c hc; cases hc) g.deep g (Nat.le_refl _) (allC_imp (fun x h => Fx.asc h) g.deep g (Nat.le_refl _) hg.fx), ?_⟩
    have h1 := text_len (nf := nfF) (sp := []) (small := false) (by simp) g.deep g (Nat.le_refl _) (allC_imp (fun x h => (Fx.txt h).short.1) g.deep g (Nat.le_refl _) hg.fx)
    have := hg.wt
    omega
  · refine ⟨?_, size_asc _, ?_⟩
    · rw [read_empty 3 g.kind h2 (kind_range g).2, ← he]
    · have := (word_lim g.kind).1
      simp [emptyW]
      omega
theorem readTF_any {B0 : Nat} (w : World) (hE : E0 B0 w) (g : Geo) (t : Bs) (hr : readG pfF 4 t = .ok g) (ha : Asc t) (ht : t.length ≤ 1000000000) (hw : wt g ≤ 1000000) :
    Calls Tryz.prog 15 #[S t] w fun e w' => ∃ v, e = .returned (.tuple #[v, .bool true]) ∧ ShV 4 w' (shOf g) v ∧ Below w.heap.size w w' := by
  refine (read_ok pfF pfF_ok 4 t w hE.gl ht ha g hr (wt_lim g.deep g (Nat.le_refl _) (by omega))).mono ?_
  rintro e w' ⟨h, hb⟩
  obtain ⟨A, c, A', c', he, hV⟩ := read_val h
  exact ⟨_, he, hV, hb⟩

structure LSt0 (B0 : Nat) (w0 : World) (b n : Nat) (s : Sh) (k : Int) (vl vp : Value) (w : World) : Prop where
  ev : E0 B0 w
  low : Below w0.heap.size w0 w
  sh : ShV n w s (.agg #[.int .i64 k, vl, vp])
  box : w.heap[b]? = some (.cells #[.int .i64 k, vl, vp] 25 (0, 0))
theorem LSt0.step {B0 : Nat} {w0 : World} {b n : Nat} {s : Sh} {k : Int} {vl vp : Value} {w w' : World} (h : LSt0 B0 w0 b n s k vl vp w) (hb : Below w.heap.size w w') : LSt0 B0 w0 b n s k vl vp w' :=
  ⟨h.ev.low hb, below_then h.low h.low.size hb, h.sh.below hb, blk_below h.box hb⟩
theorem LSt0.cells {B0 : Nat} {w0 : World} {b n : Nat} {s : Sh} {k : Int} {vl vp : Value} {w : World} (h : LSt0 B0 w0 b n s k vl vp w) : Cells3 b k vl vp w := ⟨blk_cell h.box 0, blk_cell h.box 1, blk_cell h.box 2⟩

set_option maxRecDepth 40000 in
set_option maxHeartbeats 4000000 in
/-- ████ FnTextThere. ████ -/
theorem fnTextThere_any {B0 : Nat} (n : Nat) (w : World) (s : Sh) (v : Value) (hV : ShV n w s v) (hL : LenS s) (hX : AllS F64 s) (hE : E0 B0 w) :
    Calls Tryz.prog 6 #[v] w fun e w' => e = .returned (.bool true) ∧ Below w.heap.size w w' := by
  obtain ⟨k, A, l, c, A', p, c', rfl, -, -, -, -, -⟩ := hV.open_
  have hb0 := below_alloc1 w (.cells #[.int .i64 k, .slice A l c, .slice A' p c'] 25)
  have hst : LSt0 B0 w w.heap.size n s k (.slice A l c) (.slice A' p c') (w.alloc (.cells #[.int .i64 k, .slice A l c, .slice A' p c'] 25)) := ⟨hE.low hb0, hb0, hV.below hb0, blk_new w _⟩
  have hcall := fits1_any n _ s _ hst.sh
  obtain ⟨z0, z1, z2⟩ := hst.cells
  have HST := Lib.hid hst
  clear hst hb0 hV hE
  go_enter Tryz.func6, Tryz.ntmps6
  go_wp2_with fail
  refine hcall.mono ?_
  clear hcall
  rintro e w1 ⟨b1, rfl, hb1⟩
  have HST1 := Lib.hid (HST.out.step hb1)
  clear hb1 z0 z1 z2
  obtain ⟨z0, z1, z2⟩ := HST1.out.cells
  cases b1 with
  | false =>
    go_wp2
    go_ret
    exact ⟨rfl, HST1.out.low⟩
  | true =>
    have hcall := finiteShape_any n w1 s _ HST1.out.sh hL hX
    go_wp2_with fail
    refine hcall.mono ?_
    clear hcall
    rintro e w2 ⟨b2, rfl, hb2, hgood⟩
    have HST2 := Lib.hid (HST1.out.step hb2)
    clear hb2 z0 z1 z2
    obtain ⟨z0, z1, z2⟩ := HST2.out.cells
    cases b2 with
    | false =>
      have hcall := writes0_any w2 HST2.out.ev
      clear hgood
      go_wp2_with fail
      refine hcall.mono ?_
      clear hcall
      rintro e w3 ⟨rfl, hb3⟩
      have HST3 := Lib.hid (HST2.out.step hb3)
      clear hb3
      go_wp2
      go_ret
      exact ⟨rfl, HST3.out.low⟩
    | true =>
      obtain ⟨g, hs, hg⟩ := goodF_of (hgood rfl) hX
      subst hs
      have HG := Lib.hid hg
      clear hgood hg
      have hcall := isFull_any n w2 (shOf g) _ HST2.out.sh HG.out.pts
      go_wp2_with fail
      refine hcall.mono ?_
      clear hcall
      rintro e w3 ⟨b3, rfl, hb3, hfull⟩
      have HST3 := Lib.hid (HST2.out.step hb3)
      clear hb3 z0 z1 z2
      obtain ⟨z0, z1, z2⟩ := HST3.out.cells
      cases b3 with
      | false =>
        have hcall := writes0_any w3 HST3.out.ev
        clear hfull
        go_wp2_with fail
        refine hcall.mono ?_
        clear hcall
        rintro e w4 ⟨rfl, hb4⟩
        have HST4 := Lib.hid (HST3.out.step hb4)
        clear hb4
        go_wp2
        go_ret
        exact ⟨rfl, HST4.out.low⟩
      | true =>
        obtain ⟨t, ht1⟩ := textF_of (hfull rfl)
        have HT1 := Lib.hid ht1
        have HF := Lib.hid (textF_facts HG.out ht1)
        clear hfull ht1
        have hcall := write_any numFF n w3 g _ t HST3.out.sh HT1.out HG.out.fx HST3.out.ev.tb (by have := HST3.out.ev.big; omega) (by have := HG.out.wt; omega)
        go_wp2_with fail
        refine hcall.mono ?_
        clear hcall
        rintro e w4 ⟨rfl, hb4⟩
        have HST4 := Lib.hid (HST3.out.step hb4)
        clear hb4 z0 z1 z2
        have hcall := readTF_any w4 HST4.out.ev g t HF.out.1 HF.out.2.1 HF.out.2.2 (by have := HG.out.wt; omega)
        go_wp2_with fail
        refine hcall.mono ?_
        clear hcall
        rintro e w5 ⟨v5, rfl, hV5, hb5⟩
        obtain ⟨k5, A5, l5, c5, A5', p5, c5', rfl, -, -, -, -, -⟩ := hV5.open_
        have hb5a := below_alloc1 w5 (.cells #[.int .i64 k5, .slice A5 l5 c5, .slice A5' p5 c5'] 25)
        have HST5 := Lib.hid ((HST4.out.step hb5).step hb5a)
        have HV5 := Lib.hid (hV5.below hb5a)
        have HK5 := Lib.hid (blk_new w5 (.cells #[.int .i64 k5, .slice A5 l5 c5, .slice A5' p5 c5'] 25))
        clear hb5 hb5a hV5
        have hcall := writes0_any (w5.alloc (.cells #[.int .i64 k5, .slice A5 l5 c5, .slice A5' p5 c5'] 25)) HST5.out.ev
        go_wp2_with fail
        refine hcall.mono ?_
        clear hcall
        rintro e w6 ⟨rfl, hb6⟩
        have HST6 := Lib.hid (HST5.out.step hb6)
        have HV6 := Lib.hid (HV5.out.below hb6)
        have HK6 := Lib.hid (blk_below HK5.out hb6)
        clear hb6
        obtain ⟨z0, z1, z2⟩ := HST6.out.cells
        obtain ⟨y0, y1, y2⟩ : Cells3 w5.heap.size k5 (.slice A5 l5 c5) (.slice A5' p5 c5') w6 := ⟨blk_cell HK6.out 0, blk_cell HK6.out 1, blk_cell HK6.out 2⟩
        have hcall := same_any 4 n w6 (shOf g) _ _ HV6.out HST6.out.sh HG.out.pts
        go_wp2_with fail
        refine hcall.mono ?_
        clear hcall
        rintro e w7 ⟨rfl, hb7⟩
        have HST7 := Lib.hid (HST6.out.step hb7)
        clear hb7
        go_wp2
        go_ret
        exact ⟨rfl, HST7.out.low⟩
end Go.Proofs.YtghajgdiaopioaaGreatDoor
end
