/- Walks and plain laws joined (Pb, Na, Nb, Fa, Fb). Conditions: stand in each law. -/
import Derived.Test.YtghajgdiaopioaaGreatDoorJl
import Derived.Test.YtghajgdiaopioaaGreatDoorJc
import Derived.Lib.ItoaNum
import Derived.Lib.ItoaMem
import Derived.Test.YtghajgdiaopioaaGreatDoorJb
import Derived.Laws.FloatArith
import Derived.Laws.BitsAllLaws
import Derived.Laws.BitsAll
/- Walks: ParseFloat on whole numbers. Conditions: stand in each contract. -/
section
set_option linter.unusedVariables false
set_option linter.unusedSimpArgs false
namespace Go.Proofs.YtghajgdiaopioaaGreatDoor
open Go.RowKit Go.Proofs Tx
open Go.Proofs.YtghajgdiaopioaaGreatDoorW.PrintWords

theorem exact_pos (m : Nat) (w : World) (hm : m < 4503599627370496) (h16 : w.cell? ⟨16, 0, none⟩ = some (.int .u64 52)) :
    Calls Tryz.prog 172 #[.int .u64 m, .int .i64 0, .bool false] w fun e w' => e = .returned (.tuple #[.float .f64 (floatOfInt .f64 m), .bool true]) ∧ w = w' := by
  have hs : (m >>> 52 : Nat) = 0 := by rw [Nat.shiftRight_eq_div_pow]; exact Nat.div_eq_of_lt hm
  go_enter Tryz.func172, Tryz.ntmps172
  go_wp2
  go_ret2
  exact ⟨rfl, rfl⟩

@[go_sem] theorem run_neg_float (P : Program) (w : World) (k : FloatKind) (b : Nat) : (Op.unary UnOp.neg (.float k b)).run P w = .ok (.float k (Op.negFloat k b)) w := rfl
theorem exact_neg (m : Nat) (w : World) (hm : m < 4503599627370496) (h16 : w.cell? ⟨16, 0, none⟩ = some (.int .u64 52)) :
    Calls Tryz.prog 172 #[.int .u64 m, .int .i64 0, .bool true] w fun e w' => e = .returned (.tuple #[.float .f64 (Op.negFloat .f64 (floatOfInt .f64 m)), .bool true]) ∧ w = w' := by
  go_enter Tryz.func172, Tryz.ntmps172
  go_wp2
  go_ret2
  exact ⟨rfl, rfl⟩
theorem special_dig (c : UInt8) (l : Bs) (w : World) (hl : (c :: l).length ≤ 1000000000) (hc : 48 ≤ c.toNat ∧ c.toNat ≤ 57) :
    Calls Tryz.prog 161 #[S (c :: l)] w fun e w' => e = .returned (.tuple #[.float .f64 0, .int .i64 0, .bool false]) ∧ w = w' := by
  obtain ⟨d, hd⟩ : ∃ d : UInt8, ∀ h, (ByteArray.mk (c :: l).toArray)[0]'h = d := ⟨c, fun _ => rfl⟩
  have hdc : d = c := (hd (by simp [ByteArray.size])).symm
  subst hdc
  have t1 : ((d.toNat : Int) == 43) = false := by rw [beq_eq_false_iff_ne]; omega
  have t2 : ((d.toNat : Int) == 45) = false := by rw [beq_eq_false_iff_ne]; omega
  have t3 : ((d.toNat : Int) == 105) = false := by rw [beq_eq_false_iff_ne]; omega
  have t4 : ((d.toNat : Int) == 73) = false := by rw [beq_eq_false_iff_ne]; omega
  have t5 : ((d.toNat : Int) == 110) = false := by rw [beq_eq_false_iff_ne]; omega
  have t6 : ((d.toNat : Int) == 78) = false := by rw [beq_eq_false_iff_ne]; omega
  go_enter Tryz.func161, Tryz.ntmps161
  go_wp2
  go_ret3
  exact ⟨rfl, rfl⟩
theorem cpl_zero (c : UInt8) (l t : Bs) (w : World) (hl : (c :: l).length ≤ 1000000000) (hc : 48 ≤ c.toNat ∧ c.toNat ≤ 57) (x : UInt8) (hx : 105 ≤ x.toNat) (ht : (x :: t).length ≤ 1000) :
    Calls Tryz.prog 193 #[S (c :: l), S (x :: t)] w fun e w' => e = .returned (.int .i64 0) ∧ w = w' := by
  obtain ⟨d, hd⟩ : ∃ d : UInt8, ∀ h, (ByteArray.mk (c :: l).toArray)[0]'h = d := ⟨c, fun _ => rfl⟩
  have hdc : d = c := (hd (by simp [ByteArray.size])).symm
  subst hdc
  obtain ⟨y, hy⟩ : ∃ y : UInt8, ∀ h, (ByteArray.mk (x :: t).toArray)[0]'h = y := ⟨x, fun _ => rfl⟩
  have hyc : y = x := (hy (by simp [ByteArray.size])).symm
  subst hyc
  have hne : ((d.toNat : Int) != y.toNat) = true := by rw [bne_iff_ne]; omega
  go_enter Tryz.func193, Tryz.ntmps193
  go_wp2
  all_goals
    go_loop [6] (fun v6 => ∃ k : Nat, k = 0 ∧ v6 = .int .i64 k) (fun v6 => 5 - (intOf v6).toNat)
    case atStart => exact ⟨0, rfl, rfl⟩
    case round =>
      obtain ⟨k, rfl, rfl⟩ := hrel
      go_wp2
      go_ret
      exact ⟨rfl, rfl⟩

theorem special_neg (c : UInt8) (l : Bs) (w : World) (hl : (c :: l).length ≤ 1000000) (hc : 48 ≤ c.toNat ∧ c.toNat ≤ 57) :
    Calls Tryz.prog 161 #[S (45 :: c :: l)] w fun e w' => e = .returned (.tuple #[.float .f64 0, .int .i64 0, .bool false]) ∧ w = w' := by
  have hb0 : ∀ h, (ByteArray.mk (45 :: c :: l).toArray)[0]'h = (45 : UInt8) := fun _ => rfl
  have hcall := cpl_zero c l [110, 102, 105, 110, 105, 116, 121] w (by omega) hc 105 (by decide) (by decide)
  go_enter Tryz.func161, Tryz.ntmps161
  go_wp2_with fail
  refine hcall.mono ?_
  rintro e w' ⟨rfl, rfl⟩
  clear hcall
  go_wp2
  go_ret3
  exact ⟨rfl, rfl⟩
/-- The bits of a whole number as the reader makes them. -/
def wbits (neg : Bool) (m : Nat) : Nat := if neg then Op.negFloat .f64 (floatOfInt .f64 m) else floatOfInt .f64 m
theorem b2u (b : Bool) (w : World) : Calls Tryz.prog 170 #[.bool b] w fun e w' => e = .returned (.int .u64 (if b then 1 else 0)) ∧ w = w' := by
  go_enter Tryz.func170, Tryz.ntmps170
  cases b
  all_goals
    go_wp2
    go_ret
    exact ⟨rfl, rfl⟩

/-- What the digits and the sign come to. -/
structure Tok (T : Bs) (neg : Bool) (m : Nat) : Prop where
  len : T.length ≤ 1000
  small : m < 4503599627370496
  pos : m = 0 → neg = false
  sp : ∀ w, Calls Tryz.prog 161 #[S T] w fun e w' => e = .returned (.tuple #[.float .f64 0, .int .i64 0, .bool false]) ∧ w = w'
  rd : ∀ w, Calls Tryz.prog 162 #[S T] w fun e w' => e = .returned (.tuple #[.int .u64 m, .int .i64 0, .bool neg, .bool false, .bool false, .int .i64 T.length, .bool true]) ∧ w = w'

set_option maxRecDepth 20000 in
set_option maxHeartbeats 4000000 in
theorem atof_ne (T : Bs) (neg : Bool) (m : Nat) (h : Tok T neg m) (hm : m ≠ 0) (w : World) (h16 : w.cell? ⟨16, 0, none⟩ = some (.int .u64 52)) (h14 : w.cell? ⟨14, 0, none⟩ = some (.bool true)) :
    Calls Tryz.prog 143 #[S T] w fun e w' => e = .returned (.tuple #[.float .f64 (wbits neg m), .int .i64 T.length, .nilIface]) ∧ w = w' := by
  have h1 := h.sp w
  have h2 := h.rd w
  have h3 := b2u neg w
  have h4 : Calls Tryz.prog 172 #[.int .u64 m, .int .i64 0, .bool neg] w fun e w' => e = .returned (.tuple #[.float .f64 (wbits neg m), .bool true]) ∧ w = w' := by
    cases neg
    · simp only [wbits, Bool.false_eq_true, if_false]
      exact exact_pos m w h.small h16
    · simp only [wbits, if_true]
      exact exact_neg m w h.small h16
  have hm0 : ((m : Int) == 0) = false := by rw [beq_eq_false_iff_ne]; omega
  clear h h16 hm
  obtain ⟨b, hb⟩ : ∃ b, b = wbits neg m := ⟨_, rfl⟩
  rw [← hb] at h4 ⊢
  clear hb
  cases neg
  all_goals
    go_enter Tryz.func143, Tryz.ntmps143
    go_wp2_with fail
    refine h1.mono ?_
    rintro e w' ⟨rfl, rfl⟩
    clear h1
    go_wp2_with fail
    refine h2.mono ?_
    rintro e w' ⟨rfl, rfl⟩
    clear h2
    go_wp2_with fail
    refine h3.mono ?_
    rintro e w' ⟨rfl, rfl⟩
    clear h3
    go_wp2_with fail
    refine h4.mono ?_
    rintro e w' ⟨rfl, rfl⟩
    clear h4
    go_wp2
    go_ret3
    exact ⟨rfl, rfl⟩
@[go_sem] theorem run_frombits (n : Nat) (w : World) : (callFunc 171 #[.int .u64 n]).run Tryz.prog w = .ok (.value (.float .f64 n)) w := by
  kernel_rfl
@[go_sem] theorem run_frombits0 (w : World) : (callFunc 171 #[.int .u64 0]).run Tryz.prog w = .ok (.value (.float .f64 0)) w := by
  kernel_rfl
@[go_sem] theorem or00 : bits BinOp.or IntKind.u64 0 0 = 0 := by decide
set_option maxRecDepth 20000 in
theorem atof_0 (T : Bs) (h : Tok T false 0) (w : World) (h14 : w.cell? ⟨14, 0, none⟩ = some (.bool true)) :
    Calls Tryz.prog 143 #[S T] w fun e w' => e = .returned (.tuple #[.float .f64 0, .int .i64 T.length, .nilIface]) ∧ w = w' := by
  have h1 := h.sp w
  have h2 := h.rd w
  have h3 := b2u false w
  clear h
  go_enter Tryz.func143, Tryz.ntmps143
  go_wp2_with fail
  refine h1.mono ?_
  rintro e w' ⟨rfl, rfl⟩
  clear h1
  go_wp2_with fail
  refine h2.mono ?_
  rintro e w' ⟨rfl, rfl⟩
  clear h2
  go_wp2_with fail
  refine h3.mono ?_
  rintro e w' ⟨rfl, rfl⟩
  clear h3
  go_wp2
  go_ret3
  exact ⟨rfl, rfl⟩

theorem wbits_0 : wbits false 0 = 0 := by decide
theorem atof_tok (T : Bs) (neg : Bool) (m : Nat) (h : Tok T neg m) (w : World) (h16 : w.cell? ⟨16, 0, none⟩ = some (.int .u64 52)) (h14 : w.cell? ⟨14, 0, none⟩ = some (.bool true)) :
    Calls Tryz.prog 143 #[S T] w fun e w' => e = .returned (.tuple #[.float .f64 (wbits neg m), .int .i64 T.length, .nilIface]) ∧ w = w' := by
  by_cases hm : m = 0
  · subst hm
    have := h.pos rfl
    subst this
    rw [wbits_0]
    exact atof_0 T h w h14
  · exact atof_ne T neg m h hm w h16 h14
theorem parse_tok (T : Bs) (neg : Bool) (m : Nat) (h : Tok T neg m) (w : World) (h16 : w.cell? ⟨16, 0, none⟩ = some (.int .u64 52)) (h14 : w.cell? ⟨14, 0, none⟩ = some (.bool true)) :
    Calls Tryz.prog 104 #[S T, .int .i64 64] w fun e w' => e = .returned (.tuple #[.float .f64 (wbits neg m), .nilIface]) ∧ w = w' := by
  have h1 := atof_tok T neg m h w h16 h14
  obtain ⟨b, hb⟩ : ∃ b, b = wbits neg m := ⟨_, rfl⟩
  rw [← hb] at h1 ⊢
  clear hb h16 h14 h
  have h2 : Calls Tryz.prog 128 #[S T, .int .i64 64] w fun e w' => e = .returned (.tuple #[.float .f64 b, .int .i64 T.length, .nilIface]) ∧ w = w' := by
    go_enter Tryz.func128, Tryz.ntmps128
    go_wp2_with fail
    refine h1.mono ?_
    rintro e w' ⟨rfl, rfl⟩
    clear h1
    go_wp2
    go_ret3
    exact ⟨rfl, rfl⟩
  have h3 : Calls Tryz.prog 114 #[S T, .int .i64 64] w fun e w' => e = .returned (.tuple #[.float .f64 b, .nilIface]) ∧ w = w' := by
    clear h1
    go_enter Tryz.func114, Tryz.ntmps114
    go_wp2_with fail
    refine h2.mono ?_
    rintro e w' ⟨rfl, rfl⟩
    clear h2
    go_wp2
    go_ret2
    exact ⟨rfl, rfl⟩
  clear h1 h2
  go_enter Tryz.func104, Tryz.ntmps104
  go_wp2_with fail
  refine h3.mono ?_
  rintro e w' ⟨rfl, rfl⟩
  clear h3
  go_wp2
  go_ret2
  exact ⟨rfl, rfl⟩
theorem tok_pos (c : UInt8) (ds : Bs) (hd : Dg (c :: ds)) (hl : (c :: ds).length ≤ 15) (h0 : c ≠ 48) : Tok (c :: ds) false (dv (c :: ds)) where
  len := by omega
  small := Nat.lt_of_lt_of_le (dv_lt _ hd) (Nat.le_trans (Nat.pow_le_pow_right (by decide) hl) (by decide))
  pos := fun _ => rfl
  sp := fun w => special_dig c ds w (by omega) (hd c (by simp))
  rd := fun w => readF_pos c ds w hd (by omega) h0
theorem dv_pos (c : UInt8) (ds : Bs) (hd : Dg (c :: ds)) (h0 : c ≠ 48) : dv (c :: ds) ≠ 0 := by
  have hc := hd c (by simp)
  have h1 : 1 ≤ c.toNat - 48 := by
    have : c.toNat ≠ 48 := fun e => h0 (by rw [← UInt8.toNat_inj]; exact e)
    omega
  have : ∀ (l : Bs) (a : Nat), 1 ≤ a → 1 ≤ l.foldl (fun a c => a * 10 + (c.toNat - 48)) a := by
    intro l
    induction l with
    | nil => intro a h; exact h
    | cons x l ih => intro a h; exact ih (a * 10 + (x.toNat - 48)) (by omega)
  have h2 := this ds (0 * 10 + (c.toNat - 48)) (by omega)
  unfold dv
  simp only [List.foldl_cons]
  omega
theorem tok_neg (c : UInt8) (ds : Bs) (hd : Dg (c :: ds)) (hl : (c :: ds).length ≤ 15) (h0 : c ≠ 48) : Tok (45 :: c :: ds) true (dv (c :: ds)) where
  len := by simp only [List.length_cons] at *; omega
  small := Nat.lt_of_lt_of_le (dv_lt _ hd) (Nat.le_trans (Nat.pow_le_pow_right (by decide) hl) (by decide))
  pos := fun h => absurd h (dv_pos c ds hd h0)
  sp := fun w => special_neg c ds w (by omega) (hd c (by simp))
  rd := fun w => readF_neg c ds w hd (by omega) h0
theorem tok_zero : Tok [48] false 0 where
  len := by decide
  small := by decide
  pos := fun _ => rfl
  sp := fun w => special_dig 48 [] w (by decide) (by decide)
  rd := fun w => readF_zero w
end Go.Proofs.YtghajgdiaopioaaGreatDoor
end

/- Plain: the texts of whole numbers, and what the reader makes of them. Conditions: none. -/
section
set_option linter.unusedVariables false
set_option linter.unusedSimpArgs false
namespace Go.Proofs.YtghajgdiaopioaaGreatDoor
open Go.RowKit Go.Proofs Tx
open Go.Proofs.YtghajgdiaopioaaGreatDoorW.PrintWords

/-- Digits that the reader is known on. -/
def goodB : Bs → Bool
  | [] => false
  | c :: ds => (c :: ds).all (fun x => decide (48 ≤ x.toNat ∧ x.toNat ≤ 57)) && decide ((c :: ds).length ≤ 15) && decide (c ≠ 48)
/-- What is known of ParseFloat: whole numbers. -/
def pfW : Bs → Rd Nat
  | 45 :: ds => if goodB ds then .ok (wbits true (dv ds)) else .unk
  | l => if l = [48] then .ok 0 else if goodB l then .ok (wbits false (dv l)) else .unk
theorem goodB_spec {l : Bs} (h : goodB l = true) : ∃ c ds, l = c :: ds ∧ Dg (c :: ds) ∧ (c :: ds).length ≤ 15 ∧ c ≠ 48 := by
  cases l with
  | nil => cases h
  | cons c ds =>
    simp only [goodB, Bool.and_eq_true, decide_eq_true_eq] at h
    obtain ⟨⟨h1, h2⟩, h3⟩ := h
    refine ⟨c, ds, rfl, fun x hx => ?_, h2, h3⟩
    have := List.all_eq_true.1 h1 x hx
    simpa using this
theorem pfW_ok : PfOk pfW := by
  intro l
  have key : pfW l = .unk ∨ ∃ neg m, Tok l neg m ∧ pfW l = .ok (wbits neg m) := by
    unfold pfW
    split
    · rename_i ds
      cases hg : goodB ds with
      | false => left; simp
      | true =>
        obtain ⟨c, r, rfl, hd, hl, h0⟩ := goodB_spec hg
        right
        exact ⟨true, _, tok_neg c r hd hl h0, by simp⟩
    · by_cases h48 : l = [48]
      · subst h48
        right
        exact ⟨false, 0, tok_zero, by rw [wbits_0]; simp⟩
      · cases hg : goodB l with
        | false => left; simp [h48]
        | true =>
          obtain ⟨c, r, rfl, hd, hl, h0⟩ := goodB_spec hg
          right
          exact ⟨false, _, tok_pos c r hd hl h0, by simp [h48]⟩
  rcases key with h | ⟨neg, m, ht, h⟩
  · rw [h]
    exact ⟨by simp, fun x B0 w h1 => by cases h1⟩
  · rw [h]
    refine ⟨by simp, fun x B0 w h1 hl hg => ?_⟩
    cases h1
    refine (parse_tok l neg m ht w hg.fi0 hg.opt).mono ?_
    rintro e w' ⟨h1, rfl⟩
    exact ⟨h1, Below.refl _ _⟩

/-! ### The digits of a number -/
theorem decDigits_small {u : Nat} (h : u < 10) : Lib.decDigits u = [UInt8.ofNat (48 + u)] := by
  rw [Lib.decDigits]; simp [h]
theorem decDigits_step {u : Nat} (h : ¬ u < 10) : Lib.decDigits u = Lib.decDigits (u / 10) ++ [UInt8.ofNat (48 + u % 10)] := by
  rw [Lib.decDigits]; simp [h]
theorem digit_nat {d : Nat} (h : d < 10) : (UInt8.ofNat (48 + d)).toNat = 48 + d := by
  simp only [UInt8.toNat_ofNat']
  omega
theorem dec_all (u : Nat) : Dg (Lib.decDigits u) ∧ dv (Lib.decDigits u) = u ∧ (Lib.decDigits u ≠ []) ∧ (1 ≤ u → ∃ c ds, Lib.decDigits u = c :: ds ∧ c ≠ 48) ∧ ∀ k, u < 10 ^ (k + 1) → (Lib.decDigits u).length ≤ k + 1 := by
  induction u using Nat.strongRecOn with
  | _ u ih =>
    by_cases h : u < 10
    · rw [decDigits_small h]
      refine ⟨?_, ?_, by simp, ?_, fun k _ => by simp⟩
      · intro c hc
        rw [List.mem_singleton.1 hc, digit_nat h]; omega
      · simp only [dv, List.foldl_cons, List.foldl_nil, digit_nat h]; omega
      · intro h1
        refine ⟨_, [], rfl, fun e => ?_⟩
        have := congrArg UInt8.toNat e
        rw [digit_nat h] at this
        simp at this
        omega
    · obtain ⟨h1, h2, h3, h4, h5⟩ := ih (u / 10) (by omega)
      rw [decDigits_step h]
      have hd : u % 10 < 10 := by omega
      refine ⟨?_, ?_, by simp, ?_, ?_⟩
      · intro c hc
        rcases List.mem_append.1 hc with hc | hc
        · exact h1 c hc
        · rw [List.mem_singleton.1 hc, digit_nat hd]; omega
      · rw [dv_snoc, h2, digit_nat hd]; omega
      · intro _
        obtain ⟨c, ds, e, hc⟩ := h4 (by omega)
        exact ⟨c, ds ++ [UInt8.ofNat (48 + u % 10)], by rw [e]; rfl, hc⟩
      · intro k hk
        cases k with
        | zero => simp at hk; omega
        | succ k =>
          have := h5 k (by rw [Nat.pow_succ] at hk; omega)
          simp; omega
theorem goodB_of {l : Bs} (hd : Dg l) (hl : l.length ≤ 15) (h : ∃ c ds, l = c :: ds ∧ c ≠ 48) : goodB l = true := by
  obtain ⟨c, ds, rfl, hc⟩ := h
  simp only [goodB, Bool.and_eq_true, decide_eq_true_eq]
  exact ⟨⟨List.all_eq_true.2 fun x hx => by simpa using hd x hx, hl⟩, hc⟩
/-- The bits of a whole number. -/
def fb (n : Int) : Nat := wbits (decide (n < 0)) n.natAbs
theorem pfW_itoa (n : Int) (h1 : -1000 ≤ n) (h2 : n ≤ 1000) : pfW (Lib.itoa n) = .ok (fb n) := by
  unfold Lib.itoa fb
  by_cases hn : n < 0
  · rw [if_pos hn]
    obtain ⟨d1, d2, d3, d4, d5⟩ := dec_all n.natAbs
    have hl := d5 14 (by omega)
    have hg := goodB_of d1 hl (d4 (by omega))
    simp only [pfW, hg, if_true, d2, decide_eq_true hn]
  · rw [if_neg hn]
    by_cases h0 : n = 0
    · subst h0
      rw [show (0 : Int).toNat = 0 from rfl, decDigits_small (by decide)]
      have e : wbits (decide ((0 : Int) < 0)) (Int.natAbs 0) = 0 := by decide
      rw [e]
      rfl
    · have e1 : n.toNat = n.natAbs := by omega
      rw [e1]
      obtain ⟨d1, d2, d3, d4, d5⟩ := dec_all n.natAbs
      have hl := d5 14 (by omega)
      obtain ⟨c, ds, e, hc⟩ := d4 (by omega)
      have hg := goodB_of d1 hl ⟨c, ds, e, hc⟩
      have hd := d1
      rw [e] at hg d2 ⊢
      rw [e] at hd
      have hc45 : c ≠ 45 := by
        intro h
        have := (hd c (by simp)).1
        rw [h] at this
        revert this; decide
      have hne : ¬ c :: ds = [48] := by
        intro h
        simp at h
        exact hc h.1
      unfold pfW
      split
      · rename_i heq
        simp at heq
        exact absurd heq.1 hc45
      · rw [if_neg hne, if_pos hg, d2, decide_eq_false hn]
end Go.Proofs.YtghajgdiaopioaaGreatDoor
end

/- Plain: whole numbers as bits, as texts. Conditions: none. -/
section
set_option linter.unusedVariables false
set_option linter.unusedSimpArgs false
namespace Go.Proofs.YtghajgdiaopioaaGreatDoor
open Go.RowKit Go.Proofs Tx
open Go.Proofs.YtghajgdiaopioaaGreatDoorW.PrintWords

abbrev f64i (x : Nat) : Option Int := floatToIntVal .f64 x .i64
theorem f2i_all : (List.range 1001).all (fun m => f64i (floatOfInt .f64 (m : Int)) == some (m : Int) && (m == 0 || f64i (Op.negFloat .f64 (floatOfInt .f64 (m : Int))) == some (-(m : Int)))) = true := by
  decide +kernel
theorem f64i_fb (n : Int) (h1 : -1000 ≤ n) (h2 : n ≤ 1000) : f64i (fb n) = some n := by
  have h := List.all_eq_true.1 f2i_all n.natAbs (List.mem_range.2 (by omega))
  simp only [Bool.and_eq_true, Bool.or_eq_true, beq_iff_eq] at h
  unfold fb wbits
  by_cases hn : n < 0
  · rw [decide_eq_true hn, if_pos rfl]
    rcases h.2 with h0 | h0
    · omega
    · rw [h0]; congr 1; omega
  · rw [decide_eq_false hn, if_neg (by decide), h.1]; congr 1; omega
/-- The text of a coordinate. -/
def nfW (x : Nat) : Bs := Lib.itoa ((f64i x).getD 0)
theorem numOk (n : Int) (h1 : -1000 ≤ n) (h2 : n ≤ 1000) : NumOk pfW nfW (fb n) := by
  have e : nfW (fb n) = Lib.itoa n := by unfold nfW; rw [f64i_fb n h1 h2]; rfl
  obtain ⟨d1, d2, d3, d4, d5⟩ := dec_all n.natAbs
  have ht : ∀ c : UInt8, 48 ≤ c.toNat ∧ c.toNat ≤ 57 → Tx.Tok c := by
    intro c hc
    have hne : ∀ k : UInt8, (k.toNat < 48 ∨ 57 < k.toNat) → c ≠ k := by rintro k hk rfl; omega
    have hb : ∀ k : UInt8, (k.toNat < 48 ∨ 57 < k.toNat) → (c == k) = false := fun k hk => by simpa using hne k hk
    refine ⟨?_, hne 44 (by decide), hne 40 (by decide), hne 41 (by decide)⟩
    unfold isCl
    rw [hb 32 (by decide), hb 9 (by decide), hb 10 (by decide), hb 12 (by decide), hb 13 (by decide), hb 124 (by decide)]
    rfl
  refine ⟨?_, ?_, by rw [e]; exact pfW_itoa n h1 h2⟩
  · rw [e]; unfold Lib.itoa
    split
    · simp
    · have : n.toNat = n.natAbs := by omega
      rw [this]; exact d3
  · rw [e]; unfold Lib.itoa
    split
    · intro c hc
      rcases List.mem_cons.1 hc with rfl | hc
      · unfold Tx.Tok; decide
      · exact ht c (d1 c hc)
    · have : n.toNat = n.natAbs := by omega
      rw [this]
      exact fun c hc => ht c (d1 c hc)
end Go.Proofs.YtghajgdiaopioaaGreatDoor
end

/- Walks: Trunc, Abs, Signbit, IsWhole. Conditions: stand in each contract. -/
section
set_option linter.unusedVariables false
set_option linter.unusedSimpArgs false
namespace Go.Proofs.YtghajgdiaopioaaGreatDoor
open Go.RowKit Go.Proofs Tx
open Go.Proofs.YtghajgdiaopioaaGreatDoorW.PrintWords

@[go_sem] theorem run_bits64 (n : Nat) (w : World) : (callFunc 71 #[.float .f64 n]).run Tryz.prog w = .ok (.value (.int .u64 n)) w := by
  kernel_rfl
@[go_sem] theorem run_from64 (n : Nat) (w : World) : (callFunc 70 #[.int .u64 n]).run Tryz.prog w = .ok (.value (.float .f64 n)) w := by
  kernel_rfl
theorem call68 (x : Nat) (w : World) : (callFunc 68 #[.float .f64 x]).run Tryz.prog w = ((Extern.MathFloor.toIntegral "math.archTrunc" .zero #[.float .f64 x]).run Tryz.prog w).andThen fun v w' => .ok (.value v) w' :=
  run_callFunc_extern (e := Extern.MathFloor.toIntegral "math.archTrunc" .zero) Tryz.func68 (by kernel_rfl) (by kernel_rfl) (by kernel_rfl) (by kernel_rfl) _ _
/-- What Trunc makes of a number. -/
def truncB (x : Nat) : Nat := FloatKind.f64.encode ((FloatKind.f64.decode x).integral .zero)
theorem toInt_eq (x : Nat) : Extern.MathFloor.toIntegral "math.archTrunc" .zero #[.float .f64 x] = (match FloatKind.f64.decode x with
    | .nan s t => if FloatKind.f64.format.quiet t = t then pure (.float .f64 x) else do
        let kept ← choose (.extern "math.Floor,Ceil,Trunc,RoundToEven.signallingNaN kept" 2)
        pure (.float .f64 (if kept == 1 then x else FloatKind.f64.encode (.nan s (FloatKind.f64.format.quiet t))))
    | d => pure (.float .f64 (FloatKind.f64.encode (d.integral .zero)))) := by
  rfl
theorem run_trunc (x : Nat) (w : World) (h : (FloatKind.f64.decode x).isNaN = false) : (callFunc 68 #[.float .f64 x]).run Tryz.prog w = .ok (.value (.float .f64 (truncB x))) w := by
  rw [call68, toInt_eq]
  unfold truncB
  cases hd : FloatKind.f64.decode x with
  | nan s t => rw [hd] at h; cases h
  | infinity s => rfl
  | number s m p => rfl
set_option maxRecDepth 20000 in
theorem trunc_num (x : Nat) (w : World) (h : (FloatKind.f64.decode x).isNaN = false) :
    Calls Tryz.prog 45 #[.float .f64 x] w fun e w' => e = .returned (.float .f64 (truncB x)) ∧ w = w' := by
  have h1 := run_trunc x w h
  obtain ⟨y, hy⟩ : ∃ y, y = truncB x := ⟨_, rfl⟩
  rw [← hy] at h1 ⊢
  clear h hy
  go_enter Tryz.func45, Tryz.ntmps45
  go_wp2
  go_ret
  exact ⟨rfl, rfl⟩
set_option maxRecDepth 20000 in
theorem trunc_nan (x : Nat) (w : World) (h : (FloatKind.f64.decode x).isNaN = true) :
    Calls Tryz.prog 45 #[.float .f64 x] w fun e w' => (∃ y, e = .returned (.float .f64 y)) ∧ Below w.heap.size w w' := by
  have h1 : ∃ y w', (callFunc 68 #[.float .f64 x]).run Tryz.prog w = .ok (.value (.float .f64 y)) w' ∧ Below w.heap.size w w' := by
    rw [call68, toInt_eq]
    cases hd : FloatKind.f64.decode x with
    | nan s t =>
      by_cases hq : FloatKind.f64.format.quiet t = t
      · exact ⟨x, w, by simp only [if_pos hq]; rfl, Below.refl _ _⟩
      · simp only [if_neg hq]
        simp only [Sem.run_bind, run_choose_drew]
        split
        · exact ⟨_, _, rfl, Below.refl _ _⟩
        · exact ⟨_, _, rfl, below_drew _⟩
    | infinity s => rw [hd] at h; cases h
    | number s m p => rw [hd] at h; cases h
  obtain ⟨y, w', h1, h2⟩ := h1
  have HB := Lib.hid h2
  clear h h2
  go_enter Tryz.func45, Tryz.ntmps45
  go_wp2
  go_ret
  exact ⟨⟨_, rfl⟩, HB.out⟩
set_option maxRecDepth 20000 in
theorem abs_any (x : Nat) (w : World) (hx : x < 18446744073709551616) :
    Calls Tryz.prog 46 #[.float .f64 x] w fun e w' => e = .returned (.float .f64 (x % 9223372036854775808)) ∧ w = w' := by
  have hb : bits BinOp.andNot IntKind.u64 (x : Int) 9223372036854775808 = ((x % 9223372036854775808 : Nat) : Int) := by
    rw [u64_andNot _ _ (by omega) (by omega) (by omega) (by omega)]
    simp only [Int.toNat_natCast]
    rw [show (18446744073709551615 - (9223372036854775808 : Int).toNat) = 2 ^ 63 - 1 from rfl, Nat.and_two_pow_sub_one_eq_mod]
  obtain ⟨y, hy⟩ : ∃ y, y = x % 9223372036854775808 := ⟨_, rfl⟩
  rw [← hy] at hb ⊢
  clear hy
  go_enter Tryz.func46, Tryz.ntmps46
  go_wp2
  go_ret
  exact ⟨rfl, rfl⟩
theorem sign_any (x : Nat) (w : World) (hx : x < 18446744073709551616) :
    Calls Tryz.prog 47 #[.float .f64 x] w fun e w' => e = .returned (.bool (decide (9223372036854775808 ≤ x))) ∧ w = w' := by
  go_enter Tryz.func47, Tryz.ntmps47
  go_wp2
  go_ret
  refine ⟨ret_bool ?_, rfl⟩
  rw [decide_eq_decide]
  unfold wrap64
  omega

set_option maxRecDepth 20000 in
theorem whole_nan (x : Nat) (w : World) (hx : x < 18446744073709551616) (h : (FloatKind.f64.decode x).isNaN = true) :
    Calls Tryz.prog 23 #[.float .f64 x] w fun e w' => e = .returned (.bool false) ∧ Below w.heap.size w w' := by
  have hne : ∀ y, ¬ FloatKind.f64.format.order x y = some Ordering.eq := by
    intro y
    show ¬ (FloatKind.f64.decode x).order (FloatKind.f64.decode y) = some Ordering.eq
    cases hd : FloatKind.f64.decode x with
    | nan s t => simp [Ieee.Datum.order]
    | infinity s => rw [hd] at h; cases h
    | number s m p => rw [hd] at h; cases h
  go_enter Tryz.func23, Tryz.ntmps23
  go_wp2_with fail
  refine (trunc_nan x w h).mono ?_
  rintro e w' ⟨⟨y, rfl⟩, hb⟩
  have HB := Lib.hid hb
  have hy := hne y
  clear hb hne h
  go_wp2
  go_ret
  exact ⟨rfl, HB.out⟩
/-- Whole, not above 1000, no 0 with a sign: as the code asks. -/
structure WholeB (x : Nat) : Prop where
  num : (FloatKind.f64.decode x).isNaN = false
  whole : FloatKind.f64.format.order x (truncB x) = some Ordering.eq
  small : FloatKind.f64.format.order (x % 9223372036854775808) 4652007308841189376 = some Ordering.lt ∨ FloatKind.f64.format.order (x % 9223372036854775808) 4652007308841189376 = some Ordering.eq
  sign : FloatKind.f64.format.order x 0 = some Ordering.eq → x < 9223372036854775808
set_option maxRecDepth 20000 in
theorem whole_num (x : Nat) (w : World) (hx : x < 18446744073709551616) (h : (FloatKind.f64.decode x).isNaN = false) :
    Calls Tryz.prog 23 #[.float .f64 x] w fun e w' => ∃ b, e = .returned (.bool b) ∧ w = w' ∧ (b = true → WholeB x) := by
  have h1 := trunc_num x w h
  have h2 := abs_any x w hx
  have h3 := sign_any x w hx
  obtain ⟨y, hy⟩ : ∃ y, y = truncB x := ⟨_, rfl⟩
  obtain ⟨z, hz⟩ : ∃ z, z = x % 9223372036854775808 := ⟨_, rfl⟩
  rw [← hy] at h1
  rw [← hz] at h2
  have HY := Lib.hid hy
  have HZ := Lib.hid hz
  have HN := Lib.hid h
  clear hy hz h
  by_cases p1 : FloatKind.f64.format.order x y = some Ordering.eq
  · by_cases p2 : FloatKind.f64.format.order z 4652007308841189376 = some Ordering.lt ∨ FloatKind.f64.format.order z 4652007308841189376 = some Ordering.eq
    · by_cases p3 : FloatKind.f64.format.order x 0 = some Ordering.eq
      · go_enter Tryz.func23, Tryz.ntmps23
        go_wp2_with fail
        refine h1.mono ?_
        rintro e w' ⟨rfl, rfl⟩
        clear h1
        go_wp2_with fail
        refine h2.mono ?_
        rintro e w' ⟨rfl, rfl⟩
        clear h2
        go_wp2_with fail
        refine h3.mono ?_
        rintro e w' ⟨rfl, rfl⟩
        clear h3
        go_wp2
        all_goals
          go_ret
          refine ⟨_, rfl, rfl, fun hb => ⟨HN.out, by rw [← HY.out]; exact p1, by rw [← HZ.out]; exact p2, fun _ => ?_⟩⟩
          first
          | (by_cases hs : x < 9223372036854775808
             · exact hs
             · exfalso
               have : 9223372036854775808 ≤ x := by omega
               simp_all
               done)
          | omega
      · go_enter Tryz.func23, Tryz.ntmps23
        go_wp2_with fail
        refine h1.mono ?_
        rintro e w' ⟨rfl, rfl⟩
        clear h1
        go_wp2_with fail
        refine h2.mono ?_
        rintro e w' ⟨rfl, rfl⟩
        clear h2 h3
        go_wp2
        go_ret
        exact ⟨_, rfl, rfl, fun hb => ⟨HN.out, by rw [← HY.out]; exact p1, by rw [← HZ.out]; exact p2, fun h => absurd h p3⟩⟩
    · go_enter Tryz.func23, Tryz.ntmps23
      go_wp2_with fail
      refine h1.mono ?_
      rintro e w' ⟨rfl, rfl⟩
      clear h1
      go_wp2_with fail
      refine h2.mono ?_
      rintro e w' ⟨rfl, rfl⟩
      clear h2 h3
      go_wp2
      go_ret
      exact ⟨false, rfl, rfl, fun h => by cases h⟩
  · go_enter Tryz.func23, Tryz.ntmps23
    go_wp2_with fail
    refine h1.mono ?_
    rintro e w' ⟨rfl, rfl⟩
    clear h1 h2 h3
    go_wp2
    go_ret
    exact ⟨false, rfl, rfl, fun h => by cases h⟩
theorem whole_any (x : Nat) (w : World) (hx : x < 18446744073709551616) :
    Calls Tryz.prog 23 #[.float .f64 x] w fun e w' => ∃ b, e = .returned (.bool b) ∧ Below w.heap.size w w' ∧ (b = true → WholeB x) := by
  cases h : (FloatKind.f64.decode x).isNaN with
  | true => exact (whole_nan x w hx h).mono fun e w' ⟨h1, h2⟩ => ⟨false, h1, h2, fun h => by cases h⟩
  | false => exact (whole_num x w hx h).mono fun e w' ⟨b, h1, h2, h3⟩ => ⟨b, h1, h2 ▸ Below.refl _ _, h3⟩
end Go.Proofs.YtghajgdiaopioaaGreatDoor
end

/- Plain: a float that is whole and small is the float of an integer. Conditions: none. -/
section
set_option linter.unusedVariables false
set_option linter.unusedSimpArgs false
namespace Go.Proofs.YtghajgdiaopioaaGreatDoor
open Go.RowKit Go.Proofs Tx

abbrev rdF (x : Nat) : Ieee.Datum := FloatKind.f64.decode x
theorem read_low {x : Nat} (h : x % 9223372036854775808 < 4503599627370496) : rdF x = .number (x / 9223372036854775808 % 2 == 1) (x % 9223372036854775808) (-1074) := by
  show Ieee.Format.read Ieee.double x = _
  unfold Ieee.Format.read
  have e1 : Ieee.double.signWeight = 9223372036854775808 := by decide
  have e2 : Ieee.double.binade = 4503599627370496 := by decide
  have e3 : Ieee.double.leastPlace = -1074 := by decide
  simp only [e1, e2, e3, if_pos h]
theorem read_mid {x : Nat} (h : ¬ x % 9223372036854775808 < 4503599627370496) (h2 : x % 9223372036854775808 < 9218868437227405312) :
    rdF x = .number (x / 9223372036854775808 % 2 == 1) (4503599627370496 + x % 9223372036854775808 % 4503599627370496) (-1074 + ((x % 9223372036854775808 / 4503599627370496 - 1 : Nat) : Int)) := by
  show Ieee.Format.read Ieee.double x = _
  unfold Ieee.Format.read
  have e1 : Ieee.double.signWeight = 9223372036854775808 := by decide
  have e2 : Ieee.double.binade = 4503599627370496 := by decide
  have e3 : Ieee.double.leastPlace = -1074 := by decide
  have e4 : Ieee.double.infRung = 9218868437227405312 := by decide
  simp only [e1, e2, e3, e4, if_neg h, if_pos h2]
theorem read_inf {x : Nat} (h2 : x % 9223372036854775808 = 9218868437227405312) : rdF x = .infinity (x / 9223372036854775808 % 2 == 1) := by
  show Ieee.Format.read Ieee.double x = _
  unfold Ieee.Format.read
  have e1 : Ieee.double.signWeight = 9223372036854775808 := by decide
  have e2 : Ieee.double.binade = 4503599627370496 := by decide
  have e4 : Ieee.double.infRung = 9218868437227405312 := by decide
  simp only [e1, e2, e4, h2]
  rfl
theorem read_nan {x : Nat} (h2 : 9218868437227405312 < x % 9223372036854775808) : (rdF x).isNaN = true := by
  show (Ieee.Format.read Ieee.double x).isNaN = true
  unfold Ieee.Format.read
  have e1 : Ieee.double.signWeight = 9223372036854775808 := by decide
  have e2 : Ieee.double.binade = 4503599627370496 := by decide
  have e4 : Ieee.double.infRung = 9218868437227405312 := by decide
  simp only [e1, e2, e4]
  rw [if_neg (by omega), if_neg (by omega), if_neg (by omega)]
  rfl
theorem read_1000 : rdF 4652007308841189376 = .number false 8796093022208000 (-43) := by decide +kernel
/-- The float of a small integer, its parts. -/
theorem table : (List.range 1024).all (fun n => n == 0 || [true, false].all fun s =>
    rdF (FloatKind.f64.encode (.number s n 0)) == .number s (n <<< (52 - n.log2)) ((n.log2 : Int) - 52) && FloatKind.f64.encode (.number s n 0) == (if s then 9223372036854775808 else 0) + ((1023 + n.log2) * 4503599627370496 + (n <<< (52 - n.log2)) - 4503599627370496) && decide (4503599627370496 ≤ n <<< (52 - n.log2) ∧ n <<< (52 - n.log2) < 9007199254740992 ∧ n.log2 ≤ 9)) = true := by
  decide +kernel
theorem negs : (List.range 1024).all (fun n => n == 0 || Op.negFloat .f64 (floatOfInt .f64 (n : Int)) == FloatKind.f64.encode (.number true n 0)) = true := by
  decide +kernel
end Go.Proofs.YtghajgdiaopioaaGreatDoor
end
