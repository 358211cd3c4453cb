/- Walks and plain laws joined (Pa, Pb, Na, Nb, Fa, Fb, Fc). Conditions: stand in each law. -/
import Derived.Test.YtghajgdiaopioaaGreatDoorJc
import Derived.WalkMore
import Derived.Test.YtghajgdiaopioaaGreatDoorJd
import Derived.Lib.ItoaNum
import Derived.Lib.ItoaMem
import Derived.Laws.FloatArith
import Derived.Laws.BitsAllLaws
import Derived.Laws.BitsAll
set_option linter.unusedVariables false
set_option linter.unusedSimpArgs false
section
/- Walks: readFloat on the digits of a whole number. Conditions: stand in each contract. -/
namespace Go.Proofs.YtghajgdiaopioaaGreatDoor
open Go.RowKit Go.Proofs Tx
open Go.Proofs.YtghajgdiaopioaaGreatDoorW.PrintWords
theorem results_tmp7 {fn : Func} {t u v x y z q : Tmp} (h : fn.results = #[.tmp t, .tmp u, .tmp v, .tmp x, .tmp y, .tmp z, .tmp q]) (tmps : Array Value) (P : Program) (w : World) :
    (results fn tmps).run P w = .ok (.tuple #[tmps.getD t undef, tmps.getD u undef, tmps.getD v undef, tmps.getD x undef, tmps.getD y undef, tmps.getD z undef, tmps.getD q undef]) w := by
  simp [results, h]

/-- The number that digits write. -/
def dv (ds : Bs) : Nat := ds.foldl (fun a c => a * 10 + (c.toNat - 48)) 0
theorem dv_snoc (ds : Bs) (c : UInt8) : dv (ds ++ [c]) = dv ds * 10 + (c.toNat - 48) := by simp [dv]
def Dg (ds : Bs) : Prop := ∀ c ∈ ds, 48 ≤ c.toNat ∧ c.toNat ≤ 57
theorem dv_lt_len : ∀ (n : Nat) (ds : Bs), ds.length = n → Dg ds → dv ds < 10 ^ n
  | 0, ds, hn, _ => by
    have : ds = [] := List.length_eq_zero_iff.1 hn
    subst this; simp [dv]
  | n + 1, ds, hn, h => by
    obtain ⟨ds, c, rfl⟩ := snoc_of_ne (l := ds) (by rintro rfl; simp at hn)
    rw [dv_snoc]
    have h1 := dv_lt_len n ds (by simpa using hn) (fun x hx => h x (by simp [hx]))
    have h2 := h c (by simp)
    rw [Nat.pow_succ]
    omega
theorem dv_lt (ds : Bs) (h : Dg ds) : dv ds < 10 ^ ds.length := dv_lt_len _ ds rfl h

set_option maxRecDepth 20000 in
set_option maxHeartbeats 4000000 in
theorem readF_pos (c0 : UInt8) (ds : Bs) (w : World) (hd : Dg (c0 :: ds)) (hl : (c0 :: ds).length ≤ 18) (h0 : c0 ≠ 48) :
    Calls Tryz.prog 162 #[S (c0 :: ds)] w fun e w' => e = .returned (.tuple #[.int .u64 (dv (c0 :: ds)), .int .i64 0, .bool false, .bool false, .bool false, .int .i64 (c0 :: ds).length, .bool true]) ∧ w = w' := by
  obtain ⟨l, hle⟩ : ∃ l, l = c0 :: ds := ⟨_, rfl⟩
  have hlen : 0 < l.length := by rw [hle]; simp
  have hl0 : ∀ h, (ByteArray.mk l.toArray)[0]'h = c0 := by subst hle; intro h; rfl
  rw [← hle] at hd hl ⊢
  have hc := hd c0 (by rw [hle]; simp)
  have t43 : ((c0.toNat : Int) == 43) = false := by rw [beq_eq_false_iff_ne]; omega
  have t45 : ((c0.toNat : Int) == 45) = false := by rw [beq_eq_false_iff_ne]; omega
  have t48 : ((c0.toNat : Int) == 48) = false := by
    rw [beq_eq_false_iff_ne]
    intro e
    exact h0 (by rw [← UInt8.toNat_inj]; exact_mod_cast e)
  have hne : ¬ l = [] := by rw [hle]; simp
  have HL := Lib.hid hle
  have hdv : dv l < 10 ^ l.length := dv_lt l hd
  clear hle hdv
  rcases (by omega : (2 : Int) < l.length ∨ (l.length : Int) ≤ 2) with hl2 | hl2
  all_goals
    go_enter Tryz.func162, Tryz.ntmps162
    go_wp2
    go_step3
    go_wp2
    try go_step3
    go_wp2
    go_loop [2, 5, 7, 9, 13, 14, 15, 16] (fun v2 v5 v7 v9 v13 v14 v15 v16 => ∃ k : Nat, k ≤ l.length ∧ v2 = .int .u64 (dv (l.take k)) ∧ v5 = .bool false ∧ v7 = .int .i64 k ∧ v9 = .bool false ∧ v13 = .bool false ∧ v14 = .bool (decide (0 < k)) ∧ v15 = .int .i64 k ∧ v16 = .int .i64 k) (fun v2 v5 v7 v9 v13 v14 v15 v16 => l.length - (intOf v7).toNat)
    case atStart => exact ⟨0, Nat.zero_le _, rfl, rfl, rfl, rfl, rfl, rfl, rfl, rfl⟩
    case round =>
      obtain ⟨k, hk, rfl, rfl, rfl, rfl, rfl, rfl, rfl, rfl⟩ := hrel
      have hkl : dv (l.take k) < 10 ^ k := by
        have := dv_lt (l.take k) (fun c hc => hd c (List.mem_of_mem_take hc))
        rwa [List.length_take, Nat.min_eq_left hk] at this
      have hp : (10 : Nat) ^ k ≤ 10 ^ 18 := Nat.pow_le_pow_right (by decide) (by omega)
      obtain ⟨M, hM⟩ : ∃ M, M = dv (l.take k) := ⟨_, rfl⟩
      by_cases hgo : k < l.length
      · obtain ⟨c, hcc⟩ : ∃ c : UInt8, ∀ h, (ByteArray.mk l.toArray)[k]'h = c := ⟨l[k], fun _ => rfl⟩
        have hlk : l[k] = c := hcc (by simpa [ByteArray.size] using hgo)
        have hcd := hd c (by rw [← hlk]; exact List.getElem_mem hgo)
        have hsn : dv (l.take (k + 1)) = dv (l.take k) * 10 + (c.toNat - 48) := by
          rw [List.take_add_one, List.getElem?_eq_getElem hgo, hlk]; exact dv_snoc _ _
        have hz : ((c.toNat : Int) == 48 && (k : Int) == 0) = false := by
          by_cases e : k = 0
          · subst e
            have : c = c0 := by rw [← hlk]; have := hl0 (by simpa [ByteArray.size] using hlen); exact this
            rw [this, t48]; rfl
          · have : ((k : Int) == 0) = false := by rw [beq_eq_false_iff_ne]; omega
            rw [this, Bool.and_false]
        have c95 : ((c.toNat : Int) == 95) = false := by rw [beq_eq_false_iff_ne]; omega
        have c46 : ((c.toNat : Int) == 46) = false := by rw [beq_eq_false_iff_ne]; omega
        rw [← hM] at hkl hsn ⊢
        have HS := Lib.hid hsn
        have HZ := Lib.hid hz
        have hML : M < 1000000000000000000 := by omega
        clear hsn hlk hz hM hkl hp
        go_wp2
        all_goals first
          | (exfalso; have := HZ.out; simp_all; done)
          | (refine ⟨⟨k + 1, by omega, ?_, rfl, by go_num, rfl, rfl, by simp, by go_num, by go_num⟩, by simp [intOf]; omega⟩
             rw [HS.out]
             congr 1
             omega)
      · obtain rfl : k = l.length := by omega
        rw [← hM]
        have HM := Lib.hid hM
        have hML : M < 1000000000000000000 := by omega
        clear hM hkl hp
        go_wp2
        all_goals
          ((try simp only [Exit.inBlock, Exit.then]); refine bodyPost_ret (results_tmp7 rfl _ _ _) rfl ?_)
          refine ⟨?_, rfl⟩
          have e := HM.out
          rw [List.take_length] at e
          rw [← e]
          rfl
set_option maxRecDepth 20000 in
set_option maxHeartbeats 4000000 in
theorem readF_neg (c0 : UInt8) (ds : Bs) (w : World) (hd : Dg (c0 :: ds)) (hl : (c0 :: ds).length ≤ 18) (h0 : c0 ≠ 48) :
    Calls Tryz.prog 162 #[S (45 :: c0 :: ds)] w fun e w' => e = .returned (.tuple #[.int .u64 (dv (c0 :: ds)), .int .i64 0, .bool true, .bool false, .bool false, .int .i64 (45 :: c0 :: ds).length, .bool true]) ∧ w = w' := by
  obtain ⟨l, hle⟩ : ∃ l, l = c0 :: ds := ⟨_, rfl⟩
  have hlen : 0 < l.length := by rw [hle]; simp
  have hl0 : l[0]'hlen = c0 := by subst hle; rfl
  have hb0 : ∀ h, (ByteArray.mk (45 :: l).toArray)[0]'h = (45 : UInt8) := fun _ => rfl
  have hb1 : ∀ h, (ByteArray.mk (45 :: l).toArray)[1]'h = c0 := by subst hle; intro h; rfl
  rw [← hle] at hd hl ⊢
  have hc := hd c0 (by rw [hle]; simp)
  have t43 : ((c0.toNat : Int) == 43) = false := by rw [beq_eq_false_iff_ne]; omega
  have t45 : ((c0.toNat : Int) == 45) = false := by rw [beq_eq_false_iff_ne]; omega
  have t48 : ((c0.toNat : Int) == 48) = false := by
    rw [beq_eq_false_iff_ne]
    intro e
    exact h0 (by rw [← UInt8.toNat_inj]; exact_mod_cast e)
  have hne : ¬ l = [] := by rw [hle]; simp
  have HL := Lib.hid hle
  have hdv : dv l < 10 ^ l.length := dv_lt l hd
  clear hle hdv
  rcases (by omega : (2 : Int) < l.length ∨ (l.length : Int) ≤ 2) with hl2 | hl2
  all_goals
    go_enter Tryz.func162, Tryz.ntmps162
    go_wp2
    go_step3
    go_wp2
    try go_step3
    go_wp2
    go_loop [2, 5, 7, 9, 13, 14, 15, 16] (fun v2 v5 v7 v9 v13 v14 v15 v16 => ∃ k : Nat, k ≤ l.length ∧ v2 = .int .u64 (dv (l.take k)) ∧ v5 = .bool false ∧ v7 = .int .i64 (k + 1 : Nat) ∧ v9 = .bool false ∧ v13 = .bool false ∧ v14 = .bool (decide (0 < k)) ∧ v15 = .int .i64 k ∧ v16 = .int .i64 k) (fun v2 v5 v7 v9 v13 v14 v15 v16 => l.length + 1 - (intOf v7).toNat)
    case atStart => exact ⟨0, Nat.zero_le _, rfl, rfl, rfl, rfl, rfl, rfl, rfl, rfl⟩
    case round =>
      obtain ⟨k, hk, rfl, rfl, rfl, rfl, rfl, rfl, rfl, rfl⟩ := hrel
      have hkl : dv (l.take k) < 10 ^ k := by
        have := dv_lt (l.take k) (fun c hc => hd c (List.mem_of_mem_take hc))
        rwa [List.length_take, Nat.min_eq_left hk] at this
      have hp : (10 : Nat) ^ k ≤ 10 ^ 18 := Nat.pow_le_pow_right (by decide) (by omega)
      obtain ⟨M, hM⟩ : ∃ M, M = dv (l.take k) := ⟨_, rfl⟩
      by_cases hgo : k < l.length
      · obtain ⟨c, hcc⟩ : ∃ c : UInt8, ∀ h, (ByteArray.mk (45 :: l).toArray)[k + 1]'h = c := ⟨l[k], fun _ => rfl⟩
        have hlk : l[k] = c := hcc (by simp [ByteArray.size]; omega)
        have hcd := hd c (by rw [← hlk]; exact List.getElem_mem hgo)
        have hsn : dv (l.take (k + 1)) = dv (l.take k) * 10 + (c.toNat - 48) := by
          rw [List.take_add_one, List.getElem?_eq_getElem hgo, hlk]; exact dv_snoc _ _
        have hz : ((c.toNat : Int) == 48 && (k : Int) == 0) = false := by
          by_cases e : k = 0
          · subst e
            have : c = c0 := by rw [← hlk]; exact hl0
            rw [this, t48]; rfl
          · have : ((k : Int) == 0) = false := by rw [beq_eq_false_iff_ne]; omega
            rw [this, Bool.and_false]
        have c95 : ((c.toNat : Int) == 95) = false := by rw [beq_eq_false_iff_ne]; omega
        have c46 : ((c.toNat : Int) == 46) = false := by rw [beq_eq_false_iff_ne]; omega
        rw [← hM] at hkl hsn ⊢
        have HS := Lib.hid hsn
        have HZ := Lib.hid hz
        have hML : M < 1000000000000000000 := by omega
        clear hsn hlk hz hM hkl hp
        go_wp2
        all_goals first
          | (exfalso; have := HZ.out; simp_all; done)
          | (refine ⟨⟨k + 1, by omega, ?_, rfl, by go_num, rfl, rfl, by simp, by go_num, by go_num⟩, by simp [intOf]; omega⟩
             rw [HS.out]
             congr 1
             omega)
      · obtain rfl : k = l.length := by omega
        rw [← hM]
        have HM := Lib.hid hM
        have hML : M < 1000000000000000000 := by omega
        clear hM hkl hp
        go_wp2
        all_goals
          ((try simp only [Exit.inBlock, Exit.then]); refine bodyPost_ret (results_tmp7 rfl _ _ _) rfl ?_)
          refine ⟨?_, rfl⟩
          have e := HM.out
          rw [List.take_length] at e
          rw [← e]
          rfl
set_option maxRecDepth 20000 in
set_option maxHeartbeats 4000000 in
theorem readF_zero (w : World) :
    Calls Tryz.prog 162 #[S [48]] w fun e w' => e = .returned (.tuple #[.int .u64 0, .int .i64 0, .bool false, .bool false, .bool false, .int .i64 1, .bool true]) ∧ w = w' := by
  go_enter Tryz.func162, Tryz.ntmps162
  go_wp2
  go_step3
  go_wp2
  try go_step3
  go_wp2
  go_loop [2, 5, 7, 9, 13, 14, 15, 16, 17] (fun v2 v5 v7 v9 v13 v14 v15 v16 v17 => ∃ k : Nat, k ≤ 1 ∧ v17 = .int .i64 (-(k : Int)) ∧ v2 = .int .u64 0 ∧ v5 = .bool false ∧ v7 = .int .i64 k ∧ v9 = .bool false ∧ v13 = .bool false ∧ v14 = .bool (decide (0 < k)) ∧ v15 = .int .i64 0 ∧ v16 = .int .i64 0) (fun v2 v5 v7 v9 v13 v14 v15 v16 v17 => 1 - (intOf v7).toNat)
  case atStart => exact ⟨0, Nat.zero_le _, rfl, rfl, rfl, rfl, rfl, rfl, rfl, rfl, rfl⟩
  case round =>
    obtain ⟨k, hk, rfl, rfl, rfl, rfl, rfl, rfl, rfl, rfl, rfl⟩ := hrel
    rcases (by omega : k = 0 ∨ k = 1) with rfl | rfl
    · go_wp2
      exact ⟨⟨1, Nat.le_refl _, rfl, rfl, rfl, rfl, rfl, rfl, rfl, rfl, rfl⟩, by simp [intOf]⟩
    · go_wp2
      ((try simp only [Exit.inBlock, Exit.then]); refine bodyPost_ret (results_tmp7 rfl _ _ _) rfl ?_)
      exact ⟨rfl, rfl⟩
/-! Walks: ParseFloat on whole numbers. -/
theorem exact_pos (m : Nat) (w : World) (hm : m < 4503599627370496) (h16 : w.cell? ⟨16, 0, none⟩ = some (.int .u64 52)) :
    Calls Tryz.prog 172 #[.int .u64 m, .int .i64 0, .bool false] w fun e w' => e = .returned (.tuple #[.float .f64 (floatOfInt .f64 m), .bool true]) ∧ w = w' := by
  have hs : (m >>> 52 : Nat) = 0 := by rw [Nat.shiftRight_eq_div_pow]; exact Nat.div_eq_of_lt hm
  go_enter Tryz.func172, Tryz.ntmps172
  go_wp2
  go_ret2
  exact ⟨rfl, rfl⟩

@[go_sem] theorem run_neg_float (P : Program) (w : World) (k : FloatKind) (b : Nat) : (Op.unary UnOp.neg (.float k b)).run P w = .ok (.float k (Op.negFloat k b)) w := rfl
theorem exact_neg (m : Nat) (w : World) (hm : m < 4503599627370496) (h16 : w.cell? ⟨16, 0, none⟩ = some (.int .u64 52)) :
    Calls Tryz.prog 172 #[.int .u64 m, .int .i64 0, .bool true] w fun e w' => e = .returned (.tuple #[.float .f64 (Op.negFloat .f64 (floatOfInt .f64 m)), .bool true]) ∧ w = w' := by
  go_enter Tryz.func172, Tryz.ntmps172
  go_wp2
  go_ret2
  exact ⟨rfl, rfl⟩
theorem special_dig (c : UInt8) (l : Bs) (w : World) (hl : (c :: l).length ≤ 1000000000) (hc : 48 ≤ c.toNat ∧ c.toNat ≤ 57) :
    Calls Tryz.prog 161 #[S (c :: l)] w fun e w' => e = .returned (.tuple #[.float .f64 0, .int .i64 0, .bool false]) ∧ w = w' := by
  obtain ⟨d, hd⟩ : ∃ d : UInt8, ∀ h, (ByteArray.mk (c :: l).toArray)[0]'h = d := ⟨c, fun _ => rfl⟩
  have hdc : d = c := (hd (by simp [ByteArray.size])).symm
  subst hdc
  have t1 : ((d.toNat : Int) == 43) = false := by rw [beq_eq_false_iff_ne]; omega
  have t2 : ((d.toNat : Int) == 45) = false := by rw [beq_eq_false_iff_ne]; omega
  have t3 : ((d.toNat : Int) == 105) = false := by rw [beq_eq_false_iff_ne]; omega
  have t4 : ((d.toNat : Int) == 73) = false := by rw [beq_eq_false_iff_ne]; omega
  have t5 : ((d.toNat : Int) == 110) = false := by rw [beq_eq_false_iff_ne]; omega
  have t6 : ((d.toNat : Int) == 78) = false := by rw [beq_eq_false_iff_ne]; omega
  go_enter Tryz.func161, Tryz.ntmps161
  go_wp2
  go_ret3
  exact ⟨rfl, rfl⟩
theorem cpl_zero (c : UInt8) (l t : Bs) (w : World) (hl : (c :: l).length ≤ 1000000000) (hc : 48 ≤ c.toNat ∧ c.toNat ≤ 57) (x : UInt8) (hx : 105 ≤ x.toNat) (ht : (x :: t).length ≤ 1000) :
    Calls Tryz.prog 193 #[S (c :: l), S (x :: t)] w fun e w' => e = .returned (.int .i64 0) ∧ w = w' := by
  obtain ⟨d, hd⟩ : ∃ d : UInt8, ∀ h, (ByteArray.mk (c :: l).toArray)[0]'h = d := ⟨c, fun _ => rfl⟩
  have hdc : d = c := (hd (by simp [ByteArray.size])).symm
  subst hdc
  obtain ⟨y, hy⟩ : ∃ y : UInt8, ∀ h, (ByteArray.mk (x :: t).toArray)[0]'h = y := ⟨x, fun _ => rfl⟩
  have hyc : y = x := (hy (by simp [ByteArray.size])).symm
  subst hyc
  have hne : ((d.toNat : Int) != y.toNat) = true := by rw [bne_iff_ne]; omega
  go_enter Tryz.func193, Tryz.ntmps193
  go_wp2
  all_goals
    go_loop [6] (fun v6 => ∃ k : Nat, k = 0 ∧ v6 = .int .i64 k) (fun v6 => 5 - (intOf v6).toNat)
    case atStart => exact ⟨0, rfl, rfl⟩
    case round =>
      obtain ⟨k, rfl, rfl⟩ := hrel
      go_wp2
      go_ret
      exact ⟨rfl, rfl⟩

theorem special_neg (c : UInt8) (l : Bs) (w : World) (hl : (c :: l).length ≤ 1000000) (hc : 48 ≤ c.toNat ∧ c.toNat ≤ 57) :
    Calls Tryz.prog 161 #[S (45 :: c :: l)] w fun e w' => e = .returned (.tuple #[.float .f64 0, .int .i64 0, .bool false]) ∧ w = w' := by
  have hb0 : ∀ h, (ByteArray.mk (45 :: c :: l).toArray)[0]'h = (45 : UInt8) := fun _ => rfl
  have hcall := cpl_zero c l [110, 102, 105, 110, 105, 116, 121] w (by omega) hc 105 (by decide) (by decide)
  go_enter Tryz.func161, Tryz.ntmps161
  go_wp2_with fail
  refine hcall.mono ?_
  rintro e w' ⟨rfl, rfl⟩
  clear hcall
  go_wp2
  go_ret3
  exact ⟨rfl, rfl⟩
/-- The bits of a whole number as the reader makes them. -/
def wbits (neg : Bool) (m : Nat) : Nat := if neg then Op.negFloat .f64 (floatOfInt .f64 m) else floatOfInt .f64 m
theorem b2u (b : Bool) (w : World) : Calls Tryz.prog 170 #[.bool b] w fun e w' => e = .returned (.int .u64 (if b then 1 else 0)) ∧ w = w' := by
  go_enter Tryz.func170, Tryz.ntmps170
  cases b
  all_goals
    go_wp2
    go_ret
    exact ⟨rfl, rfl⟩

/-- What the digits and the sign come to. -/
structure Tok (T : Bs) (neg : Bool) (m : Nat) : Prop where
  len : T.length ≤ 1000
  small : m < 4503599627370496
  pos : m = 0 → neg = false
  sp : ∀ w, Calls Tryz.prog 161 #[S T] w fun e w' => e = .returned (.tuple #[.float .f64 0, .int .i64 0, .bool false]) ∧ w = w'
  rd : ∀ w, Calls Tryz.prog 162 #[S T] w fun e w' => e = .returned (.tuple #[.int .u64 m, .int .i64 0, .bool neg, .bool false, .bool false, .int .i64 T.length, .bool true]) ∧ w = w'

set_option maxRecDepth 20000 in
set_option maxHeartbeats 4000000 in
theorem atof_ne (T : Bs) (neg : Bool) (m : Nat) (h : Tok T neg m) (hm : m ≠ 0) (w : World) (h16 : w.cell? ⟨16, 0, none⟩ = some (.int .u64 52)) (h14 : w.cell? ⟨14, 0, none⟩ = some (.bool true)) :
    Calls Tryz.prog 143 #[S T] w fun e w' => e = .returned (.tuple #[.float .f64 (wbits neg m), .int .i64 T.length, .nilIface]) ∧ w = w' := by
  have h1 := h.sp w
  have h2 := h.rd w
  have h3 := b2u neg w
  have h4 : Calls Tryz.prog 172 #[.int .u64 m, .int .i64 0, .bool neg] w fun e w' => e = .returned (.tuple #[.float .f64 (wbits neg m), .bool true]) ∧ w = w' := by
    cases neg
    · simp only [wbits, Bool.false_eq_true, if_false]
      exact exact_pos m w h.small h16
    · simp only [wbits, if_true]
      exact exact_neg m w h.small h16
  have hm0 : ((m : Int) == 0) = false := by rw [beq_eq_false_iff_ne]; omega
  clear h h16 hm
  obtain ⟨b, hb⟩ : ∃ b, b = wbits neg m := ⟨_, rfl⟩
  rw [← hb] at h4 ⊢
  clear hb
  cases neg
  all_goals
    go_enter Tryz.func143, Tryz.ntmps143
    go_wp2_with fail
    refine h1.mono ?_
    rintro e w' ⟨rfl, rfl⟩
    clear h1
    go_wp2_with fail
    refine h2.mono ?_
    rintro e w' ⟨rfl, rfl⟩
    clear h2
    go_wp2_with fail
    refine h3.mono ?_
    rintro e w' ⟨rfl, rfl⟩
    clear h3
    go_wp2_with fail
    refine h4.mono ?_
    rintro e w' ⟨rfl, rfl⟩
    clear h4
    go_wp2
    go_ret3
    exact ⟨rfl, rfl⟩
@[go_sem] theorem run_frombits (n : Nat) (w : World) : (callFunc 171 #[.int .u64 n]).run Tryz.prog w = .ok (.value (.float .f64 n)) w := by
  kernel_rfl
@[go_sem] theorem run_frombits0 (w : World) : (callFunc 171 #[.int .u64 0]).run Tryz.prog w = .ok (.value (.float .f64 0)) w := by
  kernel_rfl
@[go_sem] theorem or00 : bits BinOp.or IntKind.u64 0 0 = 0 := by decide
set_option maxRecDepth 20000 in
theorem atof_0 (T : Bs) (h : Tok T false 0) (w : World) (h14 : w.cell? ⟨14, 0, none⟩ = some (.bool true)) :
    Calls Tryz.prog 143 #[S T] w fun e w' => e = .returned (.tuple #[.float .f64 0, .int .i64 T.length, .nilIface]) ∧ w = w' := by
  have h1 := h.sp w
  have h2 := h.rd w
  have h3 := b2u false w
  clear h
  go_enter Tryz.func143, Tryz.ntmps143
  go_wp2_with fail
  refine h1.mono ?_
  rintro e w' ⟨rfl, rfl⟩
  clear h1
  go_wp2_with fail
  refine h2.mono ?_
  rintro e w' ⟨rfl, rfl⟩
  clear h2
  go_wp2_with fail
  refine h3.mono ?_
  rintro e w' ⟨rfl, rfl⟩
  clear h3
  go_wp2
  go_ret3
  exact ⟨rfl, rfl⟩

theorem wbits_0 : wbits false 0 = 0 := by decide
theorem atof_tok (T : Bs) (neg : Bool) (m : Nat) (h : Tok T neg m) (w : World) (h16 : w.cell? ⟨16, 0, none⟩ = some (.int .u64 52)) (h14 : w.cell? ⟨14, 0, none⟩ = some (.bool true)) :
    Calls Tryz.prog 143 #[S T] w fun e w' => e = .returned (.tuple #[.float .f64 (wbits neg m), .int .i64 T.length, .nilIface]) ∧ w = w' := by
  by_cases hm : m = 0
  · subst hm
    have := h.pos rfl
    subst this
    rw [wbits_0]
    exact atof_0 T h w h14
  · exact atof_ne T neg m h hm w h16 h14
theorem parse_tok (T : Bs) (neg : Bool) (m : Nat) (h : Tok T neg m) (w : World) (h16 : w.cell? ⟨16, 0, none⟩ = some (.int .u64 52)) (h14 : w.cell? ⟨14, 0, none⟩ = some (.bool true)) :
    Calls Tryz.prog 104 #[S T, .int .i64 64] w fun e w' => e = .returned (.tuple #[.float .f64 (wbits neg m), .nilIface]) ∧ w = w' := by
  have h1 := atof_tok T neg m h w h16 h14
  obtain ⟨b, hb⟩ : ∃ b, b = wbits neg m := ⟨_, rfl⟩
  rw [← hb] at h1 ⊢
  clear hb h16 h14 h
  have h2 : Calls Tryz.prog 128 #[S T, .int .i64 64] w fun e w' => e = .returned (.tuple #[.float .f64 b, .int .i64 T.length, .nilIface]) ∧ w = w' := by
    go_enter Tryz.func128, Tryz.ntmps128
    go_wp2_with fail
    refine h1.mono ?_
    rintro e w' ⟨rfl, rfl⟩
    clear h1
    go_wp2
    go_ret3
    exact ⟨rfl, rfl⟩
  have h3 : Calls Tryz.prog 114 #[S T, .int .i64 64] w fun e w' => e = .returned (.tuple #[.float .f64 b, .nilIface]) ∧ w = w' := by
    clear h1
    go_enter Tryz.func114, Tryz.ntmps114
    go_wp2_with fail
    refine h2.mono ?_
    rintro e w' ⟨rfl, rfl⟩
    clear h2
    go_wp2
    go_ret2
    exact ⟨rfl, rfl⟩
  clear h1 h2
  go_enter Tryz.func104, Tryz.ntmps104
  go_wp2_with fail
  refine h3.mono ?_
  rintro e w' ⟨rfl, rfl⟩
  clear h3
  go_wp2
  go_ret2
  exact ⟨rfl, rfl⟩
theorem tok_pos (c : UInt8) (ds : Bs) (hd : Dg (c :: ds)) (hl : (c :: ds).length ≤ 15) (h0 : c ≠ 48) : Tok (c :: ds) false (dv (c :: ds)) where
  len := by omega
  small := Nat.lt_of_lt_of_le (dv_lt _ hd) (Nat.le_trans (Nat.pow_le_pow_right (by decide) hl) (by decide))
  pos := fun _ => rfl
  sp := fun w => special_dig c ds w (by omega) (hd c (by simp))
  rd := fun w => readF_pos c ds w hd (by omega) h0
theorem dv_pos (c : UInt8) (ds : Bs) (hd : Dg (c :: ds)) (h0 : c ≠ 48) : dv (c :: ds) ≠ 0 := by
  have hc := hd c (by simp)
  have h1 : 1 ≤ c.toNat - 48 := by
    have : c.toNat ≠ 48 := fun e => h0 (by rw [← UInt8.toNat_inj]; exact e)
    omega
  have : ∀ (l : Bs) (a : Nat), 1 ≤ a → 1 ≤ l.foldl (fun a c => a * 10 + (c.toNat - 48)) a := by
    intro l
    induction l with
    | nil => intro a h; exact h
    | cons x l ih => intro a h; exact ih (a * 10 + (x.toNat - 48)) (by omega)
  have h2 := this ds (0 * 10 + (c.toNat - 48)) (by omega)
  unfold dv
  simp only [List.foldl_cons]
  omega
theorem tok_neg (c : UInt8) (ds : Bs) (hd : Dg (c :: ds)) (hl : (c :: ds).length ≤ 15) (h0 : c ≠ 48) : Tok (45 :: c :: ds) true (dv (c :: ds)) where
  len := by simp only [List.length_cons] at *; omega
  small := Nat.lt_of_lt_of_le (dv_lt _ hd) (Nat.le_trans (Nat.pow_le_pow_right (by decide) hl) (by decide))
  pos := fun h => absurd h (dv_pos c ds hd h0)
  sp := fun w => special_neg c ds w (by omega) (hd c (by simp))
  rd := fun w => readF_neg c ds w hd (by omega) h0
theorem tok_zero : Tok [48] false 0 where
  len := by decide
  small := by decide
  pos := fun _ => rfl
  sp := fun w => special_dig 48 [] w (by decide) (by decide)
  rd := fun w => readF_zero w
/-! Plain: the texts of whole numbers, and what the reader makes of them. -/
/-- Digits that the reader is known on. -/
def goodB : Bs → Bool
  | [] => false
  | c :: ds => (c :: ds).all (fun x => decide (48 ≤ x.toNat ∧ x.toNat ≤ 57)) && decide ((c :: ds).length ≤ 15) && decide (c ≠ 48)
/-- What is known of ParseFloat: whole numbers. -/
def pfW : Bs → Rd Nat
  | 45 :: ds => if goodB ds then .ok (wbits true (dv ds)) else .unk
  | l => if l = [48] then .ok 0 else if goodB l then .ok (wbits false (dv l)) else .unk
theorem goodB_spec {l : Bs} (h : goodB l = true) : ∃ c ds, l = c :: ds ∧ Dg (c :: ds) ∧ (c :: ds).length ≤ 15 ∧ c ≠ 48 := by
  cases l with
  | nil => cases h
  | cons c ds =>
    simp only [goodB, Bool.and_eq_true, decide_eq_true_eq] at h
    obtain ⟨⟨h1, h2⟩, h3⟩ := h
    refine ⟨c, ds, rfl, fun x hx => ?_, h2, h3⟩
    have := List.all_eq_true.1 h1 x hx
    simpa using this
theorem pfW_ok : PfOk pfW := by
  intro l
  have key : pfW l = .unk ∨ ∃ neg m, Tok l neg m ∧ pfW l = .ok (wbits neg m) := by
    unfold pfW
    split
    · rename_i ds
      cases hg : goodB ds with
      | false => left; simp
      | true =>
        obtain ⟨c, r, rfl, hd, hl, h0⟩ := goodB_spec hg
        right
        exact ⟨true, _, tok_neg c r hd hl h0, by simp⟩
    · by_cases h48 : l = [48]
      · subst h48
        right
        exact ⟨false, 0, tok_zero, by rw [wbits_0]; simp⟩
      · cases hg : goodB l with
        | false => left; simp [h48]
        | true =>
          obtain ⟨c, r, rfl, hd, hl, h0⟩ := goodB_spec hg
          right
          exact ⟨false, _, tok_pos c r hd hl h0, by simp [h48]⟩
  rcases key with h | ⟨neg, m, ht, h⟩
  · rw [h]
    exact ⟨by simp, fun x B0 w h1 => by cases h1⟩
  · rw [h]
    refine ⟨by simp, fun x B0 w h1 hl hg => ?_⟩
    cases h1
    refine (parse_tok l neg m ht w hg.fi0 hg.opt).mono ?_
    rintro e w' ⟨h1, rfl⟩
    exact ⟨h1, Below.refl _ _⟩

/-! ### The digits of a number -/
theorem decDigits_small {u : Nat} (h : u < 10) : Lib.decDigits u = [UInt8.ofNat (48 + u)] := by
  rw [Lib.decDigits]; simp [h]
theorem decDigits_step {u : Nat} (h : ¬ u < 10) : Lib.decDigits u = Lib.decDigits (u / 10) ++ [UInt8.ofNat (48 + u % 10)] := by
  rw [Lib.decDigits]; simp [h]
theorem digit_nat {d : Nat} (h : d < 10) : (UInt8.ofNat (48 + d)).toNat = 48 + d := by
  simp only [UInt8.toNat_ofNat']
  omega
theorem dec_all (u : Nat) : Dg (Lib.decDigits u) ∧ dv (Lib.decDigits u) = u ∧ (Lib.decDigits u ≠ []) ∧ (1 ≤ u → ∃ c ds, Lib.decDigits u = c :: ds ∧ c ≠ 48) ∧ ∀ k, u < 10 ^ (k + 1) → (Lib.decDigits u).length ≤ k + 1 := by
  induction u using Nat.strongRecOn with
  | _ u ih =>
    by_cases h : u < 10
    · rw [decDigits_small h]
      refine ⟨?_, ?_, by simp, ?_, fun k _ => by simp⟩
      · intro c hc
        rw [List.mem_singleton.1 hc, digit_nat h]; omega
      · simp only [dv, List.foldl_cons, List.foldl_nil, digit_nat h]; omega
      · intro h1
        refine ⟨_, [], rfl, fun e => ?_⟩
        have := congrArg UInt8.toNat e
        rw [digit_nat h] at this
        simp at this
        omega
    · obtain ⟨h1, h2, h3, h4, h5⟩ := ih (u / 10) (by omega)
      rw [decDigits_step h]
      have hd : u % 10 < 10 := by omega
      refine ⟨?_, ?_, by simp, ?_, ?_⟩
      · intro c hc
        rcases List.mem_append.1 hc with hc | hc
        · exact h1 c hc
        · rw [List.mem_singleton.1 hc, digit_nat hd]; omega
      · rw [dv_snoc, h2, digit_nat hd]; omega
      · intro _
        obtain ⟨c, ds, e, hc⟩ := h4 (by omega)
        exact ⟨c, ds ++ [UInt8.ofNat (48 + u % 10)], by rw [e]; rfl, hc⟩
      · intro k hk
        cases k with
        | zero => simp at hk; omega
        | succ k =>
          have := h5 k (by rw [Nat.pow_succ] at hk; omega)
          simp; omega
theorem goodB_of {l : Bs} (hd : Dg l) (hl : l.length ≤ 15) (h : ∃ c ds, l = c :: ds ∧ c ≠ 48) : goodB l = true := by
  obtain ⟨c, ds, rfl, hc⟩ := h
  simp only [goodB, Bool.and_eq_true, decide_eq_true_eq]
  exact ⟨⟨List.all_eq_true.2 fun x hx => by simpa using hd x hx, hl⟩, hc⟩
/-- The bits of a whole number. -/
def fb (n : Int) : Nat := wbits (decide (n < 0)) n.natAbs
theorem pfW_itoa (n : Int) (h1 : -1000 ≤ n) (h2 : n ≤ 1000) : pfW (Lib.itoa n) = .ok (fb n) := by
  unfold Lib.itoa fb
  by_cases hn : n < 0
  · rw [if_pos hn]
    obtain ⟨d1, d2, d3, d4, d5⟩ := dec_all n.natAbs
    have hl := d5 14 (by omega)
    have hg := goodB_of d1 hl (d4 (by omega))
    simp only [pfW, hg, if_true, d2, decide_eq_true hn]
  · rw [if_neg hn]
    by_cases h0 : n = 0
    · subst h0
      rw [show (0 : Int).toNat = 0 from rfl, decDigits_small (by decide)]
      have e : wbits (decide ((0 : Int) < 0)) (Int.natAbs 0) = 0 := by decide
      rw [e]
      rfl
    · have e1 : n.toNat = n.natAbs := by omega
      rw [e1]
      obtain ⟨d1, d2, d3, d4, d5⟩ := dec_all n.natAbs
      have hl := d5 14 (by omega)
      obtain ⟨c, ds, e, hc⟩ := d4 (by omega)
      have hg := goodB_of d1 hl ⟨c, ds, e, hc⟩
      have hd := d1
      rw [e] at hg d2 ⊢
      rw [e] at hd
      have hc45 : c ≠ 45 := by
        intro h
        have := (hd c (by simp)).1
        rw [h] at this
        revert this; decide
      have hne : ¬ c :: ds = [48] := by
        intro h
        simp at h
        exact hc h.1
      unfold pfW
      split
      · rename_i heq
        simp at heq
        exact absurd heq.1 hc45
      · rw [if_neg hne, if_pos hg, d2, decide_eq_false hn]
/-! Plain: whole numbers as bits, as texts. -/
abbrev f64i (x : Nat) : Option Int := floatToIntVal .f64 x .i64
theorem f2i_all : (List.range 1001).all (fun m => f64i (floatOfInt .f64 (m : Int)) == some (m : Int) && (m == 0 || f64i (Op.negFloat .f64 (floatOfInt .f64 (m : Int))) == some (-(m : Int)))) = true := by
  decide +kernel
theorem f64i_fb (n : Int) (h1 : -1000 ≤ n) (h2 : n ≤ 1000) : f64i (fb n) = some n := by
  have h := List.all_eq_true.1 f2i_all n.natAbs (List.mem_range.2 (by omega))
  simp only [Bool.and_eq_true, Bool.or_eq_true, beq_iff_eq] at h
  unfold fb wbits
  by_cases hn : n < 0
  · rw [decide_eq_true hn, if_pos rfl]
    rcases h.2 with h0 | h0
    · omega
    · rw [h0]; congr 1; omega
  · rw [decide_eq_false hn, if_neg (by decide), h.1]; congr 1; omega
/-- The text of a coordinate. -/
def nfW (x : Nat) : Bs := Lib.itoa ((f64i x).getD 0)
theorem numOk (n : Int) (h1 : -1000 ≤ n) (h2 : n ≤ 1000) : NumOk pfW nfW (fb n) := by
  have e : nfW (fb n) = Lib.itoa n := by unfold nfW; rw [f64i_fb n h1 h2]; rfl
  obtain ⟨d1, d2, d3, d4, d5⟩ := dec_all n.natAbs
  have ht : ∀ c : UInt8, 48 ≤ c.toNat ∧ c.toNat ≤ 57 → Tx.Tok c := by
    intro c hc
    have hne : ∀ k : UInt8, (k.toNat < 48 ∨ 57 < k.toNat) → c ≠ k := by rintro k hk rfl; omega
    have hb : ∀ k : UInt8, (k.toNat < 48 ∨ 57 < k.toNat) → (c == k) = false := fun k hk => by simpa using hne k hk
    refine ⟨?_, hne 44 (by decide), hne 40 (by decide), hne 41 (by decide)⟩
    unfold isCl
    rw [hb 32 (by decide), hb 9 (by decide), hb 10 (by decide), hb 12 (by decide), hb 13 (by decide), hb 124 (by decide)]
    rfl
  refine ⟨?_, ?_, by rw [e]; exact pfW_itoa n h1 h2⟩
  · rw [e]; unfold Lib.itoa
    split
    · simp
    · have : n.toNat = n.natAbs := by omega
      rw [this]; exact d3
  · rw [e]; unfold Lib.itoa
    split
    · intro c hc
      rcases List.mem_cons.1 hc with rfl | hc
      · unfold Tx.Tok; decide
      · exact ht c (d1 c hc)
    · have : n.toNat = n.natAbs := by omega
      rw [this]
      exact fun c hc => ht c (d1 c hc)
/-! Walks: Trunc, Abs, Signbit, IsWhole. -/
@[go_sem] theorem run_bits64 (n : Nat) (w : World) : (callFunc 71 #[.float .f64 n]).run Tryz.prog w = .ok (.value (.int .u64 n)) w := by
  kernel_rfl
@[go_sem] theorem run_from64 (n : Nat) (w : World) : (callFunc 70 #[.int .u64 n]).run Tryz.prog w = .ok (.value (.float .f64 n)) w := by
  kernel_rfl
end Go.Proofs.YtghajgdiaopioaaGreatDoor
end
section
/- Plain: a float that is whole and small is the float of an integer. Conditions: none. -/
namespace Go.Proofs.YtghajgdiaopioaaGreatDoor
open Go.RowKit Go.Proofs Tx
abbrev rdF (x : Nat) : Ieee.Datum := FloatKind.f64.decode x
/-! Plain: a float that the code takes for whole and small is the float of an integer. -/
theorem order_num {x y : Nat} {s t : Bool} {m n : Nat} {i j : Int} (hx : rdF x = .number s m i) (hy : rdF y = .number t n j) :
    FloatKind.f64.format.order x y = some (compare (Ieee.signed s m (i - min i j).toNat) (Ieee.signed t n (j - min i j).toNat)) := by
  show (rdF x).order (rdF y) = _
  rw [hx, hy]
  rfl
end Go.Proofs.YtghajgdiaopioaaGreatDoor
end
