/- Walks and plain laws joined (Hf, Hg, Hh). Conditions: stand in each law. -/
import Derived.Test.YtghajgdiaopioaaGreatDoorJxl
import Derived.Test.YtghajgdiaopioaaGreatDoorJg
import Derived.Test.YtghajgdiaopioaaGreatDoorJxn
import Derived.Test.YtghajgdiaopioaaGreatDoorJxo
set_option linter.unusedVariables false
set_option linter.unusedSimpArgs false
section
/- Walks: readFloat on any decimal text. Conditions: stand in each contract. -/
namespace Go.Proofs.YtghajgdiaopioaaGreatDoor
open Go.RowKit Go.Proofs Tx
open Go.Proofs.YtghajgdiaopioaaGreatDoorW.PrintWords
set_option maxRecDepth 200000 in
set_option maxHeartbeats 8000000 in
theorem rdf_001 (L b : Bs) (hb : Body b) (c0 : UInt8) (h0 : b[0]? = some c0) (hc0 : 48 ≤ c0.toNat ∧ c0.toNat ≤ 57) (hz : c0 ≠ 48) (hLb : ∀ (k : Nat) (c : UInt8), b[k]? = some c → L[k]? = some c) (es : Bool) (eds : Bs) (hed : Dg eds) (he1 : 1 ≤ eds.length) (he4 : eds.length ≤ 4) (hL : L.length = b.length + 2 + eds.length) (hLe : L[b.length]? = some 101) (hLs : L[b.length + 1]? = some (if es then 45 else 43)) (hLd : ∀ (j : Nat) (c : UInt8), eds[j]? = some c → L[b.length + 2 + j]? = some c) (w : World) :
    Calls Tryz.prog 162 #[S L] w fun e w' => e = .returned (.tuple #[.int .u64 (rsf b).M, .int .i64 ((if (rsf b).dot then (rsf b).dp else (rsf b).nd) + (if es then -(dv eds : Int) else dv eds) - (rsf b).nd), .bool false, .bool false, .bool false, .int .i64 L.length, .bool true]) ∧ w = w' := by
  have hbl : 0 < b.length := (List.getElem?_eq_some_iff.1 h0).1
  have hL1 : b.length ≤ 400 := hb.len
  have hb0 := byte_at (hLb 0 c0 h0)
  have t48 : ((c0.toNat : Int) == 48) = false := by
    rw [beq_eq_false_iff_ne]
    intro e
    exact hz (by rw [← UInt8.toNat_inj]; exact_mod_cast e)
  have t43 : ((c0.toNat : Int) == 43) = false := by rw [beq_eq_false_iff_ne]; omega
  have t45 : ((c0.toNat : Int) == 45) = false := by rw [beq_eq_false_iff_ne]; omega
  have hne : ¬ L = [] := by intro e; rw [e] at hL; simp at hL; omega
  have hLl : L.length ≤ 1000 := by omega
  have hLp : 0 < L.length := by omega
  obtain ⟨R, hR⟩ : ∃ R : Int, R = ((if (rsf b).dot then (rsf b).dp else (rsf b).nd) + (if es then -(dv eds : Int) else dv eds) - (rsf b).nd) := ⟨_, rfl⟩
  obtain ⟨N, hN⟩ : ∃ N : Nat, N = (rsf b).M := ⟨_, rfl⟩
  rw [← hR, ← hN]
  have HR := Lib.hid hR
  have HN := Lib.hid hN
  clear hR hN
  have HLB := Lib.hid hLb
  clear hLb h0 hz
  have hl2 : (2 : Int) < L.length := by omega
  have HL := Lib.hid hL
  clear hL
  go_enter Tryz.func162, Tryz.ntmps162
  go_wp2
  go_step3
  go_wp2
  try go_step3
  go_wp2
  try go_step3
  go_wp2
  go_loop [2, 5, 7, 9, 13, 14, 15, 16, 17] (fun v2 v5 v7 v9 v13 v14 v15 v16 v17 => ∃ k : Nat, k ≤ b.length ∧ v2 = .int .u64 (rsf (b.take k)).M ∧ v5 = .bool false ∧ v7 = .int .i64 k ∧ v9 = .bool false ∧ v13 = .bool (rsf (b.take k)).dot ∧ v14 = .bool (rsf (b.take k)).dig ∧ v15 = .int .i64 (rsf (b.take k)).nd ∧ v16 = .int .i64 (rsf (b.take k)).nd ∧ v17 = .int .i64 (rsf (b.take k)).dp) (fun v2 v5 v7 v9 v13 v14 v15 v16 v17 => L.length + 1 - (intOf v7).toNat)
  case atStart => exact ⟨0, Nat.zero_le _, rfl, rfl, rfl, rfl, rfl, rfl, rfl, rfl, rfl⟩
  case round =>
    obtain ⟨k, hk, rfl, rfl, rfl, rfl, rfl, rfl, rfl, rfl, rfl⟩ := hrel
    obtain ⟨s, hs⟩ : ∃ s, s = rsf (b.take k) := ⟨_, rfl⟩
    rw [← hs]
    obtain ⟨M, nd, dp, dot, dig⟩ := s
    obtain ⟨l1, l2, l3, l4⟩ := body_lim hb hk hs
    by_cases hgo : k < b.length
    · have hgo2 : k < L.length := by have := HL.out; omega
      have hsn := rsf_take b k hgo
      rw [← hs] at hsn
      have hdot := hb.one k hgo
      rw [← hs] at hdot
      obtain ⟨c, hc⟩ : ∃ c, c = b[k] := ⟨_, rfl⟩
      rw [← hc] at hsn hdot
      have hcc := byte_at (HLB.out k c (by rw [hc]; exact List.getElem?_eq_getElem hgo))
      have hcd := hb.dp c (by rw [hc]; exact List.getElem_mem hgo)
      have HCC := Lib.hid hc
      have HS := Lib.hid hs
      clear hc hs
      by_cases e46 : c = 46
      · have hdot := hdot e46
        simp only at hdot
        subst hdot
        unfold stp at hsn
        rw [if_pos e46] at hsn
        have c46 : ((c.toNat : Int) == 46) = true := by rw [e46]; rfl
        have c95 : ((c.toNat : Int) == 95) = false := by rw [e46]; rfl
        have HSN := Lib.hid hsn
        clear hsn hcd
        go_wp2
        refine ⟨⟨k + 1, by omega, ?_, rfl, by go_num, rfl, ?_, ?_, ?_, ?_, ?_⟩, by simp [intOf]; omega⟩
        all_goals rw [HSN.out]
      · have hdg : 48 ≤ c.toNat ∧ c.toNat ≤ 57 := by
          rcases hcd with h | h
          · exact absurd h e46
          · exact h
        have c46 : ((c.toNat : Int) == 46) = false := by
          rw [beq_eq_false_iff_ne]
          intro e
          exact e46 (by rw [← UInt8.toNat_inj]; exact_mod_cast e)
        have c95 : ((c.toNat : Int) == 95) = false := by rw [beq_eq_false_iff_ne]; omega
        unfold stp at hsn
        rw [if_neg e46] at hsn
        by_cases ez : c = 48 ∧ nd = 0
        · rw [if_pos (by exact ez)] at hsn
          have hz1 : ((c.toNat : Int) == 48) = true := by rw [ez.1]; rfl
          have hz2 : ((nd : Int) == 0) = true := by rw [ez.2]; rfl
          have HSN := Lib.hid hsn
          clear hsn hcd hdot ez
          go_wp2
          refine ⟨⟨k + 1, by omega, ?_, rfl, by go_num, rfl, ?_, ?_, ?_, ?_, ?_⟩, by simp [intOf]; omega⟩
          all_goals rw [HSN.out]
        · rw [if_neg (by exact ez)] at hsn
          have hzz : ((c.toNat : Int) == 48 && (nd : Int) == 0) = false := by
            cases hq : ((c.toNat : Int) == 48 && (nd : Int) == 0) with
            | false => rfl
            | true =>
              exfalso
              simp only [Bool.and_eq_true, beq_iff_eq] at hq
              exact ez ⟨by rw [← UInt8.toNat_inj]; exact_mod_cast hq.1, by omega⟩
          have HSN := Lib.hid hsn
          have HZ := Lib.hid hzz
          clear hsn hcd hdot ez hzz
          go_wp2
          all_goals first
            | (exfalso; have := HZ.out; simp_all; done)
            | (refine ⟨⟨k + 1, by omega, ?_, rfl, by go_num, rfl, ?_, ?_, ?_, ?_, ?_⟩, by simp [intOf]; omega⟩
               all_goals rw [HSN.out]
               all_goals first
                 | rfl
                 | (congr 1; omega)
                 | go_num)
    · obtain rfl : k = b.length := by omega
      rw [List.take_length] at hs
      have hdig := hb.dig
      have hpos := hb.pos
      rw [← hs] at hdig hpos
      simp only at hdig hpos
      subst hdig
      have hM0 : ((M : Int) == 0) = false := by rw [beq_eq_false_iff_ne]; omega
      have hM0' : ((M : Int) != 0) = true := by simp; omega
      have HS := Lib.hid hs
      clear hs hpos
      have hc1 := byte_at hLe
      have hc2 := byte_at hLs
      have hc1l : ∀ hq, L[b.length]'hq = 101 := hc1
      have hc2l : ∀ hq, L[b.length + 1]'hq = (if es then 45 else 43) := hc2
      obtain ⟨d0, hd0⟩ : ∃ d0, eds[0]? = some d0 := ⟨_, List.getElem?_eq_getElem (by omega)⟩
      have hc3 : ∀ hq, (ByteArray.mk L.toArray)[b.length + 1 + 1]'hq = d0 := byte_at (hLd 0 d0 hd0)
      have hc3l : ∀ hq, L[b.length + 1 + 1]'hq = d0 := hc3
      obtain ⟨hd1, hd2⟩ := hed d0 (List.mem_of_getElem? hd0)
      have q1 : b.length < L.length := by have := HL.out; omega
      have q2 : b.length + 1 < L.length := by have := HL.out; omega
      have q3 : b.length + 1 + 1 < L.length := by have := HL.out; omega
      have k1 : (48 : Int) ≤ ((L[b.length + 1 + 1]'q3).toNat : Int) := by rw [hc3l]; omega
      have k2 : ((L[b.length + 1 + 1]'q3).toNat : Int) ≤ 57 := by rw [hc3l]; omega
      have k3 : (((L.length : Int) ≤ (b.length : Int) + 1 + 1 ∨ ((L[b.length + 1 + 1]'q3).toNat : Int) < 48) ∨ 57 < ((L[b.length + 1 + 1]'q3).toNat : Int)) = False := by
        apply eq_false
        omega
      have HED := Lib.hid (And.intro hLd hed)
      clear hd0 hLd hed hLe hLs
      cases dot
      all_goals cases es
      all_goals
        simp only [Bool.false_eq_true, if_false, if_true] at hc2 hc2l
        go_wp2_with fail
        refine (Tryz.internal_strconv_lower 101 _).mono ?_
        rintro e w' ⟨rfl, hw⟩
        subst hw
        rw [low101]
        go_wp2
        go_loop [7, 9, 20] (fun v7 v9 v20 => ∃ j : Nat, j ≤ eds.length ∧ v7 = .int .i64 (b.length + 2 + j : Nat) ∧ v9 = .bool false ∧ v20 = .int .i64 (dv (eds.take j))) (fun v7 v9 v20 => L.length + 1 - (intOf v7).toNat)
        case atStart => exact ⟨0, Nat.zero_le _, by go_num, rfl, rfl⟩
        case round =>
          obtain ⟨j, hj, rfl, rfl, rfl⟩ := hrel
          clear k1 k2 k3 hc1 hc2 hc1l hc2l hc3 hc3l q1 q2 q3
          have hdl : dv (eds.take j) < 10 ^ j := by
            have := dv_lt (eds.take j) (fun c hc => HED.out.2 c (List.mem_of_mem_take hc))
            rwa [List.length_take, Nat.min_eq_left hj] at this
          have hp4 : (10 : Nat) ^ j ≤ 10 ^ 4 := Nat.pow_le_pow_right (by decide) (by omega)
          by_cases hgo : j < eds.length
          · have hp3 : (10 : Nat) ^ j ≤ 10 ^ 3 := Nat.pow_le_pow_right (by decide) (by omega)
            have hg2 : b.length + 2 + j < L.length := by have := HL.out; omega
            obtain ⟨c, hc⟩ : ∃ c, c = eds[j] := ⟨_, rfl⟩
            have hcc := byte_at (HED.out.1 j c (by rw [hc]; exact List.getElem?_eq_getElem hgo))
            have hcd := HED.out.2 c (by rw [hc]; exact List.getElem_mem hgo)
            obtain ⟨p, hp⟩ : ∃ p, p = b.length + 2 + j := ⟨_, rfl⟩
            rw [← hp] at hcc hg2 ⊢
            have hsn : dv (eds.take (j + 1)) = dv (eds.take j) * 10 + (c.toNat - 48) := by
              rw [List.take_add_one, List.getElem?_eq_getElem hgo, ← hc]; exact dv_snoc _ _
            have c95 : ((c.toNat : Int) == 95) = false := by rw [beq_eq_false_iff_ne]; omega
            obtain ⟨E, hE⟩ : ∃ E, E = dv (eds.take j) := ⟨_, rfl⟩
            rw [← hE] at hsn hdl ⊢
            have hE4 : E < 1000 := by omega
            have HSN := Lib.hid hsn
            have HP := Lib.hid hp
            clear hsn hE hdl hp4 hp3 hc hp
            go_wp2
            all_goals
              have hp := HP.out
              refine ⟨⟨j + 1, by omega, by go_num, rfl, ?_⟩, by simp [intOf]; omega⟩
              rw [HSN.out]
              go_num
          · obtain rfl : j = eds.length := by omega
            rw [List.take_length] at hdl ⊢
            obtain ⟨p, hp⟩ : ∃ p, p = b.length + 2 + eds.length := ⟨_, rfl⟩
            rw [← hp]
            have hg3 : ¬ p < L.length := by have := HL.out; omega
            have HP := Lib.hid hp
            clear hp
            have hg2 : ¬ b.length + 2 + eds.length < L.length := by have := HL.out; omega
            obtain ⟨E, hE⟩ : ∃ E, E = dv eds := ⟨_, rfl⟩
            rw [← hE] at hdl ⊢
            have hE4 : E < 10000 := by omega
            have HE := Lib.hid hE
            clear hE hdl hp4
            go_wp2
            all_goals
              ((try simp only [Exit.inBlock, Exit.then]); refine bodyPost_ret (results_tmp7 rfl _ _ _) rfl ?_)
              refine ⟨?_, rfl⟩
              rw [HN.out, HR.out, ← HS.out, ← HE.out, show p = L.length by have := HL.out; have := HP.out; omega]
              first
              | rfl
              | (simp; done)
              | (simp; omega)
/-! Walks: readFloat on any decimal text. -/
set_option maxRecDepth 200000 in
set_option maxHeartbeats 8000000 in
theorem rdf_101 (L b : Bs) (hb : Body b) (c0 : UInt8) (h0 : b[0]? = some c0) (hc0 : 48 ≤ c0.toNat ∧ c0.toNat ≤ 57) (hz : c0 ≠ 48) (hsg : L[0]? = some 45) (hLb : ∀ (k : Nat) (c : UInt8), b[k]? = some c → L[k + 1]? = some c) (es : Bool) (eds : Bs) (hed : Dg eds) (he1 : 1 ≤ eds.length) (he4 : eds.length ≤ 4) (hL : L.length = b.length + 1 + 2 + eds.length) (hLe : L[b.length + 1]? = some 101) (hLs : L[b.length + 1 + 1]? = some (if es then 45 else 43)) (hLd : ∀ (j : Nat) (c : UInt8), eds[j]? = some c → L[b.length + 1 + 2 + j]? = some c) (w : World) :
    Calls Tryz.prog 162 #[S L] w fun e w' => e = .returned (.tuple #[.int .u64 (rsf b).M, .int .i64 ((if (rsf b).dot then (rsf b).dp else (rsf b).nd) + (if es then -(dv eds : Int) else dv eds) - (rsf b).nd), .bool true, .bool false, .bool false, .int .i64 L.length, .bool true]) ∧ w = w' := by
  have hbl : 0 < b.length := (List.getElem?_eq_some_iff.1 h0).1
  have hL1 : b.length ≤ 400 := hb.len
  have hb0 := byte_at hsg
  have hb1 := byte_at (hLb 0 c0 h0)
  have t48 : ((c0.toNat : Int) == 48) = false := by
    rw [beq_eq_false_iff_ne]
    intro e
    exact hz (by rw [← UInt8.toNat_inj]; exact_mod_cast e)
  have hne : ¬ L = [] := by intro e; rw [e] at hL; simp at hL; omega
  have hLl : L.length ≤ 1000 := by omega
  have hLp : 0 < L.length := by omega
  obtain ⟨R, hR⟩ : ∃ R : Int, R = ((if (rsf b).dot then (rsf b).dp else (rsf b).nd) + (if es then -(dv eds : Int) else dv eds) - (rsf b).nd) := ⟨_, rfl⟩
  obtain ⟨N, hN⟩ : ∃ N : Nat, N = (rsf b).M := ⟨_, rfl⟩
  rw [← hR, ← hN]
  have HR := Lib.hid hR
  have HN := Lib.hid hN
  clear hR hN
  have HLB := Lib.hid hLb
  clear hLb h0 hz
  have hl2 : (3 : Int) < L.length := by omega
  have HL := Lib.hid hL
  clear hL
  go_enter Tryz.func162, Tryz.ntmps162
  go_wp2
  go_step3
  go_wp2
  try go_step3
  go_wp2
  try go_step3
  go_wp2
  go_loop [2, 5, 7, 9, 13, 14, 15, 16, 17] (fun v2 v5 v7 v9 v13 v14 v15 v16 v17 => ∃ k : Nat, k ≤ b.length ∧ v2 = .int .u64 (rsf (b.take k)).M ∧ v5 = .bool false ∧ v7 = .int .i64 (k + 1 : Nat) ∧ v9 = .bool false ∧ v13 = .bool (rsf (b.take k)).dot ∧ v14 = .bool (rsf (b.take k)).dig ∧ v15 = .int .i64 (rsf (b.take k)).nd ∧ v16 = .int .i64 (rsf (b.take k)).nd ∧ v17 = .int .i64 (rsf (b.take k)).dp) (fun v2 v5 v7 v9 v13 v14 v15 v16 v17 => L.length + 1 - (intOf v7).toNat)
  case atStart => exact ⟨0, Nat.zero_le _, rfl, rfl, rfl, rfl, rfl, rfl, rfl, rfl, rfl⟩
  case round =>
    obtain ⟨k, hk, rfl, rfl, rfl, rfl, rfl, rfl, rfl, rfl, rfl⟩ := hrel
    obtain ⟨s, hs⟩ : ∃ s, s = rsf (b.take k) := ⟨_, rfl⟩
    rw [← hs]
    obtain ⟨M, nd, dp, dot, dig⟩ := s
    obtain ⟨l1, l2, l3, l4⟩ := body_lim hb hk hs
    by_cases hgo : k < b.length
    · have hgo2 : (k + 1 : Nat) < L.length := by have := HL.out; omega
      have hsn := rsf_take b k hgo
      rw [← hs] at hsn
      have hdot := hb.one k hgo
      rw [← hs] at hdot
      obtain ⟨c, hc⟩ : ∃ c, c = b[k] := ⟨_, rfl⟩
      rw [← hc] at hsn hdot
      have hcc := byte_at (HLB.out k c (by rw [hc]; exact List.getElem?_eq_getElem hgo))
      have hcd := hb.dp c (by rw [hc]; exact List.getElem_mem hgo)
      have HCC := Lib.hid hc
      have HS := Lib.hid hs
      clear hc hs
      by_cases e46 : c = 46
      · have hdot := hdot e46
        simp only at hdot
        subst hdot
        unfold stp at hsn
        rw [if_pos e46] at hsn
        have c46 : ((c.toNat : Int) == 46) = true := by rw [e46]; rfl
        have c95 : ((c.toNat : Int) == 95) = false := by rw [e46]; rfl
        have HSN := Lib.hid hsn
        clear hsn hcd
        go_wp2
        refine ⟨⟨k + 1, by omega, ?_, rfl, by go_num, rfl, ?_, ?_, ?_, ?_, ?_⟩, by simp [intOf]; omega⟩
        all_goals rw [HSN.out]
      · have hdg : 48 ≤ c.toNat ∧ c.toNat ≤ 57 := by
          rcases hcd with h | h
          · exact absurd h e46
          · exact h
        have c46 : ((c.toNat : Int) == 46) = false := by
          rw [beq_eq_false_iff_ne]
          intro e
          exact e46 (by rw [← UInt8.toNat_inj]; exact_mod_cast e)
        have c95 : ((c.toNat : Int) == 95) = false := by rw [beq_eq_false_iff_ne]; omega
        unfold stp at hsn
        rw [if_neg e46] at hsn
        by_cases ez : c = 48 ∧ nd = 0
        · rw [if_pos (by exact ez)] at hsn
          have hz1 : ((c.toNat : Int) == 48) = true := by rw [ez.1]; rfl
          have hz2 : ((nd : Int) == 0) = true := by rw [ez.2]; rfl
          have HSN := Lib.hid hsn
          clear hsn hcd hdot ez
          go_wp2
          refine ⟨⟨k + 1, by omega, ?_, rfl, by go_num, rfl, ?_, ?_, ?_, ?_, ?_⟩, by simp [intOf]; omega⟩
          all_goals rw [HSN.out]
        · rw [if_neg (by exact ez)] at hsn
          have hzz : ((c.toNat : Int) == 48 && (nd : Int) == 0) = false := by
            cases hq : ((c.toNat : Int) == 48 && (nd : Int) == 0) with
            | false => rfl
            | true =>
              exfalso
              simp only [Bool.and_eq_true, beq_iff_eq] at hq
              exact ez ⟨by rw [← UInt8.toNat_inj]; exact_mod_cast hq.1, by omega⟩
          have HSN := Lib.hid hsn
          have HZ := Lib.hid hzz
          clear hsn hcd hdot ez hzz
          go_wp2
          all_goals first
            | (exfalso; have := HZ.out; simp_all; done)
            | (refine ⟨⟨k + 1, by omega, ?_, rfl, by go_num, rfl, ?_, ?_, ?_, ?_, ?_⟩, by simp [intOf]; omega⟩
               all_goals rw [HSN.out]
               all_goals first
                 | rfl
                 | (congr 1; omega)
                 | go_num)
    · obtain rfl : k = b.length := by omega
      rw [List.take_length] at hs
      have hdig := hb.dig
      have hpos := hb.pos
      rw [← hs] at hdig hpos
      simp only at hdig hpos
      subst hdig
      have hM0 : ((M : Int) == 0) = false := by rw [beq_eq_false_iff_ne]; omega
      have hM0' : ((M : Int) != 0) = true := by simp; omega
      have HS := Lib.hid hs
      clear hs hpos
      have hc1 := byte_at hLe
      have hc2 := byte_at hLs
      have hc1l : ∀ hq, L[b.length + 1]'hq = 101 := hc1
      have hc2l : ∀ hq, L[b.length + 1 + 1]'hq = (if es then 45 else 43) := hc2
      obtain ⟨d0, hd0⟩ : ∃ d0, eds[0]? = some d0 := ⟨_, List.getElem?_eq_getElem (by omega)⟩
      have hc3 : ∀ hq, (ByteArray.mk L.toArray)[b.length + 1 + 1 + 1]'hq = d0 := byte_at (hLd 0 d0 hd0)
      have hc3l : ∀ hq, L[b.length + 1 + 1 + 1]'hq = d0 := hc3
      obtain ⟨hd1, hd2⟩ := hed d0 (List.mem_of_getElem? hd0)
      have q1 : b.length + 1 < L.length := by have := HL.out; omega
      have q2 : b.length + 1 + 1 < L.length := by have := HL.out; omega
      have q3 : b.length + 1 + 1 + 1 < L.length := by have := HL.out; omega
      have k1 : (48 : Int) ≤ ((L[b.length + 1 + 1 + 1]'q3).toNat : Int) := by rw [hc3l]; omega
      have k2 : ((L[b.length + 1 + 1 + 1]'q3).toNat : Int) ≤ 57 := by rw [hc3l]; omega
      have k3 : (((L.length : Int) ≤ (b.length : Int) + 1 + 1 + 1 ∨ ((L[b.length + 1 + 1 + 1]'q3).toNat : Int) < 48) ∨ 57 < ((L[b.length + 1 + 1 + 1]'q3).toNat : Int)) = False := by
        apply eq_false
        omega
      have HED := Lib.hid (And.intro hLd hed)
      clear hd0 hLd hed hLe hLs
      cases dot
      all_goals cases es
      all_goals
        simp only [Bool.false_eq_true, if_false, if_true] at hc2 hc2l
        go_wp2_with fail
        refine (Tryz.internal_strconv_lower 101 _).mono ?_
        rintro e w' ⟨rfl, hw⟩
        subst hw
        rw [low101]
        go_wp2
        go_loop [7, 9, 20] (fun v7 v9 v20 => ∃ j : Nat, j ≤ eds.length ∧ v7 = .int .i64 (b.length + 1 + 2 + j : Nat) ∧ v9 = .bool false ∧ v20 = .int .i64 (dv (eds.take j))) (fun v7 v9 v20 => L.length + 1 - (intOf v7).toNat)
        case atStart => exact ⟨0, Nat.zero_le _, by go_num, rfl, rfl⟩
        case round =>
          obtain ⟨j, hj, rfl, rfl, rfl⟩ := hrel
          clear k1 k2 k3 hc1 hc2 hc1l hc2l hc3 hc3l q1 q2 q3
          have hdl : dv (eds.take j) < 10 ^ j := by
            have := dv_lt (eds.take j) (fun c hc => HED.out.2 c (List.mem_of_mem_take hc))
            rwa [List.length_take, Nat.min_eq_left hj] at this
          have hp4 : (10 : Nat) ^ j ≤ 10 ^ 4 := Nat.pow_le_pow_right (by decide) (by omega)
          by_cases hgo : j < eds.length
          · have hp3 : (10 : Nat) ^ j ≤ 10 ^ 3 := Nat.pow_le_pow_right (by decide) (by omega)
            have hg2 : b.length + 1 + 2 + j < L.length := by have := HL.out; omega
            obtain ⟨c, hc⟩ : ∃ c, c = eds[j] := ⟨_, rfl⟩
            have hcc := byte_at (HED.out.1 j c (by rw [hc]; exact List.getElem?_eq_getElem hgo))
            have hcd := HED.out.2 c (by rw [hc]; exact List.getElem_mem hgo)
            obtain ⟨p, hp⟩ : ∃ p, p = b.length + 1 + 2 + j := ⟨_, rfl⟩
            rw [← hp] at hcc hg2 ⊢
            have hsn : dv (eds.take (j + 1)) = dv (eds.take j) * 10 + (c.toNat - 48) := by
              rw [List.take_add_one, List.getElem?_eq_getElem hgo, ← hc]; exact dv_snoc _ _
            have c95 : ((c.toNat : Int) == 95) = false := by rw [beq_eq_false_iff_ne]; omega
            obtain ⟨E, hE⟩ : ∃ E, E = dv (eds.take j) := ⟨_, rfl⟩
            rw [← hE] at hsn hdl ⊢
            have hE4 : E < 1000 := by omega
            have HSN := Lib.hid hsn
            have HP := Lib.hid hp
            clear hsn hE hdl hp4 hp3 hc hp
            go_wp2
            all_goals
              have hp := HP.out
              refine ⟨⟨j + 1, by omega, by go_num, rfl, ?_⟩, by simp [intOf]; omega⟩
              rw [HSN.out]
              go_num
          · obtain rfl : j = eds.length := by omega
            rw [List.take_length] at hdl ⊢
            obtain ⟨p, hp⟩ : ∃ p, p = b.length + 1 + 2 + eds.length := ⟨_, rfl⟩
            rw [← hp]
            have hg3 : ¬ p < L.length := by have := HL.out; omega
            have HP := Lib.hid hp
            clear hp
            have hg2 : ¬ b.length + 1 + 2 + eds.length < L.length := by have := HL.out; omega
            obtain ⟨E, hE⟩ : ∃ E, E = dv eds := ⟨_, rfl⟩
            rw [← hE] at hdl ⊢
            have hE4 : E < 10000 := by omega
            have HE := Lib.hid hE
            clear hE hdl hp4
            go_wp2
            all_goals
              ((try simp only [Exit.inBlock, Exit.then]); refine bodyPost_ret (results_tmp7 rfl _ _ _) rfl ?_)
              refine ⟨?_, rfl⟩
              rw [HN.out, HR.out, ← HS.out, ← HE.out, show p = L.length by have := HL.out; have := HP.out; omega]
              first
              | rfl
              | (simp; done)
              | (simp; omega)
end Go.Proofs.YtghajgdiaopioaaGreatDoor
end
section
/- Walks: what is read of a number's text. Conditions: stand in each contract. -/
namespace Go.Proofs.YtghajgdiaopioaaGreatDoor
open Go.RowKit Go.Proofs Tx
theorem numT_len {ds : Bs} (h : Ds ds) {dp : Int} (h1 : -330 ≤ dp) (h2 : dp ≤ 330) (neg : Bool) : (numT neg ds dp).length ≤ 450 := by
  obtain ⟨-, -, hb⟩ := body_ok h (dp := dp) (by omega) (by omega)
  have he : (expT dp).length ≤ 6 := by
    unfold expT
    split
    · have := (e2_ok (dp - 1).natAbs (by omega)).2.2.2
      simp only [List.length_cons]; omega
    · simp
  have hs : (sgT neg).length ≤ 1 := by cases neg <;> simp [sgT]
  unfold numT
  simp only [List.length_append]
  omega
theorem tok_numT {ds : Bs} (h : Ds ds) {dp : Int} (h1 : -330 ≤ dp) (h2 : dp ≤ 330) (neg : Bool) : TokF (numT neg ds dp) neg (rdM ds dp) (rdQ ds dp) := by
  obtain ⟨hb, ⟨c, l, hcl, hcd, hzz⟩, hlen⟩ := body_ok h (dp := dp) (by omega) (by omega)
  obtain ⟨x, hx, x1, x2, x3, x4⟩ := body_run h (dp := dp) (by omega) (by omega)
  have hTl := numT_len h h1 h2 neg
  refine ⟨by omega, fun w => ?_, fun w => ?_⟩
  · cases neg
    · have hT : numT false ds dp = c :: (l ++ expT dp) := by unfold numT; rw [hcl]; rfl
      rw [hT] at hTl ⊢
      exact special_dig c _ w (by omega) hcd
    · have hT : numT true ds dp = 45 :: c :: (l ++ expT dp) := by unfold numT; rw [hcl]; rfl
      rw [hT] at hTl ⊢
      refine special_neg c _ w ?_ hcd
      simp only [List.length_cons] at hTl ⊢
      omega
  · obtain ⟨b, hbe⟩ : ∃ b, b = bodyT ds dp := ⟨_, rfl⟩
    have hT : numT neg ds dp = sgT neg ++ b ++ expT dp := by rw [hbe]; rfl
    rw [← hbe] at hb hcl hlen hx hzz
    obtain ⟨L, hLe⟩ : ∃ L, L = numT neg ds dp := ⟨_, rfl⟩
    rw [← hLe]
    rw [← hLe] at hT
    have h0 : b[0]? = some c := by rw [hcl]; rfl
    cases hE : isE dp with
    | false =>
      have hex : expT dp = [] := by unfold expT; rw [hE]; rfl
      rw [hex, List.append_nil] at hT
      rw [hE] at x4
      simp only [Bool.false_eq_true, if_false, Int.add_zero] at x4
      cases neg
      · have hT' : L = b := hT
        have hr : Calls Tryz.prog 162 #[S L] w fun e w' => e = .returned (.tuple #[.int .u64 (rsf b).M, .int .i64 ((if (rsf b).dot then (rsf b).dp else (rsf b).nd) - (rsf b).nd), .bool false, .bool false, .bool false, .int .i64 L.length, .bool true]) ∧ w = w' := by
          rcases hzz with hz | ⟨hz, -, ⟨l', hl'⟩, h3⟩
          · exact rdf_000 L b hb c h0 hcd hz (fun k d hk => by rw [hT']; exact hk) (by rw [hT']; omega) w
          · exact rdf_010 L b hb c h0 hcd hz (by rw [hcl, hl']; rfl) h3 (fun k d hk => by rw [hT']; exact hk) (by rw [hT']; omega) w
        rw [hx, x1, x4] at hr
        exact hr
      · have hT' : L = 45 :: b := hT
        have hr : Calls Tryz.prog 162 #[S L] w fun e w' => e = .returned (.tuple #[.int .u64 (rsf b).M, .int .i64 ((if (rsf b).dot then (rsf b).dp else (rsf b).nd) - (rsf b).nd), .bool true, .bool false, .bool false, .int .i64 L.length, .bool true]) ∧ w = w' := by
          rcases hzz with hz | ⟨hz, -, ⟨l', hl'⟩, h3⟩
          · exact rdf_100 L b hb c h0 hcd hz (by rw [hT']; rfl) (fun k d hk => by rw [hT', List.getElem?_cons_succ]; exact hk) (by rw [hT', List.length_cons]; omega) w
          · exact rdf_110 L b hb c h0 hcd hz (by rw [hcl, hl']; rfl) h3 (by rw [hT']; rfl) (fun k d hk => by rw [hT', List.getElem?_cons_succ]; exact hk) (by rw [hT', List.length_cons]; omega) w
        rw [hx, x1, x4] at hr
        exact hr
    | true =>
      obtain ⟨d1, d2, d3, d4⟩ := e2_ok (dp - 1).natAbs (by omega)
      obtain ⟨eds, hed⟩ : ∃ e, e = e2T (dp - 1).natAbs := ⟨_, rfl⟩
      rw [← hed] at d1 d2 d3 d4
      obtain ⟨es, hes⟩ : ∃ s, s = decide (dp - 1 < 0) := ⟨_, rfl⟩
      have hex : expT dp = 101 :: (if es then 45 else 43) :: eds := by
        unfold expT
        rw [hE, if_pos rfl, ← hed, hes]
        by_cases k : dp - 1 < 0
        · rw [if_pos k, decide_eq_true k]; rfl
        · rw [if_neg k, decide_eq_false k]; rfl
      have hval : (if es then -(dv eds : Int) else dv eds) = dp - 1 := by
        rw [d2, hes]
        by_cases k : dp - 1 < 0
        · rw [decide_eq_true k]; simp only [if_true]; omega
        · rw [decide_eq_false k]; simp only [Bool.false_eq_true, if_false]; omega
      rw [hE] at x4
      simp only [if_true] at x4
      rw [hex] at hT
      have hz : c ≠ 48 := by
        rcases hzz with hz | ⟨-, k, -, -⟩
        · exact hz
        · rw [hE] at k; cases k
      cases neg
      · have hT' : L = b ++ 101 :: (if es then 45 else 43) :: eds := hT
        have hr := rdf_001 L b hb c h0 hcd hz
          (fun k d hk => by rw [hT', List.getElem?_append_left (List.getElem?_eq_some_iff.1 hk).1]; exact hk) es eds d1 d3 d4
          (by rw [hT']; simp; omega)
          (by rw [hT', List.getElem?_append_right (Nat.le_refl _), Nat.sub_self]; rfl)
          (by rw [hT', List.getElem?_append_right (by omega), show b.length + 1 - b.length = 1 by omega]; rfl)
          (fun j d hj => by rw [hT', List.getElem?_append_right (by omega), show b.length + 2 + j - b.length = j + 1 + 1 by omega, List.getElem?_cons_succ, List.getElem?_cons_succ]; exact hj) w
        rw [hx, x1, hval, x4] at hr
        exact hr
      · have hT' : L = 45 :: (b ++ 101 :: (if es then 45 else 43) :: eds) := hT
        have hr := rdf_101 L b hb c h0 hcd hz (by rw [hT']; rfl)
          (fun k d hk => by rw [hT', List.getElem?_cons_succ, List.getElem?_append_left (List.getElem?_eq_some_iff.1 hk).1]; exact hk) es eds d1 d3 d4
          (by rw [hT']; simp; omega)
          (by rw [hT', List.getElem?_cons_succ, List.getElem?_append_right (Nat.le_refl _), Nat.sub_self]; rfl)
          (by rw [hT', List.getElem?_cons_succ, List.getElem?_append_right (by omega), show b.length + 1 - b.length = 1 by omega]; rfl)
          (fun j d hj => by rw [hT', show b.length + 1 + 2 + j = b.length + 2 + j + 1 by omega, List.getElem?_cons_succ, List.getElem?_append_right (by omega), show b.length + 2 + j - b.length = j + 1 + 1 by omega, List.getElem?_cons_succ, List.getElem?_cons_succ]; exact hj) w
        rw [hx, x1, hval, x4] at hr
        exact hr
end Go.Proofs.YtghajgdiaopioaaGreatDoor
end
