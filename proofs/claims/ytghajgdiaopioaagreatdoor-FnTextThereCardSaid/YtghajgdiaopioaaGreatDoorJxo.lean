/- Walks and plain laws joined (He). Conditions: stand in each law. -/
import Derived.Test.YtghajgdiaopioaaGreatDoorJxl
import Derived.Test.YtghajgdiaopioaaGreatDoorJg
set_option linter.unusedVariables false
set_option linter.unusedSimpArgs false
section
/- Walks: readFloat on any decimal text. Conditions: stand in each contract. -/
namespace Go.Proofs.YtghajgdiaopioaaGreatDoor
open Go.RowKit Go.Proofs Tx
open Go.Proofs.YtghajgdiaopioaaGreatDoorW.PrintWords
set_option maxRecDepth 20000 in
set_option maxHeartbeats 8000000 in
theorem rdf_000 (L b : Bs) (hb : Body b) (c0 : UInt8) (h0 : b[0]? = some c0) (hc0 : 48 ≤ c0.toNat ∧ c0.toNat ≤ 57) (hz : c0 ≠ 48) (hLb : ∀ (k : Nat) (c : UInt8), b[k]? = some c → L[k]? = some c) (hL : L.length = 0 + b.length) (w : World) :
    Calls Tryz.prog 162 #[S L] w fun e w' => e = .returned (.tuple #[.int .u64 (rsf b).M, .int .i64 ((if (rsf b).dot then (rsf b).dp else (rsf b).nd) - (rsf b).nd), .bool false, .bool false, .bool false, .int .i64 L.length, .bool true]) ∧ w = w' := by
  have hbl : 0 < b.length := (List.getElem?_eq_some_iff.1 h0).1
  have hL1 : b.length ≤ 400 := hb.len
  have hb0 := byte_at (hLb 0 c0 h0)
  have t48 : ((c0.toNat : Int) == 48) = false := by
    rw [beq_eq_false_iff_ne]
    intro e
    exact hz (by rw [← UInt8.toNat_inj]; exact_mod_cast e)
  have t43 : ((c0.toNat : Int) == 43) = false := by rw [beq_eq_false_iff_ne]; omega
  have t45 : ((c0.toNat : Int) == 45) = false := by rw [beq_eq_false_iff_ne]; omega
  have hne : ¬ L = [] := by intro e; rw [e] at hL; simp at hL; omega
  have hLl : L.length ≤ 1000 := by omega
  have hLp : 0 < L.length := by omega
  obtain ⟨R, hR⟩ : ∃ R : Int, R = ((if (rsf b).dot then (rsf b).dp else (rsf b).nd) - (rsf b).nd) := ⟨_, rfl⟩
  obtain ⟨N, hN⟩ : ∃ N : Nat, N = (rsf b).M := ⟨_, rfl⟩
  rw [← hR, ← hN]
  have HR := Lib.hid hR
  have HN := Lib.hid hN
  clear hR hN
  have HLB := Lib.hid hLb
  clear hLb h0 hz
  have HL := Lib.hid hL
  clear hL
  rcases (by omega : (2 : Int) < L.length ∨ (L.length : Int) ≤ 2) with hl2 | hl2
  all_goals
    go_enter Tryz.func162, Tryz.ntmps162
    go_wp2
    go_step3
    go_wp2
    try go_step3
    go_wp2
    try go_step3
    go_wp2
    go_loop [2, 5, 7, 9, 13, 14, 15, 16, 17] (fun v2 v5 v7 v9 v13 v14 v15 v16 v17 => ∃ k : Nat, k ≤ b.length ∧ v2 = .int .u64 (rsf (b.take k)).M ∧ v5 = .bool false ∧ v7 = .int .i64 k ∧ v9 = .bool false ∧ v13 = .bool (rsf (b.take k)).dot ∧ v14 = .bool (rsf (b.take k)).dig ∧ v15 = .int .i64 (rsf (b.take k)).nd ∧ v16 = .int .i64 (rsf (b.take k)).nd ∧ v17 = .int .i64 (rsf (b.take k)).dp) (fun v2 v5 v7 v9 v13 v14 v15 v16 v17 => L.length + 1 - (intOf v7).toNat)
    case atStart => exact ⟨0, Nat.zero_le _, rfl, rfl, rfl, rfl, rfl, rfl, rfl, rfl, rfl⟩
    case round =>
      obtain ⟨k, hk, rfl, rfl, rfl, rfl, rfl, rfl, rfl, rfl, rfl⟩ := hrel
      obtain ⟨s, hs⟩ : ∃ s, s = rsf (b.take k) := ⟨_, rfl⟩
      rw [← hs]
      obtain ⟨M, nd, dp, dot, dig⟩ := s
      obtain ⟨l1, l2, l3, l4⟩ := body_lim hb hk hs
      by_cases hgo : k < b.length
      · have hgo2 : k < L.length := by have := HL.out; omega
        have hsn := rsf_take b k hgo
        rw [← hs] at hsn
        have hdot := hb.one k hgo
        rw [← hs] at hdot
        obtain ⟨c, hc⟩ : ∃ c, c = b[k] := ⟨_, rfl⟩
        rw [← hc] at hsn hdot
        have hcc := byte_at (HLB.out k c (by rw [hc]; exact List.getElem?_eq_getElem hgo))
        have hcd := hb.dp c (by rw [hc]; exact List.getElem_mem hgo)
        have HCC := Lib.hid hc
        have HS := Lib.hid hs
        clear hc hs
        by_cases e46 : c = 46
        · have hdot := hdot e46
          simp only at hdot
          subst hdot
          unfold stp at hsn
          rw [if_pos e46] at hsn
          have c46 : ((c.toNat : Int) == 46) = true := by rw [e46]; rfl
          have c95 : ((c.toNat : Int) == 95) = false := by rw [e46]; rfl
          have HSN := Lib.hid hsn
          clear hsn hcd
          go_wp2
          refine ⟨⟨k + 1, by omega, ?_, rfl, by go_num, rfl, ?_, ?_, ?_, ?_, ?_⟩, by simp [intOf]; omega⟩
          all_goals rw [HSN.out]
        · have hdg : 48 ≤ c.toNat ∧ c.toNat ≤ 57 := by
            rcases hcd with h | h
            · exact absurd h e46
            · exact h
          have c46 : ((c.toNat : Int) == 46) = false := by
            rw [beq_eq_false_iff_ne]
            intro e
            exact e46 (by rw [← UInt8.toNat_inj]; exact_mod_cast e)
          have c95 : ((c.toNat : Int) == 95) = false := by rw [beq_eq_false_iff_ne]; omega
          unfold stp at hsn
          rw [if_neg e46] at hsn
          by_cases ez : c = 48 ∧ nd = 0
          · rw [if_pos (by exact ez)] at hsn
            have hz1 : ((c.toNat : Int) == 48) = true := by rw [ez.1]; rfl
            have hz2 : ((nd : Int) == 0) = true := by rw [ez.2]; rfl
            have HSN := Lib.hid hsn
            clear hsn hcd hdot ez
            go_wp2
            refine ⟨⟨k + 1, by omega, ?_, rfl, by go_num, rfl, ?_, ?_, ?_, ?_, ?_⟩, by simp [intOf]; omega⟩
            all_goals rw [HSN.out]
          · rw [if_neg (by exact ez)] at hsn
            have hzz : ((c.toNat : Int) == 48 && (nd : Int) == 0) = false := by
              cases hq : ((c.toNat : Int) == 48 && (nd : Int) == 0) with
              | false => rfl
              | true =>
                exfalso
                simp only [Bool.and_eq_true, beq_iff_eq] at hq
                exact ez ⟨by rw [← UInt8.toNat_inj]; exact_mod_cast hq.1, by omega⟩
            have HSN := Lib.hid hsn
            have HZ := Lib.hid hzz
            clear hsn hcd hdot ez hzz
            go_wp2
            all_goals first
              | (exfalso; have := HZ.out; simp_all; done)
              | (refine ⟨⟨k + 1, by omega, ?_, rfl, by go_num, rfl, ?_, ?_, ?_, ?_, ?_⟩, by simp [intOf]; omega⟩
                 all_goals rw [HSN.out]
                 all_goals first
                   | rfl
                   | (congr 1; omega)
                   | go_num)
      · obtain rfl : k = b.length := by omega
        rw [List.take_length] at hs
        have hdig := hb.dig
        have hpos := hb.pos
        rw [← hs] at hdig hpos
        simp only at hdig hpos
        subst hdig
        have hM0 : ((M : Int) == 0) = false := by rw [beq_eq_false_iff_ne]; omega
        have hM0' : ((M : Int) != 0) = true := by simp; omega
        have HS := Lib.hid hs
        clear hs hpos
        have hLn := HL.out
        cases dot
        all_goals
          go_wp2
          all_goals
            ((try simp only [Exit.inBlock, Exit.then]); refine bodyPost_ret (results_tmp7 rfl _ _ _) rfl ?_)
            refine ⟨?_, rfl⟩
            rw [HN.out, HR.out, ← HS.out]
            first
            | rfl
            | (rw [hLn]; simp; done)
            | (simp [hLn]; done)
            | (simp [hLn]; omega)

set_option maxRecDepth 20000 in
set_option maxHeartbeats 8000000 in
theorem rdf_100 (L b : Bs) (hb : Body b) (c0 : UInt8) (h0 : b[0]? = some c0) (hc0 : 48 ≤ c0.toNat ∧ c0.toNat ≤ 57) (hz : c0 ≠ 48) (hsg : L[0]? = some 45) (hLb : ∀ (k : Nat) (c : UInt8), b[k]? = some c → L[k + 1]? = some c) (hL : L.length = 1 + b.length) (w : World) :
    Calls Tryz.prog 162 #[S L] w fun e w' => e = .returned (.tuple #[.int .u64 (rsf b).M, .int .i64 ((if (rsf b).dot then (rsf b).dp else (rsf b).nd) - (rsf b).nd), .bool true, .bool false, .bool false, .int .i64 L.length, .bool true]) ∧ w = w' := by
  have hbl : 0 < b.length := (List.getElem?_eq_some_iff.1 h0).1
  have hL1 : b.length ≤ 400 := hb.len
  have hb0 := byte_at hsg
  have hb1 := byte_at (hLb 0 c0 h0)
  have t48 : ((c0.toNat : Int) == 48) = false := by
    rw [beq_eq_false_iff_ne]
    intro e
    exact hz (by rw [← UInt8.toNat_inj]; exact_mod_cast e)
  have hne : ¬ L = [] := by intro e; rw [e] at hL; simp at hL; omega
  have hLl : L.length ≤ 1000 := by omega
  have hLp : 0 < L.length := by omega
  obtain ⟨R, hR⟩ : ∃ R : Int, R = ((if (rsf b).dot then (rsf b).dp else (rsf b).nd) - (rsf b).nd) := ⟨_, rfl⟩
  obtain ⟨N, hN⟩ : ∃ N : Nat, N = (rsf b).M := ⟨_, rfl⟩
  rw [← hR, ← hN]
  have HR := Lib.hid hR
  have HN := Lib.hid hN
  clear hR hN
  have HLB := Lib.hid hLb
  clear hLb h0 hz
  have HL := Lib.hid hL
  clear hL
  rcases (by omega : (3 : Int) < L.length ∨ (L.length : Int) ≤ 3) with hl2 | hl2
  all_goals
    go_enter Tryz.func162, Tryz.ntmps162
    go_wp2
    go_step3
    go_wp2
    try go_step3
    go_wp2
    try go_step3
    go_wp2
    go_loop [2, 5, 7, 9, 13, 14, 15, 16, 17] (fun v2 v5 v7 v9 v13 v14 v15 v16 v17 => ∃ k : Nat, k ≤ b.length ∧ v2 = .int .u64 (rsf (b.take k)).M ∧ v5 = .bool false ∧ v7 = .int .i64 (k + 1 : Nat) ∧ v9 = .bool false ∧ v13 = .bool (rsf (b.take k)).dot ∧ v14 = .bool (rsf (b.take k)).dig ∧ v15 = .int .i64 (rsf (b.take k)).nd ∧ v16 = .int .i64 (rsf (b.take k)).nd ∧ v17 = .int .i64 (rsf (b.take k)).dp) (fun v2 v5 v7 v9 v13 v14 v15 v16 v17 => L.length + 1 - (intOf v7).toNat)
    case atStart => exact ⟨0, Nat.zero_le _, rfl, rfl, rfl, rfl, rfl, rfl, rfl, rfl, rfl⟩
    case round =>
      obtain ⟨k, hk, rfl, rfl, rfl, rfl, rfl, rfl, rfl, rfl, rfl⟩ := hrel
      obtain ⟨s, hs⟩ : ∃ s, s = rsf (b.take k) := ⟨_, rfl⟩
      rw [← hs]
      obtain ⟨M, nd, dp, dot, dig⟩ := s
      obtain ⟨l1, l2, l3, l4⟩ := body_lim hb hk hs
      by_cases hgo : k < b.length
      · have hgo2 : (k + 1 : Nat) < L.length := by have := HL.out; omega
        have hsn := rsf_take b k hgo
        rw [← hs] at hsn
        have hdot := hb.one k hgo
        rw [← hs] at hdot
        obtain ⟨c, hc⟩ : ∃ c, c = b[k] := ⟨_, rfl⟩
        rw [← hc] at hsn hdot
        have hcc := byte_at (HLB.out k c (by rw [hc]; exact List.getElem?_eq_getElem hgo))
        have hcd := hb.dp c (by rw [hc]; exact List.getElem_mem hgo)
        have HCC := Lib.hid hc
        have HS := Lib.hid hs
        clear hc hs
        by_cases e46 : c = 46
        · have hdot := hdot e46
          simp only at hdot
          subst hdot
          unfold stp at hsn
          rw [if_pos e46] at hsn
          have c46 : ((c.toNat : Int) == 46) = true := by rw [e46]; rfl
          have c95 : ((c.toNat : Int) == 95) = false := by rw [e46]; rfl
          have HSN := Lib.hid hsn
          clear hsn hcd
          go_wp2
          refine ⟨⟨k + 1, by omega, ?_, rfl, by go_num, rfl, ?_, ?_, ?_, ?_, ?_⟩, by simp [intOf]; omega⟩
          all_goals rw [HSN.out]
        · have hdg : 48 ≤ c.toNat ∧ c.toNat ≤ 57 := by
            rcases hcd with h | h
            · exact absurd h e46
            · exact h
          have c46 : ((c.toNat : Int) == 46) = false := by
            rw [beq_eq_false_iff_ne]
            intro e
            exact e46 (by rw [← UInt8.toNat_inj]; exact_mod_cast e)
          have c95 : ((c.toNat : Int) == 95) = false := by rw [beq_eq_false_iff_ne]; omega
          unfold stp at hsn
          rw [if_neg e46] at hsn
          by_cases ez : c = 48 ∧ nd = 0
          · rw [if_pos (by exact ez)] at hsn
            have hz1 : ((c.toNat : Int) == 48) = true := by rw [ez.1]; rfl
            have hz2 : ((nd : Int) == 0) = true := by rw [ez.2]; rfl
            have HSN := Lib.hid hsn
            clear hsn hcd hdot ez
            go_wp2
            refine ⟨⟨k + 1, by omega, ?_, rfl, by go_num, rfl, ?_, ?_, ?_, ?_, ?_⟩, by simp [intOf]; omega⟩
            all_goals rw [HSN.out]
          · rw [if_neg (by exact ez)] at hsn
            have hzz : ((c.toNat : Int) == 48 && (nd : Int) == 0) = false := by
              cases hq : ((c.toNat : Int) == 48 && (nd : Int) == 0) with
              | false => rfl
              | true =>
                exfalso
                simp only [Bool.and_eq_true, beq_iff_eq] at hq
                exact ez ⟨by rw [← UInt8.toNat_inj]; exact_mod_cast hq.1, by omega⟩
            have HSN := Lib.hid hsn
            have HZ := Lib.hid hzz
            clear hsn hcd hdot ez hzz
            go_wp2
            all_goals first
              | (exfalso; have := HZ.out; simp_all; done)
              | (refine ⟨⟨k + 1, by omega, ?_, rfl, by go_num, rfl, ?_, ?_, ?_, ?_, ?_⟩, by simp [intOf]; omega⟩
                 all_goals rw [HSN.out]
                 all_goals first
                   | rfl
                   | (congr 1; omega)
                   | go_num)
      · obtain rfl : k = b.length := by omega
        rw [List.take_length] at hs
        have hdig := hb.dig
        have hpos := hb.pos
        rw [← hs] at hdig hpos
        simp only at hdig hpos
        subst hdig
        have hM0 : ((M : Int) == 0) = false := by rw [beq_eq_false_iff_ne]; omega
        have hM0' : ((M : Int) != 0) = true := by simp; omega
        have HS := Lib.hid hs
        clear hs hpos
        have hLn := HL.out
        cases dot
        all_goals
          go_wp2
          all_goals
            ((try simp only [Exit.inBlock, Exit.then]); refine bodyPost_ret (results_tmp7 rfl _ _ _) rfl ?_)
            refine ⟨?_, rfl⟩
            rw [HN.out, HR.out, ← HS.out]
            first
            | rfl
            | (rw [hLn]; simp; done)
            | (simp [hLn]; done)
            | (simp [hLn]; omega)

set_option maxRecDepth 20000 in
set_option maxHeartbeats 8000000 in
theorem rdf_010 (L b : Bs) (hb : Body b) (c0 : UInt8) (h0 : b[0]? = some c0) (hc0 : 48 ≤ c0.toNat ∧ c0.toNat ≤ 57) (hz : c0 = 48) (h1 : b[1]? = some 46) (h3 : 3 ≤ b.length) (hLb : ∀ (k : Nat) (c : UInt8), b[k]? = some c → L[k]? = some c) (hL : L.length = 0 + b.length) (w : World) :
    Calls Tryz.prog 162 #[S L] w fun e w' => e = .returned (.tuple #[.int .u64 (rsf b).M, .int .i64 ((if (rsf b).dot then (rsf b).dp else (rsf b).nd) - (rsf b).nd), .bool false, .bool false, .bool false, .int .i64 L.length, .bool true]) ∧ w = w' := by
  have hbl : 0 < b.length := (List.getElem?_eq_some_iff.1 h0).1
  have hL1 : b.length ≤ 400 := hb.len
  have hb0 := byte_at (hLb 0 c0 h0)
  have hb2 := byte_at (hLb 1 46 h1)
  have t48 : ((c0.toNat : Int) == 48) = true := by rw [hz]; rfl
  have t43 : ((c0.toNat : Int) == 43) = false := by rw [beq_eq_false_iff_ne]; omega
  have t45 : ((c0.toNat : Int) == 45) = false := by rw [beq_eq_false_iff_ne]; omega
  have hne : ¬ L = [] := by intro e; rw [e] at hL; simp at hL; omega
  have hLl : L.length ≤ 1000 := by omega
  have hLp : 0 < L.length := by omega
  obtain ⟨R, hR⟩ : ∃ R : Int, R = ((if (rsf b).dot then (rsf b).dp else (rsf b).nd) - (rsf b).nd) := ⟨_, rfl⟩
  obtain ⟨N, hN⟩ : ∃ N : Nat, N = (rsf b).M := ⟨_, rfl⟩
  rw [← hR, ← hN]
  have HR := Lib.hid hR
  have HN := Lib.hid hN
  clear hR hN
  have HLB := Lib.hid hLb
  clear hLb h0 hz
  have hl2 : (2 : Int) < L.length := by omega
  have HL := Lib.hid hL
  clear hL
  go_enter Tryz.func162, Tryz.ntmps162
  go_wp2
  go_step3
  go_wp2_with fail
  refine (Tryz.internal_strconv_lower 46 _).mono ?_
  rintro e w' ⟨rfl, hw⟩
  subst hw
  rw [low46]
  go_wp2
  try go_step3
  go_wp2
  try go_step3
  go_wp2
  go_loop [2, 5, 7, 9, 13, 14, 15, 16, 17] (fun v2 v5 v7 v9 v13 v14 v15 v16 v17 => ∃ k : Nat, k ≤ b.length ∧ v2 = .int .u64 (rsf (b.take k)).M ∧ v5 = .bool false ∧ v7 = .int .i64 k ∧ v9 = .bool false ∧ v13 = .bool (rsf (b.take k)).dot ∧ v14 = .bool (rsf (b.take k)).dig ∧ v15 = .int .i64 (rsf (b.take k)).nd ∧ v16 = .int .i64 (rsf (b.take k)).nd ∧ v17 = .int .i64 (rsf (b.take k)).dp) (fun v2 v5 v7 v9 v13 v14 v15 v16 v17 => L.length + 1 - (intOf v7).toNat)
  case atStart => exact ⟨0, Nat.zero_le _, rfl, rfl, rfl, rfl, rfl, rfl, rfl, rfl, rfl⟩
  case round =>
    obtain ⟨k, hk, rfl, rfl, rfl, rfl, rfl, rfl, rfl, rfl, rfl⟩ := hrel
    obtain ⟨s, hs⟩ : ∃ s, s = rsf (b.take k) := ⟨_, rfl⟩
    rw [← hs]
    obtain ⟨M, nd, dp, dot, dig⟩ := s
    obtain ⟨l1, l2, l3, l4⟩ := body_lim hb hk hs
    by_cases hgo : k < b.length
    · have hgo2 : k < L.length := by have := HL.out; omega
      have hsn := rsf_take b k hgo
      rw [← hs] at hsn
      have hdot := hb.one k hgo
      rw [← hs] at hdot
      obtain ⟨c, hc⟩ : ∃ c, c = b[k] := ⟨_, rfl⟩
      rw [← hc] at hsn hdot
      have hcc := byte_at (HLB.out k c (by rw [hc]; exact List.getElem?_eq_getElem hgo))
      have hcd := hb.dp c (by rw [hc]; exact List.getElem_mem hgo)
      have HCC := Lib.hid hc
      have HS := Lib.hid hs
      clear hc hs
      by_cases e46 : c = 46
      · have hdot := hdot e46
        simp only at hdot
        subst hdot
        unfold stp at hsn
        rw [if_pos e46] at hsn
        have c46 : ((c.toNat : Int) == 46) = true := by rw [e46]; rfl
        have c95 : ((c.toNat : Int) == 95) = false := by rw [e46]; rfl
        have HSN := Lib.hid hsn
        clear hsn hcd
        go_wp2
        refine ⟨⟨k + 1, by omega, ?_, rfl, by go_num, rfl, ?_, ?_, ?_, ?_, ?_⟩, by simp [intOf]; omega⟩
        all_goals rw [HSN.out]
      · have hdg : 48 ≤ c.toNat ∧ c.toNat ≤ 57 := by
          rcases hcd with h | h
          · exact absurd h e46
          · exact h
        have c46 : ((c.toNat : Int) == 46) = false := by
          rw [beq_eq_false_iff_ne]
          intro e
          exact e46 (by rw [← UInt8.toNat_inj]; exact_mod_cast e)
        have c95 : ((c.toNat : Int) == 95) = false := by rw [beq_eq_false_iff_ne]; omega
        unfold stp at hsn
        rw [if_neg e46] at hsn
        by_cases ez : c = 48 ∧ nd = 0
        · rw [if_pos (by exact ez)] at hsn
          have hz1 : ((c.toNat : Int) == 48) = true := by rw [ez.1]; rfl
          have hz2 : ((nd : Int) == 0) = true := by rw [ez.2]; rfl
          have HSN := Lib.hid hsn
          clear hsn hcd hdot ez
          go_wp2
          refine ⟨⟨k + 1, by omega, ?_, rfl, by go_num, rfl, ?_, ?_, ?_, ?_, ?_⟩, by simp [intOf]; omega⟩
          all_goals rw [HSN.out]
        · rw [if_neg (by exact ez)] at hsn
          have hzz : ((c.toNat : Int) == 48 && (nd : Int) == 0) = false := by
            cases hq : ((c.toNat : Int) == 48 && (nd : Int) == 0) with
            | false => rfl
            | true =>
              exfalso
              simp only [Bool.and_eq_true, beq_iff_eq] at hq
              exact ez ⟨by rw [← UInt8.toNat_inj]; exact_mod_cast hq.1, by omega⟩
          have HSN := Lib.hid hsn
          have HZ := Lib.hid hzz
          clear hsn hcd hdot ez hzz
          go_wp2
          all_goals first
            | (exfalso; have := HZ.out; simp_all; done)
            | (refine ⟨⟨k + 1, by omega, ?_, rfl, by go_num, rfl, ?_, ?_, ?_, ?_, ?_⟩, by simp [intOf]; omega⟩
               all_goals rw [HSN.out]
               all_goals first
                 | rfl
                 | (congr 1; omega)
                 | go_num)
    · obtain rfl : k = b.length := by omega
      rw [List.take_length] at hs
      have hdig := hb.dig
      have hpos := hb.pos
      rw [← hs] at hdig hpos
      simp only at hdig hpos
      subst hdig
      have hM0 : ((M : Int) == 0) = false := by rw [beq_eq_false_iff_ne]; omega
      have hM0' : ((M : Int) != 0) = true := by simp; omega
      have HS := Lib.hid hs
      clear hs hpos
      have hLn := HL.out
      cases dot
      all_goals
        go_wp2
        all_goals
          ((try simp only [Exit.inBlock, Exit.then]); refine bodyPost_ret (results_tmp7 rfl _ _ _) rfl ?_)
          refine ⟨?_, rfl⟩
          rw [HN.out, HR.out, ← HS.out]
          first
          | rfl
          | (rw [hLn]; simp; done)
          | (simp [hLn]; done)
          | (simp [hLn]; omega)

set_option maxRecDepth 20000 in
set_option maxHeartbeats 8000000 in
theorem rdf_110 (L b : Bs) (hb : Body b) (c0 : UInt8) (h0 : b[0]? = some c0) (hc0 : 48 ≤ c0.toNat ∧ c0.toNat ≤ 57) (hz : c0 = 48) (h1 : b[1]? = some 46) (h3 : 3 ≤ b.length) (hsg : L[0]? = some 45) (hLb : ∀ (k : Nat) (c : UInt8), b[k]? = some c → L[k + 1]? = some c) (hL : L.length = 1 + b.length) (w : World) :
    Calls Tryz.prog 162 #[S L] w fun e w' => e = .returned (.tuple #[.int .u64 (rsf b).M, .int .i64 ((if (rsf b).dot then (rsf b).dp else (rsf b).nd) - (rsf b).nd), .bool true, .bool false, .bool false, .int .i64 L.length, .bool true]) ∧ w = w' := by
  have hbl : 0 < b.length := (List.getElem?_eq_some_iff.1 h0).1
  have hL1 : b.length ≤ 400 := hb.len
  have hb0 := byte_at hsg
  have hb1 := byte_at (hLb 0 c0 h0)
  have hb2 := byte_at (hLb 1 46 h1)
  have t48 : ((c0.toNat : Int) == 48) = true := by rw [hz]; rfl
  have hne : ¬ L = [] := by intro e; rw [e] at hL; simp at hL; omega
  have hLl : L.length ≤ 1000 := by omega
  have hLp : 0 < L.length := by omega
  obtain ⟨R, hR⟩ : ∃ R : Int, R = ((if (rsf b).dot then (rsf b).dp else (rsf b).nd) - (rsf b).nd) := ⟨_, rfl⟩
  obtain ⟨N, hN⟩ : ∃ N : Nat, N = (rsf b).M := ⟨_, rfl⟩
  rw [← hR, ← hN]
  have HR := Lib.hid hR
  have HN := Lib.hid hN
  clear hR hN
  have HLB := Lib.hid hLb
  clear hLb h0 hz
  have hl2 : (3 : Int) < L.length := by omega
  have HL := Lib.hid hL
  clear hL
  go_enter Tryz.func162, Tryz.ntmps162
  go_wp2
  go_step3
  go_wp2_with fail
  refine (Tryz.internal_strconv_lower 46 _).mono ?_
  rintro e w' ⟨rfl, hw⟩
  subst hw
  rw [low46]
  go_wp2
  try go_step3
  go_wp2
  try go_step3
  go_wp2
  go_loop [2, 5, 7, 9, 13, 14, 15, 16, 17] (fun v2 v5 v7 v9 v13 v14 v15 v16 v17 => ∃ k : Nat, k ≤ b.length ∧ v2 = .int .u64 (rsf (b.take k)).M ∧ v5 = .bool false ∧ v7 = .int .i64 (k + 1 : Nat) ∧ v9 = .bool false ∧ v13 = .bool (rsf (b.take k)).dot ∧ v14 = .bool (rsf (b.take k)).dig ∧ v15 = .int .i64 (rsf (b.take k)).nd ∧ v16 = .int .i64 (rsf (b.take k)).nd ∧ v17 = .int .i64 (rsf (b.take k)).dp) (fun v2 v5 v7 v9 v13 v14 v15 v16 v17 => L.length + 1 - (intOf v7).toNat)
  case atStart => exact ⟨0, Nat.zero_le _, rfl, rfl, rfl, rfl, rfl, rfl, rfl, rfl, rfl⟩
  case round =>
    obtain ⟨k, hk, rfl, rfl, rfl, rfl, rfl, rfl, rfl, rfl, rfl⟩ := hrel
    obtain ⟨s, hs⟩ : ∃ s, s = rsf (b.take k) := ⟨_, rfl⟩
    rw [← hs]
    obtain ⟨M, nd, dp, dot, dig⟩ := s
    obtain ⟨l1, l2, l3, l4⟩ := body_lim hb hk hs
    by_cases hgo : k < b.length
    · have hgo2 : (k + 1 : Nat) < L.length := by have := HL.out; omega
      have hsn := rsf_take b k hgo
      rw [← hs] at hsn
      have hdot := hb.one k hgo
      rw [← hs] at hdot
      obtain ⟨c, hc⟩ : ∃ c, c = b[k] := ⟨_, rfl⟩
      rw [← hc] at hsn hdot
      have hcc := byte_at (HLB.out k c (by rw [hc]; exact List.getElem?_eq_getElem hgo))
      have hcd := hb.dp c (by rw [hc]; exact List.getElem_mem hgo)
      have HCC := Lib.hid hc
      have HS := Lib.hid hs
      clear hc hs
      by_cases e46 : c = 46
      · have hdot := hdot e46
        simp only at hdot
        subst hdot
        unfold stp at hsn
        rw [if_pos e46] at hsn
        have c46 : ((c.toNat : Int) == 46) = true := by rw [e46]; rfl
        have c95 : ((c.toNat : Int) == 95) = false := by rw [e46]; rfl
        have HSN := Lib.hid hsn
        clear hsn hcd
        go_wp2
        refine ⟨⟨k + 1, by omega, ?_, rfl, by go_num, rfl, ?_, ?_, ?_, ?_, ?_⟩, by simp [intOf]; omega⟩
        all_goals rw [HSN.out]
      · have hdg : 48 ≤ c.toNat ∧ c.toNat ≤ 57 := by
          rcases hcd with h | h
          · exact absurd h e46
          · exact h
        have c46 : ((c.toNat : Int) == 46) = false := by
          rw [beq_eq_false_iff_ne]
          intro e
          exact e46 (by rw [← UInt8.toNat_inj]; exact_mod_cast e)
        have c95 : ((c.toNat : Int) == 95) = false := by rw [beq_eq_false_iff_ne]; omega
        unfold stp at hsn
        rw [if_neg e46] at hsn
        by_cases ez : c = 48 ∧ nd = 0
        · rw [if_pos (by exact ez)] at hsn
          have hz1 : ((c.toNat : Int) == 48) = true := by rw [ez.1]; rfl
          have hz2 : ((nd : Int) == 0) = true := by rw [ez.2]; rfl
          have HSN := Lib.hid hsn
          clear hsn hcd hdot ez
          go_wp2
          refine ⟨⟨k + 1, by omega, ?_, rfl, by go_num, rfl, ?_, ?_, ?_, ?_, ?_⟩, by simp [intOf]; omega⟩
          all_goals rw [HSN.out]
        · rw [if_neg (by exact ez)] at hsn
          have hzz : ((c.toNat : Int) == 48 && (nd : Int) == 0) = false := by
            cases hq : ((c.toNat : Int) == 48 && (nd : Int) == 0) with
            | false => rfl
            | true =>
              exfalso
              simp only [Bool.and_eq_true, beq_iff_eq] at hq
              exact ez ⟨by rw [← UInt8.toNat_inj]; exact_mod_cast hq.1, by omega⟩
          have HSN := Lib.hid hsn
          have HZ := Lib.hid hzz
          clear hsn hcd hdot ez hzz
          go_wp2
          all_goals first
            | (exfalso; have := HZ.out; simp_all; done)
            | (refine ⟨⟨k + 1, by omega, ?_, rfl, by go_num, rfl, ?_, ?_, ?_, ?_, ?_⟩, by simp [intOf]; omega⟩
               all_goals rw [HSN.out]
               all_goals first
                 | rfl
                 | (congr 1; omega)
                 | go_num)
    · obtain rfl : k = b.length := by omega
      rw [List.take_length] at hs
      have hdig := hb.dig
      have hpos := hb.pos
      rw [← hs] at hdig hpos
      simp only at hdig hpos
      subst hdig
      have hM0 : ((M : Int) == 0) = false := by rw [beq_eq_false_iff_ne]; omega
      have hM0' : ((M : Int) != 0) = true := by simp; omega
      have HS := Lib.hid hs
      clear hs hpos
      have hLn := HL.out
      cases dot
      all_goals
        go_wp2
        all_goals
          ((try simp only [Exit.inBlock, Exit.then]); refine bodyPost_ret (results_tmp7 rfl _ _ _) rfl ?_)
          refine ⟨?_, rfl⟩
          rw [HN.out, HR.out, ← HS.out]
          first
          | rfl
          | (rw [hLn]; simp; done)
          | (simp [hLn]; done)
          | (simp [hLn]; omega)
end Go.Proofs.YtghajgdiaopioaaGreatDoor
end
