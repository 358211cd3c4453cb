/- Walks and plain laws joined (Sg). Conditions: stand in each law. -/
import Derived.Test.YtghajgdiaopioaaGreatDoorJy
set_option linter.unusedVariables false
set_option linter.unusedSimpArgs false
section
/- Walks: isEmpty, full, IsFull. Conditions: stand in each contract. -/
namespace Go.Proofs.YtghajgdiaopioaaGreatDoor
open Go.RowKit Go.Proofs Tx
open Go.Proofs.YtghajgdiaopioaaGreatDoorW.PrintWords
theorem beq0 {n : Nat} (h : n = 0) : ((n : Int) == 0) = true := by rw [h]; rfl
theorem beq0n {n : Nat} (h : ¬ n = 0) : ((n : Int) == 0) = false := by rw [beq_eq_false_iff_ne]; omega
theorem ibeq {a c : Int} (h : a = c) : (a == c) = true := by rw [h]; exact beq_self_eq_true c
theorem ibeqn {a c : Int} (h : ¬ a = c) : (a == c) = false := by rw [beq_eq_false_iff_ne]; exact h

set_option maxRecDepth 20000 in
set_option maxHeartbeats 1000000 in
/-- isEmpty. -/
theorem isEmpty_any (n : Nat) (w : World) (s : Sh) (v : Value) (h : ShV n w s v) (hP : (ptsS s).length ≤ 1000000000) :
    Calls Tryz.prog 24 #[v] w fun e w' => ∃ b, e = .returned (.bool b) ∧ Below w.heap.size w w' ∧ (b = true → emptyS s = true) := by
  obtain ⟨k, A, l, c, A', p, c', rfl, hk, hl, hp, -, -⟩ := h.open_
  have hb0 := below_alloc1 w (.cells #[.int .i64 k, .slice A l c, .slice A' p c'] 25)
  have hk0 := blk_new w (.cells #[.int .i64 k, .slice A l c, .slice A' p c'] 25)
  have hcall := points_any n _ s _ (h.below hb0) hP
  obtain ⟨m0, m1, m2, n0, n1, n2⟩ := three_facts hk0
  obtain ⟨N, hN⟩ : ∃ N, N = (ptsS s).length := ⟨_, rfl⟩
  have hem : N = 0 → p = 0 → (l = 0 ∨ k = 2 ∨ k = 4) → emptyS s = true := by
    intro h1 h2 h3
    unfold emptyS
    rw [← hN, ← hp, ← hl, ← hk]
    simp only [Bool.and_eq_true, Bool.or_eq_true, decide_eq_true_eq]
    exact ⟨⟨h1, h2⟩, by omega⟩
  have HEM := Lib.hid hem
  have HB0 := Lib.hid hb0
  have HK0 := Lib.hid hk0
  have HN := Lib.hid hN
  clear hb0 hk0 h hk hl hp hem hN
  go_enter Tryz.func24, Tryz.ntmps24
  go_wp2_with fail
  refine hcall.mono ?_
  clear hcall
  rintro e w1 ⟨x, rfl, hx, hb1⟩
  obtain ⟨Az, nz, cz, rfl⟩ := R_sl hx
  obtain ⟨hnz, -, -⟩ := Kd.R_reads' hx
  rw [← HN.out] at hnz
  subst hnz
  have HB1 := Lib.hid (below_then HB0.out (by simp) hb1)
  obtain ⟨m0', m1', m2', n0', n1', n2'⟩ := three_facts (blk_below HK0.out hb1)
  clear hb1 hx
  by_cases a1 : nz = 0
  · have g1 := beq0 a1
    by_cases a2 : p = 0
    · have g2 := beq0 a2
      by_cases a3 : l = 0
      · have g3 := beq0 a3
        go_wp2
        go_ret
        exact ⟨_, rfl, HB1.out, fun _ => HEM.out a1 a2 (.inl a3)⟩
      · have g3 := beq0n a3
        by_cases a4 : k = 2
        · have g4 := ibeq a4
          go_wp2
          go_ret
          exact ⟨_, rfl, HB1.out, fun _ => HEM.out a1 a2 (.inr (.inl a4))⟩
        · have g4 := ibeqn a4
          by_cases a5 : k = 4
          · have g5 := ibeq a5
            go_wp2
            go_ret
            exact ⟨_, rfl, HB1.out, fun _ => HEM.out a1 a2 (.inr (.inr a5))⟩
          · have g5 := ibeqn a5
            go_wp2
            go_ret
            exact ⟨_, rfl, HB1.out, by simp⟩
    · have g2 := beq0n a2
      go_wp2
      go_ret
      exact ⟨_, rfl, HB1.out, by simp⟩
  · have g1 := beq0n a1
    go_wp2
    go_ret
    exact ⟨_, rfl, HB1.out, by simp⟩

theorem fullS_mk {s : Sh} (h1 : ∀ l ∈ s.lists, l.length ≠ 0) (h2 : ∀ t ∈ s.parts, fullS t = true) (h3 : 0 < s.lists.length + s.parts.length) : fullS s = true := by
  cases s with
  | mk k ls ps =>
    rw [fullS, fullSs_eq]
    simp only [Bool.and_eq_true, List.all_eq_true, decide_eq_true_eq]
    exact ⟨⟨h1, h2⟩, h3⟩
set_option maxRecDepth 20000 in
set_option maxHeartbeats 2000000 in
theorem full_step (n : Nat) (ih : ∀ k, n = k + 1 → ∀ (w : World) (s : Sh) (v : Value), ShV k w s v → Calls Tryz.prog 25 #[v] w fun e w' => ∃ b, e = .returned (.bool b) ∧ Below w.heap.size w w' ∧ (b = true → fullS s = true))
    (w : World) (s : Sh) (v : Value) (h : ShV n w s v) :
    Calls Tryz.prog 25 #[v] w fun e w' => ∃ b, e = .returned (.bool b) ∧ Below w.heap.size w w' ∧ (b = true → fullS s = true) := by
  obtain ⟨A, c, A', c', rfl, hC, hC'⟩ := h
  have hbx := below_alloc1 w (.cells #[.int .i64 s.kind, .slice A s.lists.length c, .slice A' s.parts.length c'] 25)
  have hkx := blk_new w (.cells #[.int .i64 s.kind, .slice A s.lists.length c, .slice A' s.parts.length c'] 25)
  obtain ⟨m0, m1, m2, n0, n1, n2⟩ := three_facts hkx
  have hll : s.lists.length ≤ 9223372036854775807 := hC.2.1
  have hpl : s.parts.length ≤ 9223372036854775807 := hC'.2.1
  have HBX := Lib.hid hbx
  have HKX := Lib.hid hkx
  clear hbx hkx
  go_enter Tryz.func25, Tryz.ntmps25
  go_wp2
  go_loopw [10] (fun v10 wr => ∃ j : Nat, v10 = .int .i64 j ∧ j ≤ s.lists.length ∧ Below w.heap.size w wr ∧ wr.heap[w.heap.size]? = some (.cells #[.int .i64 s.kind, .slice A s.lists.length c, .slice A' s.parts.length c'] 25 (0, 0)) ∧ ∀ l ∈ s.lists.take j, l.length ≠ 0) (fun v10 wr => s.lists.length - (intOf v10).toNat)
  case atStart => exact ⟨0, rfl, Nat.zero_le _, HBX.out, HKX.out, by simp⟩
  case round =>
    obtain ⟨j, rfl, hj, hb, hk, hall⟩ := hrel
    have hszr := hb.size
    by_cases hlt : j < s.lists.length
    · obtain ⟨ad, A2, c2, rfl, q0, hC2⟩ := get_row1 (Kd.C_below hC hb) rfl j hlt
      obtain ⟨r, hr⟩ : ∃ r, r = s.lists[j] := ⟨_, rfl⟩
      rw [← hr] at q0
      have HR := Lib.hid hr
      have HB := Lib.hid hb
      have HK := Lib.hid hk
      have HALL := Lib.hid hall
      have HC := Lib.hid hC
      have HC' := Lib.hid hC'
      obtain ⟨m, hm⟩ : ∃ m, m = r.length := ⟨_, rfl⟩
      rw [← hm] at q0
      have HM := Lib.hid hm
      clear hr hb hk hall hC hC' hC2 hm
      by_cases h0 : m = 0
      · have g0 := beq0 h0
        clear h0
        go_wp2
        go_ret
        exact ⟨_, rfl, HB.out, by simp⟩
      · have g0 := beq0n h0
        go_wp2
        refine ⟨⟨j + 1, by go_num, by omega, HB.out, HK.out, fun l hl => ?_⟩, by simp [intOf]; omega⟩
        rcases mem_take_succ hlt hl with h | h
        · exact HALL.out l h
        · rw [h, ← HR.out, ← HM.out]; exact h0
    · have e1 : s.lists.take j = s.lists := List.take_of_length_le (by omega)
      rw [e1] at hall
      have HALL := Lib.hid hall
      obtain ⟨m0', m1', m2', n0', n1', n2'⟩ := three_facts hk
      have HB := Lib.hid hb
      have HK := Lib.hid hk
      clear e1 hall hb hk
      obtain ⟨w1, hw1⟩ : ∃ w1, w1 = wr := ⟨_, rfl⟩
      subst hw1
      go_wp2
      go_loopw [21] (fun v21 wi => ∃ i : Nat, v21 = .int .i64 i ∧ i ≤ s.parts.length ∧ Below w.heap.size w wi ∧ wi.heap[w.heap.size]? = some (.cells #[.int .i64 s.kind, .slice A s.lists.length c, .slice A' s.parts.length c'] 25 (0, 0)) ∧ ∀ t ∈ s.parts.take i, fullS t = true) (fun v21 wi => s.parts.length - (intOf v21).toNat)
      case atStart => exact ⟨0, rfl, Nat.zero_le _, HB.out, HK.out, by simp⟩
      case round =>
        obtain ⟨i, rfl, hi, hbi, hki, halli⟩ := hrel
        have hszi := hbi.size
        by_cases hlti : i < s.parts.length
        · obtain ⟨k2, ad, A2, c2, A3, c3, hn2, rfl, q0, q1, q2, hC2, hC3⟩ := get_sh (Kd.C_below hC' hbi) rfl i hlti
          obtain ⟨r, hr⟩ : ∃ r, r = s.parts[i] := ⟨_, rfl⟩
          rw [← hr] at q0 q1 q2 hC2 hC3
          obtain ⟨kr, hkr⟩ : ∃ kr, kr = r.kind := ⟨_, rfl⟩
          obtain ⟨lr, hlr⟩ : ∃ lr, lr = r.lists.length := ⟨_, rfl⟩
          obtain ⟨pr, hpr⟩ : ∃ pr, pr = r.parts.length := ⟨_, rfl⟩
          have hbo := below_alloc1 wr (.cells #[.int .i64 kr, .slice A2 lr c2, .slice A3 pr c3] 25)
          have hcall := ih k2 hn2 (wr.alloc (.cells #[.int .i64 kr, .slice A2 lr c2, .slice A3 pr c3] 25)) r _ ⟨A2, c2, A3, c3, rfl, Kd.C_below hC2 hbo, Kd.C_below hC3 hbo⟩
          rw [← hkr, ← hlr, ← hpr] at hcall
          rw [← hkr] at q0
          rw [← hlr] at q1
          rw [← hpr] at q2
          have HR := Lib.hid hr
          have HKI := Lib.hid (blk_alloc hki (.cells #[.int .i64 kr, .slice A2 lr c2, .slice A3 pr c3] 25))
          have HBI := Lib.hid (hbi.alloc hszi (.cells #[.int .i64 kr, .slice A2 lr c2, .slice A3 pr c3] 25))
          have HALI := Lib.hid halli
          have HC' := Lib.hid hC'
          clear hn2 hC2 hC3 hr hkr hlr hpr hbo hbi halli hC hC' hki
          go_wp2_with fail
          refine hcall.mono ?_
          clear hcall
          rintro e w2 ⟨b1, rfl, hb1, hq1⟩
          have HB1 := Lib.hid (below_then HBI.out HBI.out.size hb1)
          have HK1 := Lib.hid (blk_below HKI.out hb1)
          clear hb1
          cases b1 with
          | false =>
            go_wp2
            go_ret
            exact ⟨_, rfl, HB1.out, by simp⟩
          | true =>
            have HQ1 := Lib.hid (hq1 rfl)
            clear hq1
            go_wp2
            refine ⟨⟨i + 1, by go_num, by omega, HB1.out, HK1.out, fun t ht => ?_⟩, by simp [intOf]; omega⟩
            rcases mem_take_succ hlti ht with h | h
            · exact HALI.out t h
            · rw [h, ← HR.out]; exact HQ1.out
        · have e1 : s.parts.take i = s.parts := List.take_of_length_le (by omega)
          rw [e1] at halli
          have HBI := Lib.hid hbi
          have HALI := Lib.hid halli
          obtain ⟨m0'', m1'', m2'', n0'', n1'', n2''⟩ := three_facts hki
          clear hbi halli e1 hki
          go_wp2
          go_ret
          refine ⟨_, rfl, HBI.out, fun hb => fullS_mk HALL.out HALI.out ?_⟩
          rcases Nat.eq_zero_or_pos (s.lists.length + s.parts.length) with h0 | h0
          · have e1 : s.lists.length = 0 := by omega
            have e2 : s.parts.length = 0 := by omega
            rw [e1, e2] at hb
            simp [wrap64] at hb
          · exact h0
/-- full. -/
theorem full_any : ∀ (n : Nat) (w : World) (s : Sh) (v : Value), ShV n w s v → Calls Tryz.prog 25 #[v] w fun e w' => ∃ b, e = .returned (.bool b) ∧ Below w.heap.size w w' ∧ (b = true → fullS s = true)
  | 0 => full_step 0 (fun k hk => by omega)
  | n + 1 => full_step (n + 1) (fun k hk => by
      obtain rfl : n = k := by omega
      exact full_any n)

set_option maxRecDepth 20000 in
set_option maxHeartbeats 1000000 in
/-- IsFull. -/
theorem isFull_any (n : Nat) (w : World) (s : Sh) (v : Value) (h : ShV n w s v) (hP : (ptsS s).length ≤ 1000000000) :
    Calls Tryz.prog 11 #[v] w fun e w' => ∃ b, e = .returned (.bool b) ∧ Below w.heap.size w w' ∧ (b = true → emptyS s = true ∨ fullS s = true) := by
  obtain ⟨k, A, l, c, A', p, c', rfl, -, -, -, -, -⟩ := h.open_
  have hb0 := below_alloc1 w (.cells #[.int .i64 k, .slice A l c, .slice A' p c'] 25)
  have hk0 := blk_new w (.cells #[.int .i64 k, .slice A l c, .slice A' p c'] 25)
  have hcall := isEmpty_any n _ s _ (h.below hb0) hP
  obtain ⟨m0, m1, m2, n0, n1, n2⟩ := three_facts hk0
  have HB0 := Lib.hid hb0
  have HK0 := Lib.hid hk0
  have HH := Lib.hid h
  clear hb0 hk0 h
  go_enter Tryz.func11, Tryz.ntmps11
  go_wp2_with fail
  refine hcall.mono ?_
  clear hcall
  rintro e w1 ⟨b, rfl, hb1, hs⟩
  have HB1 := Lib.hid (below_then HB0.out (by simp) hb1)
  obtain ⟨m0', m1', m2', n0', n1', n2'⟩ := three_facts (blk_below HK0.out hb1)
  clear hb1
  cases b with
  | true =>
    have HS := Lib.hid (hs rfl)
    clear hs
    go_wp2
    go_ret
    exact ⟨_, rfl, HB1.out, fun _ => .inl HS.out⟩
  | false =>
    clear hs
    have hcall := full_any n w1 s _ (HH.out.below HB1.out)
    go_wp2_with fail
    refine hcall.mono ?_
    clear hcall
    rintro e w2 ⟨b, rfl, hb2, hq⟩
    have HB2 := Lib.hid (below_then HB1.out HB1.out.size hb2)
    have HQ := Lib.hid hq
    clear hb2 hq
    go_wp2
    go_ret
    exact ⟨_, rfl, HB2.out, fun hb => .inr (HQ.out (by simpa using hb))⟩
end Go.Proofs.YtghajgdiaopioaaGreatDoor
end
