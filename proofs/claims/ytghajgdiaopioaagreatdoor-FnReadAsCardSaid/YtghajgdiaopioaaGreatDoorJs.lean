/- Walks and plain laws joined (Sf, Sg, Ya). Conditions: stand in each law. -/
import Derived.Test.YtghajgdiaopioaaGreatDoorJr
import Derived.Test.YtghajgdiaopioaaGreatDoorJp
import Derived.Test.YtghajgdiaopioaaGreatDoorJk
import Derived.Test.YtghajgdiaopioaaGreatDoorJq
import Derived.Lib.BufferOld
/- Walks: WholeShape, PointsOf, isEmpty, full, IsFull. Conditions: stand in each contract. -/
section
set_option linter.unusedVariables false
set_option linter.unusedSimpArgs false
namespace Go.Proofs.YtghajgdiaopioaaGreatDoor
open Go.RowKit Go.Proofs Tx
open Go.Proofs.YtghajgdiaopioaaGreatDoorW.PrintWords

theorem call23 : ∀ args w, (callFunc 23 args).run Tryz.prog w = .ok (.enter 23 args) w := by
  intro args w
  kernel_rfl
/-- A shape's value, with the numbers of its value shown. -/
theorem ShV.open_ {n : Nat} {w : World} {s : Sh} {v : Value} (h : ShV n w s v) :
    ∃ k A l c A' p c', v = .agg #[.int .i64 k, .slice A l c, .slice A' p c'] ∧ k = s.kind ∧ l = s.lists.length ∧ p = s.parts.length ∧ rowK.C w A s.lists.length s.lists ∧ (shK n).C w A' s.parts.length s.parts := by
  obtain ⟨A, c, A', c', rfl, h1, h2⟩ := h
  exact ⟨_, A, _, c, A', _, c', rfl, rfl, rfl, rfl, h1, h2⟩

set_option maxRecDepth 20000 in
set_option maxHeartbeats 1000000 in
/-- WholeShape. -/
theorem wholeShape_any (n : Nat) (w : World) (s : Sh) (v : Value) (h : ShV n w s v) (hL : LenS s) (hX : AllS F64 s) :
    Calls Tryz.prog 10 #[v] w fun e w' => ∃ b, e = .returned (.bool b) ∧ Below w.heap.size w w' ∧ (b = true → (∃ P Q, cnt 4 s = some (P, Q) ∧ P ≤ 300 ∧ Q ≤ 40) ∧ AllS WholeB s) := by
  obtain ⟨k, A, l, c, A', p, c', rfl, -, -, -, -, -⟩ := h.open_
  have hb0 := below_alloc1 w (.cells #[.int .i64 k, .slice A l c, .slice A' p c'] 25)
  have hk0 := blk_new w (.cells #[.int .i64 k, .slice A l c, .slice A' p c'] 25)
  have hcall := isShape_any n _ s _ (h.below hb0) hL
  obtain ⟨m0, m1, m2, n0, n1, n2⟩ := three_facts hk0
  have HB0 := Lib.hid hb0
  have HK0 := Lib.hid hk0
  have HH := Lib.hid h
  clear hb0 hk0 h
  go_enter Tryz.func10, Tryz.ntmps10
  go_wp2_with fail
  refine hcall.mono ?_
  clear hcall
  rintro e w1 ⟨b, rfl, hb1, hs⟩
  have HB1 := Lib.hid (below_then HB0.out (by simp) hb1)
  obtain ⟨m0', m1', m2', n0', n1', n2'⟩ := three_facts (blk_below HK0.out hb1)
  clear hb1
  cases b with
  | false =>
    go_wp2
    go_ret
    exact ⟨_, rfl, HB1.out, by simp⟩
  | true =>
    have HS := Lib.hid (hs rfl)
    clear hs
    have hcall := all_any 23 WholeB call23 whole_any n w1 s _ (HH.out.below HB1.out) hX
    go_wp2_with fail
    refine hcall.mono ?_
    clear hcall
    rintro e w2 ⟨b, rfl, hb2, hq⟩
    have HB2 := Lib.hid (below_then HB1.out HB1.out.size hb2)
    have HQ := Lib.hid hq
    clear hb2 hq
    go_wp2
    go_ret
    exact ⟨_, rfl, HB2.out, fun hb => ⟨HS.out, HQ.out (by simpa using hb)⟩⟩

theorem R_empty_at' {α : Type} (d : Kd α) (e : Nat) (W : World) (base n : Nat) (hn : n = W.heap.size) (hb : base ≤ W.heap.size) : d.R e (W.alloc (.cells #[] e)) base (fun _ => True) (.slice (some ⟨n, 0, none⟩) 0 0) [] := by
  subst hn
  exact Kd.R_lower (R_empty d e W) hb
theorem pt_KM {w w' : World} {base : Nat} {ok : Nat → Prop} {p : Pt} {cs : List Value} (h : ptK.K w p cs) : ptK.M w' base ok p cs := by
  obtain ⟨c0, c1, rfl, h0, h1⟩ := h
  cases h0
  cases h1
  exact ptK_M _ _ _ _
theorem flat_take {l : List (List Pt)} {j : Nat} (hj : j < l.length) : (l.take (j + 1)).flatten = (l.take j).flatten ++ l[j] := by
  rw [take_snoc1 hj, List.flatten_append]; simp
theorem flat_len (l : List (List Pt)) (j : Nat) : ((l.take j).flatten).length ≤ l.flatten.length := by
  have h : l.flatten = (l.take j).flatten ++ (l.drop j).flatten := by rw [← List.flatten_append, List.take_append_drop]
  rw [h, List.length_append]; omega
theorem call12 : ∀ args w, (callFunc 12 args).run Tryz.prog w = .ok (.enter 12 args) w := by
  intro args w
  kernel_rfl

set_option maxRecDepth 20000 in
set_option maxHeartbeats 2000000 in
theorem points_step (n : Nat) (ih : ∀ k, n = k + 1 → ∀ (w : World) (s : Sh) (v : Value), ShV k w s v → (ptsS s).length ≤ 1000000000 → Calls Tryz.prog 12 #[v] w fun e w' => ∃ x, e = .returned x ∧ ptK.R 49 w' w.heap.size (fun _ => True) x (ptsS s) ∧ Below w.heap.size w w')
    (w : World) (s : Sh) (v : Value) (h : ShV n w s v) (hP : (ptsS s).length ≤ 1000000000) :
    Calls Tryz.prog 12 #[v] w fun e w' => ∃ x, e = .returned x ∧ ptK.R 49 w' w.heap.size (fun _ => True) x (ptsS s) ∧ Below w.heap.size w w' := by
  obtain ⟨A, c, A', c', rfl, hC, hC'⟩ := h
  have hbx := below_alloc1 w (.cells #[.int .i64 s.kind, .slice A s.lists.length c, .slice A' s.parts.length c'] 25)
  have hkx := blk_new w (.cells #[.int .i64 s.kind, .slice A s.lists.length c, .slice A' s.parts.length c'] 25)
  obtain ⟨m0, m1, m2, n0, n1, n2⟩ := three_facts (blk_alloc hkx (.cells #[] 49 (0, 0)))
  have hll : s.lists.length ≤ 9223372036854775807 := hC.2.1
  have hpl : s.parts.length ≤ 9223372036854775807 := hC'.2.1
  have hPS : ptsS s = s.lists.flatten ++ (s.parts.map ptsS).flatten := by cases s; rw [ptsS, ptsSs_eq]; rfl
  rw [hPS] at hP ⊢
  rw [List.length_append] at hP
  have HBX := Lib.hid hbx
  have HKX := Lib.hid hkx
  clear hbx hkx hPS
  go_enter Tryz.func12, Tryz.ntmps12
  go_wp2
  go_loopw [3, 12] (fun v3 v12 wr => ∃ (B' : Option Addr) (k d' j : Nat), v3 = .slice B' k d' ∧ v12 = .int .i64 j ∧ j ≤ s.lists.length ∧ Below (w.heap.size + 1) (w.alloc (.cells #[.int .i64 s.kind, .slice A s.lists.length c, .slice A' s.parts.length c'] 25)) wr ∧ ptK.R 49 wr (w.heap.size + 1) (fun _ => True) (.slice B' k d') ((s.lists.take j).flatten)) (fun v3 v12 wr => s.lists.length - (intOf v12).toNat)
  case atStart => exact ⟨_, _, _, 0, rfl, rfl, Nat.zero_le _, (Below.refl _ _).alloc (by simp) _, by simpa using R_empty_at' ptK 49 (w.alloc _) (w.heap.size + 1) _ (by simp) (by simp)⟩
  case round =>
    obtain ⟨B', k, d', j, rfl, rfl, hj, hb, hR⟩ := hrel
    have hszr : w.heap.size + 1 ≤ wr.heap.size := by have := hb.size; simpa using this
    have hbw : Below w.heap.size w wr := HBX.out.trans (hb.mono (by omega))
    have hk := box_below HKX.out hb (by omega)
    by_cases hlt : j < s.lists.length
    · obtain ⟨ad, A2, c2, rfl, q0, hC2⟩ := get_row1 (Kd.C_below hC hbw) rfl j hlt
      have hft := flat_take hlt
      have hfl := flat_len s.lists (j + 1)
      obtain ⟨r, hr⟩ : ∃ r, r = s.lists[j] := ⟨_, rfl⟩
      rw [← hr] at q0 hC2 hft
      rw [hft, List.length_append] at hfl
      have HC := Lib.hid hC
      have HC2 := Lib.hid hC2
      have HC' := Lib.hid hC'
      have HR := Lib.hid hR
      have HB := Lib.hid hb
      have HFT := Lib.hid hft
      clear hC hC2 hC' hR hb hbw hk hr hft
      go_wp2_with (at_builtin; go_loud (refine Kd.R_append_rows ptK (Rr := ptK.K wr) (w0 := w.alloc (.cells #[.int .i64 s.kind, .slice (some ad) s.lists.length c, .slice A' s.parts.length c'] 25)) (w.heap.size + 1) rfl (.tmp 16) (.tmp 17) 27 49 (.agg #[.float .f64 0, .float .f64 0]) 16 rfl Tryz.underlying27 info49 rfl (by decide) (by decide) (.slice B' k d') ((s.lists.take j).flatten) r A2 r.length c2 (fun _ => True) (fun _ => False) rfl (by simp [Act.eval]) ?HO ?HR ?hKM ?hokp ?hfresh ?HB ?hbase ?hl ?_))
      case HO => exact HR.out
      case HR => exact HC2.out
      case hKM => exact fun x cs hx => pt_KM hx
      case hokp => exact fun _ h => h.elim
      case hfresh => exact fun _ _ => trivial
      case HB => exact HB.out
      case hbase => exact hszr
      case hl => omega
      intro v1 w3 hR4 hb5 hg5 hat5
      obtain ⟨A1, n1, c1, rfl⟩ := R_sl hR4
      rw [← HFT.out] at hR4
      have HR4 := Lib.hid hR4
      have HB5 := Lib.hid hb5
      have hC := HC.out
      have hC' := HC'.out
      clear hR4 hb5 hg5 hat5
      go_wp2
      exact ⟨⟨A1, n1, c1, j + 1, rfl, by go_num, by omega, HB5.out, HR4.out⟩, by simp [intOf]; omega⟩
    · have e1 : s.lists.take j = s.lists := List.take_of_length_le (by omega)
      rw [e1] at hR
      obtain ⟨m0', m1', m2', n0', n1', n2'⟩ := three_facts hk
      have HB := Lib.hid hb
      have HR := Lib.hid (show ptK.R 49 wr (w.heap.size + 1) (fun _ => True) (.slice B' k d') (s.lists.flatten ++ ((s.parts.take 0).map ptsS).flatten) by simpa using hR)
      clear e1 hb hk hR hbw hC
      obtain ⟨w1, hw1⟩ : ∃ w1, w1 = wr := ⟨_, rfl⟩
      subst hw1
      go_wp2
      go_loopw [3, 23] (fun v3 v23 wi => ∃ (B' : Option Addr) (k d' i : Nat), v3 = .slice B' k d' ∧ v23 = .int .i64 i ∧ i ≤ s.parts.length ∧ Below (w.heap.size + 1) (w.alloc (.cells #[.int .i64 s.kind, .slice A s.lists.length c, .slice A' s.parts.length c'] 25)) wi ∧ ptK.R 49 wi (w.heap.size + 1) (fun _ => True) (.slice B' k d') (s.lists.flatten ++ ((s.parts.take i).map ptsS).flatten)) (fun v3 v23 wi => s.parts.length - (intOf v23).toNat)
      case atStart => exact ⟨_, _, _, 0, rfl, rfl, Nat.zero_le _, HB.out, HR.out⟩
      case round =>
        obtain ⟨B', k, d', i, rfl, rfl, hi, hb, hR⟩ := hrel
        have hszr : w.heap.size + 1 ≤ wr.heap.size := by have := hb.size; simpa using this
        have hbw : Below w.heap.size w wr := HBX.out.trans (hb.mono (by omega))
        by_cases hlti : i < s.parts.length
        · obtain ⟨k2, ad, A2, c2, A3, c3, hn2, rfl, q0, q1, q2, hC2, hC3⟩ := get_sh (Kd.C_below hC' hbw) rfl i hlti
          have hft : ((s.parts.take (i + 1)).map ptsS).flatten = ((s.parts.take i).map ptsS).flatten ++ ptsS s.parts[i] := by
            rw [take_snoc1 hlti, List.map_append, List.flatten_append]; simp
          have hfl := flat_len (s.parts.map ptsS) (i + 1)
          rw [← List.map_take, hft] at hfl
          obtain ⟨r, hr⟩ : ∃ r, r = s.parts[i] := ⟨_, rfl⟩
          rw [← hr] at q0 q1 q2 hC2 hC3 hft hfl
          rw [List.length_append] at hfl
          obtain ⟨kr, hkr⟩ : ∃ kr, kr = r.kind := ⟨_, rfl⟩
          obtain ⟨lr, hlr⟩ : ∃ lr, lr = r.lists.length := ⟨_, rfl⟩
          obtain ⟨pr, hpr⟩ : ∃ pr, pr = r.parts.length := ⟨_, rfl⟩
          have hbo := below_alloc1 wr (.cells #[.int .i64 kr, .slice A2 lr c2, .slice A3 pr c3] 25)
          have hcall := ih k2 hn2 (wr.alloc (.cells #[.int .i64 kr, .slice A2 lr c2, .slice A3 pr c3] 25)) r _ ⟨A2, c2, A3, c3, rfl, Kd.C_below hC2 hbo, Kd.C_below hC3 hbo⟩ (by omega)
          rw [← hkr, ← hlr, ← hpr] at hcall
          rw [← hkr] at q0
          rw [← hlr] at q1
          rw [← hpr] at q2
          have HBO := Lib.hid hbo
          have HC' := Lib.hid hC'
          have HR := Lib.hid hR
          have HB := Lib.hid hb
          have HFT := Lib.hid hft
          clear hn2 hC2 hC3 hr hkr hlr hpr hbo hb hR hC' hft hbw
          go_wp2_with fail
          refine hcall.mono ?_
          clear hcall
          rintro e w2 ⟨y, rfl, hy, hb2⟩
          obtain ⟨Az, nz, cz, rfl⟩ := R_sl hy
          obtain ⟨hnz, -, hCz⟩ := Kd.R_reads' hy
          have hb2' := below_then HBO.out (by simp) hb2
          have hs2 := hb2'.size
          have HCZ := Lib.hid hCz
          have HB2 := Lib.hid hb2'
          clear hy hCz hb2 hb2'
          subst hnz
          go_wp2_with (at_builtin; go_loud (refine Kd.R_append_rows ptK (Rr := ptK.K w2) (w0 := w.alloc (.cells #[.int .i64 s.kind, .slice A s.lists.length c, .slice (some ad) s.parts.length c'] 25)) (w.heap.size + 1) rfl (.tmp 27) (.tmp 29) 27 49 (.agg #[.float .f64 0, .float .f64 0]) 16 rfl Tryz.underlying27 info49 rfl (by decide) (by decide) (.slice B' k d') (s.lists.flatten ++ ((s.parts.take i).map ptsS).flatten) (ptsS r) Az (ptsS r).length cz (fun _ => True) (fun _ => False) rfl (by simp [Act.eval]) ?HO ?HR ?hKM ?hokp ?hfresh ?HB ?hbase ?hl ?_))
          case HO => exact Kd.R_below HR.out HB2.out
          case HR => exact HCZ.out
          case hKM => exact fun x cs hx => pt_KM hx
          case hokp => exact fun _ h => h.elim
          case hfresh => exact fun _ _ => trivial
          case HB => exact HB.out.trans (HB2.out.mono hszr)
          case hbase => omega
          case hl => rw [List.length_append]; omega
          intro v1 w3 hR4 hb5 hg5 hat5
          obtain ⟨A1, n1, c1, rfl⟩ := R_sl hR4
          have HR4 := Lib.hid (show ptK.R 49 w3 (w.heap.size + 1) (fun _ => True) (.slice A1 n1 c1) (s.lists.flatten ++ ((s.parts.take (i + 1)).map ptsS).flatten) by rw [HFT.out]; simpa using hR4)
          have HB5 := Lib.hid hb5
          have hC' := HC'.out
          clear hR4 hb5 hg5 hat5
          go_wp2
          exact ⟨⟨A1, n1, c1, i + 1, rfl, by go_num, by omega, HB5.out, HR4.out⟩, by simp [intOf]; omega⟩
        · have e1 : s.parts.take i = s.parts := List.take_of_length_le (by omega)
          rw [e1] at hR
          have HR := Lib.hid (Kd.R_lower hR (by omega : w.heap.size ≤ w.heap.size + 1))
          have HBW := Lib.hid hbw
          clear e1 hR hb hbw
          go_wp2
          go_ret
          exact ⟨_, rfl, HR.out, HBW.out⟩
/-- PointsOf. -/
theorem points_any : ∀ (n : Nat) (w : World) (s : Sh) (v : Value), ShV n w s v → (ptsS s).length ≤ 1000000000 → Calls Tryz.prog 12 #[v] w fun e w' => ∃ x, e = .returned x ∧ ptK.R 49 w' w.heap.size (fun _ => True) x (ptsS s) ∧ Below w.heap.size w w'
  | 0 => points_step 0 (fun k hk => by omega)
  | n + 1 => points_step (n + 1) (fun k hk => by
      obtain rfl : n = k := by omega
      exact points_any n)
end Go.Proofs.YtghajgdiaopioaaGreatDoor
end

/- Walks: isEmpty, full, IsFull. Conditions: stand in each contract. -/
section
set_option linter.unusedVariables false
set_option linter.unusedSimpArgs false
namespace Go.Proofs.YtghajgdiaopioaaGreatDoor
open Go.RowKit Go.Proofs Tx
open Go.Proofs.YtghajgdiaopioaaGreatDoorW.PrintWords

theorem beq0 {n : Nat} (h : n = 0) : ((n : Int) == 0) = true := by rw [h]; rfl
theorem beq0n {n : Nat} (h : ¬ n = 0) : ((n : Int) == 0) = false := by rw [beq_eq_false_iff_ne]; omega
theorem ibeq {a c : Int} (h : a = c) : (a == c) = true := by rw [h]; exact beq_self_eq_true c
theorem ibeqn {a c : Int} (h : ¬ a = c) : (a == c) = false := by rw [beq_eq_false_iff_ne]; exact h

set_option maxRecDepth 20000 in
set_option maxHeartbeats 1000000 in
/-- isEmpty. -/
theorem isEmpty_any (n : Nat) (w : World) (s : Sh) (v : Value) (h : ShV n w s v) (hP : (ptsS s).length ≤ 1000000000) :
    Calls Tryz.prog 24 #[v] w fun e w' => ∃ b, e = .returned (.bool b) ∧ Below w.heap.size w w' ∧ (b = true → emptyS s = true) := by
  obtain ⟨k, A, l, c, A', p, c', rfl, hk, hl, hp, -, -⟩ := h.open_
  have hb0 := below_alloc1 w (.cells #[.int .i64 k, .slice A l c, .slice A' p c'] 25)
  have hk0 := blk_new w (.cells #[.int .i64 k, .slice A l c, .slice A' p c'] 25)
  have hcall := points_any n _ s _ (h.below hb0) hP
  obtain ⟨m0, m1, m2, n0, n1, n2⟩ := three_facts hk0
  obtain ⟨N, hN⟩ : ∃ N, N = (ptsS s).length := ⟨_, rfl⟩
  have hem : N = 0 → p = 0 → (l = 0 ∨ k = 2 ∨ k = 4) → emptyS s = true := by
    intro h1 h2 h3
    unfold emptyS
    rw [← hN, ← hp, ← hl, ← hk]
    simp only [Bool.and_eq_true, Bool.or_eq_true, decide_eq_true_eq]
    exact ⟨⟨h1, h2⟩, by omega⟩
  have HEM := Lib.hid hem
  have HB0 := Lib.hid hb0
  have HK0 := Lib.hid hk0
  have HN := Lib.hid hN
  clear hb0 hk0 h hk hl hp hem hN
  go_enter Tryz.func24, Tryz.ntmps24
  go_wp2_with fail
  refine hcall.mono ?_
  clear hcall
  rintro e w1 ⟨x, rfl, hx, hb1⟩
  obtain ⟨Az, nz, cz, rfl⟩ := R_sl hx
  obtain ⟨hnz, -, -⟩ := Kd.R_reads' hx
  rw [← HN.out] at hnz
  subst hnz
  have HB1 := Lib.hid (below_then HB0.out (by simp) hb1)
  obtain ⟨m0', m1', m2', n0', n1', n2'⟩ := three_facts (blk_below HK0.out hb1)
  clear hb1 hx
  by_cases a1 : nz = 0
  · have g1 := beq0 a1
    by_cases a2 : p = 0
    · have g2 := beq0 a2
      by_cases a3 : l = 0
      · have g3 := beq0 a3
        go_wp2
        go_ret
        exact ⟨_, rfl, HB1.out, fun _ => HEM.out a1 a2 (.inl a3)⟩
      · have g3 := beq0n a3
        by_cases a4 : k = 2
        · have g4 := ibeq a4
          go_wp2
          go_ret
          exact ⟨_, rfl, HB1.out, fun _ => HEM.out a1 a2 (.inr (.inl a4))⟩
        · have g4 := ibeqn a4
          by_cases a5 : k = 4
          · have g5 := ibeq a5
            go_wp2
            go_ret
            exact ⟨_, rfl, HB1.out, fun _ => HEM.out a1 a2 (.inr (.inr a5))⟩
          · have g5 := ibeqn a5
            go_wp2
            go_ret
            exact ⟨_, rfl, HB1.out, by simp⟩
    · have g2 := beq0n a2
      go_wp2
      go_ret
      exact ⟨_, rfl, HB1.out, by simp⟩
  · have g1 := beq0n a1
    go_wp2
    go_ret
    exact ⟨_, rfl, HB1.out, by simp⟩

theorem fullS_mk {s : Sh} (h1 : ∀ l ∈ s.lists, l.length ≠ 0) (h2 : ∀ t ∈ s.parts, fullS t = true) (h3 : 0 < s.lists.length + s.parts.length) : fullS s = true := by
  cases s with
  | mk k ls ps =>
    rw [fullS, fullSs_eq]
    simp only [Bool.and_eq_true, List.all_eq_true, decide_eq_true_eq]
    exact ⟨⟨h1, h2⟩, h3⟩
set_option maxRecDepth 20000 in
set_option maxHeartbeats 2000000 in
theorem full_step (n : Nat) (ih : ∀ k, n = k + 1 → ∀ (w : World) (s : Sh) (v : Value), ShV k w s v → Calls Tryz.prog 25 #[v] w fun e w' => ∃ b, e = .returned (.bool b) ∧ Below w.heap.size w w' ∧ (b = true → fullS s = true))
    (w : World) (s : Sh) (v : Value) (h : ShV n w s v) :
    Calls Tryz.prog 25 #[v] w fun e w' => ∃ b, e = .returned (.bool b) ∧ Below w.heap.size w w' ∧ (b = true → fullS s = true) := by
  obtain ⟨A, c, A', c', rfl, hC, hC'⟩ := h
  have hbx := below_alloc1 w (.cells #[.int .i64 s.kind, .slice A s.lists.length c, .slice A' s.parts.length c'] 25)
  have hkx := blk_new w (.cells #[.int .i64 s.kind, .slice A s.lists.length c, .slice A' s.parts.length c'] 25)
  obtain ⟨m0, m1, m2, n0, n1, n2⟩ := three_facts hkx
  have hll : s.lists.length ≤ 9223372036854775807 := hC.2.1
  have hpl : s.parts.length ≤ 9223372036854775807 := hC'.2.1
  have HBX := Lib.hid hbx
  have HKX := Lib.hid hkx
  clear hbx hkx
  go_enter Tryz.func25, Tryz.ntmps25
  go_wp2
  go_loopw [10] (fun v10 wr => ∃ j : Nat, v10 = .int .i64 j ∧ j ≤ s.lists.length ∧ Below w.heap.size w wr ∧ wr.heap[w.heap.size]? = some (.cells #[.int .i64 s.kind, .slice A s.lists.length c, .slice A' s.parts.length c'] 25 (0, 0)) ∧ ∀ l ∈ s.lists.take j, l.length ≠ 0) (fun v10 wr => s.lists.length - (intOf v10).toNat)
  case atStart => exact ⟨0, rfl, Nat.zero_le _, HBX.out, HKX.out, by simp⟩
  case round =>
    obtain ⟨j, rfl, hj, hb, hk, hall⟩ := hrel
    have hszr := hb.size
    by_cases hlt : j < s.lists.length
    · obtain ⟨ad, A2, c2, rfl, q0, hC2⟩ := get_row1 (Kd.C_below hC hb) rfl j hlt
      obtain ⟨r, hr⟩ : ∃ r, r = s.lists[j] := ⟨_, rfl⟩
      rw [← hr] at q0
      have HR := Lib.hid hr
      have HB := Lib.hid hb
      have HK := Lib.hid hk
      have HALL := Lib.hid hall
      have HC := Lib.hid hC
      have HC' := Lib.hid hC'
      obtain ⟨m, hm⟩ : ∃ m, m = r.length := ⟨_, rfl⟩
      rw [← hm] at q0
      have HM := Lib.hid hm
      clear hr hb hk hall hC hC' hC2 hm
      by_cases h0 : m = 0
      · have g0 := beq0 h0
        clear h0
        go_wp2
        go_ret
        exact ⟨_, rfl, HB.out, by simp⟩
      · have g0 := beq0n h0
        go_wp2
        refine ⟨⟨j + 1, by go_num, by omega, HB.out, HK.out, fun l hl => ?_⟩, by simp [intOf]; omega⟩
        rcases mem_take_succ hlt hl with h | h
        · exact HALL.out l h
        · rw [h, ← HR.out, ← HM.out]; exact h0
    · have e1 : s.lists.take j = s.lists := List.take_of_length_le (by omega)
      rw [e1] at hall
      have HALL := Lib.hid hall
      obtain ⟨m0', m1', m2', n0', n1', n2'⟩ := three_facts hk
      have HB := Lib.hid hb
      have HK := Lib.hid hk
      clear e1 hall hb hk
      obtain ⟨w1, hw1⟩ : ∃ w1, w1 = wr := ⟨_, rfl⟩
      subst hw1
      go_wp2
      go_loopw [21] (fun v21 wi => ∃ i : Nat, v21 = .int .i64 i ∧ i ≤ s.parts.length ∧ Below w.heap.size w wi ∧ wi.heap[w.heap.size]? = some (.cells #[.int .i64 s.kind, .slice A s.lists.length c, .slice A' s.parts.length c'] 25 (0, 0)) ∧ ∀ t ∈ s.parts.take i, fullS t = true) (fun v21 wi => s.parts.length - (intOf v21).toNat)
      case atStart => exact ⟨0, rfl, Nat.zero_le _, HB.out, HK.out, by simp⟩
      case round =>
        obtain ⟨i, rfl, hi, hbi, hki, halli⟩ := hrel
        have hszi := hbi.size
        by_cases hlti : i < s.parts.length
        · obtain ⟨k2, ad, A2, c2, A3, c3, hn2, rfl, q0, q1, q2, hC2, hC3⟩ := get_sh (Kd.C_below hC' hbi) rfl i hlti
          obtain ⟨r, hr⟩ : ∃ r, r = s.parts[i] := ⟨_, rfl⟩
          rw [← hr] at q0 q1 q2 hC2 hC3
          obtain ⟨kr, hkr⟩ : ∃ kr, kr = r.kind := ⟨_, rfl⟩
          obtain ⟨lr, hlr⟩ : ∃ lr, lr = r.lists.length := ⟨_, rfl⟩
          obtain ⟨pr, hpr⟩ : ∃ pr, pr = r.parts.length := ⟨_, rfl⟩
          have hbo := below_alloc1 wr (.cells #[.int .i64 kr, .slice A2 lr c2, .slice A3 pr c3] 25)
          have hcall := ih k2 hn2 (wr.alloc (.cells #[.int .i64 kr, .slice A2 lr c2, .slice A3 pr c3] 25)) r _ ⟨A2, c2, A3, c3, rfl, Kd.C_below hC2 hbo, Kd.C_below hC3 hbo⟩
          rw [← hkr, ← hlr, ← hpr] at hcall
          rw [← hkr] at q0
          rw [← hlr] at q1
          rw [← hpr] at q2
          have HR := Lib.hid hr
          have HKI := Lib.hid (blk_alloc hki (.cells #[.int .i64 kr, .slice A2 lr c2, .slice A3 pr c3] 25))
          have HBI := Lib.hid (hbi.alloc hszi (.cells #[.int .i64 kr, .slice A2 lr c2, .slice A3 pr c3] 25))
          have HALI := Lib.hid halli
          have HC' := Lib.hid hC'
          clear hn2 hC2 hC3 hr hkr hlr hpr hbo hbi halli hC hC' hki
          go_wp2_with fail
          refine hcall.mono ?_
          clear hcall
          rintro e w2 ⟨b1, rfl, hb1, hq1⟩
          have HB1 := Lib.hid (below_then HBI.out HBI.out.size hb1)
          have HK1 := Lib.hid (blk_below HKI.out hb1)
          clear hb1
          cases b1 with
          | false =>
            go_wp2
            go_ret
            exact ⟨_, rfl, HB1.out, by simp⟩
          | true =>
            have HQ1 := Lib.hid (hq1 rfl)
            clear hq1
            go_wp2
            refine ⟨⟨i + 1, by go_num, by omega, HB1.out, HK1.out, fun t ht => ?_⟩, by simp [intOf]; omega⟩
            rcases mem_take_succ hlti ht with h | h
            · exact HALI.out t h
            · rw [h, ← HR.out]; exact HQ1.out
        · have e1 : s.parts.take i = s.parts := List.take_of_length_le (by omega)
          rw [e1] at halli
          have HBI := Lib.hid hbi
          have HALI := Lib.hid halli
          obtain ⟨m0'', m1'', m2'', n0'', n1'', n2''⟩ := three_facts hki
          clear hbi halli e1 hki
          go_wp2
          go_ret
          refine ⟨_, rfl, HBI.out, fun hb => fullS_mk HALL.out HALI.out ?_⟩
          rcases Nat.eq_zero_or_pos (s.lists.length + s.parts.length) with h0 | h0
          · have e1 : s.lists.length = 0 := by omega
            have e2 : s.parts.length = 0 := by omega
            rw [e1, e2] at hb
            simp [wrap64] at hb
          · exact h0
/-- full. -/
theorem full_any : ∀ (n : Nat) (w : World) (s : Sh) (v : Value), ShV n w s v → Calls Tryz.prog 25 #[v] w fun e w' => ∃ b, e = .returned (.bool b) ∧ Below w.heap.size w w' ∧ (b = true → fullS s = true)
  | 0 => full_step 0 (fun k hk => by omega)
  | n + 1 => full_step (n + 1) (fun k hk => by
      obtain rfl : n = k := by omega
      exact full_any n)

set_option maxRecDepth 20000 in
set_option maxHeartbeats 1000000 in
/-- IsFull. -/
theorem isFull_any (n : Nat) (w : World) (s : Sh) (v : Value) (h : ShV n w s v) (hP : (ptsS s).length ≤ 1000000000) :
    Calls Tryz.prog 11 #[v] w fun e w' => ∃ b, e = .returned (.bool b) ∧ Below w.heap.size w w' ∧ (b = true → emptyS s = true ∨ fullS s = true) := by
  obtain ⟨k, A, l, c, A', p, c', rfl, -, -, -, -, -⟩ := h.open_
  have hb0 := below_alloc1 w (.cells #[.int .i64 k, .slice A l c, .slice A' p c'] 25)
  have hk0 := blk_new w (.cells #[.int .i64 k, .slice A l c, .slice A' p c'] 25)
  have hcall := isEmpty_any n _ s _ (h.below hb0) hP
  obtain ⟨m0, m1, m2, n0, n1, n2⟩ := three_facts hk0
  have HB0 := Lib.hid hb0
  have HK0 := Lib.hid hk0
  have HH := Lib.hid h
  clear hb0 hk0 h
  go_enter Tryz.func11, Tryz.ntmps11
  go_wp2_with fail
  refine hcall.mono ?_
  clear hcall
  rintro e w1 ⟨b, rfl, hb1, hs⟩
  have HB1 := Lib.hid (below_then HB0.out (by simp) hb1)
  obtain ⟨m0', m1', m2', n0', n1', n2'⟩ := three_facts (blk_below HK0.out hb1)
  clear hb1
  cases b with
  | true =>
    have HS := Lib.hid (hs rfl)
    clear hs
    go_wp2
    go_ret
    exact ⟨_, rfl, HB1.out, fun _ => .inl HS.out⟩
  | false =>
    clear hs
    have hcall := full_any n w1 s _ (HH.out.below HB1.out)
    go_wp2_with fail
    refine hcall.mono ?_
    clear hcall
    rintro e w2 ⟨b, rfl, hb2, hq⟩
    have HB2 := Lib.hid (below_then HB1.out HB1.out.size hb2)
    have HQ := Lib.hid hq
    clear hb2 hq
    go_wp2
    go_ret
    exact ⟨_, rfl, HB2.out, fun hb => .inr (HQ.out (by simpa using hb))⟩
end Go.Proofs.YtghajgdiaopioaaGreatDoor
end

/- Walks: the text of a line of points is written into a buffer. Conditions: stand in each contract. -/
section
set_option linter.unusedVariables false
set_option linter.unusedSimpArgs false
namespace Go.Proofs.YtghajgdiaopioaaGreatDoor
open Go.RowKit Go.Proofs Tx
open Go.Proofs.YtghajgdiaopioaaGreatDoorW.PrintWords

/-- What is asked of number: it writes these texts for these numbers. -/
structure NumF (nf : Nat → Bs) (q : Nat → Prop) : Prop where
  num : ∀ (x : Nat) (w : World), q x → Tb w → 22 < w.heap.size → Calls Tryz.prog 96 #[.float .f64 x] w fun e w' => e = .returned (S (nf x)) ∧ Below w.heap.size w w'
  short : ∀ x, q x → (nf x).length ≤ 30
abbrev BufB (B b : Nat) (l : Bs) (w : World) : Prop := Lib.IsBuffer 123 5 B b (Lib.byteCells l) w
theorem buf_byte {B b : Nat} {l : Bs} {w : World} (c : Int) (u : UInt8) (hc : c = (u.toNat : Int)) (h : BufB B b l w) (hB : B ≤ w.heap.size) (hl : l.length ≤ 1000000000) :
    Calls Tryz.prog 98 #[.pointer (some ⟨b, 0, none⟩), .int .u8 c] w fun e w' => e = .returned .nilIface ∧ BufB B b (l ++ [u]) w' ∧ Below B w w' ∧ Lib.OthersKept 5 (some b) w w' := by
  refine (Tryz.Buffer_WriteByte_k B b (Lib.byteCells l) c w h hB (Lib.byteCells_one l) (by rw [Lib.byteCells_length]; omega)).mono ?_
  rintro e w' ⟨he, h1, h2, h3⟩
  refine ⟨he, ?_, h2, h3⟩
  show Lib.IsBuffer 123 5 B b (Lib.byteCells (l ++ [u])) w'
  rw [Lib.byteCells_append]
  subst hc
  exact h1
theorem buf_str {B b : Nat} {l : Bs} {w : World} (s : Bs) (h : BufB B b l w) (hB : B ≤ w.heap.size) (hl : l.length ≤ 1000000000) (hs : s.length ≤ 1000000000) :
    Calls Tryz.prog 95 #[.pointer (some ⟨b, 0, none⟩), S s] w fun e w' => ∃ y, e = .returned y ∧ BufB B b (l ++ s) w' ∧ Below B w w' := by
  refine (Tryz.Buffer_WriteString_k B b (Lib.byteCells l) ⟨s.toArray⟩ w h hB (Lib.byteCells_one l) (by rw [Lib.byteCells_length, size_S]; omega)).mono ?_
  rintro e w' ⟨he, h1, h2, -⟩
  refine ⟨_, he, ?_, h2⟩
  show Lib.IsBuffer 123 5 B b (Lib.byteCells (l ++ s)) w'
  rw [Lib.byteCells_append]
  exact h1
theorem joinS_snoc (sep x : Bs) : ∀ l : List Bs, joinS sep (l ++ [x]) = if l = [] then x else joinS sep l ++ sep ++ x
  | [] => rfl
  | [a] => rfl
  | a :: b :: l => by
    have := joinS_snoc sep x (b :: l)
    rw [if_neg (by simp)] at this ⊢
    show a ++ sep ++ joinS sep (b :: l ++ [x]) = _
    rw [this]
    simp [joinS]
theorem take_snoc {α : Type} {l : List α} {j : Nat} (h : j < l.length) : l.take (j + 1) = l.take j ++ [l[j]] := by
  rw [List.take_add_one, List.getElem?_eq_getElem h]; rfl
theorem call96 : ∀ args w, (callFunc 96 args).run Tryz.prog w = .ok (.enter 96 args) w := by
  intro args w
  kernel_rfl
theorem call95 : ∀ args w, (callFunc 95 args).run Tryz.prog w = .ok (.enter 95 args) w := by
  intro args w
  kernel_rfl
theorem step_call2 {P : Program} {ops : Array Oper} {o : Oper} {a : Act} {w : World} {K : Act → World → Prop} {Q : Exit → Act → World → Prop} {E : Prop}
    (hg : o.guard = none) (f : FuncId) (x1 x2 : Operand) (t : Array TypeId) (hop : o.op = Op.call { callee := .value (.func f), args := #[x1, x2], argTypes := t })
    (hcf : ∀ args w, (callFunc f args).run P w = .ok (.enter f args) w) (v1 v2 : Value) (hx1 : a.eval x1 = v1) (hx2 : a.eval x2 = v2) {R : Value → World → Prop}
    (hC : Calls P f #[v1, v2] w fun e w' => ∃ y, e = .returned y ∧ R y w')
    (hK : ∀ y w', R y w' → K (a.put o.dst y) w') :
    if Region.wanted o (yielded ops a.tmps) = true then Oper.wp P o a w K Q else E := by
  have hw : Region.wanted o (yielded ops a.tmps) = true := by simp [Region.wanted, hg]
  rw [if_pos hw]
  unfold Oper.wp
  rw [execOp_call hop, hcf]
  simp only [List.map_toArray, List.map_cons, List.map_nil, hx1, hx2]
  show Calls P f #[v1, v2] w _
  refine hC.mono ?_
  rintro e w' ⟨y, rfl, hy⟩
  exact hK y w' hy

@[go_sem] theorem app_S (l m : Bs) : (ByteArray.mk l.toArray) ++ (ByteArray.mk m.toArray) = ⟨(l ++ m).toArray⟩ := by
  apply ByteArray.ext
  simp
/-- What holds between the calls of one statement that writes a point: the point's box at block g, the buffer as it was. -/
structure Mid (B b : Nat) (l : Bs) (w0 : World) (g : Nat) (x y : Nat) (w : World) : Prop where
  box : w.heap[g]? = some (.cells #[.float .f64 x, .float .f64 y] 61 (0, 0))
  buf : BufB B b l w
  tb : Tb w
  big : 22 < B
  le : B ≤ w.heap.size
  low : Below B w0 w
theorem Mid.step {B b : Nat} {l : Bs} {w0 w w' : World} {g x y : Nat} (h : Mid B b l w0 g x y w) (hb : Below w.heap.size w w') : Mid B b l w0 g x y w' where
  box := blk_below h.box hb
  buf := h.buf.old hb
  tb := h.tb.below hb (Nat.lt_of_lt_of_le h.big h.le)
  big := h.big
  le := Nat.le_trans h.le hb.size
  low := h.low.trans (hb.mono h.le)
theorem Mid.str {B b : Nat} {l : Bs} {w0 w : World} {g x y : Nat} (h : Mid B b l w0 g x y w) (s : Bs) (hl : l.length ≤ 1000000000) (hs : s.length ≤ 1000000000) :
    Calls Tryz.prog 95 #[.pointer (some ⟨b, 0, none⟩), S s] w fun e w' => ∃ y, e = .returned y ∧ (BufB B b (l ++ s) w' ∧ Below B w0 w') := by
  refine (buf_str s h.buf h.le hl hs).mono ?_
  rintro e w' ⟨v, he, h1, h2⟩
  exact ⟨v, he, h1, h.low.trans h2⟩
/-- Behind a comma. -/
theorem Mid.comma {B b : Nat} {l : Bs} {w0 w : World} {g x y : Nat} (h : Mid B b l w0 g x y w) (hg : g ≠ b) (hl : l.length ≤ 1000000000) :
    Calls Tryz.prog 98 #[.pointer (some ⟨b, 0, none⟩), .int .u8 44] w fun e w' => e = .returned .nilIface ∧ Mid B b (l ++ [44]) w0 g x y w' := by
  refine (buf_byte 44 44 rfl h.buf h.le hl).mono ?_
  rintro e w' ⟨he, h1, h2, h3⟩
  exact ⟨he, h3 _ _ h.box (by simpa using hg) (by rintro c fz h0; cases h0), h1, h.tb.below h2 h.big, h.big, Nat.le_trans h.le h2.size, h.low.trans h2⟩
theorem Mid.drew {B b : Nat} {l : Bs} {w0 w : World} {g x y : Nat} (h : Mid B b l w0 g x y w) : Mid B b l w0 g x y w.drew := h.step (below_drew w)
theorem Mid.num {nf : Nat → Bs} {q : Nat → Prop} (hN : NumF nf q) {B b : Nat} {l : Bs} {w0 w : World} {g x y : Nat} (h : Mid B b l w0 g x y w) (z : Nat) (hz : q z) :
    Calls Tryz.prog 96 #[.float .f64 z] w fun e w' => ∃ v, e = .returned v ∧ (v = S (nf z) ∧ Aside (Mid B b l w0 g x y w') ∧ w'.cell? ⟨g, 0, none⟩ = some (.float .f64 x) ∧ w'.cell? ⟨g, 1, none⟩ = some (.float .f64 y)) := by
  refine (hN.num z w hz h.tb (Nat.lt_of_lt_of_le h.big h.le)).mono ?_
  rintro e w' ⟨he, hb⟩
  have h' := h.step hb
  exact ⟨_, he, rfl, h', blk_cell h'.box 0, blk_cell h'.box 1⟩

set_option maxRecDepth 20000 in
set_option maxHeartbeats 2000000 in
/-- writeLineString. -/
theorem wls_any {nf : Nat → Bs} {q : Nat → Prop} (hN : NumF nf q) (w0 w : World) (b : Nat) (bs : Bs) (A : Option Addr) (c : Nat) (ps : List Pt) (hC : ptK.C w0 A ps.length ps) (hq : ∀ p ∈ ps, q p.1 ∧ q p.2)
    (hb : Below w0.heap.size w0 w) (hbuf : BufB w0.heap.size b bs w) (hT : Tb w0) (h22 : 22 < w0.heap.size) (hl : bs.length + 100 * (ps.length + 1) ≤ 1000000000) :
    Calls Tryz.prog 99 #[.pointer (some ⟨b, 0, none⟩), .slice A ps.length c] w fun e w' => e = .returned (.tuple #[]) ∧ BufB w0.heap.size b (bs ++ ptsT nf [] ps) w' ∧ Below w0.heap.size w0 w' := by
  have hle : w0.heap.size ≤ w.heap.size := hb.size
  have hc40 := buf_byte 40 40 rfl hbuf hle (by omega)
  have HB := Lib.hid hb
  clear hbuf hb
  go_enter Tryz.func99, Tryz.ntmps99
  go_wp2_with fail
  refine hc40.mono ?_
  clear hc40
  rintro e w1 ⟨rfl, hbuf1, hb1, -⟩
  have HB1 := Lib.hid (HB.out.trans hb1)
  have HU1 := Lib.hid hbuf1
  clear hbuf1 hb1
  go_wp2
  go_loopw [10] (fun v10 wr => ∃ j : Nat, v10 = .int .i64 j ∧ j ≤ ps.length ∧ BufB w0.heap.size b (bs ++ [40] ++ joinS [44] ((ps.take j).map (ptT nf))) wr ∧ Below w0.heap.size w0 wr) (fun v10 wr => ps.length - (intOf v10).toNat)
  case atStart => exact ⟨0, rfl, Nat.zero_le _, by simpa [joinS] using HU1.out, HB1.out⟩
  case round =>
    obtain ⟨j, rfl, hj, hbuf, hb⟩ := hrel
    by_cases hlt : j < ps.length
    · obtain ⟨ad, rfl, q0, q1⟩ := get_pt (Kd.C_below hC hb) rfl j hlt
      have hqj := hq ps[j] (List.getElem_mem hlt)
      have hsn := take_snoc hlt
      obtain ⟨x, hx⟩ : ∃ x, x = ps[j].1 := ⟨_, rfl⟩
      obtain ⟨y, hy⟩ : ∃ y, y = ps[j].2 := ⟨_, rfl⟩
      have hxy : ps[j] = (x, y) := by rw [hx, hy]
      rw [hxy] at hsn
      rw [← hx, ← hy] at hqj
      rw [← hx] at q0
      rw [← hy] at q1
      clear hx hy hxy
      have hlen : (bs ++ [40] ++ joinS [44] ((ps.take j).map (ptT nf))).length ≤ bs.length + 100 * j + 1 := by
        have := join_len [44] ((ps.take j).map (ptT nf))
        rw [List.map_map] at this
        have h2 := sum_le (l := ps.take j) (f := (fun x : Bs => x.length + [(44 : UInt8)].length) ∘ ptT nf) (g := fun _ => 100) fun p hp => by
          have h3 := hq p (List.mem_of_mem_take hp)
          have h4 := hN.short _ h3.1
          have h5 := hN.short _ h3.2
          simp only [Function.comp_def, ptT, List.length_append, List.length_cons, List.length_nil]
          omega
        rw [const_sum, List.length_take] at h2
        simp only [List.length_append, List.length_cons, List.length_nil]
        omega
      obtain ⟨l, hll⟩ : ∃ l, l = bs ++ [40] ++ joinS [44] ((ps.take j).map (ptT nf)) := ⟨_, rfl⟩
      rw [← hll] at hlen hbuf
      have HC := Lib.hid hC
      have HL := Lib.hid hll
      have HQ := Lib.hid hqj
      have HS := Lib.hid hsn
      have HU := Lib.hid hbuf
      have HB2 := Lib.hid hb
      have hszr := hb.size
      have hlast : (Aside (j = 0) ∧ ((j : Int) != 0) = false) ∨ (Aside (0 < j) ∧ ((j : Int) != 0) = true) := by
        rcases Nat.eq_zero_or_pos j with h | h
        · exact .inl ⟨h, by rw [h]; rfl⟩
        · exact .inr ⟨h, by simp; omega⟩
      clear hC hll hqj hsn hbuf hb hq
      rcases hlast with ⟨ha, h0⟩ | ⟨ha, h0⟩
      · go_wp2_with fail
        have hm : Mid w0.heap.size b l w0 wr.heap.size x y (wr.alloc (.cells #[.float .f64 x, .float .f64 y] 61)).drew :=
          Mid.drew ⟨blk_new _ _, HU.out.alloc _, hT.below (HB2.out.alloc hszr _) h22, h22, by simp; omega, HB2.out.alloc hszr _⟩
        have c1 := Mid.num hN hm x HQ.out.1
        have g1 := hN.short _ HQ.out.1
        have g2 := hN.short _ HQ.out.2
        have hs5 : (ptT nf (x, y)).length ≤ 1000000000 := by simp only [ptT, List.length_append, List.length_cons]; omega
        have k1 : (9223372036854775807 < (nf x).length) = False := by simp; omega
        have k2 : (9223372036854775807 < (nf x).length + 1) = False := by simp; omega
        have k3 : (9223372036854775807 < (nf x).length + 1 + (nf y).length) = False := by simp; omega
        have k4 : (9223372036854775807 < (nf x).length + ((nf y).length + 1)) = False := by simp; omega
        have e0 := blk_cell hm.box 0
        have e1 := blk_cell hm.box 1
        go_region_law (first
          | (refine step_call rfl 96 (.tmp 21) _ rfl call96 (.float .f64 x) (by simp [Act.eval, Act.put]) c1 ?_
             rintro v2 w2 ⟨rfl, hm2, hx2, hy2⟩)
          | (refine step_call rfl 96 (.tmp 26) _ rfl call96 (.float .f64 y) (by simp [Act.eval, Act.put]) (Mid.num hN hm2.out y HQ.out.2) ?_
             rintro v3 w3 ⟨rfl, hm3, hx3, hy3⟩)
          | (refine step_call2 rfl 95 (.tmp 19) (.tmp 29) _ rfl call95 _ (S (ptT nf (x, y))) (by simp [Act.eval, Act.put]) (by simp [Act.eval, Act.put, ptT]) (Mid.str hm3.out (ptT nf (x, y)) (by omega) hs5) ?_
             rintro v4 w4 ⟨hu4, hb4⟩
             have HU4 := Lib.hid hu4
             have HB4 := Lib.hid hb4
             clear hu4 hb4))
        all_goals go_wp2
        all_goals exact ⟨⟨j + 1, by go_num, by omega, by rw [HS.out, List.map_append]; show BufB _ _ (_ ++ joinS [44] (_ ++ [ptT nf (x, y)])) _; rw [joinS_snoc, if_pos (by rw [ha.out]; rfl)]; have h7 := HL.out; rw [ha.out] at h7; have h8 := HU4.out; rw [h7] at h8; simpa [joinS] using h8, HB4.out⟩, by simp [intOf]; omega⟩
      · go_wp2_with fail
        have hm0 : Mid w0.heap.size b l w0 wr.heap.size x y (wr.alloc (.cells #[.float .f64 x, .float .f64 y] 61)) :=
          ⟨blk_new _ _, HU.out.alloc _, hT.below (HB2.out.alloc hszr _) h22, h22, by simp; omega, HB2.out.alloc hszr _⟩
        have hgb : wr.heap.size ≠ b := Nat.ne_of_gt (Lib.IsBuffer.lt HU.out)
        refine (Mid.comma hm0 hgb (by omega)).mono ?_
        rintro e wc ⟨rfl, hmc⟩
        have HMC := Lib.hid hmc
        have p0 := blk_cell hmc.box 0
        have p1 := blk_cell hmc.box 1
        clear hm0 hmc
        go_wp2_with fail
        have hm := Mid.drew HMC.out
        have c1 := Mid.num hN hm x HQ.out.1
        have g1 := hN.short _ HQ.out.1
        have g2 := hN.short _ HQ.out.2
        have hs5 : (ptT nf (x, y)).length ≤ 1000000000 := by simp only [ptT, List.length_append, List.length_cons]; omega
        have k1 : (9223372036854775807 < (nf x).length) = False := by simp; omega
        have k2 : (9223372036854775807 < (nf x).length + 1) = False := by simp; omega
        have k3 : (9223372036854775807 < (nf x).length + 1 + (nf y).length) = False := by simp; omega
        have k4 : (9223372036854775807 < (nf x).length + ((nf y).length + 1)) = False := by simp; omega
        have e0 := blk_cell hm.box 0
        have e1 := blk_cell hm.box 1
        go_region_law (first
          | (refine step_call rfl 96 (.tmp 21) _ rfl call96 (.float .f64 x) (by simp [Act.eval, Act.put]) c1 ?_
             rintro v2 w2 ⟨rfl, hm2, hx2, hy2⟩)
          | (refine step_call rfl 96 (.tmp 26) _ rfl call96 (.float .f64 y) (by simp [Act.eval, Act.put]) (Mid.num hN hm2.out y HQ.out.2) ?_
             rintro v3 w3 ⟨rfl, hm3, hx3, hy3⟩)
          | (refine step_call2 rfl 95 (.tmp 19) (.tmp 29) _ rfl call95 _ (S (ptT nf (x, y))) (by simp [Act.eval, Act.put]) (by simp [Act.eval, Act.put, ptT]) (Mid.str hm3.out (ptT nf (x, y)) (by simp; omega) hs5) ?_
             rintro v4 w4 ⟨hu4, hb4⟩
             have HU4 := Lib.hid hu4
             have HB4 := Lib.hid hb4
             clear hu4 hb4))
        all_goals go_wp2
        all_goals exact ⟨⟨j + 1, by go_num, by omega, by rw [HS.out, List.map_append]; show BufB _ _ (_ ++ joinS [44] (_ ++ [ptT nf (x, y)])) _; rw [joinS_snoc, if_neg (by have := ha.out; intro h0; have h9 : ((ps.take j).map (ptT nf)).length = 0 := by { rw [h0]; rfl }; rw [List.length_map, List.length_take] at h9; omega)]; have h7 := HL.out; have h8 := HU4.out; rw [h7] at h8; simpa using h8, HB4.out⟩, by simp [intOf]; omega⟩
    · have e1 : ps.take j = ps := List.take_of_length_le (by omega)
      rw [e1] at hbuf
      have hlen : (bs ++ [40] ++ joinS [44] (ps.map (ptT nf))).length ≤ 1000000000 := by
        have := join_len [44] (ps.map (ptT nf))
        rw [List.map_map] at this
        have h2 := sum_le (l := ps) (f := (fun x : Bs => x.length + [(44 : UInt8)].length) ∘ ptT nf) (g := fun _ => 100) fun p hp => by
          have h3 := hq p hp
          have h4 := hN.short _ h3.1
          have h5 := hN.short _ h3.2
          simp only [Function.comp_def, ptT, List.length_append, List.length_cons, List.length_nil]
          omega
        rw [const_sum] at h2
        simp only [List.length_append, List.length_cons, List.length_nil]
        omega
      have hc41 := buf_byte 41 41 rfl hbuf hb.size hlen
      have HB2 := Lib.hid hb
      clear hbuf hb hlen hC hq e1
      go_wp2_with fail
      refine hc41.mono ?_
      clear hc41
      rintro e w2 ⟨rfl, hbuf2, hb2, -⟩
      have HU2 := Lib.hid hbuf2
      have HB3 := Lib.hid (HB2.out.trans hb2)
      clear hbuf2 hb2
      go_wp2
      go_end0
      exact ⟨rfl, by simpa [ptsT, br] using HU2.out, HB3.out⟩
end Go.Proofs.YtghajgdiaopioaaGreatDoor
end
