/- Walks and plain laws joined (Sd, Se). Conditions: stand in each law. -/
import Derived.Test.YtghajgdiaopioaaGreatDoorJq
import Derived.Test.YtghajgdiaopioaaGreatDoorJn
/- Walks: counted, IsShape. Conditions: stand in each contract. -/
section
set_option linter.unusedVariables false
set_option linter.unusedSimpArgs false
namespace Go.Proofs.YtghajgdiaopioaaGreatDoor
open Go.RowKit Go.Proofs Tx
open Go.Proofs.YtghajgdiaopioaaGreatDoorW.PrintWords

/-- No list in it is longer than memory allows. -/
def LenS : Sh → Prop
  | .mk _ ls ps => (∀ l ∈ ls, l.length ≤ 17592186044416) ∧ LenSs ps
where LenSs : List Sh → Prop
  | [] => True
  | s :: l => LenS s ∧ LenSs l
theorem LenSs_iff (l : List Sh) : LenS.LenSs l ↔ ∀ s ∈ l, LenS s := by
  induction l with
  | nil => simp [LenS.LenSs]
  | cons s l ih => rw [LenS.LenSs, ih]; simp
theorem LenS.lists {s : Sh} (h : LenS s) : ∀ l ∈ s.lists, l.length ≤ 17592186044416 := by cases s; exact h.1
theorem LenS.parts {s : Sh} (h : LenS s) : ∀ p ∈ s.parts, LenS p := by cases s; exact (LenSs_iff _).1 h.2
def Bd : Nat → Nat
  | 0 => 0
  | d + 1 => 1 + 40 * Bd d
/-- What counted answers. -/
def CntOk (d : Nat) (s : Sh) (e : Ending) : Prop := ∃ (p : Int) (q : Nat) (b : Bool), e = .returned (.tuple #[.int .i64 p, .int .i64 q, .bool b]) ∧ q ≤ Bd d ∧ (b = true → ∃ P Q : Nat, cnt d s = some (P, Q) ∧ q = Q ∧ P ≤ 703687441776640 * Q ∧ (Q ≤ 40 → p = P))

set_option maxRecDepth 40000 in
set_option maxHeartbeats 1000000 in
theorem cnt_zero (n : Nat) (w : World) (s : Sh) (v : Value) (h : ShV n w s v) :
    Calls Tryz.prog 44 #[v, .int .i64 0] w fun e w' => CntOk 0 s e ∧ Below w.heap.size w w' := by
  obtain ⟨A, c, A', c', rfl, hC, hC'⟩ := h
  obtain ⟨m0, m1, m2, n0, n1, n2⟩ := three_facts (blk_new w (.cells #[.int .i64 s.kind, .slice A s.lists.length c, .slice A' s.parts.length c'] 25))
  go_enter Tryz.func44, Tryz.ntmps44
  go_wp2
  refine bodyPost_ret (results_tmp3 rfl _ _ _) rfl ?_
  exact ⟨⟨0, 0, false, rfl, Nat.le_refl _, by simp⟩, below_alloc1 _ _⟩
set_option maxRecDepth 40000 in
set_option maxHeartbeats 1000000 in
theorem cnt_bad (n d : Nat) (hd : d ≤ 4) (w : World) (s : Sh) (v : Value) (h : ShV n w s v) (hh : headOk s = false) :
    Calls Tryz.prog 44 #[v, .int .i64 ((d + 1 : Nat) : Int)] w fun e w' => CntOk (d + 1) s e ∧ Below w.heap.size w w' := by
  obtain ⟨A, c, A', c', rfl, hC, hC'⟩ := h
  obtain ⟨m0, m1, m2, n0, n1, n2⟩ := three_facts (blk_new w (.cells #[.int .i64 s.kind, .slice A s.lists.length c, .slice A' s.parts.length c'] 25))
  have hd0 : (((d + 1 : Nat) : Int) == 0) = false := by rw [beq_eq_false_iff_ne]; omega
  have fin : CntOk (d + 1) s (.returned (.tuple #[.int .i64 0, .int .i64 0, .bool false])) := ⟨0, 0, false, rfl, Nat.zero_le _, by simp⟩
  have FIN := Lib.hid fin
  obtain ⟨D, hD⟩ : ∃ D : Int, D = ((d + 1 : Nat) : Int) := ⟨_, rfl⟩
  rw [← hD] at hd0 ⊢
  clear hD fin
  unfold headOk at hh
  by_cases h1 : s.kind < 1
  · have g1 : (s.kind < 1) = True := by simpa using h1
    go_enter Tryz.func44, Tryz.ntmps44
    go_wp2
    refine bodyPost_ret (results_tmp3 rfl _ _ _) rfl ?_
    exact ⟨FIN.out, below_alloc1 _ _⟩
  have g1 : (s.kind < 1) = False := by simpa using h1
  by_cases h2 : 7 < s.kind
  · have g2 : (7 < s.kind) = True := by simpa using h2
    go_enter Tryz.func44, Tryz.ntmps44
    go_wp2
    refine bodyPost_ret (results_tmp3 rfl _ _ _) rfl ?_
    exact ⟨FIN.out, below_alloc1 _ _⟩
  have g2 : (7 < s.kind) = False := by simpa using h2
  by_cases h3 : 40 < s.lists.length
  · have g3 : ((40 : Int) < s.lists.length) = True := by simp; omega
    go_enter Tryz.func44, Tryz.ntmps44
    go_wp2
    refine bodyPost_ret (results_tmp3 rfl _ _ _) rfl ?_
    exact ⟨FIN.out, below_alloc1 _ _⟩
  have g3 : ((40 : Int) < s.lists.length) = False := by simp; omega
  have h4 : 40 < s.parts.length := by
    simp only [Bool.and_eq_false_iff, decide_eq_false_iff_not] at hh
    omega
  have g4 : ((40 : Int) < s.parts.length) = True := by simp; omega
  go_enter Tryz.func44, Tryz.ntmps44
  go_wp2
  refine bodyPost_ret (results_tmp3 rfl _ _ _) rfl ?_
  exact ⟨FIN.out, below_alloc1 _ _⟩

theorem headD_get (l : List (List Pt)) (h : 0 < l.length) : l.headD [] = l[0] := by
  cases l with
  | nil => simp at h
  | cons r l => rfl
theorem add0' (a : Addr) : a.add 0 = a := by
  unfold Addr.add
  split <;> simp_all
theorem take_snoc1 {α : Type} {l : List α} {j : Nat} (h : j < l.length) : l.take (j + 1) = l.take j ++ [l[j]] := by
  rw [List.take_add_one, List.getElem?_eq_getElem h]; rfl
theorem sumL_take {ls : List (List Pt)} {j : Nat} (hj : j < ls.length) : sumL (ls.take (j + 1)) = sumL (ls.take j) + ls[j].length := by
  unfold sumL
  rw [take_snoc1 hj, List.map_append, List.sum_append]
  simp only [List.map_cons, List.map_nil, List.sum_cons, List.sum_nil, Nat.add_zero]
theorem cntF_step (f : Sh → Option (Nat × Nat)) (k : Int) {ps : List Sh} {j : Nat} (hj : j < ps.length) : cntF f k (ps.drop j) = match f ps[j] with
    | none => none
    | some x => if k = 6 ∧ ps[j].kind ≠ 3 then none else (cntF f k (ps.drop (j + 1))).map fun y => (x.1 + y.1, x.2 + y.2) := by
  rw [List.drop_eq_getElem_cons hj]
  rfl
set_option maxRecDepth 40000 in
set_option maxHeartbeats 4000000 in
theorem cnt_good (n d : Nat) (hd : d ≤ 3) (ih : ∀ (n : Nat) (w : World) (s : Sh) (v : Value), ShV n w s v → LenS s → Calls Tryz.prog 44 #[v, .int .i64 (d : Int)] w fun e w' => CntOk d s e ∧ Below w.heap.size w w')
    (w : World) (s : Sh) (v : Value) (h : ShV n w s v) (hL : LenS s) (hh : headOk s = true) :
    Calls Tryz.prog 44 #[v, .int .i64 ((d + 1 : Nat) : Int)] w fun e w' => CntOk (d + 1) s e ∧ Below w.heap.size w w' := by
  obtain ⟨A, c, A', c', rfl, hC, hC'⟩ := h
  have hbx := below_alloc1 w (.cells #[.int .i64 s.kind, .slice A s.lists.length c, .slice A' s.parts.length c'] 25)
  have hkx := blk_new w (.cells #[.int .i64 s.kind, .slice A s.lists.length c, .slice A' s.parts.length c'] 25)
  obtain ⟨m0, m1, m2, n0, n1, n2⟩ := three_facts hkx
  have hd0 : (((d + 1 : Nat) : Int) == 0) = false := by rw [beq_eq_false_iff_ne]; omega
  have hHH := hh
  unfold headOk at hHH
  simp only [Bool.and_eq_true, decide_eq_true_eq] at hHH
  obtain ⟨⟨⟨k1, k7⟩, hll⟩, hpl⟩ := hHH
  have g1 : (s.kind < 1) = False := by simp; omega
  have g2 : (7 < s.kind) = False := by simp; omega
  have g3 : ((40 : Int) < s.lists.length) = False := by simp; omega
  have g4 : ((40 : Int) < s.parts.length) = False := by simp; omega
  obtain ⟨D, hD⟩ : ∃ D : Int, D = ((d + 1 : Nat) : Int) := ⟨_, rfl⟩
  rw [← hD] at hd0 ⊢
  have hD1 : D - 1 = (d : Int) := by omega
  have hDl : D ≤ 4 := by omega
  have hDg : 1 ≤ D := by omega
  have HD := Lib.hid hD
  have HH := Lib.hid hh
  have HBX := Lib.hid hbx
  have HKX := Lib.hid hkx
  have HLL := Lib.hid hL
  clear hD hh hbx hkx
  go_enter Tryz.func44, Tryz.ntmps44
  go_wp2
  go_loopw [7, 43] (fun v7 v43 wr => ∃ j : Nat, v7 = .int .i64 (sumL (s.lists.take j) : Nat) ∧ v43 = .int .i64 j ∧ j ≤ s.lists.length ∧ wr = w.alloc (.cells #[.int .i64 s.kind, .slice A s.lists.length c, .slice A' s.parts.length c'] 25) ∧ sumL (s.lists.take j) ≤ 17592186044416 * j) (fun v7 v43 wr => s.lists.length - (intOf v43).toNat)
  case atStart => exact ⟨0, rfl, rfl, Nat.zero_le _, rfl, Nat.le_refl _⟩
  case round =>
    obtain ⟨j, rfl, rfl, hj, rfl, hsum⟩ := hrel
    by_cases hlt : j < s.lists.length
    · obtain ⟨ad, A2, c2, rfl, q0, hC2⟩ := get_row1 (Kd.C_below hC HBX.out) rfl j hlt
      have hlen := hL.lists _ (List.getElem_mem hlt)
      have hst := sumL_take hlt
      obtain ⟨r, hr⟩ : ∃ r, r = s.lists[j].length := ⟨_, rfl⟩
      rw [← hr] at q0 hlen hst
      obtain ⟨S1, hS1⟩ : ∃ S1, S1 = sumL (s.lists.take j) := ⟨_, rfl⟩
      rw [← hS1] at hsum hst ⊢
      have HST := Lib.hid hst
      clear hr hS1 hst hC2
      go_wp2
      refine ⟨⟨j + 1, ?_, by go_num, by omega, trivial, by rw [HST.out]; omega⟩, by simp [intOf]; omega⟩
      rw [HST.out]
      go_num
    · have e1 : s.lists.take j = s.lists := List.take_of_length_le (by omega)
      rw [e1] at hsum ⊢
      obtain ⟨S1, hS1⟩ : ∃ S1, S1 = sumL s.lists := ⟨_, rfl⟩
      rw [← hS1] at hsum ⊢
      have HS1 := Lib.hid hS1
      clear hS1 e1
      go_wp2
      go_loopw [7, 8, 55] (fun v7 v8 v55 wr => ∃ (i : Nat) (p : Int) (x : Nat × Nat), v7 = .int .i64 p ∧ v8 = .int .i64 ((1 + x.2 : Nat) : Int) ∧ v55 = .int .i64 i ∧ i ≤ s.parts.length ∧ Below w.heap.size w wr ∧ wr.heap[w.heap.size]? = some (.cells #[.int .i64 s.kind, .slice A s.lists.length c, .slice A' s.parts.length c'] 25 (0, 0)) ∧ 1 + x.2 ≤ 1 + i * Bd d ∧ cntF (cnt d) s.kind s.parts = (cntF (cnt d) s.kind (s.parts.drop i)).map (fun y => (x.1 + y.1, x.2 + y.2)) ∧ x.1 ≤ 703687441776640 * x.2 ∧ (1 + x.2 ≤ 40 → p = ((S1 + x.1 : Nat) : Int))) (fun v7 v8 v55 wr => s.parts.length - (intOf v55).toNat)
      case atStart =>
        refine ⟨0, _, (0, 0), rfl, rfl, rfl, Nat.zero_le _, HBX.out, HKX.out, by omega, ?_, by simp, fun _ => rfl⟩
        rw [List.drop_zero]
        cases cntF (cnt d) s.kind s.parts <;> simp
      case round =>
        obtain ⟨i, p, x, rfl, rfl, rfl, hi, hb, hk, hq, hcf, hx1, hpx⟩ := hrel
        have hszr := hb.size
        obtain ⟨m0', m1', m2', n0', n1', n2'⟩ := three_facts hk
        by_cases hlt2 : i < s.parts.length
        · obtain ⟨k2, ad, A2, c2, A3, c3, hn2, rfl, q0, q1, q2, hC2, hC3⟩ := get_sh (Kd.C_below hC' hb) rfl i hlt2
          have hst := cntF_step (cnt d) s.kind hlt2
          have hLp := HLL.out.parts _ (List.getElem_mem hlt2)
          obtain ⟨r, hr⟩ : ∃ r, r = s.parts[i] := ⟨_, rfl⟩
          rw [← hr] at q0 q1 q2 hC2 hC3 hst hLp
          obtain ⟨kr, hkr⟩ : ∃ kr, kr = r.kind := ⟨_, rfl⟩
          obtain ⟨lr, hlr⟩ : ∃ lr, lr = r.lists.length := ⟨_, rfl⟩
          obtain ⟨pr, hpr⟩ : ∃ pr, pr = r.parts.length := ⟨_, rfl⟩
          have hbo := below_alloc1 wr (.cells #[.int .i64 kr, .slice A2 lr c2, .slice A3 pr c3] 25)
          have hcall := ih k2 (wr.alloc (.cells #[.int .i64 kr, .slice A2 lr c2, .slice A3 pr c3] 25)) r _ ⟨A2, c2, A3, c3, rfl, Kd.C_below hC2 hbo, Kd.C_below hC3 hbo⟩ hLp
          rw [← hkr, ← hlr, ← hpr] at hcall
          rw [← hkr] at q0 hst
          rw [← hlr] at q1
          rw [← hpr] at q2
          have HC' := Lib.hid hC'
          have HB := Lib.hid hb
          have HBO := Lib.hid hbo
          have HK := Lib.hid hk
          have HKR := Lib.hid hkr
          have HCF := Lib.hid hcf
          have HST := Lib.hid hst
          have HQ := Lib.hid hq
          have HPX := Lib.hid hpx
          have hkB := blk_new wr (.cells #[.int .i64 kr, .slice A2 lr c2, .slice A3 pr c3] 25)
          have HKB := Lib.hid hkB
          clear hn2 hC2 hC3 hLp hr hkr hlr hpr hC' hb hbo hk hcf hst hpx hkB
          go_wp2_with fail
          refine hcall.mono ?_
          clear hcall
          rintro e w1 ⟨⟨p1, q1n, b1, rfl, hq1, hb1t⟩, hb1⟩
          have HB1 := Lib.hid (below_then HB.out hszr (below_then HBO.out (by simp) hb1))
          have hk1 := blk_below (blk_alloc HK.out (.cells #[.int .i64 kr, .slice A2 lr c2, .slice A3 pr c3] 25)) hb1
          obtain ⟨a0, a1, a2, b0, b1', b2⟩ := three_facts hk1
          have hk2 := blk_below HKB.out hb1
          obtain ⟨a0', a1', a2', b0', b1'', b2'⟩ := three_facts hk2
          have HK1 := Lib.hid hk1
          clear hb1 hk1 hk2
          have hbd : Bd d ≤ 1641 := by
            rcases (by omega : d = 0 ∨ d = 1 ∨ d = 2 ∨ d = 3) with h | h | h | h <;> rw [h] <;> decide
          have hib : i * Bd d ≤ 40 * 1641 := Nat.mul_le_mul (by omega) hbd
          have hx2 : x.2 ≤ 65640 := by have := HQ.out; omega
          cases b1 with
          | false =>
            go_wp2
            refine bodyPost_ret (results_tmp3 rfl _ _ _) rfl ?_
            exact ⟨⟨0, 0, false, rfl, Nat.zero_le _, by simp⟩, HB1.out⟩
          | true =>
            obtain ⟨P, Q, hc1, rfl, hP, hpp⟩ := hb1t rfl
            have HPP := Lib.hid hpp
            have HC1 := Lib.hid hc1
            clear hpp hc1 hb1t
            by_cases hk6 : s.kind = 6 ∧ kr ≠ 3
            · have g5 : (s.kind == 6) = true := by rw [beq_iff_eq]; exact hk6.1
              have g6 : (kr != 3) = true := by simpa using hk6.2
              clear hk6
              go_wp2
              refine bodyPost_ret (results_tmp3 rfl _ _ _) rfl ?_
              exact ⟨⟨0, 0, false, rfl, Nat.zero_le _, by simp⟩, HB1.out⟩
            · have HK6 := Lib.hid hk6
              have hcase : (Aside True ∧ (s.kind == 6) = false) ∨ ((s.kind == 6) = true ∧ (kr != 3) = false) := by
                by_cases e6 : s.kind = 6
                · refine .inr ⟨by rw [beq_iff_eq]; exact e6, ?_⟩
                  have : kr = 3 := Classical.byContradiction fun hc => hk6 ⟨e6, hc⟩
                  rw [this]; rfl
                · exact .inl ⟨trivial, by rw [beq_eq_false_iff_ne]; exact e6⟩
              have HFIN := Lib.hid (show ∃ (i' : Nat) (p' : Int) (x' : Nat × Nat), Value.int .i64 (wrap64 (p + p1)) = Value.int .i64 p' ∧ Value.int .i64 (((1 + x.2 : Nat) : Int) + (q1n : Int)) = Value.int .i64 ((1 + x'.2 : Nat) : Int) ∧ Value.int .i64 ((i : Int) + 1) = Value.int .i64 i' ∧ i' ≤ s.parts.length ∧ 1 + x'.2 ≤ 1 + i' * Bd d ∧ cntF (cnt d) s.kind s.parts = (cntF (cnt d) s.kind (s.parts.drop i')).map (fun y => (x'.1 + y.1, x'.2 + y.2)) ∧ x'.1 ≤ 703687441776640 * x'.2 ∧ (1 + x'.2 ≤ 40 → p' = ((S1 + x'.1 : Nat) : Int)) ∧ i' = i + 1 by
                refine ⟨i + 1, wrap64 (p + p1), (x.1 + P, x.2 + q1n), rfl, by congr 1; omega, by congr 1, by omega, ?_, ?_, by simp; omega, ?_, rfl⟩
                · have := HQ.out
                  rw [Nat.succ_mul]
                  simp only
                  omega
                · have h1 := HCF.out
                  have h2 := HST.out
                  rw [HC1.out] at h2
                  simp only at h2
                  rw [if_neg HK6.out] at h2
                  rw [h1, h2, Option.map_map]
                  congr 1
                  funext y
                  simp only [Function.comp_def, Nat.add_assoc]
                · intro h40
                  simp only at h40 ⊢
                  have h1 := HPX.out (by omega)
                  have h2 := HPP.out (by omega)
                  rw [h1, h2]
                  unfold wrap64
                  omega)
              clear hk6 HK6
              rcases hcase with ⟨-, g5⟩ | ⟨g5, g6⟩
              all_goals
                go_wp2
                obtain ⟨i', p', x', e1, e2, e3, e4, e5, e6, e7, e8, e9⟩ := HFIN.out
                refine ⟨⟨i', p', x', e1, (congrArg (Value.int .i64) (by omega)).trans e2, (congrArg (Value.int .i64) (by omega)).trans e3, e4, HB1.out, HK1.out, e5, e6, e7, e8⟩, by simp [intOf]; omega⟩
        · have hbd : Bd d ≤ 1641 := by
            rcases (by omega : d = 0 ∨ d = 1 ∨ d = 2 ∨ d = 3) with h | h | h | h <;> rw [h] <;> decide
          have hib : i * Bd d ≤ 40 * Bd d := Nat.mul_le_mul_right _ (by omega)
          have e2 : s.parts.drop i = [] := List.drop_eq_nil_of_le (by omega)
          rw [e2, cntF] at hcf
          have hgood : formS s = true → cnt (d + 1) s = some (S1 + x.1, 1 + x.2) := by
            intro hf
            rw [cnt, if_pos HH.out, hcf]
            simp only [Option.map_some, Option.bind_some, if_pos hf, HS1.out, Nat.add_zero]
          have FIN := Lib.hid (show ∀ b : Bool, (b = true → formS s = true) → CntOk (d + 1) s (.returned (.tuple #[.int .i64 p, .int .i64 (1 + (x.2 : Int)), .bool b])) from fun b hf =>
            ⟨p, 1 + x.2, b, by congr 4, by unfold Bd; omega, fun hb => ⟨S1 + x.1, 1 + x.2, hgood (hf hb), rfl, by omega, hpx⟩⟩)
          have HB := Lib.hid hb
          clear e2 hcf hgood hpx hq hb hC'
          have hk : s.kind = 1 ∨ s.kind = 2 ∨ s.kind = 3 ∨ s.kind = 4 ∨ s.kind = 5 ∨ 6 ≤ s.kind := by omega
          rcases hk with hk | hk | hk | hk | hk | hk
          · have f1 : (s.kind == 1) = true := by rw [beq_iff_eq]; omega
            have f2 : (s.kind == 2) = false := by rw [beq_eq_false_iff_ne]; omega
            have f3 : (s.kind == 3) = false := by rw [beq_eq_false_iff_ne]; omega
            have f4 : (s.kind == 4) = false := by rw [beq_eq_false_iff_ne]; omega
            have f5 : (s.kind == 5) = false := by rw [beq_eq_false_iff_ne]; omega
            by_cases h1 : s.lists.length = 1
            · have f6 : ((s.lists.length : Int) == 1) = true := by rw [beq_iff_eq]; omega
              obtain ⟨ad, A2, c2, rfl, q0', -⟩ := get_row1 (Kd.C_below hC HB.out) rfl 0 (by omega)
              rw [add0'] at q0'
              have hhd : s.lists.headD [] = s.lists[0]'(by omega) := headD_get _ (by omega)
              obtain ⟨m, hm⟩ : ∃ m, m = (s.lists[0]'(by omega)).length := ⟨_, rfl⟩
              rw [← hm] at q0'
              by_cases h2 : m = 1
              · have f7 : ((m : Int) == 1) = true := by rw [beq_iff_eq]; omega
                have HM := Lib.hid hm
                clear hm
                go_wp2_with fail
                go_quiet (fail)
                go_wp2
                refine bodyPost_ret (results_tmp3 rfl _ _ _) rfl ?_
                refine ⟨FIN.out _ ?_, HB.out.trans (by first | exact (below_drewN _ _).mono (by omega) | exact Below.refl _ _)⟩
                intro hb
                unfold formS
                rw [if_pos (by omega)]
                simp only [Bool.and_eq_true, decide_eq_true_eq]
                exact ⟨⟨h1, by rw [hhd, ← HM.out]; exact h2⟩, by simpa using hb⟩
              · have f7 : ((m : Int) == 1) = false := by rw [beq_eq_false_iff_ne]; omega
                clear hm
                go_wp2_with fail
                go_quiet (fail)
                go_wp2
                refine bodyPost_ret (results_tmp3 rfl _ _ _) rfl ?_
                refine ⟨FIN.out _ ?_, HB.out.trans (by first | exact (below_drewN _ _).mono (by omega) | exact Below.refl _ _)⟩
                intro hb
                simp at hb
            · have f6 : ((s.lists.length : Int) == 1) = false := by rw [beq_eq_false_iff_ne]; omega
              go_wp2_with fail
              go_quiet (fail)
              go_wp2
              refine bodyPost_ret (results_tmp3 rfl _ _ _) rfl ?_
              refine ⟨FIN.out _ ?_, HB.out.trans (by first | exact (below_drewN _ _).mono (by omega) | exact Below.refl _ _)⟩
              intro hb
              simp at hb
          · have f1 : (s.kind == 1) = false := by rw [beq_eq_false_iff_ne]; omega
            have f2 : (s.kind == 2) = true := by rw [beq_iff_eq]; omega
            have f3 : (s.kind == 3) = false := by rw [beq_eq_false_iff_ne]; omega
            have f4 : (s.kind == 4) = false := by rw [beq_eq_false_iff_ne]; omega
            have f5 : (s.kind == 5) = false := by rw [beq_eq_false_iff_ne]; omega
            by_cases h1 : s.lists.length = 1
            · have f6 : ((s.lists.length : Int) == 1) = true := by rw [beq_iff_eq]; omega
              go_wp2_with fail
              go_quiet (fail)
              go_wp2
              refine bodyPost_ret (results_tmp3 rfl _ _ _) rfl ?_
              refine ⟨FIN.out _ ?_, HB.out.trans (by first | exact (below_drewN _ _).mono (by omega) | exact Below.refl _ _)⟩
              intro hb
              unfold formS
              rw [if_neg (by omega), if_pos (by omega)]
              simp only [Bool.and_eq_true, decide_eq_true_eq]
              exact ⟨h1, by simpa using hb⟩
            · have f6 : ((s.lists.length : Int) == 1) = false := by rw [beq_eq_false_iff_ne]; omega
              go_wp2_with fail
              go_quiet (fail)
              go_wp2
              refine bodyPost_ret (results_tmp3 rfl _ _ _) rfl ?_
              refine ⟨FIN.out _ ?_, HB.out.trans (by first | exact (below_drewN _ _).mono (by omega) | exact Below.refl _ _)⟩
              intro hb
              simp at hb
          · have f1 : (s.kind == 1) = false := by rw [beq_eq_false_iff_ne]; omega
            have f2 : (s.kind == 2) = false := by rw [beq_eq_false_iff_ne]; omega
            have f3 : (s.kind == 3) = true := by rw [beq_iff_eq]; omega
            have f4 : (s.kind == 4) = false := by rw [beq_eq_false_iff_ne]; omega
            have f5 : (s.kind == 5) = false := by rw [beq_eq_false_iff_ne]; omega
            go_wp2_with fail
            go_quiet (fail)
            go_wp2
            refine bodyPost_ret (results_tmp3 rfl _ _ _) rfl ?_
            refine ⟨FIN.out _ ?_, HB.out.trans (by first | exact (below_drewN _ _).mono (by omega) | exact Below.refl _ _)⟩
            intro hb
            unfold formS
            rw [if_neg (by omega), if_neg (by omega), if_pos (by omega)]
            simpa using hb
          · have f1 : (s.kind == 1) = false := by rw [beq_eq_false_iff_ne]; omega
            have f2 : (s.kind == 2) = false := by rw [beq_eq_false_iff_ne]; omega
            have f3 : (s.kind == 3) = false := by rw [beq_eq_false_iff_ne]; omega
            have f4 : (s.kind == 4) = true := by rw [beq_iff_eq]; omega
            have f5 : (s.kind == 5) = false := by rw [beq_eq_false_iff_ne]; omega
            by_cases h1 : s.lists.length = 1
            · have f6 : ((s.lists.length : Int) == 1) = true := by rw [beq_iff_eq]; omega
              go_wp2_with fail
              go_quiet (fail)
              go_wp2
              refine bodyPost_ret (results_tmp3 rfl _ _ _) rfl ?_
              refine ⟨FIN.out _ ?_, HB.out.trans (by first | exact (below_drewN _ _).mono (by omega) | exact Below.refl _ _)⟩
              intro hb
              unfold formS
              rw [if_neg (by omega), if_pos (by omega)]
              simp only [Bool.and_eq_true, decide_eq_true_eq]
              exact ⟨h1, by simpa using hb⟩
            · have f6 : ((s.lists.length : Int) == 1) = false := by rw [beq_eq_false_iff_ne]; omega
              go_wp2_with fail
              go_quiet (fail)
              go_wp2
              refine bodyPost_ret (results_tmp3 rfl _ _ _) rfl ?_
              refine ⟨FIN.out _ ?_, HB.out.trans (by first | exact (below_drewN _ _).mono (by omega) | exact Below.refl _ _)⟩
              intro hb
              simp at hb
          · have f1 : (s.kind == 1) = false := by rw [beq_eq_false_iff_ne]; omega
            have f2 : (s.kind == 2) = false := by rw [beq_eq_false_iff_ne]; omega
            have f3 : (s.kind == 3) = false := by rw [beq_eq_false_iff_ne]; omega
            have f4 : (s.kind == 4) = false := by rw [beq_eq_false_iff_ne]; omega
            have f5 : (s.kind == 5) = true := by rw [beq_iff_eq]; omega
            go_wp2_with fail
            go_quiet (fail)
            go_wp2
            refine bodyPost_ret (results_tmp3 rfl _ _ _) rfl ?_
            refine ⟨FIN.out _ ?_, HB.out.trans (by first | exact (below_drewN _ _).mono (by omega) | exact Below.refl _ _)⟩
            intro hb
            unfold formS
            rw [if_neg (by omega), if_neg (by omega), if_pos (by omega)]
            simpa using hb
          · have f1 : (s.kind == 1) = false := by rw [beq_eq_false_iff_ne]; omega
            have f2 : (s.kind == 2) = false := by rw [beq_eq_false_iff_ne]; omega
            have f3 : (s.kind == 3) = false := by rw [beq_eq_false_iff_ne]; omega
            have f4 : (s.kind == 4) = false := by rw [beq_eq_false_iff_ne]; omega
            have f5 : (s.kind == 5) = false := by rw [beq_eq_false_iff_ne]; omega
            go_wp2_with fail
            go_quiet (fail)
            go_wp2
            refine bodyPost_ret (results_tmp3 rfl _ _ _) rfl ?_
            refine ⟨FIN.out _ ?_, HB.out.trans (by first | exact (below_drewN _ _).mono (by omega) | exact Below.refl _ _)⟩
            intro hb
            unfold formS
            rw [if_neg (by omega), if_neg (by omega), if_neg (by omega)]
            simpa using hb

/-- counted. -/
theorem counted_any : ∀ (d : Nat), d ≤ 4 → ∀ (n : Nat) (w : World) (s : Sh) (v : Value), ShV n w s v → LenS s → Calls Tryz.prog 44 #[v, .int .i64 (d : Int)] w fun e w' => CntOk d s e ∧ Below w.heap.size w w'
  | 0, _, n, w, s, v, h, hL => cnt_zero n w s v h
  | d + 1, hd, n, w, s, v, h, hL => by
    have ih := counted_any d (by omega)
    cases hh : headOk s with
    | false => exact cnt_bad n d (by omega) w s v h hh
    | true => exact cnt_good n d (by omega) ih w s v h hL hh

set_option maxRecDepth 20000 in
set_option maxHeartbeats 1000000 in
/-- IsShape. -/
theorem isShape_any (n : Nat) (w : World) (s : Sh) (v : Value) (h : ShV n w s v) (hL : LenS s) :
    Calls Tryz.prog 21 #[v] w fun e w' => ∃ b, e = .returned (.bool b) ∧ Below w.heap.size w w' ∧ (b = true → ∃ P Q, cnt 4 s = some (P, Q) ∧ P ≤ 300 ∧ Q ≤ 40) := by
  have hv := h
  obtain ⟨A, c, A', c', rfl, hC, hC'⟩ := hv
  obtain ⟨k, hk⟩ : ∃ k, k = s.kind := ⟨_, rfl⟩
  obtain ⟨l, hll⟩ : ∃ l, l = s.lists.length := ⟨_, rfl⟩
  obtain ⟨p, hp⟩ : ∃ p, p = s.parts.length := ⟨_, rfl⟩
  rw [← hk, ← hll, ← hp] at h ⊢
  have hb0 := below_alloc1 w (.cells #[.int .i64 k, .slice A l c, .slice A' p c'] 25)
  have hcall := counted_any 4 (by omega) n _ s _ (h.below hb0) hL
  obtain ⟨m0, m1, m2, n0, n1, n2⟩ := three_facts (blk_new w (.cells #[.int .i64 k, .slice A l c, .slice A' p c'] 25))
  have HB0 := Lib.hid hb0
  clear hb0 hC hC' h hk hll hp
  go_enter Tryz.func21, Tryz.ntmps21
  go_wp2_with fail
  refine hcall.mono ?_
  clear hcall
  rintro e w1 ⟨⟨P, Q, b, rfl, hq, hb⟩, hb1⟩
  have HB1 := Lib.hid (below_then HB0.out (by simp) hb1)
  clear hb1
  cases b with
  | false =>
    clear hb
    go_wp2
    go_ret
    exact ⟨_, rfl, HB1.out, by simp⟩
  | true =>
    obtain ⟨P', Q', h1, rfl, h2, h3⟩ := hb rfl
    have HX := Lib.hid h1
    have H3 := Lib.hid h3
    clear hb h1 h3
    by_cases h4 : P ≤ 300
    · by_cases h5 : Q ≤ 40
      · have g1 : (P ≤ 300) = True := by simpa using h4
        have g2 : ((Q : Int) ≤ 40) = True := by simp; omega
        go_wp2
        go_ret
        exact ⟨_, rfl, HB1.out, fun _ => ⟨P', Q, HX.out, by have := H3.out h5; omega, h5⟩⟩
      · have g1 : (P ≤ 300) = True := by simpa using h4
        have g2 : ((Q : Int) ≤ 40) = False := by simp; omega
        go_wp2
        go_ret
        exact ⟨_, rfl, HB1.out, by simp⟩
    · have g1 : (P ≤ 300) = False := by simpa using h4
      go_wp2
      go_ret
      exact ⟨_, rfl, HB1.out, by simp⟩
end Go.Proofs.YtghajgdiaopioaaGreatDoor
end

/- Walks: all, WholeShape. Conditions: stand in each contract. -/
section
set_option linter.unusedVariables false
set_option linter.unusedSimpArgs false
namespace Go.Proofs.YtghajgdiaopioaaGreatDoor
open Go.RowKit Go.Proofs Tx
open Go.Proofs.YtghajgdiaopioaaGreatDoorW.PrintWords

theorem AllS.mk {q : Nat → Prop} {s : Sh} (h1 : ∀ l ∈ s.lists, ∀ p ∈ l, q p.1 ∧ q p.2) (h2 : ∀ t ∈ s.parts, AllS q t) : AllS q s := by
  cases s with | mk k ls ps => exact ⟨h1, (AllSs_iff q ps).2 h2⟩
theorem AllS.lists {q : Nat → Prop} {s : Sh} (h : AllS q s) : ∀ l ∈ s.lists, ∀ p ∈ l, q p.1 ∧ q p.2 := by cases s; exact h.1
theorem AllS.parts {q : Nat → Prop} {s : Sh} (h : AllS q s) : ∀ p ∈ s.parts, AllS q p := by cases s; exact (AllSs_iff q _).1 h.2
/-- Bits of a float. -/
abbrev F64 (x : Nat) : Prop := x < 18446744073709551616
theorem mem_take_succ {α : Type} {l : List α} {j : Nat} (hj : j < l.length) {a : α} (ha : a ∈ l.take (j + 1)) : a ∈ l.take j ∨ a = l[j] := by
  rw [List.take_add_one, List.getElem?_eq_getElem hj] at ha
  rcases List.mem_append.1 ha with h | h
  · exact .inl h
  · exact .inr (by simpa using h)
abbrev isV (F : Nat) : Value := .func (.func F) #[] #[]

set_option maxRecDepth 40000 in
set_option maxHeartbeats 2000000 in
theorem all_step (F : Nat) (q : Nat → Prop) (hcf : ∀ args w, (callFunc F args).run Tryz.prog w = .ok (.enter F args) w)
    (hF : ∀ (x : Nat) (w : World), F64 x → Calls Tryz.prog F #[.float .f64 x] w fun e w' => ∃ b, e = .returned (.bool b) ∧ Below w.heap.size w w' ∧ (b = true → q x))
    (n : Nat) (ih : ∀ k, n = k + 1 → ∀ (w : World) (s : Sh) (v : Value), ShV k w s v → AllS F64 s → Calls Tryz.prog 22 #[v, isV F] w fun e w' => ∃ b, e = .returned (.bool b) ∧ Below w.heap.size w w' ∧ (b = true → AllS q s))
    (w : World) (s : Sh) (v : Value) (h : ShV n w s v) (hX : AllS F64 s) :
    Calls Tryz.prog 22 #[v, isV F] w fun e w' => ∃ b, e = .returned (.bool b) ∧ Below w.heap.size w w' ∧ (b = true → AllS q s) := by
  obtain ⟨A, c, A', c', rfl, hC, hC'⟩ := h
  have hbx := below_alloc1 w (.cells #[.int .i64 s.kind, .slice A s.lists.length c, .slice A' s.parts.length c'] 25)
  have hkx := blk_new w (.cells #[.int .i64 s.kind, .slice A s.lists.length c, .slice A' s.parts.length c'] 25)
  obtain ⟨m0, m1, m2, n0, n1, n2⟩ := three_facts hkx
  have hll : s.lists.length ≤ 9223372036854775807 := hC.2.1
  have hpl : s.parts.length ≤ 9223372036854775807 := hC'.2.1
  have HBX := Lib.hid hbx
  have HKX := Lib.hid hkx
  clear hbx hkx
  go_enter Tryz.func22, Tryz.ntmps22
  go_wp2
  go_loopw [14] (fun v14 wr => ∃ j : Nat, v14 = .int .i64 j ∧ j ≤ s.lists.length ∧ Below w.heap.size w wr ∧ wr.heap[w.heap.size]? = some (.cells #[.int .i64 s.kind, .slice A s.lists.length c, .slice A' s.parts.length c'] 25 (0, 0)) ∧ ∀ l ∈ s.lists.take j, ∀ p ∈ l, q p.1 ∧ q p.2) (fun v14 wr => s.lists.length - (intOf v14).toNat)
  case atStart => exact ⟨0, rfl, Nat.zero_le _, HBX.out, HKX.out, by simp⟩
  case round =>
    obtain ⟨j, rfl, hj, hb, hk, hall⟩ := hrel
    have hszr := hb.size
    by_cases hlt : j < s.lists.length
    · obtain ⟨ad, A2, c2, rfl, q0, hC2⟩ := get_row1 (Kd.C_below hC hb) rfl j hlt
      obtain ⟨r, hr⟩ : ∃ r, r = s.lists[j] := ⟨_, rfl⟩
      have hXr := hX.lists _ (List.getElem_mem hlt)
      rw [← hr] at q0 hC2 hXr
      have hrl : r.length ≤ 9223372036854775807 := hC2.2.1
      have HXR := Lib.hid hXr
      clear hXr
      have HR := Lib.hid hr
      have HB := Lib.hid hb
      have HK := Lib.hid hk
      have HALL := Lib.hid hall
      have HC := Lib.hid hC
      have HC' := Lib.hid hC'
      clear hr hb hk hall hC hC'
      obtain ⟨w1, hw1⟩ : ∃ w1, w1 = wr := ⟨_, rfl⟩
      subst hw1
      go_wp2
      go_loopw [20] (fun v20 wi => ∃ i : Nat, v20 = .int .i64 i ∧ i ≤ r.length ∧ Below w1.heap.size w1 wi ∧ ∀ p ∈ r.take i, q p.1 ∧ q p.2) (fun v20 wi => r.length - (intOf v20).toNat)
      case atStart => exact ⟨0, rfl, Nat.zero_le _, Below.refl _ _, by simp⟩
      case round =>
        obtain ⟨i, rfl, hi, hbi, halli⟩ := hrel
        by_cases hlti : i < r.length
        · obtain ⟨ad2, rfl, p0, p1⟩ := get_pt (Kd.C_below hC2 hbi) rfl i hlti
          obtain ⟨x, hx⟩ : ∃ x, x = r[i].1 := ⟨_, rfl⟩
          obtain ⟨y, hy⟩ : ∃ y, y = r[i].2 := ⟨_, rfl⟩
          have hxy := HXR.out _ (List.getElem_mem hlti)
          rw [← hx, ← hy] at hxy
          have HFXY := Lib.hid hxy
          clear hxy
          rw [← hx] at p0
          rw [← hy] at p1
          have HXY := Lib.hid (And.intro hx hy)
          have HBI := Lib.hid hbi
          have HALI := Lib.hid halli
          have hszi := hbi.size
          clear hx hy hbi halli
          have hcall := hF x (wr.alloc (.cells #[.float .f64 x, .float .f64 y] 49)) HFXY.out.1
          have hkb := blk_new wr (.cells #[.float .f64 x, .float .f64 y] 49)
          have HKB := Lib.hid hkb
          clear hkb
          go_wp2_with fail
          refine hcall.mono ?_
          clear hcall
          rintro e w2 ⟨b1, rfl, hb1, hq1⟩
          have hk2 := blk_below HKB.out hb1
          have c0 := blk_cell hk2 0
          have c1 := blk_cell hk2 1
          have HB1 := Lib.hid (below_then HBI.out hszi (below_then (below_alloc1 wr (.cells #[.float .f64 x, .float .f64 y] 49)) (by simp) hb1))
          clear hk2 hb1
          cases b1 with
          | false =>
            go_wp2
            go_ret
            exact ⟨_, rfl, below_then HB.out HB.out.size HB1.out, by simp⟩
          | true =>
            have HQ1 := Lib.hid (hq1 rfl)
            clear hq1
            have hcall := hF y w2 HFXY.out.2
            go_wp2_with fail
            refine hcall.mono ?_
            clear hcall
            rintro e w3 ⟨b2, rfl, hb2, hq2⟩
            have HB2 := Lib.hid (below_then HB1.out HB1.out.size hb2)
            clear hb2
            cases b2 with
            | false =>
              go_wp2
              go_ret
              exact ⟨_, rfl, below_then HB.out HB.out.size HB2.out, by simp⟩
            | true =>
              have HQ2 := Lib.hid (hq2 rfl)
              clear hq2
              go_wp2
              refine ⟨⟨i + 1, by go_num, by omega, HB2.out, fun p hp => ?_⟩, by simp [intOf]; omega⟩
              rcases mem_take_succ hlti hp with h | h
              · exact HALI.out p h
              · rw [h, ← HXY.out.1, ← HXY.out.2]; exact ⟨HQ1.out, HQ2.out⟩
        · have e1 : r.take i = r := List.take_of_length_le (by omega)
          rw [e1] at halli
          have HBI := Lib.hid (below_then HB.out HB.out.size hbi)
          have HKI := Lib.hid (blk_below HK.out hbi)
          have HALI := Lib.hid halli
          clear hbi halli e1
          go_wp2
          refine ⟨⟨j + 1, by go_num, by omega, HBI.out, HKI.out, fun l hl => ?_⟩, by simp [intOf]; omega⟩
          rcases mem_take_succ hlt hl with h | h
          · exact HALL.out l h
          · rw [h, ← HR.out]; exact HALI.out
    · have e1 : s.lists.take j = s.lists := List.take_of_length_le (by omega)
      rw [e1] at hall
      have HALL := Lib.hid hall
      obtain ⟨m0', m1', m2', n0', n1', n2'⟩ := three_facts hk
      have HB := Lib.hid hb
      have HK := Lib.hid hk
      clear e1 hall hb hk
      obtain ⟨w1, hw1⟩ : ∃ w1, w1 = wr := ⟨_, rfl⟩
      subst hw1
      go_wp2
      go_loopw [41] (fun v41 wi => ∃ i : Nat, v41 = .int .i64 i ∧ i ≤ s.parts.length ∧ Below w.heap.size w wi ∧ ∀ t ∈ s.parts.take i, AllS q t) (fun v41 wi => s.parts.length - (intOf v41).toNat)
      case atStart => exact ⟨0, rfl, Nat.zero_le _, HB.out, by simp⟩
      case round =>
        obtain ⟨i, rfl, hi, hbi, halli⟩ := hrel
        have hszi := hbi.size
        by_cases hlti : i < s.parts.length
        · obtain ⟨k2, ad, A2, c2, A3, c3, hn2, rfl, q0, q1, q2, hC2, hC3⟩ := get_sh (Kd.C_below hC' hbi) rfl i hlti
          obtain ⟨r, hr⟩ : ∃ r, r = s.parts[i] := ⟨_, rfl⟩
          have hXr := hX.parts _ (List.getElem_mem hlti)
          rw [← hr] at q0 q1 q2 hC2 hC3 hXr
          obtain ⟨kr, hkr⟩ : ∃ kr, kr = r.kind := ⟨_, rfl⟩
          obtain ⟨lr, hlr⟩ : ∃ lr, lr = r.lists.length := ⟨_, rfl⟩
          obtain ⟨pr, hpr⟩ : ∃ pr, pr = r.parts.length := ⟨_, rfl⟩
          have hbo := below_alloc1 wr (.cells #[.int .i64 kr, .slice A2 lr c2, .slice A3 pr c3] 25)
          have hcall := ih k2 hn2 (wr.alloc (.cells #[.int .i64 kr, .slice A2 lr c2, .slice A3 pr c3] 25)) r _ ⟨A2, c2, A3, c3, rfl, Kd.C_below hC2 hbo, Kd.C_below hC3 hbo⟩ hXr
          rw [← hkr, ← hlr, ← hpr] at hcall
          rw [← hkr] at q0
          rw [← hlr] at q1
          rw [← hpr] at q2
          have HR := Lib.hid hr
          have HBI := Lib.hid (hbi.alloc hszi (.cells #[.int .i64 kr, .slice A2 lr c2, .slice A3 pr c3] 25))
          have HALI := Lib.hid halli
          have HC' := Lib.hid hC'
          clear hn2 hC2 hC3 hr hkr hlr hpr hbo hbi halli hC hC' hXr
          go_wp2_with fail
          refine hcall.mono ?_
          clear hcall
          rintro e w2 ⟨b1, rfl, hb1, hq1⟩
          have HB1 := Lib.hid (below_then HBI.out HBI.out.size hb1)
          clear hb1
          cases b1 with
          | false =>
            go_wp2
            go_ret
            exact ⟨_, rfl, HB1.out, by simp⟩
          | true =>
            have HQ1 := Lib.hid (hq1 rfl)
            clear hq1
            go_wp2
            refine ⟨⟨i + 1, by go_num, by omega, HB1.out, fun t ht => ?_⟩, by simp [intOf]; omega⟩
            rcases mem_take_succ hlti ht with h | h
            · exact HALI.out t h
            · rw [h, ← HR.out]; exact HQ1.out
        · have e1 : s.parts.take i = s.parts := List.take_of_length_le (by omega)
          rw [e1] at halli
          have HBI := Lib.hid hbi
          have HALI := Lib.hid halli
          clear hbi halli e1
          go_wp2
          go_ret
          exact ⟨_, rfl, HBI.out, fun _ => AllS.mk HALL.out HALI.out⟩
/-- all. -/
theorem all_any (F : Nat) (q : Nat → Prop) (hcf : ∀ args w, (callFunc F args).run Tryz.prog w = .ok (.enter F args) w)
    (hF : ∀ (x : Nat) (w : World), F64 x → Calls Tryz.prog F #[.float .f64 x] w fun e w' => ∃ b, e = .returned (.bool b) ∧ Below w.heap.size w w' ∧ (b = true → q x)) :
    ∀ (n : Nat) (w : World) (s : Sh) (v : Value), ShV n w s v → AllS F64 s → Calls Tryz.prog 22 #[v, isV F] w fun e w' => ∃ b, e = .returned (.bool b) ∧ Below w.heap.size w w' ∧ (b = true → AllS q s)
  | 0 => all_step F q hcf hF 0 (fun k hk => by omega)
  | n + 1 => all_step F q hcf hF (n + 1) (fun k hk => by
      obtain rfl : n = k := by omega
      exact all_any F q hcf hF n)
end Go.Proofs.YtghajgdiaopioaaGreatDoor
end
