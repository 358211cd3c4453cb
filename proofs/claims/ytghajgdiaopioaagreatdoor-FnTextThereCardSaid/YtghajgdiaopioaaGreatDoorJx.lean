/- Walks and plain laws joined (Sc, Sd). Conditions: stand in each law. -/
import Derived.Test.YtghajgdiaopioaaGreatDoorJw
import Derived.Test.YtghajgdiaopioaaGreatDoorJp
set_option linter.unusedVariables false
set_option linter.unusedSimpArgs false
section
/- Walks over the spec's functions on shapes: zzFits, counted, IsShape. Conditions: stand in each contract. -/
namespace Go.Proofs.YtghajgdiaopioaaGreatDoor
open Go.RowKit Go.Proofs Tx
open Go.Proofs.YtghajgdiaopioaaGreatDoorW.PrintWords
/-- The value of a shape. -/
def ShV (n : Nat) (w : World) (s : Sh) (v : Value) : Prop :=
  ∃ A c A' c', v = .agg #[.int .i64 s.kind, .slice A s.lists.length c, .slice A' s.parts.length c'] ∧ rowK.C w A s.lists.length s.lists ∧ (shK n).C w A' s.parts.length s.parts
theorem ShV.below {n : Nat} {w w' : World} {s : Sh} {v : Value} (h : ShV n w s v) (hb : Below w.heap.size w w') : ShV n w' s v := by
  obtain ⟨A, c, A', c', rfl, h1, h2⟩ := h
  exact ⟨A, c, A', c', rfl, Kd.C_below h1 hb, Kd.C_below h2 hb⟩
/-- A part of a row that is read. -/
theorem get_sh {n : Nat} {w : World} {A : Option Addr} {m : Nat} {ps : List Sh} (h : (shK n).C w A m ps) (hm : m = ps.length) (j : Nat) (hj : j < ps.length) :
    ∃ k ad B c B' c', n = k + 1 ∧ A = some ad ∧ w.cell? (ad.add (j * 3)) = some (.int .i64 ps[j].kind) ∧ w.cell? ⟨(ad.add (j * 3)).block, (ad.add (j * 3)).off + 1, none⟩ = some (.slice B ps[j].lists.length c) ∧ w.cell? ⟨(ad.add (j * 3)).block, (ad.add (j * 3)).off + 2, none⟩ = some (.slice B' ps[j].parts.length c') ∧ rowK.C w B ps[j].lists.length ps[j].lists ∧ (shK k).C w B' ps[j].parts.length ps[j].parts := by
  obtain ⟨ad, cs, hA, hlen, hK, hc⟩ := Kd.C_get h (.mk 0 [] []) j (by omega) (by omega)
  have hx : ps.getD (j : Int).toNat (.mk 0 [] []) = ps[j] := by simp [List.getD, hj]
  rw [hx] at hK
  cases n with
  | zero => exact hK.elim
  | succ k =>
    obtain ⟨c0, c1, rfl, h0, c2, c3, rfl, ⟨B, c, rfl, hB, hC⟩, ⟨B', c', rfl, hB', hC'⟩⟩ := hK
    cases h0
    have q0 := hc 0 _ rfl
    have q1 := hc 1 _ rfl
    have q2 := hc 2 _ rfl
    have e0 : ad.add ((j : Int).toNat * (shK (k + 1)).sz + 0) = ad.add (j * 3) := by
      rw [shK_sz]; congr 1
    have e1 : ad.add ((j : Int).toNat * (shK (k + 1)).sz + 1) = ad.add (j * 3 + 1) := by
      rw [shK_sz]; congr 1
    have e2 : ad.add ((j : Int).toNat * (shK (k + 1)).sz + 2) = ad.add (j * 3 + 2) := by
      rw [shK_sz]; congr 1
    rw [e0] at q0
    rw [e1, add_field ad (j * 3) 1 (by decide)] at q1
    rw [e2, add_field ad (j * 3) 2 (by decide)] at q2
    exact ⟨k, ad, B, c, B', c', rfl, hA, q0, q1, q2, hC, hC'⟩

theorem get_row1 {w : World} {A : Option Addr} {n : Nat} {rs : List (List Pt)} (h : rowK.C w A n rs) (hn : n = rs.length) (j : Nat) (hj : j < rs.length) :
    ∃ ad A2 c2, A = some ad ∧ w.cell? (ad.add j) = some (.slice A2 rs[j].length c2) ∧ ptK.C w A2 rs[j].length rs[j] := get_row2 h hn j hj

set_option maxRecDepth 20000 in
set_option maxHeartbeats 1000000 in
theorem fits2_any (w : World) (A : Option Addr) (c : Nat) (ls : List (List Pt)) (hC : rowK.C w A ls.length ls) :
    Calls Tryz.prog 20 #[.slice A ls.length c] w fun e w' => ∃ b, e = .returned (.bool b) ∧ Below w.heap.size w w' ∧ (b = true → ls.length ≤ 2147483647 ∧ ∀ l ∈ ls, l.length ≤ 2147483647) := by
  by_cases h1 : ls.length ≤ 2147483647
  · have q1 : ((2147483647 : Int) < ls.length) = False := by simp; omega
    go_enter Tryz.func20, Tryz.ntmps20
    go_wp2
    go_loopw [10] (fun v10 wr => ∃ j : Nat, v10 = .int .i64 j ∧ j ≤ ls.length ∧ Below w.heap.size w wr ∧ ∀ l ∈ ls.take j, l.length ≤ 2147483647) (fun v10 wr => ls.length - (intOf v10).toNat)
    case atStart => exact ⟨0, rfl, Nat.zero_le _, Below.refl _ _, by simp⟩
    case round =>
      obtain ⟨j, rfl, hj, hb, hall⟩ := hrel
      by_cases hlt : j < ls.length
      · obtain ⟨ad, A2, c2, rfl, q0, hC2⟩ := get_row1 (Kd.C_below hC hb) rfl j hlt
        obtain ⟨m, hm⟩ : ∃ m, m = ls[j].length := ⟨_, rfl⟩
        rw [← hm] at q0
        by_cases hml : m ≤ 2147483647
        · have q2 : ((2147483647 : Int) < m) = False := by simp; omega
          have HX := Lib.hid (show ∀ l ∈ ls.take (j + 1), l.length ≤ 2147483647 by
            intro l hl
            rw [List.take_add_one, List.getElem?_eq_getElem hlt] at hl
            rcases List.mem_append.1 hl with h | h
            · exact hall l h
            · have : l = ls[j] := by simpa using h
              rw [this, ← hm]; exact hml)
          have HB := Lib.hid hb
          clear hC2 hall hb hm
          go_wp2
          exact ⟨⟨j + 1, by go_num, by omega, HB.out, HX.out⟩, by simp [intOf]; omega⟩
        · have q2 : ((2147483647 : Int) < m) = True := by simp; omega
          have HB := Lib.hid hb
          clear hC2 hall hb hm
          go_wp2
          go_ret
          exact ⟨_, rfl, HB.out, by simp⟩
      · have e1 : ls.take j = ls := List.take_of_length_le (by omega)
        rw [e1] at hall
        have HB := Lib.hid hb
        have HX := Lib.hid hall
        clear hb hall
        go_wp2
        go_ret
        exact ⟨_, rfl, HB.out, fun _ => ⟨h1, HX.out⟩⟩
  · have q1 : ((2147483647 : Int) < ls.length) = True := by simp; omega
    go_enter Tryz.func20, Tryz.ntmps20
    go_wp2
    go_ret
    exact ⟨_, rfl, Below.refl _ _, by simp⟩

set_option maxRecDepth 20000 in
set_option maxHeartbeats 1000000 in
theorem fits1_any (n : Nat) (w : World) (s : Sh) (v : Value) (h : ShV n w s v) :
    Calls Tryz.prog 9 #[v] w fun e w' => ∃ b, e = .returned (.bool b) ∧ Below w.heap.size w w' := by
  obtain ⟨A, c, A', c', rfl, hC, hC'⟩ := h
  have hb := below_alloc1 w (.cells #[.int .i64 s.kind, .slice A s.lists.length c, .slice A' s.parts.length c'] 25)
  have hcall := fits2_any (w.alloc (.cells #[.int .i64 s.kind, .slice A s.lists.length c, .slice A' s.parts.length c'] 25)) A c s.lists (Kd.C_below hC hb)
  obtain ⟨m0, m1, m2, n0, n1, n2⟩ := three_facts (blk_new w (.cells #[.int .i64 s.kind, .slice A s.lists.length c, .slice A' s.parts.length c'] 25))
  have hk := blk_new w (.cells #[.int .i64 s.kind, .slice A s.lists.length c, .slice A' s.parts.length c'] 25)
  have HK := Lib.hid hk
  have HB := Lib.hid hb
  clear hk hb hC hC'
  go_enter Tryz.func9, Tryz.ntmps9
  go_wp2_with fail
  refine hcall.mono ?_
  clear hcall
  rintro e w1 ⟨b, rfl, hb1, -⟩
  have hk1 := blk_below HK.out hb1
  obtain ⟨p0, p1, p2, r0, r1, r2⟩ := three_facts hk1
  have HB1 := Lib.hid (below_then HB.out (by simp) hb1)
  clear hk1 hb1
  cases b
  · go_wp2
    go_ret
    exact ⟨_, rfl, HB1.out⟩
  · by_cases h1 : (2147483647 : Int) < s.parts.length
    · go_wp2
      go_ret
      exact ⟨_, rfl, HB1.out⟩
    · go_wp2
      go_ret
      exact ⟨_, rfl, HB1.out⟩
/-! Walks: counted, IsShape. -/
/-- No list in it is longer than memory allows. -/
def LenS : Sh → Prop
  | .mk _ ls ps => (∀ l ∈ ls, l.length ≤ 17592186044416) ∧ LenSs ps
where LenSs : List Sh → Prop
  | [] => True
  | s :: l => LenS s ∧ LenSs l
theorem LenSs_iff (l : List Sh) : LenS.LenSs l ↔ ∀ s ∈ l, LenS s := by
  induction l with
  | nil => simp [LenS.LenSs]
  | cons s l ih => rw [LenS.LenSs, ih]; simp
theorem LenS.lists {s : Sh} (h : LenS s) : ∀ l ∈ s.lists, l.length ≤ 17592186044416 := by cases s; exact h.1
theorem LenS.parts {s : Sh} (h : LenS s) : ∀ p ∈ s.parts, LenS p := by cases s; exact (LenSs_iff _).1 h.2
def Bd : Nat → Nat
  | 0 => 0
  | d + 1 => 1 + 40 * Bd d
/-- What counted answers. -/
def CntOk (d : Nat) (s : Sh) (e : Ending) : Prop := ∃ (p : Int) (q : Nat) (b : Bool), e = .returned (.tuple #[.int .i64 p, .int .i64 q, .bool b]) ∧ q ≤ Bd d ∧ (b = true → ∃ P Q : Nat, cnt d s = some (P, Q) ∧ q = Q ∧ P ≤ 703687441776640 * Q ∧ (Q ≤ 40 → p = P))

set_option maxRecDepth 40000 in
set_option maxHeartbeats 1000000 in
theorem cnt_zero (n : Nat) (w : World) (s : Sh) (v : Value) (h : ShV n w s v) :
    Calls Tryz.prog 44 #[v, .int .i64 0] w fun e w' => CntOk 0 s e ∧ Below w.heap.size w w' := by
  obtain ⟨A, c, A', c', rfl, hC, hC'⟩ := h
  obtain ⟨m0, m1, m2, n0, n1, n2⟩ := three_facts (blk_new w (.cells #[.int .i64 s.kind, .slice A s.lists.length c, .slice A' s.parts.length c'] 25))
  go_enter Tryz.func44, Tryz.ntmps44
  go_wp2
  refine bodyPost_ret (results_tmp3 rfl _ _ _) rfl ?_
  exact ⟨⟨0, 0, false, rfl, Nat.le_refl _, by simp⟩, below_alloc1 _ _⟩
set_option maxRecDepth 40000 in
set_option maxHeartbeats 1000000 in
theorem cnt_bad (n d : Nat) (hd : d ≤ 4) (w : World) (s : Sh) (v : Value) (h : ShV n w s v) (hh : headOk s = false) :
    Calls Tryz.prog 44 #[v, .int .i64 ((d + 1 : Nat) : Int)] w fun e w' => CntOk (d + 1) s e ∧ Below w.heap.size w w' := by
  obtain ⟨A, c, A', c', rfl, hC, hC'⟩ := h
  obtain ⟨m0, m1, m2, n0, n1, n2⟩ := three_facts (blk_new w (.cells #[.int .i64 s.kind, .slice A s.lists.length c, .slice A' s.parts.length c'] 25))
  have hd0 : (((d + 1 : Nat) : Int) == 0) = false := by rw [beq_eq_false_iff_ne]; omega
  have fin : CntOk (d + 1) s (.returned (.tuple #[.int .i64 0, .int .i64 0, .bool false])) := ⟨0, 0, false, rfl, Nat.zero_le _, by simp⟩
  have FIN := Lib.hid fin
  obtain ⟨D, hD⟩ : ∃ D : Int, D = ((d + 1 : Nat) : Int) := ⟨_, rfl⟩
  rw [← hD] at hd0 ⊢
  clear hD fin
  unfold headOk at hh
  by_cases h1 : s.kind < 1
  · have g1 : (s.kind < 1) = True := by simpa using h1
    go_enter Tryz.func44, Tryz.ntmps44
    go_wp2
    refine bodyPost_ret (results_tmp3 rfl _ _ _) rfl ?_
    exact ⟨FIN.out, below_alloc1 _ _⟩
  have g1 : (s.kind < 1) = False := by simpa using h1
  by_cases h2 : 7 < s.kind
  · have g2 : (7 < s.kind) = True := by simpa using h2
    go_enter Tryz.func44, Tryz.ntmps44
    go_wp2
    refine bodyPost_ret (results_tmp3 rfl _ _ _) rfl ?_
    exact ⟨FIN.out, below_alloc1 _ _⟩
  have g2 : (7 < s.kind) = False := by simpa using h2
  by_cases h3 : 40 < s.lists.length
  · have g3 : ((40 : Int) < s.lists.length) = True := by simp; omega
    go_enter Tryz.func44, Tryz.ntmps44
    go_wp2
    refine bodyPost_ret (results_tmp3 rfl _ _ _) rfl ?_
    exact ⟨FIN.out, below_alloc1 _ _⟩
  have g3 : ((40 : Int) < s.lists.length) = False := by simp; omega
  have h4 : 40 < s.parts.length := by
    simp only [Bool.and_eq_false_iff, decide_eq_false_iff_not] at hh
    omega
  have g4 : ((40 : Int) < s.parts.length) = True := by simp; omega
  go_enter Tryz.func44, Tryz.ntmps44
  go_wp2
  refine bodyPost_ret (results_tmp3 rfl _ _ _) rfl ?_
  exact ⟨FIN.out, below_alloc1 _ _⟩

theorem headD_get (l : List (List Pt)) (h : 0 < l.length) : l.headD [] = l[0] := by
  cases l with
  | nil => simp at h
  | cons r l => rfl
theorem add0' (a : Addr) : a.add 0 = a := by
  unfold Addr.add
  split <;> simp_all
theorem take_snoc1 {α : Type} {l : List α} {j : Nat} (h : j < l.length) : l.take (j + 1) = l.take j ++ [l[j]] := by
  rw [List.take_add_one, List.getElem?_eq_getElem h]; rfl
theorem sumL_take {ls : List (List Pt)} {j : Nat} (hj : j < ls.length) : sumL (ls.take (j + 1)) = sumL (ls.take j) + ls[j].length := by
  unfold sumL
  rw [take_snoc1 hj, List.map_append, List.sum_append]
  simp only [List.map_cons, List.map_nil, List.sum_cons, List.sum_nil, Nat.add_zero]
theorem cntF_step (f : Sh → Option (Nat × Nat)) (k : Int) {ps : List Sh} {j : Nat} (hj : j < ps.length) : cntF f k (ps.drop j) = match f ps[j] with
    | none => none
    | some x => if k = 6 ∧ ps[j].kind ≠ 3 then none else (cntF f k (ps.drop (j + 1))).map fun y => (x.1 + y.1, x.2 + y.2) := by
  rw [List.drop_eq_getElem_cons hj]
  rfl
set_option maxRecDepth 40000 in
set_option maxHeartbeats 4000000 in
theorem cnt_good (n d : Nat) (hd : d ≤ 3) (ih : ∀ (n : Nat) (w : World) (s : Sh) (v : Value), ShV n w s v → LenS s → Calls Tryz.prog 44 #[v, .int .i64 (d : Int)] w fun e w' => CntOk d s e ∧ Below w.heap.size w w')
    (w : World) (s : Sh) (v : Value) (h : ShV n w s v) (hL : LenS s) (hh : headOk s = true) :
    Calls Tryz.prog 44 #[v, .int .i64 ((d + 1 : Nat) : Int)] w fun e w' => CntOk (d + 1) s e ∧ Below w.heap.size w w' := by
  obtain ⟨A, c, A', c', rfl, hC, hC'⟩ := h
  have hbx := below_alloc1 w (.cells #[.int .i64 s.kind, .slice A s.lists.length c, .slice A' s.parts.length c'] 25)
  have hkx := blk_new w (.cells #[.int .i64 s.kind, .slice A s.lists.length c, .slice A' s.parts.length c'] 25)
  obtain ⟨m0, m1, m2, n0, n1, n2⟩ := three_facts hkx
  have hd0 : (((d + 1 : Nat) : Int) == 0) = false := by rw [beq_eq_false_iff_ne]; omega
  have hHH := hh
  unfold headOk at hHH
  simp only [Bool.and_eq_true, decide_eq_true_eq] at hHH
  obtain ⟨⟨⟨k1, k7⟩, hll⟩, hpl⟩ := hHH
  have g1 : (s.kind < 1) = False := by simp; omega
  have g2 : (7 < s.kind) = False := by simp; omega
  have g3 : ((40 : Int) < s.lists.length) = False := by simp; omega
  have g4 : ((40 : Int) < s.parts.length) = False := by simp; omega
  obtain ⟨D, hD⟩ : ∃ D : Int, D = ((d + 1 : Nat) : Int) := ⟨_, rfl⟩
  rw [← hD] at hd0 ⊢
  have hD1 : D - 1 = (d : Int) := by omega
  have hDl : D ≤ 4 := by omega
  have hDg : 1 ≤ D := by omega
  have HD := Lib.hid hD
  have HH := Lib.hid hh
  have HBX := Lib.hid hbx
  have HKX := Lib.hid hkx
  have HLL := Lib.hid hL
  clear hD hh hbx hkx
  go_enter Tryz.func44, Tryz.ntmps44
  go_wp2
  go_loopw [7, 43] (fun v7 v43 wr => ∃ j : Nat, v7 = .int .i64 (sumL (s.lists.take j) : Nat) ∧ v43 = .int .i64 j ∧ j ≤ s.lists.length ∧ wr = w.alloc (.cells #[.int .i64 s.kind, .slice A s.lists.length c, .slice A' s.parts.length c'] 25) ∧ sumL (s.lists.take j) ≤ 17592186044416 * j) (fun v7 v43 wr => s.lists.length - (intOf v43).toNat)
  case atStart => exact ⟨0, rfl, rfl, Nat.zero_le _, rfl, Nat.le_refl _⟩
  case round =>
    obtain ⟨j, rfl, rfl, hj, rfl, hsum⟩ := hrel
    by_cases hlt : j < s.lists.length
    · obtain ⟨ad, A2, c2, rfl, q0, hC2⟩ := get_row1 (Kd.C_below hC HBX.out) rfl j hlt
      have hlen := hL.lists _ (List.getElem_mem hlt)
      have hst := sumL_take hlt
      obtain ⟨r, hr⟩ : ∃ r, r = s.lists[j].length := ⟨_, rfl⟩
      rw [← hr] at q0 hlen hst
      obtain ⟨S1, hS1⟩ : ∃ S1, S1 = sumL (s.lists.take j) := ⟨_, rfl⟩
      rw [← hS1] at hsum hst ⊢
      have HST := Lib.hid hst
      clear hr hS1 hst hC2
      go_wp2
      refine ⟨⟨j + 1, ?_, by go_num, by omega, trivial, by rw [HST.out]; omega⟩, by simp [intOf]; omega⟩
      rw [HST.out]
      go_num
    · have e1 : s.lists.take j = s.lists := List.take_of_length_le (by omega)
      rw [e1] at hsum ⊢
      obtain ⟨S1, hS1⟩ : ∃ S1, S1 = sumL s.lists := ⟨_, rfl⟩
      rw [← hS1] at hsum ⊢
      have HS1 := Lib.hid hS1
      clear hS1 e1
      go_wp2
      go_loopw [7, 8, 55] (fun v7 v8 v55 wr => ∃ (i : Nat) (p : Int) (x : Nat × Nat), v7 = .int .i64 p ∧ v8 = .int .i64 ((1 + x.2 : Nat) : Int) ∧ v55 = .int .i64 i ∧ i ≤ s.parts.length ∧ Below w.heap.size w wr ∧ wr.heap[w.heap.size]? = some (.cells #[.int .i64 s.kind, .slice A s.lists.length c, .slice A' s.parts.length c'] 25 (0, 0)) ∧ 1 + x.2 ≤ 1 + i * Bd d ∧ cntF (cnt d) s.kind s.parts = (cntF (cnt d) s.kind (s.parts.drop i)).map (fun y => (x.1 + y.1, x.2 + y.2)) ∧ x.1 ≤ 703687441776640 * x.2 ∧ (1 + x.2 ≤ 40 → p = ((S1 + x.1 : Nat) : Int))) (fun v7 v8 v55 wr => s.parts.length - (intOf v55).toNat)
      case atStart =>
        refine ⟨0, _, (0, 0), rfl, rfl, rfl, Nat.zero_le _, HBX.out, HKX.out, by omega, ?_, by simp, fun _ => rfl⟩
        rw [List.drop_zero]
        cases cntF (cnt d) s.kind s.parts <;> simp
      case round =>
        obtain ⟨i, p, x, rfl, rfl, rfl, hi, hb, hk, hq, hcf, hx1, hpx⟩ := hrel
        have hszr := hb.size
        obtain ⟨m0', m1', m2', n0', n1', n2'⟩ := three_facts hk
        by_cases hlt2 : i < s.parts.length
        · obtain ⟨k2, ad, A2, c2, A3, c3, hn2, rfl, q0, q1, q2, hC2, hC3⟩ := get_sh (Kd.C_below hC' hb) rfl i hlt2
          have hst := cntF_step (cnt d) s.kind hlt2
          have hLp := HLL.out.parts _ (List.getElem_mem hlt2)
          obtain ⟨r, hr⟩ : ∃ r, r = s.parts[i] := ⟨_, rfl⟩
          rw [← hr] at q0 q1 q2 hC2 hC3 hst hLp
          obtain ⟨kr, hkr⟩ : ∃ kr, kr = r.kind := ⟨_, rfl⟩
          obtain ⟨lr, hlr⟩ : ∃ lr, lr = r.lists.length := ⟨_, rfl⟩
          obtain ⟨pr, hpr⟩ : ∃ pr, pr = r.parts.length := ⟨_, rfl⟩
          have hbo := below_alloc1 wr (.cells #[.int .i64 kr, .slice A2 lr c2, .slice A3 pr c3] 25)
          have hcall := ih k2 (wr.alloc (.cells #[.int .i64 kr, .slice A2 lr c2, .slice A3 pr c3] 25)) r _ ⟨A2, c2, A3, c3, rfl, Kd.C_below hC2 hbo, Kd.C_below hC3 hbo⟩ hLp
          rw [← hkr, ← hlr, ← hpr] at hcall
          rw [← hkr] at q0 hst
          rw [← hlr] at q1
          rw [← hpr] at q2
          have HC' := Lib.hid hC'
          have HB := Lib.hid hb
          have HBO := Lib.hid hbo
          have HK := Lib.hid hk
          have HKR := Lib.hid hkr
          have HCF := Lib.hid hcf
          have HST := Lib.hid hst
          have HQ := Lib.hid hq
          have HPX := Lib.hid hpx
          have hkB := blk_new wr (.cells #[.int .i64 kr, .slice A2 lr c2, .slice A3 pr c3] 25)
          have HKB := Lib.hid hkB
          clear hn2 hC2 hC3 hLp hr hkr hlr hpr hC' hb hbo hk hcf hst hpx hkB
          go_wp2_with fail
          refine hcall.mono ?_
          clear hcall
          rintro e w1 ⟨⟨p1, q1n, b1, rfl, hq1, hb1t⟩, hb1⟩
          have HB1 := Lib.hid (below_then HB.out hszr (below_then HBO.out (by simp) hb1))
          have hk1 := blk_below (blk_alloc HK.out (.cells #[.int .i64 kr, .slice A2 lr c2, .slice A3 pr c3] 25)) hb1
          obtain ⟨a0, a1, a2, b0, b1', b2⟩ := three_facts hk1
          have hk2 := blk_below HKB.out hb1
          obtain ⟨a0', a1', a2', b0', b1'', b2'⟩ := three_facts hk2
          have HK1 := Lib.hid hk1
          clear hb1 hk1 hk2
          have hbd : Bd d ≤ 1641 := by
            rcases (by omega : d = 0 ∨ d = 1 ∨ d = 2 ∨ d = 3) with h | h | h | h <;> rw [h] <;> decide
          have hib : i * Bd d ≤ 40 * 1641 := Nat.mul_le_mul (by omega) hbd
          have hx2 : x.2 ≤ 65640 := by have := HQ.out; omega
          cases b1 with
          | false =>
            go_wp2
            refine bodyPost_ret (results_tmp3 rfl _ _ _) rfl ?_
            exact ⟨⟨0, 0, false, rfl, Nat.zero_le _, by simp⟩, HB1.out⟩
          | true =>
            obtain ⟨P, Q, hc1, rfl, hP, hpp⟩ := hb1t rfl
            have HPP := Lib.hid hpp
            have HC1 := Lib.hid hc1
            clear hpp hc1 hb1t
            by_cases hk6 : s.kind = 6 ∧ kr ≠ 3
            · have g5 : (s.kind == 6) = true := by rw [beq_iff_eq]; exact hk6.1
              have g6 : (kr != 3) = true := by simpa using hk6.2
              clear hk6
              go_wp2
              refine bodyPost_ret (results_tmp3 rfl _ _ _) rfl ?_
              exact ⟨⟨0, 0, false, rfl, Nat.zero_le _, by simp⟩, HB1.out⟩
            · have HK6 := Lib.hid hk6
              have hcase : (Aside True ∧ (s.kind == 6) = false) ∨ ((s.kind == 6) = true ∧ (kr != 3) = false) := by
                by_cases e6 : s.kind = 6
                · refine .inr ⟨by rw [beq_iff_eq]; exact e6, ?_⟩
                  have : kr = 3 := Classical.byContradiction fun hc => hk6 ⟨e6, hc⟩
                  rw [this]; rfl
                · exact .inl ⟨trivial, by rw [beq_eq_false_iff_ne]; exact e6⟩
              have HFIN := Lib.hid (show ∃ (i' : Nat) (p' : Int) (x' : Nat × Nat), Value.int .i64 (wrap64 (p + p1)) = Value.int .i64 p' ∧ Value.int .i64 (((1 + x.2 : Nat) : Int) + (q1n : Int)) = Value.int .i64 ((1 + x'.2 : Nat) : Int) ∧ Value.int .i64 ((i : Int) + 1) = Value.int .i64 i' ∧ i' ≤ s.parts.length ∧ 1 + x'.2 ≤ 1 + i' * Bd d ∧ cntF (cnt d) s.kind s.parts = (cntF (cnt d) s.kind (s.parts.drop i')).map (fun y => (x'.1 + y.1, x'.2 + y.2)) ∧ x'.1 ≤ 703687441776640 * x'.2 ∧ (1 + x'.2 ≤ 40 → p' = ((S1 + x'.1 : Nat) : Int)) ∧ i' = i + 1 by
                refine ⟨i + 1, wrap64 (p + p1), (x.1 + P, x.2 + q1n), rfl, by congr 1; omega, by congr 1, by omega, ?_, ?_, by simp; omega, ?_, rfl⟩
                · have := HQ.out
                  rw [Nat.succ_mul]
                  simp only
                  omega
                · have h1 := HCF.out
                  have h2 := HST.out
                  rw [HC1.out] at h2
                  simp only at h2
                  rw [if_neg HK6.out] at h2
                  rw [h1, h2, Option.map_map]
                  congr 1
                  funext y
                  simp only [Function.comp_def, Nat.add_assoc]
                · intro h40
                  simp only at h40 ⊢
                  have h1 := HPX.out (by omega)
                  have h2 := HPP.out (by omega)
                  rw [h1, h2]
                  unfold wrap64
                  omega)
              clear hk6 HK6
              rcases hcase with ⟨-, g5⟩ | ⟨g5, g6⟩
              all_goals
                go_wp2
                obtain ⟨i', p', x', e1, e2, e3, e4, e5, e6, e7, e8, e9⟩ := HFIN.out
                refine ⟨⟨i', p', x', e1, (congrArg (Value.int .i64) (by omega)).trans e2, (congrArg (Value.int .i64) (by omega)).trans e3, e4, HB1.out, HK1.out, e5, e6, e7, e8⟩, by simp [intOf]; omega⟩
        · have hbd : Bd d ≤ 1641 := by
            rcases (by omega : d = 0 ∨ d = 1 ∨ d = 2 ∨ d = 3) with h | h | h | h <;> rw [h] <;> decide
          have hib : i * Bd d ≤ 40 * Bd d := Nat.mul_le_mul_right _ (by omega)
          have e2 : s.parts.drop i = [] := List.drop_eq_nil_of_le (by omega)
          rw [e2, cntF] at hcf
          have hgood : formS s = true → cnt (d + 1) s = some (S1 + x.1, 1 + x.2) := by
            intro hf
            rw [cnt, if_pos HH.out, hcf]
            simp only [Option.map_some, Option.bind_some, if_pos hf, HS1.out, Nat.add_zero]
          have FIN := Lib.hid (show ∀ b : Bool, (b = true → formS s = true) → CntOk (d + 1) s (.returned (.tuple #[.int .i64 p, .int .i64 (1 + (x.2 : Int)), .bool b])) from fun b hf =>
            ⟨p, 1 + x.2, b, by congr 4, by unfold Bd; omega, fun hb => ⟨S1 + x.1, 1 + x.2, hgood (hf hb), rfl, by omega, hpx⟩⟩)
          have HB := Lib.hid hb
          clear e2 hcf hgood hpx hq hb hC'
          have hk : s.kind = 1 ∨ s.kind = 2 ∨ s.kind = 3 ∨ s.kind = 4 ∨ s.kind = 5 ∨ 6 ≤ s.kind := by omega
          rcases hk with hk | hk | hk | hk | hk | hk
          · have f1 : (s.kind == 1) = true := by rw [beq_iff_eq]; omega
            have f2 : (s.kind == 2) = false := by rw [beq_eq_false_iff_ne]; omega
            have f3 : (s.kind == 3) = false := by rw [beq_eq_false_iff_ne]; omega
            have f4 : (s.kind == 4) = false := by rw [beq_eq_false_iff_ne]; omega
            have f5 : (s.kind == 5) = false := by rw [beq_eq_false_iff_ne]; omega
            by_cases h1 : s.lists.length = 1
            · have f6 : ((s.lists.length : Int) == 1) = true := by rw [beq_iff_eq]; omega
              obtain ⟨ad, A2, c2, rfl, q0', -⟩ := get_row1 (Kd.C_below hC HB.out) rfl 0 (by omega)
              rw [add0'] at q0'
              have hhd : s.lists.headD [] = s.lists[0]'(by omega) := headD_get _ (by omega)
              obtain ⟨m, hm⟩ : ∃ m, m = (s.lists[0]'(by omega)).length := ⟨_, rfl⟩
              rw [← hm] at q0'
              by_cases h2 : m = 1
              · have f7 : ((m : Int) == 1) = true := by rw [beq_iff_eq]; omega
                have HM := Lib.hid hm
                clear hm
                go_wp2_with fail
                go_quiet (fail)
                go_wp2
                refine bodyPost_ret (results_tmp3 rfl _ _ _) rfl ?_
                refine ⟨FIN.out _ ?_, HB.out.trans (by first | exact (below_drewN _ _).mono (by omega) | exact Below.refl _ _)⟩
                intro hb
                unfold formS
                rw [if_pos (by omega)]
                simp only [Bool.and_eq_true, decide_eq_true_eq]
                exact ⟨⟨h1, by rw [hhd, ← HM.out]; exact h2⟩, by simpa using hb⟩
              · have f7 : ((m : Int) == 1) = false := by rw [beq_eq_false_iff_ne]; omega
                clear hm
                go_wp2_with fail
                go_quiet (fail)
                go_wp2
                refine bodyPost_ret (results_tmp3 rfl _ _ _) rfl ?_
                refine ⟨FIN.out _ ?_, HB.out.trans (by first | exact (below_drewN _ _).mono (by omega) | exact Below.refl _ _)⟩
                intro hb
                simp at hb
            · have f6 : ((s.lists.length : Int) == 1) = false := by rw [beq_eq_false_iff_ne]; omega
              go_wp2_with fail
              go_quiet (fail)
              go_wp2
              refine bodyPost_ret (results_tmp3 rfl _ _ _) rfl ?_
              refine ⟨FIN.out _ ?_, HB.out.trans (by first | exact (below_drewN _ _).mono (by omega) | exact Below.refl _ _)⟩
              intro hb
              simp at hb
          · have f1 : (s.kind == 1) = false := by rw [beq_eq_false_iff_ne]; omega
            have f2 : (s.kind == 2) = true := by rw [beq_iff_eq]; omega
            have f3 : (s.kind == 3) = false := by rw [beq_eq_false_iff_ne]; omega
            have f4 : (s.kind == 4) = false := by rw [beq_eq_false_iff_ne]; omega
            have f5 : (s.kind == 5) = false := by rw [beq_eq_false_iff_ne]; omega
            by_cases h1 : s.lists.length = 1
            · have f6 : ((s.lists.length : Int) == 1) = true := by rw [beq_iff_eq]; omega
              go_wp2_with fail
              go_quiet (fail)
              go_wp2
              refine bodyPost_ret (results_tmp3 rfl _ _ _) rfl ?_
              refine ⟨FIN.out _ ?_, HB.out.trans (by first | exact (below_drewN _ _).mono (by omega) | exact Below.refl _ _)⟩
              intro hb
              unfold formS
              rw [if_neg (by omega), if_pos (by omega)]
              simp only [Bool.and_eq_true, decide_eq_true_eq]
              exact ⟨h1, by simpa using hb⟩
            · have f6 : ((s.lists.length : Int) == 1) = false := by rw [beq_eq_false_iff_ne]; omega
              go_wp2_with fail
              go_quiet (fail)
              go_wp2
              refine bodyPost_ret (results_tmp3 rfl _ _ _) rfl ?_
              refine ⟨FIN.out _ ?_, HB.out.trans (by first | exact (below_drewN _ _).mono (by omega) | exact Below.refl _ _)⟩
              intro hb
              simp at hb
          · have f1 : (s.kind == 1) = false := by rw [beq_eq_false_iff_ne]; omega
            have f2 : (s.kind == 2) = false := by rw [beq_eq_false_iff_ne]; omega
            have f3 : (s.kind == 3) = true := by rw [beq_iff_eq]; omega
            have f4 : (s.kind == 4) = false := by rw [beq_eq_false_iff_ne]; omega
            have f5 : (s.kind == 5) = false := by rw [beq_eq_false_iff_ne]; omega
            go_wp2_with fail
            go_quiet (fail)
            go_wp2
            refine bodyPost_ret (results_tmp3 rfl _ _ _) rfl ?_
            refine ⟨FIN.out _ ?_, HB.out.trans (by first | exact (below_drewN _ _).mono (by omega) | exact Below.refl _ _)⟩
            intro hb
            unfold formS
            rw [if_neg (by omega), if_neg (by omega), if_pos (by omega)]
            simpa using hb
          · have f1 : (s.kind == 1) = false := by rw [beq_eq_false_iff_ne]; omega
            have f2 : (s.kind == 2) = false := by rw [beq_eq_false_iff_ne]; omega
            have f3 : (s.kind == 3) = false := by rw [beq_eq_false_iff_ne]; omega
            have f4 : (s.kind == 4) = true := by rw [beq_iff_eq]; omega
            have f5 : (s.kind == 5) = false := by rw [beq_eq_false_iff_ne]; omega
            by_cases h1 : s.lists.length = 1
            · have f6 : ((s.lists.length : Int) == 1) = true := by rw [beq_iff_eq]; omega
              go_wp2_with fail
              go_quiet (fail)
              go_wp2
              refine bodyPost_ret (results_tmp3 rfl _ _ _) rfl ?_
              refine ⟨FIN.out _ ?_, HB.out.trans (by first | exact (below_drewN _ _).mono (by omega) | exact Below.refl _ _)⟩
              intro hb
              unfold formS
              rw [if_neg (by omega), if_pos (by omega)]
              simp only [Bool.and_eq_true, decide_eq_true_eq]
              exact ⟨h1, by simpa using hb⟩
            · have f6 : ((s.lists.length : Int) == 1) = false := by rw [beq_eq_false_iff_ne]; omega
              go_wp2_with fail
              go_quiet (fail)
              go_wp2
              refine bodyPost_ret (results_tmp3 rfl _ _ _) rfl ?_
              refine ⟨FIN.out _ ?_, HB.out.trans (by first | exact (below_drewN _ _).mono (by omega) | exact Below.refl _ _)⟩
              intro hb
              simp at hb
          · have f1 : (s.kind == 1) = false := by rw [beq_eq_false_iff_ne]; omega
            have f2 : (s.kind == 2) = false := by rw [beq_eq_false_iff_ne]; omega
            have f3 : (s.kind == 3) = false := by rw [beq_eq_false_iff_ne]; omega
            have f4 : (s.kind == 4) = false := by rw [beq_eq_false_iff_ne]; omega
            have f5 : (s.kind == 5) = true := by rw [beq_iff_eq]; omega
            go_wp2_with fail
            go_quiet (fail)
            go_wp2
            refine bodyPost_ret (results_tmp3 rfl _ _ _) rfl ?_
            refine ⟨FIN.out _ ?_, HB.out.trans (by first | exact (below_drewN _ _).mono (by omega) | exact Below.refl _ _)⟩
            intro hb
            unfold formS
            rw [if_neg (by omega), if_neg (by omega), if_pos (by omega)]
            simpa using hb
          · have f1 : (s.kind == 1) = false := by rw [beq_eq_false_iff_ne]; omega
            have f2 : (s.kind == 2) = false := by rw [beq_eq_false_iff_ne]; omega
            have f3 : (s.kind == 3) = false := by rw [beq_eq_false_iff_ne]; omega
            have f4 : (s.kind == 4) = false := by rw [beq_eq_false_iff_ne]; omega
            have f5 : (s.kind == 5) = false := by rw [beq_eq_false_iff_ne]; omega
            go_wp2_with fail
            go_quiet (fail)
            go_wp2
            refine bodyPost_ret (results_tmp3 rfl _ _ _) rfl ?_
            refine ⟨FIN.out _ ?_, HB.out.trans (by first | exact (below_drewN _ _).mono (by omega) | exact Below.refl _ _)⟩
            intro hb
            unfold formS
            rw [if_neg (by omega), if_neg (by omega), if_neg (by omega)]
            simpa using hb

/-- counted. -/
theorem counted_any : ∀ (d : Nat), d ≤ 4 → ∀ (n : Nat) (w : World) (s : Sh) (v : Value), ShV n w s v → LenS s → Calls Tryz.prog 44 #[v, .int .i64 (d : Int)] w fun e w' => CntOk d s e ∧ Below w.heap.size w w'
  | 0, _, n, w, s, v, h, hL => cnt_zero n w s v h
  | d + 1, hd, n, w, s, v, h, hL => by
    have ih := counted_any d (by omega)
    cases hh : headOk s with
    | false => exact cnt_bad n d (by omega) w s v h hh
    | true => exact cnt_good n d (by omega) ih w s v h hL hh

set_option maxRecDepth 20000 in
set_option maxHeartbeats 1000000 in
/-- IsShape. -/
theorem isShape_any (n : Nat) (w : World) (s : Sh) (v : Value) (h : ShV n w s v) (hL : LenS s) :
    Calls Tryz.prog 21 #[v] w fun e w' => ∃ b, e = .returned (.bool b) ∧ Below w.heap.size w w' ∧ (b = true → ∃ P Q, cnt 4 s = some (P, Q) ∧ P ≤ 300 ∧ Q ≤ 40) := by
  have hv := h
  obtain ⟨A, c, A', c', rfl, hC, hC'⟩ := hv
  obtain ⟨k, hk⟩ : ∃ k, k = s.kind := ⟨_, rfl⟩
  obtain ⟨l, hll⟩ : ∃ l, l = s.lists.length := ⟨_, rfl⟩
  obtain ⟨p, hp⟩ : ∃ p, p = s.parts.length := ⟨_, rfl⟩
  rw [← hk, ← hll, ← hp] at h ⊢
  have hb0 := below_alloc1 w (.cells #[.int .i64 k, .slice A l c, .slice A' p c'] 25)
  have hcall := counted_any 4 (by omega) n _ s _ (h.below hb0) hL
  obtain ⟨m0, m1, m2, n0, n1, n2⟩ := three_facts (blk_new w (.cells #[.int .i64 k, .slice A l c, .slice A' p c'] 25))
  have HB0 := Lib.hid hb0
  clear hb0 hC hC' h hk hll hp
  go_enter Tryz.func21, Tryz.ntmps21
  go_wp2_with fail
  refine hcall.mono ?_
  clear hcall
  rintro e w1 ⟨⟨P, Q, b, rfl, hq, hb⟩, hb1⟩
  have HB1 := Lib.hid (below_then HB0.out (by simp) hb1)
  clear hb1
  cases b with
  | false =>
    clear hb
    go_wp2
    go_ret
    exact ⟨_, rfl, HB1.out, by simp⟩
  | true =>
    obtain ⟨P', Q', h1, rfl, h2, h3⟩ := hb rfl
    have HX := Lib.hid h1
    have H3 := Lib.hid h3
    clear hb h1 h3
    by_cases h4 : P ≤ 300
    · by_cases h5 : Q ≤ 40
      · have g1 : (P ≤ 300) = True := by simpa using h4
        have g2 : ((Q : Int) ≤ 40) = True := by simp; omega
        go_wp2
        go_ret
        exact ⟨_, rfl, HB1.out, fun _ => ⟨P', Q, HX.out, by have := H3.out h5; omega, h5⟩⟩
      · have g1 : (P ≤ 300) = True := by simpa using h4
        have g2 : ((Q : Int) ≤ 40) = False := by simp; omega
        go_wp2
        go_ret
        exact ⟨_, rfl, HB1.out, by simp⟩
    · have g1 : (P ≤ 300) = False := by simpa using h4
      go_wp2
      go_ret
      exact ⟨_, rfl, HB1.out, by simp⟩
end Go.Proofs.YtghajgdiaopioaaGreatDoor
end
