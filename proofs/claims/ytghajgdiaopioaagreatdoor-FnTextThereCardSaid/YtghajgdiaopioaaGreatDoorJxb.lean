/- Walks and plain laws joined (Yd, Ye, Yf, Yg). Conditions: stand in each law. -/
import Derived.Test.YtghajgdiaopioaaGreatDoorJxa
set_option linter.unusedVariables false
set_option linter.unusedSimpArgs false
section
/- Walks: wkt, a kind with a loop over rows. Conditions: stand in each contract. -/
namespace Go.Proofs.YtghajgdiaopioaaGreatDoor
open Go.RowKit Go.Proofs Tx
open Go.Proofs.YtghajgdiaopioaaGreatDoorW.PrintWords
set_option maxRecDepth 40000 in
set_option maxHeartbeats 2000000 in
theorem wk_mline {nf : Nat → Bs} {q : Nat → Prop} (hN : NumF nf q) (w0 w : World) (b : Nat) (bs : Bs) (A : Option Addr) (c : Nat) (ls : List (List Pt)) (hC : lineK.C w0 A ls.length ls) (h0 : ls ≠ []) (hq : ∀ r ∈ ls, ∀ p ∈ r, q p.1 ∧ q p.2)
    (hb : Below w0.heap.size w0 w) (hbuf : BufB w0.heap.size b bs w) (hT : Tb w0) (h22 : 22 < w0.heap.size) (hl : bs.length + 100 * (wtL ls + 1) ≤ 900000000) :
    Calls Tryz.prog 66 #[.pointer (some ⟨b, 0, none⟩), .iface 76 (.slice A ls.length c)] w fun e w' => WkOk w0 b bs (word 5 ++ ringsT nf [] ls) e w' := by
  have hn : ((ls.length : Int) == 0) = false := by
    rw [beq_eq_false_iff_ne]
    intro h
    exact h0 (List.eq_nil_of_length_eq_zero (by omega))
  have hlen0 : ls.length ≤ 900000000 := by rw [wtL_eq] at hl; omega
  have hszr := hb.size
  have HB := Lib.hid hb
  have HU := Lib.hid hbuf
  clear hb hbuf h0
  go_enter Tryz.func66, Tryz.ntmps66
  go_wp2_with fail
  refine (buf_lit (word 5 ++ [40]) _ _ _ _ HU.out hszr (by rfl) (by kernel_rfl) (by omega) (by decide)).mono ?_
  rintro e w1 ⟨y1, rfl, hu1, hb1⟩
  have HU1 := Lib.hid hu1
  have HB1 := Lib.hid (HB.out.trans hb1)
  have HBND := Lib.hid (show ∀ a ∈ ls, (ptsT nf [] a).length + 1 ≤ 100 * (a.length + 1) from fun a ha => by
    have := pts_len (nf := nf) (sp := []) (by simp) (ps := a) (fun p hp => ⟨hN.short _ (hq a ha p hp).1, hN.short _ (hq a ha p hp).2⟩)
    omega)
  have hsum : (ls.map fun a => 100 * (a.length + 1)).sum = 100 * wtL ls := sum_mul 100 (fun r : List Pt => r.length + 1) ls
  clear hu1 hb1
  go_wp2
  go_loopw [116] (fun vi wr => ∃ j : Nat, vi = .int .i64 j ∧ j ≤ ls.length ∧ BufB w0.heap.size b (bs ++ (word 5 ++ [40]) ++ joinS [44] ((ls.take j).map (ptsT nf []))) wr ∧ Below w0.heap.size w0 wr) (fun vi wr => ls.length - (intOf vi).toNat)
  case atStart => exact ⟨0, rfl, Nat.zero_le _, by simpa [joinS] using HU1.out, HB1.out⟩
  case round =>
    obtain ⟨j, rfl, hj, hbuf, hb⟩ := hrel
    by_cases hlt : j < ls.length
    · obtain ⟨ad, A2, c2, rfl, q0', hC2⟩ := get_row2 hC rfl j hlt
      have q0 := cell_kept q0' hb
      have hq2 := hq ls[j] (List.getElem_mem hlt)
      have hpre := pre_join (ptsT nf []) (fun a => 100 * (a.length + 1)) HBND.out hlt
      rw [hsum] at hpre
      have hsn := take_snoc hlt
      obtain ⟨r, hr⟩ : ∃ r, r = ls[j] := ⟨_, rfl⟩
      rw [← hr] at q0 hC2 hq2 hpre hsn
      have hwl : (word 5).length ≤ 20 := (word_lim 5).1
      have hlen : (bs ++ (word 5 ++ [40]) ++ joinS [44] ((ls.take j).map (ptsT nf []))).length + 100 * (r.length + 1) ≤ bs.length + 21 + 100 * wtL ls := by
        simp only [List.length_append, List.length_cons, List.length_nil]
        omega
      obtain ⟨l, hll⟩ : ∃ l, l = bs ++ (word 5 ++ [40]) ++ joinS [44] ((ls.take j).map (ptsT nf [])) := ⟨_, rfl⟩
      rw [← hll] at hlen hbuf
      have hlast : (Aside (j = 0) ∧ ((j : Int) != 0) = false) ∨ (Aside (0 < j) ∧ ((j : Int) != 0) = true) := by
        rcases Nat.eq_zero_or_pos j with h | h
        · exact .inl ⟨h, by rw [h]; rfl⟩
        · exact .inr ⟨h, by simp; omega⟩
      have HC := Lib.hid hC
      have HL := Lib.hid hll
      have HS := Lib.hid hsn
      have HU := Lib.hid hbuf
      have HB2 := Lib.hid hb
      have hszr2 := hb.size
      clear hC hll hsn hbuf hb hq hr q0' hpre
      rcases hlast with ⟨ha, h0⟩ | ⟨ha, h0⟩
      · have hcall := wls_any hN w0 wr b l A2 c2 r hC2 hq2 HB2.out HU.out hT h22 (by omega)
        clear hC2 hq2
        go_wp2_with fail
        refine hcall.mono ?_
        clear hcall
        rintro e w2 ⟨rfl, hu2, hb2⟩
        have HU2 := Lib.hid hu2
        have HB3 := Lib.hid hb2
        clear hu2 hb2
        go_wp2
        exact ⟨⟨j + 1, by go_num, by omega, by rw [HS.out, List.map_append]; show BufB _ _ (_ ++ joinS [44] (_ ++ [ptsT nf [] r])) _; rw [joinS_snoc, if_pos (by rw [ha.out]; rfl)]; have h7 := HL.out; rw [ha.out] at h7; have h8 := HU2.out; rw [h7] at h8; simpa [joinS] using h8, HB3.out⟩, by simp [intOf]; omega⟩
      · go_wp2_with fail
        refine (buf_byte 44 44 rfl HU.out hszr2 (by omega)).mono ?_
        rintro e wc ⟨rfl, huc, hbc, -⟩
        have hcall := wls_any hN w0 wc b (l ++ [44]) A2 c2 r hC2 hq2 (HB2.out.trans hbc) huc hT h22 (by simp; omega)
        clear hC2 hq2 huc hbc
        go_wp2_with fail
        refine hcall.mono ?_
        clear hcall
        rintro e w2 ⟨rfl, hu2, hb2⟩
        have HU2 := Lib.hid hu2
        have HB3 := Lib.hid hb2
        clear hu2 hb2
        go_wp2
        exact ⟨⟨j + 1, by go_num, by omega, by rw [HS.out, List.map_append]; show BufB _ _ (_ ++ joinS [44] (_ ++ [ptsT nf [] r])) _; rw [joinS_snoc, if_neg (by have := ha.out; intro h0; have h9 : ((ls.take j).map (ptsT nf [])).length = 0 := by { rw [h0]; rfl }; rw [List.length_map, List.length_take] at h9; omega)]; have h7 := HL.out; have h8 := HU2.out; rw [h7] at h8; simpa using h8, HB3.out⟩, by simp [intOf]; omega⟩
    · have e1 : ls.take j = ls := List.take_of_length_le (by omega)
      rw [e1] at hbuf
      have hall := all_join (ptsT nf []) (fun a => 100 * (a.length + 1)) HBND.out
      rw [hsum] at hall
      have hwl : (word 5).length ≤ 20 := (word_lim 5).1
      have hc41 := buf_byte 41 41 rfl hbuf hb.size (by simp only [List.length_append, List.length_cons, List.length_nil]; omega)
      have HB2 := Lib.hid hb
      clear hbuf hb hC hq e1 hall
      go_wp2_with fail
      refine hc41.mono ?_
      clear hc41
      rintro e w2 ⟨rfl, hbuf2, hb2, -⟩
      have HU2 := Lib.hid hbuf2
      have HB3 := Lib.hid (HB2.out.trans hb2)
      clear hbuf2 hb2
      go_wp2
      go_end0
      exact ⟨rfl, by simpa [ringsT, br] using HU2.out, HB3.out⟩
/-! Walks: wkt, a kind with a loop over rows. -/
set_option maxRecDepth 40000 in
set_option maxHeartbeats 2000000 in
theorem wk_poly {nf : Nat → Bs} {q : Nat → Prop} (hN : NumF nf q) (w0 w : World) (b : Nat) (bs : Bs) (A : Option Addr) (c : Nat) (ls : List (List Pt)) (hC : lineK.C w0 A ls.length ls) (h0 : ls ≠ []) (hq : ∀ r ∈ ls, ∀ p ∈ r, q p.1 ∧ q p.2)
    (hb : Below w0.heap.size w0 w) (hbuf : BufB w0.heap.size b bs w) (hT : Tb w0) (h22 : 22 < w0.heap.size) (hl : bs.length + 100 * (wtL ls + 1) ≤ 900000000) :
    Calls Tryz.prog 66 #[.pointer (some ⟨b, 0, none⟩), .iface 69 (.slice A ls.length c)] w fun e w' => WkOk w0 b bs (word 3 ++ ringsT nf [] ls) e w' := by
  have hn : ((ls.length : Int) == 0) = false := by
    rw [beq_eq_false_iff_ne]
    intro h
    exact h0 (List.eq_nil_of_length_eq_zero (by omega))
  have hlen0 : ls.length ≤ 900000000 := by rw [wtL_eq] at hl; omega
  have hszr := hb.size
  have HB := Lib.hid hb
  have HU := Lib.hid hbuf
  clear hb hbuf h0
  go_enter Tryz.func66, Tryz.ntmps66
  go_wp2_with fail
  refine (buf_lit (word 3 ++ [40]) _ _ _ _ HU.out hszr (by rfl) (by kernel_rfl) (by omega) (by decide)).mono ?_
  rintro e w1 ⟨y1, rfl, hu1, hb1⟩
  have HU1 := Lib.hid hu1
  have HB1 := Lib.hid (HB.out.trans hb1)
  have HBND := Lib.hid (show ∀ a ∈ ls, (ptsT nf [] a).length + 1 ≤ 100 * (a.length + 1) from fun a ha => by
    have := pts_len (nf := nf) (sp := []) (by simp) (ps := a) (fun p hp => ⟨hN.short _ (hq a ha p hp).1, hN.short _ (hq a ha p hp).2⟩)
    omega)
  have hsum : (ls.map fun a => 100 * (a.length + 1)).sum = 100 * wtL ls := sum_mul 100 (fun r : List Pt => r.length + 1) ls
  clear hu1 hb1
  go_wp2
  go_loopw [155] (fun vi wr => ∃ j : Nat, vi = .int .i64 j ∧ j ≤ ls.length ∧ BufB w0.heap.size b (bs ++ (word 3 ++ [40]) ++ joinS [44] ((ls.take j).map (ptsT nf []))) wr ∧ Below w0.heap.size w0 wr) (fun vi wr => ls.length - (intOf vi).toNat)
  case atStart => exact ⟨0, rfl, Nat.zero_le _, by simpa [joinS] using HU1.out, HB1.out⟩
  case round =>
    obtain ⟨j, rfl, hj, hbuf, hb⟩ := hrel
    by_cases hlt : j < ls.length
    · obtain ⟨ad, A2, c2, rfl, q0', hC2⟩ := get_row2 hC rfl j hlt
      have q0 := cell_kept q0' hb
      have hq2 := hq ls[j] (List.getElem_mem hlt)
      have hpre := pre_join (ptsT nf []) (fun a => 100 * (a.length + 1)) HBND.out hlt
      rw [hsum] at hpre
      have hsn := take_snoc hlt
      obtain ⟨r, hr⟩ : ∃ r, r = ls[j] := ⟨_, rfl⟩
      rw [← hr] at q0 hC2 hq2 hpre hsn
      have hwl : (word 3).length ≤ 20 := (word_lim 3).1
      have hlen : (bs ++ (word 3 ++ [40]) ++ joinS [44] ((ls.take j).map (ptsT nf []))).length + 100 * (r.length + 1) ≤ bs.length + 21 + 100 * wtL ls := by
        simp only [List.length_append, List.length_cons, List.length_nil]
        omega
      obtain ⟨l, hll⟩ : ∃ l, l = bs ++ (word 3 ++ [40]) ++ joinS [44] ((ls.take j).map (ptsT nf [])) := ⟨_, rfl⟩
      rw [← hll] at hlen hbuf
      have hlast : (Aside (j = 0) ∧ ((j : Int) != 0) = false) ∨ (Aside (0 < j) ∧ ((j : Int) != 0) = true) := by
        rcases Nat.eq_zero_or_pos j with h | h
        · exact .inl ⟨h, by rw [h]; rfl⟩
        · exact .inr ⟨h, by simp; omega⟩
      have HC := Lib.hid hC
      have HL := Lib.hid hll
      have HS := Lib.hid hsn
      have HU := Lib.hid hbuf
      have HB2 := Lib.hid hb
      have hszr2 := hb.size
      clear hC hll hsn hbuf hb hq hr q0' hpre
      rcases hlast with ⟨ha, h0⟩ | ⟨ha, h0⟩
      · have hcall := wls_any hN w0 wr b l A2 c2 r hC2 hq2 HB2.out HU.out hT h22 (by omega)
        clear hC2 hq2
        go_wp2_with fail
        refine hcall.mono ?_
        clear hcall
        rintro e w2 ⟨rfl, hu2, hb2⟩
        have HU2 := Lib.hid hu2
        have HB3 := Lib.hid hb2
        clear hu2 hb2
        go_wp2
        exact ⟨⟨j + 1, by go_num, by omega, by rw [HS.out, List.map_append]; show BufB _ _ (_ ++ joinS [44] (_ ++ [ptsT nf [] r])) _; rw [joinS_snoc, if_pos (by rw [ha.out]; rfl)]; have h7 := HL.out; rw [ha.out] at h7; have h8 := HU2.out; rw [h7] at h8; simpa [joinS] using h8, HB3.out⟩, by simp [intOf]; omega⟩
      · go_wp2_with fail
        refine (buf_byte 44 44 rfl HU.out hszr2 (by omega)).mono ?_
        rintro e wc ⟨rfl, huc, hbc, -⟩
        have hcall := wls_any hN w0 wc b (l ++ [44]) A2 c2 r hC2 hq2 (HB2.out.trans hbc) huc hT h22 (by simp; omega)
        clear hC2 hq2 huc hbc
        go_wp2_with fail
        refine hcall.mono ?_
        clear hcall
        rintro e w2 ⟨rfl, hu2, hb2⟩
        have HU2 := Lib.hid hu2
        have HB3 := Lib.hid hb2
        clear hu2 hb2
        go_wp2
        exact ⟨⟨j + 1, by go_num, by omega, by rw [HS.out, List.map_append]; show BufB _ _ (_ ++ joinS [44] (_ ++ [ptsT nf [] r])) _; rw [joinS_snoc, if_neg (by have := ha.out; intro h0; have h9 : ((ls.take j).map (ptsT nf [])).length = 0 := by { rw [h0]; rfl }; rw [List.length_map, List.length_take] at h9; omega)]; have h7 := HL.out; have h8 := HU2.out; rw [h7] at h8; simpa using h8, HB3.out⟩, by simp [intOf]; omega⟩
    · have e1 : ls.take j = ls := List.take_of_length_le (by omega)
      rw [e1] at hbuf
      have hall := all_join (ptsT nf []) (fun a => 100 * (a.length + 1)) HBND.out
      rw [hsum] at hall
      have hwl : (word 3).length ≤ 20 := (word_lim 3).1
      have hc41 := buf_byte 41 41 rfl hbuf hb.size (by simp only [List.length_append, List.length_cons, List.length_nil]; omega)
      have HB2 := Lib.hid hb
      clear hbuf hb hC hq e1 hall
      go_wp2_with fail
      refine hc41.mono ?_
      clear hc41
      rintro e w2 ⟨rfl, hbuf2, hb2, -⟩
      have HU2 := Lib.hid hbuf2
      have HB3 := Lib.hid (HB2.out.trans hb2)
      clear hbuf2 hb2
      go_wp2
      go_end0
      exact ⟨rfl, by simpa [ringsT, br] using HU2.out, HB3.out⟩
/-! Walks: wkt, a kind with a loop over rows. -/
set_option maxRecDepth 40000 in
set_option maxHeartbeats 2000000 in
theorem wk_point {nf : Nat → Bs} {q : Nat → Prop} (hN : NumF nf q) (w0 w : World) (b : Nat) (bs : Bs) (x y : Nat) (hq : q x ∧ q y)
    (hb : Below w0.heap.size w0 w) (hbuf : BufB w0.heap.size b bs w) (hT : Tb w0) (h22 : 22 < w0.heap.size) (hl : bs.length + 200 ≤ 900000000) :
    Calls Tryz.prog 66 #[.pointer (some ⟨b, 0, none⟩), .iface 61 (.agg #[.float .f64 x, .float .f64 y])] w fun e w' => WkOk w0 b bs (word 1 ++ br (ptT nf (x, y))) e w' := by
  have hszr := hb.size
  have HB := Lib.hid hb
  have HU := Lib.hid hbuf
  have HQ := Lib.hid hq
  clear hb hbuf hq
  go_enter Tryz.func66, Tryz.ntmps66
  go_wp2_with fail
  have hm : Mid w0.heap.size b bs w0 w.heap.size x y (w.alloc (.cells #[.float .f64 x, .float .f64 y] 61)).drew :=
    Mid.drew ⟨blk_new _ _, HU.out.alloc _, hT.below (HB.out.alloc hszr _) h22, h22, by simp; omega, HB.out.alloc hszr _⟩
  have c1 := Mid.num hN hm x HQ.out.1
  have g1 := hN.short _ HQ.out.1
  have g2 := hN.short _ HQ.out.2
  have hs5 : (word 1 ++ br (ptT nf (x, y))).length ≤ 1000000000 := by simp only [br, ptT, word, List.length_append, List.length_cons, List.length_nil]; omega
  have k1 : (9223372036854775807 < 6 + (nf x).length) = False := by simp; omega
  have k1' : (9223372036854775807 < (nf x).length + 6) = False := by simp; omega
  have k1'' : (9223372036854775807 < (nf x).length + 1 + 1 + 1 + 1 + 1 + 1) = False := by simp; omega
  have k2 : (9223372036854775807 < (nf x).length + 1 + 6) = False := by simp; omega
  have k2' : (9223372036854775807 < (nf x).length + 1 + 1 + 1 + 1 + 1 + 1 + 1) = False := by simp; omega
  have k3 : (9223372036854775807 < (nf x).length + 1 + 1 + 1 + 1 + 1 + 1 + 1 + (nf y).length) = False := by simp; omega
  have k4 : (9223372036854775807 < (nf x).length + ((nf y).length + 1) + 1 + 1 + 1 + 1 + 1 + 1) = False := by simp; omega
  have k5 : (9223372036854775807 < (nf x).length + ((nf y).length + 1) + 1 + 1 + 1 + 1 + 1 + 1 + 1) = False := by simp; omega
  have k6 : (9223372036854775807 < (nf x).length + ((nf y).length + 1 + 1) + 1 + 1 + 1 + 1 + 1 + 1) = False := by simp; omega
  have e0 := blk_cell hm.box 0
  have e1 := blk_cell hm.box 1
  go_region_law (first
    | (refine step_call rfl 96 (.tmp 33) _ rfl call96 (.float .f64 x) (by simp [Act.eval, Act.put]) c1 ?_
       rintro v2 w2 ⟨rfl, hm2, hx2, hy2⟩)
    | (refine step_call rfl 96 (.tmp 38) _ rfl call96 (.float .f64 y) (by simp [Act.eval, Act.put]) (Mid.num hN hm2.out y HQ.out.2) ?_
       rintro v3 w3 ⟨rfl, hm3, hx3, hy3⟩)
    | (refine step_call2 rfl 95 (.tmp 31) (.tmp 41) _ rfl call95 _ (S (word 1 ++ br (ptT nf (x, y)))) (by simp [Act.eval, Act.put]) (by simp [Act.eval, Act.put, ptT, word, br]) (Mid.str hm3.out (word 1 ++ br (ptT nf (x, y))) (by omega) hs5) ?_
       rintro v4 w4 ⟨hu4, hb4⟩
       have HU4 := Lib.hid hu4
       have HB4 := Lib.hid hb4
       clear hu4 hb4))
  all_goals go_wp2
  all_goals go_end0
  all_goals exact ⟨rfl, HU4.out, HB4.out⟩
/-! Walks: wkt, a kind with a loop over rows. -/
set_option maxRecDepth 40000 in
set_option maxHeartbeats 2000000 in
theorem wk_mpoint {nf : Nat → Bs} {q : Nat → Prop} (hN : NumF nf q) (w0 w : World) (b : Nat) (bs : Bs) (A : Option Addr) (c : Nat) (ps : List Pt) (hC : ptK.C w0 A ps.length ps) (h0 : ps ≠ []) (hq : ∀ p ∈ ps, q p.1 ∧ q p.2)
    (hb : Below w0.heap.size w0 w) (hbuf : BufB w0.heap.size b bs w) (hT : Tb w0) (h22 : 22 < w0.heap.size) (hl : bs.length + 100 * (ps.length + 1) ≤ 900000000) :
    Calls Tryz.prog 66 #[.pointer (some ⟨b, 0, none⟩), .iface 72 (.slice A ps.length c)] w fun e w' => WkOk w0 b bs (word 4 ++ br (joinS [44] (ps.map fun p => br (ptT nf p)))) e w' := by
  have hn : ((ps.length : Int) == 0) = false := by
    rw [beq_eq_false_iff_ne]
    intro h
    exact h0 (List.eq_nil_of_length_eq_zero (by omega))
  have hszr := hb.size
  have HB := Lib.hid hb
  have HU := Lib.hid hbuf
  clear hb hbuf h0
  go_enter Tryz.func66, Tryz.ntmps66
  go_wp2_with fail
  refine (buf_lit (word 4 ++ [40]) _ _ _ _ HU.out hszr (by rfl) (by kernel_rfl) (by omega) (by decide)).mono ?_
  rintro e w1 ⟨y1, rfl, hu1, hb1⟩
  have HU1 := Lib.hid hu1
  have HB1 := Lib.hid (HB.out.trans hb1)
  have HBND := Lib.hid (show ∀ a ∈ ps, (br (ptT nf a)).length + 1 ≤ 100 from fun a ha => by
    have h3 := hq a ha
    have h4 := hN.short _ h3.1
    have h5 := hN.short _ h3.2
    simp only [br, ptT, List.length_append, List.length_cons, List.length_nil]
    omega)
  have hsum : (ps.map fun _ => 100).sum = 100 * ps.length := const_sum 100 ps
  clear hu1 hb1
  go_wp2
  go_loopw [59] (fun vi wr => ∃ j : Nat, vi = .int .i64 j ∧ j ≤ ps.length ∧ BufB w0.heap.size b (bs ++ (word 4 ++ [40]) ++ joinS [44] ((ps.take j).map (fun p => br (ptT nf p)))) wr ∧ Below w0.heap.size w0 wr) (fun vi wr => ps.length - (intOf vi).toNat)
  case atStart => exact ⟨0, rfl, Nat.zero_le _, by simpa [joinS] using HU1.out, HB1.out⟩
  case round =>
    obtain ⟨j, rfl, hj, hbuf, hb⟩ := hrel
    by_cases hlt : j < ps.length
    · obtain ⟨ad, rfl, q0, q1⟩ := get_pt (Kd.C_below hC hb) rfl j hlt
      have hqj := hq ps[j] (List.getElem_mem hlt)
      have hsn := take_snoc hlt
      have hpre := pre_join (fun p => br (ptT nf p)) (fun _ => 100) HBND.out hlt
      rw [hsum] at hpre
      obtain ⟨x, hx⟩ : ∃ x, x = ps[j].1 := ⟨_, rfl⟩
      obtain ⟨y, hy⟩ : ∃ y, y = ps[j].2 := ⟨_, rfl⟩
      have hxy : ps[j] = (x, y) := by rw [hx, hy]
      rw [hxy] at hsn
      rw [← hx, ← hy] at hqj
      rw [← hx] at q0
      rw [← hy] at q1
      clear hx hy hxy
      have hwl : (word 4).length ≤ 20 := (word_lim 4).1
      have hlen : (bs ++ (word 4 ++ [40]) ++ joinS [44] ((ps.take j).map (fun p => br (ptT nf p)))).length ≤ bs.length + 21 + 100 * ps.length := by
        simp only [List.length_append, List.length_cons, List.length_nil]
        omega
      obtain ⟨l, hll⟩ : ∃ l, l = bs ++ (word 4 ++ [40]) ++ joinS [44] ((ps.take j).map (fun p => br (ptT nf p))) := ⟨_, rfl⟩
      rw [← hll] at hlen hbuf
      have HC := Lib.hid hC
      have HL := Lib.hid hll
      have HQ := Lib.hid hqj
      have HS := Lib.hid hsn
      have HU := Lib.hid hbuf
      have HB2 := Lib.hid hb
      have hszr := hb.size
      have hlast : (Aside (j = 0) ∧ ((j : Int) != 0) = false) ∨ (Aside (0 < j) ∧ ((j : Int) != 0) = true) := by
        rcases Nat.eq_zero_or_pos j with h | h
        · exact .inl ⟨h, by rw [h]; rfl⟩
        · exact .inr ⟨h, by simp; omega⟩
      clear hC hll hqj hsn hbuf hb hq hpre
      rcases hlast with ⟨ha, h0⟩ | ⟨ha, h0⟩
      · go_wp2_with fail
        have hm : Mid w0.heap.size b l w0 wr.heap.size x y (wr.alloc (.cells #[.float .f64 x, .float .f64 y] 61)).drew :=
          Mid.drew ⟨blk_new _ _, HU.out.alloc _, hT.below (HB2.out.alloc hszr _) h22, h22, by simp; omega, HB2.out.alloc hszr _⟩
        have c1 := Mid.num hN hm x HQ.out.1
        have g1 := hN.short _ HQ.out.1
        have g2 := hN.short _ HQ.out.2
        have hs5 : (br (ptT nf (x, y))).length ≤ 1000000000 := by simp only [br, ptT, List.length_append, List.length_cons, List.length_nil]; omega
        have k1 : (9223372036854775807 < 1 + (nf x).length) = False := by simp; omega
        have k1' : (9223372036854775807 < (nf x).length + 1) = False := by simp; omega
        have k2 : (9223372036854775807 < (nf x).length + 1 + 1) = False := by simp; omega
        have k3 : (9223372036854775807 < (nf x).length + 1 + 1 + (nf y).length) = False := by simp; omega
        have k4 : (9223372036854775807 < (nf x).length + ((nf y).length + 1) + 1) = False := by simp; omega
        have k5 : (9223372036854775807 < (nf x).length + ((nf y).length + 1) + 1 + 1) = False := by simp; omega
        have k6 : (9223372036854775807 < (nf x).length + ((nf y).length + 1 + 1) + 1) = False := by simp; omega
        have e0 := blk_cell hm.box 0
        have e1 := blk_cell hm.box 1
        go_region_law (first
          | (refine step_call rfl 96 (.tmp 70) _ rfl call96 (.float .f64 x) (by simp [Act.eval, Act.put]) c1 ?_
             rintro v2 w2 ⟨rfl, hm2, hx2, hy2⟩)
          | (refine step_call rfl 96 (.tmp 75) _ rfl call96 (.float .f64 y) (by simp [Act.eval, Act.put]) (Mid.num hN hm2.out y HQ.out.2) ?_
             rintro v3 w3 ⟨rfl, hm3, hx3, hy3⟩)
          | (refine step_call2 rfl 95 (.tmp 68) (.tmp 78) _ rfl call95 _ (S (br (ptT nf (x, y)))) (by simp [Act.eval, Act.put]) (by simp [Act.eval, Act.put, ptT, br]) (Mid.str hm3.out (br (ptT nf (x, y))) (by omega) hs5) ?_
             rintro v4 w4 ⟨hu4, hb4⟩
             have HU4 := Lib.hid hu4
             have HB4 := Lib.hid hb4
             clear hu4 hb4))
        all_goals go_wp2
        all_goals exact ⟨⟨j + 1, by go_num, by omega, by rw [HS.out, List.map_append]; show BufB _ _ (_ ++ joinS [44] (_ ++ [br (ptT nf (x, y))])) _; rw [joinS_snoc, if_pos (by rw [ha.out]; rfl)]; have h7 := HL.out; rw [ha.out] at h7; have h8 := HU4.out; rw [h7] at h8; simpa [joinS] using h8, HB4.out⟩, by simp [intOf]; omega⟩
      · go_wp2_with fail
        have hm0 : Mid w0.heap.size b l w0 wr.heap.size x y (wr.alloc (.cells #[.float .f64 x, .float .f64 y] 61)) :=
          ⟨blk_new _ _, HU.out.alloc _, hT.below (HB2.out.alloc hszr _) h22, h22, by simp; omega, HB2.out.alloc hszr _⟩
        have hgb : wr.heap.size ≠ b := Nat.ne_of_gt (Lib.IsBuffer.lt HU.out)
        refine (Mid.comma hm0 hgb (by omega)).mono ?_
        rintro e wc ⟨rfl, hmc⟩
        have HMC := Lib.hid hmc
        have p0 := blk_cell hmc.box 0
        have p1 := blk_cell hmc.box 1
        clear hm0 hmc
        go_wp2_with fail
        have hm := Mid.drew HMC.out
        have c1 := Mid.num hN hm x HQ.out.1
        have g1 := hN.short _ HQ.out.1
        have g2 := hN.short _ HQ.out.2
        have hs5 : (br (ptT nf (x, y))).length ≤ 1000000000 := by simp only [br, ptT, List.length_append, List.length_cons, List.length_nil]; omega
        have k1 : (9223372036854775807 < 1 + (nf x).length) = False := by simp; omega
        have k1' : (9223372036854775807 < (nf x).length + 1) = False := by simp; omega
        have k2 : (9223372036854775807 < (nf x).length + 1 + 1) = False := by simp; omega
        have k3 : (9223372036854775807 < (nf x).length + 1 + 1 + (nf y).length) = False := by simp; omega
        have k4 : (9223372036854775807 < (nf x).length + ((nf y).length + 1) + 1) = False := by simp; omega
        have k5 : (9223372036854775807 < (nf x).length + ((nf y).length + 1) + 1 + 1) = False := by simp; omega
        have k6 : (9223372036854775807 < (nf x).length + ((nf y).length + 1 + 1) + 1) = False := by simp; omega
        have e0 := blk_cell hm.box 0
        have e1 := blk_cell hm.box 1
        go_region_law (first
          | (refine step_call rfl 96 (.tmp 70) _ rfl call96 (.float .f64 x) (by simp [Act.eval, Act.put]) c1 ?_
             rintro v2 w2 ⟨rfl, hm2, hx2, hy2⟩)
          | (refine step_call rfl 96 (.tmp 75) _ rfl call96 (.float .f64 y) (by simp [Act.eval, Act.put]) (Mid.num hN hm2.out y HQ.out.2) ?_
             rintro v3 w3 ⟨rfl, hm3, hx3, hy3⟩)
          | (refine step_call2 rfl 95 (.tmp 68) (.tmp 78) _ rfl call95 _ (S (br (ptT nf (x, y)))) (by simp [Act.eval, Act.put]) (by simp [Act.eval, Act.put, ptT, br]) (Mid.str hm3.out (br (ptT nf (x, y))) (by simp; omega) hs5) ?_
             rintro v4 w4 ⟨hu4, hb4⟩
             have HU4 := Lib.hid hu4
             have HB4 := Lib.hid hb4
             clear hu4 hb4))
        all_goals go_wp2
        all_goals exact ⟨⟨j + 1, by go_num, by omega, by rw [HS.out, List.map_append]; show BufB _ _ (_ ++ joinS [44] (_ ++ [br (ptT nf (x, y))])) _; rw [joinS_snoc, if_neg (by have := ha.out; intro h0; have h9 : ((ps.take j).map (fun p => br (ptT nf p))).length = 0 := by { rw [h0]; rfl }; rw [List.length_map, List.length_take] at h9; omega)]; have h7 := HL.out; have h8 := HU4.out; rw [h7] at h8; simpa using h8, HB4.out⟩, by simp [intOf]; omega⟩
    · have e1 : ps.take j = ps := List.take_of_length_le (by omega)
      rw [e1] at hbuf
      have hall := all_join (fun p => br (ptT nf p)) (fun _ => 100) HBND.out
      rw [hsum] at hall
      have hwl : (word 4).length ≤ 20 := (word_lim 4).1
      have hc41 := buf_byte 41 41 rfl hbuf hb.size (by simp only [List.length_append, List.length_cons, List.length_nil]; omega)
      have HB2 := Lib.hid hb
      clear hbuf hb hC hq e1 hall
      go_wp2_with fail
      refine hc41.mono ?_
      clear hc41
      rintro e w2 ⟨rfl, hbuf2, hb2, -⟩
      have HU2 := Lib.hid hbuf2
      have HB3 := Lib.hid (HB2.out.trans hb2)
      clear hbuf2 hb2
      go_wp2
      go_end0
      exact ⟨rfl, by simpa [br] using HU2.out, HB3.out⟩
end Go.Proofs.YtghajgdiaopioaaGreatDoor
end
