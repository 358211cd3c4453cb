/- Walks and plain laws joined (Yh, Yi, Yj). Conditions: stand in each law. -/
import Derived.Test.YtghajgdiaopioaaGreatDoorJxa
import Derived.Test.YtghajgdiaopioaaGreatDoorJxb
set_option linter.unusedVariables false
set_option linter.unusedSimpArgs false
section
/- Walks: wkt, a kind with a loop over rows. Conditions: stand in each contract. -/
namespace Go.Proofs.YtghajgdiaopioaaGreatDoor
open Go.RowKit Go.Proofs Tx
open Go.Proofs.YtghajgdiaopioaaGreatDoorW.PrintWords
set_option maxRecDepth 40000 in
set_option maxHeartbeats 4000000 in
theorem wk_mpoly {nf : Nat → Bs} {q : Nat → Prop} (hN : NumF nf q) (w0 w : World) (b : Nat) (bs : Bs) (A : Option Addr) (c : Nat) (ls : List (List (List Pt))) (hC : (Kd.slice 117 lineK).C w0 A ls.length ls) (h0 : ls ≠ []) (hq : ∀ s ∈ ls, ∀ r ∈ s, ∀ p ∈ r, q p.1 ∧ q p.2)
    (hb : Below w0.heap.size w0 w) (hbuf : BufB w0.heap.size b bs w) (hT : Tb w0) (h22 : 22 < w0.heap.size) (hl : bs.length + 100 * ((ls.map fun r => wtL r + 1).sum + 1) ≤ 900000000) :
    Calls Tryz.prog 66 #[.pointer (some ⟨b, 0, none⟩), .iface 80 (.slice A ls.length c)] w fun e w' => WkOk w0 b bs (word 6 ++ br (joinS [44] (ls.map (ringsT nf [])))) e w' := by
  have hn : ((ls.length : Int) == 0) = false := by
    rw [beq_eq_false_iff_ne]
    intro h
    exact h0 (List.eq_nil_of_length_eq_zero (by omega))
  have hlen0 : ls.length ≤ 900000000 := by have := len_sum (fun r => wtL r + 1) ls (fun r _ => by omega); omega
  have hszr := hb.size
  have HB := Lib.hid hb
  have HU := Lib.hid hbuf
  clear hb hbuf h0
  go_enter Tryz.func66, Tryz.ntmps66
  go_wp2_with fail
  refine (buf_lit (word 6 ++ [40]) _ _ _ _ HU.out hszr (by rfl) (by kernel_rfl) (by omega) (by decide)).mono ?_
  rintro e w1 ⟨y1, rfl, hu1, hb1⟩
  have HU1 := Lib.hid hu1
  have HB1 := Lib.hid (HB.out.trans hb1)
  have HBND := Lib.hid (show ∀ a ∈ ls, (ringsT nf [] a).length + 1 ≤ 100 * (wtL a + 1) from fun a ha => by
    have := rings_len (nf := nf) (sp := []) (by simp) (rs := a) (fun r hr p hp => ⟨hN.short _ (hq a ha r hr p hp).1, hN.short _ (hq a ha r hr p hp).2⟩)
    omega)
  have hsum : (ls.map fun a => 100 * (wtL a + 1)).sum = 100 * (ls.map fun r => wtL r + 1).sum := sum_mul 100 (fun r : List (List Pt) => wtL r + 1) ls
  clear hu1 hb1
  go_wp2
  go_loopw [186] (fun vi wr => ∃ j : Nat, vi = .int .i64 j ∧ j ≤ ls.length ∧ BufB w0.heap.size b (bs ++ (word 6 ++ [40]) ++ joinS [44] ((ls.take j).map (ringsT nf []))) wr ∧ Below w0.heap.size w0 wr) (fun vi wr => ls.length - (intOf vi).toNat)
  case atStart => exact ⟨0, rfl, Nat.zero_le _, by simpa [joinS] using HU1.out, HB1.out⟩
  case round =>
    obtain ⟨j, rfl, hj, hbuf, hb⟩ := hrel
    by_cases hlt : j < ls.length
    · obtain ⟨ad, A2, c2, rfl, q0', hC2⟩ := get_row2 hC rfl j hlt
      have q0 := cell_kept q0' hb
      have hq2 := hq ls[j] (List.getElem_mem hlt)
      have hpre := pre_join (ringsT nf []) (fun a => 100 * (wtL a + 1)) HBND.out hlt
      rw [hsum] at hpre
      have hsn := take_snoc hlt
      obtain ⟨r, hr⟩ : ∃ r, r = ls[j] := ⟨_, rfl⟩
      rw [← hr] at q0 hC2 hq2 hpre hsn
      have hwl : (word 6).length ≤ 20 := (word_lim 6).1
      have hlen : (bs ++ (word 6 ++ [40]) ++ joinS [44] ((ls.take j).map (ringsT nf []))).length + 100 * (wtL r + 1) ≤ bs.length + 21 + 100 * (ls.map fun r => wtL r + 1).sum := by
        simp only [List.length_append, List.length_cons, List.length_nil]
        omega
      have HBN2 := Lib.hid (show ∀ a ∈ r, (ptsT nf [] a).length + 1 ≤ 100 * (a.length + 1) from fun a ha => by
        have := pts_len (nf := nf) (sp := []) (by simp) (ps := a) (fun p hp => ⟨hN.short _ (hq2 a ha p hp).1, hN.short _ (hq2 a ha p hp).2⟩)
        omega)
      have hsum2 : (r.map fun a => 100 * (a.length + 1)).sum = 100 * wtL r := sum_mul 100 (fun r : List Pt => r.length + 1) r
      have hlen1 : r.length ≤ 900000000 := by rw [wtL_eq] at hlen; omega
      obtain ⟨l, hll⟩ : ∃ l, l = bs ++ (word 6 ++ [40]) ++ joinS [44] ((ls.take j).map (ringsT nf [])) := ⟨_, rfl⟩
      rw [← hll] at hlen hbuf
      have hlast : (Aside (j = 0) ∧ ((j : Int) != 0) = false) ∨ (Aside (0 < j) ∧ ((j : Int) != 0) = true) := by
        rcases Nat.eq_zero_or_pos j with h | h
        · exact .inl ⟨h, by rw [h]; rfl⟩
        · exact .inr ⟨h, by simp; omega⟩
      have HC := Lib.hid hC
      have HC2 := Lib.hid hC2
      have HQ2 := Lib.hid hq2
      have HL := Lib.hid hll
      have HS := Lib.hid hsn
      have HU := Lib.hid hbuf
      have HB2 := Lib.hid hb
      have hszr2 := hb.size
      clear hC hC2 hll hsn hbuf hb hq hq2 hr q0' hpre hsum
      rcases hlast with ⟨ha, h0⟩ | ⟨ha, h0⟩
      · go_wp2_with fail
        have HBX := HB2
        refine (buf_byte 40 40 rfl HU.out hszr2 (by omega)).mono ?_
        rintro e wp ⟨rfl, hup, hbp, -⟩
        have HBP := Lib.hid (HBX.out.trans hbp)
        have HUP := Lib.hid hup
        have hszp := HBP.out.size
        clear hup hbp
        go_wp2
        go_loopw [199] (fun vi wr => ∃ i : Nat, vi = .int .i64 i ∧ i ≤ r.length ∧ BufB w0.heap.size b (l ++ [40] ++ joinS [44] ((r.take i).map (ptsT nf []))) wr ∧ Below w0.heap.size w0 wr) (fun vi wr => r.length - (intOf vi).toNat)
        case atStart => exact ⟨0, rfl, Nat.zero_le _, by simpa [joinS] using HUP.out, HBP.out⟩
        case round =>
          obtain ⟨i, rfl, hi, hbuf, hb⟩ := hrel
          by_cases hlti : i < r.length
          · obtain ⟨ad2, A3, c3, rfl, p0', hC3⟩ := get_row2 HC2.out rfl i hlti
            have p0 := cell_kept p0' hb
            have hq3 := HQ2.out r[i] (List.getElem_mem hlti)
            have hpre := pre_join (ptsT nf []) (fun a => 100 * (a.length + 1)) HBN2.out hlti
            rw [hsum2] at hpre
            have hsn := take_snoc hlti
            obtain ⟨t, ht⟩ : ∃ t, t = r[i] := ⟨_, rfl⟩
            rw [← ht] at p0 hC3 hq3 hpre hsn
            have hlen2 : (l ++ [40] ++ joinS [44] ((r.take i).map (ptsT nf []))).length + 100 * (t.length + 1) ≤ l.length + 2 + 100 * wtL r := by
              simp only [List.length_append, List.length_cons, List.length_nil]
              omega
            obtain ⟨m, hml⟩ : ∃ m, m = l ++ [40] ++ joinS [44] ((r.take i).map (ptsT nf [])) := ⟨_, rfl⟩
            rw [← hml] at hlen2 hbuf
            have hlast2 : (Aside (i = 0) ∧ ((i : Int) != 0) = false) ∨ (Aside (0 < i) ∧ ((i : Int) != 0) = true) := by
              rcases Nat.eq_zero_or_pos i with h | h
              · exact .inl ⟨h, by rw [h]; rfl⟩
              · exact .inr ⟨h, by simp; omega⟩
            have HML := Lib.hid hml
            have HSI := Lib.hid hsn
            have HUI := Lib.hid hbuf
            have HBI := Lib.hid hb
            have hszi := hb.size
            clear hml hsn hbuf hb ht p0' hpre
            rcases hlast2 with ⟨hai, hi0⟩ | ⟨hai, hi0⟩
            · have hcall := wls_any hN w0 wr b m A3 c3 t hC3 hq3 HBI.out HUI.out hT h22 (by omega)
              clear hC3 hq3
              go_wp2_with fail
              refine hcall.mono ?_
              clear hcall
              rintro e w2 ⟨rfl, hu2, hb2⟩
              have HU2 := Lib.hid hu2
              have HB3 := Lib.hid hb2
              clear hu2 hb2
              go_wp2
              exact ⟨⟨i + 1, by go_num, by omega, by rw [HSI.out, List.map_append]; show BufB _ _ (_ ++ joinS [44] (_ ++ [ptsT nf [] t])) _; rw [joinS_snoc, if_pos (by rw [hai.out]; rfl)]; have h7 := HML.out; rw [hai.out] at h7; have h8 := HU2.out; rw [h7] at h8; simpa [joinS] using h8, HB3.out⟩, by simp [intOf]; omega⟩
            · go_wp2_with fail
              refine (buf_byte 44 44 rfl HUI.out hszi (by omega)).mono ?_
              rintro e wc ⟨rfl, huc, hbc, -⟩
              have hcall := wls_any hN w0 wc b (m ++ [44]) A3 c3 t hC3 hq3 (HBI.out.trans hbc) huc hT h22 (by simp; omega)
              clear hC3 hq3 huc hbc
              go_wp2_with fail
              refine hcall.mono ?_
              clear hcall
              rintro e w2 ⟨rfl, hu2, hb2⟩
              have HU2 := Lib.hid hu2
              have HB3 := Lib.hid hb2
              clear hu2 hb2
              go_wp2
              exact ⟨⟨i + 1, by go_num, by omega, by rw [HSI.out, List.map_append]; show BufB _ _ (_ ++ joinS [44] (_ ++ [ptsT nf [] t])) _; rw [joinS_snoc, if_neg (by have := hai.out; intro h0; have h9 : ((r.take i).map (ptsT nf [])).length = 0 := by { rw [h0]; rfl }; rw [List.length_map, List.length_take] at h9; omega)]; have h7 := HML.out; have h8 := HU2.out; rw [h7] at h8; simpa using h8, HB3.out⟩, by simp [intOf]; omega⟩
          · have e2 : r.take i = r := List.take_of_length_le (by omega)
            rw [e2] at hbuf
            have hall := all_join (ptsT nf []) (fun a => 100 * (a.length + 1)) HBN2.out
            rw [hsum2] at hall
            have hc41 := buf_byte 41 41 rfl hbuf hb.size (by simp only [List.length_append, List.length_cons, List.length_nil]; omega)
            have HBI := Lib.hid hb
            clear hbuf hb e2 hall
            go_wp2_with fail
            refine hc41.mono ?_
            clear hc41
            rintro e w2 ⟨rfl, hbuf2, hb2, -⟩
            have HU2 := Lib.hid (show BufB w0.heap.size b (l ++ ringsT nf [] r) w2 by simpa [ringsT, br] using hbuf2)
            have HB3 := Lib.hid (HBI.out.trans hb2)
            clear hbuf2 hb2
            go_wp2
            exact ⟨⟨j + 1, by go_num, by omega, by rw [HS.out, List.map_append]; show BufB _ _ (_ ++ joinS [44] (_ ++ [ringsT nf [] r])) _; rw [joinS_snoc, if_pos (by rw [ha.out]; rfl)]; have h7 := HL.out; rw [ha.out] at h7; have h8 := HU2.out; rw [h7] at h8; simpa [joinS] using h8, HB3.out⟩, by simp [intOf]; omega⟩
      · go_wp2_with fail
        refine (buf_byte 44 44 rfl HU.out hszr2 (by omega)).mono ?_
        rintro e wc ⟨rfl, huc, hbc, -⟩
        have HBX := Lib.hid (HB2.out.trans hbc)
        have HUC := Lib.hid huc
        have hszc := HBX.out.size
        clear huc hbc
        go_wp2_with fail
        refine (buf_byte 40 40 rfl HUC.out hszc (by simp; omega)).mono ?_
        rintro e wp ⟨rfl, hup, hbp, -⟩
        have HBP := Lib.hid (HBX.out.trans hbp)
        have HUP := Lib.hid hup
        have hszp := HBP.out.size
        clear hup hbp
        go_wp2
        go_loopw [199] (fun vi wr => ∃ i : Nat, vi = .int .i64 i ∧ i ≤ r.length ∧ BufB w0.heap.size b ((l ++ [44]) ++ [40] ++ joinS [44] ((r.take i).map (ptsT nf []))) wr ∧ Below w0.heap.size w0 wr) (fun vi wr => r.length - (intOf vi).toNat)
        case atStart => exact ⟨0, rfl, Nat.zero_le _, by simpa [joinS] using HUP.out, HBP.out⟩
        case round =>
          obtain ⟨i, rfl, hi, hbuf, hb⟩ := hrel
          by_cases hlti : i < r.length
          · obtain ⟨ad2, A3, c3, rfl, p0', hC3⟩ := get_row2 HC2.out rfl i hlti
            have p0 := cell_kept p0' hb
            have hq3 := HQ2.out r[i] (List.getElem_mem hlti)
            have hpre := pre_join (ptsT nf []) (fun a => 100 * (a.length + 1)) HBN2.out hlti
            rw [hsum2] at hpre
            have hsn := take_snoc hlti
            obtain ⟨t, ht⟩ : ∃ t, t = r[i] := ⟨_, rfl⟩
            rw [← ht] at p0 hC3 hq3 hpre hsn
            have hlen2 : ((l ++ [44]) ++ [40] ++ joinS [44] ((r.take i).map (ptsT nf []))).length + 100 * (t.length + 1) ≤ l.length + 2 + 100 * wtL r := by
              simp only [List.length_append, List.length_cons, List.length_nil]
              omega
            obtain ⟨m, hml⟩ : ∃ m, m = (l ++ [44]) ++ [40] ++ joinS [44] ((r.take i).map (ptsT nf [])) := ⟨_, rfl⟩
            rw [← hml] at hlen2 hbuf
            have hlast2 : (Aside (i = 0) ∧ ((i : Int) != 0) = false) ∨ (Aside (0 < i) ∧ ((i : Int) != 0) = true) := by
              rcases Nat.eq_zero_or_pos i with h | h
              · exact .inl ⟨h, by rw [h]; rfl⟩
              · exact .inr ⟨h, by simp; omega⟩
            have HML := Lib.hid hml
            have HSI := Lib.hid hsn
            have HUI := Lib.hid hbuf
            have HBI := Lib.hid hb
            have hszi := hb.size
            clear hml hsn hbuf hb ht p0' hpre
            rcases hlast2 with ⟨hai, hi0⟩ | ⟨hai, hi0⟩
            · have hcall := wls_any hN w0 wr b m A3 c3 t hC3 hq3 HBI.out HUI.out hT h22 (by omega)
              clear hC3 hq3
              go_wp2_with fail
              refine hcall.mono ?_
              clear hcall
              rintro e w2 ⟨rfl, hu2, hb2⟩
              have HU2 := Lib.hid hu2
              have HB3 := Lib.hid hb2
              clear hu2 hb2
              go_wp2
              exact ⟨⟨i + 1, by go_num, by omega, by rw [HSI.out, List.map_append]; show BufB _ _ (_ ++ joinS [44] (_ ++ [ptsT nf [] t])) _; rw [joinS_snoc, if_pos (by rw [hai.out]; rfl)]; have h7 := HML.out; rw [hai.out] at h7; have h8 := HU2.out; rw [h7] at h8; simpa [joinS] using h8, HB3.out⟩, by simp [intOf]; omega⟩
            · go_wp2_with fail
              refine (buf_byte 44 44 rfl HUI.out hszi (by omega)).mono ?_
              rintro e wc ⟨rfl, huc, hbc, -⟩
              have hcall := wls_any hN w0 wc b (m ++ [44]) A3 c3 t hC3 hq3 (HBI.out.trans hbc) huc hT h22 (by simp; omega)
              clear hC3 hq3 huc hbc
              go_wp2_with fail
              refine hcall.mono ?_
              clear hcall
              rintro e w2 ⟨rfl, hu2, hb2⟩
              have HU2 := Lib.hid hu2
              have HB3 := Lib.hid hb2
              clear hu2 hb2
              go_wp2
              exact ⟨⟨i + 1, by go_num, by omega, by rw [HSI.out, List.map_append]; show BufB _ _ (_ ++ joinS [44] (_ ++ [ptsT nf [] t])) _; rw [joinS_snoc, if_neg (by have := hai.out; intro h0; have h9 : ((r.take i).map (ptsT nf [])).length = 0 := by { rw [h0]; rfl }; rw [List.length_map, List.length_take] at h9; omega)]; have h7 := HML.out; have h8 := HU2.out; rw [h7] at h8; simpa using h8, HB3.out⟩, by simp [intOf]; omega⟩
          · have e2 : r.take i = r := List.take_of_length_le (by omega)
            rw [e2] at hbuf
            have hall := all_join (ptsT nf []) (fun a => 100 * (a.length + 1)) HBN2.out
            rw [hsum2] at hall
            have hc41 := buf_byte 41 41 rfl hbuf hb.size (by simp only [List.length_append, List.length_cons, List.length_nil]; omega)
            have HBI := Lib.hid hb
            clear hbuf hb e2 hall
            go_wp2_with fail
            refine hc41.mono ?_
            clear hc41
            rintro e w2 ⟨rfl, hbuf2, hb2, -⟩
            have HU2 := Lib.hid (show BufB w0.heap.size b ((l ++ [44]) ++ ringsT nf [] r) w2 by simpa [ringsT, br] using hbuf2)
            have HB3 := Lib.hid (HBI.out.trans hb2)
            clear hbuf2 hb2
            go_wp2
            exact ⟨⟨j + 1, by go_num, by omega, by rw [HS.out, List.map_append]; show BufB _ _ (_ ++ joinS [44] (_ ++ [ringsT nf [] r])) _; rw [joinS_snoc, if_neg (by have := ha.out; intro h0; have h9 : ((ls.take j).map (ringsT nf [])).length = 0 := by { rw [h0]; rfl }; rw [List.length_map, List.length_take] at h9; omega)]; have h7 := HL.out; have h8 := HU2.out; rw [h7] at h8; simpa using h8, HB3.out⟩, by simp [intOf]; omega⟩
    · have e1 : ls.take j = ls := List.take_of_length_le (by omega)
      rw [e1] at hbuf
      have hall := all_join (ringsT nf []) (fun a => 100 * (wtL a + 1)) HBND.out
      rw [hsum] at hall
      have hwl : (word 6).length ≤ 20 := (word_lim 6).1
      have hc41 := buf_byte 41 41 rfl hbuf hb.size (by simp only [List.length_append, List.length_cons, List.length_nil]; omega)
      have HB2 := Lib.hid hb
      clear hbuf hb hC hq e1 hall
      go_wp2_with fail
      refine hc41.mono ?_
      clear hc41
      rintro e w2 ⟨rfl, hbuf2, hb2, -⟩
      have HU2 := Lib.hid hbuf2
      have HB3 := Lib.hid (HB2.out.trans hb2)
      clear hbuf2 hb2
      go_wp2
      go_end0
      exact ⟨rfl, by simpa [br] using HU2.out, HB3.out⟩
/-! Walks: wkt, a kind with a loop over rows. -/
set_option maxRecDepth 40000 in
set_option maxHeartbeats 2000000 in
theorem wk_coll {nf : Nat → Bs} {q : Nat → Prop} (hN : NumF nf q) (n : Nat)
    (ih : ∀ (w0 w : World) (b : Nat) (bs : Bs) (g : Geo) (v : Value), (geoK n).K w0 g [v] → Full g → AllC q g → Below w0.heap.size w0 w → BufB w0.heap.size b bs w → Tb w0 → 22 < w0.heap.size → bs.length + 100 * (wt g + 1) ≤ 900000000 → Calls Tryz.prog 66 #[.pointer (some ⟨b, 0, none⟩), v] w fun e w' => WkOk w0 b bs (text nf [] false g) e w')
    (w0 w : World) (b : Nat) (bs : Bs) (A : Option Addr) (c : Nat) (gs : List Geo) (hC : (geoK n).C w0 A gs.length gs) (h0 : gs ≠ []) (hf : ∀ g ∈ gs, Full g) (hq : ∀ g ∈ gs, AllC q g)
    (hb : Below w0.heap.size w0 w) (hbuf : BufB w0.heap.size b bs w) (hT : Tb w0) (h22 : 22 < w0.heap.size) (hl : bs.length + 100 * ((gs.map wt).sum + 1) ≤ 899999900) :
    Calls Tryz.prog 66 #[.pointer (some ⟨b, 0, none⟩), .iface 84 (.slice A gs.length c)] w fun e w' => WkOk w0 b bs (word 7 ++ br (joinS [44] (gs.map (text nf [] false)))) e w' := by
  have hn : ((gs.length : Int) == 0) = false := by
    rw [beq_eq_false_iff_ne]
    intro h
    exact h0 (List.eq_nil_of_length_eq_zero (by omega))
  have hlen0 : gs.length ≤ 900000000 := by have := len_sum wt gs fun g _ => wt_pos g; omega
  have hszr := hb.size
  have HB := Lib.hid hb
  have HU := Lib.hid hbuf
  clear hb hbuf h0
  go_enter Tryz.func66, Tryz.ntmps66
  go_wp2_with fail
  refine (buf_lit (word 7 ++ [40]) _ _ _ _ HU.out hszr (by rfl) (by kernel_rfl) (by omega) (by decide)).mono ?_
  rintro e w1 ⟨y1, rfl, hu1, hb1⟩
  have HU1 := Lib.hid hu1
  have HB1 := Lib.hid (HB.out.trans hb1)
  have HBND := Lib.hid (show ∀ a ∈ gs, (text nf [] false a).length + 1 ≤ 100 * wt a from fun a ha => by
    have hs : ∀ (m : Nat) (g : Geo), g.deep ≤ m → AllC q g → AllC (Nl nf) g := fun m => allC_imp (fun x hx => hN.short x hx) m
    have := text_len (nf := nf) (sp := []) (small := false) (by simp) a.deep a (Nat.le_refl _) (hs _ a (Nat.le_refl _) (hq a ha))
    omega)
  have hsum : (gs.map fun a => 100 * wt a).sum = 100 * (gs.map wt).sum := sum_mul 100 wt gs
  clear hu1 hb1
  go_wp2
  go_loopw [233] (fun vi wr => ∃ j : Nat, vi = .int .i64 j ∧ j ≤ gs.length ∧ BufB w0.heap.size b (bs ++ (word 7 ++ [40]) ++ joinS [44] ((gs.take j).map (text nf [] false))) wr ∧ Below w0.heap.size w0 wr) (fun vi wr => gs.length - (intOf vi).toNat)
  case atStart => exact ⟨0, rfl, Nat.zero_le _, by simpa [joinS] using HU1.out, HB1.out⟩
  case round =>
    obtain ⟨j, rfl, hj, hbuf, hb⟩ := hrel
    by_cases hlt : j < gs.length
    · obtain ⟨ad, gt, gv, rfl, q0', hK2⟩ := get_geo hC rfl j hlt
      have q0 := cell_kept q0' hb
      have hq2 := hq gs[j] (List.getElem_mem hlt)
      have hf2 := hf gs[j] (List.getElem_mem hlt)
      have hpre := pre_join (text nf [] false) (fun a => 100 * wt a) HBND.out hlt
      rw [hsum] at hpre
      have hsn := take_snoc hlt
      obtain ⟨r, hr⟩ : ∃ r, r = gs[j] := ⟨_, rfl⟩
      rw [← hr] at hK2 hq2 hf2 hpre hsn
      have hwl : (word 7).length ≤ 20 := (word_lim 7).1
      have hlen : (bs ++ (word 7 ++ [40]) ++ joinS [44] ((gs.take j).map (text nf [] false))).length + 100 * wt r ≤ bs.length + 21 + 100 * (gs.map wt).sum := by
        simp only [List.length_append, List.length_cons, List.length_nil]
        omega
      obtain ⟨l, hll⟩ : ∃ l, l = bs ++ (word 7 ++ [40]) ++ joinS [44] ((gs.take j).map (text nf [] false)) := ⟨_, rfl⟩
      rw [← hll] at hlen hbuf
      have hlast : (Aside (j = 0) ∧ ((j : Int) != 0) = false) ∨ (Aside (0 < j) ∧ ((j : Int) != 0) = true) := by
        rcases Nat.eq_zero_or_pos j with h | h
        · exact .inl ⟨h, by rw [h]; rfl⟩
        · exact .inr ⟨h, by simp; omega⟩
      have HC := Lib.hid hC
      have HL := Lib.hid hll
      have HS := Lib.hid hsn
      have HU := Lib.hid hbuf
      have HB2 := Lib.hid hb
      have hszr2 := hb.size
      clear hC hll hsn hbuf hb hq hf hr q0' hpre
      rcases hlast with ⟨ha, h0⟩ | ⟨ha, h0⟩
      · have hcall := ih w0 wr b l r _ hK2 hf2 hq2 HB2.out HU.out hT h22 (by omega)
        clear hK2 hq2 hf2
        go_wp2_with fail
        refine hcall.mono ?_
        clear hcall
        rintro e w2 ⟨rfl, hu2, hb2⟩
        have HU2 := Lib.hid hu2
        have HB3 := Lib.hid hb2
        clear hu2 hb2
        go_wp2
        exact ⟨⟨j + 1, by go_num, by omega, by rw [HS.out, List.map_append]; show BufB _ _ (_ ++ joinS [44] (_ ++ [text nf [] false r])) _; rw [joinS_snoc, if_pos (by rw [ha.out]; rfl)]; have h7 := HL.out; rw [ha.out] at h7; have h8 := HU2.out; rw [h7] at h8; simpa [joinS] using h8, HB3.out⟩, by simp [intOf]; omega⟩
      · go_wp2_with fail
        refine (buf_byte 44 44 rfl HU.out hszr2 (by omega)).mono ?_
        rintro e wc ⟨rfl, huc, hbc, -⟩
        have hcall := ih w0 wc b (l ++ [44]) r _ hK2 hf2 hq2 (HB2.out.trans hbc) huc hT h22 (by simp; omega)
        clear hK2 hq2 hf2 huc hbc
        go_wp2_with fail
        refine hcall.mono ?_
        clear hcall
        rintro e w2 ⟨rfl, hu2, hb2⟩
        have HU2 := Lib.hid hu2
        have HB3 := Lib.hid hb2
        clear hu2 hb2
        go_wp2
        exact ⟨⟨j + 1, by go_num, by omega, by rw [HS.out, List.map_append]; show BufB _ _ (_ ++ joinS [44] (_ ++ [text nf [] false r])) _; rw [joinS_snoc, if_neg (by have := ha.out; intro h0; have h9 : ((gs.take j).map (text nf [] false)).length = 0 := by { rw [h0]; rfl }; rw [List.length_map, List.length_take] at h9; omega)]; have h7 := HL.out; have h8 := HU2.out; rw [h7] at h8; simpa using h8, HB3.out⟩, by simp [intOf]; omega⟩
    · have e1 : gs.take j = gs := List.take_of_length_le (by omega)
      rw [e1] at hbuf
      have hall := all_join (text nf [] false) (fun a => 100 * wt a) HBND.out
      rw [hsum] at hall
      have hwl : (word 7).length ≤ 20 := (word_lim 7).1
      have hc41 := buf_byte 41 41 rfl hbuf hb.size (by simp only [List.length_append, List.length_cons, List.length_nil]; omega)
      have HB2 := Lib.hid hb
      clear hbuf hb hC hq hf e1 hall
      go_wp2_with fail
      refine hc41.mono ?_
      clear hc41
      rintro e w2 ⟨rfl, hbuf2, hb2, -⟩
      have HU2 := Lib.hid hbuf2
      have HB3 := Lib.hid (HB2.out.trans hb2)
      clear hbuf2 hb2
      go_wp2
      go_end0
      exact ⟨rfl, by simpa [br] using HU2.out, HB3.out⟩
/-! Walks: wkt at every depth; MarshalString. -/
/-- wkt of a shape without empty lists. -/
theorem wkt_any {nf : Nat → Bs} {q : Nat → Prop} (hN : NumF nf q) : ∀ (n : Nat) (w0 w : World) (b : Nat) (bs : Bs) (g : Geo) (v : Value), (geoK n).K w0 g [v] → Full g → AllC q g → Below w0.heap.size w0 w → BufB w0.heap.size b bs w → Tb w0 → 22 < w0.heap.size → bs.length + 100 * (wt g + 1) ≤ 900000000 → Calls Tryz.prog 66 #[.pointer (some ⟨b, 0, none⟩), v] w fun e w' => WkOk w0 b bs (text nf [] false g) e w'
  | 0, w0, w, b, bs, g, v, h, _, _, _, _, _, _, _ => h.elim
  | n + 1, w0, w, b, bs, g, v, h, hf, ha, hb, hbuf, hT, h22, hl => by
    have ih := wkt_any hN n
    cases g with
    | point p =>
      cases (show [v] = [Value.iface 61 (ptV p)] from h)
      cases ha with | point hq => exact wk_point hN w0 w b bs p.1 p.2 hq hb hbuf hT h22 (by simp only [wt] at hl; omega)
    | line ps =>
      obtain ⟨u, hx, A, c, hv, hle, hC⟩ := h
      cases hx; cases hv
      cases ha with
      | line hq => cases hf with | line h0 => exact wk_line hN w0 w b bs A c ps hC h0 hq hb hbuf hT h22 (by simp only [wt] at hl; omega)
    | poly rs =>
      obtain ⟨u, hx, A, c, hv, hle, hC⟩ := h
      cases hx; cases hv
      cases ha with
      | poly hq => cases hf with | poly h0 h1 => exact wk_poly hN w0 w b bs A c rs hC h0 hq hb hbuf hT h22 (by simp only [wt] at hl; omega)
    | mpoint ps =>
      obtain ⟨u, hx, A, c, hv, hle, hC⟩ := h
      cases hx; cases hv
      cases ha with
      | mpoint hq => cases hf with | mpoint h0 => exact wk_mpoint hN w0 w b bs A c ps hC h0 hq hb hbuf hT h22 (by simp only [wt] at hl; omega)
    | mline ls =>
      obtain ⟨u, hx, A, c, hv, hle, hC⟩ := h
      cases hx; cases hv
      cases ha with
      | mline hq => cases hf with | mline h0 h1 => exact wk_mline hN w0 w b bs A c ls hC h0 hq hb hbuf hT h22 (by simp only [wt] at hl; omega)
    | mpoly qs =>
      obtain ⟨u, hx, A, c, hv, hle, hC⟩ := h
      cases hx; cases hv
      cases ha with
      | mpoly hq => cases hf with | mpoly h0 h1 => exact wk_mpoly hN w0 w b bs A c qs hC h0 hq hb hbuf hT h22 (by simp only [wt] at hl; omega)
    | coll gs =>
      obtain ⟨u, hx, A, c, hv, hle, hC⟩ := h
      cases hx; cases hv
      rw [text, texts_eq]
      cases ha with
      | coll hq => cases hf with | coll h0 h1 => exact wk_coll hN n ih w0 w b bs A c gs hC h0 h1 hq hb hbuf hT h22 (by simp only [wt, wts_eq] at hl; omega)
theorem wkt_empty {n : Nat} (w0 w : World) (b : Nat) (bs : Bs) (k : Nat) (h2 : 2 ≤ k) (h7 : k ≤ 7) (v : Value) (h : (geoK n).K w0 (emptyOf k) [v])
    (hb : Below w0.heap.size w0 w) (hbuf : BufB w0.heap.size b bs w) (hl : bs.length ≤ 900000000) :
    Calls Tryz.prog 66 #[.pointer (some ⟨b, 0, none⟩), v] w fun e w' => WkOk w0 b bs (word k ++ emptyW) e w' := by
  cases n with
  | zero => exact h.elim
  | succ n =>
    have hk : k = 2 ∨ k = 3 ∨ k = 4 ∨ k = 5 ∨ k = 6 ∨ k = 7 := by omega
    rcases hk with rfl | rfl | rfl | rfl | rfl | rfl
    all_goals
      obtain ⟨u, hx, A, c, hv, hle, hC⟩ := h
      cases hx; cases hv
    · exact wk_empty_2 w0 w b bs A c hb hbuf hl
    · exact wk_empty_3 w0 w b bs A c hb hbuf hl
    · exact wk_empty_4 w0 w b bs A c hb hbuf hl
    · exact wk_empty_5 w0 w b bs A c hb hbuf hl
    · exact wk_empty_6 w0 w b bs A c hb hbuf hl
    · exact wk_empty_7 w0 w b bs A c hb hbuf hl

def textE (nf : Nat → Bs) (g : Geo) (t : Bs) : Prop := (Full g ∧ t = text nf [] false g) ∨ (2 ≤ g.kind ∧ g = emptyOf g.kind ∧ t = word g.kind ++ emptyW)
theorem wkt_both {nf : Nat → Bs} {q : Nat → Prop} (hN : NumF nf q) (n : Nat) (w0 w : World) (b : Nat) (bs : Bs) (g : Geo) (v : Value) (t : Bs) (h : (geoK n).K w0 g [v]) (hf : textE nf g t) (ha : AllC q g) (hb : Below w0.heap.size w0 w) (hbuf : BufB w0.heap.size b bs w) (hT : Tb w0) (h22 : 22 < w0.heap.size) (hl : bs.length + 100 * (wt g + 1) ≤ 900000000) :
    Calls Tryz.prog 66 #[.pointer (some ⟨b, 0, none⟩), v] w fun e w' => WkOk w0 b bs t e w' := by
  rcases hf with ⟨hf, rfl⟩ | ⟨h2, he, rfl⟩
  · exact wkt_any hN n w0 w b bs g v h hf ha hb hbuf hT h22 hl
  · rw [he] at h
    exact wkt_empty w0 w b bs g.kind h2 (kind_range g).2 v h hb hbuf (by omega)

set_option maxRecDepth 20000 in
/-- MarshalString. -/
theorem marshal_any {nf : Nat → Bs} {q : Nat → Prop} (hN : NumF nf q) (n : Nat) (w0 : World) (g : Geo) (v : Value) (t : Bs) (h : (geoK n).K w0 g [v]) (hf : textE nf g t) (ha : AllC q g) (hT : Tb w0) (h22 : 22 < w0.heap.size) (hl : 100 * (wt g + 1) ≤ 900000000) :
    Calls Tryz.prog 35 #[v] w0 fun e w' => e = .returned (S t) ∧ Below w0.heap.size w0 w' := by
  have hnew : Calls Tryz.prog 65 #[.slice none 0 0] w0 fun e w' => e = .returned (.pointer (some ⟨w0.heap.size, 0, none⟩)) ∧ w' = w0.alloc (.cells #[.slice none 0 0, .int .i64 0, .int .i8 0] 123) := by
    go_enter Tryz.func65, Tryz.ntmps65
    go_wp2
    go_ret
    exact ⟨rfl, rfl⟩
  have hfresh : BufB w0.heap.size w0.heap.size [] (w0.alloc (.cells #[.slice none 0 0, .int .i64 0, .int .i8 0] 123)) := Lib.fresh_isBuffer 123 5 w0
  have hcall := wkt_both hN n w0 _ w0.heap.size [] g v t h hf ha (below_alloc1 w0 (.cells #[.slice none 0 0, .int .i64 0, .int .i8 0] 123)) hfresh hT h22 (by simpa using hl)
  clear hfresh
  go_enter Tryz.func35, Tryz.ntmps35
  go_wp2_with fail
  refine hnew.mono ?_
  clear hnew
  rintro e w1 ⟨rfl, hw1⟩
  rw [← hw1] at hcall
  clear hw1
  go_wp2_with fail
  refine hcall.mono ?_
  clear hcall
  rintro e w2 ⟨rfl, hu2, hb2⟩
  have hstr := Tryz.Buffer_String w0.heap.size w0.heap.size t w2 (by simpa using hu2)
  have HB2 := Lib.hid hb2
  clear hu2 hb2
  go_wp2_with fail
  refine hstr.mono ?_
  clear hstr
  rintro e w3 ⟨rfl, k, hw3⟩
  have HB3 := Lib.hid (show Below w0.heap.size w0 w3 by rw [hw3]; exact HB2.out.trans ((below_drewN w2 k).mono HB2.out.size))
  clear hw3
  go_wp2
  go_ret
  exact ⟨rfl, HB3.out⟩
end Go.Proofs.YtghajgdiaopioaaGreatDoor
end
