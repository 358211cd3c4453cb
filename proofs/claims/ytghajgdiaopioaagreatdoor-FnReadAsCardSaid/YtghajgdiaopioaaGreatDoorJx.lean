/- Walks and plain laws joined (Re, Rf). Conditions: stand in each law. -/
import Derived.Test.YtghajgdiaopioaaGreatDoorJw
import Derived.Test.YtghajgdiaopioaaGreatDoorJk
/- Walks: the spec's Text, points and the kinds with parts. Conditions: stand in each contract. -/
section
set_option linter.unusedVariables false
set_option linter.unusedSimpArgs false
namespace Go.Proofs.YtghajgdiaopioaaGreatDoor
open Go.RowKit Go.Proofs Tx
open Go.Proofs.YtghajgdiaopioaaGreatDoorW.PrintWords

theorem one_pt {x y : Nat} (h : Wn x ∧ Wn y) : ∀ p ∈ [((x, y) : Pt)], Wn p.1 ∧ Wn p.2 := by
  intro p hp
  have e : p = (x, y) := by simpa using hp
  rw [e]; exact h
theorem third_eq {x y x' y' : Value} {A B : Option Addr} {n c n' c' : Nat} (h : Value.agg #[x, y, .slice A n c] = Value.agg #[x', y', .slice B n' c']) : A = B := by
  injection h with h
  have h2 := congrArg (fun a : Array Value => a[2]?) h
  simp at h2
  exact h2.1
theorem cell_lt3 {w : World} {a : Addr} {v : Value} (h : w.cell? a = some v) : a.block < w.heap.size := by
  rcases Nat.lt_or_ge a.block w.heap.size with h' | h'
  · exact h'
  · simp [World.cell?, Array.getElem?_eq_none h'] at h
theorem cell_kept3 {w w' : World} {a : Addr} {v : Value} (h : w.cell? a = some v) (hb : Below w.heap.size w w') : w'.cell? a = some v := cell_below h hb (cell_lt3 h)

set_option maxRecDepth 40000 in
set_option maxHeartbeats 2000000 in
theorem tx_mpoint (n : Nat) (w : World) (sm : Bool) (sp : Bs) (A A' : Option Addr) (c c' : Nat) (ps : List Pt) (hV : ShV n w (.mk 4 [ps] []) (.agg #[.int .i64 4, .slice A 1 c, .slice A' 0 c'])) (hE : En w) (hsp : sp.length ≤ 1) (hP : (ptsS (.mk 4 [ps] [])).length ≤ 1000000000) (hne : ¬ (ptsS (.mk 4 [ps] [])).length = 0) (hq : ∀ p ∈ ps, Wn p.1 ∧ Wn p.2) (hl : ps.length ≤ 1000000) :
    Calls Tryz.prog 14 #[.agg #[.bool sm, S sp], .agg #[.int .i64 4, .slice A 1 c, .slice A' 0 c']] w fun e w' => e = .returned (S (low sm (word 4) ++ sp ++ br (joinS (44 :: sp) (ps.map fun a => ptsT nfW sp [a])))) ∧ Below w.heap.size w w' := by
  have hb0 := (below_alloc1 w (.cells #[.bool sm, S sp] 31)).alloc (by simp) (.cells #[.int .i64 4, .slice A 1 c, .slice A' 0 c'] 25)
  have hks := blk_alloc (blk_new w (.cells #[.bool sm, S sp] 31)) (.cells #[.int .i64 4, .slice A 1 c, .slice A' 0 c'] 25)
  have hkv : ((w.alloc (.cells #[.bool sm, S sp] 31)).alloc (.cells #[.int .i64 4, .slice A 1 c, .slice A' 0 c'] 25)).heap[w.heap.size + 1]? = some (.cells #[.int .i64 4, .slice A 1 c, .slice A' 0 c'] 25 (0, 0)) := by
    have := blk_new (w.alloc (.cells #[.bool sm, S sp] 31)) (.cells #[.int .i64 4, .slice A 1 c, .slice A' 0 c'] 25)
    simpa using this
  have s0 := blk_cell hks 0
  have s1 := blk_cell hks 1
  obtain ⟨m0, m1, m2, n0, n1, n2⟩ := three_facts hkv
  have hE0 := hE.low hb0
  have hbig := hE.big
  have hcall := word_any _ sm sp 4 (by omega) hE0.wd (by have := hE0.big; omega)
  have hwl := word_len sm 4
  obtain ⟨W, hW⟩ : ∃ W, W = low sm (word 4) := ⟨_, rfl⟩
  rw [← hW] at hcall hwl
  have HB0 := Lib.hid hb0
  have HKS := Lib.hid hks
  have HKV := Lib.hid hkv
  have HE := Lib.hid hE
  have HV := Lib.hid hV
  have HW := Lib.hid hW
  have hsz0 : ((w.alloc (.cells #[.bool sm, S sp] 31)).alloc (.cells #[.int .i64 4, .slice A 1 c, .slice A' 0 c'] 25)).heap.size = w.heap.size + 2 := by simp
  have HSZ := Lib.hid hsz0
  clear hb0 hks hkv hE hE0 hW hV hsz0
  go_enter Tryz.func14, Tryz.ntmps14
  go_wp2_with fail
  refine hcall.mono ?_
  clear hcall
  rintro e w2 ⟨rfl, hb2⟩
  have HB2 := Lib.hid (below_then HB0.out HB0.out.size hb2)
  have HB2S := Lib.hid (show w.heap.size + 2 ≤ w2.heap.size by have h1 := hb2.size; have h2 := HSZ.out; omega)
  have HKS2 := Lib.hid (blk_below HKS.out hb2)
  have HKV2 := Lib.hid (blk_below HKV.out hb2)
  clear hb2
  have s0a := blk_cell HKS2.out 0
  have s1a := blk_cell HKS2.out 1
  obtain ⟨m0a, m1a, m2a, n0a, n1a, n2a⟩ := three_facts HKV2.out
  have hcall := points_any n w2 (.mk 4 [ps] []) _ (HV.out.below HB2.out) hP
  go_wp2_with fail
  refine hcall.mono ?_
  clear hcall
  rintro e w3 ⟨y, rfl, hy, hb3⟩
  obtain ⟨Az, nz, cz, rfl⟩ := R_sl hy
  obtain ⟨hnz, -, -⟩ := Kd.R_reads' hy
  have HB3 := Lib.hid (below_then HB2.out HB2.out.size hb3)
  have HB3S := Lib.hid hb3.size
  have HKS3 := Lib.hid (blk_below HKS2.out hb3)
  have HKV3 := Lib.hid (blk_below HKV2.out hb3)
  clear hb3 hy s0 s1 m0 m1 m2 n0 n1 n2 s0a s1a m0a m1a m2a n0a n1a n2a
  have s0b := blk_cell HKS3.out 0
  have s1b := blk_cell HKS3.out 1
  obtain ⟨m0b, m1b, m2b, n0b, n1b, n2b⟩ := three_facts HKV3.out
  have HS3 := Lib.hid (show w.heap.size + 2 ≤ w3.heap.size by have h1 := HB2S.out; have h2 := HB3S.out; omega)
  have hz := beq0n (show ¬ nz = 0 by rw [hnz]; exact hne)
  have k0 : (9223372036854775807 < W.length + sp.length) = False := by simp; omega
  clear hnz
  have hC3 : rowK.C w3 A [ps].length [ps] := by
    obtain ⟨B1, d1, B2, d2, he, h1, -⟩ := HV.out.below HB3.out
    cases he
    exact h1
  obtain ⟨ad, A2, c2, rfl, q0, hC4⟩ := get_row1 hC3 rfl 0 (by simp)
  rw [add0'] at q0
  simp only [List.getElem_cons_zero] at q0 hC4
  have q0x : (w3.alloc (.cells #[] 9)).cell? ad = some (.slice A2 ps.length c2) := cell_kept3 q0 (below_alloc1 _ _)
  have HC4 := Lib.hid hC4
  have x0 := blk_cell (blk_alloc HKS3.out (.cells #[] 9 (0, 0))) 0
  obtain ⟨z0, z1, z2, y0, y1, y2⟩ := three_facts (blk_alloc HKV3.out (.cells #[] 9 (0, 0)))
  clear hC3 hC4
  have HBND := Lib.hid (show ((ps.map (fun a => ptsT nfW sp [a])).map fun x => x.length + 2).sum ≤ 100000000 by
    rw [List.map_map]
    have h2 := sum_le (l := ps) (f := (fun x : Bs => x.length + 2) ∘ fun a => ptsT nfW sp [a]) (g := fun _ => 80) fun p hp => by
      have h3 := pts_len (nf := nfW) hsp (ps := [p]) fun p' hp' => by
        have e : p' = p := by simpa using hp'
        rw [e]
        exact ⟨by have := (hq p hp).1.short; unfold Nl; omega, by have := (hq p hp).2.short; unfold Nl; omega⟩
      simp only [Function.comp_def, List.length_cons, List.length_nil] at h3 ⊢
      omega
    rw [const_sum] at h2
    omega)
  have htl : (br (joinS (44 :: sp) (ps.map (fun a => ptsT nfW sp [a])))).length ≤ 200000000 := by
    have h1 := join_len (44 :: sp) (ps.map (fun a => ptsT nfW sp [a]))
    have h2 := sum_le (l := ps.map (fun a => ptsT nfW sp [a])) (f := fun x : Bs => x.length + (44 :: sp).length) (g := fun x => x.length + 2) fun x _ => by simp only [List.length_cons]; omega
    have h3 := HBND.out
    have hbr : ∀ l : Bs, (br l).length = l.length + 2 := by intro l; simp [br]
    rw [hbr]
    omega
  have hll : ps.length ≤ 100000000 := by
    have h1 := len_sum (fun x : Bs => x.length + 2) (ps.map (fun a => ptsT nfW sp [a])) fun _ _ => by omega
    have h2 := HBND.out
    rw [List.length_map] at h1
    omega
  have hsz3 := HB3.out.size
  have hsz3' : w.heap.size + 2 ≤ w3.heap.size := by have := (below_then HB0.out HB0.out.size (Below.refl _ _)).size; have h4 := HS3.out; omega
  go_wp2
  go_loopw [6, 60] (fun v5 v11 wr => ∃ (B' : Option Addr) (k' d' j : Nat), v5 = .slice B' k' d' ∧ v11 = .int .i64 j ∧ j ≤ ps.length ∧ Below w3.heap.size w3 wr ∧ bsK.R 9 wr w3.heap.size (fun _ => True) (.slice B' k' d') ((ps.take j).map (fun a => ptsT nfW sp [a]))) (fun v5 v11 wr => ps.length - (intOf v11).toNat)
  case atStart => exact ⟨_, _, _, 0, rfl, rfl, Nat.zero_le _, below_alloc1 _ _, by simpa using R_empty bsK 9 w3⟩
  case round =>
    obtain ⟨B', k', d', j, rfl, rfl, hj, hb, hR⟩ := hrel
    have hszr := hb.size
    have hks := blk_below HKS3.out hb
    have hkv := blk_below HKV3.out hb
    have u0 := blk_cell hks 0
    have u1 := blk_cell hks 1
    obtain ⟨a0, a1, a2, b0, b1, b2⟩ := three_facts hkv
    have HKS4 := Lib.hid hks
    have HKV4 := Lib.hid hkv
    have HR := Lib.hid hR
    have HB := Lib.hid hb
    clear hks hkv hR hb
    by_cases hlt : j < ps.length
    · have HSN := Lib.hid (show (ps.take (j + 1)).map (fun a => ptsT nfW sp [a]) = (ps.take j).map (fun a => ptsT nfW sp [a]) ++ [(fun a => ptsT nfW sp [a]) ps[j]] by rw [take_snoc hlt, List.map_append]; rfl)
      obtain ⟨ad2, rfl, p0, p1⟩ := get_pt (Kd.C_below HC4.out HB.out) rfl j hlt
      have hqj := hq ps[j] (List.getElem_mem hlt)
      obtain ⟨x, hx⟩ : ∃ x, x = ps[j].1 := ⟨_, rfl⟩
      obtain ⟨y, hy⟩ : ∃ y, y = ps[j].2 := ⟨_, rfl⟩
      have hxy : ps[j] = (x, y) := by rw [hx, hy]
      have HSN2 := HSN
      have hsn := HSN.out
      rw [hxy] at hsn hqj
      have HSN := Lib.hid hsn
      rw [← hx] at p0
      rw [← hy] at p1
      have hbo := (below_alloc1 wr (.cells #[.float .f64 x, .float .f64 y] 49)).alloc (by simp) (.cells #[.float .f64 x, .float .f64 y] 49)
      have hCp : ptK.C ((wr.alloc (.cells #[.float .f64 x, .float .f64 y] 49)).alloc (.cells #[.float .f64 x, .float .f64 y] 49)) (some ⟨wr.heap.size + 1, 0, none⟩) [(x, y)].length [(x, y)] :=
        (Kd.R_reads' (R_one_at ptK (wr.alloc (.cells #[.float .f64 x, .float .f64 y] 49)) 0 49 (fun _ => True) (x, y) [.float .f64 x, .float .f64 y] (wr.heap.size + 1) (by simp) (ptK_M _ _ _ _) (by simp) trivial)).2.2
      have hcall := lt_any ((wr.alloc (.cells #[.float .f64 x, .float .f64 y] 49)).alloc (.cells #[.float .f64 x, .float .f64 y] 49)) sm sp (some ⟨wr.heap.size + 1, 0, none⟩) 1 [(x, y)] hCp (one_pt hqj) ((HE.out.low (below_then HB3.out HB3.out.size HB.out)).low hbo) hsp (by simp)
      have HBO := Lib.hid hbo
      have g0 := blk_cell (blk_alloc HKS4.out (.cells #[.float .f64 x, .float .f64 y] 49 (0, 0))) 0
      have g1 := blk_cell (blk_alloc HKS4.out (.cells #[.float .f64 x, .float .f64 y] 49 (0, 0))) 1
      clear hx hy hxy hbo hsn hCp hqj
      go_wp2_with fail
      refine hcall.mono ?_
      clear hcall
      rintro e w4 ⟨rfl, hb4⟩
      have hb4' := below_then HBO.out (by first | (simp; done) | (simp; omega)) hb4
      have hs4 := hb4'.size
      have HB2' := Lib.hid hb4'
      clear hb4 hb4'
      go_wp2_with (at_builtin; go_loud (refine Kd.R_append bsK (w0 := w3) w3.heap.size rfl (.tmp 64) (.tmp 69) 46 9 (.string ⟨#[]⟩) 16 rfl Tryz.underlying46 info9' rfl (by decide) (by decide) (.slice B' k' d') ((ps.take j).map (fun a => ptsT nfW sp [a])) (ptsT nfW sp [(x, y)]) [S (ptsT nfW sp [(x, y)])] (fun _ => True) (fun _ => False) rfl (by simp [Act.eval]) ?hp ?hokp ?hfresh ?HO ?HB ?hbase ?hl ?_))
      case hp => exact (show [S (ptsT nfW sp [(x, y)])] = [S (ptsT nfW sp [(x, y)])] from rfl)
      case hokp => exact fun _ h => h.elim
      case hfresh => exact fun _ _ => trivial
      case HO => exact Kd.R_below HR.out HB2'.out
      case HB => exact HB.out.trans (HB2'.out.mono hszr)
      case hbase => omega
      case hl => simp; omega
      intro v1 w5 hR4 hb5 hg5 hat5
      obtain ⟨A1, n1', c1, rfl⟩ := R_sl hR4
      have HR4 := Lib.hid (show bsK.R 9 w5 w3.heap.size (fun _ => True) (.slice A1 n1' c1) ((ps.take (j + 1)).map (fun a => ptsT nfW sp [a])) by rw [HSN.out]; simpa using hR4)
      have HB5 := Lib.hid hb5
      clear hR4 hb5 hg5 hat5
      go_wp2
      exact ⟨⟨A1, n1', c1, j + 1, rfl, by go_num, by omega, HB5.out, HR4.out⟩, by simp [intOf]; omega⟩

    · have e1 : ps.take j = ps := List.take_of_length_le (by omega)
      have hR := HR.out
      rw [e1] at hR
      obtain ⟨hnz, -, hCz⟩ := Kd.R_reads' hR
      have hcall := joined_any wr sm sp B' d' (ps.map (fun a => ptsT nfW sp [a])) hCz hsp (by have := HBND.out; omega)
      rw [← hnz] at hcall
      obtain ⟨T, hT⟩ : ∃ T, T = br (joinS (44 :: sp) (ps.map (fun a => ptsT nfW sp [a]))) := ⟨_, rfl⟩
      rw [← hT] at hcall htl
      have HT := Lib.hid hT
      have k1 : (9223372036854775807 < W.length + sp.length + T.length) = False := by simp; omega
      have HBW := Lib.hid (below_then HB3.out HB3.out.size HB.out)
      clear e1 hR hnz hCz hT
      go_wp2_with fail
      refine hcall.mono ?_
      clear hcall
      rintro e w6 ⟨rfl, hb6⟩
      have HB6 := Lib.hid (below_then HBW.out HBW.out.size hb6)
      clear hb6
      go_wp2
      go_ret
      exact ⟨by rw [HW.out, HT.out]; simp, HB6.out⟩

set_option maxRecDepth 40000 in
set_option maxHeartbeats 2000000 in
theorem tx_mpoly (n : Nat) (w : World) (sm : Bool) (sp : Bs) (A A' : Option Addr) (c c' : Nat) (qs : List (List (List Pt))) (hV : ShV n w (.mk 6 [] (qs.map fun q => Sh.mk 3 q [])) (.agg #[.int .i64 6, .slice A 0 c, .slice A' qs.length c'])) (hE : En w) (hsp : sp.length ≤ 1) (hP : (ptsS (.mk 6 [] (qs.map fun q => Sh.mk 3 q []))).length ≤ 1000000000) (hne : ¬ (ptsS (.mk 6 [] (qs.map fun q => Sh.mk 3 q []))).length = 0) (hq : ∀ q ∈ qs, ∀ r ∈ q, ∀ p ∈ r, Wn p.1 ∧ Wn p.2) (hl : (qs.map fun q => wtL q + 1).sum ≤ 1000000) :
    Calls Tryz.prog 14 #[.agg #[.bool sm, S sp], .agg #[.int .i64 6, .slice A 0 c, .slice A' qs.length c']] w fun e w' => e = .returned (S (low sm (word 6) ++ sp ++ br (joinS (44 :: sp) (qs.map (ringsT nfW sp))))) ∧ Below w.heap.size w w' := by
  have hb0 := (below_alloc1 w (.cells #[.bool sm, S sp] 31)).alloc (by simp) (.cells #[.int .i64 6, .slice A 0 c, .slice A' qs.length c'] 25)
  have hks := blk_alloc (blk_new w (.cells #[.bool sm, S sp] 31)) (.cells #[.int .i64 6, .slice A 0 c, .slice A' qs.length c'] 25)
  have hkv : ((w.alloc (.cells #[.bool sm, S sp] 31)).alloc (.cells #[.int .i64 6, .slice A 0 c, .slice A' qs.length c'] 25)).heap[w.heap.size + 1]? = some (.cells #[.int .i64 6, .slice A 0 c, .slice A' qs.length c'] 25 (0, 0)) := by
    have := blk_new (w.alloc (.cells #[.bool sm, S sp] 31)) (.cells #[.int .i64 6, .slice A 0 c, .slice A' qs.length c'] 25)
    simpa using this
  have s0 := blk_cell hks 0
  have s1 := blk_cell hks 1
  obtain ⟨m0, m1, m2, n0, n1, n2⟩ := three_facts hkv
  have hE0 := hE.low hb0
  have hbig := hE.big
  have hcall := word_any _ sm sp 6 (by omega) hE0.wd (by have := hE0.big; omega)
  have hwl := word_len sm 6
  obtain ⟨W, hW⟩ : ∃ W, W = low sm (word 6) := ⟨_, rfl⟩
  rw [← hW] at hcall hwl
  have HB0 := Lib.hid hb0
  have HKS := Lib.hid hks
  have HKV := Lib.hid hkv
  have HE := Lib.hid hE
  have HV := Lib.hid hV
  have HW := Lib.hid hW
  have hsz0 : ((w.alloc (.cells #[.bool sm, S sp] 31)).alloc (.cells #[.int .i64 6, .slice A 0 c, .slice A' qs.length c'] 25)).heap.size = w.heap.size + 2 := by simp
  have HSZ := Lib.hid hsz0
  clear hb0 hks hkv hE hE0 hW hV hsz0
  go_enter Tryz.func14, Tryz.ntmps14
  go_wp2_with fail
  refine hcall.mono ?_
  clear hcall
  rintro e w2 ⟨rfl, hb2⟩
  have HB2 := Lib.hid (below_then HB0.out HB0.out.size hb2)
  have HB2S := Lib.hid (show w.heap.size + 2 ≤ w2.heap.size by have h1 := hb2.size; have h2 := HSZ.out; omega)
  have HKS2 := Lib.hid (blk_below HKS.out hb2)
  have HKV2 := Lib.hid (blk_below HKV.out hb2)
  clear hb2
  have s0a := blk_cell HKS2.out 0
  have s1a := blk_cell HKS2.out 1
  obtain ⟨m0a, m1a, m2a, n0a, n1a, n2a⟩ := three_facts HKV2.out
  have hcall := points_any n w2 (.mk 6 [] (qs.map fun q => Sh.mk 3 q [])) _ (HV.out.below HB2.out) hP
  go_wp2_with fail
  refine hcall.mono ?_
  clear hcall
  rintro e w3 ⟨y, rfl, hy, hb3⟩
  obtain ⟨Az, nz, cz, rfl⟩ := R_sl hy
  obtain ⟨hnz, -, -⟩ := Kd.R_reads' hy
  have HB3 := Lib.hid (below_then HB2.out HB2.out.size hb3)
  have HB3S := Lib.hid hb3.size
  have HKS3 := Lib.hid (blk_below HKS2.out hb3)
  have HKV3 := Lib.hid (blk_below HKV2.out hb3)
  clear hb3 hy s0 s1 m0 m1 m2 n0 n1 n2 s0a s1a m0a m1a m2a n0a n1a n2a
  have s0b := blk_cell HKS3.out 0
  have s1b := blk_cell HKS3.out 1
  obtain ⟨m0b, m1b, m2b, n0b, n1b, n2b⟩ := three_facts HKV3.out
  have HS3 := Lib.hid (show w.heap.size + 2 ≤ w3.heap.size by have h1 := HB2S.out; have h2 := HB3S.out; omega)
  have hz := beq0n (show ¬ nz = 0 by rw [hnz]; exact hne)
  have k0 : (9223372036854775807 < W.length + sp.length) = False := by simp; omega
  clear hnz
  have hC3 : (shK n).C w3 A' (qs.map fun q => Sh.mk 3 q []).length (qs.map fun q => Sh.mk 3 q []) := by
    obtain ⟨B1, d1, B2, d2, he, -, h1⟩ := HV.out.below HB3.out
    have hB : A' = B2 := third_eq he
    rw [hB]
    exact h1
  have HC3 := Lib.hid hC3
  have x0 := blk_cell (blk_alloc HKS3.out (.cells #[] 9 (0, 0))) 0
  obtain ⟨z0, z1, z2, y0, y1, y2⟩ := three_facts (blk_alloc HKV3.out (.cells #[] 9 (0, 0)))
  clear hC3
  have HBND := Lib.hid (show ((qs.map (ringsT nfW sp)).map fun x => x.length + 2).sum ≤ 100000000 by
    rw [List.map_map]
    have h2 := sum_le (l := qs) (f := (fun x : Bs => x.length + 2) ∘ ringsT nfW sp) (g := fun q => 70 * (wtL q + 1)) fun q hq1 => by
      have h3 := rings_len (nf := nfW) hsp (rs := q) fun r hr p hp => ⟨by have := (hq q hq1 r hr p hp).1.short; unfold Nl; omega, by have := (hq q hq1 r hr p hp).2.short; unfold Nl; omega⟩
      simp only [Function.comp_def]
      omega
    rw [sum_mul] at h2
    omega)
  have htl : (br (joinS (44 :: sp) (qs.map (ringsT nfW sp)))).length ≤ 200000000 := by
    have h1 := join_len (44 :: sp) (qs.map (ringsT nfW sp))
    have h2 := sum_le (l := qs.map (ringsT nfW sp)) (f := fun x : Bs => x.length + (44 :: sp).length) (g := fun x => x.length + 2) fun x _ => by simp only [List.length_cons]; omega
    have h3 := HBND.out
    have hbr : ∀ l : Bs, (br l).length = l.length + 2 := by intro l; simp [br]
    rw [hbr]
    omega
  have hll : qs.length ≤ 100000000 := by
    have h1 := len_sum (fun x : Bs => x.length + 2) (qs.map (ringsT nfW sp)) fun _ _ => by omega
    have h2 := HBND.out
    rw [List.length_map] at h1
    omega
  have hsz3 := HB3.out.size
  have hsz3' : w.heap.size + 2 ≤ w3.heap.size := by have := (below_then HB0.out HB0.out.size (Below.refl _ _)).size; have h4 := HS3.out; omega
  go_wp2
  go_loopw [9, 81] (fun v5 v11 wr => ∃ (B' : Option Addr) (k' d' j : Nat), v5 = .slice B' k' d' ∧ v11 = .int .i64 j ∧ j ≤ qs.length ∧ Below w3.heap.size w3 wr ∧ bsK.R 9 wr w3.heap.size (fun _ => True) (.slice B' k' d') ((qs.take j).map (ringsT nfW sp))) (fun v5 v11 wr => qs.length - (intOf v11).toNat)
  case atStart => exact ⟨_, _, _, 0, rfl, rfl, Nat.zero_le _, below_alloc1 _ _, by simpa using R_empty bsK 9 w3⟩
  case round =>
    obtain ⟨B', k', d', j, rfl, rfl, hj, hb, hR⟩ := hrel
    have hszr := hb.size
    have hks := blk_below HKS3.out hb
    have hkv := blk_below HKV3.out hb
    have u0 := blk_cell hks 0
    have u1 := blk_cell hks 1
    obtain ⟨a0, a1, a2, b0, b1, b2⟩ := three_facts hkv
    have HKS4 := Lib.hid hks
    have HKV4 := Lib.hid hkv
    have HR := Lib.hid hR
    have HB := Lib.hid hb
    clear hks hkv hR hb
    by_cases hlt : j < qs.length
    · have HSN := Lib.hid (show (qs.take (j + 1)).map (ringsT nfW sp) = (qs.take j).map (ringsT nfW sp) ++ [(ringsT nfW sp) qs[j]] by rw [take_snoc hlt, List.map_append]; rfl)
      obtain ⟨k2, ad, A2, c2, A3, c3, hn2, rfl, q0, q1, q2, hC2, -⟩ := get_sh (Kd.C_below HC3.out HB.out) rfl j (by simpa using hlt)
      simp only [List.getElem_map] at q0 q1 q2 hC2
      simp only [Sh.kind, Sh.lists, Sh.parts, List.length_nil] at q0 q1 q2 hC2
      have hqj := hq qs[j] (List.getElem_mem hlt)
      have hlj : wtL qs[j] ≤ 1000000 := by
        have := le_sum (List.mem_map_of_mem (f := fun q : List (List Pt) => wtL q + 1) (List.getElem_mem hlt))
        omega
      have hsn := HSN.out
      obtain ⟨r, hr⟩ : ∃ r, r = qs[j] := ⟨_, rfl⟩
      rw [← hr] at q1 hC2 hqj hsn hlj
      have HSN := Lib.hid hsn
      have hbo := below_alloc1 wr (.cells #[.int .i64 3, .slice A2 r.length c2, .slice A3 0 c3] 25)
      have hko := blk_new wr (.cells #[.int .i64 3, .slice A2 r.length c2, .slice A3 0 c3] 25)
      obtain ⟨o0, o1, o2, o3, o4, o5⟩ := three_facts hko
      have hcall := ls_any (wr.alloc (.cells #[.int .i64 3, .slice A2 r.length c2, .slice A3 0 c3] 25)) sm sp A2 c2 r (Kd.C_below hC2 hbo) hqj ((HE.out.low (below_then HB3.out HB3.out.size HB.out)).low hbo) hsp hlj
      have HBO := Lib.hid hbo
      have g0 := blk_cell (blk_alloc HKS4.out (.cells #[.int .i64 3, .slice A2 r.length c2, .slice A3 0 c3] 25 (0, 0))) 0
      have g0' := blk_cell (blk_alloc HKS4.out (.cells #[.int .i64 3, .slice A2 r.length c2, .slice A3 0 c3] 25 (0, 0))) 1
      obtain ⟨j0, j1, j2, j3, j4, j5⟩ := three_facts (blk_alloc HKV4.out (.cells #[.int .i64 3, .slice A2 r.length c2, .slice A3 0 c3] 25 (0, 0)))
      clear hr hbo hsn hC2 hqj hn2 hko
      go_wp2_with fail
      refine hcall.mono ?_
      clear hcall
      rintro e w4 ⟨rfl, hb4⟩
      have hb4' := below_then HBO.out (by first | (simp; done) | (simp; omega)) hb4
      have hs4 := hb4'.size
      have HB2' := Lib.hid hb4'
      clear hb4 hb4'
      go_wp2_with (at_builtin; go_loud (refine Kd.R_append bsK (w0 := w3) w3.heap.size rfl (.tmp 88) (.tmp 93) 46 9 (.string ⟨#[]⟩) 16 rfl Tryz.underlying46 info9' rfl (by decide) (by decide) (.slice B' k' d') ((qs.take j).map (ringsT nfW sp)) (ringsT nfW sp r) [S (ringsT nfW sp r)] (fun _ => True) (fun _ => False) rfl (by simp [Act.eval]) ?hp ?hokp ?hfresh ?HO ?HB ?hbase ?hl ?_))
      case hp => exact (show [S (ringsT nfW sp r)] = [S (ringsT nfW sp r)] from rfl)
      case hokp => exact fun _ h => h.elim
      case hfresh => exact fun _ _ => trivial
      case HO => exact Kd.R_below HR.out HB2'.out
      case HB => exact HB.out.trans (HB2'.out.mono hszr)
      case hbase => omega
      case hl => simp; omega
      intro v1 w5 hR4 hb5 hg5 hat5
      obtain ⟨A1, n1', c1, rfl⟩ := R_sl hR4
      have HR4 := Lib.hid (show bsK.R 9 w5 w3.heap.size (fun _ => True) (.slice A1 n1' c1) ((qs.take (j + 1)).map (ringsT nfW sp)) by rw [HSN.out]; simpa using hR4)
      have HB5 := Lib.hid hb5
      clear hR4 hb5 hg5 hat5
      go_wp2
      exact ⟨⟨A1, n1', c1, j + 1, rfl, by go_num, by omega, HB5.out, HR4.out⟩, by simp [intOf]; omega⟩

    · have e1 : qs.take j = qs := List.take_of_length_le (by omega)
      have hR := HR.out
      rw [e1] at hR
      obtain ⟨hnz, -, hCz⟩ := Kd.R_reads' hR
      have hcall := joined_any wr sm sp B' d' (qs.map (ringsT nfW sp)) hCz hsp (by have := HBND.out; omega)
      rw [← hnz] at hcall
      obtain ⟨T, hT⟩ : ∃ T, T = br (joinS (44 :: sp) (qs.map (ringsT nfW sp))) := ⟨_, rfl⟩
      rw [← hT] at hcall htl
      have HT := Lib.hid hT
      have k1 : (9223372036854775807 < W.length + sp.length + T.length) = False := by simp; omega
      have HBW := Lib.hid (below_then HB3.out HB3.out.size HB.out)
      clear e1 hR hnz hCz hT
      go_wp2_with fail
      refine hcall.mono ?_
      clear hcall
      rintro e w6 ⟨rfl, hb6⟩
      have HB6 := Lib.hid (below_then HBW.out HBW.out.size hb6)
      clear hb6
      go_wp2
      go_ret
      exact ⟨by rw [HW.out, HT.out]; simp, HB6.out⟩

set_option maxRecDepth 40000 in
set_option maxHeartbeats 2000000 in
theorem tx_coll (n : Nat) (w : World) (sm : Bool) (sp : Bs) (A A' : Option Addr) (c c' : Nat) (gs : List Geo) (ih : ∀ k, n = k + 1 → ∀ (w : World) (sm : Bool) (sp : Bs) (g : Geo) (v : Value), ShV k w (shOf g) v → En w → sp.length ≤ 1 → fullS (shOf g) = true → AllC Wn g → wt g ≤ 1000000 → Calls Tryz.prog 14 #[.agg #[.bool sm, S sp], v] w fun e w' => e = .returned (S (text nfW sp sm g)) ∧ Below w.heap.size w w') (hV : ShV n w (.mk 7 [] (gs.map shOf)) (.agg #[.int .i64 7, .slice A 0 c, .slice A' gs.length c'])) (hE : En w) (hsp : sp.length ≤ 1) (hP : (ptsS (.mk 7 [] (gs.map shOf))).length ≤ 1000000000) (hne : ¬ (ptsS (.mk 7 [] (gs.map shOf))).length = 0) (hf : ∀ g ∈ gs, fullS (shOf g) = true) (hq : ∀ g ∈ gs, AllC Wn g) (hl : (gs.map wt).sum ≤ 1000000) :
    Calls Tryz.prog 14 #[.agg #[.bool sm, S sp], .agg #[.int .i64 7, .slice A 0 c, .slice A' gs.length c']] w fun e w' => e = .returned (S (low sm (word 7) ++ sp ++ br (joinS (44 :: sp) (gs.map (text nfW sp sm))))) ∧ Below w.heap.size w w' := by
  have hb0 := (below_alloc1 w (.cells #[.bool sm, S sp] 31)).alloc (by simp) (.cells #[.int .i64 7, .slice A 0 c, .slice A' gs.length c'] 25)
  have hks := blk_alloc (blk_new w (.cells #[.bool sm, S sp] 31)) (.cells #[.int .i64 7, .slice A 0 c, .slice A' gs.length c'] 25)
  have hkv : ((w.alloc (.cells #[.bool sm, S sp] 31)).alloc (.cells #[.int .i64 7, .slice A 0 c, .slice A' gs.length c'] 25)).heap[w.heap.size + 1]? = some (.cells #[.int .i64 7, .slice A 0 c, .slice A' gs.length c'] 25 (0, 0)) := by
    have := blk_new (w.alloc (.cells #[.bool sm, S sp] 31)) (.cells #[.int .i64 7, .slice A 0 c, .slice A' gs.length c'] 25)
    simpa using this
  have s0 := blk_cell hks 0
  have s1 := blk_cell hks 1
  obtain ⟨m0, m1, m2, n0, n1, n2⟩ := three_facts hkv
  have hE0 := hE.low hb0
  have hbig := hE.big
  have hcall := word_any _ sm sp 7 (by omega) hE0.wd (by have := hE0.big; omega)
  have hwl := word_len sm 7
  obtain ⟨W, hW⟩ : ∃ W, W = low sm (word 7) := ⟨_, rfl⟩
  rw [← hW] at hcall hwl
  have HB0 := Lib.hid hb0
  have HKS := Lib.hid hks
  have HKV := Lib.hid hkv
  have HE := Lib.hid hE
  have HV := Lib.hid hV
  have HW := Lib.hid hW
  have hsz0 : ((w.alloc (.cells #[.bool sm, S sp] 31)).alloc (.cells #[.int .i64 7, .slice A 0 c, .slice A' gs.length c'] 25)).heap.size = w.heap.size + 2 := by simp
  have HSZ := Lib.hid hsz0
  clear hb0 hks hkv hE hE0 hW hV hsz0
  go_enter Tryz.func14, Tryz.ntmps14
  go_wp2_with fail
  refine hcall.mono ?_
  clear hcall
  rintro e w2 ⟨rfl, hb2⟩
  have HB2 := Lib.hid (below_then HB0.out HB0.out.size hb2)
  have HB2S := Lib.hid (show w.heap.size + 2 ≤ w2.heap.size by have h1 := hb2.size; have h2 := HSZ.out; omega)
  have HKS2 := Lib.hid (blk_below HKS.out hb2)
  have HKV2 := Lib.hid (blk_below HKV.out hb2)
  clear hb2
  have s0a := blk_cell HKS2.out 0
  have s1a := blk_cell HKS2.out 1
  obtain ⟨m0a, m1a, m2a, n0a, n1a, n2a⟩ := three_facts HKV2.out
  have hcall := points_any n w2 (.mk 7 [] (gs.map shOf)) _ (HV.out.below HB2.out) hP
  go_wp2_with fail
  refine hcall.mono ?_
  clear hcall
  rintro e w3 ⟨y, rfl, hy, hb3⟩
  obtain ⟨Az, nz, cz, rfl⟩ := R_sl hy
  obtain ⟨hnz, -, -⟩ := Kd.R_reads' hy
  have HB3 := Lib.hid (below_then HB2.out HB2.out.size hb3)
  have HB3S := Lib.hid hb3.size
  have HKS3 := Lib.hid (blk_below HKS2.out hb3)
  have HKV3 := Lib.hid (blk_below HKV2.out hb3)
  clear hb3 hy s0 s1 m0 m1 m2 n0 n1 n2 s0a s1a m0a m1a m2a n0a n1a n2a
  have s0b := blk_cell HKS3.out 0
  have s1b := blk_cell HKS3.out 1
  obtain ⟨m0b, m1b, m2b, n0b, n1b, n2b⟩ := three_facts HKV3.out
  have HS3 := Lib.hid (show w.heap.size + 2 ≤ w3.heap.size by have h1 := HB2S.out; have h2 := HB3S.out; omega)
  have hz := beq0n (show ¬ nz = 0 by rw [hnz]; exact hne)
  have k0 : (9223372036854775807 < W.length + sp.length) = False := by simp; omega
  clear hnz
  have hC3 : (shK n).C w3 A' (gs.map shOf).length (gs.map shOf) := by
    obtain ⟨B1, d1, B2, d2, he, -, h1⟩ := HV.out.below HB3.out
    have hB : A' = B2 := third_eq he
    rw [hB]
    exact h1
  have HC3 := Lib.hid hC3
  have x0 := blk_cell (blk_alloc HKS3.out (.cells #[] 9 (0, 0))) 0
  obtain ⟨z0, z1, z2, y0, y1, y2⟩ := three_facts (blk_alloc HKV3.out (.cells #[] 9 (0, 0)))
  clear hC3
  have HBND := Lib.hid (show ((gs.map (text nfW sp sm)).map fun x => x.length + 2).sum ≤ 100000000 by
    rw [List.map_map]
    have h2 := sum_le (l := gs) (f := (fun x : Bs => x.length + 2) ∘ text nfW sp sm) (g := fun g => 70 * wt g) fun g hg => by
      have h3 := text_len (nf := nfW) (sp := sp) (small := sm) hsp g.deep g (Nat.le_refl _) (allC_imp (fun x hx => by have := Wn.short hx; unfold Nl; omega) g.deep g (Nat.le_refl _) (hq g hg))
      simp only [Function.comp_def]
      omega
    rw [sum_mul] at h2
    omega)
  have htl : (br (joinS (44 :: sp) (gs.map (text nfW sp sm)))).length ≤ 200000000 := by
    have h1 := join_len (44 :: sp) (gs.map (text nfW sp sm))
    have h2 := sum_le (l := gs.map (text nfW sp sm)) (f := fun x : Bs => x.length + (44 :: sp).length) (g := fun x => x.length + 2) fun x _ => by simp only [List.length_cons]; omega
    have h3 := HBND.out
    have hbr : ∀ l : Bs, (br l).length = l.length + 2 := by intro l; simp [br]
    rw [hbr]
    omega
  have hll : gs.length ≤ 100000000 := by
    have h1 := len_sum (fun x : Bs => x.length + 2) (gs.map (text nfW sp sm)) fun _ _ => by omega
    have h2 := HBND.out
    rw [List.length_map] at h1
    omega
  have hsz3 := HB3.out.size
  have hsz3' : w.heap.size + 2 ≤ w3.heap.size := by have := (below_then HB0.out HB0.out.size (Below.refl _ _)).size; have h4 := HS3.out; omega
  go_wp2
  go_loopw [9, 81] (fun v5 v11 wr => ∃ (B' : Option Addr) (k' d' j : Nat), v5 = .slice B' k' d' ∧ v11 = .int .i64 j ∧ j ≤ gs.length ∧ Below w3.heap.size w3 wr ∧ bsK.R 9 wr w3.heap.size (fun _ => True) (.slice B' k' d') ((gs.take j).map (text nfW sp sm))) (fun v5 v11 wr => gs.length - (intOf v11).toNat)
  case atStart => exact ⟨_, _, _, 0, rfl, rfl, Nat.zero_le _, below_alloc1 _ _, by simpa using R_empty bsK 9 w3⟩
  case round =>
    obtain ⟨B', k', d', j, rfl, rfl, hj, hb, hR⟩ := hrel
    have hszr := hb.size
    have hks := blk_below HKS3.out hb
    have hkv := blk_below HKV3.out hb
    have u0 := blk_cell hks 0
    have u1 := blk_cell hks 1
    obtain ⟨a0, a1, a2, b0, b1, b2⟩ := three_facts hkv
    have HKS4 := Lib.hid hks
    have HKV4 := Lib.hid hkv
    have HR := Lib.hid hR
    have HB := Lib.hid hb
    clear hks hkv hR hb
    by_cases hlt : j < gs.length
    · have HSN := Lib.hid (show (gs.take (j + 1)).map (text nfW sp sm) = (gs.take j).map (text nfW sp sm) ++ [(text nfW sp sm) gs[j]] by rw [take_snoc hlt, List.map_append]; rfl)
      obtain ⟨k2, ad, A2, c2, A3, c3, hn2, rfl, q0, q1, q2, hC2, hC2p⟩ := get_sh (Kd.C_below HC3.out HB.out) rfl j (by simpa using hlt)
      simp only [List.getElem_map] at q0 q1 q2 hC2 hC2p
      have hqj := hq gs[j] (List.getElem_mem hlt)
      have hfj := hf gs[j] (List.getElem_mem hlt)
      have hlj : wt gs[j] ≤ 1000000 := by
        have := le_sum (List.mem_map_of_mem (f := wt) (List.getElem_mem hlt))
        omega
      have hsn := HSN.out
      obtain ⟨r, hr⟩ : ∃ r, r = gs[j] := ⟨_, rfl⟩
      rw [← hr] at q0 q1 q2 hC2 hC2p hqj hfj hsn hlj
      have HSN := Lib.hid hsn
      obtain ⟨kr, hkr⟩ : ∃ kr, kr = (shOf r).kind := ⟨_, rfl⟩
      obtain ⟨lr, hlr⟩ : ∃ lr, lr = (shOf r).lists.length := ⟨_, rfl⟩
      obtain ⟨pr, hpr⟩ : ∃ pr, pr = (shOf r).parts.length := ⟨_, rfl⟩
      have hbo := below_alloc1 wr (.cells #[.int .i64 kr, .slice A2 lr c2, .slice A3 pr c3] 25)
      have hko := blk_new wr (.cells #[.int .i64 kr, .slice A2 lr c2, .slice A3 pr c3] 25)
      obtain ⟨o0, o1, o2, o3, o4, o5⟩ := three_facts hko
      have hcall := ih k2 hn2 (wr.alloc (.cells #[.int .i64 kr, .slice A2 lr c2, .slice A3 pr c3] 25)) sm sp r _ ⟨A2, c2, A3, c3, rfl, Kd.C_below hC2 hbo, Kd.C_below hC2p hbo⟩ ((HE.out.low (below_then HB3.out HB3.out.size HB.out)).low hbo) hsp hfj hqj hlj
      rw [← hkr, ← hlr, ← hpr] at hcall
      rw [← hkr] at q0
      rw [← hlr] at q1
      rw [← hpr] at q2
      have HBO := Lib.hid hbo
      have g0 := blk_cell (blk_alloc HKS4.out (.cells #[.int .i64 kr, .slice A2 lr c2, .slice A3 pr c3] 25 (0, 0))) 0
      have g0' := blk_cell (blk_alloc HKS4.out (.cells #[.int .i64 kr, .slice A2 lr c2, .slice A3 pr c3] 25 (0, 0))) 1
      obtain ⟨j0, j1, j2, j3, j4, j5⟩ := three_facts (blk_alloc HKV4.out (.cells #[.int .i64 kr, .slice A2 lr c2, .slice A3 pr c3] 25 (0, 0)))
      clear hr hbo hsn hC2 hC2p hqj hfj hn2 hko hkr hlr hpr
      go_wp2_with fail
      refine hcall.mono ?_
      clear hcall
      rintro e w4 ⟨rfl, hb4⟩
      have hb4' := below_then HBO.out (by first | (simp; done) | (simp; omega)) hb4
      have hs4 := hb4'.size
      have HB2' := Lib.hid hb4'
      clear hb4 hb4'
      go_wp2_with (at_builtin; go_loud (refine Kd.R_append bsK (w0 := w3) w3.heap.size rfl (.tmp 95) (.tmp 99) 46 9 (.string ⟨#[]⟩) 16 rfl Tryz.underlying46 info9' rfl (by decide) (by decide) (.slice B' k' d') ((gs.take j).map (text nfW sp sm)) (text nfW sp sm r) [S (text nfW sp sm r)] (fun _ => True) (fun _ => False) rfl (by simp [Act.eval]) ?hp ?hokp ?hfresh ?HO ?HB ?hbase ?hl ?_))
      case hp => exact (show [S (text nfW sp sm r)] = [S (text nfW sp sm r)] from rfl)
      case hokp => exact fun _ h => h.elim
      case hfresh => exact fun _ _ => trivial
      case HO => exact Kd.R_below HR.out HB2'.out
      case HB => exact HB.out.trans (HB2'.out.mono hszr)
      case hbase => omega
      case hl => simp; omega
      intro v1 w5 hR4 hb5 hg5 hat5
      obtain ⟨A1, n1', c1, rfl⟩ := R_sl hR4
      have HR4 := Lib.hid (show bsK.R 9 w5 w3.heap.size (fun _ => True) (.slice A1 n1' c1) ((gs.take (j + 1)).map (text nfW sp sm)) by rw [HSN.out]; simpa using hR4)
      have HB5 := Lib.hid hb5
      clear hR4 hb5 hg5 hat5
      go_wp2
      exact ⟨⟨A1, n1', c1, j + 1, rfl, by go_num, by omega, HB5.out, HR4.out⟩, by simp [intOf]; omega⟩

    · have e1 : gs.take j = gs := List.take_of_length_le (by omega)
      have hR := HR.out
      rw [e1] at hR
      obtain ⟨hnz, -, hCz⟩ := Kd.R_reads' hR
      have hcall := joined_any wr sm sp B' d' (gs.map (text nfW sp sm)) hCz hsp (by have := HBND.out; omega)
      rw [← hnz] at hcall
      obtain ⟨T, hT⟩ : ∃ T, T = br (joinS (44 :: sp) (gs.map (text nfW sp sm))) := ⟨_, rfl⟩
      rw [← hT] at hcall htl
      have HT := Lib.hid hT
      have k1 : (9223372036854775807 < W.length + sp.length + T.length) = False := by simp; omega
      have HBW := Lib.hid (below_then HB3.out HB3.out.size HB.out)
      clear e1 hR hnz hCz hT
      go_wp2_with fail
      refine hcall.mono ?_
      clear hcall
      rintro e w6 ⟨rfl, hb6⟩
      have HB6 := Lib.hid (below_then HBW.out HBW.out.size hb6)
      clear hb6
      go_wp2
      go_ret
      exact ⟨by rw [HW.out, HT.out]; simp, HB6.out⟩
end Go.Proofs.YtghajgdiaopioaaGreatDoor
end

/- Walks: the spec's Text at every depth. Conditions: stand in each contract. -/
section
set_option linter.unusedVariables false
set_option linter.unusedSimpArgs false
namespace Go.Proofs.YtghajgdiaopioaaGreatDoor
open Go.RowKit Go.Proofs Tx
open Go.Proofs.YtghajgdiaopioaaGreatDoorW.PrintWords

theorem text_step (n : Nat) (ih : ∀ k, n = k + 1 → ∀ (w : World) (sm : Bool) (sp : Bs) (g : Geo) (v : Value), ShV k w (shOf g) v → En w → sp.length ≤ 1 → fullS (shOf g) = true → AllC Wn g → wt g ≤ 1000000 → Calls Tryz.prog 14 #[.agg #[.bool sm, S sp], v] w fun e w' => e = .returned (S (text nfW sp sm g)) ∧ Below w.heap.size w w')
    (w : World) (sm : Bool) (sp : Bs) (g : Geo) (v : Value) (hV : ShV n w (shOf g) v) (hE : En w) (hsp : sp.length ≤ 1) (hf : fullS (shOf g) = true) (ha : AllC Wn g) (hl : wt g ≤ 1000000) :
    Calls Tryz.prog 14 #[.agg #[.bool sm, S sp], v] w fun e w' => e = .returned (S (text nfW sp sm g)) ∧ Below w.heap.size w w' := by
  have hP : (ptsS (shOf g)).length ≤ 1000000000 := by have := pts_le g.deep g (Nat.le_refl _); omega
  have hne : ¬ (ptsS (shOf g)).length = 0 := by
    have := (fullS_geo g.deep g (Nat.le_refl _) hf).2
    simpa using this
  have hv := hV
  obtain ⟨A, c, A', c', rfl, -, -⟩ := hv
  cases g with
  | point p => cases ha with | point h => exact tx_point n w sm sp A A' c c' [p] hV hE hsp hP hne (one_pt h) (by simp)
  | line ps => cases ha with | line h => exact tx_line n w sm sp A A' c c' ps hV hE hsp hP hne h (by simp only [wt] at hl; omega)
  | poly rs => cases ha with | poly h => exact tx_poly n w sm sp A A' c c' rs hV hE hsp hP hne h (by simp only [wt] at hl; omega)
  | mpoint ps => cases ha with | mpoint h => exact tx_mpoint n w sm sp A A' c c' ps hV hE hsp hP hne h (by simp only [wt] at hl; omega)
  | mline rs => cases ha with | mline h => exact tx_mline n w sm sp A A' c c' rs hV hE hsp hP hne h (by simp only [wt] at hl; omega)
  | mpoly qs =>
    cases ha with
    | mpoly h =>
      have e : (shOf (.mpoly qs)).parts.length = qs.length := by simp [shOf, Sh.parts]
      rw [e] at hV ⊢
      exact tx_mpoly n w sm sp A A' c c' qs hV hE hsp hP hne h (by simp only [wt] at hl; omega)
  | coll gs =>
    cases ha with
    | coll h =>
      have e : (shOf (.coll gs)).parts.length = gs.length := by simp [shOf, shOfs_map, Sh.parts]
      have e2 : shOf (.coll gs) = .mk 7 [] (gs.map shOf) := by rw [shOf, shOfs_map]
      rw [e] at hV ⊢
      rw [e2] at hV hf hP hne ⊢
      have hf2 : ∀ g ∈ gs, fullS (shOf g) = true := by
        intro g hg
        rw [fullS, fullSs_eq] at hf
        simp only [Bool.and_eq_true, List.all_eq_true] at hf
        exact hf.1.2 _ (List.mem_map_of_mem hg)
      rw [text, texts_eq]
      exact tx_coll n w sm sp A A' c c' gs ih hV hE hsp hP hne hf2 h (by simp only [wt, wts_eq] at hl; omega)
/-- Text, of a shape without empty lists. -/
theorem text_any : ∀ (n : Nat) (w : World) (sm : Bool) (sp : Bs) (g : Geo) (v : Value), ShV n w (shOf g) v → En w → sp.length ≤ 1 → fullS (shOf g) = true → AllC Wn g → wt g ≤ 1000000 → Calls Tryz.prog 14 #[.agg #[.bool sm, S sp], v] w fun e w' => e = .returned (S (text nfW sp sm g)) ∧ Below w.heap.size w w'
  | 0 => text_step 0 (fun k hk => by omega)
  | n + 1 => text_step (n + 1) (fun k hk => by
      obtain rfl : n = k := by omega
      exact text_any n)
/-- Text, of a shape without points. -/
theorem text_none (n : Nat) (w : World) (sm : Bool) (sp : Bs) (g : Geo) (v : Value) (hV : ShV n w (shOf g) v) (hE : En w) (hsp : sp.length ≤ 1) (hne : (ptsS (shOf g)).length = 0) :
    Calls Tryz.prog 14 #[.agg #[.bool sm, S sp], v] w fun e w' => e = .returned (S (low sm (word g.kind) ++ emptyWord sm)) ∧ Below w.heap.size w w' := by
  have hv := hV
  obtain ⟨A, c, A', c', rfl, -, -⟩ := hv
  have hk : (shOf g).kind = ((g.kind : Nat) : Int) := by cases g <;> rfl
  rw [hk] at hV ⊢
  have h7 := (kind_range g).2
  exact tx_empty n w sm sp A A' c c' g.kind _ _ (by omega) (shOf g) hV hE hsp (by omega) hne
end Go.Proofs.YtghajgdiaopioaaGreatDoor
end
