/- Walks and plain laws joined (Rc, Rd). Conditions: stand in each law. -/
import Derived.Test.YtghajgdiaopioaaGreatDoorJv
/- Walks: the spec's listText, listsText. Conditions: stand in each contract. -/
section
set_option linter.unusedVariables false
set_option linter.unusedSimpArgs false
namespace Go.Proofs.YtghajgdiaopioaaGreatDoor
open Go.RowKit Go.Proofs Tx
open Go.Proofs.YtghajgdiaopioaaGreatDoorW.PrintWords

/-- What the spec's texts read: the tables. -/
structure En (w : World) : Prop where
  tb : Tb w
  wd : Wd w
  big : 22 < w.heap.size
theorem En.below {w w' : World} {B : Nat} (h : En w) (hb : Below B w w') (hB : 22 < B) : En w' := ⟨h.tb.below hb hB, h.wd.below hb (by omega), Nat.lt_of_lt_of_le h.big hb.size⟩
theorem En.low {w w' : World} (h : En w) (hb : Below w.heap.size w w') : En w' := h.below hb h.big
theorem Wn.short {x : Nat} (h : Wn x) : (nfW x).length ≤ 21 := by
  obtain ⟨n, h1, h2, rfl⟩ := h
  rw [nfW_fb h1 h2]
  exact itoa_short n h1 h2
theorem info9' : (Tryz.prog.info? 9).map (fun i => (i.zero, i.size, i.bytes)) = some (some (.string ⟨#[]⟩), 1, 16) := by kernel_rfl

set_option maxRecDepth 20000 in
set_option maxHeartbeats 2000000 in
/-- listText. -/
theorem lt_any (w : World) (sm : Bool) (sp : Bs) (A : Option Addr) (c : Nat) (ps : List Pt) (hC : ptK.C w A ps.length ps) (hq : ∀ p ∈ ps, Wn p.1 ∧ Wn p.2) (hE : En w) (hsp : sp.length ≤ 1) (hl : ps.length ≤ 1000000) :
    Calls Tryz.prog 29 #[.agg #[.bool sm, S sp], .slice A ps.length c] w fun e w' => e = .returned (S (ptsT nfW sp ps)) ∧ Below w.heap.size w w' := by
  have hb0 := below_alloc1 w (.cells #[.bool sm, S sp] 31)
  have hk0 := blk_new w (.cells #[.bool sm, S sp] 31)
  have hll : ps.length ≤ 1000000000 := by omega
  have HB0 := Lib.hid hb0
  have HK0 := Lib.hid hk0
  have HBND := Lib.hid (show ((ps.map (ptT nfW)).map fun x => x.length + 2).sum ≤ 1000000000 by
    rw [List.map_map]
    have h2 := sum_le (l := ps) (f := (fun x : Bs => x.length + 2) ∘ ptT nfW) (g := fun _ => 60) fun p hp => by
      have h3 := (hq p hp).1.short
      have h4 := (hq p hp).2.short
      simp only [Function.comp_def, ptT, List.length_append, List.length_cons]
      omega
    rw [const_sum] at h2
    omega)
  have hbig := hE.big
  have i0 := blk_cell (blk_alloc hk0 (.cells #[] 9 (0, 0))) 0
  have i1 := blk_cell (blk_alloc hk0 (.cells #[] 9 (0, 0))) 1
  clear hb0 hk0 hl
  go_enter Tryz.func29, Tryz.ntmps29
  go_wp2
  go_loopw [5, 11] (fun v5 v11 wr => ∃ (B' : Option Addr) (k d' j : Nat), v5 = .slice B' k d' ∧ v11 = .int .i64 j ∧ j ≤ ps.length ∧ Below (w.heap.size + 1) (w.alloc (.cells #[.bool sm, S sp] 31)) wr ∧ bsK.R 9 wr (w.heap.size + 1) (fun _ => True) (.slice B' k d') ((ps.take j).map (ptT nfW))) (fun v5 v11 wr => ps.length - (intOf v11).toNat)
  case atStart => exact ⟨_, _, _, 0, rfl, rfl, Nat.zero_le _, (Below.refl _ _).alloc (by simp) _, by simpa using R_empty_at' bsK 9 (w.alloc _) (w.heap.size + 1) _ (by simp) (by simp)⟩
  case round =>
    obtain ⟨B', k, d', j, rfl, rfl, hj, hb, hR⟩ := hrel
    have hszr : w.heap.size + 1 ≤ wr.heap.size := by have := hb.size; simpa using this
    have hbw : Below w.heap.size w wr := HB0.out.trans (hb.mono (by omega))
    have hk := box_below HK0.out hb (by omega)
    have s0 := blk_cell hk 0
    have s1 := blk_cell hk 1
    have hEr := hE.low hbw
    by_cases hlt : j < ps.length
    · obtain ⟨ad, rfl, q0, q1⟩ := get_pt (Kd.C_below hC hbw) rfl j hlt
      have hsn : (ps.take (j + 1)).map (ptT nfW) = (ps.take j).map (ptT nfW) ++ [ptT nfW ps[j]] := by rw [take_snoc hlt, List.map_append]; rfl
      have hqj := hq ps[j] (List.getElem_mem hlt)
      obtain ⟨x, hx⟩ : ∃ x, x = ps[j].1 := ⟨_, rfl⟩
      obtain ⟨y, hy⟩ : ∃ y, y = ps[j].2 := ⟨_, rfl⟩
      have hxy : ps[j] = (x, y) := by rw [hx, hy]
      rw [hxy] at hsn
      rw [← hx, ← hy] at hqj
      rw [← hx] at q0
      rw [← hy] at q1
      have hbo := below_alloc1 wr (.cells #[.float .f64 x, .float .f64 y] 49)
      have hcall := pair_any (wr.alloc (.cells #[.float .f64 x, .float .f64 y] 49)) x y hqj.1 hqj.2 (hEr.low hbo).tb (hEr.low hbo).big
      have HBO := Lib.hid hbo
      clear hx hy hxy hbo
      have HR := Lib.hid hR
      have HB := Lib.hid hb
      have HSN := Lib.hid hsn
      have HE := Lib.hid hEr
      have HC := Lib.hid hC
      have HKW := Lib.hid hk
      clear hR hb hbw hk hsn hEr hC hqj
      go_wp2_with fail
      refine hcall.mono ?_
      clear hcall
      rintro e w2 ⟨rfl, hb2⟩
      have hb2' := below_then HBO.out (by simp) hb2
      have hs2 := hb2'.size
      have HB2 := Lib.hid hb2'
      clear hb2 hb2'
      go_wp2_with (at_builtin; go_loud (refine Kd.R_append bsK (w0 := w.alloc (.cells #[.bool sm, S sp] 31)) (w.heap.size + 1) rfl (.tmp 15) (.tmp 18) 46 9 (.string ⟨#[]⟩) 16 rfl Tryz.underlying46 info9' rfl (by decide) (by decide) (.slice B' k d') ((ps.take j).map (ptT nfW)) (ptT nfW (x, y)) [S (ptT nfW (x, y))] (fun _ => True) (fun _ => False) rfl (by simp [Act.eval]) ?hp ?hokp ?hfresh ?HO ?HB ?hbase ?hl ?_))
      case hp => exact (show [S (ptT nfW (x, y))] = [S (ptT nfW (x, y))] from rfl)
      case hokp => exact fun _ h => h.elim
      case hfresh => exact fun _ _ => trivial
      case HO => exact Kd.R_below HR.out HB2.out
      case HB => exact HB.out.trans (HB2.out.mono hszr)
      case hbase => omega
      case hl => simp; omega
      intro v1 w3 hR4 hb5 hg5 hat5
      obtain ⟨A1, n1, c1, rfl⟩ := R_sl hR4
      have HR4 := Lib.hid (show bsK.R 9 w3 (w.heap.size + 1) (fun _ => True) (.slice A1 n1 c1) ((ps.take (j + 1)).map (ptT nfW)) by rw [HSN.out]; simpa using hR4)
      have HB5 := Lib.hid hb5
      have hC := HC.out
      clear hR4 hb5 hg5 hat5
      go_wp2
      exact ⟨⟨A1, n1, c1, j + 1, rfl, by go_num, by omega, HB5.out, HR4.out⟩, by simp [intOf]; omega⟩
    · have e1 : ps.take j = ps := List.take_of_length_le (by omega)
      rw [e1] at hR
      obtain ⟨hnz, -, hCz⟩ := Kd.R_reads' hR
      have hcall := joined_any wr sm sp B' d' (ps.map (ptT nfW)) hCz hsp HBND.out
      rw [← hnz] at hcall
      have HBW := Lib.hid hbw
      clear e1 hR hb hbw hk hC hnz hCz
      go_wp2_with fail
      refine hcall.mono ?_
      clear hcall
      rintro e w2 ⟨rfl, hb2⟩
      have HB2 := Lib.hid (below_then HBW.out HBW.out.size hb2)
      clear hb2
      go_wp2
      go_ret
      exact ⟨rfl, HB2.out⟩

set_option maxRecDepth 20000 in
set_option maxHeartbeats 2000000 in
/-- listsText. -/
theorem ls_any (w : World) (sm : Bool) (sp : Bs) (A : Option Addr) (c : Nat) (ps : List (List Pt)) (hC : rowK.C w A ps.length ps) (hq : ∀ r ∈ ps, ∀ p ∈ r, Wn p.1 ∧ Wn p.2) (hE : En w) (hsp : sp.length ≤ 1) (hl : wtL ps ≤ 1000000) :
    Calls Tryz.prog 30 #[.agg #[.bool sm, S sp], .slice A ps.length c] w fun e w' => e = .returned (S (ringsT nfW sp ps)) ∧ Below w.heap.size w w' := by
  have hb0 := below_alloc1 w (.cells #[.bool sm, S sp] 31)
  have hk0 := blk_new w (.cells #[.bool sm, S sp] 31)
  have hll : ps.length ≤ 1000000000 := by rw [wtL_eq] at hl; omega
  have HB0 := Lib.hid hb0
  have HK0 := Lib.hid hk0
  have HBND := Lib.hid (show ((ps.map (ptsT nfW sp)).map fun x => x.length + 2).sum ≤ 1000000000 by
    rw [List.map_map]
    have h2 := sum_le (l := ps) (f := (fun x : Bs => x.length + 2) ∘ ptsT nfW sp) (g := fun r => 70 * (r.length + 1)) fun r hr => by
      have h3 := pts_len (nf := nfW) hsp (ps := r) fun p hp => ⟨by have := (hq r hr p hp).1.short; unfold Nl; omega, by have := (hq r hr p hp).2.short; unfold Nl; omega⟩
      simp only [Function.comp_def]
      omega
    rw [sum_mul] at h2
    unfold wtL at hl
    omega)
  have hbig := hE.big
  have i0 := blk_cell (blk_alloc hk0 (.cells #[] 9 (0, 0))) 0
  have i1 := blk_cell (blk_alloc hk0 (.cells #[] 9 (0, 0))) 1
  have HL := Lib.hid hl
  clear hb0 hk0 hl
  go_enter Tryz.func30, Tryz.ntmps30
  go_wp2
  go_loopw [5, 11] (fun v5 v11 wr => ∃ (B' : Option Addr) (k d' j : Nat), v5 = .slice B' k d' ∧ v11 = .int .i64 j ∧ j ≤ ps.length ∧ Below (w.heap.size + 1) (w.alloc (.cells #[.bool sm, S sp] 31)) wr ∧ bsK.R 9 wr (w.heap.size + 1) (fun _ => True) (.slice B' k d') ((ps.take j).map (ptsT nfW sp))) (fun v5 v11 wr => ps.length - (intOf v11).toNat)
  case atStart => exact ⟨_, _, _, 0, rfl, rfl, Nat.zero_le _, (Below.refl _ _).alloc (by simp) _, by simpa using R_empty_at' bsK 9 (w.alloc _) (w.heap.size + 1) _ (by simp) (by simp)⟩
  case round =>
    obtain ⟨B', k, d', j, rfl, rfl, hj, hb, hR⟩ := hrel
    have hszr : w.heap.size + 1 ≤ wr.heap.size := by have := hb.size; simpa using this
    have hbw : Below w.heap.size w wr := HB0.out.trans (hb.mono (by omega))
    have hk := box_below HK0.out hb (by omega)
    have s0 := blk_cell hk 0
    have s1 := blk_cell hk 1
    have hEr := hE.low hbw
    by_cases hlt : j < ps.length
    · obtain ⟨ad, A2, c2, rfl, q0, hC2⟩ := get_row1 (Kd.C_below hC hbw) rfl j hlt
      have hsn : (ps.take (j + 1)).map (ptsT nfW sp) = (ps.take j).map (ptsT nfW sp) ++ [ptsT nfW sp ps[j]] := by rw [take_snoc hlt, List.map_append]; rfl
      have hqj := hq ps[j] (List.getElem_mem hlt)
      have hrl : ps[j].length ≤ 1000000 := by
        have := le_sum (List.mem_map_of_mem (f := fun r : List Pt => r.length + 1) (List.getElem_mem hlt))
        have hl2 := HL.out
        unfold wtL at hl2
        omega
      obtain ⟨r, hr⟩ : ∃ r, r = ps[j] := ⟨_, rfl⟩
      rw [← hr] at hsn hqj q0 hC2 hrl
      have hcall := lt_any wr sm sp A2 c2 r hC2 hqj hEr hsp hrl
      clear hr hC2
      have HR := Lib.hid hR
      have HB := Lib.hid hb
      have HSN := Lib.hid hsn
      have HE := Lib.hid hEr
      have HC := Lib.hid hC
      have HKW := Lib.hid hk
      clear hR hb hbw hk hsn hEr hC hqj
      go_wp2_with fail
      refine hcall.mono ?_
      clear hcall
      rintro e w2 ⟨rfl, hb2⟩
      have hb2' := hb2
      have hs2 := hb2'.size
      have HB2 := Lib.hid hb2'
      clear hb2 hb2'
      go_wp2_with (at_builtin; go_loud (refine Kd.R_append bsK (w0 := w.alloc (.cells #[.bool sm, S sp] 31)) (w.heap.size + 1) rfl (.tmp 15) (.tmp 19) 46 9 (.string ⟨#[]⟩) 16 rfl Tryz.underlying46 info9' rfl (by decide) (by decide) (.slice B' k d') ((ps.take j).map (ptsT nfW sp)) (ptsT nfW sp r) [S (ptsT nfW sp r)] (fun _ => True) (fun _ => False) rfl (by simp [Act.eval]) ?hp ?hokp ?hfresh ?HO ?HB ?hbase ?hl ?_))
      case hp => exact (show [S (ptsT nfW sp r)] = [S (ptsT nfW sp r)] from rfl)
      case hokp => exact fun _ h => h.elim
      case hfresh => exact fun _ _ => trivial
      case HO => exact Kd.R_below HR.out HB2.out
      case HB => exact HB.out.trans (HB2.out.mono hszr)
      case hbase => omega
      case hl => simp; omega
      intro v1 w3 hR4 hb5 hg5 hat5
      obtain ⟨A1, n1, c1, rfl⟩ := R_sl hR4
      have HR4 := Lib.hid (show bsK.R 9 w3 (w.heap.size + 1) (fun _ => True) (.slice A1 n1 c1) ((ps.take (j + 1)).map (ptsT nfW sp)) by rw [HSN.out]; simpa using hR4)
      have HB5 := Lib.hid hb5
      have hC := HC.out
      clear hR4 hb5 hg5 hat5
      go_wp2
      exact ⟨⟨A1, n1, c1, j + 1, rfl, by go_num, by omega, HB5.out, HR4.out⟩, by simp [intOf]; omega⟩
    · have e1 : ps.take j = ps := List.take_of_length_le (by omega)
      rw [e1] at hR
      obtain ⟨hnz, -, hCz⟩ := Kd.R_reads' hR
      have hcall := joined_any wr sm sp B' d' (ps.map (ptsT nfW sp)) hCz hsp HBND.out
      rw [← hnz] at hcall
      have HBW := Lib.hid hbw
      clear e1 hR hb hbw hk hC hnz hCz
      go_wp2_with fail
      refine hcall.mono ?_
      clear hcall
      rintro e w2 ⟨rfl, hb2⟩
      have HB2 := Lib.hid (below_then HBW.out HBW.out.size hb2)
      clear hb2
      go_wp2
      go_ret
      exact ⟨rfl, HB2.out⟩
end Go.Proofs.YtghajgdiaopioaaGreatDoor
end

/- Walks: the spec's Text, kind by kind. Conditions: stand in each contract. -/
section
set_option linter.unusedVariables false
set_option linter.unusedSimpArgs false
namespace Go.Proofs.YtghajgdiaopioaaGreatDoor
open Go.RowKit Go.Proofs Tx
open Go.Proofs.YtghajgdiaopioaaGreatDoorW.PrintWords

theorem call29 : ∀ args w, (callFunc 29 args).run Tryz.prog w = .ok (.enter 29 args) w := by
  intro args w
  kernel_rfl
theorem word_any (w : World) (sm : Bool) (sp : Bs) (k : Nat) (hk : k < 8) (hW : Wd w) (h0 : 0 < w.heap.size) :
    Calls Tryz.prog 28 #[.agg #[.bool sm, S sp], .int .i64 k] w fun e w' => e = .returned (S (low sm (word k))) ∧ Below w.heap.size w w' := by
  cases sm with
  | false => exact word_great w sp k hk hW h0
  | true => exact word_small w sp k hk hW h0
theorem flat_wt (ls : List (List Pt)) : ls.flatten.length ≤ wtL ls := by
  induction ls with
  | nil => simp
  | cons r l ih => simp only [List.flatten_cons, List.length_append, wtL, List.map_cons, List.sum_cons] at ih ⊢; omega
theorem pts_le : ∀ (n : Nat) (g : Geo), g.deep ≤ n → (ptsS (shOf g)).length ≤ wt g := by
  intro n
  induction n with
  | zero => intro g hg; exfalso; cases g <;> simp [Geo.deep] at hg
  | succ n ih =>
    intro g hd
    cases g with
    | point p => simp [shOf, ptsS, ptsS.ptsSs, wt]
    | line ps => simp [shOf, ptsS, ptsS.ptsSs, wt]
    | poly rs => have := flat_wt rs; simp only [shOf, ptsS, ptsS.ptsSs, wt, List.append_nil]; omega
    | mpoint ps => simp [shOf, ptsS, ptsS.ptsSs, wt]
    | mline rs => have := flat_wt rs; simp only [shOf, ptsS, ptsS.ptsSs, wt, List.append_nil]; omega
    | mpoly qs =>
      simp only [shOf, ptsS, ptsSs_eq, List.flatten_nil, List.nil_append, wt, List.map_map]
      rw [List.length_flatten, List.map_map]
      have := sum_le (l := qs) (f := List.length ∘ ptsS ∘ fun q => Sh.mk 3 q []) (g := fun q => wtL q + 1) fun q _ => by
        have := flat_wt q
        simp only [Function.comp_def, ptsS, ptsS.ptsSs, List.append_nil]
        omega
      simp only [Function.comp_def] at this ⊢
      omega
    | coll gs =>
      simp only [Geo.deep] at hd
      simp only [shOf, shOfs_map, ptsS, ptsSs_eq, List.flatten_nil, List.nil_append, wt, wts_eq, List.map_map]
      rw [List.length_flatten, List.map_map]
      have := sum_le (l := gs) (f := List.length ∘ ptsS ∘ shOf) (g := wt) fun g hg => ih g (deeps_le (by omega) g hg)
      simp only [Function.comp_def] at this ⊢
      omega

set_option maxRecDepth 40000 in
set_option maxHeartbeats 2000000 in
theorem tx_empty (n : Nat) (w : World) (sm : Bool) (sp : Bs) (A A' : Option Addr) (c c' : Nat) (k l p : Nat) (hk : k < 8) (s : Sh) (hV : ShV n w s (.agg #[.int .i64 k, .slice A l c, .slice A' p c'])) (hE : En w) (hsp : sp.length ≤ 1) (hP : (ptsS s).length ≤ 1000000000) (hne : (ptsS s).length = 0) :
    Calls Tryz.prog 14 #[.agg #[.bool sm, S sp], .agg #[.int .i64 k, .slice A l c, .slice A' p c']] w fun e w' => e = .returned (S (low sm (word k) ++ emptyWord sm)) ∧ Below w.heap.size w w' := by
  have hb0 := (below_alloc1 w (.cells #[.bool sm, S sp] 31)).alloc (by simp) (.cells #[.int .i64 k, .slice A l c, .slice A' p c'] 25)
  have hks := blk_alloc (blk_new w (.cells #[.bool sm, S sp] 31)) (.cells #[.int .i64 k, .slice A l c, .slice A' p c'] 25)
  have hkv : ((w.alloc (.cells #[.bool sm, S sp] 31)).alloc (.cells #[.int .i64 k, .slice A l c, .slice A' p c'] 25)).heap[w.heap.size + 1]? = some (.cells #[.int .i64 k, .slice A l c, .slice A' p c'] 25 (0, 0)) := by
    have := blk_new (w.alloc (.cells #[.bool sm, S sp] 31)) (.cells #[.int .i64 k, .slice A l c, .slice A' p c'] 25)
    simpa using this
  have s0 := blk_cell hks 0
  have s1 := blk_cell hks 1
  obtain ⟨m0, m1, m2, n0, n1, n2⟩ := three_facts hkv
  have hE0 := hE.low hb0
  have hbig := hE.big
  have hcall := word_any _ sm sp k (by omega) hE0.wd (by have := hE0.big; omega)
  have hwl := word_len sm k
  obtain ⟨W, hW⟩ : ∃ W, W = low sm (word k) := ⟨_, rfl⟩
  rw [← hW] at hcall hwl
  have HB0 := Lib.hid hb0
  have HKS := Lib.hid hks
  have HKV := Lib.hid hkv
  have HE := Lib.hid hE
  have HV := Lib.hid hV
  have HW := Lib.hid hW
  have hsz0 : ((w.alloc (.cells #[.bool sm, S sp] 31)).alloc (.cells #[.int .i64 k, .slice A l c, .slice A' p c'] 25)).heap.size = w.heap.size + 2 := by simp
  have HSZ := Lib.hid hsz0
  clear hb0 hks hkv hE hE0 hW hV hsz0
  go_enter Tryz.func14, Tryz.ntmps14
  go_wp2_with fail
  refine hcall.mono ?_
  clear hcall
  rintro e w2 ⟨rfl, hb2⟩
  have HB2 := Lib.hid (below_then HB0.out HB0.out.size hb2)
  have HKS2 := Lib.hid (blk_below HKS.out hb2)
  have HKV2 := Lib.hid (blk_below HKV.out hb2)
  clear hb2
  have s0a := blk_cell HKS2.out 0
  have s1a := blk_cell HKS2.out 1
  obtain ⟨m0a, m1a, m2a, n0a, n1a, n2a⟩ := three_facts HKV2.out
  have hcall := points_any n w2 s _ (HV.out.below HB2.out) hP
  go_wp2_with fail
  refine hcall.mono ?_
  clear hcall
  rintro e w3 ⟨y, rfl, hy, hb3⟩
  obtain ⟨Az, nz, cz, rfl⟩ := R_sl hy
  obtain ⟨hnz, -, -⟩ := Kd.R_reads' hy
  have HB3 := Lib.hid (below_then HB2.out HB2.out.size hb3)
  have HKS3 := Lib.hid (blk_below HKS2.out hb3)
  have HKV3 := Lib.hid (blk_below HKV2.out hb3)
  clear hb3 hy s0 s1 m0 m1 m2 n0 n1 n2 s0a s1a m0a m1a m2a n0a n1a n2a
  have s0b := blk_cell HKS3.out 0
  have s1b := blk_cell HKS3.out 1
  obtain ⟨m0b, m1b, m2b, n0b, n1b, n2b⟩ := three_facts HKV3.out
  have hz := beq0 (show nz = 0 by rw [hnz]; exact hne)
  have k0 : (9223372036854775807 < W.length + 6) = False := by simp; omega
  have k0' : (9223372036854775807 < W.length + 1 + 1 + 1 + 1 + 1 + 1) = False := by simp; omega
  clear hnz
  cases sm with
  | false =>
    go_wp2
    go_ret
    exact ⟨by rw [HW.out]; rfl, HB3.out⟩
  | true =>
    go_wp2
    go_ret
    exact ⟨by rw [HW.out]; rfl, HB3.out⟩

set_option maxRecDepth 40000 in
set_option maxHeartbeats 2000000 in
theorem tx_poly (n : Nat) (w : World) (sm : Bool) (sp : Bs) (A A' : Option Addr) (c c' : Nat) (ls : List (List Pt)) (hV : ShV n w (.mk 3 ls []) (.agg #[.int .i64 3, .slice A ls.length c, .slice A' 0 c'])) (hE : En w) (hsp : sp.length ≤ 1) (hP : (ptsS (.mk 3 ls [])).length ≤ 1000000000) (hne : ¬ (ptsS (.mk 3 ls [])).length = 0) (hq : ∀ r ∈ ls, ∀ p ∈ r, Wn p.1 ∧ Wn p.2) (hl : wtL ls ≤ 1000000) :
    Calls Tryz.prog 14 #[.agg #[.bool sm, S sp], .agg #[.int .i64 3, .slice A ls.length c, .slice A' 0 c']] w fun e w' => e = .returned (S (low sm (word 3) ++ sp ++ ringsT nfW sp ls)) ∧ Below w.heap.size w w' := by
  have hb0 := (below_alloc1 w (.cells #[.bool sm, S sp] 31)).alloc (by simp) (.cells #[.int .i64 3, .slice A ls.length c, .slice A' 0 c'] 25)
  have hks := blk_alloc (blk_new w (.cells #[.bool sm, S sp] 31)) (.cells #[.int .i64 3, .slice A ls.length c, .slice A' 0 c'] 25)
  have hkv : ((w.alloc (.cells #[.bool sm, S sp] 31)).alloc (.cells #[.int .i64 3, .slice A ls.length c, .slice A' 0 c'] 25)).heap[w.heap.size + 1]? = some (.cells #[.int .i64 3, .slice A ls.length c, .slice A' 0 c'] 25 (0, 0)) := by
    have := blk_new (w.alloc (.cells #[.bool sm, S sp] 31)) (.cells #[.int .i64 3, .slice A ls.length c, .slice A' 0 c'] 25)
    simpa using this
  have s0 := blk_cell hks 0
  have s1 := blk_cell hks 1
  obtain ⟨m0, m1, m2, n0, n1, n2⟩ := three_facts hkv
  have hE0 := hE.low hb0
  have hbig := hE.big
  have hcall := word_any _ sm sp 3 (by omega) hE0.wd (by have := hE0.big; omega)
  have hwl := word_len sm 3
  obtain ⟨W, hW⟩ : ∃ W, W = low sm (word 3) := ⟨_, rfl⟩
  rw [← hW] at hcall hwl
  have HB0 := Lib.hid hb0
  have HKS := Lib.hid hks
  have HKV := Lib.hid hkv
  have HE := Lib.hid hE
  have HV := Lib.hid hV
  have HW := Lib.hid hW
  have hsz0 : ((w.alloc (.cells #[.bool sm, S sp] 31)).alloc (.cells #[.int .i64 3, .slice A ls.length c, .slice A' 0 c'] 25)).heap.size = w.heap.size + 2 := by simp
  have HSZ := Lib.hid hsz0
  clear hb0 hks hkv hE hE0 hW hV hsz0
  go_enter Tryz.func14, Tryz.ntmps14
  go_wp2_with fail
  refine hcall.mono ?_
  clear hcall
  rintro e w2 ⟨rfl, hb2⟩
  have HB2 := Lib.hid (below_then HB0.out HB0.out.size hb2)
  have HKS2 := Lib.hid (blk_below HKS.out hb2)
  have HKV2 := Lib.hid (blk_below HKV.out hb2)
  clear hb2
  have s0a := blk_cell HKS2.out 0
  have s1a := blk_cell HKS2.out 1
  obtain ⟨m0a, m1a, m2a, n0a, n1a, n2a⟩ := three_facts HKV2.out
  have hcall := points_any n w2 (.mk 3 ls []) _ (HV.out.below HB2.out) hP
  go_wp2_with fail
  refine hcall.mono ?_
  clear hcall
  rintro e w3 ⟨y, rfl, hy, hb3⟩
  obtain ⟨Az, nz, cz, rfl⟩ := R_sl hy
  obtain ⟨hnz, -, -⟩ := Kd.R_reads' hy
  have HB3 := Lib.hid (below_then HB2.out HB2.out.size hb3)
  have HKS3 := Lib.hid (blk_below HKS2.out hb3)
  have HKV3 := Lib.hid (blk_below HKV2.out hb3)
  clear hb3 hy s0 s1 m0 m1 m2 n0 n1 n2 s0a s1a m0a m1a m2a n0a n1a n2a
  have s0b := blk_cell HKS3.out 0
  have s1b := blk_cell HKS3.out 1
  obtain ⟨m0b, m1b, m2b, n0b, n1b, n2b⟩ := three_facts HKV3.out
  have hz := beq0n (show ¬ nz = 0 by rw [hnz]; exact hne)
  have k0 : (9223372036854775807 < W.length + sp.length) = False := by simp; omega
  clear hnz
  have hC3 : rowK.C w3 A ls.length ls := by
    obtain ⟨B1, d1, B2, d2, he, h1, -⟩ := HV.out.below HB3.out
    cases he
    exact h1
  have hcall := ls_any w3 sm sp A c ls hC3 hq (HE.out.low HB3.out) hsp hl
  have htl := rings_len (nf := nfW) hsp (rs := ls) fun r hr p hp => ⟨by have := (hq r hr p hp).1.short; unfold Nl; omega, by have := (hq r hr p hp).2.short; unfold Nl; omega⟩
  obtain ⟨T, hT⟩ : ∃ T, T = ringsT nfW sp ls := ⟨_, rfl⟩
  rw [← hT] at hcall htl
  have HT := Lib.hid hT
  have k1 : (9223372036854775807 < W.length + sp.length + T.length) = False := by simp; omega
  clear hC3 hT
  go_wp2_with fail
  refine hcall.mono ?_
  clear hcall
  rintro e w4 ⟨rfl, hb4⟩
  have HB4 := Lib.hid (below_then HB3.out HB3.out.size hb4)
  clear hb4
  go_wp2
  go_ret
  exact ⟨by rw [HW.out, HT.out]; simp, HB4.out⟩

set_option maxRecDepth 40000 in
set_option maxHeartbeats 2000000 in
theorem tx_mline (n : Nat) (w : World) (sm : Bool) (sp : Bs) (A A' : Option Addr) (c c' : Nat) (ls : List (List Pt)) (hV : ShV n w (.mk 5 ls []) (.agg #[.int .i64 5, .slice A ls.length c, .slice A' 0 c'])) (hE : En w) (hsp : sp.length ≤ 1) (hP : (ptsS (.mk 5 ls [])).length ≤ 1000000000) (hne : ¬ (ptsS (.mk 5 ls [])).length = 0) (hq : ∀ r ∈ ls, ∀ p ∈ r, Wn p.1 ∧ Wn p.2) (hl : wtL ls ≤ 1000000) :
    Calls Tryz.prog 14 #[.agg #[.bool sm, S sp], .agg #[.int .i64 5, .slice A ls.length c, .slice A' 0 c']] w fun e w' => e = .returned (S (low sm (word 5) ++ sp ++ ringsT nfW sp ls)) ∧ Below w.heap.size w w' := by
  have hb0 := (below_alloc1 w (.cells #[.bool sm, S sp] 31)).alloc (by simp) (.cells #[.int .i64 5, .slice A ls.length c, .slice A' 0 c'] 25)
  have hks := blk_alloc (blk_new w (.cells #[.bool sm, S sp] 31)) (.cells #[.int .i64 5, .slice A ls.length c, .slice A' 0 c'] 25)
  have hkv : ((w.alloc (.cells #[.bool sm, S sp] 31)).alloc (.cells #[.int .i64 5, .slice A ls.length c, .slice A' 0 c'] 25)).heap[w.heap.size + 1]? = some (.cells #[.int .i64 5, .slice A ls.length c, .slice A' 0 c'] 25 (0, 0)) := by
    have := blk_new (w.alloc (.cells #[.bool sm, S sp] 31)) (.cells #[.int .i64 5, .slice A ls.length c, .slice A' 0 c'] 25)
    simpa using this
  have s0 := blk_cell hks 0
  have s1 := blk_cell hks 1
  obtain ⟨m0, m1, m2, n0, n1, n2⟩ := three_facts hkv
  have hE0 := hE.low hb0
  have hbig := hE.big
  have hcall := word_any _ sm sp 5 (by omega) hE0.wd (by have := hE0.big; omega)
  have hwl := word_len sm 5
  obtain ⟨W, hW⟩ : ∃ W, W = low sm (word 5) := ⟨_, rfl⟩
  rw [← hW] at hcall hwl
  have HB0 := Lib.hid hb0
  have HKS := Lib.hid hks
  have HKV := Lib.hid hkv
  have HE := Lib.hid hE
  have HV := Lib.hid hV
  have HW := Lib.hid hW
  have hsz0 : ((w.alloc (.cells #[.bool sm, S sp] 31)).alloc (.cells #[.int .i64 5, .slice A ls.length c, .slice A' 0 c'] 25)).heap.size = w.heap.size + 2 := by simp
  have HSZ := Lib.hid hsz0
  clear hb0 hks hkv hE hE0 hW hV hsz0
  go_enter Tryz.func14, Tryz.ntmps14
  go_wp2_with fail
  refine hcall.mono ?_
  clear hcall
  rintro e w2 ⟨rfl, hb2⟩
  have HB2 := Lib.hid (below_then HB0.out HB0.out.size hb2)
  have HKS2 := Lib.hid (blk_below HKS.out hb2)
  have HKV2 := Lib.hid (blk_below HKV.out hb2)
  clear hb2
  have s0a := blk_cell HKS2.out 0
  have s1a := blk_cell HKS2.out 1
  obtain ⟨m0a, m1a, m2a, n0a, n1a, n2a⟩ := three_facts HKV2.out
  have hcall := points_any n w2 (.mk 5 ls []) _ (HV.out.below HB2.out) hP
  go_wp2_with fail
  refine hcall.mono ?_
  clear hcall
  rintro e w3 ⟨y, rfl, hy, hb3⟩
  obtain ⟨Az, nz, cz, rfl⟩ := R_sl hy
  obtain ⟨hnz, -, -⟩ := Kd.R_reads' hy
  have HB3 := Lib.hid (below_then HB2.out HB2.out.size hb3)
  have HKS3 := Lib.hid (blk_below HKS2.out hb3)
  have HKV3 := Lib.hid (blk_below HKV2.out hb3)
  clear hb3 hy s0 s1 m0 m1 m2 n0 n1 n2 s0a s1a m0a m1a m2a n0a n1a n2a
  have s0b := blk_cell HKS3.out 0
  have s1b := blk_cell HKS3.out 1
  obtain ⟨m0b, m1b, m2b, n0b, n1b, n2b⟩ := three_facts HKV3.out
  have hz := beq0n (show ¬ nz = 0 by rw [hnz]; exact hne)
  have k0 : (9223372036854775807 < W.length + sp.length) = False := by simp; omega
  clear hnz
  have hC3 : rowK.C w3 A ls.length ls := by
    obtain ⟨B1, d1, B2, d2, he, h1, -⟩ := HV.out.below HB3.out
    cases he
    exact h1
  have hcall := ls_any w3 sm sp A c ls hC3 hq (HE.out.low HB3.out) hsp hl
  have htl := rings_len (nf := nfW) hsp (rs := ls) fun r hr p hp => ⟨by have := (hq r hr p hp).1.short; unfold Nl; omega, by have := (hq r hr p hp).2.short; unfold Nl; omega⟩
  obtain ⟨T, hT⟩ : ∃ T, T = ringsT nfW sp ls := ⟨_, rfl⟩
  rw [← hT] at hcall htl
  have HT := Lib.hid hT
  have k1 : (9223372036854775807 < W.length + sp.length + T.length) = False := by simp; omega
  clear hC3 hT
  go_wp2_with fail
  refine hcall.mono ?_
  clear hcall
  rintro e w4 ⟨rfl, hb4⟩
  have HB4 := Lib.hid (below_then HB3.out HB3.out.size hb4)
  clear hb4
  go_wp2
  go_ret
  exact ⟨by rw [HW.out, HT.out]; simp, HB4.out⟩

set_option maxRecDepth 40000 in
set_option maxHeartbeats 2000000 in
theorem tx_point (n : Nat) (w : World) (sm : Bool) (sp : Bs) (A A' : Option Addr) (c c' : Nat) (ps : List Pt) (hV : ShV n w (.mk 1 [ps] []) (.agg #[.int .i64 1, .slice A 1 c, .slice A' 0 c'])) (hE : En w) (hsp : sp.length ≤ 1) (hP : (ptsS (.mk 1 [ps] [])).length ≤ 1000000000) (hne : ¬ (ptsS (.mk 1 [ps] [])).length = 0) (hq : ∀ p ∈ ps, Wn p.1 ∧ Wn p.2) (hl : ps.length ≤ 1000000) :
    Calls Tryz.prog 14 #[.agg #[.bool sm, S sp], .agg #[.int .i64 1, .slice A 1 c, .slice A' 0 c']] w fun e w' => e = .returned (S (low sm (word 1) ++ sp ++ ptsT nfW sp ps)) ∧ Below w.heap.size w w' := by
  have hb0 := (below_alloc1 w (.cells #[.bool sm, S sp] 31)).alloc (by simp) (.cells #[.int .i64 1, .slice A 1 c, .slice A' 0 c'] 25)
  have hks := blk_alloc (blk_new w (.cells #[.bool sm, S sp] 31)) (.cells #[.int .i64 1, .slice A 1 c, .slice A' 0 c'] 25)
  have hkv : ((w.alloc (.cells #[.bool sm, S sp] 31)).alloc (.cells #[.int .i64 1, .slice A 1 c, .slice A' 0 c'] 25)).heap[w.heap.size + 1]? = some (.cells #[.int .i64 1, .slice A 1 c, .slice A' 0 c'] 25 (0, 0)) := by
    have := blk_new (w.alloc (.cells #[.bool sm, S sp] 31)) (.cells #[.int .i64 1, .slice A 1 c, .slice A' 0 c'] 25)
    simpa using this
  have s0 := blk_cell hks 0
  have s1 := blk_cell hks 1
  obtain ⟨m0, m1, m2, n0, n1, n2⟩ := three_facts hkv
  have hE0 := hE.low hb0
  have hbig := hE.big
  have hcall := word_any _ sm sp 1 (by omega) hE0.wd (by have := hE0.big; omega)
  have hwl := word_len sm 1
  obtain ⟨W, hW⟩ : ∃ W, W = low sm (word 1) := ⟨_, rfl⟩
  rw [← hW] at hcall hwl
  have HB0 := Lib.hid hb0
  have HKS := Lib.hid hks
  have HKV := Lib.hid hkv
  have HE := Lib.hid hE
  have HV := Lib.hid hV
  have HW := Lib.hid hW
  have hsz0 : ((w.alloc (.cells #[.bool sm, S sp] 31)).alloc (.cells #[.int .i64 1, .slice A 1 c, .slice A' 0 c'] 25)).heap.size = w.heap.size + 2 := by simp
  have HSZ := Lib.hid hsz0
  clear hb0 hks hkv hE hE0 hW hV hsz0
  go_enter Tryz.func14, Tryz.ntmps14
  go_wp2_with fail
  refine hcall.mono ?_
  clear hcall
  rintro e w2 ⟨rfl, hb2⟩
  have HB2 := Lib.hid (below_then HB0.out HB0.out.size hb2)
  have HKS2 := Lib.hid (blk_below HKS.out hb2)
  have HKV2 := Lib.hid (blk_below HKV.out hb2)
  clear hb2
  have s0a := blk_cell HKS2.out 0
  have s1a := blk_cell HKS2.out 1
  obtain ⟨m0a, m1a, m2a, n0a, n1a, n2a⟩ := three_facts HKV2.out
  have hcall := points_any n w2 (.mk 1 [ps] []) _ (HV.out.below HB2.out) hP
  go_wp2_with fail
  refine hcall.mono ?_
  clear hcall
  rintro e w3 ⟨y, rfl, hy, hb3⟩
  obtain ⟨Az, nz, cz, rfl⟩ := R_sl hy
  obtain ⟨hnz, -, -⟩ := Kd.R_reads' hy
  have HB3 := Lib.hid (below_then HB2.out HB2.out.size hb3)
  have HKS3 := Lib.hid (blk_below HKS2.out hb3)
  have HKV3 := Lib.hid (blk_below HKV2.out hb3)
  clear hb3 hy s0 s1 m0 m1 m2 n0 n1 n2 s0a s1a m0a m1a m2a n0a n1a n2a
  have s0b := blk_cell HKS3.out 0
  have s1b := blk_cell HKS3.out 1
  obtain ⟨m0b, m1b, m2b, n0b, n1b, n2b⟩ := three_facts HKV3.out
  have hz := beq0n (show ¬ nz = 0 by rw [hnz]; exact hne)
  have k0 : (9223372036854775807 < W.length + sp.length) = False := by simp; omega
  clear hnz
  have hC3 : rowK.C w3.drew A [ps].length [ps] := by
    obtain ⟨B1, d1, B2, d2, he, h1, -⟩ := (HV.out.below HB3.out).below (below_drew w3)
    cases he
    exact h1
  obtain ⟨ad, A2, c2, rfl, q0, hC4⟩ := get_row1 hC3 rfl 0 (by simp)
  rw [add0'] at q0
  simp only [List.getElem_cons_zero] at q0 hC4
  have hbd := (below_drew w3).mono HB3.out.size
  have hEd := HE.out.low (HB3.out.trans hbd)
  have hcall := lt_any w3.drew sm sp A2 c2 ps hC4 hq hEd hsp hl
  have htl := pts_len (nf := nfW) hsp (ps := ps) fun p hp => ⟨by have := (hq p hp).1.short; unfold Nl; omega, by have := (hq p hp).2.short; unfold Nl; omega⟩
  obtain ⟨T, hT⟩ : ∃ T, T = ptsT nfW sp ps := ⟨_, rfl⟩
  rw [← hT] at hcall htl
  have HT := Lib.hid hT
  have k1 : (9223372036854775807 < W.length + sp.length + T.length) = False := by simp; omega
  have HBD := Lib.hid (HB3.out.trans hbd)
  have hcall2 : Calls Tryz.prog 29 #[.agg #[.bool sm, S sp], .slice A2 ps.length c2] w3.drew fun e w' => ∃ v, e = .returned v ∧ (v = S T ∧ Below w.heap.size w w') :=
    hcall.mono fun e w' ⟨he, hb⟩ => ⟨_, he, rfl, below_then HBD.out HBD.out.size hb⟩
  have t0 := blk_cell (show w3.drew.heap[w.heap.size]? = _ from HKS3.out) 0
  have t1 := blk_cell (show w3.drew.heap[w.heap.size]? = _ from HKS3.out) 1
  obtain ⟨a0, a1, a2, b0, b1, b2⟩ := three_facts (show w3.drew.heap[w.heap.size + 1]? = _ from HKV3.out)
  clear hC3 hC4 hT hcall hbd hEd
  go_wp2_with fail
  go_region_law (first
    | (refine step_call2 rfl 29 (.tmp 36) (.tmp 40) _ rfl call29 _ _ (by simp [Act.eval, Act.put]) (by simp [Act.eval, Act.put]) hcall2 ?_
       rintro v4 w4 ⟨rfl, hb4⟩
       have HB4 := Lib.hid hb4
       clear hb4))
  all_goals go_wp2
  all_goals go_ret
  all_goals exact ⟨by rw [HW.out, HT.out]; simp [Act.put], HB4.out⟩

set_option maxRecDepth 40000 in
set_option maxHeartbeats 2000000 in
theorem tx_line (n : Nat) (w : World) (sm : Bool) (sp : Bs) (A A' : Option Addr) (c c' : Nat) (ps : List Pt) (hV : ShV n w (.mk 2 [ps] []) (.agg #[.int .i64 2, .slice A 1 c, .slice A' 0 c'])) (hE : En w) (hsp : sp.length ≤ 1) (hP : (ptsS (.mk 2 [ps] [])).length ≤ 1000000000) (hne : ¬ (ptsS (.mk 2 [ps] [])).length = 0) (hq : ∀ p ∈ ps, Wn p.1 ∧ Wn p.2) (hl : ps.length ≤ 1000000) :
    Calls Tryz.prog 14 #[.agg #[.bool sm, S sp], .agg #[.int .i64 2, .slice A 1 c, .slice A' 0 c']] w fun e w' => e = .returned (S (low sm (word 2) ++ sp ++ ptsT nfW sp ps)) ∧ Below w.heap.size w w' := by
  have hb0 := (below_alloc1 w (.cells #[.bool sm, S sp] 31)).alloc (by simp) (.cells #[.int .i64 2, .slice A 1 c, .slice A' 0 c'] 25)
  have hks := blk_alloc (blk_new w (.cells #[.bool sm, S sp] 31)) (.cells #[.int .i64 2, .slice A 1 c, .slice A' 0 c'] 25)
  have hkv : ((w.alloc (.cells #[.bool sm, S sp] 31)).alloc (.cells #[.int .i64 2, .slice A 1 c, .slice A' 0 c'] 25)).heap[w.heap.size + 1]? = some (.cells #[.int .i64 2, .slice A 1 c, .slice A' 0 c'] 25 (0, 0)) := by
    have := blk_new (w.alloc (.cells #[.bool sm, S sp] 31)) (.cells #[.int .i64 2, .slice A 1 c, .slice A' 0 c'] 25)
    simpa using this
  have s0 := blk_cell hks 0
  have s1 := blk_cell hks 1
  obtain ⟨m0, m1, m2, n0, n1, n2⟩ := three_facts hkv
  have hE0 := hE.low hb0
  have hbig := hE.big
  have hcall := word_any _ sm sp 2 (by omega) hE0.wd (by have := hE0.big; omega)
  have hwl := word_len sm 2
  obtain ⟨W, hW⟩ : ∃ W, W = low sm (word 2) := ⟨_, rfl⟩
  rw [← hW] at hcall hwl
  have HB0 := Lib.hid hb0
  have HKS := Lib.hid hks
  have HKV := Lib.hid hkv
  have HE := Lib.hid hE
  have HV := Lib.hid hV
  have HW := Lib.hid hW
  have hsz0 : ((w.alloc (.cells #[.bool sm, S sp] 31)).alloc (.cells #[.int .i64 2, .slice A 1 c, .slice A' 0 c'] 25)).heap.size = w.heap.size + 2 := by simp
  have HSZ := Lib.hid hsz0
  clear hb0 hks hkv hE hE0 hW hV hsz0
  go_enter Tryz.func14, Tryz.ntmps14
  go_wp2_with fail
  refine hcall.mono ?_
  clear hcall
  rintro e w2 ⟨rfl, hb2⟩
  have HB2 := Lib.hid (below_then HB0.out HB0.out.size hb2)
  have HKS2 := Lib.hid (blk_below HKS.out hb2)
  have HKV2 := Lib.hid (blk_below HKV.out hb2)
  clear hb2
  have s0a := blk_cell HKS2.out 0
  have s1a := blk_cell HKS2.out 1
  obtain ⟨m0a, m1a, m2a, n0a, n1a, n2a⟩ := three_facts HKV2.out
  have hcall := points_any n w2 (.mk 2 [ps] []) _ (HV.out.below HB2.out) hP
  go_wp2_with fail
  refine hcall.mono ?_
  clear hcall
  rintro e w3 ⟨y, rfl, hy, hb3⟩
  obtain ⟨Az, nz, cz, rfl⟩ := R_sl hy
  obtain ⟨hnz, -, -⟩ := Kd.R_reads' hy
  have HB3 := Lib.hid (below_then HB2.out HB2.out.size hb3)
  have HKS3 := Lib.hid (blk_below HKS2.out hb3)
  have HKV3 := Lib.hid (blk_below HKV2.out hb3)
  clear hb3 hy s0 s1 m0 m1 m2 n0 n1 n2 s0a s1a m0a m1a m2a n0a n1a n2a
  have s0b := blk_cell HKS3.out 0
  have s1b := blk_cell HKS3.out 1
  obtain ⟨m0b, m1b, m2b, n0b, n1b, n2b⟩ := three_facts HKV3.out
  have hz := beq0n (show ¬ nz = 0 by rw [hnz]; exact hne)
  have k0 : (9223372036854775807 < W.length + sp.length) = False := by simp; omega
  clear hnz
  have hC3 : rowK.C w3.drew A [ps].length [ps] := by
    obtain ⟨B1, d1, B2, d2, he, h1, -⟩ := (HV.out.below HB3.out).below (below_drew w3)
    cases he
    exact h1
  obtain ⟨ad, A2, c2, rfl, q0, hC4⟩ := get_row1 hC3 rfl 0 (by simp)
  rw [add0'] at q0
  simp only [List.getElem_cons_zero] at q0 hC4
  have hbd := (below_drew w3).mono HB3.out.size
  have hEd := HE.out.low (HB3.out.trans hbd)
  have hcall := lt_any w3.drew sm sp A2 c2 ps hC4 hq hEd hsp hl
  have htl := pts_len (nf := nfW) hsp (ps := ps) fun p hp => ⟨by have := (hq p hp).1.short; unfold Nl; omega, by have := (hq p hp).2.short; unfold Nl; omega⟩
  obtain ⟨T, hT⟩ : ∃ T, T = ptsT nfW sp ps := ⟨_, rfl⟩
  rw [← hT] at hcall htl
  have HT := Lib.hid hT
  have k1 : (9223372036854775807 < W.length + sp.length + T.length) = False := by simp; omega
  have HBD := Lib.hid (HB3.out.trans hbd)
  have hcall2 : Calls Tryz.prog 29 #[.agg #[.bool sm, S sp], .slice A2 ps.length c2] w3.drew fun e w' => ∃ v, e = .returned v ∧ (v = S T ∧ Below w.heap.size w w') :=
    hcall.mono fun e w' ⟨he, hb⟩ => ⟨_, he, rfl, below_then HBD.out HBD.out.size hb⟩
  have t0 := blk_cell (show w3.drew.heap[w.heap.size]? = _ from HKS3.out) 0
  have t1 := blk_cell (show w3.drew.heap[w.heap.size]? = _ from HKS3.out) 1
  obtain ⟨a0, a1, a2, b0, b1, b2⟩ := three_facts (show w3.drew.heap[w.heap.size + 1]? = _ from HKV3.out)
  clear hC3 hC4 hT hcall hbd hEd
  go_wp2_with fail
  go_region_law (first
    | (refine step_call2 rfl 29 (.tmp 36) (.tmp 40) _ rfl call29 _ _ (by simp [Act.eval, Act.put]) (by simp [Act.eval, Act.put]) hcall2 ?_
       rintro v4 w4 ⟨rfl, hb4⟩
       have HB4 := Lib.hid hb4
       clear hb4))
  all_goals go_wp2
  all_goals go_ret
  all_goals exact ⟨by rw [HW.out, HT.out]; simp [Act.put], HB4.out⟩
end Go.Proofs.YtghajgdiaopioaaGreatDoor
end
