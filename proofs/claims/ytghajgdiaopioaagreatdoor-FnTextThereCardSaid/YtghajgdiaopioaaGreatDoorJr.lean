/- Walks and plain laws joined (Xd, Xe). Conditions: stand in each law. -/
import Derived.Test.YtghajgdiaopioaaGreatDoorJq
import Derived.Test.YtghajgdiaopioaaGreatDoorJn
import Derived.Test.YtghajgdiaopioaaGreatDoorJp
set_option linter.unusedVariables false
set_option linter.unusedSimpArgs false
section
/- Walks: shapeOf, the kinds with a loop. Conditions: stand in each contract. -/
namespace Go.Proofs.YtghajgdiaopioaaGreatDoor
open Go.RowKit Go.Proofs Tx
open Go.Proofs.YtghajgdiaopioaaGreatDoorW.PrintWords
/-- A geometry of a row that is read. -/
theorem get_geo {n : Nat} {w : World} {A : Option Addr} {m : Nat} {gs : List Geo} (h : (geoK n).C w A m gs) (hm : m = gs.length) (j : Nat) (hj : j < gs.length) :
    ∃ ad t v, A = some ad ∧ w.cell? (ad.add j) = some (.iface t v) ∧ (geoK n).K w gs[j] [.iface t v] := by
  obtain ⟨ad, cs, hA, hlen, hK, hc⟩ := Kd.C_get h (.point (0, 0)) j (by omega) (by omega)
  have hx : gs.getD (j : Int).toNat (.point (0, 0)) = gs[j] := by simp [List.getD, hj]
  rw [hx] at hK
  obtain ⟨t, v, rfl⟩ := geo_iface hK
  have h0 := hc 0 _ rfl
  refine ⟨ad, t, v, hA, ?_, hK⟩
  have e1 : ad.add ((j : Int).toNat * (geoK n).sz + 0) = ad.add j := by
    congr 1
    rw [geoK_sz]; omega
  rw [← e1]; exact h0

set_option maxRecDepth 20000 in
set_option maxHeartbeats 2000000 in
theorem sh_mline (n : Nat) (w : World) (ls : List (List Pt)) (A : Option Addr) (c : Nat) (hC : lineK.C w A ls.length ls) (hl : ls.length ≤ 1000000000) (hl2 : ∀ r ∈ ls, r.length ≤ 1000000000) :
    Calls Tryz.prog 33 #[.iface 76 (.slice A ls.length c)] w fun e w' => ShOk n w.heap.size (.mline ls) w' e ∧ Below w.heap.size w w' := by
  go_enter Tryz.func33, Tryz.ntmps33
  go_wp2
  go_loopw [56] (fun vi wr => ∃ (A' : Option Addr) (k c' j : Nat), vi = .int .i64 j ∧ j ≤ ls.length ∧ wr.heap[w.heap.size]? = some (.cells #[.int .i64 0, .slice none 0 0, .slice none 0 0] 25 (0, 0)) ∧ wr.heap[w.heap.size + 1]? = some (.cells #[.int .i64 5, .slice A' k c', .slice none 0 0] 25 (0, 0)) ∧ w.heap.size + 2 ≤ wr.heap.size ∧ rowK.R 27 wr (w.heap.size + 2) (fun _ => True) (.slice A' k c') (ls.take j) ∧ Below w.heap.size w wr) (fun vi wr => ls.length - (intOf vi).toNat)
  case atStart =>
    refine ⟨none, 0, 0, 0, rfl, Nat.zero_le _, blk_alloc (blk_new _ _) _, ?_, by simp, Kd.R_nil _ _ _ _ _, (below_alloc1 _ _).alloc (by simp) _⟩
    have := blk_new (w.alloc (.cells #[.int .i64 0, .slice none 0 0, .slice none 0 0] 25)) (.cells #[.int .i64 5, .slice none 0 0, .slice none 0 0] 25)
    simpa using this
  case round =>
    obtain ⟨A', k, c', j, rfl, hjl, h2, h3, hsz, hR, hb⟩ := hrel
    by_cases hlt : j < ls.length
    · obtain ⟨ad, A2, c2, rfl, q0, hC2⟩ := get_row2 (Kd.C_below hC hb) rfl j hlt
      obtain ⟨r, hr⟩ : ∃ r, r = ls[j] := ⟨_, rfl⟩
      have hrl : r.length ≤ 1000000000 := by rw [hr]; exact hl2 _ (List.getElem_mem hlt)
      rw [← hr] at q0 hC2
      have hrow := list_any wr.drew A2 c2 r (Kd.C_drew hC2) hrl
      have HX := Lib.hid (show ls.take j ++ [r] = ls.take (j + 1) by rw [List.take_add_one, List.getElem?_eq_getElem hlt, hr]; rfl)
      have HC := Lib.hid hC
      obtain ⟨d0, d1, d2, g0, g1, g2⟩ := three_facts h3
      have hcall : Calls Tryz.prog 60 #[.slice A2 r.length c2] wr.drew fun e w' => ∃ y, e = .returned y ∧ (∃ B n d, y = .slice B n d) ∧ Aside (ptK.R 49 w' wr.heap.size (fun q => wr.heap.size ≤ q) y r ∧ Below wr.heap.size wr w' ∧ w'.heap[w.heap.size + 1]? = some (.cells #[.int .i64 5, .slice A' k c', .slice none 0 0] 25 (0, 0))) ∧ w'.cell? ⟨w.heap.size + 1, 1, none⟩ = some (.slice A' k c') ∧ w'.frozen? ⟨w.heap.size + 1, 1, none⟩ = false ∧ ∀ o, (w'.alloc o).cell? ⟨w.heap.size + 1, 1, none⟩ = some (.slice A' k c') :=
        hrow.mono fun e w' ⟨y, he, hy, hbl⟩ => by
          have hbl' : Below wr.heap.size wr w' := ⟨hbl.os, hbl.tape, hbl.output, hbl.size, hbl.block⟩
          have hh := blk_below h3 hbl'
          have ee := three_facts hh
          exact ⟨y, he, R_sl hy, ⟨R_own_ge hy, hbl', hh⟩, ee.2.1, ee.2.2.2.2.1, fun o => blk_cell (blk_alloc hh o) 1⟩
      have HR := Lib.hid hR
      have HB := Lib.hid hb
      have H2 := Lib.hid h2
      have hlt0 : ∀ q, (Value.slice A' k c').ownBlock = some q → q < wr.heap.size := Kd.R_lt hR
      have HLT := Lib.hid hlt0
      have HBA := Lib.hid (Kd.R_base hR)
      clear hR hb h2 hrow h3 hlt0 hr hC2 hC hl2 d0 d2 g0 g2
      go_wp2_with fail
      go_region_law (first
        | (refine step_call rfl 60 (.tmp 62) _ rfl call60 (.slice A2 r.length c2) (by simp [Act.eval, Act.put]) hcall ?_
           rintro y w1 ⟨⟨Bz, nz, dz, rfl⟩, hA, hc1, hf1, hc2⟩)
        | (refine Kd.R_append_step rowK (w0 := w1) (w.heap.size + 2) rfl (.tmp 61) (.tmp 64) 22 27 (.slice none 0 0) 24 rfl Tryz.underlying22 info27 rfl (by decide) (by decide) (.slice A' k c') (ls.take j) _ [.slice Bz nz dz] (fun _ => True) (fun q => wr.heap.size ≤ q) (by simp [Act.eval, Act.put]) (by simp [Act.eval, Act.put]) ⟨_, rfl, Kd.R_lower hA.out.1 hsz⟩ (fun q hq => ⟨trivial, fun e0 => by have := HLT.out q e0.symm; omega⟩) (fun _ _ => trivial) (Kd.R_below HR.out hA.out.2.1) (Below.refl _ _) (Nat.le_trans hsz hA.out.2.1.size) (by simp; omega) ?_
           intro v1 w3 hR4 hb5 hg5 hat5
           obtain ⟨A1, n1, c1, rfl⟩ := R_sl hR4
           have hs1 := hA.out.2.1.size
           have hh : w3.heap[w.heap.size + 1]? = some (.cells #[.int .i64 5, .slice A' k c', .slice none 0 0] 25 (0, 0)) := (hg5.block (w.heap.size + 1) (by omega) (fun e0 => by have := HBA.out _ e0.symm; omega)).trans hA.out.2.2
           have hh0 : w3.heap[w.heap.size]? = some (.cells #[.int .i64 0, .slice none 0 0, .slice none 0 0] 25 (0, 0)) := (hg5.block w.heap.size (by omega) (fun e0 => by have := HBA.out _ e0.symm; omega)).trans (blk_below H2.out hA.out.2.1)
           have hB3 : Below w.heap.size w w3 := pw_below_grown (HB.out.trans (hA.out.2.1.mono (by omega))) _ (by omega) hg5 (fun q e0 => by have := HBA.out q e0; omega)
           have hc3 := blk_cell hh 1
           have hf3 := blk_frozen hh 1
           have HH := Lib.hid hh
           have HH0 := Lib.hid hh0
           have HB3 := Lib.hid hB3
           have HR4 := Lib.hid hR4
           have HS3 := Lib.hid hb5.size
           clear hh hh0 hB3 hR4 hb5 hg5 hat5))
      all_goals
        have hs1 := hA.out.2.1.size
        have hs3 := HS3.out
        have e1 := HX.out
        have hR5 := HR4.out
        rw [e1] at hR5
        have HR5 := Lib.hid hR5
        clear hR5 e1
        go_wp2
        refine ⟨⟨A1, n1, c1, j + 1, by go_num, by omega, blk_far HH0.out (by simp) _, blk_set HH.out 1 _, by simp [World.setCell]; omega, Kd.R_mono (Kd.R_far (p := ⟨w.heap.size + 1, 1, none⟩) (R_own_ge HR5.out) (fun q hq => by show q ≠ w.heap.size + 1; omega) _) (fun _ _ => trivial), HB3.out.setCell (by show w.heap.size ≤ w.heap.size + 1; omega) _⟩, by simp [intOf]; omega⟩
    · have e1 : ls.take j = ls := List.take_of_length_le (by omega)
      rw [e1] at hR
      obtain ⟨d0, d1, d2, g0, g1, g2⟩ := three_facts h3
      obtain ⟨m0, m1, m2, n0, n1, n2⟩ := three_facts h2
      have HR := Lib.hid (Kd.R_mono (Kd.R_far (p := ⟨w.heap.size, 2, none⟩) (Kd.R_far (p := ⟨w.heap.size, 1, none⟩) (Kd.R_far (p := ⟨w.heap.size, 0, none⟩) (R_own_ge hR) (fun q hq => by show q ≠ w.heap.size; omega) (.int .i64 5)) (fun q hq => by show q ≠ w.heap.size; omega) (.slice A' k c')) (fun q hq => by show q ≠ w.heap.size; omega) (.slice none 0 0)) (fun _ _ => trivial))
      have HB := Lib.hid hb
      have H2 := Lib.hid h2
      clear hR hb h2 h3 e1 hC hl2
      go_wp2
      refine bodyPost_ret (results_cell_row rfl _ _ _ _ _ _ _ rfl (three_set H2.out) Tryz.underlying25 rfl size25) rfl ?_
      refine ⟨⟨_, _, rfl, Kd.R_lower HR.out (by omega), Kd.R_nil _ _ _ _ _⟩, ((HB.out.setCell (Nat.le_refl _) _).setCell (Nat.le_refl _) _).setCell (Nat.le_refl _) _⟩
      

set_option maxRecDepth 20000 in
set_option maxHeartbeats 2000000 in
theorem sh_mpoly (n : Nat) (w : World) (qs : List (List (List Pt))) (A : Option Addr) (c : Nat) (hC : (Kd.slice 117 lineK).C w A qs.length qs) (hl : qs.length ≤ 1000000000) (hl2 : ∀ q ∈ qs, q.length ≤ 1000000000 ∧ ∀ r ∈ q, r.length ≤ 1000000000) :
    Calls Tryz.prog 33 #[.iface 80 (.slice A qs.length c)] w fun e w' => ShOk (n + 1) w.heap.size (.mpoly qs) w' e ∧ Below w.heap.size w w' := by
  go_enter Tryz.func33, Tryz.ntmps33
  go_wp2
  go_loopw [75] (fun vi wr => ∃ (A' : Option Addr) (k c' j : Nat), vi = .int .i64 j ∧ j ≤ qs.length ∧ wr.heap[w.heap.size]? = some (.cells #[.int .i64 0, .slice none 0 0, .slice none 0 0] 25 (0, 0)) ∧ wr.heap[w.heap.size + 1]? = some (.cells #[.int .i64 6, .slice none 0 0, .slice A' k c'] 25 (0, 0)) ∧ w.heap.size + 2 ≤ wr.heap.size ∧ (shK (n + 1)).R 25 wr (w.heap.size + 2) (fun _ => True) (.slice A' k c') ((qs.take j).map (fun q => Sh.mk 3 q [])) ∧ Below w.heap.size w wr) (fun vi wr => qs.length - (intOf vi).toNat)
  case atStart =>
    refine ⟨none, 0, 0, 0, rfl, Nat.zero_le _, blk_alloc (blk_new _ _) _, ?_, by simp, Kd.R_nil _ _ _ _ _, (below_alloc1 _ _).alloc (by simp) _⟩
    have := blk_new (w.alloc (.cells #[.int .i64 0, .slice none 0 0, .slice none 0 0] 25)) (.cells #[.int .i64 6, .slice none 0 0, .slice none 0 0] 25)
    simpa using this
  case round =>
    obtain ⟨A', k, c', j, rfl, hjl, h2, h3, hsz, hR, hb⟩ := hrel
    by_cases hlt : j < qs.length
    · obtain ⟨ad, A2, c2, rfl, q0, hC2⟩ := get_row2 (Kd.C_below hC hb) rfl j hlt
      obtain ⟨r, hr⟩ : ∃ r, r = qs[j] := ⟨_, rfl⟩
      have hrl : r.length ≤ 1000000000 ∧ ∀ p ∈ r, p.length ≤ 1000000000 := by rw [hr]; exact hl2 _ (List.getElem_mem hlt)
      rw [← hr] at q0 hC2
      have hrow := polySh_any wr.drew A2 c2 r (Kd.C_drew hC2) hrl.1 hrl.2
      have HX := Lib.hid (show (qs.take j).map (fun q => Sh.mk 3 q []) ++ [Sh.mk 3 r []] = (qs.take (j + 1)).map (fun q => Sh.mk 3 q []) by rw [List.take_add_one, List.getElem?_eq_getElem hlt, List.map_append, hr]; rfl)
      have HC := Lib.hid hC
      obtain ⟨d0, d1, d2, g0, g1, g2⟩ := three_facts h3
      have hcall : Calls Tryz.prog 61 #[.slice A2 r.length c2] wr.drew fun e w' => ∃ y, e = .returned y ∧ (∃ B n d, y = .agg #[.int .i64 3, .slice B n d, .slice none 0 0] ∧ Aside (rowK.R 27 w' wr.heap.size (fun q => wr.heap.size ≤ q) (.slice B n d) r ∧ Below wr.heap.size wr w' ∧ w'.heap[w.heap.size + 1]? = some (.cells #[.int .i64 6, .slice none 0 0, .slice A' k c'] 25 (0, 0)))) ∧ w'.cell? ⟨w.heap.size + 1, 2, none⟩ = some (.slice A' k c') ∧ w'.frozen? ⟨w.heap.size + 1, 2, none⟩ = false ∧ ∀ o, (w'.alloc o).cell? ⟨w.heap.size + 1, 2, none⟩ = some (.slice A' k c') :=
        hrow.mono fun e w' ⟨vl, he, hy, hbl⟩ => by
          have hbl' : Below wr.heap.size wr w' := ⟨hbl.os, hbl.tape, hbl.output, hbl.size, hbl.block⟩
          have hh := blk_below h3 hbl'
          have ee := three_facts hh
          obtain ⟨Bz, nz, dz, rfl⟩ := R_sl hy
          exact ⟨_, he, ⟨Bz, nz, dz, rfl, R_own_ge hy, hbl', hh⟩, ee.2.2.1, ee.2.2.2.2.2, fun o => blk_cell (blk_alloc hh o) 2⟩
      have HR := Lib.hid hR
      have HB := Lib.hid hb
      have H2 := Lib.hid h2
      have hlt0 : ∀ q, (Value.slice A' k c').ownBlock = some q → q < wr.heap.size := Kd.R_lt hR
      have HLT := Lib.hid hlt0
      have HBA := Lib.hid (Kd.R_base hR)
      clear hR hb h2 hrow h3 hlt0 hr hC2 hC hl2 d0 d1 g0 g1
      go_wp2_with fail
      go_region_law (first
        | (refine step_call rfl 61 (.tmp 81) _ rfl call61 (.slice A2 r.length c2) (by simp [Act.eval, Act.put]) hcall ?_
           rintro y w1 ⟨⟨Bz, nz, dz, rfl, hA⟩, hc1, hf1, hc2⟩)
        | (refine Kd.R_append_step (shK (n + 1)) (w0 := w1) (w.heap.size + 2) rfl (.tmp 80) (.tmp 83) 23 25 (.agg #[.int .i64 0, .slice none 0 0, .slice none 0 0]) 56 rfl Tryz.underlying23 (by rw [shK_sz]; exact info25) (by rw [shK_sz]; rfl) (by rw [shK_sz]; decide) (by decide) (.slice A' k c') ((qs.take j).map (fun q => Sh.mk 3 q [])) _ [.int .i64 3, .slice Bz nz dz, .slice none 0 0] (fun _ => True) (fun q => wr.heap.size ≤ q) (by simp [Act.eval, Act.put]) (by simp [Act.eval, Act.put]) (shK_M (s := Sh.mk 3 r []) (Kd.R_lower hA.out.1 hsz) (Kd.R_nil _ _ _ _ _)) (fun q hq => ⟨trivial, fun e0 => by have := HLT.out q e0.symm; omega⟩) (fun _ _ => trivial) (Kd.R_below HR.out hA.out.2.1) (Below.refl _ _) (Nat.le_trans hsz hA.out.2.1.size) (by simp; omega) ?_
           intro v1 w3 hR4 hb5 hg5 hat5
           obtain ⟨A1, n1, c1, rfl⟩ := R_sl hR4
           have hs1 := hA.out.2.1.size
           have hh : w3.heap[w.heap.size + 1]? = some (.cells #[.int .i64 6, .slice none 0 0, .slice A' k c'] 25 (0, 0)) := (hg5.block (w.heap.size + 1) (by omega) (fun e0 => by have := HBA.out _ e0.symm; omega)).trans hA.out.2.2
           have hh0 : w3.heap[w.heap.size]? = some (.cells #[.int .i64 0, .slice none 0 0, .slice none 0 0] 25 (0, 0)) := (hg5.block w.heap.size (by omega) (fun e0 => by have := HBA.out _ e0.symm; omega)).trans (blk_below H2.out hA.out.2.1)
           have hB3 : Below w.heap.size w w3 := pw_below_grown (HB.out.trans (hA.out.2.1.mono (by omega))) _ (by omega) hg5 (fun q e0 => by have := HBA.out q e0; omega)
           have hc3 := blk_cell hh 2
           have hf3 := blk_frozen hh 2
           have HH := Lib.hid hh
           have HH0 := Lib.hid hh0
           have HB3 := Lib.hid hB3
           have HR4 := Lib.hid hR4
           have HS3 := Lib.hid hb5.size
           clear hh hh0 hB3 hR4 hb5 hg5 hat5))
      all_goals
        have hs1 := hA.out.2.1.size
        have hs3 := HS3.out
        have e1 := HX.out
        have hR5 := HR4.out
        rw [e1] at hR5
        have HR5 := Lib.hid hR5
        clear hR5 e1
        go_wp2
        refine ⟨⟨A1, n1, c1, j + 1, by go_num, by omega, blk_far HH0.out (by simp) _, blk_set HH.out 2 _, by simp [World.setCell]; omega, Kd.R_mono (Kd.R_far (p := ⟨w.heap.size + 1, 2, none⟩) (R_own_ge HR5.out) (fun q hq => by show q ≠ w.heap.size + 1; omega) _) (fun _ _ => trivial), HB3.out.setCell (by show w.heap.size ≤ w.heap.size + 1; omega) _⟩, by simp [intOf]; omega⟩
    · have e1 : qs.take j = qs := List.take_of_length_le (by omega)
      rw [e1] at hR
      obtain ⟨d0, d1, d2, g0, g1, g2⟩ := three_facts h3
      obtain ⟨m0, m1, m2, n0, n1, n2⟩ := three_facts h2
      have HR := Lib.hid (Kd.R_mono (Kd.R_far (p := ⟨w.heap.size, 2, none⟩) (Kd.R_far (p := ⟨w.heap.size, 1, none⟩) (Kd.R_far (p := ⟨w.heap.size, 0, none⟩) (R_own_ge hR) (fun q hq => by show q ≠ w.heap.size; omega) (.int .i64 6)) (fun q hq => by show q ≠ w.heap.size; omega) (.slice none 0 0)) (fun q hq => by show q ≠ w.heap.size; omega) (.slice A' k c')) (fun _ _ => trivial))
      have HB := Lib.hid hb
      have H2 := Lib.hid h2
      clear hR hb h2 h3 e1 hC hl2
      go_wp2
      refine bodyPost_ret (results_cell_row rfl _ _ _ _ _ _ _ rfl (three_set H2.out) Tryz.underlying25 rfl size25) rfl ?_
      refine ⟨⟨_, _, rfl, Kd.R_nil _ _ _ _ _, ?_⟩, ((HB.out.setCell (Nat.le_refl _) _).setCell (Nat.le_refl _) _).setCell (Nat.le_refl _) _⟩
      exact Kd.R_lower (by first | exact HR.out | (show (shK _).R 25 _ _ _ _ (shOf.shOfs gs); rw [shOfs_map]; exact HR.out)) (by omega)

theorem call33 : ∀ args w, (callFunc 33 args).run Tryz.prog w = .ok (.enter 33 args) w := by
  intro args w
  kernel_rfl

set_option maxRecDepth 20000 in
set_option maxHeartbeats 2000000 in
theorem sh_coll (n : Nat) (ih : ∀ (w : World) (g : Geo) (x : Value), (geoK n).K w g [x] → LimG g → Calls Tryz.prog 33 #[x] w fun e w' => ShOk n w.heap.size g w' e ∧ Below w.heap.size w w') (w : World) (gs : List Geo) (A : Option Addr) (c : Nat) (hC : (geoK n).C w A gs.length gs) (hl : gs.length ≤ 1000000000) (hl2 : ∀ g ∈ gs, LimG g) :
    Calls Tryz.prog 33 #[.iface 84 (.slice A gs.length c)] w fun e w' => ShOk (n + 1) w.heap.size (.coll gs) w' e ∧ Below w.heap.size w w' := by
  go_enter Tryz.func33, Tryz.ntmps33
  go_wp2
  go_loopw [94] (fun vi wr => ∃ (A' : Option Addr) (k c' j : Nat), vi = .int .i64 j ∧ j ≤ gs.length ∧ wr.heap[w.heap.size]? = some (.cells #[.int .i64 0, .slice none 0 0, .slice none 0 0] 25 (0, 0)) ∧ wr.heap[w.heap.size + 1]? = some (.cells #[.int .i64 7, .slice none 0 0, .slice A' k c'] 25 (0, 0)) ∧ w.heap.size + 2 ≤ wr.heap.size ∧ (shK (n + 1)).R 25 wr (w.heap.size + 2) (fun _ => True) (.slice A' k c') ((gs.take j).map shOf) ∧ Below w.heap.size w wr) (fun vi wr => gs.length - (intOf vi).toNat)
  case atStart =>
    refine ⟨none, 0, 0, 0, rfl, Nat.zero_le _, blk_alloc (blk_new _ _) _, ?_, by simp, Kd.R_nil _ _ _ _ _, (below_alloc1 _ _).alloc (by simp) _⟩
    have := blk_new (w.alloc (.cells #[.int .i64 0, .slice none 0 0, .slice none 0 0] 25)) (.cells #[.int .i64 7, .slice none 0 0, .slice none 0 0] 25)
    simpa using this
  case round =>
    obtain ⟨A', k, c', j, rfl, hjl, h2, h3, hsz, hR, hb⟩ := hrel
    by_cases hlt : j < gs.length
    · obtain ⟨ad, gt, gv, rfl, q0, hK2⟩ := get_geo (Kd.C_below hC hb) rfl j hlt
      obtain ⟨r, hr⟩ : ∃ r, r = gs[j] := ⟨_, rfl⟩
      have hrl : LimG r := by rw [hr]; exact hl2 _ (List.getElem_mem hlt)
      rw [← hr] at hK2
      have hrow := ih wr.drew r _ ((geoK n).K_below (below_drew wr) hK2) hrl
      have HX := Lib.hid (show (gs.take j).map shOf ++ [shOf r] = (gs.take (j + 1)).map shOf by rw [List.take_add_one, List.getElem?_eq_getElem hlt, List.map_append, hr]; rfl)
      have HC := Lib.hid hC
      obtain ⟨d0, d1, d2, g0, g1, g2⟩ := three_facts h3
      have hcall : Calls Tryz.prog 33 #[.iface gt gv] wr.drew fun e w' => ∃ y, e = .returned y ∧ (∃ B n0 d B' n' d', y = .agg #[.int .i64 (shOf r).kind, .slice B n0 d, .slice B' n' d'] ∧ Aside ((rowK.R 27 w' wr.heap.size (fun q => wr.heap.size ≤ q) (.slice B n0 d) (shOf r).lists ∧ (shK n).R 25 w' wr.heap.size (fun q => wr.heap.size ≤ q) (.slice B' n' d') (shOf r).parts) ∧ Below wr.heap.size wr w' ∧ w'.heap[w.heap.size + 1]? = some (.cells #[.int .i64 7, .slice none 0 0, .slice A' k c'] 25 (0, 0)))) ∧ w'.cell? ⟨w.heap.size + 1, 2, none⟩ = some (.slice A' k c') ∧ w'.frozen? ⟨w.heap.size + 1, 2, none⟩ = false ∧ ∀ o, (w'.alloc o).cell? ⟨w.heap.size + 1, 2, none⟩ = some (.slice A' k c') :=
        hrow.mono fun e w' ⟨⟨vl, vp, he, hy, hy2⟩, hbl⟩ => by
          have hbl' : Below wr.heap.size wr w' := ⟨hbl.os, hbl.tape, hbl.output, hbl.size, hbl.block⟩
          have hh := blk_below h3 hbl'
          have ee := three_facts hh
          obtain ⟨Bz, nz, dz, rfl⟩ := R_sl hy
          obtain ⟨Bq, nq, dq, rfl⟩ := R_sl hy2
          exact ⟨_, he, ⟨Bz, nz, dz, Bq, nq, dq, rfl, ⟨R_own_ge hy, R_own_ge hy2⟩, hbl', hh⟩, ee.2.2.1, ee.2.2.2.2.2, fun o => blk_cell (blk_alloc hh o) 2⟩
      have HR := Lib.hid hR
      have HB := Lib.hid hb
      have H2 := Lib.hid h2
      have hlt0 : ∀ q, (Value.slice A' k c').ownBlock = some q → q < wr.heap.size := Kd.R_lt hR
      have HLT := Lib.hid hlt0
      have HBA := Lib.hid (Kd.R_base hR)
      clear hR hb h2 hrow h3 hlt0 hr hK2 hC hl2 d0 d1 g0 g1
      go_wp2_with fail
      go_region_law (first
        | (refine step_call rfl 33 (.tmp 100) _ rfl call33 (.iface gt gv) (by simp [Act.eval, Act.put]) hcall ?_
           rintro y w1 ⟨⟨Bz, nz, dz, Bq, nq, dq, rfl, hA⟩, hc1, hf1, hc2⟩)
        | (refine Kd.R_append_step (shK (n + 1)) (w0 := w1) (w.heap.size + 2) rfl (.tmp 99) (.tmp 102) 23 25 (.agg #[.int .i64 0, .slice none 0 0, .slice none 0 0]) 56 rfl Tryz.underlying23 (by rw [shK_sz]; exact info25) (by rw [shK_sz]; rfl) (by rw [shK_sz]; decide) (by decide) (.slice A' k c') ((gs.take j).map shOf) _ [.int .i64 (shOf r).kind, .slice Bz nz dz, .slice Bq nq dq] (fun _ => True) (fun q => wr.heap.size ≤ q) (by simp [Act.eval, Act.put]) (by simp [Act.eval, Act.put]) (shK_M (s := shOf r) (Kd.R_lower hA.out.1.1 hsz) (Kd.R_lower hA.out.1.2 hsz)) (fun q hq => ⟨trivial, fun e0 => by have := HLT.out q e0.symm; omega⟩) (fun _ _ => trivial) (Kd.R_below HR.out hA.out.2.1) (Below.refl _ _) (Nat.le_trans hsz hA.out.2.1.size) (by simp; omega) ?_
           intro v1 w3 hR4 hb5 hg5 hat5
           obtain ⟨A1, n1, c1, rfl⟩ := R_sl hR4
           have hs1 := hA.out.2.1.size
           have hh : w3.heap[w.heap.size + 1]? = some (.cells #[.int .i64 7, .slice none 0 0, .slice A' k c'] 25 (0, 0)) := (hg5.block (w.heap.size + 1) (by omega) (fun e0 => by have := HBA.out _ e0.symm; omega)).trans hA.out.2.2
           have hh0 : w3.heap[w.heap.size]? = some (.cells #[.int .i64 0, .slice none 0 0, .slice none 0 0] 25 (0, 0)) := (hg5.block w.heap.size (by omega) (fun e0 => by have := HBA.out _ e0.symm; omega)).trans (blk_below H2.out hA.out.2.1)
           have hB3 : Below w.heap.size w w3 := pw_below_grown (HB.out.trans (hA.out.2.1.mono (by omega))) _ (by omega) hg5 (fun q e0 => by have := HBA.out q e0; omega)
           have hc3 := blk_cell hh 2
           have hf3 := blk_frozen hh 2
           have HH := Lib.hid hh
           have HH0 := Lib.hid hh0
           have HB3 := Lib.hid hB3
           have HR4 := Lib.hid hR4
           have HS3 := Lib.hid hb5.size
           clear hh hh0 hB3 hR4 hb5 hg5 hat5))
      all_goals
        have hs1 := hA.out.2.1.size
        have hs3 := HS3.out
        have e1 := HX.out
        have hR5 := HR4.out
        rw [e1] at hR5
        have HR5 := Lib.hid hR5
        clear hR5 e1
        go_wp2
        refine ⟨⟨A1, n1, c1, j + 1, by go_num, by omega, blk_far HH0.out (by simp) _, blk_set HH.out 2 _, by simp [World.setCell]; omega, Kd.R_mono (Kd.R_far (p := ⟨w.heap.size + 1, 2, none⟩) (R_own_ge HR5.out) (fun q hq => by show q ≠ w.heap.size + 1; omega) _) (fun _ _ => trivial), HB3.out.setCell (by show w.heap.size ≤ w.heap.size + 1; omega) _⟩, by simp [intOf]; omega⟩
    · have e1 : gs.take j = gs := List.take_of_length_le (by omega)
      rw [e1] at hR
      obtain ⟨d0, d1, d2, g0, g1, g2⟩ := three_facts h3
      obtain ⟨m0, m1, m2, n0, n1, n2⟩ := three_facts h2
      have HR := Lib.hid (Kd.R_mono (Kd.R_far (p := ⟨w.heap.size, 2, none⟩) (Kd.R_far (p := ⟨w.heap.size, 1, none⟩) (Kd.R_far (p := ⟨w.heap.size, 0, none⟩) (R_own_ge hR) (fun q hq => by show q ≠ w.heap.size; omega) (.int .i64 7)) (fun q hq => by show q ≠ w.heap.size; omega) (.slice none 0 0)) (fun q hq => by show q ≠ w.heap.size; omega) (.slice A' k c')) (fun _ _ => trivial))
      have HB := Lib.hid hb
      have H2 := Lib.hid h2
      clear hR hb h2 h3 e1 hC hl2
      go_wp2
      refine bodyPost_ret (results_cell_row rfl _ _ _ _ _ _ _ rfl (three_set H2.out) Tryz.underlying25 rfl size25) rfl ?_
      refine ⟨⟨_, _, rfl, Kd.R_nil _ _ _ _ _, ?_⟩, ((HB.out.setCell (Nat.le_refl _) _).setCell (Nat.le_refl _) _).setCell (Nat.le_refl _) _⟩
      exact Kd.R_lower (by first | exact HR.out | (show (shK _).R 25 _ _ _ _ (shOf.shOfs gs); rw [shOfs_map]; exact HR.out)) (by omega)
/-! Walks: shapeOf at every depth; Read. -/
theorem ShOk.succ {n B : Nat} {g : Geo} {w' : World} {e : Ending} (h : ShOk n B g w' e) : ShOk n B g w' e := h
/-- shapeOf. -/
theorem shapeOf_any : ∀ (n : Nat) (w : World) (g : Geo) (x : Value), (geoK n).K w g [x] → LimG g → Calls Tryz.prog 33 #[x] w fun e w' => ShOk n w.heap.size g w' e ∧ Below w.heap.size w w'
  | 0, w, g, x, h, hl => h.elim
  | n + 1, w, g, x, h, hl => by
    have ih := shapeOf_any n
    cases g with
    | point p =>
      cases (show [x] = [Value.iface 61 (ptV p)] from h)
      exact sh_point (n + 1) w p
    | line ps =>
      obtain ⟨v, hx, A, c, hv, hle, hC⟩ := h
      cases hx; cases hv
      cases hl with | line h1 => exact sh_line (n + 1) w ps A c hC h1
    | poly rs =>
      obtain ⟨v, hx, A, c, hv, hle, hC⟩ := h
      cases hx; cases hv
      cases hl with | poly h1 h2 => exact sh_poly (n + 1) w rs A c hC h1 h2
    | mpoint ps =>
      obtain ⟨v, hx, A, c, hv, hle, hC⟩ := h
      cases hx; cases hv
      cases hl with | mpoint h1 => exact sh_mpoint (n + 1) w ps A c hC h1
    | mline ls =>
      obtain ⟨v, hx, A, c, hv, hle, hC⟩ := h
      cases hx; cases hv
      cases hl with | mline h1 h2 => exact sh_mline (n + 1) w ls A c hC h1 h2
    | mpoly qs =>
      obtain ⟨v, hx, A, c, hv, hle, hC⟩ := h
      cases hx; cases hv
      cases hl with | mpoly h1 h2 => exact sh_mpoly n w qs A c hC h1 h2
    | coll gs =>
      obtain ⟨v, hx, A, c, hv, hle, hC⟩ := h
      cases hx; cases hv
      cases hl with | coll h1 h2 => exact sh_coll n ih w gs A c hC h1 h2

theorem read_err (pf : Bs → Rd Nat) (hpf : PfOk pf) (n : Nat) (s : Bs) (w : World) {B0 : Nat} (hg : Gl B0 w) (hl : s.length ≤ 1000000000) (ha : Asc s) (hr : readG pf n s = .err) :
    Calls Tryz.prog 15 #[S s] w fun e w' => e = .returned (.tuple #[.agg #[.int .i64 0, .slice none 0 0, .slice none 0 0], .bool false]) ∧ Below w.heap.size w w' := by
  have hb2 := below_alloc1 w (.cells #[.int .i64 0, .slice none 0 0, .slice none 0 0] 25)
  have hcall := unm_any pf hpf n s (w.alloc (.cells #[.int .i64 0, .slice none 0 0, .slice none 0 0] 25)) B0 _ (hg.low hb2) hl ha hr (by simp)
  have hk := blk_new w (.cells #[.int .i64 0, .slice none 0 0, .slice none 0 0] 25)
  have HK := Lib.hid hk
  have HB2 := Lib.hid hb2
  clear hk hb2 hr
  go_enter Tryz.func15, Tryz.ntmps15
  go_wp2_with fail
  refine hcall.mono ?_
  clear hcall
  rintro e w1 ⟨⟨u, v, rfl⟩, hb1⟩
  have hk1 := blk_below HK.out hb1
  obtain ⟨m0, m1, m2, n0, n1, n2⟩ := three_facts hk1
  have HK1 := Lib.hid hk1
  have HBW := Lib.hid (below_then HB2.out (by simp) hb1)
  clear hk1 hb1
  go_wp2
  refine bodyPost_ret (results_ct rfl _ _ _ _ _ _ _ rfl (three_set HK1.out) Tryz.underlying25 rfl size25) rfl ?_
  exact ⟨rfl, ((HBW.out.setCell (Nat.le_refl _) _).setCell (Nat.le_refl _) _).setCell (Nat.le_refl _) _⟩

/-- What Read answers. -/
def ReadOk (n B : Nat) (g : Geo) (w' : World) (e : Ending) : Prop := ∃ vl vp, e = .returned (.tuple #[.agg #[.int .i64 (shOf g).kind, vl, vp], .bool true]) ∧ rowK.R 27 w' B (fun _ => True) vl (shOf g).lists ∧ (shK n).R 25 w' B (fun _ => True) vp (shOf g).parts
set_option maxRecDepth 20000 in
theorem read_ok (pf : Bs → Rd Nat) (hpf : PfOk pf) (n : Nat) (s : Bs) (w : World) {B0 : Nat} (hg : Gl B0 w) (hl : s.length ≤ 1000000000) (ha : Asc s) (g : Geo) (hr : readG pf n s = .ok g) (hlim : LimG g) :
    Calls Tryz.prog 15 #[S s] w fun e w' => ReadOk n w.heap.size g w' e ∧ Below w.heap.size w w' := by
  have hb2 := below_alloc1 w (.cells #[.int .i64 0, .slice none 0 0, .slice none 0 0] 25)
  have hcall := unm_any pf hpf n s (w.alloc (.cells #[.int .i64 0, .slice none 0 0, .slice none 0 0] 25)) B0 _ (hg.low hb2) hl ha hr (by simp)
  have hk := blk_new w (.cells #[.int .i64 0, .slice none 0 0, .slice none 0 0] 25)
  have HK := Lib.hid hk
  have HB2 := Lib.hid hb2
  clear hk hb2 hr
  go_enter Tryz.func15, Tryz.ntmps15
  go_wp2_with fail
  refine hcall.mono ?_
  clear hcall
  rintro e w1 ⟨⟨x, rfl, hM⟩, hb1⟩
  have hK := (geoK n).K_of_M hM
  obtain ⟨gt, gv, hge⟩ := geo_iface hK
  cases hge
  have hcall := shapeOf_any n w1 g _ hK hlim
  have hk1 := blk_below HK.out hb1
  have HBW := Lib.hid (below_then HB2.out (by simp) hb1)
  have hsz := hb1.size
  replace hsz : w.heap.size + 1 ≤ w1.heap.size := by simpa using hsz
  clear hb1 hM hK
  go_wp2_with fail
  refine hcall.mono ?_
  clear hcall
  rintro e w2 ⟨⟨vl, vp, rfl, hvl, hvp⟩, hb2⟩
  obtain ⟨B, q, d, rfl⟩ := R_sl hvl
  obtain ⟨B', q', d', rfl⟩ := R_sl hvp
  have hk2 := blk_below hk1 hb2
  obtain ⟨m0, m1, m2, n0, n1, n2⟩ := three_facts hk2
  have HK2 := Lib.hid hk2
  have HBW2 := Lib.hid (below_then HBW.out HBW.out.size hb2)
  have HL := Lib.hid (R_own_ge hvl)
  have HP := Lib.hid (R_own_ge hvp)
  clear hk1 hk2 hb2 hvl hvp
  go_wp2
  refine bodyPost_ret (results_ct rfl _ _ _ _ _ _ _ rfl (three_set HK2.out) Tryz.underlying25 rfl size25) rfl ?_
  have tr : ∀ {α : Type} {dd : Kd α} {e : Nat} {ww : World} {v : Value} {xs : List α} (u : Value) (o : Nat), dd.R e ww w1.heap.size (fun k => w1.heap.size ≤ k) v xs → dd.R e (ww.setCell ⟨w.heap.size, o, none⟩ u) w1.heap.size (fun k => w1.heap.size ≤ k) v xs :=
    fun u o h => Kd.R_far (p := ⟨w.heap.size, o, none⟩) h (fun k hk => by show k ≠ w.heap.size; omega) u
  refine ⟨⟨_, _, rfl, Kd.R_lower (Kd.R_mono (tr _ _ (tr _ _ (tr _ _ HL.out))) (fun _ _ => trivial)) (by omega), Kd.R_lower (Kd.R_mono (tr _ _ (tr _ _ (tr _ _ HP.out))) (fun _ _ => trivial)) (by omega)⟩, ((HBW2.out.setCell (Nat.le_refl _) _).setCell (Nat.le_refl _) _).setCell (Nat.le_refl _) _⟩
end Go.Proofs.YtghajgdiaopioaaGreatDoor
end
