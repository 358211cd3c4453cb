/- Walks and plain laws joined (Za, Zb, Zc, Ra). Conditions: stand in each law. -/
import Derived.Test.YtghajgdiaopioaaGreatDoorJx
import Derived.Test.YtghajgdiaopioaaGreatDoorJm
import Derived.Test.YtghajgdiaopioaaGreatDoorJl
import Derived.Test.YtghajgdiaopioaaGreatDoorJxc
import Derived.Test.YtghajgdiaopioaaGreatDoorJz
import Derived.Test.YtghajgdiaopioaaGreatDoorJxa
import Derived.Test.YtghajgdiaopioaaGreatDoorJn
import Derived.Lib.AppendIntMem
set_option linter.unusedVariables false
set_option linter.unusedSimpArgs false
section
/- Walks: pointsOf, first, polygonOf. Conditions: stand in each contract. -/
namespace Go.Proofs.YtghajgdiaopioaaGreatDoor
open Go.RowKit Go.Proofs Tx
open Go.Proofs.YtghajgdiaopioaaGreatDoorW.PrintWords
set_option maxRecDepth 20000 in
set_option maxHeartbeats 1000000 in
/-- pointsOf. -/
theorem pts_any (w : World) (A : Option Addr) (c : Nat) (ps : List Pt) (hC : ptK.C w A ps.length ps) (hl : ps.length ≤ 1000000000) :
    Calls Tryz.prog 63 #[.slice A ps.length c] w fun e w' => ∃ x, e = .returned x ∧ ptK.R 61 w' w.heap.size (fun _ => True) x ps ∧ Below w.heap.size w w' := by
  go_enter Tryz.func63, Tryz.ntmps63
  go_wp2
  go_loopw [3, 9] (fun v3 v9 wr => ∃ (A' : Option Addr) (k c' j : Nat), v3 = .slice A' k c' ∧ v9 = .int .i64 j ∧ j ≤ ps.length ∧ ptK.R 61 wr w.heap.size (fun _ => True) (.slice A' k c') (ps.take j) ∧ Below w.heap.size w wr) (fun v3 v9 wr => ps.length - (intOf v9).toNat)
  case atStart => exact ⟨_, _, _, 0, rfl, rfl, Nat.zero_le _, R_empty _ _ _, below_alloc1 _ _⟩
  case round =>
    obtain ⟨A', k, c', j, rfl, rfl, hjl, hR, hb⟩ := hrel
    have hszr := hb.size
    have HR := Lib.hid hR
    have HB := Lib.hid hb
    by_cases hlt : j < ps.length
    · obtain ⟨ad, rfl, q0, q1⟩ := get_pt (Kd.C_below hC hb) rfl j hlt
      obtain ⟨x, hx⟩ : ∃ x, x = ps[j].1 := ⟨_, rfl⟩
      obtain ⟨y, hy⟩ : ∃ y, y = ps[j].2 := ⟨_, rfl⟩
      rw [← hx] at q0
      rw [← hy] at q1
      have HX := Lib.hid (show ps[j] = (x, y) by rw [hx, hy])
      clear hR hb hx hy
      have hcl : ptK.C w (some ad) ps.length ps := hC
      have HC := Lib.hid hC
      clear hC hcl
      go_wp2_with (at_builtin; go_loud (refine Kd.R_append ptK (w0 := w) w.heap.size rfl (.tmp 13) (.tmp 19) 64 61 (.agg #[.float .f64 0, .float .f64 0]) 16 rfl Tryz.underlying64 info61 rfl (by decide) (by decide) (.slice A' k c') (ps.take j) (x, y) [.float .f64 x, .float .f64 y] (fun _ => True) (fun _ => False) rfl (by simp [Act.eval]) ?hp ?hokp ?hfresh ?HO ?HB ?hbase ?hl ?_))
      case hp => exact ptK_M _ _ _ _
      case hokp => exact fun _ h => h.elim
      case hfresh => exact fun _ _ => trivial
      case HO => exact Kd.R_alloc HR.out _
      case HB => exact HB.out.alloc hszr _
      case hbase => simp; omega
      case hl => simp; omega
      intro v1 w3 hR4 hb5 hg5 hat5
      obtain ⟨A1, n1, c1, rfl⟩ := R_sl hR4
      have e1 : ps.take j ++ [(x, y)] = ps.take (j + 1) := by
        rw [List.take_add_one, List.getElem?_eq_getElem hlt, HX.out]; rfl
      rw [e1] at hR4
      have HR4 := Lib.hid hR4
      have HB5 := Lib.hid hb5
      have hC := HC.out
      clear hR4 hb5 hg5 hat5 e1
      go_wp2
      exact ⟨⟨A1, n1, c1, j + 1, rfl, by go_num, by omega, HR4.out, HB5.out⟩, by simp [intOf]; omega⟩
    · have e1 : ps.take j = ps := List.take_of_length_le (by omega)
      rw [e1] at hR
      have HR2 := Lib.hid hR
      clear hR hb e1 hC
      go_wp2
      go_ret
      exact ⟨_, rfl, HR2.out, HB.out⟩

theorem R_empty_at {α : Type} (d : Kd α) (e : Nat) (W : World) (base n : Nat) (hn : n = W.heap.size) (hb : base ≤ W.heap.size) : d.R e (W.alloc (.cells #[] e)) base (fun _ => True) (.slice (some ⟨n, 0, none⟩) 0 0) [] := by
  subst hn
  exact Kd.R_lower (R_empty d e W) hb
theorem add0 (a : Addr) : a.add 0 = a := by
  unfold Addr.add
  split <;> simp_all
theorem cell_lt2 {w : World} {a : Addr} {v : Value} (h : w.cell? a = some v) : a.block < w.heap.size := by
  rcases Nat.lt_or_ge a.block w.heap.size with h' | h'
  · exact h'
  · simp [World.cell?, Array.getElem?_eq_none h'] at h
set_option maxRecDepth 20000 in
set_option maxHeartbeats 1000000 in
/-- first. -/
theorem first_any (w : World) (k : Int) (A : Option Addr) (c : Nat) (v : Value) (ls : List (List Pt)) (hC : rowK.C w A ls.length ls) (h0 : 0 < ls.length) :
    Calls Tryz.prog 62 #[.agg #[.int .i64 k, .slice A ls.length c, v]] w fun e w' => ∃ A2 c2, e = .returned (.slice A2 (ls[0]'h0).length c2) ∧ ptK.C w' A2 (ls[0]'h0).length (ls[0]'h0) ∧ Below w.heap.size w w' := by
  obtain ⟨ad, A2, c2, rfl, q0, hC2⟩ := get_row1 hC rfl 0 h0
  have q0' : w.cell? ad = some (.slice A2 (ls[0]'h0).length c2) := by rw [← add0 ad]; exact q0
  have hn : ((ls.length : Int) == 0) = false := by rw [beq_eq_false_iff_ne]; omega
  obtain ⟨r, hr⟩ : ∃ r, r = ls[0]'h0 := ⟨_, rfl⟩
  rw [← hr] at q0' hC2 ⊢
  have q1 : (w.alloc (.cells #[.int .i64 k, .slice (some ad) ls.length c, v] 25)).cell? ad = some (.slice A2 r.length c2) := cell_below q0' (below_alloc1 _ _) (cell_lt2 q0')
  have q1' : (w.alloc (.cells #[.int .i64 k, .slice (some ad) ls.length c, v] 25)).cell? (ad.add 0) = some (.slice A2 r.length c2) := by rw [add0]; exact q1
  obtain ⟨m0, m1, m2, n0, n1, n2⟩ := three_facts (blk_new w (.cells #[.int .i64 k, .slice (some ad) ls.length c, v] 25))
  have HC := Lib.hid (Kd.C_below hC2 (below_alloc1 w (.cells #[.int .i64 k, .slice (some ad) ls.length c, v] 25)))
  clear hC hC2 hr q0 q0'
  go_enter Tryz.func62, Tryz.ntmps62
  go_wp2
  go_ret
  exact ⟨_, _, rfl, HC.out, below_alloc1 _ _⟩

set_option maxRecDepth 20000 in
set_option maxHeartbeats 1000000 in
/-- polygonOf. -/
theorem polyOf_any (w : World) (kk : Int) (A : Option Addr) (c : Nat) (vp : Value) (rs : List (List Pt)) (hC : rowK.C w A rs.length rs) (hl : rs.length ≤ 1000000000) (hl2 : ∀ r ∈ rs, r.length ≤ 1000000000) :
    Calls Tryz.prog 64 #[.agg #[.int .i64 kk, .slice A rs.length c, vp]] w fun e w' => ∃ x, e = .returned x ∧ lineK.R 117 w' w.heap.size (fun _ => True) x rs ∧ Below w.heap.size w w' := by
  have hbx := below_alloc1 w (.cells #[.int .i64 kk, .slice A rs.length c, vp] 25)
  have hkx := blk_new w (.cells #[.int .i64 kk, .slice A rs.length c, vp] 25)
  obtain ⟨m0, m1, m2, n0, n1, n2⟩ := three_facts (blk_alloc hkx (.cells #[] 117 (0, 0)))
  go_enter Tryz.func64, Tryz.ntmps64
  go_wp2
  go_loopw [3, 10] (fun v3 v10 wr => ∃ (A' : Option Addr) (k c' j : Nat), v3 = .slice A' k c' ∧ v10 = .int .i64 j ∧ j ≤ rs.length ∧ lineK.R 117 wr w.heap.size (fun _ => True) (.slice A' k c') (rs.take j) ∧ Below w.heap.size w wr) (fun v3 v10 wr => rs.length - (intOf v10).toNat)
  case atStart => exact ⟨_, _, _, 0, rfl, rfl, Nat.zero_le _, R_empty_at lineK 117 (w.alloc _) w.heap.size _ (by simp) (by simp), hbx.alloc (by simp) _⟩
  case round =>
    obtain ⟨A', k, c', j, rfl, rfl, hjl, hR, hb⟩ := hrel
    have hszr := hb.size
    have HR := Lib.hid hR
    have HB := Lib.hid hb
    by_cases hlt : j < rs.length
    · obtain ⟨ad, A2, c2, rfl, q0, hC2⟩ := get_row1 (Kd.C_below hC hb) rfl j hlt
      obtain ⟨r, hr⟩ : ∃ r, r = rs[j] := ⟨_, rfl⟩
      have hrl : r.length ≤ 1000000000 := by rw [hr]; exact hl2 _ (List.getElem_mem hlt)
      rw [← hr] at q0 hC2
      have hrow := pts_any wr A2 c2 r hC2 hrl
      have HX := Lib.hid hr
      have HC := Lib.hid hC
      have hlt0 : ∀ q, (Value.slice A' k c').ownBlock = some q → q < wr.heap.size := Kd.R_lt hR
      clear hR hb hr hC hC2
      go_wp2_with fail
      refine hrow.mono ?_
      clear hrow
      rintro e w1 ⟨y, rfl, hy, hby⟩
      obtain ⟨Bz, nz, dz, rfl⟩ := R_sl hy
      have hy' := R_own_ge hy
      have hs1 := hby.size
      clear hy
      go_wp2_with (at_builtin; go_loud (refine Kd.R_append lineK (w0 := w) w.heap.size rfl (.tmp 14) (.tmp 17) 69 117 (.slice none 0 0) 24 rfl Tryz.underlying69 info117 rfl (by decide) (by decide) (.slice A' k c') (rs.take j) r [.slice Bz nz dz] (fun _ => True) (fun q => wr.heap.size ≤ q) rfl (by simp [Act.eval]) ?hp ?hokp ?hfresh ?HO ?HB ?hbase ?hl ?_))
      case hp => exact ⟨_, rfl, Kd.R_lower hy' hszr⟩
      case hokp => exact fun q hq => ⟨trivial, fun e0 => by have := hlt0 q e0.symm; omega⟩
      case hfresh => exact fun _ _ => trivial
      case HO => exact Kd.R_below HR.out hby
      case HB => exact HB.out.trans (hby.mono hszr)
      case hbase => omega
      case hl => simp; omega
      intro v1 w3 hR4 hb5 hg5 hat5
      obtain ⟨A1, n1, c1, rfl⟩ := R_sl hR4
      have e1 : rs.take j ++ [r] = rs.take (j + 1) := by
        rw [List.take_add_one, List.getElem?_eq_getElem hlt, HX.out]; rfl
      rw [e1] at hR4
      have HR4 := Lib.hid hR4
      have HB5 := Lib.hid hb5
      have hC := HC.out
      clear hR4 hb5 hg5 hat5 e1 hy' hby hlt0
      go_wp2
      exact ⟨⟨A1, n1, c1, j + 1, rfl, by go_num, by omega, HR4.out, HB5.out⟩, by simp [intOf]; omega⟩
    · have e1 : rs.take j = rs := List.take_of_length_le (by omega)
      rw [e1] at hR
      have HR2 := Lib.hid hR
      clear hR hb e1 hC
      go_wp2
      go_ret
      exact ⟨_, rfl, HR2.out, HB.out⟩
/-! Walks: geometry, the kinds without parts. -/
/-- What geometry answers. -/
def GeoOk (n B : Nat) (g : Geo) (e : Ending) (w' : World) : Prop := ∃ t u, e = .returned (.iface t u) ∧ (geoK n).M w' B (fun k => B ≤ k) g [.iface t u]

set_option maxRecDepth 20000 in
set_option maxHeartbeats 1000000 in
theorem ge_line (n : Nat) (w : World) (A : Option Addr) (c : Nat) (vp : Value) (ps : List Pt) (hC : rowK.C w A [ps].length [ps]) (hl : ps.length ≤ 1000000000) :
    Calls Tryz.prog 34 #[.agg #[.int .i64 2, .slice A [ps].length c, vp]] w fun e w' => GeoOk (n + 1) w.heap.size (.line ps) e w' ∧ Below w.heap.size w w' := by
  have hb0 := below_alloc1 w (.cells #[.int .i64 2, .slice A [ps].length c, vp] 25)
  have hcall := first_any (w.alloc (.cells #[.int .i64 2, .slice A [ps].length c, vp] 25)) 2 A c vp [ps] (Kd.C_below hC hb0) (by simp)
  obtain ⟨m0, m1, m2, n0, n1, n2⟩ := three_facts (blk_new w (.cells #[.int .i64 2, .slice A [ps].length c, vp] 25))
  simp only [List.getElem_cons_zero] at hcall
  have HB0 := Lib.hid hb0
  clear hb0 hC
  go_enter Tryz.func34, Tryz.ntmps34
  go_wp2_with fail
  refine hcall.mono ?_
  clear hcall
  rintro e w1 ⟨A2, c2, rfl, hC1, hb1⟩
  have hcall := pts_any w1 A2 c2 ps hC1 hl
  have HB1 := Lib.hid (below_then HB0.out (by simp) hb1)
  have hs1 := HB1.out.size
  clear hC1 hb1
  go_wp2_with fail
  refine hcall.mono ?_
  clear hcall
  rintro e w2 ⟨y, rfl, hR, hb2⟩
  obtain ⟨A3, n3, c3, rfl⟩ := R_sl hR
  have HR := Lib.hid (Kd.R_lower (R_own_ge hR) hs1)
  have HB2 := Lib.hid (below_then HB1.out hs1 hb2)
  clear hR hb2
  go_wp2
  go_ret
  exact ⟨⟨_, _, rfl, _, rfl, _, rfl, Kd.R_mono HR.out (fun q hq => Nat.le_trans hs1 hq)⟩, HB2.out⟩
set_option maxRecDepth 20000 in
set_option maxHeartbeats 1000000 in
theorem ge_mpoint (n : Nat) (w : World) (A : Option Addr) (c : Nat) (vp : Value) (ps : List Pt) (hC : rowK.C w A [ps].length [ps]) (hl : ps.length ≤ 1000000000) :
    Calls Tryz.prog 34 #[.agg #[.int .i64 4, .slice A [ps].length c, vp]] w fun e w' => GeoOk (n + 1) w.heap.size (.mpoint ps) e w' ∧ Below w.heap.size w w' := by
  have hb0 := below_alloc1 w (.cells #[.int .i64 4, .slice A [ps].length c, vp] 25)
  have hcall := first_any (w.alloc (.cells #[.int .i64 4, .slice A [ps].length c, vp] 25)) 4 A c vp [ps] (Kd.C_below hC hb0) (by simp)
  obtain ⟨m0, m1, m2, n0, n1, n2⟩ := three_facts (blk_new w (.cells #[.int .i64 4, .slice A [ps].length c, vp] 25))
  simp only [List.getElem_cons_zero] at hcall
  have HB0 := Lib.hid hb0
  clear hb0 hC
  go_enter Tryz.func34, Tryz.ntmps34
  go_wp2_with fail
  refine hcall.mono ?_
  clear hcall
  rintro e w1 ⟨A2, c2, rfl, hC1, hb1⟩
  have hcall := pts_any w1 A2 c2 ps hC1 hl
  have HB1 := Lib.hid (below_then HB0.out (by simp) hb1)
  have hs1 := HB1.out.size
  clear hC1 hb1
  go_wp2_with fail
  refine hcall.mono ?_
  clear hcall
  rintro e w2 ⟨y, rfl, hR, hb2⟩
  obtain ⟨A3, n3, c3, rfl⟩ := R_sl hR
  have HR := Lib.hid (Kd.R_lower (R_own_ge hR) hs1)
  have HB2 := Lib.hid (below_then HB1.out hs1 hb2)
  clear hR hb2
  go_wp2
  go_ret
  exact ⟨⟨_, _, rfl, _, rfl, _, rfl, Kd.R_mono HR.out (fun q hq => Nat.le_trans hs1 hq)⟩, HB2.out⟩

set_option maxRecDepth 20000 in
set_option maxHeartbeats 1000000 in
theorem ge_poly (n : Nat) (w : World) (A : Option Addr) (c : Nat) (vp : Value) (rs : List (List Pt)) (hC : rowK.C w A rs.length rs) (hl : rs.length ≤ 1000000000) (hl2 : ∀ r ∈ rs, r.length ≤ 1000000000) :
    Calls Tryz.prog 34 #[.agg #[.int .i64 3, .slice A rs.length c, vp]] w fun e w' => GeoOk (n + 1) w.heap.size (.poly rs) e w' ∧ Below w.heap.size w w' := by
  have hb0 := below_alloc1 w (.cells #[.int .i64 3, .slice A rs.length c, vp] 25)
  have hcall := polyOf_any (w.alloc (.cells #[.int .i64 3, .slice A rs.length c, vp] 25)) 3 A c vp rs (Kd.C_below hC hb0) hl hl2
  obtain ⟨m0, m1, m2, n0, n1, n2⟩ := three_facts (blk_new w (.cells #[.int .i64 3, .slice A rs.length c, vp] 25))
  have HB0 := Lib.hid hb0
  clear hb0 hC
  go_enter Tryz.func34, Tryz.ntmps34
  go_wp2_with fail
  refine hcall.mono ?_
  clear hcall
  rintro e w2 ⟨y, rfl, hR, hb2⟩
  obtain ⟨A3, n3, c3, rfl⟩ := R_sl hR
  have HR := Lib.hid (Kd.R_lower (R_own_ge hR) (by simp : w.heap.size ≤ (w.alloc (.cells #[.int .i64 3, .slice A rs.length c, vp] 25)).heap.size))
  have HB2 := Lib.hid (below_then HB0.out (by simp) hb2)
  clear hR hb2
  go_wp2
  go_ret
  exact ⟨⟨_, _, rfl, _, rfl, _, rfl, Kd.R_mono HR.out (fun q hq => by simp at hq; omega)⟩, HB2.out⟩

set_option maxRecDepth 20000 in
set_option maxHeartbeats 1000000 in
theorem ge_point (n : Nat) (w : World) (A : Option Addr) (c : Nat) (vp : Value) (p : Pt) (hC : rowK.C w A [[p]].length [[p]]) :
    Calls Tryz.prog 34 #[.agg #[.int .i64 1, .slice A [[p]].length c, vp]] w fun e w' => GeoOk (n + 1) w.heap.size (.point p) e w' ∧ Below w.heap.size w w' := by
  have hb0 := below_alloc1 w (.cells #[.int .i64 1, .slice A [[p]].length c, vp] 25)
  have hcall := first_any (w.alloc (.cells #[.int .i64 1, .slice A [[p]].length c, vp] 25)) 1 A c vp [[p]] (Kd.C_below hC hb0) (by simp)
  have hk0 := blk_new w (.cells #[.int .i64 1, .slice A [[p]].length c, vp] 25)
  obtain ⟨m0, m1, m2, n0, n1, n2⟩ := three_facts hk0
  simp only [List.getElem_cons_zero] at hcall
  have HB0 := Lib.hid hb0
  have HK0 := Lib.hid hk0
  have HC := Lib.hid hC
  clear hb0 hC hk0
  go_enter Tryz.func34, Tryz.ntmps34
  go_wp2_with fail
  refine hcall.mono ?_
  clear hcall
  rintro e w1 ⟨A2, c2, rfl, hC1, hb1⟩
  have HB1 := Lib.hid (below_then HB0.out (by simp) hb1)
  have hk1 := blk_below HK0.out hb1
  obtain ⟨m0', m1', m2', n0', n1', n2'⟩ := three_facts hk1
  have hcall := first_any w1 1 A c vp [[p]] (Kd.C_below HC.out HB1.out) (by simp)
  simp only [List.getElem_cons_zero] at hcall
  have hs1 := HB1.out.size
  clear hC1 hb1 hk1
  go_wp2_with fail
  refine hcall.mono ?_
  clear hcall
  rintro e w2 ⟨A3, c3, rfl, hC2, hb2⟩
  have HB2 := Lib.hid (below_then HB1.out hs1 hb2)
  have hs2 := HB2.out.size
  have hcall := pts_any w2 A3 c3 [p] hC2 (by simp)
  clear hC2 hb2
  go_wp2_with fail
  refine hcall.mono ?_
  clear hcall
  rintro e w3 ⟨y, rfl, hR, hb3⟩
  obtain ⟨A4, n4, c4, rfl⟩ := R_sl hR
  obtain ⟨hn4, -, hC4⟩ := Kd.R_reads' hR
  obtain ⟨ad, rfl, q0, q1⟩ := get_pt hC4 rfl 0 (by simp)
  obtain ⟨x, y⟩ := p
  simp only [List.getElem_cons_zero] at q0 q1
  rw [Nat.zero_mul, add0] at q0 q1
  have HB3 := Lib.hid (below_then HB2.out hs2 hb3)
  clear hR hb3 hC4
  subst hn4
  go_wp2
  go_ret
  exact ⟨⟨_, _, rfl, rfl⟩, HB3.out⟩
/-! Walks: geometry, the kinds with parts; at every depth; Write. -/
set_option maxRecDepth 20000 in
set_option maxHeartbeats 2000000 in
theorem ge_mline (n : Nat) (w : World) (A : Option Addr) (c : Nat) (vp : Value) (rs : List (List Pt)) (hC : rowK.C w A rs.length rs) (hl : rs.length ≤ 1000000000) (hl2 : ∀ r ∈ rs, r.length ≤ 1000000000) :
    Calls Tryz.prog 34 #[.agg #[.int .i64 5, .slice A rs.length c, vp]] w fun e w' => GeoOk (n + 1) w.heap.size (.mline rs) e w' ∧ Below w.heap.size w w' := by
  have hbx := below_alloc1 w (.cells #[.int .i64 5, .slice A rs.length c, vp] 25)
  have hkx := blk_new w (.cells #[.int .i64 5, .slice A rs.length c, vp] 25)
  obtain ⟨m0, m1, m2, n0, n1, n2⟩ := three_facts (blk_alloc hkx (.cells #[] 65 (0, 0)))
  obtain ⟨m0', m1', m2', n0', n1', n2'⟩ := three_facts hkx
  go_enter Tryz.func34, Tryz.ntmps34
  go_wp2
  go_loopw [3, 50] (fun v3 v10 wr => ∃ (A' : Option Addr) (k c' j : Nat), v3 = .slice A' k c' ∧ v10 = .int .i64 j ∧ j ≤ rs.length ∧ lineK.R 65 wr w.heap.size (fun _ => True) (.slice A' k c') (rs.take j) ∧ Below w.heap.size w wr) (fun v3 v10 wr => rs.length - (intOf v10).toNat)
  case atStart => exact ⟨_, _, _, 0, rfl, rfl, Nat.zero_le _, R_empty_at lineK 65 (w.alloc _) w.heap.size _ (by simp) (by simp), hbx.alloc (by simp) _⟩
  case round =>
    obtain ⟨A', k, c', j, rfl, rfl, hjl, hR, hb⟩ := hrel
    have hszr := hb.size
    have HR := Lib.hid hR
    have HB := Lib.hid hb
    by_cases hlt : j < rs.length
    · obtain ⟨ad, A2, c2, rfl, q0, hC2⟩ := get_row1 (Kd.C_below hC hb) rfl j hlt
      obtain ⟨r, hr⟩ : ∃ r, r = rs[j] := ⟨_, rfl⟩
      have hrl : r.length ≤ 1000000000 := by rw [hr]; exact hl2 _ (List.getElem_mem hlt)
      rw [← hr] at q0 hC2
      have hrow := pts_any wr A2 c2 r hC2 hrl
      have HX := Lib.hid hr
      have HC := Lib.hid hC
      have hlt0 : ∀ q, (Value.slice A' k c').ownBlock = some q → q < wr.heap.size := Kd.R_lt hR
      clear hR hb hr hC hC2
      go_wp2_with fail
      refine hrow.mono ?_
      clear hrow
      rintro e w1 ⟨y, rfl, hy, hby⟩
      obtain ⟨Bz, nz, dz, rfl⟩ := R_sl hy
      have hy' := R_own_ge hy
      have hs1 := hby.size
      clear hy
      go_wp2_with (at_builtin; go_loud (refine Kd.R_append lineK (w0 := w) w.heap.size rfl (.tmp 54) (.tmp 57) 76 65 (.slice none 0 0) 24 rfl Tryz.underlying76 info65 rfl (by decide) (by decide) (.slice A' k c') (rs.take j) r [.slice Bz nz dz] (fun _ => True) (fun q => wr.heap.size ≤ q) rfl (by simp [Act.eval]) ?hp ?hokp ?hfresh ?HO ?HB ?hbase ?hl ?_))
      case hp => exact ⟨_, rfl, Kd.R_lower hy' hszr⟩
      case hokp => exact fun q hq => ⟨trivial, fun e0 => by have := hlt0 q e0.symm; omega⟩
      case hfresh => exact fun _ _ => trivial
      case HO => exact Kd.R_below HR.out hby
      case HB => exact HB.out.trans (hby.mono hszr)
      case hbase => omega
      case hl => simp; omega
      intro v1 w3 hR4 hb5 hg5 hat5
      obtain ⟨A1, n1, c1, rfl⟩ := R_sl hR4
      have e1 : rs.take j ++ [r] = rs.take (j + 1) := by
        rw [List.take_add_one, List.getElem?_eq_getElem hlt, HX.out]; rfl
      rw [e1] at hR4
      have HR4 := Lib.hid hR4
      have HB5 := Lib.hid hb5
      have hC := HC.out
      clear hR4 hb5 hg5 hat5 e1 hy' hby hlt0
      go_wp2
      exact ⟨⟨A1, n1, c1, j + 1, rfl, by go_num, by omega, HR4.out, HB5.out⟩, by simp [intOf]; omega⟩
    · have e1 : rs.take j = rs := List.take_of_length_le (by omega)
      rw [e1] at hR
      have HR2 := Lib.hid (R_own_ge hR)
      clear hR hb e1 hC
      go_wp2
      go_ret
      exact ⟨⟨_, _, rfl, _, rfl, _, rfl, HR2.out⟩, HB.out⟩

set_option maxRecDepth 20000 in
set_option maxHeartbeats 2000000 in
theorem ge_mpoly (m n : Nat) (w : World) (A A' : Option Addr) (c c' : Nat) (qs : List (List (List Pt))) (hC : (shK m).C w A' (qs.map fun q => Sh.mk 3 q []).length (qs.map fun q => Sh.mk 3 q [])) (hl : qs.length ≤ 1000000000) (hl2 : ∀ q ∈ qs, q.length ≤ 1000000000 ∧ ∀ r ∈ q, r.length ≤ 1000000000) :
    Calls Tryz.prog 34 #[.agg #[.int .i64 6, .slice A 0 c, .slice A' qs.length c']] w fun e w' => GeoOk (n + 1) w.heap.size (.mpoly qs) e w' ∧ Below w.heap.size w w' := by
  have hbx := below_alloc1 w (.cells #[.int .i64 6, .slice A 0 c, .slice A' qs.length c'] 25)
  have hkx := blk_new w (.cells #[.int .i64 6, .slice A 0 c, .slice A' qs.length c'] 25)
  obtain ⟨m0, m1, m2, n0, n1, n2⟩ := three_facts (blk_alloc hkx (.cells #[] 69 (0, 0)))
  obtain ⟨m0', m1', m2', n0', n1', n2'⟩ := three_facts hkx
  go_enter Tryz.func34, Tryz.ntmps34
  go_wp2
  go_loopw [6, 68] (fun v3 v10 wr => ∃ (B' : Option Addr) (k d' j : Nat), v3 = .slice B' k d' ∧ v10 = .int .i64 j ∧ j ≤ qs.length ∧ polyK.R 69 wr w.heap.size (fun _ => True) (.slice B' k d') (qs.take j) ∧ Below w.heap.size w wr) (fun v3 v10 wr => qs.length - (intOf v10).toNat)
  case atStart => exact ⟨_, _, _, 0, rfl, rfl, Nat.zero_le _, R_empty_at polyK 69 (w.alloc _) w.heap.size _ (by simp) (by simp), hbx.alloc (by simp) _⟩
  case round =>
    obtain ⟨B', k, d', j, rfl, rfl, hjl, hR, hb⟩ := hrel
    have hszr := hb.size
    have HR := Lib.hid hR
    have HB := Lib.hid hb
    by_cases hlt : j < qs.length
    · obtain ⟨k1, ad, A2, c2, A3, c3, hk1, rfl, q0, q1, q2, hC2, -⟩ := get_sh (Kd.C_below hC hb) rfl j (by simpa using hlt)
      simp only [List.getElem_map] at q0 q1 q2 hC2
      simp only [Sh.kind, Sh.lists, Sh.parts, List.length_nil] at q0 q1 q2 hC2
      obtain ⟨r, hr⟩ : ∃ r, r = qs[j] := ⟨_, rfl⟩
      have hrl : r.length ≤ 1000000000 ∧ ∀ p ∈ r, p.length ≤ 1000000000 := by rw [hr]; exact hl2 _ (List.getElem_mem hlt)
      rw [← hr] at q1 hC2
      have hbo := below_alloc1 wr (.cells #[.int .i64 3, .slice A2 r.length c2, .slice A3 0 c3] 25)
      have hrow := polyOf_any (wr.alloc (.cells #[.int .i64 3, .slice A2 r.length c2, .slice A3 0 c3] 25)) 3 A2 c2 (.slice A3 0 c3) r (Kd.C_below hC2 hbo) hrl.1 hrl.2
      have HX := Lib.hid hr
      have HC := Lib.hid hC
      have HBO := Lib.hid hbo
      have hlt0 : ∀ q, (Value.slice B' k d').ownBlock = some q → q < wr.heap.size := Kd.R_lt hR
      clear hR hb hr hC hC2 hbo
      go_wp2_with fail
      refine hrow.mono ?_
      clear hrow
      rintro e w1 ⟨y, rfl, hy, hby0⟩
      have hby := below_then HBO.out (by simp) hby0
      obtain ⟨Bz, nz, dz, rfl⟩ := R_sl hy
      have hy' : lineK.R 117 w1 wr.heap.size (fun q => wr.heap.size ≤ q) (.slice Bz nz dz) r := R_own_ge (Kd.R_lower hy (by simp))
      have hs1 := hby.size
      clear hy hby0
      go_wp2_with (at_builtin; go_loud (refine Kd.R_append polyK (w0 := w) w.heap.size rfl (.tmp 72) (.tmp 75) 80 69 (.slice none 0 0) 24 rfl Tryz.underlying80 info69 rfl (by decide) (by decide) (.slice B' k d') (qs.take j) r [.slice Bz nz dz] (fun _ => True) (fun q => wr.heap.size ≤ q) rfl (by simp [Act.eval]) ?hp ?hokp ?hfresh ?HO ?HB ?hbase ?hl ?_))
      case hp => exact ⟨_, rfl, Kd.R_lower hy' hszr⟩
      case hokp => exact fun q hq => ⟨trivial, fun e0 => by have := hlt0 q e0.symm; omega⟩
      case hfresh => exact fun _ _ => trivial
      case HO => exact Kd.R_below HR.out hby
      case HB => exact HB.out.trans (hby.mono hszr)
      case hbase => omega
      case hl => simp; omega
      intro v1 w3 hR4 hb5 hg5 hat5
      obtain ⟨A1, n1, c1, rfl⟩ := R_sl hR4
      have e1 : qs.take j ++ [r] = qs.take (j + 1) := by
        rw [List.take_add_one, List.getElem?_eq_getElem hlt, HX.out]; rfl
      rw [e1] at hR4
      have HR4 := Lib.hid hR4
      have HB5 := Lib.hid hb5
      have hC := HC.out
      clear hR4 hb5 hg5 hat5 e1 hy' hby hlt0
      go_wp2
      exact ⟨⟨A1, n1, c1, j + 1, rfl, by go_num, by omega, HR4.out, HB5.out⟩, by simp [intOf]; omega⟩
    · have e1 : qs.take j = qs := List.take_of_length_le (by omega)
      rw [e1] at hR
      have HR2 := Lib.hid (R_own_ge hR)
      clear hR hb e1 hC
      go_wp2
      go_ret
      exact ⟨⟨_, _, rfl, _, rfl, _, rfl, HR2.out⟩, HB.out⟩

set_option maxRecDepth 20000 in
set_option maxHeartbeats 2000000 in
theorem ge_coll (n : Nat) (ih : ∀ k, n = k + 1 → ∀ (w : World) (g : Geo) (v : Value), ShV k w (shOf g) v → LimG g → Calls Tryz.prog 34 #[v] w fun e w' => GeoOk (k + 1) w.heap.size g e w' ∧ Below w.heap.size w w')
    (w : World) (A A' : Option Addr) (c c' : Nat) (gs : List Geo) (hC : (shK n).C w A' (gs.map shOf).length (gs.map shOf)) (hl : gs.length ≤ 1000000000) (hl2 : ∀ g ∈ gs, LimG g) :
    Calls Tryz.prog 34 #[.agg #[.int .i64 7, .slice A 0 c, .slice A' gs.length c']] w fun e w' => GeoOk (n + 1) w.heap.size (.coll gs) e w' ∧ Below w.heap.size w w' := by
  have hbx := below_alloc1 w (.cells #[.int .i64 7, .slice A 0 c, .slice A' gs.length c'] 25)
  have hkx := blk_new w (.cells #[.int .i64 7, .slice A 0 c, .slice A' gs.length c'] 25)
  obtain ⟨m0, m1, m2, n0, n1, n2⟩ := three_facts (blk_alloc hkx (.cells #[] 52 (0, 0)))
  obtain ⟨m0', m1', m2', n0', n1', n2'⟩ := three_facts hkx
  go_enter Tryz.func34, Tryz.ntmps34
  go_wp2
  go_loopw [9, 86] (fun v3 v10 wr => ∃ (B' : Option Addr) (k d' j : Nat), v3 = .slice B' k d' ∧ v10 = .int .i64 j ∧ j ≤ gs.length ∧ (geoK n).R 52 wr w.heap.size (fun _ => True) (.slice B' k d') (gs.take j) ∧ Below w.heap.size w wr) (fun v3 v10 wr => gs.length - (intOf v10).toNat)
  case atStart => exact ⟨_, _, _, 0, rfl, rfl, Nat.zero_le _, R_empty_at (geoK n) 52 (w.alloc _) w.heap.size _ (by simp) (by simp), hbx.alloc (by simp) _⟩
  case round =>
    obtain ⟨B', k, d', j, rfl, rfl, hjl, hR, hb⟩ := hrel
    have hszr := hb.size
    have HR := Lib.hid hR
    have HB := Lib.hid hb
    by_cases hlt : j < gs.length
    · obtain ⟨k1, ad, A2, c2, A3, c3, hk1, rfl, q0, q1, q2, hC2, hC3⟩ := get_sh (Kd.C_below hC hb) rfl j (by simpa using hlt)
      simp only [List.getElem_map] at q0 q1 q2 hC2 hC3
      obtain ⟨r, hr⟩ : ∃ r, r = gs[j] := ⟨_, rfl⟩
      have hrl : LimG r := by rw [hr]; exact hl2 _ (List.getElem_mem hlt)
      rw [← hr] at q0 q1 q2 hC2 hC3
      have hbo := below_alloc1 wr (.cells #[.int .i64 (shOf r).kind, .slice A2 (shOf r).lists.length c2, .slice A3 (shOf r).parts.length c3] 25)
      have hrow := ih k1 hk1 (wr.alloc (.cells #[.int .i64 (shOf r).kind, .slice A2 (shOf r).lists.length c2, .slice A3 (shOf r).parts.length c3] 25)) r _ ⟨A2, c2, A3, c3, rfl, Kd.C_below hC2 hbo, Kd.C_below hC3 hbo⟩ hrl
      have HX := Lib.hid hr
      have HC := Lib.hid hC
      have HBO := Lib.hid hbo
      have HK1 := Lib.hid hk1
      have hlt0 : ∀ q, (Value.slice B' k d').ownBlock = some q → q < wr.heap.size := Kd.R_lt hR
      clear hR hb hr hC hC2 hC3 hbo hk1
      go_wp2_with fail
      refine hrow.mono ?_
      clear hrow
      rintro e w1 ⟨⟨t, u, rfl, hM⟩, hby0⟩
      have hby := below_then HBO.out (by simp) hby0
      have hM' : (geoK n).M w1 wr.heap.size (fun q => wr.heap.size ≤ q) r [.iface t u] := by
        rw [HK1.out]
        exact (geoK (k1 + 1)).M_lower (by simp) ((geoK (k1 + 1)).M_mono (fun q hq => by simp at hq; omega) hM)
      have hs1 := hby.size
      clear hM hby0
      go_wp2_with (at_builtin; go_loud (refine Kd.R_append (geoK n) (w0 := w) w.heap.size rfl (.tmp 94) (.tmp 96) 84 52 .nilIface 16 rfl Tryz.underlying84 (by rw [geoK_sz]; exact info52) (by rw [geoK_sz]; rfl) (by rw [geoK_sz]; decide) (by decide) (.slice B' k d') (gs.take j) r [.iface t u] (fun _ => True) (fun q => wr.heap.size ≤ q) rfl (by simp [Act.eval]) ?hp ?hokp ?hfresh ?HO ?HB ?hbase ?hl ?_))
      case hp => exact (geoK n).M_lower hszr hM'
      case hokp => exact fun q hq => ⟨trivial, fun e0 => by have := hlt0 q e0.symm; omega⟩
      case hfresh => exact fun _ _ => trivial
      case HO => exact Kd.R_below HR.out hby
      case HB => exact HB.out.trans (hby.mono hszr)
      case hbase => omega
      case hl => simp; omega
      intro v1 w3 hR4 hb5 hg5 hat5
      obtain ⟨A1, n1, c1, rfl⟩ := R_sl hR4
      have e1 : gs.take j ++ [r] = gs.take (j + 1) := by
        rw [List.take_add_one, List.getElem?_eq_getElem hlt, HX.out]; rfl
      rw [e1] at hR4
      have HR4 := Lib.hid hR4
      have HB5 := Lib.hid hb5
      have hC := HC.out
      clear hR4 hb5 hg5 hat5 e1 hM' hby hlt0
      go_wp2
      exact ⟨⟨A1, n1, c1, j + 1, rfl, by go_num, by omega, HR4.out, HB5.out⟩, by simp [intOf]; omega⟩
    · have e1 : gs.take j = gs := List.take_of_length_le (by omega)
      rw [e1] at hR
      have HR2 := Lib.hid (R_own_ge hR)
      clear hR hb e1 hC
      go_wp2
      go_ret
      exact ⟨⟨_, _, rfl, _, rfl, _, rfl, HR2.out⟩, HB.out⟩

/-- geometry, of the value of a geometry's shape. -/
theorem geo_any : ∀ (n : Nat) (w : World) (g : Geo) (v : Value), ShV n w (shOf g) v → LimG g → Calls Tryz.prog 34 #[v] w fun e w' => GeoOk (n + 1) w.heap.size g e w' ∧ Below w.heap.size w w' := by
  intro n
  induction n with
  | zero =>
    intro w g v h hl
    obtain ⟨A, c, A', c', rfl, hC, hC'⟩ := h
    cases g with
    | point p => exact ge_point 0 w A c _ p hC
    | line ps => cases hl with | line h1 => exact ge_line 0 w A c _ ps hC h1
    | poly rs => cases hl with | poly h1 h2 => exact ge_poly 0 w A c _ rs hC h1 h2
    | mpoint ps => cases hl with | mpoint h1 => exact ge_mpoint 0 w A c _ ps hC h1
    | mline ls => cases hl with | mline h1 h2 => exact ge_mline 0 w A c _ ls hC h1 h2
    | mpoly qs =>
      cases hl with
      | mpoly h1 h2 =>
        have := ge_mpoly 0 0 w A A' c c' qs hC' h1 h2
        simpa [shOf, Sh.kind, Sh.lists, Sh.parts] using this
    | coll gs =>
      cases hl with
      | coll h1 h2 =>
        rw [shOf, shOfs_map] at hC'
        have := ge_coll 0 (fun k hk => by omega) w A A' c c' gs hC' h1 h2
        simpa [shOf, shOfs_map, Sh.kind, Sh.lists, Sh.parts] using this
  | succ n ih =>
    intro w g v h hl
    obtain ⟨A, c, A', c', rfl, hC, hC'⟩ := h
    cases g with
    | point p => exact ge_point (n + 1) w A c _ p hC
    | line ps => cases hl with | line h1 => exact ge_line (n + 1) w A c _ ps hC h1
    | poly rs => cases hl with | poly h1 h2 => exact ge_poly (n + 1) w A c _ rs hC h1 h2
    | mpoint ps => cases hl with | mpoint h1 => exact ge_mpoint (n + 1) w A c _ ps hC h1
    | mline ls => cases hl with | mline h1 h2 => exact ge_mline (n + 1) w A c _ ls hC h1 h2
    | mpoly qs =>
      cases hl with
      | mpoly h1 h2 =>
        have := ge_mpoly (n + 1) (n + 1) w A A' c c' qs hC' h1 h2
        simpa [shOf, Sh.kind, Sh.lists, Sh.parts] using this
    | coll gs =>
      cases hl with
      | coll h1 h2 =>
        rw [shOf, shOfs_map] at hC'
        have := ge_coll (n + 1) (fun k hk => by obtain rfl : n = k := by omega
                                                exact ih) w A A' c c' gs hC' h1 h2
        simpa [shOf, shOfs_map, Sh.kind, Sh.lists, Sh.parts] using this

set_option maxRecDepth 20000 in
set_option maxHeartbeats 1000000 in
/-- Write. -/
theorem write_any {nf : Nat → Bs} {q : Nat → Prop} (hN : NumF nf q) (n : Nat) (w : World) (g : Geo) (v : Value) (t : Bs) (h : ShV n w (shOf g) v) (hf : textE nf g t) (ha : AllC q g) (hT : Tb w) (h22 : 22 < w.heap.size) (hl : 100 * (wt g + 1) ≤ 900000000) :
    Calls Tryz.prog 16 #[v] w fun e w' => e = .returned (S t) ∧ Below w.heap.size w w' := by
  have hlim : LimG g := wt_lim g.deep g (Nat.le_refl _) (by omega)
  have hv := h
  obtain ⟨A, c, A', c', rfl, hC, hC'⟩ := hv
  obtain ⟨k, hk⟩ : ∃ k, k = (shOf g).kind := ⟨_, rfl⟩
  obtain ⟨l, hll⟩ : ∃ l, l = (shOf g).lists.length := ⟨_, rfl⟩
  obtain ⟨p, hp⟩ : ∃ p, p = (shOf g).parts.length := ⟨_, rfl⟩
  rw [← hk, ← hll, ← hp] at h ⊢
  have hb0 := below_alloc1 w (.cells #[.int .i64 k, .slice A l c, .slice A' p c'] 25)
  have hcall := geo_any n _ g _ (h.below hb0) hlim
  obtain ⟨m0, m1, m2, n0, n1, n2⟩ := three_facts (blk_new w (.cells #[.int .i64 k, .slice A l c, .slice A' p c'] 25))
  have HB0 := Lib.hid hb0
  clear hb0 hC hC' h hk hll hp
  go_enter Tryz.func16, Tryz.ntmps16
  go_wp2_with fail
  refine hcall.mono ?_
  clear hcall
  rintro e w1 ⟨⟨t1, u1, rfl, hM⟩, hb1⟩
  have hb1' := below_then HB0.out (by simp) hb1
  have hcall := marshal_any hN (n + 1) w1 g _ t ((geoK (n + 1)).K_of_M hM) hf ha (hT.below hb1' h22) (Nat.lt_of_lt_of_le h22 hb1'.size) hl
  have HB1 := Lib.hid hb1'
  clear hM hb1 hb1'
  go_wp2_with fail
  refine hcall.mono ?_
  clear hcall
  rintro e w2 ⟨rfl, hb2⟩
  have HB2 := Lib.hid (below_then HB1.out HB1.out.size hb2)
  clear hb2
  go_wp2
  go_ret
  exact ⟨rfl, HB2.out⟩
/-! Walks: the spec's pair, joined, word. -/
/-- A whole number, at most 1000 away from 0. -/
def Wn (x : Nat) : Prop := ∃ n : Int, -1000 ≤ n ∧ n ≤ 1000 ∧ x = fb n
theorem nfW_fb {n : Int} (h1 : -1000 ≤ n) (h2 : n ≤ 1000) : nfW (fb n) = Lib.itoa n := by unfold nfW; rw [f64i_fb n h1 h2]; rfl
theorem itoa_short (n : Int) (h1 : -1000 ≤ n) (h2 : n ≤ 1000) : (Lib.itoa n).length ≤ 21 := Lib.itoa_length_le n (by omega) (by omega)
end Go.Proofs.YtghajgdiaopioaaGreatDoor
end
