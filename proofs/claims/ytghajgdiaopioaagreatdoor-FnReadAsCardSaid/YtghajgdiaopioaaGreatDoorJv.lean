/- Walks and plain laws joined (Zb, Zc, Ra, Rb). Conditions: stand in each law. -/
import Derived.Test.YtghajgdiaopioaaGreatDoorJu
import Derived.Test.YtghajgdiaopioaaGreatDoorJs
import Derived.Test.YtghajgdiaopioaaGreatDoorJi
import Derived.Lib.AppendIntMem
import Derived.Lib.ConvBytes
import Derived.Lib.SmallJoins
import Derived.Lib.AtoiErrMem
/- Walks: geometry, the kinds without parts. Conditions: stand in each contract. -/
section
set_option linter.unusedVariables false
set_option linter.unusedSimpArgs false
namespace Go.Proofs.YtghajgdiaopioaaGreatDoor
open Go.RowKit Go.Proofs Tx
open Go.Proofs.YtghajgdiaopioaaGreatDoorW.PrintWords

/-- What geometry answers. -/
def GeoOk (n B : Nat) (g : Geo) (e : Ending) (w' : World) : Prop := ∃ t u, e = .returned (.iface t u) ∧ (geoK n).M w' B (fun k => B ≤ k) g [.iface t u]

set_option maxRecDepth 20000 in
set_option maxHeartbeats 1000000 in
theorem ge_line (n : Nat) (w : World) (A : Option Addr) (c : Nat) (vp : Value) (ps : List Pt) (hC : rowK.C w A [ps].length [ps]) (hl : ps.length ≤ 1000000000) :
    Calls Tryz.prog 34 #[.agg #[.int .i64 2, .slice A [ps].length c, vp]] w fun e w' => GeoOk (n + 1) w.heap.size (.line ps) e w' ∧ Below w.heap.size w w' := by
  have hb0 := below_alloc1 w (.cells #[.int .i64 2, .slice A [ps].length c, vp] 25)
  have hcall := first_any (w.alloc (.cells #[.int .i64 2, .slice A [ps].length c, vp] 25)) 2 A c vp [ps] (Kd.C_below hC hb0) (by simp)
  obtain ⟨m0, m1, m2, n0, n1, n2⟩ := three_facts (blk_new w (.cells #[.int .i64 2, .slice A [ps].length c, vp] 25))
  simp only [List.getElem_cons_zero] at hcall
  have HB0 := Lib.hid hb0
  clear hb0 hC
  go_enter Tryz.func34, Tryz.ntmps34
  go_wp2_with fail
  refine hcall.mono ?_
  clear hcall
  rintro e w1 ⟨A2, c2, rfl, hC1, hb1⟩
  have hcall := pts_any w1 A2 c2 ps hC1 hl
  have HB1 := Lib.hid (below_then HB0.out (by simp) hb1)
  have hs1 := HB1.out.size
  clear hC1 hb1
  go_wp2_with fail
  refine hcall.mono ?_
  clear hcall
  rintro e w2 ⟨y, rfl, hR, hb2⟩
  obtain ⟨A3, n3, c3, rfl⟩ := R_sl hR
  have HR := Lib.hid (Kd.R_lower (R_own_ge hR) hs1)
  have HB2 := Lib.hid (below_then HB1.out hs1 hb2)
  clear hR hb2
  go_wp2
  go_ret
  exact ⟨⟨_, _, rfl, _, rfl, _, rfl, Kd.R_mono HR.out (fun q hq => Nat.le_trans hs1 hq)⟩, HB2.out⟩
set_option maxRecDepth 20000 in
set_option maxHeartbeats 1000000 in
theorem ge_mpoint (n : Nat) (w : World) (A : Option Addr) (c : Nat) (vp : Value) (ps : List Pt) (hC : rowK.C w A [ps].length [ps]) (hl : ps.length ≤ 1000000000) :
    Calls Tryz.prog 34 #[.agg #[.int .i64 4, .slice A [ps].length c, vp]] w fun e w' => GeoOk (n + 1) w.heap.size (.mpoint ps) e w' ∧ Below w.heap.size w w' := by
  have hb0 := below_alloc1 w (.cells #[.int .i64 4, .slice A [ps].length c, vp] 25)
  have hcall := first_any (w.alloc (.cells #[.int .i64 4, .slice A [ps].length c, vp] 25)) 4 A c vp [ps] (Kd.C_below hC hb0) (by simp)
  obtain ⟨m0, m1, m2, n0, n1, n2⟩ := three_facts (blk_new w (.cells #[.int .i64 4, .slice A [ps].length c, vp] 25))
  simp only [List.getElem_cons_zero] at hcall
  have HB0 := Lib.hid hb0
  clear hb0 hC
  go_enter Tryz.func34, Tryz.ntmps34
  go_wp2_with fail
  refine hcall.mono ?_
  clear hcall
  rintro e w1 ⟨A2, c2, rfl, hC1, hb1⟩
  have hcall := pts_any w1 A2 c2 ps hC1 hl
  have HB1 := Lib.hid (below_then HB0.out (by simp) hb1)
  have hs1 := HB1.out.size
  clear hC1 hb1
  go_wp2_with fail
  refine hcall.mono ?_
  clear hcall
  rintro e w2 ⟨y, rfl, hR, hb2⟩
  obtain ⟨A3, n3, c3, rfl⟩ := R_sl hR
  have HR := Lib.hid (Kd.R_lower (R_own_ge hR) hs1)
  have HB2 := Lib.hid (below_then HB1.out hs1 hb2)
  clear hR hb2
  go_wp2
  go_ret
  exact ⟨⟨_, _, rfl, _, rfl, _, rfl, Kd.R_mono HR.out (fun q hq => Nat.le_trans hs1 hq)⟩, HB2.out⟩

set_option maxRecDepth 20000 in
set_option maxHeartbeats 1000000 in
theorem ge_poly (n : Nat) (w : World) (A : Option Addr) (c : Nat) (vp : Value) (rs : List (List Pt)) (hC : rowK.C w A rs.length rs) (hl : rs.length ≤ 1000000000) (hl2 : ∀ r ∈ rs, r.length ≤ 1000000000) :
    Calls Tryz.prog 34 #[.agg #[.int .i64 3, .slice A rs.length c, vp]] w fun e w' => GeoOk (n + 1) w.heap.size (.poly rs) e w' ∧ Below w.heap.size w w' := by
  have hb0 := below_alloc1 w (.cells #[.int .i64 3, .slice A rs.length c, vp] 25)
  have hcall := polyOf_any (w.alloc (.cells #[.int .i64 3, .slice A rs.length c, vp] 25)) 3 A c vp rs (Kd.C_below hC hb0) hl hl2
  obtain ⟨m0, m1, m2, n0, n1, n2⟩ := three_facts (blk_new w (.cells #[.int .i64 3, .slice A rs.length c, vp] 25))
  have HB0 := Lib.hid hb0
  clear hb0 hC
  go_enter Tryz.func34, Tryz.ntmps34
  go_wp2_with fail
  refine hcall.mono ?_
  clear hcall
  rintro e w2 ⟨y, rfl, hR, hb2⟩
  obtain ⟨A3, n3, c3, rfl⟩ := R_sl hR
  have HR := Lib.hid (Kd.R_lower (R_own_ge hR) (by simp : w.heap.size ≤ (w.alloc (.cells #[.int .i64 3, .slice A rs.length c, vp] 25)).heap.size))
  have HB2 := Lib.hid (below_then HB0.out (by simp) hb2)
  clear hR hb2
  go_wp2
  go_ret
  exact ⟨⟨_, _, rfl, _, rfl, _, rfl, Kd.R_mono HR.out (fun q hq => by simp at hq; omega)⟩, HB2.out⟩

set_option maxRecDepth 20000 in
set_option maxHeartbeats 1000000 in
theorem ge_point (n : Nat) (w : World) (A : Option Addr) (c : Nat) (vp : Value) (p : Pt) (hC : rowK.C w A [[p]].length [[p]]) :
    Calls Tryz.prog 34 #[.agg #[.int .i64 1, .slice A [[p]].length c, vp]] w fun e w' => GeoOk (n + 1) w.heap.size (.point p) e w' ∧ Below w.heap.size w w' := by
  have hb0 := below_alloc1 w (.cells #[.int .i64 1, .slice A [[p]].length c, vp] 25)
  have hcall := first_any (w.alloc (.cells #[.int .i64 1, .slice A [[p]].length c, vp] 25)) 1 A c vp [[p]] (Kd.C_below hC hb0) (by simp)
  have hk0 := blk_new w (.cells #[.int .i64 1, .slice A [[p]].length c, vp] 25)
  obtain ⟨m0, m1, m2, n0, n1, n2⟩ := three_facts hk0
  simp only [List.getElem_cons_zero] at hcall
  have HB0 := Lib.hid hb0
  have HK0 := Lib.hid hk0
  have HC := Lib.hid hC
  clear hb0 hC hk0
  go_enter Tryz.func34, Tryz.ntmps34
  go_wp2_with fail
  refine hcall.mono ?_
  clear hcall
  rintro e w1 ⟨A2, c2, rfl, hC1, hb1⟩
  have HB1 := Lib.hid (below_then HB0.out (by simp) hb1)
  have hk1 := blk_below HK0.out hb1
  obtain ⟨m0', m1', m2', n0', n1', n2'⟩ := three_facts hk1
  have hcall := first_any w1 1 A c vp [[p]] (Kd.C_below HC.out HB1.out) (by simp)
  simp only [List.getElem_cons_zero] at hcall
  have hs1 := HB1.out.size
  clear hC1 hb1 hk1
  go_wp2_with fail
  refine hcall.mono ?_
  clear hcall
  rintro e w2 ⟨A3, c3, rfl, hC2, hb2⟩
  have HB2 := Lib.hid (below_then HB1.out hs1 hb2)
  have hs2 := HB2.out.size
  have hcall := pts_any w2 A3 c3 [p] hC2 (by simp)
  clear hC2 hb2
  go_wp2_with fail
  refine hcall.mono ?_
  clear hcall
  rintro e w3 ⟨y, rfl, hR, hb3⟩
  obtain ⟨A4, n4, c4, rfl⟩ := R_sl hR
  obtain ⟨hn4, -, hC4⟩ := Kd.R_reads' hR
  obtain ⟨ad, rfl, q0, q1⟩ := get_pt hC4 rfl 0 (by simp)
  obtain ⟨x, y⟩ := p
  simp only [List.getElem_cons_zero] at q0 q1
  rw [Nat.zero_mul, add0] at q0 q1
  have HB3 := Lib.hid (below_then HB2.out hs2 hb3)
  clear hR hb3 hC4
  subst hn4
  go_wp2
  go_ret
  exact ⟨⟨_, _, rfl, rfl⟩, HB3.out⟩
end Go.Proofs.YtghajgdiaopioaaGreatDoor
end

/- Walks: geometry, the kinds with parts; at every depth; Write. Conditions: stand in each contract. -/
section
set_option linter.unusedVariables false
set_option linter.unusedSimpArgs false
namespace Go.Proofs.YtghajgdiaopioaaGreatDoor
open Go.RowKit Go.Proofs Tx
open Go.Proofs.YtghajgdiaopioaaGreatDoorW.PrintWords

set_option maxRecDepth 20000 in
set_option maxHeartbeats 2000000 in
theorem ge_mline (n : Nat) (w : World) (A : Option Addr) (c : Nat) (vp : Value) (rs : List (List Pt)) (hC : rowK.C w A rs.length rs) (hl : rs.length ≤ 1000000000) (hl2 : ∀ r ∈ rs, r.length ≤ 1000000000) :
    Calls Tryz.prog 34 #[.agg #[.int .i64 5, .slice A rs.length c, vp]] w fun e w' => GeoOk (n + 1) w.heap.size (.mline rs) e w' ∧ Below w.heap.size w w' := by
  have hbx := below_alloc1 w (.cells #[.int .i64 5, .slice A rs.length c, vp] 25)
  have hkx := blk_new w (.cells #[.int .i64 5, .slice A rs.length c, vp] 25)
  obtain ⟨m0, m1, m2, n0, n1, n2⟩ := three_facts (blk_alloc hkx (.cells #[] 65 (0, 0)))
  obtain ⟨m0', m1', m2', n0', n1', n2'⟩ := three_facts hkx
  go_enter Tryz.func34, Tryz.ntmps34
  go_wp2
  go_loopw [3, 50] (fun v3 v10 wr => ∃ (A' : Option Addr) (k c' j : Nat), v3 = .slice A' k c' ∧ v10 = .int .i64 j ∧ j ≤ rs.length ∧ lineK.R 65 wr w.heap.size (fun _ => True) (.slice A' k c') (rs.take j) ∧ Below w.heap.size w wr) (fun v3 v10 wr => rs.length - (intOf v10).toNat)
  case atStart => exact ⟨_, _, _, 0, rfl, rfl, Nat.zero_le _, R_empty_at lineK 65 (w.alloc _) w.heap.size _ (by simp) (by simp), hbx.alloc (by simp) _⟩
  case round =>
    obtain ⟨A', k, c', j, rfl, rfl, hjl, hR, hb⟩ := hrel
    have hszr := hb.size
    have HR := Lib.hid hR
    have HB := Lib.hid hb
    by_cases hlt : j < rs.length
    · obtain ⟨ad, A2, c2, rfl, q0, hC2⟩ := get_row1 (Kd.C_below hC hb) rfl j hlt
      obtain ⟨r, hr⟩ : ∃ r, r = rs[j] := ⟨_, rfl⟩
      have hrl : r.length ≤ 1000000000 := by rw [hr]; exact hl2 _ (List.getElem_mem hlt)
      rw [← hr] at q0 hC2
      have hrow := pts_any wr A2 c2 r hC2 hrl
      have HX := Lib.hid hr
      have HC := Lib.hid hC
      have hlt0 : ∀ q, (Value.slice A' k c').ownBlock = some q → q < wr.heap.size := Kd.R_lt hR
      clear hR hb hr hC hC2
      go_wp2_with fail
      refine hrow.mono ?_
      clear hrow
      rintro e w1 ⟨y, rfl, hy, hby⟩
      obtain ⟨Bz, nz, dz, rfl⟩ := R_sl hy
      have hy' := R_own_ge hy
      have hs1 := hby.size
      clear hy
      go_wp2_with (at_builtin; go_loud (refine Kd.R_append lineK (w0 := w) w.heap.size rfl (.tmp 54) (.tmp 57) 76 65 (.slice none 0 0) 24 rfl Tryz.underlying76 info65 rfl (by decide) (by decide) (.slice A' k c') (rs.take j) r [.slice Bz nz dz] (fun _ => True) (fun q => wr.heap.size ≤ q) rfl (by simp [Act.eval]) ?hp ?hokp ?hfresh ?HO ?HB ?hbase ?hl ?_))
      case hp => exact ⟨_, rfl, Kd.R_lower hy' hszr⟩
      case hokp => exact fun q hq => ⟨trivial, fun e0 => by have := hlt0 q e0.symm; omega⟩
      case hfresh => exact fun _ _ => trivial
      case HO => exact Kd.R_below HR.out hby
      case HB => exact HB.out.trans (hby.mono hszr)
      case hbase => omega
      case hl => simp; omega
      intro v1 w3 hR4 hb5 hg5 hat5
      obtain ⟨A1, n1, c1, rfl⟩ := R_sl hR4
      have e1 : rs.take j ++ [r] = rs.take (j + 1) := by
        rw [List.take_add_one, List.getElem?_eq_getElem hlt, HX.out]; rfl
      rw [e1] at hR4
      have HR4 := Lib.hid hR4
      have HB5 := Lib.hid hb5
      have hC := HC.out
      clear hR4 hb5 hg5 hat5 e1 hy' hby hlt0
      go_wp2
      exact ⟨⟨A1, n1, c1, j + 1, rfl, by go_num, by omega, HR4.out, HB5.out⟩, by simp [intOf]; omega⟩
    · have e1 : rs.take j = rs := List.take_of_length_le (by omega)
      rw [e1] at hR
      have HR2 := Lib.hid (R_own_ge hR)
      clear hR hb e1 hC
      go_wp2
      go_ret
      exact ⟨⟨_, _, rfl, _, rfl, _, rfl, HR2.out⟩, HB.out⟩

set_option maxRecDepth 20000 in
set_option maxHeartbeats 2000000 in
theorem ge_mpoly (m n : Nat) (w : World) (A A' : Option Addr) (c c' : Nat) (qs : List (List (List Pt))) (hC : (shK m).C w A' (qs.map fun q => Sh.mk 3 q []).length (qs.map fun q => Sh.mk 3 q [])) (hl : qs.length ≤ 1000000000) (hl2 : ∀ q ∈ qs, q.length ≤ 1000000000 ∧ ∀ r ∈ q, r.length ≤ 1000000000) :
    Calls Tryz.prog 34 #[.agg #[.int .i64 6, .slice A 0 c, .slice A' qs.length c']] w fun e w' => GeoOk (n + 1) w.heap.size (.mpoly qs) e w' ∧ Below w.heap.size w w' := by
  have hbx := below_alloc1 w (.cells #[.int .i64 6, .slice A 0 c, .slice A' qs.length c'] 25)
  have hkx := blk_new w (.cells #[.int .i64 6, .slice A 0 c, .slice A' qs.length c'] 25)
  obtain ⟨m0, m1, m2, n0, n1, n2⟩ := three_facts (blk_alloc hkx (.cells #[] 69 (0, 0)))
  obtain ⟨m0', m1', m2', n0', n1', n2'⟩ := three_facts hkx
  go_enter Tryz.func34, Tryz.ntmps34
  go_wp2
  go_loopw [6, 68] (fun v3 v10 wr => ∃ (B' : Option Addr) (k d' j : Nat), v3 = .slice B' k d' ∧ v10 = .int .i64 j ∧ j ≤ qs.length ∧ polyK.R 69 wr w.heap.size (fun _ => True) (.slice B' k d') (qs.take j) ∧ Below w.heap.size w wr) (fun v3 v10 wr => qs.length - (intOf v10).toNat)
  case atStart => exact ⟨_, _, _, 0, rfl, rfl, Nat.zero_le _, R_empty_at polyK 69 (w.alloc _) w.heap.size _ (by simp) (by simp), hbx.alloc (by simp) _⟩
  case round =>
    obtain ⟨B', k, d', j, rfl, rfl, hjl, hR, hb⟩ := hrel
    have hszr := hb.size
    have HR := Lib.hid hR
    have HB := Lib.hid hb
    by_cases hlt : j < qs.length
    · obtain ⟨k1, ad, A2, c2, A3, c3, hk1, rfl, q0, q1, q2, hC2, -⟩ := get_sh (Kd.C_below hC hb) rfl j (by simpa using hlt)
      simp only [List.getElem_map] at q0 q1 q2 hC2
      simp only [Sh.kind, Sh.lists, Sh.parts, List.length_nil] at q0 q1 q2 hC2
      obtain ⟨r, hr⟩ : ∃ r, r = qs[j] := ⟨_, rfl⟩
      have hrl : r.length ≤ 1000000000 ∧ ∀ p ∈ r, p.length ≤ 1000000000 := by rw [hr]; exact hl2 _ (List.getElem_mem hlt)
      rw [← hr] at q1 hC2
      have hbo := below_alloc1 wr (.cells #[.int .i64 3, .slice A2 r.length c2, .slice A3 0 c3] 25)
      have hrow := polyOf_any (wr.alloc (.cells #[.int .i64 3, .slice A2 r.length c2, .slice A3 0 c3] 25)) 3 A2 c2 (.slice A3 0 c3) r (Kd.C_below hC2 hbo) hrl.1 hrl.2
      have HX := Lib.hid hr
      have HC := Lib.hid hC
      have HBO := Lib.hid hbo
      have hlt0 : ∀ q, (Value.slice B' k d').ownBlock = some q → q < wr.heap.size := Kd.R_lt hR
      clear hR hb hr hC hC2 hbo
      go_wp2_with fail
      refine hrow.mono ?_
      clear hrow
      rintro e w1 ⟨y, rfl, hy, hby0⟩
      have hby := below_then HBO.out (by simp) hby0
      obtain ⟨Bz, nz, dz, rfl⟩ := R_sl hy
      have hy' : lineK.R 117 w1 wr.heap.size (fun q => wr.heap.size ≤ q) (.slice Bz nz dz) r := R_own_ge (Kd.R_lower hy (by simp))
      have hs1 := hby.size
      clear hy hby0
      go_wp2_with (at_builtin; go_loud (refine Kd.R_append polyK (w0 := w) w.heap.size rfl (.tmp 72) (.tmp 75) 80 69 (.slice none 0 0) 24 rfl Tryz.underlying80 info69 rfl (by decide) (by decide) (.slice B' k d') (qs.take j) r [.slice Bz nz dz] (fun _ => True) (fun q => wr.heap.size ≤ q) rfl (by simp [Act.eval]) ?hp ?hokp ?hfresh ?HO ?HB ?hbase ?hl ?_))
      case hp => exact ⟨_, rfl, Kd.R_lower hy' hszr⟩
      case hokp => exact fun q hq => ⟨trivial, fun e0 => by have := hlt0 q e0.symm; omega⟩
      case hfresh => exact fun _ _ => trivial
      case HO => exact Kd.R_below HR.out hby
      case HB => exact HB.out.trans (hby.mono hszr)
      case hbase => omega
      case hl => simp; omega
      intro v1 w3 hR4 hb5 hg5 hat5
      obtain ⟨A1, n1, c1, rfl⟩ := R_sl hR4
      have e1 : qs.take j ++ [r] = qs.take (j + 1) := by
        rw [List.take_add_one, List.getElem?_eq_getElem hlt, HX.out]; rfl
      rw [e1] at hR4
      have HR4 := Lib.hid hR4
      have HB5 := Lib.hid hb5
      have hC := HC.out
      clear hR4 hb5 hg5 hat5 e1 hy' hby hlt0
      go_wp2
      exact ⟨⟨A1, n1, c1, j + 1, rfl, by go_num, by omega, HR4.out, HB5.out⟩, by simp [intOf]; omega⟩
    · have e1 : qs.take j = qs := List.take_of_length_le (by omega)
      rw [e1] at hR
      have HR2 := Lib.hid (R_own_ge hR)
      clear hR hb e1 hC
      go_wp2
      go_ret
      exact ⟨⟨_, _, rfl, _, rfl, _, rfl, HR2.out⟩, HB.out⟩

set_option maxRecDepth 20000 in
set_option maxHeartbeats 2000000 in
theorem ge_coll (n : Nat) (ih : ∀ k, n = k + 1 → ∀ (w : World) (g : Geo) (v : Value), ShV k w (shOf g) v → LimG g → Calls Tryz.prog 34 #[v] w fun e w' => GeoOk (k + 1) w.heap.size g e w' ∧ Below w.heap.size w w')
    (w : World) (A A' : Option Addr) (c c' : Nat) (gs : List Geo) (hC : (shK n).C w A' (gs.map shOf).length (gs.map shOf)) (hl : gs.length ≤ 1000000000) (hl2 : ∀ g ∈ gs, LimG g) :
    Calls Tryz.prog 34 #[.agg #[.int .i64 7, .slice A 0 c, .slice A' gs.length c']] w fun e w' => GeoOk (n + 1) w.heap.size (.coll gs) e w' ∧ Below w.heap.size w w' := by
  have hbx := below_alloc1 w (.cells #[.int .i64 7, .slice A 0 c, .slice A' gs.length c'] 25)
  have hkx := blk_new w (.cells #[.int .i64 7, .slice A 0 c, .slice A' gs.length c'] 25)
  obtain ⟨m0, m1, m2, n0, n1, n2⟩ := three_facts (blk_alloc hkx (.cells #[] 52 (0, 0)))
  obtain ⟨m0', m1', m2', n0', n1', n2'⟩ := three_facts hkx
  go_enter Tryz.func34, Tryz.ntmps34
  go_wp2
  go_loopw [9, 86] (fun v3 v10 wr => ∃ (B' : Option Addr) (k d' j : Nat), v3 = .slice B' k d' ∧ v10 = .int .i64 j ∧ j ≤ gs.length ∧ (geoK n).R 52 wr w.heap.size (fun _ => True) (.slice B' k d') (gs.take j) ∧ Below w.heap.size w wr) (fun v3 v10 wr => gs.length - (intOf v10).toNat)
  case atStart => exact ⟨_, _, _, 0, rfl, rfl, Nat.zero_le _, R_empty_at (geoK n) 52 (w.alloc _) w.heap.size _ (by simp) (by simp), hbx.alloc (by simp) _⟩
  case round =>
    obtain ⟨B', k, d', j, rfl, rfl, hjl, hR, hb⟩ := hrel
    have hszr := hb.size
    have HR := Lib.hid hR
    have HB := Lib.hid hb
    by_cases hlt : j < gs.length
    · obtain ⟨k1, ad, A2, c2, A3, c3, hk1, rfl, q0, q1, q2, hC2, hC3⟩ := get_sh (Kd.C_below hC hb) rfl j (by simpa using hlt)
      simp only [List.getElem_map] at q0 q1 q2 hC2 hC3
      obtain ⟨r, hr⟩ : ∃ r, r = gs[j] := ⟨_, rfl⟩
      have hrl : LimG r := by rw [hr]; exact hl2 _ (List.getElem_mem hlt)
      rw [← hr] at q0 q1 q2 hC2 hC3
      have hbo := below_alloc1 wr (.cells #[.int .i64 (shOf r).kind, .slice A2 (shOf r).lists.length c2, .slice A3 (shOf r).parts.length c3] 25)
      have hrow := ih k1 hk1 (wr.alloc (.cells #[.int .i64 (shOf r).kind, .slice A2 (shOf r).lists.length c2, .slice A3 (shOf r).parts.length c3] 25)) r _ ⟨A2, c2, A3, c3, rfl, Kd.C_below hC2 hbo, Kd.C_below hC3 hbo⟩ hrl
      have HX := Lib.hid hr
      have HC := Lib.hid hC
      have HBO := Lib.hid hbo
      have HK1 := Lib.hid hk1
      have hlt0 : ∀ q, (Value.slice B' k d').ownBlock = some q → q < wr.heap.size := Kd.R_lt hR
      clear hR hb hr hC hC2 hC3 hbo hk1
      go_wp2_with fail
      refine hrow.mono ?_
      clear hrow
      rintro e w1 ⟨⟨t, u, rfl, hM⟩, hby0⟩
      have hby := below_then HBO.out (by simp) hby0
      have hM' : (geoK n).M w1 wr.heap.size (fun q => wr.heap.size ≤ q) r [.iface t u] := by
        rw [HK1.out]
        exact (geoK (k1 + 1)).M_lower (by simp) ((geoK (k1 + 1)).M_mono (fun q hq => by simp at hq; omega) hM)
      have hs1 := hby.size
      clear hM hby0
      go_wp2_with (at_builtin; go_loud (refine Kd.R_append (geoK n) (w0 := w) w.heap.size rfl (.tmp 94) (.tmp 96) 84 52 .nilIface 16 rfl Tryz.underlying84 (by rw [geoK_sz]; exact info52) (by rw [geoK_sz]; rfl) (by rw [geoK_sz]; decide) (by decide) (.slice B' k d') (gs.take j) r [.iface t u] (fun _ => True) (fun q => wr.heap.size ≤ q) rfl (by simp [Act.eval]) ?hp ?hokp ?hfresh ?HO ?HB ?hbase ?hl ?_))
      case hp => exact (geoK n).M_lower hszr hM'
      case hokp => exact fun q hq => ⟨trivial, fun e0 => by have := hlt0 q e0.symm; omega⟩
      case hfresh => exact fun _ _ => trivial
      case HO => exact Kd.R_below HR.out hby
      case HB => exact HB.out.trans (hby.mono hszr)
      case hbase => omega
      case hl => simp; omega
      intro v1 w3 hR4 hb5 hg5 hat5
      obtain ⟨A1, n1, c1, rfl⟩ := R_sl hR4
      have e1 : gs.take j ++ [r] = gs.take (j + 1) := by
        rw [List.take_add_one, List.getElem?_eq_getElem hlt, HX.out]; rfl
      rw [e1] at hR4
      have HR4 := Lib.hid hR4
      have HB5 := Lib.hid hb5
      have hC := HC.out
      clear hR4 hb5 hg5 hat5 e1 hM' hby hlt0
      go_wp2
      exact ⟨⟨A1, n1, c1, j + 1, rfl, by go_num, by omega, HR4.out, HB5.out⟩, by simp [intOf]; omega⟩
    · have e1 : gs.take j = gs := List.take_of_length_le (by omega)
      rw [e1] at hR
      have HR2 := Lib.hid (R_own_ge hR)
      clear hR hb e1 hC
      go_wp2
      go_ret
      exact ⟨⟨_, _, rfl, _, rfl, _, rfl, HR2.out⟩, HB.out⟩

/-- geometry, of the value of a geometry's shape. -/
theorem geo_any : ∀ (n : Nat) (w : World) (g : Geo) (v : Value), ShV n w (shOf g) v → LimG g → Calls Tryz.prog 34 #[v] w fun e w' => GeoOk (n + 1) w.heap.size g e w' ∧ Below w.heap.size w w' := by
  intro n
  induction n with
  | zero =>
    intro w g v h hl
    obtain ⟨A, c, A', c', rfl, hC, hC'⟩ := h
    cases g with
    | point p => exact ge_point 0 w A c _ p hC
    | line ps => cases hl with | line h1 => exact ge_line 0 w A c _ ps hC h1
    | poly rs => cases hl with | poly h1 h2 => exact ge_poly 0 w A c _ rs hC h1 h2
    | mpoint ps => cases hl with | mpoint h1 => exact ge_mpoint 0 w A c _ ps hC h1
    | mline ls => cases hl with | mline h1 h2 => exact ge_mline 0 w A c _ ls hC h1 h2
    | mpoly qs =>
      cases hl with
      | mpoly h1 h2 =>
        have := ge_mpoly 0 0 w A A' c c' qs hC' h1 h2
        simpa [shOf, Sh.kind, Sh.lists, Sh.parts] using this
    | coll gs =>
      cases hl with
      | coll h1 h2 =>
        rw [shOf, shOfs_map] at hC'
        have := ge_coll 0 (fun k hk => by omega) w A A' c c' gs hC' h1 h2
        simpa [shOf, shOfs_map, Sh.kind, Sh.lists, Sh.parts] using this
  | succ n ih =>
    intro w g v h hl
    obtain ⟨A, c, A', c', rfl, hC, hC'⟩ := h
    cases g with
    | point p => exact ge_point (n + 1) w A c _ p hC
    | line ps => cases hl with | line h1 => exact ge_line (n + 1) w A c _ ps hC h1
    | poly rs => cases hl with | poly h1 h2 => exact ge_poly (n + 1) w A c _ rs hC h1 h2
    | mpoint ps => cases hl with | mpoint h1 => exact ge_mpoint (n + 1) w A c _ ps hC h1
    | mline ls => cases hl with | mline h1 h2 => exact ge_mline (n + 1) w A c _ ls hC h1 h2
    | mpoly qs =>
      cases hl with
      | mpoly h1 h2 =>
        have := ge_mpoly (n + 1) (n + 1) w A A' c c' qs hC' h1 h2
        simpa [shOf, Sh.kind, Sh.lists, Sh.parts] using this
    | coll gs =>
      cases hl with
      | coll h1 h2 =>
        rw [shOf, shOfs_map] at hC'
        have := ge_coll (n + 1) (fun k hk => by obtain rfl : n = k := by omega
                                                exact ih) w A A' c c' gs hC' h1 h2
        simpa [shOf, shOfs_map, Sh.kind, Sh.lists, Sh.parts] using this

set_option maxRecDepth 20000 in
set_option maxHeartbeats 1000000 in
/-- Write. -/
theorem write_any {nf : Nat → Bs} {q : Nat → Prop} (hN : NumF nf q) (n : Nat) (w : World) (g : Geo) (v : Value) (t : Bs) (h : ShV n w (shOf g) v) (hf : textE nf g t) (ha : AllC q g) (hT : Tb w) (h22 : 22 < w.heap.size) (hl : 100 * (wt g + 1) ≤ 900000000) :
    Calls Tryz.prog 16 #[v] w fun e w' => e = .returned (S t) ∧ Below w.heap.size w w' := by
  have hlim : LimG g := wt_lim g.deep g (Nat.le_refl _) (by omega)
  have hv := h
  obtain ⟨A, c, A', c', rfl, hC, hC'⟩ := hv
  obtain ⟨k, hk⟩ : ∃ k, k = (shOf g).kind := ⟨_, rfl⟩
  obtain ⟨l, hll⟩ : ∃ l, l = (shOf g).lists.length := ⟨_, rfl⟩
  obtain ⟨p, hp⟩ : ∃ p, p = (shOf g).parts.length := ⟨_, rfl⟩
  rw [← hk, ← hll, ← hp] at h ⊢
  have hb0 := below_alloc1 w (.cells #[.int .i64 k, .slice A l c, .slice A' p c'] 25)
  have hcall := geo_any n _ g _ (h.below hb0) hlim
  obtain ⟨m0, m1, m2, n0, n1, n2⟩ := three_facts (blk_new w (.cells #[.int .i64 k, .slice A l c, .slice A' p c'] 25))
  have HB0 := Lib.hid hb0
  clear hb0 hC hC' h hk hll hp
  go_enter Tryz.func16, Tryz.ntmps16
  go_wp2_with fail
  refine hcall.mono ?_
  clear hcall
  rintro e w1 ⟨⟨t1, u1, rfl, hM⟩, hb1⟩
  have hb1' := below_then HB0.out (by simp) hb1
  have hcall := marshal_any hN (n + 1) w1 g _ t ((geoK (n + 1)).K_of_M hM) hf ha (hT.below hb1' h22) (Nat.lt_of_lt_of_le h22 hb1'.size) hl
  have HB1 := Lib.hid hb1'
  clear hM hb1 hb1'
  go_wp2_with fail
  refine hcall.mono ?_
  clear hcall
  rintro e w2 ⟨rfl, hb2⟩
  have HB2 := Lib.hid (below_then HB1.out HB1.out.size hb2)
  clear hb2
  go_wp2
  go_ret
  exact ⟨rfl, HB2.out⟩
end Go.Proofs.YtghajgdiaopioaaGreatDoor
end

/- Walks: the spec's pair, joined, word. Conditions: stand in each contract. -/
section
set_option linter.unusedVariables false
set_option linter.unusedSimpArgs false
namespace Go.Proofs.YtghajgdiaopioaaGreatDoor
open Go.RowKit Go.Proofs Tx
open Go.Proofs.YtghajgdiaopioaaGreatDoorW.PrintWords

set_option maxRecDepth 20000 in
set_option maxHeartbeats 1000000 in
/-- joined. -/
theorem joined_any (w : World) (sm : Bool) (sp : Bs) (A : Option Addr) (c : Nat) (l : List Bs) (hC : bsK.C w A l.length l) (hsp : sp.length ≤ 1) (hl : (l.map fun x => x.length + 2).sum ≤ 1000000000) :
    Calls Tryz.prog 31 #[.agg #[.bool sm, S sp], .slice A l.length c] w fun e w' => e = .returned (S (br (joinS (44 :: sp) l))) ∧ Below w.heap.size w w' := by
  have hb0 := below_alloc1 w (.cells #[.bool sm, S sp] 31)
  have hk0 := blk_new w (.cells #[.bool sm, S sp] 31)
  have p0 := blk_cell hk0 0
  have p1 := blk_cell hk0 1
  have f0 := blk_frozen hk0 0
  have f1 := blk_frozen hk0 1
  have hll : l.length ≤ 1000000000 := Nat.le_trans (len_sum (fun x : Bs => x.length + 2) l fun _ _ => by omega) hl
  have HB0 := Lib.hid hb0
  have HK0 := Lib.hid hk0
  clear hb0 hk0
  go_enter Tryz.func31, Tryz.ntmps31
  go_wp2
  go_loopw [5, 10] (fun v5 v10 wr => ∃ (j : Nat) (o : Bs), v5 = S o ∧ v10 = .int .i64 j ∧ j ≤ l.length ∧ wr = w.alloc (.cells #[.bool sm, S sp] 31) ∧ o = 40 :: joinS (44 :: sp) (l.take j)) (fun v5 v10 wr => l.length - (intOf v10).toNat)
  case atStart => exact ⟨0, [40], rfl, rfl, Nat.zero_le _, rfl, rfl⟩
  case round =>
    obtain ⟨j, o, rfl, rfl, hj, rfl, ho⟩ := hrel
    have hol : o.length ≤ 1000000001 := by
      rw [ho, List.length_cons]
      have h1 := join_len (44 :: sp) (l.take j)
      have h2 := sum_le (l := l.take j) (f := fun x : Bs => x.length + (44 :: sp).length) (g := fun x => x.length + 2) fun x _ => by simp only [List.length_cons]; omega
      have h3 : (l.map fun x => x.length + 2).sum = ((l.take j).map fun x => x.length + 2).sum + ((l.drop j).map fun x => x.length + 2).sum := by rw [← List.sum_append, ← List.map_append, List.take_append_drop]
      omega
    by_cases hlt : j < l.length
    · obtain ⟨ad, rfl, q0⟩ := get_str (Kd.C_below hC HB0.out) rfl j hlt
      have hsn := take_snoc hlt
      have hxl : l[j].length + 2 ≤ 1000000000 := Nat.le_trans (le_sum (List.mem_map_of_mem (f := fun x : Bs => x.length + 2) (List.getElem_mem hlt))) hl
      obtain ⟨x, hx⟩ : ∃ x, x = l[j] := ⟨_, rfl⟩
      rw [← hx] at q0 hsn hxl
      have HO := Lib.hid ho
      have HS := Lib.hid hsn
      have HC := Lib.hid hC
      clear ho hsn hx hC
      have hcase : (Aside (j = 0) ∧ (0 < j) = False) ∨ (Aside (0 < j) ∧ (0 < j) = True) := by
        rcases Nat.eq_zero_or_pos j with h | h
        · exact .inl ⟨h, by simp; omega⟩
        · exact .inr ⟨h, by simp; omega⟩
      rcases hcase with ⟨ha, g0⟩ | ⟨ha, g0⟩
      · have k1 : (9223372036854775807 < o.length + x.length) = False := by simp; omega
        go_wp2
        refine ⟨⟨j + 1, _, rfl, by go_num, by omega, trivial, ?_⟩, by simp [intOf]; omega⟩
        rw [HS.out, joinS_snoc, if_pos (by rw [ha.out]; rfl), HO.out, ha.out]
        rfl
      · have k1 : (9223372036854775807 < sp.length + 1) = False := by simp; omega
        have k2 : (9223372036854775807 < o.length + (sp.length + 1)) = False := by simp; omega
        have k3 : (9223372036854775807 < o.length + (sp.length + 1) + x.length) = False := by simp; omega
        go_wp2
        refine ⟨⟨j + 1, _, rfl, by go_num, by omega, trivial, ?_⟩, by simp [intOf]; omega⟩
        rw [HS.out, joinS_snoc, if_neg (by have := ha.out; intro h0; have h9 : (l.take j).length = 0 := by { rw [h0]; rfl }; rw [List.length_take] at h9; omega), HO.out]
        simp
    · have e1 : l.take j = l := List.take_of_length_le (by omega)
      rw [e1] at ho
      have HO := Lib.hid ho
      have k1 : (9223372036854775807 < o.length + 1) = False := by simp; omega
      clear ho e1
      go_wp2
      go_ret
      exact ⟨by rw [HO.out]; simp [br], HB0.out⟩

theorem call73 : ∀ args w, (callFunc 73 args).run Tryz.prog w = .ok (.enter 73 args) w := by
  intro args w
  kernel_rfl
/-- A whole number, at most 1000 away from 0. -/
def Wn (x : Nat) : Prop := ∃ n : Int, -1000 ≤ n ∧ n ≤ 1000 ∧ x = fb n
theorem nfW_fb {n : Int} (h1 : -1000 ≤ n) (h2 : n ≤ 1000) : nfW (fb n) = Lib.itoa n := by unfold nfW; rw [f64i_fb n h1 h2]; rfl
theorem itoa_any (n : Int) (h1 : -1000 ≤ n) (h2 : n ≤ 1000) (w : World) (hT : Tb w) :
    Calls Tryz.prog 73 #[.int .i64 n] w fun e w' => e = .returned (S (Lib.itoa n)) ∧ Below w.heap.size w w' := by
  refine (Tryz.strconv_Itoa n (by omega) (by omega) w hT.tab).mono ?_
  rintro e w' ⟨he, k, os, hw⟩
  exact ⟨he, by rw [hw]; exact Lib.below_grow w.heap.size w (Nat.le_refl _) k os⟩
theorem itoa_short (n : Int) (h1 : -1000 ≤ n) (h2 : n ≤ 1000) : (Lib.itoa n).length ≤ 21 := Lib.itoa_length_le n (by omega) (by omega)
theorem conv_fb (n : Int) (h1 : -1000 ≤ n) (h2 : n ≤ 1000) (w : World) : (convert 47 3 (.float .f64 (fb n))).run Tryz.prog w = .ok (.int .i64 n) w :=
  run_convert_float_int (P := Tryz.prog) w 47 3 .f64 .i64 (fb n) n (by kernel_rfl) Tryz.underlying3 (f64i_fb n h1 h2)

set_option maxRecDepth 20000 in
set_option maxHeartbeats 1000000 in
/-- pair. -/
theorem pair_any (w : World) (x y : Nat) (hx : Wn x) (hy : Wn y) (hT : Tb w) (h22 : 22 < w.heap.size) :
    Calls Tryz.prog 49 #[.agg #[.float .f64 x, .float .f64 y]] w fun e w' => e = .returned (S (ptT nfW (x, y))) ∧ Below w.heap.size w w' := by
  obtain ⟨n, n1, n2, rfl⟩ := hx
  obtain ⟨m, m1, m2, rfl⟩ := hy
  have et : ptT nfW (fb n, fb m) = Lib.itoa n ++ 32 :: Lib.itoa m := by unfold ptT; rw [nfW_fb n1 n2, nfW_fb m1 m2]
  rw [et]
  have cx := conv_fb n n1 n2
  have cy := conv_fb m m1 m2
  obtain ⟨x, hx⟩ : ∃ x, x = fb n := ⟨_, rfl⟩
  obtain ⟨y, hy⟩ : ∃ y, y = fb m := ⟨_, rfl⟩
  rw [← hx] at cx ⊢
  rw [← hy] at cy ⊢
  have lx := itoa_short n n1 n2
  have ly := itoa_short m m1 m2
  obtain ⟨a, ha⟩ : ∃ a, a = Lib.itoa n := ⟨_, rfl⟩
  obtain ⟨b, hb⟩ : ∃ b, b = Lib.itoa m := ⟨_, rfl⟩
  have hA := fun w hT => itoa_any n n1 n2 w hT
  have hB := fun w hT => itoa_any m m1 m2 w hT
  rw [← ha] at lx hA ⊢
  rw [← hb] at ly hB ⊢
  have hb0 := below_alloc1 w (.cells #[.float .f64 x, .float .f64 y] 49)
  have hk0 := blk_new w (.cells #[.float .f64 x, .float .f64 y] 49)
  have HB0 := Lib.hid hb0
  have hkd : (w.alloc (.cells #[.float .f64 x, .float .f64 y] 49)).drew.heap[w.heap.size]? = some (.cells #[.float .f64 x, .float .f64 y] 49 (0, 0)) := hk0
  have HKD := Lib.hid hkd
  have HBD := Lib.hid (hb0.trans ((below_drew (w.alloc (.cells #[.float .f64 x, .float .f64 y] 49))).mono (by simp)))
  have e0 := blk_cell hkd 0
  have e1 := blk_cell hkd 1
  have hTd : Tb (w.alloc (.cells #[.float .f64 x, .float .f64 y] 49)).drew := (hT.below hb0 h22).below (below_drew _) (by simp; omega)
  have k1 : (9223372036854775807 < a.length + 1) = False := by simp; omega
  have k2 : (9223372036854775807 < a.length + 1 + b.length) = False := by simp; omega
  have c1 : Calls Tryz.prog 73 #[.int .i64 n] (w.alloc (.cells #[.float .f64 x, .float .f64 y] 49)).drew fun e w' => ∃ v, e = .returned v ∧ (v = S a ∧ Aside (Below w.heap.size w w' ∧ Tb w') ∧ w'.cell? ⟨w.heap.size, 0, none⟩ = some (.float .f64 x) ∧ w'.cell? ⟨w.heap.size, 1, none⟩ = some (.float .f64 y)) :=
    (hA _ hTd).mono fun e w' ⟨he, hb⟩ => ⟨_, he, rfl, ⟨below_then HBD.out (by simp) hb, hTd.below hb (by simp; omega)⟩, blk_cell (blk_below HKD.out hb) 0, blk_cell (blk_below HKD.out hb) 1⟩
  have c2 : ∀ w2, (Below w.heap.size w w2 ∧ Tb w2) → Calls Tryz.prog 73 #[.int .i64 m] w2 fun e w' => ∃ v, e = .returned v ∧ (v = S b ∧ Below w.heap.size w w') :=
    fun w2 h2 => (hB w2 h2.2).mono fun e w' ⟨he, hb⟩ => ⟨_, he, rfl, below_then h2.1 h2.1.size hb⟩
  clear hk0 hb0 hkd ha hb hx hy et
  go_enter Tryz.func49, Tryz.ntmps49
  go_wp2_with fail
  go_region_law (first
    | (refine step_call rfl 73 (.tmp 5) _ rfl call73 (.int .i64 n) (by simp [Act.eval, Act.put]) c1 ?_
       rintro v2 w2 ⟨rfl, hm2, hx2, hy2⟩)
    | (refine step_call rfl 73 (.tmp 10) _ rfl call73 (.int .i64 m) (by simp [Act.eval, Act.put]) (c2 _ hm2.out) ?_
       rintro v3 w3 ⟨rfl, hb3⟩
       have HB3 := Lib.hid hb3
       clear hb3))
  all_goals go_wp2
  all_goals go_ret
  all_goals exact ⟨by simp [Act.put], HB3.out⟩
end Go.Proofs.YtghajgdiaopioaaGreatDoor
end

/- Walks: the spec's word. Conditions: stand in each contract. -/
section
set_option linter.unusedVariables false
set_option linter.unusedSimpArgs false
namespace Go.Proofs.YtghajgdiaopioaaGreatDoor
open Go.RowKit Go.Proofs Tx
open Go.Proofs.YtghajgdiaopioaaGreatDoorW.PrintWords

/-- The table of words stands. -/
def Wd (w : World) : Prop := ∀ k : Nat, k < 8 → w.cell? ⟨0, k, none⟩ = some (S (word k))
theorem Wd.below {w w' : World} {B : Nat} (h : Wd w) (hb : Below B w w') (hB : 0 < B) : Wd w' := fun k hk => cell_below (h k hk) hb hB

set_option maxRecDepth 20000 in
set_option maxHeartbeats 1000000 in
theorem word_great (w : World) (sp : Bs) (k : Nat) (hk : k < 8) (hW : Wd w) (h0 : 0 < w.heap.size) :
    Calls Tryz.prog 28 #[.agg #[.bool false, S sp], .int .i64 k] w fun e w' => e = .returned (S (word k)) ∧ Below w.heap.size w w' := by
  have hb0 := below_alloc1 w (.cells #[.bool false, S sp] 31)
  have hk0 := blk_new w (.cells #[.bool false, S sp] 31)
  have p0 := blk_cell hk0 0
  have f0 := blk_frozen hk0 0
  have q0 := hW.below hb0 h0 k hk
  obtain ⟨t, ht⟩ : ∃ t, t = word k := ⟨_, rfl⟩
  rw [← ht] at q0 ⊢
  have HB0 := Lib.hid hb0
  clear hb0 hk0 ht
  go_enter Tryz.func28, Tryz.ntmps28
  go_wp2
  go_ret
  exact ⟨rfl, HB0.out⟩
theorem word_letters : ∀ k, ∀ c ∈ word k, 65 ≤ c.toNat ∧ c.toNat ≤ 90 := by
  intro k
  match k with
  | 0 | 1 | 2 | 3 | 4 | 5 | 6 | 7 => decide
  | n + 8 => simp [word]
theorem low_map (k : Nat) : low true (word k) = (word k).map (fun c => c + 32) := by
  unfold low
  rw [if_pos rfl]
  refine List.map_congr_left fun c hc => ?_
  obtain ⟨h1, h2⟩ := word_letters k c hc
  rw [if_pos ⟨UInt8.le_iff_toNat_le.2 h1, UInt8.le_iff_toNat_le.2 h2⟩]
theorem lo_nat {c : UInt8} (h : c.toNat ≤ 90) : (c + 32).toNat = c.toNat + 32 := by
  rw [UInt8.toNat_add]
  show (c.toNat + 32) % 256 = _
  omega
theorem lo_of (c : UInt8) : UInt8.ofNat ((c.toNat : Int) + 32).toNat = c + 32 := by
  apply UInt8.toNat_inj.1
  rw [UInt8.toNat_ofNat', UInt8.toNat_add, show ((c.toNat : Int) + 32).toNat = c.toNat + 32 by omega]
  rfl
/-- The row while its letters are made small: m of them are. -/
structure LowRow (t : Bs) (g m : Nat) (w : World) : Prop where
  at_ : ∃ C : Array Value, w.heap[g]? = some (.cells C 5 (C.size, C.size + 1)) ∧ t.length ≤ C.size ∧ ∀ i (h : i < t.length), C[i]? = some (.int .u8 ((if i < m then t[i].toNat + 32 else t[i].toNat : Nat) : Int))
theorem LowRow.cell {t : Bs} {g m : Nat} {w : World} (h : LowRow t g m w) {i : Nat} (hi : i < t.length) : w.cell? ⟨g, i, none⟩ = some (.int .u8 ((if i < m then t[i].toNat + 32 else t[i].toNat : Nat) : Int)) ∧ w.frozen? ⟨g, i, none⟩ = false := by
  obtain ⟨C, h1, h2, h3⟩ := h.at_
  refine ⟨by simp only [World.cell?, h1]; exact h3 i hi, ?_⟩
  simp only [World.frozen?, h1]
  simp
  omega
theorem LowRow.step {t : Bs} {g m : Nat} {w : World} (h : LowRow t g m w) (hm : m < t.length) : LowRow t g (m + 1) (w.setCell ⟨g, m, none⟩ (.int .u8 ((t[m].toNat + 32 : Nat) : Int))) := by
  obtain ⟨C, h1, h2, h3⟩ := h.at_
  refine ⟨C.setIfInBounds m (.int .u8 ((t[m].toNat + 32 : Nat) : Int)), ?_, by simpa using h2, fun i hi => ?_⟩
  · rw [Go.Joins.block_setCell h1]; simp
  · by_cases e : m = i
    · subst e
      rw [Array.getElem?_setIfInBounds_self_of_lt (by omega), if_pos (by omega)]
    · rw [Array.getElem?_setIfInBounds_ne e, h3 i hi]
      by_cases e2 : i < m
      · rw [if_pos e2, if_pos (by omega)]
      · rw [if_neg e2, if_neg (by omega)]
set_option maxRecDepth 20000 in
set_option maxHeartbeats 1000000 in
theorem word_small (w : World) (sp : Bs) (k : Nat) (hk : k < 8) (hW : Wd w) (h0 : 0 < w.heap.size) :
    Calls Tryz.prog 28 #[.agg #[.bool true, S sp], .int .i64 k] w fun e w' => e = .returned (S (low true (word k))) ∧ Below w.heap.size w w' := by
  have hb0 := below_alloc1 w (.cells #[.bool true, S sp] 31)
  have hk0 := blk_new w (.cells #[.bool true, S sp] 31)
  have p0 := blk_cell hk0 0
  have f0 := blk_frozen hk0 0
  have q0 := hW.below hb0 h0 k hk
  obtain ⟨t, ht⟩ : ∃ t, t = word k := ⟨_, rfl⟩
  rw [← ht] at q0 ⊢
  have HB0 := Lib.hid hb0
  have HT := Lib.hid ht
  clear hb0 hk0 ht
  have hconv := Lib.run_convert_string_bytes (P := Tryz.prog) (w.alloc (.cells #[.bool true, S sp] 31)) 9 92 5 ⟨t.toArray⟩ Tryz.underlying9 Tryz.underlying92 Tryz.underlying5
  go_enter Tryz.func28, Tryz.ntmps28
  have hlet : ∀ c ∈ t, 65 ≤ c.toNat ∧ c.toNat ≤ 90 := by rw [HT.out]; exact word_letters k
  have hrow0 : LowRow t (w.heap.size + 1) 0 (Lib.bytesWorld (w.alloc (.cells #[.bool true, S sp] 31)) 5 ⟨t.toArray⟩) := by
    have h1 := Lib.bytesWorld_at_new (w.alloc (.cells #[.bool true, S sp] 31)) 5 ⟨t.toArray⟩
    refine ⟨_, by simpa using h1, ?_, fun i hi => ?_⟩
    · simp [Lib.bytesCells]
    · rw [if_neg (by omega)]
      simp [Lib.bytesCells, Array.getElem?_append, hi]
  have hbw : Below w.heap.size w (Lib.bytesWorld (w.alloc (.cells #[.bool true, S sp] 31)) 5 ⟨t.toArray⟩) := below_then HB0.out (by simp) (Lib.bytesWorld_below _ _ _)
  have HR0 := Lib.hid hrow0
  have HBW := Lib.hid hbw
  have htl : t.length ≤ 1000 := by rw [HT.out]; have := (word_lim k).1; omega
  clear hrow0 hbw
  go_wp2
  go_loopw [19] (fun v19 wr => ∃ j : Nat, v19 = .int .i64 j ∧ j ≤ t.length ∧ LowRow t (w.heap.size + 1) j wr ∧ Below w.heap.size w wr) (fun v19 wr => t.length - (intOf v19).toNat)
  case atStart => exact ⟨0, rfl, Nat.zero_le _, HR0.out, HBW.out⟩
  case round =>
    obtain ⟨j, rfl, hj, hr, hb⟩ := hrel
    by_cases hlt : j < t.length
    · obtain ⟨c0, d0⟩ := hr.cell hlt
      rw [if_neg (by omega)] at c0
      have hst := hr.step hlt
      obtain ⟨l1, l2⟩ := hlet _ (List.getElem_mem hlt)
      obtain ⟨u, hu⟩ : ∃ u, u = t[j].toNat := ⟨_, rfl⟩
      rw [← hu] at c0 hst l1 l2
      have hpc : ((u + 32 : Nat) : Int) = (u : Int) + 32 := by push_cast; rfl
      rw [hpc] at hst
      have HST := Lib.hid hst
      have HB := Lib.hid (show Below w.heap.size w (wr.setCell ⟨w.heap.size + 1, j, none⟩ (.int .u8 ((u : Int) + 32))) from hb.setCell (by show w.heap.size ≤ w.heap.size + 1; omega) _)
      clear hr hst hu hb hpc
      go_wp2
      exact ⟨⟨j + 1, by go_num, by omega, HST.out, HB.out⟩, by simp [intOf]; omega⟩
    · have hj2 : j = t.length := by omega
      have hc : ∀ i, i < t.length → wr.cell? ⟨w.heap.size + 1, 0 + i, none⟩ = some (.int .u8 ((t.map fun c => (c.toNat : Int) + 32).getD i 0)) := by
        intro i hi
        rw [Nat.zero_add, (hr.cell hi).1, if_pos (by omega)]
        simp [List.getD, hi]
      have hcv := run_convert_bytes_arg (P := Tryz.prog) wr 92 5 Tryz.underlying92 Tryz.underlying5 (w.heap.size + 1) 0 t.length (grownCap (w.alloc (.cells #[.bool true, S sp] 31)) t.length 0 5) (t.map fun c => (c.toNat : Int) + 32) (by simp) hc 9 Tryz.underlying9
      have HB := Lib.hid hb
      clear hr hb hc hj2 hlet
      go_wp2
      go_ret
      refine ⟨?_, HB.out⟩
      have e1 : low true t = t.map (fun c => c + 32) := by rw [HT.out]; exact low_map k
      rw [e1]
      show Ending.returned (.string (strOfNums (t.map fun c => (c.toNat : Int) + 32))) = _
      congr 3
      unfold strOfNums
      simp only [List.map_map]
      congr 1
end Go.Proofs.YtghajgdiaopioaaGreatDoor
end
