/- Walks and plain laws joined (Mb). Conditions: stand in each law. -/
import Derived.Test.YtghajgdiaopioaaGreatDoorJxb
import Derived.Test.YtghajgdiaopioaaGreatDoorJl
/- Walks: ReadAs. Conditions: stand in each contract. -/
section
set_option linter.unusedVariables false
set_option linter.unusedSimpArgs false
namespace Go.Proofs.YtghajgdiaopioaaGreatDoor
open Go.RowKit Go.Proofs Tx
open Go.Proofs.YtghajgdiaopioaaGreatDoorW.PrintWords

theorem map_ok {α β : Type} {r : Rd α} {f : α → β} {g : β} (h : Rd.map f r = .ok g) : ∃ a, r = .ok a ∧ g = f a := by
  cases r with
  | unk => cases h
  | err => cases h
  | ok a => cases h; exact ⟨a, rfl, rfl⟩

theorem gx1 (pf : Bs → Rd Nat) (hpf : PfOk pf) (n : Nat) (s : Bs) (w : World) {B0 : Nat} (hg : Gl B0 w) (hl : s.length ≤ 1000000000) (ha : Asc s) (hh : hasW (trim s) (word 1) = true) (g : Geo) (hr : um pf (readG pf n) 1 (trim s) = .ok g) :
    Calls Tryz.prog 36 #[S s] w fun e w' => (∃ x, e = .returned (.tuple #[x, .nilIface]) ∧ (∃ p, x = ptV p) ∧ (geoK (n + 1)).M w' w.heap.size (fun _ => True) g [.iface 61 x]) ∧ Below w.heap.size w w' := by
  have hta : Asc (trim s) := trim_asc ha
  have htl : (trim s).length ≤ 1000000000 := Nat.le_trans (trim_le s) hl
  rw [um_1] at hr
  obtain ⟨a, hra, rfl⟩ := map_ok hr
  refine (umx1_yes s _ w hg hl rfl hh (.ok a) (fun _ p x _ => x = ptV p) (fun _ _ _ _ _ _ h => h) (fun _ a x _ h => ⟨a, h⟩) (by simp) ?_).mono ?_
  · exact fun w' hg' => um53_any pf hpf _ w' hg' htl (hasW_len hh) _ hra (by simp)
  · rintro e w' ⟨⟨x, he, _, hx⟩, hb⟩
    subst hx
    exact ⟨⟨_, he, ⟨_, rfl⟩, rfl⟩, hb⟩

theorem gx2 (pf : Bs → Rd Nat) (hpf : PfOk pf) (n : Nat) (s : Bs) (w : World) {B0 : Nat} (hg : Gl B0 w) (hl : s.length ≤ 1000000000) (ha : Asc s) (hh : hasW (trim s) (word 2) = true) (g : Geo) (hr : um pf (readG pf n) 2 (trim s) = .ok g) :
    Calls Tryz.prog 37 #[S s] w fun e w' => (∃ x, e = .returned (.tuple #[x, .nilIface]) ∧ (∃ A q c, x = .slice A q c) ∧ (geoK (n + 1)).M w' w.heap.size (fun _ => True) g [.iface 65 x]) ∧ Below w.heap.size w w' := by
  have hta : Asc (trim s) := trim_asc ha
  have htl : (trim s).length ≤ 1000000000 := Nat.le_trans (trim_le s) hl
  rw [um_2] at hr
  obtain ⟨a, hra, rfl⟩ := map_ok hr
  refine (umx2_yes s _ w hg hl rfl hh (.ok a) (fun B ps x w => ptK.R 61 w B (fun _ => True) x ps) (fun _ _ _ _ _ hb h => Kd.R_lower h hb) (fun _ a x _ h => R_is h) (by simp) ?_).mono ?_
  · exact fun w' hg' => line54_any pf hpf _ w' hg' htl (hasW_len hh) hta _ hra (by simp)
  · rintro e w' ⟨⟨x, he, hx⟩, hb⟩
    exact ⟨⟨_, he, R_is hx, _, rfl, _, rfl, hx⟩, hb⟩

theorem gx3 (pf : Bs → Rd Nat) (hpf : PfOk pf) (n : Nat) (s : Bs) (w : World) {B0 : Nat} (hg : Gl B0 w) (hl : s.length ≤ 1000000000) (ha : Asc s) (hh : hasW (trim s) (word 3) = true) (g : Geo) (hr : um pf (readG pf n) 3 (trim s) = .ok g) :
    Calls Tryz.prog 38 #[S s] w fun e w' => (∃ x, e = .returned (.tuple #[x, .nilIface]) ∧ (∃ A q c, x = .slice A q c) ∧ (geoK (n + 1)).M w' w.heap.size (fun _ => True) g [.iface 69 x]) ∧ Below w.heap.size w w' := by
  have hta : Asc (trim s) := trim_asc ha
  have htl : (trim s).length ≤ 1000000000 := Nat.le_trans (trim_le s) hl
  rw [um_3] at hr
  obtain ⟨a, hra, rfl⟩ := map_ok hr
  refine (umx3_yes s _ w hg hl rfl hh (.ok a) (fun B ps x w => lineK.R 117 w B (fun _ => True) x ps) (fun _ _ _ _ _ hb h => Kd.R_lower h hb) (fun _ a x _ h => R_is h) (by simp) ?_).mono ?_
  · exact fun w' hg' => um55_any pf hpf _ w' hg' htl (hasW_len hh) hta _ hra (by simp)
  · rintro e w' ⟨⟨x, he, hx⟩, hb⟩
    exact ⟨⟨_, he, R_is hx, _, rfl, _, rfl, hx⟩, hb⟩

theorem gx4 (pf : Bs → Rd Nat) (hpf : PfOk pf) (n : Nat) (s : Bs) (w : World) {B0 : Nat} (hg : Gl B0 w) (hl : s.length ≤ 1000000000) (ha : Asc s) (hh : hasW (trim s) (word 4) = true) (g : Geo) (hr : um pf (readG pf n) 4 (trim s) = .ok g) :
    Calls Tryz.prog 39 #[S s] w fun e w' => (∃ x, e = .returned (.tuple #[x, .nilIface]) ∧ (∃ A q c, x = .slice A q c) ∧ (geoK (n + 1)).M w' w.heap.size (fun _ => True) g [.iface 72 x]) ∧ Below w.heap.size w w' := by
  have hta : Asc (trim s) := trim_asc ha
  have htl : (trim s).length ≤ 1000000000 := Nat.le_trans (trim_le s) hl
  rw [um_4] at hr
  obtain ⟨a, hra, rfl⟩ := map_ok hr
  refine (umx4_yes s _ w hg hl rfl hh (.ok a) (fun B ps x w => ptK.R 61 w B (fun _ => True) x ps) (fun _ _ _ _ _ hb h => Kd.R_lower h hb) (fun _ a x _ h => R_is h) (by simp) ?_).mono ?_
  · exact fun w' hg' => um56_any pf hpf _ w' hg' htl (hasW_len hh) hta _ hra (by simp)
  · rintro e w' ⟨⟨x, he, hx⟩, hb⟩
    exact ⟨⟨_, he, R_is hx, _, rfl, _, rfl, hx⟩, hb⟩

theorem gx5 (pf : Bs → Rd Nat) (hpf : PfOk pf) (n : Nat) (s : Bs) (w : World) {B0 : Nat} (hg : Gl B0 w) (hl : s.length ≤ 1000000000) (ha : Asc s) (hh : hasW (trim s) (word 5) = true) (g : Geo) (hr : um pf (readG pf n) 5 (trim s) = .ok g) :
    Calls Tryz.prog 40 #[S s] w fun e w' => (∃ x, e = .returned (.tuple #[x, .nilIface]) ∧ (∃ A q c, x = .slice A q c) ∧ (geoK (n + 1)).M w' w.heap.size (fun _ => True) g [.iface 76 x]) ∧ Below w.heap.size w w' := by
  have hta : Asc (trim s) := trim_asc ha
  have htl : (trim s).length ≤ 1000000000 := Nat.le_trans (trim_le s) hl
  rw [um_5] at hr
  obtain ⟨a, hra, rfl⟩ := map_ok hr
  refine (umx5_yes s _ w hg hl rfl hh (.ok a) (fun B ps x w => lineK.R 65 w B (fun _ => True) x ps) (fun _ _ _ _ _ hb h => Kd.R_lower h hb) (fun _ a x _ h => R_is h) (by simp) ?_).mono ?_
  · exact fun w' hg' => um57_any pf hpf _ w' hg' htl (hasW_len hh) hta _ hra (by simp)
  · rintro e w' ⟨⟨x, he, hx⟩, hb⟩
    exact ⟨⟨_, he, R_is hx, _, rfl, _, rfl, hx⟩, hb⟩

theorem gx6 (pf : Bs → Rd Nat) (hpf : PfOk pf) (n : Nat) (s : Bs) (w : World) {B0 : Nat} (hg : Gl B0 w) (hl : s.length ≤ 1000000000) (ha : Asc s) (hh : hasW (trim s) (word 6) = true) (g : Geo) (hr : um pf (readG pf n) 6 (trim s) = .ok g) :
    Calls Tryz.prog 41 #[S s] w fun e w' => (∃ x, e = .returned (.tuple #[x, .nilIface]) ∧ (∃ A q c, x = .slice A q c) ∧ (geoK (n + 1)).M w' w.heap.size (fun _ => True) g [.iface 80 x]) ∧ Below w.heap.size w w' := by
  have hta : Asc (trim s) := trim_asc ha
  have htl : (trim s).length ≤ 1000000000 := Nat.le_trans (trim_le s) hl
  rw [um_6] at hr
  obtain ⟨a, hra, rfl⟩ := map_ok hr
  refine (umx6_yes s _ w hg hl rfl hh (.ok a) (fun B ps x w => polyK.R 69 w B (fun _ => True) x ps) (fun _ _ _ _ _ hb h => Kd.R_lower h hb) (fun _ a x _ h => R_is h) (by simp) ?_).mono ?_
  · exact fun w' hg' => um58_any pf hpf _ w' hg' htl (hasW_len hh) hta _ hra (by simp)
  · rintro e w' ⟨⟨x, he, hx⟩, hb⟩
    exact ⟨⟨_, he, R_is hx, _, rfl, _, rfl, hx⟩, hb⟩

theorem gx7 (pf : Bs → Rd Nat) (hpf : PfOk pf) (n : Nat) (s : Bs) (w : World) {B0 : Nat} (hg : Gl B0 w) (hl : s.length ≤ 1000000000) (ha : Asc s) (hh : hasW (trim s) (word 7) = true) (g : Geo) (hr : um pf (readG pf n) 7 (trim s) = .ok g) :
    Calls Tryz.prog 42 #[S s] w fun e w' => (∃ x, e = .returned (.tuple #[x, .nilIface]) ∧ (∃ A q c, x = .slice A q c) ∧ (geoK (n + 1)).M w' w.heap.size (fun _ => True) g [.iface 84 x]) ∧ Below w.heap.size w w' := by
  have hta : Asc (trim s) := trim_asc ha
  have htl : (trim s).length ≤ 1000000000 := Nat.le_trans (trim_le s) hl
  rw [um_7] at hr
  obtain ⟨a, hra, rfl⟩ := map_ok hr
  refine (umx7_yes s _ w hg hl rfl hh (.ok a) (fun B ps x w => (geoK n).R 52 w B (fun _ => True) x ps) (fun _ _ _ _ _ hb h => Kd.R_lower h hb) (fun _ a x _ h => R_is h) (by simp) ?_).mono ?_
  · exact fun w' hg' => um59_any pf n (unm_any pf hpf n) _ w' hg' htl (hasW_len hh) hta _ hra (by simp)
  · rintro e w' ⟨⟨x, he, hx⟩, hb⟩
    exact ⟨⟨_, he, R_is hx, _, rfl, _, rfl, hx⟩, hb⟩

set_option maxRecDepth 20000 in
set_option maxHeartbeats 1000000 in
theorem as1_no (s : Bs) (w : World) (he : E2 w) (h2 : 2 < w.heap.size) (hl : s.length ≤ 1000000000) (h1 : hasW (trim s) (word 1) = false) :
    Calls Tryz.prog 17 #[.int .i64 1, S s] w fun e w' => e = .returned (.tuple #[.agg #[.int .i64 0, .slice none 0 0, .slice none 0 0], .bool false]) ∧ Below w.heap.size w w' := by
  have hb2 := below_alloc1 w (.cells #[.int .i64 0, .slice none 0 0, .slice none 0 0] 25)
  have hcall := umx1_no s _ (w.alloc (.cells #[.int .i64 0, .slice none 0 0, .slice none 0 0] 25)) (he.below hb2 h2) (by simp; omega) hl rfl h1
  have hk := blk_new w (.cells #[.int .i64 0, .slice none 0 0, .slice none 0 0] 25)
  have HK := Lib.hid hk
  have HB2 := Lib.hid hb2
  clear hk hb2 h1 he
  go_enter Tryz.func17, Tryz.ntmps17
  go_wp2_with fail
  refine hcall.mono ?_
  clear hcall
  rintro e w1 ⟨⟨u, v, rfl⟩, hb1⟩
  have hk1 := blk_below HK.out hb1
  obtain ⟨m0, m1, m2, n0, n1, n2⟩ := three_facts hk1
  have HK1 := Lib.hid hk1
  have HBW := Lib.hid (below_then HB2.out (by simp) hb1)
  clear hk1 hb1
  unfold ptV
  go_wp2
  refine bodyPost_ret (results_ct rfl _ _ _ _ _ _ _ rfl (three_set HK1.out) Tryz.underlying25 rfl size25) rfl ?_
  exact ⟨rfl, ((HBW.out.setCell (Nat.le_refl _) _).setCell (Nat.le_refl _) _).setCell (Nat.le_refl _) _⟩

set_option maxRecDepth 20000 in
set_option maxHeartbeats 1000000 in
theorem as1_yes (pf : Bs → Rd Nat) (hpf : PfOk pf) (n : Nat) (s : Bs) (w : World) {B0 : Nat} (hg : Gl B0 w) (hl : s.length ≤ 1000000000) (ha : Asc s) (hh : hasW (trim s) (word 1) = true) (g : Geo) (hr : um pf (readG pf n) 1 (trim s) = .ok g) (hlim : LimG g) :
    Calls Tryz.prog 17 #[.int .i64 1, S s] w fun e w' => ReadOk (n + 1) w.heap.size g w' e ∧ Below w.heap.size w w' := by
  have hb2 := below_alloc1 w (.cells #[.int .i64 0, .slice none 0 0, .slice none 0 0] 25)
  have hcall := gx1 pf hpf n s (w.alloc (.cells #[.int .i64 0, .slice none 0 0, .slice none 0 0] 25)) (hg.low hb2) hl ha hh g hr
  have hk := blk_new w (.cells #[.int .i64 0, .slice none 0 0, .slice none 0 0] 25)
  have HK := Lib.hid hk
  have HB2 := Lib.hid hb2
  clear hk hb2 hr hh
  go_enter Tryz.func17, Tryz.ntmps17
  go_wp2_with fail
  refine hcall.mono ?_
  clear hcall
  rintro e w1 ⟨⟨x, rfl, ⟨p, rfl⟩, hM⟩, hb1⟩
  have hK := (geoK (n + 1)).K_of_M hM
  have hcall := shapeOf_any (n + 1) w1 g _ hK hlim
  have hk1 := blk_below HK.out hb1
  have HBW := Lib.hid (below_then HB2.out (by simp) hb1)
  have hsz := hb1.size
  replace hsz : w.heap.size + 1 ≤ w1.heap.size := by simpa using hsz
  clear hb1 hM hK
  unfold ptV at hcall
  unfold ptV
  go_wp2_with fail
  refine hcall.mono ?_
  clear hcall
  rintro e w2 ⟨⟨vl, vp, rfl, hvl, hvp⟩, hb2⟩
  obtain ⟨B, q, d, rfl⟩ := R_sl hvl
  obtain ⟨B', q', d', rfl⟩ := R_sl hvp
  have hk2 := blk_below hk1 hb2
  obtain ⟨m0, m1, m2, n0, n1, n2⟩ := three_facts hk2
  have HK2 := Lib.hid hk2
  have HBW2 := Lib.hid (below_then HBW.out HBW.out.size hb2)
  have HL := Lib.hid (R_own_ge hvl)
  have HP := Lib.hid (R_own_ge hvp)
  clear hk1 hk2 hb2 hvl hvp
  go_wp2
  refine bodyPost_ret (results_ct rfl _ _ _ _ _ _ _ rfl (three_set HK2.out) Tryz.underlying25 rfl size25) rfl ?_
  have tr : ∀ {α : Type} {dd : Kd α} {e : Nat} {ww : World} {v : Value} {xs : List α} (u : Value) (o : Nat), dd.R e ww w1.heap.size (fun k => w1.heap.size ≤ k) v xs → dd.R e (ww.setCell ⟨w.heap.size, o, none⟩ u) w1.heap.size (fun k => w1.heap.size ≤ k) v xs :=
    fun u o h => Kd.R_far (p := ⟨w.heap.size, o, none⟩) h (fun k hk => by show k ≠ w.heap.size; omega) u
  refine ⟨⟨_, _, rfl, Kd.R_lower (Kd.R_mono (tr _ _ (tr _ _ (tr _ _ HL.out))) (fun _ _ => trivial)) (by omega), Kd.R_lower (Kd.R_mono (tr _ _ (tr _ _ (tr _ _ HP.out))) (fun _ _ => trivial)) (by omega)⟩, ((HBW2.out.setCell (Nat.le_refl _) _).setCell (Nat.le_refl _) _).setCell (Nat.le_refl _) _⟩

set_option maxRecDepth 20000 in
set_option maxHeartbeats 1000000 in
theorem as2_no (s : Bs) (w : World) (he : E2 w) (h2 : 2 < w.heap.size) (hl : s.length ≤ 1000000000) (h1 : hasW (trim s) (word 2) = false) :
    Calls Tryz.prog 17 #[.int .i64 2, S s] w fun e w' => e = .returned (.tuple #[.agg #[.int .i64 0, .slice none 0 0, .slice none 0 0], .bool false]) ∧ Below w.heap.size w w' := by
  have hb2 := below_alloc1 w (.cells #[.int .i64 0, .slice none 0 0, .slice none 0 0] 25)
  have hcall := umx2_no s _ (w.alloc (.cells #[.int .i64 0, .slice none 0 0, .slice none 0 0] 25)) (he.below hb2 h2) (by simp; omega) hl rfl h1
  have hk := blk_new w (.cells #[.int .i64 0, .slice none 0 0, .slice none 0 0] 25)
  have HK := Lib.hid hk
  have HB2 := Lib.hid hb2
  clear hk hb2 h1 he
  go_enter Tryz.func17, Tryz.ntmps17
  go_wp2_with fail
  refine hcall.mono ?_
  clear hcall
  rintro e w1 ⟨⟨u, v, rfl⟩, hb1⟩
  have hk1 := blk_below HK.out hb1
  obtain ⟨m0, m1, m2, n0, n1, n2⟩ := three_facts hk1
  have HK1 := Lib.hid hk1
  have HBW := Lib.hid (below_then HB2.out (by simp) hb1)
  clear hk1 hb1

  go_wp2
  refine bodyPost_ret (results_ct rfl _ _ _ _ _ _ _ rfl (three_set HK1.out) Tryz.underlying25 rfl size25) rfl ?_
  exact ⟨rfl, ((HBW.out.setCell (Nat.le_refl _) _).setCell (Nat.le_refl _) _).setCell (Nat.le_refl _) _⟩

set_option maxRecDepth 20000 in
set_option maxHeartbeats 1000000 in
theorem as2_yes (pf : Bs → Rd Nat) (hpf : PfOk pf) (n : Nat) (s : Bs) (w : World) {B0 : Nat} (hg : Gl B0 w) (hl : s.length ≤ 1000000000) (ha : Asc s) (hh : hasW (trim s) (word 2) = true) (g : Geo) (hr : um pf (readG pf n) 2 (trim s) = .ok g) (hlim : LimG g) :
    Calls Tryz.prog 17 #[.int .i64 2, S s] w fun e w' => ReadOk (n + 1) w.heap.size g w' e ∧ Below w.heap.size w w' := by
  have hb2 := below_alloc1 w (.cells #[.int .i64 0, .slice none 0 0, .slice none 0 0] 25)
  have hcall := gx2 pf hpf n s (w.alloc (.cells #[.int .i64 0, .slice none 0 0, .slice none 0 0] 25)) (hg.low hb2) hl ha hh g hr
  have hk := blk_new w (.cells #[.int .i64 0, .slice none 0 0, .slice none 0 0] 25)
  have HK := Lib.hid hk
  have HB2 := Lib.hid hb2
  clear hk hb2 hr hh
  go_enter Tryz.func17, Tryz.ntmps17
  go_wp2_with fail
  refine hcall.mono ?_
  clear hcall
  rintro e w1 ⟨⟨x, rfl, ⟨A0, q0, c0, rfl⟩, hM⟩, hb1⟩
  have hK := (geoK (n + 1)).K_of_M hM
  have hcall := shapeOf_any (n + 1) w1 g _ hK hlim
  have hk1 := blk_below HK.out hb1
  have HBW := Lib.hid (below_then HB2.out (by simp) hb1)
  have hsz := hb1.size
  replace hsz : w.heap.size + 1 ≤ w1.heap.size := by simpa using hsz
  clear hb1 hM hK

  go_wp2_with fail
  refine hcall.mono ?_
  clear hcall
  rintro e w2 ⟨⟨vl, vp, rfl, hvl, hvp⟩, hb2⟩
  obtain ⟨B, q, d, rfl⟩ := R_sl hvl
  obtain ⟨B', q', d', rfl⟩ := R_sl hvp
  have hk2 := blk_below hk1 hb2
  obtain ⟨m0, m1, m2, n0, n1, n2⟩ := three_facts hk2
  have HK2 := Lib.hid hk2
  have HBW2 := Lib.hid (below_then HBW.out HBW.out.size hb2)
  have HL := Lib.hid (R_own_ge hvl)
  have HP := Lib.hid (R_own_ge hvp)
  clear hk1 hk2 hb2 hvl hvp
  go_wp2
  refine bodyPost_ret (results_ct rfl _ _ _ _ _ _ _ rfl (three_set HK2.out) Tryz.underlying25 rfl size25) rfl ?_
  have tr : ∀ {α : Type} {dd : Kd α} {e : Nat} {ww : World} {v : Value} {xs : List α} (u : Value) (o : Nat), dd.R e ww w1.heap.size (fun k => w1.heap.size ≤ k) v xs → dd.R e (ww.setCell ⟨w.heap.size, o, none⟩ u) w1.heap.size (fun k => w1.heap.size ≤ k) v xs :=
    fun u o h => Kd.R_far (p := ⟨w.heap.size, o, none⟩) h (fun k hk => by show k ≠ w.heap.size; omega) u
  refine ⟨⟨_, _, rfl, Kd.R_lower (Kd.R_mono (tr _ _ (tr _ _ (tr _ _ HL.out))) (fun _ _ => trivial)) (by omega), Kd.R_lower (Kd.R_mono (tr _ _ (tr _ _ (tr _ _ HP.out))) (fun _ _ => trivial)) (by omega)⟩, ((HBW2.out.setCell (Nat.le_refl _) _).setCell (Nat.le_refl _) _).setCell (Nat.le_refl _) _⟩

set_option maxRecDepth 20000 in
set_option maxHeartbeats 1000000 in
theorem as3_no (s : Bs) (w : World) (he : E2 w) (h2 : 2 < w.heap.size) (hl : s.length ≤ 1000000000) (h1 : hasW (trim s) (word 3) = false) :
    Calls Tryz.prog 17 #[.int .i64 3, S s] w fun e w' => e = .returned (.tuple #[.agg #[.int .i64 0, .slice none 0 0, .slice none 0 0], .bool false]) ∧ Below w.heap.size w w' := by
  have hb2 := below_alloc1 w (.cells #[.int .i64 0, .slice none 0 0, .slice none 0 0] 25)
  have hcall := umx3_no s _ (w.alloc (.cells #[.int .i64 0, .slice none 0 0, .slice none 0 0] 25)) (he.below hb2 h2) (by simp; omega) hl rfl h1
  have hk := blk_new w (.cells #[.int .i64 0, .slice none 0 0, .slice none 0 0] 25)
  have HK := Lib.hid hk
  have HB2 := Lib.hid hb2
  clear hk hb2 h1 he
  go_enter Tryz.func17, Tryz.ntmps17
  go_wp2_with fail
  refine hcall.mono ?_
  clear hcall
  rintro e w1 ⟨⟨u, v, rfl⟩, hb1⟩
  have hk1 := blk_below HK.out hb1
  obtain ⟨m0, m1, m2, n0, n1, n2⟩ := three_facts hk1
  have HK1 := Lib.hid hk1
  have HBW := Lib.hid (below_then HB2.out (by simp) hb1)
  clear hk1 hb1

  go_wp2
  refine bodyPost_ret (results_ct rfl _ _ _ _ _ _ _ rfl (three_set HK1.out) Tryz.underlying25 rfl size25) rfl ?_
  exact ⟨rfl, ((HBW.out.setCell (Nat.le_refl _) _).setCell (Nat.le_refl _) _).setCell (Nat.le_refl _) _⟩

set_option maxRecDepth 20000 in
set_option maxHeartbeats 1000000 in
theorem as3_yes (pf : Bs → Rd Nat) (hpf : PfOk pf) (n : Nat) (s : Bs) (w : World) {B0 : Nat} (hg : Gl B0 w) (hl : s.length ≤ 1000000000) (ha : Asc s) (hh : hasW (trim s) (word 3) = true) (g : Geo) (hr : um pf (readG pf n) 3 (trim s) = .ok g) (hlim : LimG g) :
    Calls Tryz.prog 17 #[.int .i64 3, S s] w fun e w' => ReadOk (n + 1) w.heap.size g w' e ∧ Below w.heap.size w w' := by
  have hb2 := below_alloc1 w (.cells #[.int .i64 0, .slice none 0 0, .slice none 0 0] 25)
  have hcall := gx3 pf hpf n s (w.alloc (.cells #[.int .i64 0, .slice none 0 0, .slice none 0 0] 25)) (hg.low hb2) hl ha hh g hr
  have hk := blk_new w (.cells #[.int .i64 0, .slice none 0 0, .slice none 0 0] 25)
  have HK := Lib.hid hk
  have HB2 := Lib.hid hb2
  clear hk hb2 hr hh
  go_enter Tryz.func17, Tryz.ntmps17
  go_wp2_with fail
  refine hcall.mono ?_
  clear hcall
  rintro e w1 ⟨⟨x, rfl, ⟨A0, q0, c0, rfl⟩, hM⟩, hb1⟩
  have hK := (geoK (n + 1)).K_of_M hM
  have hcall := shapeOf_any (n + 1) w1 g _ hK hlim
  have hk1 := blk_below HK.out hb1
  have HBW := Lib.hid (below_then HB2.out (by simp) hb1)
  have hsz := hb1.size
  replace hsz : w.heap.size + 1 ≤ w1.heap.size := by simpa using hsz
  clear hb1 hM hK

  go_wp2_with fail
  refine hcall.mono ?_
  clear hcall
  rintro e w2 ⟨⟨vl, vp, rfl, hvl, hvp⟩, hb2⟩
  obtain ⟨B, q, d, rfl⟩ := R_sl hvl
  obtain ⟨B', q', d', rfl⟩ := R_sl hvp
  have hk2 := blk_below hk1 hb2
  obtain ⟨m0, m1, m2, n0, n1, n2⟩ := three_facts hk2
  have HK2 := Lib.hid hk2
  have HBW2 := Lib.hid (below_then HBW.out HBW.out.size hb2)
  have HL := Lib.hid (R_own_ge hvl)
  have HP := Lib.hid (R_own_ge hvp)
  clear hk1 hk2 hb2 hvl hvp
  go_wp2
  refine bodyPost_ret (results_ct rfl _ _ _ _ _ _ _ rfl (three_set HK2.out) Tryz.underlying25 rfl size25) rfl ?_
  have tr : ∀ {α : Type} {dd : Kd α} {e : Nat} {ww : World} {v : Value} {xs : List α} (u : Value) (o : Nat), dd.R e ww w1.heap.size (fun k => w1.heap.size ≤ k) v xs → dd.R e (ww.setCell ⟨w.heap.size, o, none⟩ u) w1.heap.size (fun k => w1.heap.size ≤ k) v xs :=
    fun u o h => Kd.R_far (p := ⟨w.heap.size, o, none⟩) h (fun k hk => by show k ≠ w.heap.size; omega) u
  refine ⟨⟨_, _, rfl, Kd.R_lower (Kd.R_mono (tr _ _ (tr _ _ (tr _ _ HL.out))) (fun _ _ => trivial)) (by omega), Kd.R_lower (Kd.R_mono (tr _ _ (tr _ _ (tr _ _ HP.out))) (fun _ _ => trivial)) (by omega)⟩, ((HBW2.out.setCell (Nat.le_refl _) _).setCell (Nat.le_refl _) _).setCell (Nat.le_refl _) _⟩

set_option maxRecDepth 20000 in
set_option maxHeartbeats 1000000 in
theorem as4_no (s : Bs) (w : World) (he : E2 w) (h2 : 2 < w.heap.size) (hl : s.length ≤ 1000000000) (h1 : hasW (trim s) (word 4) = false) :
    Calls Tryz.prog 17 #[.int .i64 4, S s] w fun e w' => e = .returned (.tuple #[.agg #[.int .i64 0, .slice none 0 0, .slice none 0 0], .bool false]) ∧ Below w.heap.size w w' := by
  have hb2 := below_alloc1 w (.cells #[.int .i64 0, .slice none 0 0, .slice none 0 0] 25)
  have hcall := umx4_no s _ (w.alloc (.cells #[.int .i64 0, .slice none 0 0, .slice none 0 0] 25)) (he.below hb2 h2) (by simp; omega) hl rfl h1
  have hk := blk_new w (.cells #[.int .i64 0, .slice none 0 0, .slice none 0 0] 25)
  have HK := Lib.hid hk
  have HB2 := Lib.hid hb2
  clear hk hb2 h1 he
  go_enter Tryz.func17, Tryz.ntmps17
  go_wp2_with fail
  refine hcall.mono ?_
  clear hcall
  rintro e w1 ⟨⟨u, v, rfl⟩, hb1⟩
  have hk1 := blk_below HK.out hb1
  obtain ⟨m0, m1, m2, n0, n1, n2⟩ := three_facts hk1
  have HK1 := Lib.hid hk1
  have HBW := Lib.hid (below_then HB2.out (by simp) hb1)
  clear hk1 hb1

  go_wp2
  refine bodyPost_ret (results_ct rfl _ _ _ _ _ _ _ rfl (three_set HK1.out) Tryz.underlying25 rfl size25) rfl ?_
  exact ⟨rfl, ((HBW.out.setCell (Nat.le_refl _) _).setCell (Nat.le_refl _) _).setCell (Nat.le_refl _) _⟩

set_option maxRecDepth 20000 in
set_option maxHeartbeats 1000000 in
theorem as4_yes (pf : Bs → Rd Nat) (hpf : PfOk pf) (n : Nat) (s : Bs) (w : World) {B0 : Nat} (hg : Gl B0 w) (hl : s.length ≤ 1000000000) (ha : Asc s) (hh : hasW (trim s) (word 4) = true) (g : Geo) (hr : um pf (readG pf n) 4 (trim s) = .ok g) (hlim : LimG g) :
    Calls Tryz.prog 17 #[.int .i64 4, S s] w fun e w' => ReadOk (n + 1) w.heap.size g w' e ∧ Below w.heap.size w w' := by
  have hb2 := below_alloc1 w (.cells #[.int .i64 0, .slice none 0 0, .slice none 0 0] 25)
  have hcall := gx4 pf hpf n s (w.alloc (.cells #[.int .i64 0, .slice none 0 0, .slice none 0 0] 25)) (hg.low hb2) hl ha hh g hr
  have hk := blk_new w (.cells #[.int .i64 0, .slice none 0 0, .slice none 0 0] 25)
  have HK := Lib.hid hk
  have HB2 := Lib.hid hb2
  clear hk hb2 hr hh
  go_enter Tryz.func17, Tryz.ntmps17
  go_wp2_with fail
  refine hcall.mono ?_
  clear hcall
  rintro e w1 ⟨⟨x, rfl, ⟨A0, q0, c0, rfl⟩, hM⟩, hb1⟩
  have hK := (geoK (n + 1)).K_of_M hM
  have hcall := shapeOf_any (n + 1) w1 g _ hK hlim
  have hk1 := blk_below HK.out hb1
  have HBW := Lib.hid (below_then HB2.out (by simp) hb1)
  have hsz := hb1.size
  replace hsz : w.heap.size + 1 ≤ w1.heap.size := by simpa using hsz
  clear hb1 hM hK

  go_wp2_with fail
  refine hcall.mono ?_
  clear hcall
  rintro e w2 ⟨⟨vl, vp, rfl, hvl, hvp⟩, hb2⟩
  obtain ⟨B, q, d, rfl⟩ := R_sl hvl
  obtain ⟨B', q', d', rfl⟩ := R_sl hvp
  have hk2 := blk_below hk1 hb2
  obtain ⟨m0, m1, m2, n0, n1, n2⟩ := three_facts hk2
  have HK2 := Lib.hid hk2
  have HBW2 := Lib.hid (below_then HBW.out HBW.out.size hb2)
  have HL := Lib.hid (R_own_ge hvl)
  have HP := Lib.hid (R_own_ge hvp)
  clear hk1 hk2 hb2 hvl hvp
  go_wp2
  refine bodyPost_ret (results_ct rfl _ _ _ _ _ _ _ rfl (three_set HK2.out) Tryz.underlying25 rfl size25) rfl ?_
  have tr : ∀ {α : Type} {dd : Kd α} {e : Nat} {ww : World} {v : Value} {xs : List α} (u : Value) (o : Nat), dd.R e ww w1.heap.size (fun k => w1.heap.size ≤ k) v xs → dd.R e (ww.setCell ⟨w.heap.size, o, none⟩ u) w1.heap.size (fun k => w1.heap.size ≤ k) v xs :=
    fun u o h => Kd.R_far (p := ⟨w.heap.size, o, none⟩) h (fun k hk => by show k ≠ w.heap.size; omega) u
  refine ⟨⟨_, _, rfl, Kd.R_lower (Kd.R_mono (tr _ _ (tr _ _ (tr _ _ HL.out))) (fun _ _ => trivial)) (by omega), Kd.R_lower (Kd.R_mono (tr _ _ (tr _ _ (tr _ _ HP.out))) (fun _ _ => trivial)) (by omega)⟩, ((HBW2.out.setCell (Nat.le_refl _) _).setCell (Nat.le_refl _) _).setCell (Nat.le_refl _) _⟩

set_option maxRecDepth 20000 in
set_option maxHeartbeats 1000000 in
theorem as5_no (s : Bs) (w : World) (he : E2 w) (h2 : 2 < w.heap.size) (hl : s.length ≤ 1000000000) (h1 : hasW (trim s) (word 5) = false) :
    Calls Tryz.prog 17 #[.int .i64 5, S s] w fun e w' => e = .returned (.tuple #[.agg #[.int .i64 0, .slice none 0 0, .slice none 0 0], .bool false]) ∧ Below w.heap.size w w' := by
  have hb2 := below_alloc1 w (.cells #[.int .i64 0, .slice none 0 0, .slice none 0 0] 25)
  have hcall := umx5_no s _ (w.alloc (.cells #[.int .i64 0, .slice none 0 0, .slice none 0 0] 25)) (he.below hb2 h2) (by simp; omega) hl rfl h1
  have hk := blk_new w (.cells #[.int .i64 0, .slice none 0 0, .slice none 0 0] 25)
  have HK := Lib.hid hk
  have HB2 := Lib.hid hb2
  clear hk hb2 h1 he
  go_enter Tryz.func17, Tryz.ntmps17
  go_wp2_with fail
  refine hcall.mono ?_
  clear hcall
  rintro e w1 ⟨⟨u, v, rfl⟩, hb1⟩
  have hk1 := blk_below HK.out hb1
  obtain ⟨m0, m1, m2, n0, n1, n2⟩ := three_facts hk1
  have HK1 := Lib.hid hk1
  have HBW := Lib.hid (below_then HB2.out (by simp) hb1)
  clear hk1 hb1

  go_wp2
  refine bodyPost_ret (results_ct rfl _ _ _ _ _ _ _ rfl (three_set HK1.out) Tryz.underlying25 rfl size25) rfl ?_
  exact ⟨rfl, ((HBW.out.setCell (Nat.le_refl _) _).setCell (Nat.le_refl _) _).setCell (Nat.le_refl _) _⟩

set_option maxRecDepth 20000 in
set_option maxHeartbeats 1000000 in
theorem as5_yes (pf : Bs → Rd Nat) (hpf : PfOk pf) (n : Nat) (s : Bs) (w : World) {B0 : Nat} (hg : Gl B0 w) (hl : s.length ≤ 1000000000) (ha : Asc s) (hh : hasW (trim s) (word 5) = true) (g : Geo) (hr : um pf (readG pf n) 5 (trim s) = .ok g) (hlim : LimG g) :
    Calls Tryz.prog 17 #[.int .i64 5, S s] w fun e w' => ReadOk (n + 1) w.heap.size g w' e ∧ Below w.heap.size w w' := by
  have hb2 := below_alloc1 w (.cells #[.int .i64 0, .slice none 0 0, .slice none 0 0] 25)
  have hcall := gx5 pf hpf n s (w.alloc (.cells #[.int .i64 0, .slice none 0 0, .slice none 0 0] 25)) (hg.low hb2) hl ha hh g hr
  have hk := blk_new w (.cells #[.int .i64 0, .slice none 0 0, .slice none 0 0] 25)
  have HK := Lib.hid hk
  have HB2 := Lib.hid hb2
  clear hk hb2 hr hh
  go_enter Tryz.func17, Tryz.ntmps17
  go_wp2_with fail
  refine hcall.mono ?_
  clear hcall
  rintro e w1 ⟨⟨x, rfl, ⟨A0, q0, c0, rfl⟩, hM⟩, hb1⟩
  have hK := (geoK (n + 1)).K_of_M hM
  have hcall := shapeOf_any (n + 1) w1 g _ hK hlim
  have hk1 := blk_below HK.out hb1
  have HBW := Lib.hid (below_then HB2.out (by simp) hb1)
  have hsz := hb1.size
  replace hsz : w.heap.size + 1 ≤ w1.heap.size := by simpa using hsz
  clear hb1 hM hK

  go_wp2_with fail
  refine hcall.mono ?_
  clear hcall
  rintro e w2 ⟨⟨vl, vp, rfl, hvl, hvp⟩, hb2⟩
  obtain ⟨B, q, d, rfl⟩ := R_sl hvl
  obtain ⟨B', q', d', rfl⟩ := R_sl hvp
  have hk2 := blk_below hk1 hb2
  obtain ⟨m0, m1, m2, n0, n1, n2⟩ := three_facts hk2
  have HK2 := Lib.hid hk2
  have HBW2 := Lib.hid (below_then HBW.out HBW.out.size hb2)
  have HL := Lib.hid (R_own_ge hvl)
  have HP := Lib.hid (R_own_ge hvp)
  clear hk1 hk2 hb2 hvl hvp
  go_wp2
  refine bodyPost_ret (results_ct rfl _ _ _ _ _ _ _ rfl (three_set HK2.out) Tryz.underlying25 rfl size25) rfl ?_
  have tr : ∀ {α : Type} {dd : Kd α} {e : Nat} {ww : World} {v : Value} {xs : List α} (u : Value) (o : Nat), dd.R e ww w1.heap.size (fun k => w1.heap.size ≤ k) v xs → dd.R e (ww.setCell ⟨w.heap.size, o, none⟩ u) w1.heap.size (fun k => w1.heap.size ≤ k) v xs :=
    fun u o h => Kd.R_far (p := ⟨w.heap.size, o, none⟩) h (fun k hk => by show k ≠ w.heap.size; omega) u
  refine ⟨⟨_, _, rfl, Kd.R_lower (Kd.R_mono (tr _ _ (tr _ _ (tr _ _ HL.out))) (fun _ _ => trivial)) (by omega), Kd.R_lower (Kd.R_mono (tr _ _ (tr _ _ (tr _ _ HP.out))) (fun _ _ => trivial)) (by omega)⟩, ((HBW2.out.setCell (Nat.le_refl _) _).setCell (Nat.le_refl _) _).setCell (Nat.le_refl _) _⟩

set_option maxRecDepth 20000 in
set_option maxHeartbeats 1000000 in
theorem as6_no (s : Bs) (w : World) (he : E2 w) (h2 : 2 < w.heap.size) (hl : s.length ≤ 1000000000) (h1 : hasW (trim s) (word 6) = false) :
    Calls Tryz.prog 17 #[.int .i64 6, S s] w fun e w' => e = .returned (.tuple #[.agg #[.int .i64 0, .slice none 0 0, .slice none 0 0], .bool false]) ∧ Below w.heap.size w w' := by
  have hb2 := below_alloc1 w (.cells #[.int .i64 0, .slice none 0 0, .slice none 0 0] 25)
  have hcall := umx6_no s _ (w.alloc (.cells #[.int .i64 0, .slice none 0 0, .slice none 0 0] 25)) (he.below hb2 h2) (by simp; omega) hl rfl h1
  have hk := blk_new w (.cells #[.int .i64 0, .slice none 0 0, .slice none 0 0] 25)
  have HK := Lib.hid hk
  have HB2 := Lib.hid hb2
  clear hk hb2 h1 he
  go_enter Tryz.func17, Tryz.ntmps17
  go_wp2_with fail
  refine hcall.mono ?_
  clear hcall
  rintro e w1 ⟨⟨u, v, rfl⟩, hb1⟩
  have hk1 := blk_below HK.out hb1
  obtain ⟨m0, m1, m2, n0, n1, n2⟩ := three_facts hk1
  have HK1 := Lib.hid hk1
  have HBW := Lib.hid (below_then HB2.out (by simp) hb1)
  clear hk1 hb1

  go_wp2
  refine bodyPost_ret (results_ct rfl _ _ _ _ _ _ _ rfl (three_set HK1.out) Tryz.underlying25 rfl size25) rfl ?_
  exact ⟨rfl, ((HBW.out.setCell (Nat.le_refl _) _).setCell (Nat.le_refl _) _).setCell (Nat.le_refl _) _⟩

set_option maxRecDepth 20000 in
set_option maxHeartbeats 1000000 in
theorem as6_yes (pf : Bs → Rd Nat) (hpf : PfOk pf) (n : Nat) (s : Bs) (w : World) {B0 : Nat} (hg : Gl B0 w) (hl : s.length ≤ 1000000000) (ha : Asc s) (hh : hasW (trim s) (word 6) = true) (g : Geo) (hr : um pf (readG pf n) 6 (trim s) = .ok g) (hlim : LimG g) :
    Calls Tryz.prog 17 #[.int .i64 6, S s] w fun e w' => ReadOk (n + 1) w.heap.size g w' e ∧ Below w.heap.size w w' := by
  have hb2 := below_alloc1 w (.cells #[.int .i64 0, .slice none 0 0, .slice none 0 0] 25)
  have hcall := gx6 pf hpf n s (w.alloc (.cells #[.int .i64 0, .slice none 0 0, .slice none 0 0] 25)) (hg.low hb2) hl ha hh g hr
  have hk := blk_new w (.cells #[.int .i64 0, .slice none 0 0, .slice none 0 0] 25)
  have HK := Lib.hid hk
  have HB2 := Lib.hid hb2
  clear hk hb2 hr hh
  go_enter Tryz.func17, Tryz.ntmps17
  go_wp2_with fail
  refine hcall.mono ?_
  clear hcall
  rintro e w1 ⟨⟨x, rfl, ⟨A0, q0, c0, rfl⟩, hM⟩, hb1⟩
  have hK := (geoK (n + 1)).K_of_M hM
  have hcall := shapeOf_any (n + 1) w1 g _ hK hlim
  have hk1 := blk_below HK.out hb1
  have HBW := Lib.hid (below_then HB2.out (by simp) hb1)
  have hsz := hb1.size
  replace hsz : w.heap.size + 1 ≤ w1.heap.size := by simpa using hsz
  clear hb1 hM hK

  go_wp2_with fail
  refine hcall.mono ?_
  clear hcall
  rintro e w2 ⟨⟨vl, vp, rfl, hvl, hvp⟩, hb2⟩
  obtain ⟨B, q, d, rfl⟩ := R_sl hvl
  obtain ⟨B', q', d', rfl⟩ := R_sl hvp
  have hk2 := blk_below hk1 hb2
  obtain ⟨m0, m1, m2, n0, n1, n2⟩ := three_facts hk2
  have HK2 := Lib.hid hk2
  have HBW2 := Lib.hid (below_then HBW.out HBW.out.size hb2)
  have HL := Lib.hid (R_own_ge hvl)
  have HP := Lib.hid (R_own_ge hvp)
  clear hk1 hk2 hb2 hvl hvp
  go_wp2
  refine bodyPost_ret (results_ct rfl _ _ _ _ _ _ _ rfl (three_set HK2.out) Tryz.underlying25 rfl size25) rfl ?_
  have tr : ∀ {α : Type} {dd : Kd α} {e : Nat} {ww : World} {v : Value} {xs : List α} (u : Value) (o : Nat), dd.R e ww w1.heap.size (fun k => w1.heap.size ≤ k) v xs → dd.R e (ww.setCell ⟨w.heap.size, o, none⟩ u) w1.heap.size (fun k => w1.heap.size ≤ k) v xs :=
    fun u o h => Kd.R_far (p := ⟨w.heap.size, o, none⟩) h (fun k hk => by show k ≠ w.heap.size; omega) u
  refine ⟨⟨_, _, rfl, Kd.R_lower (Kd.R_mono (tr _ _ (tr _ _ (tr _ _ HL.out))) (fun _ _ => trivial)) (by omega), Kd.R_lower (Kd.R_mono (tr _ _ (tr _ _ (tr _ _ HP.out))) (fun _ _ => trivial)) (by omega)⟩, ((HBW2.out.setCell (Nat.le_refl _) _).setCell (Nat.le_refl _) _).setCell (Nat.le_refl _) _⟩

set_option maxRecDepth 20000 in
set_option maxHeartbeats 1000000 in
theorem as7_no (s : Bs) (w : World) (he : E2 w) (h2 : 2 < w.heap.size) (hl : s.length ≤ 1000000000) (h1 : hasW (trim s) (word 7) = false) :
    Calls Tryz.prog 17 #[.int .i64 7, S s] w fun e w' => e = .returned (.tuple #[.agg #[.int .i64 0, .slice none 0 0, .slice none 0 0], .bool false]) ∧ Below w.heap.size w w' := by
  have hb2 := below_alloc1 w (.cells #[.int .i64 0, .slice none 0 0, .slice none 0 0] 25)
  have hcall := umx7_no s _ (w.alloc (.cells #[.int .i64 0, .slice none 0 0, .slice none 0 0] 25)) (he.below hb2 h2) (by simp; omega) hl rfl h1
  have hk := blk_new w (.cells #[.int .i64 0, .slice none 0 0, .slice none 0 0] 25)
  have HK := Lib.hid hk
  have HB2 := Lib.hid hb2
  clear hk hb2 h1 he
  go_enter Tryz.func17, Tryz.ntmps17
  go_wp2_with fail
  refine hcall.mono ?_
  clear hcall
  rintro e w1 ⟨⟨u, v, rfl⟩, hb1⟩
  have hk1 := blk_below HK.out hb1
  obtain ⟨m0, m1, m2, n0, n1, n2⟩ := three_facts hk1
  have HK1 := Lib.hid hk1
  have HBW := Lib.hid (below_then HB2.out (by simp) hb1)
  clear hk1 hb1

  go_wp2
  refine bodyPost_ret (results_ct rfl _ _ _ _ _ _ _ rfl (three_set HK1.out) Tryz.underlying25 rfl size25) rfl ?_
  exact ⟨rfl, ((HBW.out.setCell (Nat.le_refl _) _).setCell (Nat.le_refl _) _).setCell (Nat.le_refl _) _⟩

set_option maxRecDepth 20000 in
set_option maxHeartbeats 1000000 in
theorem as7_yes (pf : Bs → Rd Nat) (hpf : PfOk pf) (n : Nat) (s : Bs) (w : World) {B0 : Nat} (hg : Gl B0 w) (hl : s.length ≤ 1000000000) (ha : Asc s) (hh : hasW (trim s) (word 7) = true) (g : Geo) (hr : um pf (readG pf n) 7 (trim s) = .ok g) (hlim : LimG g) :
    Calls Tryz.prog 17 #[.int .i64 7, S s] w fun e w' => ReadOk (n + 1) w.heap.size g w' e ∧ Below w.heap.size w w' := by
  have hb2 := below_alloc1 w (.cells #[.int .i64 0, .slice none 0 0, .slice none 0 0] 25)
  have hcall := gx7 pf hpf n s (w.alloc (.cells #[.int .i64 0, .slice none 0 0, .slice none 0 0] 25)) (hg.low hb2) hl ha hh g hr
  have hk := blk_new w (.cells #[.int .i64 0, .slice none 0 0, .slice none 0 0] 25)
  have HK := Lib.hid hk
  have HB2 := Lib.hid hb2
  clear hk hb2 hr hh
  go_enter Tryz.func17, Tryz.ntmps17
  go_wp2_with fail
  refine hcall.mono ?_
  clear hcall
  rintro e w1 ⟨⟨x, rfl, ⟨A0, q0, c0, rfl⟩, hM⟩, hb1⟩
  have hK := (geoK (n + 1)).K_of_M hM
  have hcall := shapeOf_any (n + 1) w1 g _ hK hlim
  have hk1 := blk_below HK.out hb1
  have HBW := Lib.hid (below_then HB2.out (by simp) hb1)
  have hsz := hb1.size
  replace hsz : w.heap.size + 1 ≤ w1.heap.size := by simpa using hsz
  clear hb1 hM hK

  go_wp2_with fail
  refine hcall.mono ?_
  clear hcall
  rintro e w2 ⟨⟨vl, vp, rfl, hvl, hvp⟩, hb2⟩
  obtain ⟨B, q, d, rfl⟩ := R_sl hvl
  obtain ⟨B', q', d', rfl⟩ := R_sl hvp
  have hk2 := blk_below hk1 hb2
  obtain ⟨m0, m1, m2, n0, n1, n2⟩ := three_facts hk2
  have HK2 := Lib.hid hk2
  have HBW2 := Lib.hid (below_then HBW.out HBW.out.size hb2)
  have HL := Lib.hid (R_own_ge hvl)
  have HP := Lib.hid (R_own_ge hvp)
  clear hk1 hk2 hb2 hvl hvp
  go_wp2
  refine bodyPost_ret (results_ct rfl _ _ _ _ _ _ _ rfl (three_set HK2.out) Tryz.underlying25 rfl size25) rfl ?_
  have tr : ∀ {α : Type} {dd : Kd α} {e : Nat} {ww : World} {v : Value} {xs : List α} (u : Value) (o : Nat), dd.R e ww w1.heap.size (fun k => w1.heap.size ≤ k) v xs → dd.R e (ww.setCell ⟨w.heap.size, o, none⟩ u) w1.heap.size (fun k => w1.heap.size ≤ k) v xs :=
    fun u o h => Kd.R_far (p := ⟨w.heap.size, o, none⟩) h (fun k hk => by show k ≠ w.heap.size; omega) u
  refine ⟨⟨_, _, rfl, Kd.R_lower (Kd.R_mono (tr _ _ (tr _ _ (tr _ _ HL.out))) (fun _ _ => trivial)) (by omega), Kd.R_lower (Kd.R_mono (tr _ _ (tr _ _ (tr _ _ HP.out))) (fun _ _ => trivial)) (by omega)⟩, ((HBW2.out.setCell (Nat.le_refl _) _).setCell (Nat.le_refl _) _).setCell (Nat.le_refl _) _⟩

/-- ReadAs, of a text of another kind. -/
theorem as_no (k : Nat) (h1 : 1 ≤ k) (h7 : k ≤ 7) (s : Bs) (w : World) (he : E2 w) (h2 : 2 < w.heap.size) (hl : s.length ≤ 1000000000) (hh : hasW (trim s) (word k) = false) :
    Calls Tryz.prog 17 #[.int .i64 k, S s] w fun e w' => e = .returned (.tuple #[.agg #[.int .i64 0, .slice none 0 0, .slice none 0 0], .bool false]) ∧ Below w.heap.size w w' := by
  rcases (show k = 1 ∨ k = 2 ∨ k = 3 ∨ k = 4 ∨ k = 5 ∨ k = 6 ∨ k = 7 by omega) with rfl | rfl | rfl | rfl | rfl | rfl | rfl
  · exact as1_no s w he h2 hl hh
  · exact as2_no s w he h2 hl hh
  · exact as3_no s w he h2 hl hh
  · exact as4_no s w he h2 hl hh
  · exact as5_no s w he h2 hl hh
  · exact as6_no s w he h2 hl hh
  · exact as7_no s w he h2 hl hh
/-- ReadAs, of a text of its kind. -/
theorem as_yes (k : Nat) (h1 : 1 ≤ k) (h7 : k ≤ 7) (pf : Bs → Rd Nat) (hpf : PfOk pf) (n : Nat) (s : Bs) (w : World) {B0 : Nat} (hg : Gl B0 w) (hl : s.length ≤ 1000000000) (ha : Asc s) (hh : hasW (trim s) (word k) = true) (g : Geo) (hr : um pf (readG pf n) k (trim s) = .ok g) (hlim : LimG g) :
    Calls Tryz.prog 17 #[.int .i64 k, S s] w fun e w' => ReadOk (n + 1) w.heap.size g w' e ∧ Below w.heap.size w w' := by
  rcases (show k = 1 ∨ k = 2 ∨ k = 3 ∨ k = 4 ∨ k = 5 ∨ k = 6 ∨ k = 7 by omega) with rfl | rfl | rfl | rfl | rfl | rfl | rfl
  · exact as1_yes pf hpf n s w hg hl ha hh g hr hlim
  · exact as2_yes pf hpf n s w hg hl ha hh g hr hlim
  · exact as3_yes pf hpf n s w hg hl ha hh g hr hlim
  · exact as4_yes pf hpf n s w hg hl ha hh g hr hlim
  · exact as5_yes pf hpf n s w hg hl ha hh g hr hlim
  · exact as6_yes pf hpf n s w hg hl ha hh g hr hlim
  · exact as7_yes pf hpf n s w hg hl ha hh g hr hlim
end Go.Proofs.YtghajgdiaopioaaGreatDoor
end
