/- Walks and plain laws joined (Xc). Conditions: stand in each law. -/
import Derived.Test.YtghajgdiaopioaaGreatDoorJp
set_option linter.unusedVariables false
set_option linter.unusedSimpArgs false
section
/- Walks: shapeOf, the kinds without a loop. Conditions: stand in each contract. -/
namespace Go.Proofs.YtghajgdiaopioaaGreatDoor
open Go.RowKit Go.Proofs Tx
open Go.Proofs.YtghajgdiaopioaaGreatDoorW.PrintWords
/-- A row of one, written out. -/
theorem R_one {α : Type} (d : Kd α) (W : World) (base e : Nat) (ok : Nat → Prop) (x : α) (cs : List Value) (hM : d.M W base ok x cs) (hb : base ≤ W.heap.size) (hok : ok W.heap.size) :
    d.R e (W.alloc (.cells cs.toArray e)) base ok (.slice (some ⟨W.heap.size, 0, none⟩) 1 1) [x] := by
  have hl : cs.length = d.sz := d.K_len (d.K_of_M hM)
  refine ⟨fun k hk => by simp [Value.ownBlock] at hk; subst hk; exact hok, cs, ?_, ?_, ?_⟩
  · have h := World.ownsRow_lit (base := base) (e := e) (size := d.sz) W cs.toArray 1 hb (by decide) (by simp [hl])
    simpa using h
  · simp [hl]
  · intro j p hj
    have h0 : j = 0 := by
      rcases j with _ | j
      · rfl
      · simp at hj
    subst h0
    simp only [List.getElem?_cons_zero, Option.some.injEq] at hj
    subst hj
    have e1 : (cs.drop (0 * d.sz)).take d.sz = cs := by simp [← hl]
    rw [e1]
    exact d.M_mono (fun k hk => ⟨hk.1, fun e0 => by simp [Value.ownBlock] at e0; have := hk.2.2.1; omega⟩) (d.M_bound (Kd.M_alloc (d.M_bound hM) _)) |> fun h => d.M_mono (fun k hk => ⟨hk.1.1, hk.2⟩) (d.M_mono (fun k hk => hk) (show d.M _ base (fun k => (ok k ∧ _) ∧ _) x cs from h))

/-- What shapeOf answers. -/
def ShOk (n : Nat) (B : Nat) (g : Geo) (w' : World) (e : Ending) : Prop := ∃ vl vp, e = .returned (.agg #[.int .i64 (shOf g).kind, vl, vp]) ∧ rowK.R 27 w' B (fun _ => True) vl (shOf g).lists ∧ (shK n).R 25 w' B (fun _ => True) vp (shOf g).parts

@[go_sem] theorem as_61_61 (v : Value) (w : World) : (Instr.typeAssert (.iface 61 v) 52 61 true).run Tryz.prog w = .ok (.tuple #[v, .bool true]) w := by kernel_rfl
@[go_sem] theorem as_65_61 (v : Value) (w : World) : (Instr.typeAssert (.iface 65 v) 52 61 true).run Tryz.prog w = .ok (.tuple #[.agg #[.float .f64 0, .float .f64 0], .bool false]) w := by kernel_rfl
@[go_sem] theorem as_65_65 (v : Value) (w : World) : (Instr.typeAssert (.iface 65 v) 52 65 true).run Tryz.prog w = .ok (.tuple #[v, .bool true]) w := by kernel_rfl
@[go_sem] theorem as_69_61 (v : Value) (w : World) : (Instr.typeAssert (.iface 69 v) 52 61 true).run Tryz.prog w = .ok (.tuple #[.agg #[.float .f64 0, .float .f64 0], .bool false]) w := by kernel_rfl
@[go_sem] theorem as_69_65 (v : Value) (w : World) : (Instr.typeAssert (.iface 69 v) 52 65 true).run Tryz.prog w = .ok (.tuple #[.slice none 0 0, .bool false]) w := by kernel_rfl
@[go_sem] theorem as_69_69 (v : Value) (w : World) : (Instr.typeAssert (.iface 69 v) 52 69 true).run Tryz.prog w = .ok (.tuple #[v, .bool true]) w := by kernel_rfl
@[go_sem] theorem as_72_61 (v : Value) (w : World) : (Instr.typeAssert (.iface 72 v) 52 61 true).run Tryz.prog w = .ok (.tuple #[.agg #[.float .f64 0, .float .f64 0], .bool false]) w := by kernel_rfl
@[go_sem] theorem as_72_65 (v : Value) (w : World) : (Instr.typeAssert (.iface 72 v) 52 65 true).run Tryz.prog w = .ok (.tuple #[.slice none 0 0, .bool false]) w := by kernel_rfl
@[go_sem] theorem as_72_69 (v : Value) (w : World) : (Instr.typeAssert (.iface 72 v) 52 69 true).run Tryz.prog w = .ok (.tuple #[.slice none 0 0, .bool false]) w := by kernel_rfl
@[go_sem] theorem as_72_72 (v : Value) (w : World) : (Instr.typeAssert (.iface 72 v) 52 72 true).run Tryz.prog w = .ok (.tuple #[v, .bool true]) w := by kernel_rfl
@[go_sem] theorem as_76_61 (v : Value) (w : World) : (Instr.typeAssert (.iface 76 v) 52 61 true).run Tryz.prog w = .ok (.tuple #[.agg #[.float .f64 0, .float .f64 0], .bool false]) w := by kernel_rfl
@[go_sem] theorem as_76_65 (v : Value) (w : World) : (Instr.typeAssert (.iface 76 v) 52 65 true).run Tryz.prog w = .ok (.tuple #[.slice none 0 0, .bool false]) w := by kernel_rfl
@[go_sem] theorem as_76_69 (v : Value) (w : World) : (Instr.typeAssert (.iface 76 v) 52 69 true).run Tryz.prog w = .ok (.tuple #[.slice none 0 0, .bool false]) w := by kernel_rfl
@[go_sem] theorem as_76_72 (v : Value) (w : World) : (Instr.typeAssert (.iface 76 v) 52 72 true).run Tryz.prog w = .ok (.tuple #[.slice none 0 0, .bool false]) w := by kernel_rfl
@[go_sem] theorem as_76_76 (v : Value) (w : World) : (Instr.typeAssert (.iface 76 v) 52 76 true).run Tryz.prog w = .ok (.tuple #[v, .bool true]) w := by kernel_rfl
@[go_sem] theorem as_80_61 (v : Value) (w : World) : (Instr.typeAssert (.iface 80 v) 52 61 true).run Tryz.prog w = .ok (.tuple #[.agg #[.float .f64 0, .float .f64 0], .bool false]) w := by kernel_rfl
@[go_sem] theorem as_80_65 (v : Value) (w : World) : (Instr.typeAssert (.iface 80 v) 52 65 true).run Tryz.prog w = .ok (.tuple #[.slice none 0 0, .bool false]) w := by kernel_rfl
@[go_sem] theorem as_80_69 (v : Value) (w : World) : (Instr.typeAssert (.iface 80 v) 52 69 true).run Tryz.prog w = .ok (.tuple #[.slice none 0 0, .bool false]) w := by kernel_rfl
@[go_sem] theorem as_80_72 (v : Value) (w : World) : (Instr.typeAssert (.iface 80 v) 52 72 true).run Tryz.prog w = .ok (.tuple #[.slice none 0 0, .bool false]) w := by kernel_rfl
@[go_sem] theorem as_80_76 (v : Value) (w : World) : (Instr.typeAssert (.iface 80 v) 52 76 true).run Tryz.prog w = .ok (.tuple #[.slice none 0 0, .bool false]) w := by kernel_rfl
@[go_sem] theorem as_80_80 (v : Value) (w : World) : (Instr.typeAssert (.iface 80 v) 52 80 true).run Tryz.prog w = .ok (.tuple #[v, .bool true]) w := by kernel_rfl
@[go_sem] theorem as_84_61 (v : Value) (w : World) : (Instr.typeAssert (.iface 84 v) 52 61 true).run Tryz.prog w = .ok (.tuple #[.agg #[.float .f64 0, .float .f64 0], .bool false]) w := by kernel_rfl
@[go_sem] theorem as_84_65 (v : Value) (w : World) : (Instr.typeAssert (.iface 84 v) 52 65 true).run Tryz.prog w = .ok (.tuple #[.slice none 0 0, .bool false]) w := by kernel_rfl
@[go_sem] theorem as_84_69 (v : Value) (w : World) : (Instr.typeAssert (.iface 84 v) 52 69 true).run Tryz.prog w = .ok (.tuple #[.slice none 0 0, .bool false]) w := by kernel_rfl
@[go_sem] theorem as_84_72 (v : Value) (w : World) : (Instr.typeAssert (.iface 84 v) 52 72 true).run Tryz.prog w = .ok (.tuple #[.slice none 0 0, .bool false]) w := by kernel_rfl
@[go_sem] theorem as_84_76 (v : Value) (w : World) : (Instr.typeAssert (.iface 84 v) 52 76 true).run Tryz.prog w = .ok (.tuple #[.slice none 0 0, .bool false]) w := by kernel_rfl
@[go_sem] theorem as_84_80 (v : Value) (w : World) : (Instr.typeAssert (.iface 84 v) 52 80 true).run Tryz.prog w = .ok (.tuple #[.slice none 0 0, .bool false]) w := by kernel_rfl
@[go_sem] theorem as_84_84 (v : Value) (w : World) : (Instr.typeAssert (.iface 84 v) 52 84 true).run Tryz.prog w = .ok (.tuple #[v, .bool true]) w := by kernel_rfl
theorem R_one_at {α : Type} (d : Kd α) (W : World) (base e : Nat) (ok : Nat → Prop) (x : α) (cs : List Value) (n : Nat) (hn : n = W.heap.size) (hM : d.M W base ok x cs) (hb : base ≤ W.heap.size) (hok : ok W.heap.size) :
    d.R e (W.alloc (.cells cs.toArray e)) base ok (.slice (some ⟨n, 0, none⟩) 1 1) [x] := by
  subst hn
  exact R_one d W base e ok x cs hM hb hok

set_option maxRecDepth 20000 in
set_option maxHeartbeats 1000000 in
theorem sh_point (n : Nat) (w : World) (p : Pt) :
    Calls Tryz.prog 33 #[.iface 61 (ptV p)] w fun e w' => ShOk n w.heap.size (.point p) w' e ∧ Below w.heap.size w w' := by
  unfold ptV
  go_enter Tryz.func33, Tryz.ntmps33
  go_wp2
  refine bodyPost_ret (results_cell_row rfl _ _ _ _ _ _ _ rfl (blk_alloc (blk_alloc (blk_alloc (blk_new w _) _) _) _) Tryz.underlying25 rfl size25) rfl ?_
  refine ⟨⟨_, _, rfl, ?_, Kd.R_nil _ _ _ _ _⟩, ?_⟩
  · exact R_one_at rowK _ _ 27 _ _ [_] _ (by simp) ⟨_, rfl, R_one_at ptK _ _ 49 _ p [_, _] _ (by simp) (ptK_M _ _ _ _) (by simp; omega) trivial⟩ (by simp; omega) trivial
  · exact (((below_alloc1 _ _).alloc (by simp) _).alloc (by simp; omega) _).alloc (by simp; omega) _

set_option maxRecDepth 20000 in
set_option maxHeartbeats 1000000 in
theorem sh_line (n : Nat) (w : World) (ps : List Pt) (A : Option Addr) (c : Nat) (hC : ptK.C w A ps.length ps) (hl : ps.length ≤ 1000000000) :
    Calls Tryz.prog 33 #[.iface 65 (.slice A ps.length c)] w fun e w' => ShOk n w.heap.size (.line ps) w' e ∧ Below w.heap.size w w' := by
  have hb2 := below_alloc1 w (.cells #[.int .i64 0, .slice none 0 0, .slice none 0 0] 25)
  have hcall := list_any _ A c ps (Kd.C_below hC hb2) hl
  have hk := blk_new w (.cells #[.int .i64 0, .slice none 0 0, .slice none 0 0] 25)
  have HK := Lib.hid hk
  have HB2 := Lib.hid hb2
  clear hC hk hb2
  go_enter Tryz.func33, Tryz.ntmps33
  go_wp2_with fail
  refine hcall.mono ?_
  clear hcall
  rintro e w1 ⟨x, rfl, hR, hb1⟩
  obtain ⟨B, q, d, rfl⟩ := R_sl hR
  have hk1 := blk_alloc (blk_below HK.out hb1) (.cells #[.slice B q d] 27)
  have hbw : Below w.heap.size w w1 := below_then HB2.out (by simp) hb1
  have hsz := hb1.size
  replace hsz : w.heap.size + 1 ≤ w1.heap.size := by simpa using hsz
  obtain ⟨m0, m1, m2, n0, n1, n2⟩ := three_facts hk1
  have HK1 := Lib.hid hk1
  have HBW := Lib.hid (Below.alloc hbw hbw.size (.cells #[.slice B q d] 27))
  have hR1 : ptK.R 49 w1 w.heap.size (fun k => w.heap.size + 1 ≤ k) (.slice B q d) ps := Kd.R_mono (Kd.R_lower (R_own_ge hR) (by simp)) (fun k hk => by simpa using hk)
  have hR2 := R_one_at rowK w1 w.heap.size 27 (fun k => w.heap.size + 1 ≤ k) ps [.slice B q d] w1.heap.size rfl ⟨_, rfl, hR1⟩ (by omega) (by omega)
  have HR2 := Lib.hid hR2
  clear hk1 hbw hR hR1 hR2 hb1
  go_wp2
  refine bodyPost_ret (results_cell_row rfl _ _ _ _ _ _ _ rfl (three_set HK1.out) Tryz.underlying25 rfl size25) rfl ?_
  refine ⟨⟨_, _, rfl, ?_, Kd.R_nil _ _ _ _ _⟩, ((HBW.out.setCell (Nat.le_refl _) _).setCell (Nat.le_refl _) _).setCell (Nat.le_refl _) _⟩
  exact Kd.R_mono (Kd.R_far (p := ⟨w.heap.size, 2, none⟩) (Kd.R_far (p := ⟨w.heap.size, 1, none⟩) (Kd.R_far (p := ⟨w.heap.size, 0, none⟩) HR2.out (fun q hq => by show q ≠ w.heap.size; omega) _) (fun q hq => by show q ≠ w.heap.size; omega) _) (fun q hq => by show q ≠ w.heap.size; omega) _) (fun _ _ => trivial)

set_option maxRecDepth 20000 in
set_option maxHeartbeats 1000000 in
theorem sh_mpoint (n : Nat) (w : World) (ps : List Pt) (A : Option Addr) (c : Nat) (hC : ptK.C w A ps.length ps) (hl : ps.length ≤ 1000000000) :
    Calls Tryz.prog 33 #[.iface 72 (.slice A ps.length c)] w fun e w' => ShOk n w.heap.size (.mpoint ps) w' e ∧ Below w.heap.size w w' := by
  have hb2 := below_alloc1 w (.cells #[.int .i64 0, .slice none 0 0, .slice none 0 0] 25)
  have hcall := list_any _ A c ps (Kd.C_below hC hb2) hl
  have hk := blk_new w (.cells #[.int .i64 0, .slice none 0 0, .slice none 0 0] 25)
  have HK := Lib.hid hk
  have HB2 := Lib.hid hb2
  clear hC hk hb2
  go_enter Tryz.func33, Tryz.ntmps33
  go_wp2_with fail
  refine hcall.mono ?_
  clear hcall
  rintro e w1 ⟨x, rfl, hR, hb1⟩
  obtain ⟨B, q, d, rfl⟩ := R_sl hR
  have hk1 := blk_alloc (blk_below HK.out hb1) (.cells #[.slice B q d] 27)
  have hbw : Below w.heap.size w w1 := below_then HB2.out (by simp) hb1
  have hsz := hb1.size
  replace hsz : w.heap.size + 1 ≤ w1.heap.size := by simpa using hsz
  obtain ⟨m0, m1, m2, n0, n1, n2⟩ := three_facts hk1
  have HK1 := Lib.hid hk1
  have HBW := Lib.hid (Below.alloc hbw hbw.size (.cells #[.slice B q d] 27))
  have hR1 : ptK.R 49 w1 w.heap.size (fun k => w.heap.size + 1 ≤ k) (.slice B q d) ps := Kd.R_mono (Kd.R_lower (R_own_ge hR) (by simp)) (fun k hk => by simpa using hk)
  have hR2 := R_one_at rowK w1 w.heap.size 27 (fun k => w.heap.size + 1 ≤ k) ps [.slice B q d] w1.heap.size rfl ⟨_, rfl, hR1⟩ (by omega) (by omega)
  have HR2 := Lib.hid hR2
  clear hk1 hbw hR hR1 hR2 hb1
  go_wp2
  refine bodyPost_ret (results_cell_row rfl _ _ _ _ _ _ _ rfl (three_set HK1.out) Tryz.underlying25 rfl size25) rfl ?_
  refine ⟨⟨_, _, rfl, ?_, Kd.R_nil _ _ _ _ _⟩, ((HBW.out.setCell (Nat.le_refl _) _).setCell (Nat.le_refl _) _).setCell (Nat.le_refl _) _⟩
  exact Kd.R_mono (Kd.R_far (p := ⟨w.heap.size, 2, none⟩) (Kd.R_far (p := ⟨w.heap.size, 1, none⟩) (Kd.R_far (p := ⟨w.heap.size, 0, none⟩) HR2.out (fun q hq => by show q ≠ w.heap.size; omega) _) (fun q hq => by show q ≠ w.heap.size; omega) _) (fun q hq => by show q ≠ w.heap.size; omega) _) (fun _ _ => trivial)

theorem call61 : ∀ args w, (callFunc 61 args).run Tryz.prog w = .ok (.enter 61 args) w := by
  intro args w
  kernel_rfl
set_option maxRecDepth 20000 in
set_option maxHeartbeats 1000000 in
theorem sh_poly (n : Nat) (w : World) (rs : List (List Pt)) (A : Option Addr) (c : Nat) (hC : lineK.C w A rs.length rs) (hl : rs.length ≤ 1000000000) (hl2 : ∀ r ∈ rs, r.length ≤ 1000000000) :
    Calls Tryz.prog 33 #[.iface 69 (.slice A rs.length c)] w fun e w' => ShOk n w.heap.size (.poly rs) w' e ∧ Below w.heap.size w w' := by
  have hb2 := below_alloc1 w (.cells #[.int .i64 0, .slice none 0 0, .slice none 0 0] 25)
  have hcall := polySh_any _ A c rs (Kd.C_below hC hb2) hl hl2
  have hk := blk_new w (.cells #[.int .i64 0, .slice none 0 0, .slice none 0 0] 25)
  have HK := Lib.hid hk
  have HB2 := Lib.hid hb2
  clear hC hk hb2 hl2
  go_enter Tryz.func33, Tryz.ntmps33
  go_wp2_with fail
  refine hcall.mono ?_
  clear hcall
  rintro e w1 ⟨x, rfl, hR, hb1⟩
  obtain ⟨B, q, d, rfl⟩ := R_sl hR
  have hk1 := blk_below HK.out hb1
  have hbw : Below w.heap.size w w1 := below_then HB2.out (by simp) hb1
  have hsz := hb1.size
  replace hsz : w.heap.size + 1 ≤ w1.heap.size := by simpa using hsz
  obtain ⟨m0, m1, m2, n0, n1, n2⟩ := three_facts hk1
  have HK1 := Lib.hid hk1
  have HBW := Lib.hid hbw
  have hR1 : rowK.R 27 w1 w.heap.size (fun k => w.heap.size + 1 ≤ k) (.slice B q d) rs := Kd.R_mono (Kd.R_lower (R_own_ge hR) (by simp)) (fun k hk => by simpa using hk)
  have HR2 := Lib.hid hR1
  clear hk1 hbw hR hR1 hb1
  go_wp2
  refine bodyPost_ret (results_cell_row rfl _ _ _ _ _ _ _ rfl (three_set HK1.out) Tryz.underlying25 rfl size25) rfl ?_
  refine ⟨⟨_, _, rfl, ?_, Kd.R_nil _ _ _ _ _⟩, ((HBW.out.setCell (Nat.le_refl _) _).setCell (Nat.le_refl _) _).setCell (Nat.le_refl _) _⟩
  exact Kd.R_mono (Kd.R_far (p := ⟨w.heap.size, 2, none⟩) (Kd.R_far (p := ⟨w.heap.size, 1, none⟩) (Kd.R_far (p := ⟨w.heap.size, 0, none⟩) HR2.out (fun q hq => by show q ≠ w.heap.size; omega) _) (fun q hq => by show q ≠ w.heap.size; omega) _) (fun q hq => by show q ≠ w.heap.size; omega) _) (fun _ _ => trivial)
end Go.Proofs.YtghajgdiaopioaaGreatDoor
end
