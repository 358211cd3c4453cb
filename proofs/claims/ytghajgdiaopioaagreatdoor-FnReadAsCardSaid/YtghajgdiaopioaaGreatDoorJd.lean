/- Walks and plain laws joined (Wd, We). Conditions: stand in each law. -/
import Derived.Test.YtghajgdiaopioaaGreatDoorJc
/- Walks: the closures that append a point. Conditions: stand in each contract. -/
section
set_option linter.unusedVariables false
set_option linter.unusedSimpArgs false
namespace Go.Proofs.YtghajgdiaopioaaGreatDoor
open Go.RowKit Go.Proofs Tx
open Go.Proofs.YtghajgdiaopioaaGreatDoorW.PrintWords

/-- What a closure answers. -/
def Yr {α : Type} (r : Rd α) (ok : α → World → Prop) (e : Ending) (w' : World) : Prop :=
  match r with
  | .unk => True
  | .err => ∃ u v, e = .returned (.iface u v)
  | .ok a => e = .returned .nilIface ∧ ok a w'
/-- A row that a closure fills: its head lies in block b, all of it above B. -/
def RowAt {α : Type} (d : Kd α) (e T B b : Nat) (xs : List α) (w : World) : Prop :=
  ∃ sv, w.heap[b]? = some (.cells #[sv] T (0, 0)) ∧ d.R e w B (fun k => k ≠ b) sv xs
theorem RowAt.lt {α : Type} {d : Kd α} {e T B b : Nat} {xs : List α} {w : World} (h : RowAt d e T B b xs w) : b < w.heap.size := let ⟨_, h, _⟩ := h; box_lt h
theorem RowAt.below {α : Type} {d : Kd α} {e T B b : Nat} {xs : List α} {w w' : World} (h : RowAt d e T B b xs w) (hb : Below w.heap.size w w') : RowAt d e T B b xs w' :=
  let ⟨sv, h1, h2⟩ := h
  ⟨sv, blk_below h1 hb, Kd.R_below h2 hb⟩

theorem trimBr_le {l m : Bs} (h : trimBr l = some m) : m.length ≤ l.length := by
  unfold trimBr at h
  have h1 := trim_le l
  cases ht : trim l with
  | nil => rw [ht] at h; simp at h; subst h; simp
  | cons c r =>
    rw [ht] at h h1
    simp only at h
    split at h
    · split at h
      · have h2 := trim_le r.dropLast
        simp only [Option.some.injEq] at h
        subst h
        simp only [List.length_cons, List.length_dropLast] at *
        omega
      · cases h
    · cases h

theorem clos85_ok (pf : Bs → Rd Nat) (hpf : PfOk pf) (l : Bs) (w : World) (b B B0 : Nat) (ps : List Pt) (pt : Pt) (hl : l.length ≤ 1000000000) (hg : Gl B0 w)
   (m : Bs) (hm : trimBr l = some m) (hr : parseP pf m = .ok pt) (hR : RowAt ptK 61 72 B b ps w) (hB : B ≤ b) (hlen : ps.length ≤ 1000000000) :
    Calls Tryz.prog 85 #[S l, .pointer (some ⟨b, 0, none⟩)] w fun e w' => e = .returned .nilIface ∧ Below B w w' ∧ RowAt ptK 61 72 B b (ps ++ [pt]) w' := by
  obtain ⟨sv, hb, hR⟩ := hR
  have hbl : b < w.heap.size := (Array.getElem?_eq_some_iff.1 hb).1
  obtain ⟨A, n, c, rfl⟩ := R_sl hR
  go_enter Tryz.func85, Tryz.ntmps85
  go_wp2_with fail
  refine (trimBr_some l m _ hl hm).mono ?_
  rintro e w1 ⟨rfl, rfl⟩
  have hml : m.length ≤ 1000000000 := Nat.le_trans (trimBr_le hm) hl
  have HM := Lib.hid hm
  clear hm
  go_wp2_with fail
  refine (parseP_any pf hpf m _ hml hg _ hr (by simp)).mono ?_
  rintro e w1 ⟨⟨x, rfl, rfl⟩, hb1⟩
  have hb' : w1.heap[b]? = some (.cells #[.slice A n c] 72 (0, 0)) := (hb1.block b hbl).trans hb
  have hc1 : w1.cell? ⟨b, 0, none⟩ = some (.slice A n c) := box_cell hb'
  have hfz : w1.frozen? ⟨b, 0, none⟩ = false := box_free hb'
  have hR1 : ptK.R 61 w1 B (fun k => k ≠ b) (.slice A n c) ps := Kd.R_below hR hb1
  have hsz := hb1.size
  have hbl1 : b < w1.heap.size := by omega
  have HB1 := Lib.hid hb'
  have HG := Lib.hid hr
  clear hb hb' hR hr
  unfold ptV
  go_wp2_with (at_builtin; go_loud (refine Kd.R_append ptK (w0 := w) B rfl (.tmp 22) (.tmp 24) 72 61 (.agg #[.float .f64 0, .float .f64 0]) 16 rfl Tryz.underlying72 info61 rfl (by decide) (by decide) (.slice A n c) ps pt [.float .f64 pt.1, .float .f64 pt.2] (fun k => k ≠ b) (fun _ => False) rfl (by simp [Act.eval]) ?hp ?hokp ?hfresh ?HO ?HB ?hbase ?hl ?_))
  case hp => exact ptK_M _ _ _ _
  case hokp => exact fun _ h => h.elim
  case hfresh => intro k hk; simp at hk; omega
  case HO => exact Kd.R_alloc hR1 _
  case HB => exact ((hb1.mono (by omega)).alloc (by omega) _)
  case hbase => simp; omega
  case hl => omega
  intro v1 w2 hR2 hb2 hg2 hat2
  have hne : ∀ k, (Value.slice A n c).ownBlock = some k → k ≠ b := hR1.1
  have hw2 : w2.heap[b]? = some (.cells #[.slice A n c] 72 (0, 0)) := (hg2.block b (by simp; omega) (fun e => hne b e.symm rfl)).trans ((Below.heap_alloc _ _ _ hbl1).trans HB1.out)
  have hc2 : w2.cell? ⟨b, 0, none⟩ = some (.slice A n c) := box_cell hw2
  have hfz2 : w2.frozen? ⟨b, 0, none⟩ = false := box_free hw2
  obtain ⟨A1, n1, c1, rfl⟩ := R_sl hR2
  have HR2 := Lib.hid hR2
  have HW2 := Lib.hid hw2
  clear hR2 hw2 hg2 hat2 hc1 hfz hR1 hb1 hne
  go_wp2
  go_ret
  refine ⟨rfl, hb2.setCell hB _, _, box_set HW2.out, Kd.R_far (p := ⟨b, 0, none⟩) HR2.out (fun _ hk => hk) _⟩


theorem clos85_err1 (l : Bs) (w : World) (b B0 : Nat) (hl : l.length ≤ 1000000000) (hg : Gl B0 w) (hm : trimBr l = none) :
    Calls Tryz.prog 85 #[S l, .pointer (some ⟨b, 0, none⟩)] w fun e w' => (∃ u v, e = .returned (.iface u v)) ∧ Below w.heap.size w w' := by
  go_enter Tryz.func85, Tryz.ntmps85
  go_wp2_with fail
  refine (trimBr_none l _ hl hg hm).mono ?_
  rintro e w1 ⟨⟨u, v, rfl⟩, hb1⟩
  have HM := Lib.hid hm
  have HB1 := Lib.hid hb1
  clear hm hb1
  go_wp2
  go_ret
  exact ⟨⟨_, _, rfl⟩, HB1.out⟩
theorem clos85_err2 (pf : Bs → Rd Nat) (hpf : PfOk pf) (l m : Bs) (w : World) (b B0 : Nat) (hl : l.length ≤ 1000000000) (hg : Gl B0 w) (hm : trimBr l = some m) (hr : parseP pf m = .err) :
    Calls Tryz.prog 85 #[S l, .pointer (some ⟨b, 0, none⟩)] w fun e w' => (∃ u v, e = .returned (.iface u v)) ∧ Below w.heap.size w w' := by
  have hml : m.length ≤ 1000000000 := Nat.le_trans (trimBr_le hm) hl
  go_enter Tryz.func85, Tryz.ntmps85
  go_wp2_with fail
  refine (trimBr_some l m _ hl hm).mono ?_
  rintro e w1 ⟨rfl, rfl⟩
  have HM := Lib.hid hm
  clear hm
  go_wp2_with fail
  refine (parseP_any pf hpf m _ hml hg _ hr (by simp)).mono ?_
  rintro e w1 ⟨⟨u, v, rfl⟩, hb1⟩
  have HG := Lib.hid hr
  have HB1 := Lib.hid hb1
  clear hr hb1
  unfold ptV
  go_wp2
  go_ret
  exact ⟨⟨_, _, rfl⟩, HB1.out.alloc HB1.out.size _⟩

theorem clos85_any (pf : Bs → Rd Nat) (hpf : PfOk pf) (l : Bs) (w : World) (b B B0 : Nat) (ps : List Pt) (r : Rd Pt) (hl : l.length ≤ 1000000000) (hg : Gl B0 w)
   (hr : inBr (parseP pf) l = r) (hn : r ≠ .unk) (hR : RowAt ptK 61 72 B b ps w) (hB : B ≤ b) (hlen : ps.length ≤ 1000000000) :
    Calls Tryz.prog 85 #[S l, .pointer (some ⟨b, 0, none⟩)] w fun e w' => Yr r (fun pt w' => RowAt ptK 61 72 B b (ps ++ [pt]) w') e w' ∧ Below B w w' := by
  have hBw : B ≤ w.heap.size := Nat.le_trans hB (Nat.le_of_lt hR.lt)
  unfold inBr at hr
  cases hm : trimBr l with
  | none =>
    rw [hm] at hr
    subst hr
    exact (clos85_err1 l w b B0 hl hg hm).mono fun e w' h => ⟨h.1, h.2.mono hBw⟩
  | some m =>
    rw [hm] at hr
    cases r with
    | unk => exact absurd rfl hn
    | err => exact (clos85_err2 pf hpf l m w b B0 hl hg hm hr).mono fun e w' h => ⟨h.1, h.2.mono hBw⟩
    | ok pt => exact (clos85_ok pf hpf l w b B B0 ps pt hl hg m hm hr hR hB hlen).mono fun e w' h => ⟨⟨h.1, h.2.2⟩, h.2.1⟩

theorem clos80_ok (pf : Bs → Rd Nat) (hpf : PfOk pf) (l : Bs) (w : World) (b B B0 : Nat) (ps : List Pt) (pt : Pt) (hl : l.length ≤ 1000000000) (hg : Gl B0 w)
   (hr : parseP pf l = .ok pt) (hR : RowAt ptK 61 65 B b ps w) (hB : B ≤ b) (hlen : ps.length ≤ 1000000000) :
    Calls Tryz.prog 80 #[S l, .pointer (some ⟨b, 0, none⟩)] w fun e w' => e = .returned .nilIface ∧ Below B w w' ∧ RowAt ptK 61 65 B b (ps ++ [pt]) w' := by
  obtain ⟨sv, hb, hR⟩ := hR
  have hbl : b < w.heap.size := (Array.getElem?_eq_some_iff.1 hb).1
  obtain ⟨A, n, c, rfl⟩ := R_sl hR
  go_enter Tryz.func80, Tryz.ntmps80
  go_wp2_with fail
  refine (parseP_any pf hpf l _ hl hg _ hr (by simp)).mono ?_
  rintro e w1 ⟨⟨x, rfl, rfl⟩, hb1⟩
  have hb' : w1.heap[b]? = some (.cells #[.slice A n c] 65 (0, 0)) := (hb1.block b hbl).trans hb
  have hc1 : w1.cell? ⟨b, 0, none⟩ = some (.slice A n c) := box_cell hb'
  have hfz : w1.frozen? ⟨b, 0, none⟩ = false := box_free hb'
  have hR1 : ptK.R 61 w1 B (fun k => k ≠ b) (.slice A n c) ps := Kd.R_below hR hb1
  have hsz := hb1.size
  have hbl1 : b < w1.heap.size := by omega
  have HB1 := Lib.hid hb'
  have HG := Lib.hid hr
  clear hb hb' hR hr
  unfold ptV
  go_wp2_with (at_builtin; go_loud (refine Kd.R_append ptK (w0 := w) B rfl (.tmp 14) (.tmp 16) 65 61 (.agg #[.float .f64 0, .float .f64 0]) 16 rfl Tryz.underlying65 info61 rfl (by decide) (by decide) (.slice A n c) ps pt [.float .f64 pt.1, .float .f64 pt.2] (fun k => k ≠ b) (fun _ => False) rfl (by simp [Act.eval]) ?hp ?hokp ?hfresh ?HO ?HB ?hbase ?hl ?_))
  case hp => exact ptK_M _ _ _ _
  case hokp => exact fun _ h => h.elim
  case hfresh => intro k hk; simp at hk; omega
  case HO => exact Kd.R_alloc hR1 _
  case HB => exact ((hb1.mono (by omega)).alloc (by omega) _)
  case hbase => simp; omega
  case hl => omega
  intro v1 w2 hR2 hb2 hg2 hat2
  have hne : ∀ k, (Value.slice A n c).ownBlock = some k → k ≠ b := hR1.1
  have hw2 : w2.heap[b]? = some (.cells #[.slice A n c] 65 (0, 0)) := (hg2.block b (by simp; omega) (fun e => hne b e.symm rfl)).trans ((Below.heap_alloc _ _ _ hbl1).trans HB1.out)
  have hc2 : w2.cell? ⟨b, 0, none⟩ = some (.slice A n c) := box_cell hw2
  have hfz2 : w2.frozen? ⟨b, 0, none⟩ = false := box_free hw2
  obtain ⟨A1, n1, c1, rfl⟩ := R_sl hR2
  have HR2 := Lib.hid hR2
  have HW2 := Lib.hid hw2
  clear hR2 hw2 hg2 hat2 hc1 hfz hR1 hb1 hne
  go_wp2
  go_ret
  refine ⟨rfl, hb2.setCell hB _, _, box_set HW2.out, Kd.R_far (p := ⟨b, 0, none⟩) HR2.out (fun _ hk => hk) _⟩

theorem clos80_err (pf : Bs → Rd Nat) (hpf : PfOk pf) (l : Bs) (w : World) (b B0 : Nat) (hl : l.length ≤ 1000000000) (hg : Gl B0 w) (hr : parseP pf l = .err) :
    Calls Tryz.prog 80 #[S l, .pointer (some ⟨b, 0, none⟩)] w fun e w' => (∃ u v, e = .returned (.iface u v)) ∧ Below w.heap.size w w' := by
  go_enter Tryz.func80, Tryz.ntmps80
  go_wp2_with fail
  refine (parseP_any pf hpf l _ hl hg _ hr (by simp)).mono ?_
  rintro e w1 ⟨⟨u, v, rfl⟩, hb1⟩
  have HG := Lib.hid hr
  have HB1 := Lib.hid hb1
  clear hr hb1
  unfold ptV
  go_wp2
  go_ret
  exact ⟨⟨_, _, rfl⟩, HB1.out.alloc HB1.out.size _⟩

theorem clos80_any (pf : Bs → Rd Nat) (hpf : PfOk pf) (l : Bs) (w : World) (b B B0 : Nat) (ps : List Pt) (r : Rd Pt) (hl : l.length ≤ 1000000000) (hg : Gl B0 w)
   (hr : parseP pf l = r) (hn : r ≠ .unk) (hR : RowAt ptK 61 65 B b ps w) (hB : B ≤ b) (hlen : ps.length ≤ 1000000000) :
    Calls Tryz.prog 80 #[S l, .pointer (some ⟨b, 0, none⟩)] w fun e w' => Yr r (fun pt w' => RowAt ptK 61 65 B b (ps ++ [pt]) w') e w' ∧ Below B w w' := by
  cases r with
  | unk => exact absurd rfl hn
  | err => exact (clos80_err pf hpf l w b B0 hl hg hr).mono fun e w' h => ⟨h.1, h.2.mono (Nat.le_trans hB (Nat.le_of_lt hR.lt))⟩
  | ok pt => exact (clos80_ok pf hpf l w b B B0 ps pt hl hg hr hR hB hlen).mono fun e w' h => ⟨⟨h.1, h.2.2⟩, h.2.1⟩

theorem clos84_ok (pf : Bs → Rd Nat) (hpf : PfOk pf) (l : Bs) (w : World) (b B B0 : Nat) (ps : List Pt) (pt : Pt) (hl : l.length ≤ 1000000000) (hg : Gl B0 w)
   (hr : parseP pf l = .ok pt) (hR : RowAt ptK 61 117 B b ps w) (hB : B ≤ b) (hlen : ps.length ≤ 1000000000) :
    Calls Tryz.prog 84 #[S l, .pointer (some ⟨b, 0, none⟩)] w fun e w' => e = .returned .nilIface ∧ Below B w w' ∧ RowAt ptK 61 117 B b (ps ++ [pt]) w' := by
  obtain ⟨sv, hb, hR⟩ := hR
  have hbl : b < w.heap.size := (Array.getElem?_eq_some_iff.1 hb).1
  obtain ⟨A, n, c, rfl⟩ := R_sl hR
  go_enter Tryz.func84, Tryz.ntmps84
  go_wp2_with fail
  refine (parseP_any pf hpf l _ hl hg _ hr (by simp)).mono ?_
  rintro e w1 ⟨⟨x, rfl, rfl⟩, hb1⟩
  have hb' : w1.heap[b]? = some (.cells #[.slice A n c] 117 (0, 0)) := (hb1.block b hbl).trans hb
  have hc1 : w1.cell? ⟨b, 0, none⟩ = some (.slice A n c) := box_cell hb'
  have hfz : w1.frozen? ⟨b, 0, none⟩ = false := box_free hb'
  have hR1 : ptK.R 61 w1 B (fun k => k ≠ b) (.slice A n c) ps := Kd.R_below hR hb1
  have hsz := hb1.size
  have hbl1 : b < w1.heap.size := by omega
  have HB1 := Lib.hid hb'
  have HG := Lib.hid hr
  clear hb hb' hR hr
  unfold ptV
  go_wp2_with (at_builtin; go_loud (refine Kd.R_append ptK (w0 := w) B rfl (.tmp 14) (.tmp 16) 117 61 (.agg #[.float .f64 0, .float .f64 0]) 16 rfl Tryz.underlying117 info61 rfl (by decide) (by decide) (.slice A n c) ps pt [.float .f64 pt.1, .float .f64 pt.2] (fun k => k ≠ b) (fun _ => False) rfl (by simp [Act.eval]) ?hp ?hokp ?hfresh ?HO ?HB ?hbase ?hl ?_))
  case hp => exact ptK_M _ _ _ _
  case hokp => exact fun _ h => h.elim
  case hfresh => intro k hk; simp at hk; omega
  case HO => exact Kd.R_alloc hR1 _
  case HB => exact ((hb1.mono (by omega)).alloc (by omega) _)
  case hbase => simp; omega
  case hl => omega
  intro v1 w2 hR2 hb2 hg2 hat2
  have hne : ∀ k, (Value.slice A n c).ownBlock = some k → k ≠ b := hR1.1
  have hw2 : w2.heap[b]? = some (.cells #[.slice A n c] 117 (0, 0)) := (hg2.block b (by simp; omega) (fun e => hne b e.symm rfl)).trans ((Below.heap_alloc _ _ _ hbl1).trans HB1.out)
  have hc2 : w2.cell? ⟨b, 0, none⟩ = some (.slice A n c) := box_cell hw2
  have hfz2 : w2.frozen? ⟨b, 0, none⟩ = false := box_free hw2
  obtain ⟨A1, n1, c1, rfl⟩ := R_sl hR2
  have HR2 := Lib.hid hR2
  have HW2 := Lib.hid hw2
  clear hR2 hw2 hg2 hat2 hc1 hfz hR1 hb1 hne
  go_wp2
  go_ret
  refine ⟨rfl, hb2.setCell hB _, _, box_set HW2.out, Kd.R_far (p := ⟨b, 0, none⟩) HR2.out (fun _ hk => hk) _⟩

theorem clos84_err (pf : Bs → Rd Nat) (hpf : PfOk pf) (l : Bs) (w : World) (b B0 : Nat) (hl : l.length ≤ 1000000000) (hg : Gl B0 w) (hr : parseP pf l = .err) :
    Calls Tryz.prog 84 #[S l, .pointer (some ⟨b, 0, none⟩)] w fun e w' => (∃ u v, e = .returned (.iface u v)) ∧ Below w.heap.size w w' := by
  go_enter Tryz.func84, Tryz.ntmps84
  go_wp2_with fail
  refine (parseP_any pf hpf l _ hl hg _ hr (by simp)).mono ?_
  rintro e w1 ⟨⟨u, v, rfl⟩, hb1⟩
  have HG := Lib.hid hr
  have HB1 := Lib.hid hb1
  clear hr hb1
  unfold ptV
  go_wp2
  go_ret
  exact ⟨⟨_, _, rfl⟩, HB1.out.alloc HB1.out.size _⟩

theorem clos84_any (pf : Bs → Rd Nat) (hpf : PfOk pf) (l : Bs) (w : World) (b B B0 : Nat) (ps : List Pt) (r : Rd Pt) (hl : l.length ≤ 1000000000) (hg : Gl B0 w)
   (hr : parseP pf l = r) (hn : r ≠ .unk) (hR : RowAt ptK 61 117 B b ps w) (hB : B ≤ b) (hlen : ps.length ≤ 1000000000) :
    Calls Tryz.prog 84 #[S l, .pointer (some ⟨b, 0, none⟩)] w fun e w' => Yr r (fun pt w' => RowAt ptK 61 117 B b (ps ++ [pt]) w') e w' ∧ Below B w w' := by
  cases r with
  | unk => exact absurd rfl hn
  | err => exact (clos84_err pf hpf l w b B0 hl hg hr).mono fun e w' h => ⟨h.1, h.2.mono (Nat.le_trans hB (Nat.le_of_lt hR.lt))⟩
  | ok pt => exact (clos84_ok pf hpf l w b B B0 ps pt hl hg hr hR hB hlen).mono fun e w' h => ⟨⟨h.1, h.2.2⟩, h.2.1⟩

theorem clos88_ok (pf : Bs → Rd Nat) (hpf : PfOk pf) (l : Bs) (w : World) (b B B0 : Nat) (ps : List Pt) (pt : Pt) (hl : l.length ≤ 1000000000) (hg : Gl B0 w)
   (hr : parseP pf l = .ok pt) (hR : RowAt ptK 61 65 B b ps w) (hB : B ≤ b) (hlen : ps.length ≤ 1000000000) :
    Calls Tryz.prog 88 #[S l, .pointer (some ⟨b, 0, none⟩)] w fun e w' => e = .returned .nilIface ∧ Below B w w' ∧ RowAt ptK 61 65 B b (ps ++ [pt]) w' := by
  obtain ⟨sv, hb, hR⟩ := hR
  have hbl : b < w.heap.size := (Array.getElem?_eq_some_iff.1 hb).1
  obtain ⟨A, n, c, rfl⟩ := R_sl hR
  go_enter Tryz.func88, Tryz.ntmps88
  go_wp2_with fail
  refine (parseP_any pf hpf l _ hl hg _ hr (by simp)).mono ?_
  rintro e w1 ⟨⟨x, rfl, rfl⟩, hb1⟩
  have hb' : w1.heap[b]? = some (.cells #[.slice A n c] 65 (0, 0)) := (hb1.block b hbl).trans hb
  have hc1 : w1.cell? ⟨b, 0, none⟩ = some (.slice A n c) := box_cell hb'
  have hfz : w1.frozen? ⟨b, 0, none⟩ = false := box_free hb'
  have hR1 : ptK.R 61 w1 B (fun k => k ≠ b) (.slice A n c) ps := Kd.R_below hR hb1
  have hsz := hb1.size
  have hbl1 : b < w1.heap.size := by omega
  have HB1 := Lib.hid hb'
  have HG := Lib.hid hr
  clear hb hb' hR hr
  unfold ptV
  go_wp2_with (at_builtin; go_loud (refine Kd.R_append ptK (w0 := w) B rfl (.tmp 14) (.tmp 16) 65 61 (.agg #[.float .f64 0, .float .f64 0]) 16 rfl Tryz.underlying65 info61 rfl (by decide) (by decide) (.slice A n c) ps pt [.float .f64 pt.1, .float .f64 pt.2] (fun k => k ≠ b) (fun _ => False) rfl (by simp [Act.eval]) ?hp ?hokp ?hfresh ?HO ?HB ?hbase ?hl ?_))
  case hp => exact ptK_M _ _ _ _
  case hokp => exact fun _ h => h.elim
  case hfresh => intro k hk; simp at hk; omega
  case HO => exact Kd.R_alloc hR1 _
  case HB => exact ((hb1.mono (by omega)).alloc (by omega) _)
  case hbase => simp; omega
  case hl => omega
  intro v1 w2 hR2 hb2 hg2 hat2
  have hne : ∀ k, (Value.slice A n c).ownBlock = some k → k ≠ b := hR1.1
  have hw2 : w2.heap[b]? = some (.cells #[.slice A n c] 65 (0, 0)) := (hg2.block b (by simp; omega) (fun e => hne b e.symm rfl)).trans ((Below.heap_alloc _ _ _ hbl1).trans HB1.out)
  have hc2 : w2.cell? ⟨b, 0, none⟩ = some (.slice A n c) := box_cell hw2
  have hfz2 : w2.frozen? ⟨b, 0, none⟩ = false := box_free hw2
  obtain ⟨A1, n1, c1, rfl⟩ := R_sl hR2
  have HR2 := Lib.hid hR2
  have HW2 := Lib.hid hw2
  clear hR2 hw2 hg2 hat2 hc1 hfz hR1 hb1 hne
  go_wp2
  go_ret
  refine ⟨rfl, hb2.setCell hB _, _, box_set HW2.out, Kd.R_far (p := ⟨b, 0, none⟩) HR2.out (fun _ hk => hk) _⟩

theorem clos88_err (pf : Bs → Rd Nat) (hpf : PfOk pf) (l : Bs) (w : World) (b B0 : Nat) (hl : l.length ≤ 1000000000) (hg : Gl B0 w) (hr : parseP pf l = .err) :
    Calls Tryz.prog 88 #[S l, .pointer (some ⟨b, 0, none⟩)] w fun e w' => (∃ u v, e = .returned (.iface u v)) ∧ Below w.heap.size w w' := by
  go_enter Tryz.func88, Tryz.ntmps88
  go_wp2_with fail
  refine (parseP_any pf hpf l _ hl hg _ hr (by simp)).mono ?_
  rintro e w1 ⟨⟨u, v, rfl⟩, hb1⟩
  have HG := Lib.hid hr
  have HB1 := Lib.hid hb1
  clear hr hb1
  unfold ptV
  go_wp2
  go_ret
  exact ⟨⟨_, _, rfl⟩, HB1.out.alloc HB1.out.size _⟩

theorem clos88_any (pf : Bs → Rd Nat) (hpf : PfOk pf) (l : Bs) (w : World) (b B B0 : Nat) (ps : List Pt) (r : Rd Pt) (hl : l.length ≤ 1000000000) (hg : Gl B0 w)
   (hr : parseP pf l = r) (hn : r ≠ .unk) (hR : RowAt ptK 61 65 B b ps w) (hB : B ≤ b) (hlen : ps.length ≤ 1000000000) :
    Calls Tryz.prog 88 #[S l, .pointer (some ⟨b, 0, none⟩)] w fun e w' => Yr r (fun pt w' => RowAt ptK 61 65 B b (ps ++ [pt]) w') e w' ∧ Below B w w' := by
  cases r with
  | unk => exact absurd rfl hn
  | err => exact (clos88_err pf hpf l w b B0 hl hg hr).mono fun e w' h => ⟨h.1, h.2.mono (Nat.le_trans hB (Nat.le_of_lt hR.lt))⟩
  | ok pt => exact (clos88_ok pf hpf l w b B B0 ps pt hl hg hr hR hB hlen).mono fun e w' h => ⟨⟨h.1, h.2.2⟩, h.2.1⟩

theorem clos93_ok (pf : Bs → Rd Nat) (hpf : PfOk pf) (l : Bs) (w : World) (b B B0 : Nat) (ps : List Pt) (pt : Pt) (hl : l.length ≤ 1000000000) (hg : Gl B0 w)
   (hr : parseP pf l = .ok pt) (hR : RowAt ptK 61 117 B b ps w) (hB : B ≤ b) (hlen : ps.length ≤ 1000000000) :
    Calls Tryz.prog 93 #[S l, .pointer (some ⟨b, 0, none⟩)] w fun e w' => e = .returned .nilIface ∧ Below B w w' ∧ RowAt ptK 61 117 B b (ps ++ [pt]) w' := by
  obtain ⟨sv, hb, hR⟩ := hR
  have hbl : b < w.heap.size := (Array.getElem?_eq_some_iff.1 hb).1
  obtain ⟨A, n, c, rfl⟩ := R_sl hR
  go_enter Tryz.func93, Tryz.ntmps93
  go_wp2_with fail
  refine (parseP_any pf hpf l _ hl hg _ hr (by simp)).mono ?_
  rintro e w1 ⟨⟨x, rfl, rfl⟩, hb1⟩
  have hb' : w1.heap[b]? = some (.cells #[.slice A n c] 117 (0, 0)) := (hb1.block b hbl).trans hb
  have hc1 : w1.cell? ⟨b, 0, none⟩ = some (.slice A n c) := box_cell hb'
  have hfz : w1.frozen? ⟨b, 0, none⟩ = false := box_free hb'
  have hR1 : ptK.R 61 w1 B (fun k => k ≠ b) (.slice A n c) ps := Kd.R_below hR hb1
  have hsz := hb1.size
  have hbl1 : b < w1.heap.size := by omega
  have HB1 := Lib.hid hb'
  have HG := Lib.hid hr
  clear hb hb' hR hr
  unfold ptV
  go_wp2_with (at_builtin; go_loud (refine Kd.R_append ptK (w0 := w) B rfl (.tmp 14) (.tmp 16) 117 61 (.agg #[.float .f64 0, .float .f64 0]) 16 rfl Tryz.underlying117 info61 rfl (by decide) (by decide) (.slice A n c) ps pt [.float .f64 pt.1, .float .f64 pt.2] (fun k => k ≠ b) (fun _ => False) rfl (by simp [Act.eval]) ?hp ?hokp ?hfresh ?HO ?HB ?hbase ?hl ?_))
  case hp => exact ptK_M _ _ _ _
  case hokp => exact fun _ h => h.elim
  case hfresh => intro k hk; simp at hk; omega
  case HO => exact Kd.R_alloc hR1 _
  case HB => exact ((hb1.mono (by omega)).alloc (by omega) _)
  case hbase => simp; omega
  case hl => omega
  intro v1 w2 hR2 hb2 hg2 hat2
  have hne : ∀ k, (Value.slice A n c).ownBlock = some k → k ≠ b := hR1.1
  have hw2 : w2.heap[b]? = some (.cells #[.slice A n c] 117 (0, 0)) := (hg2.block b (by simp; omega) (fun e => hne b e.symm rfl)).trans ((Below.heap_alloc _ _ _ hbl1).trans HB1.out)
  have hc2 : w2.cell? ⟨b, 0, none⟩ = some (.slice A n c) := box_cell hw2
  have hfz2 : w2.frozen? ⟨b, 0, none⟩ = false := box_free hw2
  obtain ⟨A1, n1, c1, rfl⟩ := R_sl hR2
  have HR2 := Lib.hid hR2
  have HW2 := Lib.hid hw2
  clear hR2 hw2 hg2 hat2 hc1 hfz hR1 hb1 hne
  go_wp2
  go_ret
  refine ⟨rfl, hb2.setCell hB _, _, box_set HW2.out, Kd.R_far (p := ⟨b, 0, none⟩) HR2.out (fun _ hk => hk) _⟩

theorem clos93_err (pf : Bs → Rd Nat) (hpf : PfOk pf) (l : Bs) (w : World) (b B0 : Nat) (hl : l.length ≤ 1000000000) (hg : Gl B0 w) (hr : parseP pf l = .err) :
    Calls Tryz.prog 93 #[S l, .pointer (some ⟨b, 0, none⟩)] w fun e w' => (∃ u v, e = .returned (.iface u v)) ∧ Below w.heap.size w w' := by
  go_enter Tryz.func93, Tryz.ntmps93
  go_wp2_with fail
  refine (parseP_any pf hpf l _ hl hg _ hr (by simp)).mono ?_
  rintro e w1 ⟨⟨u, v, rfl⟩, hb1⟩
  have HG := Lib.hid hr
  have HB1 := Lib.hid hb1
  clear hr hb1
  unfold ptV
  go_wp2
  go_ret
  exact ⟨⟨_, _, rfl⟩, HB1.out.alloc HB1.out.size _⟩

theorem clos93_any (pf : Bs → Rd Nat) (hpf : PfOk pf) (l : Bs) (w : World) (b B B0 : Nat) (ps : List Pt) (r : Rd Pt) (hl : l.length ≤ 1000000000) (hg : Gl B0 w)
   (hr : parseP pf l = r) (hn : r ≠ .unk) (hR : RowAt ptK 61 117 B b ps w) (hB : B ≤ b) (hlen : ps.length ≤ 1000000000) :
    Calls Tryz.prog 93 #[S l, .pointer (some ⟨b, 0, none⟩)] w fun e w' => Yr r (fun pt w' => RowAt ptK 61 117 B b (ps ++ [pt]) w') e w' ∧ Below B w w' := by
  cases r with
  | unk => exact absurd rfl hn
  | err => exact (clos93_err pf hpf l w b B0 hl hg hr).mono fun e w' h => ⟨h.1, h.2.mono (Nat.le_trans hB (Nat.le_of_lt hR.lt))⟩
  | ok pt => exact (clos93_ok pf hpf l w b B B0 ps pt hl hg hr hR hB hlen).mono fun e w' h => ⟨⟨h.1, h.2.2⟩, h.2.1⟩
end Go.Proofs.YtghajgdiaopioaaGreatDoor
end

/- Walks: splitOnComma. Conditions: stand in each contract. -/
section
set_option linter.unusedVariables false
set_option linter.unusedSimpArgs false
namespace Go.Proofs.YtghajgdiaopioaaGreatDoor
open Go.RowKit Go.Proofs Tx
open Go.Proofs.YtghajgdiaopioaaGreatDoorW.PrintWords

theorem map_map {α β γ : Type} (f : α → β) (g : β → γ) (r : Rd α) : Rd.map g (Rd.map f r) = Rd.map (g ∘ f) r := by cases r <;> rfl
/-- Where splitOnComma stands. -/
structure CSt {α : Type} (f : Bs → Rd α) (l : Bs) (R : Rd (List α)) (done : List α) (s e i : Nat) (run sc : Bool) : Prop where
  se : s ≤ (if run then e else i)
  ei : (if run then e else i) ≤ i
  il : i ≤ l.length
  dl : done.length ≤ i
  sr : sc = true → run = true
  eq : (mapR f (goC ((l.take (if run then e else i)).drop s) (if run then (l.take i).drop e else []) sc (l.drop i))).map (done ++ ·) = R
section
variable {α : Type} {f : Bs → Rd α} {l : Bs} {R : Rd (List α)} {done : List α} {s e i : Nat} {run sc : Bool}
theorem CSt.start (l : Bs) : CSt f l (mapR f (splitC l)) [] 0 0 0 false false := ⟨by simp, by simp, by simp, by simp, by simp, by
  unfold splitC
  simp
  cases mapR f (goC [] [] false l) <;> rfl⟩
theorem take_drop_snoc {l : Bs} {e i : Nat} (he : e ≤ i) (hi : i < l.length) : (l.take (i + 1)).drop e = (l.take i).drop e ++ [l[i]] := by
  rw [List.take_add_one, List.drop_append, List.getElem?_eq_getElem hi]
  simp [show e - min i l.length = 0 by omega]
theorem CSt.comma (h : CSt f l R done s e i run sc) (hi : i < l.length) (hc : l[i] = 44) : CSt f l R done s (if run then e else i) (i + 1) true true := by
  obtain ⟨h1, h2, h3, h4, h5, h6⟩ := h
  refine ⟨by simpa using h1, by simp; omega, by omega, by omega, by simp, ?_⟩
  rw [← h6, List.drop_eq_getElem_cons hi, hc]
  cases run
  · simp only [Bool.false_eq_true, if_false, if_true] at *
    rw [goC, if_pos rfl, take_drop_snoc (Nat.le_refl i) hi, hc]
    simp
  · simp only [if_true] at *
    rw [goC, if_pos rfl, take_drop_snoc h2 hi, hc]
theorem CSt.blank (h : CSt f l R done s e i run sc) (hi : i < l.length) (hc : l[i] ≠ 44) (hs : isSp l[i] = true) : CSt f l R done s (if run then e else i) (i + 1) true sc := by
  obtain ⟨h1, h2, h3, h4, h5, h6⟩ := h
  refine ⟨by simpa using h1, by simp; omega, by omega, by omega, by simp, ?_⟩
  rw [← h6, List.drop_eq_getElem_cons hi]
  cases run
  · simp only [Bool.false_eq_true, if_false, if_true] at *
    rw [goC, if_neg hc, if_pos hs, take_drop_snoc (Nat.le_refl i) hi]
    simp
  · simp only [if_true] at *
    rw [goC, if_neg hc, if_pos hs, take_drop_snoc h2 hi]
theorem CSt.plain (h : CSt f l R done s e i run false) (hi : i < l.length) (hc : l[i] ≠ 44) (hs : isSp l[i] = false) (e' : Nat) : CSt f l R done s e' (i + 1) false false := by
  obtain ⟨h1, h2, h3, h4, h5, h6⟩ := h
  refine ⟨by simp; omega, by simp, by omega, by omega, by simp, ?_⟩
  rw [← h6, List.drop_eq_getElem_cons hi]
  cases run
  · simp only [Bool.false_eq_true, if_false, if_true] at *
    rw [goC, if_neg hc, hs, take_drop_snoc h1 hi]
    simp
  · simp only [Bool.false_eq_true, if_true, if_false] at *
    rw [goC, if_neg hc, hs, take_drop_snoc (by omega) hi]
    simp only [Bool.false_eq_true, if_false]
    congr 3
    have : (l.take i).drop s = (l.take e).drop s ++ (l.take i).drop e := by
      rw [show l.take i = l.take e ++ (l.take i).drop e from by rw [show l.take e = (l.take i).take e from by rw [List.take_take, Nat.min_eq_left h2]]; rw [List.take_append_drop], List.drop_append]
      have hle : (l.take e).length = e := by simp; omega
      rw [hle, show s - e = 0 by omega]
      simp [List.drop_append, hle]
    rw [this]
theorem CSt.piece (h : CSt f l R done s e i run true) (hi : i < l.length) (hc : l[i] ≠ 44) (hs : isSp l[i] = false) :
    run = true ∧ s ≤ e ∧ e ≤ i ∧ R ≠ .unk → f ((l.take e).drop s) ≠ .unk ∧ (f ((l.take e).drop s) = .err → R = .err) ∧ ∀ a, f ((l.take e).drop s) = .ok a → ∀ e', CSt f l R (done ++ [a]) i e' (i + 1) false false := by
  obtain ⟨h1, h2, h3, h4, h5, h6⟩ := h
  rintro ⟨rfl, hse, hei, hR⟩
  simp only [if_true] at *
  rw [List.drop_eq_getElem_cons hi, goC, if_neg hc, hs] at h6
  simp only [Bool.false_eq_true, if_false, if_true, mapR] at h6
  refine ⟨?_, ?_, ?_⟩
  · intro e0
    rw [e0] at h6
    exact hR h6.symm
  · intro e0
    rw [e0] at h6
    exact h6.symm
  · intro a e0 e'
    rw [e0] at h6
    refine ⟨by simp, by simp, by omega, by simp; omega, by simp, ?_⟩
    rw [← h6]
    simp only [Bool.false_eq_true, if_false, Rd.bind]
    rw [map_map, take_drop_snoc (Nat.le_refl i) hi]
    simp [Function.comp_def]
theorem CSt.last (h : CSt f l R done s e i run sc) (hi : ¬ i < l.length) : R = (f (l.drop s)).bind fun a => .ok (done ++ [a]) := by
  obtain ⟨h1, h2, h3, h4, h5, h6⟩ := h
  rw [← h6]
  have hil : i = l.length := by omega
  rw [hil, List.drop_length, goC]
  have : List.drop s (List.take (if run = true then e else l.length) l) ++ (if run = true then List.drop e (List.take l.length l) else []) = l.drop s := by
    cases run
    · simp
    · simp only [if_true, List.take_length] at *
      have hle : (l.take e).length = e := by simp; omega
      conv => rhs; rw [← List.take_append_drop e l, List.drop_append, hle, show s - e = 0 by omega, List.drop_zero]
  rw [this]
  simp only [mapR]
  cases f (l.drop s) <;> rfl
theorem CSt.lim (h : CSt f l R done s e i run sc) : s ≤ i ∧ i ≤ l.length ∧ done.length ≤ i ∧ (run = true → s ≤ e ∧ e ≤ i) ∧ (sc = true → run = true) := by
  obtain ⟨h1, h2, h3, h4, h5, h6⟩ := h
  refine ⟨by omega, h3, by omega, ?_, h5⟩
  rintro rfl
  exact ⟨h1, h2⟩
end

/-- What splitOnComma wants of its closure. -/
def Yields {α : Type} (fn b B : Nat) (f : Bs → Rd α) (Inv : List α → World → Prop) : Prop :=
  ∀ l (done : List α) w r, l.length ≤ 1000000000 → done.length ≤ 1000000000 → Inv done w → f l = r → r ≠ .unk →
    Calls Tryz.prog fn #[S l, .pointer (some ⟨b, 0, none⟩)] w fun e w' => Yr r (fun a w' => Inv (done ++ [a]) w') e w' ∧ Below B w w'

set_option maxRecDepth 20000 in
set_option maxHeartbeats 2000000 in
theorem splitC_any {α : Type} (fn b B : Nat) (f : Bs → Rd α) (Inv : List α → World → Prop) (hcf : ∀ args w, (callFunc fn args).run Tryz.prog w = .ok (.enter fn args) w) (hY : Yields fn b B f Inv) (l : Bs) (w : World) (R : Rd (List α)) (hl : l.length ≤ 1000000000)
    (hI : Inv [] w) (hR : mapR f (splitC l) = R) (hn : R ≠ .unk) (hB : B ≤ w.heap.size) :
    Calls Tryz.prog 79 #[S l, .func (.func fn) #[] #[.pointer (some ⟨b, 0, none⟩)]] w fun e w' => Yr R Inv e w' ∧ Below B w w' := by
  have h0 := CSt.start (f := f) l
  rw [hR] at h0
  have HY := Lib.hid hY
  clear hY hR
  go_enter Tryz.func79, Tryz.ntmps79
  go_wp2
  go_loopw [5, 6, 7, 8, 9] (fun v5 v6 v7 v8 v9 wr => ∃ (s e i : Nat) (run sc : Bool) (done : List α), v5 = .int .i64 s ∧ v6 = .int .i64 e ∧ v7 = .bool run ∧ v8 = .bool sc ∧ v9 = .int .i64 i ∧ CSt f l R done s e i run sc ∧ Inv done wr ∧ Below B w wr) (fun v5 v6 v7 v8 v9 wr => l.length - (intOf v9).toNat)
  case atStart => exact ⟨0, 0, 0, false, false, [], rfl, rfl, rfl, rfl, rfl, h0, hI, Below.refl _ _⟩
  case round =>
    obtain ⟨s, e, i, run, sc, done, rfl, rfl, rfl, rfl, rfl, hc, hi, hb⟩ := hrel
    obtain ⟨hsi, hil, hdi, hre, hsr⟩ := hc.lim
    clear h0 hI
    by_cases hgo : i < l.length
    · obtain ⟨c, hcc⟩ : ∃ c : UInt8, ∀ h, (ByteArray.mk l.toArray)[i]'h = c := ⟨l[i], fun _ => rfl⟩
      have hci : l[i] = c := hcc (by simpa [ByteArray.size] using hgo)
      by_cases h44 : c = 44
      · subst h44
        have HC := Lib.hid (hc.comma hgo hci)
        have HI := Lib.hid hi
        have HB := Lib.hid hb
        clear hci hc hi hb
        cases run
        all_goals
          go_wp2
          refine ⟨⟨s, _, i + 1, true, true, done, rfl, rfl, rfl, rfl, by go_num, HC.out, HI.out, HB.out⟩, by simp [intOf]; omega⟩
      · have t44 := beq44 h44
        by_cases hsp : isSp c = true
        · have hsp2 : ((c.toNat : Int) == 32 || (c.toNat : Int) == 9 || (c.toNat : Int) == 10) = true := by rw [← sp_tests]; exact hsp
          have HC := Lib.hid (hc.blank hgo (by rw [hci]; exact h44) (by rw [hci]; exact hsp))
          have HS := Lib.hid hsp2
          have HI := Lib.hid hi
          have HB := Lib.hid hb
          clear hci hc hi hb hsp hsp2 h44
          cases run
          all_goals
            go_wp2
            all_goals first
            | (refine ⟨⟨s, _, i + 1, true, sc, done, rfl, rfl, rfl, rfl, by go_num, HC.out, HI.out, HB.out⟩, by simp [intOf]; omega⟩)
            | (exfalso; have := HS.out; simp_all; done)
        · have hsp' : isSp c = false := by simpa using hsp
          obtain ⟨⟨t1, t2, t3⟩, -⟩ := nsp_tests hsp'
          cases sc
          · have HC := Lib.hid (hc.plain hgo (by rw [hci]; exact h44) (by rw [hci]; exact hsp'))
            have HI := Lib.hid hi
            have HB := Lib.hid hb
            clear hci hc hi hb hsp hsp' h44
            cases run
            all_goals
              go_wp2
              refine ⟨⟨s, _, i + 1, false, false, done, rfl, rfl, rfl, rfl, by go_num, HC.out _, HI.out, HB.out⟩, by simp [intOf]; omega⟩
          · have hrun := hsr rfl
            subst hrun
            obtain ⟨hse, hei⟩ := hre rfl
            obtain ⟨p1, p2, p3⟩ := hc.piece hgo (by rw [hci]; exact h44) (by rw [hci]; exact hsp') ⟨rfl, hse, hei, hn⟩
            have hpl : ((l.take e).drop s).length ≤ 1000000000 := by simp; omega
            have hcall := HY.out _ done wr _ hpl (by omega) hi rfl p1
            have HP1 := Lib.hid p1
            have HP2 := Lib.hid p2
            have HP3 := Lib.hid p3
            have HB := Lib.hid hb
            clear hci hc hi hb hsp hsp' h44 p1 p2 p3 hsr hre
            go_wp2_with fail
            refine hcall.mono ?_
            clear hcall
            cases hr : f ((l.take e).drop s) with
            | unk => exact absurd hr HP1.out
            | err =>
              rintro e1 w1 ⟨⟨u, v, rfl⟩, hb1⟩
              have hRe := HP2.out hr
              subst hRe
              have HB1 := Lib.hid (HB.out.trans hb1)
              clear hr hb1
              go_wp2
              go_ret
              exact ⟨⟨_, _, rfl⟩, HB1.out⟩
            | ok a =>
              rintro e1 w1 ⟨⟨rfl, hi1⟩, hb1⟩
              have HC := Lib.hid (HP3.out a hr)
              have HB1 := Lib.hid (HB.out.trans hb1)
              have HI1 := Lib.hid hi1
              clear hr hb1 hi1
              go_wp2
              refine ⟨⟨i, _, i + 1, false, false, done ++ [a], rfl, rfl, rfl, rfl, by go_num, HC.out _, HI1.out, HB1.out⟩, by simp [intOf]; omega⟩
    · have hlast := hc.last hgo
      have hpl : (l.drop s).length ≤ 1000000000 := by simp; omega
      have hfn : f (l.drop s) ≠ .unk := by
        intro e0; rw [e0] at hlast; exact hn hlast
      have hcall := HY.out _ done wr _ hpl (by omega) hi rfl hfn
      have HL := Lib.hid hlast
      have HB := Lib.hid hb
      have HN := Lib.hid hfn
      clear hc hi hb hsr hre hlast hfn
      go_wp2_with fail
      refine hcall.mono ?_
      clear hcall
      cases hr : f (l.drop s) with
      | unk => exact absurd hr HN.out
      | err =>
        rintro e1 w1 ⟨⟨u, v, rfl⟩, hb1⟩
        have hRe := HL.out
        rw [hr] at hRe
        simp only [Rd.bind] at hRe
        subst hRe
        have HB1 := Lib.hid (HB.out.trans hb1)
        clear hr hb1
        go_wp2
        go_ret
        exact ⟨⟨_, _, rfl⟩, HB1.out⟩
      | ok a =>
        rintro e1 w1 ⟨⟨rfl, hi1⟩, hb1⟩
        have hRe := HL.out
        rw [hr] at hRe
        simp only [Rd.bind] at hRe
        subst hRe
        have HB1 := Lib.hid (HB.out.trans hb1)
        have HI1 := Lib.hid hi1
        clear hr hb1 hi1
        go_wp2
        go_ret
        exact ⟨⟨rfl, HI1.out⟩, HB1.out⟩

theorem call80 : ∀ args w, (callFunc 80 args).run Tryz.prog w = .ok (.enter 80 args) w := by
  intro args w
  kernel_rfl
end Go.Proofs.YtghajgdiaopioaaGreatDoor
end
