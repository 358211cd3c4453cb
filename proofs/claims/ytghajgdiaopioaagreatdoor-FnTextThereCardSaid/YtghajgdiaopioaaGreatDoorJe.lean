/- Walks and plain laws joined (Wd). Conditions: stand in each law. -/
import Derived.Test.YtghajgdiaopioaaGreatDoorJd
set_option linter.unusedVariables false
set_option linter.unusedSimpArgs false
section
/- Walks: the closures that append a point. Conditions: stand in each contract. -/
namespace Go.Proofs.YtghajgdiaopioaaGreatDoor
open Go.RowKit Go.Proofs Tx
open Go.Proofs.YtghajgdiaopioaaGreatDoorW.PrintWords
/-- What a closure answers. -/
def Yr {α : Type} (r : Rd α) (ok : α → World → Prop) (e : Ending) (w' : World) : Prop :=
  match r with
  | .unk => True
  | .err => ∃ u v, e = .returned (.iface u v)
  | .ok a => e = .returned .nilIface ∧ ok a w'
/-- A row that a closure fills: its head lies in block b, all of it above B. -/
def RowAt {α : Type} (d : Kd α) (e T B b : Nat) (xs : List α) (w : World) : Prop :=
  ∃ sv, w.heap[b]? = some (.cells #[sv] T (0, 0)) ∧ d.R e w B (fun k => k ≠ b) sv xs
theorem RowAt.lt {α : Type} {d : Kd α} {e T B b : Nat} {xs : List α} {w : World} (h : RowAt d e T B b xs w) : b < w.heap.size := let ⟨_, h, _⟩ := h; box_lt h
theorem RowAt.below {α : Type} {d : Kd α} {e T B b : Nat} {xs : List α} {w w' : World} (h : RowAt d e T B b xs w) (hb : Below w.heap.size w w') : RowAt d e T B b xs w' :=
  let ⟨sv, h1, h2⟩ := h
  ⟨sv, blk_below h1 hb, Kd.R_below h2 hb⟩

theorem trimBr_le {l m : Bs} (h : trimBr l = some m) : m.length ≤ l.length := by
  unfold trimBr at h
  have h1 := trim_le l
  cases ht : trim l with
  | nil => rw [ht] at h; simp at h; subst h; simp
  | cons c r =>
    rw [ht] at h h1
    simp only at h
    split at h
    · split at h
      · have h2 := trim_le r.dropLast
        simp only [Option.some.injEq] at h
        subst h
        simp only [List.length_cons, List.length_dropLast] at *
        omega
      · cases h
    · cases h

theorem clos85_ok (pf : Bs → Rd Nat) (hpf : PfOk pf) (l : Bs) (w : World) (b B B0 : Nat) (ps : List Pt) (pt : Pt) (hl : l.length ≤ 1000000000) (hg : Gl B0 w)
   (m : Bs) (hm : trimBr l = some m) (hr : parseP pf m = .ok pt) (hR : RowAt ptK 61 72 B b ps w) (hB : B ≤ b) (hlen : ps.length ≤ 1000000000) :
    Calls Tryz.prog 85 #[S l, .pointer (some ⟨b, 0, none⟩)] w fun e w' => e = .returned .nilIface ∧ Below B w w' ∧ RowAt ptK 61 72 B b (ps ++ [pt]) w' := by
  obtain ⟨sv, hb, hR⟩ := hR
  have hbl : b < w.heap.size := (Array.getElem?_eq_some_iff.1 hb).1
  obtain ⟨A, n, c, rfl⟩ := R_sl hR
  go_enter Tryz.func85, Tryz.ntmps85
  go_wp2_with fail
  refine (trimBr_some l m _ hl hm).mono ?_
  rintro e w1 ⟨rfl, rfl⟩
  have hml : m.length ≤ 1000000000 := Nat.le_trans (trimBr_le hm) hl
  have HM := Lib.hid hm
  clear hm
  go_wp2_with fail
  refine (parseP_any pf hpf m _ hml hg _ hr (by simp)).mono ?_
  rintro e w1 ⟨⟨x, rfl, rfl⟩, hb1⟩
  have hb' : w1.heap[b]? = some (.cells #[.slice A n c] 72 (0, 0)) := (hb1.block b hbl).trans hb
  have hc1 : w1.cell? ⟨b, 0, none⟩ = some (.slice A n c) := box_cell hb'
  have hfz : w1.frozen? ⟨b, 0, none⟩ = false := box_free hb'
  have hR1 : ptK.R 61 w1 B (fun k => k ≠ b) (.slice A n c) ps := Kd.R_below hR hb1
  have hsz := hb1.size
  have hbl1 : b < w1.heap.size := by omega
  have HB1 := Lib.hid hb'
  have HG := Lib.hid hr
  clear hb hb' hR hr
  unfold ptV
  go_wp2_with (at_builtin; go_loud (refine Kd.R_append ptK (w0 := w) B rfl (.tmp 22) (.tmp 24) 72 61 (.agg #[.float .f64 0, .float .f64 0]) 16 rfl Tryz.underlying72 info61 rfl (by decide) (by decide) (.slice A n c) ps pt [.float .f64 pt.1, .float .f64 pt.2] (fun k => k ≠ b) (fun _ => False) rfl (by simp [Act.eval]) ?hp ?hokp ?hfresh ?HO ?HB ?hbase ?hl ?_))
  case hp => exact ptK_M _ _ _ _
  case hokp => exact fun _ h => h.elim
  case hfresh => intro k hk; simp at hk; omega
  case HO => exact Kd.R_alloc hR1 _
  case HB => exact ((hb1.mono (by omega)).alloc (by omega) _)
  case hbase => simp; omega
  case hl => omega
  intro v1 w2 hR2 hb2 hg2 hat2
  have hne : ∀ k, (Value.slice A n c).ownBlock = some k → k ≠ b := hR1.1
  have hw2 : w2.heap[b]? = some (.cells #[.slice A n c] 72 (0, 0)) := (hg2.block b (by simp; omega) (fun e => hne b e.symm rfl)).trans ((Below.heap_alloc _ _ _ hbl1).trans HB1.out)
  have hc2 : w2.cell? ⟨b, 0, none⟩ = some (.slice A n c) := box_cell hw2
  have hfz2 : w2.frozen? ⟨b, 0, none⟩ = false := box_free hw2
  obtain ⟨A1, n1, c1, rfl⟩ := R_sl hR2
  have HR2 := Lib.hid hR2
  have HW2 := Lib.hid hw2
  clear hR2 hw2 hg2 hat2 hc1 hfz hR1 hb1 hne
  go_wp2
  go_ret
  refine ⟨rfl, hb2.setCell hB _, _, box_set HW2.out, Kd.R_far (p := ⟨b, 0, none⟩) HR2.out (fun _ hk => hk) _⟩

theorem clos85_err1 (l : Bs) (w : World) (b B0 : Nat) (hl : l.length ≤ 1000000000) (hg : Gl B0 w) (hm : trimBr l = none) :
    Calls Tryz.prog 85 #[S l, .pointer (some ⟨b, 0, none⟩)] w fun e w' => (∃ u v, e = .returned (.iface u v)) ∧ Below w.heap.size w w' := by
  go_enter Tryz.func85, Tryz.ntmps85
  go_wp2_with fail
  refine (trimBr_none l _ hl hg hm).mono ?_
  rintro e w1 ⟨⟨u, v, rfl⟩, hb1⟩
  have HM := Lib.hid hm
  have HB1 := Lib.hid hb1
  clear hm hb1
  go_wp2
  go_ret
  exact ⟨⟨_, _, rfl⟩, HB1.out⟩
theorem clos85_err2 (pf : Bs → Rd Nat) (hpf : PfOk pf) (l m : Bs) (w : World) (b B0 : Nat) (hl : l.length ≤ 1000000000) (hg : Gl B0 w) (hm : trimBr l = some m) (hr : parseP pf m = .err) :
    Calls Tryz.prog 85 #[S l, .pointer (some ⟨b, 0, none⟩)] w fun e w' => (∃ u v, e = .returned (.iface u v)) ∧ Below w.heap.size w w' := by
  have hml : m.length ≤ 1000000000 := Nat.le_trans (trimBr_le hm) hl
  go_enter Tryz.func85, Tryz.ntmps85
  go_wp2_with fail
  refine (trimBr_some l m _ hl hm).mono ?_
  rintro e w1 ⟨rfl, rfl⟩
  have HM := Lib.hid hm
  clear hm
  go_wp2_with fail
  refine (parseP_any pf hpf m _ hml hg _ hr (by simp)).mono ?_
  rintro e w1 ⟨⟨u, v, rfl⟩, hb1⟩
  have HG := Lib.hid hr
  have HB1 := Lib.hid hb1
  clear hr hb1
  unfold ptV
  go_wp2
  go_ret
  exact ⟨⟨_, _, rfl⟩, HB1.out.alloc HB1.out.size _⟩

theorem clos85_any (pf : Bs → Rd Nat) (hpf : PfOk pf) (l : Bs) (w : World) (b B B0 : Nat) (ps : List Pt) (r : Rd Pt) (hl : l.length ≤ 1000000000) (hg : Gl B0 w)
   (hr : inBr (parseP pf) l = r) (hn : r ≠ .unk) (hR : RowAt ptK 61 72 B b ps w) (hB : B ≤ b) (hlen : ps.length ≤ 1000000000) :
    Calls Tryz.prog 85 #[S l, .pointer (some ⟨b, 0, none⟩)] w fun e w' => Yr r (fun pt w' => RowAt ptK 61 72 B b (ps ++ [pt]) w') e w' ∧ Below B w w' := by
  have hBw : B ≤ w.heap.size := Nat.le_trans hB (Nat.le_of_lt hR.lt)
  unfold inBr at hr
  cases hm : trimBr l with
  | none =>
    rw [hm] at hr
    subst hr
    exact (clos85_err1 l w b B0 hl hg hm).mono fun e w' h => ⟨h.1, h.2.mono hBw⟩
  | some m =>
    rw [hm] at hr
    cases r with
    | unk => exact absurd rfl hn
    | err => exact (clos85_err2 pf hpf l m w b B0 hl hg hm hr).mono fun e w' h => ⟨h.1, h.2.mono hBw⟩
    | ok pt => exact (clos85_ok pf hpf l w b B B0 ps pt hl hg m hm hr hR hB hlen).mono fun e w' h => ⟨⟨h.1, h.2.2⟩, h.2.1⟩

theorem clos80_ok (pf : Bs → Rd Nat) (hpf : PfOk pf) (l : Bs) (w : World) (b B B0 : Nat) (ps : List Pt) (pt : Pt) (hl : l.length ≤ 1000000000) (hg : Gl B0 w)
   (hr : parseP pf l = .ok pt) (hR : RowAt ptK 61 65 B b ps w) (hB : B ≤ b) (hlen : ps.length ≤ 1000000000) :
    Calls Tryz.prog 80 #[S l, .pointer (some ⟨b, 0, none⟩)] w fun e w' => e = .returned .nilIface ∧ Below B w w' ∧ RowAt ptK 61 65 B b (ps ++ [pt]) w' := by
  obtain ⟨sv, hb, hR⟩ := hR
  have hbl : b < w.heap.size := (Array.getElem?_eq_some_iff.1 hb).1
  obtain ⟨A, n, c, rfl⟩ := R_sl hR
  go_enter Tryz.func80, Tryz.ntmps80
  go_wp2_with fail
  refine (parseP_any pf hpf l _ hl hg _ hr (by simp)).mono ?_
  rintro e w1 ⟨⟨x, rfl, rfl⟩, hb1⟩
  have hb' : w1.heap[b]? = some (.cells #[.slice A n c] 65 (0, 0)) := (hb1.block b hbl).trans hb
  have hc1 : w1.cell? ⟨b, 0, none⟩ = some (.slice A n c) := box_cell hb'
  have hfz : w1.frozen? ⟨b, 0, none⟩ = false := box_free hb'
  have hR1 : ptK.R 61 w1 B (fun k => k ≠ b) (.slice A n c) ps := Kd.R_below hR hb1
  have hsz := hb1.size
  have hbl1 : b < w1.heap.size := by omega
  have HB1 := Lib.hid hb'
  have HG := Lib.hid hr
  clear hb hb' hR hr
  unfold ptV
  go_wp2_with (at_builtin; go_loud (refine Kd.R_append ptK (w0 := w) B rfl (.tmp 14) (.tmp 16) 65 61 (.agg #[.float .f64 0, .float .f64 0]) 16 rfl Tryz.underlying65 info61 rfl (by decide) (by decide) (.slice A n c) ps pt [.float .f64 pt.1, .float .f64 pt.2] (fun k => k ≠ b) (fun _ => False) rfl (by simp [Act.eval]) ?hp ?hokp ?hfresh ?HO ?HB ?hbase ?hl ?_))
  case hp => exact ptK_M _ _ _ _
  case hokp => exact fun _ h => h.elim
  case hfresh => intro k hk; simp at hk; omega
  case HO => exact Kd.R_alloc hR1 _
  case HB => exact ((hb1.mono (by omega)).alloc (by omega) _)
  case hbase => simp; omega
  case hl => omega
  intro v1 w2 hR2 hb2 hg2 hat2
  have hne : ∀ k, (Value.slice A n c).ownBlock = some k → k ≠ b := hR1.1
  have hw2 : w2.heap[b]? = some (.cells #[.slice A n c] 65 (0, 0)) := (hg2.block b (by simp; omega) (fun e => hne b e.symm rfl)).trans ((Below.heap_alloc _ _ _ hbl1).trans HB1.out)
  have hc2 : w2.cell? ⟨b, 0, none⟩ = some (.slice A n c) := box_cell hw2
  have hfz2 : w2.frozen? ⟨b, 0, none⟩ = false := box_free hw2
  obtain ⟨A1, n1, c1, rfl⟩ := R_sl hR2
  have HR2 := Lib.hid hR2
  have HW2 := Lib.hid hw2
  clear hR2 hw2 hg2 hat2 hc1 hfz hR1 hb1 hne
  go_wp2
  go_ret
  refine ⟨rfl, hb2.setCell hB _, _, box_set HW2.out, Kd.R_far (p := ⟨b, 0, none⟩) HR2.out (fun _ hk => hk) _⟩

theorem clos80_err (pf : Bs → Rd Nat) (hpf : PfOk pf) (l : Bs) (w : World) (b B0 : Nat) (hl : l.length ≤ 1000000000) (hg : Gl B0 w) (hr : parseP pf l = .err) :
    Calls Tryz.prog 80 #[S l, .pointer (some ⟨b, 0, none⟩)] w fun e w' => (∃ u v, e = .returned (.iface u v)) ∧ Below w.heap.size w w' := by
  go_enter Tryz.func80, Tryz.ntmps80
  go_wp2_with fail
  refine (parseP_any pf hpf l _ hl hg _ hr (by simp)).mono ?_
  rintro e w1 ⟨⟨u, v, rfl⟩, hb1⟩
  have HG := Lib.hid hr
  have HB1 := Lib.hid hb1
  clear hr hb1
  unfold ptV
  go_wp2
  go_ret
  exact ⟨⟨_, _, rfl⟩, HB1.out.alloc HB1.out.size _⟩

theorem clos80_any (pf : Bs → Rd Nat) (hpf : PfOk pf) (l : Bs) (w : World) (b B B0 : Nat) (ps : List Pt) (r : Rd Pt) (hl : l.length ≤ 1000000000) (hg : Gl B0 w)
   (hr : parseP pf l = r) (hn : r ≠ .unk) (hR : RowAt ptK 61 65 B b ps w) (hB : B ≤ b) (hlen : ps.length ≤ 1000000000) :
    Calls Tryz.prog 80 #[S l, .pointer (some ⟨b, 0, none⟩)] w fun e w' => Yr r (fun pt w' => RowAt ptK 61 65 B b (ps ++ [pt]) w') e w' ∧ Below B w w' := by
  cases r with
  | unk => exact absurd rfl hn
  | err => exact (clos80_err pf hpf l w b B0 hl hg hr).mono fun e w' h => ⟨h.1, h.2.mono (Nat.le_trans hB (Nat.le_of_lt hR.lt))⟩
  | ok pt => exact (clos80_ok pf hpf l w b B B0 ps pt hl hg hr hR hB hlen).mono fun e w' h => ⟨⟨h.1, h.2.2⟩, h.2.1⟩

theorem clos84_ok (pf : Bs → Rd Nat) (hpf : PfOk pf) (l : Bs) (w : World) (b B B0 : Nat) (ps : List Pt) (pt : Pt) (hl : l.length ≤ 1000000000) (hg : Gl B0 w)
   (hr : parseP pf l = .ok pt) (hR : RowAt ptK 61 117 B b ps w) (hB : B ≤ b) (hlen : ps.length ≤ 1000000000) :
    Calls Tryz.prog 84 #[S l, .pointer (some ⟨b, 0, none⟩)] w fun e w' => e = .returned .nilIface ∧ Below B w w' ∧ RowAt ptK 61 117 B b (ps ++ [pt]) w' := by
  obtain ⟨sv, hb, hR⟩ := hR
  have hbl : b < w.heap.size := (Array.getElem?_eq_some_iff.1 hb).1
  obtain ⟨A, n, c, rfl⟩ := R_sl hR
  go_enter Tryz.func84, Tryz.ntmps84
  go_wp2_with fail
  refine (parseP_any pf hpf l _ hl hg _ hr (by simp)).mono ?_
  rintro e w1 ⟨⟨x, rfl, rfl⟩, hb1⟩
  have hb' : w1.heap[b]? = some (.cells #[.slice A n c] 117 (0, 0)) := (hb1.block b hbl).trans hb
  have hc1 : w1.cell? ⟨b, 0, none⟩ = some (.slice A n c) := box_cell hb'
  have hfz : w1.frozen? ⟨b, 0, none⟩ = false := box_free hb'
  have hR1 : ptK.R 61 w1 B (fun k => k ≠ b) (.slice A n c) ps := Kd.R_below hR hb1
  have hsz := hb1.size
  have hbl1 : b < w1.heap.size := by omega
  have HB1 := Lib.hid hb'
  have HG := Lib.hid hr
  clear hb hb' hR hr
  unfold ptV
  go_wp2_with (at_builtin; go_loud (refine Kd.R_append ptK (w0 := w) B rfl (.tmp 14) (.tmp 16) 117 61 (.agg #[.float .f64 0, .float .f64 0]) 16 rfl Tryz.underlying117 info61 rfl (by decide) (by decide) (.slice A n c) ps pt [.float .f64 pt.1, .float .f64 pt.2] (fun k => k ≠ b) (fun _ => False) rfl (by simp [Act.eval]) ?hp ?hokp ?hfresh ?HO ?HB ?hbase ?hl ?_))
  case hp => exact ptK_M _ _ _ _
  case hokp => exact fun _ h => h.elim
  case hfresh => intro k hk; simp at hk; omega
  case HO => exact Kd.R_alloc hR1 _
  case HB => exact ((hb1.mono (by omega)).alloc (by omega) _)
  case hbase => simp; omega
  case hl => omega
  intro v1 w2 hR2 hb2 hg2 hat2
  have hne : ∀ k, (Value.slice A n c).ownBlock = some k → k ≠ b := hR1.1
  have hw2 : w2.heap[b]? = some (.cells #[.slice A n c] 117 (0, 0)) := (hg2.block b (by simp; omega) (fun e => hne b e.symm rfl)).trans ((Below.heap_alloc _ _ _ hbl1).trans HB1.out)
  have hc2 : w2.cell? ⟨b, 0, none⟩ = some (.slice A n c) := box_cell hw2
  have hfz2 : w2.frozen? ⟨b, 0, none⟩ = false := box_free hw2
  obtain ⟨A1, n1, c1, rfl⟩ := R_sl hR2
  have HR2 := Lib.hid hR2
  have HW2 := Lib.hid hw2
  clear hR2 hw2 hg2 hat2 hc1 hfz hR1 hb1 hne
  go_wp2
  go_ret
  refine ⟨rfl, hb2.setCell hB _, _, box_set HW2.out, Kd.R_far (p := ⟨b, 0, none⟩) HR2.out (fun _ hk => hk) _⟩

theorem clos84_err (pf : Bs → Rd Nat) (hpf : PfOk pf) (l : Bs) (w : World) (b B0 : Nat) (hl : l.length ≤ 1000000000) (hg : Gl B0 w) (hr : parseP pf l = .err) :
    Calls Tryz.prog 84 #[S l, .pointer (some ⟨b, 0, none⟩)] w fun e w' => (∃ u v, e = .returned (.iface u v)) ∧ Below w.heap.size w w' := by
  go_enter Tryz.func84, Tryz.ntmps84
  go_wp2_with fail
  refine (parseP_any pf hpf l _ hl hg _ hr (by simp)).mono ?_
  rintro e w1 ⟨⟨u, v, rfl⟩, hb1⟩
  have HG := Lib.hid hr
  have HB1 := Lib.hid hb1
  clear hr hb1
  unfold ptV
  go_wp2
  go_ret
  exact ⟨⟨_, _, rfl⟩, HB1.out.alloc HB1.out.size _⟩

theorem clos84_any (pf : Bs → Rd Nat) (hpf : PfOk pf) (l : Bs) (w : World) (b B B0 : Nat) (ps : List Pt) (r : Rd Pt) (hl : l.length ≤ 1000000000) (hg : Gl B0 w)
   (hr : parseP pf l = r) (hn : r ≠ .unk) (hR : RowAt ptK 61 117 B b ps w) (hB : B ≤ b) (hlen : ps.length ≤ 1000000000) :
    Calls Tryz.prog 84 #[S l, .pointer (some ⟨b, 0, none⟩)] w fun e w' => Yr r (fun pt w' => RowAt ptK 61 117 B b (ps ++ [pt]) w') e w' ∧ Below B w w' := by
  cases r with
  | unk => exact absurd rfl hn
  | err => exact (clos84_err pf hpf l w b B0 hl hg hr).mono fun e w' h => ⟨h.1, h.2.mono (Nat.le_trans hB (Nat.le_of_lt hR.lt))⟩
  | ok pt => exact (clos84_ok pf hpf l w b B B0 ps pt hl hg hr hR hB hlen).mono fun e w' h => ⟨⟨h.1, h.2.2⟩, h.2.1⟩

theorem clos88_ok (pf : Bs → Rd Nat) (hpf : PfOk pf) (l : Bs) (w : World) (b B B0 : Nat) (ps : List Pt) (pt : Pt) (hl : l.length ≤ 1000000000) (hg : Gl B0 w)
   (hr : parseP pf l = .ok pt) (hR : RowAt ptK 61 65 B b ps w) (hB : B ≤ b) (hlen : ps.length ≤ 1000000000) :
    Calls Tryz.prog 88 #[S l, .pointer (some ⟨b, 0, none⟩)] w fun e w' => e = .returned .nilIface ∧ Below B w w' ∧ RowAt ptK 61 65 B b (ps ++ [pt]) w' := by
  obtain ⟨sv, hb, hR⟩ := hR
  have hbl : b < w.heap.size := (Array.getElem?_eq_some_iff.1 hb).1
  obtain ⟨A, n, c, rfl⟩ := R_sl hR
  go_enter Tryz.func88, Tryz.ntmps88
  go_wp2_with fail
  refine (parseP_any pf hpf l _ hl hg _ hr (by simp)).mono ?_
  rintro e w1 ⟨⟨x, rfl, rfl⟩, hb1⟩
  have hb' : w1.heap[b]? = some (.cells #[.slice A n c] 65 (0, 0)) := (hb1.block b hbl).trans hb
  have hc1 : w1.cell? ⟨b, 0, none⟩ = some (.slice A n c) := box_cell hb'
  have hfz : w1.frozen? ⟨b, 0, none⟩ = false := box_free hb'
  have hR1 : ptK.R 61 w1 B (fun k => k ≠ b) (.slice A n c) ps := Kd.R_below hR hb1
  have hsz := hb1.size
  have hbl1 : b < w1.heap.size := by omega
  have HB1 := Lib.hid hb'
  have HG := Lib.hid hr
  clear hb hb' hR hr
  unfold ptV
  go_wp2_with (at_builtin; go_loud (refine Kd.R_append ptK (w0 := w) B rfl (.tmp 14) (.tmp 16) 65 61 (.agg #[.float .f64 0, .float .f64 0]) 16 rfl Tryz.underlying65 info61 rfl (by decide) (by decide) (.slice A n c) ps pt [.float .f64 pt.1, .float .f64 pt.2] (fun k => k ≠ b) (fun _ => False) rfl (by simp [Act.eval]) ?hp ?hokp ?hfresh ?HO ?HB ?hbase ?hl ?_))
  case hp => exact ptK_M _ _ _ _
  case hokp => exact fun _ h => h.elim
  case hfresh => intro k hk; simp at hk; omega
  case HO => exact Kd.R_alloc hR1 _
  case HB => exact ((hb1.mono (by omega)).alloc (by omega) _)
  case hbase => simp; omega
  case hl => omega
  intro v1 w2 hR2 hb2 hg2 hat2
  have hne : ∀ k, (Value.slice A n c).ownBlock = some k → k ≠ b := hR1.1
  have hw2 : w2.heap[b]? = some (.cells #[.slice A n c] 65 (0, 0)) := (hg2.block b (by simp; omega) (fun e => hne b e.symm rfl)).trans ((Below.heap_alloc _ _ _ hbl1).trans HB1.out)
  have hc2 : w2.cell? ⟨b, 0, none⟩ = some (.slice A n c) := box_cell hw2
  have hfz2 : w2.frozen? ⟨b, 0, none⟩ = false := box_free hw2
  obtain ⟨A1, n1, c1, rfl⟩ := R_sl hR2
  have HR2 := Lib.hid hR2
  have HW2 := Lib.hid hw2
  clear hR2 hw2 hg2 hat2 hc1 hfz hR1 hb1 hne
  go_wp2
  go_ret
  refine ⟨rfl, hb2.setCell hB _, _, box_set HW2.out, Kd.R_far (p := ⟨b, 0, none⟩) HR2.out (fun _ hk => hk) _⟩

theorem clos88_err (pf : Bs → Rd Nat) (hpf : PfOk pf) (l : Bs) (w : World) (b B0 : Nat) (hl : l.length ≤ 1000000000) (hg : Gl B0 w) (hr : parseP pf l = .err) :
    Calls Tryz.prog 88 #[S l, .pointer (some ⟨b, 0, none⟩)] w fun e w' => (∃ u v, e = .returned (.iface u v)) ∧ Below w.heap.size w w' := by
  go_enter Tryz.func88, Tryz.ntmps88
  go_wp2_with fail
  refine (parseP_any pf hpf l _ hl hg _ hr (by simp)).mono ?_
  rintro e w1 ⟨⟨u, v, rfl⟩, hb1⟩
  have HG := Lib.hid hr
  have HB1 := Lib.hid hb1
  clear hr hb1
  unfold ptV
  go_wp2
  go_ret
  exact ⟨⟨_, _, rfl⟩, HB1.out.alloc HB1.out.size _⟩

theorem clos88_any (pf : Bs → Rd Nat) (hpf : PfOk pf) (l : Bs) (w : World) (b B B0 : Nat) (ps : List Pt) (r : Rd Pt) (hl : l.length ≤ 1000000000) (hg : Gl B0 w)
   (hr : parseP pf l = r) (hn : r ≠ .unk) (hR : RowAt ptK 61 65 B b ps w) (hB : B ≤ b) (hlen : ps.length ≤ 1000000000) :
    Calls Tryz.prog 88 #[S l, .pointer (some ⟨b, 0, none⟩)] w fun e w' => Yr r (fun pt w' => RowAt ptK 61 65 B b (ps ++ [pt]) w') e w' ∧ Below B w w' := by
  cases r with
  | unk => exact absurd rfl hn
  | err => exact (clos88_err pf hpf l w b B0 hl hg hr).mono fun e w' h => ⟨h.1, h.2.mono (Nat.le_trans hB (Nat.le_of_lt hR.lt))⟩
  | ok pt => exact (clos88_ok pf hpf l w b B B0 ps pt hl hg hr hR hB hlen).mono fun e w' h => ⟨⟨h.1, h.2.2⟩, h.2.1⟩

theorem clos93_ok (pf : Bs → Rd Nat) (hpf : PfOk pf) (l : Bs) (w : World) (b B B0 : Nat) (ps : List Pt) (pt : Pt) (hl : l.length ≤ 1000000000) (hg : Gl B0 w)
   (hr : parseP pf l = .ok pt) (hR : RowAt ptK 61 117 B b ps w) (hB : B ≤ b) (hlen : ps.length ≤ 1000000000) :
    Calls Tryz.prog 93 #[S l, .pointer (some ⟨b, 0, none⟩)] w fun e w' => e = .returned .nilIface ∧ Below B w w' ∧ RowAt ptK 61 117 B b (ps ++ [pt]) w' := by
  obtain ⟨sv, hb, hR⟩ := hR
  have hbl : b < w.heap.size := (Array.getElem?_eq_some_iff.1 hb).1
  obtain ⟨A, n, c, rfl⟩ := R_sl hR
  go_enter Tryz.func93, Tryz.ntmps93
  go_wp2_with fail
  refine (parseP_any pf hpf l _ hl hg _ hr (by simp)).mono ?_
  rintro e w1 ⟨⟨x, rfl, rfl⟩, hb1⟩
  have hb' : w1.heap[b]? = some (.cells #[.slice A n c] 117 (0, 0)) := (hb1.block b hbl).trans hb
  have hc1 : w1.cell? ⟨b, 0, none⟩ = some (.slice A n c) := box_cell hb'
  have hfz : w1.frozen? ⟨b, 0, none⟩ = false := box_free hb'
  have hR1 : ptK.R 61 w1 B (fun k => k ≠ b) (.slice A n c) ps := Kd.R_below hR hb1
  have hsz := hb1.size
  have hbl1 : b < w1.heap.size := by omega
  have HB1 := Lib.hid hb'
  have HG := Lib.hid hr
  clear hb hb' hR hr
  unfold ptV
  go_wp2_with (at_builtin; go_loud (refine Kd.R_append ptK (w0 := w) B rfl (.tmp 14) (.tmp 16) 117 61 (.agg #[.float .f64 0, .float .f64 0]) 16 rfl Tryz.underlying117 info61 rfl (by decide) (by decide) (.slice A n c) ps pt [.float .f64 pt.1, .float .f64 pt.2] (fun k => k ≠ b) (fun _ => False) rfl (by simp [Act.eval]) ?hp ?hokp ?hfresh ?HO ?HB ?hbase ?hl ?_))
  case hp => exact ptK_M _ _ _ _
  case hokp => exact fun _ h => h.elim
  case hfresh => intro k hk; simp at hk; omega
  case HO => exact Kd.R_alloc hR1 _
  case HB => exact ((hb1.mono (by omega)).alloc (by omega) _)
  case hbase => simp; omega
  case hl => omega
  intro v1 w2 hR2 hb2 hg2 hat2
  have hne : ∀ k, (Value.slice A n c).ownBlock = some k → k ≠ b := hR1.1
  have hw2 : w2.heap[b]? = some (.cells #[.slice A n c] 117 (0, 0)) := (hg2.block b (by simp; omega) (fun e => hne b e.symm rfl)).trans ((Below.heap_alloc _ _ _ hbl1).trans HB1.out)
  have hc2 : w2.cell? ⟨b, 0, none⟩ = some (.slice A n c) := box_cell hw2
  have hfz2 : w2.frozen? ⟨b, 0, none⟩ = false := box_free hw2
  obtain ⟨A1, n1, c1, rfl⟩ := R_sl hR2
  have HR2 := Lib.hid hR2
  have HW2 := Lib.hid hw2
  clear hR2 hw2 hg2 hat2 hc1 hfz hR1 hb1 hne
  go_wp2
  go_ret
  refine ⟨rfl, hb2.setCell hB _, _, box_set HW2.out, Kd.R_far (p := ⟨b, 0, none⟩) HR2.out (fun _ hk => hk) _⟩

theorem clos93_err (pf : Bs → Rd Nat) (hpf : PfOk pf) (l : Bs) (w : World) (b B0 : Nat) (hl : l.length ≤ 1000000000) (hg : Gl B0 w) (hr : parseP pf l = .err) :
    Calls Tryz.prog 93 #[S l, .pointer (some ⟨b, 0, none⟩)] w fun e w' => (∃ u v, e = .returned (.iface u v)) ∧ Below w.heap.size w w' := by
  go_enter Tryz.func93, Tryz.ntmps93
  go_wp2_with fail
  refine (parseP_any pf hpf l _ hl hg _ hr (by simp)).mono ?_
  rintro e w1 ⟨⟨u, v, rfl⟩, hb1⟩
  have HG := Lib.hid hr
  have HB1 := Lib.hid hb1
  clear hr hb1
  unfold ptV
  go_wp2
  go_ret
  exact ⟨⟨_, _, rfl⟩, HB1.out.alloc HB1.out.size _⟩

theorem clos93_any (pf : Bs → Rd Nat) (hpf : PfOk pf) (l : Bs) (w : World) (b B B0 : Nat) (ps : List Pt) (r : Rd Pt) (hl : l.length ≤ 1000000000) (hg : Gl B0 w)
   (hr : parseP pf l = r) (hn : r ≠ .unk) (hR : RowAt ptK 61 117 B b ps w) (hB : B ≤ b) (hlen : ps.length ≤ 1000000000) :
    Calls Tryz.prog 93 #[S l, .pointer (some ⟨b, 0, none⟩)] w fun e w' => Yr r (fun pt w' => RowAt ptK 61 117 B b (ps ++ [pt]) w') e w' ∧ Below B w w' := by
  cases r with
  | unk => exact absurd rfl hn
  | err => exact (clos93_err pf hpf l w b B0 hl hg hr).mono fun e w' h => ⟨h.1, h.2.mono (Nat.le_trans hB (Nat.le_of_lt hR.lt))⟩
  | ok pt => exact (clos93_ok pf hpf l w b B B0 ps pt hl hg hr hR hB hlen).mono fun e w' h => ⟨⟨h.1, h.2.2⟩, h.2.1⟩
end Go.Proofs.YtghajgdiaopioaaGreatDoor
end
