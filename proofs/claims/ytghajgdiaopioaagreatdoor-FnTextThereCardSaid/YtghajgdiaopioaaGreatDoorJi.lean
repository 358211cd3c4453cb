/- Walks and plain laws joined (Wg, Wh). Conditions: stand in each law. -/
import Derived.Test.YtghajgdiaopioaaGreatDoorJh
set_option linter.unusedVariables false
set_option linter.unusedSimpArgs false
section
/- Walks: the closures that append a row of points. Conditions: stand in each contract. -/
namespace Go.Proofs.YtghajgdiaopioaaGreatDoor
open Go.RowKit Go.Proofs Tx
open Go.Proofs.YtghajgdiaopioaaGreatDoorW.PrintWords
def lineK : Kd (List Pt) := Kd.slice 61 ptK
theorem info117 : (Tryz.prog.info? 117).map (fun i => (i.zero, i.size, i.bytes)) = some (some (.slice none 0 0), 1, 24) := by kernel_rfl
theorem info65 : (Tryz.prog.info? 65).map (fun i => (i.zero, i.size, i.bytes)) = some (some (.slice none 0 0), 1, 24) := by kernel_rfl
theorem info69 : (Tryz.prog.info? 69).map (fun i => (i.zero, i.size, i.bytes)) = some (some (.slice none 0 0), 1, 24) := by kernel_rfl
/-- A row that a closure fills behind B; its head lies in block b under B. -/
def RowIn {α : Type} (d : Kd α) (e T B b : Nat) (xs : List α) (w : World) : Prop :=
  b < B ∧ B ≤ w.heap.size ∧ ∃ sv, w.heap[b]? = some (.cells #[sv] T (0, 0)) ∧ d.R e w B (fun _ => True) sv xs
/-- Under B nothing but block b has changed. -/
structure Fr (B b : Nat) (w w' : World) : Prop where
  os : w'.os = w.os
  tape : w'.tape = w.tape
  output : w'.output = w.output
  size : w.heap.size ≤ w'.heap.size
  block : ∀ k, k < B → k ≠ b → w'.heap[k]? = w.heap[k]?
theorem Fr.refl (B b : Nat) (w : World) : Fr B b w w := ⟨rfl, rfl, rfl, Nat.le_refl _, fun _ _ _ => rfl⟩
theorem Fr.trans {B b : Nat} {w w1 w2 : World} (h : Fr B b w w1) (k : Fr B b w1 w2) : Fr B b w w2 :=
  ⟨k.os.trans h.os, k.tape.trans h.tape, k.output.trans h.output, Nat.le_trans h.size k.size, fun i h1 h2 => (k.block i h1 h2).trans (h.block i h1 h2)⟩
theorem Fr.of_below {B b : Nat} {w w' : World} (h : Below B w w') : Fr B b w w' := ⟨h.os, h.tape, h.output, h.size, fun i h1 _ => h.block i h1⟩
theorem Fr.mono {B B' b : Nat} {w w' : World} (h : Fr B b w w') (hB : B' ≤ B) : Fr B' b w w' := ⟨h.os, h.tape, h.output, h.size, fun i h1 h2 => h.block i (by omega) h2⟩
theorem Fr.below {B b : Nat} {w w' : World} (h : Fr B b w w') (hB : b ≤ B) : Below b w w' := ⟨h.os, h.tape, h.output, h.size, fun i h1 => h.block i (by omega) (by omega)⟩
theorem Fr.setCell {B b : Nat} {w w' : World} (h : Fr B b w w') (v : Value) : Fr B b w (w'.setCell ⟨b, 0, none⟩ v) :=
  ⟨h.os, h.tape, h.output, by simpa [World.setCell] using h.size, fun i h1 h2 => (Below.heap_setCell w' ⟨b, 0, none⟩ v i h2).trans (h.block i h1 h2)⟩
theorem RowIn.below {α : Type} {d : Kd α} {e T B b : Nat} {xs : List α} {w w' : World} (h : RowIn d e T B b xs w) (hb : Below w.heap.size w w') : RowIn d e T B b xs w' :=
  let ⟨h0, h1, sv, h2, h3⟩ := h
  ⟨h0, Nat.le_trans h1 hb.size, sv, blk_below h2 hb, Kd.R_below h3 hb⟩
theorem R_own_ge {α : Type} {d : Kd α} {e : Nat} {w : World} {base : Nat} {ok : Nat → Prop} {v : Value} {xs : List α} (h : d.R e w base ok v xs) : d.R e w base (fun k => base ≤ k) v xs := Kd.R_mono (Kd.R_bound h) (fun k hk => hk.2.1)

theorem call84 : ∀ args w, (callFunc 84 args).run Tryz.prog w = .ok (.enter 84 args) w := by
  intro args w
  kernel_rfl

theorem yields84 (pf : Bs → Rd Nat) (hpf : PfOk pf) (b B B0 : Nat) (w0 : World) (hg : Gl B0 w0) (hB0 : B0 ≤ B) (hB : B ≤ b) :
    Yields 84 b B (parseP pf) (fun ps w => Below B w0 w ∧ RowAt ptK 61 117 B b ps w) := by
  intro l done w r hl hd hi hr hn
  refine (clos84_any pf hpf l w b B B0 done r hl (hg.below hi.1 hB0) hr hn hi.2 hB hd).mono ?_
  rintro e w' ⟨h1, h2⟩
  refine ⟨?_, h2⟩
  cases r with
  | unk => exact absurd rfl hn
  | err => exact h1
  | ok p => exact ⟨h1.1, hi.1.trans h2, h1.2⟩

theorem clos83_b (l : Bs) (w : World) (b B0 : Nat) (hl : l.length ≤ 1000000000) (hg : Gl B0 w) (hm : trimBr l = none) :
    Calls Tryz.prog 83 #[S l, .pointer (some ⟨b, 0, none⟩)] w fun e w' => (∃ u v, e = .returned (.iface u v)) ∧ Below w.heap.size w w' := by
  go_enter Tryz.func83, Tryz.ntmps83
  go_wp2_with fail
  refine (trimBr_none l _ hl hg hm).mono ?_
  rintro e w1 ⟨⟨u, v, rfl⟩, hb1⟩
  have HM := Lib.hid hm
  have HB1 := Lib.hid hb1
  clear hm hb1
  go_wp2
  go_ret
  exact ⟨⟨_, _, rfl⟩, HB1.out⟩

set_option maxRecDepth 20000 in
theorem clos83_r (pf : Bs → Rd Nat) (hpf : PfOk pf) (l m : Bs) (w : World) (b B B0 : Nat) (rs : List (List Pt)) (hl : l.length ≤ 1000000000) (hg : Gl B0 w) (hm : trimBr l = some m)
    (r : Rd (List Pt)) (hr : readPts pf m = r) (hn : r ≠ .unk) (hR : RowIn lineK 117 69 B b rs w) (hlen : rs.length ≤ 1000000000) :
    Calls Tryz.prog 83 #[S l, .pointer (some ⟨b, 0, none⟩)] w fun e w' => Yr r (fun ps w' => RowIn lineK 117 69 B b (rs ++ [ps]) w') e w' ∧ Fr B b w w' := by
  have hml : m.length ≤ 1000000000 := Nat.le_trans (trimBr_le hm) hl
  have hb := trimBr_some l m w hl hm
  have hc := commas_any m w hml
  have hbB : b < B := hR.1
  have hBw : B ≤ w.heap.size := hR.2.1
  have hbl : b < w.heap.size := by omega
  clear hm
  go_enter Tryz.func83, Tryz.ntmps83
  go_wp2_with fail
  refine hb.mono ?_
  rintro e w1 ⟨rfl, rfl⟩
  clear hb
  go_wp2_with fail
  refine hc.mono ?_
  rintro e w1 ⟨⟨n, hnm, rfl⟩, rfl⟩
  clear hc
  go_wp2_with (at_make; go_loud (refine make0 ptK _ rfl _ _ 117 rfl 61 _ _ Tryz.underlying117 info61 _ (n + 1) rfl rfl (by simp) (by omega) (by omega) ?_))
  intro w1 hsz hb1 hR0
  have hR1 := hR0 w.heap.size (fun k => k ≠ w.heap.size + 1) (Nat.le_refl _) (by omega)
  have hR2 := Kd.R_alloc hR1 (.cells #[.slice (some ⟨w.heap.size, 0, none⟩) 0 (n + 1)] 117 (0, 0))
  have hb2 : Below w.heap.size w (w1.alloc (.cells #[.slice (some ⟨w.heap.size, 0, none⟩) 0 (n + 1)] 117 (0, 0))) := hb1.alloc hb1.size _
  have hg2 : Gl B0 (w1.alloc (.cells #[.slice (some ⟨w.heap.size, 0, none⟩) 0 (n + 1)] 117 (0, 0))) := hg.low hb2
  have hnew : (w1.alloc (.cells #[.slice (some ⟨w.heap.size, 0, none⟩) 0 (n + 1)] 117 (0, 0))).heap[w.heap.size + 1]? = some (.cells #[.slice (some ⟨w.heap.size, 0, none⟩) 0 (n + 1)] 117 (0, 0)) := by
    rw [← hsz]; exact blk_new _ _
  have HN := Lib.hid hnew
  have HR := Lib.hid hR2
  have HR0 := Lib.hid hR
  clear hR0 hR1 hnew hR2 hb1 hR
  go_wp2_with fail
  have hw2s : (w1.alloc (.cells #[.slice (some ⟨w.heap.size, 0, none⟩) 0 (n + 1)] 117 (0, 0))).heap.size = w.heap.size + 2 := by simp [hsz]
  have hcall := splitC_any 84 (w.heap.size + 1) w.heap.size (parseP pf) (fun ps w2 => Below w.heap.size (w1.alloc (.cells #[.slice (some ⟨w.heap.size, 0, none⟩) 0 (n + 1)] 117 (0, 0))) w2 ∧ RowAt ptK 61 117 w.heap.size (w.heap.size + 1) ps w2)
    call84 (yields84 pf hpf (w.heap.size + 1) w.heap.size B0 _ hg2 hg.le (by omega)) m _ r hml ⟨Below.refl _ _, _, HN.out, HR.out⟩ hr hn (by omega)
  refine hcall.mono ?_
  clear hcall
  cases r with
  | unk => exact absurd rfl hn
  | err =>
    rintro e w2 ⟨⟨u, v, rfl⟩, hb3⟩
    have HB := Lib.hid (hb2.trans hb3)
    clear hb2 hb3 hr hg2 hw2s
    go_wp2
    go_ret
    exact ⟨⟨_, _, rfl⟩, Fr.of_below (HB.out.mono hBw)⟩
  | ok ps =>
    rintro e w2 ⟨⟨rfl, -, sv, hk, hR3⟩, hb3⟩
    obtain ⟨A, k, c, rfl⟩ := R_sl hR3
    have hb4 := hb2.trans hb3
    have hR3' := R_own_ge hR3
    have hR3'' := Kd.R_lower hR3' hBw
    obtain ⟨-, hBw2, sv, hob, hoR⟩ := HR0.out.below hb4
    obtain ⟨A0, k0, c0, rfl⟩ := R_sl hoR
    have hbs : ∀ k, (Value.slice A0 k0 c0).ownBlock = some k → B ≤ k := Kd.R_base hoR
    have hlt0 : ∀ k, (Value.slice A0 k0 c0).ownBlock = some k → k < w.heap.size := by
      intro k hk
      obtain ⟨-, -, sv', hob', hoR'⟩ := HR0.out
      have e1 : sv' = .slice A0 k0 c0 := by
        have := (blk_below hob' hb4).symm.trans hob
        simpa using this
      subst e1
      exact Kd.R_lt hoR' k hk
    have hcell := box_cell hk
    have hcb := box_cell hob
    have hfb := box_free hob
    have hsz2 := hb4.size
    have HOB := Lib.hid hob
    have HBS := Lib.hid hbs
    have HB := Lib.hid (Below.mono hb4 hBw)
    clear hb2 hb3 hb4 hr hg2 hw2s hR3 hR3' hk hob hbs
    go_wp2_with (at_builtin; go_loud (refine Kd.R_append lineK (w0 := w) B rfl (.tmp 26) (.tmp 28) 69 117 (.slice none 0 0) 24 rfl Tryz.underlying69 info117 rfl (by decide) (by decide) (.slice A0 k0 c0) rs ps [.slice A k c] (fun _ => True) (fun k => w.heap.size ≤ k) rfl (by simp [Act.eval]) ?hp ?hokp ?hfresh ?HO ?HB ?hbase ?hl ?_))
    case hp => exact ⟨_, rfl, hR3''⟩
    case hokp => exact fun k hk => ⟨trivial, fun e => by have := hlt0 k e.symm; omega⟩
    case hfresh => exact fun _ _ => trivial
    case HO => exact hoR
    case HB => exact HB.out
    case hbase => omega
    case hl => omega
    intro v1 w3 hR4 hb5 hg5 hat5
    have hw3 : w3.heap[b]? = some (.cells #[.slice A0 k0 c0] 69 (0, 0)) := (hg5.block b (by omega) (fun e => by have := HBS.out b e.symm; omega)).trans HOB.out
    have hc3 := box_cell hw3
    have hf3 := box_free hw3
    have hsz5 := hb5.size
    obtain ⟨A1, n1, c1, rfl⟩ := R_sl hR4
    have HR4 := Lib.hid hR4
    have HW3 := Lib.hid hw3
    have HRB := Lib.hid (Kd.R_base hR4)
    clear hR4 hw3 hg5 hat5 hR3'' hoR hlt0 hcell hcb hfb
    go_wp2
    go_ret
    exact ⟨⟨rfl, hbB, by simp [World.setCell]; omega, _, box_set HW3.out, Kd.R_mono (Kd.R_far (p := ⟨b, 0, none⟩) (R_own_ge HR4.out) (fun k hk => by show k ≠ b; omega) _) (fun _ _ => trivial)⟩, (Fr.of_below hb5).setCell _⟩

theorem clos83_any (pf : Bs → Rd Nat) (hpf : PfOk pf) (l : Bs) (w : World) (b B B0 : Nat) (rs : List (List Pt)) (r : Rd (List Pt)) (hl : l.length ≤ 1000000000) (hg : Gl B0 w)
   (hr : inBr (readPts pf) l = r) (hn : r ≠ .unk) (hR : RowIn lineK 117 69 B b rs w) (hlen : rs.length ≤ 1000000000) :
    Calls Tryz.prog 83 #[S l, .pointer (some ⟨b, 0, none⟩)] w fun e w' => Yr r (fun ps w' => RowIn lineK 117 69 B b (rs ++ [ps]) w') e w' ∧ Fr B b w w' := by
  have hBw : B ≤ w.heap.size := hR.2.1
  unfold inBr at hr
  cases hm : trimBr l with
  | none =>
    rw [hm] at hr
    subst hr
    exact (clos83_b l w b B0 hl hg hm).mono fun e w' h => ⟨h.1, Fr.of_below (h.2.mono hBw)⟩
  | some m =>
    rw [hm] at hr
    exact clos83_r pf hpf l m w b B B0 rs hl hg hm r hr hn hR hlen

theorem call88 : ∀ args w, (callFunc 88 args).run Tryz.prog w = .ok (.enter 88 args) w := by
  intro args w
  kernel_rfl

theorem yields88 (pf : Bs → Rd Nat) (hpf : PfOk pf) (b B B0 : Nat) (w0 : World) (hg : Gl B0 w0) (hB0 : B0 ≤ B) (hB : B ≤ b) :
    Yields 88 b B (parseP pf) (fun ps w => Below B w0 w ∧ RowAt ptK 61 65 B b ps w) := by
  intro l done w r hl hd hi hr hn
  refine (clos88_any pf hpf l w b B B0 done r hl (hg.below hi.1 hB0) hr hn hi.2 hB hd).mono ?_
  rintro e w' ⟨h1, h2⟩
  refine ⟨?_, h2⟩
  cases r with
  | unk => exact absurd rfl hn
  | err => exact h1
  | ok p => exact ⟨h1.1, hi.1.trans h2, h1.2⟩

theorem clos87_b (l : Bs) (w : World) (b B0 : Nat) (hl : l.length ≤ 1000000000) (hg : Gl B0 w) (hm : trimBr l = none) :
    Calls Tryz.prog 87 #[S l, .pointer (some ⟨b, 0, none⟩)] w fun e w' => (∃ u v, e = .returned (.iface u v)) ∧ Below w.heap.size w w' := by
  go_enter Tryz.func87, Tryz.ntmps87
  go_wp2_with fail
  refine (trimBr_none l _ hl hg hm).mono ?_
  rintro e w1 ⟨⟨u, v, rfl⟩, hb1⟩
  have HM := Lib.hid hm
  have HB1 := Lib.hid hb1
  clear hm hb1
  go_wp2
  go_ret
  exact ⟨⟨_, _, rfl⟩, HB1.out⟩

set_option maxRecDepth 20000 in
theorem clos87_r (pf : Bs → Rd Nat) (hpf : PfOk pf) (l m : Bs) (w : World) (b B B0 : Nat) (rs : List (List Pt)) (hl : l.length ≤ 1000000000) (hg : Gl B0 w) (hm : trimBr l = some m)
    (r : Rd (List Pt)) (hr : readPts pf m = r) (hn : r ≠ .unk) (hR : RowIn lineK 65 76 B b rs w) (hlen : rs.length ≤ 1000000000) :
    Calls Tryz.prog 87 #[S l, .pointer (some ⟨b, 0, none⟩)] w fun e w' => Yr r (fun ps w' => RowIn lineK 65 76 B b (rs ++ [ps]) w') e w' ∧ Fr B b w w' := by
  have hml : m.length ≤ 1000000000 := Nat.le_trans (trimBr_le hm) hl
  have hb := trimBr_some l m w hl hm
  have hc := commas_any m w hml
  have hbB : b < B := hR.1
  have hBw : B ≤ w.heap.size := hR.2.1
  have hbl : b < w.heap.size := by omega
  clear hm
  go_enter Tryz.func87, Tryz.ntmps87
  go_wp2_with fail
  refine hb.mono ?_
  rintro e w1 ⟨rfl, rfl⟩
  clear hb
  go_wp2_with fail
  refine hc.mono ?_
  rintro e w1 ⟨⟨n, hnm, rfl⟩, rfl⟩
  clear hc
  go_wp2_with (at_make; go_loud (refine make0 ptK _ rfl _ _ 65 rfl 61 _ _ Tryz.underlying65 info61 _ (n + 1) rfl rfl (by simp) (by omega) (by omega) ?_))
  intro w1 hsz hb1 hR0
  have hR1 := hR0 w.heap.size (fun k => k ≠ w.heap.size + 1) (Nat.le_refl _) (by omega)
  have hR2 := Kd.R_alloc hR1 (.cells #[.slice (some ⟨w.heap.size, 0, none⟩) 0 (n + 1)] 65 (0, 0))
  have hb2 : Below w.heap.size w (w1.alloc (.cells #[.slice (some ⟨w.heap.size, 0, none⟩) 0 (n + 1)] 65 (0, 0))) := hb1.alloc hb1.size _
  have hg2 : Gl B0 (w1.alloc (.cells #[.slice (some ⟨w.heap.size, 0, none⟩) 0 (n + 1)] 65 (0, 0))) := hg.low hb2
  have hnew : (w1.alloc (.cells #[.slice (some ⟨w.heap.size, 0, none⟩) 0 (n + 1)] 65 (0, 0))).heap[w.heap.size + 1]? = some (.cells #[.slice (some ⟨w.heap.size, 0, none⟩) 0 (n + 1)] 65 (0, 0)) := by
    rw [← hsz]; exact blk_new _ _
  have HN := Lib.hid hnew
  have HR := Lib.hid hR2
  have HR0 := Lib.hid hR
  clear hR0 hR1 hnew hR2 hb1 hR
  go_wp2_with fail
  have hw2s : (w1.alloc (.cells #[.slice (some ⟨w.heap.size, 0, none⟩) 0 (n + 1)] 65 (0, 0))).heap.size = w.heap.size + 2 := by simp [hsz]
  have hcall := splitC_any 88 (w.heap.size + 1) w.heap.size (parseP pf) (fun ps w2 => Below w.heap.size (w1.alloc (.cells #[.slice (some ⟨w.heap.size, 0, none⟩) 0 (n + 1)] 65 (0, 0))) w2 ∧ RowAt ptK 61 65 w.heap.size (w.heap.size + 1) ps w2)
    call88 (yields88 pf hpf (w.heap.size + 1) w.heap.size B0 _ hg2 hg.le (by omega)) m _ r hml ⟨Below.refl _ _, _, HN.out, HR.out⟩ hr hn (by omega)
  refine hcall.mono ?_
  clear hcall
  cases r with
  | unk => exact absurd rfl hn
  | err =>
    rintro e w2 ⟨⟨u, v, rfl⟩, hb3⟩
    have HB := Lib.hid (hb2.trans hb3)
    clear hb2 hb3 hr hg2 hw2s
    go_wp2
    go_ret
    exact ⟨⟨_, _, rfl⟩, Fr.of_below (HB.out.mono hBw)⟩
  | ok ps =>
    rintro e w2 ⟨⟨rfl, -, sv, hk, hR3⟩, hb3⟩
    obtain ⟨A, k, c, rfl⟩ := R_sl hR3
    have hb4 := hb2.trans hb3
    have hR3' := R_own_ge hR3
    have hR3'' := Kd.R_lower hR3' hBw
    obtain ⟨-, hBw2, sv, hob, hoR⟩ := HR0.out.below hb4
    obtain ⟨A0, k0, c0, rfl⟩ := R_sl hoR
    have hbs : ∀ k, (Value.slice A0 k0 c0).ownBlock = some k → B ≤ k := Kd.R_base hoR
    have hlt0 : ∀ k, (Value.slice A0 k0 c0).ownBlock = some k → k < w.heap.size := by
      intro k hk
      obtain ⟨-, -, sv', hob', hoR'⟩ := HR0.out
      have e1 : sv' = .slice A0 k0 c0 := by
        have := (blk_below hob' hb4).symm.trans hob
        simpa using this
      subst e1
      exact Kd.R_lt hoR' k hk
    have hcell := box_cell hk
    have hcb := box_cell hob
    have hfb := box_free hob
    have hsz2 := hb4.size
    have HOB := Lib.hid hob
    have HBS := Lib.hid hbs
    have HB := Lib.hid (Below.mono hb4 hBw)
    clear hb2 hb3 hb4 hr hg2 hw2s hR3 hR3' hk hob hbs
    go_wp2_with (at_builtin; go_loud (refine Kd.R_append lineK (w0 := w) B rfl (.tmp 26) (.tmp 28) 76 65 (.slice none 0 0) 24 rfl Tryz.underlying76 info65 rfl (by decide) (by decide) (.slice A0 k0 c0) rs ps [.slice A k c] (fun _ => True) (fun k => w.heap.size ≤ k) rfl (by simp [Act.eval]) ?hp ?hokp ?hfresh ?HO ?HB ?hbase ?hl ?_))
    case hp => exact ⟨_, rfl, hR3''⟩
    case hokp => exact fun k hk => ⟨trivial, fun e => by have := hlt0 k e.symm; omega⟩
    case hfresh => exact fun _ _ => trivial
    case HO => exact hoR
    case HB => exact HB.out
    case hbase => omega
    case hl => omega
    intro v1 w3 hR4 hb5 hg5 hat5
    have hw3 : w3.heap[b]? = some (.cells #[.slice A0 k0 c0] 76 (0, 0)) := (hg5.block b (by omega) (fun e => by have := HBS.out b e.symm; omega)).trans HOB.out
    have hc3 := box_cell hw3
    have hf3 := box_free hw3
    have hsz5 := hb5.size
    obtain ⟨A1, n1, c1, rfl⟩ := R_sl hR4
    have HR4 := Lib.hid hR4
    have HW3 := Lib.hid hw3
    have HRB := Lib.hid (Kd.R_base hR4)
    clear hR4 hw3 hg5 hat5 hR3'' hoR hlt0 hcell hcb hfb
    go_wp2
    go_ret
    exact ⟨⟨rfl, hbB, by simp [World.setCell]; omega, _, box_set HW3.out, Kd.R_mono (Kd.R_far (p := ⟨b, 0, none⟩) (R_own_ge HR4.out) (fun k hk => by show k ≠ b; omega) _) (fun _ _ => trivial)⟩, (Fr.of_below hb5).setCell _⟩

theorem clos87_any (pf : Bs → Rd Nat) (hpf : PfOk pf) (l : Bs) (w : World) (b B B0 : Nat) (rs : List (List Pt)) (r : Rd (List Pt)) (hl : l.length ≤ 1000000000) (hg : Gl B0 w)
   (hr : inBr (readPts pf) l = r) (hn : r ≠ .unk) (hR : RowIn lineK 65 76 B b rs w) (hlen : rs.length ≤ 1000000000) :
    Calls Tryz.prog 87 #[S l, .pointer (some ⟨b, 0, none⟩)] w fun e w' => Yr r (fun ps w' => RowIn lineK 65 76 B b (rs ++ [ps]) w') e w' ∧ Fr B b w w' := by
  have hBw : B ≤ w.heap.size := hR.2.1
  unfold inBr at hr
  cases hm : trimBr l with
  | none =>
    rw [hm] at hr
    subst hr
    exact (clos87_b l w b B0 hl hg hm).mono fun e w' h => ⟨h.1, Fr.of_below (h.2.mono hBw)⟩
  | some m =>
    rw [hm] at hr
    exact clos87_r pf hpf l m w b B B0 rs hl hg hm r hr hn hR hlen

theorem call93 : ∀ args w, (callFunc 93 args).run Tryz.prog w = .ok (.enter 93 args) w := by
  intro args w
  kernel_rfl

theorem yields93 (pf : Bs → Rd Nat) (hpf : PfOk pf) (b B B0 : Nat) (w0 : World) (hg : Gl B0 w0) (hB0 : B0 ≤ B) (hB : B ≤ b) :
    Yields 93 b B (parseP pf) (fun ps w => Below B w0 w ∧ RowAt ptK 61 117 B b ps w) := by
  intro l done w r hl hd hi hr hn
  refine (clos93_any pf hpf l w b B B0 done r hl (hg.below hi.1 hB0) hr hn hi.2 hB hd).mono ?_
  rintro e w' ⟨h1, h2⟩
  refine ⟨?_, h2⟩
  cases r with
  | unk => exact absurd rfl hn
  | err => exact h1
  | ok p => exact ⟨h1.1, hi.1.trans h2, h1.2⟩

theorem clos92_b (l : Bs) (w : World) (b B0 : Nat) (hl : l.length ≤ 1000000000) (hg : Gl B0 w) (hm : trimBr l = none) :
    Calls Tryz.prog 92 #[S l, .pointer (some ⟨b, 0, none⟩)] w fun e w' => (∃ u v, e = .returned (.iface u v)) ∧ Below w.heap.size w w' := by
  go_enter Tryz.func92, Tryz.ntmps92
  go_wp2_with fail
  refine (trimBr_none l _ hl hg hm).mono ?_
  rintro e w1 ⟨⟨u, v, rfl⟩, hb1⟩
  have HM := Lib.hid hm
  have HB1 := Lib.hid hb1
  clear hm hb1
  go_wp2
  go_ret
  exact ⟨⟨_, _, rfl⟩, HB1.out⟩

set_option maxRecDepth 20000 in
theorem clos92_r (pf : Bs → Rd Nat) (hpf : PfOk pf) (l m : Bs) (w : World) (b B B0 : Nat) (rs : List (List Pt)) (hl : l.length ≤ 1000000000) (hg : Gl B0 w) (hm : trimBr l = some m)
    (r : Rd (List Pt)) (hr : readPts pf m = r) (hn : r ≠ .unk) (hR : RowIn lineK 117 69 B b rs w) (hlen : rs.length ≤ 1000000000) :
    Calls Tryz.prog 92 #[S l, .pointer (some ⟨b, 0, none⟩)] w fun e w' => Yr r (fun ps w' => RowIn lineK 117 69 B b (rs ++ [ps]) w') e w' ∧ Fr B b w w' := by
  have hml : m.length ≤ 1000000000 := Nat.le_trans (trimBr_le hm) hl
  have hb := trimBr_some l m w hl hm
  have hc := commas_any m w hml
  have hbB : b < B := hR.1
  have hBw : B ≤ w.heap.size := hR.2.1
  have hbl : b < w.heap.size := by omega
  clear hm
  go_enter Tryz.func92, Tryz.ntmps92
  go_wp2_with fail
  refine hb.mono ?_
  rintro e w1 ⟨rfl, rfl⟩
  clear hb
  go_wp2_with fail
  refine hc.mono ?_
  rintro e w1 ⟨⟨n, hnm, rfl⟩, rfl⟩
  clear hc
  go_wp2_with (at_make; go_loud (refine make0 ptK _ rfl _ _ 117 rfl 61 _ _ Tryz.underlying117 info61 _ (n + 1) rfl rfl (by simp) (by omega) (by omega) ?_))
  intro w1 hsz hb1 hR0
  have hR1 := hR0 w.heap.size (fun k => k ≠ w.heap.size + 1) (Nat.le_refl _) (by omega)
  have hR2 := Kd.R_alloc hR1 (.cells #[.slice (some ⟨w.heap.size, 0, none⟩) 0 (n + 1)] 117 (0, 0))
  have hb2 : Below w.heap.size w (w1.alloc (.cells #[.slice (some ⟨w.heap.size, 0, none⟩) 0 (n + 1)] 117 (0, 0))) := hb1.alloc hb1.size _
  have hg2 : Gl B0 (w1.alloc (.cells #[.slice (some ⟨w.heap.size, 0, none⟩) 0 (n + 1)] 117 (0, 0))) := hg.low hb2
  have hnew : (w1.alloc (.cells #[.slice (some ⟨w.heap.size, 0, none⟩) 0 (n + 1)] 117 (0, 0))).heap[w.heap.size + 1]? = some (.cells #[.slice (some ⟨w.heap.size, 0, none⟩) 0 (n + 1)] 117 (0, 0)) := by
    rw [← hsz]; exact blk_new _ _
  have HN := Lib.hid hnew
  have HR := Lib.hid hR2
  have HR0 := Lib.hid hR
  clear hR0 hR1 hnew hR2 hb1 hR
  go_wp2_with fail
  have hw2s : (w1.alloc (.cells #[.slice (some ⟨w.heap.size, 0, none⟩) 0 (n + 1)] 117 (0, 0))).heap.size = w.heap.size + 2 := by simp [hsz]
  have hcall := splitC_any 93 (w.heap.size + 1) w.heap.size (parseP pf) (fun ps w2 => Below w.heap.size (w1.alloc (.cells #[.slice (some ⟨w.heap.size, 0, none⟩) 0 (n + 1)] 117 (0, 0))) w2 ∧ RowAt ptK 61 117 w.heap.size (w.heap.size + 1) ps w2)
    call93 (yields93 pf hpf (w.heap.size + 1) w.heap.size B0 _ hg2 hg.le (by omega)) m _ r hml ⟨Below.refl _ _, _, HN.out, HR.out⟩ hr hn (by omega)
  refine hcall.mono ?_
  clear hcall
  cases r with
  | unk => exact absurd rfl hn
  | err =>
    rintro e w2 ⟨⟨u, v, rfl⟩, hb3⟩
    have HB := Lib.hid (hb2.trans hb3)
    clear hb2 hb3 hr hg2 hw2s
    go_wp2
    go_ret
    exact ⟨⟨_, _, rfl⟩, Fr.of_below (HB.out.mono hBw)⟩
  | ok ps =>
    rintro e w2 ⟨⟨rfl, -, sv, hk, hR3⟩, hb3⟩
    obtain ⟨A, k, c, rfl⟩ := R_sl hR3
    have hb4 := hb2.trans hb3
    have hR3' := R_own_ge hR3
    have hR3'' := Kd.R_lower hR3' hBw
    obtain ⟨-, hBw2, sv, hob, hoR⟩ := HR0.out.below hb4
    obtain ⟨A0, k0, c0, rfl⟩ := R_sl hoR
    have hbs : ∀ k, (Value.slice A0 k0 c0).ownBlock = some k → B ≤ k := Kd.R_base hoR
    have hlt0 : ∀ k, (Value.slice A0 k0 c0).ownBlock = some k → k < w.heap.size := by
      intro k hk
      obtain ⟨-, -, sv', hob', hoR'⟩ := HR0.out
      have e1 : sv' = .slice A0 k0 c0 := by
        have := (blk_below hob' hb4).symm.trans hob
        simpa using this
      subst e1
      exact Kd.R_lt hoR' k hk
    have hcell := box_cell hk
    have hcb := box_cell hob
    have hfb := box_free hob
    have hsz2 := hb4.size
    have HOB := Lib.hid hob
    have HBS := Lib.hid hbs
    have HB := Lib.hid (Below.mono hb4 hBw)
    clear hb2 hb3 hb4 hr hg2 hw2s hR3 hR3' hk hob hbs
    go_wp2_with (at_builtin; go_loud (refine Kd.R_append lineK (w0 := w) B rfl (.tmp 26) (.tmp 28) 69 117 (.slice none 0 0) 24 rfl Tryz.underlying69 info117 rfl (by decide) (by decide) (.slice A0 k0 c0) rs ps [.slice A k c] (fun _ => True) (fun k => w.heap.size ≤ k) rfl (by simp [Act.eval]) ?hp ?hokp ?hfresh ?HO ?HB ?hbase ?hl ?_))
    case hp => exact ⟨_, rfl, hR3''⟩
    case hokp => exact fun k hk => ⟨trivial, fun e => by have := hlt0 k e.symm; omega⟩
    case hfresh => exact fun _ _ => trivial
    case HO => exact hoR
    case HB => exact HB.out
    case hbase => omega
    case hl => omega
    intro v1 w3 hR4 hb5 hg5 hat5
    have hw3 : w3.heap[b]? = some (.cells #[.slice A0 k0 c0] 69 (0, 0)) := (hg5.block b (by omega) (fun e => by have := HBS.out b e.symm; omega)).trans HOB.out
    have hc3 := box_cell hw3
    have hf3 := box_free hw3
    have hsz5 := hb5.size
    obtain ⟨A1, n1, c1, rfl⟩ := R_sl hR4
    have HR4 := Lib.hid hR4
    have HW3 := Lib.hid hw3
    have HRB := Lib.hid (Kd.R_base hR4)
    clear hR4 hw3 hg5 hat5 hR3'' hoR hlt0 hcell hcb hfb
    go_wp2
    go_ret
    exact ⟨⟨rfl, hbB, by simp [World.setCell]; omega, _, box_set HW3.out, Kd.R_mono (Kd.R_far (p := ⟨b, 0, none⟩) (R_own_ge HR4.out) (fun k hk => by show k ≠ b; omega) _) (fun _ _ => trivial)⟩, (Fr.of_below hb5).setCell _⟩

theorem clos92_any (pf : Bs → Rd Nat) (hpf : PfOk pf) (l : Bs) (w : World) (b B B0 : Nat) (rs : List (List Pt)) (r : Rd (List Pt)) (hl : l.length ≤ 1000000000) (hg : Gl B0 w)
   (hr : inBr (readPts pf) l = r) (hn : r ≠ .unk) (hR : RowIn lineK 117 69 B b rs w) (hlen : rs.length ≤ 1000000000) :
    Calls Tryz.prog 92 #[S l, .pointer (some ⟨b, 0, none⟩)] w fun e w' => Yr r (fun ps w' => RowIn lineK 117 69 B b (rs ++ [ps]) w') e w' ∧ Fr B b w w' := by
  have hBw : B ≤ w.heap.size := hR.2.1
  unfold inBr at hr
  cases hm : trimBr l with
  | none =>
    rw [hm] at hr
    subst hr
    exact (clos92_b l w b B0 hl hg hm).mono fun e w' h => ⟨h.1, Fr.of_below (h.2.mono hBw)⟩
  | some m =>
    rw [hm] at hr
    exact clos92_r pf hpf l m w b B B0 rs hl hg hm r hr hn hR hlen
/-! Walks: inClass, overClass, matchParens; the plain law of the matches. -/
/-! ### Plain: the match at a place -/
def mPa (double : Bool) (l : Bs) (i : Nat) : Option (Nat × Nat × Nat) :=
  if atIs l i 41 then
    let b := if double then i + 1 + over (l.drop (i + 1)) else i
    if atIs l b 41 then
      let f := b + 1
      let k := f + over (l.drop f)
      if atIs l k 44 then
        let t := k + 1 + over (l.drop (k + 1))
        if atIs l t 40 then
          if double then
            let e := t + 1 + over (l.drop (t + 1))
            if atIs l e 40 then some (f, t, e + 1) else none
          else some (f, t, t + 1)
        else none
      else none
    else none
  else none
theorem atIs_drop (l : Bs) (i k : Nat) (c : UInt8) : atIs (l.drop i) k c = atIs l (i + k) c := by
  unfold atIs; rw [List.getElem?_drop]
theorem mP_at (double : Bool) (l : Bs) (i : Nat) : mPa double l i = (mP double (l.drop i)).map fun x => (i + x.1, i + x.2.1, i + x.2.2) := by
  unfold mPa mP
  simp only [atIs_drop, List.drop_drop]
  cases double
  · simp only [Bool.false_eq_true, if_false, Nat.add_zero, Nat.zero_add]
    split
    · have e1 : ∀ x, i + (1 + x + 1 + over (l.drop (i + (1 + x + 1)))) = i + 1 + x + 1 + over (l.drop (i + 1 + x + 1)) := by intro x; simp only [← Nat.add_assoc]
      simp only [← Nat.add_assoc]
      repeat' split
      all_goals first | rfl | (simp_all <;> omega)
    · rfl
  · simp only [if_true, Nat.add_zero, Nat.zero_add]
    split
    · simp only [← Nat.add_assoc]
      repeat' split
      all_goals first | rfl | (simp_all <;> omega)
    · rfl
theorem atIs_lt {l : Bs} {k : Nat} {c : UInt8} (h : atIs l k c = true) : k < l.length := by
  unfold atIs at h
  by_cases e : k < l.length
  · exact e
  · rw [List.getElem?_eq_none (by omega)] at h; cases h
theorem mPa_lim {double : Bool} {l : Bs} {i f t e : Nat} (h : mPa double l i = some (f, t, e)) : i < f ∧ f ≤ t ∧ t < e ∧ e ≤ l.length := by
  cases double <;> simp only [mPa, Bool.false_eq_true, if_false, if_true, Option.ite_none_right_eq_some, Option.some.injEq, Prod.mk.injEq] at h
  · obtain ⟨_, _, _, h4, rfl, rfl, rfl⟩ := h
    have := atIs_lt h4
    omega
  · obtain ⟨_, _, _, _, h4, rfl, rfl, rfl⟩ := h
    have := atIs_lt h4
    omega
/-- The matches from place i on: where each begins, ends, and where what stands between the inner brackets begins and ends. -/
def mts (double : Bool) (l : Bs) : Nat → Nat → List (Nat × Nat × Nat × Nat)
  | 0, _ => []
  | n + 1, i => if i < l.length then (match mPa double l i with | none => mts double l n (i + 1) | some (f, t, e) => (i, e, f, t) :: mts double l n e) else []
def cutM (l : Bs) (b : Nat) : List (Nat × Nat × Nat × Nat) → List Bs
  | [] => [l.drop b]
  | x :: ms => (l.take x.2.2.1).drop b :: cutM l x.2.2.2 ms
theorem mts_end (double : Bool) (l : Bs) (n i : Nat) (h : ¬ i < l.length) : mts double l n i = [] := by
  cases n with
  | zero => rfl
  | succ n => unfold mts; rw [if_neg h]
theorem goP_cut (double : Bool) (l : Bs) : ∀ n i b, b ≤ i → i ≤ l.length → l.length - i ≤ n → goP double n ((l.take i).drop b) (l.drop i) = cutM l b (mts double l n i)
  | 0, i, b, hb, hi, hn => by
    have : i = l.length := by omega
    subst this
    simp [goP, mts, cutM]
  | n + 1, i, b, hb, hi, hn => by
    unfold mts
    by_cases hlt : i < l.length
    · rw [if_pos hlt]
      have hm := mP_at double l i
      rw [List.drop_eq_getElem_cons hlt] at hm ⊢
      rw [goP]
      cases hmp : mP double (l[i] :: l.drop (i + 1)) with
      | none =>
        rw [hmp] at hm
        simp only [Option.map_none] at hm
        simp only [hm]
        rw [← goP_cut double l n (i + 1) b (by omega) (by omega) (by omega), take_drop_snoc hb hlt]
      | some x =>
        obtain ⟨f, t, e⟩ := x
        rw [hmp] at hm
        simp only [Option.map_some] at hm
        obtain ⟨h1, h2, h3, h4⟩ := mPa_lim hm
        simp only [hm, cutM]
        rw [← goP_cut double l n (i + e) (i + t) (by omega) h4 (by omega)]
        rw [← List.drop_eq_getElem_cons hlt]
        congr 1
        · rw [List.take_add, List.drop_append]
          simp only [List.length_take]
          rw [show b - min i l.length = 0 by omega, List.drop_zero]
        · congr 1
          · rw [List.drop_take, List.drop_take, List.drop_drop, show i + e - (i + t) = e - t by omega]
          · rw [List.drop_drop]
    · rw [if_neg hlt]
      have : i = l.length := by omega
      subst this
      simp [goP, cutM]
theorem splitP_cut (double : Bool) (l : Bs) : splitP double l = cutM l 0 (mts double l l.length 0) := by
  have := goP_cut double l l.length 0 0 (Nat.le_refl _) (Nat.zero_le _) (by omega)
  simpa [splitP] using this
end Go.Proofs.YtghajgdiaopioaaGreatDoor
end
