/- Walks and plain laws joined (Wl, Wm). Conditions: stand in each law. -/
import Derived.Test.YtghajgdiaopioaaGreatDoorJk
set_option linter.unusedVariables false
set_option linter.unusedSimpArgs false
section
/- Walks: unmarshalPolygon, unmarshalMultiLineString, unmarshalMultiPolygon, unmarshalMultiPoint. Conditions: stand in each contract. -/
namespace Go.Proofs.YtghajgdiaopioaaGreatDoor
open Go.RowKit Go.Proofs Tx
open Go.Proofs.YtghajgdiaopioaaGreatDoorW.PrintWords
theorem call83 : ∀ args w, (callFunc 83 args).run Tryz.prog w = .ok (.enter 83 args) w := by
  intro args w
  kernel_rfl
theorem yin83 (pf : Bs → Rd Nat) (hpf : PfOk pf) (B0 : Nat) : YieldsIn 83 B0 lineK 117 69 (inBr (readPts pf)) := by
  intro l done w b B r hl hd hg hb hR hr hn
  exact clos83_any pf hpf l w b B B0 done r hl hg hr hn hR hd

theorem call87 : ∀ args w, (callFunc 87 args).run Tryz.prog w = .ok (.enter 87 args) w := by
  intro args w
  kernel_rfl
theorem yin87 (pf : Bs → Rd Nat) (hpf : PfOk pf) (B0 : Nat) : YieldsIn 87 B0 lineK 65 76 (inBr (readPts pf)) := by
  intro l done w b B r hl hd hg hb hR hr hn
  exact clos87_any pf hpf l w b B B0 done r hl hg hr hn hR hd

theorem call92 : ∀ args w, (callFunc 92 args).run Tryz.prog w = .ok (.enter 92 args) w := by
  intro args w
  kernel_rfl
theorem yin92 (pf : Bs → Rd Nat) (hpf : PfOk pf) (B0 : Nat) : YieldsIn 92 B0 lineK 117 69 (inBr (readPts pf)) := by
  intro l done w b B r hl hd hg hb hR hr hn
  exact clos92_any pf hpf l w b B B0 done r hl hg hr hn hR hd

theorem call90 : ∀ args w, (callFunc 90 args).run Tryz.prog w = .ok (.enter 90 args) w := by
  intro args w
  kernel_rfl
theorem clos90_b (l : Bs) (w : World) (b B0 : Nat) (hl : l.length ≤ 1000000000) (hg : Gl B0 w) (hm : trimBr l = none) :
    Calls Tryz.prog 90 #[S l, .pointer (some ⟨b, 0, none⟩)] w fun e w' => (∃ u v, e = .returned (.iface u v)) ∧ Below w.heap.size w w' := by
  go_enter Tryz.func90, Tryz.ntmps90
  go_wp2_with fail
  refine (trimBr_none l _ hl hg hm).mono ?_
  rintro e w1 ⟨⟨u, v, rfl⟩, hb1⟩
  have HM := Lib.hid hm
  have HB1 := Lib.hid hb1
  clear hm hb1
  go_wp2
  go_ret
  exact ⟨⟨_, _, rfl⟩, HB1.out⟩
set_option maxRecDepth 20000 in
theorem clos90_r (pf : Bs → Rd Nat) (hpf : PfOk pf) (l m : Bs) (w : World) (b B B0 : Nat) (qs : List (List (List Pt))) (hl : l.length ≤ 1000000000) (hg : Gl B0 w) (hm : trimBr l = some m)
    (r : Rd (List (List Pt))) (hr : readRings pf m = r) (hn : r ≠ .unk) (hR : RowIn polyK 69 80 B b qs w) (hB0 : B0 ≤ b) (hlen : qs.length ≤ 1000000000) :
    Calls Tryz.prog 90 #[S l, .pointer (some ⟨b, 0, none⟩)] w fun e w' => Yr r (fun rs w' => RowIn polyK 69 80 B b (qs ++ [rs]) w') e w' ∧ Fr B b w w' := by
  have hml : m.length ≤ 1000000000 := Nat.le_trans (trimBr_le hm) hl
  have hb := trimBr_some l m w hl hm
  have hbB : b < B := hR.1
  have hBw : B ≤ w.heap.size := hR.2.1
  have hbl : b < w.heap.size := by omega
  clear hm
  have hb2 : Below w.heap.size w (w.alloc (.cells #[.slice none 0 0] 69 (0, 0))) := below_alloc1 _ _
  have hg2 : Gl B0 (w.alloc (.cells #[.slice none 0 0] 69 (0, 0))) := hg.low hb2
  have hcall := regex_any 91 92 lineK 117 69 (inBr (readPts pf)) call91 call92 makes91 B0 (yin92 pf hpf B0) false m (w.alloc (.cells #[.slice none 0 0] 69 (0, 0))) w.heap.size r hml hg2 (by omega) (blk_new _ _) hr hn
  have HR0 := Lib.hid hR
  clear hR hr
  go_enter Tryz.func90, Tryz.ntmps90
  go_wp2_with fail
  refine hb.mono ?_
  rintro e w1 ⟨rfl, rfl⟩
  clear hb
  go_wp2_with fail
  refine hcall.mono ?_
  clear hcall
  cases r with
  | unk => exact absurd rfl hn
  | err =>
    rintro e w2 ⟨⟨u, v, rfl⟩, hb3⟩
    have HB := Lib.hid (hb2.trans (hb3.below (by simp)))
    clear hb2 hb3 hg2
    go_wp2
    go_ret
    exact ⟨⟨_, _, rfl⟩, Fr.of_below (HB.out.mono hBw)⟩
  | ok rs =>
    rintro e w2 ⟨⟨rfl, sv, hk, hR3⟩, hb3⟩
    obtain ⟨A, k, c, rfl⟩ := R_sl hR3
    have hb4 := hb2.trans (hb3.below (by simp))
    have hR3' : lineK.R 117 w2 w.heap.size (fun k => w.heap.size ≤ k) (.slice A k c) rs := R_own_ge (Kd.R_lower hR3 (by simp))
    have hR3'' := Kd.R_lower hR3' hBw
    obtain ⟨-, hBw2, sv, hob, hoR⟩ := HR0.out.below hb4
    obtain ⟨A0, k0, c0, rfl⟩ := R_sl hoR
    have hbs : ∀ k, (Value.slice A0 k0 c0).ownBlock = some k → B ≤ k := Kd.R_base hoR
    have hlt0 : ∀ k, (Value.slice A0 k0 c0).ownBlock = some k → k < w.heap.size := by
      intro k hk
      obtain ⟨-, -, sv', hob', hoR'⟩ := HR0.out
      have e1 : sv' = .slice A0 k0 c0 := by
        have := (blk_below hob' hb4).symm.trans hob
        simpa using this
      subst e1
      exact Kd.R_lt hoR' k hk
    have hcell := box_cell hk
    have hcb := box_cell hob
    have hfb := box_free hob
    have hsz2 := hb4.size
    have HOB := Lib.hid hob
    have HBS := Lib.hid hbs
    have HB := Lib.hid (Below.mono hb4 hBw)
    clear hb2 hb3 hb4 hg2 hR3 hR3' hk hob hbs
    go_wp2_with (at_builtin; go_loud (refine Kd.R_append polyK (w0 := w) B rfl (.tmp 21) (.tmp 23) 80 69 (.slice none 0 0) 24 rfl Tryz.underlying80 info69 rfl (by decide) (by decide) (.slice A0 k0 c0) qs rs [.slice A k c] (fun _ => True) (fun k => w.heap.size ≤ k) rfl (by simp [Act.eval]) ?hp ?hokp ?hfresh ?HO ?HB ?hbase ?hl ?_))
    case hp => exact ⟨_, rfl, hR3''⟩
    case hokp => exact fun k hk => ⟨trivial, fun e => by have := hlt0 k e.symm; omega⟩
    case hfresh => exact fun _ _ => trivial
    case HO => exact hoR
    case HB => exact HB.out
    case hbase => omega
    case hl => omega
    intro v1 w3 hR4 hb5 hg5 hat5
    have hw3 : w3.heap[b]? = some (.cells #[.slice A0 k0 c0] 80 (0, 0)) := (hg5.block b (by omega) (fun e => by have := HBS.out b e.symm; omega)).trans HOB.out
    have hc3 := box_cell hw3
    have hf3 := box_free hw3
    have hsz5 := hb5.size
    obtain ⟨A1, n1, c1, rfl⟩ := R_sl hR4
    have HR4 := Lib.hid hR4
    have HW3 := Lib.hid hw3
    clear hR4 hw3 hg5 hat5 hR3'' hoR hlt0 hcell hcb hfb
    go_wp2
    go_ret
    exact ⟨⟨rfl, hbB, by simp [World.setCell]; omega, _, box_set HW3.out, Kd.R_mono (Kd.R_far (p := ⟨b, 0, none⟩) (R_own_ge HR4.out) (fun k hk => by show k ≠ b; omega) _) (fun _ _ => trivial)⟩, (Fr.of_below hb5).setCell _⟩
theorem yin90 (pf : Bs → Rd Nat) (hpf : PfOk pf) (B0 : Nat) : YieldsIn 90 B0 polyK 69 80 (inBr (readRings pf)) := by
  intro l qs w b B r hl hd hg hb hR hr hn
  have hBw : B ≤ w.heap.size := hR.2.1
  unfold inBr at hr
  cases hm : trimBr l with
  | none =>
    rw [hm] at hr
    subst hr
    exact (clos90_b l w b B0 hl hg hm).mono fun e w' h => ⟨h.1, Fr.of_below (h.2.mono hBw)⟩
  | some m =>
    rw [hm] at hr
    exact clos90_r pf hpf l m w b B B0 qs hl hg hm r hr hn hR hb hd

theorem um55_e (s : Bs) (w : World) (hl : s.length ≤ 1000000000) (ha : Asc s) (he : eqF s (word 3 ++ emptyW) = true) :
    Calls Tryz.prog 55 #[S s] w fun e w' => ∃ x, e = .returned (.tuple #[x, .nilIface]) ∧ lineK.R 117 w' w.heap.size (fun _ => True) x [] ∧ Below w.heap.size w w' := by
  have hf := fold_any s (word 3 ++ emptyW) w hl ha (size_asc 3)
  rw [he] at hf
  go_enter Tryz.func55, Tryz.ntmps55
  go_wp2_with fail
  refine hf.mono ?_
  rintro e w' ⟨rfl, rfl⟩
  clear he hf
  go_wp2
  go_ret2
  exact ⟨_, rfl, R_empty _ _ _, below_alloc1 _ _⟩
theorem um55_b (s : Bs) (w : World) {B0 : Nat} (hg : Gl B0 w) (hl : s.length ≤ 1000000000) (h10 : 7 ≤ s.length) (ha : Asc s) (he : eqF s (word 3 ++ emptyW) = false) (hm : trimBr (s.drop 7) = none) :
    Calls Tryz.prog 55 #[S s] w fun e w' => (∃ u v, e = .returned (.tuple #[.slice none 0 0, .iface u v])) ∧ Below w.heap.size w w' := by
  have hf := fold_any s (word 3 ++ emptyW) w hl ha (size_asc 3)
  rw [he] at hf
  have hd : (s.drop 7).length ≤ 1000000000 := by simp; omega
  have hb := trimBr_none (s.drop 7) w hd hg hm
  clear he hm
  go_enter Tryz.func55, Tryz.ntmps55
  go_wp2_with fail
  refine hf.mono ?_
  rintro e w' ⟨rfl, rfl⟩
  clear hf
  go_wp2_with fail
  refine hb.mono ?_
  rintro e w1 ⟨⟨u, v, rfl⟩, hb1⟩
  clear hb
  have HB := Lib.hid hb1
  clear hb1
  go_wp2
  go_ret2
  exact ⟨⟨_, _, rfl⟩, HB.out⟩
set_option maxRecDepth 20000 in
theorem um55_r (pf : Bs → Rd Nat) (hpf : PfOk pf) (s m : Bs) (w : World) {B0 : Nat} (hg : Gl B0 w) (hl : s.length ≤ 1000000000) (h10 : 7 ≤ s.length) (ha : Asc s) (he : eqF s (word 3 ++ emptyW) = false) (hm : trimBr (s.drop 7) = some m)
    (r : Rd (List (List Pt))) (hr : readRings pf m = r) (hn : r ≠ .unk) :
    Calls Tryz.prog 55 #[S s] w fun e w' => Res (.slice none 0 0) r (fun xs x w' => lineK.R 117 w' w.heap.size (fun _ => True) x xs) e w' ∧ Below w.heap.size w w' := by
  have hf := fold_any s (word 3 ++ emptyW) w hl ha (size_asc 3)
  rw [he] at hf
  have hd : (s.drop 7).length ≤ 1000000000 := by simp; omega
  have hml : m.length ≤ 1000000000 := Nat.le_trans (trimBr_le hm) hd
  have hb := trimBr_some (s.drop 7) m w hd hm
  have hgl := hg.le
  have hb2 : Below w.heap.size w (w.alloc (.cells #[.slice none 0 0] 69 (0, 0))) := below_alloc1 _ _
  have hg2 : Gl B0 (w.alloc (.cells #[.slice none 0 0] 69 (0, 0))) := hg.low hb2
  have hcall := regex_any 82 83 lineK 117 69 (inBr (readPts pf)) call82 call83 makes82 B0 (yin83 pf hpf B0) false m (w.alloc (.cells #[.slice none 0 0] 69 (0, 0))) w.heap.size r hml hg2 hgl (blk_new _ _) hr hn
  clear he hm hr
  go_enter Tryz.func55, Tryz.ntmps55
  go_wp2_with fail
  refine hf.mono ?_
  rintro e w' ⟨rfl, rfl⟩
  clear hf
  go_wp2_with fail
  refine hb.mono ?_
  rintro e w1 ⟨rfl, rfl⟩
  clear hb
  go_wp2_with fail
  refine hcall.mono ?_
  clear hcall
  cases r with
  | unk => exact absurd rfl hn
  | err =>
    rintro e w2 ⟨⟨u, v, rfl⟩, hb3⟩
    have HB := Lib.hid (hb2.trans (hb3.below (by simp)))
    clear hb2 hb3 hg2
    go_wp2
    go_ret2
    exact ⟨⟨_, _, rfl⟩, HB.out⟩
  | ok rs =>
    rintro e w2 ⟨⟨rfl, sv, hk, hR3⟩, hb3⟩
    obtain ⟨A, q, c, rfl⟩ := R_sl hR3
    have HB := Lib.hid (hb2.trans (hb3.below (by simp)))
    have HR3 := Lib.hid (Kd.R_lower hR3 (by simp : w.heap.size ≤ _))
    have hcell := box_cell hk
    clear hb2 hb3 hg2 hR3 hk
    go_wp2
    go_ret2
    exact ⟨⟨_, rfl, HR3.out⟩, HB.out⟩
theorem um55_any (pf : Bs → Rd Nat) (hpf : PfOk pf) (s : Bs) (w : World) {B0 : Nat} (hg : Gl B0 w) (hl : s.length ≤ 1000000000) (h10 : 7 ≤ s.length) (ha : Asc s)
    (r : Rd (List (List Pt))) (hr : (if eqF s (word 3 ++ emptyW) then .ok [] else inBr (readRings pf) (s.drop 7)) = r) (hn : r ≠ .unk) :
    Calls Tryz.prog 55 #[S s] w fun e w' => Res (.slice none 0 0) r (fun xs x w' => lineK.R 117 w' w.heap.size (fun _ => True) x xs) e w' ∧ Below w.heap.size w w' := by
  cases he : eqF s (word 3 ++ emptyW) with
  | true =>
    rw [he] at hr
    subst hr
    exact (um55_e s w hl ha he).mono fun e w' ⟨x, h1, h2, h3⟩ => ⟨⟨x, h1, h2⟩, h3⟩
  | false =>
    rw [he] at hr
    simp only [Bool.false_eq_true, if_false] at hr
    unfold inBr at hr
    cases hm : trimBr (s.drop 7) with
    | none =>
      rw [hm] at hr
      subst hr
      exact um55_b s w hg hl h10 ha he hm
    | some m =>
      rw [hm] at hr
      exact um55_r pf hpf s m w hg hl h10 ha he hm r hr hn

theorem um57_e (s : Bs) (w : World) (hl : s.length ≤ 1000000000) (ha : Asc s) (he : eqF s (word 5 ++ emptyW) = true) :
    Calls Tryz.prog 57 #[S s] w fun e w' => ∃ x, e = .returned (.tuple #[x, .nilIface]) ∧ lineK.R 65 w' w.heap.size (fun _ => True) x [] ∧ Below w.heap.size w w' := by
  have hf := fold_any s (word 5 ++ emptyW) w hl ha (size_asc 5)
  rw [he] at hf
  go_enter Tryz.func57, Tryz.ntmps57
  go_wp2_with fail
  refine hf.mono ?_
  rintro e w' ⟨rfl, rfl⟩
  clear he hf
  go_wp2
  go_ret2
  exact ⟨_, rfl, R_empty _ _ _, below_alloc1 _ _⟩
theorem um57_b (s : Bs) (w : World) {B0 : Nat} (hg : Gl B0 w) (hl : s.length ≤ 1000000000) (h10 : 15 ≤ s.length) (ha : Asc s) (he : eqF s (word 5 ++ emptyW) = false) (hm : trimBr (s.drop 15) = none) :
    Calls Tryz.prog 57 #[S s] w fun e w' => (∃ u v, e = .returned (.tuple #[.slice none 0 0, .iface u v])) ∧ Below w.heap.size w w' := by
  have hf := fold_any s (word 5 ++ emptyW) w hl ha (size_asc 5)
  rw [he] at hf
  have hd : (s.drop 15).length ≤ 1000000000 := by simp; omega
  have hb := trimBr_none (s.drop 15) w hd hg hm
  clear he hm
  go_enter Tryz.func57, Tryz.ntmps57
  go_wp2_with fail
  refine hf.mono ?_
  rintro e w' ⟨rfl, rfl⟩
  clear hf
  go_wp2_with fail
  refine hb.mono ?_
  rintro e w1 ⟨⟨u, v, rfl⟩, hb1⟩
  clear hb
  have HB := Lib.hid hb1
  clear hb1
  go_wp2
  go_ret2
  exact ⟨⟨_, _, rfl⟩, HB.out⟩
set_option maxRecDepth 20000 in
theorem um57_r (pf : Bs → Rd Nat) (hpf : PfOk pf) (s m : Bs) (w : World) {B0 : Nat} (hg : Gl B0 w) (hl : s.length ≤ 1000000000) (h10 : 15 ≤ s.length) (ha : Asc s) (he : eqF s (word 5 ++ emptyW) = false) (hm : trimBr (s.drop 15) = some m)
    (r : Rd (List (List Pt))) (hr : readRings pf m = r) (hn : r ≠ .unk) :
    Calls Tryz.prog 57 #[S s] w fun e w' => Res (.slice none 0 0) r (fun xs x w' => lineK.R 65 w' w.heap.size (fun _ => True) x xs) e w' ∧ Below w.heap.size w w' := by
  have hf := fold_any s (word 5 ++ emptyW) w hl ha (size_asc 5)
  rw [he] at hf
  have hd : (s.drop 15).length ≤ 1000000000 := by simp; omega
  have hml : m.length ≤ 1000000000 := Nat.le_trans (trimBr_le hm) hd
  have hb := trimBr_some (s.drop 15) m w hd hm
  have hgl := hg.le
  have hb2 : Below w.heap.size w (w.alloc (.cells #[.slice none 0 0] 76 (0, 0))) := below_alloc1 _ _
  have hg2 : Gl B0 (w.alloc (.cells #[.slice none 0 0] 76 (0, 0))) := hg.low hb2
  have hcall := regex_any 86 87 lineK 65 76 (inBr (readPts pf)) call86 call87 makes86 B0 (yin87 pf hpf B0) false m (w.alloc (.cells #[.slice none 0 0] 76 (0, 0))) w.heap.size r hml hg2 hgl (blk_new _ _) hr hn
  clear he hm hr
  go_enter Tryz.func57, Tryz.ntmps57
  go_wp2_with fail
  refine hf.mono ?_
  rintro e w' ⟨rfl, rfl⟩
  clear hf
  go_wp2_with fail
  refine hb.mono ?_
  rintro e w1 ⟨rfl, rfl⟩
  clear hb
  go_wp2_with fail
  refine hcall.mono ?_
  clear hcall
  cases r with
  | unk => exact absurd rfl hn
  | err =>
    rintro e w2 ⟨⟨u, v, rfl⟩, hb3⟩
    have HB := Lib.hid (hb2.trans (hb3.below (by simp)))
    clear hb2 hb3 hg2
    go_wp2
    go_ret2
    exact ⟨⟨_, _, rfl⟩, HB.out⟩
  | ok rs =>
    rintro e w2 ⟨⟨rfl, sv, hk, hR3⟩, hb3⟩
    obtain ⟨A, q, c, rfl⟩ := R_sl hR3
    have HB := Lib.hid (hb2.trans (hb3.below (by simp)))
    have HR3 := Lib.hid (Kd.R_lower hR3 (by simp : w.heap.size ≤ _))
    have hcell := box_cell hk
    clear hb2 hb3 hg2 hR3 hk
    go_wp2
    go_ret2
    exact ⟨⟨_, rfl, HR3.out⟩, HB.out⟩
theorem um57_any (pf : Bs → Rd Nat) (hpf : PfOk pf) (s : Bs) (w : World) {B0 : Nat} (hg : Gl B0 w) (hl : s.length ≤ 1000000000) (h10 : 15 ≤ s.length) (ha : Asc s)
    (r : Rd (List (List Pt))) (hr : (if eqF s (word 5 ++ emptyW) then .ok [] else inBr (readRings pf) (s.drop 15)) = r) (hn : r ≠ .unk) :
    Calls Tryz.prog 57 #[S s] w fun e w' => Res (.slice none 0 0) r (fun xs x w' => lineK.R 65 w' w.heap.size (fun _ => True) x xs) e w' ∧ Below w.heap.size w w' := by
  cases he : eqF s (word 5 ++ emptyW) with
  | true =>
    rw [he] at hr
    subst hr
    exact (um57_e s w hl ha he).mono fun e w' ⟨x, h1, h2, h3⟩ => ⟨⟨x, h1, h2⟩, h3⟩
  | false =>
    rw [he] at hr
    simp only [Bool.false_eq_true, if_false] at hr
    unfold inBr at hr
    cases hm : trimBr (s.drop 15) with
    | none =>
      rw [hm] at hr
      subst hr
      exact um57_b s w hg hl h10 ha he hm
    | some m =>
      rw [hm] at hr
      exact um57_r pf hpf s m w hg hl h10 ha he hm r hr hn

theorem um58_e (s : Bs) (w : World) (hl : s.length ≤ 1000000000) (ha : Asc s) (he : eqF s (word 6 ++ emptyW) = true) :
    Calls Tryz.prog 58 #[S s] w fun e w' => ∃ x, e = .returned (.tuple #[x, .nilIface]) ∧ polyK.R 69 w' w.heap.size (fun _ => True) x [] ∧ Below w.heap.size w w' := by
  have hf := fold_any s (word 6 ++ emptyW) w hl ha (size_asc 6)
  rw [he] at hf
  go_enter Tryz.func58, Tryz.ntmps58
  go_wp2_with fail
  refine hf.mono ?_
  rintro e w' ⟨rfl, rfl⟩
  clear he hf
  go_wp2
  go_ret2
  exact ⟨_, rfl, R_empty _ _ _, below_alloc1 _ _⟩
theorem um58_b (s : Bs) (w : World) {B0 : Nat} (hg : Gl B0 w) (hl : s.length ≤ 1000000000) (h10 : 12 ≤ s.length) (ha : Asc s) (he : eqF s (word 6 ++ emptyW) = false) (hm : trimBr (s.drop 12) = none) :
    Calls Tryz.prog 58 #[S s] w fun e w' => (∃ u v, e = .returned (.tuple #[.slice none 0 0, .iface u v])) ∧ Below w.heap.size w w' := by
  have hf := fold_any s (word 6 ++ emptyW) w hl ha (size_asc 6)
  rw [he] at hf
  have hd : (s.drop 12).length ≤ 1000000000 := by simp; omega
  have hb := trimBr_none (s.drop 12) w hd hg hm
  clear he hm
  go_enter Tryz.func58, Tryz.ntmps58
  go_wp2_with fail
  refine hf.mono ?_
  rintro e w' ⟨rfl, rfl⟩
  clear hf
  go_wp2_with fail
  refine hb.mono ?_
  rintro e w1 ⟨⟨u, v, rfl⟩, hb1⟩
  clear hb
  have HB := Lib.hid hb1
  clear hb1
  go_wp2
  go_ret2
  exact ⟨⟨_, _, rfl⟩, HB.out⟩
set_option maxRecDepth 20000 in
theorem um58_r (pf : Bs → Rd Nat) (hpf : PfOk pf) (s m : Bs) (w : World) {B0 : Nat} (hg : Gl B0 w) (hl : s.length ≤ 1000000000) (h10 : 12 ≤ s.length) (ha : Asc s) (he : eqF s (word 6 ++ emptyW) = false) (hm : trimBr (s.drop 12) = some m)
    (r : Rd (List (List (List Pt)))) (hr : readPolys pf m = r) (hn : r ≠ .unk) :
    Calls Tryz.prog 58 #[S s] w fun e w' => Res (.slice none 0 0) r (fun xs x w' => polyK.R 69 w' w.heap.size (fun _ => True) x xs) e w' ∧ Below w.heap.size w w' := by
  have hf := fold_any s (word 6 ++ emptyW) w hl ha (size_asc 6)
  rw [he] at hf
  have hd : (s.drop 12).length ≤ 1000000000 := by simp; omega
  have hml : m.length ≤ 1000000000 := Nat.le_trans (trimBr_le hm) hd
  have hb := trimBr_some (s.drop 12) m w hd hm
  have hgl := hg.le
  have hb2 : Below w.heap.size w (w.alloc (.cells #[.slice none 0 0] 80 (0, 0))) := below_alloc1 _ _
  have hg2 : Gl B0 (w.alloc (.cells #[.slice none 0 0] 80 (0, 0))) := hg.low hb2
  have hcall := regex_any 89 90 polyK 69 80 (inBr (readRings pf)) call89 call90 makes89 B0 (yin90 pf hpf B0) true m (w.alloc (.cells #[.slice none 0 0] 80 (0, 0))) w.heap.size r hml hg2 hgl (blk_new _ _) hr hn
  clear he hm hr
  go_enter Tryz.func58, Tryz.ntmps58
  go_wp2_with fail
  refine hf.mono ?_
  rintro e w' ⟨rfl, rfl⟩
  clear hf
  go_wp2_with fail
  refine hb.mono ?_
  rintro e w1 ⟨rfl, rfl⟩
  clear hb
  go_wp2_with fail
  refine hcall.mono ?_
  clear hcall
  cases r with
  | unk => exact absurd rfl hn
  | err =>
    rintro e w2 ⟨⟨u, v, rfl⟩, hb3⟩
    have HB := Lib.hid (hb2.trans (hb3.below (by simp)))
    clear hb2 hb3 hg2
    go_wp2
    go_ret2
    exact ⟨⟨_, _, rfl⟩, HB.out⟩
  | ok rs =>
    rintro e w2 ⟨⟨rfl, sv, hk, hR3⟩, hb3⟩
    obtain ⟨A, q, c, rfl⟩ := R_sl hR3
    have HB := Lib.hid (hb2.trans (hb3.below (by simp)))
    have HR3 := Lib.hid (Kd.R_lower hR3 (by simp : w.heap.size ≤ _))
    have hcell := box_cell hk
    clear hb2 hb3 hg2 hR3 hk
    go_wp2
    go_ret2
    exact ⟨⟨_, rfl, HR3.out⟩, HB.out⟩
theorem um58_any (pf : Bs → Rd Nat) (hpf : PfOk pf) (s : Bs) (w : World) {B0 : Nat} (hg : Gl B0 w) (hl : s.length ≤ 1000000000) (h10 : 12 ≤ s.length) (ha : Asc s)
    (r : Rd (List (List (List Pt)))) (hr : (if eqF s (word 6 ++ emptyW) then .ok [] else inBr (readPolys pf) (s.drop 12)) = r) (hn : r ≠ .unk) :
    Calls Tryz.prog 58 #[S s] w fun e w' => Res (.slice none 0 0) r (fun xs x w' => polyK.R 69 w' w.heap.size (fun _ => True) x xs) e w' ∧ Below w.heap.size w w' := by
  cases he : eqF s (word 6 ++ emptyW) with
  | true =>
    rw [he] at hr
    subst hr
    exact (um58_e s w hl ha he).mono fun e w' ⟨x, h1, h2, h3⟩ => ⟨⟨x, h1, h2⟩, h3⟩
  | false =>
    rw [he] at hr
    simp only [Bool.false_eq_true, if_false] at hr
    unfold inBr at hr
    cases hm : trimBr (s.drop 12) with
    | none =>
      rw [hm] at hr
      subst hr
      exact um58_b s w hg hl h10 ha he hm
    | some m =>
      rw [hm] at hr
      exact um58_r pf hpf s m w hg hl h10 ha he hm r hr hn
/-! Walks: unmarshalMultiPoint, unmarshalPoint. -/
theorem um56_e (s : Bs) (w : World) (hl : s.length ≤ 1000000000) (ha : Asc s) (he : eqF s (word 4 ++ emptyW) = true) :
    Calls Tryz.prog 56 #[S s] w fun e w' => ∃ x, e = .returned (.tuple #[x, .nilIface]) ∧ ptK.R 61 w' w.heap.size (fun _ => True) x [] ∧ Below w.heap.size w w' := by
  have hf := fold_any s (word 4 ++ emptyW) w hl ha (size_asc 4)
  rw [he] at hf
  go_enter Tryz.func56, Tryz.ntmps56
  go_wp2_with fail
  refine hf.mono ?_
  rintro e w' ⟨rfl, rfl⟩
  clear he hf
  go_wp2
  go_ret2
  exact ⟨_, rfl, R_empty _ _ _, below_alloc1 _ _⟩
theorem um56_b (s : Bs) (w : World) {B0 : Nat} (hg : Gl B0 w) (hl : s.length ≤ 1000000000) (h10 : 10 ≤ s.length) (ha : Asc s) (he : eqF s (word 4 ++ emptyW) = false) (hm : trimBr (s.drop 10) = none) :
    Calls Tryz.prog 56 #[S s] w fun e w' => (∃ u v, e = .returned (.tuple #[.slice none 0 0, .iface u v])) ∧ Below w.heap.size w w' := by
  have hf := fold_any s (word 4 ++ emptyW) w hl ha (size_asc 4)
  rw [he] at hf
  have hd : (s.drop 10).length ≤ 1000000000 := by simp; omega
  have hb := trimBr_none (s.drop 10) w hd hg hm
  clear he hm
  go_enter Tryz.func56, Tryz.ntmps56
  go_wp2_with fail
  refine hf.mono ?_
  rintro e w' ⟨rfl, rfl⟩
  clear hf
  go_wp2_with fail
  refine hb.mono ?_
  rintro e w1 ⟨⟨u, v, rfl⟩, hb1⟩
  clear hb
  have HB := Lib.hid hb1
  clear hb1
  go_wp2
  go_ret2
  exact ⟨⟨_, _, rfl⟩, HB.out⟩

theorem call85 : ∀ args w, (callFunc 85 args).run Tryz.prog w = .ok (.enter 85 args) w := by
  intro args w
  kernel_rfl
theorem yields85 (pf : Bs → Rd Nat) (hpf : PfOk pf) (b B B0 : Nat) (w0 : World) (hg : Gl B0 w0) (hB0 : B0 ≤ B) (hB : B ≤ b) :
    Yields 85 b B (inBr (parseP pf)) (fun ps w => Below B w0 w ∧ RowAt ptK 61 72 B b ps w) := by
  intro l done w r hl hd hi hr hn
  refine (clos85_any pf hpf l w b B B0 done r hl (hg.below hi.1 hB0) hr hn hi.2 hB hd).mono ?_
  rintro e w' ⟨h1, h2⟩
  refine ⟨?_, h2⟩
  cases r with
  | unk => exact absurd rfl hn
  | err => exact h1
  | ok p => exact ⟨h1.1, hi.1.trans h2, h1.2⟩

set_option maxRecDepth 20000 in
theorem um56_r (pf : Bs → Rd Nat) (hpf : PfOk pf) (s m : Bs) (w : World) {B0 : Nat} (hg : Gl B0 w) (hl : s.length ≤ 1000000000) (h10 : 10 ≤ s.length) (ha : Asc s) (he : eqF s (word 4 ++ emptyW) = false) (hm : trimBr (s.drop 10) = some m)
    (r : Rd (List Pt)) (hr : readMP pf m = r) (hn : r ≠ .unk) :
    Calls Tryz.prog 56 #[S s] w fun e w' => Res (.slice none 0 0) r (fun ps x w' => ptK.R 61 w' w.heap.size (fun _ => True) x ps) e w' ∧ Below w.heap.size w w' := by
  have hf := fold_any s (word 4 ++ emptyW) w hl ha (size_asc 4)
  rw [he] at hf
  have hd : (s.drop 10).length ≤ 1000000000 := by simp; omega
  have hml : m.length ≤ 1000000000 := Nat.le_trans (trimBr_le hm) hd
  have hb := trimBr_some (s.drop 10) m w hd hm
  have hc := commas_any m w hml
  clear he hm
  go_enter Tryz.func56, Tryz.ntmps56
  go_wp2_with fail
  refine hf.mono ?_
  rintro e w' ⟨rfl, rfl⟩
  clear hf
  go_wp2_with fail
  refine hb.mono ?_
  rintro e w1 ⟨rfl, rfl⟩
  clear hb
  go_wp2_with fail
  refine hc.mono ?_
  rintro e w1 ⟨⟨n, hnm, rfl⟩, rfl⟩
  clear hc
  go_wp2_with (at_make; go_loud (refine make0 ptK _ rfl _ _ 72 rfl 61 _ _ Tryz.underlying72 info61 _ (n + 1) rfl rfl (by simp) (by omega) (by omega) ?_))
  intro w1 hsz hb1 hR
  have hR1 := hR w.heap.size (fun k => k ≠ w.heap.size + 1) (Nat.le_refl _) (by omega)
  have hg1 := hg.low hb1
  have hR2 := Kd.R_alloc hR1 (.cells #[.slice (some ⟨w.heap.size, 0, none⟩) 0 (n + 1)] 72 (0, 0))
  have hb2 : Below w.heap.size w (w1.alloc (.cells #[.slice (some ⟨w.heap.size, 0, none⟩) 0 (n + 1)] 72 (0, 0))) := hb1.alloc hb1.size _
  have hg2 : Gl B0 (w1.alloc (.cells #[.slice (some ⟨w.heap.size, 0, none⟩) 0 (n + 1)] 72 (0, 0))) := hg.low hb2
  have hnew : (w1.alloc (.cells #[.slice (some ⟨w.heap.size, 0, none⟩) 0 (n + 1)] 72 (0, 0))).heap[w.heap.size + 1]? = some (.cells #[.slice (some ⟨w.heap.size, 0, none⟩) 0 (n + 1)] 72 (0, 0)) := by
    rw [← hsz]; exact blk_new _ _
  have HN := Lib.hid hnew
  have HR := Lib.hid hR2
  clear hR hR1 hnew hR2 hb1
  go_wp2_with fail
  have hw2s : (w1.alloc (.cells #[.slice (some ⟨w.heap.size, 0, none⟩) 0 (n + 1)] 72 (0, 0))).heap.size = w.heap.size + 2 := by simp [hsz]
  have hcall := splitC_any 85 (w.heap.size + 1) w.heap.size (inBr (parseP pf)) (fun ps w2 => Below w.heap.size (w1.alloc (.cells #[.slice (some ⟨w.heap.size, 0, none⟩) 0 (n + 1)] 72 (0, 0))) w2 ∧ RowAt ptK 61 72 w.heap.size (w.heap.size + 1) ps w2)
    call85 (yields85 pf hpf (w.heap.size + 1) w.heap.size B0 _ hg2 hg.le (by omega)) m _ r hml ⟨Below.refl _ _, _, HN.out, HR.out⟩ hr hn (by omega)
  refine hcall.mono ?_
  clear hcall
  cases r with
  | unk => exact absurd rfl hn
  | err =>
    rintro e w2 ⟨⟨u, v, rfl⟩, hb3⟩
    have HB := Lib.hid (hb2.trans hb3)
    clear hb2 hb3 hr hg2 hg1 hw2s
    go_wp2
    go_ret2
    exact ⟨⟨_, _, rfl⟩, HB.out⟩
  | ok ps =>
    rintro e w2 ⟨⟨rfl, -, sv, hk, hR3⟩, hb3⟩
    obtain ⟨A, k, c, rfl⟩ := R_sl hR3
    have HB := Lib.hid (hb2.trans hb3)
    have HR3 := Lib.hid hR3
    have hcell := box_cell hk
    clear hb2 hb3 hr hg2 hg1 hw2s hR3 hk
    go_wp2
    go_ret2
    exact ⟨⟨_, rfl, Kd.R_mono HR3.out (fun _ _ => trivial)⟩, HB.out⟩

/-- unmarshalMultiPoint. -/
theorem um56_any (pf : Bs → Rd Nat) (hpf : PfOk pf) (s : Bs) (w : World) {B0 : Nat} (hg : Gl B0 w) (hl : s.length ≤ 1000000000) (h10 : 10 ≤ s.length) (ha : Asc s)
    (r : Rd (List Pt)) (hr : (if eqF s (word 4 ++ emptyW) then .ok [] else inBr (readMP pf) (s.drop 10)) = r) (hn : r ≠ .unk) :
    Calls Tryz.prog 56 #[S s] w fun e w' => Res (.slice none 0 0) r (fun ps x w' => ptK.R 61 w' w.heap.size (fun _ => True) x ps) e w' ∧ Below w.heap.size w w' := by
  cases he : eqF s (word 4 ++ emptyW) with
  | true =>
    rw [he] at hr
    subst hr
    exact (um56_e s w hl ha he).mono fun e w' ⟨x, h1, h2, h3⟩ => ⟨⟨x, h1, h2⟩, h3⟩
  | false =>
    rw [he] at hr
    simp only [Bool.false_eq_true, if_false] at hr
    unfold inBr at hr
    cases hm : trimBr (s.drop 10) with
    | none =>
      rw [hm] at hr
      subst hr
      exact um56_b s w hg hl h10 ha he hm
    | some m =>
      rw [hm] at hr
      exact um56_r pf hpf s m w hg hl h10 ha he hm r hr hn

theorem um53_b (s : Bs) (w : World) {B0 : Nat} (hg : Gl B0 w) (hl : s.length ≤ 1000000000) (h5 : 5 ≤ s.length) (hm : trimBr (s.drop 5) = none) :
    Calls Tryz.prog 53 #[S s] w fun e w' => (∃ u v, e = .returned (.tuple #[ptV (0, 0), .iface u v])) ∧ Below w.heap.size w w' := by
  have hd : (s.drop 5).length ≤ 1000000000 := by simp; omega
  have hb2 := below_alloc1 w (.cells #[.float .f64 0, .float .f64 0] 61 (0, 0))
  have hb := trimBr_none (s.drop 5) _ hd (hg.low hb2) hm
  clear hm
  go_enter Tryz.func53, Tryz.ntmps53
  go_wp2_with fail
  refine hb.mono ?_
  rintro e w1 ⟨⟨u, v, rfl⟩, hb1⟩
  clear hb
  have hk : w1.heap[w.heap.size]? = some (.cells #[.float .f64 0, .float .f64 0] 61 (0, 0)) := blk_below (blk_new w _) hb1
  obtain ⟨c0, c1, f0, f1⟩ := two_facts hk
  have HB := Lib.hid (below_then hb2 (by simp) hb1)
  have HK := Lib.hid hk
  clear hb1 hk hb2
  go_wp2
  refine bodyPost_ret (results_ct rfl _ _ _ _ _ _ _ rfl (two_set HK.out) Tryz.underlying61 rfl size61) rfl ?_
  exact ⟨⟨_, _, rfl⟩, (HB.out.setCell (Nat.le_refl _) _).setCell (Nat.le_refl _) _⟩
theorem um53_r (pf : Bs → Rd Nat) (hpf : PfOk pf) (s m : Bs) (w : World) {B0 : Nat} (hg : Gl B0 w) (hl : s.length ≤ 1000000000) (h5 : 5 ≤ s.length) (hm : trimBr (s.drop 5) = some m)
    (r : Rd Pt) (hr : parseP pf m = r) (hn : r ≠ .unk) :
    Calls Tryz.prog 53 #[S s] w fun e w' => Res (ptV (0, 0)) r (fun p x _ => x = ptV p) e w' ∧ Below w.heap.size w w' := by
  have hd : (s.drop 5).length ≤ 1000000000 := by simp; omega
  have hml : m.length ≤ 1000000000 := Nat.le_trans (trimBr_le hm) hd
  have hb2 := below_alloc1 w (.cells #[.float .f64 0, .float .f64 0] 61 (0, 0))
  have hb := trimBr_some (s.drop 5) m (w.alloc (.cells #[.float .f64 0, .float .f64 0] 61 (0, 0))) hd hm
  have hc := parseP_any pf hpf m (w.alloc (.cells #[.float .f64 0, .float .f64 0] 61 (0, 0))) hml (hg.low hb2) r hr hn
  clear hm hr
  go_enter Tryz.func53, Tryz.ntmps53
  go_wp2_with fail
  refine hb.mono ?_
  rintro e w1 ⟨rfl, rfl⟩
  clear hb
  go_wp2_with fail
  refine hc.mono ?_
  clear hc
  cases r with
  | unk => exact absurd rfl hn
  | err =>
    rintro e w1 ⟨⟨u, v, rfl⟩, hb1⟩
    have hk : w1.heap[w.heap.size]? = some (.cells #[.float .f64 0, .float .f64 0] 61 (0, 0)) := blk_below (blk_new w _) hb1
    have hka := blk_alloc hk (.cells #[.float .f64 0, .float .f64 0] 61 (0, 0))
    obtain ⟨c0, c1, f0, f1⟩ := two_facts hka
    have HB := Lib.hid ((below_then hb2 (by simp) hb1).alloc (by have := hb1.size; simp at this; omega) (.cells #[.float .f64 0, .float .f64 0] 61 (0, 0)))
    have HK := Lib.hid hka
    clear hb1 hk hb2 hka
    unfold ptV
    go_wp2
    refine bodyPost_ret (results_ct rfl _ _ _ _ _ _ _ rfl (two_set HK.out) Tryz.underlying61 rfl size61) rfl ?_
    exact ⟨⟨_, _, rfl⟩, (HB.out.setCell (Nat.le_refl _) _).setCell (Nat.le_refl _) _⟩
  | ok p =>
    rintro e w1 ⟨⟨x, rfl, rfl⟩, hb1⟩
    have hk : w1.heap[w.heap.size]? = some (.cells #[.float .f64 0, .float .f64 0] 61 (0, 0)) := blk_below (blk_new w _) hb1
    have hka := blk_alloc hk (.cells #[.float .f64 p.1, .float .f64 p.2] 61 (0, 0))
    obtain ⟨c0, c1, f0, f1⟩ := two_facts hka
    have HB := Lib.hid ((below_then hb2 (by simp) hb1).alloc (by have := hb1.size; simp at this; omega) (.cells #[.float .f64 p.1, .float .f64 p.2] 61 (0, 0)))
    have HK := Lib.hid hka
    clear hb1 hk hb2 hka
    unfold ptV
    go_wp2
    refine bodyPost_ret (results_ct rfl _ _ _ _ _ _ _ rfl (two_set HK.out) Tryz.underlying61 rfl size61) rfl ?_
    exact ⟨⟨_, rfl, rfl⟩, (HB.out.setCell (Nat.le_refl _) _).setCell (Nat.le_refl _) _⟩
/-- unmarshalPoint. -/
theorem um53_any (pf : Bs → Rd Nat) (hpf : PfOk pf) (s : Bs) (w : World) {B0 : Nat} (hg : Gl B0 w) (hl : s.length ≤ 1000000000) (h5 : 5 ≤ s.length)
    (r : Rd Pt) (hr : inBr (parseP pf) (s.drop 5) = r) (hn : r ≠ .unk) :
    Calls Tryz.prog 53 #[S s] w fun e w' => Res (ptV (0, 0)) r (fun p x _ => x = ptV p) e w' ∧ Below w.heap.size w w' := by
  unfold inBr at hr
  cases hm : trimBr (s.drop 5) with
  | none =>
    rw [hm] at hr
    subst hr
    exact um53_b s w hg hl h5 hm
  | some m =>
    rw [hm] at hr
    exact um53_r pf hpf s m w hg hl h5 hm r hr hn
end Go.Proofs.YtghajgdiaopioaaGreatDoor
end
