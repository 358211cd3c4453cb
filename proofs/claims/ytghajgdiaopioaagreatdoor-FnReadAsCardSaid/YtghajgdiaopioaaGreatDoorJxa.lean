/- Walks and plain laws joined (La, Lb, Lc, Ld). Conditions: stand in each law. -/
import Derived.Test.YtghajgdiaopioaaGreatDoorJz
/- The laws: what they share; FnWrite. Conditions: stand in each contract. -/
section
set_option linter.unusedVariables false
set_option linter.unusedSimpArgs false
namespace Go.Proofs.YtghajgdiaopioaaGreatDoor
open Go.RowKit Go.Proofs Tx
open Go.Proofs.YtghajgdiaopioaaGreatDoorW.PrintWords

theorem allC_and {p q : Nat → Prop} : ∀ (n : Nat) (g : Geo), g.deep ≤ n → AllC p g → AllC q g → AllC (fun x => p x ∧ q x) g := by
  intro n
  induction n with
  | zero => intro g hg; exfalso; cases g <;> simp [Geo.deep] at hg
  | succ n ih =>
    intro g hd h1 h2
    cases h1 with
    | point k => cases h2 with | point j => exact .point ⟨⟨k.1, j.1⟩, ⟨k.2, j.2⟩⟩
    | line k => cases h2 with | line j => exact .line fun p hp => ⟨⟨(k p hp).1, (j p hp).1⟩, ⟨(k p hp).2, (j p hp).2⟩⟩
    | poly k => cases h2 with | poly j => exact .poly fun r hr p hp => ⟨⟨(k r hr p hp).1, (j r hr p hp).1⟩, ⟨(k r hr p hp).2, (j r hr p hp).2⟩⟩
    | mpoint k => cases h2 with | mpoint j => exact .mpoint fun p hp => ⟨⟨(k p hp).1, (j p hp).1⟩, ⟨(k p hp).2, (j p hp).2⟩⟩
    | mline k => cases h2 with | mline j => exact .mline fun r hr p hp => ⟨⟨(k r hr p hp).1, (j r hr p hp).1⟩, ⟨(k r hr p hp).2, (j r hr p hp).2⟩⟩
    | mpoly k => cases h2 with | mpoly j => exact .mpoly fun s hs r hr p hp => ⟨⟨(k s hs r hr p hp).1, (j s hs r hr p hp).1⟩, ⟨(k s hs r hr p hp).2, (j s hs r hr p hp).2⟩⟩
    | coll k =>
      cases h2 with
      | coll j =>
        simp only [Geo.deep] at hd
        exact .coll fun g hg => ih g (deeps_le (by omega) g hg) (k g hg) (j g hg)
/-- What is known of a shape that the laws speak of. -/
structure Good (g : Geo) : Prop where
  deep : g.deep ≤ 4
  wt : wt g ≤ 2000
  wn : AllC Wn g
theorem good_of {s : Sh} (h : (∃ P Q, cnt 4 s = some (P, Q) ∧ P ≤ 300 ∧ Q ≤ 40) ∧ AllS WholeB s) (hX : AllS F64 s) : ∃ g, s = shOf g ∧ Good g := by
  obtain ⟨⟨P, Q, hc, hP, hQ⟩, hw⟩ := h
  obtain ⟨g, rfl, hd, hwt, -⟩ := cnt_geo 4 s P Q hc
  refine ⟨g, rfl, hd, by omega, allC_imp (fun x hx => ?_) g.deep g (Nat.le_refl _) (allC_and g.deep g (Nat.le_refl _) (allS_geo _ g.deep g (Nat.le_refl _) hX) (allS_geo _ g.deep g (Nat.le_refl _) hw))⟩
  exact whole_fb hx.1 hx.2
theorem Good.pts {g : Geo} (h : Good g) : (ptsS (shOf g)).length ≤ 1000000000 := by have := pts_le g.deep g (Nat.le_refl _); have := h.wt; omega
/-- The well known text of a shape that is full, or empty as a whole. -/
theorem text_of {g : Geo} (hf : emptyS (shOf g) = true ∨ fullS (shOf g) = true) :
    ∃ t, textE nfW g t ∧ ((fullS (shOf g) = true ∧ t = text nfW [] false g) ∨ ((ptsS (shOf g)).length = 0 ∧ t = word g.kind ++ emptyW)) := by
  rcases hf with hf | hf
  · obtain ⟨h2, he⟩ := emptyS_geo g hf
    have h0 : (ptsS (shOf g)).length = 0 := by
      unfold emptyS at hf
      simp only [Bool.and_eq_true, decide_eq_true_eq] at hf
      exact hf.1.1
    exact ⟨_, .inr ⟨h2, he, rfl⟩, .inr ⟨h0, rfl⟩⟩
  · exact ⟨_, .inl ⟨(fullS_geo g.deep g (Nat.le_refl _) hf).1, rfl⟩, .inl ⟨hf, rfl⟩⟩
/-- Text of it, in the plain style. -/
theorem textP_any {B0 : Nat} (n : Nat) (w : World) (hE : Ev B0 w) (g : Geo) (hg : Good g) (v : Value) (t : Bs) (h : ShV n w (shOf g) v) (ht : (fullS (shOf g) = true ∧ t = text nfW [] false g) ∨ ((ptsS (shOf g)).length = 0 ∧ t = word g.kind ++ emptyW)) :
    Calls Tryz.prog 14 #[.agg #[.bool false, S []], v] w fun e w' => e = .returned (S t) ∧ Below w.heap.size w w' := by
  rcases ht with ⟨hf, rfl⟩ | ⟨h0, rfl⟩
  · exact text_any n w false [] g v h hE.en (by simp) hf hg.wn (by have := hg.wt; omega)
  · exact text_none n w false [] g v h hE.en (by simp) h0

/-- Where a law stands: the argument's box, the variables, the argument. -/
structure LSt (B0 : Nat) (w0 : World) (b n : Nat) (s : Sh) (k : Int) (vl vp : Value) (w : World) : Prop where
  ev : Ev B0 w
  low : Below w0.heap.size w0 w
  sh : ShV n w s (.agg #[.int .i64 k, vl, vp])
  box : w.heap[b]? = some (.cells #[.int .i64 k, vl, vp] 25 (0, 0))
theorem LSt.step {B0 : Nat} {w0 : World} {b n : Nat} {s : Sh} {k : Int} {vl vp : Value} {w w' : World} (h : LSt B0 w0 b n s k vl vp w) (hb : Below w.heap.size w w') : LSt B0 w0 b n s k vl vp w' :=
  ⟨h.ev.low hb, below_then h.low h.low.size hb, h.sh.below hb, blk_below h.box hb⟩
theorem LSt.cells {B0 : Nat} {w0 : World} {b n : Nat} {s : Sh} {k : Int} {vl vp : Value} {w : World} (h : LSt B0 w0 b n s k vl vp w) : Cells3 b k vl vp w := ⟨blk_cell h.box 0, blk_cell h.box 1, blk_cell h.box 2⟩
theorem LSt.c13 {B0 : Nat} {w0 : World} {b n : Nat} {s : Sh} {k : Int} {vl vp : Value} {w : World} (h : LSt B0 w0 b n s k vl vp w) :
    Calls Tryz.prog 13 #[] w fun e w' => ∃ y, e = .returned y ∧ (y = .bool true ∧ Aside (LSt B0 w0 b n s k vl vp w') ∧ Cells3 b k vl vp w') :=
  (writes_any w h.ev).mono fun e w' ⟨he, hb⟩ => ⟨_, he, rfl, h.step hb, (h.step hb).cells⟩
theorem LSt.c16 {B0 : Nat} {w0 : World} {b n : Nat} {g : Geo} {k : Int} {vl vp : Value} {w : World} (h : LSt B0 w0 b n (shOf g) k vl vp w) (hg : Good g) {t : Bs} (ht : textE nfW g t) :
    Calls Tryz.prog 16 #[.agg #[.int .i64 k, vl, vp]] w fun e w' => ∃ y, e = .returned y ∧ (y = S t ∧ Aside (LSt B0 w0 b n (shOf g) k vl vp w') ∧ Cells3 b k vl vp w') :=
  (writeT_any n w h.ev g _ t h.sh ht hg.wn (by have := hg.wt; omega)).mono fun e w' ⟨he, hb⟩ => ⟨_, he, rfl, h.step hb, (h.step hb).cells⟩
theorem LSt.c14 {B0 : Nat} {w0 : World} {b n : Nat} {g : Geo} {k : Int} {vl vp : Value} {w : World} (h : LSt B0 w0 b n (shOf g) k vl vp w) (hg : Good g) {t : Bs} (ht : (fullS (shOf g) = true ∧ t = text nfW [] false g) ∨ ((ptsS (shOf g)).length = 0 ∧ t = word g.kind ++ emptyW)) :
    Calls Tryz.prog 14 #[.agg #[.bool false, S []], .agg #[.int .i64 k, vl, vp]] w fun e w' => ∃ y, e = .returned y ∧ (y = S t ∧ Aside (LSt B0 w0 b n (shOf g) k vl vp w') ∧ Cells3 b k vl vp w') :=
  (textP_any n w h.ev g hg _ t h.sh ht).mono fun e w' ⟨he, hb⟩ => ⟨_, he, rfl, h.step hb, (h.step hb).cells⟩
theorem call13 : ∀ args w, (callFunc 13 args).run Tryz.prog w = .ok (.enter 13 args) w := by
  intro args w
  kernel_rfl
theorem call14 : ∀ args w, (callFunc 14 args).run Tryz.prog w = .ok (.enter 14 args) w := by
  intro args w
  kernel_rfl

set_option maxRecDepth 40000 in
set_option maxHeartbeats 4000000 in
/-- FnWrite. -/
theorem fnWrite_any {B0 : Nat} (n : Nat) (w : World) (s : Sh) (v : Value) (hV : ShV n w s v) (hL : LenS s) (hX : AllS F64 s) (hE : Ev B0 w) :
    Calls Tryz.prog 4 #[v] w fun e w' => e = .returned (.bool true) ∧ Below w.heap.size w w' := by
  obtain ⟨k, A, l, c, A', p, c', rfl, -, -, -, -, -⟩ := hV.open_
  have hb0 := below_alloc1 w (.cells #[.int .i64 k, .slice A l c, .slice A' p c'] 25)
  have hst : LSt B0 w w.heap.size n s k (.slice A l c) (.slice A' p c') (w.alloc (.cells #[.int .i64 k, .slice A l c, .slice A' p c'] 25)) := ⟨hE.low hb0, hb0, hV.below hb0, blk_new w _⟩
  have hcall := fits1_any n _ s _ hst.sh
  obtain ⟨z0, z1, z2⟩ := hst.cells
  have HST := Lib.hid hst
  clear hst hb0 hV hE
  go_enter Tryz.func4, Tryz.ntmps4
  go_wp2_with fail
  refine hcall.mono ?_
  clear hcall
  rintro e w1 ⟨b1, rfl, hb1⟩
  have HST1 := Lib.hid (HST.out.step hb1)
  clear hb1 z0 z1 z2
  obtain ⟨z0, z1, z2⟩ := HST1.out.cells
  cases b1 with
  | false =>
    go_wp2
    go_ret
    exact ⟨rfl, HST1.out.low⟩
  | true =>
    have hcall := wholeShape_any n w1 s _ HST1.out.sh hL hX
    go_wp2_with fail
    refine hcall.mono ?_
    clear hcall
    rintro e w2 ⟨b2, rfl, hb2, hgood⟩
    have HST2 := Lib.hid (HST1.out.step hb2)
    clear hb2 z0 z1 z2
    obtain ⟨z0, z1, z2⟩ := HST2.out.cells
    cases b2 with
    | false =>
      have hcall := writes_any w2 HST2.out.ev
      clear hgood
      go_wp2_with fail
      refine hcall.mono ?_
      clear hcall
      rintro e w3 ⟨rfl, hb3⟩
      have HST3 := Lib.hid (HST2.out.step hb3)
      clear hb3
      go_wp2
      go_ret
      exact ⟨rfl, HST3.out.low⟩
    | true =>
      obtain ⟨g, hs, hg⟩ := good_of (hgood rfl) hX
      subst hs
      have HG := Lib.hid hg
      clear hgood hg
      have hcall := isFull_any n w2 (shOf g) _ HST2.out.sh HG.out.pts
      go_wp2_with fail
      refine hcall.mono ?_
      clear hcall
      rintro e w3 ⟨b3, rfl, hb3, hfull⟩
      have HST3 := Lib.hid (HST2.out.step hb3)
      clear hb3 z0 z1 z2
      obtain ⟨z0, z1, z2⟩ := HST3.out.cells
      cases b3 with
      | false =>
        have hcall := writes_any w3 HST3.out.ev
        clear hfull
        go_wp2_with fail
        refine hcall.mono ?_
        clear hcall
        rintro e w4 ⟨rfl, hb4⟩
        have HST4 := Lib.hid (HST3.out.step hb4)
        clear hb4
        go_wp2
        go_ret
        exact ⟨rfl, HST4.out.low⟩
      | true =>
        obtain ⟨t, ht1, ht2⟩ := text_of (hfull rfl)
        have HT1 := Lib.hid ht1
        have HT2 := Lib.hid ht2
        clear hfull ht1 ht2 z0 z1 z2
        go_wp2_with fail
        have HD := Lib.hid (HST3.out.step (below_drew w3))
        obtain ⟨z0, z1, z2⟩ := HD.out.cells
        go_region_law (first
          | (refine step_call2w' (by first | rfl | simp [Region.wanted, yielded, Act.put]) 13 #[] #[] rfl call13 #[] (by simp) HD.out.c13 ?_
             rintro y1 wy1 ⟨rfl, hy1, z0a, z1a, z2a⟩)
          | (refine step_call2w' (by first | rfl | simp [Region.wanted, yielded, Act.put]) 16 #[.tmp 17] #[25] rfl call16 #[.agg #[.int .i64 k, .slice A l c, .slice A' p c']] (by simp [Act.eval, Act.put]) (LSt.c16 hy1.out HG.out HT1.out) ?_
             rintro y2 wy2 ⟨rfl, hy2, z0b, z1b, z2b⟩)
          | (refine step_call2w' (by first | rfl | simp [Region.wanted, yielded, Act.put]) 14 #[.tmp 19, .tmp 20] #[31, 25] rfl call14 #[.agg #[.bool false, S []], .agg #[.int .i64 k, .slice A l c, .slice A' p c']] (by simp [Act.eval, Act.put]) (LSt.c14 hy2.out HG.out HT2.out) ?_
             rintro y3 wy3 ⟨rfl, hy3, z0c, z1c, z2c⟩
             have HY3 := Lib.hid hy3.out.low))
        all_goals go_wp2
        all_goals go_ret
        all_goals exact ⟨by simp [Act.put], HY3.out⟩
end Go.Proofs.YtghajgdiaopioaaGreatDoor
end

/- The laws: what is read of a shape's text; FnRead. Conditions: stand in each contract. -/
section
set_option linter.unusedVariables false
set_option linter.unusedSimpArgs false
namespace Go.Proofs.YtghajgdiaopioaaGreatDoor
open Go.RowKit Go.Proofs Tx
open Go.Proofs.YtghajgdiaopioaaGreatDoorW.PrintWords

theorem Wn.asc {x : Nat} (h : Wn x) : Asc (nfW x) := by
  obtain ⟨n, h1, h2, rfl⟩ := h
  rw [nfW_fb h1 h2]
  obtain ⟨d1, -⟩ := dec_all n.natAbs
  unfold Lib.itoa
  split
  · exact Asc.cons (by decide) fun c hc => by have := (d1 c hc).2; omega
  · have : n.toNat = n.natAbs := by omega
    rw [this]
    exact fun c hc => by have := (d1 c hc).2; omega
/-- What is read of the text of a shape that is full. -/
theorem full_facts {g : Geo} (hg : Good g) (hf : Full g) (sm : Bool) (sp : Bs) (hsp : ∀ c ∈ sp, isSp c = true) (hl : sp.length ≤ 1) (ha : Asc sp) :
    readG pfW 4 (text nfW sp sm g) = .ok g ∧ Asc (text nfW sp sm g) ∧ (text nfW sp sm g).length ≤ 1000000000 := by
  refine ⟨read_text hsp 4 g hg.deep hf (allC_imp (fun x h => h.numOk) g.deep g (Nat.le_refl _) hg.wn), text_asc ha g.deep g (Nat.le_refl _) (allC_imp (fun x h => h.asc) g.deep g (Nat.le_refl _) hg.wn), ?_⟩
  have h1 := text_len (nf := nfW) (sp := sp) (small := sm) hl g.deep g (Nat.le_refl _) (allC_imp (fun x h => by have := h.short; show (nfW x).length ≤ 30; omega) g.deep g (Nat.le_refl _) hg.wn)
  have := hg.wt
  omega
theorem textE_facts {g : Geo} (hg : Good g) {t : Bs} (h : textE nfW g t) : readG pfW 4 t = .ok g ∧ Asc t ∧ t.length ≤ 1000000000 := by
  rcases h with ⟨hf, rfl⟩ | ⟨h2, he, rfl⟩
  · exact full_facts hg hf false [] (by simp) (by simp) (by intro c hc; cases hc)
  · refine ⟨?_, size_asc _, ?_⟩
    · rw [read_empty 3 g.kind h2 (kind_range g).2, ← he]
    · have := (word_lim g.kind).1
      simp [emptyW]
      omega

set_option maxRecDepth 40000 in
set_option maxHeartbeats 4000000 in
/-- FnRead. -/
theorem fnRead_any {B0 : Nat} (n : Nat) (w : World) (s : Sh) (v : Value) (hV : ShV n w s v) (hL : LenS s) (hX : AllS F64 s) (hE : Ev B0 w) :
    Calls Tryz.prog 7 #[v] w fun e w' => e = .returned (.bool true) ∧ Below w.heap.size w w' := by
  obtain ⟨k, A, l, c, A', p, c', rfl, -, -, -, -, -⟩ := hV.open_
  have hb0 := below_alloc1 w (.cells #[.int .i64 k, .slice A l c, .slice A' p c'] 25)
  have hst : LSt B0 w w.heap.size n s k (.slice A l c) (.slice A' p c') (w.alloc (.cells #[.int .i64 k, .slice A l c, .slice A' p c'] 25)) := ⟨hE.low hb0, hb0, hV.below hb0, blk_new w _⟩
  have hcall := fits1_any n _ s _ hst.sh
  obtain ⟨z0, z1, z2⟩ := hst.cells
  have HST := Lib.hid hst
  clear hst hb0 hV hE
  go_enter Tryz.func7, Tryz.ntmps7
  go_wp2_with fail
  refine hcall.mono ?_
  clear hcall
  rintro e w1 ⟨b1, rfl, hb1⟩
  have HST1 := Lib.hid (HST.out.step hb1)
  clear hb1 z0 z1 z2
  obtain ⟨z0, z1, z2⟩ := HST1.out.cells
  cases b1 with
  | false =>
    go_wp2
    go_ret
    exact ⟨rfl, HST1.out.low⟩
  | true =>
    have hcall := wholeShape_any n w1 s _ HST1.out.sh hL hX
    go_wp2_with fail
    refine hcall.mono ?_
    clear hcall
    rintro e w2 ⟨b2, rfl, hb2, hgood⟩
    have HST2 := Lib.hid (HST1.out.step hb2)
    clear hb2 z0 z1 z2
    obtain ⟨z0, z1, z2⟩ := HST2.out.cells
    cases b2 with
    | false =>
      have hcall := writes_any w2 HST2.out.ev
      clear hgood
      go_wp2_with fail
      refine hcall.mono ?_
      clear hcall
      rintro e w3 ⟨rfl, hb3⟩
      have HST3 := Lib.hid (HST2.out.step hb3)
      clear hb3
      go_wp2
      go_ret
      exact ⟨rfl, HST3.out.low⟩
    | true =>
      obtain ⟨g, hs, hg⟩ := good_of (hgood rfl) hX
      subst hs
      have HG := Lib.hid hg
      clear hgood hg
      have hcall := isFull_any n w2 (shOf g) _ HST2.out.sh HG.out.pts
      go_wp2_with fail
      refine hcall.mono ?_
      clear hcall
      rintro e w3 ⟨b3, rfl, hb3, hfull⟩
      have HST3 := Lib.hid (HST2.out.step hb3)
      clear hb3 z0 z1 z2
      obtain ⟨z0, z1, z2⟩ := HST3.out.cells
      cases b3 with
      | false =>
        have hcall := writes_any w3 HST3.out.ev
        clear hfull
        go_wp2_with fail
        refine hcall.mono ?_
        clear hcall
        rintro e w4 ⟨rfl, hb4⟩
        have HST4 := Lib.hid (HST3.out.step hb4)
        clear hb4
        go_wp2
        go_ret
        exact ⟨rfl, HST4.out.low⟩
      | true =>
        obtain ⟨t, ht1, ht2⟩ := text_of (hfull rfl)
        have HT1 := Lib.hid ht1
        have HT2 := Lib.hid ht2
        have HF := Lib.hid (textE_facts HG.out ht1)
        clear hfull ht1 ht2
        have hcall := textP_any n w3 HST3.out.ev g HG.out _ t HST3.out.sh HT2.out
        go_wp2_with fail
        refine hcall.mono ?_
        clear hcall
        rintro e w4 ⟨rfl, hb4⟩
        have HST4 := Lib.hid (HST3.out.step hb4)
        clear hb4 z0 z1 z2
        have hcall := readT_any w4 HST4.out.ev g t HF.out.1 HF.out.2.1 HF.out.2.2 (by have := HG.out.wt; omega)
        go_wp2_with fail
        refine hcall.mono ?_
        clear hcall
        rintro e w5 ⟨v5, rfl, hV5, hb5⟩
        obtain ⟨k5, A5, l5, c5, A5', p5, c5', rfl, -, -, -, -, -⟩ := hV5.open_
        have hb5a := below_alloc1 w5 (.cells #[.int .i64 k5, .slice A5 l5 c5, .slice A5' p5 c5'] 25)
        have HST5 := Lib.hid ((HST4.out.step hb5).step hb5a)
        have HV5 := Lib.hid (hV5.below hb5a)
        have HK5 := Lib.hid (blk_new w5 (.cells #[.int .i64 k5, .slice A5 l5 c5, .slice A5' p5 c5'] 25))
        clear hb5 hb5a hV5
        have hcall := writes_any (w5.alloc (.cells #[.int .i64 k5, .slice A5 l5 c5, .slice A5' p5 c5'] 25)) HST5.out.ev
        go_wp2_with fail
        refine hcall.mono ?_
        clear hcall
        rintro e w6 ⟨rfl, hb6⟩
        have HST6 := Lib.hid (HST5.out.step hb6)
        have HV6 := Lib.hid (HV5.out.below hb6)
        have HK6 := Lib.hid (blk_below HK5.out hb6)
        clear hb6
        obtain ⟨z0, z1, z2⟩ := HST6.out.cells
        obtain ⟨y0, y1, y2⟩ : Cells3 w5.heap.size k5 (.slice A5 l5 c5) (.slice A5' p5 c5') w6 := ⟨blk_cell HK6.out 0, blk_cell HK6.out 1, blk_cell HK6.out 2⟩
        have hcall := same_any 4 n w6 (shOf g) _ _ HV6.out HST6.out.sh HG.out.pts
        go_wp2_with fail
        refine hcall.mono ?_
        clear hcall
        rintro e w7 ⟨rfl, hb7⟩
        have HST7 := Lib.hid (HST6.out.step hb7)
        clear hb7
        go_wp2
        go_ret
        exact ⟨rfl, HST7.out.low⟩
end Go.Proofs.YtghajgdiaopioaaGreatDoor
end

/- The laws: FnReadStyle. Conditions: stand in each contract. -/
section
set_option linter.unusedVariables false
set_option linter.unusedSimpArgs false
namespace Go.Proofs.YtghajgdiaopioaaGreatDoor
open Go.RowKit Go.Proofs Tx
open Go.Proofs.YtghajgdiaopioaaGreatDoorW.PrintWords

set_option maxRecDepth 40000 in
set_option maxHeartbeats 4000000 in
/-- FnReadStyle. -/
theorem fnReadStyle_any {B0 : Nat} (n : Nat) (w : World) (s : Sh) (v : Value) (small blank : Bool) (hV : ShV n w s v) (hL : LenS s) (hX : AllS F64 s) (hE : Ev B0 w) :
    Calls Tryz.prog 8 #[v, .bool small, .bool blank] w fun e w' => e = .returned (.bool true) ∧ Below w.heap.size w w' := by
  obtain ⟨k, A, l, c, A', p, c', rfl, -, -, -, -, -⟩ := hV.open_
  have hb0 := below_alloc1 w (.cells #[.int .i64 k, .slice A l c, .slice A' p c'] 25)
  have hst : LSt B0 w w.heap.size n s k (.slice A l c) (.slice A' p c') (w.alloc (.cells #[.int .i64 k, .slice A l c, .slice A' p c'] 25)) := ⟨hE.low hb0, hb0, hV.below hb0, blk_new w _⟩
  have hcall := fits1_any n _ s _ hst.sh
  obtain ⟨z0, z1, z2⟩ := hst.cells
  have HST := Lib.hid hst
  clear hst hb0 hV hE
  go_enter Tryz.func8, Tryz.ntmps8
  go_wp2_with fail
  refine hcall.mono ?_
  clear hcall
  rintro e w1 ⟨b1, rfl, hb1⟩
  have HST1 := Lib.hid (HST.out.step hb1)
  clear hb1 z0 z1 z2
  obtain ⟨z0, z1, z2⟩ := HST1.out.cells
  cases b1 with
  | false =>
    go_wp2
    go_ret
    exact ⟨rfl, HST1.out.low⟩
  | true =>
    have hcall := wholeShape_any n w1 s _ HST1.out.sh hL hX
    go_wp2_with fail
    refine hcall.mono ?_
    clear hcall
    rintro e w2 ⟨b2, rfl, hb2, hgood⟩
    have HST2 := Lib.hid (HST1.out.step hb2)
    clear hb2 z0 z1 z2
    obtain ⟨z0, z1, z2⟩ := HST2.out.cells
    cases b2 with
    | false =>
      have hcall := writes_any w2 HST2.out.ev
      clear hgood
      go_wp2_with fail
      refine hcall.mono ?_
      clear hcall
      rintro e w3 ⟨rfl, hb3⟩
      have HST3 := Lib.hid (HST2.out.step hb3)
      clear hb3
      go_wp2
      go_ret
      exact ⟨rfl, HST3.out.low⟩
    | true =>
      obtain ⟨g, hs, hg⟩ := good_of (hgood rfl) hX
      subst hs
      have HG := Lib.hid hg
      clear hgood hg
      have hcall := isFull_any n w2 (shOf g) _ HST2.out.sh HG.out.pts
      go_wp2_with fail
      refine hcall.mono ?_
      clear hcall
      rintro e w3 ⟨b3, rfl, hb3, hfull⟩
      have HST3 := Lib.hid (HST2.out.step hb3)
      clear hb3 z0 z1 z2
      obtain ⟨z0, z1, z2⟩ := HST3.out.cells
      cases b3 with
      | false =>
        have hcall := writes_any w3 HST3.out.ev
        clear hfull
        go_wp2_with fail
        refine hcall.mono ?_
        clear hcall
        rintro e w4 ⟨rfl, hb4⟩
        have HST4 := Lib.hid (HST3.out.step hb4)
        clear hb4
        go_wp2
        go_ret
        exact ⟨rfl, HST4.out.low⟩
      | true =>
        have hcall := points_any n w3 (shOf g) _ HST3.out.sh HG.out.pts
        have hfe := hfull rfl
        clear hfull
        go_wp2_with fail
        refine hcall.mono ?_
        clear hcall
        rintro e w4 ⟨x4, rfl, hR4, hb4⟩
        obtain ⟨A4, c4, rfl, -, -⟩ := Kd.R_reads hR4
        have HST4 := Lib.hid (HST3.out.step hb4)
        clear hb4 hR4 z0 z1 z2
        obtain ⟨z0, z1, z2⟩ := HST4.out.cells
        obtain ⟨m, hm⟩ : ∃ m, m = (ptsS (shOf g)).length := ⟨_, rfl⟩
        rw [← hm]
        have HM := Lib.hid hm
        clear hm
        rcases Nat.eq_zero_or_pos m with h0 | h0
        · have q0 : (m == 0) = true := by simp [h0]
          have q0' : ((m : Int) == 0) = true := by simp [h0]
          clear h0
          have hcall := writes_any w4 HST4.out.ev
          go_wp2_with fail
          refine hcall.mono ?_
          clear hcall
          rintro e w5 ⟨rfl, hb5⟩
          have HST5 := Lib.hid (HST4.out.step hb5)
          clear hb5
          go_wp2
          go_ret
          exact ⟨rfl, HST5.out.low⟩
        · have q0 : (m == 0) = false := by simp; omega
          have q0' : ((m : Int) == 0) = false := by simp; omega
          have hfl : fullS (shOf g) = true := by
            rcases hfe with h | h
            · unfold emptyS at h
              simp only [Bool.and_eq_true, decide_eq_true_eq] at h
              have := h.1.1
              have := HM.out
              omega
            · exact h
          have HFL := Lib.hid hfl
          clear hfl hfe h0
          cases blank with
          | false =>
            have hb5 := below_alloc1 w4 (.cells #[.bool small, .string ⟨#[]⟩] 31)
            have HST5 := Lib.hid (HST4.out.step hb5)
            clear hb5 z0 z1 z2
            obtain ⟨z0, z1, z2⟩ := HST5.out.cells
            have HF := Lib.hid (full_facts HG.out (fullS_geo g.deep g (Nat.le_refl _) HFL.out).1 small [] (by decide) (by decide) (by unfold Asc; decide))
            have hcall := text_any n _ small [] g _ HST5.out.sh HST5.out.ev.en (by decide) HFL.out HG.out.wn (by have := HG.out.wt; omega)
            obtain ⟨t, ht⟩ : ∃ t, t = text nfW [] small g := ⟨_, rfl⟩
            rw [← ht] at hcall HF
            have HT := Lib.hid ht
            clear ht
            go_wp2_with fail
            refine hcall.mono ?_
            clear hcall
            rintro e w5 ⟨rfl, hb6⟩
            have HST6 := Lib.hid (HST5.out.step hb6)
            clear hb6 z0 z1 z2
            have hcall := readT_any w5 HST6.out.ev g t HF.out.1 HF.out.2.1 HF.out.2.2 (by have := HG.out.wt; omega)
            go_wp2_with fail
            refine hcall.mono ?_
            clear hcall
            rintro e w6 ⟨v6, rfl, hV6, hb7⟩
            obtain ⟨k6, A6, l6, c6, A6', p6, c6', rfl, -, -, -, -, -⟩ := hV6.open_
            have hb7a := below_alloc1 w6 (.cells #[.int .i64 k6, .slice A6 l6 c6, .slice A6' p6 c6'] 25)
            have HST7 := Lib.hid ((HST6.out.step hb7).step hb7a)
            have HV7 := Lib.hid (hV6.below hb7a)
            have HK7 := Lib.hid (blk_new w6 (.cells #[.int .i64 k6, .slice A6 l6 c6, .slice A6' p6 c6'] 25))
            clear hb7 hb7a hV6
            have hcall := writes_any (w6.alloc (.cells #[.int .i64 k6, .slice A6 l6 c6, .slice A6' p6 c6'] 25)) HST7.out.ev
            go_wp2_with fail
            refine hcall.mono ?_
            clear hcall
            rintro e w7 ⟨rfl, hb8⟩
            have HST8 := Lib.hid (HST7.out.step hb8)
            have HV8 := Lib.hid (HV7.out.below hb8)
            have HK8 := Lib.hid (blk_below HK7.out hb8)
            clear hb8
            obtain ⟨z0, z1, z2⟩ := HST8.out.cells
            obtain ⟨y0, y1, y2⟩ : Cells3 w6.heap.size k6 (.slice A6 l6 c6) (.slice A6' p6 c6') w7 := ⟨blk_cell HK8.out 0, blk_cell HK8.out 1, blk_cell HK8.out 2⟩
            have hcall := same_any 4 n w7 (shOf g) _ _ HV8.out HST8.out.sh HG.out.pts
            go_wp2_with fail
            refine hcall.mono ?_
            clear hcall
            rintro e w8 ⟨rfl, hb9⟩
            have HST9 := Lib.hid (HST8.out.step hb9)
            clear hb9
            go_wp2
            go_ret
            exact ⟨rfl, HST9.out.low⟩
          | true =>
            have hb5 := below_alloc1 w4 (.cells #[.bool small, .string ⟨#[32]⟩] 31)
            have HST5 := Lib.hid (HST4.out.step hb5)
            clear hb5 z0 z1 z2
            obtain ⟨z0, z1, z2⟩ := HST5.out.cells
            have HF := Lib.hid (full_facts HG.out (fullS_geo g.deep g (Nat.le_refl _) HFL.out).1 small [32] (by decide) (by decide) (by unfold Asc; decide))
            have hcall := text_any n _ small [32] g _ HST5.out.sh HST5.out.ev.en (by decide) HFL.out HG.out.wn (by have := HG.out.wt; omega)
            obtain ⟨t, ht⟩ : ∃ t, t = text nfW [32] small g := ⟨_, rfl⟩
            rw [← ht] at hcall HF
            have HT := Lib.hid ht
            clear ht
            go_wp2_with fail
            refine hcall.mono ?_
            clear hcall
            rintro e w5 ⟨rfl, hb6⟩
            have HST6 := Lib.hid (HST5.out.step hb6)
            clear hb6 z0 z1 z2
            have hcall := readT_any w5 HST6.out.ev g t HF.out.1 HF.out.2.1 HF.out.2.2 (by have := HG.out.wt; omega)
            go_wp2_with fail
            refine hcall.mono ?_
            clear hcall
            rintro e w6 ⟨v6, rfl, hV6, hb7⟩
            obtain ⟨k6, A6, l6, c6, A6', p6, c6', rfl, -, -, -, -, -⟩ := hV6.open_
            have hb7a := below_alloc1 w6 (.cells #[.int .i64 k6, .slice A6 l6 c6, .slice A6' p6 c6'] 25)
            have HST7 := Lib.hid ((HST6.out.step hb7).step hb7a)
            have HV7 := Lib.hid (hV6.below hb7a)
            have HK7 := Lib.hid (blk_new w6 (.cells #[.int .i64 k6, .slice A6 l6 c6, .slice A6' p6 c6'] 25))
            clear hb7 hb7a hV6
            have hcall := writes_any (w6.alloc (.cells #[.int .i64 k6, .slice A6 l6 c6, .slice A6' p6 c6'] 25)) HST7.out.ev
            go_wp2_with fail
            refine hcall.mono ?_
            clear hcall
            rintro e w7 ⟨rfl, hb8⟩
            have HST8 := Lib.hid (HST7.out.step hb8)
            have HV8 := Lib.hid (HV7.out.below hb8)
            have HK8 := Lib.hid (blk_below HK7.out hb8)
            clear hb8
            obtain ⟨z0, z1, z2⟩ := HST8.out.cells
            obtain ⟨y0, y1, y2⟩ : Cells3 w6.heap.size k6 (.slice A6 l6 c6) (.slice A6' p6 c6') w7 := ⟨blk_cell HK8.out 0, blk_cell HK8.out 1, blk_cell HK8.out 2⟩
            have hcall := same_any 4 n w7 (shOf g) _ _ HV8.out HST8.out.sh HG.out.pts
            go_wp2_with fail
            refine hcall.mono ?_
            clear hcall
            rintro e w8 ⟨rfl, hb9⟩
            have HST9 := Lib.hid (HST8.out.step hb9)
            clear hb9
            go_wp2
            go_ret
            exact ⟨rfl, HST9.out.low⟩
end Go.Proofs.YtghajgdiaopioaaGreatDoor
end

/- The laws: FnReadWrong. Conditions: stand in each contract. -/
section
set_option linter.unusedVariables false
set_option linter.unusedSimpArgs false
namespace Go.Proofs.YtghajgdiaopioaaGreatDoor
open Go.RowKit Go.Proofs Tx
open Go.Proofs.YtghajgdiaopioaaGreatDoorW.PrintWords

theorem itoa1 : Lib.itoa 1 = [49] := itoa_one 1 (by decide)
theorem itoa2 : Lib.itoa 2 = [50] := itoa_one 2 (by decide)
theorem pf_one_two : ∃ x y, pfW [49] = .ok x ∧ pfW [50] = .ok y := ⟨fb 1, fb 2, by rw [← itoa1]; exact pfW_itoa 1 (by decide) (by decide), by rw [← itoa2]; exact pfW_itoa 2 (by decide) (by decide)⟩

set_option maxRecDepth 40000 in
set_option maxHeartbeats 4000000 in
/-- FnReadWrong. -/
theorem fnReadWrong_any {B0 : Nat} (n : Nat) (w : World) (s : Sh) (v : Value) (j : Int) (hV : ShV n w s v) (hL : LenS s) (hX : AllS F64 s) (hE : Ev B0 w) :
    Calls Tryz.prog 3 #[v, .int .i64 j] w fun e w' => e = .returned (.bool true) ∧ Below w.heap.size w w' := by
  obtain ⟨k, A, l, c, A', p, c', rfl, -, -, -, -, -⟩ := hV.open_
  have hb0 := below_alloc1 w (.cells #[.int .i64 k, .slice A l c, .slice A' p c'] 25)
  have hst : LSt B0 w w.heap.size n s k (.slice A l c) (.slice A' p c') (w.alloc (.cells #[.int .i64 k, .slice A l c, .slice A' p c'] 25)) := ⟨hE.low hb0, hb0, hV.below hb0, blk_new w _⟩
  have hcall := fits1_any n _ s _ hst.sh
  obtain ⟨z0, z1, z2⟩ := hst.cells
  have HST := Lib.hid hst
  clear hst hb0 hV hE
  go_enter Tryz.func3, Tryz.ntmps3
  go_wp2_with fail
  refine hcall.mono ?_
  clear hcall
  rintro e w1 ⟨b1, rfl, hb1⟩
  have HST1 := Lib.hid (HST.out.step hb1)
  clear hb1 z0 z1 z2
  obtain ⟨z0, z1, z2⟩ := HST1.out.cells
  cases b1 with
  | false =>
    go_wp2
    go_ret
    exact ⟨rfl, HST1.out.low⟩
  | true =>
    have hcall := wholeShape_any n w1 s _ HST1.out.sh hL hX
    go_wp2_with fail
    refine hcall.mono ?_
    clear hcall
    rintro e w2 ⟨b2, rfl, hb2, hgood⟩
    have HST2 := Lib.hid (HST1.out.step hb2)
    clear hb2 z0 z1 z2
    obtain ⟨z0, z1, z2⟩ := HST2.out.cells
    cases b2 with
    | false =>
      have hcall := writes_any w2 HST2.out.ev
      clear hgood
      go_wp2_with fail
      refine hcall.mono ?_
      clear hcall
      rintro e w3 ⟨rfl, hb3⟩
      have HST3 := Lib.hid (HST2.out.step hb3)
      clear hb3
      go_wp2
      go_ret
      exact ⟨rfl, HST3.out.low⟩
    | true =>
      obtain ⟨g, hs, hg⟩ := good_of (hgood rfl) hX
      subst hs
      have HG := Lib.hid hg
      clear hgood hg
      have hcall := isFull_any n w2 (shOf g) _ HST2.out.sh HG.out.pts
      go_wp2_with fail
      refine hcall.mono ?_
      clear hcall
      rintro e w3 ⟨b3, rfl, hb3, hfull⟩
      have HST3 := Lib.hid (HST2.out.step hb3)
      clear hb3 z0 z1 z2
      obtain ⟨z0, z1, z2⟩ := HST3.out.cells
      cases b3 with
      | false =>
        have hcall := writes_any w3 HST3.out.ev
        clear hfull
        go_wp2_with fail
        refine hcall.mono ?_
        clear hcall
        rintro e w4 ⟨rfl, hb4⟩
        have HST4 := Lib.hid (HST3.out.step hb4)
        clear hb4
        go_wp2
        go_ret
        exact ⟨rfl, HST4.out.low⟩
      | true =>
        have hcall := points_any n w3 (shOf g) _ HST3.out.sh HG.out.pts
        have hfe := hfull rfl
        clear hfull
        go_wp2_with fail
        refine hcall.mono ?_
        clear hcall
        rintro e w4 ⟨x4, rfl, hR4, hb4⟩
        obtain ⟨A4, c4, rfl, -, -⟩ := Kd.R_reads hR4
        have HST4 := Lib.hid (HST3.out.step hb4)
        clear hb4 hR4 z0 z1 z2
        obtain ⟨z0, z1, z2⟩ := HST4.out.cells
        obtain ⟨m, hm⟩ : ∃ m, m = (ptsS (shOf g)).length := ⟨_, rfl⟩
        rw [← hm]
        have HM := Lib.hid hm
        clear hm
        rcases Nat.eq_zero_or_pos m with h0 | h0
        · have q0 : (m == 0) = true := by simp [h0]
          have q0' : ((m : Int) == 0) = true := by simp [h0]
          clear h0
          have hcall := writes_any w4 HST4.out.ev
          go_wp2_with fail
          refine hcall.mono ?_
          clear hcall
          rintro e w5 ⟨rfl, hb5⟩
          have HST5 := Lib.hid (HST4.out.step hb5)
          clear hb5
          go_wp2
          go_ret
          exact ⟨rfl, HST5.out.low⟩
        · have q0 : (m == 0) = false := by simp; omega
          have q0' : ((m : Int) == 0) = false := by simp; omega
          have hfl : fullS (shOf g) = true := by
            rcases hfe with h | h
            · unfold emptyS at h
              simp only [Bool.and_eq_true, decide_eq_true_eq] at h
              have := h.1.1
              have := HM.out
              omega
            · exact h
          have HFL := Lib.hid hfl
          clear hfl hfe h0
          have hft := Lib.hid (fullS_geo g.deep g (Nat.le_refl _) HFL.out).1
          have HF := Lib.hid (full_facts HG.out hft.out false [] (by simp) (by simp) (by intro c hc; cases hc))
          have HCUT := Lib.hid (read_cut (pf := pfW) (nf := nfW) (sp := []) (small := false) (by simp) 4 g HG.out.deep hft.out (allC_imp (fun x h => h.numOk) g.deep g (Nat.le_refl _) HG.out.wn))
          have HEND := Lib.hid (ends_text (nf := nfW) (sp := []) (small := false) g)
          have hcall := text_any n _ false [] g _ HST4.out.sh HST4.out.ev.en (by decide) HFL.out HG.out.wn (by have := HG.out.wt; omega)
          obtain ⟨t, ht⟩ : ∃ t, t = text nfW [] false g := ⟨_, rfl⟩
          obtain ⟨u, hu⟩ : ∃ u, u = cutT nfW [] false g := ⟨_, rfl⟩
          have htu : t = u ++ [41] := by rw [ht, hu]; exact text_cut g
          have hsh : (text nfW [] false g).length ≤ 999999999 := by
            have h1 := text_len (nf := nfW) (sp := []) (small := false) (by simp) g.deep g (Nat.le_refl _) (allC_imp (fun x h => by have := h.short; show (nfW x).length ≤ 30; omega) g.deep g (Nat.le_refl _) HG.out.wn)
            have := HG.out.wt
            omega
          rw [← ht] at hcall HF HEND hsh
          have HSH := Lib.hid hsh
          clear hsh
          rw [← hu] at HCUT
          have HTU := Lib.hid htu
          clear ht hu htu hft
          go_wp2_with fail
          refine hcall.mono ?_
          clear hcall
          rintro e w5 ⟨rfl, hb5⟩
          have HST5 := Lib.hid (HST4.out.step hb5)
          clear hb5 z0 z1 z2
          by_cases j0 : j = 0
          · subst j0
            have HLEN := Lib.hid (show t.length = u.length + 1 by rw [HTU.out]; simp)
            have e1 : wrap64 ((t.length : Int) - 1) = (u.length : Int) := by
              have h1 := HLEN.out
              have h2 := HF.out.2.2
              unfold wrap64; omega
            have e2 : (u.length ≤ t.length) = True := by have h1 := HLEN.out; simp; omega
            have e2' : ((u.length : Int) ≤ (t.length : Int)) = True := by have h1 := HLEN.out; simp; omega
            have e3 : List.take u.length t = u := by rw [HTU.out]; simp
            have hcall := readE_any w5 HST5.out.ev u HCUT.out (fun c hc => HF.out.2.1 c (by rw [HTU.out]; exact List.mem_append_left _ hc)) (by have h1 := HF.out.2.2; have h2 := HLEN.out; omega)
            go_wp2_with fail
            refine hcall.mono ?_
            clear hcall
            rintro e w6 ⟨rfl, hb6⟩
            have hb6a := below_alloc1 w6 (.cells #[.int .i64 0, .slice none 0 0, .slice none 0 0] 25)
            have HST6 := Lib.hid ((HST5.out.step hb6).step hb6a)
            clear hb6 hb6a
            have hcall := writes_any (w6.alloc (.cells #[.int .i64 0, .slice none 0 0, .slice none 0 0] 25)) HST6.out.ev
            go_wp2_with fail
            refine hcall.mono ?_
            clear hcall
            rintro e w7 ⟨rfl, hb7⟩
            have HST7 := Lib.hid (HST6.out.step hb7)
            clear hb7
            go_wp2
            go_ret
            exact ⟨rfl, HST7.out.low⟩
          have f0 : (j == 0) = false := by simp [j0]
          by_cases j1 : j = 1
          · subst j1
            have e1 : (9223372036854775807 < 1 + t.length) = False := by have h1 := HF.out.2.2; simp; omega
            have HLT := Lib.hid (show t.length ≤ 999999999 by have h1 := HSH.out; omega)
            have hcall := readE_any w5 HST5.out.ev (88 :: t) (read_x 3 HEND.out) (Asc.cons (by decide) HF.out.2.1) (by have h1 := HLT.out; simp; omega)
            go_wp2_with fail
            refine hcall.mono ?_
            clear hcall
            rintro e w6 ⟨rfl, hb6⟩
            have hb6a := below_alloc1 w6 (.cells #[.int .i64 0, .slice none 0 0, .slice none 0 0] 25)
            have HST6 := Lib.hid ((HST5.out.step hb6).step hb6a)
            clear hb6 hb6a
            have hcall := writes_any (w6.alloc (.cells #[.int .i64 0, .slice none 0 0, .slice none 0 0] 25)) HST6.out.ev
            go_wp2_with fail
            refine hcall.mono ?_
            clear hcall
            rintro e w7 ⟨rfl, hb7⟩
            have HST7 := Lib.hid (HST6.out.step hb7)
            clear hb7
            go_wp2
            go_ret
            exact ⟨rfl, HST7.out.low⟩
          have f1 : (j == 1) = false := by simp [j1]
          by_cases j2 : j = 2
          · subst j2
            have hcall := readE_any w5 HST5.out.ev [80, 79, 73, 78, 84, 40, 49, 41] (read_one 3) (by unfold Asc; decide) (by decide)
            go_wp2_with fail
            refine hcall.mono ?_
            clear hcall
            rintro e w6 ⟨rfl, hb6⟩
            have hb6a := below_alloc1 w6 (.cells #[.int .i64 0, .slice none 0 0, .slice none 0 0] 25)
            have HST6 := Lib.hid ((HST5.out.step hb6).step hb6a)
            clear hb6 hb6a
            have hcall := writes_any (w6.alloc (.cells #[.int .i64 0, .slice none 0 0, .slice none 0 0] 25)) HST6.out.ev
            go_wp2_with fail
            refine hcall.mono ?_
            clear hcall
            rintro e w7 ⟨rfl, hb7⟩
            have HST7 := Lib.hid (HST6.out.step hb7)
            clear hb7
            go_wp2
            go_ret
            exact ⟨rfl, HST7.out.low⟩
          have f2 : (j == 2) = false := by simp [j2]
          by_cases j3 : j = 3
          · subst j3
            obtain ⟨x, y, hx, hy⟩ := pf_one_two
            have hcall := readE_any w5 HST5.out.ev [76, 73, 78, 69, 83, 84, 82, 73, 78, 71, 40, 49, 32, 50, 44, 51, 41] (read_three 3 hx hy) (by unfold Asc; decide) (by decide)
            go_wp2_with fail
            refine hcall.mono ?_
            clear hcall
            rintro e w6 ⟨rfl, hb6⟩
            have hb6a := below_alloc1 w6 (.cells #[.int .i64 0, .slice none 0 0, .slice none 0 0] 25)
            have HST6 := Lib.hid ((HST5.out.step hb6).step hb6a)
            clear hb6 hb6a
            have hcall := writes_any (w6.alloc (.cells #[.int .i64 0, .slice none 0 0, .slice none 0 0] 25)) HST6.out.ev
            go_wp2_with fail
            refine hcall.mono ?_
            clear hcall
            rintro e w7 ⟨rfl, hb7⟩
            have HST7 := Lib.hid (HST6.out.step hb7)
            clear hb7
            go_wp2
            go_ret
            exact ⟨rfl, HST7.out.low⟩
          have f3 : (j == 3) = false := by simp [j3]
          by_cases j4 : j = 4
          · subst j4
            have hcall := readE_any w5 HST5.out.ev [] (read_none 3) (by unfold Asc; decide) (by decide)
            go_wp2_with fail
            refine hcall.mono ?_
            clear hcall
            rintro e w6 ⟨rfl, hb6⟩
            have hb6a := below_alloc1 w6 (.cells #[.int .i64 0, .slice none 0 0, .slice none 0 0] 25)
            have HST6 := Lib.hid ((HST5.out.step hb6).step hb6a)
            clear hb6 hb6a
            have hcall := writes_any (w6.alloc (.cells #[.int .i64 0, .slice none 0 0, .slice none 0 0] 25)) HST6.out.ev
            go_wp2_with fail
            refine hcall.mono ?_
            clear hcall
            rintro e w7 ⟨rfl, hb7⟩
            have HST7 := Lib.hid (HST6.out.step hb7)
            clear hb7
            go_wp2
            go_ret
            exact ⟨rfl, HST7.out.low⟩
          have f4 : (j == 4) = false := by simp [j4]
          clear j0 j1 j2 j3 j4
          have hcall := writes_any w5 HST5.out.ev
          go_wp2_with fail
          refine hcall.mono ?_
          clear hcall
          rintro e w6 ⟨rfl, hb6⟩
          have HST6 := Lib.hid (HST5.out.step hb6)
          clear hb6
          go_wp2
          go_ret
          exact ⟨rfl, HST6.out.low⟩
end Go.Proofs.YtghajgdiaopioaaGreatDoor
end
