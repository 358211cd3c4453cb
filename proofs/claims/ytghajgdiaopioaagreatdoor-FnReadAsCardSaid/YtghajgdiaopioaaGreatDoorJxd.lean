/- Walks and plain laws joined (Mc). Conditions: stand in each law. -/
import Derived.Test.YtghajgdiaopioaaGreatDoorJxa
import Derived.Test.YtghajgdiaopioaaGreatDoorJxc
/- The laws: FnReadAs. Conditions: stand in each contract. -/
section
set_option linter.unusedVariables false
set_option linter.unusedSimpArgs false
namespace Go.Proofs.YtghajgdiaopioaaGreatDoor
open Go.RowKit Go.Proofs Tx
open Go.Proofs.YtghajgdiaopioaaGreatDoorW.PrintWords

theorem shOf_kind (g : Geo) : (shOf g).kind = (g.kind : Int) := by cases g <;> rfl
theorem hasW_empty : ∀ i, 2 ≤ i → i ≤ 7 → ∀ k, 1 ≤ k → k ≤ 7 → hasW (trim (word i ++ emptyW)) (word k) = decide (k = i) := by
  intro i h1 h7 k k1 k7
  have hi : i = 2 ∨ i = 3 ∨ i = 4 ∨ i = 5 ∨ i = 6 ∨ i = 7 := by omega
  have hk : k = 1 ∨ k = 2 ∨ k = 3 ∨ k = 4 ∨ k = 5 ∨ k = 6 ∨ k = 7 := by omega
  rcases hi with rfl | rfl | rfl | rfl | rfl | rfl <;> rcases hk with rfl | rfl | rfl | rfl | rfl | rfl | rfl <;> rfl
theorem hasW_text {g : Geo} {t : Bs} (h : textE nfW g t) (k : Nat) (h1 : 1 ≤ k) (h7 : k ≤ 7) : hasW (trim t) (word k) = decide (k = g.kind) := by
  rcases h with ⟨hf, rfl⟩ | ⟨h2, he, rfl⟩
  · rw [trim_ends (ends_text g), text_core, List.append_assoc]
    exact hasW_word false _ _ _ (kind_range g).1 (kind_range g).2 h1 h7
  · exact hasW_empty _ h2 (kind_range g).2 k h1 h7
theorem um_textE {g : Geo} (hg : Good g) {t : Bs} (h : textE nfW g t) : um pfW (readG pfW 3) g.kind (trim t) = .ok g := by
  have hk := hasW_text h g.kind (kind_range g).1 (kind_range g).2
  rw [decide_eq_true rfl] at hk
  have hr : readK pfW 3 g.kind t = .ok g := by
    rcases h with ⟨hf, rfl⟩ | ⟨h2, he, rfl⟩
    · rw [readK_text (by simp) hg.deep hf (allC_imp (fun x h => h.numOk) g.deep g (Nat.le_refl _) hg.wn) (kind_range g).1 (kind_range g).2, if_pos rfl]
    · rw [readK_empty 3 g.kind g.kind h2 (kind_range g).2 (kind_range g).1 (kind_range g).2, if_pos rfl, ← he]
  unfold readK at hr
  rw [hk, if_pos rfl] at hr
  exact hr

set_option maxRecDepth 40000 in
set_option maxHeartbeats 4000000 in
/-- FnReadAs. -/
theorem fnReadAs_any {B0 : Nat} (n : Nat) (w : World) (s : Sh) (v : Value) (j : Int) (hV : ShV n w s v) (hL : LenS s) (hX : AllS F64 s) (hE : Ev B0 w) (hE2 : E2 w) :
    Calls Tryz.prog 5 #[v, .int .i64 j] w fun e w' => e = .returned (.bool true) ∧ Below w.heap.size w w' := by
  obtain ⟨k, A, l, c, A', p, c', rfl, hk0, -, -, -, -⟩ := hV.open_
  have HK0 := Lib.hid hk0
  have HE2 := Lib.hid hE2
  have HBIG := Lib.hid hE.big
  clear hk0 hE2
  have hb0 := below_alloc1 w (.cells #[.int .i64 k, .slice A l c, .slice A' p c'] 25)
  have hst : LSt B0 w w.heap.size n s k (.slice A l c) (.slice A' p c') (w.alloc (.cells #[.int .i64 k, .slice A l c, .slice A' p c'] 25)) := ⟨hE.low hb0, hb0, hV.below hb0, blk_new w _⟩
  have hcall := fits1_any n _ s _ hst.sh
  obtain ⟨z0, z1, z2⟩ := hst.cells
  have HST := Lib.hid hst
  clear hst hb0 hV hE
  go_enter Tryz.func5, Tryz.ntmps5
  go_wp2_with fail
  refine hcall.mono ?_
  clear hcall
  rintro e w1 ⟨b1, rfl, hb1⟩
  have HST1 := Lib.hid (HST.out.step hb1)
  clear hb1 z0 z1 z2
  obtain ⟨z0, z1, z2⟩ := HST1.out.cells
  cases b1 with
  | false =>
    go_wp2
    go_ret
    exact ⟨rfl, HST1.out.low⟩
  | true =>
    have hcall := wholeShape_any n w1 s _ HST1.out.sh hL hX
    go_wp2_with fail
    refine hcall.mono ?_
    clear hcall
    rintro e w2 ⟨b2, rfl, hb2, hgood⟩
    have HST2 := Lib.hid (HST1.out.step hb2)
    clear hb2 z0 z1 z2
    obtain ⟨z0, z1, z2⟩ := HST2.out.cells
    cases b2 with
    | false =>
      have hcall := writes_any w2 HST2.out.ev
      clear hgood
      go_wp2_with fail
      refine hcall.mono ?_
      clear hcall
      rintro e w3 ⟨rfl, hb3⟩
      have HST3 := Lib.hid (HST2.out.step hb3)
      clear hb3
      go_wp2
      go_ret
      exact ⟨rfl, HST3.out.low⟩
    | true =>
      obtain ⟨g, hs, hg⟩ := good_of (hgood rfl) hX
      subst hs
      have HG := Lib.hid hg
      clear hgood hg
      have hcall := isFull_any n w2 (shOf g) _ HST2.out.sh HG.out.pts
      go_wp2_with fail
      refine hcall.mono ?_
      clear hcall
      rintro e w3 ⟨b3, rfl, hb3, hfull⟩
      have HST3 := Lib.hid (HST2.out.step hb3)
      clear hb3 z0 z1 z2
      obtain ⟨z0, z1, z2⟩ := HST3.out.cells
      cases b3 with
      | false =>
        have hcall := writes_any w3 HST3.out.ev
        clear hfull
        go_wp2_with fail
        refine hcall.mono ?_
        clear hcall
        rintro e w4 ⟨rfl, hb4⟩
        have HST4 := Lib.hid (HST3.out.step hb4)
        clear hb4
        go_wp2
        go_ret
        exact ⟨rfl, HST4.out.low⟩
      | true =>
        obtain ⟨t, ht1, ht2⟩ := text_of (hfull rfl)
        have HT1 := Lib.hid ht1
        have HT2 := Lib.hid ht2
        have HF := Lib.hid (textE_facts HG.out ht1)
        clear hfull ht1 ht2
        by_cases j1 : 1 ≤ j
        · by_cases j7 : j ≤ 7
          · obtain ⟨i, hi⟩ : ∃ i : Nat, j = i := ⟨j.toNat, by omega⟩
            subst hi
            have e1 : ((i : Int) < 1) = False := by simp; omega
            have e1' : decide ((i : Int) < 1) = false := by simp; omega
            have e2 : (7 < (i : Int)) = False := by simp; omega
            have e2' : decide (7 < (i : Int)) = false := by simp; omega
            have hi1 : 1 ≤ i := by omega
            have hi7 : i ≤ 7 := by omega
            have HI := Lib.hid (And.intro hi1 hi7)
            clear hi1 hi7 j1 j7
            have hcall := textP_any n w3 HST3.out.ev g HG.out _ t HST3.out.sh HT2.out
            go_wp2_with fail
            refine hcall.mono ?_
            clear hcall
            rintro e w4 ⟨rfl, hb4⟩
            have HST4 := Lib.hid (HST3.out.step hb4)
            clear hb4 z0 z1 z2 e1 e1' e2 e2'
            by_cases hk : i = g.kind
            · have HKK := Lib.hid hk
              have hcall := (as_yes i HI.out.1 HI.out.2 pfW pfW_ok 3 t w4 HST4.out.ev.gl HF.out.2.2 HF.out.2.1 (by rw [hasW_text HT1.out i HI.out.1 HI.out.2, decide_eq_true hk]) g (by rw [hk]; exact um_textE HG.out HT1.out) (wt_lim g.deep g (Nat.le_refl _) (by have := HG.out.wt; omega)))
              clear hk
              go_wp2_with fail
              refine hcall.mono ?_
              clear hcall
              rintro e w5 ⟨hr5, hb5⟩
              obtain ⟨A5, c5, A5', c5', rfl, hV5⟩ := read_val hr5
              clear hr5
              have hb5a := below_alloc1 w5 (.cells #[.int .i64 (shOf g).kind, .slice A5 (shOf g).lists.length c5, .slice A5' (shOf g).parts.length c5'] 25)
              have HST5 := Lib.hid ((HST4.out.step hb5).step hb5a)
              have HV5 := Lib.hid (hV5.below hb5a)
              have HK5 := Lib.hid (blk_new w5 (.cells #[.int .i64 (shOf g).kind, .slice A5 (shOf g).lists.length c5, .slice A5' (shOf g).parts.length c5'] 25))
              clear hb5 hb5a hV5
              have hcall := writes_any (w5.alloc (.cells #[.int .i64 (shOf g).kind, .slice A5 (shOf g).lists.length c5, .slice A5' (shOf g).parts.length c5'] 25)) HST5.out.ev
              go_wp2_with fail
              refine hcall.mono ?_
              clear hcall
              rintro e w6 ⟨rfl, hb6⟩
              have HST6 := Lib.hid (HST5.out.step hb6)
              have HV6 := Lib.hid (HV5.out.below hb6)
              have HK6 := Lib.hid (blk_below HK5.out hb6)
              clear hb6
              obtain ⟨z0, z1, z2⟩ := HST6.out.cells
              obtain ⟨y0, y1, y2⟩ : Cells3 w5.heap.size (shOf g).kind (.slice A5 (shOf g).lists.length c5) (.slice A5' (shOf g).parts.length c5') w6 := ⟨blk_cell HK6.out 0, blk_cell HK6.out 1, blk_cell HK6.out 2⟩
              have q0 : ((i : Int) == k) = true := by rw [HK0.out, shOf_kind, HKK.out]; simp
              have hcall := same_any 4 n w6 (shOf g) _ _ HV6.out HST6.out.sh HG.out.pts
              go_wp2_with fail
              refine hcall.mono ?_
              clear hcall
              rintro e w7 ⟨rfl, hb7⟩
              have HST7 := Lib.hid (HST6.out.step hb7)
              clear hb7
              go_wp2
              go_ret
              exact ⟨rfl, HST7.out.low⟩
            · have HKK := Lib.hid hk
              have hcall := (as_no i HI.out.1 HI.out.2 t w4 (HE2.out.below HST4.out.low (by have := HBIG.out; omega)) (by have := HST4.out.ev.big; omega) HF.out.2.2 (by rw [hasW_text HT1.out i HI.out.1 HI.out.2, decide_eq_false hk]))
              clear hk
              go_wp2_with fail
              refine hcall.mono ?_
              clear hcall
              rintro e w5 ⟨rfl, hb5⟩
              have hb5a := below_alloc1 w5 (.cells #[.int .i64 0, .slice none 0 0, .slice none 0 0] 25)
              have HST5 := Lib.hid ((HST4.out.step hb5).step hb5a)
              have HK5 := Lib.hid (blk_new w5 (.cells #[.int .i64 0, .slice none 0 0, .slice none 0 0] 25))
              clear hb5 hb5a
              have hcall := writes_any (w5.alloc (.cells #[.int .i64 0, .slice none 0 0, .slice none 0 0] 25)) HST5.out.ev
              go_wp2_with fail
              refine hcall.mono ?_
              clear hcall
              rintro e w6 ⟨rfl, hb6⟩
              have HST6 := Lib.hid (HST5.out.step hb6)
              have HK6 := Lib.hid (blk_below HK5.out hb6)
              clear hb6
              obtain ⟨z0, z1, z2⟩ := HST6.out.cells
              obtain ⟨y0, y1, y2⟩ : Cells3 w5.heap.size 0 (.slice none 0 0) (.slice none 0 0) w6 := ⟨blk_cell HK6.out 0, blk_cell HK6.out 1, blk_cell HK6.out 2⟩
              have q0 : ((i : Int) == k) = false := by
                rw [HK0.out, shOf_kind]
                have := HKK.out
                simp only [beq_eq_false_iff_ne]
                omega
              go_wp2
              go_ret
              exact ⟨rfl, HST6.out.low⟩
          · have e1 : (j < 1) = False := by simp; omega
            have e1' : decide (j < 1) = false := by simp; omega
            have e2 : (7 < j) = True := by simp; omega
            have e2' : decide (7 < j) = true := by simp; omega
            clear j1 j7
            have hcall := writes_any w3 HST3.out.ev
            go_wp2_with fail
            refine hcall.mono ?_
            clear hcall
            rintro e w4 ⟨rfl, hb4⟩
            have HST4 := Lib.hid (HST3.out.step hb4)
            clear hb4
            go_wp2
            go_ret
            exact ⟨rfl, HST4.out.low⟩
        · have e1 : (j < 1) = True := by simp; omega
          have e1' : decide (j < 1) = true := by simp; omega
          clear j1
          have hcall := writes_any w3 HST3.out.ev
          go_wp2_with fail
          refine hcall.mono ?_
          clear hcall
          rintro e w4 ⟨rfl, hb4⟩
          have HST4 := Lib.hid (HST3.out.step hb4)
          clear hb4
          go_wp2
          go_ret
          exact ⟨rfl, HST4.out.low⟩
end Go.Proofs.YtghajgdiaopioaaGreatDoor
end
