/- Walks and plain laws joined (Se, Sf). Conditions: stand in each law. -/
import Derived.Test.YtghajgdiaopioaaGreatDoorJx
import Derived.Test.YtghajgdiaopioaaGreatDoorJs
set_option linter.unusedVariables false
set_option linter.unusedSimpArgs false
section
/- Walks: all, WholeShape. Conditions: stand in each contract. -/
namespace Go.Proofs.YtghajgdiaopioaaGreatDoor
open Go.RowKit Go.Proofs Tx
open Go.Proofs.YtghajgdiaopioaaGreatDoorW.PrintWords
theorem AllS.mk {q : Nat → Prop} {s : Sh} (h1 : ∀ l ∈ s.lists, ∀ p ∈ l, q p.1 ∧ q p.2) (h2 : ∀ t ∈ s.parts, AllS q t) : AllS q s := by
  cases s with | mk k ls ps => exact ⟨h1, (AllSs_iff q ps).2 h2⟩
theorem AllS.lists {q : Nat → Prop} {s : Sh} (h : AllS q s) : ∀ l ∈ s.lists, ∀ p ∈ l, q p.1 ∧ q p.2 := by cases s; exact h.1
theorem AllS.parts {q : Nat → Prop} {s : Sh} (h : AllS q s) : ∀ p ∈ s.parts, AllS q p := by cases s; exact (AllSs_iff q _).1 h.2
/-- Bits of a float. -/
abbrev F64 (x : Nat) : Prop := x < 18446744073709551616
theorem mem_take_succ {α : Type} {l : List α} {j : Nat} (hj : j < l.length) {a : α} (ha : a ∈ l.take (j + 1)) : a ∈ l.take j ∨ a = l[j] := by
  rw [List.take_add_one, List.getElem?_eq_getElem hj] at ha
  rcases List.mem_append.1 ha with h | h
  · exact .inl h
  · exact .inr (by simpa using h)
abbrev isV (F : Nat) : Value := .func (.func F) #[] #[]

set_option maxRecDepth 40000 in
set_option maxHeartbeats 2000000 in
theorem all_step (F : Nat) (q : Nat → Prop) (hcf : ∀ args w, (callFunc F args).run Tryz.prog w = .ok (.enter F args) w)
    (hF : ∀ (x : Nat) (w : World), F64 x → Calls Tryz.prog F #[.float .f64 x] w fun e w' => ∃ b, e = .returned (.bool b) ∧ Below w.heap.size w w' ∧ (b = true → q x))
    (n : Nat) (ih : ∀ k, n = k + 1 → ∀ (w : World) (s : Sh) (v : Value), ShV k w s v → AllS F64 s → Calls Tryz.prog 22 #[v, isV F] w fun e w' => ∃ b, e = .returned (.bool b) ∧ Below w.heap.size w w' ∧ (b = true → AllS q s))
    (w : World) (s : Sh) (v : Value) (h : ShV n w s v) (hX : AllS F64 s) :
    Calls Tryz.prog 22 #[v, isV F] w fun e w' => ∃ b, e = .returned (.bool b) ∧ Below w.heap.size w w' ∧ (b = true → AllS q s) := by
  obtain ⟨A, c, A', c', rfl, hC, hC'⟩ := h
  have hbx := below_alloc1 w (.cells #[.int .i64 s.kind, .slice A s.lists.length c, .slice A' s.parts.length c'] 25)
  have hkx := blk_new w (.cells #[.int .i64 s.kind, .slice A s.lists.length c, .slice A' s.parts.length c'] 25)
  obtain ⟨m0, m1, m2, n0, n1, n2⟩ := three_facts hkx
  have hll : s.lists.length ≤ 9223372036854775807 := hC.2.1
  have hpl : s.parts.length ≤ 9223372036854775807 := hC'.2.1
  have HBX := Lib.hid hbx
  have HKX := Lib.hid hkx
  clear hbx hkx
  go_enter Tryz.func22, Tryz.ntmps22
  go_wp2
  go_loopw [14] (fun v14 wr => ∃ j : Nat, v14 = .int .i64 j ∧ j ≤ s.lists.length ∧ Below w.heap.size w wr ∧ wr.heap[w.heap.size]? = some (.cells #[.int .i64 s.kind, .slice A s.lists.length c, .slice A' s.parts.length c'] 25 (0, 0)) ∧ ∀ l ∈ s.lists.take j, ∀ p ∈ l, q p.1 ∧ q p.2) (fun v14 wr => s.lists.length - (intOf v14).toNat)
  case atStart => exact ⟨0, rfl, Nat.zero_le _, HBX.out, HKX.out, by simp⟩
  case round =>
    obtain ⟨j, rfl, hj, hb, hk, hall⟩ := hrel
    have hszr := hb.size
    by_cases hlt : j < s.lists.length
    · obtain ⟨ad, A2, c2, rfl, q0, hC2⟩ := get_row1 (Kd.C_below hC hb) rfl j hlt
      obtain ⟨r, hr⟩ : ∃ r, r = s.lists[j] := ⟨_, rfl⟩
      have hXr := hX.lists _ (List.getElem_mem hlt)
      rw [← hr] at q0 hC2 hXr
      have hrl : r.length ≤ 9223372036854775807 := hC2.2.1
      have HXR := Lib.hid hXr
      clear hXr
      have HR := Lib.hid hr
      have HB := Lib.hid hb
      have HK := Lib.hid hk
      have HALL := Lib.hid hall
      have HC := Lib.hid hC
      have HC' := Lib.hid hC'
      clear hr hb hk hall hC hC'
      obtain ⟨w1, hw1⟩ : ∃ w1, w1 = wr := ⟨_, rfl⟩
      subst hw1
      go_wp2
      go_loopw [20] (fun v20 wi => ∃ i : Nat, v20 = .int .i64 i ∧ i ≤ r.length ∧ Below w1.heap.size w1 wi ∧ ∀ p ∈ r.take i, q p.1 ∧ q p.2) (fun v20 wi => r.length - (intOf v20).toNat)
      case atStart => exact ⟨0, rfl, Nat.zero_le _, Below.refl _ _, by simp⟩
      case round =>
        obtain ⟨i, rfl, hi, hbi, halli⟩ := hrel
        by_cases hlti : i < r.length
        · obtain ⟨ad2, rfl, p0, p1⟩ := get_pt (Kd.C_below hC2 hbi) rfl i hlti
          obtain ⟨x, hx⟩ : ∃ x, x = r[i].1 := ⟨_, rfl⟩
          obtain ⟨y, hy⟩ : ∃ y, y = r[i].2 := ⟨_, rfl⟩
          have hxy := HXR.out _ (List.getElem_mem hlti)
          rw [← hx, ← hy] at hxy
          have HFXY := Lib.hid hxy
          clear hxy
          rw [← hx] at p0
          rw [← hy] at p1
          have HXY := Lib.hid (And.intro hx hy)
          have HBI := Lib.hid hbi
          have HALI := Lib.hid halli
          have hszi := hbi.size
          clear hx hy hbi halli
          have hcall := hF x (wr.alloc (.cells #[.float .f64 x, .float .f64 y] 49)) HFXY.out.1
          have hkb := blk_new wr (.cells #[.float .f64 x, .float .f64 y] 49)
          have HKB := Lib.hid hkb
          clear hkb
          go_wp2_with fail
          refine hcall.mono ?_
          clear hcall
          rintro e w2 ⟨b1, rfl, hb1, hq1⟩
          have hk2 := blk_below HKB.out hb1
          have c0 := blk_cell hk2 0
          have c1 := blk_cell hk2 1
          have HB1 := Lib.hid (below_then HBI.out hszi (below_then (below_alloc1 wr (.cells #[.float .f64 x, .float .f64 y] 49)) (by simp) hb1))
          clear hk2 hb1
          cases b1 with
          | false =>
            go_wp2
            go_ret
            exact ⟨_, rfl, below_then HB.out HB.out.size HB1.out, by simp⟩
          | true =>
            have HQ1 := Lib.hid (hq1 rfl)
            clear hq1
            have hcall := hF y w2 HFXY.out.2
            go_wp2_with fail
            refine hcall.mono ?_
            clear hcall
            rintro e w3 ⟨b2, rfl, hb2, hq2⟩
            have HB2 := Lib.hid (below_then HB1.out HB1.out.size hb2)
            clear hb2
            cases b2 with
            | false =>
              go_wp2
              go_ret
              exact ⟨_, rfl, below_then HB.out HB.out.size HB2.out, by simp⟩
            | true =>
              have HQ2 := Lib.hid (hq2 rfl)
              clear hq2
              go_wp2
              refine ⟨⟨i + 1, by go_num, by omega, HB2.out, fun p hp => ?_⟩, by simp [intOf]; omega⟩
              rcases mem_take_succ hlti hp with h | h
              · exact HALI.out p h
              · rw [h, ← HXY.out.1, ← HXY.out.2]; exact ⟨HQ1.out, HQ2.out⟩
        · have e1 : r.take i = r := List.take_of_length_le (by omega)
          rw [e1] at halli
          have HBI := Lib.hid (below_then HB.out HB.out.size hbi)
          have HKI := Lib.hid (blk_below HK.out hbi)
          have HALI := Lib.hid halli
          clear hbi halli e1
          go_wp2
          refine ⟨⟨j + 1, by go_num, by omega, HBI.out, HKI.out, fun l hl => ?_⟩, by simp [intOf]; omega⟩
          rcases mem_take_succ hlt hl with h | h
          · exact HALL.out l h
          · rw [h, ← HR.out]; exact HALI.out
    · have e1 : s.lists.take j = s.lists := List.take_of_length_le (by omega)
      rw [e1] at hall
      have HALL := Lib.hid hall
      obtain ⟨m0', m1', m2', n0', n1', n2'⟩ := three_facts hk
      have HB := Lib.hid hb
      have HK := Lib.hid hk
      clear e1 hall hb hk
      obtain ⟨w1, hw1⟩ : ∃ w1, w1 = wr := ⟨_, rfl⟩
      subst hw1
      go_wp2
      go_loopw [41] (fun v41 wi => ∃ i : Nat, v41 = .int .i64 i ∧ i ≤ s.parts.length ∧ Below w.heap.size w wi ∧ ∀ t ∈ s.parts.take i, AllS q t) (fun v41 wi => s.parts.length - (intOf v41).toNat)
      case atStart => exact ⟨0, rfl, Nat.zero_le _, HB.out, by simp⟩
      case round =>
        obtain ⟨i, rfl, hi, hbi, halli⟩ := hrel
        have hszi := hbi.size
        by_cases hlti : i < s.parts.length
        · obtain ⟨k2, ad, A2, c2, A3, c3, hn2, rfl, q0, q1, q2, hC2, hC3⟩ := get_sh (Kd.C_below hC' hbi) rfl i hlti
          obtain ⟨r, hr⟩ : ∃ r, r = s.parts[i] := ⟨_, rfl⟩
          have hXr := hX.parts _ (List.getElem_mem hlti)
          rw [← hr] at q0 q1 q2 hC2 hC3 hXr
          obtain ⟨kr, hkr⟩ : ∃ kr, kr = r.kind := ⟨_, rfl⟩
          obtain ⟨lr, hlr⟩ : ∃ lr, lr = r.lists.length := ⟨_, rfl⟩
          obtain ⟨pr, hpr⟩ : ∃ pr, pr = r.parts.length := ⟨_, rfl⟩
          have hbo := below_alloc1 wr (.cells #[.int .i64 kr, .slice A2 lr c2, .slice A3 pr c3] 25)
          have hcall := ih k2 hn2 (wr.alloc (.cells #[.int .i64 kr, .slice A2 lr c2, .slice A3 pr c3] 25)) r _ ⟨A2, c2, A3, c3, rfl, Kd.C_below hC2 hbo, Kd.C_below hC3 hbo⟩ hXr
          rw [← hkr, ← hlr, ← hpr] at hcall
          rw [← hkr] at q0
          rw [← hlr] at q1
          rw [← hpr] at q2
          have HR := Lib.hid hr
          have HBI := Lib.hid (hbi.alloc hszi (.cells #[.int .i64 kr, .slice A2 lr c2, .slice A3 pr c3] 25))
          have HALI := Lib.hid halli
          have HC' := Lib.hid hC'
          clear hn2 hC2 hC3 hr hkr hlr hpr hbo hbi halli hC hC' hXr
          go_wp2_with fail
          refine hcall.mono ?_
          clear hcall
          rintro e w2 ⟨b1, rfl, hb1, hq1⟩
          have HB1 := Lib.hid (below_then HBI.out HBI.out.size hb1)
          clear hb1
          cases b1 with
          | false =>
            go_wp2
            go_ret
            exact ⟨_, rfl, HB1.out, by simp⟩
          | true =>
            have HQ1 := Lib.hid (hq1 rfl)
            clear hq1
            go_wp2
            refine ⟨⟨i + 1, by go_num, by omega, HB1.out, fun t ht => ?_⟩, by simp [intOf]; omega⟩
            rcases mem_take_succ hlti ht with h | h
            · exact HALI.out t h
            · rw [h, ← HR.out]; exact HQ1.out
        · have e1 : s.parts.take i = s.parts := List.take_of_length_le (by omega)
          rw [e1] at halli
          have HBI := Lib.hid hbi
          have HALI := Lib.hid halli
          clear hbi halli e1
          go_wp2
          go_ret
          exact ⟨_, rfl, HBI.out, fun _ => AllS.mk HALL.out HALI.out⟩
/-- all. -/
theorem all_any (F : Nat) (q : Nat → Prop) (hcf : ∀ args w, (callFunc F args).run Tryz.prog w = .ok (.enter F args) w)
    (hF : ∀ (x : Nat) (w : World), F64 x → Calls Tryz.prog F #[.float .f64 x] w fun e w' => ∃ b, e = .returned (.bool b) ∧ Below w.heap.size w w' ∧ (b = true → q x)) :
    ∀ (n : Nat) (w : World) (s : Sh) (v : Value), ShV n w s v → AllS F64 s → Calls Tryz.prog 22 #[v, isV F] w fun e w' => ∃ b, e = .returned (.bool b) ∧ Below w.heap.size w w' ∧ (b = true → AllS q s)
  | 0 => all_step F q hcf hF 0 (fun k hk => by omega)
  | n + 1 => all_step F q hcf hF (n + 1) (fun k hk => by
      obtain rfl : n = k := by omega
      exact all_any F q hcf hF n)
/-! Walks: WholeShape, PointsOf, isEmpty, full, IsFull. -/
/-- A shape's value, with the numbers of its value shown. -/
theorem ShV.open_ {n : Nat} {w : World} {s : Sh} {v : Value} (h : ShV n w s v) :
    ∃ k A l c A' p c', v = .agg #[.int .i64 k, .slice A l c, .slice A' p c'] ∧ k = s.kind ∧ l = s.lists.length ∧ p = s.parts.length ∧ rowK.C w A s.lists.length s.lists ∧ (shK n).C w A' s.parts.length s.parts := by
  obtain ⟨A, c, A', c', rfl, h1, h2⟩ := h
  exact ⟨_, A, _, c, A', _, c', rfl, rfl, rfl, rfl, h1, h2⟩

theorem R_empty_at' {α : Type} (d : Kd α) (e : Nat) (W : World) (base n : Nat) (hn : n = W.heap.size) (hb : base ≤ W.heap.size) : d.R e (W.alloc (.cells #[] e)) base (fun _ => True) (.slice (some ⟨n, 0, none⟩) 0 0) [] := by
  subst hn
  exact Kd.R_lower (R_empty d e W) hb
theorem pt_KM {w w' : World} {base : Nat} {ok : Nat → Prop} {p : Pt} {cs : List Value} (h : ptK.K w p cs) : ptK.M w' base ok p cs := by
  obtain ⟨c0, c1, rfl, h0, h1⟩ := h
  cases h0
  cases h1
  exact ptK_M _ _ _ _
theorem flat_take {l : List (List Pt)} {j : Nat} (hj : j < l.length) : (l.take (j + 1)).flatten = (l.take j).flatten ++ l[j] := by
  rw [take_snoc1 hj, List.flatten_append]; simp
theorem flat_len (l : List (List Pt)) (j : Nat) : ((l.take j).flatten).length ≤ l.flatten.length := by
  have h : l.flatten = (l.take j).flatten ++ (l.drop j).flatten := by rw [← List.flatten_append, List.take_append_drop]
  rw [h, List.length_append]; omega
set_option maxRecDepth 20000 in
set_option maxHeartbeats 2000000 in
theorem points_step (n : Nat) (ih : ∀ k, n = k + 1 → ∀ (w : World) (s : Sh) (v : Value), ShV k w s v → (ptsS s).length ≤ 1000000000 → Calls Tryz.prog 12 #[v] w fun e w' => ∃ x, e = .returned x ∧ ptK.R 49 w' w.heap.size (fun _ => True) x (ptsS s) ∧ Below w.heap.size w w')
    (w : World) (s : Sh) (v : Value) (h : ShV n w s v) (hP : (ptsS s).length ≤ 1000000000) :
    Calls Tryz.prog 12 #[v] w fun e w' => ∃ x, e = .returned x ∧ ptK.R 49 w' w.heap.size (fun _ => True) x (ptsS s) ∧ Below w.heap.size w w' := by
  obtain ⟨A, c, A', c', rfl, hC, hC'⟩ := h
  have hbx := below_alloc1 w (.cells #[.int .i64 s.kind, .slice A s.lists.length c, .slice A' s.parts.length c'] 25)
  have hkx := blk_new w (.cells #[.int .i64 s.kind, .slice A s.lists.length c, .slice A' s.parts.length c'] 25)
  obtain ⟨m0, m1, m2, n0, n1, n2⟩ := three_facts (blk_alloc hkx (.cells #[] 49 (0, 0)))
  have hll : s.lists.length ≤ 9223372036854775807 := hC.2.1
  have hpl : s.parts.length ≤ 9223372036854775807 := hC'.2.1
  have hPS : ptsS s = s.lists.flatten ++ (s.parts.map ptsS).flatten := by cases s; rw [ptsS, ptsSs_eq]; rfl
  rw [hPS] at hP ⊢
  rw [List.length_append] at hP
  have HBX := Lib.hid hbx
  have HKX := Lib.hid hkx
  clear hbx hkx hPS
  go_enter Tryz.func12, Tryz.ntmps12
  go_wp2
  go_loopw [3, 12] (fun v3 v12 wr => ∃ (B' : Option Addr) (k d' j : Nat), v3 = .slice B' k d' ∧ v12 = .int .i64 j ∧ j ≤ s.lists.length ∧ Below (w.heap.size + 1) (w.alloc (.cells #[.int .i64 s.kind, .slice A s.lists.length c, .slice A' s.parts.length c'] 25)) wr ∧ ptK.R 49 wr (w.heap.size + 1) (fun _ => True) (.slice B' k d') ((s.lists.take j).flatten)) (fun v3 v12 wr => s.lists.length - (intOf v12).toNat)
  case atStart => exact ⟨_, _, _, 0, rfl, rfl, Nat.zero_le _, (Below.refl _ _).alloc (by simp) _, by simpa using R_empty_at' ptK 49 (w.alloc _) (w.heap.size + 1) _ (by simp) (by simp)⟩
  case round =>
    obtain ⟨B', k, d', j, rfl, rfl, hj, hb, hR⟩ := hrel
    have hszr : w.heap.size + 1 ≤ wr.heap.size := by have := hb.size; simpa using this
    have hbw : Below w.heap.size w wr := HBX.out.trans (hb.mono (by omega))
    have hk := box_below HKX.out hb (by omega)
    by_cases hlt : j < s.lists.length
    · obtain ⟨ad, A2, c2, rfl, q0, hC2⟩ := get_row1 (Kd.C_below hC hbw) rfl j hlt
      have hft := flat_take hlt
      have hfl := flat_len s.lists (j + 1)
      obtain ⟨r, hr⟩ : ∃ r, r = s.lists[j] := ⟨_, rfl⟩
      rw [← hr] at q0 hC2 hft
      rw [hft, List.length_append] at hfl
      have HC := Lib.hid hC
      have HC2 := Lib.hid hC2
      have HC' := Lib.hid hC'
      have HR := Lib.hid hR
      have HB := Lib.hid hb
      have HFT := Lib.hid hft
      clear hC hC2 hC' hR hb hbw hk hr hft
      go_wp2_with (at_builtin; go_loud (refine Kd.R_append_rows ptK (Rr := ptK.K wr) (w0 := w.alloc (.cells #[.int .i64 s.kind, .slice (some ad) s.lists.length c, .slice A' s.parts.length c'] 25)) (w.heap.size + 1) rfl (.tmp 16) (.tmp 17) 27 49 (.agg #[.float .f64 0, .float .f64 0]) 16 rfl Tryz.underlying27 info49 rfl (by decide) (by decide) (.slice B' k d') ((s.lists.take j).flatten) r A2 r.length c2 (fun _ => True) (fun _ => False) rfl (by simp [Act.eval]) ?HO ?HR ?hKM ?hokp ?hfresh ?HB ?hbase ?hl ?_))
      case HO => exact HR.out
      case HR => exact HC2.out
      case hKM => exact fun x cs hx => pt_KM hx
      case hokp => exact fun _ h => h.elim
      case hfresh => exact fun _ _ => trivial
      case HB => exact HB.out
      case hbase => exact hszr
      case hl => omega
      intro v1 w3 hR4 hb5 hg5 hat5
      obtain ⟨A1, n1, c1, rfl⟩ := R_sl hR4
      rw [← HFT.out] at hR4
      have HR4 := Lib.hid hR4
      have HB5 := Lib.hid hb5
      have hC := HC.out
      have hC' := HC'.out
      clear hR4 hb5 hg5 hat5
      go_wp2
      exact ⟨⟨A1, n1, c1, j + 1, rfl, by go_num, by omega, HB5.out, HR4.out⟩, by simp [intOf]; omega⟩
    · have e1 : s.lists.take j = s.lists := List.take_of_length_le (by omega)
      rw [e1] at hR
      obtain ⟨m0', m1', m2', n0', n1', n2'⟩ := three_facts hk
      have HB := Lib.hid hb
      have HR := Lib.hid (show ptK.R 49 wr (w.heap.size + 1) (fun _ => True) (.slice B' k d') (s.lists.flatten ++ ((s.parts.take 0).map ptsS).flatten) by simpa using hR)
      clear e1 hb hk hR hbw hC
      obtain ⟨w1, hw1⟩ : ∃ w1, w1 = wr := ⟨_, rfl⟩
      subst hw1
      go_wp2
      go_loopw [3, 23] (fun v3 v23 wi => ∃ (B' : Option Addr) (k d' i : Nat), v3 = .slice B' k d' ∧ v23 = .int .i64 i ∧ i ≤ s.parts.length ∧ Below (w.heap.size + 1) (w.alloc (.cells #[.int .i64 s.kind, .slice A s.lists.length c, .slice A' s.parts.length c'] 25)) wi ∧ ptK.R 49 wi (w.heap.size + 1) (fun _ => True) (.slice B' k d') (s.lists.flatten ++ ((s.parts.take i).map ptsS).flatten)) (fun v3 v23 wi => s.parts.length - (intOf v23).toNat)
      case atStart => exact ⟨_, _, _, 0, rfl, rfl, Nat.zero_le _, HB.out, HR.out⟩
      case round =>
        obtain ⟨B', k, d', i, rfl, rfl, hi, hb, hR⟩ := hrel
        have hszr : w.heap.size + 1 ≤ wr.heap.size := by have := hb.size; simpa using this
        have hbw : Below w.heap.size w wr := HBX.out.trans (hb.mono (by omega))
        by_cases hlti : i < s.parts.length
        · obtain ⟨k2, ad, A2, c2, A3, c3, hn2, rfl, q0, q1, q2, hC2, hC3⟩ := get_sh (Kd.C_below hC' hbw) rfl i hlti
          have hft : ((s.parts.take (i + 1)).map ptsS).flatten = ((s.parts.take i).map ptsS).flatten ++ ptsS s.parts[i] := by
            rw [take_snoc1 hlti, List.map_append, List.flatten_append]; simp
          have hfl := flat_len (s.parts.map ptsS) (i + 1)
          rw [← List.map_take, hft] at hfl
          obtain ⟨r, hr⟩ : ∃ r, r = s.parts[i] := ⟨_, rfl⟩
          rw [← hr] at q0 q1 q2 hC2 hC3 hft hfl
          rw [List.length_append] at hfl
          obtain ⟨kr, hkr⟩ : ∃ kr, kr = r.kind := ⟨_, rfl⟩
          obtain ⟨lr, hlr⟩ : ∃ lr, lr = r.lists.length := ⟨_, rfl⟩
          obtain ⟨pr, hpr⟩ : ∃ pr, pr = r.parts.length := ⟨_, rfl⟩
          have hbo := below_alloc1 wr (.cells #[.int .i64 kr, .slice A2 lr c2, .slice A3 pr c3] 25)
          have hcall := ih k2 hn2 (wr.alloc (.cells #[.int .i64 kr, .slice A2 lr c2, .slice A3 pr c3] 25)) r _ ⟨A2, c2, A3, c3, rfl, Kd.C_below hC2 hbo, Kd.C_below hC3 hbo⟩ (by omega)
          rw [← hkr, ← hlr, ← hpr] at hcall
          rw [← hkr] at q0
          rw [← hlr] at q1
          rw [← hpr] at q2
          have HBO := Lib.hid hbo
          have HC' := Lib.hid hC'
          have HR := Lib.hid hR
          have HB := Lib.hid hb
          have HFT := Lib.hid hft
          clear hn2 hC2 hC3 hr hkr hlr hpr hbo hb hR hC' hft hbw
          go_wp2_with fail
          refine hcall.mono ?_
          clear hcall
          rintro e w2 ⟨y, rfl, hy, hb2⟩
          obtain ⟨Az, nz, cz, rfl⟩ := R_sl hy
          obtain ⟨hnz, -, hCz⟩ := Kd.R_reads' hy
          have hb2' := below_then HBO.out (by simp) hb2
          have hs2 := hb2'.size
          have HCZ := Lib.hid hCz
          have HB2 := Lib.hid hb2'
          clear hy hCz hb2 hb2'
          subst hnz
          go_wp2_with (at_builtin; go_loud (refine Kd.R_append_rows ptK (Rr := ptK.K w2) (w0 := w.alloc (.cells #[.int .i64 s.kind, .slice A s.lists.length c, .slice (some ad) s.parts.length c'] 25)) (w.heap.size + 1) rfl (.tmp 27) (.tmp 29) 27 49 (.agg #[.float .f64 0, .float .f64 0]) 16 rfl Tryz.underlying27 info49 rfl (by decide) (by decide) (.slice B' k d') (s.lists.flatten ++ ((s.parts.take i).map ptsS).flatten) (ptsS r) Az (ptsS r).length cz (fun _ => True) (fun _ => False) rfl (by simp [Act.eval]) ?HO ?HR ?hKM ?hokp ?hfresh ?HB ?hbase ?hl ?_))
          case HO => exact Kd.R_below HR.out HB2.out
          case HR => exact HCZ.out
          case hKM => exact fun x cs hx => pt_KM hx
          case hokp => exact fun _ h => h.elim
          case hfresh => exact fun _ _ => trivial
          case HB => exact HB.out.trans (HB2.out.mono hszr)
          case hbase => omega
          case hl => rw [List.length_append]; omega
          intro v1 w3 hR4 hb5 hg5 hat5
          obtain ⟨A1, n1, c1, rfl⟩ := R_sl hR4
          have HR4 := Lib.hid (show ptK.R 49 w3 (w.heap.size + 1) (fun _ => True) (.slice A1 n1 c1) (s.lists.flatten ++ ((s.parts.take (i + 1)).map ptsS).flatten) by rw [HFT.out]; simpa using hR4)
          have HB5 := Lib.hid hb5
          have hC' := HC'.out
          clear hR4 hb5 hg5 hat5
          go_wp2
          exact ⟨⟨A1, n1, c1, i + 1, rfl, by go_num, by omega, HB5.out, HR4.out⟩, by simp [intOf]; omega⟩
        · have e1 : s.parts.take i = s.parts := List.take_of_length_le (by omega)
          rw [e1] at hR
          have HR := Lib.hid (Kd.R_lower hR (by omega : w.heap.size ≤ w.heap.size + 1))
          have HBW := Lib.hid hbw
          clear e1 hR hb hbw
          go_wp2
          go_ret
          exact ⟨_, rfl, HR.out, HBW.out⟩
/-- PointsOf. -/
theorem points_any : ∀ (n : Nat) (w : World) (s : Sh) (v : Value), ShV n w s v → (ptsS s).length ≤ 1000000000 → Calls Tryz.prog 12 #[v] w fun e w' => ∃ x, e = .returned x ∧ ptK.R 49 w' w.heap.size (fun _ => True) x (ptsS s) ∧ Below w.heap.size w w'
  | 0 => points_step 0 (fun k hk => by omega)
  | n + 1 => points_step (n + 1) (fun k hk => by
      obtain rfl : n = k := by omega
      exact points_any n)
end Go.Proofs.YtghajgdiaopioaaGreatDoor
end
