/- Walks and plain laws joined (Rc, Rd, Rg, Rh, Ri). Conditions: stand in each law. -/
import Derived.Test.YtghajgdiaopioaaGreatDoorJxd
import Derived.Lib.ConvBytes
import Derived.Lib.SmallJoins
import Derived.Lib.AtoiErrMem
import Derived.Test.YtghajgdiaopioaaGreatDoorJq
import Derived.Test.YtghajgdiaopioaaGreatDoorJr
set_option linter.unusedVariables false
set_option linter.unusedSimpArgs false
section
/- Walks: the spec's listText, listsText. Conditions: stand in each contract. -/
namespace Go.Proofs.YtghajgdiaopioaaGreatDoor
open Go.RowKit Go.Proofs Tx
open Go.Proofs.YtghajgdiaopioaaGreatDoorW.PrintWords
theorem Wn.short {x : Nat} (h : Wn x) : (nfW x).length ≤ 21 := by
  obtain ⟨n, h1, h2, rfl⟩ := h
  rw [nfW_fb h1 h2]
  exact itoa_short n h1 h2
/-! Walks: the spec's Text, kind by kind. -/
theorem flat_wt (ls : List (List Pt)) : ls.flatten.length ≤ wtL ls := by
  induction ls with
  | nil => simp
  | cons r l ih => simp only [List.flatten_cons, List.length_append, wtL, List.map_cons, List.sum_cons] at ih ⊢; omega
theorem pts_le : ∀ (n : Nat) (g : Geo), g.deep ≤ n → (ptsS (shOf g)).length ≤ wt g := by
  intro n
  induction n with
  | zero => intro g hg; exfalso; cases g <;> simp [Geo.deep] at hg
  | succ n ih =>
    intro g hd
    cases g with
    | point p => simp [shOf, ptsS, ptsS.ptsSs, wt]
    | line ps => simp [shOf, ptsS, ptsS.ptsSs, wt]
    | poly rs => have := flat_wt rs; simp only [shOf, ptsS, ptsS.ptsSs, wt, List.append_nil]; omega
    | mpoint ps => simp [shOf, ptsS, ptsS.ptsSs, wt]
    | mline rs => have := flat_wt rs; simp only [shOf, ptsS, ptsS.ptsSs, wt, List.append_nil]; omega
    | mpoly qs =>
      simp only [shOf, ptsS, ptsSs_eq, List.flatten_nil, List.nil_append, wt, List.map_map]
      rw [List.length_flatten, List.map_map]
      have := sum_le (l := qs) (f := List.length ∘ ptsS ∘ fun q => Sh.mk 3 q []) (g := fun q => wtL q + 1) fun q _ => by
        have := flat_wt q
        simp only [Function.comp_def, ptsS, ptsS.ptsSs, List.append_nil]
        omega
      simp only [Function.comp_def] at this ⊢
      omega
    | coll gs =>
      simp only [Geo.deep] at hd
      simp only [shOf, shOfs_map, ptsS, ptsSs_eq, List.flatten_nil, List.nil_append, wt, wts_eq, List.map_map]
      rw [List.length_flatten, List.map_map]
      have := sum_le (l := gs) (f := List.length ∘ ptsS ∘ shOf) (g := wt) fun g hg => ih g (deeps_le (by omega) g hg)
      simp only [Function.comp_def] at this ⊢
      omega
/-! Walks: sameBits, SamePoints, SameShape, same: of two values of one shape they say yes. -/
@[go_sem] theorem run_bits71 (n : Nat) (w : World) : (callFunc 71 #[.float .f64 n]).run Tryz.prog w = .ok (.value (.int .u64 n)) w := by
  kernel_rfl
theorem call26 : ∀ args w, (callFunc 26 args).run Tryz.prog w = .ok (.enter 26 args) w := by
  intro args w
  kernel_rfl
theorem sameBits_any (w : World) (x : Nat) :
    Calls Tryz.prog 72 #[.float .f64 x, .float .f64 x] w fun e w' => e = .returned (.bool true) ∧ w' = w := by
  go_enter Tryz.func72, Tryz.ntmps72
  go_wp2
  go_ret
  exact ⟨rfl, rfl⟩
set_option maxRecDepth 20000 in
set_option maxHeartbeats 1000000 in
theorem samePts_any (w : World) (A B : Option Addr) (c d : Nat) (ps : List Pt) (hA : ptK.C w A ps.length ps) (hB : ptK.C w B ps.length ps) :
    Calls Tryz.prog 48 #[.slice A ps.length c, .slice B ps.length d] w fun e w' => e = .returned (.bool true) ∧ ∃ m, w' = w.drewN m := by
  have hll : ps.length ≤ 9223372036854775807 := hA.2.1
  go_enter Tryz.func48, Tryz.ntmps48
  go_wp2
  go_loopw [13] (fun v13 wr => ∃ (j : Nat) (m : Nat), v13 = .int .i64 j ∧ j ≤ ps.length ∧ wr = w.drewN m) (fun v13 wr => ps.length - (intOf v13).toNat)
  case atStart => exact ⟨0, 0, rfl, Nat.zero_le _, rfl⟩
  case round =>
    obtain ⟨j, m, rfl, hj, hm⟩ := hrel
    have hAr : ptK.C wr A ps.length ps := by rw [hm]; exact Kd.C_below hA (below_drewN w m)
    have hBr : ptK.C wr B ps.length ps := by rw [hm]; exact Kd.C_below hB (below_drewN w m)
    have HM := Lib.hid hm
    clear hm
    by_cases hlt : j < ps.length
    · obtain ⟨ad, rfl, q0, q1⟩ := get_pt hAr rfl j hlt
      obtain ⟨bd, rfl, r0, r1⟩ := get_pt hBr rfl j hlt
      obtain ⟨x, hx⟩ : ∃ x, x = ps[j].1 := ⟨_, rfl⟩
      obtain ⟨y, hy⟩ : ∃ y, y = ps[j].2 := ⟨_, rfl⟩
      rw [← hx] at q0 r0
      rw [← hy] at q1 r1
      have hA2 := Lib.hid hA
      have hB2 := Lib.hid hB
      clear hx hy hA hB hAr hBr
      have cs := fun (n z : Nat) => Calls.quiet_of_same (w := wr) (n := n) (sameBits_any (wr.drewN n) z)
      have CS := Lib.hid cs
      clear cs
      go_wp2_with fail
      go_quiet (exact CS.out _ _)
      go_wp2
      exact ⟨⟨j + 1, m + nq, by go_num, by omega, by rw [HM.out, World.drewN_drewN]⟩, by simp [intOf]; omega⟩
    · clear hAr hBr
      go_wp2
      go_ret
      exact ⟨rfl, m, HM.out⟩

set_option maxRecDepth 40000 in
set_option maxHeartbeats 2000000 in
theorem sameSh_step (n : Nat) (ih : ∀ k, n = k + 1 → ∀ (m : Nat) (w : World) (s : Sh) (v u : Value), ShV k w s v → ShV m w s u → Calls Tryz.prog 26 #[v, u] w fun e w' => e = .returned (.bool true) ∧ Below w.heap.size w w')
    (m : Nat) (w : World) (s : Sh) (v u : Value) (h : ShV n w s v) (h' : ShV m w s u) :
    Calls Tryz.prog 26 #[v, u] w fun e w' => e = .returned (.bool true) ∧ Below w.heap.size w w' := by
  obtain ⟨A, c, A', c', rfl, hA, hA'⟩ := h
  obtain ⟨B, d, B', d', rfl, hB, hB'⟩ := h'
  have hll : s.lists.length ≤ 9223372036854775807 := hA.2.1
  have hpl : s.parts.length ≤ 9223372036854775807 := hA'.2.1
  have hb0 := (below_alloc1 w (.cells #[.int .i64 s.kind, .slice A s.lists.length c, .slice A' s.parts.length c'] 25)).alloc (by simp) (.cells #[.int .i64 s.kind, .slice B s.lists.length d, .slice B' s.parts.length d'] 25)
  have hkv := blk_alloc (blk_new w (.cells #[.int .i64 s.kind, .slice A s.lists.length c, .slice A' s.parts.length c'] 25)) (.cells #[.int .i64 s.kind, .slice B s.lists.length d, .slice B' s.parts.length d'] 25)
  have hku : ((w.alloc (.cells #[.int .i64 s.kind, .slice A s.lists.length c, .slice A' s.parts.length c'] 25)).alloc (.cells #[.int .i64 s.kind, .slice B s.lists.length d, .slice B' s.parts.length d'] 25)).heap[w.heap.size + 1]? = some (.cells #[.int .i64 s.kind, .slice B s.lists.length d, .slice B' s.parts.length d'] 25 (0, 0)) := by
    have := blk_new (w.alloc (.cells #[.int .i64 s.kind, .slice A s.lists.length c, .slice A' s.parts.length c'] 25)) (.cells #[.int .i64 s.kind, .slice B s.lists.length d, .slice B' s.parts.length d'] 25)
    simpa using this
  obtain ⟨k, hk⟩ : ∃ k, k = s.kind := ⟨_, rfl⟩
  obtain ⟨l, hl⟩ : ∃ l, l = s.lists.length := ⟨_, rfl⟩
  obtain ⟨p, hp⟩ : ∃ p, p = s.parts.length := ⟨_, rfl⟩
  rw [← hk, ← hl, ← hp] at hb0 hkv hku ⊢
  rw [← hl] at hll hA hB
  rw [← hp] at hpl hA' hB'
  obtain ⟨m0, m1, m2, n0, n1, n2⟩ := three_facts hkv
  obtain ⟨m0', m1', m2', n0', n1', n2'⟩ := three_facts hku
  have hsz0 : ((w.alloc (.cells #[.int .i64 k, .slice A l c, .slice A' p c'] 25)).alloc (.cells #[.int .i64 k, .slice B l d, .slice B' p d'] 25)).heap.size = w.heap.size + 2 := by simp
  obtain ⟨w0, hw0⟩ : ∃ w0, w0 = (w.alloc (.cells #[.int .i64 k, .slice A l c, .slice A' p c'] 25)).alloc (.cells #[.int .i64 k, .slice B l d, .slice B' p d'] 25) := ⟨_, rfl⟩
  have HB0 := Lib.hid (show Below w.heap.size w w0 by rw [hw0]; exact hb0)
  have HKV := Lib.hid (show w0.heap[w.heap.size]? = some (.cells #[.int .i64 k, .slice A l c, .slice A' p c'] 25 (0, 0)) by rw [hw0]; exact hkv)
  have HKU := Lib.hid (show w0.heap[w.heap.size + 1]? = some (.cells #[.int .i64 k, .slice B l d, .slice B' p d'] 25 (0, 0)) by rw [hw0]; exact hku)
  have HL := Lib.hid hl
  have HP := Lib.hid hp
  have HA' := Lib.hid hA'
  have HB' := Lib.hid hB'
  have HA := Lib.hid hA
  have HBB := Lib.hid hB
  have HW0 := Lib.hid hw0
  clear hb0 hkv hku hsz0 hk hl hp hA' hB' hA hB hw0
  go_enter Tryz.func26, Tryz.ntmps26
  go_wp2
  rw [← HW0.out]
  go_loopw [33] (fun v33 wr => ∃ j : Nat, v33 = .int .i64 j ∧ j ≤ l ∧ Below w0.heap.size w0 wr) (fun v33 wr => l - (intOf v33).toNat)
  case atStart => exact ⟨0, rfl, Nat.zero_le _, Below.refl _ _⟩
  case round =>
    obtain ⟨j, rfl, hj, hb⟩ := hrel
    have hkv := blk_below HKV.out hb
    have hku := blk_below HKU.out hb
    have HB := Lib.hid hb
    clear m0 m1 m2 n0 n1 n2 m0' m1' m2' n0' n1' n2' hb
    by_cases hlt : j < l
    · have hbw := below_then HB0.out HB0.out.size HB.out
      obtain ⟨ad, A2, c2, rfl, q0, hC2⟩ := get_row1 (Kd.C_below HA.out hbw) HL.out j (by rw [← HL.out]; exact hlt)
      obtain ⟨bd, B2, d2, rfl, r0, hD2⟩ := get_row1 (Kd.C_below HBB.out hbw) HL.out j (by rw [← HL.out]; exact hlt)
      obtain ⟨r, hr⟩ : ∃ r, r = s.lists[j]'(by rw [← HL.out]; exact hlt) := ⟨_, rfl⟩
      rw [← hr] at q0 hC2 r0 hD2
      have CS := Lib.hid (fun n => Calls.quiet_of (w := wr) (n := n) (samePts_any (wr.drewN n) A2 B2 c2 d2 r hC2 hD2))
      obtain ⟨m0, m1, m2, n0, n1, n2⟩ := three_facts hkv
      obtain ⟨m0', m1', m2', n0', n1', n2'⟩ := three_facts hku
      clear hr hC2 hD2 hbw hkv hku
      go_wp2_with fail
      go_quiet (exact CS.out _)
      go_wp2
      exact ⟨⟨j + 1, by go_num, by omega, HB.out.trans ((below_drewN wr _).mono HB.out.size)⟩, by simp [intOf]; omega⟩
    · obtain ⟨w1, hw1⟩ : ∃ w1, w1 = wr := ⟨_, rfl⟩
      subst hw1
      obtain ⟨m0, m1, m2, n0, n1, n2⟩ := three_facts hkv
      obtain ⟨m0', m1', m2', n0', n1', n2'⟩ := three_facts hku
      have HKV := Lib.hid hkv
      have HKU := Lib.hid hku
      clear hkv hku
      go_wp2
      go_loopw [52] (fun v52 wr => ∃ j : Nat, v52 = .int .i64 j ∧ j ≤ p ∧ Below w1.heap.size w1 wr) (fun v52 wr => p - (intOf v52).toNat)
      case atStart => exact ⟨0, rfl, Nat.zero_le _, Below.refl _ _⟩
      case round =>
        obtain ⟨j, rfl, hj, hb⟩ := hrel
        have hkv := blk_below HKV.out hb
        have hku := blk_below HKU.out hb
        have HB1 := Lib.hid hb
        clear m0 m1 m2 n0 n1 n2 m0' m1' m2' n0' n1' n2' hb
        have hbw0 := below_then (below_then HB0.out HB0.out.size HB.out) (below_then HB0.out HB0.out.size HB.out).size HB1.out
        have HBW0 := Lib.hid hbw0
        by_cases hlt : j < p
        · have hbw := hbw0.trans ((below_drew wr).mono hbw0.size)
          obtain ⟨k2, ad, A2, c2, A3, c3, hn2, rfl, q0, q1, q2, hC2, hC3⟩ := get_sh (Kd.C_below HA'.out hbw) HP.out j (by rw [← HP.out]; exact hlt)
          obtain ⟨k3, bd, B2, d2, B3, d3, hn3, rfl, r0, r1, r2, hD2, hD3⟩ := get_sh (Kd.C_below HB'.out hbw) HP.out j (by rw [← HP.out]; exact hlt)
          obtain ⟨r, hr⟩ : ∃ r, r = s.parts[j]'(by rw [← HP.out]; exact hlt) := ⟨_, rfl⟩
          rw [← hr] at q0 q1 q2 hC2 hC3 r0 r1 r2 hD2 hD3
          have hcall0 := ih k2 hn2 k3 wr.drew r _ _ ⟨A2, c2, A3, c3, rfl, hC2, hC3⟩ ⟨B2, d2, B3, d3, rfl, hD2, hD3⟩
          obtain ⟨kr, hkr⟩ : ∃ kr, kr = r.kind := ⟨_, rfl⟩
          obtain ⟨lr, hlr⟩ : ∃ lr, lr = r.lists.length := ⟨_, rfl⟩
          obtain ⟨pr, hpr⟩ : ∃ pr, pr = r.parts.length := ⟨_, rfl⟩
          rw [← hkr, ← hlr, ← hpr] at hcall0
          rw [← hkr] at q0 r0
          rw [← hlr] at q1 r1
          rw [← hpr] at q2 r2
          have hcall : Calls Tryz.prog 26 #[.agg #[.int .i64 kr, .slice A2 lr c2, .slice A3 pr c3], .agg #[.int .i64 kr, .slice B2 lr d2, .slice B3 pr d3]] wr.drew fun e w' => ∃ y, e = .returned y ∧ (y = .bool true ∧ Below wr.drew.heap.size wr.drew w') :=
            hcall0.mono fun e w' ⟨he, hb⟩ => ⟨_, he, rfl, hb⟩
          obtain ⟨m0, m1, m2, n0, n1, n2⟩ := three_facts (show wr.drew.heap[w.heap.size]? = _ from hkv)
          obtain ⟨m0', m1', m2', n0', n1', n2'⟩ := three_facts (show wr.drew.heap[w.heap.size + 1]? = _ from hku)
          clear hr hC2 hD2 hC3 hD3 hbw hkv hku hcall0 hkr hlr hpr hn2 hn3 hbw0
          go_wp2_with fail
          go_region_law (first
            | (refine step_call2 rfl 26 (.tmp 59) (.tmp 64) _ rfl call26 _ _ (by simp [Act.eval, Act.put]) (by simp [Act.eval, Act.put]) hcall ?_
               rintro v4 w4 ⟨rfl, hb4⟩
               have HB4 := Lib.hid (below_then HB1.out HB1.out.size ((below_drew wr).trans hb4))
               clear hb4))
          all_goals go_wp2
          all_goals exact ⟨⟨j + 1, by go_num, by omega, HB4.out⟩, by simp [intOf]; omega⟩
        · clear hbw0 hkv hku
          go_wp2
          go_ret
          exact ⟨rfl, HBW0.out⟩
/-- SameShape, of two values of one shape. -/
theorem sameSh_any : ∀ (n m : Nat) (w : World) (s : Sh) (v u : Value), ShV n w s v → ShV m w s u → Calls Tryz.prog 26 #[v, u] w fun e w' => e = .returned (.bool true) ∧ Below w.heap.size w w'
  | 0 => sameSh_step 0 (fun k hk => by omega)
  | n + 1 => sameSh_step (n + 1) (fun k hk => by
      obtain rfl : n = k := by omega
      exact sameSh_any n)
/-! Walks: same, plain. What all statements share. -/
/-- What the listed variables hold. -/
structure E0 (B0 : Nat) (w : World) : Prop where
  gl : Gl B0 w
  tb : Tb w
theorem E0.big {B0 : Nat} {w : World} (h : E0 B0 w) : 24 ≤ w.heap.size := Nat.le_trans h.gl.big h.gl.le
theorem E0.low {B0 : Nat} {w w' : World} (h : E0 B0 w) (hb : Below w.heap.size w w') : E0 B0 w' :=
  ⟨h.gl.low hb, h.tb.below hb (by have := h.big; omega)⟩
theorem numW : NumF nfW Wn where
  num := fun x w hx hT hb => by
    obtain ⟨n, h1, h2, rfl⟩ := hx
    rw [nfW_fb h1 h2]
    exact number_any n h1 h2 w hT hb
  short := fun x hx => by have := hx.short; omega

set_option maxRecDepth 40000 in
set_option maxHeartbeats 2000000 in
/-- same, of two values of one shape. -/
theorem same_any (n m : Nat) (w : World) (s : Sh) (v u : Value) (h : ShV n w s v) (h' : ShV m w s u) (hP : (ptsS s).length ≤ 1000000000) :
    Calls Tryz.prog 18 #[v, u] w fun e w' => e = .returned (.bool true) ∧ Below w.heap.size w w' := by
  obtain ⟨k, A, l, c, A', p, c', rfl, hk, hl, hp, -, -⟩ := h.open_
  obtain ⟨k2, B, l2, d, B', p2, d', rfl, hk2, hl2, hp2, -, -⟩ := h'.open_
  obtain rfl : k2 = k := by rw [hk, hk2]
  obtain rfl : p2 = p := by rw [hp, hp2]
  clear hk hl hp hk2 hl2 hp2
  have hb0 := (below_alloc1 w (.cells #[.int .i64 k2, .slice A l c, .slice A' p2 c'] 25)).alloc (by simp) (.cells #[.int .i64 k2, .slice B l2 d, .slice B' p2 d'] 25)
  have hkv := blk_alloc (blk_new w (.cells #[.int .i64 k2, .slice A l c, .slice A' p2 c'] 25)) (.cells #[.int .i64 k2, .slice B l2 d, .slice B' p2 d'] 25)
  have hku : ((w.alloc (.cells #[.int .i64 k2, .slice A l c, .slice A' p2 c'] 25)).alloc (.cells #[.int .i64 k2, .slice B l2 d, .slice B' p2 d'] 25)).heap[w.heap.size + 1]? = some (.cells #[.int .i64 k2, .slice B l2 d, .slice B' p2 d'] 25 (0, 0)) := by
    have := blk_new (w.alloc (.cells #[.int .i64 k2, .slice A l c, .slice A' p2 c'] 25)) (.cells #[.int .i64 k2, .slice B l2 d, .slice B' p2 d'] 25)
    simpa using this
  obtain ⟨m0, m1, m2, n0, n1, n2⟩ := three_facts hkv
  obtain ⟨m0', m1', m2', n0', n1', n2'⟩ := three_facts hku
  have hcall := points_any n _ s _ (h.below hb0) hP
  have HB0 := Lib.hid hb0
  have HKV := Lib.hid hkv
  have HKU := Lib.hid hku
  have HH := Lib.hid h
  have HH' := Lib.hid h'
  clear hb0 hkv hku h h'
  go_enter Tryz.func18, Tryz.ntmps18
  go_wp2_with fail
  refine hcall.mono ?_
  clear hcall
  rintro e w1 ⟨x, rfl, hx, hb1⟩
  obtain ⟨Az, nz, cz, rfl⟩ := R_sl hx
  obtain ⟨hnz, -, -⟩ := Kd.R_reads' hx
  have HB1 := Lib.hid (below_then HB0.out HB0.out.size hb1)
  have HKV1 := Lib.hid (blk_below HKV.out hb1)
  have HKU1 := Lib.hid (blk_below HKU.out hb1)
  clear hb1 hx m0 m1 m2 n0 n1 n2 m0' m1' m2' n0' n1' n2'
  obtain ⟨m0, m1, m2, n0, n1, n2⟩ := three_facts HKV1.out
  obtain ⟨m0', m1', m2', n0', n1', n2'⟩ := three_facts HKU1.out
  have HNZ := Lib.hid hnz
  clear hnz
  by_cases a1 : nz = 0
  · have g1 := beq0 a1
    have A1 := Lib.hid a1
    clear a1
    have hcall := points_any m w1 s _ (HH'.out.below HB1.out) hP
    go_wp2_with fail
    refine hcall.mono ?_
    clear hcall
    rintro e w2 ⟨x, rfl, hx, hb2⟩
    obtain ⟨Ay, ny, cy, rfl⟩ := R_sl hx
    obtain ⟨hny, -, -⟩ := Kd.R_reads' hx
    have a2 : ny = 0 := by rw [hny, ← HNZ.out, A1.out]
    have g2 := beq0 a2
    have HB2 := Lib.hid (below_then HB1.out HB1.out.size hb2)
    have HKV2 := Lib.hid (blk_below HKV1.out hb2)
    have HKU2 := Lib.hid (blk_below HKU1.out hb2)
    clear hb2 hx m0 m1 m2 n0 n1 n2 m0' m1' m2' n0' n1' n2' hny a2
    obtain ⟨m0, m1, m2, n0, n1, n2⟩ := three_facts HKV2.out
    obtain ⟨m0', m1', m2', n0', n1', n2'⟩ := three_facts HKU2.out
    by_cases a3 : p2 = 0
    · have g3 := beq0 a3
      clear a3
      go_wp2
      go_ret
      exact ⟨by simp, HB2.out⟩
    · have g3 := beq0n a3
      have hcall := sameSh_any n m w2 s _ _ (HH.out.below HB2.out) (HH'.out.below HB2.out)
      clear a3
      go_wp2_with fail
      refine hcall.mono ?_
      clear hcall
      rintro e w3 ⟨rfl, hb3⟩
      have HB3 := Lib.hid (below_then HB2.out HB2.out.size hb3)
      clear hb3
      go_wp2
      go_ret
      exact ⟨rfl, HB3.out⟩
  · have g1 := beq0n a1
    have hcall := sameSh_any n m w1 s _ _ (HH.out.below HB1.out) (HH'.out.below HB1.out)
    clear a1
    go_wp2_with fail
    refine hcall.mono ?_
    clear hcall
    rintro e w3 ⟨rfl, hb3⟩
    have HB3 := Lib.hid (below_then HB1.out HB1.out.size hb3)
    clear hb3
    go_wp2
    go_ret
    exact ⟨rfl, HB3.out⟩

/-- The small line. -/
def plainG : Geo := .line [(4607182418800017408, 4611686018427387904), (4613937818241073152, 4616189618054758400)]
theorem add_plain (g k : Nat) : (⟨g, 0, none⟩ : Addr).add k = ⟨g, k, none⟩ := by
  unfold Addr.add
  split <;> simp_all
theorem two_pts {w : World} {g a b c d : Nat} (h : w.heap[g]? = some (.cells #[.float .f64 a, .float .f64 b, .float .f64 c, .float .f64 d] 49 (0, 0))) : ptK.C w (some ⟨g, 0, none⟩) 2 [(a, b), (c, d)] := by
  refine ⟨rfl, by decide, fun _ => ⟨_, rfl, fun j p hj => ?_⟩⟩
  rcases j with _ | _ | j
  · simp only [List.getElem?_cons_zero, Option.some.injEq] at hj
    subst hj
    refine ⟨[.float .f64 a, .float .f64 b], rfl, ⟨[_], [_], rfl, rfl, rfl⟩, fun i u hi => ?_⟩
    rw [add_plain]
    rcases i with _ | _ | i
    · simp only [List.getElem?_cons_zero, Option.some.injEq] at hi
      subst hi
      exact blk_cell h 0
    · simp only [List.getElem?_cons_succ, List.getElem?_cons_zero, Option.some.injEq] at hi
      subst hi
      exact blk_cell h 1
    · simp at hi
  · simp only [List.getElem?_cons_succ, List.getElem?_cons_zero, Option.some.injEq] at hj
    subst hj
    refine ⟨[.float .f64 c, .float .f64 d], rfl, ⟨[_], [_], rfl, rfl, rfl⟩, fun i u hi => ?_⟩
    rw [add_plain]
    rcases i with _ | _ | i
    · simp only [List.getElem?_cons_zero, Option.some.injEq] at hi
      subst hi
      exact blk_cell h 2
    · simp only [List.getElem?_cons_succ, List.getElem?_cons_zero, Option.some.injEq] at hi
      subst hi
      exact blk_cell h 3
    · simp at hi
  · simp at hj
theorem one_row {w : World} {g : Nat} {A : Option Addr} {c : Nat} {ps : List Pt} (h : w.heap[g]? = some (.cells #[.slice A ps.length c] 27 (0, 0))) (hc : ps.length ≤ c) (hC : ptK.C w A ps.length ps) : rowK.C w (some ⟨g, 0, none⟩) 1 [ps] := by
  refine ⟨rfl, by decide, fun _ => ⟨_, rfl, fun j p hj => ?_⟩⟩
  rcases j with _ | j
  · simp only [List.getElem?_cons_zero, Option.some.injEq] at hj
    subst hj
    refine ⟨[.slice A ps.length c], rfl, ⟨A, c, rfl, hc, hC⟩, fun i u hi => ?_⟩
    rw [add_plain]
    rcases i with _ | i
    · simp only [List.getElem?_cons_zero, Option.some.injEq] at hi
      subst hi
      exact box_cell h
    · simp at hi
  · simp at hj
theorem C_nil {α : Type} (d : Kd α) (w : World) (A : Option Addr) : d.C w A 0 [] := ⟨rfl, by decide, fun h => absurd h (by decide)⟩
set_option maxRecDepth 20000 in
set_option maxHeartbeats 1000000 in
theorem plain_any (w : World) :
    Calls Tryz.prog 27 #[] w fun e w' => ∃ v, e = .returned v ∧ ShV 1 w' (shOf plainG) v ∧ Below w.heap.size w w' := by
  go_enter Tryz.func27, Tryz.ntmps27
  go_wp2
  refine bodyPost_ret (results_cell_row rfl _ _ _ _ _ _ _ rfl (blk_alloc (blk_alloc (blk_new w _) _) _) Tryz.underlying25 rfl size25) rfl ?_
  refine ⟨_, rfl, ⟨some ⟨w.heap.size + 1 + 1, 0, none⟩, 1, none, 0, rfl, ?_, C_nil _ _ _⟩, ((below_alloc1 w _).alloc (by simp) _).alloc (by simp; omega) _⟩
  have h1 := blk_new_at (w.alloc (.cells #[.int .i64 2, .slice (some ⟨w.heap.size + 1 + 1, 0, none⟩) 1 1, .slice none 0 0] 25)) (.cells #[.float .f64 4607182418800017408, .float .f64 4611686018427387904, .float .f64 4613937818241073152, .float .f64 4616189618054758400] 49) (w.heap.size + 1) (by simp)
  have h2 := blk_alloc h1 (.cells #[.slice (some ⟨w.heap.size + 1, 0, none⟩) 2 2] 27)
  exact one_row (c := 2) (blk_new_at _ _ (w.heap.size + 1 + 1) (by simp)) (by decide) (two_pts h2)
/-! Walks: writes. -/
theorem read_val {n B : Nat} {g : Geo} {w' : World} {e : Ending} (h : ReadOk n B g w' e) : ∃ A c A' c', e = .returned (.tuple #[.agg #[.int .i64 (shOf g).kind, .slice A (shOf g).lists.length c, .slice A' (shOf g).parts.length c'], .bool true]) ∧ ShV n w' (shOf g) (.agg #[.int .i64 (shOf g).kind, .slice A (shOf g).lists.length c, .slice A' (shOf g).parts.length c']) := by
  obtain ⟨vl, vp, he, h1, h2⟩ := h
  obtain ⟨A, c, rfl, _, hC⟩ := Kd.R_reads h1
  obtain ⟨A', c', rfl, _, hC'⟩ := Kd.R_reads h2
  exact ⟨A, c, A', c', he, A, c, A', c', rfl, hC, hC'⟩
theorem Wn.numOk {x : Nat} (h : Wn x) : NumOk pfW nfW x := by
  obtain ⟨n, h1, h2, rfl⟩ := h
  exact YtghajgdiaopioaaGreatDoor.numOk n h1 h2
theorem fb_vals : fb 1 = 4607182418800017408 ∧ fb 2 = 4611686018427387904 ∧ fb 3 = 4613937818241073152 ∧ fb 4 = 4616189618054758400 := by decide +kernel
theorem wn1 : Wn 4607182418800017408 := ⟨1, by decide, by decide, fb_vals.1.symm⟩
theorem wn2 : Wn 4611686018427387904 := ⟨2, by decide, by decide, fb_vals.2.1.symm⟩
theorem wn3 : Wn 4613937818241073152 := ⟨3, by decide, by decide, fb_vals.2.2.1.symm⟩
theorem wn4 : Wn 4616189618054758400 := ⟨4, by decide, by decide, fb_vals.2.2.2.symm⟩
theorem plain_full : Full plainG := .line (by simp)
theorem plain_wn : AllC Wn plainG := .line fun p hp => by
  rcases List.mem_cons.1 hp with rfl | hp
  · exact ⟨wn1, wn2⟩
  · rcases List.mem_cons.1 hp with rfl | hp
    · exact ⟨wn3, wn4⟩
    · cases hp
def plainT : Bs := [76, 73, 78, 69, 83, 84, 82, 73, 78, 71, 40, 49, 32, 50, 44, 51, 32, 52, 41]
def openT : Bs := [76, 73, 78, 69, 83, 84, 82, 73, 78, 71, 40, 49, 32, 50, 44, 51]
theorem itoa_one (n : Nat) (h : n < 10) : Lib.itoa (n : Int) = [UInt8.ofNat (48 + n)] := by
  unfold Lib.itoa
  rw [if_neg (by omega), Int.toNat_natCast, decDigits_small h]
theorem plain_text : text nfW [] false plainG = plainT := by
  have e1 : nfW 4607182418800017408 = [49] := by rw [← fb_vals.1, nfW_fb (by decide) (by decide)]; exact itoa_one 1 (by decide)
  have e2 : nfW 4611686018427387904 = [50] := by rw [← fb_vals.2.1, nfW_fb (by decide) (by decide)]; exact itoa_one 2 (by decide)
  have e3 : nfW 4613937818241073152 = [51] := by rw [← fb_vals.2.2.1, nfW_fb (by decide) (by decide)]; exact itoa_one 3 (by decide)
  have e4 : nfW 4616189618054758400 = [52] := by rw [← fb_vals.2.2.2, nfW_fb (by decide) (by decide)]; exact itoa_one 4 (by decide)
  simp [plainG, text, low, word, ptsT, br, joinS, ptT, e1, e2, e3, e4, plainT]
theorem plain_read : readG pfW 4 plainT = .ok plainG := by
  rw [← plain_text]
  exact read_text (by simp) 4 plainG (by simp [plainG, Geo.deep]) plain_full (allC_imp (fun x h => h.numOk) 1 plainG (by simp [plainG, Geo.deep]) plain_wn)
theorem asc_lit : Asc plainT ∧ Asc openT := by constructor <;> (unfold Asc; decide)
/-- Read, of a text that is read. -/
theorem readT0_any {B0 : Nat} (w : World) (hE : E0 B0 w) (g : Geo) (t : Bs) (hr : readG pfW 4 t = .ok g) (ha : Asc t) (ht : t.length ≤ 1000000000) (hw : wt g ≤ 1000000) :
    Calls Tryz.prog 15 #[S t] w fun e w' => ∃ v, e = .returned (.tuple #[v, .bool true]) ∧ ShV 4 w' (shOf g) v ∧ Below w.heap.size w w' := by
  refine (read_ok pfW pfW_ok 4 t w hE.gl ht ha g hr (wt_lim g.deep g (Nat.le_refl _) (by omega))).mono ?_
  rintro e w' ⟨h, hb⟩
  obtain ⟨A, c, A', c', he, hV⟩ := read_val h
  exact ⟨_, he, hV, hb⟩
/-- Read, of a text that is not. -/
theorem readE0_any {B0 : Nat} (w : World) (hE : E0 B0 w) (t : Bs) (hr : readG pfW 4 t = .err) (ha : Asc t) (ht : t.length ≤ 1000000000) :
    Calls Tryz.prog 15 #[S t] w fun e w' => e = .returned (.tuple #[.agg #[.int .i64 0, .slice none 0 0, .slice none 0 0], .bool false]) ∧ Below w.heap.size w w' :=
  read_err pfW pfW_ok 4 t w hE.gl ht ha hr
/-- Write, of a shape with whole coordinates. -/
theorem writeT0_any {B0 : Nat} (n : Nat) (w : World) (hE : E0 B0 w) (g : Geo) (v : Value) (t : Bs) (h : ShV n w (shOf g) v) (hf : textE nfW g t) (ha : AllC Wn g) (hl : wt g ≤ 1000000) :
    Calls Tryz.prog 16 #[v] w fun e w' => e = .returned (S t) ∧ Below w.heap.size w w' :=
  write_any numW n w g v t h hf ha hE.tb (by have := hE.big; omega) (by omega)

theorem step_call2w' {P : Program} {ops : Array Oper} {o : Oper} {a : Act} {w : World} {K : Act → World → Prop} {Q : Exit → Act → World → Prop} {E : Prop}
    (hw : Region.wanted o (yielded ops a.tmps) = true) (f : FuncId) (xs : Array Operand) (t : Array TypeId) (hop : o.op = Op.call { callee := .value (.func f), args := xs, argTypes := t })
    (hcf : ∀ args w, (callFunc f args).run P w = .ok (.enter f args) w) (vs : Array Value) (hxs : xs.map a.eval = vs) {R : Value → World → Prop}
    (hC : Calls P f vs w fun e w' => ∃ y, e = .returned y ∧ R y w')
    (hK : ∀ y w', R y w' → K (a.put o.dst y) w') :
    if Region.wanted o (yielded ops a.tmps) = true then Oper.wp P o a w K Q else E := by
  rw [if_pos hw]
  unfold Oper.wp
  rw [execOp_call hop, hcf]
  subst hxs
  show Calls P f _ w _
  refine hC.mono ?_
  rintro e w' ⟨y, rfl, hy⟩
  exact hK y w' hy
theorem call27 : ∀ args w, (callFunc 27 args).run Tryz.prog w = .ok (.enter 27 args) w := by
  intro args w
  kernel_rfl
theorem call16 : ∀ args w, (callFunc 16 args).run Tryz.prog w = .ok (.enter 16 args) w := by
  intro args w
  kernel_rfl

/-- Where writes stands in its last statement. -/
structure WSt (B0 : Nat) (w0 : World) (g : Nat) (k : Int) (vl vp : Value) (w : World) : Prop where
  ev : E0 B0 w
  low : Below w0.heap.size w0 w
  sh : ShV 4 w (shOf plainG) (.agg #[.int .i64 k, vl, vp])
  box : w.heap[g]? = some (.cells #[.int .i64 k, vl, vp] 25 (0, 0))
theorem WSt.step {B0 : Nat} {w0 : World} {g : Nat} {k : Int} {vl vp : Value} {w w' : World} (h : WSt B0 w0 g k vl vp w) (hb : Below w.heap.size w w') : WSt B0 w0 g k vl vp w' :=
  ⟨h.ev.low hb, below_then h.low h.low.size hb, h.sh.below hb, blk_below h.box hb⟩
def Cells3 (g : Nat) (k : Int) (vl vp : Value) (w : World) : Prop := w.cell? ⟨g, 0, none⟩ = some (.int .i64 k) ∧ w.cell? ⟨g, 1, none⟩ = some vl ∧ w.cell? ⟨g, 2, none⟩ = some vp
theorem WSt.cells {B0 : Nat} {w0 : World} {g : Nat} {k : Int} {vl vp : Value} {w : World} (h : WSt B0 w0 g k vl vp w) : Cells3 g k vl vp w := ⟨blk_cell h.box 0, blk_cell h.box 1, blk_cell h.box 2⟩
theorem WSt.c27 {B0 : Nat} {w0 : World} {g : Nat} {k : Int} {vl vp : Value} {w : World} (h : WSt B0 w0 g k vl vp w) :
    Calls Tryz.prog 27 #[] w fun e w' => ∃ y, e = .returned y ∧ (Aside (ShV 1 w' (shOf plainG) y ∧ WSt B0 w0 g k vl vp w') ∧ Cells3 g k vl vp w') :=
  (plain_any w).mono fun e w' ⟨v, he, hv, hb⟩ => ⟨v, he, ⟨hv, h.step hb⟩, (h.step hb).cells⟩
theorem WSt.c26 {B0 : Nat} {w0 : World} {g : Nat} {k : Int} {vl vp y : Value} {w : World} (h : ShV 1 w (shOf plainG) y ∧ WSt B0 w0 g k vl vp w) :
    Calls Tryz.prog 26 #[.agg #[.int .i64 k, vl, vp], y] w fun e w' => ∃ z, e = .returned z ∧ (z = .bool true ∧ Aside (WSt B0 w0 g k vl vp w') ∧ Cells3 g k vl vp w') :=
  (sameSh_any 4 1 w (shOf plainG) _ y h.2.sh h.1).mono fun e w' ⟨he, hb⟩ => ⟨_, he, rfl, h.2.step hb, (h.2.step hb).cells⟩
theorem WSt.c16 {B0 : Nat} {w0 : World} {g : Nat} {k : Int} {vl vp y : Value} {w : World} (h : ShV 1 w (shOf plainG) y ∧ WSt B0 w0 g k vl vp w) :
    Calls Tryz.prog 16 #[y] w fun e w' => ∃ z, e = .returned z ∧ (z = S plainT ∧ Below w0.heap.size w0 w') :=
  (writeT0_any 1 w h.2.ev plainG y plainT h.1 (.inl ⟨plain_full, plain_text.symm⟩) plain_wn (by decide)).mono fun e w' ⟨he, hb⟩ => ⟨_, he, rfl, below_then h.2.low h.2.low.size hb⟩

set_option maxRecDepth 40000 in
set_option maxHeartbeats 4000000 in
/-- writes. -/
theorem writes0_any {B0 : Nat} (w : World) (hE : E0 B0 w) :
    Calls Tryz.prog 13 #[] w fun e w' => e = .returned (.bool true) ∧ Below w.heap.size w w' := by
  have hcall := readT0_any w hE plainG plainT plain_read asc_lit.1 (by decide) (by decide)
  have HE := Lib.hid hE
  clear hE
  go_enter Tryz.func13, Tryz.ntmps13
  go_wp2_with fail
  refine hcall.mono ?_
  clear hcall
  rintro e w1 ⟨v, rfl, hV, hb1⟩
  obtain ⟨k, A, l, c, A', p, c', rfl, -, -, -, -, -⟩ := hV.open_
  have hb1' := hb1.alloc hb1.size (.cells #[.int .i64 k, .slice A l c, .slice A' p c'] 25)
  have HB1 := Lib.hid hb1'
  have HK1 := Lib.hid (blk_new w1 (.cells #[.int .i64 k, .slice A l c, .slice A' p c'] 25))
  have HV := Lib.hid (hV.below (below_alloc1 w1 (.cells #[.int .i64 k, .slice A l c, .slice A' p c'] 25)))
  have hcall := readE0_any (w1.alloc (.cells #[.int .i64 k, .slice A l c, .slice A' p c'] 25)) (HE.out.low hb1') openT (read_open 3) asc_lit.2 (by decide)
  clear hb1 hb1' hV
  go_wp2_with fail
  refine hcall.mono ?_
  clear hcall
  rintro e w2 ⟨rfl, hb2⟩
  have hb2' := below_then HB1.out HB1.out.size hb2
  have HB2 := Lib.hid ((hb2'.alloc hb2'.size (.cells #[.int .i64 0, .slice none 0 0, .slice none 0 0] 25)).trans ((below_drew (w2.alloc (.cells #[.int .i64 0, .slice none 0 0, .slice none 0 0] 25))).mono (by have := hb2'.size; simp; omega)))
  have hb2n : Below (w1.alloc (.cells #[.int .i64 k, .slice A l c, .slice A' p c'] 25)).heap.size (w1.alloc (.cells #[.int .i64 k, .slice A l c, .slice A' p c'] 25)) (w2.alloc (.cells #[.int .i64 0, .slice none 0 0, .slice none 0 0] 25)).drew := (hb2.alloc hb2.size _).trans ((below_drew (w2.alloc (.cells #[.int .i64 0, .slice none 0 0, .slice none 0 0] 25))).mono (by have := hb2.size; simp at this ⊢; omega))
  have HK2 := Lib.hid (blk_below HK1.out hb2n)
  have HV2 := Lib.hid (HV.out.below hb2n)
  clear hb2 hb2' hb2n
  have hst : WSt B0 w w1.heap.size k (.slice A l c) (.slice A' p c') (w2.alloc (.cells #[.int .i64 0, .slice none 0 0, .slice none 0 0] 25)).drew :=
    ⟨HE.out.low HB2.out, HB2.out, HV2.out, HK2.out⟩
  obtain ⟨z0, z1, z2⟩ := hst.cells
  have HST := Lib.hid hst
  clear hst
  go_wp2_with fail
  go_region_law (first
    | (refine step_call2w' (by first | rfl | simp [Region.wanted, yielded, Act.put]) 27 #[] #[] rfl call27 #[] (by simp) HST.out.c27 ?_
       rintro y1 wy1 ⟨hy1, z0a, z1a, z2a⟩)
    | (refine step_call2w' (by first | rfl | simp [Region.wanted, yielded, Act.put]) 26 #[.tmp 19, .tmp 20] #[25, 25] rfl call26 #[.agg #[.int .i64 k, .slice A l c, .slice A' p c'], y1] (by simp [Act.eval, Act.put]) (WSt.c26 hy1.out) ?_
       rintro y2 wy2 ⟨rfl, hy2, z0b, z1b, z2b⟩)
    | (refine step_call2w' (by first | rfl | simp [Region.wanted, yielded, Act.put]) 27 #[] #[] rfl call27 #[] (by simp) hy2.out.c27 ?_
       rintro y3 wy3 ⟨hy3, z0c, z1c, z2c⟩)
    | (refine step_call2w' (by first | rfl | simp [Region.wanted, yielded, Act.put]) 16 #[.tmp 24] #[25] rfl call16 #[y3] (by simp [Act.eval, Act.put]) (WSt.c16 hy3.out) ?_
       rintro y4 wy4 ⟨rfl, hb4⟩
       have HB4 := Lib.hid hb4
       clear hb4))
  all_goals go_wp2
  all_goals go_ret
  all_goals exact ⟨by simp [Act.put, plainT], HB4.out⟩
end Go.Proofs.YtghajgdiaopioaaGreatDoor
end
