/- Walks and plain laws joined (Vb, Vc). Conditions: stand in each law. -/
import Derived.Test.YtghajgdiaopioaaGreatDoorJu
import Derived.Lib.ItoaLen
import Derived.Lib.SmallJoins
import Derived.Test.YtghajgdiaopioaaGreatDoorJs
import Derived.Test.YtghajgdiaopioaaGreatDoorJh
import Derived.Laws.BytesArg
set_option linter.unusedVariables false
set_option linter.unusedSimpArgs false
section
/- Walk: ftoa64 on whole numbers. -/
namespace Go.Proofs.YtghajgdiaopioaaGreatDoor
open Go.RowKit Go.Proofs Tx
open Go.Proofs.YtghajgdiaopioaaGreatDoorW.PrintWords
@[go_sem] theorem run_bits148 (n : Nat) (w : World) : (callFunc 148 #[.float .f64 n]).run Tryz.prog w = .ok (.value (.int .u64 n)) w := by
  kernel_rfl

theorem step_call4 {P : Program} {ops : Array Oper} {o : Oper} {a : Act} {w : World} {K : Act → World → Prop} {Q : Exit → Act → World → Prop} {E : Prop}
    (hg : o.guard = none) (f : FuncId) (x1 x2 x3 x4 : Operand) (t : Array TypeId) (hop : o.op = Op.call { callee := .value (.func f), args := #[x1, x2, x3, x4], argTypes := t })
    (hcf : ∀ args w, (callFunc f args).run P w = .ok (.enter f args) w) (v1 v2 v3 v4 : Value) (hx1 : a.eval x1 = v1) (hx2 : a.eval x2 = v2) (hx3 : a.eval x3 = v3) (hx4 : a.eval x4 = v4) {R : Value → World → Prop}
    (hC : Calls P f #[v1, v2, v3, v4] w fun e w' => ∃ y, e = .returned y ∧ R y w')
    (hK : ∀ y w', R y w' → K (a.put o.dst y) w') :
    if Region.wanted o (yielded ops a.tmps) = true then Oper.wp P o a w K Q else E := by
  have hw : Region.wanted o (yielded ops a.tmps) = true := by simp [Region.wanted, hg]
  rw [if_pos hw]
  unfold Oper.wp
  rw [execOp_call hop, hcf]
  simp only [List.map_toArray, List.map_cons, List.map_nil, hx1, hx2, hx3, hx4]
  show Calls P f #[v1, v2, v3, v4] w _
  refine hC.mono ?_
  rintro e w' ⟨y, rfl, hy⟩
  exact hK y w' hy
theorem call125 : ∀ args w, (callFunc 125 args).run Tryz.prog w = .ok (.enter 125 args) w := by
  intro args w
  kernel_rfl
theorem call153 : ∀ args w, (callFunc 153 args).run Tryz.prog w = .ok (.enter 153 args) w := by
  intro args w
  kernel_rfl
theorem zero32 (t : Nat) (h : t < 32) : (Array.replicate 32 (Value.int .u8 0))[t]? = some (Value.int .u8 0) := by
  simp [h]
theorem holds32 {w : World} {g N : Nat} (h : w.heap[g]? = some (.cells (Array.replicate 32 (.int .u8 0)) 205 (0, 0))) (hN : N ≤ 32) : Go.Sort.Holds encB w g 0 (Array.replicate N 0) := by
  intro t ht
  have ht' : t < N := by simpa using ht
  refine ⟨?_, by rw [Nat.zero_add]; exact blk_frozen h t⟩
  rw [Nat.zero_add, blk_cell h t, zero32 t (by omega), getElem!_pos _ t ht]
  simp

set_option maxRecDepth 100000 in
set_option maxHeartbeats 4000000 in
theorem ftoa_pos (n : Nat) (h1 : 1 ≤ n) (hn : n ≤ 1000) (w : World) (B : Nat) (A : Option Addr) (k c : Nat) (hR : byteK.R 5 w B (fun q => q ≠ w.heap.size) (.slice A k c) []) (hB : B ≤ w.heap.size) (hp : P10 w) (hB22 : 22 < B)
    (htab : Lib.TabIs Tryz.prog w "internal/strconv.uint64pow10" .u64 Lib.pow10Tab) :
    Calls Tryz.prog 136 #[.slice A k c, .float .f64 (wbits false n), .int .u8 103, .int .i64 (-1)] w fun e w' =>
      ∃ v, e = .returned v ∧ byteK.R 5 w' B (fun q => q ≠ w.heap.size) v (Lib.decDigits n) ∧ Below B w w' := by
  have hg := parts_ok n (by omega) h1
  unfold partsOk at hg
  simp only [Bool.and_eq_true, decide_eq_true_eq] at hg
  obtain ⟨⟨⟨⟨⟨⟨g1, g2⟩, g3⟩, g4⟩, g5⟩, g6⟩, g7⟩ := hg
  obtain ⟨x, hx⟩ : ∃ x, x = wbits false n := ⟨_, rfl⟩
  rw [← hx] at g1 g2 g3 g4 ⊢
  clear hx g2
  obtain ⟨L, hL⟩ : ∃ L, L = n.log2 := ⟨_, rfl⟩
  rw [← hL] at g3 g7
  have hE : (x : Int) / 4503599627370496 = ((L + 1023 : Nat) : Int) := by omega
  have hS : (x : Int) / 9223372036854775808 = 0 := by omega
  obtain ⟨E, hEe⟩ : ∃ E : Nat, E = L + 1023 := ⟨_, rfl⟩
  rw [← hEe] at hE
  have hand : bits BinOp.and IntKind.i64 (E : Int) 2047 = (E : Int) := by
    have : ∀ L : Nat, L ≤ 9 → bits BinOp.and IntKind.i64 ((L + 1023 : Nat) : Int) 2047 = ((L + 1023 : Nat) : Int) := by decide
    rw [hEe]
    exact this L g7
  have hE1 : ((E : Int) == 2047) = false := by rw [beq_eq_false_iff_ne]; omega
  have hE2 : ((E : Int) == 0) = false := by rw [beq_eq_false_iff_ne]; omega
  have hEL : ((E : Int) + -1023) = (L : Int) := by omega
  have HEE := Lib.hid hEe
  clear hEe g3
  have HR := Lib.hid hR
  have HT := Lib.hid htab
  obtain ⟨M, hM⟩ : ∃ M, M = sfM n := ⟨_, rfl⟩
  rw [← hM] at g4 g5 g6
  obtain ⟨q, hq⟩ : ∃ q, q = M / 2048 := ⟨_, rfl⟩
  rw [← hq] at g4 g6
  have hqM : q * 2048 = M := by omega
  have hqb : q < 9007199254740992 := by
    have h1 : x % 4503599627370496 < 2 ^ 53 := by omega
    have := Nat.or_lt_two_pow h1 (show 4503599627370496 < 2 ^ 53 by decide)
    rw [g4] at this
    omega
  have hqp : 4503599627370496 ≤ q := by rw [← g4]; exact Nat.right_le_or
  have hq0 : ((q : Int) == 0) = false := by rw [beq_eq_false_iff_ne]; omega
  have hbq : bits BinOp.or IntKind.u64 (bits BinOp.and IntKind.u64 (x : Int) 4503599627370495) 4503599627370496 = (q : Int) := by
    have e1 : bits BinOp.and IntKind.u64 (x : Int) 4503599627370495 = ((x % 4503599627370496 : Nat) : Int) := by
      rw [u64_and _ _ (by omega) (by omega) (by omega) (by omega)]
      exact congrArg Int.ofNat (Nat.and_two_pow_sub_one_eq_mod x 52)
    rw [e1, u64_or _ _ (by omega) (by omega) (by omega) (by omega), ← g4]
    rfl
  have hsh : ((q : Int) * 2048) = (M : Int) := by omega
  have HQ := Lib.hid hq
  have HM := Lib.hid hM
  clear hq hM
  have HLog := Lib.hid hL
  have HG4 := Lib.hid g4
  have HG5 := Lib.hid g5
  have HG6 := Lib.hid g6
  clear hR htab hL g4 g5 g6
  go_enter Tryz.func136, Tryz.ntmps136
  go_wp2_with fail
  go_quiet (fail)
  go_wp2_with fail
  obtain ⟨W, hW⟩ : ∃ W, W = (w.drewN nq).alloc (.cells #[.int .u8 0, .int .u8 0, .int .u8 0, .int .u8 0, .int .u8 0, .int .u8 0, .int .u8 0, .int .u8 0, .int .u8 0, .int .u8 0, .int .u8 0, .int .u8 0, .int .u8 0, .int .u8 0, .int .u8 0, .int .u8 0, .int .u8 0, .int .u8 0, .int .u8 0, .int .u8 0, .int .u8 0, .int .u8 0, .int .u8 0, .int .u8 0, .int .u8 0, .int .u8 0, .int .u8 0, .int .u8 0, .int .u8 0, .int .u8 0, .int .u8 0, .int .u8 0] 205 (0, 0)) := ⟨_, rfl⟩
  rw [← hW]
  have hWb : Below w.heap.size w W := by rw [hW]; exact (below_drewN w nq).trans (by simpa using below_alloc1 (w.drewN nq) _)
  have hWg : W.heap[w.heap.size]? = some (.cells (Array.replicate 32 (.int .u8 0)) 205 (0, 0)) := by rw [hW]; exact blk_new (w.drewN nq) _
  have hWs : W.heap.size = w.heap.size + 1 := by rw [hW]; simp [World.alloc]
  have HWW := Lib.hid hW
  clear hW
  have hlen := Tryz.bits_Len64 (q : Int) W (by omega) (by omega)
  rw [Int.toNat_natCast, HG6.out] at hlen
  refine hlen.mono ?_
  rintro e W' ⟨rfl, hWe⟩
  rw [hWe]
  clear hlen hWe
  obtain ⟨j, hj, hsf⟩ := short_any n h1 hn W (hp.below hWb (by omega))
  rw [← HM.out, ← HLog.out] at hsf
  have hLL : (L : Int) + 1 - 64 = (L : Int) - 11 - 52 := by omega
  rw [hLL] at hsf
  clear hLL
  go_wp2_with fail
  refine hsf.mono ?_
  rintro e w2 ⟨rfl, hb2⟩
  clear hsf
  go_wp2_with fail
  have hb3 := hb2.drew
  obtain ⟨m, i, hmi, hm10⟩ := strip10 n h1
  have hm1 : 1 ≤ m := by
    rcases Nat.eq_zero_or_pos m with h | h
    · subst h; simp at hm10
    · exact h
  have hu : n * 10 ^ j = m * 10 ^ (i + j) := by rw [hmi, Nat.mul_assoc, ← Nat.pow_add]
  have hub : n * 10 ^ j ≤ 1000000000000000000 := by
    have h2 : 10 ^ j ≤ 10 ^ 15 := Nat.pow_le_pow_right (by decide) hj
    calc n * 10 ^ j ≤ 1000 * 10 ^ 15 := Nat.mul_le_mul hn h2
      _ = 1000000000000000000 := by decide
  have hup : 1 ≤ n * 10 ^ j := Nat.mul_pos h1 (Nat.pow_pos (by decide))
  have hnd : Lib.nDigits (n * 10 ^ j) = Lib.nDigits m + (i + j) := by rw [hu, nDig_pow m hm1]
  have hnl : Lib.nDigits (n * 10 ^ j) ≤ 20 := Lib.nDigits_le20 _ (by omega)
  obtain ⟨u, hue⟩ : ∃ u, u = n * 10 ^ j := ⟨_, rfl⟩
  rw [← hue] at hu hub hup hnd hnl
  have hk2 : w2.drew.heap[w.heap.size]? = some (.cells (Array.replicate 32 (.int .u8 0)) 205 (0, 0)) := (hb3.block _ (by omega)).trans hWg
  have hsz2 : w.heap.size < w2.drew.heap.size := by have := hb3.size; omega
  have htab2 : Lib.TabIs Tryz.prog w2.drew "internal/strconv.uint64pow10" .u64 Lib.pow10Tab :=
    Go.Joins.tab_stays (g := 11) (by kernel_rfl) (Go.Joins.tab_stays (g := 11) (by kernel_rfl) HT.out hWb (Nat.le_refl _)) hb3 (Nat.le_refl _)
  have hnum0 := Tryz.internal_strconv_numDigits u hup (by omega) w2.drew htab2
  have hset0 := setd_any w.heap.size m (i + j) w2.drew hm1 hm10 (by omega) (by omega) (-(j : Int)) (by omega) (holds32 hk2 (by omega)) hsz2
  rw [← hnd, ← hu] at hset0
  obtain ⟨N, hN⟩ : ∃ N, N = Lib.nDigits u := ⟨_, rfl⟩
  rw [← hN] at hnum0 hset0 hnd hnl
  have HUE := Lib.hid hue
  have HN := Lib.hid hN
  have HU := Lib.hid hu
  have HMI := Lib.hid hmi
  have HND := Lib.hid hnd
  clear hN hu hmi hnd
  have hueI : ((n : Int) * 10 ^ j) = (u : Int) := by rw [hue]; push_cast; rfl
  simp only [hueI]
  clear hue hueI
  have hnum : Calls Tryz.prog 125 #[.int .u64 u] w2.drew fun e w' => ∃ y, e = .returned y ∧ (y = .int .i64 N ∧ w' = w2.drew) := hnum0.mono fun e w' ⟨a, b⟩ => ⟨_, a, rfl, b⟩
  have hset : Calls Tryz.prog 153 #[.slice (some ⟨w.heap.size, 0, none⟩) 32 32, .int .u64 u, .int .i64 (-(j : Int)), .int .i64 N] w2.drew fun e w' => ∃ y, e = .returned y ∧ (y = .tuple #[.int .i64 (N + -(j : Int)), .int .i64 (Lib.nDigits m)] ∧ DigAt w.heap.size (Lib.decDigits m) w' ∧ Below w.heap.size w2.drew w') := hset0.mono fun e w' ⟨a, b⟩ => ⟨_, a, rfl, b⟩
  clear hnum0 hset0
  go_region_law (first
    | (refine step_call rfl 125 (.tmp 143) _ rfl call125 (.int .u64 u) (by simp [Act.eval, Act.put]) hnum ?_; rintro y w3 ⟨rfl, rfl⟩)
    | (refine step_call4 rfl 153 (.tmp 140) (.tmp 141) (.tmp 142) (.tmp 144) _ rfl call153 _ _ _ _ (by simp [Act.eval, Act.put]) (by simp [Act.eval, Act.put]) (by simp [Act.eval, Act.put]) (by simp [Act.eval, Act.put]) hset ?_; rintro y w3 ⟨rfl, hd3, hbl3⟩))
  have hall : Below w.heap.size w w3 := (hWb.trans (hb3.mono (by omega))).trans hbl3
  have hlen : (Lib.decDigits m).length = Lib.nDigits m := Lib.decDigits_length m
  have hn4 : Lib.nDigits n ≤ 4 := by rw [← Lib.decDigits_length]; exact (dec_all n).2.2.2.2 3 (by omega)
  have hni : Lib.nDigits n = Lib.nDigits m + i := by rw [HMI.out, nDig_pow m hm1]
  have hdp : (N : Int) + -(j : Int) = ((Lib.nDigits m + i : Nat) : Int) := by have := HND.out; omega
  have hrep : Lib.decDigits m ++ List.replicate (Lib.nDigits m + i - (Lib.decDigits m).length) 48 = Lib.decDigits n := by
    rw [hlen, Nat.add_sub_cancel_left, HMI.out, dec_pow m i hm1]
  have hpos : 1 ≤ Lib.nDigits m := Lib.nDigits_pos m
  have hef := efg_pos w3 B A k c [] w.heap.size (Lib.decDigits m) (Lib.nDigits m + i) (Kd.R_below HR.out hall) hd3 (by omega) (by omega) (by omega) (by have := hall.size; omega) (by simp)
  rw [List.nil_append, hrep] at hef
  rw [← hdp, hlen] at hef
  have HEF := Lib.hid hef
  have HALL := Lib.hid hall
  clear hef hall hrep hlen hdp hni hd3 hbl3 hb3 hb2 hWb hk2 htab2 hset hnum
  go_wp2_with fail
  refine HEF.out.mono ?_
  rintro e w4 ⟨v, rfl, hRv, hb4⟩
  have hfin : Below B w w4 := (HALL.out.mono hB).trans hb4
  have HFIN := Lib.hid hfin
  have HRV := Lib.hid hRv
  clear hfin hb4 hRv
  go_wp2_with fail
  all_goals go_ret
  all_goals exact ⟨v, rfl, HRV.out, HFIN.out⟩

def L0 (n : Nat) : Nat := n.log2
set_option maxRecDepth 100000 in
set_option maxHeartbeats 4000000 in
theorem ftoa_neg (n : Nat) (h1 : 1 ≤ n) (hn : n ≤ 1000) (w : World) (B : Nat) (A : Option Addr) (k c : Nat) (hR : byteK.R 5 w B (fun q => q ≠ w.heap.size) (.slice A k c) []) (hB : B ≤ w.heap.size) (hp : P10 w) (hB22 : 22 < B)
    (htab : Lib.TabIs Tryz.prog w "internal/strconv.uint64pow10" .u64 Lib.pow10Tab) :
    Calls Tryz.prog 136 #[.slice A k c, .float .f64 (wbits true n), .int .u8 103, .int .i64 (-1)] w fun e w' =>
      ∃ v, e = .returned v ∧ byteK.R 5 w' B (fun q => q ≠ w.heap.size) v (45 :: Lib.decDigits n) ∧ Below B w w' := by
  have hg := parts_ok n (by omega) h1
  unfold partsOk at hg
  simp only [Bool.and_eq_true, decide_eq_true_eq] at hg
  obtain ⟨⟨⟨⟨⟨⟨g1, g2⟩, g3⟩, g4⟩, g5⟩, g6⟩, g7⟩ := hg
  obtain ⟨y, hy⟩ : ∃ y, y = wbits false n := ⟨_, rfl⟩
  obtain ⟨x, hx⟩ : ∃ x, x = wbits true n := ⟨_, rfl⟩
  rw [← hy] at g1 g2 g3 g4
  rw [← hx] at g2 ⊢
  have g2' : y % 4503599627370496 = x % 4503599627370496 := by omega
  rw [g2'] at g4
  have g3' : x / 4503599627370496 = L0 n + 2048 + 1023 := by unfold L0; omega
  have g1' : x < 18446744073709551616 := by omega
  have g1'' : 9223372036854775808 ≤ x := by omega
  clear hx hy g2 g2' g3 g1
  obtain ⟨L, hL⟩ : ∃ L, L = n.log2 := ⟨_, rfl⟩
  unfold L0 at g3'
  rw [← hL] at g3' g7
  have hE : (x : Int) / 4503599627370496 = ((L + 2048 + 1023 : Nat) : Int) := by omega
  have hS : (x : Int) / 9223372036854775808 = 1 := by omega
  obtain ⟨E, hEe⟩ : ∃ E : Nat, E = L + 1023 := ⟨_, rfl⟩
  obtain ⟨E2, hE2e⟩ : ∃ E2 : Nat, E2 = L + 2048 + 1023 := ⟨_, rfl⟩
  rw [← hE2e] at hE
  have hand : bits BinOp.and IntKind.i64 (E2 : Int) 2047 = (E : Int) := by
    have : ∀ L : Nat, L ≤ 9 → bits BinOp.and IntKind.i64 ((L + 2048 + 1023 : Nat) : Int) 2047 = ((L + 1023 : Nat) : Int) := by decide
    rw [hEe, hE2e]
    exact this L g7
  have hE2b : E2 < 4096 := by omega
  have HE2 := Lib.hid hE2e
  clear hE2e
  have hE1 : ((E : Int) == 2047) = false := by rw [beq_eq_false_iff_ne]; omega
  have hE2 : ((E : Int) == 0) = false := by rw [beq_eq_false_iff_ne]; omega
  have hEL : ((E : Int) + -1023) = (L : Int) := by omega
  have HEE := Lib.hid hEe
  clear hEe g3'
  have HR := Lib.hid hR
  have HT := Lib.hid htab
  obtain ⟨M, hM⟩ : ∃ M, M = sfM n := ⟨_, rfl⟩
  rw [← hM] at g4 g5 g6
  obtain ⟨q, hq⟩ : ∃ q, q = M / 2048 := ⟨_, rfl⟩
  rw [← hq] at g4 g6
  have hqM : q * 2048 = M := by omega
  have hqb : q < 9007199254740992 := by
    have h1 : x % 4503599627370496 < 2 ^ 53 := by omega
    have := Nat.or_lt_two_pow h1 (show 4503599627370496 < 2 ^ 53 by decide)
    rw [g4] at this
    omega
  have hqp : 4503599627370496 ≤ q := by rw [← g4]; exact Nat.right_le_or
  have hq0 : ((q : Int) == 0) = false := by rw [beq_eq_false_iff_ne]; omega
  have hbq : bits BinOp.or IntKind.u64 (bits BinOp.and IntKind.u64 (x : Int) 4503599627370495) 4503599627370496 = (q : Int) := by
    have e1 : bits BinOp.and IntKind.u64 (x : Int) 4503599627370495 = ((x % 4503599627370496 : Nat) : Int) := by
      rw [u64_and _ _ (by omega) (by omega) (by omega) (by omega)]
      exact congrArg Int.ofNat (Nat.and_two_pow_sub_one_eq_mod x 52)
    rw [e1, u64_or _ _ (by omega) (by omega) (by omega) (by omega), ← g4]
    rfl
  have hsh : ((q : Int) * 2048) = (M : Int) := by omega
  have HQ := Lib.hid hq
  have HM := Lib.hid hM
  clear hq hM
  have HLog := Lib.hid hL
  have HG4 := Lib.hid g4
  have HG5 := Lib.hid g5
  have HG6 := Lib.hid g6
  clear hR htab hL g4 g5 g6
  go_enter Tryz.func136, Tryz.ntmps136
  go_wp2_with fail
  go_quiet (fail)
  go_wp2_with fail
  obtain ⟨W, hW⟩ : ∃ W, W = (w.drewN nq).alloc (.cells #[.int .u8 0, .int .u8 0, .int .u8 0, .int .u8 0, .int .u8 0, .int .u8 0, .int .u8 0, .int .u8 0, .int .u8 0, .int .u8 0, .int .u8 0, .int .u8 0, .int .u8 0, .int .u8 0, .int .u8 0, .int .u8 0, .int .u8 0, .int .u8 0, .int .u8 0, .int .u8 0, .int .u8 0, .int .u8 0, .int .u8 0, .int .u8 0, .int .u8 0, .int .u8 0, .int .u8 0, .int .u8 0, .int .u8 0, .int .u8 0, .int .u8 0, .int .u8 0] 205 (0, 0)) := ⟨_, rfl⟩
  rw [← hW]
  have hWb : Below w.heap.size w W := by rw [hW]; exact (below_drewN w nq).trans (by simpa using below_alloc1 (w.drewN nq) _)
  have hWg : W.heap[w.heap.size]? = some (.cells (Array.replicate 32 (.int .u8 0)) 205 (0, 0)) := by rw [hW]; exact blk_new (w.drewN nq) _
  have hWs : W.heap.size = w.heap.size + 1 := by rw [hW]; simp [World.alloc]
  have HWW := Lib.hid hW
  clear hW
  have hlen := Tryz.bits_Len64 (q : Int) W (by omega) (by omega)
  rw [Int.toNat_natCast, HG6.out] at hlen
  refine hlen.mono ?_
  rintro e W' ⟨rfl, hWe⟩
  rw [hWe]
  clear hlen hWe
  obtain ⟨j, hj, hsf⟩ := short_any n h1 hn W (hp.below hWb (by omega))
  rw [← HM.out, ← HLog.out] at hsf
  have hLL : (L : Int) + 1 - 64 = (L : Int) - 11 - 52 := by omega
  rw [hLL] at hsf
  clear hLL
  go_wp2_with fail
  refine hsf.mono ?_
  rintro e w2 ⟨rfl, hb2⟩
  clear hsf
  go_wp2_with fail
  have hb3 := hb2.drew
  obtain ⟨m, i, hmi, hm10⟩ := strip10 n h1
  have hm1 : 1 ≤ m := by
    rcases Nat.eq_zero_or_pos m with h | h
    · subst h; simp at hm10
    · exact h
  have hu : n * 10 ^ j = m * 10 ^ (i + j) := by rw [hmi, Nat.mul_assoc, ← Nat.pow_add]
  have hub : n * 10 ^ j ≤ 1000000000000000000 := by
    have h2 : 10 ^ j ≤ 10 ^ 15 := Nat.pow_le_pow_right (by decide) hj
    calc n * 10 ^ j ≤ 1000 * 10 ^ 15 := Nat.mul_le_mul hn h2
      _ = 1000000000000000000 := by decide
  have hup : 1 ≤ n * 10 ^ j := Nat.mul_pos h1 (Nat.pow_pos (by decide))
  have hnd : Lib.nDigits (n * 10 ^ j) = Lib.nDigits m + (i + j) := by rw [hu, nDig_pow m hm1]
  have hnl : Lib.nDigits (n * 10 ^ j) ≤ 20 := Lib.nDigits_le20 _ (by omega)
  obtain ⟨u, hue⟩ : ∃ u, u = n * 10 ^ j := ⟨_, rfl⟩
  rw [← hue] at hu hub hup hnd hnl
  have hk2 : w2.drew.heap[w.heap.size]? = some (.cells (Array.replicate 32 (.int .u8 0)) 205 (0, 0)) := (hb3.block _ (by omega)).trans hWg
  have hsz2 : w.heap.size < w2.drew.heap.size := by have := hb3.size; omega
  have htab2 : Lib.TabIs Tryz.prog w2.drew "internal/strconv.uint64pow10" .u64 Lib.pow10Tab :=
    Go.Joins.tab_stays (g := 11) (by kernel_rfl) (Go.Joins.tab_stays (g := 11) (by kernel_rfl) HT.out hWb (Nat.le_refl _)) hb3 (Nat.le_refl _)
  have hnum0 := Tryz.internal_strconv_numDigits u hup (by omega) w2.drew htab2
  have hset0 := setd_any w.heap.size m (i + j) w2.drew hm1 hm10 (by omega) (by omega) (-(j : Int)) (by omega) (holds32 hk2 (by omega)) hsz2
  rw [← hnd, ← hu] at hset0
  obtain ⟨N, hN⟩ : ∃ N, N = Lib.nDigits u := ⟨_, rfl⟩
  rw [← hN] at hnum0 hset0 hnd hnl
  have HUE := Lib.hid hue
  have HN := Lib.hid hN
  have HU := Lib.hid hu
  have HMI := Lib.hid hmi
  have HND := Lib.hid hnd
  clear hN hu hmi hnd
  have hueI : ((n : Int) * 10 ^ j) = (u : Int) := by rw [hue]; push_cast; rfl
  simp only [hueI]
  clear hue hueI
  have hnum : Calls Tryz.prog 125 #[.int .u64 u] w2.drew fun e w' => ∃ y, e = .returned y ∧ (y = .int .i64 N ∧ w' = w2.drew) := hnum0.mono fun e w' ⟨a, b⟩ => ⟨_, a, rfl, b⟩
  have hset : Calls Tryz.prog 153 #[.slice (some ⟨w.heap.size, 0, none⟩) 32 32, .int .u64 u, .int .i64 (-(j : Int)), .int .i64 N] w2.drew fun e w' => ∃ y, e = .returned y ∧ (y = .tuple #[.int .i64 (N + -(j : Int)), .int .i64 (Lib.nDigits m)] ∧ DigAt w.heap.size (Lib.decDigits m) w' ∧ Below w.heap.size w2.drew w') := hset0.mono fun e w' ⟨a, b⟩ => ⟨_, a, rfl, b⟩
  clear hnum0 hset0
  go_region_law (first
    | (refine step_call rfl 125 (.tmp 143) _ rfl call125 (.int .u64 u) (by simp [Act.eval, Act.put]) hnum ?_; rintro y w3 ⟨rfl, rfl⟩)
    | (refine step_call4 rfl 153 (.tmp 140) (.tmp 141) (.tmp 142) (.tmp 144) _ rfl call153 _ _ _ _ (by simp [Act.eval, Act.put]) (by simp [Act.eval, Act.put]) (by simp [Act.eval, Act.put]) (by simp [Act.eval, Act.put]) hset ?_; rintro y w3 ⟨rfl, hd3, hbl3⟩))
  have hall : Below w.heap.size w w3 := (hWb.trans (hb3.mono (by omega))).trans hbl3
  have hlen : (Lib.decDigits m).length = Lib.nDigits m := Lib.decDigits_length m
  have hn4 : Lib.nDigits n ≤ 4 := by rw [← Lib.decDigits_length]; exact (dec_all n).2.2.2.2 3 (by omega)
  have hni : Lib.nDigits n = Lib.nDigits m + i := by rw [HMI.out, nDig_pow m hm1]
  have hdp : (N : Int) + -(j : Int) = ((Lib.nDigits m + i : Nat) : Int) := by have := HND.out; omega
  have hrep : Lib.decDigits m ++ List.replicate (Lib.nDigits m + i - (Lib.decDigits m).length) 48 = Lib.decDigits n := by
    rw [hlen, Nat.add_sub_cancel_left, HMI.out, dec_pow m i hm1]
  have hpos : 1 ≤ Lib.nDigits m := Lib.nDigits_pos m
  have hef := efg_neg w3 B A k c [] w.heap.size (Lib.decDigits m) (Lib.nDigits m + i) (Kd.R_below HR.out hall) hd3 (by omega) (by omega) (by omega) (by have := hall.size; omega) (by simp)
  rw [List.nil_append, List.append_assoc, hrep] at hef
  rw [← hdp, hlen] at hef
  have HEF := Lib.hid hef
  have HALL := Lib.hid hall
  clear hef hall hrep hlen hdp hni hd3 hbl3 hb3 hb2 hWb hk2 htab2 hset hnum
  go_wp2_with fail
  refine HEF.out.mono ?_
  rintro e w4 ⟨v, rfl, hRv, hb4⟩
  have hfin : Below B w w4 := (HALL.out.mono hB).trans hb4
  have HFIN := Lib.hid hfin
  have HRV := Lib.hid hRv
  clear hfin hb4 hRv
  go_wp2_with fail
  all_goals go_ret
  all_goals exact ⟨v, rfl, HRV.out, HFIN.out⟩

set_option maxRecDepth 100000 in
set_option maxHeartbeats 4000000 in
theorem ftoa_zero (w : World) (B : Nat) (A : Option Addr) (k c : Nat) (hR : byteK.R 5 w B (fun _ => True) (.slice A k c) []) (hB : B ≤ w.heap.size) (hB22 : 22 < B) :
    Calls Tryz.prog 136 #[.slice A k c, .float .f64 0, .int .u8 103, .int .i64 (-1)] w fun e w' =>
      ∃ v, e = .returned v ∧ byteK.R 5 w' B (fun _ => True) v [48] ∧ Below B w w' := by
  have HR := Lib.hid hR
  clear hR
  have hand : bits BinOp.and IntKind.i64 0 2047 = 0 := by decide
  have hand2 : bits BinOp.and IntKind.u64 0 4503599627370495 = 0 := by decide
  go_enter Tryz.func136, Tryz.ntmps136
  go_wp2_with fail
  go_quiet (fail)
  go_wp2_with fail
  have hef := efg_zero (w.drewN nq) B A k c [] 22 (Kd.R_below (Kd.R_mono (R_own_ge HR.out) (fun q hq => by omega)) (below_drewN w nq)) ⟨by show 22 < w.heap.size; omega, fun j hj => absurd hj (by simp)⟩ hB (by simp)
  refine hef.mono ?_
  rintro e w4 ⟨v, rfl, hRv, hb4⟩
  have HFIN := Lib.hid (((below_drewN w nq).mono hB).trans hb4)
  have HRV := Lib.hid hRv
  clear hb4 hRv hef
  go_wp2_with fail
  go_ret
  exact ⟨v, rfl, Kd.R_mono HRV.out (fun _ _ => trivial), HFIN.out⟩

/-- ftoa64 of a whole number: its numeral. -/
theorem ftoa_fb (n : Int) (h1 : -1000 ≤ n) (h2 : n ≤ 1000) (w : World) (B : Nat) (A : Option Addr) (k c : Nat) (hR : byteK.R 5 w B (fun _ => True) (.slice A k c) []) (hB : B ≤ w.heap.size) (hp : P10 w) (hB22 : 22 < B)
    (htab : Lib.TabIs Tryz.prog w "internal/strconv.uint64pow10" .u64 Lib.pow10Tab) :
    Calls Tryz.prog 136 #[.slice A k c, .float .f64 (fb n), .int .u8 103, .int .i64 (-1)] w fun e w' =>
      ∃ v, e = .returned v ∧ byteK.R 5 w' B (fun _ => True) v (Lib.itoa n) ∧ Below B w w' := by
  have hR' : byteK.R 5 w B (fun q => q ≠ w.heap.size) (.slice A k c) [] := Kd.R_mono (Kd.R_bound hR) (fun q hq => Nat.ne_of_lt hq.2.2.1)
  unfold fb Lib.itoa
  by_cases hn : n < 0
  · rw [decide_eq_true hn, if_pos hn]
    exact (ftoa_neg n.natAbs (by omega) (by omega) w B A k c hR' hB hp hB22 htab).mono fun e w' ⟨v, a, b, d⟩ => ⟨v, a, Kd.R_mono b (fun _ _ => trivial), d⟩
  · rw [decide_eq_false hn, if_neg hn]
    by_cases h0 : n = 0
    · subst h0
      have e : wbits false (Int.natAbs 0) = 0 := by decide
      rw [e, show (0 : Int).toNat = 0 from rfl, decDigits_small (by decide)]
      exact ftoa_zero w B A k c hR hB hB22
    · have e : n.toNat = n.natAbs := by omega
      rw [e]
      exact (ftoa_pos n.natAbs (by omega) (by omega) w B A k c hR' hB hp hB22 htab).mono fun e w' ⟨v, a, b, d⟩ => ⟨v, a, Kd.R_mono b (fun _ _ => trivial), d⟩
/-! Walks: FormatFloat and number on whole numbers. -/
theorem str_of_row {w : World} {base : Nat} {ok : Nat → Prop} {A : Option Addr} {n c : Nat} {xs : Bs} (h : byteK.R 5 w base ok (.slice A n c) xs) :
    (convert 92 9 (.slice A n c)).run Tryz.prog w = .ok (S xs) w := by
  obtain ⟨hn, hc, hC⟩ := Kd.R_reads' h
  have hr : ReadsInt w .u8 A n (xs.map fun b => (b.toNat : Int)) := by
    refine ⟨by simp [hn], by rw [hn]; exact hC.2.1, fun h0 => ?_⟩
    obtain ⟨ad, e, hcell⟩ := hC.2.2 (by omega)
    refine ⟨ad, e, fun j hj => ?_⟩
    have hjx : j < xs.length := by omega
    obtain ⟨cs, hl, hK, hcc⟩ := hcell j xs[j] (List.getElem?_eq_getElem hjx)
    have hK' : cs = [byteV xs[j]] := hK
    have := hcc 0 (byteV xs[j]) (by rw [hK']; rfl)
    have e1 : j * byteK.sz + 0 = j := by show j * 1 + 0 = j; omega
    rw [e1] at this
    rw [this]
    have hjl : j < xs.length := by omega
    simp [List.getD, hjl, byteV]
  rw [string_of_reads (e := 5) Tryz.underlying92 Tryz.underlying5 Tryz.underlying9 hr]
  congr 3
  unfold strOfNums
  simp [Function.comp_def]

/-- What the tables of numbers hold. -/
structure Tb (w : World) : Prop where
  p10 : P10 w
  tab : Lib.TabIs Tryz.prog w "internal/strconv.uint64pow10" .u64 Lib.pow10Tab
theorem Tb.below {w w' : World} {B : Nat} (h : Tb w) (hb : Below B w w') (hB : 22 < B) : Tb w' where
  p10 := h.p10.below hb hB
  tab := by
    have hg : Tryz.prog.globalNamed "internal/strconv.uint64pow10" = some 11 := by kernel_rfl
    have h0 := h.tab
    unfold Lib.TabIs World.var? at h0 ⊢
    rw [hg] at h0 ⊢
    simp only [Option.bind_some] at h0 ⊢
    rw [hb.block 11 (by omega)]
    exact h0

set_option maxRecDepth 20000 in
set_option maxHeartbeats 1000000 in
theorem fmt_any (n : Int) (h1 : -1000 ≤ n) (h2 : n ≤ 1000) (w : World) (hT : Tb w) (hB : 22 < w.heap.size) :
    Calls Tryz.prog 123 #[.float .f64 (fb n), .int .u8 103, .int .i64 (-1), .int .i64 64] w fun e w' => e = .returned (S (Lib.itoa n)) ∧ Below w.heap.size w w' := by
  obtain ⟨x, hx⟩ : ∃ x, x = fb n := ⟨_, rfl⟩
  rw [← hx]
  have HX := Lib.hid hx
  clear hx
  go_enter Tryz.func123, Tryz.ntmps123
  go_wp2_with (at_make; go_loud (refine make0 byteK _ rfl _ _ 92 rfl 5 _ _ Tryz.underlying92 info5 _ 24 rfl rfl (by rfl) (by omega) (by omega) ?_))
  intro w1 hs1 hb1 hR1
  have hcall := ftoa_fb n h1 h2 w1 w.heap.size (some ⟨w.heap.size, 0, none⟩) 0 24 (hR1 _ _ (Nat.le_refl _) trivial) (by omega) (hT.below hb1 hB).p10 (by omega) (hT.below hb1 hB).tab
  rw [← HX.out] at hcall
  have HB1 := Lib.hid hb1
  clear hb1 hR1
  go_wp2_with fail
  refine hcall.mono ?_
  rintro e w2 ⟨v, rfl, hRv, hb2⟩
  obtain ⟨A2, n2, c2, rfl⟩ := R_sl hRv
  have hconv := str_of_row hRv
  have HB2 := Lib.hid (HB1.out.trans hb2)
  clear hcall hRv hb2
  go_wp2
  go_ret
  exact ⟨rfl, HB2.out⟩

theorem call110_any (n : Int) (h1 : -1000 ≤ n) (h2 : n ≤ 1000) (w : World) (hT : Tb w) (hB : 22 < w.heap.size) :
    Calls Tryz.prog 110 #[.float .f64 (fb n), .int .u8 103, .int .i64 (-1), .int .i64 64] w fun e w' => e = .returned (S (Lib.itoa n)) ∧ Below w.heap.size w w' := by
  have hcall := fmt_any n h1 h2 w hT hB
  obtain ⟨x, hx⟩ : ∃ x, x = fb n := ⟨_, rfl⟩
  rw [← hx] at hcall ⊢
  clear hx
  go_enter Tryz.func110, Tryz.ntmps110
  go_wp2_with fail
  refine hcall.mono ?_
  rintro e w2 ⟨rfl, hb2⟩
  have HB2 := Lib.hid hb2
  clear hcall hb2
  go_wp2
  go_ret
  exact ⟨rfl, HB2.out⟩
/-- number, of a whole number: its numeral. -/
theorem number_any (n : Int) (h1 : -1000 ≤ n) (h2 : n ≤ 1000) (w : World) (hT : Tb w) (hB : 22 < w.heap.size) :
    Calls Tryz.prog 96 #[.float .f64 (fb n)] w fun e w' => e = .returned (S (Lib.itoa n)) ∧ Below w.heap.size w w' := by
  have hcall := call110_any n h1 h2 w hT hB
  obtain ⟨x, hx⟩ : ∃ x, x = fb n := ⟨_, rfl⟩
  rw [← hx] at hcall ⊢
  clear hx
  go_enter Tryz.func96, Tryz.ntmps96
  go_wp2_with fail
  refine hcall.mono ?_
  rintro e w2 ⟨rfl, hb2⟩
  have HB2 := Lib.hid hb2
  clear hcall hb2
  go_wp2
  go_ret
  exact ⟨rfl, HB2.out⟩
end Go.Proofs.YtghajgdiaopioaaGreatDoor
end
