/- Walks and plain laws joined (Ya, Yb, Yc). Conditions: stand in each law. -/
import Derived.Test.YtghajgdiaopioaaGreatDoorJv
import Derived.Test.YtghajgdiaopioaaGreatDoorJp
import Derived.Test.YtghajgdiaopioaaGreatDoorJw
import Derived.Lib.BufferOld
import Derived.Test.YtghajgdiaopioaaGreatDoorJq
import Derived.Lib.SlBytesConst
import Derived.Test.YtghajgdiaopioaaGreatDoorJr
set_option linter.unusedVariables false
set_option linter.unusedSimpArgs false
section
/- Walks: the text of a line of points is written into a buffer. Conditions: stand in each contract. -/
namespace Go.Proofs.YtghajgdiaopioaaGreatDoor
open Go.RowKit Go.Proofs Tx
open Go.Proofs.YtghajgdiaopioaaGreatDoorW.PrintWords
/-- What is asked of number: it writes these texts for these numbers. -/
structure NumF (nf : Nat → Bs) (q : Nat → Prop) : Prop where
  num : ∀ (x : Nat) (w : World), q x → Tb w → 22 < w.heap.size → Calls Tryz.prog 96 #[.float .f64 x] w fun e w' => e = .returned (S (nf x)) ∧ Below w.heap.size w w'
  short : ∀ x, q x → (nf x).length ≤ 30
abbrev BufB (B b : Nat) (l : Bs) (w : World) : Prop := Lib.IsBuffer 123 5 B b (Lib.byteCells l) w
theorem buf_byte {B b : Nat} {l : Bs} {w : World} (c : Int) (u : UInt8) (hc : c = (u.toNat : Int)) (h : BufB B b l w) (hB : B ≤ w.heap.size) (hl : l.length ≤ 1000000000) :
    Calls Tryz.prog 98 #[.pointer (some ⟨b, 0, none⟩), .int .u8 c] w fun e w' => e = .returned .nilIface ∧ BufB B b (l ++ [u]) w' ∧ Below B w w' ∧ Lib.OthersKept 5 (some b) w w' := by
  refine (Tryz.Buffer_WriteByte_k B b (Lib.byteCells l) c w h hB (Lib.byteCells_one l) (by rw [Lib.byteCells_length]; omega)).mono ?_
  rintro e w' ⟨he, h1, h2, h3⟩
  refine ⟨he, ?_, h2, h3⟩
  show Lib.IsBuffer 123 5 B b (Lib.byteCells (l ++ [u])) w'
  rw [Lib.byteCells_append]
  subst hc
  exact h1
theorem buf_str {B b : Nat} {l : Bs} {w : World} (s : Bs) (h : BufB B b l w) (hB : B ≤ w.heap.size) (hl : l.length ≤ 1000000000) (hs : s.length ≤ 1000000000) :
    Calls Tryz.prog 95 #[.pointer (some ⟨b, 0, none⟩), S s] w fun e w' => ∃ y, e = .returned y ∧ BufB B b (l ++ s) w' ∧ Below B w w' := by
  refine (Tryz.Buffer_WriteString_k B b (Lib.byteCells l) ⟨s.toArray⟩ w h hB (Lib.byteCells_one l) (by rw [Lib.byteCells_length, size_S]; omega)).mono ?_
  rintro e w' ⟨he, h1, h2, -⟩
  refine ⟨_, he, ?_, h2⟩
  show Lib.IsBuffer 123 5 B b (Lib.byteCells (l ++ s)) w'
  rw [Lib.byteCells_append]
  exact h1
theorem joinS_snoc (sep x : Bs) : ∀ l : List Bs, joinS sep (l ++ [x]) = if l = [] then x else joinS sep l ++ sep ++ x
  | [] => rfl
  | [a] => rfl
  | a :: b :: l => by
    have := joinS_snoc sep x (b :: l)
    rw [if_neg (by simp)] at this ⊢
    show a ++ sep ++ joinS sep (b :: l ++ [x]) = _
    rw [this]
    simp [joinS]
theorem take_snoc {α : Type} {l : List α} {j : Nat} (h : j < l.length) : l.take (j + 1) = l.take j ++ [l[j]] := by
  rw [List.take_add_one, List.getElem?_eq_getElem h]; rfl
theorem call96 : ∀ args w, (callFunc 96 args).run Tryz.prog w = .ok (.enter 96 args) w := by
  intro args w
  kernel_rfl
theorem call95 : ∀ args w, (callFunc 95 args).run Tryz.prog w = .ok (.enter 95 args) w := by
  intro args w
  kernel_rfl
theorem step_call2 {P : Program} {ops : Array Oper} {o : Oper} {a : Act} {w : World} {K : Act → World → Prop} {Q : Exit → Act → World → Prop} {E : Prop}
    (hg : o.guard = none) (f : FuncId) (x1 x2 : Operand) (t : Array TypeId) (hop : o.op = Op.call { callee := .value (.func f), args := #[x1, x2], argTypes := t })
    (hcf : ∀ args w, (callFunc f args).run P w = .ok (.enter f args) w) (v1 v2 : Value) (hx1 : a.eval x1 = v1) (hx2 : a.eval x2 = v2) {R : Value → World → Prop}
    (hC : Calls P f #[v1, v2] w fun e w' => ∃ y, e = .returned y ∧ R y w')
    (hK : ∀ y w', R y w' → K (a.put o.dst y) w') :
    if Region.wanted o (yielded ops a.tmps) = true then Oper.wp P o a w K Q else E := by
  have hw : Region.wanted o (yielded ops a.tmps) = true := by simp [Region.wanted, hg]
  rw [if_pos hw]
  unfold Oper.wp
  rw [execOp_call hop, hcf]
  simp only [List.map_toArray, List.map_cons, List.map_nil, hx1, hx2]
  show Calls P f #[v1, v2] w _
  refine hC.mono ?_
  rintro e w' ⟨y, rfl, hy⟩
  exact hK y w' hy

@[go_sem] theorem app_S (l m : Bs) : (ByteArray.mk l.toArray) ++ (ByteArray.mk m.toArray) = ⟨(l ++ m).toArray⟩ := by
  apply ByteArray.ext
  simp
/-- What holds between the calls of one statement that writes a point: the point's box at block g, the buffer as it was. -/
structure Mid (B b : Nat) (l : Bs) (w0 : World) (g : Nat) (x y : Nat) (w : World) : Prop where
  box : w.heap[g]? = some (.cells #[.float .f64 x, .float .f64 y] 61 (0, 0))
  buf : BufB B b l w
  tb : Tb w
  big : 22 < B
  le : B ≤ w.heap.size
  low : Below B w0 w
theorem Mid.step {B b : Nat} {l : Bs} {w0 w w' : World} {g x y : Nat} (h : Mid B b l w0 g x y w) (hb : Below w.heap.size w w') : Mid B b l w0 g x y w' where
  box := blk_below h.box hb
  buf := h.buf.old hb
  tb := h.tb.below hb (Nat.lt_of_lt_of_le h.big h.le)
  big := h.big
  le := Nat.le_trans h.le hb.size
  low := h.low.trans (hb.mono h.le)
theorem Mid.str {B b : Nat} {l : Bs} {w0 w : World} {g x y : Nat} (h : Mid B b l w0 g x y w) (s : Bs) (hl : l.length ≤ 1000000000) (hs : s.length ≤ 1000000000) :
    Calls Tryz.prog 95 #[.pointer (some ⟨b, 0, none⟩), S s] w fun e w' => ∃ y, e = .returned y ∧ (BufB B b (l ++ s) w' ∧ Below B w0 w') := by
  refine (buf_str s h.buf h.le hl hs).mono ?_
  rintro e w' ⟨v, he, h1, h2⟩
  exact ⟨v, he, h1, h.low.trans h2⟩
/-- Behind a comma. -/
theorem Mid.comma {B b : Nat} {l : Bs} {w0 w : World} {g x y : Nat} (h : Mid B b l w0 g x y w) (hg : g ≠ b) (hl : l.length ≤ 1000000000) :
    Calls Tryz.prog 98 #[.pointer (some ⟨b, 0, none⟩), .int .u8 44] w fun e w' => e = .returned .nilIface ∧ Mid B b (l ++ [44]) w0 g x y w' := by
  refine (buf_byte 44 44 rfl h.buf h.le hl).mono ?_
  rintro e w' ⟨he, h1, h2, h3⟩
  exact ⟨he, h3 _ _ h.box (by simpa using hg) (by rintro c fz h0; cases h0), h1, h.tb.below h2 h.big, h.big, Nat.le_trans h.le h2.size, h.low.trans h2⟩
theorem Mid.drew {B b : Nat} {l : Bs} {w0 w : World} {g x y : Nat} (h : Mid B b l w0 g x y w) : Mid B b l w0 g x y w.drew := h.step (below_drew w)
theorem Mid.num {nf : Nat → Bs} {q : Nat → Prop} (hN : NumF nf q) {B b : Nat} {l : Bs} {w0 w : World} {g x y : Nat} (h : Mid B b l w0 g x y w) (z : Nat) (hz : q z) :
    Calls Tryz.prog 96 #[.float .f64 z] w fun e w' => ∃ v, e = .returned v ∧ (v = S (nf z) ∧ Aside (Mid B b l w0 g x y w') ∧ w'.cell? ⟨g, 0, none⟩ = some (.float .f64 x) ∧ w'.cell? ⟨g, 1, none⟩ = some (.float .f64 y)) := by
  refine (hN.num z w hz h.tb (Nat.lt_of_lt_of_le h.big h.le)).mono ?_
  rintro e w' ⟨he, hb⟩
  have h' := h.step hb
  exact ⟨_, he, rfl, h', blk_cell h'.box 0, blk_cell h'.box 1⟩

set_option maxRecDepth 20000 in
set_option maxHeartbeats 2000000 in
/-- writeLineString. -/
theorem wls_any {nf : Nat → Bs} {q : Nat → Prop} (hN : NumF nf q) (w0 w : World) (b : Nat) (bs : Bs) (A : Option Addr) (c : Nat) (ps : List Pt) (hC : ptK.C w0 A ps.length ps) (hq : ∀ p ∈ ps, q p.1 ∧ q p.2)
    (hb : Below w0.heap.size w0 w) (hbuf : BufB w0.heap.size b bs w) (hT : Tb w0) (h22 : 22 < w0.heap.size) (hl : bs.length + 100 * (ps.length + 1) ≤ 1000000000) :
    Calls Tryz.prog 99 #[.pointer (some ⟨b, 0, none⟩), .slice A ps.length c] w fun e w' => e = .returned (.tuple #[]) ∧ BufB w0.heap.size b (bs ++ ptsT nf [] ps) w' ∧ Below w0.heap.size w0 w' := by
  have hle : w0.heap.size ≤ w.heap.size := hb.size
  have hc40 := buf_byte 40 40 rfl hbuf hle (by omega)
  have HB := Lib.hid hb
  clear hbuf hb
  go_enter Tryz.func99, Tryz.ntmps99
  go_wp2_with fail
  refine hc40.mono ?_
  clear hc40
  rintro e w1 ⟨rfl, hbuf1, hb1, -⟩
  have HB1 := Lib.hid (HB.out.trans hb1)
  have HU1 := Lib.hid hbuf1
  clear hbuf1 hb1
  go_wp2
  go_loopw [10] (fun v10 wr => ∃ j : Nat, v10 = .int .i64 j ∧ j ≤ ps.length ∧ BufB w0.heap.size b (bs ++ [40] ++ joinS [44] ((ps.take j).map (ptT nf))) wr ∧ Below w0.heap.size w0 wr) (fun v10 wr => ps.length - (intOf v10).toNat)
  case atStart => exact ⟨0, rfl, Nat.zero_le _, by simpa [joinS] using HU1.out, HB1.out⟩
  case round =>
    obtain ⟨j, rfl, hj, hbuf, hb⟩ := hrel
    by_cases hlt : j < ps.length
    · obtain ⟨ad, rfl, q0, q1⟩ := get_pt (Kd.C_below hC hb) rfl j hlt
      have hqj := hq ps[j] (List.getElem_mem hlt)
      have hsn := take_snoc hlt
      obtain ⟨x, hx⟩ : ∃ x, x = ps[j].1 := ⟨_, rfl⟩
      obtain ⟨y, hy⟩ : ∃ y, y = ps[j].2 := ⟨_, rfl⟩
      have hxy : ps[j] = (x, y) := by rw [hx, hy]
      rw [hxy] at hsn
      rw [← hx, ← hy] at hqj
      rw [← hx] at q0
      rw [← hy] at q1
      clear hx hy hxy
      have hlen : (bs ++ [40] ++ joinS [44] ((ps.take j).map (ptT nf))).length ≤ bs.length + 100 * j + 1 := by
        have := join_len [44] ((ps.take j).map (ptT nf))
        rw [List.map_map] at this
        have h2 := sum_le (l := ps.take j) (f := (fun x : Bs => x.length + [(44 : UInt8)].length) ∘ ptT nf) (g := fun _ => 100) fun p hp => by
          have h3 := hq p (List.mem_of_mem_take hp)
          have h4 := hN.short _ h3.1
          have h5 := hN.short _ h3.2
          simp only [Function.comp_def, ptT, List.length_append, List.length_cons, List.length_nil]
          omega
        rw [const_sum, List.length_take] at h2
        simp only [List.length_append, List.length_cons, List.length_nil]
        omega
      obtain ⟨l, hll⟩ : ∃ l, l = bs ++ [40] ++ joinS [44] ((ps.take j).map (ptT nf)) := ⟨_, rfl⟩
      rw [← hll] at hlen hbuf
      have HC := Lib.hid hC
      have HL := Lib.hid hll
      have HQ := Lib.hid hqj
      have HS := Lib.hid hsn
      have HU := Lib.hid hbuf
      have HB2 := Lib.hid hb
      have hszr := hb.size
      have hlast : (Aside (j = 0) ∧ ((j : Int) != 0) = false) ∨ (Aside (0 < j) ∧ ((j : Int) != 0) = true) := by
        rcases Nat.eq_zero_or_pos j with h | h
        · exact .inl ⟨h, by rw [h]; rfl⟩
        · exact .inr ⟨h, by simp; omega⟩
      clear hC hll hqj hsn hbuf hb hq
      rcases hlast with ⟨ha, h0⟩ | ⟨ha, h0⟩
      · go_wp2_with fail
        have hm : Mid w0.heap.size b l w0 wr.heap.size x y (wr.alloc (.cells #[.float .f64 x, .float .f64 y] 61)).drew :=
          Mid.drew ⟨blk_new _ _, HU.out.alloc _, hT.below (HB2.out.alloc hszr _) h22, h22, by simp; omega, HB2.out.alloc hszr _⟩
        have c1 := Mid.num hN hm x HQ.out.1
        have g1 := hN.short _ HQ.out.1
        have g2 := hN.short _ HQ.out.2
        have hs5 : (ptT nf (x, y)).length ≤ 1000000000 := by simp only [ptT, List.length_append, List.length_cons]; omega
        have k1 : (9223372036854775807 < (nf x).length) = False := by simp; omega
        have k2 : (9223372036854775807 < (nf x).length + 1) = False := by simp; omega
        have k3 : (9223372036854775807 < (nf x).length + 1 + (nf y).length) = False := by simp; omega
        have k4 : (9223372036854775807 < (nf x).length + ((nf y).length + 1)) = False := by simp; omega
        have e0 := blk_cell hm.box 0
        have e1 := blk_cell hm.box 1
        go_region_law (first
          | (refine step_call rfl 96 (.tmp 21) _ rfl call96 (.float .f64 x) (by simp [Act.eval, Act.put]) c1 ?_
             rintro v2 w2 ⟨rfl, hm2, hx2, hy2⟩)
          | (refine step_call rfl 96 (.tmp 26) _ rfl call96 (.float .f64 y) (by simp [Act.eval, Act.put]) (Mid.num hN hm2.out y HQ.out.2) ?_
             rintro v3 w3 ⟨rfl, hm3, hx3, hy3⟩)
          | (refine step_call2 rfl 95 (.tmp 19) (.tmp 29) _ rfl call95 _ (S (ptT nf (x, y))) (by simp [Act.eval, Act.put]) (by simp [Act.eval, Act.put, ptT]) (Mid.str hm3.out (ptT nf (x, y)) (by omega) hs5) ?_
             rintro v4 w4 ⟨hu4, hb4⟩
             have HU4 := Lib.hid hu4
             have HB4 := Lib.hid hb4
             clear hu4 hb4))
        all_goals go_wp2
        all_goals exact ⟨⟨j + 1, by go_num, by omega, by rw [HS.out, List.map_append]; show BufB _ _ (_ ++ joinS [44] (_ ++ [ptT nf (x, y)])) _; rw [joinS_snoc, if_pos (by rw [ha.out]; rfl)]; have h7 := HL.out; rw [ha.out] at h7; have h8 := HU4.out; rw [h7] at h8; simpa [joinS] using h8, HB4.out⟩, by simp [intOf]; omega⟩
      · go_wp2_with fail
        have hm0 : Mid w0.heap.size b l w0 wr.heap.size x y (wr.alloc (.cells #[.float .f64 x, .float .f64 y] 61)) :=
          ⟨blk_new _ _, HU.out.alloc _, hT.below (HB2.out.alloc hszr _) h22, h22, by simp; omega, HB2.out.alloc hszr _⟩
        have hgb : wr.heap.size ≠ b := Nat.ne_of_gt (Lib.IsBuffer.lt HU.out)
        refine (Mid.comma hm0 hgb (by omega)).mono ?_
        rintro e wc ⟨rfl, hmc⟩
        have HMC := Lib.hid hmc
        have p0 := blk_cell hmc.box 0
        have p1 := blk_cell hmc.box 1
        clear hm0 hmc
        go_wp2_with fail
        have hm := Mid.drew HMC.out
        have c1 := Mid.num hN hm x HQ.out.1
        have g1 := hN.short _ HQ.out.1
        have g2 := hN.short _ HQ.out.2
        have hs5 : (ptT nf (x, y)).length ≤ 1000000000 := by simp only [ptT, List.length_append, List.length_cons]; omega
        have k1 : (9223372036854775807 < (nf x).length) = False := by simp; omega
        have k2 : (9223372036854775807 < (nf x).length + 1) = False := by simp; omega
        have k3 : (9223372036854775807 < (nf x).length + 1 + (nf y).length) = False := by simp; omega
        have k4 : (9223372036854775807 < (nf x).length + ((nf y).length + 1)) = False := by simp; omega
        have e0 := blk_cell hm.box 0
        have e1 := blk_cell hm.box 1
        go_region_law (first
          | (refine step_call rfl 96 (.tmp 21) _ rfl call96 (.float .f64 x) (by simp [Act.eval, Act.put]) c1 ?_
             rintro v2 w2 ⟨rfl, hm2, hx2, hy2⟩)
          | (refine step_call rfl 96 (.tmp 26) _ rfl call96 (.float .f64 y) (by simp [Act.eval, Act.put]) (Mid.num hN hm2.out y HQ.out.2) ?_
             rintro v3 w3 ⟨rfl, hm3, hx3, hy3⟩)
          | (refine step_call2 rfl 95 (.tmp 19) (.tmp 29) _ rfl call95 _ (S (ptT nf (x, y))) (by simp [Act.eval, Act.put]) (by simp [Act.eval, Act.put, ptT]) (Mid.str hm3.out (ptT nf (x, y)) (by simp; omega) hs5) ?_
             rintro v4 w4 ⟨hu4, hb4⟩
             have HU4 := Lib.hid hu4
             have HB4 := Lib.hid hb4
             clear hu4 hb4))
        all_goals go_wp2
        all_goals exact ⟨⟨j + 1, by go_num, by omega, by rw [HS.out, List.map_append]; show BufB _ _ (_ ++ joinS [44] (_ ++ [ptT nf (x, y)])) _; rw [joinS_snoc, if_neg (by have := ha.out; intro h0; have h9 : ((ps.take j).map (ptT nf)).length = 0 := by { rw [h0]; rfl }; rw [List.length_map, List.length_take] at h9; omega)]; have h7 := HL.out; have h8 := HU4.out; rw [h7] at h8; simpa using h8, HB4.out⟩, by simp [intOf]; omega⟩
    · have e1 : ps.take j = ps := List.take_of_length_le (by omega)
      rw [e1] at hbuf
      have hlen : (bs ++ [40] ++ joinS [44] (ps.map (ptT nf))).length ≤ 1000000000 := by
        have := join_len [44] (ps.map (ptT nf))
        rw [List.map_map] at this
        have h2 := sum_le (l := ps) (f := (fun x : Bs => x.length + [(44 : UInt8)].length) ∘ ptT nf) (g := fun _ => 100) fun p hp => by
          have h3 := hq p hp
          have h4 := hN.short _ h3.1
          have h5 := hN.short _ h3.2
          simp only [Function.comp_def, ptT, List.length_append, List.length_cons, List.length_nil]
          omega
        rw [const_sum] at h2
        simp only [List.length_append, List.length_cons, List.length_nil]
        omega
      have hc41 := buf_byte 41 41 rfl hbuf hb.size hlen
      have HB2 := Lib.hid hb
      clear hbuf hb hlen hC hq e1
      go_wp2_with fail
      refine hc41.mono ?_
      clear hc41
      rintro e w2 ⟨rfl, hbuf2, hb2, -⟩
      have HU2 := Lib.hid hbuf2
      have HB3 := Lib.hid (HB2.out.trans hb2)
      clear hbuf2 hb2
      go_wp2
      go_end0
      exact ⟨rfl, by simpa [ptsT, br] using HU2.out, HB3.out⟩
/-! Walks: wkt, the kinds without a loop over rows. -/
@[go_sem] theorem as_65_72 (v : Value) (w : World) : (Instr.typeAssert (.iface 65 v) 52 72 true).run Tryz.prog w = .ok (.tuple #[.slice none 0 0, .bool false]) w := by kernel_rfl
@[go_sem] theorem as_69_72 (v : Value) (w : World) : (Instr.typeAssert (.iface 69 v) 52 72 true).run Tryz.prog w = .ok (.tuple #[.slice none 0 0, .bool false]) w := by kernel_rfl
@[go_sem] theorem as_69_76 (v : Value) (w : World) : (Instr.typeAssert (.iface 69 v) 52 76 true).run Tryz.prog w = .ok (.tuple #[.slice none 0 0, .bool false]) w := by kernel_rfl
@[go_sem] theorem as_69_117 (v : Value) (w : World) : (Instr.typeAssert (.iface 69 v) 52 117 true).run Tryz.prog w = .ok (.tuple #[.slice none 0 0, .bool false]) w := by kernel_rfl
@[go_sem] theorem as_80_117 (v : Value) (w : World) : (Instr.typeAssert (.iface 80 v) 52 117 true).run Tryz.prog w = .ok (.tuple #[.slice none 0 0, .bool false]) w := by kernel_rfl
@[go_sem] theorem as_84_117 (v : Value) (w : World) : (Instr.typeAssert (.iface 84 v) 52 117 true).run Tryz.prog w = .ok (.tuple #[.slice none 0 0, .bool false]) w := by kernel_rfl

@[go_sem] theorem conv_bytes (w : World) (C : Array Value) (n c : Nat) : (convert 92 92 (.slice (some ⟨w.heap.size, 0, none⟩) n c)).run Tryz.prog (w.alloc (.cells C 5)) = .ok (.slice (some ⟨w.heap.size, 0, none⟩) n c) (w.alloc (.cells C 5 (C.size, C.size + 1))) :=
  Lib.run_convert_bytes_const (P := Tryz.prog) w 92 5 C n c Tryz.underlying92 Tryz.underlying5
theorem buf_bytes {B b : Nat} {l : Bs} {w : World} (s : Bs) (g c : Nat) (fr : Nat × Nat) (h : BufB B b l w) (hB : B ≤ w.heap.size) (hgb : g ≠ b) (hg : w.heap[g]? = some (.cells (Lib.byteCells s).toArray 5 fr)) (hl : l.length ≤ 1000000000) (hs : s.length ≤ 1000) :
    Calls Tryz.prog 97 #[.pointer (some ⟨b, 0, none⟩), .slice (some ⟨g, 0, none⟩) s.length c] w fun e w' => ∃ y, e = .returned y ∧ BufB B b (l ++ s) w' ∧ Below B w w' := by
  refine (Tryz.Buffer_Write_any B b (Lib.byteCells l) (Lib.byteCells s) ⟨g, 0, none⟩ s.length c w h hB (Lib.byteCells_one l) (Lib.byteCells_length s) hgb ?_ (Lib.byteCells_one s) (by rw [Lib.byteCells_length]; omega)).mono ?_
  · intro j v hj
    have e1 : (⟨g, 0, none⟩ : Addr).add j = ⟨g, j, none⟩ := by unfold Addr.add; split <;> simp_all
    rw [e1]
    simp only [World.cell?, hg]
    simpa using hj
  · rintro e w' ⟨he, h1, h2, -⟩
    refine ⟨_, he, ?_, h2⟩
    show Lib.IsBuffer 123 5 B b (Lib.byteCells (l ++ s)) w'
    rw [Lib.byteCells_append]
    exact h1

theorem pre_join {α : Type} (f : α → Bs) (g : α → Nat) {l : List α} (h : ∀ a ∈ l, (f a).length + 1 ≤ g a) {j : Nat} (hj : j < l.length) : (joinS [44] ((l.take j).map f)).length + g l[j] ≤ (l.map g).sum := by
  have h1 := join_len [44] ((l.take j).map f)
  rw [List.map_map] at h1
  have h2 := sum_le (l := l.take j) (f := (fun x : Bs => x.length + [(44 : UInt8)].length) ∘ f) (g := g) fun a ha => by
    have := h a (List.mem_of_mem_take ha)
    simpa using this
  have h3 : (l.map g).sum = ((l.take j).map g).sum + ((l.drop j).map g).sum := by rw [← List.sum_append, ← List.map_append, List.take_append_drop]
  have h4 : (l.drop j).map g = g l[j] :: (l.drop (j + 1)).map g := by rw [List.drop_eq_getElem_cons hj, List.map_cons]
  rw [h4, List.sum_cons] at h3
  omega
theorem all_join {α : Type} (f : α → Bs) (g : α → Nat) {l : List α} (h : ∀ a ∈ l, (f a).length + 1 ≤ g a) : (joinS [44] (l.map f)).length ≤ (l.map g).sum := by
  have h1 := join_len [44] (l.map f)
  rw [List.map_map] at h1
  have h2 := sum_le (l := l) (f := (fun x : Bs => x.length + [(44 : UInt8)].length) ∘ f) (g := g) fun a ha => by
    have := h a ha
    simpa using this
  omega

/-- What wkt leaves: the text behind what was there. -/
def WkOk (w0 : World) (b : Nat) (bs t : Bs) (e : Ending) (w' : World) : Prop := e = .returned (.tuple #[]) ∧ BufB w0.heap.size b (bs ++ t) w' ∧ Below w0.heap.size w0 w'

set_option maxRecDepth 40000 in
set_option maxHeartbeats 2000000 in
theorem wk_line {nf : Nat → Bs} {q : Nat → Prop} (hN : NumF nf q) (w0 w : World) (b : Nat) (bs : Bs) (A : Option Addr) (c : Nat) (ps : List Pt) (hC : ptK.C w0 A ps.length ps) (h0 : ps ≠ []) (hq : ∀ p ∈ ps, q p.1 ∧ q p.2)
    (hb : Below w0.heap.size w0 w) (hbuf : BufB w0.heap.size b bs w) (hT : Tb w0) (h22 : 22 < w0.heap.size) (hl : bs.length + 100 * (ps.length + 1) ≤ 900000000) :
    Calls Tryz.prog 66 #[.pointer (some ⟨b, 0, none⟩), .iface 65 (.slice A ps.length c)] w fun e w' => WkOk w0 b bs (word 2 ++ ptsT nf [] ps) e w' := by
  have hn : ((ps.length : Int) == 0) = false := by
    rw [beq_eq_false_iff_ne]
    intro h
    exact h0 (List.eq_nil_of_length_eq_zero (by omega))
  have hszr := hb.size
  have HB := Lib.hid hb
  have HU := Lib.hid hbuf
  clear hb hbuf
  go_enter Tryz.func66, Tryz.ntmps66
  go_wp2_with fail
  have hw := buf_bytes (word 2) w.heap.size 10 (10, 11) (HU.out.alloc (.cells (Lib.byteCells (word 2)).toArray 5 (10, 11))) (by simp; omega) (Nat.ne_of_gt (Lib.IsBuffer.lt HU.out)) (blk_new _ _) (by omega) (by decide)
  refine hw.mono ?_
  clear hw
  rintro e w1 ⟨y1, rfl, hu1, hb1⟩
  have hB1 := (HB.out.alloc hszr (.cells (Lib.byteCells (word 2)).toArray 5 (10, 11))).trans hb1
  have hcall := wls_any hN w0 w1 b (bs ++ word 2) A c ps hC hq hB1 hu1 hT h22 (by simp [word]; omega)
  clear hu1 hb1 hB1
  go_wp2_with fail
  refine hcall.mono ?_
  clear hcall
  rintro e w2 ⟨rfl, hu2, hb2⟩
  have HU2 := Lib.hid hu2
  have HB2 := Lib.hid hb2
  clear hu2 hb2
  go_wp2
  go_end0
  exact ⟨rfl, by simpa using HU2.out, HB2.out⟩
/-! Walks: wkt, the empty kinds and the kinds with loops over rows. -/
theorem buf_lit {B b : Nat} {l : Bs} {W : World} (s : Bs) (C : Array Value) (n c : Nat) (fr : Nat × Nat) (h : BufB B b l W) (hB : B ≤ W.heap.size) (hn : n = s.length) (hC : C = (Lib.byteCells s).toArray) (hl : l.length ≤ 1000000000) (hs : s.length ≤ 1000) :
    Calls Tryz.prog 97 #[.pointer (some ⟨b, 0, none⟩), .slice (some ⟨W.heap.size, 0, none⟩) n c] (W.alloc (.cells C 5 fr)) fun e w' => ∃ y, e = .returned y ∧ BufB B b (l ++ s) w' ∧ Below B W w' := by
  subst hn hC
  refine (buf_bytes s W.heap.size c fr (h.alloc _) (by simp; omega) (Nat.ne_of_gt (Lib.IsBuffer.lt h)) (blk_new _ _) hl hs).mono ?_
  rintro e w' ⟨y, he, h1, h2⟩
  exact ⟨y, he, h1, ((Below.refl B W).alloc hB _).trans h2⟩
theorem cell_lt' {w : World} {a : Addr} {v : Value} (h : w.cell? a = some v) : a.block < w.heap.size := by
  rcases Nat.lt_or_ge a.block w.heap.size with h' | h'
  · exact h'
  · simp [World.cell?, Array.getElem?_eq_none h'] at h
theorem cell_kept {w w' : World} {a : Addr} {v : Value} (h : w.cell? a = some v) (hb : Below w.heap.size w w') : w'.cell? a = some v := cell_below h hb (cell_lt' h)

set_option maxRecDepth 40000 in
set_option maxHeartbeats 2000000 in
theorem wk_empty_2 (w0 w : World) (b : Nat) (bs : Bs) (A : Option Addr) (c : Nat)
    (hb : Below w0.heap.size w0 w) (hbuf : BufB w0.heap.size b bs w) (hl : bs.length ≤ 900000000) :
    Calls Tryz.prog 66 #[.pointer (some ⟨b, 0, none⟩), .iface 65 (.slice A 0 c)] w fun e w' => WkOk w0 b bs (word 2 ++ emptyW) e w' := by
  have hszr := hb.size
  have HB := Lib.hid hb
  have HU := Lib.hid hbuf
  clear hb hbuf
  go_enter Tryz.func66, Tryz.ntmps66
  go_wp2_with fail
  refine (buf_lit (word 2 ++ emptyW) _ _ _ _ HU.out hszr (by rfl) (by kernel_rfl) (by omega) (by decide)).mono ?_
  rintro e w1 ⟨y1, rfl, hu1, hb1⟩
  have HU1 := Lib.hid hu1
  have HB1 := Lib.hid (HB.out.trans hb1)
  clear hu1 hb1
  go_wp2
  ((try simp only [Exit.inBlock, Exit.then]); refine bodyPost_ret (results_none rfl _ _ _) rfl ?_)
  exact ⟨rfl, HU1.out, HB1.out⟩

set_option maxRecDepth 40000 in
set_option maxHeartbeats 2000000 in
theorem wk_empty_3 (w0 w : World) (b : Nat) (bs : Bs) (A : Option Addr) (c : Nat)
    (hb : Below w0.heap.size w0 w) (hbuf : BufB w0.heap.size b bs w) (hl : bs.length ≤ 900000000) :
    Calls Tryz.prog 66 #[.pointer (some ⟨b, 0, none⟩), .iface 69 (.slice A 0 c)] w fun e w' => WkOk w0 b bs (word 3 ++ emptyW) e w' := by
  have hszr := hb.size
  have HB := Lib.hid hb
  have HU := Lib.hid hbuf
  clear hb hbuf
  go_enter Tryz.func66, Tryz.ntmps66
  go_wp2_with fail
  refine (buf_lit (word 3 ++ emptyW) _ _ _ _ HU.out hszr (by rfl) (by kernel_rfl) (by omega) (by decide)).mono ?_
  rintro e w1 ⟨y1, rfl, hu1, hb1⟩
  have HU1 := Lib.hid hu1
  have HB1 := Lib.hid (HB.out.trans hb1)
  clear hu1 hb1
  go_wp2
  ((try simp only [Exit.inBlock, Exit.then]); refine bodyPost_ret (results_none rfl _ _ _) rfl ?_)
  exact ⟨rfl, HU1.out, HB1.out⟩

set_option maxRecDepth 40000 in
set_option maxHeartbeats 2000000 in
theorem wk_empty_4 (w0 w : World) (b : Nat) (bs : Bs) (A : Option Addr) (c : Nat)
    (hb : Below w0.heap.size w0 w) (hbuf : BufB w0.heap.size b bs w) (hl : bs.length ≤ 900000000) :
    Calls Tryz.prog 66 #[.pointer (some ⟨b, 0, none⟩), .iface 72 (.slice A 0 c)] w fun e w' => WkOk w0 b bs (word 4 ++ emptyW) e w' := by
  have hszr := hb.size
  have HB := Lib.hid hb
  have HU := Lib.hid hbuf
  clear hb hbuf
  go_enter Tryz.func66, Tryz.ntmps66
  go_wp2_with fail
  refine (buf_lit (word 4 ++ emptyW) _ _ _ _ HU.out hszr (by rfl) (by kernel_rfl) (by omega) (by decide)).mono ?_
  rintro e w1 ⟨y1, rfl, hu1, hb1⟩
  have HU1 := Lib.hid hu1
  have HB1 := Lib.hid (HB.out.trans hb1)
  clear hu1 hb1
  go_wp2
  ((try simp only [Exit.inBlock, Exit.then]); refine bodyPost_ret (results_none rfl _ _ _) rfl ?_)
  exact ⟨rfl, HU1.out, HB1.out⟩

set_option maxRecDepth 40000 in
set_option maxHeartbeats 2000000 in
theorem wk_empty_5 (w0 w : World) (b : Nat) (bs : Bs) (A : Option Addr) (c : Nat)
    (hb : Below w0.heap.size w0 w) (hbuf : BufB w0.heap.size b bs w) (hl : bs.length ≤ 900000000) :
    Calls Tryz.prog 66 #[.pointer (some ⟨b, 0, none⟩), .iface 76 (.slice A 0 c)] w fun e w' => WkOk w0 b bs (word 5 ++ emptyW) e w' := by
  have hszr := hb.size
  have HB := Lib.hid hb
  have HU := Lib.hid hbuf
  clear hb hbuf
  go_enter Tryz.func66, Tryz.ntmps66
  go_wp2_with fail
  refine (buf_lit (word 5 ++ emptyW) _ _ _ _ HU.out hszr (by rfl) (by kernel_rfl) (by omega) (by decide)).mono ?_
  rintro e w1 ⟨y1, rfl, hu1, hb1⟩
  have HU1 := Lib.hid hu1
  have HB1 := Lib.hid (HB.out.trans hb1)
  clear hu1 hb1
  go_wp2
  ((try simp only [Exit.inBlock, Exit.then]); refine bodyPost_ret (results_none rfl _ _ _) rfl ?_)
  exact ⟨rfl, HU1.out, HB1.out⟩

set_option maxRecDepth 40000 in
set_option maxHeartbeats 2000000 in
theorem wk_empty_6 (w0 w : World) (b : Nat) (bs : Bs) (A : Option Addr) (c : Nat)
    (hb : Below w0.heap.size w0 w) (hbuf : BufB w0.heap.size b bs w) (hl : bs.length ≤ 900000000) :
    Calls Tryz.prog 66 #[.pointer (some ⟨b, 0, none⟩), .iface 80 (.slice A 0 c)] w fun e w' => WkOk w0 b bs (word 6 ++ emptyW) e w' := by
  have hszr := hb.size
  have HB := Lib.hid hb
  have HU := Lib.hid hbuf
  clear hb hbuf
  go_enter Tryz.func66, Tryz.ntmps66
  go_wp2_with fail
  refine (buf_lit (word 6 ++ emptyW) _ _ _ _ HU.out hszr (by rfl) (by kernel_rfl) (by omega) (by decide)).mono ?_
  rintro e w1 ⟨y1, rfl, hu1, hb1⟩
  have HU1 := Lib.hid hu1
  have HB1 := Lib.hid (HB.out.trans hb1)
  clear hu1 hb1
  go_wp2
  ((try simp only [Exit.inBlock, Exit.then]); refine bodyPost_ret (results_none rfl _ _ _) rfl ?_)
  exact ⟨rfl, HU1.out, HB1.out⟩

set_option maxRecDepth 40000 in
set_option maxHeartbeats 2000000 in
theorem wk_empty_7 (w0 w : World) (b : Nat) (bs : Bs) (A : Option Addr) (c : Nat)
    (hb : Below w0.heap.size w0 w) (hbuf : BufB w0.heap.size b bs w) (hl : bs.length ≤ 900000000) :
    Calls Tryz.prog 66 #[.pointer (some ⟨b, 0, none⟩), .iface 84 (.slice A 0 c)] w fun e w' => WkOk w0 b bs (word 7 ++ emptyW) e w' := by
  have hszr := hb.size
  have HB := Lib.hid hb
  have HU := Lib.hid hbuf
  clear hb hbuf
  go_enter Tryz.func66, Tryz.ntmps66
  go_wp2_with fail
  refine (buf_lit (word 7 ++ emptyW) _ _ _ _ HU.out hszr (by rfl) (by kernel_rfl) (by omega) (by decide)).mono ?_
  rintro e w1 ⟨y1, rfl, hu1, hb1⟩
  have HU1 := Lib.hid hu1
  have HB1 := Lib.hid (HB.out.trans hb1)
  clear hu1 hb1
  go_wp2
  ((try simp only [Exit.inBlock, Exit.then]); refine bodyPost_ret (results_none rfl _ _ _) rfl ?_)
  exact ⟨rfl, HU1.out, HB1.out⟩
end Go.Proofs.YtghajgdiaopioaaGreatDoor
end
