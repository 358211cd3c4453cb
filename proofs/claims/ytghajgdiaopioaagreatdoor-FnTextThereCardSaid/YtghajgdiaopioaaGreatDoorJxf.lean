/- Walks and plain laws joined (Qa, Qb, Qd, Qc, Ka). Conditions: stand in each law. -/
import Derived.Test.YtghajgdiaopioaaGreatDoorJxe
import Derived.ChangeArms
import Derived.DataElems
import Derived.DataReads
import Derived.Test.YtghajgdiaopioaaGreatDoorRows
import Derived.Lib.LaidTab
import Derived.OpenShut
import Derived.MakeChecks
import Derived.KernelRfl
import Derived.Carry
import Derived.Below
import Derived.ChangeSame
import Derived.ChangeBook
import Derived.ChangeStays
import Derived.Lib.SmallJoins
import Derived.LaidMore
import Derived.Deep.Strs
import Derived.Deep.DeepHandedRow
import Derived.WalkKit
import Derived.ProofKit
import Derived.Lay
set_option linter.unusedVariables false
set_option linter.unusedSimpArgs false
section
/- The argument of the statements, read as a shape. Conditions: stand in each law. -/
namespace Go.Proofs.YtghajgdiaopioaaGreatDoor
open Go.RowKit Go.Proofs Tx
open Go.Proofs.YtghajgdiaopioaaGreatDoorW.PrintWords
set_option maxRecDepth 20000
section
variable {H : Type} {enc : TypeId × Value → H} {w : World} {spare : Nat → Bool} {held : Bool}
theorem trod_float' {P : Program} {t : TypeId} {k : FloatKind} {fuel : Nat} {cs : List Value} {x : DataW H × List MemPlace} (ht : P.underlying t = some (.float k)) (h : DataW.trod enc P w 0 spare held fuel t cs = some x) : ∃ b, cs = [.float k b] ∧ x = (.lit (.float k b), []) ∧ (Lit.float k b).wf = true := by
  cases fuel with
  | zero => simp [DataW.trod] at h
  | succ n =>
    unfold DataW.trod at h
    rw [ht] at h
    split at h <;> simp_all
theorem trod_f64 {fuel : Nat} {cs : List Value} {x : DataW H × List MemPlace} (h : DataW.trod enc Tryz.prog w 0 spare held fuel 47 cs = some x) : ∃ b, cs = [.float .f64 b] ∧ b < 18446744073709551616 := by
  obtain ⟨b, h1, -, h2⟩ := trod_float' Tryz.underlying47 h
  exact ⟨b, h1, Nat.lt_of_lt_of_eq (of_decide_eq_true h2) (by decide)⟩
theorem list_of {α : Type} {Q : Nat → α → Prop} : ∀ n : Nat, (∀ i, i < n → ∃ x, Q i x) → ∃ l : List α, l.length = n ∧ ∀ i x, l[i]? = some x → Q i x
  | 0, _ => ⟨[], rfl, fun i x h => by simp at h⟩
  | n + 1, h => by
    obtain ⟨l, hl, hQ⟩ := list_of n fun i hi => h i (by omega)
    obtain ⟨x, hx⟩ := h n (by omega)
    refine ⟨l ++ [x], by simp [hl], fun i y hy => ?_⟩
    rcases Nat.lt_or_ge i l.length with hi | hi
    · rw [List.getElem?_append_left hi] at hy
      exact hQ i y hy
    · rw [List.getElem?_append_right hi] at hy
      have h0 : i - l.length = 0 := by
        rcases Nat.eq_zero_or_pos (i - l.length) with h | h
        · exact h
        · rw [List.getElem?_eq_none (by simp; omega)] at hy; cases hy
      rw [h0] at hy
      simp only [List.getElem?_cons_zero, Option.some.injEq] at hy
      subst hy
      have e : i = n := by omega
      rw [e]
      exact hx
/-- Every weight in it is bearable. -/
def Wk (t : TypeId) (d : DataW H) : Prop := ∀ x ∈ d.weights Tryz.prog t, x ≤ reachBytes
theorem weightsAll_mem {e : TypeId} {d : DataW H} {x : Nat} : ∀ {l : List (DataW H)}, d ∈ l → x ∈ d.weights Tryz.prog e → x ∈ DataW.weightsAll Tryz.prog e l
  | [], h, _ => by cases h
  | a :: l, h, hx => by
    rw [DataW.weightsAll]
    rcases List.mem_cons.1 h with rfl | h
    · exact List.mem_append_left _ hx
    · exact List.mem_append_right _ (weightsAll_mem h hx)
/-- A slice whose elements can be read. -/
theorem rd_slice {α : Type} (dK : Kd α) (Px : α → Prop) {t e : TypeId} {n : Nat} (hu : Tryz.prog.underlying t = some (.slice e)) (hsz : Tryz.prog.cellsOf e = dK.sz)
    (hel : ∀ cs d ps, DataW.trod enc Tryz.prog w 0 spare held n e cs = some (d, ps) → Wk e d → ∃ x, dK.K w x cs ∧ Px x)
    {cs : List Value} {d : DataW H} {ps : List MemPlace} (h : DataW.trod enc Tryz.prog w 0 spare held (n + 1) t cs = some (d, ps)) (hw : Wk t d) :
    ∃ A c l, cs = [.slice A l.length c] ∧ l.length ≤ c ∧ dK.C w A l.length l ∧ (∀ x ∈ l, Px x) ∧ l.length * Tryz.prog.bytesOf e ≤ reachBytes := by
  rcases DataW.trod_slice hu h with ⟨rfl, -⟩ | ⟨a, len, cap, elems, rest, m, hm, rfl, hx, -, hlc, hcm, hel2, hget, -, -⟩
  · exact ⟨none, 0, [], rfl, Nat.le_refl _, C_nil _ _ _, (fun _ h => by cases h), by rw [List.length_nil, Nat.zero_mul]; exact Nat.zero_le _⟩
  · obtain rfl : n = m := by omega
    obtain ⟨rfl, -⟩ := Prod.mk.inj hx
    have hwl : (elems.length + rest.length) * Tryz.prog.bytesOf e ≤ reachBytes := hw _ (by simp only [DataW.weights, hu, List.length_map]; exact List.mem_cons_self ..)
    have hone : ∀ i, i < len → ∃ x, (∃ ci, w.cells? 0 (a.add (i * dK.sz)) dK.sz = some ci ∧ dK.K w x ci) ∧ Px x := by
      intro i hi
      have hg := hget i hi
      rw [hsz, List.getElem?_eq_getElem (by omega)] at hg
      obtain ⟨ci, hci, hti⟩ := Option.bind_eq_some_iff.1 hg
      obtain ⟨x, hx, hp⟩ := hel ci elems[i].1 elems[i].2 hti (fun y hy => hw y (by
        simp only [DataW.weights, hu]
        refine List.mem_cons_of_mem _ (List.mem_append_left _ (weightsAll_mem (d := elems[i].1) ?_ hy))
        exact List.mem_map_of_mem (List.getElem_mem _)))
      exact ⟨x, ⟨ci, hci, hx⟩, hp⟩
    obtain ⟨l, hl, hQ⟩ := list_of len hone
    subst hl
    refine ⟨some a, cap, l, rfl, hlc, ⟨rfl, by unfold maxLen at hcm; omega, fun _ => ⟨a, rfl, fun j p hj => ?_⟩⟩, fun x hx => ?_, ?_⟩
    · obtain ⟨⟨ci, hci, hk⟩, -⟩ := hQ j p hj
      refine ⟨ci, dK.K_len hk, hk, fun i u hi => ?_⟩
      obtain ⟨-, hlci, hcc⟩ := World.cells?_some hci
      have hlt : i < dK.sz := by
        rcases Nat.lt_or_ge i ci.length with h | h
        · omega
        · rw [List.getElem?_eq_none h] at hi; cases hi
      rw [← Addr.add_add, hcc i hlt]
      exact hi
    · obtain ⟨j, hj⟩ := List.mem_iff_getElem?.1 hx
      exact (hQ j x hj).2
    · refine Nat.le_trans (Nat.mul_le_mul_right _ ?_) hwl
      omega
theorem rd_pt {fuel : Nat} {cs : List Value} {d : DataW H} {ps : List MemPlace} (h : DataW.trod enc Tryz.prog w 0 spare held fuel 49 cs = some (d, ps)) : ∃ p : Pt, ptK.K w p cs ∧ F64 p.1 ∧ F64 p.2 := by
  obtain ⟨xs, n, -, -, hl, hlen, hf⟩ := DataW.trod_struct Tryz.underlying49 h
  have hc49 : Tryz.prog.cellsOf 49 = 2 := by kernel_rfl
  have hc47 : Tryz.prog.cellsOf 47 = 1 := by kernel_rfl
  rw [hc49] at hl
  match xs, hlen with
  | [y0, y1], _ =>
    have h0 : DataW.trod enc Tryz.prog w 0 spare held n 47 (List.take (Tryz.prog.cellsOf 47) (List.drop 0 cs)) = some y0 := hf 0 _ rfl
    have h1 : DataW.trod enc Tryz.prog w 0 spare held n 47 (List.take (Tryz.prog.cellsOf 47) (List.drop 1 cs)) = some y1 := hf 1 _ rfl
    rw [hc47] at h0 h1
    obtain ⟨b0, e0, l0⟩ := trod_f64 h0
    obtain ⟨b1, e1, l1⟩ := trod_f64 h1
    match cs, hl with
    | [c0, c1], _ =>
      simp only [List.drop_zero, List.take_succ_cons, List.take_zero, List.cons.injEq, and_true] at e0
      simp only [List.drop_succ_cons, List.drop_zero, List.take_succ_cons, List.take_zero, List.cons.injEq, and_true] at e1
      subst e0 e1
      exact ⟨(b0, b1), ⟨[_], [_], rfl, rfl, rfl⟩, l0, l1⟩
theorem rd_pts {n : Nat} {cs : List Value} {d : DataW H} {ps : List MemPlace} (h : DataW.trod enc Tryz.prog w 0 spare held n 27 cs = some (d, ps)) (hw : Wk 27 d) :
    ∃ l : List Pt, rowK.K w l cs ∧ (∀ p ∈ l, F64 p.1 ∧ F64 p.2) ∧ l.length ≤ 17592186044416 := by
  cases n with
  | zero => simp [DataW.trod] at h
  | succ n =>
    obtain ⟨A, c, l, e, hc, hC, hp, hb⟩ := rd_slice ptK (fun p : Pt => F64 p.1 ∧ F64 p.2) Tryz.underlying27 (by kernel_rfl) (fun cs d ps h _ => rd_pt h) h hw
    have hby : Tryz.prog.bytesOf 49 = 16 := by kernel_rfl
    rw [hby] at hb
    exact ⟨l, ⟨A, c, e, hc, hC⟩, hp, by unfold reachBytes at hb; omega⟩
theorem weightsEach3 {t0 t1 t2 : TypeId} {d0 d1 d2 : DataW H} : DataW.weightsEach Tryz.prog [t0, t1, t2] [d0, d1, d2] = d0.weights Tryz.prog t0 ++ (d1.weights Tryz.prog t1 ++ (d2.weights Tryz.prog t2 ++ [])) := by
  simp only [DataW.weightsEach]
theorem LenS.mk {s : Sh} (h1 : ∀ l ∈ s.lists, l.length ≤ 17592186044416) (h2 : ∀ p ∈ s.parts, LenS p) : LenS s := by
  cases s with | mk k ls ps => exact ⟨h1, (LenSs_iff _).2 h2⟩
theorem rd_sh : ∀ (n : Nat) (cs : List Value) (d : DataW H) (ps : List MemPlace), DataW.trod enc Tryz.prog w 0 spare held n 25 cs = some (d, ps) → Wk 25 d → ∃ s : Sh, (shK (n / 2)).K w s cs ∧ LenS s ∧ AllS F64 s
  | 0, cs, d, ps, h, _ => by simp [DataW.trod] at h
  | 1, cs, d, ps, h, _ => by
    obtain ⟨xs, m, hm, -, hl, hlen, hf⟩ := DataW.trod_struct Tryz.underlying25 h
    obtain rfl : m = 0 := by omega
    match xs, hlen with
    | [y0, y1, y2], _ =>
      have h0 : DataW.trod enc Tryz.prog w 0 spare held 0 3 (List.take (Tryz.prog.cellsOf 3) (List.drop 0 cs)) = some y0 := hf 0 _ rfl
      simp [DataW.trod] at h0
  | n + 2, cs, d, ps, h, hw => by
    obtain ⟨xs, m, hm, hx, hl, hlen, hf⟩ := DataW.trod_struct Tryz.underlying25 h
    obtain rfl : m = n + 1 := by omega
    have hc25 : Tryz.prog.cellsOf 25 = 3 := by kernel_rfl
    have hc3 : Tryz.prog.cellsOf 3 = 1 := by kernel_rfl
    have hc22 : Tryz.prog.cellsOf 22 = 1 := by kernel_rfl
    have hc23 : Tryz.prog.cellsOf 23 = 1 := by kernel_rfl
    rw [hc25] at hl
    match xs, hlen with
    | [y0, y1, y2], _ =>
      have h0 : DataW.trod enc Tryz.prog w 0 spare held (n + 1) 3 (List.take (Tryz.prog.cellsOf 3) (List.drop 0 cs)) = some y0 := hf 0 _ rfl
      have h1 : DataW.trod enc Tryz.prog w 0 spare held (n + 1) 22 (List.take (Tryz.prog.cellsOf 22) (List.drop 1 cs)) = some y1 := hf 1 _ rfl
      have h2 : DataW.trod enc Tryz.prog w 0 spare held (n + 1) 23 (List.take (Tryz.prog.cellsOf 23) (List.drop 2 cs)) = some y2 := hf 2 _ rfl
      rw [hc3] at h0
      rw [hc22] at h1
      rw [hc23] at h2
      obtain ⟨rfl, -⟩ := Prod.mk.inj hx
      have hwe : ∀ x ∈ DataW.weightsEach Tryz.prog [3, 22, 23] [y0.1, y1.1, y2.1], x ≤ reachBytes := fun x hx => hw x (by simp only [DataW.weights, Tryz.underlying25]; exact hx)
      rw [weightsEach3] at hwe
      obtain ⟨k, e0, -, -⟩ := DataW.trod_int Tryz.underlying3 h0
      obtain ⟨A, c, ls, e1, hcl, hC, hp, -⟩ := rd_slice rowK (fun l : List Pt => (∀ p ∈ l, F64 p.1 ∧ F64 p.2) ∧ l.length ≤ 17592186044416) Tryz.underlying22 (by kernel_rfl) (fun cs d ps h hw => rd_pts h hw) h1 (fun x hx => hwe x (List.mem_append_right _ (List.mem_append_left _ hx)))
      obtain ⟨A', c', qs, e2, hcl', hC', hp', -⟩ := rd_slice (shK (n / 2)) (fun s : Sh => LenS s ∧ AllS F64 s) Tryz.underlying23 (by rw [shK_sz]; kernel_rfl) (fun cs d ps h hw => rd_sh n cs d ps h hw) h2 (fun x hx => hwe x (List.mem_append_right _ (List.mem_append_right _ (List.mem_append_left _ hx))))
      match cs, hl with
      | [c0, c1, c2], _ =>
        simp only [List.drop_zero, List.take_succ_cons, List.take_zero, List.cons.injEq, and_true] at e0
        simp only [List.drop_succ_cons, List.drop_zero, List.take_succ_cons, List.take_zero, List.cons.injEq, and_true] at e1 e2
        subst e0 e1 e2
        refine ⟨.mk k ls qs, ?_, LenS.mk (fun l hl => (hp l hl).2) (fun p hp2 => (hp' p hp2).1), AllS.mk (fun l hl => (hp l hl).1) (fun p hp2 => (hp' p hp2).2)⟩
        rw [show (n + 2) / 2 = n / 2 + 1 by omega]
        exact ⟨[.int .i64 k], [_, _], rfl, rfl, [_], [_], rfl, ⟨A, c, rfl, hcl, hC⟩, ⟨A', c', rfl, hcl', hC'⟩⟩
end
end Go.Proofs.YtghajgdiaopioaaGreatDoor
end
section
/- What the rows' lists of variables give: the cells of the listed variables. Conditions: stand in each law. -/
namespace Go.Proofs.YtghajgdiaopioaaGreatDoor
open Go.Proofs
theorem laid_mem {P : Program} {w : World} : ∀ {l : List (String × DataW Unit)} {ps : List MemPlace}, DataW.LaidVars P w l ps → ∀ {n : String} {d : DataW Unit}, (n, d) ∈ l →
    ∃ g t cs fuel p, P.globalNamed n = some g ∧ (P.globals[g]?).map (·.type) = some t ∧ w.var? P n = some cs ∧ DataW.trod (fun _ => ()) P w 0 (fun _ => true) false fuel t cs.toList = some (d, p)
  | [], _, _, _, _, h => by cases h
  | (m, e) :: r, ps, h, n, d, hm => by
    obtain ⟨g, t, cs, fuel, p, q, h1, h2, h3, h4, hr, -⟩ := h
    rcases List.mem_cons.1 hm with hm | hm
    · obtain ⟨rfl, rfl⟩ := Prod.mk.inj hm
      exact ⟨g, t, cs, fuel, p, h1, h2, h3, h4⟩
    · exact laid_mem hr hm
/-- A listed variable: its block's cells, and what they read as. -/
theorem laid_var {P : Program} {w : World} {l : List (String × DataW Unit)} (h : laidMetH P l w) (hp : (l.all fun x => x.2.handleName?.isNone) = true) {n : String} {d : DataW Unit} (hm : (n, d) ∈ l) {g : Nat} {t : TypeId} (hg : P.globalNamed n = some g) (ht : (P.globals[g]?).map (·.type) = some t) :
    ∃ cs fuel p, g < w.heap.size ∧ (∀ i, w.cell? ⟨g, i, none⟩ = cs[i]?) ∧ w.var? P n = some cs ∧ DataW.trod (fun _ => ()) P w 0 (fun _ => true) false fuel t cs.toList = some (d, p) := by
  rw [Go.MakeChecks.laidMetH_plain P l w hp] at h
  obtain ⟨ps, hl, -, -⟩ := h
  obtain ⟨g', t', cs, fuel, p, h1, h2, h3, h4⟩ := laid_mem hl hm
  obtain rfl : g' = g := Option.some.inj (h1.symm.trans hg)
  obtain rfl : t' = t := Option.some.inj (h2.symm.trans ht)
  have h5 := h3
  unfold World.var? at h5
  rw [hg] at h5
  simp only [Option.bind_some] at h5
  refine ⟨cs, fuel, p, ?_, fun i => ?_, h3, h4⟩
  · rcases Nat.lt_or_ge g' w.heap.size with h | h
    · exact h
    · rw [Array.getElem?_eq_none h] at h5; cases h5
  · unfold World.cell?
    generalize w.heap[g']? = o at h5 ⊢
    revert h5
    rcases o with _ | o
    · intro h5; cases h5
    · cases o <;> intro h5 <;> simp_all
section
variable {P : Program} {w : World} {spare : Nat → Bool} {held : Bool} {H : Type} {enc : TypeId × Value → H}
theorem trod_iface' {t : TypeId} {ms : Array (String × TypeId)} {fuel : Nat} {cs : List Value} {nm : String} {d : DataW H} {p : List MemPlace} (ht : (∃ ms, P.underlying t = some (.interface ms))) (h : DataW.trod enc P w 0 spare held fuel t cs = some (.iface nm d, p)) : ∃ u v, cs = [.iface u v] := by
  obtain ⟨ms, ht⟩ := ht
  cases fuel with
  | zero => simp [DataW.trod] at h
  | succ n =>
    unfold DataW.trod at h
    rw [ht] at h
    split at h <;> simp_all
theorem pairs_cells {t e : TypeId} {n fuel : Nat} {cs : List Value} {rows : List (Nat × Nat)} {p : List MemPlace} {f0 f1 : Field} (ht : P.underlying t = some (.array n e)) (he : P.underlying e = some (.struct #[f0, f1])) (hc : P.cellsOf e = 2)
    (h0 : P.underlying f0.type = some (.int .u64)) (h1 : P.underlying f1.type = some (.int .u64)) (o0 : f0.offset = 0) (o1 : f1.offset = 1) (c0 : P.cellsOf f0.type = 1) (c1 : P.cellsOf f1.type = 1)
    (h : DataW.trod enc P w 0 spare held fuel t cs = some (DataW.agg (rows.map fun x => (DataW.agg [.lit (.int .u64 x.1), .lit (.int .u64 x.2)] : DataW H)), p)) :
    ∀ (k : Nat) (x : Nat × Nat), rows[k]? = some x → cs[k * 2]? = some (.int .u64 x.1) ∧ cs[k * 2 + 1]? = some (.int .u64 x.2) := by
  obtain ⟨xs, m, -, hx, -, hlen, hf⟩ := DataW.trod_array ht h
  obtain ⟨hxs, -⟩ := Prod.mk.inj hx
  injection hxs with hxs
  intro k x hk
  have hkl : k < rows.length := (List.getElem?_eq_some_iff.1 hk).1
  have hkn : k < n := by
    have := congrArg List.length hxs
    simp at this
    omega
  have e1 := hf k hkn
  have e2 : (xs.map (·.1))[k]? = some (DataW.agg [.lit (.int .u64 x.1), .lit (.int .u64 x.2)]) := by rw [← hxs]; simp [hk]
  rw [List.getElem?_map, Option.map_eq_some_iff] at e2
  obtain ⟨y, hy, hyb⟩ := e2
  rw [hy, hc] at e1
  obtain ⟨ys, m2, -, hys, hl2, hlen2, hg⟩ := DataW.trod_struct he e1
  match ys, hlen2 with
  | [y0, y1], _ =>
    have g0 := hg 0 f0 rfl
    have g1 := hg 1 f1 rfl
    rw [o0, c0] at g0
    rw [o1, c1] at g1
    obtain ⟨n0, k0, v0, -⟩ := DataW.trod_int h0 g0
    obtain ⟨n1, k1, v1, -⟩ := DataW.trod_int h1 g1
    rw [hys] at hyb
    simp only [v0, v1, List.map_cons, List.map_nil, DataW.agg.injEq, List.cons.injEq, DataW.lit.injEq, Lit.int.injEq, true_and, and_true] at hyb
    obtain ⟨rfl, rfl⟩ := hyb
    have d0 := congrArg (·[0]?) k0
    have d1 := congrArg (·[0]?) k1
    simp [List.getElem?_take, List.getElem?_drop] at d0 d1
    exact ⟨d0, d1⟩
end
end Go.Proofs.YtghajgdiaopioaaGreatDoor
end
section
/- A call that leaves every old block as it stood: what the rows' statements ask behind it. Conditions: stand in each law. -/
namespace Go.Proofs.YtghajgdiaopioaaGreatDoor
open Go.RowKit Go.ChangeShapes Go.WideShapes
section
variable {H : Type} {enc : TypeId × Value → H} {P : Program} {W W' : World}
/-- A type that a reading is carried over by. -/
def Rdb (P : Program) (t : TypeId) : Prop := P.readableRec t = true ∧ t < P.types.size
theorem trod_low {t : TypeId} (hl : laidOutB P = true) (hr : Rdb P t) {n : Nat} {cs : List Value} {x : DataW H × List MemPlace} (h : DataW.trod enc P W 0 (fun _ => true) true n t cs = some x) (hb : Below W.heap.size W W') (hlt : ∀ p ∈ x.2, p.block < W.heap.size) {sp : Nat → Bool} (hs : ∀ p ∈ x.2, sp p.block = true) :
    DataW.trod enc P W' 0 sp true n t cs = some x :=
  DataW.trod_stays (Go.kids_book hl hr.1) (Go.book_sized hr.1) (fun h => by cases h) ⟨hr.2, Go.book_self t⟩ h (fun p hp => hb.same (hlt p hp)) hs
theorem trodAll_low (hl : laidOutB P = true) (hb : Below W.heap.size W W') {sp : Nat → Bool} : ∀ {ts : List TypeId} {vs : List Value} {ds : List (DataW H)} {ps : List MemPlace}, (∀ t ∈ ts, Rdb P t) → DataW.TrodAll enc P W 0 (fun _ => true) true ts vs ds ps → (∀ p ∈ ps, p.block < W.heap.size) → (∀ p ∈ ps, sp p.block = true) → DataW.TrodAll enc P W' 0 sp true ts vs ds ps
  | [], [], [], ps, _, h, _, _ => h
  | t :: ts, v :: vs, d :: ds, ps, hr, h, hlt, hs => by
    obtain ⟨p, q, ⟨n, h1⟩, h2, rfl⟩ := h
    exact ⟨p, q, ⟨n, trod_low hl (hr t (List.mem_cons_self ..)) h1 hb (fun x hx => hlt x (List.mem_append_left _ hx)) (fun x hx => hs x (List.mem_append_left _ hx))⟩, trodAll_low hl hb (fun t ht => hr t (List.mem_cons_of_mem _ ht)) h2 (fun x hx => hlt x (List.mem_append_right _ hx)) (fun x hx => hs x (List.mem_append_right _ hx)), rfl⟩
theorem trodVars_low (hl : laidOutB P = true) (hb : Below W.heap.size W W') {sp : Nat → Bool} : ∀ {ns : List String} {gs : List (DataW H)} {ps : List MemPlace}, (∀ n ∈ ns, ∀ g t, P.globalNamed n = some g → (P.globals[g]?).map (·.type) = some t → Rdb P t) → DataW.TrodVars enc P W (fun _ => true) ns gs ps → (∀ p ∈ ps, p.block < W.heap.size) → (∀ p ∈ ps, sp p.block = true) → DataW.TrodVars enc P W' sp ns gs ps
  | [], [], ps, _, h, _, _ => h
  | n :: ns, d :: ds, ps, hr, h, hlt, hs => by
    obtain ⟨g, t, cs, fuel, p, q, h1, h2, h3, h4, h5, rfl⟩ := h
    refine ⟨g, t, cs, fuel, p, q, h1, h2, Go.Joins.var_stays h1 h3 hb (Nat.le_refl _), trod_low hl (hr n (List.mem_cons_self ..) g t h1 h2) h4 hb (fun x hx => hlt x ?_) (fun x hx => hs x ?_), trodVars_low hl hb (fun m hm => hr m (List.mem_cons_of_mem _ hm)) h5 (fun x hx => hlt x (List.mem_append_right _ hx)) (fun x hx => hs x (List.mem_append_right _ hx)), rfl⟩
    · exact List.mem_append_left _ (List.mem_append_right _ hx)
    · exact List.mem_append_left _ (List.mem_append_right _ hx)
theorem frozen_low (hb : Below W.heap.size W W') {b off : Nat} (h : b < W.heap.size) : W'.frozen? ⟨b, off, none⟩ = W.frozen? ⟨b, off, none⟩ := by
  unfold World.frozen?
  rw [hb.block b h]
theorem kept_low (hb : Below W.heap.size W W') (may : MemPlace → Prop) : W.keptBut W' may := by
  refine ⟨hb.os, hb.output, fun i hi => ?_⟩
  rw [hb.block i hi]
  cases h : W.heap[i]? with
  | none => rfl
  | some o =>
    cases o
    all_goals simp
/-- THE POST CONDITION of a law that answers true and leaves every old block as it stood. -/
theorem post_low {f : Func} {s : ChangeSpec} {apart fresh handsOn again : Bool} {args : Array Value} {v : Value} {ds gs : List (DataW H)} {before : List MemPlace} (hl : laidOutB P = true)
    (hW : DataW.Whole enc P f.params.toList s.vars apart W args.toList ds gs before) (hb : Below W.heap.size W W')
    (hts : ∀ t ∈ f.params.toList, Rdb P t) (hvs : ∀ n ∈ s.vars, ∀ g t, P.globalNamed n = some g → (P.globals[g]?).map (·.type) = some t → Rdb P t)
    (hsp : (s.fn H (ds ++ gs)).args = ds ∧ (s.fn H (ds ++ gs)).vars = gs)
    (hres : ∀ (b : Nat) (sp : Nat → Bool) (hd : Bool), DataW.TrodAll enc P W' b sp hd f.resultTypes.toList (v.resultList f.resultTypes.size) (s.fn H (ds ++ gs)).results [])
    (hok : ∀ (j : Nat) (t : TypeId) (r : Value), f.resultTypes[j]? = some t → (v.resultList f.resultTypes.size)[j]? = some r → Value.okWide P W' .any 0 t r) :
    s.post enc P f apart fresh handsOn again W args v W' := by
  have hlt := hW.lt
  have hW' := hW
  obtain ⟨pa, pv, hA, hV, hps, hz, hn⟩ := hW
  have hla : ∀ p ∈ pa, p.block < W.heap.size := fun p hp => hlt p (by rw [hps]; exact List.mem_append_left _ hp)
  have hlv : ∀ p ∈ pv, p.block < W.heap.size := fun p hp => hlt p (by rw [hps]; exact List.mem_append_right _ hp)
  have hargs : ∀ sp : Nat → Bool, (∀ p ∈ before, sp p.block = true) → DataW.TrodAll enc P W' 0 sp true f.params.toList args.toList (s.fn H (ds ++ gs)).args pa := fun sp h => by
    rw [hsp.1]
    exact trodAll_low hl hb hts hA hla (fun p hp => h p (by rw [hps]; exact List.mem_append_left _ hp))
  have hvars : ∀ sp : Nat → Bool, (∀ p ∈ before, sp p.block = true) → DataW.TrodVars enc P W' sp s.vars (s.fn H (ds ++ gs)).vars pv := fun sp h => by
    rw [hsp.2]
    exact trodVars_low hl hb hvs hV hlv (fun p hp => h p (by rw [hps]; exact List.mem_append_right _ hp))
  have hold : ∀ p ∈ before, (fun b => decide (b < W.heap.size)) p.block = true := fun p hp => by simpa using hlt p hp
  refine ⟨ds, gs, before, [], pa, pv, hW', hres _ _ _, hargs _ hold, hvars _ hold, kept_low hb _, fun _ => ?_⟩
  refine ⟨hok, _, _, ([] ++ pa) ++ pv, ⟨[] ++ pa, pv, trodAll_append (hargs _ (fun _ _ => rfl)) (hres _ _ _), hvars _ (fun _ _ => rfl), rfl, ?_, ?_⟩, ?_⟩
  · intro b off hp
    have hp' : MemPlace.cell b off ∈ before := by rw [hps]; simpa using hp
    rw [frozen_low hb (show b < W.heap.size from hlt _ hp')]
    exact hz b off hp'
  · intro ha
    have := hn ha
    rw [hps] at this
    simpa using this
  · intro p hp _
    rw [hps]
    simpa using hp
end
end Go.Proofs.YtghajgdiaopioaaGreatDoor
end
section
/- From the rows' lists of variables to what the walks ask. Conditions: stand in each law. -/
set_option maxRecDepth 20000
namespace Go.Proofs.YtghajgdiaopioaaGreatDoor
open Go.RowKit Go.Proofs Tx

/-- What is listed, without the words. -/
structure Listed0 (l : List (String × DataW Unit)) : Prop where
  unsup : ("loop.example/pub-g01503/pub/orbwkt.ErrUnsupportedGeometry", Rows.laid_loop_example_pub_g01503_pub_orbwkt_ErrUnsupportedGeometry) ∈ l
  notw : ("loop.example/pub-g01503/pub/orbwkt.ErrNotWKT", Rows.laid_loop_example_pub_g01503_pub_orbwkt_ErrNotWKT) ∈ l
  opt : ("internal/strconv.optimize", Rows.laid_internal_strconv_optimize) ∈ l
  fi : ("internal/strconv.float64info", Rows.laid_internal_strconv_float64info) ∈ l
  tab : ("internal/strconv.uint64pow10", Rows.laid_internal_strconv_uint64pow10) ∈ l
  p10 : ("internal/strconv.pow10Tab", Rows.laid_internal_strconv_pow10Tab) ∈ l
  left : ("internal/strconv.leftcheats", Rows.laid_internal_strconv_leftcheats) ∈ l
  f10 : ("internal/strconv.float64pow10", Rows.laid_internal_strconv_float64pow10) ∈ l
  plain : (l.all fun x => x.2.handleName?.isNone) = true
theorem err_cell {l : List (String × DataW Unit)} {W : World} (h : laidMetH Tryz.prog l W) (hp : (l.all fun x => x.2.handleName?.isNone) = true) {n : String} {nm : String} {d : DataW Unit} (hm : (n, DataW.iface nm d) ∈ l) {g : Nat} (hg : Tryz.prog.globalNamed n = some g) (ht : (Tryz.prog.globals[g]?).map (·.type) = some 54) :
    ∃ u v, W.cell? ⟨g, 0, none⟩ = some (.iface u v) := by
  obtain ⟨cs, fuel, p, -, hc, -, hd⟩ := laid_var h hp hm hg ht
  obtain ⟨u, v, e⟩ := trod_iface' (ms := #[]) ⟨_, Tryz.underlying54⟩ hd
  refine ⟨u, v, ?_⟩
  rw [hc 0, ← Array.getElem?_toList, e]
  rfl
theorem e0_of {l : List (String × DataW Unit)} {W : World} (h : laidMetH Tryz.prog l W) (hL : Listed0 l) : E0 W.heap.size W := by
  have hbig : 24 ≤ W.heap.size := by
    obtain ⟨cs, fuel, p, hlt, -, -, -⟩ := laid_var h hL.plain hL.left (g := 23) (t := 272) (by kernel_rfl) (by kernel_rfl)
    omega
  obtain ⟨c14, f14, p14, -, k14, -, d14⟩ := laid_var h hL.plain hL.opt (g := 14) (t := 4) (by kernel_rfl) (by kernel_rfl)
  obtain ⟨c16, f16, p16, -, k16, -, d16⟩ := laid_var h hL.plain hL.fi (g := 16) (t := 224) (by kernel_rfl) (by kernel_rfl)
  obtain ⟨c11, f11, p11, -, k11, v11, d11⟩ := laid_var h hL.plain hL.tab (g := 11) (t := 191) (by kernel_rfl) (by kernel_rfl)
  obtain ⟨c22, f22, p22, h22, k22, -, d22⟩ := laid_var h hL.plain hL.p10 (g := 22) (t := 266) (by kernel_rfl) (by kernel_rfl)
  obtain ⟨b, e14, e14'⟩ := DataW.trod_bool Tryz.underlying4 d14
  obtain ⟨rfl, -⟩ : b = true ∧ True := by
    have := (Prod.mk.inj e14').1
    unfold Rows.laid_internal_strconv_optimize at this
    simp at this
    exact ⟨this, trivial⟩
  have i16 : c16.toList = [.int .u64 52, .int .u64 11, .int .i64 (-1023)] := by
    obtain ⟨y0, y1, y2, n, hx, hl, h0, h1, h2⟩ := Go.Deep.trod_struct3 Tryz.underlying224 d16
    have h0' : DataW.trod (fun _ => ()) Tryz.prog W 0 (fun _ => true) false n 134 (List.take (Tryz.prog.cellsOf 134) (List.drop 0 c16.toList)) = some y0 := h0
    have h1' : DataW.trod (fun _ => ()) Tryz.prog W 0 (fun _ => true) false n 134 (List.take (Tryz.prog.cellsOf 134) (List.drop 1 c16.toList)) = some y1 := h1
    have h2' : DataW.trod (fun _ => ()) Tryz.prog W 0 (fun _ => true) false n 3 (List.take (Tryz.prog.cellsOf 3) (List.drop 2 c16.toList)) = some y2 := h2
    rw [show Tryz.prog.cellsOf 134 = 1 by kernel_rfl] at h0' h1'
    rw [show Tryz.prog.cellsOf 3 = 1 by kernel_rfl] at h2'
    rw [show Tryz.prog.cellsOf 224 = 3 by kernel_rfl] at hl
    obtain ⟨a0, q0, r0, -⟩ := DataW.trod_int Tryz.underlying134 h0'
    obtain ⟨a1, q1, r1, -⟩ := DataW.trod_int Tryz.underlying134 h1'
    obtain ⟨a2, q2, r2, -⟩ := DataW.trod_int Tryz.underlying3 h2'
    have := (Prod.mk.inj hx).1
    unfold Rows.laid_internal_strconv_float64info at this
    rw [r0, r1, r2] at this
    simp only [DataW.agg.injEq, List.cons.injEq, DataW.lit.injEq, Lit.int.injEq, true_and, and_true] at this
    obtain ⟨rfl, rfl, rfl⟩ := this
    generalize c16.toList = L at hl q0 q1 q2
    match L, hl with
    | [x0, x1, x2], _ =>
      simp only [List.drop_zero, List.take_succ_cons, List.take_zero, List.cons.injEq, and_true] at q0
      simp only [List.drop_succ_cons, List.drop_zero, List.take_succ_cons, List.take_zero, List.cons.injEq, and_true] at q1 q2
      rw [q0, q1, q2]
  have cell16 : ∀ i, W.cell? ⟨16, i, none⟩ = ([.int .u64 52, .int .u64 11, .int .i64 (-1023)] : List Value)[i]? := fun i => by rw [k16 i, ← Array.getElem?_toList, i16]
  have tens : ∀ q x, Go.Pinned.pow10Rows[q]? = some x → W.cell? ⟨22, q * 2, none⟩ = some (.int .u64 x.1) ∧ W.cell? ⟨22, q * 2 + 1, none⟩ = some (.int .u64 x.2) := by
    intro q x hx
    have := pairs_cells (rows := Go.Pinned.pow10Rows) Tryz.underlying266 Tryz.underlying265 (by kernel_rfl) Tryz.underlying106 Tryz.underlying106 rfl rfl (by kernel_rfl) (by kernel_rfl) d22 q x hx
    rw [k22 (q * 2), k22 (q * 2 + 1), ← Array.getElem?_toList, ← Array.getElem?_toList]
    exact this
  obtain ⟨c21, f21, p21, -, k21, -, d21⟩ := laid_var h hL.plain hL.f10 (g := 21) (t := 262) (by kernel_rfl) (by kernel_rfl)
  have hf10 : F10 W.heap.size W := by
    have d21' : DataW.trod (fun _ => ()) Tryz.prog W 0 (fun _ => true) false f21 262 c21.toList = some (.slice (f10L.map fun x => .lit (.float .f64 x)) [], p21) := d21
    obtain ⟨a, cap, hcs, hcap, hel⟩ := open_row Tryz.underlying262 (by kernel_rfl) d21'
    have hlen : (f10L.map fun x => (DataW.lit (.float .f64 x) : DataW Unit)).length = 23 := by rfl
    rw [hlen] at hcs hcap
    have cell : ∀ k x, f10L[k]? = some x → W.cell? (a.add k) = some (.float .f64 x) := by
      intro k x hx
      obtain ⟨v, n, q, hv, hd⟩ := hel k (.lit (.float .f64 x)) (by rw [List.getElem?_map, hx]; rfl)
      obtain ⟨b, hb1, hb2, -⟩ := trod_float' Tryz.underlying47 hd
      cases hb1
      cases hb2
      exact hv
    refine ⟨a, cap, ?_, ?_, hcap, cell⟩
    · have h0 := cell 0 _ rfl
      rw [show a.add 0 = a by simp [Addr.add]] at h0
      exact World.block_lt_of_cell? W _ h0
    · rw [k21 0, ← Array.getElem?_toList, hcs]; rfl
  refine ⟨⟨Nat.le_refl _, hbig, ?_, ?_, ?_, cell16 0, cell16 1, cell16 2, tens, hf10⟩, ⟨⟨h22, tens⟩, ?_⟩⟩
  · exact err_cell h hL.plain hL.unsup (by kernel_rfl) (by kernel_rfl)
  · exact err_cell h hL.plain hL.notw (by kernel_rfl) (by kernel_rfl)
  · rw [k14 0, ← Array.getElem?_toList, e14]; rfl
  · show W.var? Tryz.prog "internal/strconv.uint64pow10" = _
    rw [v11]
    have := Lib.cells_of_tab (zs := Lib.pow10Tab) (k := .u64) Tryz.underlying191 Tryz.underlying106 (by kernel_rfl) (by kernel_rfl) d11
    rw [← this]
end Go.Proofs.YtghajgdiaopioaaGreatDoor
end
section
/- What the rows share: the variables' list, the argument, the witness's world. Conditions: stand in each law. -/
set_option maxRecDepth 100000
namespace Go.Proofs.YtghajgdiaopioaaGreatDoor
open Go.RowKit Go.ChangeShapes Go.WideShapes Go.ChangeAt Go.Proofs Tx

theorem own : ownKnob Tryz.prog.godebug = none := by kernel_rfl
theorem laidOut : laidOutB Tryz.prog = true := by kernel_rfl
theorem rdb25 : Rdb Tryz.prog 25 := ⟨by kernel_rfl, of_decide_eq_true (by kernel_rfl)⟩
theorem rdb54 : Rdb Tryz.prog 54 := ⟨by kernel_rfl, of_decide_eq_true (by kernel_rfl)⟩
theorem rdb_var {n : String} {g0 : Nat} {t0 : TypeId} (h1 : Tryz.prog.globalNamed n = some g0) (h2 : (Tryz.prog.globals[g0]?).map (·.type) = some t0) (h : Rdb Tryz.prog t0) :
    ∀ g t, Tryz.prog.globalNamed n = some g → (Tryz.prog.globals[g]?).map (·.type) = some t → Rdb Tryz.prog t := by
  intro g t e1 e2
  obtain rfl : g0 = g := Option.some.inj (h1.symm.trans e1)
  obtain rfl : t0 = t := Option.some.inj (h2.symm.trans e2)
  exact h
theorem rdb_unsup : ∀ g t, Tryz.prog.globalNamed "loop.example/pub-g01503/pub/orbwkt.ErrUnsupportedGeometry" = some g → (Tryz.prog.globals[g]?).map (·.type) = some t → Rdb Tryz.prog t :=
  rdb_var (g0 := 1) (t0 := 54) (by kernel_rfl) (by kernel_rfl) rdb54
theorem rdb_notw : ∀ g t, Tryz.prog.globalNamed "loop.example/pub-g01503/pub/orbwkt.ErrNotWKT" = some g → (Tryz.prog.globals[g]?).map (·.type) = some t → Rdb Tryz.prog t :=
  rdb_var (g0 := 4) (t0 := 54) (by kernel_rfl) (by kernel_rfl) rdb54
section
variable {H : Type} {enc : TypeId × Value → H} {W : World}
/-- As many data as names. -/
theorem trodVars_len {P : Program} {sp : Nat → Bool} : ∀ {ns : List String} {gs : List (DataW H)} {ps : List MemPlace}, DataW.TrodVars enc P W sp ns gs ps → gs.length = ns.length
  | [], [], _, _ => rfl
  | [], _ :: _, _, h => by simp [DataW.TrodVars] at h
  | _ :: _, [], _, h => by simp [DataW.TrodVars] at h
  | n :: ns, d :: ds, ps, h => by
    obtain ⟨g, t, cs, fuel, p, q, h1, h2, h3, h4, h5, rfl⟩ := h
    simp [trodVars_len h5]
/-- The weights of the first argument. -/
theorem wk_head {P : Program} {t : TypeId} {ts : List TypeId} {d : DataW H} {ds : List (DataW H)} (h : (DataW.weightsEach P (t :: ts) (d :: ds)).all (· ≤ reachBytes) = true) : ∀ x ∈ d.weights P t, x ≤ reachBytes := by
  intro x hx
  have := List.all_eq_true.1 h x (by
    rw [DataW.weightsEach]
    exact List.mem_append_left _ hx)
  simpa using this
/-- The argument, read as a shape. -/
theorem arg_sh {base : Nat} {v : Value} {d : DataW H} {p : List MemPlace} {sp : Nat → Bool} {hd : Bool} (hok : Value.okWide Tryz.prog W .any base 25 v) (h : DataW.Trod enc Tryz.prog W 0 sp hd 25 v d p) (hw : Wk 25 d) :
    ∃ n s, ShV n W s v ∧ LenS s ∧ AllS F64 s := by
  obtain ⟨cs, rfl, -⟩ := okWide_struct Tryz.underlying25 hok
  obtain ⟨n, hn⟩ := h
  obtain ⟨s, hK, hl, ha⟩ := rd_sh n _ d p hn hw
  cases hm : n / 2 with
  | zero => rw [hm] at hK; exact hK.elim
  | succ k =>
    rw [hm] at hK
    obtain ⟨c0, c1, e, h0, c2, c3, rfl, ⟨B, c, rfl, hB, hC⟩, ⟨B', c', rfl, hB', hC'⟩⟩ := hK
    cases h0
    refine ⟨k, s, ⟨B, c, B', c', ?_, hC, hC'⟩, hl, ha⟩
    have e' : cs.toList = [.int .i64 s.kind, .slice B s.lists.length c, .slice B' s.parts.length c'] := e
    cases cs
    simp at e'
    subst e'
    rfl
end
end Go.Proofs.YtghajgdiaopioaaGreatDoor
end
