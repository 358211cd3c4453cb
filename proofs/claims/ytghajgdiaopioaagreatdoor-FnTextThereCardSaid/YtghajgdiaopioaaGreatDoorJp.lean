/- Walks and plain laws joined (Ws, Xa, Xb). Conditions: stand in each law. -/
import Derived.Test.YtghajgdiaopioaaGreatDoorJo
import Derived.Test.YtghajgdiaopioaaGreatDoorJm
import Derived.Deep.RegionLaw
set_option linter.unusedVariables false
set_option linter.unusedSimpArgs false
section
/- Unmarshal's contract, at every depth. Conditions: stand in each contract. -/
namespace Go.Proofs.YtghajgdiaopioaaGreatDoor
open Go.RowKit Go.Proofs Tx
open Go.Proofs.YtghajgdiaopioaaGreatDoorW.PrintWords
theorem Res.map {α β : Type} {z : Value} {r : Rd α} {f : α → β} {ok : α → Value → World → Prop} {ok' : β → Value → World → Prop} {e : Ending} {w' : World} (h : Res z r ok e w') (hk : ∀ a x, ok a x w' → ok' (f a) x w') : Res z (Rd.map f r) ok' e w' := by
  cases r with
  | unk => trivial
  | err => exact h
  | ok a => obtain ⟨x, h1, h2⟩ := h; exact ⟨x, h1, hk a x h2⟩
theorem map_ne {α β : Type} {r : Rd α} {f : α → β} (h : Rd.map f r ≠ .unk) : r ≠ .unk := by
  rintro rfl; exact h rfl
theorem trim_asc {s : Bs} (h : Asc s) : Asc (trim s) := fun x hx => h x (trim_mem hx)

section
variable (pf : Bs → Rd Nat) (sub : Bs → Rd Geo) (t : Bs)
theorem um_1 : um pf sub 1 t = (inBr (parseP pf) (t.drop 5)).map .point := rfl
theorem um_2 : um pf sub 2 t = (if eqF t (word 2 ++ emptyW) then .ok [] else inBr (readPts pf) (t.drop 10)).map .line := by simp only [um]; split <;> rfl
theorem um_3 : um pf sub 3 t = (if eqF t (word 3 ++ emptyW) then .ok [] else inBr (readRings pf) (t.drop 7)).map .poly := by simp only [um]; split <;> rfl
theorem um_4 : um pf sub 4 t = (if eqF t (word 4 ++ emptyW) then .ok [] else inBr (readMP pf) (t.drop 10)).map .mpoint := by simp only [um]; split <;> rfl
theorem um_5 : um pf sub 5 t = (if eqF t (word 5 ++ emptyW) then .ok [] else inBr (readRings pf) (t.drop 15)).map .mline := by simp only [um]; split <;> rfl
theorem um_6 : um pf sub 6 t = (if eqF t (word 6 ++ emptyW) then .ok [] else inBr (readPolys pf) (t.drop 12)).map .mpoly := by simp only [um]; split <;> rfl
theorem um_7 : um pf sub 7 t = (if eqF t (word 7 ++ emptyW) then .ok [] else if t.length = 18 then .err else inBr (fun l => mapR sub (splitG l)) (t.drop 18)).map .coll := by
  simp only [um]; split
  · rfl
  · split <;> rfl
end
theorem R_is {α : Type} {d : Kd α} {e : Nat} {w : World} {base : Nat} {ok : Nat → Prop} {v : Value} {xs : List α} (h : d.R e w base ok v xs) : ∃ A n c, v = .slice A n c := R_sl h

theorem unm_any (pf : Bs → Rd Nat) (hpf : PfOk pf) : ∀ n, UnmOk pf n
  | 0 => fun s w B0 r hg hl ha hr hn => absurd hr.symm hn
  | n + 1 => fun s w B0 r hg hl ha hr hn => by
    have ih := unm_any pf hpf n
    have hta : Asc (trim s) := trim_asc ha
    have htl : (trim s).length ≤ 1000000000 := Nat.le_trans (trim_le s) hl
    unfold readG kindOf at hr
    obtain ⟨t, ht⟩ : ∃ t, trim s = t := ⟨_, rfl⟩
    rw [ht] at hr hta htl
    cases h1 : hasW t (word 1) with
    | true =>
      rw [h1] at hr
      simp only [if_true, um_1] at hr
      subst hr
      refine (unm1 s t w hg hl ht h1 (inBr (parseP pf) (t.drop 5)) (fun _ p x _ => x = ptV p) (fun _ _ _ _ _ _ h => h) (fun _ a x _ h => ⟨a, h⟩) (map_ne hn) ?_).mono ?_
      · exact fun w' hg' => um53_any pf hpf t w' hg' htl (hasW_len h1) _ rfl (map_ne hn)
      · exact fun e w' h => ⟨h.1.map fun p x ⟨y, hx, hy⟩ => by subst hx hy; exact rfl, h.2⟩
    | false =>
    cases h2 : hasW t (word 2) with
    | true =>
      rw [h1, h2] at hr
      simp only [if_true, Bool.false_eq_true, if_false, um_2] at hr
      subst hr
      refine (unm2 s t w hg hl ht h1 h2 _ (fun B ps x w => ptK.R 61 w B (fun _ => True) x ps) (fun _ _ _ _ _ hb h => Kd.R_lower h hb) (fun _ a x _ h => R_is h) (map_ne hn) ?_).mono ?_
      · exact fun w' hg' => line54_any pf hpf t w' hg' htl (hasW_len h2) hta _ rfl (map_ne hn)
      · exact fun e w' h => ⟨h.1.map fun p x ⟨y, hx, hy⟩ => ⟨y, by rw [hx], y, rfl, hy⟩, h.2⟩
    | false =>
    cases h3 : hasW t (word 3) with
    | true =>
      rw [h1, h2, h3] at hr
      simp only [if_true, Bool.false_eq_true, if_false, um_3] at hr
      subst hr
      refine (unm3 s t w hg hl ht h1 h2 h3 _ (fun B ps x w => lineK.R 117 w B (fun _ => True) x ps) (fun _ _ _ _ _ hb h => Kd.R_lower h hb) (fun _ a x _ h => R_is h) (map_ne hn) ?_).mono ?_
      · exact fun w' hg' => um55_any pf hpf t w' hg' htl (hasW_len h3) hta _ rfl (map_ne hn)
      · exact fun e w' h => ⟨h.1.map fun p x ⟨y, hx, hy⟩ => ⟨y, by rw [hx], y, rfl, hy⟩, h.2⟩
    | false =>
    cases h4 : hasW t (word 4) with
    | true =>
      rw [h1, h2, h3, h4] at hr
      simp only [if_true, Bool.false_eq_true, if_false, um_4] at hr
      subst hr
      refine (unm4 s t w hg hl ht h1 h2 h3 h4 _ (fun B ps x w => ptK.R 61 w B (fun _ => True) x ps) (fun _ _ _ _ _ hb h => Kd.R_lower h hb) (fun _ a x _ h => R_is h) (map_ne hn) ?_).mono ?_
      · exact fun w' hg' => um56_any pf hpf t w' hg' htl (hasW_len h4) hta _ rfl (map_ne hn)
      · exact fun e w' h => ⟨h.1.map fun p x ⟨y, hx, hy⟩ => ⟨y, by rw [hx], y, rfl, hy⟩, h.2⟩
    | false =>
    cases h5 : hasW t (word 5) with
    | true =>
      rw [h1, h2, h3, h4, h5] at hr
      simp only [if_true, Bool.false_eq_true, if_false, um_5] at hr
      subst hr
      refine (unm5 s t w hg hl ht h1 h2 h3 h4 h5 _ (fun B ps x w => lineK.R 65 w B (fun _ => True) x ps) (fun _ _ _ _ _ hb h => Kd.R_lower h hb) (fun _ a x _ h => R_is h) (map_ne hn) ?_).mono ?_
      · exact fun w' hg' => um57_any pf hpf t w' hg' htl (hasW_len h5) hta _ rfl (map_ne hn)
      · exact fun e w' h => ⟨h.1.map fun p x ⟨y, hx, hy⟩ => ⟨y, by rw [hx], y, rfl, hy⟩, h.2⟩
    | false =>
    cases h6 : hasW t (word 6) with
    | true =>
      rw [h1, h2, h3, h4, h5, h6] at hr
      simp only [if_true, Bool.false_eq_true, if_false, um_6] at hr
      subst hr
      refine (unm6 s t w hg hl ht h1 h2 h3 h4 h5 h6 _ (fun B ps x w => polyK.R 69 w B (fun _ => True) x ps) (fun _ _ _ _ _ hb h => Kd.R_lower h hb) (fun _ a x _ h => R_is h) (map_ne hn) ?_).mono ?_
      · exact fun w' hg' => um58_any pf hpf t w' hg' htl (hasW_len h6) hta _ rfl (map_ne hn)
      · exact fun e w' h => ⟨h.1.map fun p x ⟨y, hx, hy⟩ => ⟨y, by rw [hx], y, rfl, hy⟩, h.2⟩
    | false =>
    cases h7 : hasW t (word 7) with
    | true =>
      rw [h1, h2, h3, h4, h5, h6, h7] at hr
      simp only [if_true, Bool.false_eq_true, if_false, um_7] at hr
      subst hr
      refine (unm7 s t w hg hl ht h1 h2 h3 h4 h5 h6 h7 _ (fun B ps x w => (geoK n).R 52 w B (fun _ => True) x ps) (fun _ _ _ _ _ hb h => Kd.R_lower h hb) (fun _ a x _ h => R_is h) (map_ne hn) ?_).mono ?_
      · exact fun w' hg' => um59_any pf n ih t w' hg' htl (hasW_len h7) hta _ rfl (map_ne hn)
      · exact fun e w' h => ⟨h.1.map fun p x ⟨y, hx, hy⟩ => ⟨y, by rw [hx], y, rfl, hy⟩, h.2⟩
    | false =>
      rw [h1, h2, h3, h4, h5, h6, h7] at hr
      simp only [Bool.false_eq_true, if_false, um] at hr
      subst hr
      exact unm0 s t w hg hl ht h1 h2 h3 h4 h5 h6 h7
end Go.Proofs.YtghajgdiaopioaaGreatDoor
end
section
/- Shapes as plain data, their kind in memory; walks: listOf, polygonShape. Conditions: stand in each contract. -/
namespace Go.Proofs.YtghajgdiaopioaaGreatDoor
open Go.RowKit Go.Proofs Tx
open Go.Proofs.YtghajgdiaopioaaGreatDoorW.PrintWords
/-- A shape: its kind, its lists, its parts. -/
inductive Sh where
  | mk (kind : Int) (lists : List (List Pt)) (parts : List Sh)
def Sh.kind : Sh → Int | .mk k _ _ => k
def Sh.lists : Sh → List (List Pt) | .mk _ l _ => l
def Sh.parts : Sh → List Sh | .mk _ _ p => p
/-- The shape of a geometry. -/
def shOf : Geo → Sh
  | .point p => .mk 1 [[p]] []
  | .line ps => .mk 2 [ps] []
  | .poly rs => .mk 3 rs []
  | .mpoint ps => .mk 4 [ps] []
  | .mline ls => .mk 5 ls []
  | .mpoly qs => .mk 6 [] (qs.map fun q => .mk 3 q [])
  | .coll gs => .mk 7 [] (shOfs gs)
where shOfs : List Geo → List Sh
  | [] => []
  | g :: l => shOf g :: shOfs l
theorem shOfs_map (gs : List Geo) : shOf.shOfs gs = gs.map shOf := by
  induction gs with
  | nil => rfl
  | cons g l ih => simp [shOf.shOfs, ih]
/-- No row in it is longer than 1000000000. -/
inductive LimG : Geo → Prop where
  | point (p) : LimG (.point p)
  | line {ps} : ps.length ≤ 1000000000 → LimG (.line ps)
  | poly {rs} : rs.length ≤ 1000000000 → (∀ r ∈ rs, r.length ≤ 1000000000) → LimG (.poly rs)
  | mpoint {ps} : ps.length ≤ 1000000000 → LimG (.mpoint ps)
  | mline {ls} : ls.length ≤ 1000000000 → (∀ r ∈ ls, r.length ≤ 1000000000) → LimG (.mline ls)
  | mpoly {qs} : qs.length ≤ 1000000000 → (∀ q ∈ qs, q.length ≤ 1000000000 ∧ ∀ r ∈ q, r.length ≤ 1000000000) → LimG (.mpoly qs)
  | coll {gs} : gs.length ≤ 1000000000 → (∀ g ∈ gs, LimG g) → LimG (.coll gs)

def rowK : Kd (List Pt) := Kd.slice 49 ptK
def listsK : Kd (List (List Pt)) := Kd.slice 27 rowK
def shF (sub : Kd Sh) : Kd Sh := Kd.iso (Kd.pair (Kd.int .i64) (Kd.pair listsK (Kd.slice 25 sub))) (fun s => (s.kind, s.lists, s.parts))
/-- Shapes nested at most n deep. -/
def shK : Nat → Kd Sh
  | 0 => Kd.bot 3 []
  | n + 1 => shF (shK n)
theorem shK_sz (n : Nat) : (shK n).sz = 3 := by cases n <;> rfl
theorem shK_M {n : Nat} {w : World} {base : Nat} {ok : Nat → Prop} {s : Sh} {vl vp : Value} (hl : rowK.R 27 w base ok vl s.lists) (hp : (shK n).R 25 w base ok vp s.parts) : (shK (n + 1)).M w base ok s [.int .i64 s.kind, vl, vp] :=
  ⟨[.int .i64 s.kind], [vl, vp], rfl, rfl, [vl], [vp], rfl, ⟨vl, rfl, hl⟩, ⟨vp, rfl, hp⟩⟩

theorem info27 : (Tryz.prog.info? 27).map (fun i => (i.zero, i.size, i.bytes)) = some (some (.slice none 0 0), 1, 24) := by kernel_rfl
theorem info49 : (Tryz.prog.info? 49).map (fun i => (i.zero, i.size, i.bytes)) = some (some (.agg #[.float .f64 0, .float .f64 0]), 2, 16) := by kernel_rfl
theorem info25 : (Tryz.prog.info? 25).map (fun i => (i.zero, i.size, i.bytes)) = some (some (.agg #[.int .i64 0, .slice none 0 0, .slice none 0 0]), 3, 56) := by kernel_rfl

/-- A point of a row that is read. -/
theorem get_pt {w : World} {A : Option Addr} {n : Nat} {ps : List Pt} (h : ptK.C w A n ps) (hn : n = ps.length) (j : Nat) (hj : j < ps.length) :
    ∃ ad, A = some ad ∧ w.cell? (ad.add (j * 2)) = some (.float .f64 ps[j].1) ∧ w.cell? ⟨(ad.add (j * 2)).block, (ad.add (j * 2)).off + 1, none⟩ = some (.float .f64 ps[j].2) := by
  obtain ⟨ad, cs, hA, hlen, hK, hc⟩ := Kd.C_get h (0, 0) j (by omega) (by omega)
  have hx : ps.getD (j : Int).toNat (0, 0) = ps[j] := by simp [List.getD, hj]
  rw [hx] at hK
  obtain ⟨c0, c1, rfl, h0, h1⟩ := hK
  cases h0
  cases h1
  have q0 := hc 0 _ rfl
  have q1 := hc 1 _ rfl
  have q1' : w.cell? (ad.add (j * 2 + 1)) = some (.float .f64 ps[j].2) := q1
  rw [add_field ad (j * 2) 1 (by decide)] at q1'
  exact ⟨ad, hA, q0, q1'⟩

set_option maxRecDepth 20000 in
set_option maxHeartbeats 1000000 in
/-- listOf. -/
theorem list_any (w : World) (A : Option Addr) (c : Nat) (ps : List Pt) (hC : ptK.C w A ps.length ps) (hl : ps.length ≤ 1000000000) :
    Calls Tryz.prog 60 #[.slice A ps.length c] w fun e w' => ∃ x, e = .returned x ∧ ptK.R 49 w' w.heap.size (fun _ => True) x ps ∧ Below w.heap.size w w' := by
  go_enter Tryz.func60, Tryz.ntmps60
  go_wp2
  go_loopw [3, 9] (fun v3 v9 wr => ∃ (A' : Option Addr) (k c' j : Nat), v3 = .slice A' k c' ∧ v9 = .int .i64 j ∧ j ≤ ps.length ∧ ptK.R 49 wr w.heap.size (fun _ => True) (.slice A' k c') (ps.take j) ∧ Below w.heap.size w wr) (fun v3 v9 wr => ps.length - (intOf v9).toNat)
  case atStart => exact ⟨_, _, _, 0, rfl, rfl, Nat.zero_le _, R_empty _ _ _, below_alloc1 _ _⟩
  case round =>
    obtain ⟨A', k, c', j, rfl, rfl, hjl, hR, hb⟩ := hrel
    have hszr := hb.size
    have HR := Lib.hid hR
    have HB := Lib.hid hb
    by_cases hlt : j < ps.length
    · obtain ⟨ad, rfl, q0, q1⟩ := get_pt (Kd.C_below hC hb) rfl j hlt
      obtain ⟨x, hx⟩ : ∃ x, x = ps[j].1 := ⟨_, rfl⟩
      obtain ⟨y, hy⟩ : ∃ y, y = ps[j].2 := ⟨_, rfl⟩
      rw [← hx] at q0
      rw [← hy] at q1
      have HX := Lib.hid (show ps[j] = (x, y) by rw [hx, hy])
      clear hR hb hx hy
      have hcl : ptK.C w (some ad) ps.length ps := hC
      have HC := Lib.hid hC
      clear hC hcl
      go_wp2_with (at_builtin; go_loud (refine Kd.R_append ptK (w0 := w) w.heap.size rfl (.tmp 13) (.tmp 19) 27 49 (.agg #[.float .f64 0, .float .f64 0]) 16 rfl Tryz.underlying27 info49 rfl (by decide) (by decide) (.slice A' k c') (ps.take j) (x, y) [.float .f64 x, .float .f64 y] (fun _ => True) (fun _ => False) rfl (by simp [Act.eval]) ?hp ?hokp ?hfresh ?HO ?HB ?hbase ?hl ?_))
      case hp => exact ptK_M _ _ _ _
      case hokp => exact fun _ h => h.elim
      case hfresh => exact fun _ _ => trivial
      case HO => exact Kd.R_alloc HR.out _
      case HB => exact HB.out.alloc hszr _
      case hbase => simp; omega
      case hl => simp; omega
      intro v1 w3 hR4 hb5 hg5 hat5
      obtain ⟨A1, n1, c1, rfl⟩ := R_sl hR4
      have e1 : ps.take j ++ [(x, y)] = ps.take (j + 1) := by
        rw [List.take_add_one, List.getElem?_eq_getElem hlt, HX.out]; rfl
      rw [e1] at hR4
      have HR4 := Lib.hid hR4
      have HB5 := Lib.hid hb5
      have hC := HC.out
      clear hR4 hb5 hg5 hat5 e1
      go_wp2
      exact ⟨⟨A1, n1, c1, j + 1, rfl, by go_num, by omega, HR4.out, HB5.out⟩, by simp [intOf]; omega⟩
    · have e1 : ps.take j = ps := List.take_of_length_le (by omega)
      rw [e1] at hR
      have HR2 := Lib.hid hR
      clear hR hb e1 hC
      go_wp2
      go_ret
      exact ⟨_, rfl, HR2.out, HB.out⟩
/-! Walks: polygonShape. -/
theorem execOp_call {o : Oper} {a : Act} {f : FuncId} {ats : Array TypeId} {xs : Array Operand} (hop : o.op = .call { callee := .value (.func f), args := xs, argTypes := ats }) : execOp a.eval o = callFunc f (xs.map a.eval) := by
  have ef : a.eval (.func f) = .func (.func f) #[] #[] := rfl
  unfold execOp
  simp [hop, resolve, Deferred.ofValue, invoke, ef]
/-- A call of a Go function, as one step of a region that draws. -/
theorem step_call {P : Program} {ops : Array Oper} {o : Oper} {a : Act} {w : World} {K : Act → World → Prop} {Q : Exit → Act → World → Prop} {E : Prop}
    (hg : o.guard = none) (f : FuncId) (x : Operand) (t : Array TypeId) (hop : o.op = Op.call { callee := .value (.func f), args := #[x], argTypes := t })
    (hcf : ∀ args w, (callFunc f args).run P w = .ok (.enter f args) w) (v : Value) (hx : a.eval x = v) {R : Value → World → Prop}
    (hC : Calls P f #[v] w fun e w' => ∃ y, e = .returned y ∧ R y w')
    (hK : ∀ y w', R y w' → K (a.put o.dst y) w') :
    if Region.wanted o (yielded ops a.tmps) = true then Oper.wp P o a w K Q else E := by
  have hw : Region.wanted o (yielded ops a.tmps) = true := by simp [Region.wanted, hg]
  rw [if_pos hw]
  unfold Oper.wp
  rw [execOp_call hop, hcf]
  simp only [List.map_toArray, List.map_cons, List.map_nil, hx]
  show Calls P f #[v] w _
  refine hC.mono ?_
  rintro e w' ⟨y, rfl, hy⟩
  exact hK y w' hy
theorem call60 : ∀ args w, (callFunc 60 args).run Tryz.prog w = .ok (.enter 60 args) w := by
  intro args w
  kernel_rfl
/-- A row of a row of rows that is read. -/
theorem get_row2 {α : Type} {d : Kd α} {e : Nat} {w : World} {A : Option Addr} {n : Nat} {rs : List (List α)} (h : (Kd.slice e d).C w A n rs) (hn : n = rs.length) (j : Nat) (hj : j < rs.length) :
    ∃ ad A2 c2, A = some ad ∧ w.cell? (ad.add j) = some (.slice A2 rs[j].length c2) ∧ d.C w A2 rs[j].length rs[j] := by
  obtain ⟨ad, cs, hA, hlen, hK, hc⟩ := Kd.C_get h [] j (by omega) (by omega)
  have hx : rs.getD (j : Int).toNat [] = rs[j] := by simp [List.getD, hj]
  rw [hx] at hK
  obtain ⟨A2, c2, rfl, hl, hC⟩ := hK
  have h0 := hc 0 _ rfl
  refine ⟨ad, A2, c2, hA, ?_, hC⟩
  have e1 : ad.add ((j : Int).toNat * (Kd.slice e d).sz + 0) = ad.add j := by
    congr 1
    show (j : Int).toNat * 1 + 0 = j
    omega
  rw [← e1]; exact h0
theorem three_facts {w : World} {b : Nat} {x y z : Value} {t : TypeId} (h : w.heap[b]? = some (.cells #[x, y, z] t (0, 0))) :
    w.cell? ⟨b, 0, none⟩ = some x ∧ w.cell? ⟨b, 1, none⟩ = some y ∧ w.cell? ⟨b, 2, none⟩ = some z ∧ w.frozen? ⟨b, 0, none⟩ = false ∧ w.frozen? ⟨b, 1, none⟩ = false ∧ w.frozen? ⟨b, 2, none⟩ = false :=
  ⟨blk_cell h 0, blk_cell h 1, blk_cell h 2, blk_frozen h 0, blk_frozen h 1, blk_frozen h 2⟩
theorem three_set {w : World} {b : Nat} {x y z u v t' : Value} {t : TypeId} (h : w.heap[b]? = some (.cells #[x, y, z] t (0, 0))) :
    (((w.setCell ⟨b, 0, none⟩ u).setCell ⟨b, 1, none⟩ v).setCell ⟨b, 2, none⟩ t').heap[b]? = some (.cells #[u, v, t'] t (0, 0)) := blk_set (blk_set (blk_set h 0 u) 1 v) 2 t'

theorem size25 : (Tryz.prog.info? 25).map (·.size) = some 3 := by kernel_rfl

set_option maxRecDepth 20000 in
set_option maxHeartbeats 2000000 in
/-- polygonShape. -/
theorem polySh_any (w : World) (A : Option Addr) (c : Nat) (rs : List (List Pt)) (hC : lineK.C w A rs.length rs) (hl : rs.length ≤ 1000000000) (hl2 : ∀ r ∈ rs, r.length ≤ 1000000000) :
    Calls Tryz.prog 61 #[.slice A rs.length c] w fun e w' => ∃ vl, e = .returned (.agg #[.int .i64 3, vl, .slice none 0 0]) ∧ rowK.R 27 w' w.heap.size (fun _ => True) vl rs ∧ Below w.heap.size w w' := by
  go_enter Tryz.func61, Tryz.ntmps61
  go_wp2
  go_loopw [9] (fun v9 wr => ∃ (A' : Option Addr) (k c' j : Nat), v9 = .int .i64 j ∧ j ≤ rs.length ∧ wr.heap[w.heap.size]? = some (.cells #[.int .i64 0, .slice none 0 0, .slice none 0 0] 25 (0, 0)) ∧ wr.heap[w.heap.size + 1]? = some (.cells #[.int .i64 3, .slice A' k c', .slice none 0 0] 25 (0, 0)) ∧ w.heap.size + 2 ≤ wr.heap.size ∧ rowK.R 27 wr (w.heap.size + 2) (fun _ => True) (.slice A' k c') (rs.take j) ∧ Below w.heap.size w wr) (fun v9 wr => rs.length - (intOf v9).toNat)
  case atStart =>
    refine ⟨none, 0, 0, 0, rfl, Nat.zero_le _, blk_alloc (blk_new _ _) _, ?_, by simp, Kd.R_nil _ _ _ _ _, (below_alloc1 _ _).alloc (by simp) _⟩
    have := blk_new (w.alloc (.cells #[.int .i64 0, .slice none 0 0, .slice none 0 0] 25)) (.cells #[.int .i64 3, .slice none 0 0, .slice none 0 0] 25)
    simpa using this
  case round =>
    obtain ⟨A', k, c', j, rfl, hjl, h2, h3, hsz, hR, hb⟩ := hrel
    by_cases hlt : j < rs.length
    · obtain ⟨ad, A2, c2, rfl, q0, hC2⟩ := get_row2 (Kd.C_below hC hb) rfl j hlt
      obtain ⟨r, hr⟩ : ∃ r, r = rs[j] := ⟨_, rfl⟩
      have hrl : r.length ≤ 1000000000 := by rw [hr]; exact hl2 _ (List.getElem_mem hlt)
      rw [← hr] at q0 hC2
      have hrow := list_any wr.drew A2 c2 r (Kd.C_drew hC2) hrl
      obtain ⟨d0, d1, d2, g0, g1, g2⟩ := three_facts h3
      have hcall : Calls Tryz.prog 60 #[.slice A2 r.length c2] wr.drew fun e w' => ∃ y, e = .returned y ∧ (∃ B n d, y = .slice B n d) ∧ Aside (ptK.R 49 w' wr.heap.size (fun q => wr.heap.size ≤ q) y r ∧ Below wr.heap.size wr w' ∧ w'.heap[w.heap.size + 1]? = some (.cells #[.int .i64 3, .slice A' k c', .slice none 0 0] 25 (0, 0))) ∧ w'.cell? ⟨w.heap.size + 1, 1, none⟩ = some (.slice A' k c') ∧ w'.frozen? ⟨w.heap.size + 1, 1, none⟩ = false ∧ ∀ o, (w'.alloc o).cell? ⟨w.heap.size + 1, 1, none⟩ = some (.slice A' k c') :=
        hrow.mono fun e w' ⟨y, he, hy, hbl⟩ => by
          have hbl' : Below wr.heap.size wr w' := ⟨hbl.os, hbl.tape, hbl.output, hbl.size, hbl.block⟩
          have hh := blk_below h3 hbl'
          obtain ⟨_, e1, _, _, e2, _⟩ := three_facts hh
          exact ⟨y, he, R_sl hy, ⟨R_own_ge hy, hbl', hh⟩, e1, e2, fun o => blk_cell (blk_alloc hh o) 1⟩
      have HR := Lib.hid hR
      have HB := Lib.hid hb
      have H2 := Lib.hid h2
      have HC := Lib.hid hC
      have HX := Lib.hid hr
      have hlt0 : ∀ q, (Value.slice A' k c').ownBlock = some q → q < wr.heap.size := Kd.R_lt hR
      have HLT := Lib.hid hlt0
      have HBA := Lib.hid (Kd.R_base hR)
      clear hR hb h2 hC hr hrow h3 hC2 hl2 d0 d2 g0 g2 hlt0
      go_wp2_with fail
      go_region_law (first
        | (refine step_call rfl 60 (.tmp 15) _ rfl call60 (.slice A2 r.length c2) (by simp [Act.eval, Act.put]) hcall ?_
           rintro y w1 ⟨⟨Bz, nz, dz, rfl⟩, hA, hc1, hf1, hc2⟩)
        | (refine Kd.R_append_step rowK (w0 := w1) (w.heap.size + 2) rfl (.tmp 14) (.tmp 17) 22 27 (.slice none 0 0) 24 rfl Tryz.underlying22 info27 rfl (by decide) (by decide) (.slice A' k c') (rs.take j) r [.slice Bz nz dz] (fun _ => True) (fun q => wr.heap.size ≤ q) (by simp [Act.eval, Act.put]) (by simp [Act.eval, Act.put]) ⟨_, rfl, Kd.R_lower hA.out.1 hsz⟩ (fun q hq => ⟨trivial, fun e0 => by have := HLT.out q e0.symm; omega⟩) (fun _ _ => trivial) (Kd.R_below HR.out hA.out.2.1) (Below.refl _ _) (Nat.le_trans hsz hA.out.2.1.size) (by simp; omega) ?_
           intro v1 w3 hR4 hb5 hg5 hat5
           obtain ⟨A1, n1, c1, rfl⟩ := R_sl hR4
           have hs1 := hA.out.2.1.size
           have hh : w3.heap[w.heap.size + 1]? = some (.cells #[.int .i64 3, .slice A' k c', .slice none 0 0] 25 (0, 0)) := (hg5.block (w.heap.size + 1) (by omega) (fun e0 => by have := HBA.out _ e0.symm; omega)).trans hA.out.2.2
           have hh0 : w3.heap[w.heap.size]? = some (.cells #[.int .i64 0, .slice none 0 0, .slice none 0 0] 25 (0, 0)) := (hg5.block w.heap.size (by omega) (fun e0 => by have := HBA.out _ e0.symm; omega)).trans (blk_below H2.out hA.out.2.1)
           have hB3 : Below w.heap.size w w3 := pw_below_grown (HB.out.trans (hA.out.2.1.mono (by omega))) _ (by omega) hg5 (fun q e0 => by have := HBA.out q e0; omega)
           have hc3 := blk_cell hh 1
           have hf3 := blk_frozen hh 1
           have HH := Lib.hid hh
           have HH0 := Lib.hid hh0
           have HB3 := Lib.hid hB3
           have HR4 := Lib.hid hR4
           have HS3 := Lib.hid hb5.size
           clear hh hh0 hB3 hR4 hb5 hg5 hat5))
      all_goals
        have hs1 := hA.out.2.1.size
        have hs3 := HS3.out
        have e1 : rs.take j ++ [r] = rs.take (j + 1) := by
          rw [List.take_add_one, List.getElem?_eq_getElem hlt, HX.out]; rfl
        have hR5 := HR4.out
        rw [e1] at hR5
        have HR5 := Lib.hid hR5
        clear hR5 e1
        go_wp2
        refine ⟨⟨A1, n1, c1, j + 1, by go_num, by omega, blk_far HH0.out (by simp) _, blk_set HH.out 1 _, by simp [World.setCell]; omega, Kd.R_mono (Kd.R_far (p := ⟨w.heap.size + 1, 1, none⟩) (R_own_ge HR5.out) (fun q hq => by show q ≠ w.heap.size + 1; omega) _) (fun _ _ => trivial), HB3.out.setCell (by show w.heap.size ≤ w.heap.size + 1; omega) _⟩, by simp [intOf]; omega⟩
    · have e1 : rs.take j = rs := List.take_of_length_le (by omega)
      rw [e1] at hR
      obtain ⟨d0, d1, d2, g0, g1, g2⟩ := three_facts h3
      obtain ⟨m0, m1, m2, n0, n1, n2⟩ := three_facts h2
      have HR := Lib.hid (Kd.R_mono (Kd.R_far (p := ⟨w.heap.size, 2, none⟩) (Kd.R_far (p := ⟨w.heap.size, 1, none⟩) (Kd.R_far (p := ⟨w.heap.size, 0, none⟩) (R_own_ge hR) (fun q hq => by show q ≠ w.heap.size; omega) (.int .i64 3)) (fun q hq => by show q ≠ w.heap.size; omega) (.slice A' k c')) (fun q hq => by show q ≠ w.heap.size; omega) (.slice none 0 0)) (fun _ _ => trivial))
      have HB := Lib.hid hb
      have H2 := Lib.hid h2
      clear hR hb h2 h3 e1 hC hl2
      go_wp2
      refine bodyPost_ret (results_cell_row rfl _ _ _ _ _ _ _ rfl (three_set H2.out) Tryz.underlying25 rfl size25) rfl ?_
      exact ⟨_, rfl, Kd.R_lower HR.out (by omega), ((HB.out.setCell (Nat.le_refl _) _).setCell (Nat.le_refl _) _).setCell (Nat.le_refl _) _⟩
end Go.Proofs.YtghajgdiaopioaaGreatDoor
end
