/- Walks and plain laws joined (Wf). Conditions: stand in each law. -/
import Derived.Test.YtghajgdiaopioaaGreatDoorJf
import Derived.Test.YtghajgdiaopioaaGreatDoorJg
set_option linter.unusedVariables false
set_option linter.unusedSimpArgs false
section
/- Walks: strings.EqualFold, make, unmarshalLineString. Conditions: stand in each contract. -/
namespace Go.Proofs.YtghajgdiaopioaaGreatDoor
open Go.RowKit Go.Proofs Tx
open Go.Proofs.YtghajgdiaopioaaGreatDoorW.PrintWords
/-! ### strings.EqualFold on texts of ASCII -/
def Asc (l : Bs) : Prop := ∀ c ∈ l, c.toNat < 128
theorem up_nat (c : UInt8) : (up c).toNat = if 97 ≤ c.toNat ∧ c.toNat ≤ 122 then c.toNat - 32 else c.toNat := by
  unfold up
  have h1 : (97 ≤ c ∧ c ≤ 122) ↔ (97 ≤ c.toNat ∧ c.toNat ≤ 122) := by
    rw [UInt8.le_iff_toNat_le, UInt8.le_iff_toNat_le]; rfl
  by_cases h : 97 ≤ c ∧ c ≤ 122
  · rw [if_pos h, if_pos (h1.1 h), UInt8.toNat_sub_of_le _ _ (by rw [UInt8.le_iff_toNat_le]; have := (h1.1 h).1; show 32 ≤ _; omega)]
    rfl
  · rw [if_neg h, if_neg (fun e => h (h1.2 e))]
theorem foldEq_up (x y : UInt8) : Lib.foldEq x y = (up x == up y) := by
  rw [Bool.eq_iff_iff, beq_iff_eq, ← UInt8.toNat_inj, up_nat, up_nat]
  unfold Lib.foldEq
  simp only [decide_eq_true_eq]
  split <;> split <;> omega
theorem fold_eqF : ∀ (l m : Bs), Lib.equalFold l m = eqF l m
  | [], [] => rfl
  | [], _ :: _ => rfl
  | _ :: _, [] => rfl
  | x :: l, y :: m => by
    have ih := fold_eqF l m
    unfold eqF at *
    simp only [Lib.equalFold, List.map_cons, foldEq_up, ih]
    rfl
theorem fold_any (l m : Bs) (w : World) (hl : l.length ≤ 1000000000) (ha : Asc l) (hm : Asc m) :
    Calls Tryz.prog 77 #[S l, S m] w fun e w' => e = .returned (.bool (eqF l m)) ∧ w = w' := by
  refine (Tryz.strings_EqualFold ⟨l.toArray⟩ ⟨m.toArray⟩ w (by rw [size_S]; omega) (fun j b hj => ha b (List.mem_of_getElem? (by simpa using hj))) (fun j b hj => hm b (List.mem_of_getElem? (by simpa using hj)))).mono ?_
  rintro e w' ⟨rfl, rfl⟩
  refine ⟨?_, rfl⟩
  rw [← fold_eqF]

/-! ### make([]T, 0, n) -/
theorem make0 {P : Program} {α : Type} (d : Kd α) (w : World) {ops : Array Oper} {rest : List Oper} {o : Oper} {a : Act} {Q : Exit → Act → World → Prop}
    (hg : o.guard = none) (l c : Operand) (t : TypeId) (hop : o.op = Op.makeSlice t l c)
    (e : TypeId) (z : Value) (bytes : Nat) (ht : P.underlying t = some (.slice e)) (hinfo : (P.info? e).map (fun i => (i.zero, i.size, i.bytes)) = some (some z, d.sz, bytes))
    (C : Int) (n : Nat) (hl : a.eval l = .int .i64 0) (hc : a.eval c = .int .i64 C) (hC : C = (n : Int)) (b2 : bytes * n ≤ 281474976710656) (b3 : n ≤ 9223372036854775807)
    (hK : ∀ w' : World, w'.heap.size = w.heap.size + 1 → Below w.heap.size w w' → (∀ base ok, base ≤ w.heap.size → ok w.heap.size → d.R e w' base ok (.slice (some ⟨w.heap.size, 0, none⟩) 0 n) []) → wpList P ops Q rest (a.put o.dst (.slice (some ⟨w.heap.size, 0, none⟩) 0 n)) w') :
    wpList P ops Q (o :: rest) a w := by
  refine wpList_plain hg fun K hK' => ?_
  obtain ⟨i, hi, hz, hs, hb⟩ := info_parts hinfo
  subst hb
  have hb' : (i.bytes : Int) * (n : Int) ≤ 281474976710656 := by
    have h : ((i.bytes * n : Nat) : Int) ≤ 281474976710656 := by omega
    rwa [Int.natCast_mul] at h
  have hrun := run_make (P := P) w t e i z ht hi hz .i64 .i64 0 n (Int.le_refl _) (by omega) hb' (by omega)
  simp only [Int.toNat_zero, Int.toNat_natCast] at hrun
  subst hC
  unfold Oper.wp
  simp [execOp, hop, hl, hc, hrun, Result.andThen]
  refine hK' _ _ (hK _ (by simp) (below_alloc1 _ _) ?_)
  intro base ok hbase hok
  refine ⟨fun k hk => ?_, [], ?_, Reps.none _ _⟩
  · simp [Value.ownBlock] at hk; subst hk; exact hok
  · have := World.ownsRow_made (base := base) (e := e) (size := i.size) w (madeCells z.cells (n * i.size)) n hbase (by simpa [maxLen] using b3) (size_madeCells _ _)
    rw [← hs]
    exact this

theorem size_asc (k : Nat) : Asc (word k ++ emptyW) := by
  intro c hc
  have : ∀ k, ∀ c ∈ word k ++ emptyW, c.toNat < 128 := by
    intro k
    match k with
    | 0 => decide
    | 1 => decide
    | 2 => decide
    | 3 => decide
    | 4 => decide
    | 5 => decide
    | 6 => decide
    | 7 => decide
    | n + 8 => exact (by decide : ∀ c ∈ word 0 ++ emptyW, c.toNat < 128)
  exact this k c hc

theorem R_empty {α : Type} (d : Kd α) (e : Nat) (w : World) : d.R e (w.alloc (.cells #[] e)) w.heap.size (fun _ => True) (.slice (some ⟨w.heap.size, 0, none⟩) 0 0) [] :=
  ⟨fun _ _ => trivial, [], World.ownsRow_made w #[] 0 (Nat.le_refl _) (by decide) (by simp), Reps.none _ _⟩
theorem line54_e (s : Bs) (w : World) (hl : s.length ≤ 1000000000) (ha : Asc s) (he : eqF s (word 2 ++ emptyW) = true) :
    Calls Tryz.prog 54 #[S s] w fun e w' => ∃ x, e = .returned (.tuple #[x, .nilIface]) ∧ ptK.R 61 w' w.heap.size (fun _ => True) x [] ∧ Below w.heap.size w w' := by
  have hf := fold_any s (word 2 ++ emptyW) w hl ha (size_asc 2)
  rw [he] at hf
  go_enter Tryz.func54, Tryz.ntmps54
  go_wp2_with fail
  refine hf.mono ?_
  rintro e w' ⟨rfl, rfl⟩
  clear he hf
  go_wp2
  go_ret2
  exact ⟨_, rfl, R_empty _ _ _, below_alloc1 _ _⟩
theorem line54_b (s : Bs) (w : World) {B0 : Nat} (hg : Gl B0 w) (hl : s.length ≤ 1000000000) (h10 : 10 ≤ s.length) (ha : Asc s) (he : eqF s (word 2 ++ emptyW) = false) (hm : trimBr (s.drop 10) = none) :
    Calls Tryz.prog 54 #[S s] w fun e w' => (∃ u v, e = .returned (.tuple #[.slice none 0 0, .iface u v])) ∧ Below w.heap.size w w' := by
  have hf := fold_any s (word 2 ++ emptyW) w hl ha (size_asc 2)
  rw [he] at hf
  have hd : (s.drop 10).length ≤ 1000000000 := by simp; omega
  have hb := trimBr_none (s.drop 10) w hd hg hm
  clear he hm
  go_enter Tryz.func54, Tryz.ntmps54
  go_wp2_with fail
  refine hf.mono ?_
  rintro e w' ⟨rfl, rfl⟩
  clear hf
  go_wp2_with fail
  refine hb.mono ?_
  rintro e w1 ⟨⟨u, v, rfl⟩, hb1⟩
  clear hb
  have HB := Lib.hid hb1
  clear hb1
  go_wp2
  go_ret2
  exact ⟨⟨_, _, rfl⟩, HB.out⟩

theorem yields80 (pf : Bs → Rd Nat) (hpf : PfOk pf) (b B B0 : Nat) (w0 : World) (hg : Gl B0 w0) (hB0 : B0 ≤ B) (hB : B ≤ b) :
    Yields 80 b B (parseP pf) (fun ps w => Below B w0 w ∧ RowAt ptK 61 65 B b ps w) := by
  intro l done w r hl hd hi hr hn
  refine (clos80_any pf hpf l w b B B0 done r hl (hg.below hi.1 hB0) hr hn hi.2 hB hd).mono ?_
  rintro e w' ⟨h1, h2⟩
  refine ⟨?_, h2⟩
  cases r with
  | unk => exact absurd rfl hn
  | err => exact h1
  | ok p => exact ⟨h1.1, hi.1.trans h2, h1.2⟩

set_option maxRecDepth 20000 in
theorem line54_r (pf : Bs → Rd Nat) (hpf : PfOk pf) (s m : Bs) (w : World) {B0 : Nat} (hg : Gl B0 w) (hl : s.length ≤ 1000000000) (h10 : 10 ≤ s.length) (ha : Asc s) (he : eqF s (word 2 ++ emptyW) = false) (hm : trimBr (s.drop 10) = some m)
    (r : Rd (List Pt)) (hr : readPts pf m = r) (hn : r ≠ .unk) :
    Calls Tryz.prog 54 #[S s] w fun e w' => Res (.slice none 0 0) r (fun ps x w' => ptK.R 61 w' w.heap.size (fun _ => True) x ps) e w' ∧ Below w.heap.size w w' := by
  have hf := fold_any s (word 2 ++ emptyW) w hl ha (size_asc 2)
  rw [he] at hf
  have hd : (s.drop 10).length ≤ 1000000000 := by simp; omega
  have hml : m.length ≤ 1000000000 := Nat.le_trans (trimBr_le hm) hd
  have hb := trimBr_some (s.drop 10) m w hd hm
  have hc := commas_any m w hml
  clear he hm
  go_enter Tryz.func54, Tryz.ntmps54
  go_wp2_with fail
  refine hf.mono ?_
  rintro e w' ⟨rfl, rfl⟩
  clear hf
  go_wp2_with fail
  refine hb.mono ?_
  rintro e w1 ⟨rfl, rfl⟩
  clear hb
  go_wp2_with fail
  refine hc.mono ?_
  rintro e w1 ⟨⟨n, hnm, rfl⟩, rfl⟩
  clear hc
  go_wp2_with (at_make; go_loud (refine make0 ptK _ rfl _ _ 65 rfl 61 _ _ Tryz.underlying65 info61 _ (n + 1) rfl rfl (by simp) (by omega) (by omega) ?_))
  intro w1 hsz hb1 hR
  have hR1 := hR w.heap.size (fun k => k ≠ w.heap.size + 1) (Nat.le_refl _) (by omega)
  have hg1 := hg.low hb1
  have hR2 := Kd.R_alloc hR1 (.cells #[.slice (some ⟨w.heap.size, 0, none⟩) 0 (n + 1)] 65 (0, 0))
  have hb2 : Below w.heap.size w (w1.alloc (.cells #[.slice (some ⟨w.heap.size, 0, none⟩) 0 (n + 1)] 65 (0, 0))) := hb1.alloc hb1.size _
  have hg2 : Gl B0 (w1.alloc (.cells #[.slice (some ⟨w.heap.size, 0, none⟩) 0 (n + 1)] 65 (0, 0))) := hg.low hb2
  have hnew : (w1.alloc (.cells #[.slice (some ⟨w.heap.size, 0, none⟩) 0 (n + 1)] 65 (0, 0))).heap[w.heap.size + 1]? = some (.cells #[.slice (some ⟨w.heap.size, 0, none⟩) 0 (n + 1)] 65 (0, 0)) := by
    rw [← hsz]; exact blk_new _ _
  have HN := Lib.hid hnew
  have HR := Lib.hid hR2
  clear hR hR1 hnew hR2 hb1
  go_wp2_with fail
  have hw2s : (w1.alloc (.cells #[.slice (some ⟨w.heap.size, 0, none⟩) 0 (n + 1)] 65 (0, 0))).heap.size = w.heap.size + 2 := by simp [hsz]
  have hcall := splitC_any 80 (w.heap.size + 1) w.heap.size (parseP pf) (fun ps w2 => Below w.heap.size (w1.alloc (.cells #[.slice (some ⟨w.heap.size, 0, none⟩) 0 (n + 1)] 65 (0, 0))) w2 ∧ RowAt ptK 61 65 w.heap.size (w.heap.size + 1) ps w2)
    call80 (yields80 pf hpf (w.heap.size + 1) w.heap.size B0 _ hg2 hg.le (by omega)) m _ r hml ⟨Below.refl _ _, _, HN.out, HR.out⟩ hr hn (by omega)
  refine hcall.mono ?_
  clear hcall
  cases r with
  | unk => exact absurd rfl hn
  | err =>
    rintro e w2 ⟨⟨u, v, rfl⟩, hb3⟩
    have HB := Lib.hid (hb2.trans hb3)
    clear hb2 hb3 hr hg2 hg1 hw2s
    go_wp2
    go_ret2
    exact ⟨⟨_, _, rfl⟩, HB.out⟩
  | ok ps =>
    rintro e w2 ⟨⟨rfl, -, sv, hk, hR3⟩, hb3⟩
    obtain ⟨A, k, c, rfl⟩ := R_sl hR3
    have HB := Lib.hid (hb2.trans hb3)
    have HR3 := Lib.hid hR3
    have hcell := box_cell hk
    clear hb2 hb3 hr hg2 hg1 hw2s hR3 hk
    go_wp2
    go_ret2
    exact ⟨⟨_, rfl, Kd.R_mono HR3.out (fun _ _ => trivial)⟩, HB.out⟩

/-- unmarshalLineString. -/
theorem line54_any (pf : Bs → Rd Nat) (hpf : PfOk pf) (s : Bs) (w : World) {B0 : Nat} (hg : Gl B0 w) (hl : s.length ≤ 1000000000) (h10 : 10 ≤ s.length) (ha : Asc s)
    (r : Rd (List Pt)) (hr : (if eqF s (word 2 ++ emptyW) then .ok [] else inBr (readPts pf) (s.drop 10)) = r) (hn : r ≠ .unk) :
    Calls Tryz.prog 54 #[S s] w fun e w' => Res (.slice none 0 0) r (fun ps x w' => ptK.R 61 w' w.heap.size (fun _ => True) x ps) e w' ∧ Below w.heap.size w w' := by
  cases he : eqF s (word 2 ++ emptyW) with
  | true =>
    rw [he] at hr
    subst hr
    exact (line54_e s w hl ha he).mono fun e w' ⟨x, h1, h2, h3⟩ => ⟨⟨x, h1, h2⟩, h3⟩
  | false =>
    rw [he] at hr
    simp only [Bool.false_eq_true, if_false] at hr
    unfold inBr at hr
    cases hm : trimBr (s.drop 10) with
    | none =>
      rw [hm] at hr
      subst hr
      exact line54_b s w hg hl h10 ha he hm
    | some m =>
      rw [hm] at hr
      exact line54_r pf hpf s m w hg hl h10 ha he hm r hr hn
end Go.Proofs.YtghajgdiaopioaaGreatDoor
end
