/- Walks and plain laws joined (Hi). Conditions: stand in each law. -/
import Derived.Test.YtghajgdiaopioaaGreatDoorJt
import Derived.Test.YtghajgdiaopioaaGreatDoorJxe
import Derived.Test.YtghajgdiaopioaaGreatDoorJxl
set_option linter.unusedVariables false
set_option linter.unusedSimpArgs false
section
/- Walks: several bytes appended. Conditions: stand in each contract. -/
namespace Go.Proofs.YtghajgdiaopioaaGreatDoor
open Go.RowKit Go.Proofs Tx
open Go.Proofs.YtghajgdiaopioaaGreatDoorW.PrintWords
/-- Bytes that lie in a block, one behind the other. -/
theorem byte_row {w : World} {g off : Nat} {ys : Bs} (hl : ys.length ≤ 1000) (h : ∀ j (hj : j < ys.length), w.cell? ⟨g, off + j, none⟩ = some (byteV ys[j])) :
    byteK.C w (some ⟨g, off, none⟩) ys.length ys := by
  refine ⟨rfl, by show ys.length ≤ _; exact Nat.le_trans hl (by decide), fun _ => ⟨_, rfl, fun j p hj => ?_⟩⟩
  obtain ⟨hjl, hp⟩ := List.getElem?_eq_some_iff.1 hj
  refine ⟨[byteV p], rfl, rfl, fun i u hi => ?_⟩
  rcases i with _ | i
  · simp only [List.getElem?_cons_zero, Option.some.injEq] at hi
    subst hi
    have := h j hjl
    rw [hp] at this
    have e : ((⟨g, off, none⟩ : Addr).add (j * byteK.sz + 0)) = ⟨g, off + j, none⟩ := by
      have : byteK.sz = 1 := rfl
      rw [this, Nat.mul_one, Nat.add_zero]
      unfold Addr.add
      split
      · rename_i hz; subst hz; rfl
      · rfl
    first
    | (rw [e]; exact this)
    | (simpa [Addr.add] using this)
  · simp at hi

theorem below_then2 {B : Nat} {w0 W W' : World} (h : Below B w0 W) (hb : Below W.heap.size W W') (hB : B ≤ W.heap.size) : Below B w0 W' := h.trans (hb.mono hB)
/-- A row of the digits appended. -/
theorem row_append {P : Program} {ops : Array Oper} {rest : List Oper} {o : Oper} {a : Act} {Q : Exit → Act → World → Prop} {w0 W : World} (g B : Nat) (hgd : o.guard = none) (s x : Operand)
    (ho : o.op = .call { callee := .builtin .append, args := #[s, x], argTypes := #[92, 92] })
    (ht : P.underlying 92 = some (.slice 5)) (hinfo : (P.info? 5).map (fun i => (i.zero, i.size, i.bytes)) = some (some (.int .u8 0), 1, 1))
    (A : Option Addr) (k c : Nat) (xs ys : Bs) (off c2 : Nat) (hs : a.eval s = .slice A k c) (hx : a.eval x = .slice (some ⟨g, off, none⟩) ys.length c2)
    (HR : byteK.R 5 W B (fun q => q ≠ g) (.slice A k c) xs) (ds : Bs) (HD : DigAt g ds W) (hys : ys = ds.drop off) (hyl : ys.length ≤ 1000) (HB : Below B w0 W) (hB : B ≤ W.heap.size) (hl : xs.length ≤ 1000000)
    (h : ∀ (A' : Option Addr) (k' c' : Nat) (w1 : World), byteK.R 5 w1 B (fun q => q ≠ g) (.slice A' k' c') (xs ++ ys) → DigAt g ds w1 → Below B w0 w1 → W.heap.size ≤ w1.heap.size → wpList P ops Q rest (a.put o.dst (.slice A' k' c')) w1) :
    wpList P ops Q (o :: rest) a W := by
  have hC : byteK.C W (some ⟨g, off, none⟩) ys.length ys := by
    refine byte_row hyl fun j hj => ?_
    have hj2 : off + j < ds.length := by rw [hys, List.length_drop] at hj; omega
    have := HD.2 (off + j) hj2
    rw [this]
    congr 2
    simp [hys]
  refine Kd.R_append_row byteV 0 (h1 := fun _ => rfl) (w0 := w0) B hgd s x 92 5 (.int .u8 0) 1 ho ht hinfo rfl (by decide) (.slice A k c) xs ys (some ⟨g, off, none⟩) ys.length c2 (fun q => q ≠ g) hs hx (fun q hq => by have := HD.1; show q ≠ g; omega) HR hC HB hB (by omega) ?_
  intro v1 w1 hR1 hb1 hg1 hat1
  obtain ⟨A', k', c', rfl⟩ := R_sl hR1
  exact h A' k' c' w1 hR1 (HD.grown hg1 (fun e => HR.1 g e.symm rfl)) hb1 hg1.size
/-- Bytes made on the spot, appended. -/
theorem bytes_append {P : Program} {ops : Array Oper} {rest : List Oper} {o : Oper} {a : Act} {Q : Exit → Act → World → Prop} {w0 W : World} (g B : Nat) (hgd : o.guard = none) (s x : Operand)
    (ho : o.op = .call { callee := .builtin .append, args := #[s, x], argTypes := #[92, 92] })
    (ht : P.underlying 92 = some (.slice 5)) (hinfo : (P.info? 5).map (fun i => (i.zero, i.size, i.bytes)) = some (some (.int .u8 0), 1, 1))
    (A : Option Addr) (k c : Nat) (xs ys : Bs) (n : Nat) (hn : n = ys.length) (vs : Array Value) (hvs : vs = (ys.map byteV).toArray) (hs : a.eval s = .slice A k c) (hx : a.eval x = .slice (some ⟨W.heap.size, 0, none⟩) n n)
    (HR : byteK.R 5 W B (fun q => q ≠ g) (.slice A k c) xs) (ds : Bs) (HD : DigAt g ds W) (hyl : ys.length ≤ 1000) (HB : Below B w0 W) (hB : B ≤ W.heap.size) (hl : xs.length ≤ 1000000)
    (h : ∀ (A' : Option Addr) (k' c' : Nat) (w1 : World), byteK.R 5 w1 B (fun q => q ≠ g) (.slice A' k' c') (xs ++ ys) → DigAt g ds w1 → Below B w0 w1 → W.heap.size ≤ w1.heap.size → wpList P ops Q rest (a.put o.dst (.slice A' k' c')) w1) :
    wpList P ops Q (o :: rest) a (W.alloc (.cells vs 5)) := by
  subst hn
  have hal := below_alloc1 W (.cells vs 5)
  have hR2 := Kd.R_below HR hal
  have hD2 := HD.below hal
  have hsz : (W.alloc (.cells vs 5)).heap.size = W.heap.size + 1 := by simp
  have hC : byteK.C (W.alloc (.cells vs 5)) (some ⟨W.heap.size, 0, none⟩) ys.length ys := by
    refine byte_row hyl fun j hj => ?_
    have := blk_cell (blk_new W (.cells vs 5)) (0 + j)
    rw [this, hvs]
    simp [hj]
  refine Kd.R_append_row byteV 0 (h1 := fun _ => rfl) (w0 := w0) B hgd s x 92 5 (.int .u8 0) 1 ho ht hinfo rfl (by decide) (.slice A k c) xs ys (some ⟨W.heap.size, 0, none⟩) ys.length ys.length (fun q => q ≠ g) hs hx (fun q hq => by have := hD2.1; show q ≠ g; omega) hR2 hC (below_then2 HB hal hB) (by omega) (by omega) ?_
  intro v1 w1 hR1 hb1 hg1 hat1
  obtain ⟨A', k', c', rfl⟩ := R_sl hR1
  exact h A' k' c' w1 hR1 (hD2.grown hg1 (fun e => hR2.1 g e.symm rfl)) hb1 (by have := hg1.size; omega)
end Go.Proofs.YtghajgdiaopioaaGreatDoor
end
