/- Walks and plain laws joined (La, Lb). Conditions: stand in each law. -/
import Derived.Test.YtghajgdiaopioaaGreatDoorJxf
set_option linter.unusedVariables false
set_option linter.unusedSimpArgs false
section
/- The laws: what they share; FnWrite. Conditions: stand in each contract. -/
namespace Go.Proofs.YtghajgdiaopioaaGreatDoor
open Go.RowKit Go.Proofs Tx
open Go.Proofs.YtghajgdiaopioaaGreatDoorW.PrintWords
theorem allC_and {p q : Nat → Prop} : ∀ (n : Nat) (g : Geo), g.deep ≤ n → AllC p g → AllC q g → AllC (fun x => p x ∧ q x) g := by
  intro n
  induction n with
  | zero => intro g hg; exfalso; cases g <;> simp [Geo.deep] at hg
  | succ n ih =>
    intro g hd h1 h2
    cases h1 with
    | point k => cases h2 with | point j => exact .point ⟨⟨k.1, j.1⟩, ⟨k.2, j.2⟩⟩
    | line k => cases h2 with | line j => exact .line fun p hp => ⟨⟨(k p hp).1, (j p hp).1⟩, ⟨(k p hp).2, (j p hp).2⟩⟩
    | poly k => cases h2 with | poly j => exact .poly fun r hr p hp => ⟨⟨(k r hr p hp).1, (j r hr p hp).1⟩, ⟨(k r hr p hp).2, (j r hr p hp).2⟩⟩
    | mpoint k => cases h2 with | mpoint j => exact .mpoint fun p hp => ⟨⟨(k p hp).1, (j p hp).1⟩, ⟨(k p hp).2, (j p hp).2⟩⟩
    | mline k => cases h2 with | mline j => exact .mline fun r hr p hp => ⟨⟨(k r hr p hp).1, (j r hr p hp).1⟩, ⟨(k r hr p hp).2, (j r hr p hp).2⟩⟩
    | mpoly k => cases h2 with | mpoly j => exact .mpoly fun s hs r hr p hp => ⟨⟨(k s hs r hr p hp).1, (j s hs r hr p hp).1⟩, ⟨(k s hs r hr p hp).2, (j s hs r hr p hp).2⟩⟩
    | coll k =>
      cases h2 with
      | coll j =>
        simp only [Geo.deep] at hd
        exact .coll fun g hg => ih g (deeps_le (by omega) g hg) (k g hg) (j g hg)
/-! The laws: what is read of a shape's text; FnRead. -/
theorem Wn.asc {x : Nat} (h : Wn x) : Asc (nfW x) := by
  obtain ⟨n, h1, h2, rfl⟩ := h
  rw [nfW_fb h1 h2]
  obtain ⟨d1, -⟩ := dec_all n.natAbs
  unfold Lib.itoa
  split
  · exact Asc.cons (by decide) fun c hc => by have := (d1 c hc).2; omega
  · have : n.toNat = n.natAbs := by omega
    rw [this]
    exact fun c hc => by have := (d1 c hc).2; omega
end Go.Proofs.YtghajgdiaopioaaGreatDoor
end
