/- FnReadAs's card: the statement, tied to the program's text, holds. Conditions: none. -/
import Derived.Test.YtghajgdiaopioaaGreatDoorKk
set_option linter.unusedVariables false
set_option linter.unusedSimpArgs false
namespace Go.Proofs.YtghajgdiaopioaaGreatDoor.fnReadAs
open Go.RowKit Go.ChangeShapes Go.WideShapes Go.ChangeAt Go.Proofs Tx

theorem joined : joinedFacts Tryz.pinned.checked.prog 5 Tryz.f5 (OpenSpec.ofChange Rows.fnReadAsSpec).bare Rows.fnReadAsRow = true := by kernel_rfl
theorem named : Tryz.pinned.checked.prog.funcNamed Rows.fnReadAsRow.func = some 5 := by kernel_rfl
theorem inst : Tryz.f5.isInstance Tryz.pinned.checked.prog Rows.fnReadAsRow.origin Rows.fnReadAsRow.targs := of_decide_eq_true (by kernel_rfl)
theorem wrapper : Tryz.f5.isWrapper Tryz.pinned.checked.prog Rows.fnReadAsRow.wrapper Rows.fnReadAsRow.mainSum := by
  unfold Func.isWrapper; first | (rw [if_pos (by decide +kernel)]; kernel_rfl) | (rw [if_neg (by decide +kernel)]; exact ⟨rfl, rfl⟩)
theorem said : Rows.FnReadAsSaid :=
  OpenClaim.holds_of_cond 5 Tryz.f5 rfl rfl rfl rfl rfl rfl rfl ⟨rfl, rfl, rfl, rfl, rfl⟩ rfl rfl rfl rfl rfl named Tryz.func5 joined inst wrapper
    (fun os started H enc _ F => by rw [OpenClaim.pre_eq_preRow]; exact lifted os started H enc F)
theorem looks : true = Tryz.pinned.checked.prog.looks [] := by kernel_rfl
theorem plain (f : FuncId) (fn : Func) (hf : Tryz.pinned.checked.prog.funcNamed Rows.fnReadAsRow.func = some f) (hfn : Tryz.pinned.checked.prog.funcs[f]? = some fn) :
    true = Tryz.pinned.checked.prog.looks [] ∧ ∀ (j : Nat) t, fn.params[j]? = some t → Tryz.pinned.checked.prog.wantsStandIn t = false := by
  obtain rfl : f = 5 := Option.some.inj (named.symm.trans hf) |>.symm
  obtain rfl : fn = Tryz.f5 := (Option.some.inj (Tryz.func5.symm.trans hfn)).symm
  refine ⟨looks, fun j t ht => ?_⟩
  rw [Tryz.params5] at ht
  have hm : t = 25 ∨ t = 3 := by simpa using Array.mem_of_getElem? ht
  rcases hm with rfl | rfl
  · exact (show Tryz.prog.wantsStandIn 25 = false by kernel_rfl)
  · exact (show Tryz.prog.wantsStandIn 3 = false by kernel_rfl)
theorem wf : Rows.fnReadAsRow.wfByText (OpenSpec.ofChange Rows.fnReadAsSpec) = true := by kernel_rfl
theorem main : Tryz.pinned.checked.prog.mainIs = some (true, "709fda3d83bd93bf4f39926ad088f34f13377043fad0f27cd99caab4cd8ff96a".toList) := by kernel_rfl
theorem goes : false = Rows.fnReadAsRow.goesBy Tryz.pinned.checked.prog := by kernel_rfl
theorem card : Rows.FnReadAsCardSaid :=
  Claim7.holds_tied_plain_at .later [] _ _ (true, "709fda3d83bd93bf4f39926ad088f34f13377043fad0f27cd99caab4cd8ff96a") true said (fun _ h => by cases h) wf (fun _ h => by cases h) fnReadAs_row_tie rfl ⟨rfl, rfl⟩ main rfl plain goes
end Go.Proofs.YtghajgdiaopioaaGreatDoor.fnReadAs
#print axioms Go.Proofs.YtghajgdiaopioaaGreatDoor.fnReadAs.card
