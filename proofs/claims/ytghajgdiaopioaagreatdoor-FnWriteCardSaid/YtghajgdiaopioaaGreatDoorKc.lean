/- FnWrite's card. -/
import Derived.Test.YtghajgdiaopioaaGreatDoorKb
set_option linter.unusedVariables false
set_option linter.unusedSimpArgs false
namespace Go.Proofs.YtghajgdiaopioaaGreatDoor.fnWrite
open Go.RowKit Go.ChangeShapes Go.WideShapes Go.ChangeAt Go.Proofs Tx

theorem joined : joinedFacts Tryz.pinned.checked.prog 4 Tryz.f4 (OpenSpec.ofChange Rows.fnWriteSpec).bare Rows.fnWriteRow = true := by kernel_rfl
theorem named : Tryz.pinned.checked.prog.funcNamed Rows.fnWriteRow.func = some 4 := by kernel_rfl
theorem inst : Tryz.f4.isInstance Tryz.pinned.checked.prog Rows.fnWriteRow.origin Rows.fnWriteRow.targs := of_decide_eq_true (by kernel_rfl)
theorem wrapper : Tryz.f4.isWrapper Tryz.pinned.checked.prog Rows.fnWriteRow.wrapper Rows.fnWriteRow.mainSum := by
  unfold Func.isWrapper; first | (rw [if_pos (by decide +kernel)]; kernel_rfl) | (rw [if_neg (by decide +kernel)]; exact ⟨rfl, rfl⟩)
theorem said : Rows.FnWriteSaid :=
  OpenClaim.holds_of_cond 4 Tryz.f4 rfl rfl rfl rfl rfl rfl rfl ⟨rfl, rfl, rfl, rfl, rfl⟩ rfl rfl rfl rfl rfl named Tryz.func4 joined inst wrapper
    (fun os started H enc _ F => by rw [OpenClaim.pre_eq_preRow]; exact lifted os started H enc F)
theorem looks : true = Tryz.pinned.checked.prog.looks [] := by kernel_rfl
theorem plain (f : FuncId) (fn : Func) (hf : Tryz.pinned.checked.prog.funcNamed "loop.example/pub-g01503/laws.FnWrite" = some f) (hfn : Tryz.pinned.checked.prog.funcs[f]? = some fn) :
    true = Tryz.pinned.checked.prog.looks [] ∧ ∀ (j : Nat) t, fn.params[j]? = some t → Tryz.pinned.checked.prog.wantsStandIn t = false := by
  obtain rfl : f = 4 := Option.some.inj (named.symm.trans hf) |>.symm
  obtain rfl : fn = Tryz.f4 := (Option.some.inj (Tryz.func4.symm.trans hfn)).symm
  refine ⟨looks, fun j t ht => ?_⟩
  rw [Tryz.params4] at ht
  obtain rfl : t = 25 := by simpa using Array.mem_of_getElem? ht
  exact (show Tryz.prog.wantsStandIn 25 = false by kernel_rfl)
theorem wf : Rows.fnWriteRow.wfByText (OpenSpec.ofChange Rows.fnWriteSpec) = true := by kernel_rfl
theorem main : Tryz.pinned.checked.prog.mainIs = some (true, "709fda3d83bd93bf4f39926ad088f34f13377043fad0f27cd99caab4cd8ff96a".toList) := by kernel_rfl
theorem goes : false = Rows.fnWriteRow.goesBy Tryz.pinned.checked.prog := by kernel_rfl
theorem card : Rows.FnWriteCardSaid :=
  Claim7.holds_tied_plain_at .later [] _ _ (true, "709fda3d83bd93bf4f39926ad088f34f13377043fad0f27cd99caab4cd8ff96a") true said (fun _ h => by cases h) wf (fun _ h => by cases h) fnWrite_row_tie rfl ⟨rfl, rfl⟩ main rfl plain goes
end Go.Proofs.YtghajgdiaopioaaGreatDoor.fnWrite
#print axioms Go.Proofs.YtghajgdiaopioaaGreatDoor.fnWrite.card
