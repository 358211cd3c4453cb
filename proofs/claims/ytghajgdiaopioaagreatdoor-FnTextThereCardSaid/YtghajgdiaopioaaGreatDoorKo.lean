/- FnTextThere's card: the statement, tied to the program's text, holds. Conditions: none. -/
import Derived.Test.YtghajgdiaopioaaGreatDoorKn
set_option linter.unusedVariables false
set_option linter.unusedSimpArgs false
namespace Go.Proofs.YtghajgdiaopioaaGreatDoor.fnTextThere
open Go.RowKit Go.ChangeShapes Go.WideShapes Go.ChangeAt Go.Proofs Tx

theorem joined : joinedFacts Tryz.pinned.checked.prog 6 Tryz.f6 (OpenSpec.ofChange Rows.fnTextThereSpec).bare Rows.fnTextThereRow = true := by kernel_rfl
theorem named : Tryz.pinned.checked.prog.funcNamed Rows.fnTextThereRow.func = some 6 := by kernel_rfl
theorem inst : Tryz.f6.isInstance Tryz.pinned.checked.prog Rows.fnTextThereRow.origin Rows.fnTextThereRow.targs := of_decide_eq_true (by kernel_rfl)
theorem wrapper : Tryz.f6.isWrapper Tryz.pinned.checked.prog Rows.fnTextThereRow.wrapper Rows.fnTextThereRow.mainSum := by
  unfold Func.isWrapper; first | (rw [if_pos (by decide +kernel)]; kernel_rfl) | (rw [if_neg (by decide +kernel)]; exact ⟨rfl, rfl⟩)
theorem said : Rows.FnTextThereSaid :=
  OpenClaim.holds_of_cond 6 Tryz.f6 rfl rfl rfl rfl rfl rfl rfl ⟨rfl, rfl, rfl, rfl, rfl⟩ rfl rfl rfl rfl rfl named Tryz.func6 joined inst wrapper
    (fun os started H enc _ F => by rw [OpenClaim.pre_eq_preRow]; exact lifted os started H enc F)
theorem looks : true = Tryz.pinned.checked.prog.looks [] := by kernel_rfl
theorem plain (f : FuncId) (fn : Func) (hf : Tryz.pinned.checked.prog.funcNamed Rows.fnTextThereRow.func = some f) (hfn : Tryz.pinned.checked.prog.funcs[f]? = some fn) :
    true = Tryz.pinned.checked.prog.looks [] ∧ ∀ (j : Nat) t, fn.params[j]? = some t → Tryz.pinned.checked.prog.wantsStandIn t = false := by
  obtain rfl : f = 6 := Option.some.inj (named.symm.trans hf) |>.symm
  obtain rfl : fn = Tryz.f6 := (Option.some.inj (Tryz.func6.symm.trans hfn)).symm
  refine ⟨looks, fun j t ht => ?_⟩
  rw [Tryz.params6] at ht
  have hm : t = 25 := by simpa using Array.mem_of_getElem? ht
  rcases hm with rfl
  · exact (show Tryz.prog.wantsStandIn 25 = false by kernel_rfl)
theorem wf : Rows.fnTextThereRow.wfByText (OpenSpec.ofChange Rows.fnTextThereSpec) = true := by kernel_rfl
theorem main : Tryz.pinned.checked.prog.mainIs = some (true, "709fda3d83bd93bf4f39926ad088f34f13377043fad0f27cd99caab4cd8ff96a".toList) := by kernel_rfl
theorem goes : false = Rows.fnTextThereRow.goesBy Tryz.pinned.checked.prog := by kernel_rfl
theorem card : Rows.FnTextThereCardSaid :=
  Claim7.holds_tied_plain_at .later [] _ _ (true, "709fda3d83bd93bf4f39926ad088f34f13377043fad0f27cd99caab4cd8ff96a") true said (fun _ h => by cases h) wf (fun _ h => by cases h) fnTextThere_row_tie rfl ⟨rfl, rfl⟩ main rfl plain goes
end Go.Proofs.YtghajgdiaopioaaGreatDoor.fnTextThere
