/- FnTextThere's row. -/
import Derived.Test.YtghajgdiaopioaaGreatDoorKm
import Derived.Test.YtghajgdiaopioaaGreatDoorJxw
import Derived.Test.YtghajgdiaopioaaGreatDoorCards
import Derived.Test.YtghajgdiaopioaaGreatDoorTie
set_option linter.unusedVariables false
set_option linter.unusedSimpArgs false
namespace Go.Proofs.YtghajgdiaopioaaGreatDoor.fnTextThere
open Go.RowKit Go.ChangeShapes Go.WideShapes Go.ChangeAt Go.Proofs Tx

set_option maxRecDepth 100000 in
theorem contract (H : Type) (enc : TypeId × Value → H) (W : World) (base : Nat) (args : Array Value) (ds gs : List (DataW H)) (before : List MemPlace)
    (hval : ∀ (j : Nat) t v, Tryz.f6.params[j]? = some t → args[j]? = some v → Value.okWide Tryz.prog W .any base t v)
    (hW : DataW.Whole enc Tryz.prog Tryz.f6.params.toList Rows.fnTextThereSpec.vars false W args.toList ds gs before)
    (hz : (DataW.weightsEach Tryz.prog (Tryz.f6.params.toList ++ (OpenSpec.ofChange Rows.fnTextThereSpec).bare.plain.varTypes Tryz.prog) (ds ++ gs)).all (· ≤ reachBytes) = true)
    (hL : laidMetH Tryz.prog Rows.fnTextThereRow.laid W) :
    Calls Tryz.prog 6 args W fun e W' => ∃ v, e = .returned v ∧ Rows.fnTextThereSpec.post enc Tryz.prog Tryz.f6 false true false false W args v W' := by
  have hW' := hW
  have hL0 : laidMetH Tryz.prog Rows.fnTextThereRow.laid W := hL
  obtain ⟨p, q, hA0, hV, rfl, hfz, hnd⟩ := hW
  have hA : DataW.TrodAll enc Tryz.prog W 0 (fun _ => true) true Tryz.f6.params.toList args.toList ds p := hA0
  rw [Tryz.params6] at hA hval
  clear hA0
  obtain ⟨v0, d0, rfl, rfl, h0⟩ := trodAll_one hA
  rw [Tryz.params6] at hz
  obtain ⟨n, s, hsh, hl, ha⟩ := arg_sh (hval 0 25 v0 rfl rfl) h0 (wk_head hz)
  have hg : gs.length = 2 := trodVars_len hV
  obtain ⟨g1, g2, rfl⟩ : ∃ g1 g2, gs = [g1, g2] := by
    match gs, hg with
    | [g1, g2], _ => exact ⟨g1, g2, rfl⟩
  refine (fnTextThere_any n W s v0  hsh hl ha (e0_of hL0 listedT)).mono fun e W' ⟨he, hb⟩ => ?_
  subst he
  refine ⟨_, rfl, post_low laidOut hW' hb ?_ rdb_vars2 ⟨rfl, rfl⟩ (fun _ _ _ => trodAll_cons_mk (shut_bool Tryz.underlying4 _) trodAll_mk0) (ok_one (by kernel_rfl) rfl (okWide_bool_mk Tryz.underlying4 _))⟩
  rw [Tryz.params6]
  intro t ht
  simp only [List.mem_cons, List.mem_nil_iff, or_false] at ht
  subst ht
  exact rdb25

theorem witness_row (os : Os) {H : Type} (enc : TypeId × Value → H) :
    (OpenSpec.ofChange Rows.fnTextThereSpec).preRow enc Tryz.prog Tryz.f6 Rows.fnTextThereRow.domain false Rows.fnTextThereRow.laid ((World.laidAll Tryz.prog os Rows.fnTextThereRow.laid).forCall (fun _ _ => 0) ⟨#[], #[.agg #[.int .i64 0, .slice none 0 0, .slice none 0 0]], []⟩).memory #[.agg #[.int .i64 0, .slice none 0 0, .slice none 0 0]] := by
  refine OpenSpec.preRow_of_B rfl 12 (by kernel_rfl) (by kernel_rfl) ?_
  show laidMetH Tryz.prog Rows.fnTextThereRow.laid _
  rw [MakeChecks.laidMetH_plain _ _ _ (by kernel_rfl)]
  exact laidMet_laidAll _ (lay_fitsT os) (lay_ifacesT os)
theorem witness (os : Os) {H : Type} (enc : TypeId × Value → H) :
    ∃ (w : World) (tape : Tape) (i : Input), w.os = os ∧ (w.forCall tape i).Shaped Tryz.checked.prog ∧ i.vars = [] ∧ Input.okWide Tryz.checked.prog (w.forCall tape i) .any w.heap.size 6 i ∧
      (OpenSpec.ofChange Rows.fnTextThereSpec).preRow enc Tryz.checked.prog Tryz.f6 Rows.fnTextThereRow.domain false Rows.fnTextThereRow.laid (w.forCall tape i).memory i.args ∧ ({ modest := false } : Assume).holds Tryz.checked.prog (lone (Frame.enter Tryz.checked.prog 6 i.args .normal) [] (w.forCall tape i)) := by
  have hok : Input.okWideB Tryz.checked.prog ((World.laidAll Tryz.prog os Rows.fnTextThereRow.laid).forCall (fun _ _ => 0) ⟨#[], #[.agg #[.int .i64 0, .slice none 0 0, .slice none 0 0]], []⟩) 6 ⟨#[], #[.agg #[.int .i64 0, .slice none 0 0, .slice none 0 0]], []⟩ = true := by kernel_rfl
  refine ⟨World.laidAll Tryz.prog os Rows.fnTextThereRow.laid, fun _ _ => 0, ⟨#[], #[.agg #[.int .i64 0, .slice none 0 0, .slice none 0 0]], []⟩, World.laidAll_os _ _ _, World.shaped_of_ZipB (by kernel_rfl) (by kernel_rfl), (Input.okWide_of_okWideB (base := 0) hok).1, (Input.okWide_of_okWideB hok).2, witness_row os enc, ?_⟩
  simp only [Assume.holds]
  exact ⟨by simp, by simp, by simp, by simp, by simp⟩

set_option maxRecDepth 100000 in
theorem lifted (os : Os) (started : os.Started) (H : Type) (enc : TypeId × Value → H) (F : Stop.Interp) :
    ReturnsInHanded {} Tryz.checked os 6 .any ((OpenSpec.ofChange Rows.fnTextThereSpec).preRow enc Tryz.prog Tryz.f6 Rows.fnTextThereRow.domain false Rows.fnTextThereRow.laid) (((OpenSpec.ofChange Rows.fnTextThereSpec).at F).post enc Tryz.prog Tryz.f6 false true false false) := by
  refine returnsInHanded_of_row (C := Tryz.checked) (s := OpenSpec.ofChange Rows.fnTextThereSpec) own started (by kernel_rfl) Tryz.func6 (witness os enc) ?_
  intro W base args ds gs before hval hW _ _ hz hL _ _
  exact contract H enc W base args ds gs before hval hW hz hL
end Go.Proofs.YtghajgdiaopioaaGreatDoor.fnTextThere
