/- FnReadStyle's row. -/
import Derived.Test.YtghajgdiaopioaaGreatDoorJz
import Derived.Test.YtghajgdiaopioaaGreatDoorJxa
import Derived.Test.YtghajgdiaopioaaGreatDoorCards
import Derived.Test.YtghajgdiaopioaaGreatDoorTie
set_option linter.unusedVariables false
set_option linter.unusedSimpArgs false
namespace Go.Proofs.YtghajgdiaopioaaGreatDoor.fnReadStyle
open Go.RowKit Go.ChangeShapes Go.WideShapes Go.ChangeAt Go.Proofs Tx

set_option maxRecDepth 100000 in
theorem contract (H : Type) (enc : TypeId × Value → H) (W : World) (base : Nat) (args : Array Value) (ds gs : List (DataW H)) (before : List MemPlace)
    (hval : ∀ (j : Nat) t v, Tryz.f8.params[j]? = some t → args[j]? = some v → Value.okWide Tryz.prog W .any base t v)
    (hW : DataW.Whole enc Tryz.prog Tryz.f8.params.toList Rows.fnReadStyleSpec.vars false W args.toList ds gs before)
    (hz : (DataW.weightsEach Tryz.prog (Tryz.f8.params.toList ++ (OpenSpec.ofChange Rows.fnReadStyleSpec).bare.plain.varTypes Tryz.prog) (ds ++ gs)).all (· ≤ reachBytes) = true)
    (hL : laidMetH Tryz.prog Rows.fnReadStyleRow.laid W) :
    Calls Tryz.prog 8 args W fun e W' => ∃ v, e = .returned v ∧ Rows.fnReadStyleSpec.post enc Tryz.prog Tryz.f8 false true false false W args v W' := by
  have hW' := hW
  have hL0 : laidMetH Tryz.prog Rows.fnWriteRow.laid W := hL
  obtain ⟨p, q, hA0, hV, rfl, hfz, hnd⟩ := hW
  have hA : DataW.TrodAll enc Tryz.prog W 0 (fun _ => true) true Tryz.f8.params.toList args.toList ds p := hA0
  rw [Tryz.params8] at hA hval
  clear hA0
  obtain ⟨v0, vs0, d0, ds0, p0, q0, hargs, rfl, rfl, h0, r0⟩ := trodAll_cons hA
  obtain ⟨v1, vs1, d1, ds1, p1, q1, rfl, rfl, rfl, h1, r1⟩ := trodAll_cons r0
  obtain ⟨v2, vs2, d2, ds2, p2, q2, rfl, rfl, rfl, h2, r2⟩ := trodAll_cons r1
  obtain ⟨rfl, rfl, rfl⟩ := trodAll_nil r2
  obtain rfl : args = #[v0, v1, v2] := by cases args; simp_all
  obtain ⟨x1, rfl, rfl, rfl⟩ := open_bool Tryz.underlying4 (hval 1 4 v1 rfl rfl) h1
  obtain ⟨x2, rfl, rfl, rfl⟩ := open_bool Tryz.underlying4 (hval 2 4 v2 rfl rfl) h2
  rw [Tryz.params8] at hz
  obtain ⟨n, s, hsh, hl, ha⟩ := arg_sh (hval 0 25 v0 rfl rfl) h0 (wk_head hz)
  have hg : gs.length = 3 := trodVars_len hV
  obtain ⟨g1, g2, g3, rfl⟩ : ∃ g1 g2 g3, gs = [g1, g2, g3] := by
    match gs, hg with
    | [g1, g2, g3], _ => exact ⟨g1, g2, g3, rfl⟩
  refine (fnReadStyle_any n W s v0 x1 x2 hsh hl ha (ev_of hL0 listed4)).mono fun e W' ⟨he, hb⟩ => ?_
  subst he
  refine ⟨_, rfl, post_low laidOut hW' hb ?_ rdb_vars3 ⟨rfl, rfl⟩ (fun _ _ _ => trodAll_cons_mk (shut_bool Tryz.underlying4 _) trodAll_mk0) (ok_one (by kernel_rfl) rfl (okWide_bool_mk Tryz.underlying4 _))⟩
  rw [Tryz.params8]
  intro t ht
  simp only [List.mem_cons, List.mem_nil_iff, or_false] at ht
  rcases ht with rfl | rfl | rfl
  · exact rdb25
  · exact rdb4
  · exact rdb4

theorem witness_row (os : Os) {H : Type} (enc : TypeId × Value → H) :
    (OpenSpec.ofChange Rows.fnReadStyleSpec).preRow enc Tryz.prog Tryz.f8 Rows.fnReadStyleRow.domain false Rows.fnReadStyleRow.laid ((World.laidAll Tryz.prog os Rows.fnWriteRow.laid).forCall (fun _ _ => 0) ⟨#[], #[.agg #[.int .i64 0, .slice none 0 0, .slice none 0 0], .bool false, .bool false], []⟩).memory #[.agg #[.int .i64 0, .slice none 0 0, .slice none 0 0], .bool false, .bool false] := by
  refine OpenSpec.preRow_of_B rfl 12 (by kernel_rfl) (by kernel_rfl) ?_
  show laidMetH Tryz.prog Rows.fnWriteRow.laid _
  rw [MakeChecks.laidMetH_plain _ _ _ (by kernel_rfl)]
  exact laidMet_laidAll _ (lay_fits os) (lay_ifaces os)
theorem witness (os : Os) {H : Type} (enc : TypeId × Value → H) :
    ∃ (w : World) (tape : Tape) (i : Input), w.os = os ∧ (w.forCall tape i).Shaped Tryz.checked.prog ∧ i.vars = [] ∧ Input.okWide Tryz.checked.prog (w.forCall tape i) .any w.heap.size 8 i ∧
      (OpenSpec.ofChange Rows.fnReadStyleSpec).preRow enc Tryz.checked.prog Tryz.f8 Rows.fnReadStyleRow.domain false Rows.fnReadStyleRow.laid (w.forCall tape i).memory i.args ∧ ({ modest := false } : Assume).holds Tryz.checked.prog (lone (Frame.enter Tryz.checked.prog 8 i.args .normal) [] (w.forCall tape i)) := by
  have hok : Input.okWideB Tryz.checked.prog ((World.laidAll Tryz.prog os Rows.fnWriteRow.laid).forCall (fun _ _ => 0) ⟨#[], #[.agg #[.int .i64 0, .slice none 0 0, .slice none 0 0], .bool false, .bool false], []⟩) 8 ⟨#[], #[.agg #[.int .i64 0, .slice none 0 0, .slice none 0 0], .bool false, .bool false], []⟩ = true := by kernel_rfl
  refine ⟨World.laidAll Tryz.prog os Rows.fnWriteRow.laid, fun _ _ => 0, ⟨#[], #[.agg #[.int .i64 0, .slice none 0 0, .slice none 0 0], .bool false, .bool false], []⟩, World.laidAll_os _ _ _, World.shaped_of_ZipB (by kernel_rfl) (by kernel_rfl), (Input.okWide_of_okWideB (base := 0) hok).1, (Input.okWide_of_okWideB hok).2, witness_row os enc, ?_⟩
  simp only [Assume.holds]
  exact ⟨by simp, by simp, by simp, by simp, by simp⟩

set_option maxRecDepth 100000 in
theorem lifted (os : Os) (started : os.Started) (H : Type) (enc : TypeId × Value → H) (F : Stop.Interp) :
    ReturnsInHanded {} Tryz.checked os 8 .any ((OpenSpec.ofChange Rows.fnReadStyleSpec).preRow enc Tryz.prog Tryz.f8 Rows.fnReadStyleRow.domain false Rows.fnReadStyleRow.laid) (((OpenSpec.ofChange Rows.fnReadStyleSpec).at F).post enc Tryz.prog Tryz.f8 false true false false) := by
  refine returnsInHanded_of_row (C := Tryz.checked) (s := OpenSpec.ofChange Rows.fnReadStyleSpec) own started (by kernel_rfl) Tryz.func8 (witness os enc) ?_
  intro W base args ds gs before hval hW _ _ hz hL _ _
  exact contract H enc W base args ds gs before hval hW hz hL
end Go.Proofs.YtghajgdiaopioaaGreatDoor.fnReadStyle
