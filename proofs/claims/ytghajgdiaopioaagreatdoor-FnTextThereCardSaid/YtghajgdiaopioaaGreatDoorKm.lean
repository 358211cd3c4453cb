/- FnTextThere's row: the variables' list and the witness's world. Conditions: stand in each law. -/
import Derived.Test.YtghajgdiaopioaaGreatDoorJxf
import Derived.Test.YtghajgdiaopioaaGreatDoorJxw
set_option linter.unusedVariables false
set_option linter.unusedSimpArgs false
set_option maxRecDepth 100000
namespace Go.Proofs.YtghajgdiaopioaaGreatDoor
open Go.RowKit Go.ChangeShapes Go.WideShapes Go.ChangeAt Go.Proofs Tx

theorem rdb_vars2 : ∀ n ∈ ["loop.example/pub-g01503/pub/orbwkt.ErrUnsupportedGeometry", "loop.example/pub-g01503/pub/orbwkt.ErrNotWKT"], ∀ g t, Tryz.prog.globalNamed n = some g → (Tryz.prog.globals[g]?).map (·.type) = some t → Rdb Tryz.prog t := by
  intro n hn
  simp only [List.mem_cons, List.mem_nil_iff, or_false] at hn
  rcases hn with rfl | rfl
  · exact rdb_unsup
  · exact rdb_notw
theorem listedT : Listed0 Rows.fnTextThereRow.laid :=
  ⟨List.mem_of_getElem? (i := 16) rfl, List.mem_of_getElem? (i := 15) rfl, List.mem_of_getElem? (i := 4) rfl, List.mem_of_getElem? (i := 3) rfl, List.mem_of_getElem? (i := 8) rfl, List.mem_of_getElem? (i := 18) rfl, List.mem_of_getElem? (i := 17) rfl, List.mem_of_getElem? (i := 6) rfl, by kernel_rfl⟩
theorem lay_fitsT (os : Os) : (World.holding Tryz.prog os ⟨#[], #[], []⟩).layFits Tryz.prog Rows.fnTextThereRow.laid [] = true := by kernel_rfl
theorem lay_ifacesT (os : Os) : (World.holding Tryz.prog os ⟨#[], #[], []⟩).layIfaces Tryz.prog Rows.fnTextThereRow.laid (World.laidAll Tryz.prog os Rows.fnTextThereRow.laid) = true := by kernel_rfl
end Go.Proofs.YtghajgdiaopioaaGreatDoor
