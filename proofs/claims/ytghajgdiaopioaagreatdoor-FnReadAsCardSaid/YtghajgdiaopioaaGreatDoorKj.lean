/- FnReadAs's row: the variables' list and the witness's world. Conditions: stand in each law. -/
import Derived.Test.YtghajgdiaopioaaGreatDoorJz
import Derived.Test.YtghajgdiaopioaaGreatDoorJxd
set_option linter.unusedVariables false
set_option linter.unusedSimpArgs false
set_option maxRecDepth 100000
namespace Go.Proofs.YtghajgdiaopioaaGreatDoor
open Go.RowKit Go.ChangeShapes Go.WideShapes Go.ChangeAt Go.Proofs Tx

theorem rdb_incor : ∀ g t, Tryz.prog.globalNamed "loop.example/pub-g01503/pub/orbwkt.ErrIncorrectGeometry" = some g → (Tryz.prog.globals[g]?).map (·.type) = some t → Rdb Tryz.prog t :=
  rdb_var (g0 := 2) (t0 := 54) (by kernel_rfl) (by kernel_rfl) rdb54
theorem rdb_vars4 : ∀ n ∈ ["loop.example/pub-g01503/pub/orbwkt.ErrUnsupportedGeometry", "loop.example/pub-g01503/pub/orbwkt.ErrNotWKT", "loop.example/pub-g01503/spec.words", "loop.example/pub-g01503/pub/orbwkt.ErrIncorrectGeometry"], ∀ g t, Tryz.prog.globalNamed n = some g → (Tryz.prog.globals[g]?).map (·.type) = some t → Rdb Tryz.prog t := by
  intro n hn
  simp only [List.mem_cons, List.mem_nil_iff, or_false] at hn
  rcases hn with rfl | rfl | rfl | rfl
  · exact rdb_unsup
  · exact rdb_notw
  · exact rdb_words
  · exact rdb_incor
theorem listedA : Listed Rows.fnReadAsRow.laid :=
  ⟨List.mem_of_getElem? (i := 18) rfl, List.mem_of_getElem? (i := 17) rfl, List.mem_of_getElem? (i := 15) rfl, List.mem_of_getElem? (i := 4) rfl, List.mem_of_getElem? (i := 3) rfl, List.mem_of_getElem? (i := 8) rfl, List.mem_of_getElem? (i := 20) rfl, List.mem_of_getElem? (i := 19) rfl, by kernel_rfl⟩
theorem e2_of {W : World} (h : laidMetH Tryz.prog Rows.fnReadAsRow.laid W) : E2 W :=
  err_cell h listedA.plain (n := "loop.example/pub-g01503/pub/orbwkt.ErrIncorrectGeometry") (List.mem_of_getElem? (i := 16) rfl) (by kernel_rfl) (by kernel_rfl)
theorem lay_fitsA (os : Os) : (World.holding Tryz.prog os ⟨#[], #[], []⟩).layFits Tryz.prog Rows.fnReadAsRow.laid [] = true := by kernel_rfl
theorem lay_ifacesA (os : Os) : (World.holding Tryz.prog os ⟨#[], #[], []⟩).layIfaces Tryz.prog Rows.fnReadAsRow.laid (World.laidAll Tryz.prog os Rows.fnReadAsRow.laid) = true := by kernel_rfl
end Go.Proofs.YtghajgdiaopioaaGreatDoor
