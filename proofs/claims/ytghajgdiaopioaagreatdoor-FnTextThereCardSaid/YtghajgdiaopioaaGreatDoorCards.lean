/-
  DERIVED. GIVEN WITH THE SEED: THE CARDS: each row of YtghajgdiaopioaaGreatDoorRows.lean that lists a variable, with what it lists TIED to the program's text (the seventh form; the later family's looks); each row that meets fmt, with fmt's text TOLD by the authors' own Lean function (tested against real Go, not proved from fmt's source: count such statements apart). THE CARD IS WHAT COUNTS. Prove the row's statement (the work); the ties are given (YtghajgdiaopioaaGreatDoorTie.lean); close each card by the builder's one call (the guide's Derived/Test/ToyasCard.lean, 'card_holds'). Laid BY PROGRAM, IN A SANDBOX (cutbox-door.mjs). By AI agents, Wed Nov 11 2026. No macro, syntax, notation, axiom, sorry.
-/
import Derived.Test.YtghajgdiaopioaaGreatDoorRows
import GoSem.ClaimSeven
namespace Go.Proofs.YtghajgdiaopioaaGreatDoor
namespace Rows

/-- THE TIED CARD OF 'laws.FnReadWrong'. -/
def fnReadWrongCard : Claim7 := { stood := { row := fnReadWrongRow, standIns := [], harness := (true, "709fda3d83bd93bf4f39926ad088f34f13377043fad0f27cd99caab4cd8ff96a"), looks := true }, kinds := [], alts := [], laidByText := true, laidKinds := [.data, .data, .widerDeep, .widerDeep, .data, .data, .data, .data, .data, .data, .sentinel, .sentinel, .data, .data, .sentinel, .sentinel, .sentinel, .data, .pinned, .pinned, .pinned, .pinned], laidTests := true, laidLooks := .later }
def FnReadWrongCardSaid : Prop := Claim7.holds Tryz.pinned (.plain (OpenSpec.ofChange fnReadWrongSpec)) fnReadWrongCard

/-- THE TIED CARD OF 'laws.FnWrite'. -/
def fnWriteCard : Claim7 := { stood := { row := fnWriteRow, standIns := [], harness := (true, "709fda3d83bd93bf4f39926ad088f34f13377043fad0f27cd99caab4cd8ff96a"), looks := true }, kinds := [], alts := [], laidByText := true, laidKinds := [.data, .data, .widerDeep, .widerDeep, .data, .data, .data, .data, .data, .data, .sentinel, .sentinel, .data, .data, .sentinel, .sentinel, .sentinel, .data, .pinned, .pinned, .pinned, .pinned], laidTests := true, laidLooks := .later }
def FnWriteCardSaid : Prop := Claim7.holds Tryz.pinned (.plain (OpenSpec.ofChange fnWriteSpec)) fnWriteCard

/-- THE TIED CARD OF 'laws.FnReadAs'. -/
def fnReadAsCard : Claim7 := { stood := { row := fnReadAsRow, standIns := [], harness := (true, "709fda3d83bd93bf4f39926ad088f34f13377043fad0f27cd99caab4cd8ff96a"), looks := true }, kinds := [], alts := [], laidByText := true, laidKinds := [.data, .data, .widerDeep, .widerDeep, .data, .data, .data, .data, .data, .data, .sentinel, .sentinel, .data, .data, .sentinel, .sentinel, .sentinel, .sentinel, .data, .pinned, .pinned, .pinned, .pinned], laidTests := true, laidLooks := .later }
def FnReadAsCardSaid : Prop := Claim7.holds Tryz.pinned (.plain (OpenSpec.ofChange fnReadAsSpec)) fnReadAsCard

/-- THE TIED CARD OF 'laws.FnTextThere'. -/
def fnTextThereCard : Claim7 := { stood := { row := fnTextThereRow, standIns := [], harness := (true, "709fda3d83bd93bf4f39926ad088f34f13377043fad0f27cd99caab4cd8ff96a"), looks := true }, kinds := [], alts := [], laidByText := true, laidKinds := [.data, .data, .widerDeep, .widerDeep, .data, .data, .data, .data, .data, .data, .sentinel, .sentinel, .data, .data, .sentinel, .sentinel, .sentinel, .pinned, .pinned, .pinned, .pinned], laidTests := true, laidLooks := .later }
def FnTextThereCardSaid : Prop := Claim7.holds Tryz.pinned (.plain (OpenSpec.ofChange fnTextThereSpec)) fnTextThereCard

/-- THE TIED CARD OF 'laws.FnRead'. -/
def fnReadCard : Claim7 := { stood := { row := fnReadRow, standIns := [], harness := (true, "709fda3d83bd93bf4f39926ad088f34f13377043fad0f27cd99caab4cd8ff96a"), looks := true }, kinds := [], alts := [], laidByText := true, laidKinds := [.data, .data, .widerDeep, .widerDeep, .data, .data, .data, .data, .data, .data, .sentinel, .sentinel, .data, .data, .sentinel, .sentinel, .sentinel, .data, .pinned, .pinned, .pinned, .pinned], laidTests := true, laidLooks := .later }
def FnReadCardSaid : Prop := Claim7.holds Tryz.pinned (.plain (OpenSpec.ofChange fnReadSpec)) fnReadCard

/-- THE TIED CARD OF 'laws.FnReadStyle'. -/
def fnReadStyleCard : Claim7 := { stood := { row := fnReadStyleRow, standIns := [], harness := (true, "709fda3d83bd93bf4f39926ad088f34f13377043fad0f27cd99caab4cd8ff96a"), looks := true }, kinds := [], alts := [], laidByText := true, laidKinds := [.data, .data, .widerDeep, .widerDeep, .data, .data, .data, .data, .data, .data, .sentinel, .sentinel, .data, .data, .sentinel, .sentinel, .sentinel, .data, .pinned, .pinned, .pinned, .pinned], laidTests := true, laidLooks := .later }
def FnReadStyleCardSaid : Prop := Claim7.holds Tryz.pinned (.plain (OpenSpec.ofChange fnReadStyleSpec)) fnReadStyleCard

/-- THE SECOND FORM's CARD OF 'laws.FnReadWrong'. -/
def fnReadWrongUptoCard : Claim7 := { stood := { row := fnReadWrongUptoRow, standIns := [], harness := (true, "709fda3d83bd93bf4f39926ad088f34f13377043fad0f27cd99caab4cd8ff96a"), looks := true }, kinds := [], alts := [], laidByText := true, laidKinds := [.data, .data, .widerDeep, .widerDeep, .data, .data, .data, .data, .data, .data, .sentinel, .sentinel, .data, .data, .sentinel, .sentinel, .sentinel, .data, .pinned, .pinned, .pinned, .pinned], laidTests := true, laidLooks := .later }
def FnReadWrongUptoCardSaid : Prop := Claim7.holds Tryz.pinned (.plain (OpenSpec.upto fnReadWrongSpec)) fnReadWrongUptoCard

/-- THE SECOND FORM's CARD OF 'laws.FnWrite'. -/
def fnWriteUptoCard : Claim7 := { stood := { row := fnWriteUptoRow, standIns := [], harness := (true, "709fda3d83bd93bf4f39926ad088f34f13377043fad0f27cd99caab4cd8ff96a"), looks := true }, kinds := [], alts := [], laidByText := true, laidKinds := [.data, .data, .widerDeep, .widerDeep, .data, .data, .data, .data, .data, .data, .sentinel, .sentinel, .data, .data, .sentinel, .sentinel, .sentinel, .data, .pinned, .pinned, .pinned, .pinned], laidTests := true, laidLooks := .later }
def FnWriteUptoCardSaid : Prop := Claim7.holds Tryz.pinned (.plain (OpenSpec.upto fnWriteSpec)) fnWriteUptoCard

/-- THE SECOND FORM's CARD OF 'laws.FnReadAs'. -/
def fnReadAsUptoCard : Claim7 := { stood := { row := fnReadAsUptoRow, standIns := [], harness := (true, "709fda3d83bd93bf4f39926ad088f34f13377043fad0f27cd99caab4cd8ff96a"), looks := true }, kinds := [], alts := [], laidByText := true, laidKinds := [.data, .data, .widerDeep, .widerDeep, .data, .data, .data, .data, .data, .data, .sentinel, .sentinel, .data, .data, .sentinel, .sentinel, .sentinel, .sentinel, .data, .pinned, .pinned, .pinned, .pinned], laidTests := true, laidLooks := .later }
def FnReadAsUptoCardSaid : Prop := Claim7.holds Tryz.pinned (.plain (OpenSpec.upto fnReadAsSpec)) fnReadAsUptoCard

/-- THE SECOND FORM's CARD OF 'laws.FnTextThere'. -/
def fnTextThereUptoCard : Claim7 := { stood := { row := fnTextThereUptoRow, standIns := [], harness := (true, "709fda3d83bd93bf4f39926ad088f34f13377043fad0f27cd99caab4cd8ff96a"), looks := true }, kinds := [], alts := [], laidByText := true, laidKinds := [.data, .data, .widerDeep, .widerDeep, .data, .data, .data, .data, .data, .data, .sentinel, .sentinel, .data, .data, .sentinel, .sentinel, .sentinel, .pinned, .pinned, .pinned, .pinned], laidTests := true, laidLooks := .later }
def FnTextThereUptoCardSaid : Prop := Claim7.holds Tryz.pinned (.plain (OpenSpec.upto fnTextThereSpec)) fnTextThereUptoCard

/-- THE SECOND FORM's CARD OF 'laws.FnRead'. -/
def fnReadUptoCard : Claim7 := { stood := { row := fnReadUptoRow, standIns := [], harness := (true, "709fda3d83bd93bf4f39926ad088f34f13377043fad0f27cd99caab4cd8ff96a"), looks := true }, kinds := [], alts := [], laidByText := true, laidKinds := [.data, .data, .widerDeep, .widerDeep, .data, .data, .data, .data, .data, .data, .sentinel, .sentinel, .data, .data, .sentinel, .sentinel, .sentinel, .data, .pinned, .pinned, .pinned, .pinned], laidTests := true, laidLooks := .later }
def FnReadUptoCardSaid : Prop := Claim7.holds Tryz.pinned (.plain (OpenSpec.upto fnReadSpec)) fnReadUptoCard

/-- THE SECOND FORM's CARD OF 'laws.FnReadStyle'. -/
def fnReadStyleUptoCard : Claim7 := { stood := { row := fnReadStyleUptoRow, standIns := [], harness := (true, "709fda3d83bd93bf4f39926ad088f34f13377043fad0f27cd99caab4cd8ff96a"), looks := true }, kinds := [], alts := [], laidByText := true, laidKinds := [.data, .data, .widerDeep, .widerDeep, .data, .data, .data, .data, .data, .data, .sentinel, .sentinel, .data, .data, .sentinel, .sentinel, .sentinel, .data, .pinned, .pinned, .pinned, .pinned], laidTests := true, laidLooks := .later }
def FnReadStyleUptoCardSaid : Prop := Claim7.holds Tryz.pinned (.plain (OpenSpec.upto fnReadStyleSpec)) fnReadStyleUptoCard
end Rows
end Go.Proofs.YtghajgdiaopioaaGreatDoor
