/-
  DERIVED. GIVEN WITH THE SEED: THE CARDS: each row of YbulkauvkFmtRows.lean that lists a variable, with what it lists TIED to the program's text (the seventh form; the later family's looks); each row that meets fmt, with fmt's text TOLD by the authors' own Lean function (tested against real Go, not proved from fmt's source: count such statements apart). THE CARD IS WHAT COUNTS. Prove the row's statement (the work); the ties are given (YbulkauvkFmtTie.lean); close each card by the builder's one call (the guide's Derived/Test/ToyasCard.lean, 'card_holds'). Laid BY PROGRAM, IN A SANDBOX (cutbox-door.mjs). By AI agents, Wed Nov 11 2026. No macro, syntax, notation, axiom, sorry.
-/
import Derived.Test.YbulkauvkFmtRows
import GoSem.ClaimSeven
namespace Go.Proofs.YbulkauvkFmt
namespace Rows

/-- THE TOLD AND TIED CARD OF 'sid.LawS2311AModel'. -/
def lawS2311AModelCard : Claim7 := { stood := { row := lawS2311AModelRow, standIns := [], harness := (true, "23116897f360696c719f334c367921f92498ea7cd3906088a4402e87e4f56d78"), looks := false }, told := true, laidByText := true, laidKinds := [.data, .data, .data], laidTests := true, laidLooks := .later, goes := false }
def LawS2311AModelToldSaid : Prop := Claim7.holds Ybaf.pinned (.plain (OpenSpec.ofChange lawS2311AModelSpec)) lawS2311AModelCard
/-- ITS FALSE NEIGHBOUR. Refute it at one input. -/
def LawS2311AModelToldWrongFalsely : Prop := Claim7.holds Ybaf.pinned (.plain (OpenSpec.ofChange lawS2311AModelWrong)) lawS2311AModelCard

/-- THE TOLD AND TIED CARD OF 'brevis.LawS2311CTop'. -/
def lawS2311CTopCard : Claim7 := { stood := { row := lawS2311CTopRow, standIns := [], harness := (true, "23116897f360696c719f334c367921f92498ea7cd3906088a4402e87e4f56d78"), looks := false }, told := true, laidByText := true, laidKinds := [.data, .data, .data, .data, .pinned, .pinned, .pinned, .pinned, .pinned, .pinned], laidTests := true, laidLooks := .later, goes := false }
def LawS2311CTopToldSaid : Prop := Claim7.holds Ybaf.pinned (.plain (OpenSpec.ofChange lawS2311CTopSpec)) lawS2311CTopCard
/-- ITS FALSE NEIGHBOUR. Refute it at one input. -/
def LawS2311CTopToldWrongFalsely : Prop := Claim7.holds Ybaf.pinned (.plain (OpenSpec.ofChange lawS2311CTopWrong)) lawS2311CTopCard

/-- THE TOLD AND TIED CARD OF 'brevis.LawS2311CEncoder'. -/
def lawS2311CEncoderCard : Claim7 := { stood := { row := lawS2311CEncoderRow, standIns := [], harness := (true, "23116897f360696c719f334c367921f92498ea7cd3906088a4402e87e4f56d78"), looks := false }, told := true, laidByText := true, laidKinds := [.data, .data, .data, .data, .pinned, .pinned, .pinned, .pinned, .pinned, .pinned], laidTests := true, laidLooks := .later, goes := false }
def LawS2311CEncoderToldSaid : Prop := Claim7.holds Ybaf.pinned (.plain (OpenSpec.ofChange lawS2311CEncoderSpec)) lawS2311CEncoderCard
/-- ITS FALSE NEIGHBOUR. Refute it at one input. -/
def LawS2311CEncoderToldWrongFalsely : Prop := Claim7.holds Ybaf.pinned (.plain (OpenSpec.ofChange lawS2311CEncoderWrong)) lawS2311CEncoderCard
end Rows
end Go.Proofs.YbulkauvkFmt
