/-
  No cell of these rows narrows 'for every input' (looked for: loops, veiled, ifaces, maps, wideKeys, modest, calm, conditions, laid).
  DERIVED. THE GIVEN ROWS OF THIS SEAT. 3 by the template 'for every input the law returns true; each argument reads behind the call as it read before'; 0 by the template 'total and deterministic' (their statements: YbulkaussTotals.lean).
  GIVEN WITH THE SEED: the statements are not yours to turn. If you find one false, say at which input.
  Laid BY PROGRAM, IN A SANDBOX (cutbox-rows.mjs): the forced cells as the released guide's own fill.sh prints them over the translation ada047a1057bdabe… (all of the seat's roots in one cut). By AI agents, Wed Nov 11 2026. No macro, syntax, notation, axiom, sorry.
-/
import Derived.Test.YbulkaussChecked
import GoSem.Claim
import GoSem.ClaimJoined
import GoSem.ClaimMapViews
import Derived.JoinedTies
import Derived.KernelRfl
namespace Go.Proofs.Ybulkauss
/- THE CELL 'sum', in the pinned program and in every row, IS THE sha256 OF THE DUMP (.gsa) THAT YbulkaussProg.lean LOADS. Nothing in Lean hashes anything: it is a label: what it is worth is what the hold of that sum in a sandbox is worth. -/
noncomputable def Yba.pinned : Pinned := { name := "ybulkauss", sum := "ada047a1057bdabe5cc4203c350d892c3416980fa461255068116e12399d6c36", checked := Yba.checked }
namespace Rows
def none {H : Type} : Left H := { results := [], args := [] }

/-- 'orbweave.LawS2306BSettle': WHATEVER THE INPUT: true; the input reads as it did. -/
def lawS2306BSettleSpec : ChangeSpec := { name := "lawS2306BSettle", fn := fun _ => fun
  | [d1, d2, d3, d4, d5, d6, d7, d8, d9, d10] => { results := [.lit (.bool true)], args := [d1, d2, d3, d4, d5, d6, d7, d8, d9, d10] }
  | _ => none }
def lawS2306BSettleRow : OpenClaim := { program := "ybulkauss", sum := "ada047a1057bdabe5cc4203c350d892c3416980fa461255068116e12399d6c36", func := "example.com/orbweave/orbweave.LawS2306BSettle", spec := "lawS2306BSettle", plainKeys := false, apart := false }
def LawS2306BSettleSaid : Prop := lawS2306BSettleRow.holds Yba.pinned (OpenSpec.ofChange lawS2306BSettleSpec)

/-- ITS FALSE NEIGHBOUR: 'it returns false'. Refute it at one input. -/
def lawS2306BSettleWrong : ChangeSpec := { name := "lawS2306BSettle", fn := fun _ => fun
  | [d1, d2, d3, d4, d5, d6, d7, d8, d9, d10] => { results := [.lit (.bool false)], args := [d1, d2, d3, d4, d5, d6, d7, d8, d9, d10] }
  | _ => none }
def LawS2306BSettleWrongFalsely : Prop := lawS2306BSettleRow.holds Yba.pinned (OpenSpec.ofChange lawS2306BSettleWrong)

/-- 'orbweave.LawS2306CModel': WHATEVER THE INPUT: true; the input reads as it did. -/
def lawS2306CModelSpec : ChangeSpec := { name := "lawS2306CModel", fn := fun _ => fun
  | [d1, d2, d3, d4, d5, d6] => { results := [.lit (.bool true)], args := [d1, d2, d3, d4, d5, d6] }
  | _ => none }
def lawS2306CModelRow : OpenClaim := { program := "ybulkauss", sum := "ada047a1057bdabe5cc4203c350d892c3416980fa461255068116e12399d6c36", func := "example.com/orbweave/orbweave.LawS2306CModel", spec := "lawS2306CModel", plainKeys := false, apart := false }
def LawS2306CModelSaid : Prop := lawS2306CModelRow.holds Yba.pinned (OpenSpec.ofChange lawS2306CModelSpec)

/-- ITS FALSE NEIGHBOUR: 'it returns false'. Refute it at one input. -/
def lawS2306CModelWrong : ChangeSpec := { name := "lawS2306CModel", fn := fun _ => fun
  | [d1, d2, d3, d4, d5, d6] => { results := [.lit (.bool false)], args := [d1, d2, d3, d4, d5, d6] }
  | _ => none }
def LawS2306CModelWrongFalsely : Prop := lawS2306CModelRow.holds Yba.pinned (OpenSpec.ofChange lawS2306CModelWrong)

/-- 'orbweave.LawS2306CRoundTrip': WHATEVER THE INPUT: true; the input reads as it did. -/
def lawS2306CRoundTripSpec : ChangeSpec := { name := "lawS2306CRoundTrip", fn := fun _ => fun
  | [d1, d2, d3] => { results := [.lit (.bool true)], args := [d1, d2, d3] }
  | _ => none }
def lawS2306CRoundTripRow : OpenClaim := { program := "ybulkauss", sum := "ada047a1057bdabe5cc4203c350d892c3416980fa461255068116e12399d6c36", func := "example.com/orbweave/orbweave.LawS2306CRoundTrip", spec := "lawS2306CRoundTrip", plainKeys := false, apart := false }
def LawS2306CRoundTripSaid : Prop := lawS2306CRoundTripRow.holds Yba.pinned (OpenSpec.ofChange lawS2306CRoundTripSpec)

/-- ITS FALSE NEIGHBOUR: 'it returns false'. Refute it at one input. -/
def lawS2306CRoundTripWrong : ChangeSpec := { name := "lawS2306CRoundTrip", fn := fun _ => fun
  | [d1, d2, d3] => { results := [.lit (.bool false)], args := [d1, d2, d3] }
  | _ => none }
def LawS2306CRoundTripWrongFalsely : Prop := lawS2306CRoundTripRow.holds Yba.pinned (OpenSpec.ofChange lawS2306CRoundTripWrong)

end Rows
end Go.Proofs.Ybulkauss
