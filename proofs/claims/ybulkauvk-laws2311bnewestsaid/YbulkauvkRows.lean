/-
  No cell of these rows narrows 'for every input' (looked for: loops, veiled, ifaces, maps, wideKeys, modest, calm, conditions, laid).
  DERIVED. THE GIVEN ROWS OF THIS SEAT. 2 by the template 'for every input the law returns true; each argument reads behind the call as it read before'; 0 by the template 'total and deterministic' (their statements: YbulkauvkTotals.lean).
  GIVEN WITH THE SEED: the statements are not yours to turn. If you find one false, say at which input.
  Laid BY PROGRAM, IN A SANDBOX (cutbox-rows.mjs): the forced cells as the released guide's own fill.sh prints them over the translation 82359c0449ea0a75… (all of the seat's roots in one cut). By AI agents, Wed Nov 11 2026. No macro, syntax, notation, axiom, sorry.
-/
import Derived.Test.YbulkauvkChecked
import GoSem.Claim
import GoSem.ClaimJoined
import GoSem.ClaimMapViews
import Derived.JoinedTies
import Derived.KernelRfl
namespace Go.Proofs.Ybulkauvk
/- THE CELL 'sum', in the pinned program and in every row, IS THE sha256 OF THE DUMP (.gsa) THAT YbulkauvkProg.lean LOADS. Nothing in Lean hashes anything: it is a label: what it is worth is what the hold of that sum in a sandbox is worth. -/
noncomputable def Yba.pinned : Pinned := { name := "ybulkauvk", sum := "82359c0449ea0a758a53103237b161a6cc4e7473ebd076f51aa69e07cf20378a", checked := Yba.checked }
namespace Rows
def none {H : Type} : Left H := { results := [], args := [] }

/-- 'yang.LawS2311BNewest': WHATEVER THE INPUT: true; the input reads as it did. -/
def lawS2311BNewestSpec : ChangeSpec := { name := "lawS2311BNewest", fn := fun _ => fun
  | [d] => { results := [.lit (.bool true)], args := [d] }
  | _ => none }
def lawS2311BNewestRow : OpenClaim := { program := "ybulkauvk", sum := "82359c0449ea0a758a53103237b161a6cc4e7473ebd076f51aa69e07cf20378a", func := "example.com/brevis/brevis/internal/yang.LawS2311BNewest", spec := "lawS2311BNewest", apart := false }
def LawS2311BNewestSaid : Prop := lawS2311BNewestRow.holds Yba.pinned (OpenSpec.ofChange lawS2311BNewestSpec)

/-- ITS FALSE NEIGHBOUR: 'it returns false'. Refute it at one input. -/
def lawS2311BNewestWrong : ChangeSpec := { name := "lawS2311BNewest", fn := fun _ => fun
  | [d] => { results := [.lit (.bool false)], args := [d] }
  | _ => none }
def LawS2311BNewestWrongFalsely : Prop := lawS2311BNewestRow.holds Yba.pinned (OpenSpec.ofChange lawS2311BNewestWrong)

/-- 'yang.LawS2311BOrder': WHATEVER THE INPUT: true; the input reads as it did. -/
def lawS2311BOrderSpec : ChangeSpec := { name := "lawS2311BOrder", fn := fun _ => fun
  | [d] => { results := [.lit (.bool true)], args := [d] }
  | _ => none }
def lawS2311BOrderRow : OpenClaim := { program := "ybulkauvk", sum := "82359c0449ea0a758a53103237b161a6cc4e7473ebd076f51aa69e07cf20378a", func := "example.com/brevis/brevis/internal/yang.LawS2311BOrder", spec := "lawS2311BOrder", apart := false }
def LawS2311BOrderSaid : Prop := lawS2311BOrderRow.holds Yba.pinned (OpenSpec.ofChange lawS2311BOrderSpec)

/-- ITS FALSE NEIGHBOUR: 'it returns false'. Refute it at one input. -/
def lawS2311BOrderWrong : ChangeSpec := { name := "lawS2311BOrder", fn := fun _ => fun
  | [d] => { results := [.lit (.bool false)], args := [d] }
  | _ => none }
def LawS2311BOrderWrongFalsely : Prop := lawS2311BOrderRow.holds Yba.pinned (OpenSpec.ofChange lawS2311BOrderWrong)

end Rows
end Go.Proofs.Ybulkauvk
