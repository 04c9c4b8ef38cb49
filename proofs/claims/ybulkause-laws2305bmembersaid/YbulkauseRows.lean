/-
  No cell of these rows narrows 'for every input' (looked for: loops, veiled, ifaces, maps, wideKeys, modest, calm, conditions, laid).
  DERIVED. THE GIVEN ROWS OF THIS SEAT. 3 by the template 'for every input the law returns true; each argument reads behind the call as it read before'; 0 by the template 'total and deterministic' (their statements: YbulkauseTotals.lean).
  GIVEN WITH THE SEED: the statements are not yours to turn. If you find one false, say at which input.
  Laid BY PROGRAM, IN A SANDBOX (cutbox-rows.mjs): the forced cells as the released guide's own fill.sh prints them over the translation bc3017e614e52710… (all of the seat's roots in one cut). By AI agents, Wed Nov 11 2026. No macro, syntax, notation, axiom, sorry.
-/
import Derived.Test.YbulkauseChecked
import GoSem.Claim
import GoSem.ClaimJoined
import GoSem.ClaimMapViews
import Derived.JoinedTies
import Derived.KernelRfl
namespace Go.Proofs.Ybulkause
/- THE CELL 'sum', in the pinned program and in every row, IS THE sha256 OF THE DUMP (.gsa) THAT YbulkauseProg.lean LOADS. Nothing in Lean hashes anything: it is a label: what it is worth is what the hold of that sum in a sandbox is worth. -/
noncomputable def Yba.pinned : Pinned := { name := "ybulkause", sum := "bc3017e614e52710dff9128b30560c18ee9761d004fcd846e9843dc7693fb39f", checked := Yba.checked }
namespace Rows
def none {H : Type} : Left H := { results := [], args := [] }

/-- 'engine.LawS2305AGenBump': WHATEVER THE INPUT: true; the input reads as it did. -/
def lawS2305AGenBumpSpec : ChangeSpec := { name := "lawS2305AGenBump", fn := fun _ => fun
  | [d1, d2, d3] => { results := [.lit (.bool true)], args := [d1, d2, d3] }
  | _ => none }
def lawS2305AGenBumpRow : OpenClaim := { program := "ybulkause", sum := "bc3017e614e52710dff9128b30560c18ee9761d004fcd846e9843dc7693fb39f", func := "example.com/demesne/demesne/engine.LawS2305AGenBump", spec := "lawS2305AGenBump", inPlace := ["(*internal/sync.Mutex).Lock", "internal/race.Disable", "sync/atomic.CompareAndSwapInt32", "internal/race.Enable", "internal/race.Acquire", "(*internal/sync.Mutex).lockSlow", "internal/sync.runtime_canSpin", "internal/sync.runtime_doSpin", "internal/sync.throw", "internal/sync.runtime_nanotime", "internal/sync.runtime_SemacquireMutex", "sync/atomic.AddInt32", "(*internal/sync.Mutex).Unlock", "internal/race.ReleaseMerge", "(*internal/sync.Mutex).unlockSlow", "internal/sync.fatal", "internal/sync.runtime_Semrelease"], unfollowed := true, recurses := true, plainKeys := false, apart := false }
def LawS2305AGenBumpSaid : Prop := lawS2305AGenBumpRow.holds Yba.pinned (OpenSpec.ofChange lawS2305AGenBumpSpec)

/-- ITS FALSE NEIGHBOUR: 'it returns false'. Refute it at one input. -/
def lawS2305AGenBumpWrong : ChangeSpec := { name := "lawS2305AGenBump", fn := fun _ => fun
  | [d1, d2, d3] => { results := [.lit (.bool false)], args := [d1, d2, d3] }
  | _ => none }
def LawS2305AGenBumpWrongFalsely : Prop := lawS2305AGenBumpRow.holds Yba.pinned (OpenSpec.ofChange lawS2305AGenBumpWrong)

/-- 'group.LawS2305BAlone': WHATEVER THE INPUT: true; the input reads as it did. -/
def lawS2305BAloneSpec : ChangeSpec := { name := "lawS2305BAlone", fn := fun _ => fun
  | [d1, d2, d3, d4] => { results := [.lit (.bool true)], args := [d1, d2, d3, d4] }
  | _ => none }
def lawS2305BAloneRow : OpenClaim := { program := "ybulkause", sum := "bc3017e614e52710dff9128b30560c18ee9761d004fcd846e9843dc7693fb39f", func := "example.com/demesne/demesne/group.LawS2305BAlone", spec := "lawS2305BAlone", unfollowed := true, recurses := true, plainKeys := false, apart := false }
def LawS2305BAloneSaid : Prop := lawS2305BAloneRow.holds Yba.pinned (OpenSpec.ofChange lawS2305BAloneSpec)

/-- ITS FALSE NEIGHBOUR: 'it returns false'. Refute it at one input. -/
def lawS2305BAloneWrong : ChangeSpec := { name := "lawS2305BAlone", fn := fun _ => fun
  | [d1, d2, d3, d4] => { results := [.lit (.bool false)], args := [d1, d2, d3, d4] }
  | _ => none }
def LawS2305BAloneWrongFalsely : Prop := lawS2305BAloneRow.holds Yba.pinned (OpenSpec.ofChange lawS2305BAloneWrong)

/-- 'group.LawS2305BMember': WHATEVER THE INPUT: true; the input reads as it did. -/
def lawS2305BMemberSpec : ChangeSpec := { name := "lawS2305BMember", fn := fun _ => fun
  | [d1, d2, d3, d4, d5, d6, d7, d8, d9, d10] => { results := [.lit (.bool true)], args := [d1, d2, d3, d4, d5, d6, d7, d8, d9, d10] }
  | _ => none }
def lawS2305BMemberRow : OpenClaim := { program := "ybulkause", sum := "bc3017e614e52710dff9128b30560c18ee9761d004fcd846e9843dc7693fb39f", func := "example.com/demesne/demesne/group.LawS2305BMember", spec := "lawS2305BMember", unfollowed := true, recurses := true, plainKeys := false, apart := false }
def LawS2305BMemberSaid : Prop := lawS2305BMemberRow.holds Yba.pinned (OpenSpec.ofChange lawS2305BMemberSpec)

/-- ITS FALSE NEIGHBOUR: 'it returns false'. Refute it at one input. -/
def lawS2305BMemberWrong : ChangeSpec := { name := "lawS2305BMember", fn := fun _ => fun
  | [d1, d2, d3, d4, d5, d6, d7, d8, d9, d10] => { results := [.lit (.bool false)], args := [d1, d2, d3, d4, d5, d6, d7, d8, d9, d10] }
  | _ => none }
def LawS2305BMemberWrongFalsely : Prop := lawS2305BMemberRow.holds Yba.pinned (OpenSpec.ofChange lawS2305BMemberWrong)

end Rows
end Go.Proofs.Ybulkause
