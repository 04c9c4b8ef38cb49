/-
  One start that fits: the three tables laid.
-/
import Derived.Test.YbulkauvkFmtTie
import Derived.Test.YbulkauvkFmtCards
import Derived.Lib.LaidIn
import Derived.ProofKit
import Derived.Deep.DeepWitnessRef
namespace Go.Proofs.YbulkauvkFmt


def pow10C : Array Value := #[.int .u64 1, .int .u64 10, .int .u64 100, .int .u64 1000, .int .u64 10000, .int .u64 100000, .int .u64 1000000, .int .u64 10000000, .int .u64 100000000, .int .u64 1000000000, .int .u64 10000000000, .int .u64 100000000000, .int .u64 1000000000000, .int .u64 10000000000000, .int .u64 100000000000000, .int .u64 1000000000000000, .int .u64 10000000000000000, .int .u64 100000000000000000, .int .u64 1000000000000000000, .int .u64 10000000000000000000]
def tab32C : Array Value := #[.int .u8 0, .int .u8 1, .int .u8 28, .int .u8 2, .int .u8 29, .int .u8 14, .int .u8 24, .int .u8 3, .int .u8 30, .int .u8 22, .int .u8 20, .int .u8 15, .int .u8 25, .int .u8 17, .int .u8 4, .int .u8 8, .int .u8 31, .int .u8 27, .int .u8 13, .int .u8 23, .int .u8 21, .int .u8 19, .int .u8 16, .int .u8 7, .int .u8 26, .int .u8 12, .int .u8 18, .int .u8 6, .int .u8 11, .int .u8 5, .int .u8 10, .int .u8 9]
def tab64C : Array Value := #[.int .u8 0, .int .u8 1, .int .u8 56, .int .u8 2, .int .u8 57, .int .u8 49, .int .u8 28, .int .u8 3, .int .u8 61, .int .u8 58, .int .u8 42, .int .u8 50, .int .u8 38, .int .u8 29, .int .u8 17, .int .u8 4, .int .u8 62, .int .u8 47, .int .u8 59, .int .u8 36, .int .u8 45, .int .u8 43, .int .u8 51, .int .u8 22, .int .u8 53, .int .u8 39, .int .u8 33, .int .u8 30, .int .u8 24, .int .u8 18, .int .u8 12, .int .u8 5, .int .u8 63, .int .u8 55, .int .u8 48, .int .u8 27, .int .u8 60, .int .u8 41, .int .u8 37, .int .u8 16, .int .u8 46, .int .u8 35, .int .u8 44, .int .u8 21, .int .u8 52, .int .u8 32, .int .u8 23, .int .u8 11, .int .u8 54, .int .u8 26, .int .u8 40, .int .u8 15, .int .u8 34, .int .u8 20, .int .u8 31, .int .u8 10, .int .u8 25, .int .u8 14, .int .u8 19, .int .u8 9, .int .u8 13, .int .u8 8, .int .u8 7, .int .u8 6]

set_option maxRecDepth 1000000 in
theorem laid_met (os : Os) (args : Array Value) : laidMet Ybaf.prog Rows.lawS2311AModelRow.laid (World.forCall { (World.holding Ybaf.prog os ⟨#[], #[], []⟩) with heap := (Array.modify (Array.modify (Array.modify (World.holding Ybaf.prog os ⟨#[], #[], []⟩).heap 3 (fun o => match o with | .cells _ t frozen => .cells pow10C t frozen | o => o)) 4 (fun o => match o with | .cells _ t frozen => .cells tab32C t frozen | o => o)) 5 (fun o => match o with | .cells _ t frozen => .cells tab64C t frozen | o => o)) } (fun _ _ => 0) ⟨#[], args, []⟩).memory :=
  (LaidIn.of_run (P := Ybaf.prog) [4, 5, 3] 10 (by kernel_rfl) (by kernel_rfl) (by kernel_rfl) (by kernel_rfl)).met

set_option maxRecDepth 1000000 in
theorem witness_row (os : Os) {H : Type} (enc : TypeId × Value → H) :
    (OpenSpec.ofChange Rows.lawS2311AModelSpec).preRow enc Ybaf.prog Ybaf.f3 Rows.lawS2311AModelRow.domain false Rows.lawS2311AModelRow.laid (World.forCall { (World.holding Ybaf.prog os ⟨#[], #[], []⟩) with heap := (Array.modify (Array.modify (Array.modify (World.holding Ybaf.prog os ⟨#[], #[], []⟩).heap 3 (fun o => match o with | .cells _ t frozen => .cells pow10C t frozen | o => o)) 4 (fun o => match o with | .cells _ t frozen => .cells tab32C t frozen | o => o)) 5 (fun o => match o with | .cells _ t frozen => .cells tab64C t frozen | o => o)) } (fun _ _ => 0) ⟨#[], #[.slice none 0 0], []⟩).memory #[.slice none 0 0] := by
  have hw : (DataW.whole enc Ybaf.prog (World.forCall { (World.holding Ybaf.prog os ⟨#[], #[], []⟩) with heap := (Array.modify (Array.modify (Array.modify (World.holding Ybaf.prog os ⟨#[], #[], []⟩).heap 3 (fun o => match o with | .cells _ t frozen => .cells pow10C t frozen | o => o)) 4 (fun o => match o with | .cells _ t frozen => .cells tab32C t frozen | o => o)) 5 (fun o => match o with | .cells _ t frozen => .cells tab64C t frozen | o => o)) } (fun _ _ => 0) ⟨#[], #[.slice none 0 0], []⟩).memory Ybaf.f3.params.toList (OpenSpec.ofChange Rows.lawS2311AModelSpec).vars false #[Value.slice none 0 0].toList 8).map (fun x => (x.1, x.2.1)) =
      some ([.nil], []) := by kernel_rfl
  obtain ⟨⟨x1, x2, x3⟩, hx, hx1⟩ := Option.map_eq_some_iff.1 hw
  simp only [Prod.mk.injEq] at hx1
  obtain ⟨rfl, rfl⟩ := hx1
  exact OpenSpec.preRow_of_cond 8 hx (by kernel_rfl) (fun k hk => by cases hk) (by kernel_rfl) (laid_met os _)
end Go.Proofs.YbulkauvkFmt
