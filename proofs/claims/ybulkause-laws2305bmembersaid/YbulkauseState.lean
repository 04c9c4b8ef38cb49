/-
  The state's cells under a name, the laws by which a great struct is built, read and stored into.
-/
import Derived.Test.YbulkauseRows
import Derived.WalkKit
import Derived.WalkSpells
import Derived.WalkLawsBesides
import Derived.Laws.EntriesVeiled
namespace Go.Proofs.Ybulkause
open Go.RowKit

theorem wpList_build_at {P : Program} {ops : Array Oper} {rest : List Oper} {dst : Option Tmp} {ty : TypeId} {pos : String} {after : Array Edge} {a : Act} {w : World} {Q : Exit → Act → World → Prop}
    (t : TypeId) (parts : Array (Nat × Operand)) (cells : Array Value) (vals : List (Nat × Value)) (hv : (parts.map fun (i, x) => (i, a.eval x)).toList = vals) (hc : P.built t vals = some cells)
    (h : wpList P ops Q rest (a.put dst (.agg cells)) w) :
    wpList P ops Q ({ dst := dst, op := .build t parts, type := ty, pos := pos, after := after, guard := none } :: rest) a w := by
  refine wpList_plain rfl fun K hK => ?_
  refine wp_build t parts rfl ?_ ?_
  · rw [hv, hc]; rfl
  · rw [hv, hc]; exact hK _ _ h

/-- the cells of a State that the laws make -/
def cfgCells (fn : Value) : Array Value := #[.int .i64 0, .int .i64 0, .int .i64 0, .int .i64 0, .int .i64 0, .int .i64 0, .int .i64 0, .bool false, .int .i64 0, .int .i64 0, .int .u64 0, .nilFunc, fn, .nilFunc]
def stCells (id idx seq quiet : Int) (fn cell succ pred : Value) : Array Value := #[.int .i64 id, .int .i64 0, .int .i64 0, .int .i64 0, .int .i64 0, .int .i64 0, .int .i64 0, .int .i64 0, .bool false, .int .i64 0, .int .i64 0, .int .u64 0, .nilFunc, fn, .nilFunc, .pointer none, .int .i64 idx, .int .u64 seq, .int .u64 0, .bool false, .int .i64 0, .pointer none, .pointer none, .int .i64 0, .int .i64 0, .slice none 0 0, cell, succ, pred, .int .u8 0, .bool false, .int .i64 quiet, .int .u64 0, .map none, .map none, .map none, .slice none 0 0, .int .u64 0, .pointer none, .slice none 0 0, .int .i64 0, .int .i64 0, .pointer none, .int .i64 0, .pointer none, .pointer none, .slice none 0 0, .bool false, .slice none 0 0, .int .i64 0, .map none, .int .u64 0, .int .u64 0, .int .u64 0, .int .i64 0, .int .i64 0, .int .u64 0, .slice none 0 0, .int .u64 0, .map none, .map none]
theorem built116 (f : Fn) (xs ys : Array Value) : Yba.prog.built 116 [(11, .func f xs ys)] = some (cfgCells (.func f xs ys)) := by kernel_rfl
theorem built135 (id idx seq quiet : Int) (fn : Value) : Yba.prog.built 135 [(0, .int .i64 id), (3, .int .i64 idx), (4, .int .u64 seq), (17, .int .i64 quiet), (1, .agg (cfgCells fn))] = some (stCells id idx seq quiet fn (.pointer none) (.pointer none) (.pointer none)) := by kernel_rfl
theorem stCells_size (id idx seq quiet : Int) (fn cell succ pred : Value) : (stCells id idx seq quiet fn cell succ pred).size = 61 := rfl
end Go.Proofs.Ybulkause
