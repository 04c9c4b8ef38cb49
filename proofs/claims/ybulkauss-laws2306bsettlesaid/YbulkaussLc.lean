/-
  The law's code, taken apart.
-/
import Derived.Test.YbulkaussLb
namespace Go.Proofs.Ybulkauss
open Go.RowKit Go.Deep

/-- where region n stands ahead of more code -/
def findSeq (n : Nat) : Code → Option (Code × Code)
  | .seq (.region i o d) b => if i = n then some (.region i o d, b) else findSeq n b
  | .seq a b => match findSeq n a with
    | some c => some c
    | none => findSeq n b
  | .cond _ a b => match findSeq n a with
    | some c => some c
    | none => findSeq n b
  | .block _ c => findSeq n c
  | .loop c => findSeq n c
  | .scope c => findSeq n c
  | _ => none
def IsAt (n : Nat) (x y : Code) : Prop := Yba.f3.body.bind (findSeq n) = some (x, y)


/-- lane i, where lane j is being laid: the batch is there -/
def evL (j i : Nat) (l : Lane) (x q : Int) (p : Option Addr) (n : Nat) : Lane := match j, i with
  | 0, 0 => { l with tgt := x, sq := q, eo := p, ne := n }
  | 1, 1 => { l with tgt := x, sq := q, eo := p, ne := n }
  | _, _ => l

/-- lane i, where lane j is being laid: the queue is there too -/
def quL (j i : Nat) (l : Lane) (x q : Int) (p : Option Addr) (n : Nat) (p2 : Option Addr) (n2 : Nat) : Lane := match j, i with
  | 0, 0 => { l with tgt := x, sq := q, eo := p, ne := n, qo := p2, nq := n2 }
  | 1, 1 => { l with tgt := x, sq := q, eo := p, ne := n, qo := p2, nq := n2 }
  | _, _ => l

end Go.Proofs.Ybulkauss
