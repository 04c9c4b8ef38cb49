/-
  Small laws on blocks of cells: 'Blk w b c t': block b of w is the row c of type t, none of it frozen.
-/
import Derived.WalkKit
import Derived.Deep.OwnRows
import Derived.Laws.CopyOwn
import Derived.Deep.RegionLawGrows
import Derived.WalkSpells
import Derived.WalkLawsBesides
namespace Go.Proofs.Ybulkauvk
open Go.RowKit Go.Deep

def Blk (w : World) (b : Nat) (c : Array Value) (t : TypeId) : Prop := w.heap[b]? = some (.cells c t (0, 0))

namespace Blk
variable {w w' w0 : World} {b : Nat} {c : Array Value} {t : TypeId}
theorem lt (h : Blk w b c t) : b < w.heap.size := (Array.getElem?_eq_some_iff.1 h).1
theorem cell (h : Blk w b c t) (i : Nat) : w.cell? ⟨b, i, none⟩ = c[i]? := by
  simp only [Blk] at h; simp [World.cell?, h]
theorem frozen (h : Blk w b c t) (i : Nat) : w.frozen? ⟨b, i, none⟩ = false := by
  simp only [Blk] at h; simp [World.frozen?, h]
theorem of_block (h : Blk w b c t) (e : w'.heap[b]? = w.heap[b]?) : Blk w' b c t := e.trans h
theorem alloc (h : Blk w b c t) (o : Obj) : Blk (w.alloc o) b c t := h.of_block (blk_alloc_lt _ _ _ h.lt)
theorem drew (h : Blk w b c t) : Blk w.drew b c t := h
theorem new (w : World) (c : Array Value) (t : TypeId) : Blk (w.alloc (.cells c t)) w.heap.size c t := blk_alloc_new _ _
theorem setOther (h : Blk w b c t) {a : Addr} (ha : b ≠ a.block) (v : Value) : Blk (w.setCell a v) b c t := h.of_block (blk_setCell_other _ _ _ _ ha)
theorem set (h : Blk w b c t) (i : Nat) (v : Value) : Blk (w.setCell ⟨b, i, none⟩ v) b (c.setIfInBounds i v) t := by
  simp only [Blk] at h; simp [Blk, World.setCell, Array.getElem?_modify, h]
theorem below {B : Nat} (h : Blk w b c t) (hb : Below B w w') (hB : b < B) : Blk w' b c t := h.of_block (hb.block b hB)
theorem kept {row : Option Nat} (h : Blk w b c t) (hg : w.grownBy w' row) (hne : some b ≠ row) : Blk w' b c t := h.of_block (hg.block b h.lt hne)
theorem setRowOther (h : Blk w b c t) {g : Nat} (hne : b ≠ g) (cs : Array Value) : Blk (w.setRow g cs) b c t := h.of_block (setRow_other w g b cs hne)
end Blk

theorem size_setCell' (w : World) (a : Addr) (v : Value) : (w.setCell a v).heap.size = w.heap.size := by simp [World.setCell]


theorem shape_of {w : World} {base e size n : Nat} {v : Value} {xs : List Value} (h : w.ownsRow base e size v n xs) : ∃ ao cap, v = .slice ao n cap := by
  rcases h.2 with ⟨rfl, rfl⟩ | ⟨g, cap, cur, rfl, _⟩
  · exact ⟨none, 0, rfl⟩
  · exact ⟨_, _, rfl⟩

/-- append to a row of the call's own, as one step of a region that draws its order -/
theorem step_append_own {P : Program} {ops : Array Oper} {o : Oper} {a : Act} {w : World} {K : Act → World → Prop} {Q : Exit → Act → World → Prop} {E : Prop}
    (hgd : o.guard = none) (s x : Operand) (t : TypeId) (hop : o.op = Op.call { callee := Callee.builtin Builtin.append, args := #[s, x], argTypes := #[t, t] })
    (base : Nat) (e : TypeId) (i : TypeInfo) (z : Value) (size bytes : Nat) (ht : P.underlying t = some (.slice e)) (hi : P.info? e = some i) (hz : i.zero = some z)
    (hsize : i.size = size) (hby : i.bytes = bytes) (hzs : z.cells.size = size) (hsz : 0 < size)
    (v : Value) (n : Nat) (xs : List Value) (hs : a.eval s = v) (hown : w.ownsRow base e size v n xs)
    (ad : Addr) (m c : Nat) (news : List Value) (hx : a.eval x = .slice (some ad) m c) (hl : news.length = m * size) (hnews : ∀ j u, news[j]? = some u → w.cell? (ad.add j) = some u) (h1 : ∀ u ∈ news, u.oneCell' = true)
    (h63 : n + m ≤ maxLen) (hbytes : (n + m) * bytes ≤ 140737488355328) (hbase : base ≤ w.heap.size)
    (hK : ∀ v' w', w'.ownsRow base e size v' (n + m) (xs ++ news) → w.grownBy w' v.ownBlock → K (a.put o.dst v') w') :
    if Region.wanted o (yielded ops a.tmps) = true then Oper.wp P o a w K Q else E := by
  have hw : Region.wanted o (yielded ops a.tmps) = true := by simp [Region.wanted, hgd]
  rw [if_pos hw]
  obtain ⟨v', w', hrun, r1, r2, _⟩ := run_append_own (P := P) w base t o.type e i z size bytes ht hi hz hsize hby hzs hsz v n xs hown ad m c news hl hnews h1 h63 hbytes hbase
  unfold Oper.wp
  simp [execOp, hop, resolve, invoke, builtin, hs, hx, hrun, Result.andThen]
  exact hK v' w' r1 r2

/-- a call of a Go function that leaves the world as it is, as one step of a region that draws its order -/
theorem step_call {P : Program} {ops : Array Oper} {o : Oper} {a : Act} {w : World} {K : Act → World → Prop} {Q : Exit → Act → World → Prop} {E : Prop}
    (hgd : o.guard = none) (f : FuncId) (args : Array Operand) (ts : Array TypeId) (hop : o.op = Op.call { callee := Callee.value (Operand.func f), args := args, argTypes := ts })
    (vals : Array Value) (hv : args.map a.eval = vals) (hrun : (callFunc f vals).run P w = .ok (.enter f vals) w) (v : Value) (hc : Calls P f vals w fun e w' => e = .returned v ∧ w = w')
    (hK : K (a.put o.dst v) w) :
    if Region.wanted o (yielded ops a.tmps) = true then Oper.wp P o a w K Q else E := by
  have hw : Region.wanted o (yielded ops a.tmps) = true := by simp [Region.wanted, hgd]
  rw [if_pos hw]
  have hx : (execOp a.eval o).run P w = .ok (.enter f vals) w := by
    simp [execOp, hop, resolve, invoke, hv, hrun, Act.eval, Deferred.ofValue]
  unfold Oper.wp
  rw [hx, Oper.upon_enter]
  refine hc.mono ?_
  rintro e w' ⟨rfl, rfl⟩
  exact hK
end Go.Proofs.Ybulkauvk
