/-
  Small laws on blocks of cells: 'Blk w b c t': block b of w is the row c of type t, none of it frozen.
-/
import Derived.WalkKit
import Derived.Deep.OwnRows
import Derived.Laws.CopyOwn
import Derived.LaidEqlPtr
namespace Go.Proofs.Ybulkause
open Go.RowKit Go.Deep

def Blk (w : World) (b : Nat) (c : Array Value) (t : TypeId) : Prop := w.heap[b]? = some (.cells c t (0, 0))

namespace Blk
variable {w w' w0 : World} {b : Nat} {c : Array Value} {t : TypeId}
theorem lt (h : Blk w b c t) : b < w.heap.size := (Array.getElem?_eq_some_iff.1 h).1
theorem cell (h : Blk w b c t) (i : Nat) : w.cell? ⟨b, i, none⟩ = c[i]? := by
  simp only [Blk] at h; simp [World.cell?, h]
theorem frozen (h : Blk w b c t) (i : Nat) : w.frozen? ⟨b, i, none⟩ = false := by
  simp only [Blk] at h; simp [World.frozen?, h]
theorem of_block (h : Blk w b c t) (e : w'.heap[b]? = w.heap[b]?) : Blk w' b c t := e.trans h
theorem alloc (h : Blk w b c t) (o : Obj) : Blk (w.alloc o) b c t := h.of_block (blk_alloc_lt _ _ _ h.lt)
theorem drew (h : Blk w b c t) : Blk w.drew b c t := h
theorem new (w : World) (c : Array Value) (t : TypeId) : Blk (w.alloc (.cells c t)) w.heap.size c t := blk_alloc_new _ _
theorem setOther (h : Blk w b c t) {a : Addr} (ha : b ≠ a.block) (v : Value) : Blk (w.setCell a v) b c t := h.of_block (blk_setCell_other _ _ _ _ ha)
theorem set (h : Blk w b c t) (i : Nat) (v : Value) : Blk (w.setCell ⟨b, i, none⟩ v) b (c.setIfInBounds i v) t := by
  simp only [Blk] at h; simp [Blk, World.setCell, Array.getElem?_modify, h]
theorem below {B : Nat} (h : Blk w b c t) (hb : Below B w w') (hB : b < B) : Blk w' b c t := h.of_block (hb.block b hB)
theorem kept {row : Option Nat} (h : Blk w b c t) (hg : w.grownBy w' row) (hne : some b ≠ row) : Blk w' b c t := h.of_block (hg.block b h.lt hne)
theorem setRowOther (h : Blk w b c t) {g : Nat} (hne : b ≠ g) (cs : Array Value) : Blk (w.setRow g cs) b c t := h.of_block (setRow_other w g b cs hne)
end Blk

theorem size_setCell' (w : World) (a : Addr) (v : Value) : (w.setCell a v).heap.size = w.heap.size := by simp [World.setCell]

/-- the builtin copy into a row that is known, from a source that may be nil -/
theorem wpList_copy_at {P : Program} {w : World} {ops : Array Oper} {rest : List Oper} {dst : Option Tmp} {ty : TypeId} {pos : String} {after : Array Edge} {a : Act} {Q : Exit → Act → World → Prop} (d s : Operand) (dT sT : TypeId)
    (elem : TypeId) (hu : P.underlying dT = some (.slice elem)) (hsz : (P.info? elem).map (·.size) = some 1)
    (dp sp : Option Addr) (dLen dCap sLen sCap : Nat) (hd : a.eval d = .slice dp dLen dCap) (hs : a.eval s = .slice sp sLen sCap)
    (g off : Nat) (cur : Array Value) (t : TypeId) (hg : Blk w g cur t) (cs : List Value) (hn : cs.length = Nat.min sLen dLen)
    (hpos : 0 < cs.length → dp = some ⟨g, off, none⟩ ∧ ∃ ad, sp = some ad ∧ ∀ j v, cs[j]? = some v → w.cell? (ad.add j) = some v)
    (hfit : off + cs.length ≤ cur.size) (h1 : ∀ v ∈ cs, v.oneCell' = true)
    (h : ∀ w' cur', Blk w' g cur' t → cur'.size = cur.size → (∀ i, cur'[i]? = if off ≤ i ∧ i < off + cs.length then cs[i - off]? else cur[i]?) → w.grownBy w' (some g) → wpList P ops Q rest (a.put dst (goInt cs.length)) w') :
    wpList P ops Q ({ dst := dst, op := .call { callee := .builtin .copy, args := #[d, s], argTypes := #[dT, sT] }, type := ty, pos := pos, after := after, guard := none } :: rest) a w := by
  by_cases h0 : cs.length = 0
  · obtain rfl : cs = [] := List.eq_nil_of_length_eq_zero h0
    refine wpList_copy_nothing rfl d s dT sT rfl elem hu hsz dp sp dLen dCap sLen sCap hd hs (by simpa using hn.symm) ?_
    refine h w cur hg rfl (fun i => ?_) (World.grownBy.refl _ _)
    rw [if_neg]; simp
  · obtain ⟨rfl, ad, rfl, hsrc⟩ := hpos (by omega)
    refine wpList_copy_own rfl d s dT sT rfl elem hu hsz g off dLen dCap ad sLen sCap hd hs cur t hg cs hn hsrc hfit h1 ?_
    refine h _ _ (setRow_heap w g _ _ t _ hg) ?_ (fun i => ?_) ⟨rfl, rfl, rfl, by simp, fun k _ hk => setRow_other w g k _ (fun e => hk (by rw [e]))⟩
    · simp; omega
    · simp only [List.getElem?_toArray]
      by_cases hi : off ≤ i ∧ i < off + cs.length
      · rw [if_pos hi, List.getElem?_append_right (by simp; omega), List.getElem?_append_left (by simp; omega)]
        congr 1; simp; omega
      · rw [if_neg hi]
        by_cases hlt : i < off
        · rw [List.getElem?_append_left (by simp; omega)]; simp [hlt]
        · rw [List.getElem?_append_right (by simp; omega), List.getElem?_append_right (by simp; omega), List.getElem?_drop]
          simp only [List.length_take, Array.length_toList]
          have : off + cs.length + (i - min off cur.size - cs.length) = i := by omega
          rw [this]; simp

theorem run_neq_ptr_same {P : Program} (w : World) {tp te : TypeId} {j : TypeInfo} (a : Addr) (hp : P.underlying tp = some (.pointer te)) (hte : P.info? te = some j) :
    (binOp .neq tp (.pointer (some a)) (.pointer (some a))).run P w = .ok (.bool false) w := by
  have h : ∀ d : Nat, (Op.equalIn (d + 1) tp (.pointer (some a)) (.pointer (some a))).run P w = .ok true w := fun d => by
    simp [Op.equalIn, run_underlying hp, sizeOf, typeInfo, hte, run_sameAddr_same]
  simp only [binOp]
  simp [Op.equal, Op.maxDepth, h 9999]

theorem run_neq_ptr_other {P : Program} (w : World) {tp te : TypeId} {j : TypeInfo} {a b : Addr} {ca cb : Array Value} {ta tb : TypeId} (hp : P.underlying tp = some (.pointer te)) (hte : P.info? te = some j) (hsz : j.size ≠ 0)
    (hne : a ≠ b) (ha : w.heap[a.block]? = some (.cells ca ta (0, 0))) (hb : w.heap[b.block]? = some (.cells cb tb (0, 0))) :
    (binOp .neq tp (.pointer (some a)) (.pointer (some b))).run P w = .ok (.bool true) w := by
  have h : ∀ d : Nat, (Op.equalIn (d + 1) tp (.pointer (some a)) (.pointer (some b))).run P w = .ok false w := fun d => by
    simp [Op.equalIn, run_underlying hp, sizeOf, typeInfo, hte, hsz, run_sameAddr_other w hne ha hb]
  simp only [binOp]
  simp [Op.equal, Op.maxDepth, h 9999]
end Go.Proofs.Ybulkause
