/-
  Small laws on blocks of cells: 'Blk w b c t': block b of w is the row c of type t, none of it frozen.
-/
import Derived.WalkKit
import Derived.Deep.OwnRows
import Derived.Laws.CopyOwn
import Derived.LaidEqlPtr
import Derived.Deep.RegionLawGrows
import Derived.WalkSpells
import Derived.WalkLawsBesides
namespace Go.Proofs.Ybulkauss
open Go.RowKit Go.Deep

def Blk (w : World) (b : Nat) (c : Array Value) (t : TypeId) : Prop := w.heap[b]? = some (.cells c t (0, 0))

namespace Blk
variable {w w' w0 : World} {b : Nat} {c : Array Value} {t : TypeId}
theorem lt (h : Blk w b c t) : b < w.heap.size := (Array.getElem?_eq_some_iff.1 h).1
theorem cell (h : Blk w b c t) (i : Nat) : w.cell? ⟨b, i, none⟩ = c[i]? := by
  simp only [Blk] at h; simp [World.cell?, h]
theorem frozen (h : Blk w b c t) (i : Nat) : w.frozen? ⟨b, i, none⟩ = false := by
  simp only [Blk] at h; simp [World.frozen?, h]
theorem of_block (h : Blk w b c t) (e : w'.heap[b]? = w.heap[b]?) : Blk w' b c t := e.trans h
theorem alloc (h : Blk w b c t) (o : Obj) : Blk (w.alloc o) b c t := h.of_block (blk_alloc_lt _ _ _ h.lt)
theorem drew (h : Blk w b c t) : Blk w.drew b c t := h
theorem new (w : World) (c : Array Value) (t : TypeId) : Blk (w.alloc (.cells c t)) w.heap.size c t := blk_alloc_new _ _
theorem setOther (h : Blk w b c t) {a : Addr} (ha : b ≠ a.block) (v : Value) : Blk (w.setCell a v) b c t := h.of_block (blk_setCell_other _ _ _ _ ha)
theorem set (h : Blk w b c t) (i : Nat) (v : Value) : Blk (w.setCell ⟨b, i, none⟩ v) b (c.setIfInBounds i v) t := by
  simp only [Blk] at h; simp [Blk, World.setCell, Array.getElem?_modify, h]
theorem below {B : Nat} (h : Blk w b c t) (hb : Below B w w') (hB : b < B) : Blk w' b c t := h.of_block (hb.block b hB)
theorem kept {row : Option Nat} (h : Blk w b c t) (hg : w.grownBy w' row) (hne : some b ≠ row) : Blk w' b c t := h.of_block (hg.block b h.lt hne)
theorem setRowOther (h : Blk w b c t) {g : Nat} (hne : b ≠ g) (cs : Array Value) : Blk (w.setRow g cs) b c t := h.of_block (setRow_other w g b cs hne)
end Blk

theorem size_setCell' (w : World) (a : Addr) (v : Value) : (w.setCell a v).heap.size = w.heap.size := by simp [World.setCell]

/-- the builtin copy into a row that is known, from a source that may be nil -/
theorem wpList_copy_at {P : Program} {w : World} {ops : Array Oper} {rest : List Oper} {dst : Option Tmp} {ty : TypeId} {pos : String} {after : Array Edge} {a : Act} {Q : Exit → Act → World → Prop} (d s : Operand) (dT sT : TypeId)
    (elem : TypeId) (hu : P.underlying dT = some (.slice elem)) (hsz : (P.info? elem).map (·.size) = some 1)
    (dp sp : Option Addr) (dLen dCap sLen sCap : Nat) (hd : a.eval d = .slice dp dLen dCap) (hs : a.eval s = .slice sp sLen sCap)
    (g off : Nat) (cur : Array Value) (t : TypeId) (hg : Blk w g cur t) (cs : List Value) (hn : cs.length = Nat.min sLen dLen)
    (hpos : 0 < cs.length → dp = some ⟨g, off, none⟩ ∧ ∃ ad, sp = some ad ∧ ∀ j v, cs[j]? = some v → w.cell? (ad.add j) = some v)
    (hfit : off + cs.length ≤ cur.size) (h1 : ∀ v ∈ cs, v.oneCell' = true)
    (h : ∀ w' cur', Blk w' g cur' t → cur'.size = cur.size → (∀ i, cur'[i]? = if off ≤ i ∧ i < off + cs.length then cs[i - off]? else cur[i]?) → w.grownBy w' (some g) → wpList P ops Q rest (a.put dst (goInt cs.length)) w') :
    wpList P ops Q ({ dst := dst, op := .call { callee := .builtin .copy, args := #[d, s], argTypes := #[dT, sT] }, type := ty, pos := pos, after := after, guard := none } :: rest) a w := by
  by_cases h0 : cs.length = 0
  · obtain rfl : cs = [] := List.eq_nil_of_length_eq_zero h0
    refine wpList_copy_nothing rfl d s dT sT rfl elem hu hsz dp sp dLen dCap sLen sCap hd hs (by simpa using hn.symm) ?_
    refine h w cur hg rfl (fun i => ?_) (World.grownBy.refl _ _)
    rw [if_neg]; simp
  · obtain ⟨rfl, ad, rfl, hsrc⟩ := hpos (by omega)
    refine wpList_copy_own rfl d s dT sT rfl elem hu hsz g off dLen dCap ad sLen sCap hd hs cur t hg cs hn hsrc hfit h1 ?_
    refine h _ _ (setRow_heap w g _ _ t _ hg) ?_ (fun i => ?_) ⟨rfl, rfl, rfl, by simp, fun k _ hk => setRow_other w g k _ (fun e => hk (by rw [e]))⟩
    · simp; omega
    · simp only [List.getElem?_toArray]
      by_cases hi : off ≤ i ∧ i < off + cs.length
      · rw [if_pos hi, List.getElem?_append_right (by simp; omega), List.getElem?_append_left (by simp; omega)]
        congr 1; simp; omega
      · rw [if_neg hi]
        by_cases hlt : i < off
        · rw [List.getElem?_append_left (by simp; omega)]; simp [hlt]
        · rw [List.getElem?_append_right (by simp; omega), List.getElem?_append_right (by simp; omega), List.getElem?_drop]
          simp only [List.length_take, Array.length_toList]
          have : off + cs.length + (i - min off cur.size - cs.length) = i := by omega
          rw [this]; simp

theorem run_neq_ptr_same {P : Program} (w : World) {tp te : TypeId} {j : TypeInfo} (a : Addr) (hp : P.underlying tp = some (.pointer te)) (hte : P.info? te = some j) :
    (binOp .neq tp (.pointer (some a)) (.pointer (some a))).run P w = .ok (.bool false) w := by
  have h : ∀ d : Nat, (Op.equalIn (d + 1) tp (.pointer (some a)) (.pointer (some a))).run P w = .ok true w := fun d => by
    simp [Op.equalIn, run_underlying hp, sizeOf, typeInfo, hte, run_sameAddr_same]
  simp only [binOp]
  simp [Op.equal, Op.maxDepth, h 9999]

theorem run_neq_ptr_other {P : Program} (w : World) {tp te : TypeId} {j : TypeInfo} {a b : Addr} {ca cb : Array Value} {ta tb : TypeId} (hp : P.underlying tp = some (.pointer te)) (hte : P.info? te = some j) (hsz : j.size ≠ 0)
    (hne : a ≠ b) (ha : w.heap[a.block]? = some (.cells ca ta (0, 0))) (hb : w.heap[b.block]? = some (.cells cb tb (0, 0))) :
    (binOp .neq tp (.pointer (some a)) (.pointer (some b))).run P w = .ok (.bool true) w := by
  have h : ∀ d : Nat, (Op.equalIn (d + 1) tp (.pointer (some a)) (.pointer (some b))).run P w = .ok false w := fun d => by
    simp [Op.equalIn, run_underlying hp, sizeOf, typeInfo, hte, hsz, run_sameAddr_other w hne ha hb]
  simp only [binOp]
  simp [Op.equal, Op.maxDepth, h 9999]

/-- 'append(s, make([]T, m)...)', which the translation hands over as append(s, m): it grows -/
theorem run_append_zeros {P : Program} (w : World) (t u ty e : TypeId) (i : TypeInfo) (z : Value) (ku : IntKind) (ht : P.underlying t = some (.slice e)) (hu : P.underlying u = some (.int ku)) (hi : P.info? e = some i) (hz : i.zero = some z)
    (hs1 : i.size = 1) (hb8 : i.bytes = 8) (hz1 : z.cells = #[z])
    (ao : Option Addr) (n cap : Nat) (olds : List Value) (hnone : ao = none → n = 0) (hlo : olds.length = n) (holds : ∀ b, ao = some b → ∀ j v, olds[j]? = some v → w.cell? (b.add j) = some v)
    (m : Nat) (hm : 1 ≤ m) (hg : cap < n + m) (hlim : n + m ≤ 1048576) :
    (Builtin.append_ #[t, u] ty #[.slice ao n cap, .int .i64 m]).run P w =
      .ok (.slice (some ⟨w.heap.size, 0, none⟩) (n + m) (grownCap w (n + m) cap e))
        (w.drew.alloc (.cells (olds.toArray ++ (List.replicate m z).toArray ++ Builtin.zeroCells z.cells (grownCap w (n + m) cap e - (n + m))) e)) := by
  have hn : ¬ (n + m ≤ cap) := by omega
  have hfit := growslice_fits (need := n + m) (old := cap) (bytes := i.bytes) (by omega) (by rw [hb8]; omega)
  have h48' : ¬ (281474976710656 < Builtin.nextslicecap (n + m) cap * i.bytes) := by omega
  have h63' : ¬ (9223372036854775807 < ((n : Int) + (m : Int))) := by omega
  have hw : IntKind.i64.wrap (m : Int) = m := by rw [IntKind.wrap_i64]; omega
  have hneg : ¬ ((m : Int) < 0) := by omega
  have hbig : ¬ (281474976710656 < (m : Int) * (i.bytes : Int)) := by rw [hb8]; omega
  have hm0 : ¬ m = 0 := by omega
  have hzc : Builtin.zeroCells z.cells m = (List.replicate m z).toArray := by
    rw [hz1]; apply Array.ext <;> simp [Builtin.zeroCells, Nat.mod_one]
  have hfo : (Builtin.firstCells 1 n (.slice ao n cap)).run P w.drew = .ok olds.toArray w.drew := by
    cases ao with
    | none =>
      have h0 := hnone rfl
      subst h0
      obtain rfl : olds = [] := List.eq_nil_of_length_eq_zero (by simpa using hlo)
      simp [Builtin.firstCells]
    | some b => exact run_firstCells_some (P := P) w.drew 1 n b n cap olds (by omega) (by simpa using holds b rfl)
  have hasInt : ∀ w', (asInt (.int .i64 (m : Int))).run P w' = .ok (m : Int) w' := fun _ => rfl
  have hmax : max (m : Int) 0 = m := by omega
  simp [Builtin.append_, run_underlying ht, run_underlying hu, sizeOf, typeInfo, zeroValue, hi, hz, hn, h63', h48', hw, hbig, hs1, Question.forced, newRow, grownCap, hasInt, hfo, hmax, hzc]
  rw [if_neg hneg, if_neg hm0]

/-- the same as one step of a region that draws its order: to length N -/
theorem step_append_zeros {P : Program} {ops : Array Oper} {o : Oper} {a : Act} {w : World} {K : Act → World → Prop} {Q : Exit → Act → World → Prop} {E : Prop}
    (hgd : o.guard = none) (s x : Operand) (t u : TypeId) (hop : o.op = Op.call { callee := Callee.builtin Builtin.append, args := #[s, x], argTypes := #[t, u] })
    (e : TypeId) (i : TypeInfo) (z : Value) (ku : IntKind) (ht : P.underlying t = some (.slice e)) (hu : P.underlying u = some (.int ku)) (hi : P.info? e = some i) (hz : i.zero = some z) (hs1 : i.size = 1) (hb8 : i.bytes = 8) (hz1 : z.cells = #[z])
    (ao : Option Addr) (n cap : Nat) (olds : List Value) (hs : a.eval s = .slice ao n cap) (hnone : ao = none → n = 0) (hlo : olds.length = n) (holds : ∀ b, ao = some b → ∀ j v, olds[j]? = some v → w.cell? (b.add j) = some v)
    (N : Nat) (L : Int) (hx : a.eval x = .int .i64 L) (hL : L = (N : Int) - (n : Int)) (hnN : n < N) (hg : cap < N) (hlim : N ≤ 1048576)
    (hK : ∀ (C : Nat) (R : Array Value), N ≤ C → C ≤ maxLen → R.size = C → R.toList.take N = olds ++ List.replicate (N - n) z → K (a.put o.dst (.slice (some ⟨w.heap.size, 0, none⟩) N C)) (w.drew.alloc (.cells R e))) :
    if Region.wanted o (yielded ops a.tmps) = true then Oper.wp P o a w K Q else E := by
  have hw : Region.wanted o (yielded ops a.tmps) = true := by simp [Region.wanted, hgd]
  rw [if_pos hw]
  obtain ⟨m, rfl⟩ : ∃ m, N = n + m := ⟨N - n, by omega⟩
  have hLm : L = (m : Int) := by omega
  have hrun := run_append_zeros (P := P) w t u o.type e i z ku ht hu hi hz hs1 hb8 hz1 ao n cap olds hnone hlo holds m (by omega) hg hlim
  unfold Oper.wp
  simp [execOp, hop, resolve, invoke, builtin, hs, hx, hLm, hrun, Result.andThen]
  have hge := grownCap_ge w (n + m) cap e
  refine hK _ _ hge (grownCap_le_maxLen w (n + m) cap e (by unfold maxLen; omega)) ?_ ?_
  · simp [size_zeroCells, hz1]; omega
  · have hm : n + m - n = m := by omega
    rw [hm]
    simp only [Array.toList_append]
    rw [← List.append_assoc, List.take_left' (by simp [hlo])]
    simp
end Go.Proofs.Ybulkauss
