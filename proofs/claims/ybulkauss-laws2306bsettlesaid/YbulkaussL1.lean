/-
  The law's own cells: the node and the message that it makes.
-/
import Derived.Test.YbulkaussNode
import Derived.Deep.MidRow
namespace Go.Proofs.Ybulkauss
open Go.RowKit Go.Deep

theorem wpList_build_at {P : Program} {ops : Array Oper} {rest : List Oper} {dst : Option Tmp} {ty : TypeId} {pos : String} {after : Array Edge} {a : Act} {w : World} {Q : Exit → Act → World → Prop}
    (t : TypeId) (parts : Array (Nat × Operand)) (cells : Array Value) (vals : List (Nat × Value)) (hv : (parts.map fun (i, x) => (i, a.eval x)).toList = vals) (hc : P.built t vals = some cells)
    (h : wpList P ops Q rest (a.put dst (.agg cells)) w) :
    wpList P ops Q ({ dst := dst, op := .build t parts, type := ty, pos := pos, after := after, guard := none } :: rest) a w := by
  refine wpList_plain rfl fun K hK => ?_
  refine wp_build t parts rfl ?_ ?_
  · rw [hv, hc]; rfl
  · rw [hv, hc]; exact hK _ _ h

/-- the cells of an empty lane from o on -/
def zLane (nz : Array Value) (o : Nat) : List (Option Value) := [nz[o + 6]?, nz[o + 7]?, nz[o + 8]?, nz[o + 9]?, nz[o + 10]?, nz[o + 11]?, nz[o + 12]?, nz[o + 13]?, nz[o + 14]?, nz[o + 33]?, nz[o + 34]?, nz[o + 35]?, nz[o + 36]?, nz[o + 37]?, nz[o + 38]?, nz[o + 39]?]
def zLaneV : List (Option Value) := [some (.slice none 0 0), some (.int .u64 0), some (.int .u64 0), some (.int .u64 0), some (.int .u64 0), some (.pointer none), some (.int .u16 0), some (.int .u8 0), some (.slice none 0 0),
  some (.int .u64 0), some (.int .u64 0), some (.int .u64 0), some (.int .u64 0), some (.pointer none), some (.int .u16 0), some (.int .u8 0)]
def zTime (nz : Array Value) (o : Nat) : List (Option Value) := [nz[o]?, nz[o + 1]?, nz[o + 2]?]
def zTimeV : List (Option Value) := [some (.int .u64 0), some (.int .i64 0), some (.pointer none)]

theorem built115 : ∃ nz, Yba.prog.built 115 [] = some nz ∧ nz.size = 267 ∧ zLane nz 74 = zLaneV ∧ zLane nz 114 = zLaneV ∧ zTime nz 0 = zTimeV ∧ zTime nz 235 = zTimeV ∧ (nz.extract 74 154).all (·.oneCell') = true := by
  have key : (Yba.prog.built 115 []).map (fun nz => (nz.size, zLane nz 74, zLane nz 114, zTime nz 0, zTime nz 235, (nz.extract 74 154).all (·.oneCell'))) = some (267, zLaneV, zLaneV, zTimeV, zTimeV, true) := by kernel_rfl
  cases h : Yba.prog.built 115 [] with
  | none => rw [h] at key; simp at key
  | some nz =>
    rw [h] at key
    simp only [Option.map_some, Option.some.injEq, Prod.mk.injEq] at key
    exact ⟨nz, rfl, key⟩

theorem built123 (fl ac ba : Int) : ∃ mz, Yba.prog.built 123 [(2, .int .u8 fl), (17, .int .u8 ac), (16, .int .u8 ba)] = some mz ∧ mz[3]? = some (.int .u8 fl) ∧ mz[17]? = some (.slice none 0 0) ∧ mz[24]? = some (.int .u8 ba) ∧ mz[25]? = some (.int .u8 ac) := by
  have key : (Yba.prog.built 123 [(2, .int .u8 fl), (17, .int .u8 ac), (16, .int .u8 ba)]).map (fun mz => (mz[3]?, mz[17]?, mz[24]?, mz[25]?)) = some (some (.int .u8 fl), some (.slice none 0 0), some (.int .u8 ba), some (.int .u8 ac)) := by kernel_rfl
  cases h : Yba.prog.built 123 [(2, .int .u8 fl), (17, .int .u8 ac), (16, .int .u8 ba)] with
  | none => rw [h] at key; simp at key
  | some mz =>
    rw [h] at key
    simp only [Option.map_some, Option.some.injEq, Prod.mk.injEq] at key
    exact ⟨mz, rfl, key⟩

/-- a row of cells written into a block -/
theorem Blk.setCells {b : Nat} {t : TypeId} : ∀ (vs : List Value) (o : Nat) (w : World) (c : Array Value), Blk w b c t → o + vs.length ≤ c.size →
    ∃ c', Blk (w.setCells b o vs) b c' t ∧ c'.size = c.size ∧ ∀ k, c'[k]? = if o ≤ k ∧ k < o + vs.length then vs[k - o]? else c[k]?
  | [], o, w, c, h, _ => ⟨c, h, rfl, fun k => by rw [if_neg]; simp⟩
  | v :: vs, o, w, c, h, hl => by
    obtain ⟨c', h1, h2, h3⟩ := Blk.setCells vs (o + 1) _ _ (h.set o v) (by simp at hl ⊢; omega)
    refine ⟨c', h1, by rw [h2]; simp, fun k => ?_⟩
    rw [h3 k, Array.getElem?_setIfInBounds]
    simp only [List.length_cons] at hl ⊢
    by_cases hk : o = k
    · subst hk
      rw [if_neg (by omega), if_pos rfl, if_pos (by omega), if_pos (by omega)]; simp
    · by_cases hk2 : o + 1 ≤ k ∧ k < o + 1 + vs.length
      · rw [if_pos hk2, if_pos (by omega)]
        obtain ⟨j, rfl⟩ : ∃ j, k = o + 1 + j := ⟨k - (o + 1), by omega⟩
        have e1 : o + 1 + j - (o + 1) = j := by omega
        have e2 : o + 1 + j - o = j + 1 := by omega
        rw [e1, e2]; simp
      · rw [if_neg hk2, if_neg hk, if_neg (by omega)]

theorem size_setCells (b : Nat) : ∀ (vs : List Value) (o : Nat) (w : World), (w.setCells b o vs).heap.size = w.heap.size
  | [], _, _ => rfl
  | _ :: vs, o, _ => (size_setCells b vs (o + 1) _).trans (size_setCell' _ _ _)
theorem heap_setCells (b k : Nat) (hk : k ≠ b) : ∀ (vs : List Value) (o : Nat) (w : World), (w.setCells b o vs).heap[k]? = w.heap[k]?
  | [], _, _ => rfl
  | _ :: vs, o, _ => (heap_setCells b k hk vs (o + 1) _).trans (blk_setCell_other _ _ _ _ hk)
theorem grown_setCells (b : Nat) : ∀ (vs : List Value) (o : Nat) (w : World), w.grownBy (w.setCells b o vs) (some b)
  | [], _, w => World.grownBy.refl _ _
  | v :: vs, o, w => by
    have h := grown_setCells b vs (o + 1) (w.setCell ⟨b, o, none⟩ v)
    refine ⟨h.os, h.tape, h.output, by rw [size_setCells]; exact Nat.le_refl _, fun k _ hne => heap_setCells b k (fun e => hne (by rw [e])) _ _ _⟩

/-- a struct stored into the midst of a block that is known -/
theorem wpList_store_at {P : Program} {ops : Array Oper} {rest : List Oper} {dst : Option Tmp} {ty : TypeId} {pos : String} {after : Array Edge} {a : Act} {w : World} {Q : Exit → Act → World → Prop}
    (t : TypeId) (x y : Operand) (b o : Nat) (cells c : Array Value) (tb : TypeId) (hx : a.eval x = .pointer (some ⟨b, o, none⟩)) (hy : a.eval y = .agg cells)
    (hb : Blk w b c tb) (hl : o + cells.size ≤ c.size) (hi : (P.info? t).map (·.size) = some cells.size) (h1 : cells.all (·.oneCell') = true)
    (h : ∀ w' c', Blk w' b c' tb → c'.size = c.size → (∀ k, c'[k]? = if o ≤ k ∧ k < o + cells.size then cells[k - o]? else c[k]?) → w.grownBy w' (some b) → w'.heap.size = w.heap.size → wpList P ops Q rest (a.put dst undef) w') :
    wpList P ops Q ({ dst := dst, op := .store t x y, type := ty, pos := pos, after := after, guard := none } :: rest) a w := by
  refine wpList_store_mid rfl t x y rfl b o cells hx hy (fun j hj => ⟨?_, hb.frozen _⟩) hi h1 ?_
  · rw [hb.cell, Array.getElem?_eq_getElem (show o + j < c.size by omega)]; rfl
  · obtain ⟨c', h2, h3, h4⟩ := Blk.setCells cells.toList o w c hb (by simpa using hl)
    exact h _ c' h2 h3 (by simpa using h4) (grown_setCells b _ o w) (size_setCells b _ o w)

/-- 'x := v', v a struct: a new variable and the store into it -/
theorem wpList_var_at {P : Program} {ops : Array Oper} {rest : List Oper} {d : Tmp} {dst2 : Option Tmp} {ty ty2 : TypeId} {pos pos2 : String} {after after2 : Array Edge} {a : Act} {w : World} {Q : Exit → Act → World → Prop}
    (t : TypeId) (y : Operand) (cells : Array Value) (hy : (a.put (some d) (.pointer (some ⟨w.heap.size, 0, none⟩))).eval y = .agg cells) (hz0 : (P.info? t).bind (fun i => i.zero.map fun z => (z.cells.size, i.size)) = some (cells.size, cells.size))
    (h1 : cells.all (·.oneCell') = true) (hd : (a.put (some d) (.pointer (some ⟨w.heap.size, 0, none⟩))).eval (.tmp d) = .pointer (some ⟨w.heap.size, 0, none⟩))
    (h : ∀ w', Blk w' w.heap.size cells t → Below w.heap.size w w' → w'.heap.size = w.heap.size + 1 → wpList P ops Q rest ((a.put (some d) (.pointer (some ⟨w.heap.size, 0, none⟩))).put dst2 undef) w') :
    wpList P ops Q ({ dst := some d, op := .alloc t, type := ty, pos := pos, after := after, guard := none } :: { dst := dst2, op := .store t (.tmp d) y, type := ty2, pos := pos2, after := after2, guard := none } :: rest) a w := by
  obtain ⟨i, z, hi, hz, hzs, hs⟩ : ∃ i z, P.info? t = some i ∧ i.zero = some z ∧ z.cells.size = cells.size ∧ i.size = cells.size := by
    cases hi : P.info? t with
    | none => rw [hi] at hz0; simp at hz0
    | some i =>
      cases hz : i.zero with
      | none => rw [hi] at hz0; simp [hz] at hz0
      | some z => rw [hi] at hz0; simp [hz] at hz0; exact ⟨i, z, rfl, hz, hz0.1, hz0.2⟩
  refine wpList_plain rfl fun K hK => ?_
  have hrun : (execOp a.eval { dst := some d, op := .alloc t, type := ty, pos := pos, after := after, guard := none }).run P w = .ok (.value (.pointer (some ⟨w.heap.size, 0, none⟩))) (w.alloc (.cells z.cells t)) := by
    simp [execOp, Instr.alloc, zeroValue, typeInfo, hi, hz, newVar, newRow]
  unfold Oper.wp
  rw [hrun, Oper.upon_value]
  refine hK _ _ ?_
  refine wpList_store_at t (.tmp d) y w.heap.size 0 cells z.cells t hd hy (Blk.new _ _ _) (by omega) (by rw [hi]; simpa using hs) h1 ?_
  intro w' c' k1 k2 k3 k4 k5
  obtain rfl : c' = cells := Array.ext_getElem? (fun k => by
    rw [k3 k]
    by_cases hk : k < cells.size
    · rw [if_pos (by omega)]; rfl
    · rw [if_neg (by omega), Array.getElem?_eq_none (by omega), Array.getElem?_eq_none (by omega)])
  refine h w' k1 ⟨k4.os, k4.tape, k4.output, by rw [k5]; simp, fun k hk => ?_⟩ (by rw [k5]; simp)
  rw [k4.block k (by simp; omega) (fun e => by have := Option.some.inj e; omega), Below.heap_alloc _ _ _ hk]

theorem var38 : (Yba.prog.info? 38).bind (fun i => i.zero.map fun z => (z.cells.size, i.size)) = some (6, 6) := by kernel_rfl
theorem var43 : (Yba.prog.info? 43).bind (fun i => i.zero.map fun z => (z.cells.size, i.size)) = some (3, 3) := by kernel_rfl
theorem var23 : (Yba.prog.info? 23).bind (fun i => i.zero.map fun z => (z.cells.size, i.size)) = some (6, 6) := by kernel_rfl
theorem var77 : (Yba.prog.info? 77).bind (fun i => i.zero.map fun z => (z.cells.size, i.size)) = some (40, 40) := by kernel_rfl
theorem var78 : (Yba.prog.info? 78).bind (fun i => i.zero.map fun z => (z.cells.size, i.size)) = some (80, 80) := by kernel_rfl
theorem size38 : (Yba.prog.info? 38).map (·.size) = some 6 := by kernel_rfl
theorem size43 : (Yba.prog.info? 43).map (·.size) = some 3 := by kernel_rfl
theorem size23 : (Yba.prog.info? 23).map (·.size) = some 6 := by kernel_rfl
theorem size77 : (Yba.prog.info? 77).map (·.size) = some 40 := by kernel_rfl
theorem size78 : (Yba.prog.info? 78).map (·.size) = some 80 := by kernel_rfl
end Go.Proofs.Ybulkauss
