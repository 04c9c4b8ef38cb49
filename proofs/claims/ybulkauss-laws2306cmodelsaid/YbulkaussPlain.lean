/-
  What the two laws on setHolder share: the slices that came in, the plain laws on words and bits.
-/
import Derived.Test.YbulkaussHeld
import Derived.ProofKit
import Derived.OpenShut
namespace Go.Proofs.Ybulkauss
open Go.ChangeShapes Go.WideShapes Go.ChangeAt Go.RowKit Go.Deep

/-- WHAT A WALK IS TOLD OF A SLICE OF INTEGERS THAT CAME IN (the shell's own words) -/
def IsRow (k : IntKind) (w : World) (a : Option Addr) (len cap : Nat) (zs : List Int) : Prop :=
  (a = none ∧ len = 0 ∧ cap = 0 ∧ zs = []) ∨
  ∃ x, a = some x ∧ len ≤ cap ∧ cap ≤ maxLen ∧ zs.length = cap ∧ (∀ i, i < zs.length → w.cell? (x.add i) = some (.int k (zs.getD i 0))) ∧ ∀ n ∈ zs, (Lit.int k n).wf = true

theorem reads_of {w : World} {a : Option Addr} {len cap : Nat} {zs : List Int} (h : IsRow .u64 w a len cap zs) : (zs.take len).length = len ∧ Reads w a (zs.take len) ∧ len ≤ maxLen := by
  rcases h with ⟨rfl, rfl, rfl, rfl⟩ | ⟨x, rfl, hlc, hcm, hz, hcell, _⟩
  · exact ⟨rfl, ⟨fun _ => rfl, fun h => by simp at h⟩, by unfold maxLen; omega⟩
  · refine ⟨by simp; omega, ⟨fun e => (by cases e), fun hp => ?_⟩, by omega⟩
    obtain ⟨b, off, rfl, hc⟩ := ints_at hcell (by simp at hp; omega)
    refine ⟨b, off, rfl, fun i hi => ?_⟩
    have hi' : i < min len zs.length := by simpa using hi
    rw [hc i (by omega)]
    simp [show i < len by omega]

theorem reads_below {w w' : World} {B : Nat} {ao : Option Addr} {zs : List Int} (h : Reads w ao zs) (hb : Below B w w') (hB : w.heap.size ≤ B) : Reads w' ao zs := by
  refine ⟨h.1, fun hp => ?_⟩
  obtain ⟨b, off, e, hc⟩ := h.2 hp
  refine ⟨b, off, e, fun i hi => ?_⟩
  have hlt : b < w.heap.size := World.block_lt_of_cell? w _ (hc i hi)
  exact (hb.cell (p := ⟨b, off + i, none⟩) (by show b < B; omega)).trans (hc i hi)

/-- over draws -/
theorem below_drawn {B : Nat} {w v x w' : World} {row : Option Nat} (h : Below B w v) (hg : x.grownBy w' row) (hx : x.heap = v.heap ∧ x.os = v.os ∧ x.tape = v.tape ∧ x.output = v.output) (hB : B ≤ v.heap.size) (hr : ∀ k, row = some k → B ≤ k) : Below B w w' :=
  (h.trans ⟨hx.2.1, hx.2.2.1, hx.2.2.2, Nat.le_of_eq (by rw [hx.1]), fun _ _ => by rw [hx.1]⟩).grown hg (by rw [hx.1]; exact hB) hr

/-- setting a bit and clearing it is clearing it -/
theorem ofInt_bits (op : BinOp) (x y : Int) : BitVec.ofInt 64 (bits op IntKind.u64 x y) = (match op with
    | .and => BitVec.ofInt 64 x &&& BitVec.ofInt 64 y
    | .or => BitVec.ofInt 64 x ||| BitVec.ofInt 64 y
    | .xor => BitVec.ofInt 64 x ^^^ BitVec.ofInt 64 y
    | _ => BitVec.ofInt 64 x &&& ~~~ BitVec.ofInt 64 y) := by
  have key : ∀ r : BitVec 64, BitVec.ofInt 64 (IntKind.u64.wrap (r.toNat : Int)) = r := by
    intro r
    rw [IntKind.wrap_u64]
    apply BitVec.eq_of_toNat_eq
    rw [BitVec.toNat_ofInt]
    have := r.isLt
    omega
  exact key _

theorem clear_set (x b : Int) : bits BinOp.andNot IntKind.u64 (bits BinOp.or IntKind.u64 x b) b = bits BinOp.andNot IntKind.u64 x b := by
  have h : ∀ y : Int, bits BinOp.andNot IntKind.u64 y b = IntKind.u64.wrap ((BitVec.ofInt 64 y &&& ~~~ BitVec.ofInt 64 b).toNat : Int) := fun y => rfl
  have e : (BitVec.ofInt 64 x ||| BitVec.ofInt 64 b) &&& ~~~ BitVec.ofInt 64 b = BitVec.ofInt 64 x &&& ~~~ BitVec.ofInt 64 b := by
    ext i hi
    simp only [BitVec.getElem_and, BitVec.getElem_or, BitVec.getElem_not]
    cases (BitVec.ofInt 64 x)[i] <;> cases (BitVec.ofInt 64 b)[i] <;> rfl
  rw [h, h, ofInt_bits]
  show IntKind.u64.wrap (((BitVec.ofInt 64 x ||| BitVec.ofInt 64 b) &&& ~~~ BitVec.ofInt 64 b).toNat : Int) = _
  rw [e]

theorem off_get (ys : List Int) (wd : Nat) (b : Int) (k : Nat) (hk : k < ys.length) :
    (upd false ys wd b).getD k 0 = if k = wd then bits BinOp.andNot IntKind.u64 (ys.getD k 0) b else ys.getD k 0 := by
  simp only [upd, Bool.false_eq_true, if_false]
  by_cases e : k = wd
  · subst e
    rw [if_pos rfl, List.getD_eq_getElem?_getD, List.getElem?_set_self hk]; rfl
  · rw [if_neg e, List.getD_eq_getElem?_getD, List.getElem?_set_ne (fun h => e h.symm), ← List.getD_eq_getElem?_getD]

theorem on_get (zs : List Int) (wd : Nat) (b : Int) (j : Nat) (hj : j < max zs.length (wd + 1)) :
    (upd true zs wd b).getD j 0 = if j = wd then bits BinOp.or IntKind.u64 (zs.getD j 0) b else zs.getD j 0 := by
  have hg : ∀ j, (zs ++ List.replicate (wd + 1 - zs.length) 0).getD j 0 = zs.getD j 0 := by
    intro j
    simp only [List.getD_eq_getElem?_getD]
    by_cases hj : j < zs.length
    · rw [List.getElem?_append_left hj]
    · rw [List.getElem?_append_right (by omega), List.getElem?_eq_none (l := zs) (by omega), List.getElem?_replicate]
      split <;> rfl
  simp only [upd, if_true]
  by_cases e : j = wd
  · subst e
    rw [if_pos rfl, List.getD_eq_getElem?_getD, List.getElem?_set_self (by simp; omega)]; rfl
  · rw [if_neg e, List.getD_eq_getElem?_getD, List.getElem?_set_ne (fun h => e h.symm), ← List.getD_eq_getElem?_getD, hg]

theorem rt_get (zs : List Int) (wd : Nat) (b : Int) (k : Nat) (hk : k < max zs.length (wd + 1)) :
    (upd false (upd true zs wd b) wd b).getD k 0 = if k = wd then bits BinOp.andNot IntKind.u64 (zs.getD k 0) b else zs.getD k 0 := by
  have hl := upd_length_on zs wd b
  rw [off_get _ _ _ _ (by omega), on_get _ _ _ _ hk]
  by_cases e : k = wd
  · rw [if_pos e, if_pos e, if_pos e, clear_set]
  · rw [if_neg e, if_neg e, if_neg e]

def pooledCells : Array Value := #[.int .u8 0, .int .u8 0, .int .u8 0, .int .u64 0, .int .u64 0, .int .u64 0, .int .u64 0, .pointer none, .int .u16 0, .int .u64 0, .int .i64 0, .int .u32 0, .int .u32 0, .slice none 0 0, .slice none 0 0]

end Go.Proofs.Ybulkauss
