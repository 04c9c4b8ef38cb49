/-
  Small laws on blocks, on worlds that have grown, on rows of one's own.
-/
import Derived.Test.YbulkauvkFmtRows
import Derived.WalkKit
import Derived.Deep.OwnRows
import Derived.Deep.AppendLies
import Derived.Deep.Draws
namespace Go.Proofs.YbulkauvkFmt
open Go.RowKit Go.Deep

def Blk (w : World) (b : Nat) (c : Array Value) (t : TypeId) : Prop := w.heap[b]? = some (.cells c t (0, 0))
namespace Blk
variable {w w' w0 : World} {b : Nat} {c : Array Value} {t : TypeId}
theorem lt (h : Blk w b c t) : b < w.heap.size := (Array.getElem?_eq_some_iff.1 h).1
theorem cell (h : Blk w b c t) (i : Nat) : w.cell? ⟨b, i, none⟩ = c[i]? := by
  simp only [Blk] at h; simp [World.cell?, h]
theorem frozen (h : Blk w b c t) (i : Nat) : w.frozen? ⟨b, i, none⟩ = false := by
  simp only [Blk] at h; simp [World.frozen?, h]
theorem of_block (h : Blk w b c t) (e : w'.heap[b]? = w.heap[b]?) : Blk w' b c t := e.trans h
theorem alloc (h : Blk w b c t) (o : Obj) : Blk (w.alloc o) b c t := h.of_block (blk_alloc_lt _ _ _ h.lt)
theorem new (w : World) (c : Array Value) (t : TypeId) : Blk (w.alloc (.cells c t)) w.heap.size c t := blk_alloc_new _ _
theorem setOther (h : Blk w b c t) {a : Addr} (ha : b ≠ a.block) (v : Value) : Blk (w.setCell a v) b c t := h.of_block (blk_setCell_other _ _ _ _ ha)
theorem set (h : Blk w b c t) (i : Nat) (v : Value) : Blk (w.setCell ⟨b, i, none⟩ v) b (c.setIfInBounds i v) t := by
  simp only [Blk] at h; simp [Blk, World.setCell, Array.getElem?_modify, h]
theorem below {B : Nat} (h : Blk w b c t) (hb : Below B w w') (hB : b < B) : Blk w' b c t := h.of_block (hb.block b hB)
theorem kept {row : Option Nat} (h : Blk w b c t) (hg : w.grownBy w' row) (hne : some b ≠ row) : Blk w' b c t := h.of_block (hg.block b h.lt hne)
end Blk

theorem cell_below {B : Nat} {w w' : World} (hb : Below B w w') {g : Nat} (h : g < B) (o : Nat) : w'.cell? ⟨g, o, none⟩ = w.cell? ⟨g, o, none⟩ := by
  simp only [World.cell?, hb.block g h]
theorem cell_set_other (w : World) (a : Addr) (v : Value) (g o : Nat) (h : g ≠ a.block) : (w.setCell a v).cell? ⟨g, o, none⟩ = w.cell? ⟨g, o, none⟩ := by
  simp only [World.cell?, blk_setCell_other _ _ _ _ h]
theorem below_same {B : Nat} {w x y : World} (h : Below B w x) (h1 : y.heap = x.heap) (h2 : y.os = x.os) (h3 : y.tape = x.tape) (h4 : y.output = x.output) : Below B w y :=
  ⟨h2.trans h.os, h3.trans h.tape, h4.trans h.output, by rw [h1]; exact h.size, fun k hk => by rw [h1]; exact h.block k hk⟩
theorem below_drawn {B : Nat} {w x : World} (h : Below B w x) (k : Nat) : Below B w (x.drewN k) := below_same h rfl rfl rfl rfl
theorem below_of_drawn {v x w' : World} (hb : Below x.heap.size x w') (h1 : x.heap = v.heap) (h2 : x.os = v.os) (h3 : x.tape = v.tape) (h4 : x.output = v.output) : Below v.heap.size v w' :=
  ⟨hb.os.trans h2, hb.tape.trans h3, hb.output.trans h4, by rw [← h1]; exact hb.size, fun k hk => by rw [hb.block k (by rw [h1]; exact hk), h1]⟩
theorem alloc_ge (x : World) (k : Nat) (o : Obj) : x.heap.size ≤ ((x.drewN k).alloc o).heap.size := by simp [World.alloc, World.drewN]
theorem below_set {B : Nat} {w x : World} (h : Below B w x) {a : Addr} (ha : B ≤ a.block) (v : Value) : Below B w (x.setCell a v) :=
  ⟨h.os, h.tape, h.output, by simpa [World.setCell] using h.size, fun k hk => (blk_setCell_other _ _ _ _ (by omega)).trans (h.block k hk)⟩
theorem below_grown {B N : Nat} {w x y : World} (h : Below B w x) (hg : x.grownBy y (some N)) (hN : B ≤ N) (hB : B ≤ x.heap.size) : Below B w y :=
  h.trans ⟨hg.os, hg.tape, hg.output, hg.size, fun j hj => hg.block j (Nat.lt_of_lt_of_le hj hB) (fun e => by injection e; omega)⟩

section
variable {e : TypeId} {sz : Nat} {v : Value} {n : Nat} {l : List Value} {B : Nat} {w w' x y w2 : World}
theorem owns_kept (h : w.ownsRow B e sz v n l) (hk : ∀ g, g < w.heap.size → w'.heap[g]? = w.heap[g]?) : w'.ownsRow B e sz v n l := by
  obtain ⟨hl, h | ⟨g, cap, cur, hv, hb, hg, h2⟩⟩ := h
  · exact ⟨hl, .inl h⟩
  · exact ⟨hl, .inr ⟨g, cap, cur, hv, hb, (hk g (Array.getElem?_eq_some_iff.1 hg).1).trans hg, h2⟩⟩
theorem owns_kept_ge (h : w.ownsRow B e sz v n l) (hk : ∀ g, B ≤ g → g < w.heap.size → w'.heap[g]? = w.heap[g]?) : w'.ownsRow B e sz v n l := by
  obtain ⟨hl, h | ⟨g, cap, cur, hv, hb, hg, h2⟩⟩ := h
  · exact ⟨hl, .inl h⟩
  · exact ⟨hl, .inr ⟨g, cap, cur, hv, hb, (hk g hb (Array.getElem?_eq_some_iff.1 hg).1).trans hg, h2⟩⟩
theorem owns_le {B' : Nat} (h : w.ownsRow B e sz v n l) (hB : B' ≤ B) : w.ownsRow B' e sz v n l := by
  obtain ⟨hl, h | ⟨g, cap, cur, hv, hb, h2⟩⟩ := h
  · exact ⟨hl, .inl h⟩
  · exact ⟨hl, .inr ⟨g, cap, cur, hv, Nat.le_trans hB hb, h2⟩⟩
theorem owns_set (h : w.ownsRow B e sz v n l) {a : Addr} (ha : a.block < B) (u : Value) : (w.setCell a u).ownsRow B e sz v n l :=
  owns_kept_ge h (fun g hg _ => blk_setCell_other _ _ _ _ (by omega))
theorem own_ne (h : w.ownsRow B e sz v n l) {D : Nat} (hD : w.heap.size ≤ D ∨ D < B) : v.ownBlock ≠ some D := by
  obtain ⟨_, ⟨rfl, _⟩ | ⟨g, cap, cur, rfl, hbg, hg, _⟩⟩ := h
  · simp [Value.ownBlock]
  · have := (Array.getElem?_eq_some_iff.1 hg).1
    simp [Value.ownBlock]; omega
theorem below_grow (hb : Below B w x) (hB : B ≤ x.heap.size) (hg : x.grownBy w2 v.ownBlock) (ho : y.ownsRow B e sz v n l) : Below B w w2 := by
  refine hb.trans ⟨hg.os, hg.tape, hg.output, hg.size, fun j hj => hg.block j (Nat.lt_of_lt_of_le hj hB) (fun e => ?_)⟩
  obtain ⟨_, ⟨rfl, _⟩ | ⟨g, cap, cur, rfl, hbg, _⟩⟩ := ho
  · simp [Value.ownBlock] at e
  · simp [Value.ownBlock] at e; omega
theorem below_app {ob : Obj} (hb : Below B w x) (hB : B ≤ x.heap.size) (hy : y.heap = (x.alloc ob).heap) (h2 : y.os = x.os) (h3 : y.tape = x.tape) (h4 : y.output = x.output) (hg : y.grownBy w2 v.ownBlock) (ho : x.ownsRow B e sz v n l) : Below B w w2 :=
  below_grow (x := y) (below_same (hb.alloc hB ob) hy h2 h3 h4) (by rw [hy]; simp; omega) hg ho
theorem block_app {ob : Obj} {D : Nat} (hy : y.heap = (x.alloc ob).heap) (hg : y.grownBy w2 v.ownBlock) (hD : D < x.heap.size) (hne : v.ownBlock ≠ some D) : w2.heap[D]? = x.heap[D]? := by
  have h1 : D < y.heap.size := by rw [hy]; simp; omega
  rw [hg.block D h1 (fun e => hne e.symm), hy, Below.heap_alloc _ _ _ hD]
theorem cell_app {ob : Obj} {D : Nat} (hy : y.heap = (x.alloc ob).heap) (hg : y.grownBy w2 v.ownBlock) (hD : D < x.heap.size) (hne : v.ownBlock ≠ some D) (i : Nat) : w2.cell? ⟨D, i, none⟩ = x.cell? ⟨D, i, none⟩ := by
  simp only [World.cell?, block_app hy hg hD hne]
end

/-- the world but for the draws -/
def SameW (w w' : World) : Prop := ∃ m, w' = w.drewN m
theorem SameW.refl (w : World) : SameW w w := ⟨0, rfl⟩
theorem SameW.drewN {w x : World} (h : SameW w x) (k : Nat) : SameW w (x.drewN k) := by
  obtain ⟨m, rfl⟩ := h
  exact ⟨m + k, by rw [World.drewN_drewN]⟩
theorem SameW.heap {w x : World} (h : SameW w x) : x.heap = w.heap := by
  obtain ⟨m, rfl⟩ := h
  rfl
end Go.Proofs.YbulkauvkFmt
