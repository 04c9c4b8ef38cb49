/-
  What LawS2306CModel's walk carries: the pool's cells, the words that each holder holds.
-/
import Derived.Test.YbulkaussPlain
namespace Go.Proofs.Ybulkauss
open Go.ChangeShapes Go.WideShapes Go.ChangeAt Go.RowKit Go.Deep

def pooled2 : Array Value := pooledCells ++ pooledCells
theorem makePooled2 (w : World) : (Instr.makeSlice 130 (.int .i64 2) (.int .i64 2)).run Yba.prog w = .ok (.slice (some ⟨w.heap.size, 0, none⟩) 2 2) (w.alloc (.cells pooled2 142)) := by kernel_rfl
def poolCells (E : Nat) : Array Value := #[.slice (some ⟨E, 0, none⟩) 2 2, .slice none 0 0, .map none, .int .i64 0, .slice none 0 0]

/-- the pool behind some stores: the cells c with F c hold clones of other -/
def St (E : Nat) (w : World) (other : List Int) (F : Nat → Prop) (wr : World) : Prop :=
  Below E w wr ∧ E + 2 ≤ wr.heap.size ∧ Blk wr (E + 1) (poolCells E) 135 ∧ ∃ ec, Blk wr E ec 142 ∧ ec.size = 30 ∧ ec[11]? = some (.int .u32 0) ∧ ec[26]? = some (.int .u32 0) ∧
    ∀ c, F c → ∃ ho, ec[c]? = some (.slice ho other.length other.length) ∧ wr.ownsRow (E + 2) 24 1 (.slice ho other.length other.length) other.length (other.map (Value.int .u64))

/-- one store of a clone -/
theorem st_store {E : Nat} {w x w' : World} {other : List Int} {F : Nat → Prop} {c0 : Nat} {ho : Option Addr} {zs : List Int} (h : St E w other F x) (hg : x.grownBy w' none) (h13 : c0 = 13 ∨ c0 = 14 ∨ c0 = 28 ∨ c0 = 29)
    (hob : ∀ g, (Value.slice ho zs.length zs.length).ownBlock = some g → x.heap.size ≤ g) (hown : w'.ownsRow (E + 2) 24 1 (.slice ho zs.length zs.length) zs.length (zs.map (Value.int .u64))) :
    (∃ v, w'.cell? ⟨E, c0, none⟩ = some v) ∧ w'.frozen? ⟨E, c0, none⟩ = false ∧ w'.cell? ⟨E + 1, 0, none⟩ = some (.slice (some ⟨E, 0, none⟩) 2 2) ∧
    ∃ ec, Blk (w'.setCell ⟨E, c0, none⟩ (.slice ho zs.length zs.length)) E ec 142 ∧ ec.size = 30 ∧ ec[11]? = some (.int .u32 0) ∧ ec[26]? = some (.int .u32 0) ∧ ec[c0]? = some (.slice ho zs.length zs.length) ∧
      Blk (w'.setCell ⟨E, c0, none⟩ (.slice ho zs.length zs.length)) (E + 1) (poolCells E) 135 ∧ Below E w (w'.setCell ⟨E, c0, none⟩ (.slice ho zs.length zs.length)) ∧ E + 2 ≤ (w'.setCell ⟨E, c0, none⟩ (.slice ho zs.length zs.length)).heap.size ∧
      (w'.setCell ⟨E, c0, none⟩ (.slice ho zs.length zs.length)).ownsRow (E + 2) 24 1 (.slice ho zs.length zs.length) zs.length (zs.map (Value.int .u64)) ∧
      ∀ c, F c → c ≠ c0 → ∃ ho2, ec[c]? = some (.slice ho2 other.length other.length) ∧ (w'.setCell ⟨E, c0, none⟩ (.slice ho zs.length zs.length)).ownsRow (E + 2) 24 1 (.slice ho2 other.length other.length) other.length (other.map (Value.int .u64)) ∧
        ∀ g, (Value.slice ho2 other.length other.length).ownBlock = some g → some g ≠ (Value.slice ho zs.length zs.length).ownBlock := by
  obtain ⟨hb, hz, hP, ec, hE, hs, e11, e26, hF⟩ := h
  have kE : Blk w' E ec 142 := hE.kept hg (by simp)
  have kP : Blk w' (E + 1) (poolCells E) 135 := hP.kept hg (by simp)
  refine ⟨⟨ec[c0]'(by omega), (kE.cell c0).trans (Array.getElem?_eq_getElem (by omega))⟩, kE.frozen c0, (kP.cell 0).trans rfl, ec.setIfInBounds c0 (.slice ho zs.length zs.length), kE.set _ _, by simpa using hs, ?_, ?_, ?_, kP.setOther (show E + 1 ≠ E by omega) _, ?_, ?_, ?_, ?_⟩
  · rw [Array.getElem?_setIfInBounds, if_neg (by omega)]; exact e11
  · rw [Array.getElem?_setIfInBounds, if_neg (by omega)]; exact e26
  · rw [Array.getElem?_setIfInBounds, if_pos rfl, if_pos (by omega)]
  · exact (hb.grown hg (by omega) (by simp)).setCell (Nat.le_refl _) _
  · rw [size_setCell']; exact Nat.le_trans hz hg.size
  · exact ownsRow_setCell_below hown (show E < E + 2 by omega) _
  · intro c hc hne
    obtain ⟨ho2, h1, h2⟩ := hF c hc
    refine ⟨ho2, ?_, ?_, ?_⟩
    · rw [Array.getElem?_setIfInBounds, if_neg (fun e => hne e.symm)]; exact h1
    · exact ownsRow_setCell_below (h2.kept hg (by cases (Value.slice ho2 other.length other.length).ownBlock <;> simp)) (show E < E + 2 by omega) _
    · intro g hg2 e
      have a1 := (h2.lt g hg2).2
      have a2 := hob g e.symm
      omega

theorem st_next {E : Nat} {w x w' : World} {other : List Int} {F : Nat → Prop} {c0 : Nat} {ho : Option Addr} (h : St E w other F x) (hg : x.grownBy w' none) (h13 : c0 = 13 ∨ c0 = 14 ∨ c0 = 28 ∨ c0 = 29)
    (hob : ∀ g, (Value.slice ho other.length other.length).ownBlock = some g → x.heap.size ≤ g) (hown : w'.ownsRow (E + 2) 24 1 (.slice ho other.length other.length) other.length (other.map (Value.int .u64))) :
    St E w other (fun c => F c ∨ c = c0) (w'.setCell ⟨E, c0, none⟩ (.slice ho other.length other.length)) := by
  obtain ⟨-, -, -, ec, k1, k2, k3, k4, k5, k6, k7, k8, k9, k10⟩ := st_store h hg h13 hob hown
  refine ⟨k7, k8, k6, ec, k1, k2, k3, k4, fun c hc => ?_⟩
  by_cases e : c = c0
  · subst e; exact ⟨ho, k5, k9⟩
  · rcases hc with hc | hc
    · obtain ⟨ho2, a, b, _⟩ := k10 c hc e; exact ⟨ho2, a, b⟩
    · exact absurd hc e

theorem St.mono {E : Nat} {w wr : World} {other : List Int} {F G : Nat → Prop} (h : St E w other F wr) (hFG : ∀ c, G c → F c) : St E w other G wr := by
  obtain ⟨a, b, c, ec, d, e, f, g, hF⟩ := h
  exact ⟨a, b, c, ec, d, e, f, g, fun x hx => hF x (hFG x hx)⟩

/-- over draws -/
theorem St.drawn {E : Nat} {w v x : World} {other : List Int} {F : Nat → Prop} (h : St E w other F v) (hx : x.heap = v.heap ∧ x.os = v.os ∧ x.tape = v.tape ∧ x.output = v.output) : St E w other F x := by
  obtain ⟨a, b, c, ec, d, e, f, g, hF⟩ := h
  have hb : ∀ k : Nat, x.heap[k]? = v.heap[k]? := fun k => by rw [hx.1]
  refine ⟨a.trans ⟨hx.2.1, hx.2.2.1, hx.2.2.2, Nat.le_of_eq (by rw [hx.1]), fun _ _ => hb _⟩, by rw [hx.1]; exact b, c.of_block (hb _), ec, d.of_block (hb _), e, f, g, fun c hc => ?_⟩
  obtain ⟨ho, h1, h2⟩ := hF c hc
  exact ⟨ho, h1, h2.kept (row := none) ⟨hx.2.1, hx.2.2.1, hx.2.2.2, Nat.le_of_eq (by rw [hx.1]), fun k _ _ => hb k⟩ (by cases (Value.slice ho other.length other.length).ownBlock <;> simp)⟩

/-- behind 'p.events[0].holders[i] = clone(words)' -/
def Mid (E : Nat) (w : World) (os zs : List Int) (a0 : Option Addr) (i : Nat) (wr : World) : Prop :=
  Below E w wr ∧ E + 2 ≤ wr.heap.size ∧ Blk wr (E + 1) (poolCells E) 135 ∧ ∃ ec ho, Blk wr E ec 142 ∧ ec.size = 30 ∧ ec[11]? = some (.int .u32 0) ∧ ec[26]? = some (.int .u32 0) ∧
    ec[13 + i]? = some (.slice ho zs.length zs.length) ∧ (ho = none ↔ a0 = none) ∧ wr.ownsRow (E + 2) 24 1 (.slice ho zs.length zs.length) zs.length (zs.map (Value.int .u64)) ∧
    ∀ c, (c = 13 ∨ c = 14 ∨ c = 28 ∨ c = 29) → c ≠ 13 + i → ∃ ho2, ec[c]? = some (.slice ho2 os.length os.length) ∧ wr.ownsRow (E + 2) 24 1 (.slice ho2 os.length os.length) os.length (os.map (Value.int .u64)) ∧
      ∀ g, (Value.slice ho2 os.length os.length).ownBlock = some g → some g ≠ (Value.slice ho zs.length zs.length).ownBlock

theorem mid_of {E : Nat} {w x w' : World} {os zs : List Int} {a0 ho : Option Addr} {i : Nat} (hi : i < 2) (h : St E w os (fun c => (13 ≤ c ∧ c < 13 + 2) ∨ (28 ≤ c ∧ c < 28 + 2)) x) (hg : x.grownBy w' none) (hon : ho = none ↔ a0 = none)
    (hob : ∀ g, (Value.slice ho zs.length zs.length).ownBlock = some g → x.heap.size ≤ g) (hown : w'.ownsRow (E + 2) 24 1 (.slice ho zs.length zs.length) zs.length (zs.map (Value.int .u64))) :
    Mid E w os zs a0 i (w'.setCell ⟨E, 13 + i, none⟩ (.slice ho zs.length zs.length)) := by
  obtain ⟨-, -, -, ec, k1, k2, k3, k4, k5, k6, k7, k8, k9, k10⟩ := st_store (c0 := 13 + i) h hg (by omega) hob hown
  exact ⟨k7, k8, k6, ec, ho, k1, k2, k3, k4, k5, hon, k9, fun c hc hne => k10 c (by omega) hne⟩

/-- behind setHolder: the holder that was set, the others as they were -/
def Fin (E : Nat) (w : World) (os us : List Int) (nil : Prop) (i : Nat) (wr : World) : Prop :=
  Below E w wr ∧ E + 2 ≤ wr.heap.size ∧ Blk wr (E + 1) (poolCells E) 135 ∧ ∃ ec ho cap, Blk wr E ec 142 ∧
    ec[13 + i]? = some (.slice ho us.length cap) ∧ (ho = none ↔ nil) ∧ wr.ownsRow (E + 2) 24 1 (.slice ho us.length cap) us.length (us.map (Value.int .u64)) ∧
    ∀ c, (c = 13 ∨ c = 14 ∨ c = 28 ∨ c = 29) → c ≠ 13 + i → ∃ ho2, ec[c]? = some (.slice ho2 os.length os.length) ∧ wr.ownsRow (E + 2) 24 1 (.slice ho2 os.length os.length) os.length (os.map (Value.int .u64))

theorem fin_keep {E B : Nat} {w x y : World} {os us : List Int} {nil : Prop} {i : Nat} (h : Fin E w os us nil i x) (hb : Below B x y) (hB : B = x.heap.size) : Fin E w os us nil i y := by
  obtain ⟨a, b, c, ec, ho, cap, d, e, f, g, hF⟩ := h
  have hbl : ∀ k, k < x.heap.size → y.heap[k]? = x.heap[k]? := fun k hk => hb.block k (by omega)
  have hgr : x.grownBy y none := ⟨hb.os, hb.tape, hb.output, hb.size, fun k hk _ => hbl k hk⟩
  refine ⟨a.trans (hb.mono (by omega)), Nat.le_trans b hb.size, c.of_block (hbl _ c.lt), ec, ho, cap, d.of_block (hbl _ d.lt), e, f, g.kept hgr ?_, fun c hc hne => ?_⟩
  · cases (Value.slice ho us.length cap).ownBlock <;> simp
  · obtain ⟨ho2, h1, h2⟩ := hF c hc hne
    exact ⟨ho2, h1, h2.kept hgr (by cases (Value.slice ho2 os.length os.length).ownBlock <;> simp)⟩

theorem reads_own {w : World} {base : Nat} {ho : Option Addr} {zs : List Int} {cap : Nat} (h : w.ownsRow base 24 1 (.slice ho zs.length cap) zs.length (zs.map (Value.int .u64))) : Reads w ho zs := by
  rcases h.2 with ⟨e, e0⟩ | ⟨g, cap', cur, e, _⟩
  · obtain ⟨rfl, -, -⟩ := Value.slice.inj e
    exact ⟨fun _ => List.eq_nil_of_length_eq_zero e0, fun hp => by omega⟩
  · obtain ⟨rfl, -, -⟩ := Value.slice.inj e
    refine ⟨fun e => (by cases e), fun hp => ⟨g, 0, rfl, fun i hi => ?_⟩⟩
    rw [Nat.zero_add, h.cellAt i (by omega), map_get _ _ hi]

theorem shape24 {w : World} {base e size n : Nat} {v : Value} {xs : List Value} (h : w.ownsRow base e size v n xs) : ∃ ao cap, v = .slice ao n cap := by
  rcases h.2 with ⟨rfl, rfl⟩ | ⟨g, cap, cur, rfl, _⟩
  · exact ⟨none, 0, rfl⟩
  · exact ⟨_, _, rfl⟩
end Go.Proofs.Ybulkauss
