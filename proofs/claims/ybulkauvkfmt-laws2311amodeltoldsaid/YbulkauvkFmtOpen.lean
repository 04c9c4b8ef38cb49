/-
  The law's argument, opened: files of items.
-/
import Derived.Test.YbulkauvkFmtKit
import Derived.Deep.SlicePairs
import Derived.OpenShut
import Derived.SizedLaws
namespace Go.Proofs.YbulkauvkFmt
open Go.ChangeShapes Go.WideShapes Go.RowKit Go.Deep

/-- an item of the argument: three small numbers -/
structure En where
  ns : Int
  id : Int
  sid : Int
def En.fit (e : En) : Prop := (0 ≤ e.ns ∧ e.ns ≤ 255) ∧ (0 ≤ e.id ∧ e.id ≤ 255) ∧ (0 ≤ e.sid ∧ e.sid ≤ 255)
def EnAt (w : World) (g o : Nat) (e : En) : Prop :=
  w.cell? ⟨g, o, none⟩ = some (.int .u8 e.ns) ∧ w.cell? ⟨g, o + 1, none⟩ = some (.int .u8 e.id) ∧ w.cell? ⟨g, o + 2, none⟩ = some (.int .u8 e.sid)
def EnRow (w : World) (ao : Option Addr) (es : List En) : Prop :=
  0 < es.length → ∃ g o, ao = some ⟨g, o, none⟩ ∧ g < w.heap.size ∧ ∀ j e, es[j]? = some e → EnAt w g (o + j * 3) e
/-- a file of the argument -/
structure Fi where
  m : Int
  io : Option Addr
  ic : Nat
  es : List En
def FiAt (w : World) (g o : Nat) (f : Fi) : Prop :=
  w.cell? ⟨g, o, none⟩ = some (.int .u8 f.m) ∧ w.cell? ⟨g, o + 1, none⟩ = some (.slice f.io f.es.length f.ic) ∧ (0 ≤ f.m ∧ f.m ≤ 255) ∧ EnRow w f.io f.es ∧ (∀ e ∈ f.es, e.fit) ∧ f.es.length ≤ 140737488355328
def FRow (w : World) (ao : Option Addr) (fs : List Fi) : Prop :=
  0 < fs.length → ∃ g o, ao = some ⟨g, o, none⟩ ∧ g < w.heap.size ∧ ∀ j f, fs[j]? = some f → FiAt w g (o + j * 2) f

theorem cells40 : Ybaf.prog.cellsOf 40 = 3 := by kernel_rfl
theorem cells25 : Ybaf.prog.cellsOf 25 = 2 := by kernel_rfl
theorem cells5F : Ybaf.prog.cellsOf 5 = 1 := by kernel_rfl
theorem cells23F : Ybaf.prog.cellsOf 23 = 1 := by kernel_rfl
theorem addr_add (b off j : Nat) : (⟨b, off, none⟩ : Addr).add j = ⟨b, off + j, none⟩ := by unfold Addr.add; split <;> simp_all
theorem list_of {α : Type} [Inhabited α] {n : Nat} {p : Nat → α → Prop} (h : ∀ i, i < n → ∃ x, p i x) : ∃ l : List α, l.length = n ∧ ∀ j x, l[j]? = some x → p j x := by
  obtain ⟨f, hf⟩ := choose_lt h
  refine ⟨(List.range n).map f, by simp, fun j x hj => ?_⟩
  simp only [List.getElem?_map, Option.map_eq_some_iff, List.getElem?_eq_some_iff, List.length_range, List.getElem_range] at hj
  obtain ⟨_, ⟨hl, rfl⟩, rfl⟩ := hj
  exact hf j hl

theorem weights_all {H : Type} {P : Program} {e : TypeId} {d : DataW H} {k : Nat} (hk : k ∈ d.weights P e) : ∀ {ds : List (DataW H)}, d ∈ ds → k ∈ DataW.weightsAll P e ds
  | d0 :: ds, hd => by
    simp only [DataW.weightsAll, List.mem_append]
    rcases List.mem_cons.1 hd with rfl | hd
    · exact .inl hk
    · exact .inr (weights_all hk hd)
theorem bytes40 : Ybaf.prog.bytesOf 40 = 3 := by kernel_rfl

section
variable {H : Type} {enc : TypeId × Value → H} {w : World} {base : Nat} {spare : Nat → Bool} {held : Bool}
set_option maxRecDepth 10000 in
theorem open_items {fuel : Nat} {v : Value} {x : DataW H × List MemPlace} (h : DataW.trod enc Ybaf.prog w base spare held fuel 23 [v] = some x) (hz : ∀ k ∈ x.1.weights Ybaf.prog 23, k ≤ reachBytes) :
    ∃ ao n cap, v = .slice ao n cap ∧ ∃ es : List En, es.length = n ∧ EnRow w ao es ∧ (∀ e ∈ es, e.fit) ∧ n ≤ 140737488355328 := by
  rcases open_slice Ybaf.underlying23 h with ⟨h0, _⟩ | ⟨a, len, cp, m, fu, D, Pl, hcs, _, hl, hm, hmm, rfl, hx⟩
  · simp at h0
    subst h0
    exact ⟨none, 0, 0, rfl, [], rfl, fun hp => absurd hp (by simp), by simp, by omega⟩
  · simp at hcs
    subst hcs
    have hlm : len ≤ m := by rw [hmm]; split <;> omega
    have hlen3 : len ≤ 140737488355328 := by
      have := hz ((((List.range len).map D).length + ((List.range (m - len)).map fun j => D (len + j)).length) * Ybaf.prog.bytesOf 40) (by simp only [DataW.weights, Ybaf.underlying23]; exact List.mem_cons_self)
      rw [bytes40] at this
      simp only [List.length_map, List.length_range, reachBytes] at this
      omega
    have each : ∀ i, i < len → ∃ e : Int × Int × Int, (w.cell? (a.add (i * 3)) = some (.int .u8 e.1) ∧ w.cell? (a.add (i * 3 + 1)) = some (.int .u8 e.2.1) ∧ w.cell? (a.add (i * 3 + 2)) = some (.int .u8 e.2.2)) ∧ (0 ≤ e.1 ∧ e.1 ≤ 255) ∧ (0 ≤ e.2.1 ∧ e.2.1 ≤ 255) ∧ (0 ≤ e.2.2 ∧ e.2.2 ≤ 255) := by
      intro i hi
      obtain ⟨cs', h1, h2⟩ := hx i (by omega)
      rw [cells40] at h1
      obtain ⟨_, hlen, hcell⟩ := World.cells?_some h1
      obtain ⟨ys, k, hk, hxy, _, hxl, hf⟩ := DataW.trod_struct Ybaf.underlying40 h2
      have hxl3 : ys.length = 3 := hxl
      clear hxl
      match ys, hxl3, cs', hlen with
      | [y0, y1, y2], _, [v0, v1, v2], _ =>
        have g0 := hf 0 _ rfl
        have g1 := hf 1 _ rfl
        have g2 := hf 2 _ rfl
        simp [cells5F] at g0 g1 g2
        have e0 := hcell 0 (by omega)
        have e1 := hcell 1 (by omega)
        have e2 := hcell 2 (by omega)
        rw [add_add] at e0 e1 e2
        obtain ⟨a0, q0, _, w0⟩ := DataW.trod_int Ybaf.underlying5 g0
        obtain ⟨a1, q1, _, w1⟩ := DataW.trod_int Ybaf.underlying5 g1
        obtain ⟨a2, q2, _, w2⟩ := DataW.trod_int Ybaf.underlying5 g2
        simp at q0 q1 q2
        subst q0 q1 q2
        exact ⟨(a0, a1, a2), ⟨by simpa using e0, by simpa using e1, by simpa using e2⟩, bounds_u8 w0, bounds_u8 w1, bounds_u8 w2⟩
    obtain ⟨l, hll, hl2⟩ := list_of each
    refine ⟨some a, len, cp, rfl, l.map fun e => ⟨e.1, e.2.1, e.2.2⟩, by simp [hll], fun hp => ?_, fun e he => ?_, hlen3⟩
    · have hp' : 0 < len := by simpa [hll] using hp
      obtain ⟨e0, he0⟩ : ∃ e, l[0]? = some e := ⟨l[0]'(by omega), List.getElem?_eq_getElem _⟩
      obtain ⟨b, off, rfl⟩ : ∃ b off, a = ⟨b, off, none⟩ := by
        obtain ⟨⟨c0, _⟩, _⟩ := hl2 0 e0 he0
        obtain ⟨b, off, spot⟩ := a
        have hspot : spot = none := by simpa [Addr.add] using World.cell?_spot c0
        exact ⟨b, off, by rw [hspot]⟩
      refine ⟨b, off, rfl, World.block_lt_of_cell? w _ (hl2 0 e0 he0).1.1, fun j e hj => ?_⟩
      simp only [List.getElem?_map, Option.map_eq_some_iff] at hj
      obtain ⟨e', he', rfl⟩ := hj
      obtain ⟨⟨c0, c1, c2⟩, _⟩ := hl2 j e' he'
      rw [addr_add] at c0 c1 c2
      exact ⟨c0, by rw [Nat.add_assoc]; exact c1, by rw [Nat.add_assoc]; exact c2⟩
    · obtain ⟨e', he', rfl⟩ := List.mem_map.1 he
      obtain ⟨j, hj⟩ := List.getElem?_of_mem he'
      exact (hl2 j e' hj).2

set_option maxRecDepth 10000 in
theorem open_files {fuel n cap : Nat} {ao : Option Addr} {x : DataW H × List MemPlace} (h : DataW.trod enc Ybaf.prog w base spare held fuel 22 [.slice ao n cap] = some x) (hz : ∀ k ∈ x.1.weights Ybaf.prog 22, k ≤ reachBytes) :
    ∃ fs : List Fi, fs.length = n ∧ FRow w ao fs := by
  rcases open_slice Ybaf.underlying22 h with ⟨h0, _⟩ | ⟨a, len, cp, m, fu, D, Pl, hcs, _, hl, hm, hmm, rfl, hx⟩
  · simp at h0
    obtain ⟨rfl, rfl, rfl⟩ := h0
    exact ⟨[], rfl, fun hp => absurd hp (by simp)⟩
  · simp at hcs
    obtain ⟨rfl, rfl, rfl⟩ := hcs
    have hlm : n ≤ m := by rw [hmm]; split <;> omega
    have each : ∀ i, i < n → ∃ q : Int × Option Addr × Nat × List (Int × Int × Int), w.cell? (a.add (i * 2)) = some (.int .u8 q.1) ∧ w.cell? (a.add (i * 2 + 1)) = some (.slice q.2.1 q.2.2.2.length q.2.2.1) ∧ (0 ≤ q.1 ∧ q.1 ≤ 255) ∧ EnRow w q.2.1 (q.2.2.2.map fun e => ⟨e.1, e.2.1, e.2.2⟩) ∧ (∀ e ∈ (q.2.2.2.map fun e => (⟨e.1, e.2.1, e.2.2⟩ : En)), e.fit) ∧ q.2.2.2.length ≤ 140737488355328 := by
      intro i hi
      obtain ⟨cs', h1, h2⟩ := hx i (by omega)
      rw [cells25] at h1
      obtain ⟨_, hlen, hcell⟩ := World.cells?_some h1
      obtain ⟨ys, k, hk, hxy, _, hxl, hf⟩ := DataW.trod_struct Ybaf.underlying25 h2
      have hxl2 : ys.length = 2 := hxl
      clear hxl
      match ys, hxl2, cs', hlen with
      | [y0, y1], _, [v0, v1], _ =>
        have g0 := hf 0 _ rfl
        have g1 := hf 1 _ rfl
        simp [cells5F, cells23F] at g0 g1
        have e0 := hcell 0 (by omega)
        have e1 := hcell 1 (by omega)
        rw [add_add] at e0 e1
        obtain ⟨a0, q0, _, w0⟩ := DataW.trod_int Ybaf.underlying5 g0
        simp at q0
        subst q0
        obtain ⟨io, il, ic, rfl, es, hes, her, hef, hle⟩ := open_items g1 (fun k hk => hz k (by
          simp only [DataW.weights, Ybaf.underlying22]
          refine List.mem_cons_of_mem _ (List.mem_append_left _ (weights_all (d := D i) ?_ (List.mem_map_of_mem (List.mem_range.2 hi))))
          rw [(Prod.mk.inj hxy).1]
          simp only [DataW.weights, Ybaf.underlying25]
          exact DataW.weights_mem_each (j := 1) (t := 23) rfl rfl k hk))
        have em : (es.map (fun e => (e.ns, e.id, e.sid))).map (fun e => (⟨e.1, e.2.1, e.2.2⟩ : En)) = es := by
          rw [List.map_map]
          exact (List.map_congr_left (fun e _ => rfl)).trans (List.map_id _)
        refine ⟨(a0, io, ic, es.map fun e => (e.ns, e.id, e.sid)), by simpa using e0, by simpa [hes] using e1, bounds_u8 w0, ?_, ?_, by simpa [hes] using hle⟩
        · dsimp only; rw [em]; exact her
        · dsimp only; rw [em]; exact hef
    obtain ⟨l, hll, hl2⟩ := list_of each
    refine ⟨l.map fun q => ⟨q.1, q.2.1, q.2.2.1, q.2.2.2.map fun e => ⟨e.1, e.2.1, e.2.2⟩⟩, by simp [hll], fun hp => ?_⟩
    have hp' : 0 < n := by simpa [hll] using hp
    obtain ⟨e0, he0⟩ : ∃ e, l[0]? = some e := ⟨l[0]'(by omega), List.getElem?_eq_getElem _⟩
    obtain ⟨b, off, rfl⟩ : ∃ b off, a = ⟨b, off, none⟩ := by
      obtain ⟨c0, _⟩ := hl2 0 e0 he0
      obtain ⟨b, off, spot⟩ := a
      have hspot : spot = none := by simpa [Addr.add] using World.cell?_spot c0
      exact ⟨b, off, by rw [hspot]⟩
    refine ⟨b, off, rfl, World.block_lt_of_cell? w _ (hl2 0 e0 he0).1, fun j f hj => ?_⟩
    simp only [List.getElem?_map, Option.map_eq_some_iff] at hj
    obtain ⟨q, hq, rfl⟩ := hj
    obtain ⟨c0, c1, c2, c3, c4, c5⟩ := hl2 j q hq
    rw [addr_add] at c0 c1
    exact ⟨c0, by rw [Nat.add_assoc]; simpa using c1, c2, c3, c4, by simpa using c5⟩
end
end Go.Proofs.YbulkauvkFmt
