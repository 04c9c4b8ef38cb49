/-
  The law's entries, opened.
-/
import Derived.Test.YbulkausePlain
import Derived.Deep.SlicePairs
import Derived.OpenShut
namespace Go.Proofs.Ybulkause
open Go.ChangeShapes Go.WideShapes Go.RowKit Go.Deep

theorem cells163 : Yba.prog.cellsOf 163 = 3 := by kernel_rfl
theorem cells5 : Yba.prog.cellsOf 5 = 1 := by kernel_rfl
theorem cells3 : Yba.prog.cellsOf 3 = 1 := by kernel_rfl
theorem cells23 : Yba.prog.cellsOf 23 = 1 := by kernel_rfl

set_option maxRecDepth 10000 in
theorem open_entries {H : Type} {enc : TypeId × Value → H} {w : World} {base : Nat} {spare : Nat → Bool} {held : Bool} {fuel n cap : Nat} {ao : Option Addr} {x : DataW H × List MemPlace} (h : DataW.trod enc Yba.prog w base spare held fuel 138 [.slice ao n cap] = some x) :
    n ≤ maxLen ∧ ∃ G I S : Nat → Int, ERow w ao n G I S ∧ ∀ j, 0 ≤ G j ∧ G j ≤ 255 := by
  rcases open_slice Yba.underlying138 h with ⟨h0, _⟩ | ⟨a, len, cp, m, fu, D, Pl, hcs, _, hl, hm, hmm, _, hx⟩
  · simp at h0
    obtain ⟨rfl, rfl, rfl⟩ := h0
    exact ⟨by unfold maxLen; omega, fun _ => 0, fun _ => 0, fun _ => 0, fun hp => by omega, fun _ => by dsimp only; omega⟩
  · simp at hcs
    obtain ⟨rfl, rfl, rfl⟩ := hcs
    have hlm : n ≤ m := by rw [hmm]; split <;> omega
    have each : ∀ i, i < n → ∃ q : Int × Int × Int, w.cell? (a.add (i * 3)) = some (.int .u8 q.1) ∧ w.cell? (a.add (i * 3 + 1)) = some (.int .i64 q.2.1) ∧ w.cell? (a.add (i * 3 + 2)) = some (.int .u64 q.2.2) ∧ 0 ≤ q.1 ∧ q.1 ≤ 255 := by
      intro i hi
      obtain ⟨cs', h1, h2⟩ := hx i (by omega)
      rw [cells163] at h1
      obtain ⟨_, hlen, hcell⟩ := World.cells?_some h1
      obtain ⟨ys, k, hk, hxy, _, hxl, hf⟩ := DataW.trod_struct Yba.underlying163 h2
      have hxl3 : ys.length = 3 := hxl
      clear hxl
      match ys, hxl3, cs', hlen with
      | [y0, y1, y2], _, [v0, v1, v2], _ =>
        have g0 := hf 0 _ rfl
        have g1 := hf 1 _ rfl
        have g2 := hf 2 _ rfl
        simp [cells5, cells3, cells23] at g0 g1 g2
        have e0 := hcell 0 (by omega)
        have e1 := hcell 1 (by omega)
        have e2 := hcell 2 (by omega)
        rw [add_add] at e0 e1 e2
        obtain ⟨a0, q0, _, w0⟩ := DataW.trod_int Yba.underlying5 g0
        obtain ⟨a1, q1, _, _⟩ := DataW.trod_int Yba.underlying3 g1
        obtain ⟨a2, q2, _, _⟩ := DataW.trod_int Yba.underlying23 g2
        simp at q0 q1 q2
        subst q0 q1 q2
        have hb := bounds_u8 w0
        exact ⟨(a0, a1, a2), by simpa using e0, by simpa using e1, by simpa using e2, hb.1, hb.2⟩
    obtain ⟨q, hq⟩ := choose_lt each
    refine ⟨by omega, fun i => if i < n then (q i).1 else 0, fun i => (q i).2.1, fun i => (q i).2.2, fun hp => ?_, fun j => ?_⟩
    · have hadd : ∃ b off, a = ⟨b, off, none⟩ := by
        obtain ⟨c0, _⟩ := hq 0 hp
        obtain ⟨b, off, spot⟩ := a
        have hspot : spot = none := by simpa [Addr.add] using World.cell?_spot c0
        exact ⟨b, off, by rw [hspot]⟩
      obtain ⟨b, off, rfl⟩ := hadd
      have e : ∀ j, (⟨b, off, none⟩ : Addr).add j = ⟨b, off + j, none⟩ := fun j => by unfold Addr.add; split <;> simp_all
      refine ⟨b, off, rfl, ?_, fun i hi => ?_⟩
      · obtain ⟨c0, _⟩ := hq 0 hp
        exact World.block_lt_of_cell? w _ c0
      · obtain ⟨c0, c1, c2, _⟩ := hq i hi
        rw [e] at c0 c1 c2
        refine ⟨?_, by rw [Nat.add_assoc]; exact c1, by rw [Nat.add_assoc]; exact c2⟩
        simp only [hi, if_true]
        exact c0
    · dsimp only
      split
      · rename_i hj
        exact (hq j hj).2.2.2
      · omega
end Go.Proofs.Ybulkause
