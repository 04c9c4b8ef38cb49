/-
  The walks over views: removed.
-/
import Derived.Test.YbulkauseCmp
import Derived.Deep.RegionWith
import Derived.Deep.DeepMust
namespace Go.Proofs.Ybulkause
open Go.RowKit Go.Deep

theorem gone_found {ls : List Mb} {m x : Mb} {i : Nat} (hI : Inc ls) (hx : ls[i]? = some x) (he : x.id = m.id) : goneB ls m = decide (m.seq ≤ x.seq) := by
  by_cases h : m.seq ≤ x.seq
  · rw [goneB_hit hx (by simp [he, h])]; simp [h]
  · have : goneB ls m = false := by
      refine Bool.eq_false_iff.2 fun hh => ?_
      obtain ⟨y, hy, hc⟩ := List.any_eq_true.1 hh
      obtain ⟨k, hk⟩ := List.getElem?_of_mem hy
      simp only [Bool.and_eq_true, beq_iff_eq, decide_eq_true_eq] at hc
      by_cases hki : k = i
      · subst hki
        have e := hx.symm.trans hk; injection e with e; subst e; exact h hc.2
      · by_cases hlt : k < i
        · have := hI k i y x hlt hk hx; omega
        · have := hI i k x y (by omega) hx hk; omega
    rw [this]; simp [h]
theorem gone_none {ls : List Mb} {m : Mb} (h : ∀ (k : Nat) (x : Mb), ls[k]? = some x → x.id ≠ m.id) : goneB ls m = false := by
  refine Bool.eq_false_iff.2 fun hh => ?_
  obtain ⟨y, hy, hc⟩ := List.any_eq_true.1 hh
  obtain ⟨k, hk⟩ := List.getElem?_of_mem hy
  simp only [Bool.and_eq_true, beq_iff_eq] at hc
  exact h k y hk hc.1

theorem below_of_drawn {v x w' : World} (hb : Below x.heap.size x w') (hx : x.heap = v.heap ∧ x.os = v.os ∧ x.tape = v.tape ∧ x.output = v.output) : Below v.heap.size v w' :=
  ⟨hb.os.trans hx.2.1, hb.tape.trans hx.2.2.1, hb.output.trans hx.2.2.2, by rw [← hx.1]; exact hb.size, fun k hk => by rw [hb.block k (by rw [hx.1]; exact hk), hx.1]⟩
theorem below_to_drawn {B : Nat} {w v x : World} (hb : Below B w v) (hx : x.heap = v.heap ∧ x.os = v.os ∧ x.tape = v.tape ∧ x.output = v.output) : Below B w x :=
  ⟨hx.2.1.trans hb.os, hx.2.2.1.trans hb.tape, hx.2.2.2.trans hb.output, by rw [hx.1]; exact hb.size, fun k hk => by rw [hx.1]; exact hb.block k hk⟩

set_option maxHeartbeats 800000 in
theorem removed_any (V : Nat) (ao : Option Addr) (cap : Nat) (ls : List Mb) (m : Mb) (w : World) (hl : ls.length ≤ 2000000) (hV : w.cell? ⟨V, 11, none⟩ = some (.slice ao ls.length cap)) (hVl : V < w.heap.size) (hR : MRow w ao ls) (hI : Inc ls) :
    Calls Yba.prog 33 #[.pointer (some ⟨V, 0, none⟩), .agg #[.int .i64 m.id, .int .i64 m.idx, .int .u64 m.seq]] w fun e w' => e = .returned (.bool (goneB ls m)) ∧ Below w.heap.size w w' := by
  go_enter Yba.func33, Yba.ntmps33
  go_upto_region 1 with fail
  obtain ⟨D, hD⟩ : ∃ D, D = w.heap.size := ⟨_, rfl⟩
  obtain ⟨v1, hv1⟩ : ∃ v1, v1 = w.alloc (.cells #[.int .i64 m.id, .int .i64 m.idx, .int .u64 m.seq] 106) := ⟨_, rfl⟩
  rw [← hv1, ← hD]
  have kD : Blk v1 D #[.int .i64 m.id, .int .i64 m.idx, .int .u64 m.seq] 106 := by rw [hv1, hD]; exact Blk.new _ _ _
  have hb1 : Below D w v1 := by rw [hv1, hD]; exact (Below.refl _ _).alloc (Nat.le_refl _) _
  have hR1 : MRow v1 ao ls := fun h => by
    obtain ⟨g, o, e, hg, hm⟩ := hR h
    exact ⟨g, o, e, Nat.lt_of_lt_of_le hg hb1.size, fun j m hj => (hm j m hj).keep (fun o' => cell_below hb1 (by rw [hD]; exact hg) o')⟩
  have hV1 : v1.cell? ⟨V, 11, none⟩ = some (.slice ao ls.length cap) := (cell_below hb1 (by rw [hD]; exact hVl) 11).trans hV
  have m0 : v1.cell? ⟨D, 0, none⟩ = some (.int .i64 m.id) := kD.cell 0
  have HD : Hid (D = w.heap.size) := hD
  have HS : Hid (D < v1.heap.size) := kD.lt
  have HVl : Hid (V < v1.heap.size) := Nat.lt_of_lt_of_le hVl hb1.size
  clear hv1 hD hR hV hVl
  go_cut [5, 6] (fun vi vf w' => ∃ (i : Nat) (fd : Bool), vi = .int .i64 i ∧ vf = .bool fd ∧ Below v1.heap.size v1 w' ∧ (fd = true → ∃ x : Mb, ls[i]? = some x ∧ x.id = m.id) ∧ (fd = false → ∀ (k : Nat) (x : Mb), ls[k]? = some x → x.id ≠ m.id))
  case first =>
    go_region_with (go_at_call 24; go_must (refine (search_any ao cap ls m.id _ hl (by exact hR1) hI).mono ?_; rintro e w' ⟨i, fd, rfl, hb, h1, h2⟩))
    all_goals
      go_wp2_with fail
      go_meet
      exact ⟨i, fd, rfl, rfl, below_of_drawn hb ⟨rfl, rfl, rfl, rfl⟩, h1, h2⟩
  case rest =>
    obtain ⟨i, fd, rfl, rfl, hb, h1, h2⟩ := hcut
    have HB : Hid (Below v1.heap.size v1 wc) := hb
    cases fd
    · have HG : Hid (goneB ls m = false) := gone_none (h2 rfl)
      clear h1 h2 hb
      go_upto_region 2 with fail
      go_quiet (fail)
      go_wp2_with fail
      go_ret
      exact ⟨by simp [HG.out], below_top HD.out hb1 HS.out (below_to_drawn HB.out ⟨rfl, rfl, rfl, rfl⟩)⟩
    · obtain ⟨x, hx, he⟩ := h1 rfl
      have HG : Hid (goneB ls m = decide (m.seq ≤ x.seq)) := gone_found hI hx he
      have hlt := (List.getElem?_eq_some_iff.1 hx).1
      obtain ⟨g, o, rfl, hg, hm⟩ := hR1 (by omega)
      have hme := (hm i x hx).keep (fun o' => cell_below hb hg o')
      have c0 := hme.1
      have c1 := hme.2.1
      have c2 := hme.2.2
      have e11 : wc.cell? ⟨V, 11, none⟩ = some (.slice (some ⟨g, o, none⟩) ls.length cap) := (cell_below hb HVl.out 11).trans hV1
      have d2 : wc.cell? ⟨D, 2, none⟩ = some (.int .u64 m.seq) := (cell_below hb HS.out 2).trans (kD.cell 2)
      have hi1 : (0 : Int) ≤ (i : Int) := by omega
      have hi2 : (i : Int) < (ls.length : Int) := by omega
      clear h1 h2 hb hx he hm hme hV1 m0
      by_cases hs : m.seq ≤ x.seq
      · have HS2 : Hid (m.seq ≤ x.seq) := hs
        have y1 : decide (m.seq ≤ x.seq) = true := by simp [hs]
        go_upto_region 2 with fail
        go_quiet (fail)
        go_wp2_with fail
        go_ret
        exact ⟨by simp [HG.out, HS2.out], below_top HD.out hb1 HS.out (below_to_drawn HB.out ⟨rfl, rfl, rfl, rfl⟩)⟩
      · have HS2 : Hid (¬ m.seq ≤ x.seq) := hs
        have y1 : decide (m.seq ≤ x.seq) = false := by simp [hs]
        go_upto_region 2 with fail
        go_quiet (fail)
        go_wp2_with fail
        go_ret
        have hs3 := HS2.out
        exact ⟨by simp [HG.out]; omega, below_top HD.out hb1 HS.out (below_to_drawn HB.out ⟨rfl, rfl, rfl, rfl⟩)⟩
end Go.Proofs.Ybulkause
