/-
  The walks of eventPool.setHolder: its four ways.
-/
import Derived.Test.YbulkaussRows
import Derived.Test.YbulkaussKit
import Derived.BigQuiet
import Derived.Deep.QuietTactic
import Derived.Deep.DeepCutAuto
namespace Go.Proofs.Ybulkauss
open Go.RowKit Go.Deep
set_option maxHeartbeats 400000 in
set_option maxRecDepth 100000 in
theorem set_off_short (P E ne r i s n cap : Nat) (ho : Option Addr) (w : World) (hr : r < ne) (hne : ne ≤ 2) (hi : i < 2) (hs : s ≤ 65535)
    (p0 : w.cell? ⟨P, 0, none⟩ = some (.slice (some ⟨E, 0, none⟩) ne ne)) (ef : w.cell? ⟨E, r * 15 + 11, none⟩ = some (.int .u32 0)) (eh : w.cell? ⟨E, 13 + i, none⟩ = some (.slice ho n cap)) (hn : n ≤ 1024) (hsh : n ≤ s / 64) :
    Calls Yba.prog 13 #[.pointer (some ⟨P, 0, none⟩), .int .u32 r, .int .i64 i, .int .i64 s, .bool false] w fun e w' => e = .returned (.tuple #[]) ∧ ∃ q, w.drewN q = w' := by
  have x1 : (r : Int) < (ne : Int) := by omega
  have x2 : (0 : Int) < (ne : Int) := by omega
  have x3 : (i : Int) < 2 := by omega
  go_enter Yba.func13, Yba.ntmps13
  go_wp2_with fail
  go_quiet (fail)
  go_wp2_with fail
  go_quiet (fail)
  go_wp2_with fail
  refine bodyPost_ret (results_none rfl _ _ _) rfl ?_
  exact ⟨rfl, _, rfl⟩

set_option maxHeartbeats 400000 in
set_option maxRecDepth 100000 in
theorem set_off_long (P E ne r i s n cap H : Nat) (x : Int) (w : World) (hr : r < ne) (hne : ne ≤ 2) (hi : i < 2) (hs : s ≤ 65535)
    (p0 : w.cell? ⟨P, 0, none⟩ = some (.slice (some ⟨E, 0, none⟩) ne ne)) (ef : w.cell? ⟨E, r * 15 + 11, none⟩ = some (.int .u32 0)) (eh : w.cell? ⟨E, 13 + i, none⟩ = some (.slice (some ⟨H, 0, none⟩) n cap)) (hn : n ≤ 2048) (hsh : s / 64 < n)
    (hx : w.cell? ⟨H, s / 64, none⟩ = some (.int .u64 x)) (hf : w.frozen? ⟨H, s / 64, none⟩ = false) :
    Calls Yba.prog 13 #[.pointer (some ⟨P, 0, none⟩), .int .u32 r, .int .i64 i, .int .i64 s, .bool false] w fun e w' => e = .returned (.tuple #[]) ∧ ∃ q, (w.drewN q).setCell ⟨H, s / 64, none⟩ (.int .u64 (bits BinOp.andNot IntKind.u64 x (IntKind.u64.wrap (2 ^ (s % 64))))) = w' := by
  have x1 : (r : Int) < (ne : Int) := by omega
  have x2 : (0 : Int) < (ne : Int) := by omega
  have x3 : (i : Int) < 2 := by omega
  go_enter Yba.func13, Yba.ntmps13
  go_wp2_with fail
  go_quiet (fail)
  go_wp2_with fail
  go_quiet (fail)
  go_wp2_with fail
  go_end0
  exact ⟨rfl, _, rfl⟩

set_option maxHeartbeats 400000 in
set_option maxRecDepth 100000 in
theorem set_on_long (P E ne r i s n cap H : Nat) (x : Int) (w : World) (hr : r < ne) (hne : ne ≤ 2) (hi : i < 2) (hs : s ≤ 65535)
    (p0 : w.cell? ⟨P, 0, none⟩ = some (.slice (some ⟨E, 0, none⟩) ne ne)) (ef : w.cell? ⟨E, r * 15 + 11, none⟩ = some (.int .u32 0)) (eh : w.cell? ⟨E, 13 + i, none⟩ = some (.slice (some ⟨H, 0, none⟩) n cap)) (hn : n ≤ 2048) (hsh : s / 64 < n)
    (hx : w.cell? ⟨H, s / 64, none⟩ = some (.int .u64 x)) (hf : w.frozen? ⟨H, s / 64, none⟩ = false) :
    Calls Yba.prog 13 #[.pointer (some ⟨P, 0, none⟩), .int .u32 r, .int .i64 i, .int .i64 s, .bool true] w fun e w' => e = .returned (.tuple #[]) ∧ ∃ q, (w.drewN q).setCell ⟨H, s / 64, none⟩ (.int .u64 (bits BinOp.or IntKind.u64 x (IntKind.u64.wrap (2 ^ (s % 64))))) = w' := by
  have x1 : (r : Int) < (ne : Int) := by omega
  have x2 : (0 : Int) < (ne : Int) := by omega
  have x3 : (i : Int) < 2 := by omega
  go_enter Yba.func13, Yba.ntmps13
  go_wp2_with fail
  go_quiet (fail)
  go_wp2_with fail
  go_quiet (fail)
  go_wp2_with fail
  go_end0
  exact ⟨rfl, _, rfl⟩

theorem wrapL (s n : Nat) (hs : s ≤ 65535) (hn : n ≤ 1024) : IntKind.i64.wrap (IntKind.i64.wrap ((s : Int) / 64 + 1) - (n : Int)) = ((s / 64 + 1 : Nat) : Int) - (n : Int) := by
  rw [IntWalk.i64_in ((s : Int) / 64 + 1) (by omega), IntWalk.i64_in _ (by omega)]; omega

theorem info24 : (Yba.prog.info? 24).map (fun i => (i.zero, i.size, i.bytes)) = some (some (.int .u64 0), 1, 8) := by kernel_rfl

set_option maxHeartbeats 800000 in
set_option maxRecDepth 100000 in
theorem set_on_short (P E ne r i s n : Nat) (ho : Option Addr) (olds : List Value) (w : World) (hr : r < ne) (hne : ne ≤ 2) (hi : i < 2) (hs : s ≤ 65535) (hE : E < w.heap.size)
    (p0 : w.cell? ⟨P, 0, none⟩ = some (.slice (some ⟨E, 0, none⟩) ne ne)) (ef : w.cell? ⟨E, r * 15 + 11, none⟩ = some (.int .u32 0)) (eh : w.cell? ⟨E, 13 + i, none⟩ = some (.slice ho n n)) (ff : w.frozen? ⟨E, 13 + i, none⟩ = false) (hn : n ≤ 1024) (hsh : n ≤ s / 64)
    (hnone : ho = none → n = 0) (hlo : olds.length = n) (holds : ∀ b, ho = some b → ∀ j v, olds[j]? = some v → w.cell? (b.add j) = some v) :
    Calls Yba.prog 13 #[.pointer (some ⟨P, 0, none⟩), .int .u32 r, .int .i64 i, .int .i64 s, .bool true] w fun e w' => e = .returned (.tuple #[]) ∧
      ∃ (q C : Nat) (R : Array Value), s / 64 + 1 ≤ C ∧ C ≤ maxLen ∧ R.size = C ∧ R.toList.take (s / 64 + 1) = olds ++ List.replicate (s / 64 + 1 - n) (.int .u64 0) ∧
        (((w.drewN q).setCell ⟨E, 13 + i, none⟩ (.slice (some ⟨w.heap.size, 0, none⟩) (s / 64 + 1) C)).alloc (.cells (R.setIfInBounds (s / 64) (.int .u64 (bits BinOp.or IntKind.u64 0 (IntKind.u64.wrap (2 ^ (s % 64)))))) 24)) = w' := by
  have x1 : (r : Int) < (ne : Int) := by omega
  have x2 : (0 : Int) < (ne : Int) := by omega
  have x3 : (i : Int) < 2 := by omega
  obtain ⟨i0, hi0, hz0, hz1, hz2⟩ := info_parts info24
  have HL : Hid (olds.length = n) := hlo
  have HO : Hid (∀ b, ho = some b → ∀ j v, olds[j]? = some v → w.cell? (b.add j) = some v) := holds
  have HNN : Hid (ho = none → n = 0) := hnone
  have k1 : ∀ q o, ((w.drewN q).alloc o).cell? ⟨E, 13 + i, none⟩ = some (.slice ho n n) := fun q o => (World.cell?_alloc_past (w := w.drewN q) o E _ (by simpa using hE)).trans (by simpa using eh)
  have k2 : ∀ q o, ((w.drewN q).alloc o).frozen? ⟨E, 13 + i, none⟩ = false := fun q o => (World.frozen?_alloc_past (w := w.drewN q) o E _ (by simpa using hE)).trans (by simpa using ff)
  clear hlo holds hnone
  go_enter Yba.func13, Yba.ntmps13
  go_wp2_with fail
  go_quiet (fail)
  go_wp2_with fail
  go_quiet (fail)
  go_wp2_with fail
  go_cut [] (fun w' => ∃ (q C : Nat) (R : Array Value), (s / 64 + 1 ≤ C ∧ C ≤ maxLen ∧ R.size = C ∧ R.toList.take (s / 64 + 1) = olds ++ List.replicate (s / 64 + 1 - n) (.int .u64 0)) ∧ ((w.drewN q).setCell ⟨E, 13 + i, none⟩ (.slice (some ⟨w.heap.size, 0, none⟩) (s / 64 + 1) C)).alloc (.cells R 24) = w')
  case first =>
    go_region_law (refine step_append_zeros rfl (.tmp 45) (.tmp 52) 128 3 rfl 24 i0 (.int .u64 0) .i64 Yba.underlying128 Yba.underlying3 hi0 hz0 hz1 hz2 rfl ho n n olds (by simp [Act.eval, Act.put]) HNN.out HL.out (fun b hb j v hj => by simpa using HO.out b hb j v hj) (s / 64 + 1) (IntKind.i64.wrap (IntKind.i64.wrap ((s : Int) / 64 + 1) - (n : Int))) (by simp [Act.eval, Act.put]) (wrapL s n hs hn) (by omega) (by omega) (by omega) ?_; intro C R hC1 hC2 hR1 hR2)
    all_goals
      go_wp2_with fail
      go_meet
      exact ⟨_, C, R, ⟨hC1, hC2, hR1, hR2⟩, (World.setCell_alloc_past _ E _ _ (by simpa using hE)).symm⟩
  case rest =>
    obtain ⟨q, C, R, hCR, hw1⟩ := hcut
    have hEs : ((w.drewN q).setCell ⟨E, 13 + i, none⟩ (.slice (some ⟨w.heap.size, 0, none⟩) (s / 64 + 1) C)).heap.size = w.heap.size := by simp [World.setCell]
    have r0 : R[s / 64]? = some (.int .u64 0) := by
      have h1 : (R.toList.take (s / 64 + 1))[s / 64]? = R[s / 64]? := by simp
      rw [← h1, hCR.2.2.2, List.getElem?_append_right (by rw [HL.out]; exact hsh), List.getElem?_replicate, if_pos (by rw [HL.out]; omega)]
    have c1 : wc.cell? ⟨E, 13 + i, none⟩ = some (.slice (some ⟨w.heap.size, 0, none⟩) (s / 64 + 1) C) := by
      rw [← hw1, World.cell?_alloc_past _ E _ (by rw [hEs]; exact hE)]
      exact World.cell?_setCell_same _ _ _ (by simpa using eh)
    have c2 : wc.cell? ⟨w.heap.size, s / 64, none⟩ = some (.int .u64 0) := by
      rw [← hw1, World.cell?_alloc_at _ _ _ _ hEs.symm]; exact r0
    have f2 : wc.frozen? ⟨w.heap.size, s / 64, none⟩ = false := by
      rw [← hw1, World.frozen?_alloc_at _ _ _ _ hEs.symm]
    have HW : Hid (((w.drewN q).setCell ⟨E, 13 + i, none⟩ (.slice (some ⟨w.heap.size, 0, none⟩) (s / 64 + 1) C)).alloc (.cells R 24) = wc) := hw1
    have HCR : Hid (s / 64 + 1 ≤ C ∧ C ≤ maxLen ∧ R.size = C ∧ R.toList.take (s / 64 + 1) = olds ++ List.replicate (s / 64 + 1 - n) (.int .u64 0)) := hCR
    have x9 : (s : Int) / 64 < ((s / 64 + 1 : Nat) : Int) := by omega
    clear hw1 hCR r0 k1 k2 p0 ef eh ff
    go_wp2_with fail
    go_end0
    refine ⟨rfl, q, C, R, HCR.out.1, HCR.out.2.1, HCR.out.2.2.1, HCR.out.2.2.2, ?_⟩
    rw [← HW.out, World.setCell_alloc_at _ _ _ _ _ hEs.symm]
end Go.Proofs.Ybulkauss
