/-
  The walks of Node.lock, Node.unlock (deferred), Node.Cell, Topology.pos, Topology.Index and cells.leave, where the node is in no cell.
-/
import Derived.Test.YbulkauseRows
import Derived.Test.YbulkauseLocks
import Derived.WalkKit
import Derived.WalkSpells
import Derived.WalkLawsBesides
import Derived.Defers
import Derived.Deep.OwnRows
import Derived.Laws.Rows
namespace Go.Proofs.Ybulkause
open Go.RowKit Go.MuLone Go.Deep

set_option maxHeartbeats 400000 in
theorem lock_any (b : Nat) (w : World) (h3 : w.cell? ⟨b, 3, none⟩ = some (.int .i32 0)) (f3 : w.frozen? ⟨b, 3, none⟩ = false) (h5 : w.cell? ⟨b, 5, none⟩ = some (.bool false)) :
    Calls Yba.prog 21 #[.pointer (some ⟨b, 0, none⟩)] w fun e w' => e = .returned (.tuple #[]) ∧ w.setCell ⟨b, 3, none⟩ (.int .i32 1) = w' := by
  go_enter Yba.func21, Yba.ntmps21
  go_wp2_with (go_at_call 29; refine (lock_free Yba.muLib ⟨b, 3, none⟩ _ h3 f3).mono ?_; rintro e w' ⟨rfl, rfl⟩)
  go_end0
  exact ⟨rfl, rfl⟩

set_option maxHeartbeats 400000 in
theorem unlock_def (b : Nat) (u : FrameMode) (w : World) (h3 : w.cell? ⟨b, 3, none⟩ = some (.int .i32 1)) (f3 : w.frozen? ⟨b, 3, none⟩ = false) (h5 : w.cell? ⟨b, 5, none⟩ = some (.bool false)) :
    CallsD Yba.prog 22 #[.pointer (some ⟨b, 0, none⟩)] u w fun e u' w' => u' = u ∧ (e = .returned (.tuple #[]) ∧ w' = w.setCell ⟨b, 3, none⟩ (.int .i32 0)) := by
  go_enter_d Yba.func22, Yba.ntmps22
  go_wp2_with (go_at_call 30; refine (unlock_held Yba.muLib ⟨b, 3, none⟩ _ h3 f3).mono ?_; rintro e w' ⟨rfl, rfl⟩)
  go_end0
  exact ⟨rfl, rfl⟩

set_option maxHeartbeats 800000 in
theorem cell_any (b : Nat) (w : World) (hb : b < w.heap.size) (h3 : w.cell? ⟨b, 3, none⟩ = some (.int .i32 0)) (f3 : w.frozen? ⟨b, 3, none⟩ = false) (h5 : w.cell? ⟨b, 5, none⟩ = some (.bool false)) (h10 : w.cell? ⟨b, 10, none⟩ = some (.pointer none)) :
    Calls Yba.prog 14 #[.pointer (some ⟨b, 0, none⟩)] w fun e w' => e = .returned (.agg #[.pointer none, .pointer none, .pointer none, .bool false]) ∧
      ((w.setCell ⟨b, 3, none⟩ (.int .i32 1)).setCell ⟨b, 3, none⟩ (.int .i32 0)).alloc (.cells #[.pointer none, .pointer none, .pointer none, .bool false] 154) = w' := by
  have a3 := fun o => (World.cell?_alloc_past (w := w) o b 3 hb).trans h3
  have a5 := fun o => (World.cell?_alloc_past (w := w) o b 5 hb).trans h5
  have g3 := fun o => (World.frozen?_alloc_past (w := w) o b 3 hb).trans f3
  go_enter_defers Yba.func14, Yba.ntmps14
  go_wp2_with (go_at_call 21; go_must (refine (lock_any b _ (a3 _) (g3 _) (a5 _)).mono ?_; rintro e w' ⟨rfl, rfl⟩))
  have b3 : (w.setCell ⟨b, 3, none⟩ (.int .i32 1)).cell? ⟨b, 3, none⟩ = some (.int .i32 1) := World.cell?_setCell_same w ⟨b, 3, none⟩ (.int .i32 1) h3
  have b5 : (w.setCell ⟨b, 3, none⟩ (.int .i32 1)).cell? ⟨b, 5, none⟩ = some (.bool false) := (World.cell?_setCell_other w ⟨b, 3, none⟩ ⟨b, 5, none⟩ _ (by simp)).trans h5
  have bz : (w.setCell ⟨b, 3, none⟩ (.int .i32 1)).heap.size = w.heap.size := by simp [World.setCell]
  refine leaves_cons (f := 22) (args := #[.pointer (some ⟨b, 0, none⟩)]) (by simp) (by simp [go_sem]) ?_
  refine (unlock_def b .returning _ ?_ ?_ ?_).mono ?_
  · exact (World.cell?_alloc_past _ b 3 (by rw [bz]; exact hb)).trans b3
  · exact (World.frozen?_alloc_past _ b 3 (by rw [bz]; exact hb)).trans (by simp [f3])
  · exact (World.cell?_alloc_past _ b 5 (by rw [bz]; exact hb)).trans b5
  rintro e u' w'' ⟨rfl, rfl, rfl⟩
  rw [World.setCell_alloc_past _ b 3 _ (by rw [bz]; exact hb)]
  refine ⟨_, results_cell_row (P := Yba.prog) rfl _ _ w.heap.size 154 #[.pointer none, .pointer none, .pointer none, .bool false] (0, 0) _ rfl ?_ Yba.underlying154 rfl (by kernel_rfl), rfl, rfl⟩
  have e := blk_alloc_new ((w.setCell ⟨b, 3, none⟩ (.int .i32 1)).setCell ⟨b, 3, none⟩ (.int .i32 0)) (.cells #[.pointer none, .pointer none, .pointer none, .bool false] 154)
  simpa [World.setCell] using e

theorem nilIndex (x : Int) (w : World) : (Instr.lookup 54 (.map none) (.int .i64 x) true).run Yba.prog w = .ok (.tuple #[.int .i64 0, .bool false]) w := by kernel_rfl

set_option maxHeartbeats 400000 in
theorem pos_nil (b : Nat) (id : Int) (w : World) (h5 : w.cell? ⟨b, 5, none⟩ = some (.map none)) (h7 : w.cell? ⟨b, 7, none⟩ = some (.slice none 0 0)) :
    Calls Yba.prog 20 #[.pointer (some ⟨b, 0, none⟩), .int .i64 id] w fun e w' => e = .returned (.tuple #[.int .i64 0, .bool false]) ∧ w = w' := by
  have hnil := fun w => Lib.run_eql_slice_nil (P := Yba.prog) w 56 21 none 0 0 0 0 Yba.underlying56
  have hl := nilIndex id
  go_enter Yba.func20, Yba.ntmps20
  go_wp2
  go_ret2
  exact ⟨rfl, rfl⟩

set_option maxHeartbeats 400000 in
theorem index_nil (b : Nat) (id : Int) (w : World) (h5 : w.cell? ⟨b, 5, none⟩ = some (.map none)) (h7 : w.cell? ⟨b, 7, none⟩ = some (.slice none 0 0)) :
    Calls Yba.prog 13 #[.pointer (some ⟨b, 0, none⟩), .int .i64 id] w fun e w' => e = .returned (.int .i64 0) ∧ w = w' := by
  go_enter Yba.func13, Yba.ntmps13
  go_wp2_with (go_at_call 20; go_must (refine (pos_nil b id _ h5 h7).mono ?_; rintro e w' ⟨rfl, rfl⟩))
  go_ret
  exact ⟨rfl, rfl⟩

theorem field154 (a b c : Value) (p : Option Addr) (w : World) : (Instr.field 154 (.agg #[.pointer p, a, b, c]) 0).run Yba.prog w = .ok (.pointer p) w := by kernel_rfl

set_option maxHeartbeats 800000 in
set_option maxRecDepth 100000 in
theorem leave_any (C S T N gb nb n : Nat) (x id : Int) (w : World) (hn1 : 1 ≤ n) (hnm : n ≤ 1024)
    (hC0 : w.cell? ⟨C, 0, none⟩ = some (.pointer (some ⟨S, 0, none⟩))) (hC2 : w.cell? ⟨C, 2, none⟩ = some (.slice (some ⟨gb, 0, none⟩) n n))
    (hS0 : w.cell? ⟨S, 0, none⟩ = some (.pointer (some ⟨T, 0, none⟩))) (hS9 : w.cell? ⟨S, 9, none⟩ = some (.slice (some ⟨nb, 0, none⟩) n n))
    (hT5 : w.cell? ⟨T, 5, none⟩ = some (.map none)) (hT7 : w.cell? ⟨T, 7, none⟩ = some (.slice none 0 0))
    (hg : w.cell? ⟨gb, 0, none⟩ = some (.int .u64 x)) (fg : w.frozen? ⟨gb, 0, none⟩ = false) (hnb : w.cell? ⟨nb, 0, none⟩ = some (.pointer (some ⟨N, 0, none⟩)))
    (hN3 : w.cell? ⟨N, 3, none⟩ = some (.int .i32 0)) (fN3 : w.frozen? ⟨N, 3, none⟩ = false) (hN5 : w.cell? ⟨N, 5, none⟩ = some (.bool false)) (hN10 : w.cell? ⟨N, 10, none⟩ = some (.pointer none))
    (d1 : gb ≠ C) (d2 : gb ≠ S) (d3 : gb ≠ nb) (d4 : gb ≠ N) (hNs : N < w.heap.size) :
    Calls Yba.prog 6 #[.pointer (some ⟨C, 0, none⟩), .int .i64 id] w fun e w' => e = .returned (.tuple #[]) ∧
      (((w.setCell ⟨gb, 0, none⟩ (.int .u64 (IntKind.u64.wrap (x + 1)))).setCell ⟨N, 3, none⟩ (.int .i32 1)).setCell ⟨N, 3, none⟩ (.int .i32 0)).alloc (.cells #[.pointer none, .pointer none, .pointer none, .bool false] 154) = w' := by
  have s1 : ∀ v b o, gb ≠ b → (w.setCell ⟨gb, 0, none⟩ v).cell? ⟨b, o, none⟩ = w.cell? ⟨b, o, none⟩ := fun v b o h => World.cell?_setCell_other w ⟨gb, 0, none⟩ ⟨b, o, none⟩ v (fun e => h (congrArg Addr.block e))
  have s2 : ∀ v, N < (w.setCell ⟨gb, 0, none⟩ v).heap.size := fun v => by simp [World.setCell]; exact hNs
  have s3 : ∀ v, (w.setCell ⟨gb, 0, none⟩ v).frozen? ⟨N, 3, none⟩ = false := fun v => by simp [fN3]
  have H14 := fun v => cell_any N (w.setCell ⟨gb, 0, none⟩ v) (s2 v) ((s1 v N 3 d4).trans hN3) (s3 v) ((s1 v N 5 d4).trans hN5) ((s1 v N 10 d4).trans hN10)
  clear s2 s3
  go_enter Yba.func6, Yba.ntmps6
  go_wp2_with (go_at_call 13; go_must (refine (index_nil T id _ hT5 hT7).mono ?_; rintro e w' ⟨rfl, rfl⟩))
  refine (H14 _).mono ?_
  clear H14 s1
  rintro e w' ⟨rfl, rfl⟩
  have hf := field154
  go_wp2_with fail
  refine bodyPost_ret (results_none rfl _ _ _) rfl ?_
  exact ⟨rfl, rfl⟩
end Go.Proofs.Ybulkause
