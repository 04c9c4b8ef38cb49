/-
  The walks of State.changed, putCell, setCell.
-/
import Derived.Test.YbulkauseBuild
namespace Go.Proofs.Ybulkause
open Go.RowKit Go.Deep

theorem func_ne (C : Nat) (w : World) : (binOp .neq 1 (.func (.func 10) #[] #[.pointer (some ⟨C, 0, none⟩)]) .nilFunc).run Yba.prog w = .ok (.bool true) w := by kernel_rfl

set_option maxHeartbeats 400000 in
theorem count_any (C : Nat) (c : Int) (w : World) (hc : w.cell? ⟨C, 0, none⟩ = some (.int .i64 c)) (hf : w.frozen? ⟨C, 0, none⟩ = false) (hb0 : 0 ≤ c) (hb1 : c ≤ 1000) :
    Calls Yba.prog 10 #[.pointer (some ⟨C, 0, none⟩)] w fun e w' => e = .returned (.tuple #[]) ∧ w.setCell ⟨C, 0, none⟩ (.int .i64 (c + 1)) = w' := by
  go_enter Yba.func10, Yba.ntmps10
  go_wp2_with fail
  go_end0
  exact ⟨rfl, rfl⟩

set_option maxHeartbeats 400000 in
set_option maxRecDepth 100000 in
theorem changed_any (S C : Nat) (c : Int) (w : World) (h13 : w.cell? ⟨S, 13, none⟩ = some (.func (.func 10) #[] #[.pointer (some ⟨C, 0, none⟩)])) (hc : w.cell? ⟨C, 0, none⟩ = some (.int .i64 c)) (hf : w.frozen? ⟨C, 0, none⟩ = false) (hb : 0 ≤ c ∧ c ≤ 1000) :
    Calls Yba.prog 32 #[.pointer (some ⟨S, 0, none⟩)] w fun e w' => e = .returned (.tuple #[]) ∧ w.setCell ⟨C, 0, none⟩ (.int .i64 (c + 1)) = w' := by
  obtain ⟨hb0, hb1⟩ := hb
  have hne := func_ne C
  go_enter Yba.func32, Yba.ntmps32
  go_wp2_with fail
  refine (count_any C c w hc hf hb0 hb1).mono ?_
  rintro e w' ⟨rfl, rfl⟩
  go_wp2_with fail
  go_end0
  exact ⟨rfl, rfl⟩
end Go.Proofs.Ybulkause
