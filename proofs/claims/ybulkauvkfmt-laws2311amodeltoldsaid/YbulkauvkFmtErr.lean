/-
  The walks of fmt.Errorf at the two formats, of quote.Plain, of the law's small functions.
-/
import Derived.Test.YbulkauvkFmtFacts
import Derived.Test.YbulkauvkFmtKit
import Derived.Deep.DeepCutAuto
import Derived.Deep.RegionHeld3
import Derived.Deep.RegionWith
import Derived.Deep.DeepMust
import Derived.BigQuiet
import Derived.Deep.QuietTactic
import Derived.Deep.DrawnRows
namespace Go.Proofs.YbulkauvkFmt
set_option linter.unusedSimpArgs false
open Go.RowKit Go.Extern.Stop Go.Stop Go.Extern Go.Deep
attribute [local go_sem] call17 guardF fmtAp fmtAr fmtAp0 fmtAr0 fmtBp fmtBr fmtBp0 fmtBr0 op9_115 op9_118 op9_100 op9_115w op9_118w op9_100w op41_115 op41_118 op41_100 op41_115w op41_118w op41_100w strict9 strict41 ptr117 elem117 isError117 ptr109 elem109 isError109

/-- an error is given back -/
def ErrPost (w : World) (e : Ending) (w' : World) : Prop := ∃ a, e = .returned (.iface 117 (.pointer (some a))) ∧ Below w.heap.size w w'

set_option maxHeartbeats 800000 in
set_option maxRecDepth 100000 in
theorem errA_any (F : Interp) (g : Nat) (a b : ByteArray) (x y : Int) (w : World) (hF : F.answers w.tape) (h0 : w.cell? ⟨g, 0, none⟩ = some (.iface 9 (.string a))) (h1 : w.cell? ⟨g, 1, none⟩ = some (.iface 9 (.string b))) (h2 : w.cell? ⟨g, 2, none⟩ = some (.iface 41 (.int .u64 x))) (h3 : w.cell? ⟨g, 3, none⟩ = some (.iface 41 (.int .u64 y))) :
    Calls Ybaf.prog 14 #[.string ⟨#[37, 115, 32, 37, 115, 32, 104, 97, 115, 32, 116, 119, 111, 32, 83, 73, 68, 115, 44, 32, 37, 100, 32, 97, 110, 100, 32, 37, 100]⟩, .slice (some ⟨g, 0, none⟩) 4 4] w fun e w' => ErrPost w e w' := by
  have hF' := hF
  unfold Interp.answers at hF'
  go_enter Ybaf.func14, Ybaf.ntmps14
  go_wp2
  go_ret
  exact ⟨_, rfl, below_same ((Below.refl _ _).alloc (Nat.le_refl _) _) rfl rfl rfl rfl⟩

set_option maxHeartbeats 800000 in
set_option maxRecDepth 100000 in
theorem errB_any (F : Interp) (g : Nat) (a b c d : ByteArray) (x : Int) (w : World) (hF : F.answers w.tape) (h0 : w.cell? ⟨g, 0, none⟩ = some (.iface 41 (.int .u64 x))) (h1 : w.cell? ⟨g, 1, none⟩ = some (.iface 9 (.string a))) (h2 : w.cell? ⟨g, 2, none⟩ = some (.iface 9 (.string b))) (h3 : w.cell? ⟨g, 3, none⟩ = some (.iface 9 (.string c))) (h4 : w.cell? ⟨g, 4, none⟩ = some (.iface 9 (.string d))) :
    Calls Ybaf.prog 14 #[.string ⟨#[83, 73, 68, 32, 37, 100, 32, 105, 115, 32, 97, 115, 115, 105, 103, 110, 101, 100, 32, 116, 111, 32, 37, 115, 32, 37, 115, 32, 97, 110, 100, 32, 116, 111, 32, 37, 115, 32, 37, 115]⟩, .slice (some ⟨g, 0, none⟩) 5 5] w fun e w' => ErrPost w e w' := by
  have hF' := hF
  unfold Interp.answers at hF'
  go_enter Ybaf.func14, Ybaf.ntmps14
  go_wp2
  go_ret
  exact ⟨_, rfl, below_same ((Below.refl _ _).alloc (Nat.le_refl _) _) rfl rfl rfl rfl⟩

/-- .. where the operands' slice has just been laid -/
theorem errA_new (F : Interp) (a b : ByteArray) (x y : Int) (w : World) (k : Nat) (hF : F.answers w.tape) : Calls Ybaf.prog 14 #[.string ⟨#[37, 115, 32, 37, 115, 32, 104, 97, 115, 32, 116, 119, 111, 32, 83, 73, 68, 115, 44, 32, 37, 100, 32, 97, 110, 100, 32, 37, 100]⟩, .slice (some ⟨w.heap.size, 0, none⟩) 4 4] ((w.drewN k).alloc (.cells #[.iface 9 (.string a), .iface 9 (.string b), .iface 41 (.int .u64 x), .iface 41 (.int .u64 y)] 20)) fun e w' => ErrPost w e w' := by
  have kb := Blk.new (w.drewN k) #[.iface 9 (.string a), .iface 9 (.string b), .iface 41 (.int .u64 x), .iface 41 (.int .u64 y)] 20
  have hb : Below w.heap.size w ((w.drewN k).alloc (.cells #[.iface 9 (.string a), .iface 9 (.string b), .iface 41 (.int .u64 x), .iface 41 (.int .u64 y)] 20)) := below_same ((Below.refl w.heap.size w).alloc (Nat.le_refl _) (.cells #[.iface 9 (.string a), .iface 9 (.string b), .iface 41 (.int .u64 x), .iface 41 (.int .u64 y)] 20)) rfl rfl rfl rfl
  refine (errA_any F w.heap.size a b x y ((w.drewN k).alloc (.cells #[.iface 9 (.string a), .iface 9 (.string b), .iface 41 (.int .u64 x), .iface 41 (.int .u64 y)] 20)) hF (kb.cell 0) (kb.cell 1) (kb.cell 2) (kb.cell 3)).mono ?_
  rintro e w' ⟨ad, he, hb2⟩
  exact ⟨ad, he, hb.trans (hb2.mono hb.size)⟩
theorem errB_new (F : Interp) (a b c d : ByteArray) (x : Int) (w : World) (k : Nat) (hF : F.answers w.tape) : Calls Ybaf.prog 14 #[.string ⟨#[83, 73, 68, 32, 37, 100, 32, 105, 115, 32, 97, 115, 115, 105, 103, 110, 101, 100, 32, 116, 111, 32, 37, 115, 32, 37, 115, 32, 97, 110, 100, 32, 116, 111, 32, 37, 115, 32, 37, 115]⟩, .slice (some ⟨w.heap.size, 0, none⟩) 5 5] ((w.drewN k).alloc (.cells #[.iface 41 (.int .u64 x), .iface 9 (.string a), .iface 9 (.string b), .iface 9 (.string c), .iface 9 (.string d)] 20)) fun e w' => ErrPost w e w' := by
  have kb := Blk.new (w.drewN k) #[.iface 41 (.int .u64 x), .iface 9 (.string a), .iface 9 (.string b), .iface 9 (.string c), .iface 9 (.string d)] 20
  have hb : Below w.heap.size w ((w.drewN k).alloc (.cells #[.iface 41 (.int .u64 x), .iface 9 (.string a), .iface 9 (.string b), .iface 9 (.string c), .iface 9 (.string d)] 20)) := below_same ((Below.refl w.heap.size w).alloc (Nat.le_refl _) (.cells #[.iface 41 (.int .u64 x), .iface 9 (.string a), .iface 9 (.string b), .iface 9 (.string c), .iface 9 (.string d)] 20)) rfl rfl rfl rfl
  refine (errB_any F w.heap.size a b c d x ((w.drewN k).alloc (.cells #[.iface 41 (.int .u64 x), .iface 9 (.string a), .iface 9 (.string b), .iface 9 (.string c), .iface 9 (.string d)] 20)) hF (kb.cell 0) (kb.cell 1) (kb.cell 2) (kb.cell 3) (kb.cell 4)).mono ?_
  rintro e w' ⟨ad, he, hb2⟩
  exact ⟨ad, he, hb.trans (hb2.mono hb.size)⟩

set_option maxHeartbeats 400000 in
theorem plain_any (s : ByteArray) (w : World) (hs : s.size ≤ 200) : Calls Ybaf.prog 15 #[.string s] w fun e w' => e = .returned (.string s) ∧ w = w' := by
  have h1 : (s.size : Int) ≤ 200 := by omega
  go_enter Ybaf.func15, Ybaf.ntmps15
  go_wp2
  go_ret
  exact ⟨rfl, rfl⟩

/-- the law's names, by number -/
def modB (i : Int) : ByteArray := if i % 2 = 0 then ⟨#[109]⟩ else ⟨#[110]⟩
def nsB (i : Int) : ByteArray := if i % 4 = 0 then ⟨#[109, 111, 100, 117, 108, 101]⟩ else if i % 4 = 1 then ⟨#[105, 100, 101, 110, 116, 105, 116, 121]⟩ else if i % 4 = 2 then ⟨#[102, 101, 97, 116, 117, 114, 101]⟩ else ⟨#[100, 97, 116, 97]⟩
def idB (i : Int) : ByteArray := if i % 3 = 0 then ⟨#[97]⟩ else if i % 3 = 1 then ⟨#[98]⟩ else ⟨#[109]⟩

set_option maxHeartbeats 400000 in
theorem mod_any (i : Int) (w : World) (h : 0 ≤ i ∧ i ≤ 255) : Calls Ybaf.prog 6 #[.int .u8 i] w fun e w' => e = .returned (.string (modB i)) ∧ w = w' := by
  obtain ⟨h0, h1⟩ := h
  by_cases c : i % 2 = 0
  · have e : modB i = ⟨#[109]⟩ := if_pos c
    have y : (i % 2 == 0) = true := by simp [c]
    rw [e]
    go_enter Ybaf.func6, Ybaf.ntmps6
    go_wp2
    go_ret
    exact ⟨rfl, rfl⟩
  · have e : modB i = ⟨#[110]⟩ := if_neg c
    have y : (i % 2 == 0) = false := by simp [c]
    rw [e]
    go_enter Ybaf.func6, Ybaf.ntmps6
    go_wp2
    go_ret
    exact ⟨rfl, rfl⟩

set_option maxHeartbeats 400000 in
theorem ns_any (i : Int) (w : World) (h : 0 ≤ i ∧ i ≤ 255) : Calls Ybaf.prog 7 #[.int .u8 i] w fun e w' => e = .returned (.string (nsB i)) ∧ w = w' := by
  obtain ⟨h0, h1⟩ := h
  by_cases c0 : i % 4 = 0
  · have e : nsB i = ⟨#[109, 111, 100, 117, 108, 101]⟩ := by simp [nsB, c0]
    have y0 : (i % 4 == 0) = true := by simp [c0]
    rw [e]
    go_enter Ybaf.func7, Ybaf.ntmps7
    go_wp2
    go_ret
    exact ⟨rfl, rfl⟩
  · --
    by_cases c1 : i % 4 = 1
    · have e : nsB i = ⟨#[105, 100, 101, 110, 116, 105, 116, 121]⟩ := by simp [nsB, c0, c1]
      have y0 : (i % 4 == 0) = false := by simp [c0]
      have y1 : (i % 4 == 1) = true := by simp [c1]
      rw [e]
      go_enter Ybaf.func7, Ybaf.ntmps7
      go_wp2
      go_ret
      exact ⟨rfl, rfl⟩
    · --
      by_cases c2 : i % 4 = 2
      · have e : nsB i = ⟨#[102, 101, 97, 116, 117, 114, 101]⟩ := by simp [nsB, c0, c1, c2]
        have y0 : (i % 4 == 0) = false := by simp [c0]
        have y1 : (i % 4 == 1) = false := by simp [c1]
        have y2 : (i % 4 == 2) = true := by simp [c2]
        rw [e]
        go_enter Ybaf.func7, Ybaf.ntmps7
        go_wp2
        go_ret
        exact ⟨rfl, rfl⟩
      · --
        have e : nsB i = ⟨#[100, 97, 116, 97]⟩ := by simp [nsB, c0, c1, c2]
        have y0 : (i % 4 == 0) = false := by simp [c0]
        have y1 : (i % 4 == 1) = false := by simp [c1]
        have y2 : (i % 4 == 2) = false := by simp [c2]
        rw [e]
        go_enter Ybaf.func7, Ybaf.ntmps7
        go_wp2
        go_ret
        exact ⟨rfl, rfl⟩

set_option maxHeartbeats 400000 in
theorem id_any (i : Int) (w : World) (h : 0 ≤ i ∧ i ≤ 255) : Calls Ybaf.prog 8 #[.int .u8 i] w fun e w' => e = .returned (.string (idB i)) ∧ w = w' := by
  obtain ⟨h0, h1⟩ := h
  by_cases c0 : i % 3 = 0
  · have e : idB i = ⟨#[97]⟩ := by simp [idB, c0]
    have y0 : (i % 3 == 0) = true := by simp [c0]
    rw [e]
    go_enter Ybaf.func8, Ybaf.ntmps8
    go_wp2
    go_ret
    exact ⟨rfl, rfl⟩
  · --
    by_cases c1 : i % 3 = 1
    · have e : idB i = ⟨#[98]⟩ := by simp [idB, c0, c1]
      have y0 : (i % 3 == 0) = false := by simp [c0]
      have y1 : (i % 3 == 1) = true := by simp [c1]
      rw [e]
      go_enter Ybaf.func8, Ybaf.ntmps8
      go_wp2
      go_ret
      exact ⟨rfl, rfl⟩
    · --
      have e : idB i = ⟨#[109]⟩ := by simp [idB, c0, c1]
      have y0 : (i % 3 == 0) = false := by simp [c0]
      have y1 : (i % 3 == 1) = false := by simp [c1]
      rw [e]
      go_enter Ybaf.func8, Ybaf.ntmps8
      go_wp2
      go_ret
      exact ⟨rfl, rfl⟩

theorem small_mod (i : Int) : (modB i).size ≤ 1 := by unfold modB; split <;> decide
theorem small_ns (i : Int) : (nsB i).size ≤ 8 := by unfold nsB; split; decide; split; decide; split <;> decide
theorem small_id (i : Int) : (idB i).size ≤ 1 := by unfold idB; split; decide; split <;> decide
end Go.Proofs.YbulkauvkFmt
