/-
  The law, walked whole.
-/
import Derived.Test.YbulkauvkFmtL2
namespace Go.Proofs.YbulkauvkFmt
open Go.RowKit Go.Extern.Stop Go.Stop Go.Extern Go.Deep

theorem start_l2 {w x : World} (hb : Below w.heap.size w x) : L2S w.heap.size x.heap.size w 0 none 0 [] (.slice none 0 0) (x.alloc (.cells #[.map none, .map none] 29)) where
  tab := ⟨Blk.new _ _ _, rfl⟩
  row := World.ownsRow_nil _ _ _ _
  bel := hb.alloc hb.size _
  hT := hb.size
  hI := fun g ⟨a, b, e, _⟩ => by cases e
  len := Nat.le_refl _
  hn := Nat.le_refl _
  size := by have := hb.size; simp; omega

set_option maxHeartbeats 1600000 in
set_option maxRecDepth 100000 in
theorem walk (F : Interp) (a0 : Option Addr) (n cap : Nat) (fs : List Fi) (w : World) (hF : F.answers w.tape) (hn : fs.length = n) (hR : FRow w a0 fs) : Calls Ybaf.prog 3 #[.slice a0 n cap] w fun e w' => e = .returned (.bool true) ∧ Below w.heap.size w w' := by
  have HF : Hid (F.answers w.tape) := hF
  have HR : Hid (FRow w a0 fs ∧ fs.length = n) := ⟨hR, hn⟩
  clear hF hn hR
  by_cases h256 : n ≤ 256
  · have hnz : ¬ ((256 : Int) < (n : Int)) := by omega
    go_enter Ybaf.func3, Ybaf.ntmps3
    go_wp2_with fail
    go_loopg [3, 37] n (fun gk s t wx => ∃ k : Nat, k + gk = n ∧ t = .int .i64 k ∧ s = .int .i64 (sumL (fs.take k)) ∧ Below w.heap.size w wx)
    case atStart => exact ⟨0, by omega, rfl, by simp [sumL], Below.refl _ _⟩
    case round =>
      obtain ⟨k, hkg, rfl, hs, hbr⟩ := hrel
      obtain ⟨s, hse⟩ : ∃ s, s = sumL (fs.take k) := ⟨_, rfl⟩
      rw [← hse] at hs
      subst hs
      have HS : Hid (s = sumL (fs.take k)) := hse
      have HB : Hid (Below w.heap.size w wr) := hbr
      clear hse hbr
      by_cases hk : k < n
      · obtain ⟨g, of, rfl, hg, hmm⟩ := HR.out.1 (by have := HR.out.2; omega)
        obtain ⟨f, hf⟩ : ∃ f, fs[k]? = some f := ⟨fs[k]'(by have := HR.out.2; omega), List.getElem?_eq_getElem _⟩
        have hat := hmm k f hf
        obtain ⟨le, hle⟩ : ∃ l, l = f.es.length := ⟨_, rfl⟩
        have i0 : wr.cell? ⟨g, of + k * 2, none⟩ = some (.int .u8 f.m) := (cell_below HB.out hg _).trans hat.1
        have i1 : wr.cell? ⟨g, of + k * 2 + 1, none⟩ = some (.slice f.io le f.ic) := by rw [hle]; exact (cell_below HB.out hg _).trans hat.2.1
        have j0 : (0 : Int) ≤ (k : Int) := by omega
        have j1 : (k : Int) < (n : Int) := by omega
        have hall : ∀ f ∈ fs.take k, f.es.length ≤ 140737488355328 := fun f' hf' => by
          obtain ⟨j, hj⟩ := List.getElem?_of_mem (List.mem_of_mem_take hf')
          exact (hmm j f' hj).2.2.2.2.2
        have hsb : s ≤ 256 * 140737488355328 := by
          have h1 := sumL_bound hall
          have h2 : (fs.take k).length ≤ 256 := by rw [List.length_take]; omega
          rw [← HS.out] at h1
          exact Nat.le_trans h1 (Nat.mul_le_mul_right _ h2)
        have hlb : le ≤ 140737488355328 := by rw [hle]; exact hat.2.2.2.2.2
        have HN2 : Hid (sumL (fs.take (k + 1)) = s + le) := (by show _ = _; rw [sumL_succ hf, HS.out, hle])
        have hw : (IntKind.i64.wrap ((s : Int) + (le : Int))) = ((s + le : Nat) : Int) := by simp only [IntKind.wrap, IntKind.bits, IntKind.signed]; simp; omega
        clear hall hat hmm hf hle
        go_upto_region 7 with fail
        obtain ⟨D, hD⟩ : ∃ D, D = wr.heap.size := ⟨_, rfl⟩
        obtain ⟨x1, hx1⟩ : ∃ x1, x1 = wr.alloc (.cells #[.int .u8 f.m, .slice f.io le f.ic] 25) := ⟨_, rfl⟩
        rw [← hx1, ← hD]
        have kD : Blk x1 D #[.int .u8 f.m, .slice f.io le f.ic] 25 := by rw [hx1, hD]; exact Blk.new _ _ _
        have hb1 : Below wr.heap.size wr x1 := by rw [hx1]; exact (Below.refl _ _).alloc (Nat.le_refl _) _
        have HB1 : Hid (Below w.heap.size w x1) := HB.out.trans (hb1.mono HB.out.size)
        have d1 : x1.cell? ⟨D, 1, none⟩ = some (.slice f.io le f.ic) := kD.cell 1
        clear kD hb1 hx1 hD i0 i1
        go_wp2_with fail
        go_roundg (gk - 1)
        case measure => omega
        case rel => exact ⟨k + 1, by omega, by go_num, by rw [HN2.out]; go_num, HB1.out⟩
      · obtain rfl : k = n := by omega
        have et : fs.take k = fs := by rw [← HR.out.2, List.take_length]
        have HSE : Hid (s = sumL fs) := (by have := HS.out; rw [et] at this; exact this)
        clear et
        by_cases h1024 : s ≤ 1024
        · have hnz2 : ¬ ((1024 : Int) < (s : Int)) := by omega
          go_upto_region 13 with fail
          rw [← HR.out.2]
          exact law_l2 (by unfold IsIf3; kernel_rfl) F HF.out rfl HR.out.1 (by have := HR.out.2; omega) (by have := HSE.out; omega) (start_l2 HB.out) (by assumption) (by assumption)
        · have hnz2 : (1024 : Int) < (s : Int) := by omega
          go_wp2_with fail
          go_ret
          exact ⟨rfl, HB.out⟩
  · have hnz : (256 : Int) < (n : Int) := by omega
    go_enter Ybaf.func3, Ybaf.ntmps3
    go_wp2_with fail
    go_ret
    exact ⟨rfl, Below.refl _ _⟩
end Go.Proofs.YbulkauvkFmt
