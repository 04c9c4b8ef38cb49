/-
  The walks of zzs2306bpeer, ringNode.wake, ringNode.keepAliveBy.
-/
import Derived.Test.YbulkaussTime
import Derived.Deep.DeepCutAuto
import Derived.Deep.RegionWith
import Derived.Laws.Rows
namespace Go.Proofs.Ybulkauss
open Go.RowKit Go.Deep

/-- the peer of a small number -/
def Pr (x : Int) : Value := .agg #[.int .u64 0, .int .u64 x, .int .u64 0, .int .u64 0, .pointer none, .int .u16 0]

set_option maxHeartbeats 400000 in
theorem peer_any (k : Int) (w : World) (h0 : 0 ≤ k) (h1 : k ≤ 255) :
    Calls Yba.prog 6 #[.int .u8 k] w fun e w' => e = .returned (Pr (k % 3)) ∧ Below w.heap.size w w' := by
  go_enter Yba.func6, Yba.ntmps6
  go_wp2
  exact bodyPost_ret (v := Pr (k % 3)) (by simp [results, Yba.results6, go_sem, Pr]) rfl ⟨rfl, (Below.refl _ _).alloc (Nat.le_refl _) _⟩

def minT (t u : Int) : Int := if t < u then t else u
def dueT (t nx du : Int) : Int := if t < nx ∧ t < du then t else du
theorem minT_lt {t u : Int} (h : t < u) : minT t u = t := if_pos h
theorem minT_ge {t u : Int} (h : ¬ t < u) : minT t u = u := if_neg h
theorem dueT_lt {t nx du : Int} (h : t < nx) : dueT t nx du = minT t du := by
  unfold dueT minT
  by_cases h2 : t < du
  · rw [if_pos h2, if_pos ⟨h, h2⟩]
  · rw [if_neg h2, if_neg (fun h => h2 h.2)]
theorem dueT_ge {t nx du : Int} (h : ¬ t < nx) : dueT t nx du = du := if_neg (fun h2 => h h2.1)

/-- a time in three cells from off on -/
def At (nc : Array Value) (off : Nat) (T : Int) : Prop := nc[off]? = some (.int .u64 (T % 1000000000)) ∧ nc[off + 1]? = some (.int .i64 (T / 1000000000)) ∧ nc[off + 2]? = some (.pointer none)

/-- behind a call that only makes memory, over draws -/
theorem below_from {B : Nat} {w v x w' : World} (h : Below B w v) (hb : Below x.heap.size x w') (hx : x.heap = v.heap ∧ x.os = v.os ∧ x.tape = v.tape ∧ x.output = v.output) (hB : B ≤ v.heap.size) : Below B w w' :=
  (h.trans ⟨hx.2.1, hx.2.2.1, hx.2.2.2, Nat.le_of_eq (by rw [hx.1]), fun _ _ => by rw [hx.1]⟩).trans (hb.mono (by rw [hx.1]; exact hB))

theorem At.set3 {nc : Array Value} {off : Nat} (T : Int) (h : off + 2 < nc.size) :
    At (((nc.setIfInBounds off (.int .u64 (T % 1000000000))).setIfInBounds (off + 1) (.int .i64 (T / 1000000000))).setIfInBounds (off + 2) (.pointer none)) off T := by
  refine ⟨?_, ?_, ?_⟩
  · rw [Array.getElem?_setIfInBounds, if_neg (by omega), Array.getElem?_setIfInBounds, if_neg (by omega), Array.getElem?_setIfInBounds, if_pos rfl, if_pos (by omega)]
  · rw [Array.getElem?_setIfInBounds, if_neg (by omega), Array.getElem?_setIfInBounds, if_pos rfl, if_pos (by simp; omega)]
  · rw [Array.getElem?_setIfInBounds, if_pos rfl, if_pos (by simp; omega)]

set_option maxHeartbeats 400000 in
theorem wake_any (N : Nat) (nc : Array Value) (t du : Int) (w : World) (hN : Blk w N nc 115) (hd : At nc 0 du) :
    Calls Yba.prog 21 #[.pointer (some ⟨N, 0, none⟩), Tm t] w fun e w' => e = .returned (.tuple #[]) ∧
      ∃ nc', Blk w' N nc' 115 ∧ nc'.size = nc.size ∧ At nc' 0 (minT t du) ∧ (∀ k, 3 ≤ k → nc'[k]? = nc[k]?) ∧ w.grownBy w' (some N) := by
  have c0 : w.cell? ⟨N, 0, none⟩ = some (.int .u64 (du % 1000000000)) := (hN.cell 0).trans hd.1
  have c1 : w.cell? ⟨N, 1, none⟩ = some (.int .i64 (du / 1000000000)) := (hN.cell 1).trans hd.2.1
  have c2 : w.cell? ⟨N, 2, none⟩ = some (.pointer none) := (hN.cell 2).trans hd.2.2
  have hlt := hN.lt
  have hsz : 2 < nc.size := (Array.getElem?_eq_some_iff.1 hd.2.2).1
  unfold Tm
  go_enter Yba.func21, Yba.ntmps21
  go_upto_region 1 with fail
  obtain ⟨x1, hx1⟩ : ∃ x1, x1 = w.alloc (.cells #[.int .u64 (t % 1000000000), .int .i64 (t / 1000000000), .pointer none] 43) := ⟨_, rfl⟩
  obtain ⟨L, hL⟩ : ∃ L, L = w.heap.size := ⟨_, rfl⟩
  rw [← hx1, ← hL]
  have kN : Blk x1 N nc 115 := by rw [hx1]; exact hN.alloc _
  have kT : Blk x1 L #[.int .u64 (t % 1000000000), .int .i64 (t / 1000000000), .pointer none] 43 := by rw [hx1, hL]; exact Blk.new _ _ _
  have kB : Below L w x1 := by rw [hx1, hL]; exact (Below.refl _ _).alloc (Nat.le_refl _) _
  have kz : x1.heap.size = L + 1 := by rw [hx1, hL]; simp
  have HL : Hid (L = w.heap.size) := hL
  have HZ : Hid (x1.heap.size = L + 1) := kz
  have d0 : x1.cell? ⟨N, 0, none⟩ = some (.int .u64 (du % 1000000000)) := (kN.cell 0).trans hd.1
  have d1 : x1.cell? ⟨N, 1, none⟩ = some (.int .i64 (du / 1000000000)) := (kN.cell 1).trans hd.2.1
  have d2 : x1.cell? ⟨N, 2, none⟩ = some (.pointer none) := (kN.cell 2).trans hd.2.2
  have t0 : x1.cell? ⟨L, 0, none⟩ = some (.int .u64 (t % 1000000000)) := kT.cell 0
  have t1 : x1.cell? ⟨L, 1, none⟩ = some (.int .i64 (t / 1000000000)) := kT.cell 1
  have t2 : x1.cell? ⟨L, 2, none⟩ = some (.pointer none) := kT.cell 2
  clear hx1 hL kz c0 c1 c2
  go_cut [9] (fun v w' => v = .bool (decide (t < du)) ∧ Blk w' N nc 115 ∧ Blk w' L #[.int .u64 (t % 1000000000), .int .i64 (t / 1000000000), .pointer none] 43 ∧ Below L w w')
  case first =>
    go_region_with (go_at_call 10; go_must (refine (before_any t du _).mono ?_; rintro e w' ⟨rfl, hb⟩))
    all_goals
      go_wp2_with fail
      go_meet
      have hlx : L < x1.heap.size := by rw [HZ.out]; omega
      have hnx : N < x1.heap.size := kN.lt
      exact ⟨rfl, kN.of_block (hb.block N hnx), kT.of_block (hb.block L hlx), below_from kB hb ⟨rfl, rfl, rfl, rfl⟩ (by omega)⟩
  case rest =>
    obtain ⟨rfl, jN, jT, jB⟩ := hcut
    have u0 : wc.cell? ⟨N, 0, none⟩ = some (.int .u64 (du % 1000000000)) := (jN.cell 0).trans hd.1
    have u1 : wc.cell? ⟨N, 1, none⟩ = some (.int .i64 (du / 1000000000)) := (jN.cell 1).trans hd.2.1
    have u2 : wc.cell? ⟨N, 2, none⟩ = some (.pointer none) := (jN.cell 2).trans hd.2.2
    have v0 : wc.cell? ⟨L, 0, none⟩ = some (.int .u64 (t % 1000000000)) := jT.cell 0
    have v1 : wc.cell? ⟨L, 1, none⟩ = some (.int .i64 (t / 1000000000)) := jT.cell 1
    have v2 : wc.cell? ⟨L, 2, none⟩ = some (.pointer none) := jT.cell 2
    have f0 := jN.frozen 0
    have f1 := jN.frozen 1
    have f2 := jN.frozen 2
    have gr : ∀ k, k < w.heap.size → wc.heap[k]? = w.heap[k]? := fun k hk => jB.block k (by rw [HL.out]; exact hk)
    clear d0 d1 d2 t0 t1 t2 kN kT kB
    by_cases hlt2 : t < du
    · have HLT : Hid (t < du) := hlt2
      go_wp2_with fail
      go_end0
      refine ⟨rfl, _, ((jN.set 0 _).set 1 _).set 2 _, by simp, ?_, ?_, ?_⟩
      · rw [minT_lt HLT.out]; exact At.set3 (off := 0) t (by omega)
      · intro k hk
        rw [Array.getElem?_setIfInBounds, if_neg (by omega), Array.getElem?_setIfInBounds, if_neg (by omega), Array.getElem?_setIfInBounds, if_neg (by omega)]
      · refine ⟨jB.os, jB.tape, jB.output, ?_, fun k hk hne => ?_⟩
        · simp only [size_setCell']; exact jB.size
        · have hkN : k ≠ N := fun e => hne (by rw [e])
          rw [Below.heap_setCell _ _ _ _ hkN, Below.heap_setCell _ _ _ _ hkN, Below.heap_setCell _ _ _ _ hkN]; exact gr k hk
    · have HLT : Hid (¬ t < du) := hlt2
      go_wp2_with fail
      go_end0
      exact ⟨rfl, nc, jN, rfl, by rw [minT_ge (by have := HLT.out; omega)]; exact hd, fun _ _ => rfl, ⟨jB.os, jB.tape, jB.output, jB.size, fun k hk _ => gr k hk⟩⟩

set_option maxHeartbeats 800000 in
theorem keepAlive_any (N : Nat) (nc : Array Value) (t nx du : Int) (w : World) (hN : Blk w N nc 115) (hsz : nc.size = 267) (hd : At nc 0 du) (hx : At nc 235 nx) :
    Calls Yba.prog 19 #[.pointer (some ⟨N, 0, none⟩), Tm t] w fun e w' => e = .returned (.tuple #[]) ∧
      ∃ nc', Blk w' N nc' 115 ∧ nc'.size = 267 ∧ At nc' 235 (minT t nx) ∧ At nc' 0 (dueT t nx du) ∧ (∀ k, 3 ≤ k → k < 235 → nc'[k]? = nc[k]?) ∧ w.grownBy w' (some N) := by
  have hlt := hN.lt
  unfold Tm
  go_enter Yba.func19, Yba.ntmps19
  go_upto_region 1 with fail
  obtain ⟨x1, hx1⟩ : ∃ x1, x1 = w.alloc (.cells #[.int .u64 (t % 1000000000), .int .i64 (t / 1000000000), .pointer none] 43) := ⟨_, rfl⟩
  obtain ⟨L, hL⟩ : ∃ L, L = w.heap.size := ⟨_, rfl⟩
  rw [← hx1, ← hL]
  have kN : Blk x1 N nc 115 := by rw [hx1]; exact hN.alloc _
  have kT : Blk x1 L #[.int .u64 (t % 1000000000), .int .i64 (t / 1000000000), .pointer none] 43 := by rw [hx1, hL]; exact Blk.new _ _ _
  have kB : Below L w x1 := by rw [hx1, hL]; exact (Below.refl _ _).alloc (Nat.le_refl _) _
  have kz : x1.heap.size = L + 1 := by rw [hx1, hL]; simp
  have HL : Hid (L = w.heap.size) := hL
  have HZ : Hid (x1.heap.size = L + 1) := kz
  have hNL : N ≠ L := by rw [hL]; omega
  have d0 : x1.cell? ⟨N, 235, none⟩ = some (.int .u64 (nx % 1000000000)) := (kN.cell 235).trans hx.1
  have d1 : x1.cell? ⟨N, 236, none⟩ = some (.int .i64 (nx / 1000000000)) := (kN.cell 236).trans hx.2.1
  have d2 : x1.cell? ⟨N, 237, none⟩ = some (.pointer none) := (kN.cell 237).trans hx.2.2
  have t0 : x1.cell? ⟨L, 0, none⟩ = some (.int .u64 (t % 1000000000)) := kT.cell 0
  have t1 : x1.cell? ⟨L, 1, none⟩ = some (.int .i64 (t / 1000000000)) := kT.cell 1
  have t2 : x1.cell? ⟨L, 2, none⟩ = some (.pointer none) := kT.cell 2
  clear hx1 hL kz
  go_cut [9] (fun v w' => v = .bool (decide (t < nx)) ∧ Blk w' N nc 115 ∧ Blk w' L #[.int .u64 (t % 1000000000), .int .i64 (t / 1000000000), .pointer none] 43 ∧ Below L w w')
  case first =>
    go_region_with (go_at_call 10; go_must (refine (before_any t nx _).mono ?_; rintro e w' ⟨rfl, hb⟩))
    all_goals
      go_wp2_with fail
      go_meet
      have hlx : L < x1.heap.size := by rw [HZ.out]; omega
      have hnx : N < x1.heap.size := kN.lt
      exact ⟨rfl, kN.of_block (hb.block N hnx), kT.of_block (hb.block L hlx), below_from kB hb ⟨rfl, rfl, rfl, rfl⟩ (by omega)⟩
  case rest =>
    obtain ⟨rfl, jN, jT, jB⟩ := hcut
    have u0 : wc.cell? ⟨N, 235, none⟩ = some (.int .u64 (nx % 1000000000)) := (jN.cell 235).trans hx.1
    have u1 : wc.cell? ⟨N, 236, none⟩ = some (.int .i64 (nx / 1000000000)) := (jN.cell 236).trans hx.2.1
    have u2 : wc.cell? ⟨N, 237, none⟩ = some (.pointer none) := (jN.cell 237).trans hx.2.2
    have v0 : wc.cell? ⟨L, 0, none⟩ = some (.int .u64 (t % 1000000000)) := jT.cell 0
    have v1 : wc.cell? ⟨L, 1, none⟩ = some (.int .i64 (t / 1000000000)) := jT.cell 1
    have v2 : wc.cell? ⟨L, 2, none⟩ = some (.pointer none) := jT.cell 2
    have f0 := jN.frozen 235
    have f1 := jN.frozen 236
    have f2 := jN.frozen 237
    have gr : ∀ k, k < w.heap.size → wc.heap[k]? = w.heap[k]? := fun k hk => jB.block k (by rw [HL.out]; exact hk)
    have HGR : Hid (∀ k, k < w.heap.size → wc.heap[k]? = w.heap[k]?) := gr
    clear d0 d1 d2 t0 t1 t2 kN kT kB gr
    by_cases hlt2 : t < nx
    · have HLT : Hid (t < nx) := hlt2
      have jN3 := ((jN.set 235 (.int .u64 (t % 1000000000))).set 236 (.int .i64 (t / 1000000000))).set 237 (.pointer none)
      have hd3 : At (((nc.setIfInBounds 235 (.int .u64 (t % 1000000000))).setIfInBounds 236 (.int .i64 (t / 1000000000))).setIfInBounds 237 (.pointer none)) 0 du := by
        have e : ∀ k, k < 235 → (((nc.setIfInBounds 235 (.int .u64 (t % 1000000000))).setIfInBounds 236 (.int .i64 (t / 1000000000))).setIfInBounds 237 (.pointer none))[k]? = nc[k]? := fun k hk => by
          rw [Array.getElem?_setIfInBounds, if_neg (by omega), Array.getElem?_setIfInBounds, if_neg (by omega), Array.getElem?_setIfInBounds, if_neg (by omega)]
        exact ⟨(e 0 (by omega)).trans hd.1, (e 1 (by omega)).trans hd.2.1, (e 2 (by omega)).trans hd.2.2⟩
      go_wp2_with fail
      refine (wake_any N _ t du _ jN3 hd3).mono ?_
      rintro e w4 ⟨rfl, nc4, k1, k2, k3, k4, k5⟩
      go_wp2_with fail
      go_end0
      refine ⟨rfl, nc4, k1, by rw [k2]; simpa using hsz, ?_, ?_, ?_, ?_⟩
      · have h235 := At.set3 (nc := nc) (off := 235) t (by omega)
        have : At nc4 235 t := ⟨(k4 235 (by omega)).trans h235.1, (k4 236 (by omega)).trans h235.2.1, (k4 237 (by omega)).trans h235.2.2⟩
        rw [minT_lt HLT.out]; exact this
      · rw [dueT_lt HLT.out]; exact k3
      · intro k h3 h235
        rw [k4 k h3, Array.getElem?_setIfInBounds, if_neg (by omega), Array.getElem?_setIfInBounds, if_neg (by omega), Array.getElem?_setIfInBounds, if_neg (by omega)]
      · refine ⟨k5.os.trans jB.os, k5.tape.trans jB.tape, k5.output.trans jB.output, Nat.le_trans jB.size (by have := k5.size; simpa only [size_setCell'] using this), fun k hk hne => ?_⟩
        have hkN : k ≠ N := fun e => hne (by rw [e])
        rw [k5.block k (by simp only [size_setCell']; exact Nat.lt_of_lt_of_le hk jB.size) hne, Below.heap_setCell _ _ _ _ hkN, Below.heap_setCell _ _ _ _ hkN, Below.heap_setCell _ _ _ _ hkN]; exact HGR.out k hk
    · have HLT : Hid (¬ t < nx) := hlt2
      go_wp2_with fail
      go_end0
      exact ⟨rfl, nc, jN, hsz, by rw [minT_ge (by have := HLT.out; omega)]; exact hx, by rw [dueT_ge (by have := HLT.out; omega)]; exact hd, fun _ _ _ => rfl, ⟨jB.os, jB.tape, jB.output, jB.size, fun k hk _ => HGR.out k hk⟩⟩
end Go.Proofs.Ybulkauss
