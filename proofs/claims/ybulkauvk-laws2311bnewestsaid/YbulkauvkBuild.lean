/-
  The walk of zzs2311bbuild, in order.
-/
import Derived.Test.YbulkauvkWalk1
import Derived.Deep.DeepCutAuto
import Derived.BigQuiet
import Derived.Deep.QuietTactic
namespace Go.Proofs.Ybulkauvk
open Go.RowKit Go.Deep

/-- what a walk is told of the substatements that came in -/
def Subs (w : World) (a : Option Addr) (n : Nat) (K : Nat → Int) (S : Nat → ByteArray) : Prop :=
  0 < n → ∃ b off, a = some ⟨b, off, none⟩ ∧ b < w.heap.size ∧ ∀ i, i < n → w.cell? ⟨b, off + i * 2, none⟩ = some (.int .u8 (K i)) ∧ w.cell? ⟨b, off + i * 2 + 1, none⟩ = some (.string (S i)) ∧ 0 ≤ K i ∧ K i ≤ 255

def topCells (v : Value) : Array Value := #[.string ⟨#[109, 111, 100, 117, 108, 101]⟩, .string ⟨#[109]⟩, .bool true, v, .int .i64 0]
theorem topCells_set (v v' : Value) : (topCells v).setIfInBounds 3 v' = topCells v' := rfl

theorem info23 : (Yba.prog.info? 23).map (fun i => (i.zero, i.size, i.bytes)) = some (some (.pointer none), 1, 8) := by kernel_rfl

/-- what holds behind k rounds -/
def BRel (w : World) (T : Nat) (K : Nat → Int) (S : Nat → ByteArray) (k : Nat) (wr : World) : Prop :=
  Below T w wr ∧ ∃ ao cap ps, Blk wr T (topCells (.slice ao k cap)) 32 ∧ wr.ownsRow (T + 1) 23 1 (.slice ao k cap) k ps ∧
    ∀ j, j < k → ∃ D c, T < D ∧ ps[j]? = some (.pointer (some ⟨D, 0, none⟩)) ∧ Blk wr D c 32 ∧ c[0]? = some (.string (kwOf (K j))) ∧ c[1]? = some (.string (S j))

theorem brel_step {w wr x w4 : World} {T k : Nat} {K : Nat → Int} {S : Nat → ByteArray} {ao : Option Addr} {cap : Nat} {ps : List Value} (hb : Below T w wr) (hT : Blk wr T (topCells (.slice ao k cap)) 32)
    (hown : wr.ownsRow (T + 1) 23 1 (.slice ao k cap) k ps) (hps : ∀ j, j < k → ∃ D c, T < D ∧ ps[j]? = some (.pointer (some ⟨D, 0, none⟩)) ∧ Blk wr D c 32 ∧ c[0]? = some (.string (kwOf (K j))) ∧ c[1]? = some (.string (S j)))
    (hx : Below wr.heap.size wr x) {D : Nat} {dc : Array Value} (hTD : T < D) (hD : Blk x D dc 32) (d0 : dc[0]? = some (.string (kwOf (K k)))) (d1 : dc[1]? = some (.string (S k))) {v' : Value}
    (hown' : w4.ownsRow (T + 1) 23 1 v' (k + 1) (ps ++ [.pointer (some ⟨D, 0, none⟩)])) (hgr : x.grownBy w4 (Value.slice ao k cap).ownBlock) :
    (∃ ao' cap', v' = .slice ao' (k + 1) cap') ∧ Blk w4 T (topCells (.slice ao k cap)) 32 ∧ BRel w T K S (k + 1) (w4.setCell ⟨T, 3, none⟩ v') := by
  have hkeep : ∀ {b c}, Blk x b c 32 → Blk w4 b c 32 := by
    intro b c hB
    refine hB.kept hgr (fun e => ?_)
    rcases hown.2 with ⟨e1, _⟩ | ⟨g, cp, cur, e1, _, hg, _⟩
    · rw [e1] at e; cases e
    · rw [e1] at e
      have e2 : b = g := Option.some.inj e
      subst e2
      have h1 : x.heap[b]? = some (.cells cur 23 (0, 0)) := (hx.block b (Array.getElem?_eq_some_iff.1 hg).1).trans hg
      rw [Blk, h1] at hB
      simp at hB
  have hTx : Blk x T (topCells (.slice ao k cap)) 32 := hT.below hx hT.lt
  have hlen : ps.length = k := by have := hown.1; omega
  obtain ⟨ao', cap', rfl⟩ := shape_of hown'
  refine ⟨⟨ao', cap', rfl⟩, hkeep hTx, ?_, ao', cap', _, ?_, ownsRow_setCell_below hown' (show T < T + 1 by omega) _, fun j hj => ?_⟩
  · refine Below.setCell ((hb.trans (hx.mono (Nat.le_of_lt hT.lt))).grown hgr (Nat.le_trans (Nat.le_of_lt hT.lt) hx.size) (fun q hq => ?_)) (Nat.le_refl _) _
    have := (hown.lt q hq).1
    omega
  · have := (hkeep hTx).set 3 (.slice ao' (k + 1) cap')
    rw [topCells_set] at this
    exact this
  · by_cases e : j < k
    · obtain ⟨Dj, c, h0, h1, h2, h3, h4⟩ := hps j e
      refine ⟨Dj, c, h0, by rw [List.getElem?_append_left (by omega)]; exact h1, ?_, h3, h4⟩
      exact (hkeep (h2.below hx h2.lt)).setOther (show Dj ≠ T by omega) _
    · obtain rfl : k = j := by omega
      refine ⟨D, dc, hTD, by rw [List.getElem?_append_right (by omega), hlen]; simp, ?_, d0, d1⟩
      exact (hkeep hD).setOther (show D ≠ T by omega) _

set_option maxHeartbeats 800000 in
set_option linter.unusedSimpArgs false in
theorem build_any (a0 : Option Addr) (cap0 n : Nat) (K : Nat → Int) (S : Nat → ByteArray) (w : World) (hn : n ≤ 1024) (hsub : Subs w a0 n K S) :
    Calls Yba.prog 5 #[.slice a0 n cap0, .bool false] w fun e w' => ∃ ao cap g, e = .returned (.pointer (some ⟨w.heap.size, 0, none⟩)) ∧ w'.cell? ⟨w.heap.size, 3, none⟩ = some (.slice ao n cap) ∧ (0 < n → ao = some ⟨g, 0, none⟩) ∧ Stmts w' g n K S ∧ Below w.heap.size w w' := by
  obtain ⟨T, hT⟩ : ∃ T, T = w.heap.size := ⟨_, rfl⟩
  have HT : Hid (T = w.heap.size) := hT
  have HSub : Hid (Subs w a0 n K S) := hsub
  clear hsub
  go_enter Yba.func5, Yba.ntmps5
  go_wp2_with fail
  rw [← hT]
  obtain ⟨w1, hw1⟩ : ∃ w1, w1 = w.alloc (.cells (topCells (.slice none 0 0)) 32) := ⟨_, rfl⟩
  have e1 := hw1
  unfold topCells at e1
  rw [← e1]
  have hB0 : BRel w T K S 0 w1 := by
    refine ⟨?_, none, 0, [], ?_, World.ownsRow_nil _ _ _ _, fun j hj => by omega⟩
    · rw [hw1, hT]; exact (Below.refl _ _).alloc (Nat.le_refl _) _
    · rw [hw1, hT]; exact Blk.new _ _ _
  clear e1 hw1 hT
  go_loopg [7] n (fun g t wx => ∃ k : Nat, k + g = n ∧ t = .int .i64 k ∧ BRel w T K S k wx)
  case atStart => exact ⟨0, by omega, rfl, hB0⟩
  case round =>
    clear hB0
    obtain ⟨k, hkg, rfl, hb, ao, cap, ps, hTb, hown, hps⟩ := hrel
    by_cases hlt : k < n
    · obtain ⟨b, off, rfl, hbs, hc⟩ := HSub.out (by omega)
      obtain ⟨q1, q2, q3, q4⟩ := hc k hlt
      have hbT : b < T := by rw [HT.out]; exact hbs
      have r1 := (hb.cell (p := ⟨b, off + k * 2, none⟩) hbT).trans q1
      have r2 := (hb.cell (p := ⟨b, off + k * 2 + 1, none⟩) hbT).trans q2
      have c3 : ∀ q o, ((wr.alloc o).drewN q).cell? ⟨T, 3, none⟩ = some (.slice ao k cap) := fun q o => ((hTb.alloc o).cell 3).trans rfl
      clear hc q1 q2
      go_upto_region 10 with fail
      obtain ⟨x1, hx1⟩ : ∃ x1, x1 = wr.alloc (.cells #[.int .u8 (K k), .string (S k)] 28) := ⟨_, rfl⟩
      obtain ⟨L, hL⟩ : ∃ L, L = wr.heap.size := ⟨_, rfl⟩
      rw [← hx1, ← hL]
      have s0 : x1.cell? ⟨L, 0, none⟩ = some (.int .u8 (K k)) := by rw [hx1, hL]; simp
      have s1 : x1.cell? ⟨L, 1, none⟩ = some (.string (S k)) := by rw [hx1, hL]; simp
      have t3 : x1.cell? ⟨T, 3, none⟩ = some (.slice ao k cap) := by rw [hx1]; exact ((hTb.alloc _).cell 3).trans rfl
      have hbx : Below L wr x1 := by rw [hx1, hL]; exact (Below.refl _ _).alloc (Nat.le_refl _) _
      have hox : x1.ownsRow (T + 1) 23 1 (.slice ao k cap) k ps := by rw [hx1]; exact hown.alloc _
      have hzx : x1.heap.size = L + 1 := by rw [hx1, hL]; simp
      have HL : Hid (L = wr.heap.size) := hL
      have HZX : Hid (x1.heap.size = L + 1) := hzx
      clear hx1 hL c3 r1 r2 hzx
      obtain ⟨i0, hi0, hz0, hz1, hz2⟩ := info_parts info23
      have hTL : T < L := by rw [HL.out]; exact hTb.lt
      have hTx : T < x1.heap.size := by rw [HZX.out]; omega
      have hLx : L < x1.heap.size := by rw [HZX.out]; omega
      go_region_law (first | (refine step_call rfl 7 _ _ rfl #[.int .u8 (K k)] (by simp [Act.eval, Act.put]) (by kernel_rfl) (.string (kwOf (K k))) (keyword_any (K k) q3 q4 _) ?_) | (refine step_append_own rfl (.tmp 33) (.tmp 43) 30 rfl (T + 1) 23 i0 (.pointer none) 1 8 Yba.underlying30 hi0 hz0 hz1 hz2 rfl (by decide) (.slice ao k cap) k ps (by simp [Act.eval, Act.put]) (by exact World.ownsRow.alloc (World.ownsRow.alloc hox _) _) ⟨x1.heap.size + 1, 0, none⟩ 1 1 [.pointer (some ⟨x1.heap.size, 0, none⟩)] (by simp [Act.eval, Act.put]) rfl (by intro j u hj; match j, hj with | 0, hj => simp at hj; subst hj; simp [Addr.add]) (by intro u hu; simp at hu; subst hu; rfl) (by unfold maxLen; omega) (by omega) (by have := HZX.out; simp; omega) ?_; intro v' w4 hown4 hgr4; obtain ⟨⟨ao', cap', hv'⟩, hT4, hR⟩ := brel_step (D := x1.heap.size) (dc := #[.string (kwOf (K k)), .string (S k), .bool true, .slice none 0 0, .int .i64 (IntKind.i64.wrap ((k : Int) + 2))]) hb hTb hown hps (by rw [← HL.out]; exact (((hbx.alloc (by have := HZX.out; omega) _).alloc (by have := HZX.out; simp; omega) _).drew)) (by have := HZX.out; omega) (by exact (Blk.new x1 _ 32).alloc _) rfl rfl hown4 hgr4; rw [hv'] at hR ⊢; have u1 : w4.cell? ⟨T, 3, none⟩ = some (.slice ao k cap) := (hT4.cell 3).trans rfl; have u2 := hT4.frozen 3))
      all_goals
        go_wp2_with fail
        go_roundg (gk - 1)
        case measure => omega
        case rel => exact ⟨k + 1, by omega, by go_num, hR⟩
    · obtain rfl : n = k := by omega
      go_wp2_with fail
      go_ret
      have c3 : wr.cell? ⟨T, 3, none⟩ = some (.slice ao n cap) := (hTb.cell 3).trans rfl
      obtain ⟨g, hg⟩ : ∃ g, 0 < n → ao = some ⟨g, 0, none⟩ := by
        rcases hown.2 with ⟨_, e0⟩ | ⟨g, cp, cur, e, _⟩
        · exact ⟨0, fun h => by omega⟩
        · exact ⟨g, fun _ => (Value.slice.inj e).1⟩
      refine ⟨ao, cap, g, by rw [← HT.out]; rfl, by rw [← HT.out]; exact c3, hg, fun j hj => ?_, by rw [← HT.out]; exact hb⟩
      obtain ⟨D, c, -, h1, h2, h3, h4⟩ := hps j hj
      refine ⟨D, ?_, (h2.cell 0).trans h3, (h2.cell 1).trans h4⟩
      obtain rfl := hg (by omega)
      rw [hown.cellAt j (by omega)]; exact h1
end Go.Proofs.Ybulkauvk
