/-
  The walk of the law.
-/
import Derived.Test.YbulkaussLf
namespace Go.Proofs.Ybulkauss
open Go.RowKit Go.Deep

set_option maxHeartbeats 1600000 in
set_option maxRecDepth 100000 in
theorem law_any (H : Nat) (fl ac ba nE xk a0 a1 a2 a3 a4 a5 b0 b1 b2 b3 b4 b5 nw nx du : Int) (w : World) (ha0 : 0 ≤ a0 ∧ a0 ≤ 255) (ha1 : 0 ≤ a1 ∧ a1 ≤ 255) (ha2 : 0 ≤ a2 ∧ a2 ≤ 255) (ha3 : 0 ≤ a3 ∧ a3 ≤ 255) (ha4 : 0 ≤ a4 ∧ a4 ≤ 255)
    (hb0 : 0 ≤ b0 ∧ b0 ≤ 255) (hb1 : 0 ≤ b1 ∧ b1 ≤ 255) (hb2 : 0 ≤ b2 ∧ b2 ≤ 255) (hb3 : 0 ≤ b3 ∧ b3 ≤ 255) (hb4 : 0 ≤ b4 ∧ b4 ≤ 255) (hac : 0 ≤ ac ∧ ac ≤ 255) (hnE : 0 ≤ nE ∧ nE ≤ 255) (_hfl : 0 ≤ fl ∧ fl ≤ 255)
    (hH : H = w.heap.size) (hxk : 0 ≤ xk ∧ xk ≤ 255) (hnw : -9223372036854775808 ≤ nw ∧ nw ≤ 9223372036854775807) (hnx : -9223372036854775808 ≤ nx ∧ nx ≤ 9223372036854775807) (hdu : -9223372036854775808 ≤ du ∧ du ≤ 9223372036854775807) :
    Calls Yba.prog 3 #[.int .u8 fl, .int .u8 ac, .int .u8 ba, .int .u8 nE, .int .u8 xk, .agg #[.int .u8 a0, .int .u8 a1, .int .u8 a2, .int .u8 a3, .int .u8 a4, .int .u8 a5], .agg #[.int .u8 b0, .int .u8 b1, .int .u8 b2, .int .u8 b3, .int .u8 b4, .int .u8 b5], .int .i64 nw, .int .i64 nx, .int .i64 du] w
      fun e w' => e = .returned (.bool true) ∧ Below H w w' := by
  obtain ⟨nz, hz, hzs, z0, z1, z2, z3, z4⟩ := built115
  go_enter Yba.func3, Yba.ntmps3
  go_upto_region 1 with fail
  obtain ⟨v0, hv0⟩ : ∃ v0, v0 = (w.alloc (.cells #[.int .u8 a0, .int .u8 a1, .int .u8 a2, .int .u8 a3, .int .u8 a4, .int .u8 a5] 23)).alloc (.cells #[.int .u8 b0, .int .u8 b1, .int .u8 b2, .int .u8 b3, .int .u8 b4, .int .u8 b5] 23) := ⟨_, rfl⟩
  rw [← hv0, ← hH]
  have kA : Blk v0 H #[.int .u8 a0, .int .u8 a1, .int .u8 a2, .int .u8 a3, .int .u8 a4, .int .u8 a5] 23 := by rw [hv0, hH]; exact (Blk.new _ _ _).alloc _
  have kB : Blk v0 (H + 1) #[.int .u8 b0, .int .u8 b1, .int .u8 b2, .int .u8 b3, .int .u8 b4, .int .u8 b5] 23 := by
    rw [hv0]; have := Blk.new (w.alloc (.cells #[.int .u8 a0, .int .u8 a1, .int .u8 a2, .int .u8 a3, .int .u8 a4, .int .u8 a5] 23)) #[.int .u8 b0, .int .u8 b1, .int .u8 b2, .int .u8 b3, .int .u8 b4, .int .u8 b5] 23; simpa [hH] using this
  have hb0 : Below H w v0 := by rw [hv0, hH]; exact ((Below.refl _ _).alloc (Nat.le_refl _) _).alloc (by simp) _
  have hs0 : v0.heap.size = H + 2 := by rw [hv0, hH]; simp
  have HS0 : Hid (v0.heap.size = H + 2) := hs0
  have HH : Hid (H = w.heap.size) := hH
  clear hv0 hs0 hH
  go_wp2_with fail
  refine (peer_any xk _ hxk.1 hxk.2).mono ?_
  rintro e v1 ⟨rfl, hb1⟩
  have kA1 := kA.below hb1 kA.lt
  have kB1 := kB.below hb1 kB.lt
  have hb1' : Below H w v1 := hb0.trans (hb1.mono (by rw [HS0.out]; omega))
  have hs1 : H + 2 ≤ v1.heap.size := by rw [← HS0.out]; exact hb1.size
  have HS1 : Hid (H + 2 ≤ v1.heap.size) := hs1
  clear hb1 hs1 kA kB hb0 HS0 v0
  unfold Pr
  go_upto_region 4 with (first | (with_reducible refine wpList_build_at 115 _ _ _ ?hv1 hz ?_; rotate_left; case hv1 => simp))
  obtain ⟨X, hX⟩ : ∃ X, X = v1.heap.size := ⟨_, rfl⟩
  obtain ⟨v2, hv2⟩ : ∃ v2, v2 = ((v1.alloc (.cells #[.int .u64 0, .int .u64 (xk % 3), .int .u64 0, .int .u64 0, .pointer none, .int .u16 0] 38)).alloc (.cells nz 115)).alloc (.cells #[.int .u64 0, .int .i64 0, .pointer none] 43) := ⟨_, rfl⟩
  rw [← hv2, ← hX]
  have hs1 : H + 2 ≤ X := by rw [hX]; exact HS1.out
  have kA2 : Blk v2 H #[.int .u8 a0, .int .u8 a1, .int .u8 a2, .int .u8 a3, .int .u8 a4, .int .u8 a5] 23 := by rw [hv2]; exact ((kA1.alloc _).alloc _).alloc _
  have kB2 : Blk v2 (H + 1) #[.int .u8 b0, .int .u8 b1, .int .u8 b2, .int .u8 b3, .int .u8 b4, .int .u8 b5] 23 := by rw [hv2]; exact ((kB1.alloc _).alloc _).alloc _
  have kX2 : Blk v2 X #[.int .u64 0, .int .u64 (xk % 3), .int .u64 0, .int .u64 0, .pointer none, .int .u16 0] 38 := by rw [hv2, hX]; exact ((Blk.new _ _ _).alloc _).alloc _
  have kN2 : Blk v2 (X + 1) nz 115 := by
    rw [hv2]; have := (Blk.new (v1.alloc (.cells #[.int .u64 0, .int .u64 (xk % 3), .int .u64 0, .int .u64 0, .pointer none, .int .u16 0] 38)) nz 115).alloc (.cells #[.int .u64 0, .int .i64 0, .pointer none] 43); simpa [hX] using this
  have kT2 : Blk v2 (X + 1 + 1) #[.int .u64 0, .int .i64 0, .pointer none] 43 := by
    rw [hv2]; have := Blk.new ((v1.alloc (.cells #[.int .u64 0, .int .u64 (xk % 3), .int .u64 0, .int .u64 0, .pointer none, .int .u16 0] 38)).alloc (.cells nz 115)) #[.int .u64 0, .int .i64 0, .pointer none] 43; simpa [hX] using this
  have hb2 : Below H w v2 := by
    have : H ≤ v1.heap.size := by rw [← hX]; omega
    rw [hv2]; exact ((hb1'.alloc this _).alloc (by simp; omega) _).alloc (by simp; omega) _
  have hN2 : NodeIs v2 (X + 1) zl zl 0 0 v2 := ⟨World.grownBy.refl _ _, nz, kN2, sz_zero hzs z4, lane_zero z0, lane_zero z1, time_zero z3, time_zero z2⟩
  clear hv2 hX kA1 kB1 hb1' HS1 v1 kN2 hz hzs z0 z1 z2 z3 z4
  obtain ⟨N, hN⟩ : ∃ N, N = X + 1 := ⟨_, rfl⟩
  rw [← hN] at hN2 kT2 ⊢
  have qX : X ≠ N := by omega
  have qA : H ≠ N := by omega
  have qB : H + 1 ≠ N := by omega
  have HN : Hid (N = X + 1) := hN
  have HX : Hid (H + 2 ≤ X) := hs1
  clear hN hs1
  -- region 4
  have t0 : v2.cell? ⟨N + 1, 0, none⟩ = some (.int .u64 0) := kT2.cell 0
  have t1 : v2.cell? ⟨N + 1, 1, none⟩ = some (.int .i64 0) := kT2.cell 1
  have t2 : v2.cell? ⟨N + 1, 2, none⟩ = some (.pointer none) := kT2.cell 2
  go_wp2_with fail
  clear t0 t1 t2
  refine (add_zero nx _ hnx.1 hnx.2).mono ?_
  rintro e v3 ⟨rfl, hb3⟩
  have hN3 := hN2.below hb3
  obtain ⟨c0, c1, c2, -, -, -, cf⟩ := hN3.cells
  have kT3 := hN3.kept kT2 (by omega)
  have t0 : v3.cell? ⟨N + 1, 0, none⟩ = some (.int .u64 0) := kT3.cell 0
  have t1 : v3.cell? ⟨N + 1, 1, none⟩ = some (.int .i64 0) := kT3.cell 1
  have t2 : v3.cell? ⟨N + 1, 2, none⟩ = some (.pointer none) := kT3.cell 2
  go_wp2_with fail
  clear t0 t1 t2
  have hN4 := hN3.next nx
  obtain ⟨v4, hv4⟩ : ∃ v4, v4 = ((v3.setCell ⟨N, 235, none⟩ (.int .u64 (nx % 1000000000))).setCell ⟨N, 236, none⟩ (.int .i64 (nx / 1000000000))).setCell ⟨N, 237, none⟩ (.pointer none) := ⟨_, rfl⟩
  rw [← hv4] at hN4 ⊢
  clear hv4 hN3 c0 c1 c2 cf hb3 kT3 v3
  refine (add_zero du _ hdu.1 hdu.2).mono ?_
  rintro e v5 ⟨rfl, hb5⟩
  have hN5 := hN4.below hb5
  obtain ⟨-, -, -, c0, c1, c2, cf⟩ := hN5.cells
  have kT5 := hN5.kept kT2 (by omega)
  have t0 : v5.cell? ⟨N + 1, 0, none⟩ = some (.int .u64 0) := kT5.cell 0
  have t1 : v5.cell? ⟨N + 1, 1, none⟩ = some (.int .i64 0) := kT5.cell 1
  have t2 : v5.cell? ⟨N + 1, 2, none⟩ = some (.pointer none) := kT5.cell 2
  go_wp2_with fail
  clear t0 t1 t2
  have hN6 := hN5.due du
  obtain ⟨v6, hv6⟩ : ∃ v6, v6 = ((v5.setCell ⟨N, 0, none⟩ (.int .u64 (du % 1000000000))).setCell ⟨N, 1, none⟩ (.int .i64 (du / 1000000000))).setCell ⟨N, 2, none⟩ (.pointer none) := ⟨_, rfl⟩
  rw [← hv6] at hN6 ⊢
  clear hv6 hN5 c0 c1 c2 cf hb5 kT5 v5
  refine (add_zero nw _ hnw.1 hnw.2).mono ?_
  rintro e v7 ⟨rfl, hb7⟩
  have hN7 := hN6.below hb7
  clear hb7 hN6 hN4 v4 v6
  go_upto_region 7 with fail
  obtain ⟨W, hW⟩ : ∃ W, W = v7.heap.size := ⟨_, rfl⟩
  have hW2 : N < W := by rw [hW]; exact hN7.lt
  rw [← hW]
  obtain ⟨v8, hv8⟩ : ∃ v8, v8 = v7.alloc (.cells #[.int .u64 (nw % 1000000000), .int .i64 (nw / 1000000000), .pointer none] 43) := ⟨_, rfl⟩
  rw [← hv8]
  have hN8a : NodeIs v2 N zl zl nx du v8 := by rw [hv8]; exact hN7.alloc _
  have kW8 : Blk v8 W #[.int .u64 (nw % 1000000000), .int .i64 (nw / 1000000000), .pointer none] 43 := by rw [hv8, hW]; exact Blk.new _ _ _
  have kA8 := hN8a.kept kA2 qA
  have kB8 := hN8a.kept kB2 qB
  have kX8 := hN8a.kept kX2 qX
  have hb8 : Below H w v8 := below_grown hb2 hN8a.1 (by have := HN.out; have := HX.out; omega) (by have := kB2.lt; omega)
  have hN8 : NodeIs v8 N zl zl nx du v8 := ⟨World.grownBy.refl _ _, hN8a.2⟩
  have HW : Hid (N < W) := hW2
  have qW : W ≠ N := by omega
  clear hv8 hW hN7 hN8a v7 hW2 hb2 kA2 kB2 kX2 kT2 hN2 v2
  go_wp2_with fail
  go_loopg [66] 2 (fun g t wx => ∃ (k : Nat) (l0 l1 : Lane), k + g = 2 ∧ t = .int .i64 k ∧ NodeIs v8 N l0 l1 nx du wx ∧ (k ≤ 0 → l0 = zl) ∧ (k ≤ 1 → l1 = zl) ∧ (0 < k → Fits l0 a0 a1 a2 a3 a4 a5) ∧ (1 < k → Fits l1 b0 b1 b2 b3 b4 b5))
  case atStart => exact ⟨0, zl, zl, rfl, rfl, hN8, fun _ => rfl, fun _ => rfl, by omega, by omega⟩
  case round =>
    obtain ⟨k, l0, l1, hkg, rfl, hN, hl0, hl1, hf0, hf1⟩ := hrel
    have jA := hN.kept kA8 qA
    have jB := hN.kept kB8 qB
    have s0 : wr.cell? ⟨H, 0, none⟩ = some (.int .u8 a0) := jA.cell 0
    have s1 : wr.cell? ⟨H, 1, none⟩ = some (.int .u8 a1) := jA.cell 1
    have s2 : wr.cell? ⟨H, 2, none⟩ = some (.int .u8 a2) := jA.cell 2
    have s3 : wr.cell? ⟨H, 3, none⟩ = some (.int .u8 a3) := jA.cell 3
    have s4 : wr.cell? ⟨H, 4, none⟩ = some (.int .u8 a4) := jA.cell 4
    have s5 : wr.cell? ⟨H, 5, none⟩ = some (.int .u8 a5) := jA.cell 5
    by_cases hk0 : k = 0
    · subst hk0
      have z0 := hl0 (Nat.le_refl _)
      have z1 := hl1 (by omega)
      have HZ0 : Hid (l0 = zl) := z0
      have HZ1 : Hid (l1 = zl) := z1
      clear hl0 hl1 hf0 hf1 z0 z1
      go_upto_region 14 with fail
      obtain ⟨D, hD⟩ : ∃ D, D = wr.heap.size := ⟨_, rfl⟩
      obtain ⟨u1, hu1⟩ : ∃ u1, u1 = wr.alloc (.cells #[.int .u8 a0, .int .u8 a1, .int .u8 a2, .int .u8 a3, .int .u8 a4, .int .u8 a5] 23) := ⟨_, rfl⟩
      rw [← hu1, ← hD]
      have n1 : NodeIs v8 N l0 l1 nx du u1 := by rw [hu1]; exact hN.alloc _
      have d1 : Blk u1 D #[.int .u8 a0, .int .u8 a1, .int .u8 a2, .int .u8 a3, .int .u8 a4, .int .u8 a5] 23 := by rw [hu1, hD]; exact Blk.new _ _ _
      have qD : D ≠ N := by rw [hD]; have := hN.lt; omega
      have qD2 : N ≠ D := fun e => qD e.symm
      clear hu1 hD hN jA jB s0 s1 s2 s3 s4 s5
      have e0 : u1.cell? ⟨D, 0, none⟩ = some (.int .u8 a0) := d1.cell 0
      go_wp2_with fail
      clear e0
      refine (peer_any a0 _ ha0.1 ha0.2).mono ?_
      rintro e u2 ⟨rfl, hb2⟩
      have n2 := n1.below hb2
      have d2 := d1.below hb2 d1.lt
      clear hb2 n1 d1 u1
      obtain ⟨c0, c1, c2, c3, c4, c5, c6, c7, c8, c9, c10, c11, c12, c13, c14, c15⟩ := n2.lane0
      have ff := n2.cells.2.2.2.2.2.2
      have e1 : u2.cell? ⟨D, 1, none⟩ = some (.int .u8 a1) := d2.cell 1
      have e2 : u2.cell? ⟨D, 2, none⟩ = some (.int .u8 a2) := d2.cell 2
      unfold Pr
      go_upto_if 99 with fail
      have n3 := (n2.to0 (a0 % 3)).sq0 (a1 % 4)
      obtain ⟨u3, hu3⟩ : ∃ u3, u3 = (((((((u2.setCell ⟨N, 81, none⟩ (.int .u64 0)).setCell ⟨N, 82, none⟩ (.int .u64 (a0 % 3))).setCell ⟨N, 83, none⟩ (.int .u64 0)).setCell ⟨N, 84, none⟩ (.int .u64 0)).setCell ⟨N, 85, none⟩ (.pointer none)).setCell ⟨N, 86, none⟩ (.int .u16 0))).setCell ⟨N, 87, none⟩ (.int .u8 (a1 % 4)) := ⟨_, rfl⟩
      rw [← hu3] at n3 ⊢
      have d3 : Blk u3 D #[.int .u8 a0, .int .u8 a1, .int .u8 a2, .int .u8 a3, .int .u8 a4, .int .u8 a5] 23 := by rw [hu3]; exact ((((((d2.setOther qD _).setOther qD _).setOther qD _).setOther qD _).setOther qD _).setOther qD _).setOther qD _
      clear hu3 c0 c1 c2 c3 c4 c5 c6 c7 c8 c9 c10 c11 c12 c13 c14 c15 ff e1 e2 n2 d2 u2
      go_cut [] (fun w' => ∃ (p : Option Addr) (n : Nat), (n : Int) = a2 % 3 ∧ NodeIs v8 N (evL 0 0 l0 (a0 % 3) (a1 % 4) p n) (evL 0 1 l1 (a0 % 3) (a1 % 4) p n) nx du w' ∧ Blk w' D #[.int .u8 a0, .int .u8 a1, .int .u8 a2, .int .u8 a3, .int .u8 a4, .int .u8 a5] 23)
      case first =>
        obtain ⟨c0, c1, c2, c3, c4, c5, c6, c7, c8, c9, c10, c11, c12, c13, c14, c15⟩ := n3.lane0
        have ff := n3.cells.2.2.2.2.2.2
        have h30 : 0 ≤ a2 % 3 := Int.emod_nonneg _ (by omega)
        have h3m : a2 % 3 < 3 := Int.emod_lt_of_pos _ (by omega)
        by_cases h3 : a2 % 3 = 0
        · have H3 : Hid (a2 % 3 = 0) := h3
          have y3 : ¬ (0 < a2 % 3) := by rw [h3]; omega
          clear h3
          go_wp2_with fail
          go_meet
          exact ⟨l0.eo, l0.ne, by rw [HZ0.out, H3.out]; rfl, n3, d3⟩
        · have H3 : Hid ((a2 % 3).toNat ≤ 2) := (show (a2 % 3).toNat ≤ 2 by omega)
          have H4 : Hid (a2 % 3 = ((a2 % 3).toNat : Int)) := (show a2 % 3 = ((a2 % 3).toNat : Int) by omega)
          have y3 : 0 < a2 % 3 := by omega
          clear h3
          obtain ⟨ob, hmk⟩ := make_run (a2 % 3) (a2 % 3).toNat H4.out H3.out
          have hlN : N < u3.heap.size := n3.lt
          go_wp2_with fail
          go_meet
          exact ⟨_, _, H4.out.symm, (n3.ev0 _ _).alloc ob, (d3.setOther qD _).alloc ob⟩
      case rest =>
        clear n3 d3 u3
        obtain ⟨p, n, hn, n4, d4⟩ := hcut
        have HNE : Hid ((n : Int) = a2 % 3) := hn
        clear hn
        have e3 : wc.cell? ⟨D, 3, none⟩ = some (.int .u8 a3) := d4.cell 3
        go_upto_if 111 with fail
        clear e3
        go_cut [] (fun w' => ∃ (p2 : Option Addr) (n2 : Nat), (n2 : Int) = a3 % 3 ∧ NodeIs v8 N (quL 0 0 l0 (a0 % 3) (a1 % 4) p n p2 n2) (quL 0 1 l1 (a0 % 3) (a1 % 4) p n p2 n2) nx du w' ∧ Blk w' D #[.int .u8 a0, .int .u8 a1, .int .u8 a2, .int .u8 a3, .int .u8 a4, .int .u8 a5] 23)
        case first =>
          obtain ⟨c0, c1, c2, c3, c4, c5, c6, c7, c8, c9, c10, c11, c12, c13, c14, c15⟩ := n4.lane0
          have ff := n4.cells.2.2.2.2.2.2
          have h30 : 0 ≤ a3 % 3 := Int.emod_nonneg _ (by omega)
          have h3m : a3 % 3 < 3 := Int.emod_lt_of_pos _ (by omega)
          by_cases h3 : a3 % 3 = 0
          · have H3 : Hid (a3 % 3 = 0) := h3
            have y3 : ¬ (0 < a3 % 3) := by rw [h3]; omega
            clear h3
            go_wp2_with fail
            go_meet
            exact ⟨l0.qo, l0.nq, by rw [HZ0.out, H3.out]; rfl, n4, d4⟩
          · have H3 : Hid ((a3 % 3).toNat ≤ 2) := (show (a3 % 3).toNat ≤ 2 by omega)
            have H4 : Hid (a3 % 3 = ((a3 % 3).toNat : Int)) := (show a3 % 3 = ((a3 % 3).toNat : Int) by omega)
            have y3 : 0 < a3 % 3 := by omega
            clear h3
            obtain ⟨ob, hmk⟩ := make_run (a3 % 3) (a3 % 3).toNat H4.out H3.out
            have hlN : N < wc.heap.size := n4.lt
            go_wp2_with fail
            go_meet
            exact ⟨_, _, H4.out.symm, (n4.qu0 _ _).alloc ob, (d4.setOther qD _).alloc ob⟩
        case rest =>
          clear n4 d4
          obtain ⟨p2, n2, hn2, n5, d5⟩ := hcut
          have HNQ : Hid ((n2 : Int) = a3 % 3) := hn2
          clear hn2
          have e4 : wc.cell? ⟨D, 4, none⟩ = some (.int .u8 a4) := d5.cell 4
          go_wp2_with fail
          clear e4
          refine (peer_any a4 _ ha4.1 ha4.2).mono ?_
          rintro e u6 ⟨rfl, hb6⟩
          have n6 := n5.below hb6
          have d6 := d5.below hb6 d5.lt
          clear hb6 n5 d5 wc
          obtain ⟨c0, c1, c2, c3, c4, c5, c6, c7, c8, c9, c10, c11, c12, c13, c14, c15⟩ := n6.lane0
          have ff := n6.cells.2.2.2.2.2.2
          have e5 : u6.cell? ⟨D, 5, none⟩ = some (.int .u8 a5) := d6.cell 5
          unfold Pr
          go_wp2_with fail
          go_roundg (gk - 1)
          case measure => omega
          case rel => exact ⟨1, _, _, by omega, by go_num, (n6.akTo0 (a4 % 3)).ak0 a5, fun h => absurd h (by omega), fun _ => HZ1.out, fun _ => ⟨rfl, rfl, HNE.out, HNQ.out, rfl, rfl⟩, fun h => absurd h (by omega)⟩
    · by_cases hk1 : k = 1
      · subst hk1
        have hlB : H + 1 < wr.heap.size := jB.lt
        have r0 : wr.cell? ⟨H + 1, 0, none⟩ = some (.int .u8 b0) := jB.cell 0
        have r1 : wr.cell? ⟨H + 1, 1, none⟩ = some (.int .u8 b1) := jB.cell 1
        have r2 : wr.cell? ⟨H + 1, 2, none⟩ = some (.int .u8 b2) := jB.cell 2
        have r3 : wr.cell? ⟨H + 1, 3, none⟩ = some (.int .u8 b3) := jB.cell 3
        have r4 : wr.cell? ⟨H + 1, 4, none⟩ = some (.int .u8 b4) := jB.cell 4
        have r5 : wr.cell? ⟨H + 1, 5, none⟩ = some (.int .u8 b5) := jB.cell 5
        have HZ1 : Hid (l1 = zl) := hl1 (Nat.le_refl _)
        have HF0 : Hid (Fits l0 a0 a1 a2 a3 a4 a5) := hf0 (by omega)
        clear hl0 hl1 hf0 hf1
        go_upto_region 14 with fail
        clear hlB r0 r1 r2 r3 r4 r5
        obtain ⟨D, hD⟩ : ∃ D, D = wr.heap.size := ⟨_, rfl⟩
        obtain ⟨u1, hu1⟩ : ∃ u1, u1 = wr.alloc (.cells #[.int .u8 b0, .int .u8 b1, .int .u8 b2, .int .u8 b3, .int .u8 b4, .int .u8 b5] 23) := ⟨_, rfl⟩
        rw [← hu1, ← hD]
        have n1 : NodeIs v8 N l0 l1 nx du u1 := by rw [hu1]; exact hN.alloc _
        have d1 : Blk u1 D #[.int .u8 b0, .int .u8 b1, .int .u8 b2, .int .u8 b3, .int .u8 b4, .int .u8 b5] 23 := by rw [hu1, hD]; exact Blk.new _ _ _
        have qD : D ≠ N := by rw [hD]; have := hN.lt; omega
        have qD2 : N ≠ D := fun e => qD e.symm
        clear hu1 hD hN jA jB s0 s1 s2 s3 s4 s5
        have e0 : u1.cell? ⟨D, 0, none⟩ = some (.int .u8 b0) := d1.cell 0
        go_wp2_with fail
        clear e0
        refine (peer_any b0 _ hb0.1 hb0.2).mono ?_
        rintro e u2 ⟨rfl, hb2⟩
        have n2 := n1.below hb2
        have d2 := d1.below hb2 d1.lt
        clear hb2 n1 d1 u1
        obtain ⟨c0, c1, c2, c3, c4, c5, c6, c7, c8, c9, c10, c11, c12, c13, c14, c15⟩ := n2.lane1
        have ff := n2.cells.2.2.2.2.2.2
        have e1 : u2.cell? ⟨D, 1, none⟩ = some (.int .u8 b1) := d2.cell 1
        have e2 : u2.cell? ⟨D, 2, none⟩ = some (.int .u8 b2) := d2.cell 2
        unfold Pr
        go_upto_if 99 with fail
        have n3 := (n2.to1 (b0 % 3)).sq1 (b1 % 4)
        obtain ⟨u3, hu3⟩ : ∃ u3, u3 = (((((((u2.setCell ⟨N, 121, none⟩ (.int .u64 0)).setCell ⟨N, 122, none⟩ (.int .u64 (b0 % 3))).setCell ⟨N, 123, none⟩ (.int .u64 0)).setCell ⟨N, 124, none⟩ (.int .u64 0)).setCell ⟨N, 125, none⟩ (.pointer none)).setCell ⟨N, 126, none⟩ (.int .u16 0))).setCell ⟨N, 127, none⟩ (.int .u8 (b1 % 4)) := ⟨_, rfl⟩
        rw [← hu3] at n3 ⊢
        have d3 : Blk u3 D #[.int .u8 b0, .int .u8 b1, .int .u8 b2, .int .u8 b3, .int .u8 b4, .int .u8 b5] 23 := by rw [hu3]; exact ((((((d2.setOther qD _).setOther qD _).setOther qD _).setOther qD _).setOther qD _).setOther qD _).setOther qD _
        clear hu3 c0 c1 c2 c3 c4 c5 c6 c7 c8 c9 c10 c11 c12 c13 c14 c15 ff e1 e2 n2 d2 u2
        go_cut [] (fun w' => ∃ (p : Option Addr) (n : Nat), (n : Int) = b2 % 3 ∧ NodeIs v8 N (evL 1 0 l0 (b0 % 3) (b1 % 4) p n) (evL 1 1 l1 (b0 % 3) (b1 % 4) p n) nx du w' ∧ Blk w' D #[.int .u8 b0, .int .u8 b1, .int .u8 b2, .int .u8 b3, .int .u8 b4, .int .u8 b5] 23)
        case first =>
          obtain ⟨c0, c1, c2, c3, c4, c5, c6, c7, c8, c9, c10, c11, c12, c13, c14, c15⟩ := n3.lane1
          have ff := n3.cells.2.2.2.2.2.2
          have h30 : 0 ≤ b2 % 3 := Int.emod_nonneg _ (by omega)
          have h3m : b2 % 3 < 3 := Int.emod_lt_of_pos _ (by omega)
          by_cases h3 : b2 % 3 = 0
          · have H3 : Hid (b2 % 3 = 0) := h3
            have y3 : ¬ (0 < b2 % 3) := by rw [h3]; omega
            clear h3
            go_wp2_with fail
            go_meet
            exact ⟨l1.eo, l1.ne, by rw [HZ1.out, H3.out]; rfl, n3, d3⟩
          · have H3 : Hid ((b2 % 3).toNat ≤ 2) := (show (b2 % 3).toNat ≤ 2 by omega)
            have H4 : Hid (b2 % 3 = ((b2 % 3).toNat : Int)) := (show b2 % 3 = ((b2 % 3).toNat : Int) by omega)
            have y3 : 0 < b2 % 3 := by omega
            clear h3
            obtain ⟨ob, hmk⟩ := make_run (b2 % 3) (b2 % 3).toNat H4.out H3.out
            have hlN : N < u3.heap.size := n3.lt
            go_wp2_with fail
            go_meet
            exact ⟨_, _, H4.out.symm, (n3.ev1 _ _).alloc ob, (d3.setOther qD _).alloc ob⟩
        case rest =>
          clear n3 d3 u3
          obtain ⟨p, n, hn, n4, d4⟩ := hcut
          have HNE : Hid ((n : Int) = b2 % 3) := hn
          clear hn
          have e3 : wc.cell? ⟨D, 3, none⟩ = some (.int .u8 b3) := d4.cell 3
          go_upto_if 111 with fail
          clear e3
          go_cut [] (fun w' => ∃ (p2 : Option Addr) (n2 : Nat), (n2 : Int) = b3 % 3 ∧ NodeIs v8 N (quL 1 0 l0 (b0 % 3) (b1 % 4) p n p2 n2) (quL 1 1 l1 (b0 % 3) (b1 % 4) p n p2 n2) nx du w' ∧ Blk w' D #[.int .u8 b0, .int .u8 b1, .int .u8 b2, .int .u8 b3, .int .u8 b4, .int .u8 b5] 23)
          case first =>
            obtain ⟨c0, c1, c2, c3, c4, c5, c6, c7, c8, c9, c10, c11, c12, c13, c14, c15⟩ := n4.lane1
            have ff := n4.cells.2.2.2.2.2.2
            have h30 : 0 ≤ b3 % 3 := Int.emod_nonneg _ (by omega)
            have h3m : b3 % 3 < 3 := Int.emod_lt_of_pos _ (by omega)
            by_cases h3 : b3 % 3 = 0
            · have H3 : Hid (b3 % 3 = 0) := h3
              have y3 : ¬ (0 < b3 % 3) := by rw [h3]; omega
              clear h3
              go_wp2_with fail
              go_meet
              exact ⟨l1.qo, l1.nq, by rw [HZ1.out, H3.out]; rfl, n4, d4⟩
            · have H3 : Hid ((b3 % 3).toNat ≤ 2) := (show (b3 % 3).toNat ≤ 2 by omega)
              have H4 : Hid (b3 % 3 = ((b3 % 3).toNat : Int)) := (show b3 % 3 = ((b3 % 3).toNat : Int) by omega)
              have y3 : 0 < b3 % 3 := by omega
              clear h3
              obtain ⟨ob, hmk⟩ := make_run (b3 % 3) (b3 % 3).toNat H4.out H3.out
              have hlN : N < wc.heap.size := n4.lt
              go_wp2_with fail
              go_meet
              exact ⟨_, _, H4.out.symm, (n4.qu1 _ _).alloc ob, (d4.setOther qD _).alloc ob⟩
          case rest =>
            clear n4 d4
            obtain ⟨p2, n2, hn2, n5, d5⟩ := hcut
            have HNQ : Hid ((n2 : Int) = b3 % 3) := hn2
            clear hn2
            have e4 : wc.cell? ⟨D, 4, none⟩ = some (.int .u8 b4) := d5.cell 4
            go_wp2_with fail
            clear e4
            refine (peer_any b4 _ hb4.1 hb4.2).mono ?_
            rintro e u6 ⟨rfl, hb6⟩
            have n6 := n5.below hb6
            have d6 := d5.below hb6 d5.lt
            clear hb6 n5 d5 wc
            obtain ⟨c0, c1, c2, c3, c4, c5, c6, c7, c8, c9, c10, c11, c12, c13, c14, c15⟩ := n6.lane1
            have ff := n6.cells.2.2.2.2.2.2
            have e5 : u6.cell? ⟨D, 5, none⟩ = some (.int .u8 b5) := d6.cell 5
            unfold Pr
            go_wp2_with fail
            go_roundg (gk - 1)
            case measure => omega
            case rel => exact ⟨2, _, _, by omega, by go_num, (n6.akTo1 (b4 % 3)).ak1 b5, fun h => absurd h (by omega), fun h => absurd h (by omega), fun _ => HF0.out, fun _ => ⟨rfl, rfl, HNE.out, HNQ.out, rfl, rfl⟩⟩
      · obtain rfl : k = 2 := by omega
        have HF0 : Hid (Fits l0 a0 a1 a2 a3 a4 a5) := hf0 (by omega)
        have HF1 : Hid (Fits l1 b0 b1 b2 b3 b4 b5) := hf1 (by omega)
        go_upto_region 25 with fail
        have jX := hN.kept kX8 qX
        have jW := hN.kept kW8 qW
        exact law2 (by unfold IsAt; kernel_rfl) hac hnE hnw HH HX HN qX qW jX jW (below_grown hb8 hN.1 (by have := HN.out; have := HX.out; omega) (by have := hb8.size; have := HH.out; omega)) ⟨World.grownBy.refl _ _, hN.2⟩ HF0 HF1 (by assumption)
end Go.Proofs.Ybulkauss
