/-
  The walk of zzs2305bbuild.
-/
import Derived.Test.YbulkauseSelf
import Derived.Deep.MidRow
namespace Go.Proofs.Ybulkause
open Go.RowKit Go.Deep

theorem news3 (x : World) (H : Nat) (hH : x.heap.size = H) (a b c : Value) : ∀ (j : Nat) (u : Value), [a, b, c][j]? = some u → (x.alloc (.cells #[a, b, c] 106)).cell? ((⟨H, 0, none⟩ : Addr).add j) = some u := by
  intro j u hu
  subst hH
  rw [Addr.add_mid, Nat.zero_add, World.cell?_alloc_new]
  simpa using hu
/-- behind an append to a row of one's own -/
theorem below_row {w wr w2 : World} {o1 o2 : Obj} {v : Value} {k : Nat} {xs : List Value} (hb : Below w.heap.size w wr) (hg : ((wr.alloc o1).alloc o2).grownBy w2 v.ownBlock) (ho : wr.ownsRow w.heap.size 106 3 v k xs) : Below w.heap.size w w2 := by
  have h2 : Below w.heap.size w ((wr.alloc o1).alloc o2) := (hb.alloc hb.size _).alloc (by simp; have := hb.size; omega) _
  refine h2.trans ⟨hg.os, hg.tape, hg.output, hg.size, fun j hj => hg.block j (Nat.lt_of_lt_of_le hj h2.size) (fun e => ?_)⟩
  obtain ⟨_, ⟨rfl, _⟩ | ⟨g, cap, cur, rfl, hbg, _⟩⟩ := ho
  · simp [Value.ownBlock] at e
  · simp [Value.ownBlock] at e; omega

set_option maxHeartbeats 800000 in
theorem build_any (st : Int) (ao : Option Addr) (n cap : Nat) (G I S : Nat → Int) (w : World) (hn : n ≤ 1024) (h0 : -128 ≤ st ∧ st ≤ 127) (hG : ∀ j, 0 ≤ G j ∧ G j ≤ 255) (hR : ERow w ao n G I S) :
    Calls Yba.prog 9 #[.int .i8 st, .slice ao n cap] w fun e w' => ∃ v, e = .returned v ∧ w'.ownsRow w.heap.size 106 3 v n (mcells (mbs st G I S n)) ∧ Below w.heap.size w w' := by
  have HGG : Hid (∀ j, 0 ≤ G j ∧ G j ≤ 255) := hG
  clear hG
  go_enter Yba.func9, Yba.ntmps9
  go_wp2_with fail
  go_loopg [5, 6, 13] n (fun gk v5 v6 t wx => ∃ k : Nat, k + gk = n ∧ t = .int .i64 k ∧ v6 = .int .i64 (idB st G k) ∧ wx.ownsRow w.heap.size 106 3 v5 k (mcells (mbs st G I S k)) ∧ Below w.heap.size w wx)
  case atStart => exact ⟨0, by omega, rfl, rfl, ⟨by simp [mcells, mbs], .inl ⟨rfl, rfl⟩⟩, Below.refl _ _⟩
  case round =>
    obtain ⟨k, hkg, rfl, rfl, hown, hb⟩ := hrel
    by_cases hk : k < n
    · obtain ⟨g, o, rfl, hg, hm⟩ := hR (by omega)
      have hme := hm k hk
      have c0 : wr.cell? ⟨g, o + k * 3, none⟩ = some (.int .u8 (G k)) := (cell_below hb hg _).trans hme.1
      have c1 : wr.cell? ⟨g, o + k * 3 + 1, none⟩ = some (.int .i64 (I k)) := (cell_below hb hg _).trans hme.2.1
      have c2 : wr.cell? ⟨g, o + k * 3 + 2, none⟩ = some (.int .u64 (S k)) := (cell_below hb hg _).trans hme.2.2
      have hi1 : (0 : Int) ≤ (k : Int) := by omega
      have hi2 : (k : Int) < (n : Int) := by omega
      have HBo : Hid (-128 ≤ idB st G k ∧ idB st G k ≤ 127 + 256 * k) := idB_bound HGG.out h0 k
      have HG : Hid (0 ≤ G k ∧ G k ≤ 255) := HGG.out k
      have HO : Hid (wr.ownsRow w.heap.size 106 3 u5 k (mcells (mbs st G I S k))) := hown
      have HB : Hid (Below w.heap.size w wr) := hb
      clear hme hm hown hb
      by_cases hk0 : k = 0
      · have hk1 : ¬ ((0 : Int) < (k : Int)) := by omega
        have HK : Hid (idAt st G k = idB st G k) := (by show _ = _; rw [hk0]; rfl)
        clear hk0
        go_upto_region 8 with fail
        rw [← HK.out]
        obtain ⟨ti, z, hi, hz, hs3, hb24, hz3⟩ := info106'
        have hlg : g < wr.heap.size := Nat.lt_of_lt_of_le hg HB.out.size
        have HI : Hid (Yba.prog.info? 106 = some ti ∧ ti.zero = some z ∧ ti.size = 3 ∧ ti.bytes = 24 ∧ z.cells.size = 3) := ⟨hi, hz, hs3, hb24, hz3⟩
        clear hi hz hs3 hb24 hz3
        go_wp2_with (at_builtin; refine wpList_append_lies _ rfl _ _ _ rfl w.heap.size 106 ti z 3 24 Yba.underlying120 HI.out.1 HI.out.2.1 HI.out.2.2.1 HI.out.2.2.2.1 HI.out.2.2.2.2 (by omega) u5 k (mcells (mbs st G I S k)) rfl (owns_kept HO.out (fun g hg => by rw [Below.heap_alloc _ _ _ (by simp; omega), Below.heap_alloc _ _ _ hg])) ⟨wr.heap.size + 1, 0, none⟩ 1 1 [.int .i64 (idAt st G k), .int .i64 (I k), .int .u64 (S k)] rfl rfl (news3 _ _ (by simp) _ _ _) (by simp; exact ⟨rfl, rfl, rfl⟩) (by omega) (by unfold maxLen; omega) (by omega) (by simp; have := HB.out.size; omega) _ rfl ?_)
        intro g2 cap2 w2 own2 grow2 hat2 hlt2
        go_wp2_with fail
        go_roundg (gk - 1)
        case measure => omega
        case rel => exact ⟨k + 1, by omega, by go_num, rfl, by rw [mbs_succ, mcells_snoc]; exact own2, below_row HB.out grow2 HO.out⟩
      · have hk1 : (0 : Int) < (k : Int) := by omega
        have hbo := HBo.out
        have hgo := HG.out
        have HK : Hid (idB st G k + (G k + 1) = idAt st G k) := (by
          obtain ⟨j, rfl⟩ : ∃ j, k = j + 1 := ⟨k - 1, by omega⟩
          rfl)
        clear hk0
        go_upto_region 8 with fail
        rw [HK.out]
        obtain ⟨ti, z, hi, hz, hs3, hb24, hz3⟩ := info106'
        have hlg : g < wr.heap.size := Nat.lt_of_lt_of_le hg HB.out.size
        have HI : Hid (Yba.prog.info? 106 = some ti ∧ ti.zero = some z ∧ ti.size = 3 ∧ ti.bytes = 24 ∧ z.cells.size = 3) := ⟨hi, hz, hs3, hb24, hz3⟩
        clear hi hz hs3 hb24 hz3
        go_wp2_with (at_builtin; refine wpList_append_lies _ rfl _ _ _ rfl w.heap.size 106 ti z 3 24 Yba.underlying120 HI.out.1 HI.out.2.1 HI.out.2.2.1 HI.out.2.2.2.1 HI.out.2.2.2.2 (by omega) u5 k (mcells (mbs st G I S k)) rfl (owns_kept HO.out (fun g hg => by rw [Below.heap_alloc _ _ _ (by simp; omega), Below.heap_alloc _ _ _ hg])) ⟨wr.heap.size + 1, 0, none⟩ 1 1 [.int .i64 (idAt st G k), .int .i64 (I k), .int .u64 (S k)] rfl rfl (news3 _ _ (by simp) _ _ _) (by simp; exact ⟨rfl, rfl, rfl⟩) (by omega) (by unfold maxLen; omega) (by omega) (by simp; have := HB.out.size; omega) _ rfl ?_)
        intro g2 cap2 w2 own2 grow2 hat2 hlt2
        go_wp2_with fail
        go_roundg (gk - 1)
        case measure => omega
        case rel => exact ⟨k + 1, by omega, by go_num, rfl, by rw [mbs_succ, mcells_snoc]; exact own2, below_row HB.out grow2 HO.out⟩
    · obtain rfl : k = n := by omega
      have HO : Hid (wr.ownsRow w.heap.size 106 3 u5 k (mcells (mbs st G I S k))) := hown
      have HB : Hid (Below w.heap.size w wr) := hb
      clear hown hb
      go_wp2_with fail
      go_ret
      exact ⟨_, rfl, HO.out, HB.out⟩
end Go.Proofs.Ybulkause
