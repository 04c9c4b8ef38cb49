/-
  The walk of the law.
-/
import Derived.Test.YbulkauseLt
namespace Go.Proofs.Ybulkause
open Go.RowKit Go.Deep

theorem cap_of_owns {w : World} {B : Nat} {ao : Option Addr} {n cap : Nat} {l : List Value} (h : w.ownsRow B 106 3 (.slice ao n cap) n l) : cap ≤ maxLen := by
  obtain ⟨_, ⟨h, _⟩ | ⟨g, c, cur, h, _, _, _, hc, _⟩⟩ := h
  · obtain ⟨_, _, rfl⟩ := Value.slice.inj h
    exact Nat.zero_le _
  · obtain ⟨_, _, rfl⟩ := Value.slice.inj h
    exact hc
theorem succ_ne {base : Int} (_h : 0 ≤ base ∧ base ≤ 18446744073709551615) : (IntKind.u64.wrap (base + 1) == base) = false := by
  have : IntKind.u64.wrap (base + 1) ≠ base := by
    simp only [IntKind.wrap_u64]
    omega
  simpa using this
theorem ERow.below {w w' : World} {ao : Option Addr} {n : Nat} {G I S : Nat → Int} (h : ERow w ao n G I S) (hb : Below w.heap.size w w') : ERow w' ao n G I S := fun hp => by
  obtain ⟨g, o, rfl, hg, hm⟩ := h hp
  exact ⟨g, o, rfl, Nat.lt_of_lt_of_le hg hb.size, fun j hj => ⟨(cell_below hb hg _).trans (hm j hj).1, (cell_below hb hg _).trans (hm j hj).2.1, (cell_below hb hg _).trans (hm j hj).2.2⟩⟩

set_option maxHeartbeats 1600000 in
set_option maxRecDepth 100000 in
theorem law_any (id base index qu mst lst : Int) (b8 b9 : Bool) (ao bo : Option Addr) (n1 c1 n2 c2 : Nat) (G1 I1 S1 G2 I2 S2 : Nat → Int) (w : World) (hid : -128 ≤ id ∧ id ≤ 127) (hbase : 0 ≤ base ∧ base ≤ 18446744073709551615) (hmst : -128 ≤ mst ∧ mst ≤ 127) (hlst : -128 ≤ lst ∧ lst ≤ 127)
    (hG1 : ∀ j, 0 ≤ G1 j ∧ G1 j ≤ 255) (hG2 : ∀ j, 0 ≤ G2 j ∧ G2 j ≤ 255) (hR1 : ERow w ao n1 G1 I1 S1) (hR2 : ERow w bo n2 G2 I2 S2) :
    Calls Yba.prog 5 #[.int .i8 id, .int .u64 base, .int .i64 index, .int .i64 qu, .int .i8 mst, .slice ao n1 c1, .int .i8 lst, .slice bo n2 c2, .bool b8, .bool b9] w fun e w' => e = .returned (.bool true) ∧ Below w.heap.size w w' := by
  by_cases h1 : 1024 < n1
  · clear hG1 hG2 hR1 hR2 hid hbase hmst hlst
    have y1 : decide ((1024 : Int) < (n1 : Int)) = true := by simp; omega
    have y1' : decide (1024 < n1) = true := by simp; omega
    go_enter Yba.func5, Yba.ntmps5
    go_wp2_with fail
    go_ret
    exact ⟨rfl, Below.refl _ _⟩
  by_cases h2 : 1024 < n2
  · clear hG1 hG2 hR1 hR2 hid hbase hmst hlst
    have y0 : ¬ ((1024 : Int) < (n1 : Int)) := by omega
    have y1 : (1024 : Int) < (n2 : Int) := by omega
    go_enter Yba.func5, Yba.ntmps5
    go_wp2_with fail
    go_ret
    exact ⟨rfl, Below.refl _ _⟩
  have HID : Hid (-128 ≤ id ∧ id ≤ 127) := hid
  have HNE : Hid ((IntKind.u64.wrap (base + 1) == base) = false) := succ_ne hbase
  have HBA : Hid (∀ x : World, Below w.heap.size w x → Calls Yba.prog 9 #[.int .i8 mst, .slice ao n1 c1] x fun e w' => ∃ v, e = .returned v ∧ w'.ownsRow x.heap.size 106 3 v n1 (mcells (mbs mst G1 I1 S1 n1)) ∧ Below x.heap.size x w') := fun x hx => build_any mst ao n1 c1 G1 I1 S1 x (by omega) hmst hG1 (hR1.below hx)
  have HBB : Hid (∀ x : World, Below w.heap.size w x → Calls Yba.prog 9 #[.int .i8 lst, .slice bo n2 c2] x fun e w' => ∃ v, e = .returned v ∧ w'.ownsRow x.heap.size 106 3 v n2 (mcells (mbs lst G2 I2 S2 n2)) ∧ Below x.heap.size x w') := fun x hx => build_any lst bo n2 c2 G2 I2 S2 x (by omega) hlst hG2 (hR2.below hx)
  obtain ⟨ms, hms⟩ : ∃ ms, ms = mbs mst G1 I1 S1 n1 := ⟨_, rfl⟩
  obtain ⟨ls, hls⟩ : ∃ ls, ls = mbs lst G2 I2 S2 n2 := ⟨_, rfl⟩
  have e1 : n1 = ms.length := by rw [hms, mbs_len]
  have e2 : n2 = ls.length := by rw [hls, mbs_len]
  have HIN : Hid (Inc ms ∧ Inc ls) := ⟨by rw [hms]; exact inc_mbs hG1, by rw [hls]; exact inc_mbs hG2⟩
  rw [← hms] at HBA
  rw [← hls] at HBB
  have y1 : ¬ ((1024 : Int) < (n1 : Int)) := by omega
  have y2 : ¬ ((1024 : Int) < (n2 : Int)) := by omega
  have HLN : Hid (n1 ≤ 1024 ∧ n2 ≤ 1024) := (by show _ ∧ _; omega)
  have HEN : Hid (n1 = ms.length ∧ n2 = ls.length) := ⟨e1, e2⟩
  clear hms hls e1 e2 hG1 hG2 hR1 hR2 hid hbase hmst hlst h1 h2
  go_enter Yba.func5, Yba.ntmps5
  go_upto_region 4 with (go_at_call 9; refine (HBA.out _ (Below.refl _ _)).mono ?_; rintro e w1 ⟨v1, rfl, hown, hb1⟩; have HO1 : Hid (w1.ownsRow w.heap.size 106 3 v1 n1 (mcells ms)) := hown; have HB1 : Hid (Below w.heap.size w w1) := hb1; clear hown hb1)
  go_upto_region 5 with (go_at_call 9; refine (HBB.out _ HB1.out).mono ?_; rintro e w2 ⟨v2, rfl, hown, hb2⟩; have HO2 : Hid (w2.ownsRow w1.heap.size 106 3 v2 n2 (mcells ls)) := hown; have HB2 : Hid (Below w1.heap.size w1 w2) := hb2; clear hown hb2)
  obtain ⟨mo, mc, rfl, -, hc1, hr1, hd1⟩ := mrow_of_owns HO1.out
  obtain ⟨lo, lc, rfl, -, hc2, hr2, hd2⟩ := mrow_of_owns HO2.out
  have hk1 := cap_of_owns HO1.out
  have hbw : Below w.heap.size w w2 := HB1.out.trans (HB2.out.mono HB1.out.size)
  have hs2 := HB2.out.size
  clear y1 y2
  obtain ⟨e1, e2⟩ := HEN.out
  obtain ⟨l1, l2⟩ := HLN.out
  clear HBA HBB HEN HLN
  subst e1 e2
  exact law_t (by unfold IsAt; kernel_rfl) rfl HNE.out HID.out (hr1.same_below HB2.out) hr2 HIN.out.1 HIN.out.2 l1 l2 hc1 hk1 (fun g o e => Nat.lt_of_lt_of_le (hd1 g o e).2 hs2) (fun g o e => (hd2 g o e).2) hbw.size hbw (by assumption)
end Go.Proofs.Ybulkause
