/-
  The walks of View.with and State.SetIndex.
-/
import Derived.Test.YbulkauseWith
namespace Go.Proofs.Ybulkause
open Go.RowKit Go.Deep
attribute [local go_sem ↓] Go.wp_at_zero Go.wp_at_succ

/-- the same, the answer's block a letter -/
def WithAns (V : Nat) (i1 i2 ep au : Int) (lv : Value) (ex ms : List Mb) (w : World) (R : Nat) (w' : World) : Prop :=
  Below w.heap.size w w' ∧ ((sameB ex ms = true ∧ R = V) ∨ (sameB ex ms = false ∧ w.heap.size ≤ R ∧ ∃ mv, Blk w' R (vwCells i1 i2 ep au mv lv) 148 ∧ w'.ownsRow w.heap.size 106 3 mv ex.length (mcells ex)))
theorem withPost_ans {V : Nat} {i1 i2 ep au : Int} {lv : Value} {ex ms : List Mb} {w : World} {e : Ending} {w' : World} (h : WithPost V i1 i2 ep au lv ex ms w e w') : ∃ R, e = .returned (.pointer (some ⟨R, 0, none⟩)) ∧ WithAns V i1 i2 ep au lv ex ms w R w' := by
  obtain ⟨h1, ⟨hs, rfl⟩ | ⟨hs, N, mv, rfl, hN, hk, ho⟩⟩ := h
  · exact ⟨V, rfl, h1, .inl ⟨hs, rfl⟩⟩
  · exact ⟨N, rfl, h1, .inr ⟨hs, hN, mv, hk, ho⟩⟩
theorem withAns_up {V : Nat} {i1 i2 ep au : Int} {lv : Value} {ex ms : List Mb} {w w1 : World} {R : Nat} {w' : World} (hb : Below w.heap.size w w1) (h : WithAns V i1 i2 ep au lv ex ms w1 R w') : WithAns V i1 i2 ep au lv ex ms w R w' := by
  obtain ⟨h1, h2⟩ := h
  refine ⟨hb.trans (h1.mono hb.size), ?_⟩
  obtain h2 | ⟨hs, hN, mv, hk, ho⟩ := h2
  · exact .inl h2
  · exact .inr ⟨hs, Nat.le_trans hb.size hN, mv, hk, owns_le ho hb.size⟩
theorem withAns_drew {V : Nat} {i1 i2 ep au : Int} {lv : Value} {ex ms : List Mb} {w : World} {R : Nat} {w' y : World} (h : WithAns V i1 i2 ep au lv ex ms w R w') (h1 : y.heap = w'.heap) (h2 : y.os = w'.os) (h3 : y.tape = w'.tape) (h4 : y.output = w'.output) : WithAns V i1 i2 ep au lv ex ms w R y := by
  obtain ⟨g1, g2⟩ := h
  refine ⟨below_to_drawn g1 ⟨h1, h2, h3, h4⟩, ?_⟩
  obtain g2 | ⟨hs, hN, mv, hk, ho⟩ := g2
  · exact .inl g2
  · exact .inr ⟨hs, hN, mv, hk.of_block (by rw [h1]), owns_kept ho (fun g _ => by rw [h1])⟩

set_option maxHeartbeats 800000 in
set_option maxRecDepth 100000 in
theorem with_any (V : Nat) (i1 i2 ep au : Int) (mo lo : Option Addr) (mc lc : Nat) (ms ls : List Mb) (m : Mb) (w : World) (kV : Blk w V (vwCells i1 i2 ep au (.slice mo ms.length mc) (.slice lo ls.length lc)) 148)
    (hm : MRow w mo ms) (hl : MRow w lo ls) (hI : Inc ls) (hlm : ms.length ≤ 1024) (hll : ls.length ≤ 1024) (hmc : ms.length ≤ mc) (hmc2 : mc ≤ maxLen) :
    Calls Yba.prog 18 #[.pointer (some ⟨V, 0, none⟩), .agg #[.int .i64 m.id, .int .i64 m.idx, .int .u64 m.seq]] w fun e w' => ∃ R, e = .returned (.pointer (some ⟨R, 0, none⟩)) ∧ WithAns V i1 i2 ep au (.slice lo ls.length lc) (kept ls (put1 m ms)) ms w R w' := by
  have hVl := kV.lt
  have KV : Hid (Blk w V (vwCells i1 i2 ep au (.slice mo ms.length mc) (.slice lo ls.length lc)) 148) := kV
  have HM : Hid (MRow w mo ms) := hm
  have HL : Hid (MRow w lo ls) := hl
  have HI : Hid (Inc ls) := hI
  have HLN : Hid (ms.length ≤ 1024 ∧ ls.length ≤ 1024 ∧ ms.length ≤ mc ∧ mc ≤ maxLen) := ⟨hlm, hll, hmc, hmc2⟩
  clear kV hm hl hI hlm hll hmc hmc2
  go_enter Yba.func18, Yba.ntmps18
  go_upto_region 1 with fail
  obtain ⟨D, hD⟩ : ∃ D, D = w.heap.size := ⟨_, rfl⟩
  obtain ⟨x1, hx1⟩ : ∃ x1, x1 = w.alloc (.cells #[.int .i64 m.id, .int .i64 m.idx, .int .u64 m.seq] 106) := ⟨_, rfl⟩
  rw [← hx1, ← hD]
  have kD : Blk x1 D #[.int .i64 m.id, .int .i64 m.idx, .int .u64 m.seq] 106 := by rw [hx1, hD]; exact Blk.new _ _ _
  have hb1 : Below w.heap.size w x1 := by rw [hx1]; exact (Below.refl _ _).alloc (Nat.le_refl _) _
  have m0 : x1.cell? ⟨D, 0, none⟩ = some (.int .i64 m.id) := kD.cell 0
  have m1 : x1.cell? ⟨D, 1, none⟩ = some (.int .i64 m.idx) := kD.cell 1
  have m2 : x1.cell? ⟨D, 2, none⟩ = some (.int .u64 m.seq) := kD.cell 2
  have hDx : D < x1.heap.size := kD.lt
  have hVx : V < x1.heap.size := Nat.lt_of_lt_of_le hVl hb1.size
  have KX : Hid (Blk x1 V (vwCells i1 i2 ep au (.slice mo ms.length mc) (.slice lo ls.length lc)) 148) := KV.out.below hb1 hVl
  have v10 : x1.cell? ⟨V, 10, none⟩ = some (.slice mo ms.length mc) := KX.out.cell 10
  have v11 : x1.cell? ⟨V, 11, none⟩ = some (.slice lo ls.length lc) := KX.out.cell 11
  have HMX : Hid (MRow x1 mo ms ∧ MRow x1 lo ls) := ⟨HM.out.same_below hb1, HL.out.same_below hb1⟩
  have HB1 : Hid (Below w.heap.size w x1) := hb1
  have HC0 : Hid (x1.cell? ⟨V, 10, none⟩ = some (.slice mo ms.length mc) ∧ x1.cell? ⟨V, 11, none⟩ = some (.slice lo ls.length lc) ∧ x1.cell? ⟨D, 0, none⟩ = some (.int .i64 m.id) ∧ x1.cell? ⟨D, 1, none⟩ = some (.int .i64 m.idx) ∧ x1.cell? ⟨D, 2, none⟩ = some (.int .u64 m.seq)) := ⟨v10, v11, m0, m1, m2⟩
  have HN1 : Hid (∀ y : World, Below x1.heap.size x1 y → MAt y x1.heap.size 0 m → x1.heap.size < y.heap.size → Calls Yba.prog 28 #[.slice mo ms.length mc, .slice (some ⟨x1.heap.size, 0, none⟩) 1 1] y fun e w' => NewPost ms m y e w') := fun y hy hat hlt =>
    newest_any mo mc x1.heap.size ms m y HLN.out.1 HLN.out.2.2.1 HLN.out.2.2.2 (HMX.out.1.same_below hy) hat hlt
  have HW1 : Hid (∀ (y : World) (po : Option Addr) (pc : Nat), Below x1.heap.size x1 y → MRow y po (put1 m ms) → Calls Yba.prog 27 #[.pointer (some ⟨V, 0, none⟩), .slice po (put1 m ms).length pc, .slice lo ls.length lc] y fun e w' => WithPost V i1 i2 ep au (.slice lo ls.length lc) (kept ls (put1 m ms)) ms y e w') := fun y po pc hy hp =>
    withMembers_any V i1 i2 ep au mo lo po mc lc pc ms ls (put1 m ms) y (KX.out.below hy hVx) (HMX.out.1.same_below hy) (HMX.out.2.same_below hy) hp HI.out (by have := HLN.out; omega) (by have := HLN.out; omega) (by have := HLN.out; have := put1_len m ms; omega)
  clear hx1 hD kD hb1
  have HY : Hid (Below x1.heap.size x1 (x1.alloc (.cells #[.int .i64 m.id, .int .i64 m.idx, .int .u64 m.seq] 106)).drew ∧ MAt (x1.alloc (.cells #[.int .i64 m.id, .int .i64 m.idx, .int .u64 m.seq] 106)).drew x1.heap.size 0 m ∧ x1.heap.size < (x1.alloc (.cells #[.int .i64 m.id, .int .i64 m.idx, .int .u64 m.seq] 106)).drew.heap.size) :=
    ⟨below_same ((Below.refl _ _).alloc (Nat.le_refl _) _) rfl rfl rfl rfl, ⟨(Blk.new x1 _ 106).cell 0, (Blk.new x1 _ 106).cell 1, (Blk.new x1 _ 106).cell 2⟩, (Blk.new x1 _ 106).lt⟩
  go_region_held3 (fun w' => w'.cell? ⟨V, 10, none⟩ = some (.slice mo ms.length mc) ∧ w'.cell? ⟨V, 11, none⟩ = some (.slice lo ls.length lc) ∧ w'.cell? ⟨D, 0, none⟩ = some (.int .i64 m.id) ∧ w'.cell? ⟨D, 1, none⟩ = some (.int .i64 m.idx) ∧ w'.cell? ⟨D, 2, none⟩ = some (.int .u64 m.seq))
    (first | go_keep | (exact ⟨(cell_below hq3.out hVx _).trans HC0.out.1, (cell_below hq3.out hVx _).trans HC0.out.2.1, (cell_below hq3.out hDx _).trans HC0.out.2.2.1, (cell_below hq3.out hDx _).trans HC0.out.2.2.2.1, (cell_below hq3.out hDx _).trans HC0.out.2.2.2.2⟩) | (exact ⟨(cell_below hq.out hVx _).trans HC0.out.1, (cell_below hq.out hVx _).trans HC0.out.2.1, (cell_below hq.out hDx _).trans HC0.out.2.2.1, (cell_below hq.out hDx _).trans HC0.out.2.2.2.1, (cell_below hq.out hDx _).trans HC0.out.2.2.2.2⟩))
    (first | (go_at_call 28; refine (HN1.out _ HY.out.1 HY.out.2.1 HY.out.2.2).mono ?_; rintro e w2 ⟨v, n, rfl, hown, hb2⟩; obtain ⟨po, pc, rfl, rfl, -, hrow, -⟩ := mrow_of_owns hown; have hq : Hid (Below x1.heap.size x1 w2) := HY.out.1.trans (hb2.mono HY.out.1.size); have HROW : Hid (MRow w2 po (put1 m ms)) := hrow; clear hown hb2 hrow) | (go_at_call 27; refine (HW1.out _ po pc (below_same hq.out rfl rfl rfl rfl) HROW.out).mono ?_; intro e w3 hpost; obtain ⟨R, rfl, hans⟩ := withPost_ans hpost; have hq3 : Hid (Below x1.heap.size x1 w3) := hq.out.trans (hans.1.mono hq.out.size); have HANS : Hid (WithAns V i1 i2 ep au (.slice lo ls.length lc) (kept ls (put1 m ms)) ms w2 R w3) := hans; clear hpost hans))
  go_wp2_with fail
  go_ret
  exact ⟨R, rfl, withAns_up HB1.out (withAns_up hq.out HANS.out)⟩
end Go.Proofs.Ybulkause
