/-
  The walk of State.SetIndex, in a cell.
-/
import Derived.Test.YbulkauseSet
namespace Go.Proofs.Ybulkause
open Go.RowKit Go.Deep
attribute [local go_sem ↓] Go.wp_at_zero Go.wp_at_succ

/-- the state, its counter, the cell's view and what they are -/
def fnC (C : Nat) : Value := .func (.func 10) #[] #[.pointer (some ⟨C, 0, none⟩)]
def SetSame (S V A B C : Nat) (id index sq' qu : Int) (w w' : World) : Prop :=
  Blk w' S (stCells id index sq' qu (fnC C) (.pointer (some ⟨V, 0, none⟩)) (.pointer (some ⟨A, 0, none⟩)) (.pointer (some ⟨B, 0, none⟩))) 135 ∧ Blk w' C #[.int .i64 0] 3 ∧ Else S C w w'
def SetOther (S A B C : Nat) (id index sq' i1 i2 ep au a2 b2 : Int) (lv : Value) (ex : List Mb) (w w' : World) : Prop :=
  ∃ N mv, w.heap.size ≤ N ∧ Blk w' S (stCells id index sq' 0 (fnC C) (.pointer (some ⟨N, 0, none⟩)) (.pointer (some ⟨if a2 == i2 then N else A, 0, none⟩)) (.pointer (some ⟨if b2 == i2 then N else B, 0, none⟩))) 135 ∧ Blk w' C #[.int .i64 1] 3 ∧
    Blk w' N (vwCells i1 i2 ep au mv lv) 148 ∧ w'.ownsRow w.heap.size 106 3 mv ex.length (mcells ex) ∧ Else S C w w'
def SetPost (S V A B C : Nat) (id index sq' qu i1 i2 ep au a2 b2 : Int) (lv : Value) (ex ms : List Mb) (w : World) (e : Ending) (w' : World) : Prop :=
  e = .returned (.tuple #[]) ∧ ((sameB ex ms = true ∧ SetSame S V A B C id index sq' qu w w') ∨ (sameB ex ms = false ∧ SetOther S A B C id index sq' i1 i2 ep au a2 b2 lv ex w w'))

theorem owns_else {S C B : Nat} {w w' : World} {v : Value} {n : Nat} {l : List Value} (h : w.ownsRow B 106 3 v n l) (g : Else S C w w') (hS : S < B) (hC : C < B) : w'.ownsRow B 106 3 v n l := by
  obtain ⟨hl, h | ⟨k, cap, cur, hv, hb, hg, h2⟩⟩ := h
  · exact ⟨hl, .inl h⟩
  · exact ⟨hl, .inr ⟨k, cap, cur, hv, hb, (g.block k (Array.getElem?_eq_some_iff.1 hg).1 (by omega) (by omega)).trans hg, h2⟩⟩
theorem MRow.else {S C : Nat} {w w' : World} {ao : Option Addr} {ms : List Mb} (h : MRow w ao ms) (g : Else S C w w') (hne : ∀ b o, ao = some ⟨b, o, none⟩ → b ≠ S ∧ b ≠ C) : MRow w' ao ms := fun hl => by
  obtain ⟨b, o, rfl, hg, hm⟩ := h hl
  exact ⟨b, o, rfl, Nat.lt_of_lt_of_le hg g.size, fun j m hj => (hm j m hj).keep (fun o' => by simp only [World.cell?, g.block b hg (hne b o rfl).1 (hne b o rfl).2])⟩
theorem cell_else {S C : Nat} {w w' : World} (g : Else S C w w') {b : Nat} (hb : b < w.heap.size) (h1 : b ≠ S) (h2 : b ≠ C) (o : Nat) : w'.cell? ⟨b, o, none⟩ = w.cell? ⟨b, o, none⟩ := by
  simp only [World.cell?, g.block b hb h1 h2]

theorem setCell_ans (S V A B C R : Nat) (id index sq' qu i1 i2 ep au a2 b2 : Int) (lv mv0 : Value) (ex ms : List Mb) (ca cb : Array Value) (u y : World) (hans : WithAns V i1 i2 ep au lv ex ms u R y)
    (kS : Blk u S (stCells id index sq' qu (fnC C) (.pointer (some ⟨V, 0, none⟩)) (.pointer (some ⟨A, 0, none⟩)) (.pointer (some ⟨B, 0, none⟩))) 135) (kC : Blk u C #[.int .i64 0] 3)
    (kV : Blk u V (vwCells i1 i2 ep au mv0 lv) 148) (kA : Blk u A ca 148) (kB : Blk u B cb 148) (ha : ca[0]? = some (.int .i64 i1) ∧ ca[1]? = some (.int .u64 a2)) (hb : cb[0]? = some (.int .i64 i1) ∧ cb[1]? = some (.int .u64 b2))
    (hne : V ≠ S ∧ V ≠ C ∧ A ≠ S ∧ A ≠ C ∧ B ≠ S ∧ B ≠ C ∧ C ≠ S) :
    Calls Yba.prog 17 #[.pointer (some ⟨S, 0, none⟩), .pointer (some ⟨R, 0, none⟩)] y fun e w' => SetPost S V A B C id index sq' qu i1 i2 ep au a2 b2 lv ex ms u e w' := by
  obtain ⟨hbel, h⟩ := hans
  have jS := kS.below hbel kS.lt
  have jC := kC.below hbel kC.lt
  have jV := kV.below hbel kV.lt
  have jA := kA.below hbel kA.lt
  have jB := kB.below hbel kB.lt
  obtain ⟨hs, rfl⟩ | ⟨hs, hN, mv, hk, ho⟩ := h
  · refine (setCell_same S R y (jS.cell 26)).mono ?_
    rintro e w' ⟨rfl, rfl⟩
    exact ⟨rfl, .inl ⟨hs, jS, jC, Else.of_below hbel⟩⟩
  · have hSu := kS.lt
    have hCu := kC.lt
    have hVu := kV.lt
    refine (setCell_other S V R A B C 0 i1 i2 a2 b2 id index sq' qu _ _ y jS jC jV hk (by omega) (hk.cell 0) (hk.cell 1) ((jA.cell 0).trans ha.1) ((jA.cell 1).trans ha.2) ((jB.cell 0).trans hb.1) ((jB.cell 1).trans hb.2) (by omega) hne.2.2.1 hne.2.2.2.2.1 hne.2.2.2.2.2.2 (by omega) (by omega)).mono ?_
    rintro e w' ⟨rfl, g1, g2, g3⟩
    exact ⟨rfl, .inr ⟨hs, R, mv, hN, g1, g2, hk.else g3 (by omega) (by omega), owns_else ho g3 hSu hCu, (Else.of_below hbel).trans g3⟩⟩
theorem setPost_up {S V A B C : Nat} {id index sq' qu i1 i2 ep au a2 b2 : Int} {lv : Value} {ex ms : List Mb} {w u : World} {e : Ending} {w' : World} (hE : Else S C w u) (h : SetPost S V A B C id index sq' qu i1 i2 ep au a2 b2 lv ex ms u e w') : SetPost S V A B C id index sq' qu i1 i2 ep au a2 b2 lv ex ms w e w' := by
  obtain ⟨he, ⟨hs, h1, h2, h3⟩ | ⟨hs, N, mv, hN, h1, h2, h3, h4, h5⟩⟩ := h
  · exact ⟨he, .inl ⟨hs, h1, h2, hE.trans h3⟩⟩
  · exact ⟨he, .inr ⟨hs, N, mv, Nat.le_trans hE.size hN, h1, h2, h3, owns_le h4 hE.size, hE.trans h5⟩⟩
theorem setPost_drew {S V A B C : Nat} {id index sq' qu i1 i2 ep au a2 b2 : Int} {lv : Value} {ex ms : List Mb} {w : World} {e : Ending} {w' y : World} (h : SetPost S V A B C id index sq' qu i1 i2 ep au a2 b2 lv ex ms w e w') (g1 : y.heap = w'.heap) (g2 : y.os = w'.os) (g3 : y.tape = w'.tape) (g4 : y.output = w'.output) : SetPost S V A B C id index sq' qu i1 i2 ep au a2 b2 lv ex ms w e y := by
  obtain ⟨he, ⟨hs, h1, h2, h3⟩ | ⟨hs, N, mv, hN, h1, h2, h3, h4, h5⟩⟩ := h
  · exact ⟨he, .inl ⟨hs, h1.of_block (by rw [g1]), h2.of_block (by rw [g1]), h3.same g2 g3 g4 g1⟩⟩
  · exact ⟨he, .inr ⟨hs, N, mv, hN, h1.of_block (by rw [g1]), h2.of_block (by rw [g1]), h3.of_block (by rw [g1]), owns_kept h4 (fun _ _ => by rw [g1]), h5.same g2 g3 g4 g1⟩⟩

set_option maxHeartbeats 1600000 in
set_option maxRecDepth 100000 in
theorem setIndex_any (S V A B C : Nat) (id idx0 index sq sq' qu i1 i2 ep au a2 b2 : Int) (mo lo : Option Addr) (mc lc : Nat) (ms ls : List Mb) (ca cb : Array Value) (w : World)
    (hsq : IntKind.u64.wrap (sq + 1) = sq')
    (kS : Blk w S (stCells id idx0 sq qu (fnC C) (.pointer (some ⟨V, 0, none⟩)) (.pointer (some ⟨A, 0, none⟩)) (.pointer (some ⟨B, 0, none⟩))) 135) (kC : Blk w C #[.int .i64 0] 3)
    (kV : Blk w V (vwCells i1 i2 ep au (.slice mo ms.length mc) (.slice lo ls.length lc)) 148) (kA : Blk w A ca 148) (kB : Blk w B cb 148) (ha : ca[0]? = some (.int .i64 i1) ∧ ca[1]? = some (.int .u64 a2)) (hb : cb[0]? = some (.int .i64 i1) ∧ cb[1]? = some (.int .u64 b2))
    (hm : MRow w mo ms) (hl : MRow w lo ls) (hI : Inc ls) (hlm : ms.length ≤ 1024) (hll : ls.length ≤ 1024) (hmc : ms.length ≤ mc) (hmc2 : mc ≤ maxLen)
    (hne : V ≠ S ∧ V ≠ C ∧ A ≠ S ∧ A ≠ C ∧ B ≠ S ∧ B ≠ C ∧ C ≠ S) (hmn : ∀ b o, mo = some ⟨b, o, none⟩ → b ≠ S ∧ b ≠ C) (hln : ∀ b o, lo = some ⟨b, o, none⟩ → b ≠ S ∧ b ≠ C) :
    Calls Yba.prog 8 #[.pointer (some ⟨S, 0, none⟩), .int .i64 index] w fun e w' => SetPost S V A B C id index sq' qu i1 i2 ep au a2 b2 (.slice lo ls.length lc) (kept ls (put1 ⟨id, index, sq'⟩ ms)) ms w e w' := by
  obtain ⟨u, hu⟩ : ∃ u, u = (w.setCell ⟨S, 16, none⟩ (.int .i64 index)).setCell ⟨S, 17, none⟩ (.int .u64 sq') := ⟨_, rfl⟩
  have h16 : w.cell? ⟨S, 16, none⟩ = some (.int .i64 idx0) := kS.cell 16
  have f16 : w.frozen? ⟨S, 16, none⟩ = false := kS.frozen 16
  have h17 : w.cell? ⟨S, 17, none⟩ = some (.int .u64 sq) := kS.cell 17
  have f17 : w.frozen? ⟨S, 17, none⟩ = false := kS.frozen 17
  have h26 : w.cell? ⟨S, 26, none⟩ = some (.pointer (some ⟨V, 0, none⟩)) := kS.cell 26
  have HM : Hid (MRow w mo ms ∧ MRow w lo ls ∧ Inc ls) := ⟨hm, hl, hI⟩
  have HNE : Hid (V ≠ S ∧ V ≠ C ∧ A ≠ S ∧ A ≠ C ∧ B ≠ S ∧ B ≠ C ∧ C ≠ S) := hne
  have HNR : Hid ((∀ b o, mo = some ⟨b, o, none⟩ → b ≠ S ∧ b ≠ C) ∧ (∀ b o, lo = some ⟨b, o, none⟩ → b ≠ S ∧ b ≠ C)) := ⟨hmn, hln⟩
  have HU : Hid (u = (w.setCell ⟨S, 16, none⟩ (.int .i64 index)).setCell ⟨S, 17, none⟩ (.int .u64 sq')) := hu
  have KS : Hid (Blk w S (stCells id idx0 sq qu (fnC C) (.pointer (some ⟨V, 0, none⟩)) (.pointer (some ⟨A, 0, none⟩)) (.pointer (some ⟨B, 0, none⟩))) 135) := kS
  have KC : Hid (Blk w C #[.int .i64 0] 3 ∧ Blk w V (vwCells i1 i2 ep au (.slice mo ms.length mc) (.slice lo ls.length lc)) 148 ∧ Blk w A ca 148 ∧ Blk w B cb 148) := ⟨kC, kV, kA, kB⟩
  clear kS kC kV kA kB hm hl hI hne hmn hln hu
  go_enter Yba.func8, Yba.ntmps8
  go_upto_region 3 with fail
  rw [← HU.out]
  have kSu : Blk u S (stCells id index sq' qu (fnC C) (.pointer (some ⟨V, 0, none⟩)) (.pointer (some ⟨A, 0, none⟩)) (.pointer (some ⟨B, 0, none⟩))) 135 := by rw [HU.out]; exact (KS.out.set 16 _).set 17 _
  have hE : Else S C w u := by rw [HU.out]; exact ((Else.refl S C w).set (.inl rfl) _).set (.inl rfl) _
  have kCu : Blk u C #[.int .i64 0] 3 := by rw [HU.out]; exact (KC.out.1.setOther HNE.out.2.2.2.2.2.2 _).setOther HNE.out.2.2.2.2.2.2 _
  have kVu := KC.out.2.1.else hE HNE.out.1 HNE.out.2.1
  have kAu := KC.out.2.2.1.else hE HNE.out.2.2.1 HNE.out.2.2.2.1
  have kBu := KC.out.2.2.2.else hE HNE.out.2.2.2.2.1 HNE.out.2.2.2.2.2.1
  have hmu := HM.out.1.else hE HNR.out.1
  have hlu := HM.out.2.1.else hE HNR.out.2
  have HWI : Hid (∀ y, Below u.heap.size u y → Calls Yba.prog 18 #[.pointer (some ⟨V, 0, none⟩), .agg #[.int .i64 id, .int .i64 index, .int .u64 sq']] y fun e w' => ∃ R, e = .returned (.pointer (some ⟨R, 0, none⟩)) ∧ WithAns V i1 i2 ep au (.slice lo ls.length lc) (kept ls (put1 ⟨id, index, sq'⟩ ms)) ms y R w') := fun y hy =>
    with_any V i1 i2 ep au mo lo mc lc ms ls ⟨id, index, sq'⟩ y (kVu.below hy kVu.lt) (hmu.same_below hy) (hlu.same_below hy) HM.out.2.2 hlm hll hmc hmc2
  have HSC : Hid (∀ R y, WithAns V i1 i2 ep au (.slice lo ls.length lc) (kept ls (put1 ⟨id, index, sq'⟩ ms)) ms u R y → Calls Yba.prog 17 #[.pointer (some ⟨S, 0, none⟩), .pointer (some ⟨R, 0, none⟩)] y fun e w' => SetPost S V A B C id index sq' qu i1 i2 ep au a2 b2 (.slice lo ls.length lc) (kept ls (put1 ⟨id, index, sq'⟩ ms)) ms u e w') := fun R y hans =>
    setCell_ans S V A B C R id index sq' qu i1 i2 ep au a2 b2 _ _ _ ms ca cb u y hans kSu kCu kVu kAu kBu ha hb HNE.out
  have HE : Hid (Else S C w u) := hE
  have s0 : u.cell? ⟨S, 0, none⟩ = some (.int .i64 id) := kSu.cell 0
  have s16 : u.cell? ⟨S, 16, none⟩ = some (.int .i64 index) := kSu.cell 16
  have s17 : u.cell? ⟨S, 17, none⟩ = some (.int .u64 sq') := kSu.cell 17
  have s26 : u.cell? ⟨S, 26, none⟩ = some (.pointer (some ⟨V, 0, none⟩)) := kSu.cell 26
  have hSu : S < u.heap.size := kSu.lt
  have HS19 : Hid (∀ y : World, y.heap = u.heap → Calls Yba.prog 19 #[.pointer (some ⟨S, 0, none⟩)] y fun e w' => e = .returned (.agg #[.int .i64 id, .int .i64 index, .int .u64 sq']) ∧ Below y.heap.size y w') := fun y hy =>
    self_any S id index sq' y (by simp only [World.cell?, hy]; exact s0) (by simp only [World.cell?, hy]; exact s16) (by simp only [World.cell?, hy]; exact s17) (by rw [hy]; exact hSu)
  clear kSu hE kCu kVu kAu kBu hmu hlu h16 f16 h17 f17 h26 hlm hll hmc hmc2 ha hb hsq s0 s16 s17
  go_region_with (first | (go_at_call 19; refine (HS19.out _ (by rfl)).mono ?_; rintro e w1 ⟨rfl, hb1⟩; have hq1 : Hid (Below u.heap.size u w1) := below_of_drawn hb1 ⟨rfl, rfl, rfl, rfl⟩; have t26 : w1.cell? ⟨S, 26, none⟩ = some (.pointer (some ⟨V, 0, none⟩)) := (cell_below hq1.out hSu _).trans s26; clear hb1) | (go_at_call 18; refine (HWI.out _ (by exact below_same hq1.out rfl rfl rfl rfl)).mono ?_; rintro e w2 ⟨R, rfl, hans⟩; have HANS : Hid (WithAns V i1 i2 ep au (.slice lo ls.length lc) (kept ls (put1 ⟨id, index, sq'⟩ ms)) ms u R w2) := withAns_up (below_same hq1.out rfl rfl rfl rfl) hans; clear hans) | (go_at_call 17; refine (HSC.out R _ (by exact withAns_drew HANS.out rfl rfl rfl rfl)).mono ?_; rintro e w3 ⟨rfl, hres⟩; have HRES := (show Hid _ from hres); clear hres))
  all_goals
    go_wp2_with fail
    go_end0
    exact setPost_up HE.out (setPost_drew ⟨rfl, HRES.out⟩ rfl rfl rfl rfl)
end Go.Proofs.Ybulkause
