/-
  The walks of State.putCell and setCell.
-/
import Derived.Test.YbulkausePlain
import Derived.Test.YbulkauseState
namespace Go.Proofs.Ybulkause
open Go.RowKit Go.Deep

/-- all but the blocks S and C is as it was -/
structure Else (S C : Nat) (w w' : World) : Prop where
  os : w'.os = w.os
  tape : w'.tape = w.tape
  output : w'.output = w.output
  size : w.heap.size ≤ w'.heap.size
  block : ∀ g, g < w.heap.size → g ≠ S → g ≠ C → w'.heap[g]? = w.heap[g]?
theorem Else.refl (S C : Nat) (w : World) : Else S C w w := ⟨rfl, rfl, rfl, Nat.le_refl _, fun _ _ _ _ => rfl⟩
theorem Else.set {S C : Nat} {w w' : World} (h : Else S C w w') {a : Addr} (ha : a.block = S ∨ a.block = C) (v : Value) : Else S C w (w'.setCell a v) :=
  ⟨h.os, h.tape, h.output, by simpa [World.setCell] using h.size, fun g hg h1 h2 => by
    rw [blk_setCell_other _ _ _ _ (by rcases ha with e | e <;> rw [e] <;> assumption)]; exact h.block g hg h1 h2⟩
theorem Else.same {S C : Nat} {w x y : World} (h : Else S C w x) (h1 : y.os = x.os) (h2 : y.tape = x.tape) (h3 : y.output = x.output) (h4 : y.heap = x.heap) : Else S C w y :=
  ⟨h1.trans h.os, h2.trans h.tape, h3.trans h.output, by rw [h4]; exact h.size, by rw [h4]; exact h.block⟩
theorem Else.trans {S C : Nat} {w v x : World} (h : Else S C w v) (g : Else S C v x) : Else S C w x :=
  ⟨g.os.trans h.os, g.tape.trans h.tape, g.output.trans h.output, Nat.le_trans h.size g.size, fun k hk h1 h2 => (g.block k (Nat.lt_of_lt_of_le hk h.size) h1 h2).trans (h.block k hk h1 h2)⟩
theorem Else.of_below {S C : Nat} {w w' : World} (h : Below w.heap.size w w') : Else S C w w' := ⟨h.os, h.tape, h.output, h.size, fun g hg _ _ => h.block g hg⟩
theorem Blk.else {S C : Nat} {w w' : World} {b : Nat} {c : Array Value} {t : TypeId} (h : Blk w b c t) (g : Else S C w w') (h1 : b ≠ S) (h2 : b ≠ C) : Blk w' b c t := h.of_block (g.block b h.lt h1 h2)

/-- what putCell leaves: the view V is the state's, and its neighbours' where the ids are one -/
def PutPost (S V A B C : Nat) (c id idx sq qu : Int) (ea eb : Bool) (w : World) (e : Ending) (w' : World) : Prop :=
  e = .returned (.tuple #[]) ∧ Blk w' S (stCells id idx sq qu (.func (.func 10) #[] #[.pointer (some ⟨C, 0, none⟩)]) (.pointer (some ⟨V, 0, none⟩)) (.pointer (some ⟨if ea then V else A, 0, none⟩)) (.pointer (some ⟨if eb then V else B, 0, none⟩))) 135 ∧ Blk w' C #[.int .i64 (c + 1)] 3 ∧ Else S C w w'

set_option maxHeartbeats 1600000 in
set_option maxRecDepth 100000 in
theorem putCell_any (S V A B C : Nat) (c i1 i2 a2 b2 id idx sq qu : Int) (x26 : Value) (w : World)
    (kS : Blk w S (stCells id idx sq qu (.func (.func 10) #[] #[.pointer (some ⟨C, 0, none⟩)]) x26 (.pointer (some ⟨A, 0, none⟩)) (.pointer (some ⟨B, 0, none⟩))) 135) (kC : Blk w C #[.int .i64 c] 3)
    (hV0 : w.cell? ⟨V, 0, none⟩ = some (.int .i64 i1)) (hV1 : w.cell? ⟨V, 1, none⟩ = some (.int .u64 i2)) (hA0 : w.cell? ⟨A, 0, none⟩ = some (.int .i64 i1)) (hA1 : w.cell? ⟨A, 1, none⟩ = some (.int .u64 a2)) (hB0 : w.cell? ⟨B, 0, none⟩ = some (.int .i64 i1)) (hB1 : w.cell? ⟨B, 1, none⟩ = some (.int .u64 b2))
    (_qV : V ≠ S) (_qA : A ≠ S) (_qB : B ≠ S) (qC : C ≠ S) (hb0 : 0 ≤ c) (hb1 : c ≤ 1000) :
    Calls Yba.prog 26 #[.pointer (some ⟨S, 0, none⟩), .pointer (some ⟨V, 0, none⟩)] w fun e w' => PutPost S V A B C c id idx sq qu (a2 == i2) (b2 == i2) w e w' := by
  have h26 : w.cell? ⟨S, 26, none⟩ = some x26 := kS.cell 26
  have f26 : w.frozen? ⟨S, 26, none⟩ = false := kS.frozen 26
  have h27 : w.cell? ⟨S, 27, none⟩ = some (.pointer (some ⟨A, 0, none⟩)) := kS.cell 27
  have f27 : w.frozen? ⟨S, 27, none⟩ = false := kS.frozen 27
  have h28 : w.cell? ⟨S, 28, none⟩ = some (.pointer (some ⟨B, 0, none⟩)) := kS.cell 28
  have f28 : w.frozen? ⟨S, 28, none⟩ = false := kS.frozen 28
  have KS : Hid (Blk w S (stCells id idx sq qu (.func (.func 10) #[] #[.pointer (some ⟨C, 0, none⟩)]) x26 (.pointer (some ⟨A, 0, none⟩)) (.pointer (some ⟨B, 0, none⟩))) 135) := kS
  have KC : Hid (Blk w C #[.int .i64 c] 3) := kC
  have HB : Hid (0 ≤ c ∧ c ≤ 1000) := ⟨hb0, hb1⟩
  have QC : Hid (C ≠ S) := qC
  clear kS kC hb0 hb1 qC
  have y1 : (i1 == i1) = true := by simp
  by_cases ha2 : a2 = i2
  · by_cases hb2 : b2 = i2
    · --
      have ya2 : (a2 == i2) = true := by simp [ha2]
      have yb2 : (b2 == i2) = true := by simp [hb2]
      rw [ya2, yb2]
      clear ha2 hb2
      go_enter Yba.func26, Yba.ntmps26
      go_upto_region 1 with fail
      go_quiet (fail)
      go_upto_region 3 with fail
      go_quiet (fail)
      go_wp2_with fail
      have jS := ((KS.out.set 26 (.pointer (some ⟨V, 0, none⟩))).set 27 (.pointer (some ⟨V, 0, none⟩))).set 28 (.pointer (some ⟨V, 0, none⟩))
      have jC := ((KC.out.setOther (a := ⟨S, 26, none⟩) QC.out (.pointer (some ⟨V, 0, none⟩))).setOther (a := ⟨S, 27, none⟩) QC.out (.pointer (some ⟨V, 0, none⟩))).setOther (a := ⟨S, 28, none⟩) QC.out (.pointer (some ⟨V, 0, none⟩))
      have jE := (((Else.refl S C w).set (a := ⟨S, 26, none⟩) (.inl rfl) (.pointer (some ⟨V, 0, none⟩))).set (a := ⟨S, 27, none⟩) (.inl rfl) (.pointer (some ⟨V, 0, none⟩))).set (a := ⟨S, 28, none⟩) (.inl rfl) (.pointer (some ⟨V, 0, none⟩))
      refine (changed_any S C c _ (by exact jS.cell 13) (by exact jC.cell 0) (by exact jC.frozen 0) HB.out).mono ?_
      rintro e w' ⟨rfl, rfl⟩
      go_wp2_with fail
      go_end0
      exact ⟨rfl, by exact jS.setOther (a := ⟨C, 0, none⟩) (Ne.symm QC.out) _, by exact jC.set 0 _, (jE.set (a := ⟨C, 0, none⟩) (.inr rfl) _).same rfl rfl rfl rfl⟩
    · --
      have ya2 : (a2 == i2) = true := by simp [ha2]
      have yb2 : (b2 == i2) = false := by simp [hb2]
      rw [ya2, yb2]
      clear ha2 hb2
      go_enter Yba.func26, Yba.ntmps26
      go_upto_region 1 with fail
      go_quiet (fail)
      go_upto_region 3 with fail
      go_quiet (fail)
      go_wp2_with fail
      have jS := (KS.out.set 26 (.pointer (some ⟨V, 0, none⟩))).set 27 (.pointer (some ⟨V, 0, none⟩))
      have jC := (KC.out.setOther (a := ⟨S, 26, none⟩) QC.out (.pointer (some ⟨V, 0, none⟩))).setOther (a := ⟨S, 27, none⟩) QC.out (.pointer (some ⟨V, 0, none⟩))
      have jE := ((Else.refl S C w).set (a := ⟨S, 26, none⟩) (.inl rfl) (.pointer (some ⟨V, 0, none⟩))).set (a := ⟨S, 27, none⟩) (.inl rfl) (.pointer (some ⟨V, 0, none⟩))
      refine (changed_any S C c _ (by exact jS.cell 13) (by exact jC.cell 0) (by exact jC.frozen 0) HB.out).mono ?_
      rintro e w' ⟨rfl, rfl⟩
      go_wp2_with fail
      go_end0
      exact ⟨rfl, by exact jS.setOther (a := ⟨C, 0, none⟩) (Ne.symm QC.out) _, by exact jC.set 0 _, (jE.set (a := ⟨C, 0, none⟩) (.inr rfl) _).same rfl rfl rfl rfl⟩
  · by_cases hb2 : b2 = i2
    · --
      have ya2 : (a2 == i2) = false := by simp [ha2]
      have yb2 : (b2 == i2) = true := by simp [hb2]
      rw [ya2, yb2]
      clear ha2 hb2
      go_enter Yba.func26, Yba.ntmps26
      go_upto_region 1 with fail
      go_quiet (fail)
      go_upto_region 3 with fail
      go_quiet (fail)
      go_wp2_with fail
      have jS := (KS.out.set 26 (.pointer (some ⟨V, 0, none⟩))).set 28 (.pointer (some ⟨V, 0, none⟩))
      have jC := (KC.out.setOther (a := ⟨S, 26, none⟩) QC.out (.pointer (some ⟨V, 0, none⟩))).setOther (a := ⟨S, 28, none⟩) QC.out (.pointer (some ⟨V, 0, none⟩))
      have jE := ((Else.refl S C w).set (a := ⟨S, 26, none⟩) (.inl rfl) (.pointer (some ⟨V, 0, none⟩))).set (a := ⟨S, 28, none⟩) (.inl rfl) (.pointer (some ⟨V, 0, none⟩))
      refine (changed_any S C c _ (by exact jS.cell 13) (by exact jC.cell 0) (by exact jC.frozen 0) HB.out).mono ?_
      rintro e w' ⟨rfl, rfl⟩
      go_wp2_with fail
      go_end0
      exact ⟨rfl, by exact jS.setOther (a := ⟨C, 0, none⟩) (Ne.symm QC.out) _, by exact jC.set 0 _, (jE.set (a := ⟨C, 0, none⟩) (.inr rfl) _).same rfl rfl rfl rfl⟩
    · --
      have ya2 : (a2 == i2) = false := by simp [ha2]
      have yb2 : (b2 == i2) = false := by simp [hb2]
      rw [ya2, yb2]
      clear ha2 hb2
      go_enter Yba.func26, Yba.ntmps26
      go_upto_region 1 with fail
      go_quiet (fail)
      go_upto_region 3 with fail
      go_quiet (fail)
      go_wp2_with fail
      have jS := KS.out.set 26 (.pointer (some ⟨V, 0, none⟩))
      have jC := KC.out.setOther (a := ⟨S, 26, none⟩) QC.out (.pointer (some ⟨V, 0, none⟩))
      have jE := (Else.refl S C w).set (a := ⟨S, 26, none⟩) (.inl rfl) (.pointer (some ⟨V, 0, none⟩))
      refine (changed_any S C c _ (by exact jS.cell 13) (by exact jC.cell 0) (by exact jC.frozen 0) HB.out).mono ?_
      rintro e w' ⟨rfl, rfl⟩
      go_wp2_with fail
      go_end0
      exact ⟨rfl, by exact jS.setOther (a := ⟨C, 0, none⟩) (Ne.symm QC.out) _, by exact jC.set 0 _, (jE.set (a := ⟨C, 0, none⟩) (.inr rfl) _).same rfl rfl rfl rfl⟩

theorem size148 : (Yba.prog.info? 148).map (·.size) = some 12 := by kernel_rfl
theorem info148 : ∃ j, Yba.prog.info? 148 = some j ∧ j.size ≠ 0 := by
  have h := size148
  cases hi : Yba.prog.info? 148 with
  | none => rw [hi] at h; cases h
  | some i => rw [hi] at h; simp at h; exact ⟨i, rfl, by omega⟩

set_option maxHeartbeats 800000 in
set_option maxRecDepth 100000 in
/-- setCell with the state's own view -/
theorem setCell_same (S V : Nat) (w : World) (h26 : w.cell? ⟨S, 26, none⟩ = some (.pointer (some ⟨V, 0, none⟩))) :
    Calls Yba.prog 17 #[.pointer (some ⟨S, 0, none⟩), .pointer (some ⟨V, 0, none⟩)] w fun e w' => e = .returned (.tuple #[]) ∧ w = w' := by
  obtain ⟨j, hj, _⟩ := info148
  have hne := run_neq_ptr_same (P := Yba.prog) w (tp := 118) (te := 148) (j := j) ⟨V, 0, none⟩ Yba.underlying118 hj
  clear hj
  go_enter Yba.func17, Yba.ntmps17
  go_wp2_with fail
  go_end0
  exact ⟨rfl, rfl⟩

theorem cell_set_other (w : World) (a : Addr) (v : Value) (g o : Nat) (h : g ≠ a.block) : (w.setCell a v).cell? ⟨g, o, none⟩ = w.cell? ⟨g, o, none⟩ := by
  simp only [World.cell?, blk_setCell_other _ _ _ _ h]

set_option maxHeartbeats 800000 in
set_option maxRecDepth 100000 in
/-- setCell with another view -/
theorem setCell_other (S V N A B C : Nat) (c i1 i2 a2 b2 id idx sq qu : Int) (cv cn : Array Value) (w : World)
    (kS : Blk w S (stCells id idx sq qu (.func (.func 10) #[] #[.pointer (some ⟨C, 0, none⟩)]) (.pointer (some ⟨V, 0, none⟩)) (.pointer (some ⟨A, 0, none⟩)) (.pointer (some ⟨B, 0, none⟩))) 135) (kC : Blk w C #[.int .i64 c] 3)
    (kV : Blk w V cv 148) (kN : Blk w N cn 148) (hNV : N ≠ V)
    (hV0 : w.cell? ⟨N, 0, none⟩ = some (.int .i64 i1)) (hV1 : w.cell? ⟨N, 1, none⟩ = some (.int .u64 i2)) (hA0 : w.cell? ⟨A, 0, none⟩ = some (.int .i64 i1)) (hA1 : w.cell? ⟨A, 1, none⟩ = some (.int .u64 a2)) (hB0 : w.cell? ⟨B, 0, none⟩ = some (.int .i64 i1)) (hB1 : w.cell? ⟨B, 1, none⟩ = some (.int .u64 b2))
    (qV : N ≠ S) (qA : A ≠ S) (qB : B ≠ S) (qC : C ≠ S) (hb0 : 0 ≤ c) (hb1 : c ≤ 1000) :
    Calls Yba.prog 17 #[.pointer (some ⟨S, 0, none⟩), .pointer (some ⟨N, 0, none⟩)] w fun e w' => PutPost S N A B C c id idx sq 0 (a2 == i2) (b2 == i2) w e w' := by
  have h26 : w.cell? ⟨S, 26, none⟩ = some (.pointer (some ⟨V, 0, none⟩)) := kS.cell 26
  have h31 : w.cell? ⟨S, 31, none⟩ = some (.int .i64 qu) := kS.cell 31
  have f31 : w.frozen? ⟨S, 31, none⟩ = false := kS.frozen 31
  have jS : Blk (w.setCell ⟨S, 31, none⟩ (.int .i64 0)) S (stCells id idx sq 0 (.func (.func 10) #[] #[.pointer (some ⟨C, 0, none⟩)]) (.pointer (some ⟨V, 0, none⟩)) (.pointer (some ⟨A, 0, none⟩)) (.pointer (some ⟨B, 0, none⟩))) 135 := kS.set 31 _
  have jC : Blk (w.setCell ⟨S, 31, none⟩ (.int .i64 0)) C #[.int .i64 c] 3 := kC.setOther qC _
  have hput := putCell_any S N A B C c i1 i2 a2 b2 id idx sq 0 _ _ jS jC ((cell_set_other _ _ _ _ _ qV).trans hV0) ((cell_set_other _ _ _ _ _ qV).trans hV1) ((cell_set_other _ _ _ _ _ qA).trans hA0) ((cell_set_other _ _ _ _ _ qA).trans hA1) ((cell_set_other _ _ _ _ _ qB).trans hB0) ((cell_set_other _ _ _ _ _ qB).trans hB1) qV qA qB qC hb0 hb1
  have jE : Else S C w (w.setCell ⟨S, 31, none⟩ (.int .i64 0)) := (Else.refl S C w).set (.inl rfl) _
  obtain ⟨j, hj, hsz⟩ : ∃ j, Yba.prog.info? 148 = some j ∧ j.size ≠ 0 := info148
  have hne := run_neq_ptr_other (P := Yba.prog) w (tp := 118) (te := 148) (j := j) (a := ⟨N, 0, none⟩) (b := ⟨V, 0, none⟩) Yba.underlying118 hj hsz (by intro e; injection e with e; exact hNV e) kN kV
  clear hj hsz jS jC kS kC kV kN
  go_enter Yba.func17, Yba.ntmps17
  go_wp2_with fail
  refine hput.mono ?_
  rintro e w' ⟨rfl, hres⟩
  have HRS := (show Hid _ from hres)
  clear hres
  go_wp2_with fail
  go_end0
  exact ⟨rfl, HRS.out.1, HRS.out.2.1, jE.trans HRS.out.2.2⟩
end Go.Proofs.Ybulkause
