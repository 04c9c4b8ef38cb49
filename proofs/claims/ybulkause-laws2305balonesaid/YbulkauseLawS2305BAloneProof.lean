/-
  The proof of 'Rows.LawS2305BAloneSaid': the frame is the kit's shell for this statement, the walk is typed by hand.
-/
import Derived.Test.YbulkauseRows
import Derived.Test.YbulkauseState
import Derived.WalkKit
import Derived.ProofKit
import Derived.OpenShut
import Derived.ShutString
namespace Go.Proofs.Ybulkause.lawS2305BAlone
open Go.ChangeShapes Go.WideShapes Go.ChangeAt Go.RowKit
open Go.ChangeMaps (open_string shut_string)
set_option linter.unusedVariables false      -- a walk need not use every 'w<i>' (that an integer argument fits its kind)

theorem own : ownKnob Yba.prog.godebug = none := by kernel_rfl

/-! ### THE WALK -/
set_option maxHeartbeats 400000 in
theorem setIndex_nil (b : Nat) (idx old : Int) (w : World) (h16 : w.cell? ⟨b, 16, none⟩ = some (.int .i64 old)) (f16 : w.frozen? ⟨b, 16, none⟩ = false) (h26 : w.cell? ⟨b, 26, none⟩ = some (.pointer none)) :
    Calls Yba.prog 8 #[.pointer (some ⟨b, 0, none⟩), .int .i64 idx] w fun e w' => e = .returned (.tuple #[]) ∧ w.setCell ⟨b, 16, none⟩ (.int .i64 idx) = w' := by
  go_enter Yba.func8, Yba.ntmps8
  go_wp2_with fail
  go_end0
  exact ⟨rfl, rfl⟩
theorem setCell_st (id idx seq quiet x : Int) (fn cell succ pred : Value) (w : World) :
    (w.alloc (.cells (stCells id idx seq quiet fn cell succ pred) 135)).setCell ⟨w.heap.size, 16, none⟩ (.int .i64 x) = w.alloc (.cells (stCells id x seq quiet fn cell succ pred) 135) := by
  rw [World.setCell_alloc_new]; rfl
set_option maxHeartbeats 400000 in
set_option maxRecDepth 100000 in
theorem walk (a0 : Int) (a1 : Int) (a2 : Int) (a3 : Int) (w0 : (Lit.int .i64 a0).wf = true) (w1 : (Lit.int .u64 a1).wf = true) (w2 : (Lit.int .i64 a2).wf = true) (w3 : (Lit.int .i64 a3).wf = true) (w : World) :
    Calls Yba.prog 4 #[.int .i64 a0, .int .u64 a1, .int .i64 a2, .int .i64 a3] w fun e w' => e = .returned (.bool true) ∧ Grown w w' := by
  clear w0 w1 w2 w3
  go_enter Yba.func4, Yba.ntmps4
  go_wp2_with (first | (with_reducible refine wpList_build_at 116 _ _ _ ?hv1 (built116 (Fn.func 7) #[] #[.pointer (some ⟨w.heap.size, 0, none⟩)]) ?_; rotate_left; case hv1 => simp [Act.eval]) | (with_reducible refine wpList_build_at 135 _ _ _ ?hv2 (built135 a0 a0 a1 a3 (.func (Fn.func 7) #[] #[.pointer (some ⟨w.heap.size, 0, none⟩)])) ?_; rotate_left; case hv2 => simp [Act.eval, Act.put]))
  obtain ⟨w1, hw1⟩ : ∃ w1, w1 = w.alloc (Obj.cells #[Value.int IntKind.i64 0] 3) := ⟨_, rfl⟩
  have hsz : w1.heap.size = w.heap.size + 1 := by rw [hw1]; simp
  have hc0 : w1.cell? ⟨w.heap.size, 0, none⟩ = some (.int .i64 0) := by rw [hw1]; simp
  have hg1 : Grown w w1 := by rw [hw1]; exact (Grown.refl _).alloc _ _
  rw [← hw1, ← hsz]
  refine (setIndex_nil w1.heap.size a2 a0 _ (by rw [World.cell?_alloc_new]; rfl) (by rw [World.frozen?_alloc_new]) (by rw [World.cell?_alloc_new]; rfl)).mono ?_
  rintro e w' ⟨rfl, rfl⟩
  rw [setCell_st]
  generalize hfn : Value.func (Fn.func 7) #[] #[Value.pointer (some { block := w.heap.size, off := 0 })] = fn
  have r16 : (stCells a0 a2 a1 a3 fn (.pointer none) (.pointer none) (.pointer none))[16]? = some (.int .i64 a2) := rfl
  have r17 : (stCells a0 a2 a1 a3 fn (.pointer none) (.pointer none) (.pointer none))[17]? = some (.int .u64 a1) := rfl
  have r26 : (stCells a0 a2 a1 a3 fn (.pointer none) (.pointer none) (.pointer none))[26]? = some (.pointer none) := rfl
  have r27 : (stCells a0 a2 a1 a3 fn (.pointer none) (.pointer none) (.pointer none))[27]? = some (.pointer none) := rfl
  have r28 : (stCells a0 a2 a1 a3 fn (.pointer none) (.pointer none) (.pointer none))[28]? = some (.pointer none) := rfl
  have r31 : (stCells a0 a2 a1 a3 fn (.pointer none) (.pointer none) (.pointer none))[31]? = some (.int .i64 a3) := rfl
  clear hw1 hfn
  go_wp2_with fail
  go_ret
  exact ⟨rfl, hg1.alloc _ _⟩

/-! ### THE ROW's STEP: WRITTEN OUT: LEAVE IT -/
set_option maxRecDepth 100000 in
theorem lifted (os : Os) (started : os.Started) (H : Type) (enc : TypeId × Value → H) :
    ReturnsInHanded {} Yba.checked os 4 .any (Rows.lawS2305BAloneSpec.pre6 enc Yba.prog Yba.f4 Rows.lawS2305BAloneRow.domain false) (Rows.lawS2305BAloneSpec.post enc Yba.prog Yba.f4 false true false false) := by
  refine returnsInHanded_of_change (C := Yba.checked) own started (by kernel_rfl) Yba.func4
    (ChangeSpec.witness6 (enc := enc) (C := Yba.checked) false ⟨#[], #[.int .i64 0, .int .u64 0, .int .i64 0, .int .i64 0], []⟩ 8 (by kernel_rfl) (by kernel_rfl) (by kernel_rfl) (by kernel_rfl)) ?_
  intro W base args ds gs before hval0 hW hcnd _
  have hval : ∀ (j : Nat) t v, Yba.f4.params[j]? = some t → args[j]? = some v → Value.okWide Yba.prog W .any base t v := hval0
  have hW' := hW
  obtain ⟨p, q, hA0, hV, rfl, hfz, hnd⟩ := hW
  have hA : DataW.TrodAll enc Yba.prog W 0 (fun _ => true) true Yba.f4.params.toList args.toList ds p := hA0
  rw [Yba.params4] at hA hval
  obtain ⟨v0, vs0, d0, ds0, p0, q0, hargs, rfl, rfl, h0, r0⟩ := trodAll_cons hA
  obtain ⟨v1, vs1, d1, ds1, p1, q1, rfl, rfl, rfl, h1, r1⟩ := trodAll_cons r0
  obtain ⟨v2, vs2, d2, ds2, p2, q2, rfl, rfl, rfl, h2, r2⟩ := trodAll_cons r1
  obtain ⟨v3, vs3, d3, ds3, p3, q3, rfl, rfl, rfl, h3, r3⟩ := trodAll_cons r2
  obtain ⟨rfl, rfl, rfl⟩ := trodAll_nil r3
  obtain rfl : args = #[v0, v1, v2, v3] := by cases args; simp_all
  obtain ⟨rfl, rfl⟩ := trodVars_none hV
  obtain ⟨a0, rfl, rfl, rfl, w0⟩ := open_int Yba.underlying3 (hval 0 3 v0 rfl rfl) h0
  obtain ⟨a1, rfl, rfl, rfl, w1⟩ := open_int Yba.underlying23 (hval 1 23 v1 rfl rfl) h1
  obtain ⟨a2, rfl, rfl, rfl, w2⟩ := open_int Yba.underlying3 (hval 2 3 v2 rfl rfl) h2
  obtain ⟨a3, rfl, rfl, rfl, w3⟩ := open_int Yba.underlying3 (hval 3 3 v3 rfl rfl) h3
  clear hA0 hval0
  simp only [List.append_nil] at hW'
  refine (walk a0 a1 a2 a3 w0 w1 w2 w3 W).mono fun e W' ⟨he, hg⟩ => ?_
  subst he
  exact ⟨_, rfl, post_of_same (pa := []) (pv := []) hW' (fun _ _ _ => (trodAll_cons_mk (shut_bool Yba.underlying4 _) trodAll_mk0)) (fun sp _ => (trodAll_cons_mk (shut_int Yba.underlying3 w0) (trodAll_cons_mk (shut_int Yba.underlying23 w1) (trodAll_cons_mk (shut_int Yba.underlying3 w2) (trodAll_cons_mk (shut_int Yba.underlying3 w3) trodAll_mk0))))) (fun _ _ => rfl) rfl
    (hg.frame _) hg.2.1 (ok_one (by kernel_rfl) rfl (okWide_bool_mk Yba.underlying4 _))⟩

theorem over : Rows.lawS2305BAloneRow.holds Yba.pinned (OpenSpec.ofChange Rows.lawS2305BAloneSpec) :=
  OpenClaim.holds_of_wide 4 Yba.f4 rfl rfl rfl rfl rfl rfl rfl ⟨rfl, rfl, rfl, rfl, rfl⟩ rfl rfl rfl rfl rfl (by kernel_rfl) Yba.func4 (by kernel_rfl)
    (of_decide_eq_true (by kernel_rfl)) (by unfold Func.isWrapper; first | (rw [if_pos (by decide +kernel)]; kernel_rfl) | (rw [if_neg (by decide +kernel)]; exact ⟨rfl, rfl⟩))
    (fun os started H enc _ => lifted os started H enc)

/-- ████ THE STATEMENT ████ -/
theorem proved : Rows.LawS2305BAloneSaid :=
  over
#print axioms proved
end Go.Proofs.Ybulkause.lawS2305BAlone
