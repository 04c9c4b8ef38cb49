/-
  The proof of 'Rows.LawS2306BSettleSaid'.
-/
import Derived.Test.YbulkaussRows
import Derived.Test.YbulkaussL2
import Derived.WalkKit
import Derived.ProofKit
import Derived.OpenShut
import Derived.ShutString
import Derived.ChangeOld
import Derived.Below
import Derived.DataShut
namespace Go.Proofs.Ybulkauss.lawS2306BSettle
open Go.ChangeShapes Go.WideShapes Go.ChangeAt Go.RowKit Go.Deep
open Go.ChangeMaps (open_string shut_string)

theorem own : ownKnob Yba.prog.godebug = none := by kernel_rfl
theorem laidOut : laidOutB Yba.prog = true := by kernel_rfl

theorem array6 {α : Type} {cs : Array α} (h : cs.size = 6) : ∃ c0 c1 c2 c3 c4 c5, cs = #[c0, c1, c2, c3, c4, c5] := by
  obtain ⟨l⟩ := cs
  match l, h with
  | [c0, c1, c2, c3, c4, c5], _ => exact ⟨c0, c1, c2, c3, c4, c5, rfl⟩
theorem list6 {α : Type} {cs : List α} (h : cs.length = 6) : ∃ c0 c1 c2 c3 c4 c5, cs = [c0, c1, c2, c3, c4, c5] := by
  match cs, h with
  | [c0, c1, c2, c3, c4, c5], _ => exact ⟨c0, c1, c2, c3, c4, c5, rfl⟩

theorem u8_of {a : Int} (h : (Lit.int .u8 a).wf = true) : 0 ≤ a ∧ a ≤ 255 := by
  exact (Lit.wf_int_iff _ _).1 h
theorem i64_of {a : Int} (h : (Lit.int .i64 a).wf = true) : -9223372036854775808 ≤ a ∧ a ≤ 9223372036854775807 := by
  exact (Lit.wf_int_iff _ _).1 h

theorem c5 : Yba.prog.cellsOf 5 = 1 := by kernel_rfl
theorem c23 : Yba.prog.cellsOf 23 = 6 := by kernel_rfl

set_option maxRecDepth 100000 in
/-- a struct of six bytes -/
theorem open_six {H : Type} {enc : TypeId × Value → H} {w : World} {base : Nat} {spare : Nat → Bool} {held : Bool} {r : Reach} {b0 : Nat} {v : Value} {d : DataW H} {p : List MemPlace}
    (hv : Value.okWide Yba.prog w r b0 23 v) (h : DataW.Trod enc Yba.prog w base spare held 23 v d p) :
    ∃ a0 a1 a2 a3 a4 a5 : Int, v = .agg #[.int .u8 a0, .int .u8 a1, .int .u8 a2, .int .u8 a3, .int .u8 a4, .int .u8 a5] ∧ (0 ≤ a0 ∧ a0 ≤ 255) ∧ (0 ≤ a1 ∧ a1 ≤ 255) ∧ (0 ≤ a2 ∧ a2 ≤ 255) ∧ (0 ≤ a3 ∧ a3 ≤ 255) ∧ (0 ≤ a4 ∧ a4 ≤ 255) ∧ (0 ≤ a5 ∧ a5 ≤ 255) := by
  obtain ⟨cs, rfl, hsz⟩ := okWide_struct Yba.underlying23 hv
  obtain ⟨x0, x1, x2, x3, x4, x5, rfl⟩ := array6 (hsz.trans c23)
  obtain ⟨fuel, hf⟩ := h
  obtain ⟨xs, n, _, _, _, hxl, hfs⟩ := DataW.trod_struct Yba.underlying23 hf
  obtain ⟨y0, y1, y2, y3, y4, y5, rfl⟩ := list6 hxl
  have g0 : DataW.trod enc Yba.prog w base spare held n 5 (([x0, x1, x2, x3, x4, x5].drop 0).take (Yba.prog.cellsOf 5)) = [y0, y1, y2, y3, y4, y5][0]? := by simpa [Value.cells] using hfs 0 _ rfl
  have g1 : DataW.trod enc Yba.prog w base spare held n 5 (([x0, x1, x2, x3, x4, x5].drop 1).take (Yba.prog.cellsOf 5)) = [y0, y1, y2, y3, y4, y5][1]? := by simpa [Value.cells] using hfs 1 _ rfl
  have g2 : DataW.trod enc Yba.prog w base spare held n 5 (([x0, x1, x2, x3, x4, x5].drop 2).take (Yba.prog.cellsOf 5)) = [y0, y1, y2, y3, y4, y5][2]? := by simpa [Value.cells] using hfs 2 _ rfl
  have g3 : DataW.trod enc Yba.prog w base spare held n 5 (([x0, x1, x2, x3, x4, x5].drop 3).take (Yba.prog.cellsOf 5)) = [y0, y1, y2, y3, y4, y5][3]? := by simpa [Value.cells] using hfs 3 _ rfl
  have g4 : DataW.trod enc Yba.prog w base spare held n 5 (([x0, x1, x2, x3, x4, x5].drop 4).take (Yba.prog.cellsOf 5)) = [y0, y1, y2, y3, y4, y5][4]? := by simpa [Value.cells] using hfs 4 _ rfl
  have g5 : DataW.trod enc Yba.prog w base spare held n 5 (([x0, x1, x2, x3, x4, x5].drop 5).take (Yba.prog.cellsOf 5)) = [y0, y1, y2, y3, y4, y5][5]? := by simpa [Value.cells] using hfs 5 _ rfl
  rw [c5] at g0 g1 g2 g3 g4 g5
  obtain ⟨a0, e0, _, w0⟩ := DataW.trod_int Yba.underlying5 g0
  obtain ⟨a1, e1, _, w1⟩ := DataW.trod_int Yba.underlying5 g1
  obtain ⟨a2, e2, _, w2⟩ := DataW.trod_int Yba.underlying5 g2
  obtain ⟨a3, e3, _, w3⟩ := DataW.trod_int Yba.underlying5 g3
  obtain ⟨a4, e4, _, w4⟩ := DataW.trod_int Yba.underlying5 g4
  obtain ⟨a5, e5, _, w5⟩ := DataW.trod_int Yba.underlying5 g5
  obtain rfl : x0 = .int .u8 a0 := (List.cons.inj e0).1
  obtain rfl : x1 = .int .u8 a1 := (List.cons.inj e1).1
  obtain rfl : x2 = .int .u8 a2 := (List.cons.inj e2).1
  obtain rfl : x3 = .int .u8 a3 := (List.cons.inj e3).1
  obtain rfl : x4 = .int .u8 a4 := (List.cons.inj e4).1
  obtain rfl : x5 = .int .u8 a5 := (List.cons.inj e5).1
  exact ⟨a0, a1, a2, a3, a4, a5, rfl, u8_of w0, u8_of w1, u8_of w2, u8_of w3, u8_of w4, u8_of w5⟩

set_option maxRecDepth 100000 in
theorem lifted (os : Os) (started : os.Started) (H : Type) (enc : TypeId × Value → H) :
    ReturnsInHanded {} Yba.checked os 3 .any (Rows.lawS2306BSettleSpec.pre6 enc Yba.prog Yba.f3 Rows.lawS2306BSettleRow.domain false) (Rows.lawS2306BSettleSpec.post enc Yba.prog Yba.f3 false true false false) := by
  refine returnsInHanded_of_change (C := Yba.checked) own started (by kernel_rfl) Yba.func3
    (ChangeSpec.witness6 (enc := enc) (C := Yba.checked) false ⟨#[], #[.int .u8 0, .int .u8 0, .int .u8 0, .int .u8 0, .int .u8 0, .agg #[.int .u8 0, .int .u8 0, .int .u8 0, .int .u8 0, .int .u8 0, .int .u8 0], .agg #[.int .u8 0, .int .u8 0, .int .u8 0, .int .u8 0, .int .u8 0, .int .u8 0], .int .i64 0, .int .i64 0, .int .i64 0], []⟩ 8 (by kernel_rfl) (by kernel_rfl) (by kernel_rfl) (by kernel_rfl)) ?_
  intro W base args ds gs before hval0 hW hcnd _
  have hval : ∀ (j : Nat) t v, Yba.f3.params[j]? = some t → args[j]? = some v → Value.okWide Yba.prog W .any base t v := hval0
  have hW' := hW
  obtain ⟨p, q, hA0, hV, rfl, hfz, hnd⟩ := hW
  have hA : DataW.TrodAll enc Yba.prog W 0 (fun _ => true) true Yba.f3.params.toList args.toList ds p := hA0
  rw [Yba.params3] at hA hval
  obtain ⟨v0, vs0, d0, ds0, p0, q0, hargs, rfl, rfl, h0, r0⟩ := trodAll_cons hA
  obtain ⟨v1, vs1, d1, ds1, p1, q1, rfl, rfl, rfl, h1, r1⟩ := trodAll_cons r0
  obtain ⟨v2, vs2, d2, ds2, p2, q2, rfl, rfl, rfl, h2, r2⟩ := trodAll_cons r1
  obtain ⟨v3, vs3, d3, ds3, p3, q3, rfl, rfl, rfl, h3, r3⟩ := trodAll_cons r2
  obtain ⟨v4, vs4, d4, ds4, p4, q4, rfl, rfl, rfl, h4, r4⟩ := trodAll_cons r3
  obtain ⟨v5, vs5, d5, ds5, p5, q5, rfl, rfl, rfl, h5, r5⟩ := trodAll_cons r4
  obtain ⟨v6, vs6, d6, ds6, p6, q6, rfl, rfl, rfl, h6, r6⟩ := trodAll_cons r5
  obtain ⟨v7, vs7, d7, ds7, p7, q7, rfl, rfl, rfl, h7, r7⟩ := trodAll_cons r6
  obtain ⟨v8, vs8, d8, ds8, p8, q8, rfl, rfl, rfl, h8, r8⟩ := trodAll_cons r7
  obtain ⟨v9, vs9, d9, ds9, p9, q9, rfl, rfl, rfl, h9, r9⟩ := trodAll_cons r8
  obtain ⟨rfl, rfl, rfl⟩ := trodAll_nil r9
  obtain rfl : args = #[v0, v1, v2, v3, v4, v5, v6, v7, v8, v9] := by cases args; simp_all
  obtain ⟨rfl, rfl⟩ := trodVars_none hV
  obtain ⟨a0, rfl, rfl, rfl, w0⟩ := open_int Yba.underlying5 (hval 0 5 v0 rfl rfl) h0
  obtain ⟨a1, rfl, rfl, rfl, w1⟩ := open_int Yba.underlying5 (hval 1 5 v1 rfl rfl) h1
  obtain ⟨a2, rfl, rfl, rfl, w2⟩ := open_int Yba.underlying5 (hval 2 5 v2 rfl rfl) h2
  obtain ⟨a3, rfl, rfl, rfl, w3⟩ := open_int Yba.underlying5 (hval 3 5 v3 rfl rfl) h3
  obtain ⟨a4, rfl, rfl, rfl, w4⟩ := open_int Yba.underlying5 (hval 4 5 v4 rfl rfl) h4
  obtain ⟨x0, x1, x2, x3, x4, x5, rfl, k0, k1, k2, k3, k4, k5⟩ := open_six (hval 5 23 v5 rfl rfl) h5
  obtain ⟨y0, y1, y2, y3, y4, y5, rfl, j0, j1, j2, j3, j4, j5⟩ := open_six (hval 6 23 v6 rfl rfl) h6
  obtain ⟨a7, rfl, rfl, rfl, w7⟩ := open_int Yba.underlying2 (hval 7 2 v7 rfl rfl) h7
  obtain ⟨a8, rfl, rfl, rfl, w8⟩ := open_int Yba.underlying2 (hval 8 2 v8 rfl rfl) h8
  obtain ⟨a9, rfl, rfl, rfl, w9⟩ := open_int Yba.underlying2 (hval 9 2 v9 rfl rfl) h9
  have lt5 : ∀ x ∈ p5, x.block < W.heap.size := by obtain ⟨m, hm⟩ := h5; exact DataW.trod_lt m _ _ _ hm
  have lt6 : ∀ x ∈ p6, x.block < W.heap.size := by obtain ⟨m, hm⟩ := h6; exact DataW.trod_lt m _ _ _ hm
  clear hA0 hval0
  refine (law_any W.heap.size a0 a1 a2 a3 a4 x0 x1 x2 x3 x4 x5 y0 y1 y2 y3 y4 y5 a7 a8 a9 W k0 k1 k2 k3 k4 j0 j1 j2 j3 j4 (u8_of w1) (u8_of w3) (u8_of w0) rfl (u8_of w4) (i64_of w7) (i64_of w8) (i64_of w9)).mono fun e W' ⟨he, bel⟩ => ?_
  subst he
  exact ⟨_, rfl, _, _, _, [], _, [], hW', trodAll_mk1 (shut_bool Yba.underlying4 _), (trodAll_cons_mk (shut_int Yba.underlying5 w0) (trodAll_cons_mk (shut_int Yba.underlying5 w1) (trodAll_cons_mk (shut_int Yba.underlying5 w2) (trodAll_cons_mk (shut_int Yba.underlying5 w3) (trodAll_cons_mk (shut_int Yba.underlying5 w4) (trodAll_cons_mk (Below.trod laidOut (by kernel_rfl) (of_decide_eq_true (by kernel_rfl)) h5 bel lt5) (trodAll_cons_mk (Below.trod laidOut (by kernel_rfl) (of_decide_eq_true (by kernel_rfl)) h6 bel lt6) (trodAll_cons_mk (shut_int Yba.underlying2 w7) (trodAll_cons_mk (shut_int Yba.underlying2 w8) (trodAll_cons_mk (shut_int Yba.underlying2 w9) trodAll_mk0)))))))))), rfl, bel.frame _, fun h => by cases h⟩

theorem over : Rows.lawS2306BSettleRow.holds Yba.pinned (OpenSpec.ofChange Rows.lawS2306BSettleSpec) :=
  OpenClaim.holds_of_wide 3 Yba.f3 rfl rfl rfl rfl rfl rfl rfl ⟨rfl, rfl, rfl, rfl, rfl⟩ rfl rfl rfl rfl rfl (by kernel_rfl) Yba.func3 (by kernel_rfl)
    (of_decide_eq_true (by kernel_rfl)) (by unfold Func.isWrapper; first | (rw [if_pos (by decide +kernel)]; kernel_rfl) | (rw [if_neg (by decide +kernel)]; exact ⟨rfl, rfl⟩))
    (fun os started H enc _ => lifted os started H enc)

/-- ████ THE STATEMENT ████ -/
theorem proved : Rows.LawS2306BSettleSaid := over
#print axioms proved
end Go.Proofs.Ybulkauss.lawS2306BSettle
