/-
  The told and tied card of 'sid.LawS2311AModel'.
-/
import Derived.Test.YbulkauvkFmtLaid
import Derived.Test.YbulkauvkFmtWalk
import Derived.Stop.JoinedTold
import Derived.Deep.SlicePairs
import Derived.OpenShut
import Derived.ShutString
import Derived.ChangeOld
namespace Go.Proofs.YbulkauvkFmt
open Go.ChangeShapes Go.WideShapes Go.ChangeAt Go.RowKit Go.Deep
open Go.Extern.Stop Go.Stop Go.Extern

theorem ownF : ownKnob Ybaf.prog.godebug = none := by kernel_rfl
theorem laidOutF : laidOutB Ybaf.prog = true := by kernel_rfl

set_option maxRecDepth 1000000 in
theorem lifted (os : Os) (started : os.Started) (H : Type) (enc : TypeId × Value → H) :
    ReturnsInTold none {} Ybaf.checked os 3 .any Input.okWide ((OpenSpec.ofChange Rows.lawS2311AModelSpec).preRow enc Ybaf.prog Ybaf.f3 Rows.lawS2311AModelRow.domain false Rows.lawS2311AModelRow.laid) (fun F => ((OpenSpec.ofChange Rows.lawS2311AModelSpec).at F).post enc Ybaf.prog Ybaf.f3 false true false false) (aloneAtReturn Ybaf.prog) nothingAlways := by
  refine returnsInTold_of_row (C := Ybaf.checked) (s := OpenSpec.ofChange Rows.lawS2311AModelSpec) (by kernel_rfl) ownF started (by kernel_rfl) Ybaf.func3
    (OpenSpec.witness_stopped_atRef (enc := enc) (C := Ybaf.checked) false { (World.holding Ybaf.prog os ⟨#[], #[], []⟩) with heap := (Array.modify (Array.modify (Array.modify (World.holding Ybaf.prog os ⟨#[], #[], []⟩).heap 3 (fun o => match o with | .cells _ t frozen => .cells pow10C t frozen | o => o)) 4 (fun o => match o with | .cells _ t frozen => .cells tab32C t frozen | o => o)) 5 (fun o => match o with | .cells _ t frozen => .cells tab64C t frozen | o => o)) } #[.slice none 0 0] rfl (by kernel_rfl) (by kernel_rfl) (by kernel_rfl) (witness_row os enc)) ?_
  intro F W base args ds gs before _ hF hval0 hW hcnd0 _ hsz0 hL _
  have hval : ∀ (j : Nat) t v, Ybaf.f3.params[j]? = some t → args[j]? = some v → Value.okWide Ybaf.prog W .any base t v := hval0
  have hW' := hW
  obtain ⟨p, q, hA0, hV, rfl, hfz, hnd⟩ := hW
  have hA : DataW.TrodAll enc Ybaf.prog W 0 (fun _ => true) true Ybaf.f3.params.toList args.toList ds p := hA0
  rw [Ybaf.params3] at hA hval
  obtain ⟨v0, vs0, d0, ds0, p0, q0, hargs, rfl, rfl, h0, r0⟩ := trodAll_cons hA
  obtain ⟨rfl, rfl, rfl⟩ := trodAll_nil r0
  obtain rfl : args = #[v0] := by cases args; simp_all
  obtain ⟨rfl, rfl⟩ := trodVars_none hV
  obtain ⟨a0, len0, cap0, rfl⟩ := okWide_slice Ybaf.underlying22 (hval 0 22 v0 rfl rfl)
  have k0 := h0
  have lt0 : ∀ x ∈ p0, x.block < W.heap.size := by obtain ⟨m, hm⟩ := k0; exact DataW.trod_lt m _ _ _ hm
  clear hA0 hval0
  have hsz : (DataW.weightsEach Ybaf.prog [22] [d0]).all (· ≤ reachBytes) = true := hsz0
  clear hsz0
  have hz : ∀ k ∈ d0.weights Ybaf.prog 22, k ≤ reachBytes := fun k hk => by
    simpa using List.all_eq_true.1 hsz k (DataW.weights_mem_each (j := 0) (t := 22) rfl rfl k hk)
  obtain ⟨fs, hlen, hrow⟩ : ∃ fs : List Fi, fs.length = len0 ∧ FRow W a0 fs := by
    obtain ⟨m, hm⟩ := h0
    exact open_files hm hz
  refine (walk F.told a0 len0 cap0 fs W hF hlen hrow).mono fun e W' ⟨he, bel⟩ => ?_
  subst he
  exact ⟨_, rfl, _, _, _, [], _, [], hW', trodAll_mk1 (shut_bool Ybaf.underlying4 _), (trodAll_cons_mk (Below.trod laidOutF (by kernel_rfl) (of_decide_eq_true (by kernel_rfl)) k0 bel lt0) trodAll_mk0), rfl, bel.frame _, fun h => by cases h⟩

theorem stopsF : Ybaf.pinned.checked.prog.stops = ["fmt.errorf"] := by kernel_rfl
theorem stopKnobsF : Ybaf.pinned.checked.prog.stopKnobs = [] := by kernel_rfl
theorem quietF (os : Os) : Stop.quiet Ybaf.pinned.checked.prog os := by
  intro k hk
  rw [stopKnobsF] at hk
  cases hk
theorem lawS2311AModel.proved : Rows.LawS2311AModelToldSaid :=
  Claim7.holds_of_told_tied_any_at .later 3 Ybaf.f3 "fmt.errorf" [] [] _ _ _ _ _ (by kernel_rfl) rfl rfl rfl laidOutF (by kernel_rfl) rfl ⟨rfl, rfl, rfl, rfl, rfl, rfl, rfl⟩ rfl rfl (by kernel_rfl) (by kernel_rfl) Ybaf.func3 (by kernel_rfl)
    (of_decide_eq_true (by kernel_rfl)) (of_decide_eq_true (by kernel_rfl)) stopsF.symm rfl stopKnobsF.symm (by kernel_rfl)
    (by kernel_rfl) (by kernel_rfl) (by kernel_rfl) (by kernel_rfl) (by kernel_rfl) (by kernel_rfl) (by kernel_rfl) (by kernel_rfl) (by kernel_rfl) rfl (by kernel_rfl) rfl rfl
    rfl rfl
    rfl (by kernel_rfl) (by kernel_rfl) (by kernel_rfl) (by decide) (by kernel_rfl) lawS2311AModel_row_tie
    (OpenClaim.moreEntering_of (by kernel_rfl) (by kernel_rfl) (by kernel_rfl) (by kernel_rfl) (by kernel_rfl) (by kernel_rfl) (by kernel_rfl) (by kernel_rfl) (by kernel_rfl) (by kernel_rfl))
    ⟨_, WideRow.started_initial, quietF _⟩
    (fun os started _ H enc _ => lifted os started H enc)
end Go.Proofs.YbulkauvkFmt
