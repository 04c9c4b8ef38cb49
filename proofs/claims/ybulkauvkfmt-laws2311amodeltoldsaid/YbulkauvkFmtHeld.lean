/-
  A drawn region whose last operation is a store: what is held ('S') need not stand behind that store. After Derived/OrdersHeld.lean's law, with one operation 'st' let off, which waits for all that are taken first.
-/
import Derived.OrdersHeld
import Derived.Deep.RegionHeld3
namespace Go.Proofs.YbulkauvkFmt
open Go

section
variable {P : Program} {ops : Array Oper} {Q : Exit → Act → World → Prop} {md : Region.Mode} {S : World → Prop} {st : Nat}

/-- whatever order is picked from here on, and S holds behind every operation but st -/
def wpAnyT (P : Program) (md : Region.Mode) (ops : Array Oper) (Q : Exit → Act → World → Prop) (S : World → Prop) (st : Nat) : Nat → Array Bool → Act → World → Prop
  | 0, listed, a, w => Region.ready md ops listed = [] ∧ Q .normal a w
  | fuel + 1, listed, a, w =>
    (Region.ready md ops listed = [] → Q .normal a w) ∧
    ∀ i ∈ Region.ready md ops listed, wpOp P ops Q i (fun a' w' => (i ≠ st → S w') ∧ wpAnyT P md ops Q S st fuel (listed.setIfInBounds i true) a' w') a w

theorem wpAny_of_T : ∀ (fuel : Nat) (listed : Array Bool) (a : Act) (w : World), wpAnyT P md ops Q S st fuel listed a w → wpAny P md ops Q fuel listed a w
  | 0, _, _, _, h => h
  | fuel + 1, _, _, _, h => ⟨h.1, fun i hi => wpOp_mono (fun a' w' h' => wpAny_of_T fuel _ a' w' h'.2) (h.2 i hi)⟩

theorem wpAnyT_first {i : Nat} {oi : Oper} {v : Value} (hi : ops[i]? = some oi) (hsel : ∀ (j : Nat) (o : Oper) cs b, ops[j]? = some o → o.op ≠ .select cs b)
    (hQ : ∀ c a w, Q (.panic c) (a.put oi.dst v) w → Q (.panic c) a w) (hst : ∀ o, ops[st]? = some o → ∃ e ∈ o.after, Region.binds md e = true ∧ e.on = i) :
    ∀ (fuel : Nat) (listed : Array Bool) (a : Act) (w : World),
      (∀ j oj, ops[j]? = some oj → j ≠ i → listed.getD j true = false → (∀ e ∈ oj.after, Region.binds md e = true → e.on ≠ i) → oi.apart ops oj = true) →
      i ∈ Region.ready md ops listed → YieldsIf P ops S oi v a → S w →
      wpAnyT P md ops Q S st fuel (listed.setIfInBounds i true) (a.put oi.dst v) w → wpAnyT P md ops Q S st (fuel + 1) listed a w := by
  intro fuel
  induction fuel with
  | zero =>
    intro listed a w _ hr hy hS H
    refine ⟨fun h => (by rw [h] at hr; cases hr), fun j hj => ?_⟩
    by_cases hji : j = i
    · subst hji; exact hy.wpOp hi hS ⟨fun _ => hS, H⟩
    · have := ready_mono hj hji
      rw [H.1] at this
      cases this
  | succ fuel ih =>
    intro listed a w hfree hr hy hS H
    refine ⟨fun h => (by rw [h] at hr; cases hr), fun j hj => ?_⟩
    by_cases hji : j = i
    · subst hji; exact hy.wpOp hi hS ⟨fun _ => hS, H⟩
    · have h1 := H.2 j (ready_mono hj hji)
      obtain ⟨hjun, oj, hoj, hall⟩ := mem_ready.1 hj
      have hnot : ∀ e ∈ oj.after, Region.binds md e = true → e.on ≠ i := fun e he hb heq => by
        have h1 := hall e he hb
        have h0 := (mem_ready.1 hr).1
        rw [heq] at h1
        rcases Nat.lt_or_ge i listed.size with h' | h'
        · simp [h'] at h0 h1; rw [h0] at h1; cases h1
        · simp [Array.getElem?_eq_none h'] at h1
      have hjst : j ≠ st := fun e => by
        subst e
        obtain ⟨e, he, hb, hon⟩ := hst oj hoj
        exact hnot e he hb hon
      have h2 := wpOp_putIf hoj (hfree j oj hoj hji hjun hnot) (fun cs b => hsel i oi cs b hi) (fun cs b => hsel j oj cs b hoj) hQ hy h1
      have hfree' : ∀ k ok, ops[k]? = some ok → k ≠ i → (listed.setIfInBounds j true).getD k true = false →
          (∀ e ∈ ok.after, Region.binds md e = true → e.on ≠ i) → oi.apart ops ok = true := fun k ok hk hki hun hno => by
        refine hfree k ok hk hki ?_ hno
        by_cases hjk : j = k
        · subst hjk; exact hjun
        · rw [getD_set_ne true hjk] at hun; exact hun
      refine wpOp_mono (fun a' w' h3 => ⟨fun _ => h3.2.1 hjst, ih (listed.setIfInBounds j true) a' w' hfree' (ready_mono hr (Ne.symm hji)) h3.1 (h3.2.1 hjst) ?_⟩) h2
      rw [Array.setIfInBounds_comm _ _ hji]
      exact h3.2.2

/-- does operation st wait for i? -/
def waitsFor (md : Region.Mode) (ops : Array Oper) (st i : Nat) : Bool := match ops[st]? with
  | some o => o.after.any fun e => Region.binds md e && e.on == i
  | none => true
theorem waitsFor_spec {i : Nat} (h : waitsFor md ops st i = true) : ∀ o, ops[st]? = some o → ∃ e ∈ o.after, Region.binds md e = true ∧ e.on = i := by
  intro o ho
  unfold waitsFor at h
  rw [ho] at h
  simp only [Array.any_eq_true] at h
  obtain ⟨k, hk, he⟩ := h
  simp only [Bool.and_eq_true, beq_iff_eq] at he
  exact ⟨o.after[k], Array.getElem_mem hk, he.1, he.2⟩

theorem wpAnyT_take {i : Nat} {oi : Oper} {v : Value} {fuel : Nat} {listed : Array Bool} {a : Act} {w : World} (hi : ops[i]? = some oi)
    (hs : Region.noSelect ops = true) (hf : Region.free md ops listed i = true) (hr : (Region.ready md ops listed).contains i = true) (hst : waitsFor md ops st i = true)
    (hQ : ∀ c a w, Q (.panic c) (a.put oi.dst v) w → Q (.panic c) a w) (hy : YieldsIf P ops S oi v a) (hS : S w)
    (h : wpAnyT P md ops Q S st fuel (listed.setIfInBounds i true) (a.put oi.dst v) w) : wpAnyT P md ops Q S st (fuel + 1) listed a w :=
  wpAnyT_first hi (Region.noSelect_spec hs) hQ (waitsFor_spec hst) fuel listed a w (Region.free_spec hi hf) (by simpa using hr) hy hS h
theorem wpAnyT_all {rs : List Nat} {fuel : Nat} {listed : Array Bool} {a : Act} {w : World} (hr : Region.ready md ops listed = rs) (hne : rs ≠ [])
    (h : ∀ i ∈ rs, wpOp P ops Q i (fun a' w' => (i ≠ st → S w') ∧ wpAnyT P md ops Q S st fuel (listed.setIfInBounds i true) a' w') a w) : wpAnyT P md ops Q S st (fuel + 1) listed a w :=
  ⟨fun h0 => absurd (hr ▸ h0) hne, hr ▸ h⟩
theorem wpAnyT_done {listed : Array Bool} {a : Act} {w : World} (hr : Region.ready md ops listed = []) (h : Q .normal a w) : ∀ fuel, wpAnyT P md ops Q S st fuel listed a w
  | 0 => ⟨hr, h⟩
  | _ + 1 => ⟨fun _ => h, by rw [hr]; simp⟩
theorem wp_region_T {id : Nat} {a : Act} {w : World} (st : Nat) (S : World → Prop) (hm : P.follows .mixedOrders = true)
    (h : wpAnyT P .any ops Q S st ops.size (Array.replicate ops.size false) a w.drew) : (Code.region id ops true).wp P Q a w :=
  wp_region_any hm (wpAny_of_T _ _ _ _ h)
theorem wpOp_wp {i : Nat} {o : Oper} {a : Act} {w : World} {K : Act → World → Prop} (hi : ops[i]? = some o) (hgd : o.guard = none) (h : Oper.wp P o a w K Q) : wpOp P ops Q i K a w := by
  have hw : Region.wanted o (yielded ops a.tmps) = true := by simp [Region.wanted, hgd]
  unfold wpOp
  simp only [hi, hw, if_true]
  exact .inl h
theorem wpOp_call {i : Nat} {o : Oper} {a : Act} {w : World} {K : Act → World → Prop} (hi : ops[i]? = some o) (hgd : o.guard = none) (f : FuncId) (args : Array Operand) (ts : Array TypeId) (hop : o.op = Op.call { callee := Callee.value (Operand.func f), args := args, argTypes := ts })
    (vals : Array Value) (hv : args.map a.eval = vals) (hrun : (callFunc f vals).run P w = .ok (.enter f vals) w) (v : Value) (hc : Calls P f vals w fun e w' => e = .returned v ∧ w = w')
    (hK : K (a.put o.dst v) w) : wpOp P ops Q i K a w := by
  refine wpOp_wp hi hgd ?_
  have hx : (execOp a.eval o).run P w = .ok (.enter f vals) w := by
    simp [execOp, hop, resolve, invoke, hv, hrun, Act.eval, Deferred.ofValue]
  unfold Oper.wp
  rw [hx, Oper.upon_enter]
  refine hc.mono ?_
  rintro e w' ⟨rfl, rfl⟩
  exact hK
theorem wpOp_value {i : Nat} {o : Oper} {a : Act} {w w' : World} {v : Value} {K : Act → World → Prop} (hi : ops[i]? = some o) (hgd : o.guard = none) (hrun : (execOp a.eval o).run P w = .ok (.value v) w') (hK : K (a.put o.dst v) w') : wpOp P ops Q i K a w := by
  refine wpOp_wp hi hgd ?_
  unfold Oper.wp
  rw [hrun]
  exact hK
theorem wpOp_skip {i : Nat} {o : Oper} {a : Act} {w w' : World} {K : Act → World → Prop} (hi : ops[i]? = some o) (hgd : o.guard = none) (hrun : (execOp a.eval o).run P w = .ok .skip w') (hK : K (a.put o.dst undef) w') : wpOp P ops Q i K a w := by
  refine wpOp_wp hi hgd ?_
  unfold Oper.wp
  rw [hrun]
  exact hK
end
end Go.Proofs.YbulkauvkFmt
