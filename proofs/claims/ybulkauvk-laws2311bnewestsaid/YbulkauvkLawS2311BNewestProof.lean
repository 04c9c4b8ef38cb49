/-
  The proof of 'Rows.LawS2311BNewestSaid'. The frame is the kit's way for a law over slices, at this function's number and types; its argument is a slice of structs of two fields.
-/
import Derived.Test.YbulkauvkRows
import Derived.Test.YbulkauvkBuild
import Derived.WalkKit
import Derived.ProofKit
import Derived.OpenShut
import Derived.ShutString
import Derived.ChangeOld
import Derived.Below
import Derived.Deep.SlicePairs
namespace Go.Proofs.Ybulkauvk.lawS2311BNewest
open Go.ChangeShapes Go.WideShapes Go.ChangeAt Go.RowKit Go.Deep
set_option linter.unusedVariables false

theorem own : ownKnob Yba.prog.godebug = none := by kernel_rfl
theorem laidOut : laidOutB Yba.prog = true := by kernel_rfl

set_option maxHeartbeats 400000 in
theorem walk (a0 : Option Addr) (n cap0 : Nat) (K : Nat → Int) (S : Nat → ByteArray) (w : World) (hlen : n ≤ maxLen) (hsub : Subs w a0 n K S) :
    Calls Yba.prog 3 #[.slice a0 n cap0] w fun e w' => e = .returned (.bool true) ∧ Below w.heap.size w w' := by
  unfold maxLen at hlen
  by_cases hbig : 1024 < n
  · go_enter Yba.func3, Yba.ntmps3
    go_wp2
    go_ret
    exact ⟨rfl, Below.refl _ _⟩
  have hn : n ≤ 1024 := by omega
  have HSub : Hid (Subs w a0 n K S) := hsub
  clear hsub
  go_enter Yba.func3, Yba.ntmps3
  go_wp2_with (go_at_call 5; go_must (refine (build_any a0 cap0 n K S _ hn HSub.out).mono ?_; rintro e w1 ⟨ao, cap, g, rfl, c3, ha, hst, hbel⟩))
  refine (newest_any w.heap.size g n cap ao K S w1 hn c3 ha hst).mono ?_
  rintro e w2 ⟨rfl, rfl⟩
  clear c3 ha hst
  obtain ⟨got, hgot⟩ : ∃ got, got = nw (fun j => isRev (K j)) S n := ⟨_, rfl⟩
  rw [← hgot]
  have HG : Hid (got = nw (fun j => isRev (K j)) S n) := hgot
  clear hgot
  go_wp2_with fail
  go_loop [5, 6] (fun f t => ∃ k : Nat, k ≤ n ∧ t = .int .i64 k ∧ f = .bool (fnd (fun j => isRev (K j)) S got k)) (fun _ t => n - (intOf t).toNat)
  case atStart => exact ⟨0, Nat.zero_le _, rfl, rfl⟩
  case round =>
    obtain ⟨k, hk, rfl, rfl⟩ := hrel
    by_cases hlt : k < n
    · obtain ⟨b, off, rfl, hbs, hc⟩ := HSub.out (by omega)
      obtain ⟨q1, q2, q3, q4⟩ := hc k hlt
      have r1 := (hbel.cell (p := ⟨b, off + k * 2, none⟩) hbs).trans q1
      have r2 := (hbel.cell (p := ⟨b, off + k * 2 + 1, none⟩) hbs).trans q2
      obtain ⟨fk, hfk⟩ : ∃ fk, fk = fnd (fun j => isRev (K j)) S got k := ⟨_, rfl⟩
      rw [← hfk]
      have HF : Hid (fnd (fun j => isRev (K j)) S got (k + 1) = (fk || (isRev (K k) && (S k).toList == got.toList))) := by rw [hfk]; rfl
      obtain ⟨kw, hkw⟩ : ∃ kw, kw = kwOf (K k) := ⟨_, rfl⟩
      have hr := rev_iff (K k)
      have hkc := keyword_any (K k) q3 q4
      rw [← hkw] at hr hkc
      unfold revBytes at hr
      have HK : Hid (∀ w : World, Calls Yba.prog 7 #[.int .u8 (K k)] w fun e w' => e = .returned (.string kw) ∧ w = w') := fun w => by have := keyword_any (K k) q3 q4 w; rw [← hkw] at this; exact this
      clear hc q1 q2 hfk hkw hkc
      by_cases cr : isRev (K k) = true
      · have hle : (Op.bytesLess (S k).toList got.toList || (S k).toList == got.toList) = true := by
          have := nw_le (fun j => isRev (K j)) S n k hlt cr
          rw [← HG.out] at this
          unfold gt at this
          cases hX : (Op.bytesLess (S k).toList got.toList || (S k).toList == got.toList) with
          | true => rfl
          | false => rw [hX] at this; cases this
        rw [cr] at hr
        have HF2 : Hid (fnd (fun j => isRev (K j)) S got (k + 1) = (fk || (S k).toList == got.toList)) := by
          show _ = _
          rw [HF.out, cr, Bool.true_and]
        clear cr HF
        by_cases ce : ((S k).toList == got.toList) = true
        · go_wp2_with (go_at_call 7; go_must (refine (HK.out _).mono ?_; rintro e w' ⟨rfl, rfl⟩))
          go_round
          case rel => exact ⟨k + 1, by omega, by go_num, by rw [HF2.out, ce, Bool.or_true]⟩
          case measure => simp [intOf]; omega
        · have ce' : ((S k).toList == got.toList) = false := by simpa using ce
          have hls : Op.bytesLess (S k).toList got.toList = true := by rw [ce', Bool.or_false] at hle; exact hle
          clear ce hle
          go_wp2_with (go_at_call 7; go_must (refine (HK.out _).mono ?_; rintro e w' ⟨rfl, rfl⟩))
          go_round
          case rel => exact ⟨k + 1, by omega, by go_num, by rw [HF2.out, ce', Bool.or_false]⟩
          case measure => simp [intOf]; omega
      · have cr' : isRev (K k) = false := by simpa using cr
        rw [cr'] at hr
        have HF2 : Hid (fnd (fun j => isRev (K j)) S got (k + 1) = fk) := by
          show _ = _
          rw [HF.out, cr', Bool.false_and, Bool.or_false]
        clear cr cr' HF
        go_wp2_with (go_at_call 7; go_must (refine (HK.out _).mono ?_; rintro e w' ⟨rfl, rfl⟩))
        go_round
        case rel => exact ⟨k + 1, by omega, by go_num, by rw [HF2.out]⟩
        case measure => simp [intOf]; omega
    · obtain rfl : n = k := by omega
      have hall := fnd_all (fun j => isRev (K j)) S n
      rw [← HG.out] at hall
      go_wp2_with fail
      go_ret
      exact ⟨rfl, hbel⟩

set_option maxRecDepth 100000 in
theorem lifted (os : Os) (started : os.Started) (H : Type) (enc : TypeId × Value → H) :
    ReturnsInHanded {} Yba.checked os 3 .any (Rows.lawS2311BNewestSpec.pre6 enc Yba.prog Yba.f3 Rows.lawS2311BNewestRow.domain false) (Rows.lawS2311BNewestSpec.post enc Yba.prog Yba.f3 false true false false) := by
  refine returnsInHanded_of_change (C := Yba.checked) own started (by kernel_rfl) Yba.func3
    (ChangeSpec.witness6 (enc := enc) (C := Yba.checked) false ⟨#[], #[.slice none 0 0], []⟩ 8 (by kernel_rfl) (by kernel_rfl) (by kernel_rfl) (by kernel_rfl)) ?_
  intro W base args ds gs before hval0 hW hcnd _
  have hval : ∀ (j : Nat) t v, Yba.f3.params[j]? = some t → args[j]? = some v → Value.okWide Yba.prog W .any base t v := hval0
  have hW' := hW
  obtain ⟨p, q, hA0, hV, rfl, hfz, hnd⟩ := hW
  have hA : DataW.TrodAll enc Yba.prog W 0 (fun _ => true) true Yba.f3.params.toList args.toList ds p := hA0
  rw [Yba.params3] at hA hval
  obtain ⟨v0, vs0, d0, ds0, p0, q0, hargs, rfl, rfl, h0, r0⟩ := trodAll_cons hA
  obtain ⟨rfl, rfl, rfl⟩ := trodAll_nil r0
  obtain rfl : args = #[v0] := by cases args; simp_all
  obtain ⟨rfl, rfl⟩ := trodVars_none hV
  obtain ⟨a0, len0, cap0, rfl⟩ := okWide_slice Yba.underlying22 (hval 0 22 v0 rfl rfl)
  have k0 := h0
  have lt0 : ∀ x ∈ p0, x.block < W.heap.size := by obtain ⟨m, hm⟩ := k0; exact DataW.trod_lt m _ _ _ hm
  obtain ⟨K, S, hlen, hsub⟩ : ∃ K S, len0 ≤ maxLen ∧ Subs W a0 len0 K S := by
    obtain ⟨fuel, hf⟩ := h0
    rcases open_slice_pairs Yba.underlying22 Yba.underlying28 (by kernel_rfl) rfl rfl (by kernel_rfl) (by kernel_rfl) hf with ⟨hcs, _⟩ | ⟨a, l, c, m, fu, V0, V1, D0, D1, P0, P1, hcs, _, hl, hm, hmm, _, hx⟩
    · simp [Value.cells] at hcs
      obtain ⟨rfl, rfl, rfl⟩ := hcs
      exact ⟨fun _ => 0, fun _ => ⟨#[]⟩, by unfold maxLen; omega, fun h => by omega⟩
    · simp [Value.cells] at hcs
      obtain ⟨rfl, rfl, rfl⟩ := hcs
      have hlm : len0 ≤ m := by rw [hmm]; split <;> omega
      have hk : ∀ i, i < len0 → ∃ k : Int, V0 i = .int .u8 k ∧ (Lit.int .u8 k).wf = true := by
        intro i hi
        obtain ⟨_, _, t0, _⟩ := hx i (by omega)
        obtain ⟨k, e, _, hw⟩ := DataW.trod_int Yba.underlying5 t0
        exact ⟨k, by simpa using e, hw⟩
      have hs : ∀ i, i < len0 → ∃ s : ByteArray, V1 i = .string s := by
        intro i hi
        obtain ⟨_, _, _, t1⟩ := hx i (by omega)
        obtain ⟨s, e, _, _⟩ := DataW.trod_string Yba.underlying9 t1
        exact ⟨s, by simpa using e⟩
      obtain ⟨K, hK⟩ := choose_lt hk
      obtain ⟨S, hS⟩ := choose_lt hs
      refine ⟨K, S, by omega, fun hp => ?_⟩
      have hadd : ∃ b off, a = ⟨b, off, none⟩ := by
        obtain ⟨c0, _⟩ := hx 0 (by omega)
        obtain ⟨b, off, spot⟩ := a
        have hspot : spot = none := by simpa [Addr.add] using World.cell?_spot c0
        exact ⟨b, off, by rw [hspot]⟩
      obtain ⟨b, off, rfl⟩ := hadd
      have e : ∀ j, (⟨b, off, none⟩ : Addr).add j = ⟨b, off + j, none⟩ := fun j => by unfold Addr.add; split <;> simp_all
      refine ⟨b, off, rfl, ?_, fun i hi => ?_⟩
      · obtain ⟨c0, _⟩ := hx 0 (by omega)
        exact World.block_lt_of_cell? W _ c0
      · obtain ⟨c0, c1, _⟩ := hx i (by omega)
        rw [e] at c0 c1
        have hb := bounds_u8 (hK i hi).2
        exact ⟨by rw [c0, (hK i hi).1], by rw [Nat.add_assoc, c1, hS i hi], hb.1, hb.2⟩
  clear hA0 hval0
  refine (walk a0 len0 cap0 K S W hlen hsub).mono fun e W' ⟨he, bel⟩ => ?_
  subst he
  exact ⟨_, rfl, _, _, _, [], _, [], hW', trodAll_mk1 (shut_bool Yba.underlying4 _), (trodAll_cons_mk (Below.trod laidOut (by kernel_rfl) (of_decide_eq_true (by kernel_rfl)) k0 bel lt0) trodAll_mk0), rfl, bel.frame _, fun h => by cases h⟩

theorem over : Rows.lawS2311BNewestRow.holds Yba.pinned (OpenSpec.ofChange Rows.lawS2311BNewestSpec) :=
  OpenClaim.holds_of_wide 3 Yba.f3 rfl rfl rfl rfl rfl rfl rfl ⟨rfl, rfl, rfl, rfl, rfl⟩ rfl rfl rfl rfl rfl (by kernel_rfl) Yba.func3 (by kernel_rfl)
    (of_decide_eq_true (by kernel_rfl)) (by unfold Func.isWrapper; first | (rw [if_pos (by decide +kernel)]; kernel_rfl) | (rw [if_neg (by decide +kernel)]; exact ⟨rfl, rfl⟩))
    (fun os started H enc _ => lifted os started H enc)

theorem proved : Rows.LawS2311BNewestSaid := over
#print axioms proved
end Go.Proofs.Ybulkauvk.lawS2311BNewest
