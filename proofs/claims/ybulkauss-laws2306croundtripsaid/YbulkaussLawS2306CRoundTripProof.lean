/-
  The proof of 'Rows.LawS2306CRoundTripSaid': the frame is the kit's shell for this statement, the walk is typed by hand.
-/
import Derived.Test.YbulkaussRows
import Derived.Test.YbulkaussPlain
import Derived.WalkKit
import Derived.ProofKit
import Derived.OpenShut
import Derived.ShutString
import Derived.ChangeOld
import Derived.Below
import Derived.Deep.DeepCutAuto
import Derived.Deep.RegionWith
namespace Go.Proofs.Ybulkauss.lawS2306CRoundTrip
open Go.ChangeShapes Go.WideShapes Go.ChangeAt Go.RowKit Go.Deep
open Go.ChangeMaps (open_string shut_string)
set_option linter.unusedVariables false

theorem own : ownKnob Yba.prog.godebug = none := by kernel_rfl
theorem laidOut : laidOutB Yba.prog = true := by kernel_rfl

/-! ### THE WALK -/
theorem makePooled1 (w : World) : (Instr.makeSlice 130 (.int .i64 1) (.int .i64 1)).run Yba.prog w = .ok (.slice (some ⟨w.heap.size, 0, none⟩) 1 1) (w.alloc (.cells pooledCells 142)) := by kernel_rfl

set_option maxHeartbeats 400000 in
set_option maxRecDepth 100000 in
theorem walk (a0 : Option Addr) (len0 cap0 : Nat) (z0 : List Int) (a1 : Int) (a2 : Int) (w : World) (w0 : IsRow .u64 w a0 len0 cap0 z0) (w1 : (Lit.int .u8 a1).wf = true) (w2 : (Lit.int .u16 a2).wf = true) :
    Calls Yba.prog 5 #[.slice a0 len0 cap0, .int .u8 a1, .int .u16 a2] w fun e w' => e = .returned (.bool true) ∧ Below w.heap.size w w' := by
  obtain ⟨hzl, hrd, hlen⟩ := reads_of w0
  unfold maxLen at hlen
  by_cases hbig : 1024 < len0
  · go_enter Yba.func5, Yba.ntmps5
    go_wp2
    go_ret
    exact ⟨rfl, Below.refl _ _⟩
  have b1 := bounds_u8 w1
  have b2 := bounds_u16 w2
  clear w0 w1 w2
  obtain ⟨zs, hzs⟩ : ∃ zs, zs = z0.take len0 := ⟨_, rfl⟩
  rw [← hzs] at hzl hrd
  subst hzl
  clear hzs
  obtain ⟨s, rfl⟩ : ∃ s : Nat, a2 = s := ⟨a2.toNat, by omega⟩
  have hs : s ≤ 65535 := by omega
  have hmk := makePooled1
  go_enter Yba.func5, Yba.ntmps5
  go_upto_region 6 with fail
  obtain ⟨i, hi⟩ : ∃ i : Nat, (i : Int) = a1 % 2 := ⟨(a1 % 2).toNat, by omega⟩
  have hi2 : i < 2 := by omega
  rw [← hi]
  obtain ⟨E, hEe⟩ : ∃ E, E = w.heap.size := ⟨_, rfl⟩
  rw [← hEe]
  obtain ⟨v1, hv1⟩ : ∃ v1, v1 = (w.alloc (.cells pooledCells 142)).alloc (.cells #[.slice (some ⟨E, 0, none⟩) 1 1, .slice none 0 0, .map none, .int .i64 0, .slice none 0 0] 135) := ⟨_, rfl⟩
  rw [← hv1]
  have kE : Blk v1 E pooledCells 142 := by rw [hv1, hEe]; exact (Blk.new _ _ _).alloc _
  have kP : Blk v1 (E + 1) #[.slice (some ⟨E, 0, none⟩) 1 1, .slice none 0 0, .map none, .int .i64 0, .slice none 0 0] 135 := by
    rw [hv1]; have := Blk.new (w.alloc (.cells pooledCells 142)) #[.slice (some ⟨E, 0, none⟩) 1 1, .slice none 0 0, .map none, .int .i64 0, .slice none 0 0] 135; simpa [hEe] using this
  have kB : Below E w v1 := by rw [hv1, hEe]; exact ((Below.refl _ _).alloc (Nat.le_refl _) _).alloc (by simp) _
  have kR : Reads v1 a0 zs := reads_below hrd kB (by omega)
  have kz : v1.heap.size = E + 2 := by rw [hv1, hEe]; simp
  have HEE : Hid (E = w.heap.size) := hEe
  clear hv1 hmk hEe hi b1 b2
  go_cut [] (fun w' => ∃ ho, Blk w' E (pooledCells.setIfInBounds (13 + i) (.slice ho zs.length zs.length)) 142 ∧ Blk w' (E + 1) #[.slice (some ⟨E, 0, none⟩) 1 1, .slice none 0 0, .map none, .int .i64 0, .slice none 0 0] 135 ∧ Below E w w' ∧ E + 2 ≤ w'.heap.size ∧
    w'.ownsRow (E + 2) 24 1 (.slice ho zs.length zs.length) zs.length (zs.map (Value.int .u64)))
  case first =>
    have x3 : (i : Int) < 2 := by omega
    have e0 : pooledCells[13 + i]? = some (.slice none 0 0) := by
      rcases (show i = 0 ∨ i = 1 by omega) with rfl | rfl <;> rfl
    have p0 : v1.cell? ⟨E + 1, 0, none⟩ = some (.slice (some ⟨E, 0, none⟩) 1 1) := (kP.cell 0).trans rfl
    have kz' : E + 2 ≤ v1.heap.size := by omega
    have hz1024 : zs.length ≤ 1024 := by omega
    go_region_with (go_at_call 12; go_must (refine (clone_any a0 cap0 (E + 2) zs _ hz1024 (by exact kR) (by exact kz')).mono ?_; rintro e w' ⟨ho, rfl, hon, hob, hown, hgr⟩; have k1 := Blk.kept (by exact kE) hgr (by simp); have k2 := Blk.kept (by exact kP) hgr (by simp); have k3 : Below E w w' := below_drawn kB hgr ⟨rfl, rfl, rfl, rfl⟩ (by omega) (by simp); have k4 : E + 2 ≤ w'.heap.size := Nat.le_trans kz' hgr.size; have q1 : w'.cell? ⟨E, 13 + i, none⟩ = some (.slice none 0 0) := (k1.cell _).trans e0; have q2 := k1.frozen (13 + i); have q3 : w'.cell? ⟨E + 1, 0, none⟩ = some (.slice (some ⟨E, 0, none⟩) 1 1) := (k2.cell 0).trans rfl))
    all_goals
      go_wp2_with fail
      go_meet
      exact ⟨ho, k1.set _ _, k2.setOther (show E + 1 ≠ E by omega) _, k3.setCell (Nat.le_refl _) _, by rw [size_setCell']; exact k4, ownsRow_setCell_below hown (show E < E + 2 by omega) _⟩
  case rest =>
    obtain ⟨ho, kE', kP', kB', kz', hown⟩ := hcut
    clear kE kP kB kR kz
    have hz1024 : zs.length ≤ 1024 := by omega
    have hr1 : Reads w a0 zs := by assumption
    have p0 : wc.cell? ⟨E + 1, 0, none⟩ = some (.slice (some ⟨E, 0, none⟩) 1 1) := (kP'.cell 0).trans rfl
    go_wp2_with fail
    have e11 : ∀ v, (pooledCells.setIfInBounds (13 + i) v)[0 * 15 + 11]? = some (.int .u32 0) := fun v => by
      rw [Array.getElem?_setIfInBounds, if_neg (by omega)]; rfl
    have e13 : ∀ v, (pooledCells.setIfInBounds (13 + i) v)[13 + i]? = some v := fun v => by
      rw [Array.getElem?_setIfInBounds, if_pos rfl, if_pos (by show 13 + i < 15; omega)]
    refine (holder_any (E + 1) E 1 0 i s (E + 2) true _ ho zs.length zs.length zs wc (by omega) (by omega) hi2 hs p0 kE' (e11 _) (e13 _) hown (by omega) kz' (by omega) (fun _ => ⟨hz1024, rfl⟩)).mono ?_
    rintro e w5 ⟨rfl, ho1, n1, cap1, -, hn1, -, kE5, -, hown5, hk5⟩
    rw [Array.setIfInBounds_setIfInBounds] at kE5
    have hl1 := upd_length_on zs (s / 64) (bitOf s)
    rw [← hn1] at hl1
    have kP5 : Blk w5 (E + 1) #[.slice (some ⟨E, 0, none⟩) 1 1, .slice none 0 0, .map none, .int .i64 0, .slice none 0 0] 135 := kP'.of_block (hk5.block _ kP'.lt (by omega) (fun e => by have := (hown.lt _ e.symm).1; omega))
    have kB5 : Below E w w5 := kB'.trans ⟨hk5.os, hk5.tape, hk5.output, hk5.size, fun k hk => hk5.block k (by omega) (by omega) (fun e => by have := (hown.lt _ e.symm).1; omega)⟩
    have kz5 : E + 2 ≤ w5.heap.size := Nat.le_trans kz' hk5.size
    have p5 : w5.cell? ⟨E + 1, 0, none⟩ = some (.slice (some ⟨E, 0, none⟩) 1 1) := (kP5.cell 0).trans rfl
    obtain ⟨zs1, hzs1⟩ : ∃ zs1, zs1 = upd true zs (s / 64) (bitOf s) := ⟨_, rfl⟩
    rw [← hzs1] at hown5 hn1
    clear hk5 kP' kB' kE' hown kz' p0
    have HZ1 : Hid (zs1 = upd true zs (s / 64) (bitOf s)) := hzs1
    have HN1 : Hid (n1 = zs1.length) := hn1
    have HL1 : Hid (n1 = max zs.length (s / 64 + 1)) := hl1
    have hn1a : s / 64 < n1 := by omega
    have hn1b : n1 ≤ 2048 := by omega
    clear hzs1 hn1 hl1
    go_wp2_with fail
    refine (holder_any (E + 1) E 1 0 i s (E + 2) false _ ho1 n1 cap1 zs1 w5 (by omega) (by omega) hi2 hs p5 kE5 (e11 _) (e13 _) hown5 (by omega) kz5 hn1b (fun h => absurd h (by omega))).mono ?_
    rintro e w6 ⟨rfl, ho2, n2, cap2, -, hn2, -, kE6, -, hown6, hk6⟩
    rw [Array.setIfInBounds_setIfInBounds] at kE6
    rw [upd_length_off, ← HN1.out] at hn2
    subst hn2
    have kB6 : Below E w w6 := kB5.trans ⟨hk6.os, hk6.tape, hk6.output, hk6.size, fun k hk => hk6.block k (by omega) (by omega) (fun e => by have := (hown5.lt _ e.symm).1; omega)⟩
    have p6 : w6.cell? ⟨E + 1, 0, none⟩ = some (.slice (some ⟨E, 0, none⟩) 1 1) := ((kP5.of_block (hk6.block _ kP5.lt (by omega) (fun e => by have := (hown5.lt _ e.symm).1; omega))).cell 0).trans rfl
    have g6 : w6.cell? ⟨E, 13 + i, none⟩ = some (.slice ho2 n2 cap2) := (kE6.cell _).trans (e13 _)
    obtain ⟨zs2, hzs2⟩ : ∃ zs2, zs2 = upd false zs1 (s / 64) (bitOf s) := ⟨_, rfl⟩
    rw [← hzs2] at hown6
    have HZ2 : Hid (zs2 = upd false zs1 (s / 64) (bitOf s)) := hzs2
    clear hk6 kP5 kB5 kE5 hown5 kz5 p5 hzs2 e11 e13 kE6
    have x3 : (i : Int) < 2 := by omega
    go_upto_if 62 with fail
    go_cut [] (fun w' => w6 = w')
    case first =>
      have hl := HL1.out
      by_cases hlw : s / 64 < zs.length
      · have y1 : n2 ≤ zs.length := by omega
        have y2 : zs.length ≤ n2 := by omega
        clear hl
        go_wp2_with fail
        go_meet
        rfl
      · have y1 : n2 ≤ s / 64 + 1 := by omega
        have y2 : s / 64 + 1 ≤ n2 := by omega
        clear hl
        go_wp2_with fail
        go_meet
        rfl
    case rest =>
      subst hcut
      have hcell : ∀ k, k < n2 → ∃ H, ho2 = some ⟨H, 0, none⟩ ∧ w6.cell? ⟨H, k, none⟩ = some (.int .u64 (zs2.getD k 0)) := by
        intro k hk
        rcases hown6.2 with ⟨_, e0⟩ | ⟨H, cap', cur, e, _⟩
        · omega
        obtain ⟨rfl, -, -⟩ := Value.slice.inj e
        refine ⟨H, rfl, ?_⟩
        have hl : zs2.length = n2 := by have := hown6.1; simpa using this
        rw [hown6.cellAt k (by omega), map_get _ _ (by omega)]
      have HCELL : Hid (∀ k, k < n2 → ∃ H, ho2 = some ⟨H, 0, none⟩ ∧ w6.cell? ⟨H, k, none⟩ = some (.int .u64 (zs2.getD k 0))) := hcell
      clear hcell hown6 g6 p6
      go_wp2_with fail
      go_loop [13] (fun t => ∃ k : Nat, k ≤ n2 ∧ t = .int .i64 k) (fun t => n2 - (intOf t).toNat)
      case atStart => exact ⟨0, Nat.zero_le _, rfl⟩
      case round =>
        obtain ⟨k, hk, rfl⟩ := hrel
        by_cases hlt : k < n2
        · obtain ⟨H, rfl, hc0⟩ := HCELL.out k hlt
          have hg := rt_get zs (s / 64) (bitOf s) k (by have := HL1.out; omega)
          rw [← HZ1.out, ← HZ2.out] at hg
          rw [hg] at hc0
          clear hg HCELL
          by_cases hkl : k < zs.length
          · obtain ⟨b, off, rfl, hcs⟩ := hrd.2 (by omega)
            have x5 := (kB6.cell (p := ⟨b, off + k, none⟩) (by show b < E; rw [HEE.out]; exact World.block_lt_of_cell? w _ (hcs k hkl))).trans (hcs k hkl)
            by_cases hkw : k = s / 64
            · rw [if_pos hkw] at hc0
              unfold bitOf at hc0
              have y1 : k ≤ s / 64 := by omega
              have y2 : s / 64 ≤ k := by omega
              clear hkw hcs
              go_wp2_with fail
              go_round
              case rel => exact ⟨k + 1, by omega, by go_num⟩
              case measure => simp [intOf]; omega
            · rw [if_neg hkw] at hc0
              clear hcs
              go_wp2_with fail
              go_round
              case rel => exact ⟨k + 1, by omega, by go_num⟩
              case measure => simp [intOf]; omega
          · have hz0 : zs.getD k 0 = 0 := by rw [List.getD_eq_getElem?_getD, List.getElem?_eq_none (by omega)]; rfl
            rw [hz0] at hc0
            clear hz0
            by_cases hkw : k = s / 64
            · rw [if_pos hkw] at hc0
              unfold bitOf at hc0
              have y1 : k ≤ s / 64 := by omega
              have y2 : s / 64 ≤ k := by omega
              clear hkw
              go_wp2_with fail
              go_round
              case rel => exact ⟨k + 1, by omega, by go_num⟩
              case measure => simp [intOf]; omega
            · rw [if_neg hkw] at hc0
              go_wp2_with fail
              go_round
              case rel => exact ⟨k + 1, by omega, by go_num⟩
              case measure => simp [intOf]; omega
        · go_wp2_with fail
          go_ret
          exact ⟨rfl, by rw [← HEE.out]; exact kB6⟩

/-! ### THE ROW's STEP: WRITTEN OUT: LEAVE IT -/
set_option maxRecDepth 100000 in
theorem lifted (os : Os) (started : os.Started) (H : Type) (enc : TypeId × Value → H) :
    ReturnsInHanded {} Yba.checked os 5 .any (Rows.lawS2306CRoundTripSpec.pre6 enc Yba.prog Yba.f5 Rows.lawS2306CRoundTripRow.domain false) (Rows.lawS2306CRoundTripSpec.post enc Yba.prog Yba.f5 false true false false) := by
  refine returnsInHanded_of_change (C := Yba.checked) own started (by kernel_rfl) Yba.func5
    (ChangeSpec.witness6 (enc := enc) (C := Yba.checked) false ⟨#[], #[.slice none 0 0, .int .u8 0, .int .u16 0], []⟩ 8 (by kernel_rfl) (by kernel_rfl) (by kernel_rfl) (by kernel_rfl)) ?_
  intro W base args ds gs before hval0 hW hcnd _
  have hval : ∀ (j : Nat) t v, Yba.f5.params[j]? = some t → args[j]? = some v → Value.okWide Yba.prog W .any base t v := hval0
  have hW' := hW
  obtain ⟨p, q, hA0, hV, rfl, hfz, hnd⟩ := hW
  have hA : DataW.TrodAll enc Yba.prog W 0 (fun _ => true) true Yba.f5.params.toList args.toList ds p := hA0
  rw [Yba.params5] at hA hval
  obtain ⟨v0, vs0, d0, ds0, p0, q0, hargs, rfl, rfl, h0, r0⟩ := trodAll_cons hA
  obtain ⟨v1, vs1, d1, ds1, p1, q1, rfl, rfl, rfl, h1, r1⟩ := trodAll_cons r0
  obtain ⟨v2, vs2, d2, ds2, p2, q2, rfl, rfl, rfl, h2, r2⟩ := trodAll_cons r1
  obtain ⟨rfl, rfl, rfl⟩ := trodAll_nil r2
  obtain rfl : args = #[v0, v1, v2] := by cases args; simp_all
  obtain ⟨rfl, rfl⟩ := trodVars_none hV
  obtain ⟨a0, len0, cap0, rfl⟩ := okWide_slice Yba.underlying128 (hval 0 128 v0 rfl rfl)
  have k0 := h0
  have lt0 : ∀ x ∈ p0, x.block < W.heap.size := by obtain ⟨m, hm⟩ := k0; exact DataW.trod_lt m _ _ _ hm
  obtain ⟨z0, w0⟩ : ∃ zs, IsRow .u64 W a0 len0 cap0 zs := by
    obtain ⟨fuel, hf⟩ := h0
    rcases open_ints Yba.underlying128 Yba.underlying24 (by kernel_rfl) hf with ⟨hcs, _⟩ | ⟨x, l, c, zs, hcs, _, hl, hm, hz, _, hcell, hwz⟩
    · simp [Value.cells] at hcs
      obtain ⟨rfl, rfl, rfl⟩ := hcs
      exact ⟨[], .inl ⟨rfl, rfl, rfl, rfl⟩⟩
    · simp [Value.cells] at hcs
      obtain ⟨rfl, rfl, rfl⟩ := hcs
      exact ⟨zs, .inr ⟨_, rfl, hl, hm, by simpa using hz, hcell, hwz⟩⟩
  obtain ⟨a1, rfl, rfl, rfl, w1⟩ := open_int Yba.underlying5 (hval 1 5 v1 rfl rfl) h1
  obtain ⟨a2, rfl, rfl, rfl, w2⟩ := open_int Yba.underlying34 (hval 2 34 v2 rfl rfl) h2
  clear hA0 hval0
  refine (walk a0 len0 cap0 z0 a1 a2 W w0 w1 w2).mono fun e W' ⟨he, bel⟩ => ?_
  subst he
  exact ⟨_, rfl, _, _, _, [], _, [], hW', trodAll_mk1 (shut_bool Yba.underlying4 _), (trodAll_cons_mk (Below.trod laidOut (by kernel_rfl) (of_decide_eq_true (by kernel_rfl)) k0 bel lt0) (trodAll_cons_mk (shut_int Yba.underlying5 w1) (trodAll_cons_mk (shut_int Yba.underlying34 w2) trodAll_mk0))), rfl, bel.frame _, fun h => by cases h⟩

theorem over : Rows.lawS2306CRoundTripRow.holds Yba.pinned (OpenSpec.ofChange Rows.lawS2306CRoundTripSpec) :=
  OpenClaim.holds_of_wide 5 Yba.f5 rfl rfl rfl rfl rfl rfl rfl ⟨rfl, rfl, rfl, rfl, rfl⟩ rfl rfl rfl rfl rfl (by kernel_rfl) Yba.func5 (by kernel_rfl)
    (of_decide_eq_true (by kernel_rfl)) (by unfold Func.isWrapper; first | (rw [if_pos (by decide +kernel)]; kernel_rfl) | (rw [if_neg (by decide +kernel)]; exact ⟨rfl, rfl⟩))
    (fun os started H enc _ => lifted os started H enc)

/-- ████ THE STATEMENT ████ -/
theorem proved : Rows.LawS2306CRoundTripSaid := over
#print axioms proved
end Go.Proofs.Ybulkauss.lawS2306CRoundTrip
