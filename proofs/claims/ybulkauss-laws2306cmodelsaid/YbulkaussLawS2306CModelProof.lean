/-
  The proof of 'Rows.LawS2306CModelSaid': the frame is the kit's shell for this statement, the walk is typed by hand.
-/
import Derived.Test.YbulkaussRows
import Derived.Test.YbulkaussModelKit
import Derived.WalkKit
import Derived.ProofKit
import Derived.OpenShut
import Derived.ShutString
import Derived.ChangeOld
import Derived.Below
import Derived.Deep.DeepCutAuto
import Derived.Deep.RegionWith
namespace Go.Proofs.Ybulkauss.lawS2306CModel
open Go.ChangeShapes Go.WideShapes Go.ChangeAt Go.RowKit Go.Deep
open Go.ChangeMaps (open_string shut_string)
set_option linter.unusedVariables false

theorem own : ownKnob Yba.prog.godebug = none := by kernel_rfl
theorem laidOut : laidOutB Yba.prog = true := by kernel_rfl

/-! ### THE WALK -/
theorem nn_of {a b : Option Addr} (h : a = none ↔ b = none) : (a.isNone == b.isNone) = true := by
  cases a <;> cases b <;> simp_all

set_option maxHeartbeats 1600000 in
set_option maxRecDepth 100000 in
theorem walk (a0 : Option Addr) (len0 cap0 : Nat) (z0 : List Int) (a1 : Option Addr) (len1 cap1 : Nat) (z1 : List Int) (a2 : Int) (a3 : Int) (a4 : Int) (a5 : Bool) (w : World) (w0 : IsRow .u64 w a0 len0 cap0 z0) (w1 : IsRow .u64 w a1 len1 cap1 z1) (w2 : (Lit.int .u8 a2).wf = true) (w3 : (Lit.int .u8 a3).wf = true) (w4 : (Lit.int .u16 a4).wf = true) :
    Calls Yba.prog 4 #[.slice a0 len0 cap0, .slice a1 len1 cap1, .int .u8 a2, .int .u8 a3, .int .u16 a4, .bool a5] w fun e w' => e = .returned (.bool true) ∧ Below w.heap.size w w' := by
  obtain ⟨hzl0, hrd0, hlen0⟩ := reads_of w0
  obtain ⟨hzl1, hrd1, hlen1⟩ := reads_of w1
  unfold maxLen at hlen0 hlen1
  by_cases hbig0 : 1024 < len0
  · have x1 : decide ((1024 : Int) < (len0 : Int)) = true := by simp; omega
    go_enter Yba.func4, Yba.ntmps4
    go_wp2
    go_ret
    exact ⟨rfl, Below.refl _ _⟩
  by_cases hbig1 : 1024 < len1
  · have x1 : decide ((1024 : Int) < (len0 : Int)) = false := by simp; omega
    have x2 : decide ((1024 : Int) < (len1 : Int)) = true := by simp; omega
    go_enter Yba.func4, Yba.ntmps4
    go_wp2
    go_ret
    exact ⟨rfl, Below.refl _ _⟩
  have b2 := bounds_u8 w2
  have b3 := bounds_u8 w3
  have b4 := bounds_u16 w4
  clear w0 w1 w2 w3 w4
  obtain ⟨zs, hzs⟩ : ∃ zs, zs = z0.take len0 := ⟨_, rfl⟩
  rw [← hzs] at hzl0 hrd0
  subst hzl0
  clear hzs
  obtain ⟨os, hos⟩ : ∃ os, os = z1.take len1 := ⟨_, rfl⟩
  rw [← hos] at hzl1 hrd1
  subst hzl1
  clear hos
  obtain ⟨s, rfl⟩ : ∃ s : Nat, a4 = s := ⟨a4.toNat, by omega⟩
  have hs : s ≤ 65535 := by omega
  obtain ⟨r, hr⟩ : ∃ r : Nat, (r : Int) = a2 % 2 := ⟨(a2 % 2).toNat, by omega⟩
  have hr2 : r < 2 := by omega
  have HR : Hid ((r : Int) = a2 % 2) := hr
  clear hr
  have hmk := makePooled2
  have x1 : decide ((1024 : Int) < (zs.length : Int)) = false := by simp; omega
  have x2 : decide ((1024 : Int) < (os.length : Int)) = false := by simp; omega
  go_enter Yba.func4, Yba.ntmps4
  go_wp2_with fail
  obtain ⟨i, hi⟩ : ∃ i : Nat, (i : Int) = a3 % 2 := ⟨(a3 % 2).toNat, by omega⟩
  have hi2 : i < 2 := by omega
  rw [← hi]
  obtain ⟨E, hEe⟩ : ∃ E, E = w.heap.size := ⟨_, rfl⟩
  rw [← hEe]
  obtain ⟨v1, hv1⟩ : ∃ v1, v1 = (w.alloc (.cells ((pooled2.setIfInBounds 11 (.int .u32 0)).setIfInBounds 26 (.int .u32 0)) 142)).alloc (.cells #[.slice (some ⟨E, 0, none⟩) 2 2, .slice none 0 0, .map none, .int .i64 0, .slice none 0 0] 135) := ⟨_, rfl⟩
  rw [← hv1]
  have hSt : St E w os (fun _ => False) v1 := by
    refine ⟨?_, ?_, ?_, (pooled2.setIfInBounds 11 (.int .u32 0)).setIfInBounds 26 (.int .u32 0), ?_, rfl, rfl, rfl, fun _ h => h.elim⟩
    · rw [hv1, hEe]; exact ((Below.refl _ _).alloc (Nat.le_refl _) _).alloc (by simp) _
    · rw [hv1, hEe]; simp
    · rw [hv1]; have := Blk.new (w.alloc (.cells ((pooled2.setIfInBounds 11 (.int .u32 0)).setIfInBounds 26 (.int .u32 0)) 142)) #[.slice (some ⟨E, 0, none⟩) 2 2, .slice none 0 0, .map none, .int .i64 0, .slice none 0 0] 135; simpa [hEe, poolCells] using this
    · rw [hv1, hEe]; exact (Blk.new _ _ _).alloc _
  have HEE : Hid (E = w.heap.size) := hEe
  have hz0 : zs.length ≤ 1024 := by omega
  have hz1 : os.length ≤ 1024 := by omega
  clear hv1 hmk hEe hi b3 b4
  go_loopg [16] 2 (fun g t wx => ∃ k : Nat, k + g = 2 ∧ t = .int .i64 k ∧ St E w os (fun c => (13 ≤ c ∧ c < 13 + k) ∨ (28 ≤ c ∧ c < 28 + k)) wx)
  case atStart => exact ⟨0, rfl, rfl, hSt.mono (fun c hc => by omega)⟩
  case round =>
    clear hSt
    obtain ⟨k, hkg, rfl, hSt⟩ := hrel
    by_cases hk : k < 2
    · have hRd := reads_below hrd1 hSt.1 (by rw [← HEE.out]; exact Nat.le_refl _)
      have p0 : wr.cell? ⟨E + 1, 0, none⟩ = some (.slice (some ⟨E, 0, none⟩) 2 2) := (hSt.2.2.1.cell 0).trans rfl
      have hz2 := hSt.2.1
      have x3 : (k : Int) < 2 := by omega
      have HS : Hid (St E w os (fun c => (13 ≤ c ∧ c < 13 + k) ∨ (28 ≤ c ∧ c < 28 + k)) wr) := hSt
      clear hSt
      go_upto_region 11 with fail
      go_cut [] (fun w' => St E w os (fun c => (13 ≤ c ∧ c < 13 + (k + 1)) ∨ (28 ≤ c ∧ c < 28 + k)) w')
      case first =>
        go_region_with (go_at_call 12; go_must (refine (clone_any a1 cap1 (E + 2) os _ hz1 (by exact hRd) (by exact hz2)).mono ?_; rintro e w' ⟨ho, rfl, hon, hob, hown, hgr⟩; obtain ⟨⟨v0, q1⟩, q2, q3, -⟩ := st_store (c0 := 13 + k) (by exact HS.out.drawn ⟨rfl, rfl, rfl, rfl⟩) hgr (by omega) hob hown))
        all_goals
          go_wp2_with fail
          go_meet
          exact (st_next (c0 := 13 + k) (by exact HS.out.drawn ⟨rfl, rfl, rfl, rfl⟩) hgr (by omega) hob hown).mono (fun c hc => by omega)
      case rest =>
        have hRd2 := reads_below hrd1 hcut.1 (by rw [← HEE.out]; exact Nat.le_refl _)
        have p02 : wc.cell? ⟨E + 1, 0, none⟩ = some (.slice (some ⟨E, 0, none⟩) 2 2) := (hcut.2.2.1.cell 0).trans rfl
        have hz3 := hcut.2.1
        have HS2 : Hid (St E w os (fun c => (13 ≤ c ∧ c < 13 + (k + 1)) ∨ (28 ≤ c ∧ c < 28 + k)) wc) := hcut
        clear hcut HS hRd p0 hz2
        go_upto_region 12 with fail
        go_region_with (go_at_call 12; go_must (refine (clone_any a1 cap1 (E + 2) os _ hz1 (by exact hRd2) (by exact hz3)).mono ?_; rintro e w' ⟨ho, rfl, hon, hob, hown, hgr⟩; obtain ⟨⟨v0, q1⟩, q2, q3, -⟩ := st_store (c0 := 28 + k) (by exact HS2.out.drawn ⟨rfl, rfl, rfl, rfl⟩) hgr (by omega) hob hown))
        all_goals
          go_wp2_with fail
          go_roundg (gk - 1)
          case measure => omega
          case rel => exact ⟨k + 1, by omega, by go_num, (st_next (c0 := 28 + k) (by exact HS2.out.drawn ⟨rfl, rfl, rfl, rfl⟩) hgr (by omega) hob hown).mono (fun c hc => by omega)⟩
    · obtain rfl : 2 = k := by omega
      have hRd := reads_below hrd0 hSt.1 (by rw [← HEE.out]; exact Nat.le_refl _)
      have p0 : wr.cell? ⟨E + 1, 0, none⟩ = some (.slice (some ⟨E, 0, none⟩) 2 2) := (hSt.2.2.1.cell 0).trans rfl
      have hz2 := hSt.2.1
      have x3 : (i : Int) < 2 := by omega
      have HS : Hid (St E w os (fun c => (13 ≤ c ∧ c < 13 + 2) ∨ (28 ≤ c ∧ c < 28 + 2)) wr) := hSt
      clear hSt hkg hk
      go_upto_region 13 with fail
      go_cut [] (fun w' => Mid E w os zs a0 i w')
      case first =>
        go_region_with (go_at_call 12; go_must (refine (clone_any a0 cap0 (E + 2) zs _ hz0 (by exact hRd) (by exact hz2)).mono ?_; rintro e w' ⟨ho, rfl, hon, hob, hown, hgr⟩; obtain ⟨⟨v0, q1⟩, q2, q3, -⟩ := st_store (c0 := 13 + i) (by exact HS.out.drawn ⟨rfl, rfl, rfl, rfl⟩) hgr (by omega) hob hown))
        all_goals
          go_wp2_with fail
          go_meet
          exact mid_of hi2 (by exact HS.out.drawn ⟨rfl, rfl, rfl, rfl⟩) hgr hon hob hown
      case rest =>
        obtain ⟨kB, kz, kP, ec, ho, kE, hes, e11, e26, eh, hon, hown, hF⟩ := hcut
        clear HS hRd p0 hz2 x3
        have p0 : wc.cell? ⟨E + 1, 0, none⟩ = some (.slice (some ⟨E, 0, none⟩) 2 2) := (kP.cell 0).trans rfl
        go_wp2_with fail
        rw [← HR.out]
        have ef : ec[r * 15 + 11]? = some (.int .u32 0) := by
          rcases (show r = 0 ∨ r = 1 by omega) with rfl | rfl
          · exact e11
          · exact e26
        obtain ⟨us, hus⟩ : ∃ us, us = upd a5 zs (s / 64) (bitOf s) := ⟨_, rfl⟩
        refine (holder_any (E + 1) E 2 r i s (E + 2) a5 ec ho zs.length zs.length zs wc hr2 (by omega) hi2 hs p0 kE ef eh hown (by omega) kz (by omega) (fun _ => ⟨hz0, rfl⟩)).mono ?_
        rintro e w5 ⟨rfl, ho1, n1, capH, hnil1, hn1, -, kE5, -, hown5, hk5⟩
        rw [← hus] at hn1 hown5
        subst hn1
        have hfin : Fin E w os us (a0 = none ∧ a5 = false) i w5 := by
          have hne : ∀ g, (Value.slice ho zs.length zs.length).ownBlock = some g → E + 2 ≤ g := fun g hg => (hown.lt g hg).1
          refine ⟨kB.trans ⟨hk5.os, hk5.tape, hk5.output, hk5.size, fun k hk => hk5.block k (by omega) (by omega) (fun e => by have := hne k e.symm; omega)⟩, Nat.le_trans kz hk5.size,
            kP.of_block (hk5.block _ kP.lt (by omega) (fun e => by have := hne _ e.symm; omega)), _, ho1, capH, kE5, ?_, ?_, hown5, ?_⟩
          · rw [Array.getElem?_setIfInBounds, if_pos rfl, if_pos (by omega)]
          · rw [hnil1, hon]
          · intro c hc hne2
            obtain ⟨ho2, h1, h2, h3⟩ := hF c hc hne2
            refine ⟨ho2, by rw [Array.getElem?_setIfInBounds, if_neg (fun e => hne2 e.symm)]; exact h1, h2.1, ?_⟩
            rcases h2.2 with h4 | ⟨g, cp, cur, hv, hb, hg, rest⟩
            · exact .inl h4
            · refine .inr ⟨g, cp, cur, hv, hb, ?_, rest⟩
              rw [hk5.block g (Array.getElem?_eq_some_iff.1 hg).1 (by omega) (h3 g (by rw [hv]; rfl))]; exact hg
        have HU : Hid (us = upd a5 zs (s / 64) (bitOf s)) := hus
        have HF : Hid (Fin E w os us (a0 = none ∧ a5 = false) i w5) := hfin
        clear hfin hus hk5 hown5 kE5 hnil1 hF hown hon eh e11 e26 hes kE kP kz kB ef p0
        have hRd := reads_below hrd0 HF.out.1 (by rw [← HEE.out]; exact Nat.le_refl _)
        go_upto_if 102 with (go_at_call 12; go_must (refine (clone_any a0 cap0 w5.heap.size zs _ hz0 hRd (Nat.le_refl _)).mono ?_; rintro e w6 ⟨ho3, rfl, hon3, -, hown3, hgr3⟩))
        have kB6 : Below w5.heap.size w5 w6 := (Below.refl _ _).grown hgr3 (Nat.le_refl _) (by simp)
        have HB6 : Hid (Below w5.heap.size w5 w6) := kB6
        have HO3 : Hid (w6.ownsRow w5.heap.size 24 1 (.slice ho3 zs.length zs.length) zs.length (zs.map (Value.int .u64))) := hown3
        have HN3 : Hid (ho3 = none ↔ a0 = none) := hon3
        clear hgr3 hown3 hon3 hRd kB6
        obtain ⟨B, hB⟩ : ∃ B, B = w5.heap.size := ⟨_, rfl⟩
        rw [← hB] at HB6 HO3
        have HB : Hid (B = w5.heap.size) := hB
        clear hB
        go_cut [20] (fun v wx => ∃ ho4 cap4, v = .slice ho4 us.length cap4 ∧ (ho4 = none ↔ a0 = none ∧ a5 = false) ∧ wx.ownsRow B 24 1 (.slice ho4 us.length cap4) us.length (us.map (Value.int .u64)) ∧ Below B w5 wx)
        case first =>
          cases a5 with
          | false =>
            by_cases hlong : s / 64 < zs.length
            · rcases HO3.out.2 with ⟨_, e0⟩ | ⟨H, cap', cur, e, hb, _⟩
              · omega
              obtain ⟨rfl, -, -⟩ := Value.slice.inj e
              obtain ⟨x, hx0⟩ : ∃ x, x = zs.getD (s / 64) 0 := ⟨_, rfl⟩
              have hx : w6.cell? ⟨H, s / 64, none⟩ = some (.int .u64 x) := by rw [HO3.out.cellAt (s / 64) (by omega), map_get _ _ hlong, hx0]
              have hf := HO3.out.frozenAt (s / 64)
              have HX : Hid (x = zs.getD (s / 64) 0) := hx0
              clear e hx0
              go_wp2_with fail
              go_meet
              have hu : us = zs.set (s / 64) (bits BinOp.andNot IntKind.u64 x (bitOf s)) := by rw [HU.out, HX.out]; rfl
              have hul : us.length = zs.length := by rw [hu]; simp
              refine ⟨some ⟨H, 0, none⟩, zs.length, by rw [hul], by simpa using HN3.out, ?_, HB6.out.setCell hb _⟩
              rw [hul, hu]
              exact ownsRow_set HO3.out (s / 64) (bits BinOp.andNot IntKind.u64 x (bitOf s))
            · go_wp2_with fail
              go_meet
              have hu : us = zs := by rw [HU.out]; simp only [upd]; exact List.set_eq_of_length_le (by omega)
              refine ⟨ho3, zs.length, by rw [hu], by simpa using HN3.out, by rw [hu]; exact HO3.out, HB6.out⟩
          | true =>
            go_wp2_with fail
            go_loopg [20] (s / 64 + 1 - zs.length) (fun g v wx => ∃ (j : Nat) (ho4 : Option Addr) (cap4 : Nat), j + g = s / 64 + 1 - zs.length ∧ v = .slice ho4 (zs.length + j) cap4 ∧ (ho4 = none → a0 = none ∧ j = 0) ∧ wx.ownsRow B 24 1 (.slice ho4 (zs.length + j) cap4) (zs.length + j) ((zs ++ List.replicate j 0).map (Value.int .u64)) ∧ Below B w5 wx)
            case atStart => exact ⟨0, ho3, zs.length, by omega, rfl, fun e => ⟨HN3.out.1 e, rfl⟩, by simpa using HO3.out, HB6.out⟩
            case round =>
              obtain ⟨j, ho4, cap4, hjg, rfl, hnn, hown, hbl⟩ := hrel
              by_cases hlt : zs.length + j ≤ s / 64
              · obtain ⟨i0, hi0, hq0, hq1, hq2⟩ := info_parts info24
                go_wp2_with (at_builtin; refine wpList_append_own _ rfl _ _ 128 rfl B 24 i0 (.int .u64 0) 1 8 Yba.underlying128 hi0 hq0 hq1 hq2 rfl (by decide) _ _ ((zs ++ List.replicate j 0).map (Value.int .u64)) rfl (hown.alloc _) ⟨wr.heap.size, 0, none⟩ 1 1 [.int .u64 0] rfl rfl ?c1 ?c2 ?c3 ?c4 ?c5 ?_)
                case c1 =>
                  intro t u ht
                  match t, ht with
                  | 0, ht => simp at ht; subst ht; simp [Addr.add]
                case c2 => intro u hu; simp at hu; subst hu; rfl
                case c3 => unfold maxLen; omega
                case c4 => omega
                case c5 => have := hbl.size; have := HB.out; simp; omega
                intro v' w7 hown7 hgr7 hnil7
                obtain ⟨ho5, cap5, rfl⟩ := shape24 hown7
                have R : w7.ownsRow B 24 1 (.slice ho5 (zs.length + (j + 1)) cap5) (zs.length + (j + 1)) ((zs ++ List.replicate (j + 1) 0).map (Value.int .u64)) ∧ Below B w5 w7 ∧ (ho5 = none → a0 = none ∧ j + 1 = 0) := by
                  refine ⟨?_, ?_, ?_⟩
                  · have e : (zs ++ List.replicate (j + 1) 0).map (Value.int .u64) = zs.map (Value.int .u64) ++ (List.replicate j (.int .u64 0) ++ [.int .u64 0]) := by
                      rw [List.replicate_succ']; simp
                    rw [e]; exact hown7
                  · refine (hbl.alloc (by have := hbl.size; have := HB.out; omega) _).grown hgr7 (by have := hbl.size; have := HB.out; simp; omega) (fun k hk => (hown.lt k hk).1)
                  · intro e
                    subst e
                    have h0 : zs.length + j + 1 = 0 := by
                      rcases hown7.2 with ⟨_, e0⟩ | ⟨g, c, cu, e1, _⟩
                      · exact e0
                      · cases e1
                    omega
                have HRR : Hid (w7.ownsRow B 24 1 (.slice ho5 (zs.length + (j + 1)) cap5) (zs.length + (j + 1)) ((zs ++ List.replicate (j + 1) 0).map (Value.int .u64)) ∧ Below B w5 w7 ∧ (ho5 = none → a0 = none ∧ j + 1 = 0)) := R
                clear R hown7 hgr7 hnil7 hown hbl hnn hi0 hq0 hq1 hq2
                go_wp2_with fail
                go_roundg (gk - 1)
                case measure => omega
                case rel => exact ⟨j + 1, ho5, cap5, by omega, rfl, HRR.out.2.2, HRR.out.1, HRR.out.2.1⟩
              · have hj : j = s / 64 + 1 - zs.length := by omega
                have HJ : Hid (j = s / 64 + 1 - zs.length) := hj
                clear hj
                rcases hown.2 with ⟨_, e0⟩ | ⟨H, cap', cur, e, hb, _⟩
                · omega
                obtain ⟨rfl, -, -⟩ := Value.slice.inj e
                obtain ⟨x, hx0⟩ : ∃ x, x = zs.getD (s / 64) 0 := ⟨_, rfl⟩
                have hx : wr.cell? ⟨H, s / 64, none⟩ = some (.int .u64 x) := by
                  rw [hown.cellAt (s / 64) (by omega), map_get _ _ (by simp; omega), hx0]
                  congr 2
                  simp only [List.getD_eq_getElem?_getD]
                  by_cases hz : s / 64 < zs.length
                  · rw [List.getElem?_append_left hz]
                  · rw [List.getElem?_append_right (by omega), List.getElem?_eq_none (l := zs) (by omega), List.getElem?_replicate]
                    split <;> rfl
                have hf := hown.frozenAt (s / 64)
                have HX : Hid (x = zs.getD (s / 64) 0) := hx0
                have HOW : Hid (wr.ownsRow B 24 1 (.slice (some ⟨H, 0, none⟩) (zs.length + j) cap4) (zs.length + j) ((zs ++ List.replicate j 0).map (Value.int .u64))) := hown
                have HBL : Hid (Below B w5 wr) := hbl
                clear e hx0 hown hbl hnn
                go_wp2_with fail
                go_meet
                have hu : us = (zs ++ List.replicate j 0).set (s / 64) (bits BinOp.or IntKind.u64 x (bitOf s)) := by rw [HU.out, HX.out, HJ.out]; rfl
                have hul : us.length = zs.length + j := by rw [hu]; simp
                refine ⟨some ⟨H, 0, none⟩, cap4, by rw [hul], by simp, ?_, HBL.out.setCell hb _⟩
                rw [hul, hu]
                exact ownsRow_set HOW.out (s / 64) (bits BinOp.or IntKind.u64 x (bitOf s))
        case rest =>
          obtain ⟨ho4, cap4, rfl, hnil4, hown4, hbl4⟩ := hcut
          have hfin := fin_keep HF.out hbl4 HB.out
          have hRd1 := reads_below hrd1 hfin.1 (by rw [← HEE.out]; exact Nat.le_refl _)
          obtain ⟨kB, kz, kP, ec, ho6, cap6, kE, eh, hnil6, hown6, hF⟩ := hfin
          clear HF HO3 HB6 HN3 hbl4
          have p0 : wc.cell? ⟨E + 1, 0, none⟩ = some (.slice (some ⟨E, 0, none⟩) 2 2) := (kP.cell 0).trans rfl
          have g0 : wc.cell? ⟨E, 13 + i, none⟩ = some (.slice ho6 us.length cap6) := (kE.cell _).trans eh
          have rd6 := reads_own hown6
          have rd4 := reads_own hown4
          have hul : us.length ≤ 2048 := by
            rw [HU.out]
            cases a5
            · rw [upd_length_off]; omega
            · rw [upd_length_on]; omega
          have hnn : (ho6.isNone == ho4.isNone) = true := by
            exact nn_of (by rw [hnil6, hnil4])
          have hq6 := fun w => Lib.run_eql_slice_nil (P := Yba.prog) w 128 24 ho6 us.length cap6 0 0 Yba.underlying128
          have hq4 := fun w => Lib.run_eql_slice_nil (P := Yba.prog) w 128 24 ho4 us.length cap4 0 0 Yba.underlying128
          have hF' : ∀ c, (c = 13 ∨ c = 14 ∨ c = 28 ∨ c = 29) → c ≠ 13 + i → ∃ ho2, wc.cell? ⟨E, c, none⟩ = some (.slice ho2 os.length os.length) ∧ Reads wc ho2 os := by
            intro c hc hne
            obtain ⟨ho2, h1, h2⟩ := hF c hc hne
            exact ⟨ho2, (kE.cell c).trans h1, reads_own h2⟩
          have HFF : Hid (∀ c, (c = 13 ∨ c = 14 ∨ c = 28 ∨ c = 29) → c ≠ 13 + i → ∃ ho2, wc.cell? ⟨E, c, none⟩ = some (.slice ho2 os.length os.length) ∧ Reads wc ho2 os) := hF'
          have x3 : (i : Int) < 2 := by omega
          clear hF hF' hown6 hown4 hnil6 hnil4 kE kP kz eh
          go_wp2_with (go_at_call 14; go_must (refine (eq_same ho6 ho4 cap6 cap4 us _ hul rd6 rd4).mono ?_; rintro e w8 ⟨rfl, q, rfl⟩))
          have HRD1 : Hid (Reads wc a1 os) := hRd1
          clear rd6 rd4 hnn hq6 hq4 g0 hRd1
          go_loopw [22] (fun t wx => ∃ (k q : Nat), k ≤ 2 ∧ t = .int .i64 k ∧ wc.drewN q = wx) (fun t _ => 2 - (intOf t).toNat)
          case atStart => exact ⟨0, q, by omega, rfl, rfl⟩
          case round =>
            obtain ⟨k, q2, hk, rfl, rfl⟩ := hrel
            by_cases hk2 : k < 2
            · obtain ⟨hB1, g1, rB1⟩ := HFF.out (28 + k) (by omega) (by omega)
              have y3 : (k : Int) < 2 := by omega
              have E2 := fun q => eq_same hB1 a1 os.length cap1 os (wc.drewN q) (by omega) (by exact rB1) (by exact HRD1.out)
              by_cases hki : k = i
              · obtain rfl : i = k := hki.symm
                clear hki
                have HE2 : Hid (∀ q, Calls Yba.prog 14 #[.slice hB1 os.length os.length, .slice a1 os.length cap1] (wc.drewN q) fun e w' => e = .returned (.bool true) ∧ ∃ q', (wc.drewN q).drewN q' = w') := E2
                clear E2 rB1
                go_wp2_with (go_at_call 14; go_must (refine (HE2.out _).mono ?_; rintro e w8 ⟨rfl, q, rfl⟩))
                go_roundw
                case rel => exact ⟨i + 1, _, by omega, by go_num, rfl⟩
                case measure => simp [intOf]; omega
              · obtain ⟨hA1, g2, rA1⟩ := HFF.out (13 + k) (by omega) (by omega)
                have E1 := fun q => eq_same hA1 a1 os.length cap1 os (wc.drewN q) (by omega) (by exact rA1) (by exact HRD1.out)
                have HE2 : Hid (∀ q, Calls Yba.prog 14 #[.slice hB1 os.length os.length, .slice a1 os.length cap1] (wc.drewN q) fun e w' => e = .returned (.bool true) ∧ ∃ q', (wc.drewN q).drewN q' = w') := E2
                have HE1 : Hid (∀ q, Calls Yba.prog 14 #[.slice hA1 os.length os.length, .slice a1 os.length cap1] (wc.drewN q) fun e w' => e = .returned (.bool true) ∧ ∃ q', (wc.drewN q).drewN q' = w') := E1
                clear E1 E2 rB1 rA1
                go_wp2_with fail
                refine (HE1.out _).mono ?_
                rintro e w8 ⟨rfl, q8, rfl⟩
                go_wp2_with fail
                refine (HE2.out _).mono ?_
                rintro e w9 ⟨rfl, q9, rfl⟩
                go_wp2_with fail
                go_roundw
                case rel => exact ⟨k + 1, _, by omega, by go_num, rfl⟩
                case measure => simp [intOf]; omega
            · go_wp2_with fail
              go_ret
              exact ⟨rfl, by rw [← HEE.out]; exact kB.trans ⟨rfl, rfl, rfl, Nat.le_refl _, fun _ _ => rfl⟩⟩

/-! ### THE ROW's STEP: WRITTEN OUT: LEAVE IT -/
set_option maxRecDepth 100000 in
theorem lifted (os : Os) (started : os.Started) (H : Type) (enc : TypeId × Value → H) :
    ReturnsInHanded {} Yba.checked os 4 .any (Rows.lawS2306CModelSpec.pre6 enc Yba.prog Yba.f4 Rows.lawS2306CModelRow.domain false) (Rows.lawS2306CModelSpec.post enc Yba.prog Yba.f4 false true false false) := by
  refine returnsInHanded_of_change (C := Yba.checked) own started (by kernel_rfl) Yba.func4
    (ChangeSpec.witness6 (enc := enc) (C := Yba.checked) false ⟨#[], #[.slice none 0 0, .slice none 0 0, .int .u8 0, .int .u8 0, .int .u16 0, .bool false], []⟩ 8 (by kernel_rfl) (by kernel_rfl) (by kernel_rfl) (by kernel_rfl)) ?_
  intro W base args ds gs before hval0 hW hcnd _
  have hval : ∀ (j : Nat) t v, Yba.f4.params[j]? = some t → args[j]? = some v → Value.okWide Yba.prog W .any base t v := hval0
  have hW' := hW
  obtain ⟨p, q, hA0, hV, rfl, hfz, hnd⟩ := hW
  have hA : DataW.TrodAll enc Yba.prog W 0 (fun _ => true) true Yba.f4.params.toList args.toList ds p := hA0
  rw [Yba.params4] at hA hval
  obtain ⟨v0, vs0, d0, ds0, p0, q0, hargs, rfl, rfl, h0, r0⟩ := trodAll_cons hA
  obtain ⟨v1, vs1, d1, ds1, p1, q1, rfl, rfl, rfl, h1, r1⟩ := trodAll_cons r0
  obtain ⟨v2, vs2, d2, ds2, p2, q2, rfl, rfl, rfl, h2, r2⟩ := trodAll_cons r1
  obtain ⟨v3, vs3, d3, ds3, p3, q3, rfl, rfl, rfl, h3, r3⟩ := trodAll_cons r2
  obtain ⟨v4, vs4, d4, ds4, p4, q4, rfl, rfl, rfl, h4, r4⟩ := trodAll_cons r3
  obtain ⟨v5, vs5, d5, ds5, p5, q5, rfl, rfl, rfl, h5, r5⟩ := trodAll_cons r4
  obtain ⟨rfl, rfl, rfl⟩ := trodAll_nil r5
  obtain rfl : args = #[v0, v1, v2, v3, v4, v5] := by cases args; simp_all
  obtain ⟨rfl, rfl⟩ := trodVars_none hV
  obtain ⟨a0, len0, cap0, rfl⟩ := okWide_slice Yba.underlying128 (hval 0 128 v0 rfl rfl)
  have k0 := h0
  have lt0 : ∀ x ∈ p0, x.block < W.heap.size := by obtain ⟨m, hm⟩ := k0; exact DataW.trod_lt m _ _ _ hm
  obtain ⟨z0, w0⟩ : ∃ zs, IsRow .u64 W a0 len0 cap0 zs := by
    obtain ⟨fuel, hf⟩ := h0
    rcases open_ints Yba.underlying128 Yba.underlying24 (by kernel_rfl) hf with ⟨hcs, _⟩ | ⟨x, l, c, zs, hcs, _, hl, hm, hz, _, hcell, hwz⟩
    · simp [Value.cells] at hcs
      obtain ⟨rfl, rfl, rfl⟩ := hcs
      exact ⟨[], .inl ⟨rfl, rfl, rfl, rfl⟩⟩
    · simp [Value.cells] at hcs
      obtain ⟨rfl, rfl, rfl⟩ := hcs
      exact ⟨zs, .inr ⟨_, rfl, hl, hm, by simpa using hz, hcell, hwz⟩⟩
  obtain ⟨a1, len1, cap1, rfl⟩ := okWide_slice Yba.underlying128 (hval 1 128 v1 rfl rfl)
  have k1 := h1
  have lt1 : ∀ x ∈ p1, x.block < W.heap.size := by obtain ⟨m, hm⟩ := k1; exact DataW.trod_lt m _ _ _ hm
  obtain ⟨z1, w1⟩ : ∃ zs, IsRow .u64 W a1 len1 cap1 zs := by
    obtain ⟨fuel, hf⟩ := h1
    rcases open_ints Yba.underlying128 Yba.underlying24 (by kernel_rfl) hf with ⟨hcs, _⟩ | ⟨x, l, c, zs, hcs, _, hl, hm, hz, _, hcell, hwz⟩
    · simp [Value.cells] at hcs
      obtain ⟨rfl, rfl, rfl⟩ := hcs
      exact ⟨[], .inl ⟨rfl, rfl, rfl, rfl⟩⟩
    · simp [Value.cells] at hcs
      obtain ⟨rfl, rfl, rfl⟩ := hcs
      exact ⟨zs, .inr ⟨_, rfl, hl, hm, by simpa using hz, hcell, hwz⟩⟩
  obtain ⟨a2, rfl, rfl, rfl, w2⟩ := open_int Yba.underlying5 (hval 2 5 v2 rfl rfl) h2
  obtain ⟨a3, rfl, rfl, rfl, w3⟩ := open_int Yba.underlying5 (hval 3 5 v3 rfl rfl) h3
  obtain ⟨a4, rfl, rfl, rfl, w4⟩ := open_int Yba.underlying34 (hval 4 34 v4 rfl rfl) h4
  obtain ⟨a5, rfl, rfl, rfl⟩ := open_bool Yba.underlying4 (hval 5 4 v5 rfl rfl) h5
  clear hA0 hval0
  refine (walk a0 len0 cap0 z0 a1 len1 cap1 z1 a2 a3 a4 a5 W w0 w1 w2 w3 w4).mono fun e W' ⟨he, bel⟩ => ?_
  subst he
  exact ⟨_, rfl, _, _, _, [], _, [], hW', trodAll_mk1 (shut_bool Yba.underlying4 _), (trodAll_cons_mk (Below.trod laidOut (by kernel_rfl) (of_decide_eq_true (by kernel_rfl)) k0 bel lt0) (trodAll_cons_mk (Below.trod laidOut (by kernel_rfl) (of_decide_eq_true (by kernel_rfl)) k1 bel lt1) (trodAll_cons_mk (shut_int Yba.underlying5 w2) (trodAll_cons_mk (shut_int Yba.underlying5 w3) (trodAll_cons_mk (shut_int Yba.underlying34 w4) (trodAll_cons_mk (shut_bool Yba.underlying4 _) trodAll_mk0)))))), rfl, bel.frame _, fun h => by cases h⟩

theorem over : Rows.lawS2306CModelRow.holds Yba.pinned (OpenSpec.ofChange Rows.lawS2306CModelSpec) :=
  OpenClaim.holds_of_wide 4 Yba.f4 rfl rfl rfl rfl rfl rfl rfl ⟨rfl, rfl, rfl, rfl, rfl⟩ rfl rfl rfl rfl rfl (by kernel_rfl) Yba.func4 (by kernel_rfl)
    (of_decide_eq_true (by kernel_rfl)) (by unfold Func.isWrapper; first | (rw [if_pos (by decide +kernel)]; kernel_rfl) | (rw [if_neg (by decide +kernel)]; exact ⟨rfl, rfl⟩))
    (fun os started H enc _ => lifted os started H enc)

/-- ████ THE STATEMENT ████ -/
theorem proved : Rows.LawS2306CModelSaid := over
#print axioms proved
end Go.Proofs.Ybulkauss.lawS2306CModel
