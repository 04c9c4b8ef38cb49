/-
  The second loop of the law.
-/
import Derived.Test.YbulkaussLd
import Derived.Test.YbulkaussLg
import Derived.Test.YbulkaussLh
namespace Go.Proofs.Ybulkauss
open Go.RowKit Go.Deep

set_option maxHeartbeats 1600000 in
set_option maxRecDepth 100000 in
theorem law3 {x y : Code} (hxy : IsAt 34 x y) {fl ac ba xk nw nx du NX DU sd : Int} {w u4 : World} {H X N W M O P mn : Nat} {mo : Option Addr} {mc : Array Value} {cs : List Value} {l0 l1 E0 E1 : Lane} {F SB B0 B1 TG : Bool} (hnw : -9223372036854775808 ≤ nw ∧ nw ≤ 9223372036854775807)
    (qX : X ≠ N) (qW : W ≠ N) (qM : M ≠ N) (qO : O ≠ N) (qO1 : O + 1 ≠ N) (qP : P ≠ N) (kX4 : Blk u4 X #[.int .u64 0, .int .u64 (xk % 3), .int .u64 0, .int .u64 0, .pointer none, .int .u16 0] 38) (kW4 : Blk u4 W #[.int .u64 (nw % 1000000000), .int .i64 (nw / 1000000000), .pointer none] 43) (kM4 : Blk u4 M mc 123)
    (m3 : mc[3]? = some (.int .u8 fl)) (m17 : mc[17]? = some (.slice mo mn mn)) (m24 : mc[24]? = some (.int .u8 ba)) (m25 : mc[25]? = some (.int .u8 (ac % 4)))
    (kP4 : Blk u4 P cs.toArray 78) (hcs : cs.length = 80) (hc1 : cs.toArray.all (·.oneCell') = true) (pl0 : LaneIs cs.toArray 0 l0) (pl1 : LaneIs cs.toArray 40 l1)
    (kO4 : Blk u4 O #[.int .u64 (nx % 1000000000), .int .i64 (nx / 1000000000), .pointer none] 43) (kO14 : Blk u4 (O + 1) #[.int .u64 (du % 1000000000), .int .i64 (du / 1000000000), .pointer none] 43) (hHN : H ≤ N) (hHs : H ≤ u4.heap.size) (hb4 : Below H w u4) (n6 : NodeIs u4 N E0 E1 NX DU u4)
    (hF : F = (bits BinOp.and IntKind.u8 fl 8 != 0)) (hB0 : B0 = (decide (0 < mn) && SB)) (hB1 : B1 = (decide (0 < mn) && !SB)) (hsd : sd = sideI SB)
    (hE0 : E0 = endL B0 (F && clr l0 (xk % 3) (ac % 4)) (xk % 3) ba l0) (hE1 : E1 = endL B1 (F && clr l1 (xk % 3) (ac % 4)) (xk % 3) ba l1)
    (hTG : TG = (F && (trg l0 (xk % 3) (ac % 4) || trg l1 (xk % 3) (ac % 4)))) (hNX : NX = nxB TG (nw + 20000000) nx) (hDU : DU = duB TG (nw + 20000000) nx du) {K : Act → World → Prop} (hk : ∀ a w', Code.wp Yba.prog y (bodyPost Yba.prog Yba.f3 fun e w' => e = .returned (.bool true) ∧ Below H w w') a w' → K a w')
    {sl0 sl1 sl2 sl3 sl4 sl5 sl6 sl7 sl8 sl9 sl10 sl11 sl12 sl13 sl14 sl15 sl16 sl17 sl18 sl19 sl20 sl23 sl25 sl26 sl27 sl28 sl29 sl31 sl36 sl37 sl38 sl39 sl40 sl41 sl42 sl43 sl44 sl45 sl46 sl47 sl48 sl49 sl50 sl51 sl52 sl53 sl54 sl55 sl56 sl57 sl58 sl59 sl60 sl61 sl62 sl63 sl64 sl65 sl66 sl67 sl68 sl69 sl70 sl71 sl72 sl73 sl74 sl75 sl76 sl77 sl78 sl79 sl80 sl81 sl82 sl83 sl84 sl85 sl86 sl87 sl88 sl89 sl90 sl91 sl92 sl93 sl94 sl95 sl96 sl97 sl98 sl99 sl100 sl101 sl102 sl103 sl104 sl105 sl106 sl107 sl108 sl109 sl110 sl111 sl112 sl113 sl114 sl115 sl116 sl117 sl118 sl119 sl120 sl121 sl122 sl123 sl124 sl125 sl126 sl127 sl128 sl129 sl130 sl131 sl132 sl133 sl134 sl135 sl136 sl137 sl138 sl139 sl140 sl141 sl142 sl143 sl144 sl145 sl146 sl147 sl148 sl149 sl150 sl151 sl152 sl153 sl154 sl155 sl156 sl157 sl158 sl159 sl160 sl161 sl162 sl163 sl164 sl165 sl166 sl167 sl168 sl169 sl170 sl171 sl172 sl173 sl174 sl175 sl176 sl177 sl178 sl179 sl180 sl181 sl182 sl183 sl184 sl185 sl186 sl187 sl188 sl189 sl190 sl191 sl192 sl193 sl194 sl195 sl196 sl197 sl198 sl199 sl200 sl201 sl202 sl203 sl204 sl205 sl206 sl207 sl208 sl209 sl210 sl211 sl212 sl213 sl214 sl215 sl216 sl217 sl218 sl219 sl220 sl221 sl222 sl223 sl224 sl225 sl226 sl227 sl228 sl229 sl230 sl231 sl232 sl233 sl234 sl235 sl236 sl237 sl238 sl239 sl240 sl241 sl242 sl243 sl244 sl245 sl246 sl247 sl248 sl249 sl250 sl251 sl252 sl253 sl254 sl255 sl256 sl257 sl258 sl259 sl260 sl261 sl262 sl263 sl264 sl265 sl266 sl267 sl268 sl269 sl270 sl271 sl272 sl273 sl274 sl275 sl276 sl277 sl278 sl279 sl280 sl281 sl282 sl283 sl284 sl285 sl286 sl287 sl288 sl289 sl290 sl291 sl292 sl293 sl294 sl295 sl296 sl297 sl298 sl299 sl300 sl301 sl302 sl303 sl304 sl305 sl306 sl307 sl308 sl309 sl310 sl311 sl312 sl313 : Value} :
    Code.wp Yba.prog x (Exit.then K (bodyPost Yba.prog Yba.f3 fun e w' => e = .returned (.bool true) ∧ Below H w w')) ⟨#[sl0, sl1, sl2, sl3, sl4, sl5, sl6, sl7, sl8, sl9, sl10, sl11, sl12, sl13, sl14, sl15, sl16, sl17, sl18, sl19, sl20, .pointer (some ⟨X, 0, none⟩), .pointer (some ⟨N, 0, none⟩), sl23, .pointer (some ⟨W, 0, none⟩), sl25, sl26, sl27, sl28, sl29, .pointer (some ⟨M, 0, none⟩), sl31, .pointer (some ⟨O, 0, none⟩), .pointer (some ⟨O + 1, 0, none⟩), .pointer (some ⟨P, 0, none⟩), .int .i64 sd, sl36, sl37, sl38, sl39, sl40, sl41, sl42, sl43, sl44, sl45, sl46, sl47, sl48, sl49, sl50, sl51, sl52, sl53, sl54, sl55, sl56, sl57, sl58, sl59, sl60, sl61, sl62, sl63, sl64, sl65, sl66, sl67, sl68, sl69, sl70, sl71, sl72, sl73, sl74, sl75, sl76, sl77, sl78, sl79, sl80, sl81, sl82, sl83, sl84, sl85, sl86, sl87, sl88, sl89, sl90, sl91, sl92, sl93, sl94, sl95, sl96, sl97, sl98, sl99, sl100, sl101, sl102, sl103, sl104, sl105, sl106, sl107, sl108, sl109, sl110, sl111, sl112, sl113, sl114, sl115, sl116, sl117, sl118, sl119, sl120, sl121, sl122, sl123, sl124, sl125, sl126, sl127, sl128, sl129, sl130, sl131, sl132, sl133, sl134, sl135, sl136, sl137, sl138, sl139, sl140, sl141, sl142, sl143, sl144, sl145, sl146, sl147, sl148, sl149, sl150, sl151, sl152, sl153, sl154, sl155, sl156, sl157, sl158, sl159, sl160, sl161, sl162, sl163, sl164, sl165, sl166, sl167, sl168, sl169, sl170, sl171, sl172, sl173, sl174, sl175, sl176, sl177, sl178, sl179, sl180, sl181, sl182, sl183, sl184, sl185, sl186, sl187, sl188, sl189, sl190, sl191, sl192, sl193, sl194, sl195, sl196, sl197, sl198, sl199, sl200, sl201, sl202, sl203, sl204, sl205, sl206, sl207, sl208, sl209, sl210, sl211, sl212, sl213, sl214, sl215, sl216, sl217, sl218, sl219, sl220, sl221, sl222, sl223, sl224, sl225, sl226, sl227, sl228, sl229, sl230, sl231, sl232, sl233, sl234, sl235, sl236, sl237, sl238, sl239, sl240, sl241, sl242, sl243, sl244, sl245, sl246, sl247, sl248, sl249, sl250, sl251, sl252, sl253, sl254, sl255, sl256, sl257, sl258, sl259, sl260, sl261, sl262, sl263, sl264, sl265, sl266, sl267, sl268, sl269, sl270, sl271, sl272, sl273, sl274, sl275, sl276, sl277, sl278, sl279, sl280, sl281, sl282, sl283, sl284, sl285, sl286, sl287, sl288, sl289, sl290, sl291, sl292, sl293, sl294, sl295, sl296, sl297, sl298, sl299, sl300, sl301, sl302, sl303, sl304, sl305, sl306, sl307, sl308, sl309, sl310, sl311, sl312, sl313], []⟩ u4 := by
  unfold IsAt at hxy
  conv at hxy => lhs; whnf
  obtain ⟨rfl, rfl⟩ := Prod.mk.inj (Option.some.inj hxy)
  clear hxy
  have HE0 : Hid (E0 = endL B0 (F && clr l0 (xk % 3) (ac % 4)) (xk % 3) ba l0) := hE0
  have HE1 : Hid (E1 = endL B1 (F && clr l1 (xk % 3) (ac % 4)) (xk % 3) ba l1) := hE1
  have HF : Hid (F = (bits BinOp.and IntKind.u8 fl 8 != 0)) := hF
  have HB0 : Hid (B0 = (decide (0 < mn) && SB)) := hB0
  have HB1 : Hid (B1 = (decide (0 < mn) && !SB)) := hB1
  have HTG : Hid (TG = (F && (trg l0 (xk % 3) (ac % 4) || trg l1 (xk % 3) (ac % 4)))) := hTG
  have HNX : Hid (NX = nxB TG (nw + 20000000) nx) := hNX
  have HDU : Hid (DU = duB TG (nw + 20000000) nx du) := hDU
  have HSD : Hid (sd = sideI SB) := hsd
  clear hsd hE0 hE1 hF hB0 hB1 hTG hNX hDU
  go_wp2_with fail
  have hp29 := eq29
  go_loopg [36, 170] 2 (fun g tg t wx => ∃ k : Nat, k + g = 2 ∧ t = .int .i64 k ∧ tg = .bool (trgL F k l0 l1 (xk % 3) (ac % 4)) ∧ NodeIs u4 N E0 E1 NX DU wx)
  case atStart => exact ⟨0, rfl, rfl, by simp [trgL, trgK], n6⟩
  case round =>
    obtain ⟨k, hkg, rfl, rfl, hN⟩ := hrel
    by_cases hk0 : k = 0
    · subst hk0
      have jP := hN.kept kP4 qP
      obtain ⟨ps, p1, p2, p3, p4⟩ := copy_one jP (by simp [hcs]) hc1 0 (by omega) pl0
      obtain ⟨zz, hal, hst⟩ := var_runs 77 40 var77
      have hst1 := hst wr ps p1 p2
      have hi1 : (Yba.prog.info? 77).map (·.size) = some ps.length := by rw [p1]; exact size77
      go_upto_region 38 with fail
      repeat ((fail_if_success (with_reducible refine wp_load_mid 77 _ rfl P 0 ?hx ps _ p3 Yba.underlying77 rfl hi1 ?_)); (first | go_values | go_skip | go_step | go_upon))
      refine wp_load_mid 77 _ rfl P 0 rfl ps _ p3 Yba.underlying77 rfl hi1 ?_
      repeat ((fail_if_success (with_reducible refine wp_alloc_at 77 zz rfl hal ?_)); (first | go_values | go_skip | go_step | go_upon))
      with_reducible refine wp_alloc_at 77 zz rfl hal ?_
      repeat ((fail_if_success (with_reducible refine wp_store_as 77 _ _ (.pointer (some ⟨wr.heap.size, 0, none⟩)) (.agg ps.toArray) rfl ?hx ?hy hst1 ?_)); (first | go_values | go_skip | go_step | go_upon))
      with_reducible refine wp_store_as 77 _ _ (.pointer (some ⟨wr.heap.size, 0, none⟩)) (.agg ps.toArray) rfl ?hx ?hy hst1 ?_
      case hx => rfl
      case hy => rfl
      obtain ⟨Q, hQ⟩ : ∃ Q, Q = wr.heap.size := ⟨_, rfl⟩
      obtain ⟨u5, hu5⟩ : ∃ u5, u5 = wr.alloc (.cells ps.toArray 77) := ⟨_, rfl⟩
      rw [← hu5, ← hQ]
      have n7 : NodeIs u4 N E0 E1 NX DU u5 := by rw [hu5]; exact hN.alloc _
      have kQ : Blk u5 Q ps.toArray 77 := by rw [hu5, hQ]; exact Blk.new _ _ _
      clear hu5 hQ hN p3 hst1 hi1 jP
      obtain ⟨qs, q1, q2, q3, q4⟩ := n7.one0
      have hst2 := hst u5 qs q1 q2
      have hi2 : (Yba.prog.info? 77).map (·.size) = some qs.length := by rw [q1]; exact size77
      go_upto_region 39 with fail
      repeat ((fail_if_success (with_reducible refine wp_load_mid 77 _ rfl N 74 ?hx qs _ q3 Yba.underlying77 rfl hi2 ?_)); (first | go_values | go_skip | go_step | go_upon))
      refine wp_load_mid 77 _ rfl N 74 rfl qs _ q3 Yba.underlying77 rfl hi2 ?_
      repeat ((fail_if_success (with_reducible refine wp_alloc_at 77 zz rfl hal ?_)); (first | go_values | go_skip | go_step | go_upon))
      with_reducible refine wp_alloc_at 77 zz rfl hal ?_
      repeat ((fail_if_success (with_reducible refine wp_store_as 77 _ _ (.pointer (some ⟨u5.heap.size, 0, none⟩)) (.agg qs.toArray) rfl ?hx ?hy hst2 ?_)); (first | go_values | go_skip | go_step | go_upon))
      with_reducible refine wp_store_as 77 _ _ (.pointer (some ⟨u5.heap.size, 0, none⟩)) (.agg qs.toArray) rfl ?hx ?hy hst2 ?_
      case hx => rfl
      case hy => rfl
      obtain ⟨R, hR⟩ : ∃ R, R = u5.heap.size := ⟨_, rfl⟩
      obtain ⟨u6, hu6⟩ : ∃ u6, u6 = u5.alloc (.cells qs.toArray 77) := ⟨_, rfl⟩
      rw [← hu6, ← hR]
      have n8 : NodeIs u4 N E0 E1 NX DU u6 := by rw [hu6]; exact n7.alloc _
      have kQ6 : Blk u6 Q ps.toArray 77 := by rw [hu6]; exact kQ.alloc _
      have kR6 : Blk u6 R qs.toArray 77 := by rw [hu6, hR]; exact Blk.new _ _ _
      have q4 : LaneIs qs.toArray 0 (endL B0 (F && clr l0 (xk % 3) (ac % 4)) (xk % 3) ba l0) := HE0.out ▸ q4
      clear hu6 hR n7 q3 hst2 hi2 kQ hal hst
      go_upto_region 40 with fail
      simp only [Act.put, List.setIfInBounds_toArray, List.set_cons_succ, List.set_cons_zero]
      go_cut [40] (fun v w' => v = .bool (F && clr l0 (xk % 3) (ac % 4)) ∧ NodeIs u4 N E0 E1 NX DU w' ∧ Blk w' Q ps.toArray 77 ∧ Blk w' R qs.toArray 77)
      case first =>
        obtain ⟨-, c7, c8, c9, c10, c11, c12, c13, c14, -, -, -, -, -, -, -⟩ := p4.cells0 kQ6
        have jM := n8.kept kM4 qM
        have jX := n8.kept kX4 qX
        have e3 : u6.cell? ⟨M, 3, none⟩ = some (.int .u8 fl) := (jM.cell 3).trans m3
        have e25 : u6.cell? ⟨M, 25, none⟩ = some (.int .u8 (ac % 4)) := (jM.cell 25).trans m25
        have x0 : u6.cell? ⟨X, 0, none⟩ = some (.int .u64 0) := jX.cell 0
        have x1 : u6.cell? ⟨X, 1, none⟩ = some (.int .u64 (xk % 3)) := jX.cell 1
        have x2 : u6.cell? ⟨X, 2, none⟩ = some (.int .u64 0) := jX.cell 2
        have x3 : u6.cell? ⟨X, 3, none⟩ = some (.int .u64 0) := jX.cell 3
        have x4 : u6.cell? ⟨X, 4, none⟩ = some (.pointer none) := jX.cell 4
        have x5 : u6.cell? ⟨X, 5, none⟩ = some (.int .u16 0) := jX.cell 5
        have HF0' := HF.out
        cases hf : (bits BinOp.and IntKind.u8 fl 8 != 0)
        · have HC : Hid ((F && clr l0 (xk % 3) (ac % 4)) = false) := (by show _ = _; rw [HF0', hf]; rfl)
          clear HF0'
          go_quiet (fail)
          go_wp2_with fail
          go_meet
          exact ⟨by rw [HC.out], n8.drawn ⟨rfl, rfl, rfl, rfl⟩, by exact kQ6, by exact kR6⟩
        · by_cases hne : 0 < l0.ne
          · have y1 : decide ((0 : Int) < (l0.ne : Int)) = true := by simp; omega
            by_cases ht : l0.tgt = xk % 3
            · have y2 : (l0.tgt == xk % 3) = true := by simp [ht]
              by_cases hsq : l0.sq = ac % 4
              · have y3 : (l0.sq == ac % 4) = true := by simp [hsq]
                have HC : Hid ((F && clr l0 (xk % 3) (ac % 4)) = true) := (by show _ = _; rw [HF0', hf]; simp [clr, hne, ht, hsq])
                clear ht hsq HF0'
                go_quiet (fail)
                go_wp2_with fail
                go_meet
                exact ⟨by rw [HC.out], n8.drawn ⟨rfl, rfl, rfl, rfl⟩, by exact kQ6, by exact kR6⟩
              · have y3 : (l0.sq == ac % 4) = false := by simp [hsq]
                have HC : Hid ((F && clr l0 (xk % 3) (ac % 4)) = false) := (by show _ = _; rw [HF0', hf]; simp [clr, hsq])
                clear ht hsq HF0'
                go_quiet (fail)
                go_wp2_with fail
                go_meet
                exact ⟨by rw [HC.out], n8.drawn ⟨rfl, rfl, rfl, rfl⟩, by exact kQ6, by exact kR6⟩
            · have y2 : (l0.tgt == xk % 3) = false := by simp [ht]
              have HC : Hid ((F && clr l0 (xk % 3) (ac % 4)) = false) := (by show _ = _; rw [HF0', hf]; simp [clr, ht])
              clear ht HF0'
              go_quiet (fail)
              go_wp2_with fail
              go_meet
              exact ⟨by rw [HC.out], n8.drawn ⟨rfl, rfl, rfl, rfl⟩, by exact kQ6, by exact kR6⟩
          · have y1 : decide ((0 : Int) < (l0.ne : Int)) = false := by simp; omega
            have HC : Hid ((F && clr l0 (xk % 3) (ac % 4)) = false) := (by show _ = _; rw [HF0', hf]; simp [clr, hne])
            clear HF0'
            go_quiet (fail)
            go_wp2_with fail
            go_meet
            exact ⟨by rw [HC.out], n8.drawn ⟨rfl, rfl, rfl, rfl⟩, by exact kQ6, by exact kR6⟩
      case rest =>
        clear n8 kQ6 kR6
        obtain ⟨rfl, n9, kQ9, kR9⟩ := hcut
        obtain ⟨C, hC⟩ : ∃ C : Bool, C = (F && clr l0 (xk % 3) (ac % 4)) := ⟨_, rfl⟩
        rw [← hC] at q4 ⊢
        have HC : Hid (C = (F && clr l0 (xk % 3) (ac % 4))) := hC
        clear hC
        go_upto_region 41 with fail
        refine part41 (by unfold IsAt; kernel_rfl) (tv2 := trgL F 1 l0 l1 (xk % 3) (ac % 4)) kQ9 p4 kR9 q4 (fun h => (trgL_no0 (HC.out.symm.trans h)).symm) (fun h hq => (trgL_yes0 (HC.out.symm.trans h) hq).symm) (fun _ hq => (trgL_idle0 hq).symm) (by assumption) ?_
        intro n20 n213 n214 n215 n216 n217 n218 n219 n220 n221 n222 n223 n224 n225 n226 n227 n228 n229 n230
        obtain ⟨c6, c7, c8, c9, c10, c11, c12, c13, -, -, -, -, -, -, -, -⟩ := p4.cells0 kQ9
        have DD := q4.cells0 kR9
        have d6 : wc.cell? ⟨R, 6, none⟩ = some (.slice l0.qo l0.nq l0.nq) := DD.1
        have d7 := DD.2.1
        have d8 : wc.cell? ⟨R, 8, none⟩ = some (.int .u64 l0.tgt) := DD.2.2.1
        have d9 := DD.2.2.2.1
        have d10 := DD.2.2.2.2.1
        have d11 := DD.2.2.2.2.2.1
        have d12 := DD.2.2.2.2.2.2.1
        have d13 : wc.cell? ⟨R, 13, none⟩ = some (.int .u8 l0.sq) := DD.2.2.2.2.2.2.2.1
        clear DD
        go_upto_region 50 with fail
        refine part50 (by unfold IsAt; kernel_rfl) kQ9 p4 kR9 q4 (n9.kept kM4 qM) m17 m24 (n9.kept kX4 qX) (side_b0 HB0.out HSD.out) (by assumption) ?_
        intro n20 n41 n42 n256 n257 n258 n259 n260 n261 n262 n263 n264 n265 n266 n267 n268 n269 n270 n271 n272 n273 n274 n275 n276 n277 n278 n279 n280 n281 n282 n283 n284 n285 w9 ob hw9
        subst hw9
        go_wp2_with fail
        go_roundg (gk - 1)
        case measure => omega
        case rel => exact ⟨1, by omega, by go_num, rfl, n9.alloc ob⟩
    · by_cases hk1 : k = 1
      · subst hk1
        have jP := hN.kept kP4 qP
        obtain ⟨ps, p1, p2, p3, p4⟩ := copy_one jP (by simp [hcs]) hc1 40 (by omega) pl1
        obtain ⟨zz, hal, hst⟩ := var_runs 77 40 var77
        have hst1 := hst wr ps p1 p2
        have hi1 : (Yba.prog.info? 77).map (·.size) = some ps.length := by rw [p1]; exact size77
        go_upto_region 38 with fail
        repeat ((fail_if_success (with_reducible refine wp_load_mid 77 _ rfl P 40 ?hx ps _ p3 Yba.underlying77 rfl hi1 ?_)); (first | go_values | go_skip | go_step | go_upon))
        refine wp_load_mid 77 _ rfl P 40 rfl ps _ p3 Yba.underlying77 rfl hi1 ?_
        repeat ((fail_if_success (with_reducible refine wp_alloc_at 77 zz rfl hal ?_)); (first | go_values | go_skip | go_step | go_upon))
        with_reducible refine wp_alloc_at 77 zz rfl hal ?_
        repeat ((fail_if_success (with_reducible refine wp_store_as 77 _ _ (.pointer (some ⟨wr.heap.size, 0, none⟩)) (.agg ps.toArray) rfl ?hx ?hy hst1 ?_)); (first | go_values | go_skip | go_step | go_upon))
        with_reducible refine wp_store_as 77 _ _ (.pointer (some ⟨wr.heap.size, 0, none⟩)) (.agg ps.toArray) rfl ?hx ?hy hst1 ?_
        case hx => rfl
        case hy => rfl
        obtain ⟨Q, hQ⟩ : ∃ Q, Q = wr.heap.size := ⟨_, rfl⟩
        obtain ⟨u5, hu5⟩ : ∃ u5, u5 = wr.alloc (.cells ps.toArray 77) := ⟨_, rfl⟩
        rw [← hu5, ← hQ]
        have n7 : NodeIs u4 N E0 E1 NX DU u5 := by rw [hu5]; exact hN.alloc _
        have kQ : Blk u5 Q ps.toArray 77 := by rw [hu5, hQ]; exact Blk.new _ _ _
        clear hu5 hQ hN p3 hst1 hi1 jP
        obtain ⟨qs, q1, q2, q3, q4⟩ := n7.one1
        have hst2 := hst u5 qs q1 q2
        have hi2 : (Yba.prog.info? 77).map (·.size) = some qs.length := by rw [q1]; exact size77
        go_upto_region 39 with fail
        repeat ((fail_if_success (with_reducible refine wp_load_mid 77 _ rfl N 114 ?hx qs _ q3 Yba.underlying77 rfl hi2 ?_)); (first | go_values | go_skip | go_step | go_upon))
        refine wp_load_mid 77 _ rfl N 114 rfl qs _ q3 Yba.underlying77 rfl hi2 ?_
        repeat ((fail_if_success (with_reducible refine wp_alloc_at 77 zz rfl hal ?_)); (first | go_values | go_skip | go_step | go_upon))
        with_reducible refine wp_alloc_at 77 zz rfl hal ?_
        repeat ((fail_if_success (with_reducible refine wp_store_as 77 _ _ (.pointer (some ⟨u5.heap.size, 0, none⟩)) (.agg qs.toArray) rfl ?hx ?hy hst2 ?_)); (first | go_values | go_skip | go_step | go_upon))
        with_reducible refine wp_store_as 77 _ _ (.pointer (some ⟨u5.heap.size, 0, none⟩)) (.agg qs.toArray) rfl ?hx ?hy hst2 ?_
        case hx => rfl
        case hy => rfl
        obtain ⟨R, hR⟩ : ∃ R, R = u5.heap.size := ⟨_, rfl⟩
        obtain ⟨u6, hu6⟩ : ∃ u6, u6 = u5.alloc (.cells qs.toArray 77) := ⟨_, rfl⟩
        rw [← hu6, ← hR]
        have n8 : NodeIs u4 N E0 E1 NX DU u6 := by rw [hu6]; exact n7.alloc _
        have kQ6 : Blk u6 Q ps.toArray 77 := by rw [hu6]; exact kQ.alloc _
        have kR6 : Blk u6 R qs.toArray 77 := by rw [hu6, hR]; exact Blk.new _ _ _
        have q4 : LaneIs qs.toArray 0 (endL B1 (F && clr l1 (xk % 3) (ac % 4)) (xk % 3) ba l1) := HE1.out ▸ q4
        clear hu6 hR n7 q3 hst2 hi2 kQ hal hst
        go_upto_region 40 with fail
        simp only [Act.put, List.setIfInBounds_toArray, List.set_cons_succ, List.set_cons_zero]
        go_cut [40] (fun v w' => v = .bool (F && clr l1 (xk % 3) (ac % 4)) ∧ NodeIs u4 N E0 E1 NX DU w' ∧ Blk w' Q ps.toArray 77 ∧ Blk w' R qs.toArray 77)
        case first =>
          obtain ⟨-, c7, c8, c9, c10, c11, c12, c13, c14, -, -, -, -, -, -, -⟩ := p4.cells0 kQ6
          have jM := n8.kept kM4 qM
          have jX := n8.kept kX4 qX
          have e3 : u6.cell? ⟨M, 3, none⟩ = some (.int .u8 fl) := (jM.cell 3).trans m3
          have e25 : u6.cell? ⟨M, 25, none⟩ = some (.int .u8 (ac % 4)) := (jM.cell 25).trans m25
          have x0 : u6.cell? ⟨X, 0, none⟩ = some (.int .u64 0) := jX.cell 0
          have x1 : u6.cell? ⟨X, 1, none⟩ = some (.int .u64 (xk % 3)) := jX.cell 1
          have x2 : u6.cell? ⟨X, 2, none⟩ = some (.int .u64 0) := jX.cell 2
          have x3 : u6.cell? ⟨X, 3, none⟩ = some (.int .u64 0) := jX.cell 3
          have x4 : u6.cell? ⟨X, 4, none⟩ = some (.pointer none) := jX.cell 4
          have x5 : u6.cell? ⟨X, 5, none⟩ = some (.int .u16 0) := jX.cell 5
          have HF0' := HF.out
          cases hf : (bits BinOp.and IntKind.u8 fl 8 != 0)
          · have HC : Hid ((F && clr l1 (xk % 3) (ac % 4)) = false) := (by show _ = _; rw [HF0', hf]; rfl)
            clear HF0'
            go_quiet (fail)
            go_wp2_with fail
            go_meet
            exact ⟨by rw [HC.out], n8.drawn ⟨rfl, rfl, rfl, rfl⟩, by exact kQ6, by exact kR6⟩
          · by_cases hne : 0 < l1.ne
            · have y1 : decide ((0 : Int) < (l1.ne : Int)) = true := by simp; omega
              by_cases ht : l1.tgt = xk % 3
              · have y2 : (l1.tgt == xk % 3) = true := by simp [ht]
                by_cases hsq : l1.sq = ac % 4
                · have y3 : (l1.sq == ac % 4) = true := by simp [hsq]
                  have HC : Hid ((F && clr l1 (xk % 3) (ac % 4)) = true) := (by show _ = _; rw [HF0', hf]; simp [clr, hne, ht, hsq])
                  clear ht hsq HF0'
                  go_quiet (fail)
                  go_wp2_with fail
                  go_meet
                  exact ⟨by rw [HC.out], n8.drawn ⟨rfl, rfl, rfl, rfl⟩, by exact kQ6, by exact kR6⟩
                · have y3 : (l1.sq == ac % 4) = false := by simp [hsq]
                  have HC : Hid ((F && clr l1 (xk % 3) (ac % 4)) = false) := (by show _ = _; rw [HF0', hf]; simp [clr, hsq])
                  clear ht hsq HF0'
                  go_quiet (fail)
                  go_wp2_with fail
                  go_meet
                  exact ⟨by rw [HC.out], n8.drawn ⟨rfl, rfl, rfl, rfl⟩, by exact kQ6, by exact kR6⟩
              · have y2 : (l1.tgt == xk % 3) = false := by simp [ht]
                have HC : Hid ((F && clr l1 (xk % 3) (ac % 4)) = false) := (by show _ = _; rw [HF0', hf]; simp [clr, ht])
                clear ht HF0'
                go_quiet (fail)
                go_wp2_with fail
                go_meet
                exact ⟨by rw [HC.out], n8.drawn ⟨rfl, rfl, rfl, rfl⟩, by exact kQ6, by exact kR6⟩
            · have y1 : decide ((0 : Int) < (l1.ne : Int)) = false := by simp; omega
              have HC : Hid ((F && clr l1 (xk % 3) (ac % 4)) = false) := (by show _ = _; rw [HF0', hf]; simp [clr, hne])
              clear HF0'
              go_quiet (fail)
              go_wp2_with fail
              go_meet
              exact ⟨by rw [HC.out], n8.drawn ⟨rfl, rfl, rfl, rfl⟩, by exact kQ6, by exact kR6⟩
        case rest =>
          clear n8 kQ6 kR6
          obtain ⟨rfl, n9, kQ9, kR9⟩ := hcut
          obtain ⟨C, hC⟩ : ∃ C : Bool, C = (F && clr l1 (xk % 3) (ac % 4)) := ⟨_, rfl⟩
          rw [← hC] at q4 ⊢
          have HC : Hid (C = (F && clr l1 (xk % 3) (ac % 4))) := hC
          clear hC
          go_upto_region 41 with fail
          refine part41 (by unfold IsAt; kernel_rfl) (tv2 := trgL F 2 l0 l1 (xk % 3) (ac % 4)) kQ9 p4 kR9 q4 (fun h => (trgL_no1 (HC.out.symm.trans h)).symm) (fun h hq => (trgL_yes1 (HC.out.symm.trans h) hq).symm) (fun _ hq => (trgL_idle1 hq).symm) (by assumption) ?_
          intro n20 n213 n214 n215 n216 n217 n218 n219 n220 n221 n222 n223 n224 n225 n226 n227 n228 n229 n230
          obtain ⟨c6, c7, c8, c9, c10, c11, c12, c13, -, -, -, -, -, -, -, -⟩ := p4.cells0 kQ9
          have DD := q4.cells0 kR9
          have d6 : wc.cell? ⟨R, 6, none⟩ = some (.slice l1.qo l1.nq l1.nq) := DD.1
          have d7 := DD.2.1
          have d8 : wc.cell? ⟨R, 8, none⟩ = some (.int .u64 l1.tgt) := DD.2.2.1
          have d9 := DD.2.2.2.1
          have d10 := DD.2.2.2.2.1
          have d11 := DD.2.2.2.2.2.1
          have d12 := DD.2.2.2.2.2.2.1
          have d13 : wc.cell? ⟨R, 13, none⟩ = some (.int .u8 l1.sq) := DD.2.2.2.2.2.2.2.1
          clear DD
          go_upto_region 50 with fail
          refine part50 (by unfold IsAt; kernel_rfl) kQ9 p4 kR9 q4 (n9.kept kM4 qM) m17 m24 (n9.kept kX4 qX) (side_b1 HB1.out HSD.out) (by assumption) ?_
          intro n20 n41 n42 n256 n257 n258 n259 n260 n261 n262 n263 n264 n265 n266 n267 n268 n269 n270 n271 n272 n273 n274 n275 n276 n277 n278 n279 n280 n281 n282 n283 n284 n285 w9 ob hw9
          subst hw9
          go_wp2_with fail
          go_roundg (gk - 1)
          case measure => omega
          case rel => exact ⟨2, by omega, by go_num, rfl, n9.alloc ob⟩
      · obtain rfl : k = 2 := by omega
        rw [show trgL F 2 l0 l1 (xk % 3) (ac % 4) = TG from trgL_end.trans HTG.out.symm]
        go_upto_region 58 with fail
        have jO := hN.kept kO4 qO
        have jO1 := hN.kept kO14 qO1
        have jW := hN.kept kW4 qW
        exact law4 (by unfold IsAt; kernel_rfl) hnw qW qO qO1 jW jO jO1 hHN (Nat.le_trans hHs hN.1.size) (below_grown hb4 hN.1 hHN hHs) ⟨World.grownBy.refl _ _, hN.2⟩ HNX.out HDU.out (by assumption)
end Go.Proofs.Ybulkauss
