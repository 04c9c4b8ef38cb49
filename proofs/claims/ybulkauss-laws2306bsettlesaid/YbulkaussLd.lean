/-
  The law behind its second loop.
-/
import Derived.Test.YbulkaussLd5
namespace Go.Proofs.Ybulkauss
open Go.RowKit Go.Deep

set_option maxHeartbeats 1600000 in
set_option maxRecDepth 100000 in
theorem law4 {x y : Code} (hxy : IsAt 58 x y) {nw nx du NX DU : Int} {w u4 : World} {H N W O : Nat} {E0 E1 : Lane} {TG : Bool} (hnw : -9223372036854775808 ≤ nw ∧ nw ≤ 9223372036854775807)
    (qW : W ≠ N) (qO : O ≠ N) (qO1 : O + 1 ≠ N) (kW4 : Blk u4 W #[.int .u64 (nw % 1000000000), .int .i64 (nw / 1000000000), .pointer none] 43) (kO4 : Blk u4 O #[.int .u64 (nx % 1000000000), .int .i64 (nx / 1000000000), .pointer none] 43) (kO14 : Blk u4 (O + 1) #[.int .u64 (du % 1000000000), .int .i64 (du / 1000000000), .pointer none] 43) (hHN : H ≤ N) (hHs : H ≤ u4.heap.size) (hb4 : Below H w u4) (n6 : NodeIs u4 N E0 E1 NX DU u4)
    (hNX : NX = nxB TG (nw + 20000000) nx) (hDU : DU = duB TG (nw + 20000000) nx du) {K : Act → World → Prop} (hk : ∀ a w', Code.wp Yba.prog y (bodyPost Yba.prog Yba.f3 fun e w' => e = .returned (.bool true) ∧ Below H w w') a w' → K a w')
    {sl0 sl1 sl2 sl3 sl4 sl5 sl6 sl7 sl8 sl9 sl10 sl11 sl12 sl13 sl14 sl15 sl16 sl17 sl18 sl19 sl20 sl21 sl23 sl25 sl26 sl27 sl28 sl29 sl30 sl31 sl34 sl35 sl37 sl38 sl39 sl40 sl41 sl42 sl43 sl44 sl45 sl46 sl47 sl48 sl49 sl50 sl51 sl52 sl53 sl54 sl55 sl56 sl57 sl58 sl59 sl60 sl61 sl62 sl63 sl64 sl65 sl66 sl67 sl68 sl69 sl70 sl71 sl72 sl73 sl74 sl75 sl76 sl77 sl78 sl79 sl80 sl81 sl82 sl83 sl84 sl85 sl86 sl87 sl88 sl89 sl90 sl91 sl92 sl93 sl94 sl95 sl96 sl97 sl98 sl99 sl100 sl101 sl102 sl103 sl104 sl105 sl106 sl107 sl108 sl109 sl110 sl111 sl112 sl113 sl114 sl115 sl116 sl117 sl118 sl119 sl120 sl121 sl122 sl123 sl124 sl125 sl126 sl127 sl128 sl129 sl130 sl131 sl132 sl133 sl134 sl135 sl136 sl137 sl138 sl139 sl140 sl141 sl142 sl143 sl144 sl145 sl146 sl147 sl148 sl149 sl150 sl151 sl152 sl153 sl154 sl155 sl156 sl157 sl158 sl159 sl160 sl161 sl162 sl163 sl164 sl165 sl166 sl167 sl168 sl169 sl170 sl171 sl172 sl173 sl174 sl175 sl176 sl177 sl178 sl179 sl180 sl181 sl182 sl183 sl184 sl185 sl186 sl187 sl188 sl189 sl190 sl191 sl192 sl193 sl194 sl195 sl196 sl197 sl198 sl199 sl200 sl201 sl202 sl203 sl204 sl205 sl206 sl207 sl208 sl209 sl210 sl211 sl212 sl213 sl214 sl215 sl216 sl217 sl218 sl219 sl220 sl221 sl222 sl223 sl224 sl225 sl226 sl227 sl228 sl229 sl230 sl231 sl232 sl233 sl234 sl235 sl236 sl237 sl238 sl239 sl240 sl241 sl242 sl243 sl244 sl245 sl246 sl247 sl248 sl249 sl250 sl251 sl252 sl253 sl254 sl255 sl256 sl257 sl258 sl259 sl260 sl261 sl262 sl263 sl264 sl265 sl266 sl267 sl268 sl269 sl270 sl271 sl272 sl273 sl274 sl275 sl276 sl277 sl278 sl279 sl280 sl281 sl282 sl283 sl284 sl285 sl286 sl287 sl288 sl289 sl290 sl291 sl292 sl293 sl294 sl295 sl296 sl297 sl298 sl299 sl300 sl301 sl302 sl303 sl304 sl305 sl306 sl307 sl308 sl309 sl310 sl311 sl312 sl313 : Value} :
    Code.wp Yba.prog x (Exit.then K (bodyPost Yba.prog Yba.f3 fun e w' => e = .returned (.bool true) ∧ Below H w w')) ⟨#[sl0, sl1, sl2, sl3, sl4, sl5, sl6, sl7, sl8, sl9, sl10, sl11, sl12, sl13, sl14, sl15, sl16, sl17, sl18, sl19, sl20, sl21, .pointer (some ⟨N, 0, none⟩), sl23, .pointer (some ⟨W, 0, none⟩), sl25, sl26, sl27, sl28, sl29, sl30, sl31, .pointer (some ⟨O, 0, none⟩), .pointer (some ⟨O + 1, 0, none⟩), sl34, sl35, .bool TG, sl37, sl38, sl39, sl40, sl41, sl42, sl43, sl44, sl45, sl46, sl47, sl48, sl49, sl50, sl51, sl52, sl53, sl54, sl55, sl56, sl57, sl58, sl59, sl60, sl61, sl62, sl63, sl64, sl65, sl66, sl67, sl68, sl69, sl70, sl71, sl72, sl73, sl74, sl75, sl76, sl77, sl78, sl79, sl80, sl81, sl82, sl83, sl84, sl85, sl86, sl87, sl88, sl89, sl90, sl91, sl92, sl93, sl94, sl95, sl96, sl97, sl98, sl99, sl100, sl101, sl102, sl103, sl104, sl105, sl106, sl107, sl108, sl109, sl110, sl111, sl112, sl113, sl114, sl115, sl116, sl117, sl118, sl119, sl120, sl121, sl122, sl123, sl124, sl125, sl126, sl127, sl128, sl129, sl130, sl131, sl132, sl133, sl134, sl135, sl136, sl137, sl138, sl139, sl140, sl141, sl142, sl143, sl144, sl145, sl146, sl147, sl148, sl149, sl150, sl151, sl152, sl153, sl154, sl155, sl156, sl157, sl158, sl159, sl160, sl161, sl162, sl163, sl164, sl165, sl166, sl167, sl168, sl169, sl170, sl171, sl172, sl173, sl174, sl175, sl176, sl177, sl178, sl179, sl180, sl181, sl182, sl183, sl184, sl185, sl186, sl187, sl188, sl189, sl190, sl191, sl192, sl193, sl194, sl195, sl196, sl197, sl198, sl199, sl200, sl201, sl202, sl203, sl204, sl205, sl206, sl207, sl208, sl209, sl210, sl211, sl212, sl213, sl214, sl215, sl216, sl217, sl218, sl219, sl220, sl221, sl222, sl223, sl224, sl225, sl226, sl227, sl228, sl229, sl230, sl231, sl232, sl233, sl234, sl235, sl236, sl237, sl238, sl239, sl240, sl241, sl242, sl243, sl244, sl245, sl246, sl247, sl248, sl249, sl250, sl251, sl252, sl253, sl254, sl255, sl256, sl257, sl258, sl259, sl260, sl261, sl262, sl263, sl264, sl265, sl266, sl267, sl268, sl269, sl270, sl271, sl272, sl273, sl274, sl275, sl276, sl277, sl278, sl279, sl280, sl281, sl282, sl283, sl284, sl285, sl286, sl287, sl288, sl289, sl290, sl291, sl292, sl293, sl294, sl295, sl296, sl297, sl298, sl299, sl300, sl301, sl302, sl303, sl304, sl305, sl306, sl307, sl308, sl309, sl310, sl311, sl312, sl313], []⟩ u4 := by
  unfold IsAt at hxy
  conv at hxy => lhs; whnf
  obtain ⟨rfl, rfl⟩ := Prod.mk.inj (Option.some.inj hxy)
  clear hxy
  have HNX : Hid (NX = nxB TG (nw + 20000000) nx) := hNX
  have HDU : Hid (DU = duB TG (nw + 20000000) nx du) := hDU
  clear hNX hDU
  have jO := n6.kept kO4 qO
  have jO1 := n6.kept kO14 qO1
  have jW := n6.kept kW4 qW
  have o0 : u4.cell? ⟨O, 0, none⟩ = some (.int .u64 (nx % 1000000000)) := jO.cell 0
  have o1 : u4.cell? ⟨O, 1, none⟩ = some (.int .i64 (nx / 1000000000)) := jO.cell 1
  have o2 : u4.cell? ⟨O, 2, none⟩ = some (.pointer none) := jO.cell 2
  have o3 : u4.cell? ⟨O + 1, 0, none⟩ = some (.int .u64 (du % 1000000000)) := jO1.cell 0
  have o4 : u4.cell? ⟨O + 1, 1, none⟩ = some (.int .i64 (du / 1000000000)) := jO1.cell 1
  have o5 : u4.cell? ⟨O + 1, 2, none⟩ = some (.pointer none) := jO1.cell 2
  have hlO := jO1.lt
  go_upto_if 289 with fail
  obtain ⟨Y, hY⟩ : ∃ Y, Y = u4.heap.size := ⟨_, rfl⟩
  obtain ⟨u7, hu7⟩ : ∃ u7, u7 = (u4.alloc (.cells #[.int .u64 (nx % 1000000000), .int .i64 (nx / 1000000000), .pointer none] 43)).alloc (.cells #[.int .u64 (du % 1000000000), .int .i64 (du / 1000000000), .pointer none] 43) := ⟨_, rfl⟩
  rw [← hu7, ← hY]
  have n9 : NodeIs u4 N E0 E1 NX DU u7 := by rw [hu7]; exact (n6.alloc _).alloc _
  have kY : Blk u7 Y (tmC nx) 43 := by rw [hu7, hY]; exact (Blk.new _ _ _).alloc _
  have kY1 : Blk u7 (Y + 1) (tmC du) 43 := by
    rw [hu7]; have := Blk.new (u4.alloc (.cells #[.int .u64 (nx % 1000000000), .int .i64 (nx / 1000000000), .pointer none] 43)) #[.int .u64 (du % 1000000000), .int .i64 (du / 1000000000), .pointer none] 43; simpa [hY, tmC] using this
  have qY : Y ≠ N := by rw [hY]; have := n6.lt; omega
  have qY1 : Y + 1 ≠ N := by rw [hY]; have := n6.lt; omega
  have qYv : u4.heap.size ≤ Y := by rw [hY]; exact n6.1.size
  have HYV : Hid (u4.heap.size ≤ Y) := qYv
  clear hu7 hY jO jO1 jW o0 o1 o2 o3 o4 o5 hlO qYv
  go_cut [] (fun w' => Blk w' Y (tmC NX) 43 ∧ Blk w' (Y + 1) (tmC DU) 43 ∧ NodeIs u4 N E0 E1 NX DU w')
  case first =>
    cases TG
    · go_wp2_with fail
      go_meet
      have e1 : NX = nx := HNX.out
      have e2 : DU = du := HDU.out
      exact ⟨by rw [e1]; exact kY, by rw [e2]; exact kY1, n9⟩
    · have jW := n9.kept kW4 qW
      have w0 : u7.cell? ⟨W, 0, none⟩ = some (.int .u64 (nw % 1000000000)) := jW.cell 0
      have w1 : u7.cell? ⟨W, 1, none⟩ = some (.int .i64 (nw / 1000000000)) := jW.cell 1
      have w2 : u7.cell? ⟨W, 2, none⟩ = some (.pointer none) := jW.cell 2
      go_wp2_with fail
      clear w0 w1 w2 jW
      refine (add_any nw 20000000 _ (by omega) (by omega) (by omega) (by omega)).mono ?_
      rintro e u8 ⟨rfl, hb8⟩
      have n10 := n9.below hb8
      have kY8 := kY.below hb8 kY.lt
      have kY18 := kY1.below hb8 kY1.lt
      clear hb8 n9 kY kY1
      obtain ⟨t, ht⟩ : ∃ t : Int, t = nw + 20000000 := ⟨_, rfl⟩
      rw [← ht]
      have HT : Hid (t = nw + 20000000) := ht
      clear ht
      unfold Tm
      have jO := n10.kept kO4 qO
      have o0 : u8.cell? ⟨O, 0, none⟩ = some (.int .u64 (nx % 1000000000)) := jO.cell 0
      have o1 : u8.cell? ⟨O, 1, none⟩ = some (.int .i64 (nx / 1000000000)) := jO.cell 1
      have o2 : u8.cell? ⟨O, 2, none⟩ = some (.pointer none) := jO.cell 2
      have hlO := jO.lt
      go_wp2_with fail
      clear o0 o1 o2 hlO jO
      obtain ⟨V, hV⟩ : ∃ V, V = u8.heap.size := ⟨_, rfl⟩
      obtain ⟨u9, hu9⟩ : ∃ u9, u9 = u8.alloc (.cells #[.int .u64 (t % 1000000000), .int .i64 (t / 1000000000), .pointer none] 43) := ⟨_, rfl⟩
      rw [← hu9, ← hV]
      have n11 : NodeIs u4 N E0 E1 NX DU u9 := by rw [hu9]; exact n10.alloc _
      have kY9 : Blk u9 Y (tmC nx) 43 := by rw [hu9]; exact kY8.alloc _
      have kY19 : Blk u9 (Y + 1) (tmC du) 43 := by rw [hu9]; exact kY18.alloc _
      have kV9 : Blk u9 V (tmC t) 43 := by rw [hu9, hV]; exact Blk.new _ _ _
      have qV : V ≠ Y := by rw [hV]; have := kY8.lt; omega
      have qV1 : V ≠ Y + 1 := by rw [hV]; have := kY18.lt; omega
      clear hu9 hV n10 kY8 kY18
      refine (before_any t nx _).mono ?_
      rintro e v10 ⟨rfl, hb10⟩
      have n12 := n11.below hb10
      have kY10 := kY9.below hb10 kY9.lt
      have kY110 := kY19.below hb10 kY19.lt
      have kV10 := kV9.below hb10 kV9.lt
      clear hb10 n11 kY9 kY19 kV9
      by_cases h1 : t < nx
      · have HT1 : Hid (t < nx) := h1
        have t0 : v10.cell? ⟨V, 0, none⟩ = some (.int .u64 (t % 1000000000)) := kV10.cell 0
        have t1 : v10.cell? ⟨V, 1, none⟩ = some (.int .i64 (t / 1000000000)) := kV10.cell 1
        have t2 : v10.cell? ⟨V, 2, none⟩ = some (.pointer none) := kV10.cell 2
        have y0 : v10.cell? ⟨Y, 0, none⟩ = some (.int .u64 (nx % 1000000000)) := kY10.cell 0
        have y1 : v10.cell? ⟨Y, 1, none⟩ = some (.int .i64 (nx / 1000000000)) := kY10.cell 1
        have y2 : v10.cell? ⟨Y, 2, none⟩ = some (.pointer none) := kY10.cell 2
        have ff := kY10.frozen
        have jO1 := n12.kept kO14 qO1
        have qOY : O + 1 ≠ Y := by have := kO14.lt; have := HYV.out; omega
        have o3 : v10.cell? ⟨O + 1, 0, none⟩ = some (.int .u64 (du % 1000000000)) := jO1.cell 0
        have o4 : v10.cell? ⟨O + 1, 1, none⟩ = some (.int .i64 (du / 1000000000)) := jO1.cell 1
        have o5 : v10.cell? ⟨O + 1, 2, none⟩ = some (.pointer none) := jO1.cell 2
        go_wp2_with fail
        clear t0 t1 t2 y0 y1 y2 ff o3 o4 o5 jO1
        obtain ⟨v11, hv11⟩ : ∃ v11, v11 = ((v10.setCell ⟨Y, 0, none⟩ (.int .u64 (t % 1000000000))).setCell ⟨Y, 1, none⟩ (.int .i64 (t / 1000000000))).setCell ⟨Y, 2, none⟩ (.pointer none) := ⟨_, rfl⟩
        rw [← hv11]
        have n13 : NodeIs u4 N E0 E1 NX DU v11 := by rw [hv11]; exact ((n12.setNew HYV.out qY.symm _ _).setNew HYV.out qY.symm _ _).setNew HYV.out qY.symm _ _
        have kY11 : Blk v11 Y (tmC t) 43 := by rw [hv11]; exact ((kY10.set 0 _).set 1 _).set 2 _
        have kY111 : Blk v11 (Y + 1) (tmC du) 43 := by
          have qq : Y + 1 ≠ Y := by omega
          rw [hv11]; exact ((kY110.setOther qq _).setOther qq _).setOther qq _
        have kV11 : Blk v11 V (tmC t) 43 := by rw [hv11]; exact ((kV10.setOther qV _).setOther qV _).setOther qV _
        clear hv11 n12 kY10 kY110 kV10
        refine (before_any t du _).mono ?_
        rintro e v12 ⟨rfl, hb12⟩
        have n14 := n13.below hb12
        have kY12 := kY11.below hb12 kY11.lt
        have kY112 := kY111.below hb12 kY111.lt
        have kV12 := kV11.below hb12 kV11.lt
        have e1 : NX = t := by rw [HNX.out, ← HT.out]; exact minT_lt HT1.out
        have E1' : Hid (NX = t) := e1
        clear hb12 n13 kY11 kY111 kV11 e1
        by_cases h2 : t < du
        · have HT2 : Hid (t < du) := h2
          have t0 : v12.cell? ⟨V, 0, none⟩ = some (.int .u64 (t % 1000000000)) := kV12.cell 0
          have t1 : v12.cell? ⟨V, 1, none⟩ = some (.int .i64 (t / 1000000000)) := kV12.cell 1
          have t2 : v12.cell? ⟨V, 2, none⟩ = some (.pointer none) := kV12.cell 2
          have y0 : v12.cell? ⟨Y + 1, 0, none⟩ = some (.int .u64 (du % 1000000000)) := kY112.cell 0
          have y1 : v12.cell? ⟨Y + 1, 1, none⟩ = some (.int .i64 (du / 1000000000)) := kY112.cell 1
          have y2 : v12.cell? ⟨Y + 1, 2, none⟩ = some (.pointer none) := kY112.cell 2
          have ff := kY112.frozen
          go_wp2_with fail
          go_meet
          have e2 : DU = t := by rw [HDU.out, ← HT.out]; show dueT t nx du = t; rw [dueT_lt HT1.out, minT_lt HT2.out]
          have qq : Y ≠ Y + 1 := by omega
          have q1' : N ≠ Y + 1 := qY1.symm
          exact ⟨by rw [E1'.out]; exact ((kY12.setOther qq _).setOther qq _).setOther qq _, by rw [e2]; exact ((kY112.set 0 _).set 1 _).set 2 _, ((n14.setNew (Nat.le_succ_of_le HYV.out) q1' _ _).setNew (Nat.le_succ_of_le HYV.out) q1' _ _).setNew (Nat.le_succ_of_le HYV.out) q1' _ _⟩
        · have HT2 : Hid (¬ t < du) := h2
          go_wp2_with fail
          go_meet
          have e2 : DU = du := by rw [HDU.out, ← HT.out]; show dueT t nx du = du; rw [dueT_lt HT1.out, minT_ge (by have := HT2.out; omega)]
          exact ⟨by rw [E1'.out]; exact kY12, by rw [e2]; exact kY112, n14⟩
      · have HT1 : Hid (¬ t < nx) := h1
        go_wp2_with fail
        go_meet
        have e1 : NX = nx := by rw [HNX.out, ← HT.out]; exact minT_ge (by have := HT1.out; omega)
        have e2 : DU = du := by rw [HDU.out, ← HT.out]; exact dueT_ge (by have := HT1.out; omega)
        exact ⟨by rw [e1]; exact kY10, by rw [e2]; exact kY110, n12⟩
  case rest =>
    clear n9 kY kY1
    obtain ⟨kY, kY1, n9⟩ := hcut
    obtain ⟨c0, c1, c2, c3, c4, c5, -⟩ := n9.cells
    have y0 : wc.cell? ⟨Y, 0, none⟩ = some (.int .u64 (NX % 1000000000)) := kY.cell 0
    have y1 : wc.cell? ⟨Y, 1, none⟩ = some (.int .i64 (NX / 1000000000)) := kY.cell 1
    have y2 : wc.cell? ⟨Y, 2, none⟩ = some (.pointer none) := kY.cell 2
    have y3 : wc.cell? ⟨Y + 1, 0, none⟩ = some (.int .u64 (DU % 1000000000)) := kY1.cell 0
    have y4 : wc.cell? ⟨Y + 1, 1, none⟩ = some (.int .i64 (DU / 1000000000)) := kY1.cell 1
    have y5 : wc.cell? ⟨Y + 1, 2, none⟩ = some (.pointer none) := kY1.cell 2
    have bw : BW H w wc := ⟨below_grown hb4 n9.1 hHN hHs, Nat.le_trans hHs n9.1.size⟩
    have hlN : N < wc.heap.size := n9.lt
    have hlY : Y + 1 < wc.heap.size := kY1.lt
    clear n9 kY kY1
    go_upto_region 66 with fail
    exact law5 (by unfold IsAt; kernel_rfl) hlN hlY c0 c1 c2 c3 c4 c5 y0 y1 y2 y3 y4 y5 bw (by assumption)
end Go.Proofs.Ybulkauss
