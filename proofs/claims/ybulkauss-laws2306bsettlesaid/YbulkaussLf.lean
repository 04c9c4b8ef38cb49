/-
  The law between its loops.
-/
import Derived.Test.YbulkaussLe
namespace Go.Proofs.Ybulkauss
open Go.RowKit Go.Deep

set_option maxHeartbeats 1600000 in
set_option maxRecDepth 100000 in
theorem law2 {x y : Code} (hxy : IsAt 25 x y) {fl ac ba nE xk a0 a1 a2 a3 a4 a5 b0 b1 b2 b3 b4 b5 nw nx du : Int} {w wr : World} {H X N W : Nat} {l0 l1 : Lane} (hac : 0 ≤ ac ∧ ac ≤ 255) (hnE : 0 ≤ nE ∧ nE ≤ 255) (hnw : -9223372036854775808 ≤ nw ∧ nw ≤ 9223372036854775807)
    (HH : Hid (H = w.heap.size)) (HX : Hid (H + 2 ≤ X)) (HN : Hid (N = X + 1)) (qX : X ≠ N) (qW : W ≠ N) (kX8 : Blk wr X #[.int .u64 0, .int .u64 (xk % 3), .int .u64 0, .int .u64 0, .pointer none, .int .u16 0] 38) (kW8 : Blk wr W #[.int .u64 (nw % 1000000000), .int .i64 (nw / 1000000000), .pointer none] 43) (hb8 : Below H w wr) (hN : NodeIs wr N l0 l1 nx du wr)
    (HF0 : Hid (Fits l0 a0 a1 a2 a3 a4 a5)) (HF1 : Hid (Fits l1 b0 b1 b2 b3 b4 b5)) {K : Act → World → Prop} (hk : ∀ a w', Code.wp Yba.prog y (bodyPost Yba.prog Yba.f3 fun e w' => e = .returned (.bool true) ∧ Below H w w') a w' → K a w')
    {sl4 sl5 sl6 sl7 sl8 sl9 sl10 sl11 sl12 sl13 sl14 sl15 sl16 sl17 sl18 sl19 sl20 sl23 sl25 sl26 sl27 sl28 sl29 sl30 sl31 sl32 sl33 sl34 sl35 sl36 sl37 sl38 sl39 sl40 sl41 sl42 sl43 sl44 sl45 sl46 sl47 sl48 sl49 sl50 sl51 sl52 sl53 sl54 sl55 sl56 sl57 sl58 sl59 sl60 sl61 sl62 sl63 sl64 sl65 sl66 sl67 sl68 sl69 sl70 sl71 sl72 sl73 sl74 sl75 sl76 sl77 sl78 sl79 sl80 sl81 sl82 sl83 sl84 sl85 sl86 sl87 sl88 sl89 sl90 sl91 sl92 sl93 sl94 sl95 sl96 sl97 sl98 sl99 sl100 sl101 sl102 sl103 sl104 sl105 sl106 sl107 sl108 sl109 sl110 sl111 sl112 sl113 sl114 sl115 sl116 sl117 sl118 sl119 sl120 sl121 sl122 sl123 sl124 sl125 sl126 sl127 sl128 sl129 sl130 sl131 sl132 sl133 sl134 sl135 sl136 sl137 sl138 sl139 sl140 sl141 sl142 sl143 sl144 sl145 sl146 sl147 sl148 sl149 sl150 sl151 sl152 sl153 sl154 sl155 sl156 sl157 sl158 sl159 sl160 sl161 sl162 sl163 sl164 sl165 sl166 sl167 sl168 sl169 sl170 sl171 sl172 sl173 sl174 sl175 sl176 sl177 sl178 sl179 sl180 sl181 sl182 sl183 sl184 sl185 sl186 sl187 sl188 sl189 sl190 sl191 sl192 sl193 sl194 sl195 sl196 sl197 sl198 sl199 sl200 sl201 sl202 sl203 sl204 sl205 sl206 sl207 sl208 sl209 sl210 sl211 sl212 sl213 sl214 sl215 sl216 sl217 sl218 sl219 sl220 sl221 sl222 sl223 sl224 sl225 sl226 sl227 sl228 sl229 sl230 sl231 sl232 sl233 sl234 sl235 sl236 sl237 sl238 sl239 sl240 sl241 sl242 sl243 sl244 sl245 sl246 sl247 sl248 sl249 sl250 sl251 sl252 sl253 sl254 sl255 sl256 sl257 sl258 sl259 sl260 sl261 sl262 sl263 sl264 sl265 sl266 sl267 sl268 sl269 sl270 sl271 sl272 sl273 sl274 sl275 sl276 sl277 sl278 sl279 sl280 sl281 sl282 sl283 sl284 sl285 sl286 sl287 sl288 sl289 sl290 sl291 sl292 sl293 sl294 sl295 sl296 sl297 sl298 sl299 sl300 sl301 sl302 sl303 sl304 sl305 sl306 sl307 sl308 sl309 sl310 sl311 sl312 sl313 : Value} :
    Code.wp Yba.prog x (Exit.then K (bodyPost Yba.prog Yba.f3 fun e w' => e = .returned (.bool true) ∧ Below H w w')) ⟨#[.int .u8 fl, .int .u8 ac, .int .u8 ba, .int .u8 nE, sl4, sl5, sl6, sl7, sl8, sl9, sl10, sl11, sl12, sl13, sl14, sl15, sl16, sl17, sl18, sl19, sl20, .pointer (some ⟨X, 0, none⟩), .pointer (some ⟨N, 0, none⟩), sl23, .pointer (some ⟨W, 0, none⟩), sl25, sl26, sl27, sl28, sl29, sl30, sl31, sl32, sl33, sl34, sl35, sl36, sl37, sl38, sl39, sl40, sl41, sl42, sl43, sl44, sl45, sl46, sl47, sl48, sl49, sl50, sl51, sl52, sl53, sl54, sl55, sl56, sl57, sl58, sl59, sl60, sl61, sl62, sl63, sl64, sl65, sl66, sl67, sl68, sl69, sl70, sl71, sl72, sl73, sl74, sl75, sl76, sl77, sl78, sl79, sl80, sl81, sl82, sl83, sl84, sl85, sl86, sl87, sl88, sl89, sl90, sl91, sl92, sl93, sl94, sl95, sl96, sl97, sl98, sl99, sl100, sl101, sl102, sl103, sl104, sl105, sl106, sl107, sl108, sl109, sl110, sl111, sl112, sl113, sl114, sl115, sl116, sl117, sl118, sl119, sl120, sl121, sl122, sl123, sl124, sl125, sl126, sl127, sl128, sl129, sl130, sl131, sl132, sl133, sl134, sl135, sl136, sl137, sl138, sl139, sl140, sl141, sl142, sl143, sl144, sl145, sl146, sl147, sl148, sl149, sl150, sl151, sl152, sl153, sl154, sl155, sl156, sl157, sl158, sl159, sl160, sl161, sl162, sl163, sl164, sl165, sl166, sl167, sl168, sl169, sl170, sl171, sl172, sl173, sl174, sl175, sl176, sl177, sl178, sl179, sl180, sl181, sl182, sl183, sl184, sl185, sl186, sl187, sl188, sl189, sl190, sl191, sl192, sl193, sl194, sl195, sl196, sl197, sl198, sl199, sl200, sl201, sl202, sl203, sl204, sl205, sl206, sl207, sl208, sl209, sl210, sl211, sl212, sl213, sl214, sl215, sl216, sl217, sl218, sl219, sl220, sl221, sl222, sl223, sl224, sl225, sl226, sl227, sl228, sl229, sl230, sl231, sl232, sl233, sl234, sl235, sl236, sl237, sl238, sl239, sl240, sl241, sl242, sl243, sl244, sl245, sl246, sl247, sl248, sl249, sl250, sl251, sl252, sl253, sl254, sl255, sl256, sl257, sl258, sl259, sl260, sl261, sl262, sl263, sl264, sl265, sl266, sl267, sl268, sl269, sl270, sl271, sl272, sl273, sl274, sl275, sl276, sl277, sl278, sl279, sl280, sl281, sl282, sl283, sl284, sl285, sl286, sl287, sl288, sl289, sl290, sl291, sl292, sl293, sl294, sl295, sl296, sl297, sl298, sl299, sl300, sl301, sl302, sl303, sl304, sl305, sl306, sl307, sl308, sl309, sl310, sl311, sl312, sl313], []⟩ wr := by
  unfold IsAt at hxy
  conv at hxy => lhs; whnf
  obtain ⟨rfl, rfl⟩ := Prod.mk.inj (Option.some.inj hxy)
  clear hxy
  go_upto_if 139 with fail
  obtain ⟨M, hM⟩ : ∃ M, M = wr.heap.size := ⟨_, rfl⟩
  obtain ⟨u1, hu1⟩ : ∃ u1, u1 = wr.alloc (.cells #[.int .u8 0, .int .u64 0, .int .u64 0, .int .u8 fl, .int .u64 0, .int .u64 0, .int .u64 0, .int .u64 0, .int .u64 0, .int .u64 0, .int .u64 0, .pointer none, .int .u16 0, .pointer none, .slice none 0 0, .int .i64 0, .int .i64 0, .slice none 0 0, .slice none 0 0, .slice none 0 0, .int .u32 0, .int .u64 0, .int .i64 0, .int .i64 0, .int .u8 ba, .int .u8 (ac % 4), .int .i64 0, .int .u64 0, .int .u8 0, .slice none 0 0] 123) := ⟨_, rfl⟩
  rw [← hu1, ← hM]
  have n1 : NodeIs wr N l0 l1 nx du u1 := by rw [hu1]; exact hN.alloc _
  have d1 : Blk u1 M #[.int .u8 0, .int .u64 0, .int .u64 0, .int .u8 fl, .int .u64 0, .int .u64 0, .int .u64 0, .int .u64 0, .int .u64 0, .int .u64 0, .int .u64 0, .pointer none, .int .u16 0, .pointer none, .slice none 0 0, .int .i64 0, .int .i64 0, .slice none 0 0, .slice none 0 0, .slice none 0 0, .int .u32 0, .int .u64 0, .int .i64 0, .int .i64 0, .int .u8 ba, .int .u8 (ac % 4), .int .i64 0, .int .u64 0, .int .u8 0, .slice none 0 0] 123 := by rw [hu1, hM]; exact Blk.new _ _ _
  have hMv : wr.heap.size ≤ M := by rw [hM]; exact hN.1.size
  have qM : M ≠ N := by rw [hM]; have := hN.lt; omega
  have qM2 : N ≠ M := fun e => qM e.symm
  have HMV : Hid (wr.heap.size ≤ M) := hMv
  clear hu1 hM hN hMv
  go_cut [] (fun w' => ∃ (mc : Array Value) (mo : Option Addr) (mn : Nat), (mn : Int) = nE % 3 ∧ mc[3]? = some (.int .u8 fl) ∧ mc[17]? = some (.slice mo mn mn) ∧ mc[24]? = some (.int .u8 ba) ∧ mc[25]? = some (.int .u8 (ac % 4)) ∧ Blk w' M mc 123 ∧ NodeIs wr N l0 l1 nx du w')
  case first =>
    have c17 : u1.cell? ⟨M, 17, none⟩ = some (.slice none 0 0) := d1.cell 17
    have ff := d1.frozen 17
    have h30 : 0 ≤ nE % 3 := Int.emod_nonneg _ (by omega)
    have h3m : nE % 3 < 3 := Int.emod_lt_of_pos _ (by omega)
    by_cases h3 : nE % 3 = 0
    · have H3 : Hid (nE % 3 = 0) := h3
      have y3 : ¬ (0 < nE % 3) := by rw [h3]; omega
      clear h3
      go_wp2_with fail
      go_meet
      exact ⟨#[.int .u8 0, .int .u64 0, .int .u64 0, .int .u8 fl, .int .u64 0, .int .u64 0, .int .u64 0, .int .u64 0, .int .u64 0, .int .u64 0, .int .u64 0, .pointer none, .int .u16 0, .pointer none, .slice none 0 0, .int .i64 0, .int .i64 0, .slice none 0 0, .slice none 0 0, .slice none 0 0, .int .u32 0, .int .u64 0, .int .i64 0, .int .i64 0, .int .u8 ba, .int .u8 (ac % 4), .int .i64 0, .int .u64 0, .int .u8 0, .slice none 0 0], none, 0, H3.out.symm, rfl, rfl, rfl, rfl, d1, n1⟩
    · have H3 : Hid ((nE % 3).toNat ≤ 2) := (show (nE % 3).toNat ≤ 2 by omega)
      have H4 : Hid (nE % 3 = ((nE % 3).toNat : Int)) := (show nE % 3 = ((nE % 3).toNat : Int) by omega)
      have y3 : 0 < nE % 3 := by omega
      clear h3
      obtain ⟨ob, hmk⟩ := make_run (nE % 3) (nE % 3).toNat H4.out H3.out
      have hlM : M < u1.heap.size := d1.lt
      go_wp2_with fail
      go_meet
      exact ⟨_, _, _, H4.out.symm, rfl, rfl, rfl, rfl, (d1.set 17 _).alloc ob, (n1.setNew HMV.out qM2 _ _).alloc ob⟩
  case rest =>
    obtain ⟨mc, mo, mn, hmn, m3, m17, m24, m25, jM, jN⟩ := hcut
    have kX9 : Blk wc X #[.int .u64 0, .int .u64 (xk % 3), .int .u64 0, .int .u64 0, .pointer none, .int .u16 0] 38 := jN.kept kX8 qX
    have kW9 : Blk wc W #[.int .u64 (nw % 1000000000), .int .i64 (nw / 1000000000), .pointer none] 43 := jN.kept kW8 qW
    have hb9 : Below H w wc := below_grown hb8 jN.1 (by have := HN.out; have := HX.out; omega) (by have := hb8.size; have := HH.out; omega)
    have n2 : NodeIs wc N l0 l1 nx du wc := ⟨World.grownBy.refl _ _, jN.2⟩
    have HMN : Hid ((mn : Int) = nE % 3) := hmn
    clear jN n1 d1 kX8 kW8 hb8 HMV u1 hmn
    obtain ⟨c0, c1, c2, c3, c4, c5, cf⟩ := n2.cells
    have hlN : N < wc.heap.size := n2.lt
    go_upto_region 31 with fail
    obtain ⟨O, hO⟩ : ∃ O, O = wc.heap.size := ⟨_, rfl⟩
    obtain ⟨u2, hu2⟩ : ∃ u2, u2 = (wc.alloc (.cells #[.int .u64 (nx % 1000000000), .int .i64 (nx / 1000000000), .pointer none] 43)).alloc (.cells #[.int .u64 (du % 1000000000), .int .i64 (du / 1000000000), .pointer none] 43) := ⟨_, rfl⟩
    rw [← hu2, ← hO]
    have n3 : NodeIs wc N l0 l1 nx du u2 := by rw [hu2]; exact (n2.alloc _).alloc _
    have kO : Blk u2 O #[.int .u64 (nx % 1000000000), .int .i64 (nx / 1000000000), .pointer none] 43 := by rw [hu2, hO]; exact (Blk.new _ _ _).alloc _
    have kO1 : Blk u2 (O + 1) #[.int .u64 (du % 1000000000), .int .i64 (du / 1000000000), .pointer none] 43 := by
      rw [hu2]; have := Blk.new (wc.alloc (.cells #[.int .u64 (nx % 1000000000), .int .i64 (nx / 1000000000), .pointer none] 43)) #[.int .u64 (du % 1000000000), .int .i64 (du / 1000000000), .pointer none] 43; simpa [hO] using this
    have qO : O ≠ N := by rw [hO]; have := n2.lt; omega
    have qO1 : O + 1 ≠ N := by rw [hO]; have := n2.lt; omega
    have hOs : u2.heap.size = O + 2 := by rw [hu2, hO]; simp
    have HOS : Hid (u2.heap.size = O + 2) := hOs
    have HO : Hid (O = wc.heap.size) := hO
    clear hu2 hO c0 c1 c2 c3 c4 c5 cf n2 hOs hlN
    obtain ⟨cs, hcs, hc1, hcr, pl0, pl1⟩ := n3.both
    obtain ⟨zz, hal, hst⟩ := var_runs 78 80 var78
    have hst := hst u2 cs hcs hc1
    have hld := run_loadAt_mid (P := Yba.prog) u2 N 74 78 cs _ hcr Yba.underlying78 rfl (by rw [hcs]; exact size78)
    have hi78 : (Yba.prog.info? 78).map (·.size) = some cs.length := by rw [hcs]; exact size78
    repeat ((fail_if_success (with_reducible refine wp_load_mid 78 _ rfl N 74 ?hx cs _ hcr Yba.underlying78 rfl hi78 ?_)); (first | go_values | go_skip | go_step | go_upon))
    refine wp_load_mid 78 _ rfl N 74 rfl cs _ hcr Yba.underlying78 rfl hi78 ?_
    repeat ((fail_if_success (with_reducible refine wp_alloc_at 78 zz rfl hal ?_)); (first | go_values | go_skip | go_step | go_upon))
    with_reducible refine wp_alloc_at 78 zz rfl hal ?_
    repeat ((fail_if_success (with_reducible refine wp_store_as 78 _ _ (.pointer (some ⟨u2.heap.size, 0, none⟩)) (.agg cs.toArray) rfl ?hx ?hy hst ?_)); (first | go_values | go_skip | go_step | go_upon))
    with_reducible refine wp_store_as 78 _ _ (.pointer (some ⟨u2.heap.size, 0, none⟩)) (.agg cs.toArray) rfl ?hx ?hy hst ?_
    case hx => rfl
    case hy => rfl
    obtain ⟨P, hP⟩ : ∃ P, P = u2.heap.size := ⟨_, rfl⟩
    obtain ⟨u3, hu3⟩ : ∃ u3, u3 = u2.alloc (.cells cs.toArray 78) := ⟨_, rfl⟩
    rw [← hu3, ← hP]
    have n4 : NodeIs wc N l0 l1 nx du u3 := by rw [hu3]; exact n3.alloc _
    have kP : Blk u3 P cs.toArray 78 := by rw [hu3, hP]; exact Blk.new _ _ _
    have kO3 : Blk u3 O #[.int .u64 (nx % 1000000000), .int .i64 (nx / 1000000000), .pointer none] 43 := by rw [hu3]; exact kO.alloc _
    have kO13 : Blk u3 (O + 1) #[.int .u64 (du % 1000000000), .int .i64 (du / 1000000000), .pointer none] 43 := by rw [hu3]; exact kO1.alloc _
    have qP : P ≠ N := by rw [hP]; have := n3.lt; omega
    have kX3 := n4.kept kX9 qX
    have kW3 := n4.kept kW9 qW
    have kM3 := n4.kept jM qM
    have hb3 : Below H w u3 := below_grown hb9 n4.1 (by have := HN.out; have := HX.out; omega) (by have := hb9.size; have := HH.out; omega)
    have n5 : NodeIs u3 N l0 l1 nx du u3 := ⟨World.grownBy.refl _ _, n4.2⟩
    clear hP hu3 n3 kO kO1 hst hal hld hcr kX9 kW9 jM hb9 n4 HOS
    have x0 : u3.cell? ⟨X, 0, none⟩ = some (.int .u64 0) := kX3.cell 0
    have x1 : u3.cell? ⟨X, 1, none⟩ = some (.int .u64 (xk % 3)) := kX3.cell 1
    have x2 : u3.cell? ⟨X, 2, none⟩ = some (.int .u64 0) := kX3.cell 2
    have x3 : u3.cell? ⟨X, 3, none⟩ = some (.int .u64 0) := kX3.cell 3
    have x4 : u3.cell? ⟨X, 4, none⟩ = some (.pointer none) := kX3.cell 4
    have x5 : u3.cell? ⟨X, 5, none⟩ = some (.int .u16 0) := kX3.cell 5
    have w0 : u3.cell? ⟨W, 0, none⟩ = some (.int .u64 (nw % 1000000000)) := kW3.cell 0
    have w1 : u3.cell? ⟨W, 1, none⟩ = some (.int .i64 (nw / 1000000000)) := kW3.cell 1
    have w2 : u3.cell? ⟨W, 2, none⟩ = some (.pointer none) := kW3.cell 2
    go_wp2_with fail
    have B0 := HF0.out
    have B1 := HF1.out
    refine (settle_any N M l0 l1 nx du nw (xk % 3) fl (ac % 4) ba mo mn mc u3 qM2 n5 kM3 m3 m17 m24 m25 hnw.1 hnw.2 (by have := HMN.out; omega) (by have := B0.2.2.2.1; omega) (by have := B1.2.2.2.1; omega) (by have := B0.2.2.1; omega) (by have := B1.2.2.1; omega)).mono ?_
    rintro e u4 ⟨rfl, hset⟩
    clear B0 B1 x0 x1 x2 x3 x4 x5 w0 w1 w2
    have kX4 := hset.kept kX3 qX
    have kW4 := hset.kept kW3 qW
    have kM4 := hset.kept kM3 qM
    have kP4 := hset.kept kP qP
    have kO4 := hset.kept kO3 qO
    have kO14 := hset.kept kO13 qO1
    have hb4 : Below H w u4 := below_grown hb3 hset.1 (by have := HN.out; have := HX.out; omega) (by have := hb3.size; have := HH.out; omega)
    have n6 : NodeIs u4 N _ _ _ _ u4 := ⟨World.grownBy.refl _ _, hset.2⟩
    rw [end_lane, end_lane] at n6
    clear hset n5 kX3 kW3 kM3 kP kO3 kO13 hb3
    have e3 : u4.cell? ⟨M, 3, none⟩ = some (.int .u8 fl) := (kM4.cell 3).trans m3
    go_upto_region 34 with (first | (go_at_call 9; refine (side_any _ _).mono ?_; rintro e w' ⟨rfl, rfl⟩))
    exact law3 (by unfold IsAt; kernel_rfl) hnw qX qW qM qO qO1 qP kX4 kW4 kM4 m3 m17 m24 m25 kP4 hcs hc1 pl0 pl1 kO4 kO14 (by have := HN.out; have := HX.out; omega) (by have := hb4.size; have := HH.out; omega) hb4 n6 rfl rfl rfl rfl rfl rfl rfl rfl rfl (by assumption)
end Go.Proofs.Ybulkauss
