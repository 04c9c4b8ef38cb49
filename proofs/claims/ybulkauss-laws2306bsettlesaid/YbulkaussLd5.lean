/-
  The last statement of the law.
-/
import Derived.Test.YbulkaussLc
namespace Go.Proofs.Ybulkauss
open Go.RowKit Go.Deep

set_option maxHeartbeats 1600000 in
set_option maxRecDepth 100000 in
theorem law5 {x y : Code} (hxy : IsAt 66 x y) {NX DU : Int} {w wc : World} {H N Y : Nat} (hlN : N < wc.heap.size) (hlY : Y + 1 < wc.heap.size)
    (c0 : wc.cell? ⟨N, 235, none⟩ = some (.int .u64 (NX % 1000000000))) (c1 : wc.cell? ⟨N, 236, none⟩ = some (.int .i64 (NX / 1000000000))) (c2 : wc.cell? ⟨N, 237, none⟩ = some (.pointer none)) (c3 : wc.cell? ⟨N, 0, none⟩ = some (.int .u64 (DU % 1000000000))) (c4 : wc.cell? ⟨N, 1, none⟩ = some (.int .i64 (DU / 1000000000))) (c5 : wc.cell? ⟨N, 2, none⟩ = some (.pointer none))
    (y0 : wc.cell? ⟨Y, 0, none⟩ = some (.int .u64 (NX % 1000000000))) (y1 : wc.cell? ⟨Y, 1, none⟩ = some (.int .i64 (NX / 1000000000))) (y2 : wc.cell? ⟨Y, 2, none⟩ = some (.pointer none)) (y3 : wc.cell? ⟨Y + 1, 0, none⟩ = some (.int .u64 (DU % 1000000000))) (y4 : wc.cell? ⟨Y + 1, 1, none⟩ = some (.int .i64 (DU / 1000000000))) (y5 : wc.cell? ⟨Y + 1, 2, none⟩ = some (.pointer none))
    (bw : BW H w wc) {K : Act → World → Prop} (hk : ∀ a w', Code.wp Yba.prog y (bodyPost Yba.prog Yba.f3 fun e w' => e = .returned (.bool true) ∧ Below H w w') a w' → K a w')
    {sl0 sl1 sl2 sl3 sl4 sl5 sl6 sl7 sl8 sl9 sl10 sl11 sl12 sl13 sl14 sl15 sl16 sl17 sl18 sl19 sl20 sl21 sl23 sl24 sl25 sl26 sl27 sl28 sl29 sl30 sl31 sl32 sl33 sl34 sl35 sl36 sl37 sl38 sl39 sl40 sl41 sl42 sl45 sl46 sl47 sl48 sl49 sl50 sl51 sl52 sl53 sl54 sl55 sl56 sl57 sl58 sl59 sl60 sl61 sl62 sl63 sl64 sl65 sl66 sl67 sl68 sl69 sl70 sl71 sl72 sl73 sl74 sl75 sl76 sl77 sl78 sl79 sl80 sl81 sl82 sl83 sl84 sl85 sl86 sl87 sl88 sl89 sl90 sl91 sl92 sl93 sl94 sl95 sl96 sl97 sl98 sl99 sl100 sl101 sl102 sl103 sl104 sl105 sl106 sl107 sl108 sl109 sl110 sl111 sl112 sl113 sl114 sl115 sl116 sl117 sl118 sl119 sl120 sl121 sl122 sl123 sl124 sl125 sl126 sl127 sl128 sl129 sl130 sl131 sl132 sl133 sl134 sl135 sl136 sl137 sl138 sl139 sl140 sl141 sl142 sl143 sl144 sl145 sl146 sl147 sl148 sl149 sl150 sl151 sl152 sl153 sl154 sl155 sl156 sl157 sl158 sl159 sl160 sl161 sl162 sl163 sl164 sl165 sl166 sl167 sl168 sl169 sl170 sl171 sl172 sl173 sl174 sl175 sl176 sl177 sl178 sl179 sl180 sl181 sl182 sl183 sl184 sl185 sl186 sl187 sl188 sl189 sl190 sl191 sl192 sl193 sl194 sl195 sl196 sl197 sl198 sl199 sl200 sl201 sl202 sl203 sl204 sl205 sl206 sl207 sl208 sl209 sl210 sl211 sl212 sl213 sl214 sl215 sl216 sl217 sl218 sl219 sl220 sl221 sl222 sl223 sl224 sl225 sl226 sl227 sl228 sl229 sl230 sl231 sl232 sl233 sl234 sl235 sl236 sl237 sl238 sl239 sl240 sl241 sl242 sl243 sl244 sl245 sl246 sl247 sl248 sl249 sl250 sl251 sl252 sl253 sl254 sl255 sl256 sl257 sl258 sl259 sl260 sl261 sl262 sl263 sl264 sl265 sl266 sl267 sl268 sl269 sl270 sl271 sl272 sl273 sl274 sl275 sl276 sl277 sl278 sl279 sl280 sl281 sl282 sl283 sl284 sl285 sl286 sl287 sl288 sl289 sl290 sl291 sl292 sl293 sl294 sl295 sl296 sl297 sl298 sl299 sl300 sl301 sl302 sl303 sl304 sl305 sl306 sl307 sl308 sl309 sl310 sl311 sl312 sl313 : Value} :
    Code.wp Yba.prog x (Exit.then K (bodyPost Yba.prog Yba.f3 fun e w' => e = .returned (.bool true) ∧ Below H w w')) ⟨#[sl0, sl1, sl2, sl3, sl4, sl5, sl6, sl7, sl8, sl9, sl10, sl11, sl12, sl13, sl14, sl15, sl16, sl17, sl18, sl19, sl20, sl21, .pointer (some ⟨N, 0, none⟩), sl23, sl24, sl25, sl26, sl27, sl28, sl29, sl30, sl31, sl32, sl33, sl34, sl35, sl36, sl37, sl38, sl39, sl40, sl41, sl42, .pointer (some ⟨Y, 0, none⟩), .pointer (some ⟨Y + 1, 0, none⟩), sl45, sl46, sl47, sl48, sl49, sl50, sl51, sl52, sl53, sl54, sl55, sl56, sl57, sl58, sl59, sl60, sl61, sl62, sl63, sl64, sl65, sl66, sl67, sl68, sl69, sl70, sl71, sl72, sl73, sl74, sl75, sl76, sl77, sl78, sl79, sl80, sl81, sl82, sl83, sl84, sl85, sl86, sl87, sl88, sl89, sl90, sl91, sl92, sl93, sl94, sl95, sl96, sl97, sl98, sl99, sl100, sl101, sl102, sl103, sl104, sl105, sl106, sl107, sl108, sl109, sl110, sl111, sl112, sl113, sl114, sl115, sl116, sl117, sl118, sl119, sl120, sl121, sl122, sl123, sl124, sl125, sl126, sl127, sl128, sl129, sl130, sl131, sl132, sl133, sl134, sl135, sl136, sl137, sl138, sl139, sl140, sl141, sl142, sl143, sl144, sl145, sl146, sl147, sl148, sl149, sl150, sl151, sl152, sl153, sl154, sl155, sl156, sl157, sl158, sl159, sl160, sl161, sl162, sl163, sl164, sl165, sl166, sl167, sl168, sl169, sl170, sl171, sl172, sl173, sl174, sl175, sl176, sl177, sl178, sl179, sl180, sl181, sl182, sl183, sl184, sl185, sl186, sl187, sl188, sl189, sl190, sl191, sl192, sl193, sl194, sl195, sl196, sl197, sl198, sl199, sl200, sl201, sl202, sl203, sl204, sl205, sl206, sl207, sl208, sl209, sl210, sl211, sl212, sl213, sl214, sl215, sl216, sl217, sl218, sl219, sl220, sl221, sl222, sl223, sl224, sl225, sl226, sl227, sl228, sl229, sl230, sl231, sl232, sl233, sl234, sl235, sl236, sl237, sl238, sl239, sl240, sl241, sl242, sl243, sl244, sl245, sl246, sl247, sl248, sl249, sl250, sl251, sl252, sl253, sl254, sl255, sl256, sl257, sl258, sl259, sl260, sl261, sl262, sl263, sl264, sl265, sl266, sl267, sl268, sl269, sl270, sl271, sl272, sl273, sl274, sl275, sl276, sl277, sl278, sl279, sl280, sl281, sl282, sl283, sl284, sl285, sl286, sl287, sl288, sl289, sl290, sl291, sl292, sl293, sl294, sl295, sl296, sl297, sl298, sl299, sl300, sl301, sl302, sl303, sl304, sl305, sl306, sl307, sl308, sl309, sl310, sl311, sl312, sl313], []⟩ wc := by
  unfold IsAt at hxy
  conv at hxy => lhs; whnf
  obtain ⟨rfl, rfl⟩ := Prod.mk.inj (Option.some.inj hxy)
  clear hxy
  obtain ⟨p, hp⟩ : ∃ p : Int, p = NX % 1000000000 := ⟨_, rfl⟩
  obtain ⟨q, hq⟩ : ∃ q : Int, q = NX / 1000000000 := ⟨_, rfl⟩
  obtain ⟨r, hr⟩ : ∃ r : Int, r = DU % 1000000000 := ⟨_, rfl⟩
  obtain ⟨s, hs⟩ : ∃ s : Int, s = DU / 1000000000 := ⟨_, rfl⟩
  have hp0 : 0 ≤ p := by rw [hp]; exact Int.emod_nonneg _ (by omega)
  have hp1 : p < 1000000000 := by rw [hp]; exact Int.emod_lt_of_pos _ (by omega)
  have hr0 : 0 ≤ r := by rw [hr]; exact Int.emod_nonneg _ (by omega)
  have hr1 : r < 1000000000 := by rw [hr]; exact Int.emod_lt_of_pos _ (by omega)
  rw [← hp] at c0 y0
  rw [← hq] at c1 y1
  rw [← hr] at c3 y3
  rw [← hs] at c4 y4
  have hlY0 : Y < wc.heap.size := by omega
  clear hp hq hr hs
  go_region_with (first | (go_at_call 11; (with_reducible refine (equal_bw p q _ hp0 hp1).mono ?_); (rintro e w' ⟨rfl, hbw, hcw⟩; have k0 := (hcw N 0 hlN).trans c3; have k1 := (hcw N 1 hlN).trans c4; have k2 := (hcw N 2 hlN).trans c5; have k3 := (hcw (Y + 1) 0 hlY).trans y3; have k4 := (hcw (Y + 1) 1 hlY).trans y4; have k5 := (hcw (Y + 1) 2 hlY).trans y5)) | (go_at_call 11; (with_reducible refine (equal_bw r s _ hr0 hr1).mono ?_); rintro e w' ⟨rfl, hbw2, hcw2⟩))
  all_goals
    go_wp2_with fail
    go_ret
    first
    | exact ⟨rfl, (hbw2 H w (hbw H w (bw_drew bw))).1⟩
    | exact ⟨rfl, (bw_drew (hbw2 H w (hbw H w (bw_drew bw)))).1⟩
    | exact ⟨rfl, (hbw2 H w (bw_drew (hbw H w (bw_drew bw)))).1⟩
    | exact ⟨rfl, (bw_drew (hbw2 H w (bw_drew (hbw H w (bw_drew bw))))).1⟩
end Go.Proofs.Ybulkauss
