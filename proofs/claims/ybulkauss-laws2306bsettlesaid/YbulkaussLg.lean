/-
  A round of the second loop: the acknowledgement.
-/
import Derived.Test.YbulkaussLc
namespace Go.Proofs.Ybulkauss
open Go.RowKit Go.Deep

set_option maxHeartbeats 1600000 in
set_option maxRecDepth 100000 in
theorem part50 {x y : Code} (hxy : IsAt 50 x y) {ba xk sd i : Int} {X M Q R mn : Nat} {mo : Option Addr} {mc ps qs : Array Value} {l : Lane} {B C : Bool} {wc : World} (kQ9 : Blk wc Q ps 77) (p4 : LaneIs ps 0 l) (kR9 : Blk wc R qs 77) (q4 : LaneIs qs 0 (endL B C (xk % 3) ba l))
    (jM : Blk wc M mc 123) (m17 : mc[17]? = some (.slice mo mn mn)) (m24 : mc[24]? = some (.int .u8 ba)) (jX : Blk wc X #[.int .u64 0, .int .u64 (xk % 3), .int .u64 0, .int .u64 0, .pointer none, .int .u16 0] 38)
    (hB : B = (decide (0 < mn) && decide (i = sd))) {QQ : Exit → Act → World → Prop} {K : Act → World → Prop} (hk : ∀ a w', Code.wp Yba.prog y QQ a w' → K a w') {sl0 sl1 sl2 sl3 sl4 sl5 sl6 sl7 sl8 sl9 sl10 sl11 sl12 sl13 sl14 sl15 sl16 sl17 sl18 sl19 sl20 sl22 sl23 sl24 sl25 sl26 sl27 sl28 sl29 sl31 sl32 sl33 sl34 sl36 sl40 sl41 sl42 sl43 sl44 sl45 sl46 sl47 sl48 sl49 sl50 sl51 sl52 sl53 sl54 sl55 sl56 sl57 sl58 sl59 sl60 sl61 sl62 sl63 sl64 sl65 sl66 sl67 sl68 sl69 sl70 sl71 sl72 sl73 sl74 sl75 sl76 sl77 sl78 sl79 sl80 sl81 sl82 sl83 sl84 sl85 sl86 sl87 sl88 sl89 sl90 sl91 sl92 sl93 sl94 sl95 sl96 sl97 sl98 sl99 sl100 sl101 sl102 sl103 sl104 sl105 sl106 sl107 sl108 sl109 sl110 sl111 sl112 sl113 sl114 sl115 sl116 sl117 sl118 sl119 sl120 sl121 sl122 sl123 sl124 sl125 sl126 sl127 sl128 sl129 sl130 sl131 sl132 sl133 sl134 sl135 sl136 sl137 sl138 sl139 sl140 sl141 sl142 sl143 sl144 sl145 sl146 sl147 sl148 sl149 sl150 sl151 sl152 sl153 sl154 sl155 sl156 sl157 sl158 sl159 sl160 sl161 sl162 sl163 sl164 sl165 sl166 sl167 sl168 sl169 sl170 sl171 sl172 sl173 sl174 sl175 sl176 sl177 sl178 sl179 sl180 sl181 sl182 sl183 sl184 sl185 sl186 sl187 sl188 sl189 sl190 sl191 sl192 sl193 sl194 sl195 sl196 sl197 sl198 sl199 sl200 sl201 sl202 sl203 sl204 sl205 sl206 sl207 sl208 sl209 sl210 sl211 sl212 sl213 sl214 sl215 sl216 sl217 sl218 sl219 sl220 sl221 sl222 sl223 sl224 sl225 sl226 sl227 sl228 sl229 sl230 sl231 sl232 sl233 sl234 sl235 sl236 sl237 sl238 sl239 sl240 sl241 sl242 sl243 sl244 sl245 sl246 sl247 sl248 sl249 sl250 sl251 sl252 sl253 sl254 sl255 sl256 sl257 sl258 sl259 sl260 sl261 sl262 sl263 sl264 sl265 sl266 sl267 sl268 sl269 sl270 sl271 sl272 sl273 sl274 sl275 sl276 sl277 sl278 sl279 sl280 sl281 sl282 sl283 sl284 sl285 sl286 sl287 sl288 sl289 sl290 sl291 sl292 sl293 sl294 sl295 sl296 sl297 sl298 sl299 sl300 sl301 sl302 sl303 sl304 sl305 sl306 sl307 sl308 sl309 sl310 sl311 sl312 sl313 : Value}
    (hend : ∀ (n20 n41 n42 n256 n257 n258 n259 n260 n261 n262 n263 n264 n265 n266 n267 n268 n269 n270 n271 n272 n273 n274 n275 n276 n277 n278 n279 n280 n281 n282 n283 n284 n285 : Value) (w' : World) (ob : Obj), w' = wc.alloc ob → QQ .normal ⟨#[sl0, sl1, sl2, sl3, sl4, sl5, sl6, sl7, sl8, sl9, sl10, sl11, sl12, sl13, sl14, sl15, sl16, sl17, sl18, sl19, n20, .pointer (some ⟨X, 0, none⟩), sl22, sl23, sl24, sl25, sl26, sl27, sl28, sl29, .pointer (some ⟨M, 0, none⟩), sl31, sl32, sl33, sl34, .int .i64 sd, sl36, .int .i64 i, .pointer (some ⟨Q, 0, none⟩), .pointer (some ⟨R, 0, none⟩), sl40, n41, n42, sl43, sl44, sl45, sl46, sl47, sl48, sl49, sl50, sl51, sl52, sl53, sl54, sl55, sl56, sl57, sl58, sl59, sl60, sl61, sl62, sl63, sl64, sl65, sl66, sl67, sl68, sl69, sl70, sl71, sl72, sl73, sl74, sl75, sl76, sl77, sl78, sl79, sl80, sl81, sl82, sl83, sl84, sl85, sl86, sl87, sl88, sl89, sl90, sl91, sl92, sl93, sl94, sl95, sl96, sl97, sl98, sl99, sl100, sl101, sl102, sl103, sl104, sl105, sl106, sl107, sl108, sl109, sl110, sl111, sl112, sl113, sl114, sl115, sl116, sl117, sl118, sl119, sl120, sl121, sl122, sl123, sl124, sl125, sl126, sl127, sl128, sl129, sl130, sl131, sl132, sl133, sl134, sl135, sl136, sl137, sl138, sl139, sl140, sl141, sl142, sl143, sl144, sl145, sl146, sl147, sl148, sl149, sl150, sl151, sl152, sl153, sl154, sl155, sl156, sl157, sl158, sl159, sl160, sl161, sl162, sl163, sl164, sl165, sl166, sl167, sl168, sl169, sl170, sl171, sl172, sl173, sl174, sl175, sl176, sl177, sl178, sl179, sl180, sl181, sl182, sl183, sl184, sl185, sl186, sl187, sl188, sl189, sl190, sl191, sl192, sl193, sl194, sl195, sl196, sl197, sl198, sl199, sl200, sl201, sl202, sl203, sl204, sl205, sl206, sl207, sl208, sl209, sl210, sl211, sl212, sl213, sl214, sl215, sl216, sl217, sl218, sl219, sl220, sl221, sl222, sl223, sl224, sl225, sl226, sl227, sl228, sl229, sl230, sl231, sl232, sl233, sl234, sl235, sl236, sl237, sl238, sl239, sl240, sl241, sl242, sl243, sl244, sl245, sl246, sl247, sl248, sl249, sl250, sl251, sl252, sl253, sl254, sl255, n256, n257, n258, n259, n260, n261, n262, n263, n264, n265, n266, n267, n268, n269, n270, n271, n272, n273, n274, n275, n276, n277, n278, n279, n280, n281, n282, n283, n284, n285, sl286, sl287, sl288, sl289, sl290, sl291, sl292, sl293, sl294, sl295, sl296, sl297, sl298, sl299, sl300, sl301, sl302, sl303, sl304, sl305, sl306, sl307, sl308, sl309, sl310, sl311, sl312, sl313], []⟩ w') :
    Code.wp Yba.prog x (Exit.then K QQ) ⟨#[sl0, sl1, sl2, sl3, sl4, sl5, sl6, sl7, sl8, sl9, sl10, sl11, sl12, sl13, sl14, sl15, sl16, sl17, sl18, sl19, sl20, .pointer (some ⟨X, 0, none⟩), sl22, sl23, sl24, sl25, sl26, sl27, sl28, sl29, .pointer (some ⟨M, 0, none⟩), sl31, sl32, sl33, sl34, .int .i64 sd, sl36, .int .i64 i, .pointer (some ⟨Q, 0, none⟩), .pointer (some ⟨R, 0, none⟩), sl40, sl41, sl42, sl43, sl44, sl45, sl46, sl47, sl48, sl49, sl50, sl51, sl52, sl53, sl54, sl55, sl56, sl57, sl58, sl59, sl60, sl61, sl62, sl63, sl64, sl65, sl66, sl67, sl68, sl69, sl70, sl71, sl72, sl73, sl74, sl75, sl76, sl77, sl78, sl79, sl80, sl81, sl82, sl83, sl84, sl85, sl86, sl87, sl88, sl89, sl90, sl91, sl92, sl93, sl94, sl95, sl96, sl97, sl98, sl99, sl100, sl101, sl102, sl103, sl104, sl105, sl106, sl107, sl108, sl109, sl110, sl111, sl112, sl113, sl114, sl115, sl116, sl117, sl118, sl119, sl120, sl121, sl122, sl123, sl124, sl125, sl126, sl127, sl128, sl129, sl130, sl131, sl132, sl133, sl134, sl135, sl136, sl137, sl138, sl139, sl140, sl141, sl142, sl143, sl144, sl145, sl146, sl147, sl148, sl149, sl150, sl151, sl152, sl153, sl154, sl155, sl156, sl157, sl158, sl159, sl160, sl161, sl162, sl163, sl164, sl165, sl166, sl167, sl168, sl169, sl170, sl171, sl172, sl173, sl174, sl175, sl176, sl177, sl178, sl179, sl180, sl181, sl182, sl183, sl184, sl185, sl186, sl187, sl188, sl189, sl190, sl191, sl192, sl193, sl194, sl195, sl196, sl197, sl198, sl199, sl200, sl201, sl202, sl203, sl204, sl205, sl206, sl207, sl208, sl209, sl210, sl211, sl212, sl213, sl214, sl215, sl216, sl217, sl218, sl219, sl220, sl221, sl222, sl223, sl224, sl225, sl226, sl227, sl228, sl229, sl230, sl231, sl232, sl233, sl234, sl235, sl236, sl237, sl238, sl239, sl240, sl241, sl242, sl243, sl244, sl245, sl246, sl247, sl248, sl249, sl250, sl251, sl252, sl253, sl254, sl255, sl256, sl257, sl258, sl259, sl260, sl261, sl262, sl263, sl264, sl265, sl266, sl267, sl268, sl269, sl270, sl271, sl272, sl273, sl274, sl275, sl276, sl277, sl278, sl279, sl280, sl281, sl282, sl283, sl284, sl285, sl286, sl287, sl288, sl289, sl290, sl291, sl292, sl293, sl294, sl295, sl296, sl297, sl298, sl299, sl300, sl301, sl302, sl303, sl304, sl305, sl306, sl307, sl308, sl309, sl310, sl311, sl312, sl313], []⟩ wc := by
  unfold IsAt at hxy
  conv at hxy => lhs; whnf
  obtain ⟨rfl, rfl⟩ := Prod.mk.inj (Option.some.inj hxy)
  clear hxy
  have HB : Hid (B = (decide (0 < mn) && decide (i = sd))) := hB
  have hp29 := eq29
  clear hB
  obtain ⟨-, -, -, -, -, -, -, -, -, c33, c34, c35, c36, c37, c38, c39⟩ := p4.cells0 kQ9
  have DD := q4.cells0 kR9
  have d33 := DD.2.2.2.2.2.2.2.2.2.1
  have d34 : wc.cell? ⟨R, 34, none⟩ = some (.int .u64 (akE B (xk % 3) l.akTo)) := DD.2.2.2.2.2.2.2.2.2.2.1
  have d35 := DD.2.2.2.2.2.2.2.2.2.2.2.1
  have d36 := DD.2.2.2.2.2.2.2.2.2.2.2.2.1
  have d37 := DD.2.2.2.2.2.2.2.2.2.2.2.2.2.1
  have d38 := DD.2.2.2.2.2.2.2.2.2.2.2.2.2.2.1
  have d39 : wc.cell? ⟨R, 39, none⟩ = some (.int .u8 (akE B ba l.ak)) := DD.2.2.2.2.2.2.2.2.2.2.2.2.2.2.2
  clear DD
  have e17 : wc.cell? ⟨M, 17, none⟩ = some (.slice mo mn mn) := (jM.cell 17).trans m17
  have e24 : wc.cell? ⟨M, 24, none⟩ = some (.int .u8 ba) := (jM.cell 24).trans m24
  have x0 : wc.cell? ⟨X, 0, none⟩ = some (.int .u64 0) := jX.cell 0
  have x1 : wc.cell? ⟨X, 1, none⟩ = some (.int .u64 (xk % 3)) := jX.cell 1
  have x2 : wc.cell? ⟨X, 2, none⟩ = some (.int .u64 0) := jX.cell 2
  have x3 : wc.cell? ⟨X, 3, none⟩ = some (.int .u64 0) := jX.cell 3
  have x4 : wc.cell? ⟨X, 4, none⟩ = some (.pointer none) := jX.cell 4
  have x5 : wc.cell? ⟨X, 5, none⟩ = some (.int .u16 0) := jX.cell 5
  have hlR := kR9.lt
  have hlQ := kQ9.lt
  have hlM := jM.lt
  have hlX := jX.lt
  clear jM jX p4 q4
  by_cases hm : 0 < mn
  · by_cases hi : i = sd
    · subst hi
      have hB : B = true := by rw [HB.out]; simp [hm]
      subst hB
      have d34' : wc.cell? ⟨R, 34, none⟩ = some (.int .u64 (xk % 3)) := d34
      have d39' : wc.cell? ⟨R, 39, none⟩ = some (.int .u8 ba) := d39
      clear d34 d39
      go_wp2_with fail
      exact hend _ _ _ _ _ _ _ _ _ _ _ _ _ _ _ _ _ _ _ _ _ _ _ _ _ _ _ _ _ _ _ _ _ _ _ rfl
    · have hB : B = false := by rw [HB.out]; simp [hi]
      subst hB
      have d34' : wc.cell? ⟨R, 34, none⟩ = some (.int .u64 l.akTo) := d34
      have d39' : wc.cell? ⟨R, 39, none⟩ = some (.int .u8 l.ak) := d39
      clear d34 d39
      go_wp2_with fail
      exact hend _ _ _ _ _ _ _ _ _ _ _ _ _ _ _ _ _ _ _ _ _ _ _ _ _ _ _ _ _ _ _ _ _ _ _ rfl
  · have hB : B = false := by rw [HB.out]; simp [hm]
    subst hB
    have d34' : wc.cell? ⟨R, 34, none⟩ = some (.int .u64 l.akTo) := d34
    have d39' : wc.cell? ⟨R, 39, none⟩ = some (.int .u8 l.ak) := d39
    clear d34 d39
    go_wp2_with fail
    exact hend _ _ _ _ _ _ _ _ _ _ _ _ _ _ _ _ _ _ _ _ _ _ _ _ _ _ _ _ _ _ _ _ _ _ _ rfl
end Go.Proofs.Ybulkauss
