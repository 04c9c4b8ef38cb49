/-
  The law's views are made.
-/
import Derived.Test.YbulkauseLu
namespace Go.Proofs.Ybulkause
open Go.RowKit Go.Deep

/-- a view that stands for a neighbour: its id's two cells -/
def Nb (id a2 : Int) (v : Value) (A : Nat) (w : World) : Prop := v = .pointer (some ⟨A, 0, none⟩) ∧ Blk w A (vwCells id a2 0 0 (.slice none 0 0) (.slice none 0 0)) 148
def TRel (id base : Int) (b : Bool) (u : World) (v : Value) (w' : World) : Prop := ∃ (A : Nat) (a2 : Int), Nb id a2 v A w' ∧ (a2 == base) = b ∧ Below u.heap.size u w'

set_option maxHeartbeats 1600000 in
set_option maxRecDepth 100000 in
theorem law_t2 {x y : Code} (hxy : IsAt 11 x y) {H : Nat} {base index qu id sq' a2 : Int} {b8 b9 : Bool} {mo lo : Option Addr} {mc lc : Nat} {ms ls : List Mb} {CI OT V A : Nat} {w u : World} (hsq : IntKind.u64.wrap (base + 1) = sq') (hne : (sq' == base) = false) (hid : -128 ≤ id ∧ id ≤ 127)
    (kI : Blk u CI #[.int .i64 id, .int .u64 base] 141) (kO : Blk u OT #[.int .i64 id, .int .u64 sq'] 141) (kV : Blk u V (vwCells id base 1 id (.slice mo ms.length mc) (.slice lo ls.length lc)) 148) (kA : Blk u A (vwCells id a2 0 0 (.slice none 0 0) (.slice none 0 0)) 148) (ea : (a2 == base) = b8)
    (hm : MRow u mo ms) (hl : MRow u lo ls) (hI : Inc ms) (hJ : Inc ls) (hlm : ms.length ≤ 1024) (hll : ls.length ≤ 1024) (hmc : ms.length ≤ mc) (hmc2 : mc ≤ maxLen) (hmn : ∀ g o, mo = some ⟨g, o, none⟩ → g < u.heap.size) (hln : ∀ g o, lo = some ⟨g, o, none⟩ → g < u.heap.size) (hH : H ≤ u.heap.size) (hb : Below H w u) {K : Act → World → Prop} (hk : ∀ a w', Code.wp Yba.prog y (bodyPost Yba.prog Yba.f5 fun e w' => e = .returned (.bool true) ∧ Below H w w') a w' → K a w')
    {sl4 sl5 sl6 sl7 sl10 sl11 sl12 sl13 sl14 sl15 sl16 sl17 sl18 sl19 sl20 sl27 sl28 sl29 sl30 sl31 sl32 sl33 sl34 sl35 sl36 sl37 sl38 sl39 sl40 sl41 sl42 sl43 sl44 sl45 sl46 sl47 sl48 sl49 sl50 sl51 sl52 sl53 sl54 sl55 sl56 sl57 sl58 sl59 sl60 sl61 sl62 sl63 sl64 sl65 sl66 sl67 sl68 sl69 sl70 sl71 sl72 sl73 sl74 sl75 sl76 sl77 sl78 sl79 sl80 sl81 sl82 sl83 sl84 sl85 sl86 sl87 sl88 sl89 sl90 sl91 sl92 sl93 sl94 sl95 sl96 sl97 sl98 sl99 sl100 sl101 sl102 sl103 sl104 sl105 sl106 sl107 sl108 sl109 sl110 sl111 sl112 sl113 sl114 sl115 sl116 sl117 sl118 sl119 sl120 sl121 sl122 sl123 sl124 sl125 sl126 sl127 sl128 sl129 sl130 sl131 sl132 sl133 sl134 sl135 sl136 sl137 sl138 sl139 sl140 sl141 sl142 sl143 sl144 sl145 sl146 sl147 sl148 sl149 sl150 sl151 sl152 sl153 sl154 sl155 sl156 sl157 sl158 sl159 sl160 sl161 sl162 sl163 sl164 sl165 sl166 sl167 sl168 sl169 sl170 sl171 sl172 sl173 sl174 sl175 sl176 sl177 sl178 sl179 sl180 sl181 sl182 sl183 sl184 sl185 sl186 sl187 sl188 sl189 sl190 sl191 sl192 sl193 sl194 sl195 sl196 sl197 sl198 sl199 sl200 sl201 sl202 sl203 sl204 sl205 sl206 sl207 sl208 sl209 sl210 sl211 sl212 sl213 sl214 sl215 sl216 sl217 sl218 sl219 sl220 sl221 sl222 sl223 sl224 sl225 sl226 sl227 sl228 sl229 sl230 sl231 sl232 sl233 sl234 sl235 sl236 sl237 sl238 sl239 sl240 sl241 sl242 sl243 sl244 sl245 sl246 sl247 sl248 sl249 sl250 sl251 sl252 sl253 sl254 sl255 sl256 sl257 sl258 sl259 sl260 sl261 sl262 sl263 sl264 sl265 sl266 sl267 sl268 sl269 sl270 sl271 sl272 sl273 sl274 sl275 sl276 sl277 sl278 sl279 sl280 sl281 sl282 sl283 sl284 sl285 sl286 sl287 sl288 sl289 sl290 sl291 sl292 sl293 sl294 sl295 sl296 sl297 sl298 sl299 sl300 sl301 sl302 sl303 sl304 sl305 sl306 sl307 sl308 sl309 sl310 sl311 sl312 sl313 sl314 sl315 sl316 sl317 sl318 sl319 sl320 : Value} :
    Code.wp Yba.prog x (Exit.then K (bodyPost Yba.prog Yba.f5 fun e w' => e = .returned (.bool true) ∧ Below H w w')) ⟨#[.int .i8 id, .int .u64 base, .int .i64 index, .int .i64 qu, sl4, sl5, sl6, sl7, .bool b8, .bool b9, sl10, sl11, sl12, sl13, sl14, sl15, sl16, sl17, sl18, sl19, sl20, .slice mo ms.length mc, .slice lo ls.length lc, .pointer (some ⟨CI, 0, none⟩), .pointer (some ⟨OT, 0, none⟩), .pointer (some ⟨V, 0, none⟩), .pointer (some ⟨A, 0, none⟩), sl27, sl28, sl29, sl30, sl31, sl32, sl33, sl34, sl35, sl36, sl37, sl38, sl39, sl40, sl41, sl42, sl43, sl44, sl45, sl46, sl47, sl48, sl49, sl50, sl51, sl52, sl53, sl54, sl55, sl56, sl57, sl58, sl59, sl60, sl61, sl62, sl63, sl64, sl65, sl66, sl67, sl68, sl69, sl70, sl71, sl72, sl73, sl74, sl75, sl76, sl77, sl78, sl79, sl80, sl81, sl82, sl83, sl84, sl85, sl86, sl87, sl88, sl89, sl90, sl91, sl92, sl93, sl94, sl95, sl96, sl97, sl98, sl99, sl100, sl101, sl102, sl103, sl104, sl105, sl106, sl107, sl108, sl109, sl110, sl111, sl112, sl113, sl114, sl115, sl116, sl117, sl118, sl119, sl120, sl121, sl122, sl123, sl124, sl125, sl126, sl127, sl128, sl129, sl130, sl131, sl132, sl133, sl134, sl135, sl136, sl137, sl138, sl139, sl140, sl141, sl142, sl143, sl144, sl145, sl146, sl147, sl148, sl149, sl150, sl151, sl152, sl153, sl154, sl155, sl156, sl157, sl158, sl159, sl160, sl161, sl162, sl163, sl164, sl165, sl166, sl167, sl168, sl169, sl170, sl171, sl172, sl173, sl174, sl175, sl176, sl177, sl178, sl179, sl180, sl181, sl182, sl183, sl184, sl185, sl186, sl187, sl188, sl189, sl190, sl191, sl192, sl193, sl194, sl195, sl196, sl197, sl198, sl199, sl200, sl201, sl202, sl203, sl204, sl205, sl206, sl207, sl208, sl209, sl210, sl211, sl212, sl213, sl214, sl215, sl216, sl217, sl218, sl219, sl220, sl221, sl222, sl223, sl224, sl225, sl226, sl227, sl228, sl229, sl230, sl231, sl232, sl233, sl234, sl235, sl236, sl237, sl238, sl239, sl240, sl241, sl242, sl243, sl244, sl245, sl246, sl247, sl248, sl249, sl250, sl251, sl252, sl253, sl254, sl255, sl256, sl257, sl258, sl259, sl260, sl261, sl262, sl263, sl264, sl265, sl266, sl267, sl268, sl269, sl270, sl271, sl272, sl273, sl274, sl275, sl276, sl277, sl278, sl279, sl280, sl281, sl282, sl283, sl284, sl285, sl286, sl287, sl288, sl289, sl290, sl291, sl292, sl293, sl294, sl295, sl296, sl297, sl298, sl299, sl300, sl301, sl302, sl303, sl304, sl305, sl306, sl307, sl308, sl309, sl310, sl311, sl312, sl313, sl314, sl315, sl316, sl317, sl318, sl319, sl320], []⟩ u := by
  unfold IsAt at hxy
  conv at hxy => lhs; whnf
  obtain ⟨rfl, rfl⟩ := Prod.mk.inj (Option.some.inj hxy)
  clear hxy
  have HM : Hid (MRow u mo ms ∧ MRow u lo ls ∧ Inc ms ∧ Inc ls) := ⟨hm, hl, hI, hJ⟩
  have HLL : Hid (ms.length ≤ 1024 ∧ ls.length ≤ 1024 ∧ ms.length ≤ mc ∧ mc ≤ maxLen) := ⟨hlm, hll, hmc, hmc2⟩
  have HMN : Hid ((∀ g o, mo = some (⟨g, o, none⟩ : Addr) → g < u.heap.size) ∧ (∀ g o, lo = some (⟨g, o, none⟩ : Addr) → g < u.heap.size)) := ⟨hmn, hln⟩
  have HB : Hid (Below H w u ∧ H ≤ u.heap.size) := ⟨hb, hH⟩
  have HID : Hid (-128 ≤ id ∧ id ≤ 127) := hid
  have HSQ : Hid (IntKind.u64.wrap (base + 1) = sq') := hsq
  have HNE : Hid ((sq' == base) = false) := hne
  have HEA : Hid ((a2 == base) = b8) := ea
  have KI : Hid (Blk u CI #[.int .i64 id, .int .u64 base] 141) := kI
  have KV : Hid (Blk u V (vwCells id base 1 id (.slice mo ms.length mc) (.slice lo ls.length lc)) 148) := kV
  have KA : Hid (Blk u A (vwCells id a2 0 0 (.slice none 0 0) (.slice none 0 0)) 148) := kA
  have o0 : u.cell? ⟨OT, 0, none⟩ = some (.int .i64 id) := kO.cell 0
  have o1 : u.cell? ⟨OT, 1, none⟩ = some (.int .u64 sq') := kO.cell 1
  have hlO := kO.lt
  clear hm hl hI hJ hlm hll hmc hmc2 hmn hln hH hb hne hsq hid ea kI kV kA kO
  go_upto_if 79 with fail
  obtain ⟨B0, hB0⟩ : ∃ C, C = u.heap.size := ⟨_, rfl⟩
  obtain ⟨u3, hu3⟩ : ∃ u3, u3 = u.alloc (.cells (vwCells id sq' 0 0 (.slice none 0 0) (.slice none 0 0)) 148) := ⟨_, rfl⟩
  have hu3' := hu3
  unfold vwCells at hu3'
  rw [← hu3', ← hB0]
  have KB0 : Hid (Blk u3 B0 (vwCells id sq' 0 0 (.slice none 0 0) (.slice none 0 0)) 148) := (by rw [hu3, hB0]; exact Blk.new _ _ _)
  have hb4 : Below u.heap.size u u3 := by rw [hu3]; exact (Below.refl _ _).alloc (Nat.le_refl _) _
  have HB4 : Hid (Below u.heap.size u u3) := hb4
  have NA : Hid (Blk u3 A (vwCells id a2 0 0 (.slice none 0 0) (.slice none 0 0)) 148) := KA.out.below hb4 KA.out.lt
  have NV : Hid (Blk u3 V (vwCells id base 1 id (.slice mo ms.length mc) (.slice lo ls.length lc)) 148) := KV.out.below hb4 KV.out.lt
  have NI : Hid (Blk u3 CI #[.int .i64 id, .int .u64 base] 141) := KI.out.below hb4 KI.out.lt
  clear hu3 hu3' hB0 hb4 o0 o1 hlO KA KV KI
  go_cut [27] (fun v27 w' => TRel id base b9 u3 v27 w')
  case first =>
    cases b9
    · go_wp2_with fail
      go_meet
      exact ⟨B0, sq', ⟨rfl, KB0.out⟩, HNE.out, Below.refl _ _⟩
    · have i0 : u3.cell? ⟨CI, 0, none⟩ = some (.int .i64 id) := NI.out.cell 0
      have i1 : u3.cell? ⟨CI, 1, none⟩ = some (.int .u64 base) := NI.out.cell 1
      go_wp2_with fail
      go_meet
      exact ⟨u3.heap.size, base, ⟨rfl, Blk.new _ _ _⟩, by simp, (Below.refl _ _).alloc (Nat.le_refl _) _⟩
  case rest =>
    obtain ⟨B, b2, ⟨rfl, kB⟩, eb, hb5⟩ := hcut
    have hbu : Below u.heap.size u wc := HB4.out.trans (hb5.mono HB4.out.size)
    go_upto_region 14 with fail
    exact law_u (by unfold IsAt; kernel_rfl) HSQ.out HID.out (NI.out.below hb5 NI.out.lt) (NV.out.below hb5 NV.out.lt) (NA.out.below hb5 NA.out.lt) kB ⟨rfl, rfl⟩ ⟨rfl, rfl⟩ HEA.out eb (HM.out.1.same_below hbu) (HM.out.2.1.same_below hbu) HM.out.2.2.1 HM.out.2.2.2 HLL.out.1 HLL.out.2.1 HLL.out.2.2.1 HLL.out.2.2.2 (fun g o e => Nat.lt_of_lt_of_le (HMN.out.1 g o e) hbu.size) (fun g o e => Nat.lt_of_lt_of_le (HMN.out.2 g o e) hbu.size) (Nat.le_trans HB.out.2 hbu.size) (HB.out.1.trans (hbu.mono HB.out.2)) (by assumption)

set_option maxHeartbeats 1600000 in
set_option maxRecDepth 100000 in
theorem law_t {x y : Code} (hxy : IsAt 5 x y) {H : Nat} {base index qu id sq' : Int} {b8 b9 : Bool} {mo lo : Option Addr} {mc lc : Nat} {ms ls : List Mb} {w u : World} (hsq : IntKind.u64.wrap (base + 1) = sq') (hne : (sq' == base) = false) (hid : -128 ≤ id ∧ id ≤ 127)
    (hm : MRow u mo ms) (hl : MRow u lo ls) (hI : Inc ms) (hJ : Inc ls) (hlm : ms.length ≤ 1024) (hll : ls.length ≤ 1024) (hmc : ms.length ≤ mc) (hmc2 : mc ≤ maxLen) (hmn : ∀ g o, mo = some ⟨g, o, none⟩ → g < u.heap.size) (hln : ∀ g o, lo = some ⟨g, o, none⟩ → g < u.heap.size) (hH : H ≤ u.heap.size) (hb : Below H w u) {K : Act → World → Prop} (hk : ∀ a w', Code.wp Yba.prog y (bodyPost Yba.prog Yba.f5 fun e w' => e = .returned (.bool true) ∧ Below H w w') a w' → K a w')
    {sl4 sl5 sl6 sl7 sl10 sl11 sl12 sl13 sl14 sl15 sl16 sl17 sl18 sl19 sl20 sl23 sl24 sl25 sl26 sl27 sl28 sl29 sl30 sl31 sl32 sl33 sl34 sl35 sl36 sl37 sl38 sl39 sl40 sl41 sl42 sl43 sl44 sl45 sl46 sl47 sl48 sl49 sl50 sl51 sl52 sl53 sl54 sl55 sl56 sl57 sl58 sl59 sl60 sl61 sl62 sl63 sl64 sl65 sl66 sl67 sl68 sl69 sl70 sl71 sl72 sl73 sl74 sl75 sl76 sl77 sl78 sl79 sl80 sl81 sl82 sl83 sl84 sl85 sl86 sl87 sl88 sl89 sl90 sl91 sl92 sl93 sl94 sl95 sl96 sl97 sl98 sl99 sl100 sl101 sl102 sl103 sl104 sl105 sl106 sl107 sl108 sl109 sl110 sl111 sl112 sl113 sl114 sl115 sl116 sl117 sl118 sl119 sl120 sl121 sl122 sl123 sl124 sl125 sl126 sl127 sl128 sl129 sl130 sl131 sl132 sl133 sl134 sl135 sl136 sl137 sl138 sl139 sl140 sl141 sl142 sl143 sl144 sl145 sl146 sl147 sl148 sl149 sl150 sl151 sl152 sl153 sl154 sl155 sl156 sl157 sl158 sl159 sl160 sl161 sl162 sl163 sl164 sl165 sl166 sl167 sl168 sl169 sl170 sl171 sl172 sl173 sl174 sl175 sl176 sl177 sl178 sl179 sl180 sl181 sl182 sl183 sl184 sl185 sl186 sl187 sl188 sl189 sl190 sl191 sl192 sl193 sl194 sl195 sl196 sl197 sl198 sl199 sl200 sl201 sl202 sl203 sl204 sl205 sl206 sl207 sl208 sl209 sl210 sl211 sl212 sl213 sl214 sl215 sl216 sl217 sl218 sl219 sl220 sl221 sl222 sl223 sl224 sl225 sl226 sl227 sl228 sl229 sl230 sl231 sl232 sl233 sl234 sl235 sl236 sl237 sl238 sl239 sl240 sl241 sl242 sl243 sl244 sl245 sl246 sl247 sl248 sl249 sl250 sl251 sl252 sl253 sl254 sl255 sl256 sl257 sl258 sl259 sl260 sl261 sl262 sl263 sl264 sl265 sl266 sl267 sl268 sl269 sl270 sl271 sl272 sl273 sl274 sl275 sl276 sl277 sl278 sl279 sl280 sl281 sl282 sl283 sl284 sl285 sl286 sl287 sl288 sl289 sl290 sl291 sl292 sl293 sl294 sl295 sl296 sl297 sl298 sl299 sl300 sl301 sl302 sl303 sl304 sl305 sl306 sl307 sl308 sl309 sl310 sl311 sl312 sl313 sl314 sl315 sl316 sl317 sl318 sl319 sl320 : Value} :
    Code.wp Yba.prog x (Exit.then K (bodyPost Yba.prog Yba.f5 fun e w' => e = .returned (.bool true) ∧ Below H w w')) ⟨#[.int .i8 id, .int .u64 base, .int .i64 index, .int .i64 qu, sl4, sl5, sl6, sl7, .bool b8, .bool b9, sl10, sl11, sl12, sl13, sl14, sl15, sl16, sl17, sl18, sl19, sl20, .slice mo ms.length mc, .slice lo ls.length lc, sl23, sl24, sl25, sl26, sl27, sl28, sl29, sl30, sl31, sl32, sl33, sl34, sl35, sl36, sl37, sl38, sl39, sl40, sl41, sl42, sl43, sl44, sl45, sl46, sl47, sl48, sl49, sl50, sl51, sl52, sl53, sl54, sl55, sl56, sl57, sl58, sl59, sl60, sl61, sl62, sl63, sl64, sl65, sl66, sl67, sl68, sl69, sl70, sl71, sl72, sl73, sl74, sl75, sl76, sl77, sl78, sl79, sl80, sl81, sl82, sl83, sl84, sl85, sl86, sl87, sl88, sl89, sl90, sl91, sl92, sl93, sl94, sl95, sl96, sl97, sl98, sl99, sl100, sl101, sl102, sl103, sl104, sl105, sl106, sl107, sl108, sl109, sl110, sl111, sl112, sl113, sl114, sl115, sl116, sl117, sl118, sl119, sl120, sl121, sl122, sl123, sl124, sl125, sl126, sl127, sl128, sl129, sl130, sl131, sl132, sl133, sl134, sl135, sl136, sl137, sl138, sl139, sl140, sl141, sl142, sl143, sl144, sl145, sl146, sl147, sl148, sl149, sl150, sl151, sl152, sl153, sl154, sl155, sl156, sl157, sl158, sl159, sl160, sl161, sl162, sl163, sl164, sl165, sl166, sl167, sl168, sl169, sl170, sl171, sl172, sl173, sl174, sl175, sl176, sl177, sl178, sl179, sl180, sl181, sl182, sl183, sl184, sl185, sl186, sl187, sl188, sl189, sl190, sl191, sl192, sl193, sl194, sl195, sl196, sl197, sl198, sl199, sl200, sl201, sl202, sl203, sl204, sl205, sl206, sl207, sl208, sl209, sl210, sl211, sl212, sl213, sl214, sl215, sl216, sl217, sl218, sl219, sl220, sl221, sl222, sl223, sl224, sl225, sl226, sl227, sl228, sl229, sl230, sl231, sl232, sl233, sl234, sl235, sl236, sl237, sl238, sl239, sl240, sl241, sl242, sl243, sl244, sl245, sl246, sl247, sl248, sl249, sl250, sl251, sl252, sl253, sl254, sl255, sl256, sl257, sl258, sl259, sl260, sl261, sl262, sl263, sl264, sl265, sl266, sl267, sl268, sl269, sl270, sl271, sl272, sl273, sl274, sl275, sl276, sl277, sl278, sl279, sl280, sl281, sl282, sl283, sl284, sl285, sl286, sl287, sl288, sl289, sl290, sl291, sl292, sl293, sl294, sl295, sl296, sl297, sl298, sl299, sl300, sl301, sl302, sl303, sl304, sl305, sl306, sl307, sl308, sl309, sl310, sl311, sl312, sl313, sl314, sl315, sl316, sl317, sl318, sl319, sl320], []⟩ u := by
  unfold IsAt at hxy
  conv at hxy => lhs; whnf
  obtain ⟨rfl, rfl⟩ := Prod.mk.inj (Option.some.inj hxy)
  clear hxy
  have HM : Hid (MRow u mo ms ∧ MRow u lo ls ∧ Inc ms ∧ Inc ls) := ⟨hm, hl, hI, hJ⟩
  have HLL : Hid (ms.length ≤ 1024 ∧ ls.length ≤ 1024 ∧ ms.length ≤ mc ∧ mc ≤ maxLen) := ⟨hlm, hll, hmc, hmc2⟩
  have HMN : Hid ((∀ g o, mo = some (⟨g, o, none⟩ : Addr) → g < u.heap.size) ∧ (∀ g o, lo = some (⟨g, o, none⟩ : Addr) → g < u.heap.size)) := ⟨hmn, hln⟩
  have HB : Hid (Below H w u ∧ H ≤ u.heap.size) := ⟨hb, hH⟩
  have HID : Hid (-128 ≤ id ∧ id ≤ 127) := hid
  have HSQ : Hid (IntKind.u64.wrap (base + 1) = sq') := hsq
  have HNE : Hid ((sq' == base) = false) := hne
  obtain ⟨hid0, hid1⟩ := hid
  clear hm hl hI hJ hlm hll hmc hmc2 hmn hln hH hb hne
  go_upto_region 7 with fail
  clear hsq
  obtain ⟨CI, hCI⟩ : ∃ C, C = u.heap.size := ⟨_, rfl⟩
  obtain ⟨OT, hOT⟩ : ∃ C, C = u.heap.size + 1 := ⟨_, rfl⟩
  obtain ⟨u1, hu1⟩ : ∃ u1, u1 = (u.alloc (.cells #[.int .i64 id, .int .u64 base] 141)).alloc (.cells #[.int .i64 id, .int .u64 sq'] 141) := ⟨_, rfl⟩
  rw [← hu1, ← hOT, ← hCI]
  have kI : Blk u1 CI #[.int .i64 id, .int .u64 base] 141 := by rw [hu1, hCI]; exact (Blk.new _ _ _).alloc _
  have kO : Blk u1 OT #[.int .i64 id, .int .u64 sq'] 141 := by
    rw [hu1]; have := Blk.new (u.alloc (.cells #[.int .i64 id, .int .u64 base] 141)) #[.int .i64 id, .int .u64 sq'] 141; simpa [hOT] using this
  have hb1 : Below u.heap.size u u1 := by rw [hu1]; exact ((Below.refl _ _).alloc (Nat.le_refl _) _).alloc (by simp) _
  have HB1 : Hid (Below u.heap.size u u1) := hb1
  have KI : Hid (Blk u1 CI #[.int .i64 id, .int .u64 base] 141) := kI
  have KO : Hid (Blk u1 OT #[.int .i64 id, .int .u64 sq'] 141) := kO
  clear hb1 hu1 hCI hOT
  have i0 : u1.cell? ⟨CI, 0, none⟩ = some (.int .i64 id) := kI.cell 0
  have i1 : u1.cell? ⟨CI, 1, none⟩ = some (.int .u64 base) := kI.cell 1
  have o0 : u1.cell? ⟨OT, 0, none⟩ = some (.int .i64 id) := kO.cell 0
  have o1 : u1.cell? ⟨OT, 1, none⟩ = some (.int .u64 sq') := kO.cell 1
  have hlI := kI.lt
  have hlO := kO.lt
  clear kI kO
  go_upto_if 72 with fail
  clear hid0 hid1
  obtain ⟨V, hV⟩ : ∃ C, C = u1.heap.size := ⟨_, rfl⟩
  obtain ⟨A0, hA0⟩ : ∃ C, C = u1.heap.size + 1 := ⟨_, rfl⟩
  obtain ⟨u2, hu2⟩ : ∃ u2, u2 = (u1.alloc (.cells (vwCells id base 1 id (.slice mo ms.length mc) (.slice lo ls.length lc)) 148)).alloc (.cells (vwCells id sq' 0 0 (.slice none 0 0) (.slice none 0 0)) 148) := ⟨_, rfl⟩
  have hu2' := hu2
  unfold vwCells at hu2'
  rw [← hu2', ← hA0, ← hV]
  have KV : Hid (Blk u2 V (vwCells id base 1 id (.slice mo ms.length mc) (.slice lo ls.length lc)) 148) := (by rw [hu2, hV]; exact (Blk.new _ _ _).alloc _)
  have kA0 : Blk u2 A0 (vwCells id sq' 0 0 (.slice none 0 0) (.slice none 0 0)) 148 := by
    rw [hu2]; have := Blk.new (u1.alloc (.cells (vwCells id base 1 id (.slice mo ms.length mc) (.slice lo ls.length lc)) 148)) (vwCells id sq' 0 0 (.slice none 0 0) (.slice none 0 0)) 148; simpa [hA0] using this
  have KA0 : Hid (Blk u2 A0 (vwCells id sq' 0 0 (.slice none 0 0) (.slice none 0 0)) 148) := kA0
  clear kA0
  have hb2 : Below u1.heap.size u1 u2 := by rw [hu2]; exact ((Below.refl _ _).alloc (Nat.le_refl _) _).alloc (by simp) _
  have HB2 : Hid (Below u.heap.size u u2) := HB1.out.trans (hb2.mono HB1.out.size)
  have JI : Hid (Blk u2 CI #[.int .i64 id, .int .u64 base] 141) := KI.out.below hb2 KI.out.lt
  have JO : Hid (Blk u2 OT #[.int .i64 id, .int .u64 sq'] 141) := KO.out.below hb2 KO.out.lt
  clear hu2 hu2' hA0 hV hb2 i0 i1 o0 o1 hlI hlO KI KO HB1
  go_cut [26] (fun v26 w' => TRel id base b8 u2 v26 w')
  case first =>
    cases b8
    · go_wp2_with fail
      go_meet
      exact ⟨A0, sq', ⟨rfl, KA0.out⟩, HNE.out, Below.refl _ _⟩
    · have i0 : u2.cell? ⟨CI, 0, none⟩ = some (.int .i64 id) := JI.out.cell 0
      have i1 : u2.cell? ⟨CI, 1, none⟩ = some (.int .u64 base) := JI.out.cell 1
      go_wp2_with fail
      go_meet
      exact ⟨u2.heap.size, base, ⟨rfl, Blk.new _ _ _⟩, by simp, (Below.refl _ _).alloc (Nat.le_refl _) _⟩
  case rest =>
    obtain ⟨A, a2, ⟨rfl, kA⟩, ea, hb3⟩ := hcut
    have HB3 : Hid (Below u.heap.size u wc) := HB2.out.trans (hb3.mono HB2.out.size)
    go_upto_region 11 with fail
    exact law_t2 (by unfold IsAt; kernel_rfl) HSQ.out HNE.out HID.out (JI.out.below hb3 JI.out.lt) (JO.out.below hb3 JO.out.lt) (KV.out.below hb3 KV.out.lt) kA ea (HM.out.1.same_below HB3.out) (HM.out.2.1.same_below HB3.out) HM.out.2.2.1 HM.out.2.2.2 HLL.out.1 HLL.out.2.1 HLL.out.2.2.1 HLL.out.2.2.2 (fun g o e => Nat.lt_of_lt_of_le (HMN.out.1 g o e) HB3.out.size) (fun g o e => Nat.lt_of_lt_of_le (HMN.out.2 g o e) HB3.out.size) (Nat.le_trans HB.out.2 HB3.out.size) (HB.out.1.trans (HB3.out.mono HB.out.2)) (by assumption)
end Go.Proofs.Ybulkause
