/-
  The law behind its loops: what it asks of the state.
-/
import Derived.Test.YbulkauseIdx
namespace Go.Proofs.Ybulkause
open Go.RowKit Go.Deep

/-- where region n stands ahead of more code -/
def findSeq (n : Nat) : Code → Option (Code × Code)
  | .seq (.region i o d) b => if i = n then some (.region i o d, b) else findSeq n b
  | .seq a b => match findSeq n a with
    | some c => some c
    | none => findSeq n b
  | .cond _ a b => match findSeq n a with
    | some c => some c
    | none => findSeq n b
  | .block _ c => findSeq n c
  | .loop c => findSeq n c
  | .scope c => findSeq n c
  | _ => none
def IsAt (n : Nat) (x y : Code) : Prop := Yba.f5.body.bind (findSeq n) = some (x, y)
/-- where region n stands ahead of its 'if' c, and more code behind that -/
def findIf (n : Nat) : Code → Option (Code × Code × Code)
  | .seq (.seq (.region i o d) c) b => if i = n then some (.region i o d, c, b) else findIf n b
  | .seq a b => match findIf n a with
    | some c => some c
    | none => findIf n b
  | .cond _ a b => match findIf n a with
    | some c => some c
    | none => findIf n b
  | .block _ c => findIf n c
  | .loop c => findIf n c
  | .scope c => findIf n c
  | _ => none
def IsIf (n : Nat) (x c y : Code) : Prop := Yba.f5.body.bind (findIf n) = some (x, c, y)

theorem run_eql_ptr_same {P : Program} (w : World) {tp te : TypeId} {j : TypeInfo} (a : Addr) (hp : P.underlying tp = some (.pointer te)) (hte : P.info? te = some j) :
    (binOp .eql tp (.pointer (some a)) (.pointer (some a))).run P w = .ok (.bool true) w := by
  have h : ∀ d : Nat, (Op.equalIn (d + 1) tp (.pointer (some a)) (.pointer (some a))).run P w = .ok true w := fun d => by
    simp [Op.equalIn, run_underlying hp, sizeOf, typeInfo, hte, run_sameAddr_same]
  simp only [binOp]
  simp [Op.equal, Op.maxDepth, h 9999]
theorem run_eql_ptr_other {P : Program} (w : World) {tp te : TypeId} {j : TypeInfo} {a b : Addr} {ca cb : Array Value} {ta tb : TypeId} (hp : P.underlying tp = some (.pointer te)) (hte : P.info? te = some j) (hsz : j.size ≠ 0)
    (hne : a ≠ b) (ha : w.heap[a.block]? = some (.cells ca ta (0, 0))) (hb : w.heap[b.block]? = some (.cells cb tb (0, 0))) :
    (binOp .eql tp (.pointer (some a)) (.pointer (some b))).run P w = .ok (.bool false) w := by
  have h : ∀ d : Nat, (Op.equalIn (d + 1) tp (.pointer (some a)) (.pointer (some b))).run P w = .ok false w := fun d => by
    simp [Op.equalIn, run_underlying hp, sizeOf, typeInfo, hte, hsz, run_sameAddr_other w hne ha hb]
  simp only [binOp]
  simp [Op.equal, Op.maxDepth, h 9999]
theorem eql_view (R : Nat) (w : World) : (binOp .eql 118 (.pointer (some ⟨R, 0, none⟩)) (.pointer (some ⟨R, 0, none⟩))).run Yba.prog w = .ok (.bool true) w := by
  obtain ⟨j, hj, _⟩ := info148
  exact run_eql_ptr_same w _ Yba.underlying118 hj
theorem neq_view (R : Nat) (w : World) : (binOp .neq 118 (.pointer (some ⟨R, 0, none⟩)) (.pointer (some ⟨R, 0, none⟩))).run Yba.prog w = .ok (.bool false) w := by
  obtain ⟨j, hj, _⟩ := info148
  exact run_neq_ptr_same w _ Yba.underlying118 hj

set_option maxHeartbeats 1600000 in
set_option maxRecDepth 100000 in
theorem law_same {x c y : Code} (hxy : IsIf 42 x c y) {H : Nat} {base index qu id sq' : Int} {b8 b9 : Bool} {mo lo eo : Option Addr} {mc lc ec : Nat} {ms ls ex : List Mb} {CI V A B C S : Nat} {w u : World} (hsq : IntKind.u64.wrap (base + 1) = sq')
    (kS : Blk u S (stCells id index sq' qu (fnC C) (.pointer (some ⟨V, 0, none⟩)) (.pointer (some ⟨A, 0, none⟩)) (.pointer (some ⟨B, 0, none⟩))) 135) (kC : Blk u C #[.int .i64 0] 3) (hm : MRow u mo ms) (he : MRow u eo ex) (hs : sameB ex ms = true) (hlm : ms.length ≤ 2000) (hle : ex.length ≤ 2000) (hb : Below H w u) {K1 K : Act → World → Prop} (hk1 : ∀ a w', Code.wp Yba.prog c (Exit.then K (bodyPost Yba.prog Yba.f5 fun e w' => e = .returned (.bool true) ∧ Below H w w')) a w' → K1 a w') (hk : ∀ a w', Code.wp Yba.prog y (bodyPost Yba.prog Yba.f5 fun e w' => e = .returned (.bool true) ∧ Below H w w') a w' → K a w')
    {sl0 sl4 sl5 sl6 sl7 sl10 sl11 sl12 sl13 sl14 sl15 sl16 sl17 sl18 sl19 sl20 sl24 sl30 sl31 sl32 sl33 sl34 sl36 sl37 sl38 sl39 sl40 sl41 sl42 sl43 sl44 sl45 sl46 sl47 sl48 sl49 sl50 sl51 sl52 sl53 sl54 sl55 sl56 sl57 sl58 sl59 sl60 sl61 sl62 sl63 sl64 sl65 sl66 sl67 sl68 sl69 sl70 sl71 sl72 sl73 sl74 sl75 sl76 sl77 sl78 sl79 sl80 sl81 sl82 sl83 sl84 sl85 sl86 sl87 sl88 sl89 sl90 sl91 sl92 sl93 sl94 sl95 sl96 sl97 sl98 sl99 sl100 sl101 sl102 sl103 sl104 sl105 sl106 sl107 sl108 sl109 sl110 sl111 sl112 sl113 sl114 sl115 sl116 sl117 sl118 sl119 sl120 sl121 sl122 sl123 sl124 sl125 sl126 sl127 sl128 sl129 sl130 sl131 sl132 sl133 sl134 sl135 sl136 sl137 sl138 sl139 sl140 sl141 sl142 sl143 sl144 sl145 sl146 sl147 sl148 sl149 sl150 sl151 sl152 sl153 sl154 sl155 sl156 sl157 sl158 sl159 sl160 sl161 sl162 sl163 sl164 sl165 sl166 sl167 sl168 sl169 sl170 sl171 sl172 sl173 sl174 sl175 sl176 sl177 sl178 sl179 sl180 sl181 sl182 sl183 sl184 sl185 sl186 sl187 sl188 sl189 sl190 sl191 sl192 sl193 sl194 sl195 sl196 sl197 sl198 sl199 sl200 sl201 sl202 sl203 sl204 sl205 sl206 sl207 sl208 sl209 sl210 sl211 sl212 sl213 sl214 sl215 sl216 sl217 sl218 sl219 sl220 sl221 sl222 sl223 sl224 sl225 sl226 sl227 sl228 sl229 sl230 sl231 sl232 sl233 sl234 sl235 sl236 sl237 sl238 sl239 sl240 sl241 sl242 sl243 sl244 sl245 sl246 sl247 sl248 sl249 sl250 sl251 sl252 sl253 sl254 sl255 sl256 sl257 sl258 sl259 sl260 sl261 sl262 sl263 sl264 sl265 sl266 sl267 sl268 sl269 sl270 sl271 sl272 sl273 sl274 sl275 sl276 sl277 sl278 sl279 sl280 sl281 sl282 sl283 sl284 sl285 sl286 sl287 sl288 sl289 sl290 sl291 sl292 sl293 sl294 sl295 sl296 sl297 sl298 sl299 sl300 sl301 sl302 sl303 sl304 sl305 sl306 sl307 sl308 sl309 sl310 sl311 sl312 sl313 sl314 sl315 sl316 sl317 sl318 sl319 sl320 : Value} :
    Code.wp Yba.prog x (Exit.then K1 (Exit.then K (bodyPost Yba.prog Yba.f5 fun e w' => e = .returned (.bool true) ∧ Below H w w'))) ⟨#[sl0, .int .u64 base, .int .i64 index, .int .i64 qu, sl4, sl5, sl6, sl7, .bool b8, .bool b9, sl10, sl11, sl12, sl13, sl14, sl15, sl16, sl17, sl18, sl19, sl20, .slice mo ms.length mc, .slice lo ls.length lc, .pointer (some ⟨CI, 0, none⟩), sl24, .pointer (some ⟨V, 0, none⟩), .pointer (some ⟨A, 0, none⟩), .pointer (some ⟨B, 0, none⟩), .pointer (some ⟨C, 0, none⟩), .pointer (some ⟨S, 0, none⟩), sl30, sl31, sl32, sl33, sl34, .slice eo ex.length ec, sl36, sl37, sl38, sl39, sl40, sl41, sl42, sl43, sl44, sl45, sl46, sl47, sl48, sl49, sl50, sl51, sl52, sl53, sl54, sl55, sl56, sl57, sl58, sl59, sl60, sl61, sl62, sl63, sl64, sl65, sl66, sl67, sl68, sl69, sl70, sl71, sl72, sl73, sl74, sl75, sl76, sl77, sl78, sl79, sl80, sl81, sl82, sl83, sl84, sl85, sl86, sl87, sl88, sl89, sl90, sl91, sl92, sl93, sl94, sl95, sl96, sl97, sl98, sl99, sl100, sl101, sl102, sl103, sl104, sl105, sl106, sl107, sl108, sl109, sl110, sl111, sl112, sl113, sl114, sl115, sl116, sl117, sl118, sl119, sl120, sl121, sl122, sl123, sl124, sl125, sl126, sl127, sl128, sl129, sl130, sl131, sl132, sl133, sl134, sl135, sl136, sl137, sl138, sl139, sl140, sl141, sl142, sl143, sl144, sl145, sl146, sl147, sl148, sl149, sl150, sl151, sl152, sl153, sl154, sl155, sl156, sl157, sl158, sl159, sl160, sl161, sl162, sl163, sl164, sl165, sl166, sl167, sl168, sl169, sl170, sl171, sl172, sl173, sl174, sl175, sl176, sl177, sl178, sl179, sl180, sl181, sl182, sl183, sl184, sl185, sl186, sl187, sl188, sl189, sl190, sl191, sl192, sl193, sl194, sl195, sl196, sl197, sl198, sl199, sl200, sl201, sl202, sl203, sl204, sl205, sl206, sl207, sl208, sl209, sl210, sl211, sl212, sl213, sl214, sl215, sl216, sl217, sl218, sl219, sl220, sl221, sl222, sl223, sl224, sl225, sl226, sl227, sl228, sl229, sl230, sl231, sl232, sl233, sl234, sl235, sl236, sl237, sl238, sl239, sl240, sl241, sl242, sl243, sl244, sl245, sl246, sl247, sl248, sl249, sl250, sl251, sl252, sl253, sl254, sl255, sl256, sl257, sl258, sl259, sl260, sl261, sl262, sl263, sl264, sl265, sl266, sl267, sl268, sl269, sl270, sl271, sl272, sl273, sl274, sl275, sl276, sl277, sl278, sl279, sl280, sl281, sl282, sl283, sl284, sl285, sl286, sl287, sl288, sl289, sl290, sl291, sl292, sl293, sl294, sl295, sl296, sl297, sl298, sl299, sl300, sl301, sl302, sl303, sl304, sl305, sl306, sl307, sl308, sl309, sl310, sl311, sl312, sl313, sl314, sl315, sl316, sl317, sl318, sl319, sl320], []⟩ u := by
  unfold IsIf at hxy
  conv at hxy => lhs; whnf
  obtain ⟨rfl, h2⟩ := Prod.mk.inj (Option.some.inj hxy)
  obtain ⟨rfl, rfl⟩ := Prod.mk.inj h2
  clear hxy
  have HSM : Hid (∀ j, Calls Yba.prog 12 #[.slice eo ex.length ec, .slice mo ms.length mc] (u.drewN j) fun e w' => e = .returned (.bool true) ∧ SameW (u.drewN j) w') := fun j => by
    have h := same_any eo mo ec mc ex ms (u.drewN j) (by omega) (by omega) he hm
    rw [hs] at h
    exact h
  have HB : Hid (Below H w u) := hb
  clear he hm hs hlm hle hb
  have s16 : u.cell? ⟨S, 16, none⟩ = some (.int .i64 index) := kS.cell 16
  have s17 : u.cell? ⟨S, 17, none⟩ = some (.int .u64 sq') := kS.cell 17
  have s26 : u.cell? ⟨S, 26, none⟩ = some (.pointer (some ⟨V, 0, none⟩)) := kS.cell 26
  have s27 : u.cell? ⟨S, 27, none⟩ = some (.pointer (some ⟨A, 0, none⟩)) := kS.cell 27
  have s28 : u.cell? ⟨S, 28, none⟩ = some (.pointer (some ⟨B, 0, none⟩)) := kS.cell 28
  have s31 : u.cell? ⟨S, 31, none⟩ = some (.int .i64 qu) := kS.cell 31
  have c0 : u.cell? ⟨C, 0, none⟩ = some (.int .i64 0) := kC.cell 0
  have q1 := eql_view V
  have q2 := eql_view A
  have q3 := eql_view B
  clear kS kC
  go_wp2_with (go_at_call 12; refine (HSM.out 0).mono ?_; rintro e w' ⟨rfl, m, rfl⟩)
  go_ret
  exact ⟨rfl, below_drawn HB.out _⟩

set_option maxHeartbeats 1600000 in
set_option maxRecDepth 100000 in
theorem law_end {x c y : Code} (hxy : IsIf 57 x c y) {H B S N : Nat} {b9 : Bool} {w u : World} (s26 : u.cell? ⟨S, 26, none⟩ = some (.pointer (some ⟨N, 0, none⟩))) (s28 : u.cell? ⟨S, 28, none⟩ = some (.pointer (some ⟨if b9 then N else B, 0, none⟩))) (hb : Below H w u) {K1 K : Act → World → Prop} (hk1 : ∀ a w', Code.wp Yba.prog c (Exit.then K (bodyPost Yba.prog Yba.f5 fun e w' => e = .returned (.bool true) ∧ Below H w w')) a w' → K1 a w') (hk : ∀ a w', Code.wp Yba.prog y (bodyPost Yba.prog Yba.f5 fun e w' => e = .returned (.bool true) ∧ Below H w w') a w' → K a w')
    {sl0 sl1 sl2 sl3 sl4 sl5 sl6 sl7 sl8 sl10 sl11 sl12 sl13 sl14 sl15 sl16 sl17 sl18 sl19 sl20 sl21 sl22 sl23 sl24 sl25 sl26 sl28 sl30 sl31 sl32 sl33 sl34 sl35 sl36 sl37 sl38 sl39 sl40 sl41 sl42 sl43 sl44 sl45 sl46 sl47 sl48 sl49 sl50 sl51 sl52 sl53 sl54 sl55 sl56 sl57 sl58 sl59 sl60 sl61 sl62 sl63 sl64 sl65 sl66 sl67 sl68 sl69 sl70 sl71 sl72 sl73 sl74 sl75 sl76 sl77 sl78 sl79 sl80 sl81 sl82 sl83 sl84 sl85 sl86 sl87 sl88 sl89 sl90 sl91 sl92 sl93 sl94 sl95 sl96 sl97 sl98 sl99 sl100 sl101 sl102 sl103 sl104 sl105 sl106 sl107 sl108 sl109 sl110 sl111 sl112 sl113 sl114 sl115 sl116 sl117 sl118 sl119 sl120 sl121 sl122 sl123 sl124 sl125 sl126 sl127 sl128 sl129 sl130 sl131 sl132 sl133 sl134 sl135 sl136 sl137 sl138 sl139 sl140 sl141 sl142 sl143 sl144 sl145 sl146 sl147 sl148 sl149 sl150 sl151 sl152 sl153 sl154 sl155 sl156 sl157 sl158 sl159 sl160 sl161 sl162 sl163 sl164 sl165 sl166 sl167 sl168 sl169 sl170 sl171 sl172 sl173 sl174 sl175 sl176 sl177 sl178 sl179 sl180 sl181 sl182 sl183 sl184 sl185 sl186 sl187 sl188 sl189 sl190 sl191 sl192 sl193 sl194 sl195 sl196 sl197 sl198 sl199 sl200 sl201 sl202 sl203 sl204 sl205 sl206 sl207 sl208 sl209 sl210 sl211 sl212 sl213 sl214 sl215 sl216 sl217 sl218 sl219 sl220 sl221 sl222 sl223 sl224 sl225 sl226 sl227 sl228 sl229 sl230 sl231 sl232 sl233 sl234 sl235 sl236 sl237 sl238 sl239 sl240 sl241 sl242 sl243 sl244 sl245 sl246 sl247 sl248 sl249 sl250 sl251 sl252 sl253 sl254 sl255 sl256 sl257 sl258 sl259 sl260 sl261 sl262 sl263 sl264 sl265 sl266 sl267 sl268 sl269 sl270 sl271 sl272 sl273 sl274 sl275 sl276 sl277 sl278 sl279 sl280 sl281 sl282 sl283 sl284 sl285 sl286 sl287 sl288 sl289 sl290 sl291 sl292 sl293 sl294 sl295 sl296 sl297 sl298 sl299 sl300 sl301 sl302 sl303 sl304 sl305 sl306 sl307 sl308 sl309 sl310 sl311 sl312 sl313 sl314 sl315 sl316 sl317 sl318 sl319 sl320 : Value} :
    Code.wp Yba.prog x (Exit.then K1 (Exit.then K (bodyPost Yba.prog Yba.f5 fun e w' => e = .returned (.bool true) ∧ Below H w w'))) ⟨#[sl0, sl1, sl2, sl3, sl4, sl5, sl6, sl7, sl8, .bool b9, sl10, sl11, sl12, sl13, sl14, sl15, sl16, sl17, sl18, sl19, sl20, sl21, sl22, sl23, sl24, sl25, sl26, .pointer (some ⟨B, 0, none⟩), sl28, .pointer (some ⟨S, 0, none⟩), sl30, sl31, sl32, sl33, sl34, sl35, sl36, sl37, sl38, sl39, sl40, sl41, sl42, sl43, sl44, sl45, sl46, sl47, sl48, sl49, sl50, sl51, sl52, sl53, sl54, sl55, sl56, sl57, sl58, sl59, sl60, sl61, sl62, sl63, sl64, sl65, sl66, sl67, sl68, sl69, sl70, sl71, sl72, sl73, sl74, sl75, sl76, sl77, sl78, sl79, sl80, sl81, sl82, sl83, sl84, sl85, sl86, sl87, sl88, sl89, sl90, sl91, sl92, sl93, sl94, sl95, sl96, sl97, sl98, sl99, sl100, sl101, sl102, sl103, sl104, sl105, sl106, sl107, sl108, sl109, sl110, sl111, sl112, sl113, sl114, sl115, sl116, sl117, sl118, sl119, sl120, sl121, sl122, sl123, sl124, sl125, sl126, sl127, sl128, sl129, sl130, sl131, sl132, sl133, sl134, sl135, sl136, sl137, sl138, sl139, sl140, sl141, sl142, sl143, sl144, sl145, sl146, sl147, sl148, sl149, sl150, sl151, sl152, sl153, sl154, sl155, sl156, sl157, sl158, sl159, sl160, sl161, sl162, sl163, sl164, sl165, sl166, sl167, sl168, sl169, sl170, sl171, sl172, sl173, sl174, sl175, sl176, sl177, sl178, sl179, sl180, sl181, sl182, sl183, sl184, sl185, sl186, sl187, sl188, sl189, sl190, sl191, sl192, sl193, sl194, sl195, sl196, sl197, sl198, sl199, sl200, sl201, sl202, sl203, sl204, sl205, sl206, sl207, sl208, sl209, sl210, sl211, sl212, sl213, sl214, sl215, sl216, sl217, sl218, sl219, sl220, sl221, sl222, sl223, sl224, sl225, sl226, sl227, sl228, sl229, sl230, sl231, sl232, sl233, sl234, sl235, sl236, sl237, sl238, sl239, sl240, sl241, sl242, sl243, sl244, sl245, sl246, sl247, sl248, sl249, sl250, sl251, sl252, sl253, sl254, sl255, sl256, sl257, sl258, sl259, sl260, sl261, sl262, sl263, sl264, sl265, sl266, sl267, sl268, sl269, sl270, sl271, sl272, sl273, sl274, sl275, sl276, sl277, sl278, sl279, sl280, sl281, sl282, sl283, sl284, sl285, sl286, sl287, sl288, sl289, sl290, sl291, sl292, sl293, sl294, sl295, sl296, sl297, sl298, sl299, sl300, sl301, sl302, sl303, sl304, sl305, sl306, sl307, sl308, sl309, sl310, sl311, sl312, sl313, sl314, sl315, sl316, sl317, sl318, sl319, sl320], []⟩ u := by
  unfold IsIf at hxy
  conv at hxy => lhs; whnf
  obtain ⟨rfl, h2⟩ := Prod.mk.inj (Option.some.inj hxy)
  obtain ⟨rfl, rfl⟩ := Prod.mk.inj h2
  clear hxy
  have HB : Hid (Below H w u) := hb
  clear hb
  cases b9
  · have t28 : u.cell? ⟨S, 28, none⟩ = some (.pointer (some ⟨B, 0, none⟩)) := s28
    clear s28
    have q1 := neq_view B
    go_wp2_with fail
    go_ret
    exact ⟨rfl, HB.out⟩
  · have t28 : u.cell? ⟨S, 28, none⟩ = some (.pointer (some ⟨N, 0, none⟩)) := s28
    clear s28
    have q1 := neq_view N
    go_upto_region 58 with fail
    go_quiet (fail)
    go_wp2_with fail
    go_ret
    exact ⟨rfl, below_drawn HB.out _⟩

set_option maxHeartbeats 1600000 in
set_option maxRecDepth 100000 in
theorem law_other {x c y : Code} (hxy : IsIf 42 x c y) {H : Nat} {base index qu id sq' i1 i2 ep au : Int} {b8 b9 : Bool} {mo lo eo no : Option Addr} {mc lc ec nc : Nat} {ms ls ex : List Mb} {CI V A B C S N : Nat} {w u : World} {mv0 : Value} (hsq : IntKind.u64.wrap (base + 1) = sq')
    (kS : Blk u S (stCells id index sq' 0 (fnC C) (.pointer (some ⟨N, 0, none⟩)) (.pointer (some ⟨if b8 then N else A, 0, none⟩)) (.pointer (some ⟨if b9 then N else B, 0, none⟩))) 135) (kC : Blk u C #[.int .i64 1] 3) (kI : Blk u CI #[.int .i64 i1, .int .u64 i2] 141) (kV : Blk u V (vwCells i1 i2 ep au mv0 (.slice lo ls.length lc)) 148) (kN : Blk u N (vwCells i1 i2 ep au (.slice no ex.length nc) (.slice lo ls.length lc)) 148)
    (hNV : N ≠ V) (hm : MRow u mo ms) (hl : MRow u lo ls) (he : MRow u eo ex) (hn : MRow u no ex) (hs : sameB ex ms = false) (hlm : ms.length ≤ 2000) (hll : ls.length ≤ 2000) (hle : ex.length ≤ 2000) (hb : Below H w u) {K1 K : Act → World → Prop} (hk1 : ∀ a w', Code.wp Yba.prog c (Exit.then K (bodyPost Yba.prog Yba.f5 fun e w' => e = .returned (.bool true) ∧ Below H w w')) a w' → K1 a w') (hk : ∀ a w', Code.wp Yba.prog y (bodyPost Yba.prog Yba.f5 fun e w' => e = .returned (.bool true) ∧ Below H w w') a w' → K a w')
    {sl0 sl4 sl5 sl6 sl7 sl10 sl11 sl12 sl13 sl14 sl15 sl16 sl17 sl18 sl19 sl20 sl24 sl30 sl31 sl32 sl33 sl34 sl36 sl37 sl38 sl39 sl40 sl41 sl42 sl43 sl44 sl45 sl46 sl47 sl48 sl49 sl50 sl51 sl52 sl53 sl54 sl55 sl56 sl57 sl58 sl59 sl60 sl61 sl62 sl63 sl64 sl65 sl66 sl67 sl68 sl69 sl70 sl71 sl72 sl73 sl74 sl75 sl76 sl77 sl78 sl79 sl80 sl81 sl82 sl83 sl84 sl85 sl86 sl87 sl88 sl89 sl90 sl91 sl92 sl93 sl94 sl95 sl96 sl97 sl98 sl99 sl100 sl101 sl102 sl103 sl104 sl105 sl106 sl107 sl108 sl109 sl110 sl111 sl112 sl113 sl114 sl115 sl116 sl117 sl118 sl119 sl120 sl121 sl122 sl123 sl124 sl125 sl126 sl127 sl128 sl129 sl130 sl131 sl132 sl133 sl134 sl135 sl136 sl137 sl138 sl139 sl140 sl141 sl142 sl143 sl144 sl145 sl146 sl147 sl148 sl149 sl150 sl151 sl152 sl153 sl154 sl155 sl156 sl157 sl158 sl159 sl160 sl161 sl162 sl163 sl164 sl165 sl166 sl167 sl168 sl169 sl170 sl171 sl172 sl173 sl174 sl175 sl176 sl177 sl178 sl179 sl180 sl181 sl182 sl183 sl184 sl185 sl186 sl187 sl188 sl189 sl190 sl191 sl192 sl193 sl194 sl195 sl196 sl197 sl198 sl199 sl200 sl201 sl202 sl203 sl204 sl205 sl206 sl207 sl208 sl209 sl210 sl211 sl212 sl213 sl214 sl215 sl216 sl217 sl218 sl219 sl220 sl221 sl222 sl223 sl224 sl225 sl226 sl227 sl228 sl229 sl230 sl231 sl232 sl233 sl234 sl235 sl236 sl237 sl238 sl239 sl240 sl241 sl242 sl243 sl244 sl245 sl246 sl247 sl248 sl249 sl250 sl251 sl252 sl253 sl254 sl255 sl256 sl257 sl258 sl259 sl260 sl261 sl262 sl263 sl264 sl265 sl266 sl267 sl268 sl269 sl270 sl271 sl272 sl273 sl274 sl275 sl276 sl277 sl278 sl279 sl280 sl281 sl282 sl283 sl284 sl285 sl286 sl287 sl288 sl289 sl290 sl291 sl292 sl293 sl294 sl295 sl296 sl297 sl298 sl299 sl300 sl301 sl302 sl303 sl304 sl305 sl306 sl307 sl308 sl309 sl310 sl311 sl312 sl313 sl314 sl315 sl316 sl317 sl318 sl319 sl320 : Value} :
    Code.wp Yba.prog x (Exit.then K1 (Exit.then K (bodyPost Yba.prog Yba.f5 fun e w' => e = .returned (.bool true) ∧ Below H w w'))) ⟨#[sl0, .int .u64 base, .int .i64 index, .int .i64 qu, sl4, sl5, sl6, sl7, .bool b8, .bool b9, sl10, sl11, sl12, sl13, sl14, sl15, sl16, sl17, sl18, sl19, sl20, .slice mo ms.length mc, .slice lo ls.length lc, .pointer (some ⟨CI, 0, none⟩), sl24, .pointer (some ⟨V, 0, none⟩), .pointer (some ⟨A, 0, none⟩), .pointer (some ⟨B, 0, none⟩), .pointer (some ⟨C, 0, none⟩), .pointer (some ⟨S, 0, none⟩), sl30, sl31, sl32, sl33, sl34, .slice eo ex.length ec, sl36, sl37, sl38, sl39, sl40, sl41, sl42, sl43, sl44, sl45, sl46, sl47, sl48, sl49, sl50, sl51, sl52, sl53, sl54, sl55, sl56, sl57, sl58, sl59, sl60, sl61, sl62, sl63, sl64, sl65, sl66, sl67, sl68, sl69, sl70, sl71, sl72, sl73, sl74, sl75, sl76, sl77, sl78, sl79, sl80, sl81, sl82, sl83, sl84, sl85, sl86, sl87, sl88, sl89, sl90, sl91, sl92, sl93, sl94, sl95, sl96, sl97, sl98, sl99, sl100, sl101, sl102, sl103, sl104, sl105, sl106, sl107, sl108, sl109, sl110, sl111, sl112, sl113, sl114, sl115, sl116, sl117, sl118, sl119, sl120, sl121, sl122, sl123, sl124, sl125, sl126, sl127, sl128, sl129, sl130, sl131, sl132, sl133, sl134, sl135, sl136, sl137, sl138, sl139, sl140, sl141, sl142, sl143, sl144, sl145, sl146, sl147, sl148, sl149, sl150, sl151, sl152, sl153, sl154, sl155, sl156, sl157, sl158, sl159, sl160, sl161, sl162, sl163, sl164, sl165, sl166, sl167, sl168, sl169, sl170, sl171, sl172, sl173, sl174, sl175, sl176, sl177, sl178, sl179, sl180, sl181, sl182, sl183, sl184, sl185, sl186, sl187, sl188, sl189, sl190, sl191, sl192, sl193, sl194, sl195, sl196, sl197, sl198, sl199, sl200, sl201, sl202, sl203, sl204, sl205, sl206, sl207, sl208, sl209, sl210, sl211, sl212, sl213, sl214, sl215, sl216, sl217, sl218, sl219, sl220, sl221, sl222, sl223, sl224, sl225, sl226, sl227, sl228, sl229, sl230, sl231, sl232, sl233, sl234, sl235, sl236, sl237, sl238, sl239, sl240, sl241, sl242, sl243, sl244, sl245, sl246, sl247, sl248, sl249, sl250, sl251, sl252, sl253, sl254, sl255, sl256, sl257, sl258, sl259, sl260, sl261, sl262, sl263, sl264, sl265, sl266, sl267, sl268, sl269, sl270, sl271, sl272, sl273, sl274, sl275, sl276, sl277, sl278, sl279, sl280, sl281, sl282, sl283, sl284, sl285, sl286, sl287, sl288, sl289, sl290, sl291, sl292, sl293, sl294, sl295, sl296, sl297, sl298, sl299, sl300, sl301, sl302, sl303, sl304, sl305, sl306, sl307, sl308, sl309, sl310, sl311, sl312, sl313, sl314, sl315, sl316, sl317, sl318, sl319, sl320], []⟩ u := by
  unfold IsIf at hxy
  conv at hxy => lhs; whnf
  obtain ⟨rfl, h2⟩ := Prod.mk.inj (Option.some.inj hxy)
  obtain ⟨rfl, rfl⟩ := Prod.mk.inj h2
  clear hxy
  have HSM : Hid (∀ j, Calls Yba.prog 12 #[.slice eo ex.length ec, .slice mo ms.length mc] (u.drewN j) fun e w' => e = .returned (.bool false) ∧ SameW (u.drewN j) w') := fun j => by
    have h := same_any eo mo ec mc ex ms (u.drewN j) (by omega) (by omega) he hm
    rw [hs] at h
    exact h
  have HE1 : Hid (∀ m j, Calls Yba.prog 12 #[.slice no ex.length nc, .slice eo ex.length ec] ((u.drewN m).drewN j) fun e w' => e = .returned (.bool true) ∧ ∃ k, w' = ((u.drewN m).drewN j).drewN k) := fun m j => by
    have h := same_any no eo nc ec ex ex ((u.drewN m).drewN j) (by omega) (by omega) hn he
    rw [sameB_refl] at h
    exact h
  have HE2 : Hid (∀ m j, Calls Yba.prog 12 #[.slice lo ls.length lc, .slice lo ls.length lc] ((u.drewN m).drewN j) fun e w' => e = .returned (.bool true) ∧ ∃ k, w' = ((u.drewN m).drewN j).drewN k) := fun m j => by
    have h := same_any lo lo lc lc ls ls ((u.drewN m).drewN j) (by omega) (by omega) hl hl
    rw [sameB_refl] at h
    exact h
  have HB : Hid (Below H w u) := hb
  clear he hm hs hlm hle hb hl hn hll
  have s16 : u.cell? ⟨S, 16, none⟩ = some (.int .i64 index) := kS.cell 16
  have s17 : u.cell? ⟨S, 17, none⟩ = some (.int .u64 sq') := kS.cell 17
  have s26 : u.cell? ⟨S, 26, none⟩ = some (.pointer (some ⟨N, 0, none⟩)) := kS.cell 26
  have S27 : Hid (u.cell? ⟨S, 27, none⟩ = some (.pointer (some ⟨if b8 then N else A, 0, none⟩))) := kS.cell 27
  have S28 : Hid (u.cell? ⟨S, 28, none⟩ = some (.pointer (some ⟨if b9 then N else B, 0, none⟩))) := kS.cell 28
  have s31 : u.cell? ⟨S, 31, none⟩ = some (.int .i64 0) := kS.cell 31
  have c0 : u.cell? ⟨C, 0, none⟩ = some (.int .i64 1) := kC.cell 0
  have v0 : u.cell? ⟨CI, 0, none⟩ = some (.int .i64 i1) := kI.cell 0
  have v1 : u.cell? ⟨CI, 1, none⟩ = some (.int .u64 i2) := kI.cell 1
  have v2 : u.cell? ⟨V, 2, none⟩ = some (.int .u64 ep) := kV.cell 2
  have v3 : u.cell? ⟨V, 3, none⟩ = some (.int .i64 au) := kV.cell 3
  have n0 : u.cell? ⟨N, 0, none⟩ = some (.int .i64 i1) := kN.cell 0
  have n1 : u.cell? ⟨N, 1, none⟩ = some (.int .u64 i2) := kN.cell 1
  have n2 : u.cell? ⟨N, 2, none⟩ = some (.int .u64 ep) := kN.cell 2
  have n3 : u.cell? ⟨N, 3, none⟩ = some (.int .i64 au) := kN.cell 3
  have n10 : u.cell? ⟨N, 10, none⟩ = some (.slice no ex.length nc) := kN.cell 10
  have n11 : u.cell? ⟨N, 11, none⟩ = some (.slice lo ls.length lc) := kN.cell 11
  obtain ⟨j, hj, hsz⟩ := info148
  have qne : ∀ m, (binOp .eql 118 (.pointer (some ⟨N, 0, none⟩)) (.pointer (some ⟨V, 0, none⟩))).run Yba.prog (u.drewN m) = .ok (.bool false) (u.drewN m) := fun m => run_eql_ptr_other (P := Yba.prog) (u.drewN m) (tp := 118) (te := 148) (j := j) (a := ⟨N, 0, none⟩) (b := ⟨V, 0, none⟩) Yba.underlying118 hj hsz (by intro e; injection e with e; exact hNV e) kN kV
  clear kS kC kI kV kN hj hsz
  go_upto_region 48 with (go_at_call 12; refine (HSM.out 0).mono ?_; rintro e w' ⟨rfl, m, rfl⟩)
  obtain ⟨v, hv⟩ : ∃ v, v = u.drewN m := ⟨_, rfl⟩
  rw [← hv]
  have ts26 : v.cell? ⟨S, 26, none⟩ = some (.pointer (some ⟨N, 0, none⟩)) := by rw [hv]; exact s26
  have ts31 : v.cell? ⟨S, 31, none⟩ = some (.int .i64 0) := by rw [hv]; exact s31
  have tc0 : v.cell? ⟨C, 0, none⟩ = some (.int .i64 1) := by rw [hv]; exact c0
  have tv0 : v.cell? ⟨CI, 0, none⟩ = some (.int .i64 i1) := by rw [hv]; exact v0
  have tv1 : v.cell? ⟨CI, 1, none⟩ = some (.int .u64 i2) := by rw [hv]; exact v1
  have tv2 : v.cell? ⟨V, 2, none⟩ = some (.int .u64 ep) := by rw [hv]; exact v2
  have tv3 : v.cell? ⟨V, 3, none⟩ = some (.int .i64 au) := by rw [hv]; exact v3
  have tn0 : v.cell? ⟨N, 0, none⟩ = some (.int .i64 i1) := by rw [hv]; exact n0
  have tn1 : v.cell? ⟨N, 1, none⟩ = some (.int .u64 i2) := by rw [hv]; exact n1
  have tn2 : v.cell? ⟨N, 2, none⟩ = some (.int .u64 ep) := by rw [hv]; exact n2
  have tn3 : v.cell? ⟨N, 3, none⟩ = some (.int .i64 au) := by rw [hv]; exact n3
  have tn10 : v.cell? ⟨N, 10, none⟩ = some (.slice no ex.length nc) := by rw [hv]; exact n10
  have tn11 : v.cell? ⟨N, 11, none⟩ = some (.slice lo ls.length lc) := by rw [hv]; exact n11
  have T27 : Hid (v.cell? ⟨S, 27, none⟩ = some (.pointer (some ⟨if b8 then N else A, 0, none⟩))) := (by rw [hv]; exact S27.out)
  have T28 : Hid (v.cell? ⟨S, 28, none⟩ = some (.pointer (some ⟨if b9 then N else B, 0, none⟩))) := (by rw [hv]; exact S28.out)
  have TB : Hid (Below H w v) := (by rw [hv]; exact below_drawn HB.out _)
  have TE1 : Hid (∀ j, Calls Yba.prog 12 #[.slice no ex.length nc, .slice eo ex.length ec] (v.drewN j) fun e w' => e = .returned (.bool true) ∧ ∃ k, w' = (v.drewN j).drewN k) := (by rw [hv]; exact HE1.out m)
  have TE2 : Hid (∀ j, Calls Yba.prog 12 #[.slice lo ls.length lc, .slice lo ls.length lc] (v.drewN j) fun e w' => e = .returned (.bool true) ∧ ∃ k, w' = (v.drewN j).drewN k) := (by rw [hv]; exact HE2.out m)
  clear hv s16 s17 S27 S28 HB HE1 HE2 HSM qne s26 s31 c0 v0 v1 v2 v3 n0 n1 n2 n3 n10 n11
  have y1 : (i1 == i1) = true := by simp
  have y2 : (i2 == i2) = true := by simp
  have y3 : (ep == ep) = true := by simp
  have y4 : (au == au) = true := by simp
  go_quiet (first | (go_at_call 12; with_reducible refine Calls.quiet_of (TE1.out _)) | (go_at_call 12; with_reducible refine Calls.quiet_of (TE2.out _)))
  clear y1 y2 y3 y4
  go_upto_region 52 with fail
  cases b8
  · have t27 : v.cell? ⟨S, 27, none⟩ = some (.pointer (some ⟨A, 0, none⟩)) := T27.out
    have q1 := neq_view A
    go_upto_region 57 with fail
    exact law_end (by unfold IsIf; kernel_rfl) (by exact ts26) (by exact T28.out) (by exact below_same TB.out rfl rfl rfl rfl) (by assumption) (by assumption)
  · have t27 : v.cell? ⟨S, 27, none⟩ = some (.pointer (some ⟨N, 0, none⟩)) := T27.out
    have q1 := neq_view N
    go_upto_region 53 with fail
    go_quiet (fail)
    go_upto_region 57 with fail
    exact law_end (by unfold IsIf; kernel_rfl) (by exact ts26) (by exact T28.out) (by exact below_same TB.out rfl rfl rfl rfl) (by assumption) (by assumption)

end Go.Proofs.Ybulkause
