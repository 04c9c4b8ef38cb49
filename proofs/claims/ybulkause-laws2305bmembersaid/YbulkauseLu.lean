/-
  The law's state is made, and SetIndex called.
-/
import Derived.Test.YbulkauseLw
namespace Go.Proofs.Ybulkause
open Go.RowKit Go.Deep

theorem built135m (id base qu : Int) (V A B : Nat) (fn : Value) : Yba.prog.built 135 [(0, .int .i64 id), (3, .int .i64 id), (4, .int .u64 base), (17, .int .i64 qu), (12, .pointer (some ⟨V, 0, none⟩)), (13, .pointer (some ⟨A, 0, none⟩)), (14, .pointer (some ⟨B, 0, none⟩)), (1, .agg (cfgCells fn))] = some (stCells id id base qu fn (.pointer (some ⟨V, 0, none⟩)) (.pointer (some ⟨A, 0, none⟩)) (.pointer (some ⟨B, 0, none⟩))) := by kernel_rfl

theorem fin_of_set {S V A B C CI : Nat} {id index sq' qu i1 i2 ep au a2 b2 : Int} {b8 b9 : Bool} {mv0 : Value} {lo : Option Addr} {lc : Nat} {ls ex ms : List Mb} {u : World} {e : Ending} {w' : World} (hp : SetPost S V A B C id index sq' qu i1 i2 ep au a2 b2 (.slice lo ls.length lc) ex ms u e w') (ha : (a2 == i2) = b8) (hb : (b2 == i2) = b9)
    (kI : Blk u CI #[.int .i64 i1, .int .u64 i2] 141) (kV : Blk u V (vwCells i1 i2 ep au mv0 (.slice lo ls.length lc)) 148) (hne : CI ≠ S ∧ CI ≠ C ∧ V ≠ S ∧ V ≠ C) : e = .returned (.tuple #[]) ∧ Fin S V A B C CI id index sq' qu i1 i2 ep au b8 b9 mv0 lo lc ls ex ms w' ∧ Else S C u w' := by
  subst ha hb
  obtain ⟨he, ⟨hs, h1, h2, h3⟩ | ⟨hs, N, mv, hN, h1, h2, h3, h4, h5⟩⟩ := hp
  · exact ⟨he, .inl ⟨hs, h1, h2⟩, h3⟩
  · obtain ⟨no, nc, rfl, -, -, hrow, -⟩ := mrow_of_owns h4
    have hV := kV.lt
    exact ⟨he, .inr ⟨hs, N, no, nc, by omega, h1, h2, kI.else h5 hne.1 hne.2.1, kV.else h5 hne.2.2.1 hne.2.2.2, h3, hrow⟩, h5⟩

set_option maxHeartbeats 1600000 in
set_option maxRecDepth 100000 in
theorem law_u {x y : Code} (hxy : IsAt 14 x y) {H : Nat} {base index qu id sq' a2 b2 : Int} {b8 b9 : Bool} {mo lo : Option Addr} {mc lc : Nat} {ms ls : List Mb} {CI V A B : Nat} {ca cb : Array Value} {w u : World} (hsq : IntKind.u64.wrap (base + 1) = sq') (hid : -128 ≤ id ∧ id ≤ 127)
    (kI : Blk u CI #[.int .i64 id, .int .u64 base] 141) (kV : Blk u V (vwCells id base 1 id (.slice mo ms.length mc) (.slice lo ls.length lc)) 148) (kA : Blk u A ca 148) (kB : Blk u B cb 148) (ha : ca[0]? = some (.int .i64 id) ∧ ca[1]? = some (.int .u64 a2)) (hb2 : cb[0]? = some (.int .i64 id) ∧ cb[1]? = some (.int .u64 b2)) (ea : (a2 == base) = b8) (eb : (b2 == base) = b9)
    (hm : MRow u mo ms) (hl : MRow u lo ls) (hI : Inc ms) (hJ : Inc ls) (hlm : ms.length ≤ 1024) (hll : ls.length ≤ 1024) (hmc : ms.length ≤ mc) (hmc2 : mc ≤ maxLen) (hmn : ∀ g o, mo = some ⟨g, o, none⟩ → g < u.heap.size) (hln : ∀ g o, lo = some ⟨g, o, none⟩ → g < u.heap.size) (hH : H ≤ u.heap.size) (hb : Below H w u) {K : Act → World → Prop} (hk : ∀ a w', Code.wp Yba.prog y (bodyPost Yba.prog Yba.f5 fun e w' => e = .returned (.bool true) ∧ Below H w w') a w' → K a w')
    {sl4 sl5 sl6 sl7 sl10 sl11 sl12 sl13 sl14 sl15 sl16 sl17 sl18 sl19 sl20 sl24 sl28 sl29 sl30 sl31 sl32 sl33 sl34 sl35 sl36 sl37 sl38 sl39 sl40 sl41 sl42 sl43 sl44 sl45 sl46 sl47 sl48 sl49 sl50 sl51 sl52 sl53 sl54 sl55 sl56 sl57 sl58 sl59 sl60 sl61 sl62 sl63 sl64 sl65 sl66 sl67 sl68 sl69 sl70 sl71 sl72 sl73 sl74 sl75 sl76 sl77 sl78 sl79 sl80 sl81 sl82 sl83 sl84 sl85 sl86 sl87 sl88 sl89 sl90 sl91 sl92 sl93 sl94 sl95 sl96 sl97 sl98 sl99 sl100 sl101 sl102 sl103 sl104 sl105 sl106 sl107 sl108 sl109 sl110 sl111 sl112 sl113 sl114 sl115 sl116 sl117 sl118 sl119 sl120 sl121 sl122 sl123 sl124 sl125 sl126 sl127 sl128 sl129 sl130 sl131 sl132 sl133 sl134 sl135 sl136 sl137 sl138 sl139 sl140 sl141 sl142 sl143 sl144 sl145 sl146 sl147 sl148 sl149 sl150 sl151 sl152 sl153 sl154 sl155 sl156 sl157 sl158 sl159 sl160 sl161 sl162 sl163 sl164 sl165 sl166 sl167 sl168 sl169 sl170 sl171 sl172 sl173 sl174 sl175 sl176 sl177 sl178 sl179 sl180 sl181 sl182 sl183 sl184 sl185 sl186 sl187 sl188 sl189 sl190 sl191 sl192 sl193 sl194 sl195 sl196 sl197 sl198 sl199 sl200 sl201 sl202 sl203 sl204 sl205 sl206 sl207 sl208 sl209 sl210 sl211 sl212 sl213 sl214 sl215 sl216 sl217 sl218 sl219 sl220 sl221 sl222 sl223 sl224 sl225 sl226 sl227 sl228 sl229 sl230 sl231 sl232 sl233 sl234 sl235 sl236 sl237 sl238 sl239 sl240 sl241 sl242 sl243 sl244 sl245 sl246 sl247 sl248 sl249 sl250 sl251 sl252 sl253 sl254 sl255 sl256 sl257 sl258 sl259 sl260 sl261 sl262 sl263 sl264 sl265 sl266 sl267 sl268 sl269 sl270 sl271 sl272 sl273 sl274 sl275 sl276 sl277 sl278 sl279 sl280 sl281 sl282 sl283 sl284 sl285 sl286 sl287 sl288 sl289 sl290 sl291 sl292 sl293 sl294 sl295 sl296 sl297 sl298 sl299 sl300 sl301 sl302 sl303 sl304 sl305 sl306 sl307 sl308 sl309 sl310 sl311 sl312 sl313 sl314 sl315 sl316 sl317 sl318 sl319 sl320 : Value} :
    Code.wp Yba.prog x (Exit.then K (bodyPost Yba.prog Yba.f5 fun e w' => e = .returned (.bool true) ∧ Below H w w')) ⟨#[.int .i8 id, .int .u64 base, .int .i64 index, .int .i64 qu, sl4, sl5, sl6, sl7, .bool b8, .bool b9, sl10, sl11, sl12, sl13, sl14, sl15, sl16, sl17, sl18, sl19, sl20, .slice mo ms.length mc, .slice lo ls.length lc, .pointer (some ⟨CI, 0, none⟩), sl24, .pointer (some ⟨V, 0, none⟩), .pointer (some ⟨A, 0, none⟩), .pointer (some ⟨B, 0, none⟩), sl28, sl29, sl30, sl31, sl32, sl33, sl34, sl35, sl36, sl37, sl38, sl39, sl40, sl41, sl42, sl43, sl44, sl45, sl46, sl47, sl48, sl49, sl50, sl51, sl52, sl53, sl54, sl55, sl56, sl57, sl58, sl59, sl60, sl61, sl62, sl63, sl64, sl65, sl66, sl67, sl68, sl69, sl70, sl71, sl72, sl73, sl74, sl75, sl76, sl77, sl78, sl79, sl80, sl81, sl82, sl83, sl84, sl85, sl86, sl87, sl88, sl89, sl90, sl91, sl92, sl93, sl94, sl95, sl96, sl97, sl98, sl99, sl100, sl101, sl102, sl103, sl104, sl105, sl106, sl107, sl108, sl109, sl110, sl111, sl112, sl113, sl114, sl115, sl116, sl117, sl118, sl119, sl120, sl121, sl122, sl123, sl124, sl125, sl126, sl127, sl128, sl129, sl130, sl131, sl132, sl133, sl134, sl135, sl136, sl137, sl138, sl139, sl140, sl141, sl142, sl143, sl144, sl145, sl146, sl147, sl148, sl149, sl150, sl151, sl152, sl153, sl154, sl155, sl156, sl157, sl158, sl159, sl160, sl161, sl162, sl163, sl164, sl165, sl166, sl167, sl168, sl169, sl170, sl171, sl172, sl173, sl174, sl175, sl176, sl177, sl178, sl179, sl180, sl181, sl182, sl183, sl184, sl185, sl186, sl187, sl188, sl189, sl190, sl191, sl192, sl193, sl194, sl195, sl196, sl197, sl198, sl199, sl200, sl201, sl202, sl203, sl204, sl205, sl206, sl207, sl208, sl209, sl210, sl211, sl212, sl213, sl214, sl215, sl216, sl217, sl218, sl219, sl220, sl221, sl222, sl223, sl224, sl225, sl226, sl227, sl228, sl229, sl230, sl231, sl232, sl233, sl234, sl235, sl236, sl237, sl238, sl239, sl240, sl241, sl242, sl243, sl244, sl245, sl246, sl247, sl248, sl249, sl250, sl251, sl252, sl253, sl254, sl255, sl256, sl257, sl258, sl259, sl260, sl261, sl262, sl263, sl264, sl265, sl266, sl267, sl268, sl269, sl270, sl271, sl272, sl273, sl274, sl275, sl276, sl277, sl278, sl279, sl280, sl281, sl282, sl283, sl284, sl285, sl286, sl287, sl288, sl289, sl290, sl291, sl292, sl293, sl294, sl295, sl296, sl297, sl298, sl299, sl300, sl301, sl302, sl303, sl304, sl305, sl306, sl307, sl308, sl309, sl310, sl311, sl312, sl313, sl314, sl315, sl316, sl317, sl318, sl319, sl320], []⟩ u := by
  unfold IsAt at hxy
  conv at hxy => lhs; whnf
  obtain ⟨rfl, rfl⟩ := Prod.mk.inj (Option.some.inj hxy)
  clear hxy
  have HA : Hid (Blk u CI #[.int .i64 id, .int .u64 base] 141 ∧ Blk u V (vwCells id base 1 id (.slice mo ms.length mc) (.slice lo ls.length lc)) 148 ∧ Blk u A ca 148 ∧ Blk u B cb 148) := ⟨kI, kV, kA, kB⟩
  have HC : Hid ((ca[0]? = some (.int .i64 id) ∧ ca[1]? = some (.int .u64 a2)) ∧ (cb[0]? = some (.int .i64 id) ∧ cb[1]? = some (.int .u64 b2)) ∧ (a2 == base) = b8 ∧ (b2 == base) = b9) := ⟨ha, hb2, ea, eb⟩
  have HM : Hid (MRow u mo ms ∧ MRow u lo ls ∧ Inc ms ∧ Inc ls) := ⟨hm, hl, hI, hJ⟩
  have HLL : Hid (ms.length ≤ 1024 ∧ ls.length ≤ 1024 ∧ ms.length ≤ mc ∧ mc ≤ maxLen) := ⟨hlm, hll, hmc, hmc2⟩
  have HMN : Hid ((∀ g o, mo = some (⟨g, o, none⟩ : Addr) → g < u.heap.size) ∧ (∀ g o, lo = some (⟨g, o, none⟩ : Addr) → g < u.heap.size)) := ⟨hmn, hln⟩
  have HB : Hid (Below H w u ∧ H ≤ u.heap.size) := ⟨hb, hH⟩
  have HID : Hid (-128 ≤ id ∧ id ≤ 127) := hid
  have HSQ : Hid (IntKind.u64.wrap (base + 1) = sq') := hsq
  obtain ⟨hid0, hid1⟩ := hid
  clear kI kV kA kB ha hb2 ea eb hm hl hI hJ hlm hll hmc hmc2 hmn hln hH hb hsq
  go_upto_region 15 with fail
  obtain ⟨C, hC⟩ : ∃ C, C = u.heap.size := ⟨_, rfl⟩
  obtain ⟨v, hv⟩ : ∃ v, v = u.alloc (.cells #[.int .i64 0] 3) := ⟨_, rfl⟩
  rw [← hv, ← hC]
  have kC : Blk v C #[.int .i64 0] 3 := by rw [hv, hC]; exact Blk.new _ _ _
  have hbv : Below u.heap.size u v := by rw [hv]; exact (Below.refl _ _).alloc (Nat.le_refl _) _
  obtain ⟨S, hS⟩ : ∃ S, S = v.heap.size := ⟨_, rfl⟩
  obtain ⟨x, hx⟩ : ∃ x, x = v.alloc (.cells (stCells id id base qu (fnC C) (.pointer (some ⟨V, 0, none⟩)) (.pointer (some ⟨A, 0, none⟩)) (.pointer (some ⟨B, 0, none⟩))) 135) := ⟨_, rfl⟩
  have kS : Blk x S (stCells id id base qu (fnC C) (.pointer (some ⟨V, 0, none⟩)) (.pointer (some ⟨A, 0, none⟩)) (.pointer (some ⟨B, 0, none⟩))) 135 := by rw [hx, hS]; exact Blk.new _ _ _
  have hbx0 : Below v.heap.size v x := by rw [hx]; exact (Below.refl _ _).alloc (Nat.le_refl _) _
  have hbx : Below u.heap.size u x := hbv.trans (hbx0.mono hbv.size)
  have hCS : C < S := by rw [hS]; exact kC.lt
  have hlt : ∀ g, g < u.heap.size → g ≠ S ∧ g ≠ C := fun g hg => by omega
  have jI := HA.out.1.below hbx HA.out.1.lt
  have jV := HA.out.2.1.below hbx HA.out.2.1.lt
  have jA := HA.out.2.2.1.below hbx HA.out.2.2.1.lt
  have jB := HA.out.2.2.2.below hbx HA.out.2.2.2.lt
  have nI := hlt CI HA.out.1.lt
  have nV := hlt V HA.out.2.1.lt
  have nA := hlt A HA.out.2.2.1.lt
  have nB := hlt B HA.out.2.2.2.lt
  have HSI : Hid (Calls Yba.prog 8 #[.pointer (some ⟨S, 0, none⟩), .int .i64 index] x fun e w' => SetPost S V A B C id index sq' qu id base 1 id a2 b2 (.slice lo ls.length lc) (kept ls (put1 ⟨id, index, sq'⟩ ms)) ms x e w') :=
    setIndex_any S V A B C id id index base sq' qu id base 1 id a2 b2 mo lo mc lc ms ls ca cb x HSQ.out kS (kC.below hbx0 kC.lt) jV jA jB HC.out.1 HC.out.2.1 (HM.out.1.same_below hbx) (HM.out.2.1.same_below hbx) HM.out.2.2.2 HLL.out.1 HLL.out.2.1 HLL.out.2.2.1 HLL.out.2.2.2 ⟨nV.1, nV.2, nA.1, nA.2, nB.1, nB.2, by omega⟩ (fun b o e => hlt b (HMN.out.1 b o e)) (fun b o e => hlt b (HMN.out.2 b o e))
  have HJ : Hid (Blk x CI #[.int .i64 id, .int .u64 base] 141 ∧ Blk x V (vwCells id base 1 id (.slice mo ms.length mc) (.slice lo ls.length lc)) 148 ∧ CI ≠ S ∧ CI ≠ C ∧ V ≠ S ∧ V ≠ C) := ⟨jI, jV, nI.1, nI.2, nV.1, nV.2⟩
  have HX : Hid (x = v.alloc (.cells (stCells id id base qu (fnC C) (.pointer (some ⟨V, 0, none⟩)) (.pointer (some ⟨A, 0, none⟩)) (.pointer (some ⟨B, 0, none⟩))) 135)) := hx
  have HS : Hid (S = v.heap.size) := hS
  have HBX : Hid (Below u.heap.size u x) := hbx
  have HLT : Hid (∀ g, g < u.heap.size → g ≠ S ∧ g ≠ C) := hlt
  clear hv hC hS hx kC hbv kS hbx0 hbx hCS hlt jI jV jA jB nI nV nA nB
  go_upto_region 16 with (first | (with_reducible refine wpList_build_at 116 _ _ _ ?hv1 (built116 (Fn.func 10) #[] #[.pointer (some ⟨C, 0, none⟩)]) ?_; rotate_left; case hv1 => simp [Act.eval]) | (with_reducible refine wpList_build_at 135 _ _ _ ?hv2 (built135m id base qu V A B (.func (Fn.func 10) #[] #[.pointer (some ⟨C, 0, none⟩)])) ?_; rotate_left; case hv2 => simp [Act.eval, Act.put]))
  have hxx := HX.out
  unfold fnC at hxx
  rw [← hxx, ← HS.out]
  clear hxx HX
  go_upto_region 17 with (go_at_call 8; refine HSI.out.mono ?_; intro e w' hp; obtain ⟨rfl, hF, hE⟩ := fin_of_set hp HC.out.2.2.1 HC.out.2.2.2 HJ.out.1 HJ.out.2.1 HJ.out.2.2; have HF : Hid (Fin S V A B C CI id index sq' qu id base 1 id b8 b9 (.slice mo ms.length mc) lo lc ls (kept ls (put1 ⟨id, index, sq'⟩ ms)) ms w') := hF; have HE : Hid (Else S C x w') := hE; clear hp hF hE)
  have hbw : Below H w w' := by
    have hb1 := HB.out.1.trans (HBX.out.mono HB.out.2)
    have hs1 := HBX.out.size
    exact ⟨HE.out.os.trans hb1.os, HE.out.tape.trans hb1.tape, HE.out.output.trans hb1.output, Nat.le_trans hb1.size HE.out.size, fun k hk => (HE.out.block k (by have := HB.out.2; omega) (HLT.out k (by have := HB.out.2; omega)).1 (HLT.out k (by have := HB.out.2; omega)).2).trans (hb1.block k hk)⟩
  exact law_w (by unfold IsAt; kernel_rfl) HSQ.out HID.out HF.out ((HM.out.1.same_below HBX.out).else HE.out (fun b o e => HLT.out b (HMN.out.1 b o e))) ((HM.out.2.1.same_below HBX.out).else HE.out (fun b o e => HLT.out b (HMN.out.2 b o e))) HM.out.2.2.1 HLL.out.1 HLL.out.2.1 (Nat.le_trans HB.out.2 (Nat.le_trans HBX.out.size HE.out.size)) hbw (by assumption)
end Go.Proofs.Ybulkause
