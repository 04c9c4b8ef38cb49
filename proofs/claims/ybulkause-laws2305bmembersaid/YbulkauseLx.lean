/-
  The law's second loop: what is kept.
-/
import Derived.Test.YbulkauseLz
namespace Go.Proofs.Ybulkause
open Go.RowKit Go.Deep

/-- what the state holds at the end -/
def Fin (S V A B C CI : Nat) (id index sq' qu i1 i2 ep au : Int) (b8 b9 : Bool) (mv0 : Value) (lo : Option Addr) (lc : Nat) (ls ex ms : List Mb) (u : World) : Prop :=
  (sameB ex ms = true ∧ Blk u S (stCells id index sq' qu (fnC C) (.pointer (some ⟨V, 0, none⟩)) (.pointer (some ⟨A, 0, none⟩)) (.pointer (some ⟨B, 0, none⟩))) 135 ∧ Blk u C #[.int .i64 0] 3) ∨
  (sameB ex ms = false ∧ ∃ (N : Nat) (no : Option Addr) (nc : Nat), N ≠ V ∧ Blk u S (stCells id index sq' 0 (fnC C) (.pointer (some ⟨N, 0, none⟩)) (.pointer (some ⟨if b8 then N else A, 0, none⟩)) (.pointer (some ⟨if b9 then N else B, 0, none⟩))) 135 ∧ Blk u C #[.int .i64 1] 3 ∧ Blk u CI #[.int .i64 i1, .int .u64 i2] 141 ∧ Blk u V (vwCells i1 i2 ep au mv0 (.slice lo ls.length lc)) 148 ∧ Blk u N (vwCells i1 i2 ep au (.slice no ex.length nc) (.slice lo ls.length lc)) 148 ∧ MRow u no ex)
theorem Fin.below {S V A B C CI : Nat} {id index sq' qu i1 i2 ep au : Int} {b8 b9 : Bool} {mv0 : Value} {lo : Option Addr} {lc : Nat} {ls ex ms : List Mb} {u u' : World} (h : Fin S V A B C CI id index sq' qu i1 i2 ep au b8 b9 mv0 lo lc ls ex ms u) (hb : Below u.heap.size u u') : Fin S V A B C CI id index sq' qu i1 i2 ep au b8 b9 mv0 lo lc ls ex ms u' := by
  obtain ⟨hs, h1, h2⟩ | ⟨hs, N, no, nc, hne, h1, h2, h3, h4, h5, h6⟩ := h
  · exact .inl ⟨hs, h1.below hb h1.lt, h2.below hb h2.lt⟩
  · exact .inr ⟨hs, N, no, nc, hne, h1.below hb h1.lt, h2.below hb h2.lt, h3.below hb h3.lt, h4.below hb h4.lt, h5.below hb h5.lt, h6.same_below hb⟩

def XRel (ls pl : List Mb) (u : World) (gk : Nat) (v t : Value) (wx : World) : Prop :=
  ∃ k : Nat, k + gk = pl.length ∧ t = .int .i64 k ∧ wx.ownsRow u.heap.size 106 3 v (kept ls (pl.take k)).length (mcells (kept ls (pl.take k))) ∧ Below u.heap.size u wx

set_option maxHeartbeats 1600000 in
set_option maxRecDepth 100000 in
theorem law_x {x y : Code} (hxy : IsAt 35 x y) {H : Nat} {base index qu id sq' i1 i2 ep au : Int} {b8 b9 : Bool} {mo lo go : Option Addr} {mc lc gc : Nat} {ms ls pl : List Mb} {CI V A B C S : Nat} {w u : World} {mv0 : Value} (hsq : IntKind.u64.wrap (base + 1) = sq')
    (hF : Fin S V A B C CI id index sq' qu i1 i2 ep au b8 b9 mv0 lo lc ls (kept ls pl) ms u) (hm : MRow u mo ms) (hl : MRow u lo ls) (hp : MRow u go pl) (hlm : ms.length ≤ 1024) (hll : ls.length ≤ 1024) (hlp : pl.length ≤ 1025) (hH : H ≤ u.heap.size) (hb : Below H w u) {K : Act → World → Prop} (hk : ∀ a w', Code.wp Yba.prog y (bodyPost Yba.prog Yba.f5 fun e w' => e = .returned (.bool true) ∧ Below H w w') a w' → K a w')
    {sl0 sl4 sl5 sl6 sl7 sl10 sl11 sl12 sl13 sl14 sl15 sl16 sl17 sl18 sl19 sl20 sl24 sl30 sl32 sl33 sl34 sl35 sl36 sl37 sl38 sl39 sl40 sl41 sl42 sl43 sl44 sl45 sl46 sl47 sl48 sl49 sl50 sl51 sl52 sl53 sl54 sl55 sl56 sl57 sl58 sl59 sl60 sl61 sl62 sl63 sl64 sl65 sl66 sl67 sl68 sl69 sl70 sl71 sl72 sl73 sl74 sl75 sl76 sl77 sl78 sl79 sl80 sl81 sl82 sl83 sl84 sl85 sl86 sl87 sl88 sl89 sl90 sl91 sl92 sl93 sl94 sl95 sl96 sl97 sl98 sl99 sl100 sl101 sl102 sl103 sl104 sl105 sl106 sl107 sl108 sl109 sl110 sl111 sl112 sl113 sl114 sl115 sl116 sl117 sl118 sl119 sl120 sl121 sl122 sl123 sl124 sl125 sl126 sl127 sl128 sl129 sl130 sl131 sl132 sl133 sl134 sl135 sl136 sl137 sl138 sl139 sl140 sl141 sl142 sl143 sl144 sl145 sl146 sl147 sl148 sl149 sl150 sl151 sl152 sl153 sl154 sl155 sl156 sl157 sl158 sl159 sl160 sl161 sl162 sl163 sl164 sl165 sl166 sl167 sl168 sl169 sl170 sl171 sl172 sl173 sl174 sl175 sl176 sl177 sl178 sl179 sl180 sl181 sl182 sl183 sl184 sl185 sl186 sl187 sl188 sl189 sl190 sl191 sl192 sl193 sl194 sl195 sl196 sl197 sl198 sl199 sl200 sl201 sl202 sl203 sl204 sl205 sl206 sl207 sl208 sl209 sl210 sl211 sl212 sl213 sl214 sl215 sl216 sl217 sl218 sl219 sl220 sl221 sl222 sl223 sl224 sl225 sl226 sl227 sl228 sl229 sl230 sl231 sl232 sl233 sl234 sl235 sl236 sl237 sl238 sl239 sl240 sl241 sl242 sl243 sl244 sl245 sl246 sl247 sl248 sl249 sl250 sl251 sl252 sl253 sl254 sl255 sl256 sl257 sl258 sl259 sl260 sl261 sl262 sl263 sl264 sl265 sl266 sl267 sl268 sl269 sl270 sl271 sl272 sl273 sl274 sl275 sl276 sl277 sl278 sl279 sl280 sl281 sl282 sl283 sl284 sl285 sl286 sl287 sl288 sl289 sl290 sl291 sl292 sl293 sl294 sl295 sl296 sl297 sl298 sl299 sl300 sl301 sl302 sl303 sl304 sl305 sl306 sl307 sl308 sl309 sl310 sl311 sl312 sl313 sl314 sl315 sl316 sl317 sl318 sl319 sl320 : Value} :
    Code.wp Yba.prog x (Exit.then K (bodyPost Yba.prog Yba.f5 fun e w' => e = .returned (.bool true) ∧ Below H w w')) ⟨#[sl0, .int .u64 base, .int .i64 index, .int .i64 qu, sl4, sl5, sl6, sl7, .bool b8, .bool b9, sl10, sl11, sl12, sl13, sl14, sl15, sl16, sl17, sl18, sl19, sl20, .slice mo ms.length mc, .slice lo ls.length lc, .pointer (some ⟨CI, 0, none⟩), sl24, .pointer (some ⟨V, 0, none⟩), .pointer (some ⟨A, 0, none⟩), .pointer (some ⟨B, 0, none⟩), .pointer (some ⟨C, 0, none⟩), .pointer (some ⟨S, 0, none⟩), sl30, .slice go pl.length gc, sl32, sl33, sl34, sl35, sl36, sl37, sl38, sl39, sl40, sl41, sl42, sl43, sl44, sl45, sl46, sl47, sl48, sl49, sl50, sl51, sl52, sl53, sl54, sl55, sl56, sl57, sl58, sl59, sl60, sl61, sl62, sl63, sl64, sl65, sl66, sl67, sl68, sl69, sl70, sl71, sl72, sl73, sl74, sl75, sl76, sl77, sl78, sl79, sl80, sl81, sl82, sl83, sl84, sl85, sl86, sl87, sl88, sl89, sl90, sl91, sl92, sl93, sl94, sl95, sl96, sl97, sl98, sl99, sl100, sl101, sl102, sl103, sl104, sl105, sl106, sl107, sl108, sl109, sl110, sl111, sl112, sl113, sl114, sl115, sl116, sl117, sl118, sl119, sl120, sl121, sl122, sl123, sl124, sl125, sl126, sl127, sl128, sl129, sl130, sl131, sl132, sl133, sl134, sl135, sl136, sl137, sl138, sl139, sl140, sl141, sl142, sl143, sl144, sl145, sl146, sl147, sl148, sl149, sl150, sl151, sl152, sl153, sl154, sl155, sl156, sl157, sl158, sl159, sl160, sl161, sl162, sl163, sl164, sl165, sl166, sl167, sl168, sl169, sl170, sl171, sl172, sl173, sl174, sl175, sl176, sl177, sl178, sl179, sl180, sl181, sl182, sl183, sl184, sl185, sl186, sl187, sl188, sl189, sl190, sl191, sl192, sl193, sl194, sl195, sl196, sl197, sl198, sl199, sl200, sl201, sl202, sl203, sl204, sl205, sl206, sl207, sl208, sl209, sl210, sl211, sl212, sl213, sl214, sl215, sl216, sl217, sl218, sl219, sl220, sl221, sl222, sl223, sl224, sl225, sl226, sl227, sl228, sl229, sl230, sl231, sl232, sl233, sl234, sl235, sl236, sl237, sl238, sl239, sl240, sl241, sl242, sl243, sl244, sl245, sl246, sl247, sl248, sl249, sl250, sl251, sl252, sl253, sl254, sl255, sl256, sl257, sl258, sl259, sl260, sl261, sl262, sl263, sl264, sl265, sl266, sl267, sl268, sl269, sl270, sl271, sl272, sl273, sl274, sl275, sl276, sl277, sl278, sl279, sl280, sl281, sl282, sl283, sl284, sl285, sl286, sl287, sl288, sl289, sl290, sl291, sl292, sl293, sl294, sl295, sl296, sl297, sl298, sl299, sl300, sl301, sl302, sl303, sl304, sl305, sl306, sl307, sl308, sl309, sl310, sl311, sl312, sl313, sl314, sl315, sl316, sl317, sl318, sl319, sl320], []⟩ u := by
  unfold IsAt at hxy
  conv at hxy => lhs; whnf
  obtain ⟨rfl, rfl⟩ := Prod.mk.inj (Option.some.inj hxy)
  clear hxy
  have HF : Hid (Fin S V A B C CI id index sq' qu i1 i2 ep au b8 b9 mv0 lo lc ls (kept ls pl) ms u) := hF
  have HM : Hid (MRow u mo ms ∧ MRow u lo ls ∧ MRow u go pl) := ⟨hm, hl, hp⟩
  have HB : Hid (Below H w u ∧ H ≤ u.heap.size) := ⟨hb, hH⟩
  have HLL : Hid (ms.length ≤ 1024 ∧ ls.length ≤ 1024 ∧ pl.length ≤ 1025) := ⟨hlm, hll, hlp⟩
  obtain ⟨n, hn⟩ : ∃ n, n = pl.length := ⟨_, rfl⟩
  rw [← hn] at hlp ⊢
  have HN : Hid (n = pl.length) := hn
  clear hF hm hl hp hlm hll hb hH hn
  go_wp2_with fail
  go_loopg [35, 155] n (fun gk v t wx => XRel ls pl u gk v t wx)
  case atStart => exact ⟨0, by have := HN.out; omega, rfl, ⟨by simp [mcells, kept], .inl ⟨rfl, by simp [kept]⟩⟩, Below.refl _ _⟩
  case round =>
    obtain ⟨k, hkg, rfl, hown, hbr⟩ := hrel
    have HO : Hid (wr.ownsRow u.heap.size 106 3 u35 (kept ls (pl.take k)).length (mcells (kept ls (pl.take k)))) := hown
    have HBR : Hid (Below u.heap.size u wr) := hbr
    have HKG : Hid (k + gk = pl.length) := hkg
    clear hown hbr hkg
    by_cases hk : k < n
    · have hk0 : (0 : Int) ≤ (k : Int) := by omega
      have hgk : 0 < gk := by have := HKG.out; have := HN.out; omega
      have hk1 : (k : Int) < (n : Int) := by omega
      obtain ⟨g, o, rfl, hg, hmm⟩ := HM.out.2.2 (by have := HN.out; omega)
      obtain ⟨m, hm⟩ : ∃ m, pl[k]? = some m := ⟨pl[k]'(by have := HN.out; omega), List.getElem?_eq_getElem _⟩
      have hma := (hmm k m hm).keep (fun o' => cell_below HBR.out hg o')
      have c0 := hma.1
      have c1 := hma.2.1
      have c2 := hma.2.2
      have hlg : g < wr.heap.size := by have := HBR.out.size; omega
      have HM2 : Hid (pl[k]? = some m) := hm
      clear hma hmm hm
      go_upto_region 39 with fail
      obtain ⟨D, hD⟩ : ∃ D, D = wr.heap.size := ⟨_, rfl⟩
      obtain ⟨x1, hx1⟩ : ∃ x1, x1 = wr.alloc (.cells #[.int .i64 m.id, .int .i64 m.idx, .int .u64 m.seq] 106) := ⟨_, rfl⟩
      rw [← hx1, ← hD]
      have kD : Blk x1 D #[.int .i64 m.id, .int .i64 m.idx, .int .u64 m.seq] 106 := by rw [hx1, hD]; exact Blk.new _ _ _
      have hb1 : Below D wr x1 := by rw [hx1, hD]; exact (Below.refl _ _).alloc (Nat.le_refl _) _
      have m0 : x1.cell? ⟨D, 0, none⟩ = some (.int .i64 m.id) := kD.cell 0
      have m1 : x1.cell? ⟨D, 1, none⟩ = some (.int .i64 m.idx) := kD.cell 1
      have m2 : x1.cell? ⟨D, 2, none⟩ = some (.int .u64 m.seq) := kD.cell 2
      have HD : Hid (D = wr.heap.size) := hD
      have HX : Hid (Below D wr x1 ∧ D < x1.heap.size) := ⟨hb1, kD.lt⟩
      have HRX : Hid (MRow x1 lo ls) := (HM.out.2.1.same_below HBR.out).same_below (by rw [← hD]; exact hb1)
      have HGN : Hid (Calls Yba.prog 11 #[.slice lo ls.length lc, .agg #[.int .i64 m.id, .int .i64 m.idx, .int .u64 m.seq]] x1 fun e w' => e = .returned (.bool (goneB ls m)) ∧ Below x1.heap.size x1 w') := gone_any lo lc ls m x1 (by have := HLL.out; omega) HRX.out
      clear hx1 hD kD hb1
      by_cases hgo : goneB ls m = true
      · have HGO : Hid (goneB ls m = true) := hgo
        go_wp2_with (go_at_call 11; refine HGN.out.mono ?_; rintro e w' ⟨rfl, hb2⟩)
        have HB2 : Hid (Below x1.heap.size x1 w') := hb2
        clear hb2
        go_roundg (gk - 1)
        case measure => omega
        case rel => exact ⟨k + 1, by have := HKG.out; omega, by go_num, by rw [kept_snoc_out HM2.out HGO.out]; exact owns_kept HO.out (fun g hg => (HB2.out.block g (by have := HX.out.2; have := HD.out; omega)).trans (HX.out.1.block g (by rw [HD.out]; exact hg))), (HBR.out.trans (HX.out.1.mono (by rw [HD.out]; exact HBR.out.size))).trans (HB2.out.mono (by have := HBR.out.size; have := HX.out.2; have := HD.out; omega))⟩
      · have hgo2 : goneB ls m = false := by simpa using hgo
        have HGO : Hid (goneB ls m = false) := hgo2
        clear hgo
        go_upto_region 40 with (go_at_call 11; refine HGN.out.mono ?_; rintro e w' ⟨rfl, hb2⟩)
        have d0 : w'.cell? ⟨D, 0, none⟩ = some (.int .i64 m.id) := (cell_below hb2 HX.out.2 _).trans m0
        have d1 : w'.cell? ⟨D, 1, none⟩ = some (.int .i64 m.idx) := (cell_below hb2 HX.out.2 _).trans m1
        have d2 : w'.cell? ⟨D, 2, none⟩ = some (.int .u64 m.seq) := (cell_below hb2 HX.out.2 _).trans m2
        have hDw : D < w'.heap.size := by have := hb2.size; have := HX.out.2; omega
        have HO2 : Hid (w'.ownsRow u.heap.size 106 3 u35 (kept ls (pl.take k)).length (mcells (kept ls (pl.take k)))) := owns_kept HO.out (fun g hg => (hb2.block g (by have := HX.out.2; have := HD.out; omega)).trans (HX.out.1.block g (by rw [HD.out]; exact hg)))
        have HBW : Hid (Below u.heap.size u w') := (HBR.out.trans (HX.out.1.mono (by rw [HD.out]; exact HBR.out.size))).trans (hb2.mono (by have := HBR.out.size; have := HX.out.2; have := HD.out; omega))
        have HLK : Hid ((kept ls (pl.take k)).length ≤ 1025) := (by
          have h1 := kept_len ls (pl.take k)
          have h2 : (pl.take k).length ≤ pl.length := by simp; omega
          have := HLL.out
          show _ ≤ _
          omega)
        obtain ⟨ti, z, hi, hz, hs3, hb24, hz3⟩ := info106'
        have HI6 : Hid (Yba.prog.info? 106 = some ti ∧ ti.zero = some z ∧ ti.size = 3 ∧ ti.bytes = 24 ∧ z.cells.size = 3) := ⟨hi, hz, hs3, hb24, hz3⟩
        clear hi hz hs3 hb24 hz3 hb2 m0 m1 m2 c0 c1 c2 hk0 hk1
        go_wp2_with (at_builtin; refine wpList_append_lies _ rfl _ _ _ rfl u.heap.size 106 ti z 3 24 Yba.underlying120 HI6.out.1 HI6.out.2.1 HI6.out.2.2.1 HI6.out.2.2.2.1 HI6.out.2.2.2.2 (by omega) u35 (kept ls (pl.take k)).length (mcells (kept ls (pl.take k))) rfl (owns_kept HO2.out (fun g hg => by exact Below.heap_alloc _ _ _ hg)) ⟨w'.heap.size, 0, none⟩ 1 1 [.int .i64 m.id, .int .i64 m.idx, .int .u64 m.seq] rfl rfl (by exact news3 _ _ rfl _ _ _) (by simp; exact ⟨rfl, rfl, rfl⟩) (by omega) (by have := HLK.out; unfold maxLen; omega) (by have := HLK.out; omega) (Nat.le_trans HBW.out.size (by simp)) _ rfl ?_)
        intro g2 cap2 w2 own2 grow2 hat2 hlt2
        go_wp2_with fail
        go_roundg (gk - 1)
        case measure => omega
        case rel => exact ⟨k + 1, by have := HKG.out; omega, by go_num, by rw [kept_snoc_in HM2.out HGO.out, mcells_snoc, List.length_append]; exact own2, below_app' (ob := .cells #[.int .i64 m.id, .int .i64 m.idx, .int .u64 m.seq] 106) HBW.out HBW.out.size (by rfl) (by rfl) (by rfl) (by rfl) grow2 HO2.out⟩
    · obtain rfl : k = n := by have := HKG.out; have := HN.out; omega
      have et : pl.take k = pl := by rw [HN.out, List.take_length]
      have HOW : Hid (wr.ownsRow u.heap.size 106 3 u35 (kept ls pl).length (mcells (kept ls pl))) := (by have := HO.out; rw [et] at this; exact this)
      obtain ⟨eo, ec, rfl, -, -, hrow, -⟩ := mrow_of_owns HOW.out
      have HROW : Hid (MRow wr eo (kept ls pl)) := hrow
      have HBE : Hid (Below H w wr) := HB.out.1.trans (HBR.out.mono HB.out.2)
      have HLE : Hid ((kept ls pl).length ≤ 2000) := (by have h1 := kept_len ls pl; have := HLL.out; show _ ≤ _; omega)
      clear et hrow
      go_upto_region 42 with fail
      obtain ⟨hs, h1, h2⟩ | ⟨hs, N, no, nc, hne, h1, h2, h3, h4, h5, h6⟩ := HF.out.below HBR.out
      · exact law_same (by unfold IsIf; kernel_rfl) hsq h1 h2 (HM.out.1.same_below HBR.out) HROW.out hs (by have := HLL.out; omega) HLE.out HBE.out (by assumption) (by assumption)
      · exact law_other (by unfold IsIf; kernel_rfl) hsq h1 h2 h3 h4 h5 hne (HM.out.1.same_below HBR.out) (HM.out.2.1.same_below HBR.out) HROW.out h6 hs (by have := HLL.out; omega) (by have := HLL.out; omega) HLE.out HBE.out (by assumption) (by assumption)
end Go.Proofs.Ybulkause
