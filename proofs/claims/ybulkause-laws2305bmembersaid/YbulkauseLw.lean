/-
  The law's first loop: the merged list.
-/
import Derived.Test.YbulkauseLx
namespace Go.Proofs.Ybulkause
open Go.RowKit Go.Deep

def WRel (ms : List Mb) (s : Mb) (v : World) (gk : Nat) (u31 u32 t : Value) (wx : World) : Prop :=
  ∃ (k : Nat) (b : Bool) (out : List Mb), k + gk = ms.length ∧ t = .int .i64 k ∧ u32 = .bool b ∧ wx.ownsRow v.heap.size 106 3 u31 out.length (mcells out) ∧ out.length ≤ k + b.toNat ∧ out ++ left1 s b (ms.drop k) = put1 s ms ∧ (b = true → ∀ (j : Nat) (m : Mb), k ≤ j → ms[j]? = some m → s.id < m.id) ∧ Below v.heap.size v wx
theorem above_of {ms : List Mb} {s m : Mb} {k : Nat} (hI : Inc ms) (hm : ms[k]? = some m) (h : s.id ≤ m.id) : ∀ (j : Nat) (x : Mb), k + 1 ≤ j → ms[j]? = some x → s.id < x.id := fun j x hj hx => by
  have := hI k j m x (by omega) hm hx
  omega

set_option linter.unusedSimpArgs false in
set_option maxHeartbeats 1600000 in
set_option maxRecDepth 100000 in
theorem law_w {x y : Code} (hxy : IsAt 17 x y) {H : Nat} {base index qu id sq' i1 i2 ep au : Int} {b8 b9 : Bool} {mo lo : Option Addr} {mc lc : Nat} {ms ls : List Mb} {CI V A B C S : Nat} {w u : World} {mv0 : Value} (hsq : IntKind.u64.wrap (base + 1) = sq') (hid : -128 ≤ id ∧ id ≤ 127)
    (hF : Fin S V A B C CI id index sq' qu i1 i2 ep au b8 b9 mv0 lo lc ls (kept ls (put1 ⟨id, index, sq'⟩ ms)) ms u) (hm : MRow u mo ms) (hl : MRow u lo ls) (hI : Inc ms) (hlm : ms.length ≤ 1024) (hll : ls.length ≤ 1024) (hH : H ≤ u.heap.size) (hb : Below H w u) {K : Act → World → Prop} (hk : ∀ a w', Code.wp Yba.prog y (bodyPost Yba.prog Yba.f5 fun e w' => e = .returned (.bool true) ∧ Below H w w') a w' → K a w')
    {sl4 sl5 sl6 sl7 sl10 sl11 sl12 sl13 sl14 sl15 sl16 sl17 sl18 sl19 sl20 sl24 sl30 sl31 sl32 sl33 sl34 sl35 sl36 sl37 sl38 sl39 sl40 sl41 sl42 sl43 sl44 sl45 sl46 sl47 sl48 sl49 sl50 sl51 sl52 sl53 sl54 sl55 sl56 sl57 sl58 sl59 sl60 sl61 sl62 sl63 sl64 sl65 sl66 sl67 sl68 sl69 sl70 sl71 sl72 sl73 sl74 sl75 sl76 sl77 sl78 sl79 sl80 sl81 sl82 sl83 sl84 sl85 sl86 sl87 sl88 sl89 sl90 sl91 sl92 sl93 sl94 sl95 sl96 sl97 sl98 sl99 sl100 sl101 sl102 sl103 sl104 sl105 sl106 sl107 sl108 sl109 sl110 sl111 sl112 sl113 sl114 sl115 sl116 sl117 sl118 sl119 sl120 sl121 sl122 sl123 sl124 sl125 sl126 sl127 sl128 sl129 sl130 sl131 sl132 sl133 sl134 sl135 sl136 sl137 sl138 sl139 sl140 sl141 sl142 sl143 sl144 sl145 sl146 sl147 sl148 sl149 sl150 sl151 sl152 sl153 sl154 sl155 sl156 sl157 sl158 sl159 sl160 sl161 sl162 sl163 sl164 sl165 sl166 sl167 sl168 sl169 sl170 sl171 sl172 sl173 sl174 sl175 sl176 sl177 sl178 sl179 sl180 sl181 sl182 sl183 sl184 sl185 sl186 sl187 sl188 sl189 sl190 sl191 sl192 sl193 sl194 sl195 sl196 sl197 sl198 sl199 sl200 sl201 sl202 sl203 sl204 sl205 sl206 sl207 sl208 sl209 sl210 sl211 sl212 sl213 sl214 sl215 sl216 sl217 sl218 sl219 sl220 sl221 sl222 sl223 sl224 sl225 sl226 sl227 sl228 sl229 sl230 sl231 sl232 sl233 sl234 sl235 sl236 sl237 sl238 sl239 sl240 sl241 sl242 sl243 sl244 sl245 sl246 sl247 sl248 sl249 sl250 sl251 sl252 sl253 sl254 sl255 sl256 sl257 sl258 sl259 sl260 sl261 sl262 sl263 sl264 sl265 sl266 sl267 sl268 sl269 sl270 sl271 sl272 sl273 sl274 sl275 sl276 sl277 sl278 sl279 sl280 sl281 sl282 sl283 sl284 sl285 sl286 sl287 sl288 sl289 sl290 sl291 sl292 sl293 sl294 sl295 sl296 sl297 sl298 sl299 sl300 sl301 sl302 sl303 sl304 sl305 sl306 sl307 sl308 sl309 sl310 sl311 sl312 sl313 sl314 sl315 sl316 sl317 sl318 sl319 sl320 : Value} :
    Code.wp Yba.prog x (Exit.then K (bodyPost Yba.prog Yba.f5 fun e w' => e = .returned (.bool true) ∧ Below H w w')) ⟨#[.int .i8 id, .int .u64 base, .int .i64 index, .int .i64 qu, sl4, sl5, sl6, sl7, .bool b8, .bool b9, sl10, sl11, sl12, sl13, sl14, sl15, sl16, sl17, sl18, sl19, sl20, .slice mo ms.length mc, .slice lo ls.length lc, .pointer (some ⟨CI, 0, none⟩), sl24, .pointer (some ⟨V, 0, none⟩), .pointer (some ⟨A, 0, none⟩), .pointer (some ⟨B, 0, none⟩), .pointer (some ⟨C, 0, none⟩), .pointer (some ⟨S, 0, none⟩), sl30, sl31, sl32, sl33, sl34, sl35, sl36, sl37, sl38, sl39, sl40, sl41, sl42, sl43, sl44, sl45, sl46, sl47, sl48, sl49, sl50, sl51, sl52, sl53, sl54, sl55, sl56, sl57, sl58, sl59, sl60, sl61, sl62, sl63, sl64, sl65, sl66, sl67, sl68, sl69, sl70, sl71, sl72, sl73, sl74, sl75, sl76, sl77, sl78, sl79, sl80, sl81, sl82, sl83, sl84, sl85, sl86, sl87, sl88, sl89, sl90, sl91, sl92, sl93, sl94, sl95, sl96, sl97, sl98, sl99, sl100, sl101, sl102, sl103, sl104, sl105, sl106, sl107, sl108, sl109, sl110, sl111, sl112, sl113, sl114, sl115, sl116, sl117, sl118, sl119, sl120, sl121, sl122, sl123, sl124, sl125, sl126, sl127, sl128, sl129, sl130, sl131, sl132, sl133, sl134, sl135, sl136, sl137, sl138, sl139, sl140, sl141, sl142, sl143, sl144, sl145, sl146, sl147, sl148, sl149, sl150, sl151, sl152, sl153, sl154, sl155, sl156, sl157, sl158, sl159, sl160, sl161, sl162, sl163, sl164, sl165, sl166, sl167, sl168, sl169, sl170, sl171, sl172, sl173, sl174, sl175, sl176, sl177, sl178, sl179, sl180, sl181, sl182, sl183, sl184, sl185, sl186, sl187, sl188, sl189, sl190, sl191, sl192, sl193, sl194, sl195, sl196, sl197, sl198, sl199, sl200, sl201, sl202, sl203, sl204, sl205, sl206, sl207, sl208, sl209, sl210, sl211, sl212, sl213, sl214, sl215, sl216, sl217, sl218, sl219, sl220, sl221, sl222, sl223, sl224, sl225, sl226, sl227, sl228, sl229, sl230, sl231, sl232, sl233, sl234, sl235, sl236, sl237, sl238, sl239, sl240, sl241, sl242, sl243, sl244, sl245, sl246, sl247, sl248, sl249, sl250, sl251, sl252, sl253, sl254, sl255, sl256, sl257, sl258, sl259, sl260, sl261, sl262, sl263, sl264, sl265, sl266, sl267, sl268, sl269, sl270, sl271, sl272, sl273, sl274, sl275, sl276, sl277, sl278, sl279, sl280, sl281, sl282, sl283, sl284, sl285, sl286, sl287, sl288, sl289, sl290, sl291, sl292, sl293, sl294, sl295, sl296, sl297, sl298, sl299, sl300, sl301, sl302, sl303, sl304, sl305, sl306, sl307, sl308, sl309, sl310, sl311, sl312, sl313, sl314, sl315, sl316, sl317, sl318, sl319, sl320], []⟩ u := by
  unfold IsAt at hxy
  conv at hxy => lhs; whnf
  obtain ⟨rfl, rfl⟩ := Prod.mk.inj (Option.some.inj hxy)
  clear hxy
  have HF : Hid (Fin S V A B C CI id index sq' qu i1 i2 ep au b8 b9 mv0 lo lc ls (kept ls (put1 ⟨id, index, sq'⟩ ms)) ms u) := hF
  have HM : Hid (MRow u mo ms ∧ MRow u lo ls ∧ Inc ms) := ⟨hm, hl, hI⟩
  have HB : Hid (Below H w u ∧ H ≤ u.heap.size) := ⟨hb, hH⟩
  have HLL : Hid (ms.length ≤ 1024 ∧ ls.length ≤ 1024) := ⟨hlm, hll⟩
  have HSQ : Hid (IntKind.u64.wrap (base + 1) = sq') := hsq
  obtain ⟨n, hn⟩ : ∃ n, n = ms.length := ⟨_, rfl⟩
  rw [← hn] at hlm ⊢
  have HN : Hid (n = ms.length) := hn
  obtain ⟨hid0, hid1⟩ := hid
  clear hF hm hl hI hll hb hH hn
  go_upto_region 18 with fail
  obtain ⟨D1, hD1⟩ : ∃ D, D = u.heap.size := ⟨_, rfl⟩
  obtain ⟨v, hv⟩ : ∃ v, v = u.alloc (.cells #[.int .i64 id, .int .i64 index, .int .u64 sq'] 106) := ⟨_, rfl⟩
  rw [← hv, ← hD1]
  have kD1 : Blk v D1 #[.int .i64 id, .int .i64 index, .int .u64 sq'] 106 := by rw [hv, hD1]; exact Blk.new _ _ _
  have HBV : Hid (Below u.heap.size u v) := (by rw [hv]; exact (Below.refl _ _).alloc (Nat.le_refl _) _)
  have hDv : D1 < v.heap.size := kD1.lt
  have HKD : Hid (Blk v D1 #[.int .i64 id, .int .i64 index, .int .u64 sq'] 106) := kD1
  have HPL : Hid ((put1 ⟨id, index, sq'⟩ ms).length ≤ 1025) := (by have h1 := put1_len ⟨id, index, sq'⟩ ms; have := HLL.out; show _ ≤ _; omega)
  obtain ⟨s, hs⟩ : ∃ s : Mb, s = ⟨id, index, sq'⟩ := ⟨_, rfl⟩
  have es0 : s.id = id := by rw [hs]
  have es1 : s.idx = index := by rw [hs]
  have es2 : s.seq = sq' := by rw [hs]
  have HES : Hid (s = ⟨id, index, sq'⟩) := hs
  have HKS : Hid (Blk v D1 #[.int .i64 s.id, .int .i64 s.idx, .int .u64 s.seq] 106) := (by rw [es0, es1, es2]; exact kD1)
  clear hv hD1 kD1 hs es0 es1 es2 hsq hid0 hid1
  go_wp2_with fail
  go_loopg [31, 32, 107] n (fun gk a b t wx => WRel ms s v gk a b t wx)
  case atStart => exact ⟨0, false, [], by have := HN.out; omega, rfl, rfl, ⟨by simp [mcells], .inl ⟨rfl, by simp⟩⟩, by simp, by simp [left1], (fun h => by cases h), Below.refl _ _⟩
  case round =>
    obtain ⟨k, b, out, hkg, rfl, rfl, hown, hol, hrest, habove, hbr⟩ := hrel
    have HO : Hid (wr.ownsRow v.heap.size 106 3 u31 out.length (mcells out)) := hown
    have HBR : Hid (Below v.heap.size v wr) := hbr
    have HKG : Hid (k + gk = ms.length) := hkg
    have HOL : Hid (out.length ≤ k + b.toNat) := hol
    have HRS : Hid (out ++ left1 s b (ms.drop k) = put1 s ms) := hrest
    have HAB : Hid (b = true → ∀ (j : Nat) (m : Mb), k ≤ j → ms[j]? = some m → s.id < m.id) := habove
    have HMV : Hid (MRow wr mo ms) := (HM.out.1.same_below HBV.out).same_below HBR.out
    have JS : Hid (Blk wr D1 #[.int .i64 s.id, .int .i64 s.idx, .int .u64 s.seq] 106) := HKS.out.below HBR.out hDv
    have hDr : D1 < wr.heap.size := JS.out.lt
    clear hown hol hrest habove hbr hkg
    obtain ⟨ti, z, hi, hz, hs3, hb24, hz3⟩ := info106'
    have HI6 : Hid (Yba.prog.info? 106 = some ti ∧ ti.zero = some z ∧ ti.size = 3 ∧ ti.bytes = 24 ∧ z.cells.size = 3) := ⟨hi, hz, hs3, hb24, hz3⟩
    clear hi hz hs3 hb24 hz3
    have HLK : Hid (out.length ≤ 1026 ∧ k ≤ ms.length ∧ out.length ≤ k + 1) := (by have := HOL.out; have hb1 : b.toNat ≤ 1 := (by cases b <;> simp); have := HLL.out; have := HKG.out; show _ ∧ _ ∧ _; omega)
    by_cases hk : k < n
    · have hk0 : (0 : Int) ≤ (k : Int) := by omega
      have hgk : 0 < gk := by have := HKG.out; have := HN.out; omega
      have hk1 : (k : Int) < (n : Int) := by omega
      obtain ⟨g, o, rfl, hg, hmm⟩ := HMV.out (by have := HN.out; omega)
      obtain ⟨m, hm⟩ : ∃ m, ms[k]? = some m := ⟨ms[k]'(by have := HN.out; omega), List.getElem?_eq_getElem _⟩
      have hma := hmm k m hm
      have c0 := hma.1
      have c1 := hma.2.1
      have c2 := hma.2.2
      have HM2 : Hid (ms[k]? = some m) := hm
      clear hma hmm hm
      go_upto_region 23 with fail
      obtain ⟨D, hD⟩ : ∃ D, D = wr.heap.size := ⟨_, rfl⟩
      obtain ⟨x1, hx1⟩ : ∃ x1, x1 = wr.alloc (.cells #[.int .i64 m.id, .int .i64 m.idx, .int .u64 m.seq] 106) := ⟨_, rfl⟩
      rw [← hx1, ← hD]
      have kD : Blk x1 D #[.int .i64 m.id, .int .i64 m.idx, .int .u64 m.seq] 106 := by rw [hx1, hD]; exact Blk.new _ _ _
      have hb1 : Below D wr x1 := by rw [hx1, hD]; exact (Below.refl _ _).alloc (Nat.le_refl _) _
      have KS1 : Hid (Blk x1 D1 #[.int .i64 s.id, .int .i64 s.idx, .int .u64 s.seq] 106) := JS.out.below hb1 (by rw [hD]; exact hDr)
      have KD : Hid (Blk x1 D #[.int .i64 m.id, .int .i64 m.idx, .int .u64 m.seq] 106) := kD
      have m0 : x1.cell? ⟨D, 0, none⟩ = some (.int .i64 m.id) := kD.cell 0
      have m1 : x1.cell? ⟨D, 1, none⟩ = some (.int .i64 m.idx) := kD.cell 1
      have m2 : x1.cell? ⟨D, 2, none⟩ = some (.int .u64 m.seq) := kD.cell 2
      have s0 : x1.cell? ⟨D1, 0, none⟩ = some (.int .i64 s.id) := KS1.out.cell 0
      have s1 : x1.cell? ⟨D1, 1, none⟩ = some (.int .i64 s.idx) := KS1.out.cell 1
      have s2 : x1.cell? ⟨D1, 2, none⟩ = some (.int .u64 s.seq) := KS1.out.cell 2
      have hDx : D < x1.heap.size := kD.lt
      have hSx : D1 < x1.heap.size := KS1.out.lt
      have HBX : Hid (Below v.heap.size v x1) := HBR.out.trans (hb1.mono (by rw [hD]; exact HBR.out.size))
      have HOX : Hid (x1.ownsRow v.heap.size 106 3 u31 out.length (mcells out)) := owns_kept HO.out (fun g hg => hb1.block g (by rw [hD]; exact hg))
      have NED : Hid (u31.ownBlock ≠ some D ∧ u31.ownBlock ≠ some D1) := ⟨own_ne HO.out (.inl (by rw [hD]; exact Nat.le_refl _)), own_ne HO.out (.inr hDv)⟩
      clear hx1 hD kD hb1 c0 c1 c2 hk0 hk1
      cases b
      · by_cases h1 : s.id < m.id
        · have H1 : Hid (s.id < m.id) := h1
          have y1 : decide (s.id < m.id) = true := by simp [h1]
          have y2 : (m.id == s.id) = false := by simp; omega
          go_wp2_with (at_builtin; refine wpList_append_lies _ rfl _ _ _ rfl v.heap.size 106 ti z 3 24 Yba.underlying120 HI6.out.1 HI6.out.2.1 HI6.out.2.2.1 HI6.out.2.2.2.1 HI6.out.2.2.2.2 (by omega) u31 out.length (mcells out) rfl (owns_kept HOX.out (fun g hg => by exact Below.heap_alloc _ _ _ hg)) ⟨x1.heap.size, 0, none⟩ 1 1 [.int .i64 s.id, .int .i64 s.idx, .int .u64 s.seq] rfl rfl (by exact news3 _ _ rfl _ _ _) (by simp; exact ⟨rfl, rfl, rfl⟩) (by omega) (by have := HLK.out; unfold maxLen; omega) (by have := HLK.out; omega) (Nat.le_trans HBX.out.size (by simp)) _ rfl ?_)
          intro g2 cap2 w2 own2 grow2 hat2 hlt2
          have hDw : D < w2.heap.size := by have := grow2.size; simp at this; omega
          have e0 : w2.cell? ⟨D, 0, none⟩ = some (.int .i64 m.id) := (cell_app (ob := .cells #[.int .i64 s.id, .int .i64 s.idx, .int .u64 s.seq] 106) (by rfl) grow2 hDx NED.out.1 _).trans (KD.out.cell 0)
          have e1 : w2.cell? ⟨D, 1, none⟩ = some (.int .i64 m.idx) := (cell_app (ob := .cells #[.int .i64 s.id, .int .i64 s.idx, .int .u64 s.seq] 106) (by rfl) grow2 hDx NED.out.1 _).trans (KD.out.cell 1)
          have e2 : w2.cell? ⟨D, 2, none⟩ = some (.int .u64 m.seq) := (cell_app (ob := .cells #[.int .i64 s.id, .int .i64 s.idx, .int .u64 s.seq] 106) (by rfl) grow2 hDx NED.out.1 _).trans (KD.out.cell 2)
          have f0 : w2.cell? ⟨D1, 0, none⟩ = some (.int .i64 s.id) := (cell_app (ob := .cells #[.int .i64 s.id, .int .i64 s.idx, .int .u64 s.seq] 106) (by rfl) grow2 hSx NED.out.2 _).trans (KS1.out.cell 0)
          have OW2 : Hid (w2.ownsRow v.heap.size 106 3 (.slice (some ⟨g2, 0, none⟩) (out.length + 1) cap2) (out.length + 1) (mcells (out ++ [s]))) := (by rw [mcells_snoc]; exact own2)
          have BW2 : Hid (Below v.heap.size v w2) := below_app' (ob := .cells #[.int .i64 s.id, .int .i64 s.idx, .int .u64 s.seq] 106) HBX.out HBX.out.size (by rfl) (by rfl) (by rfl) (by rfl) grow2 HOX.out
          clear own2 grow2 hat2 hlt2 m0 m1 m2 s0 s1 s2
          go_wp2_with (at_builtin; refine wpList_append_lies _ rfl _ _ _ rfl v.heap.size 106 ti z 3 24 Yba.underlying120 HI6.out.1 HI6.out.2.1 HI6.out.2.2.1 HI6.out.2.2.2.1 HI6.out.2.2.2.2 (by omega) (.slice (some ⟨g2, 0, none⟩) (out.length + 1) cap2) (out.length + 1) (mcells (out ++ [s])) rfl (owns_kept OW2.out (fun g hg => by exact Below.heap_alloc _ _ _ hg)) ⟨w2.heap.size, 0, none⟩ 1 1 [.int .i64 m.id, .int .i64 m.idx, .int .u64 m.seq] rfl rfl (by exact news3 _ _ rfl _ _ _) (by simp; exact ⟨rfl, rfl, rfl⟩) (by omega) (by have := HLK.out; unfold maxLen; omega) (by have := HLK.out; omega) (Nat.le_trans BW2.out.size (by simp)) _ rfl ?_)
          intro g3 cap3 w3 own3 grow3 hat3 hlt3
          go_wp2_with fail
          go_roundg (gk - 1)
          case measure => omega
          case rel => exact ⟨k + 1, true, out ++ [s] ++ [m], by have := HKG.out; omega, by go_num, rfl, by rw [mcells_snoc, List.length_append, List.length_append]; exact own3, by have := HOL.out; simp at this ⊢; omega, by rw [← HRS.out, drop_cons HM2.out, show left1 s false (m :: ms.drop (k + 1)) = s :: m :: ms.drop (k + 1) from put1_gt H1.out]; simp [left1], fun _ => above_of HM.out.2.2 HM2.out (Int.le_of_lt H1.out), below_app' (ob := .cells #[.int .i64 m.id, .int .i64 m.idx, .int .u64 m.seq] 106) BW2.out BW2.out.size (by rfl) (by rfl) (by rfl) (by rfl) grow3 OW2.out⟩
        · have H1 : Hid (¬ s.id < m.id) := h1
          have y1 : decide (s.id < m.id) = false := by simp [h1]
          by_cases h2 : m.id = s.id
          · have H2 : Hid (s.id = m.id) := h2.symm
            have y2 : (m.id == s.id) = true := by simp [h2]
            clear h1 h2
            by_cases h3 : s.seq ≤ m.seq
            · have H3 : Hid (s.seq ≤ m.seq) := h3
              have y3 : decide (s.seq ≤ m.seq) = true := by simp [h3]
              go_wp2_with (at_builtin; refine wpList_append_lies _ rfl _ _ _ rfl v.heap.size 106 ti z 3 24 Yba.underlying120 HI6.out.1 HI6.out.2.1 HI6.out.2.2.1 HI6.out.2.2.2.1 HI6.out.2.2.2.2 (by omega) u31 out.length (mcells out) rfl (owns_kept HOX.out (fun g hg => by exact Below.heap_alloc _ _ _ hg)) ⟨x1.heap.size, 0, none⟩ 1 1 [.int .i64 m.id, .int .i64 m.idx, .int .u64 m.seq] rfl rfl (by exact news3 _ _ rfl _ _ _) (by simp; exact ⟨rfl, rfl, rfl⟩) (by omega) (by have := HLK.out; unfold maxLen; omega) (by have := HLK.out; omega) (Nat.le_trans HBX.out.size (by simp)) _ rfl ?_)
              intro g2 cap2 w2 own2 grow2 hat2 hlt2
              go_wp2_with fail
              go_roundg (gk - 1)
              case measure => omega
              case rel => exact ⟨k + 1, true, out ++ [m], by have := HKG.out; omega, by go_num, rfl, by rw [mcells_snoc, List.length_append]; exact own2, by have := HOL.out; simp at this ⊢; omega, by rw [← HRS.out, drop_cons HM2.out, show left1 s false (m :: ms.drop (k + 1)) = m :: ms.drop (k + 1) from put1_eq_a H2.out H3.out]; simp [left1], fun _ => above_of HM.out.2.2 HM2.out (by have := H2.out; omega), below_app' (ob := .cells #[.int .i64 m.id, .int .i64 m.idx, .int .u64 m.seq] 106) HBX.out HBX.out.size (by rfl) (by rfl) (by rfl) (by rfl) grow2 HOX.out⟩
            · have H3 : Hid (¬ s.seq ≤ m.seq) := h3
              have y3 : decide (s.seq ≤ m.seq) = false := by simp [h3]
              go_wp2_with (at_builtin; refine wpList_append_lies _ rfl _ _ _ rfl v.heap.size 106 ti z 3 24 Yba.underlying120 HI6.out.1 HI6.out.2.1 HI6.out.2.2.1 HI6.out.2.2.2.1 HI6.out.2.2.2.2 (by omega) u31 out.length (mcells out) rfl (owns_kept HOX.out (fun g hg => by exact Below.heap_alloc _ _ _ hg)) ⟨x1.heap.size, 0, none⟩ 1 1 [.int .i64 s.id, .int .i64 s.idx, .int .u64 s.seq] rfl rfl (by exact news3 _ _ rfl _ _ _) (by simp; exact ⟨rfl, rfl, rfl⟩) (by omega) (by have := HLK.out; unfold maxLen; omega) (by have := HLK.out; omega) (Nat.le_trans HBX.out.size (by simp)) _ rfl ?_)
              intro g2 cap2 w2 own2 grow2 hat2 hlt2
              go_wp2_with fail
              go_roundg (gk - 1)
              case measure => omega
              case rel => exact ⟨k + 1, true, out ++ [s], by have := HKG.out; omega, by go_num, rfl, by rw [mcells_snoc, List.length_append]; exact own2, by have := HOL.out; simp at this ⊢; omega, by rw [← HRS.out, drop_cons HM2.out, show left1 s false (m :: ms.drop (k + 1)) = s :: ms.drop (k + 1) from put1_eq_s H2.out (by have := H3.out; omega)]; simp [left1], fun _ => above_of HM.out.2.2 HM2.out (by have := H2.out; omega), below_app' (ob := .cells #[.int .i64 s.id, .int .i64 s.idx, .int .u64 s.seq] 106) HBX.out HBX.out.size (by rfl) (by rfl) (by rfl) (by rfl) grow2 HOX.out⟩
          · have H2 : Hid (m.id < s.id) := (by show _ < _; omega)
            have y2 : (m.id == s.id) = false := by simp [h2]
            clear h1 h2
            go_wp2_with (at_builtin; refine wpList_append_lies _ rfl _ _ _ rfl v.heap.size 106 ti z 3 24 Yba.underlying120 HI6.out.1 HI6.out.2.1 HI6.out.2.2.1 HI6.out.2.2.2.1 HI6.out.2.2.2.2 (by omega) u31 out.length (mcells out) rfl (owns_kept HOX.out (fun g hg => by exact Below.heap_alloc _ _ _ hg)) ⟨x1.heap.size, 0, none⟩ 1 1 [.int .i64 m.id, .int .i64 m.idx, .int .u64 m.seq] rfl rfl (by exact news3 _ _ rfl _ _ _) (by simp; exact ⟨rfl, rfl, rfl⟩) (by omega) (by have := HLK.out; unfold maxLen; omega) (by have := HLK.out; omega) (Nat.le_trans HBX.out.size (by simp)) _ rfl ?_)
            intro g2 cap2 w2 own2 grow2 hat2 hlt2
            go_wp2_with fail
            go_roundg (gk - 1)
            case measure => omega
            case rel => exact ⟨k + 1, false, out ++ [m], by have := HKG.out; omega, by go_num, rfl, by rw [mcells_snoc, List.length_append]; exact own2, by have := HOL.out; simp at this ⊢; omega, by rw [← HRS.out, drop_cons HM2.out, show left1 s false (m :: ms.drop (k + 1)) = m :: left1 s false (ms.drop (k + 1)) from put1_lt H2.out]; simp [left1], (fun h => by cases h), below_app' (ob := .cells #[.int .i64 m.id, .int .i64 m.idx, .int .u64 m.seq] 106) HBX.out HBX.out.size (by rfl) (by rfl) (by rfl) (by rfl) grow2 HOX.out⟩
      · have H1 : Hid (s.id < m.id) := HAB.out rfl k m (Nat.le_refl _) HM2.out
        have y2 : (m.id == s.id) = false := by have := H1.out; simp; omega
        go_wp2_with (at_builtin; refine wpList_append_lies _ rfl _ _ _ rfl v.heap.size 106 ti z 3 24 Yba.underlying120 HI6.out.1 HI6.out.2.1 HI6.out.2.2.1 HI6.out.2.2.2.1 HI6.out.2.2.2.2 (by omega) u31 out.length (mcells out) rfl (owns_kept HOX.out (fun g hg => by exact Below.heap_alloc _ _ _ hg)) ⟨x1.heap.size, 0, none⟩ 1 1 [.int .i64 m.id, .int .i64 m.idx, .int .u64 m.seq] rfl rfl (by exact news3 _ _ rfl _ _ _) (by simp; exact ⟨rfl, rfl, rfl⟩) (by omega) (by have := HLK.out; unfold maxLen; omega) (by have := HLK.out; omega) (Nat.le_trans HBX.out.size (by simp)) _ rfl ?_)
        intro g2 cap2 w2 own2 grow2 hat2 hlt2
        go_wp2_with fail
        go_roundg (gk - 1)
        case measure => omega
        case rel => exact ⟨k + 1, true, out ++ [m], by have := HKG.out; omega, by go_num, rfl, by rw [mcells_snoc, List.length_append]; exact own2, by have := HOL.out; simp at this ⊢; omega, by rw [← HRS.out, drop_cons HM2.out, show left1 s true (m :: ms.drop (k + 1)) = m :: left1 s true (ms.drop (k + 1)) from rfl]; simp [left1], fun _ => above_of HM.out.2.2 HM2.out (Int.le_of_lt H1.out), below_app' (ob := .cells #[.int .i64 m.id, .int .i64 m.idx, .int .u64 m.seq] 106) HBX.out HBX.out.size (by rfl) (by rfl) (by rfl) (by rfl) grow2 HOX.out⟩
    · obtain rfl : k = n := by have := HKG.out; have := HN.out; omega
      have et : ms.drop k = [] := by rw [HN.out, List.drop_length]
      have HR2 : Hid (out ++ left1 s b [] = put1 s ms) := (by have := HRS.out; rw [et] at this; exact this)
      have HUR : Hid (Below u.heap.size u wr) := HBV.out.trans (HBR.out.mono HBV.out.size)
      clear et hk
      cases b
      · have s0 : wr.cell? ⟨D1, 0, none⟩ = some (.int .i64 s.id) := JS.out.cell 0
        have s1 : wr.cell? ⟨D1, 1, none⟩ = some (.int .i64 s.idx) := JS.out.cell 1
        have s2 : wr.cell? ⟨D1, 2, none⟩ = some (.int .u64 s.seq) := JS.out.cell 2
        go_wp2_with (at_builtin; refine wpList_append_lies _ rfl _ _ _ rfl v.heap.size 106 ti z 3 24 Yba.underlying120 HI6.out.1 HI6.out.2.1 HI6.out.2.2.1 HI6.out.2.2.2.1 HI6.out.2.2.2.2 (by omega) u31 out.length (mcells out) rfl (owns_kept HO.out (fun g hg => by exact Below.heap_alloc _ _ _ hg)) ⟨wr.heap.size, 0, none⟩ 1 1 [.int .i64 s.id, .int .i64 s.idx, .int .u64 s.seq] rfl rfl (by exact news3 _ _ rfl _ _ _) (by simp; exact ⟨rfl, rfl, rfl⟩) (by omega) (by have := HLK.out; unfold maxLen; omega) (by have := HLK.out; omega) (Nat.le_trans HBR.out.size (by simp)) _ rfl ?_)
        intro g2 cap2 w2 own2 grow2 hat2 hlt2
        have OW2 : Hid (w2.ownsRow v.heap.size 106 3 (.slice (some ⟨g2, 0, none⟩) (out.length + 1) cap2) (out.length + 1) (mcells (put1 s ms))) := (by rw [← HR2.out, show left1 s false [] = [s] from rfl, mcells_snoc]; exact own2)
        have BW2 : Hid (Below u.heap.size u w2) := HBV.out.trans ((below_app' (ob := .cells #[.int .i64 s.id, .int .i64 s.idx, .int .u64 s.seq] 106) HBR.out HBR.out.size (by rfl) (by rfl) (by rfl) (by rfl) grow2 HO.out).mono HBV.out.size)
        obtain ⟨go, gc, e, hn, -, hrow, -⟩ := mrow_of_owns OW2.out
        obtain ⟨rfl, -, rfl⟩ := Value.slice.inj e
        rw [hn, HES.out] 
        rw [HES.out] at hrow
        have HROW : Hid (MRow w2 (some ⟨g2, 0, none⟩) (put1 ⟨id, index, sq'⟩ ms)) := hrow
        clear own2 grow2 hat2 hlt2 s0 s1 s2 e hn hrow
        go_upto_region 35 with fail
        rw [HN.out]
        exact law_x (by unfold IsAt; kernel_rfl) HSQ.out (HF.out.below BW2.out) (HM.out.1.same_below BW2.out) (HM.out.2.1.same_below BW2.out) HROW.out HLL.out.1 HLL.out.2 HPL.out (Nat.le_trans HB.out.2 BW2.out.size) (HB.out.1.trans (BW2.out.mono HB.out.2)) (by assumption)
      · have OW2 : Hid (wr.ownsRow v.heap.size 106 3 u31 out.length (mcells (put1 s ms))) := (by rw [← HR2.out, show left1 s true [] = [] from rfl, List.append_nil]; exact HO.out)
        obtain ⟨go, gc, rfl, hn, -, hrow, -⟩ := mrow_of_owns OW2.out
        rw [hn, HES.out]
        rw [HES.out] at hrow
        have HROW : Hid (MRow wr go (put1 ⟨id, index, sq'⟩ ms)) := hrow
        clear hn hrow
        go_upto_region 35 with fail
        rw [HN.out]
        exact law_x (by unfold IsAt; kernel_rfl) HSQ.out (HF.out.below HUR.out) (HM.out.1.same_below HUR.out) (HM.out.2.1.same_below HUR.out) HROW.out HLL.out.1 HLL.out.2 HPL.out (Nat.le_trans HB.out.2 HUR.out.size) (HB.out.1.trans (HUR.out.mono HB.out.2)) (by assumption)
end Go.Proofs.Ybulkause
