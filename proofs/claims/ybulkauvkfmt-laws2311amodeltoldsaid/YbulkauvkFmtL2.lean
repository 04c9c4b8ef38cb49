/-
  The law's great loop over the files.
-/
import Derived.Test.YbulkauvkFmtPl
namespace Go.Proofs.YbulkauvkFmt
open Go.RowKit Go.Extern.Stop Go.Stop Go.Extern Go.Deep

/-- what Add gives back -/
def AddR (T : Nat) (o : Option (Nat × Nat)) (n : Nat) (md qs : List Pr) (w : World) (v : Value) (w' : World) : Prop :=
  ∃ m1 m2 n', n' ≤ n + qs.length ∧ TabO w' T (some (m1, m2)) n' (addL md qs).2 ∧ (((addL md qs).1 = true ∧ ∃ a, v = .iface 117 (.pointer (some a))) ∨ ((addL md qs).1 = false ∧ v = .nilIface)) ∧ KeepT T o w w' ∧ (o = some (m1, m2) ∨ (w.heap.size ≤ m1 ∧ w.heap.size ≤ m2))
theorem addAll_ret {T : Nat} {o : Option (Nat × Nat)} {n : Nat} {md qs : List Pr} {w : World} {e : Ending} {w' : World} (h : Fwd (AddAll T o n md qs w) e w') : ∃ v, e = .returned v ∧ AddR T o n md qs w v w' := by
  obtain ⟨m1, m2, n', h1, h2, h3, h4, h5⟩ := h
  rcases h3 with ⟨ht, a, rfl⟩ | ⟨ht, rfl⟩
  · exact ⟨_, rfl, m1, m2, n', h1, h2, .inl ⟨ht, a, rfl⟩, h4, h5⟩
  · exact ⟨_, rfl, m1, m2, n', h1, h2, .inr ⟨ht, rfl⟩, h4, h5⟩
theorem AddR.size {T : Nat} {o : Option (Nat × Nat)} {n : Nat} {md qs : List Pr} {w : World} {v : Value} {w' : World} (h : AddR T o n md qs w v w') : w.heap.size ≤ w'.heap.size := by
  obtain ⟨_, _, _, _, _, _, h4, _⟩ := h
  exact h4.size
def L2Rel (H T : Nat) (w : World) (fs : List Fi) (gk : Nat) (v7 t : Value) (wx : World) : Prop :=
  ∃ (k : Nat) (md : List Pr) (o : Option (Nat × Nat)) (n : Nat), k + gk = fs.length ∧ t = .int .i64 k ∧ L2S H T w (sumL (fs.take k)) o n md v7 wx
theorem ne_err (a : Addr) (w : World) : (binOp .neq 45 (.iface 117 (.pointer (some a))) .nilIface).run Ybaf.prog w = .ok (.bool true) w := by kernel_rfl
theorem eq_err (a : Addr) (w : World) : (binOp .eql 45 (.iface 117 (.pointer (some a))) .nilIface).run Ybaf.prog w = .ok (.bool false) w := by kernel_rfl
theorem ne_nil (w : World) : (binOp .neq 45 .nilIface .nilIface).run Ybaf.prog w = .ok (.bool false) w := by kernel_rfl
theorem eq_nil (w : World) : (binOp .eql 45 .nilIface .nilIface).run Ybaf.prog w = .ok (.bool true) w := by kernel_rfl
theorem EnRow.below {w x : World} {io : Option Addr} {es : List En} (h : EnRow w io es) (hb : Below w.heap.size w x) : EnRow x io es := fun hp => by
  obtain ⟨g, o, e, hg, hm⟩ := h hp
  exact ⟨g, o, e, Nat.lt_of_lt_of_le hg hb.size, fun j m hj => ⟨(cell_below hb hg _).trans (hm j m hj).1, (cell_below hb hg _).trans (hm j m hj).2.1, (cell_below hb hg _).trans (hm j m hj).2.2⟩⟩

set_option maxHeartbeats 1600000 in
set_option maxRecDepth 100000 in
theorem law_l2 {x c y : Code} (hxy : IsIf3 13 x c y) (F : Interp) {H T c0 : Nat} {a0 : Option Addr} {fs : List Fi} {w u : World} (hF : F.answers w.tape) (hH : w.heap.size = H) (hR : FRow w a0 fs) (hl : fs.length ≤ 256) (hsum : sumL fs ≤ 1024) (hS : L2S H T w 0 none 0 [] (.slice none 0 0) u) {K1 K : Act → World → Prop} (hk1 : ∀ a w', Code.wp Ybaf.prog c (Exit.then K (bodyPost Ybaf.prog Ybaf.f3 fun e w' => e = .returned (.bool true) ∧ Below H w w')) a w' → K1 a w') (hk : ∀ a w', Code.wp Ybaf.prog y (bodyPost Ybaf.prog Ybaf.f3 fun e w' => e = .returned (.bool true) ∧ Below H w w') a w' → K a w')
    {sl1 sl2 sl3 sl4 sl5 sl8 sl9 sl10 sl11 sl12 sl13 sl14 sl15 sl16 sl17 sl18 sl19 sl20 sl21 sl22 sl23 sl24 sl25 sl26 sl27 sl28 sl29 sl30 sl31 sl32 sl33 sl34 sl35 sl36 sl37 sl38 sl39 sl40 sl41 sl42 sl43 sl44 sl45 sl46 sl47 sl48 sl49 sl50 sl51 sl52 sl53 sl54 sl55 sl56 sl57 sl58 sl59 sl60 sl61 sl62 sl63 sl64 sl65 sl66 sl67 sl68 sl69 sl70 sl71 sl72 sl73 sl74 sl75 sl76 sl77 sl78 sl79 sl80 sl81 sl82 sl83 sl84 sl85 sl86 sl87 sl88 sl89 sl90 sl91 sl92 sl93 sl94 sl95 sl96 sl97 sl98 sl99 sl100 sl101 sl102 sl103 sl104 sl105 sl106 sl107 sl108 sl109 sl110 sl111 sl112 sl113 sl114 sl115 sl116 sl117 sl118 sl119 sl120 sl121 sl122 sl123 sl124 sl125 sl126 sl127 sl128 sl129 sl130 sl131 sl132 sl133 sl134 sl135 sl136 sl137 sl138 sl139 sl140 sl141 sl142 sl143 sl144 sl145 sl146 sl147 sl148 sl149 sl150 sl151 sl152 sl153 sl154 sl155 sl156 sl157 sl158 sl159 sl160 sl161 sl162 sl163 sl164 sl165 sl166 sl167 sl168 sl169 sl170 sl171 sl172 sl173 sl174 sl175 sl176 sl177 sl178 sl179 sl180 sl181 sl182 sl183 sl184 sl185 sl186 sl187 sl188 sl189 sl190 sl191 sl192 sl193 sl194 sl195 sl196 sl197 sl198 sl199 sl200 sl201 sl202 sl203 sl204 sl205 sl206 sl207 sl208 sl209 sl210 sl211 sl212 sl213 sl214 sl215 sl216 sl217 sl218 sl219 sl220 sl221 sl222 sl223 sl224 sl225 sl226 sl227 sl228 sl229 sl230 sl231 sl232 sl233 sl234 sl235 sl236 sl237 sl238 sl239 sl240 sl241 sl242 sl243 sl244 sl245 sl246 sl247 sl248 sl249 sl250 sl251 sl252 sl253 sl254 sl255 sl256 sl257 sl258 sl259 sl260 sl261 sl262 : Value} :
    Code.wp Ybaf.prog x (Exit.then K1 (Exit.then K (bodyPost Ybaf.prog Ybaf.f3 fun e w' => e = .returned (.bool true) ∧ Below H w w'))) ⟨#[.slice a0 fs.length c0, sl1, sl2, sl3, sl4, sl5, .pointer (some ⟨T, 0, none⟩), .slice none 0 0, sl8, sl9, sl10, sl11, sl12, sl13, sl14, sl15, sl16, sl17, sl18, sl19, sl20, sl21, sl22, sl23, sl24, sl25, sl26, sl27, sl28, sl29, sl30, sl31, sl32, sl33, sl34, sl35, sl36, sl37, sl38, sl39, sl40, sl41, sl42, sl43, sl44, sl45, sl46, sl47, sl48, sl49, sl50, sl51, sl52, sl53, sl54, sl55, sl56, sl57, sl58, sl59, sl60, sl61, sl62, sl63, sl64, sl65, sl66, sl67, sl68, sl69, sl70, sl71, sl72, sl73, sl74, sl75, sl76, sl77, sl78, sl79, sl80, sl81, sl82, sl83, sl84, sl85, sl86, sl87, sl88, sl89, sl90, sl91, sl92, sl93, sl94, sl95, sl96, sl97, sl98, sl99, sl100, sl101, sl102, sl103, sl104, sl105, sl106, sl107, sl108, sl109, sl110, sl111, sl112, sl113, sl114, sl115, sl116, sl117, sl118, sl119, sl120, sl121, sl122, sl123, sl124, sl125, sl126, sl127, sl128, sl129, sl130, sl131, sl132, sl133, sl134, sl135, sl136, sl137, sl138, sl139, sl140, sl141, sl142, sl143, sl144, sl145, sl146, sl147, sl148, sl149, sl150, sl151, sl152, sl153, sl154, sl155, sl156, sl157, sl158, sl159, sl160, sl161, sl162, sl163, sl164, sl165, sl166, sl167, sl168, sl169, sl170, sl171, sl172, sl173, sl174, sl175, sl176, sl177, sl178, sl179, sl180, sl181, sl182, sl183, sl184, sl185, sl186, sl187, sl188, sl189, sl190, sl191, sl192, sl193, sl194, sl195, sl196, sl197, sl198, sl199, sl200, sl201, sl202, sl203, sl204, sl205, sl206, sl207, sl208, sl209, sl210, sl211, sl212, sl213, sl214, sl215, sl216, sl217, sl218, sl219, sl220, sl221, sl222, sl223, sl224, sl225, sl226, sl227, sl228, sl229, sl230, sl231, sl232, sl233, sl234, sl235, sl236, sl237, sl238, sl239, sl240, sl241, sl242, sl243, sl244, sl245, sl246, sl247, sl248, sl249, sl250, sl251, sl252, sl253, sl254, sl255, sl256, sl257, sl258, sl259, sl260, sl261, sl262], []⟩ u := by
  unfold IsIf3 at hxy
  conv at hxy => lhs; whnf
  obtain ⟨rfl, h2⟩ := Prod.mk.inj (Option.some.inj hxy)
  obtain ⟨rfl, rfl⟩ := Prod.mk.inj h2
  clear hxy h2
  have HF : Hid (F.answers w.tape) := hF
  have HFR : Hid (FRow w a0 fs ∧ w.heap.size = H ∧ sumL fs ≤ 1024) := ⟨hR, hH, hsum⟩
  have HS0 : Hid (L2S H T w 0 none 0 [] (.slice none 0 0) u) := hS
  obtain ⟨n, hn⟩ : ∃ n, n = fs.length := ⟨_, rfl⟩
  rw [← hn] at hl ⊢
  have HN : Hid (n = fs.length) := hn
  clear hF hR hH hsum hS hn
  go_wp2_with fail
  go_loopg [7, 51] n (fun gk v7 t wx => L2Rel H T w fs gk v7 t wx)
  case atStart => exact ⟨0, [], none, 0, by have := HN.out; omega, rfl, by simpa [sumL] using HS0.out⟩
  case round =>
    obtain ⟨k, md, o, nn, hkg, rfl, hS⟩ := hrel
    have HKG : Hid (k + gk = fs.length) := hkg
    have HS : Hid (L2S H T w (sumL (fs.take k)) o nn md u7 wr) := hS
    clear hkg hS
    by_cases hk : k < n
    · obtain ⟨g, of, rfl, hg, hmm⟩ := HFR.out.1 (by have := HN.out; omega)
      obtain ⟨f, hf⟩ : ∃ f, fs[k]? = some f := ⟨fs[k]'(by have := HN.out; omega), List.getElem?_eq_getElem _⟩
      have hat := hmm k f hf
      have hgH : g < H := by have := HFR.out.2.1; omega
      obtain ⟨le, hle⟩ : ∃ l, l = f.es.length := ⟨_, rfl⟩
      have i0 : wr.cell? ⟨g, of + k * 2, none⟩ = some (.int .u8 f.m) := (cell_below HS.out.bel hgH _).trans hat.1
      have i1 : wr.cell? ⟨g, of + k * 2 + 1, none⟩ = some (.slice f.io le f.ic) := by rw [hle]; exact (cell_below HS.out.bel hgH _).trans hat.2.1
      have j0 : (0 : Int) ≤ (k : Int) := by omega
      have j1 : (k : Int) < (n : Int) := by omega
      have HAT : Hid (FiAt w g (of + k * 2) f ∧ fs[k]? = some f ∧ le = f.es.length) := ⟨hat, hf, hle⟩
      have HL : Hid (f.es.length ≤ 1024 ∧ sumL (fs.take (k + 1)) = sumL (fs.take k) + f.es.length ∧ sumL (fs.take k) ≤ 1024) := ⟨by have := len_le_sum hf; have := HFR.out.2.2; omega, sumL_succ hf, by have := sumL_take_le fs k; have := HFR.out.2.2; omega⟩
      have hgk : 0 < gk := by have := HKG.out; have := HN.out; omega
      clear hmm hat hgH hf hle
      go_upto_region 16 with fail
      obtain ⟨D9, hD9⟩ : ∃ D, D = wr.heap.size := ⟨_, rfl⟩
      obtain ⟨x1, hx1⟩ : ∃ x1, x1 = wr.alloc (.cells #[.int .u8 f.m, .slice f.io le f.ic] 25) := ⟨_, rfl⟩
      rw [← hx1, ← hD9]
      have k9 : Blk x1 D9 #[.int .u8 f.m, .slice f.io le f.ic] 25 := by rw [hx1, hD9]; exact Blk.new _ _ _
      have hb1 : Below wr.heap.size wr x1 := by rw [hx1]; exact (Below.refl _ _).alloc (Nat.le_refl _) _
      have d0 : x1.cell? ⟨D9, 0, none⟩ = some (.int .u8 f.m) := k9.cell 0
      obtain ⟨mod, hmod⟩ : ∃ m, m = modB f.m := ⟨_, rfl⟩
      have HM6 : Hid (Calls Ybaf.prog 6 #[.int .u8 f.m] x1 fun e w' => e = .returned (.string mod) ∧ x1 = w') := (by rw [hmod]; exact mod_any f.m x1 HAT.out.1.2.2.1)
      have HMS : Hid (mod.size ≤ 10) := (by rw [hmod]; have := small_mod f.m; show _ ≤ _; omega)
      have K9 : Hid (Blk x1 D9 #[.int .u8 f.m, .slice f.io le f.ic] 25 ∧ Below wr.heap.size wr x1) := ⟨k9, hb1⟩
      clear hmod k9 hb1 hx1 hD9 i0 i1
      go_upto_region 17 with (go_at_call 6; refine HM6.out.mono ?_; rintro e w' ⟨rfl, rfl⟩)
      obtain ⟨Fb, hFb⟩ : ∃ D, D = x1.heap.size := ⟨_, rfl⟩
      obtain ⟨x2, hx2⟩ : ∃ x, x = x1.alloc (.cells (fileC mod (.slice none 0 0)) 38) := ⟨_, rfl⟩
      unfold fileC at hx2
      rw [← hx2, ← hFb]
      have kF : Blk x2 Fb (fileC mod (.slice none 0 0)) 38 := by rw [hx2, hFb]; exact Blk.new _ _ _
      have hb2 : Below wr.heap.size wr x2 := by rw [hx2]; exact K9.out.2.alloc K9.out.2.size _
      have h9 : x2.cell? ⟨D9, 1, none⟩ = some (.slice f.io f.es.length f.ic) := by
        rw [hx2, ← HAT.out.2.2]; exact (K9.out.1.alloc _).cell 1
      have hwF : wr.heap.size ≤ Fb := by rw [hFb]; exact K9.out.2.size
      have hS2 := HS.out.below hb2
      have hbW : Below w.heap.size w x2 := by have := hS2.bel; rw [← HFR.out.2.1] at this; exact this
      have hE2 : EnRow x2 f.io f.es := HAT.out.1.2.2.2.1.below hbW
      have HX2 : Hid (Below wr.heap.size wr x2 ∧ wr.heap.size ≤ Fb) := ⟨hb2, hwF⟩
      have HNEW : Hid (∀ g, Fb ≤ g → g ≠ T ∧ ¬ InT o g ∧ u7.ownBlock ≠ some g) := fun g hg => HS.out.new (Nat.le_trans HX2.out.2 hg)
      have HFT : Hid (∀ it ∈ f.es.map itOf, it.fit) := (by intro it h; obtain ⟨e, he, rfl⟩ := List.mem_map.1 h; exact itOf_fit (HAT.out.1.2.2.2.2.1 e he))
      have hEn : 0 < f.es.length → ∀ g o, f.io = some (⟨g, o, none⟩ : Addr) → g < Fb := fun hp g' o' e => by
        obtain ⟨g2, o2, e2, hg2, -⟩ := HAT.out.1.2.2.2.1 hp
        rw [e] at e2
        injection e2 with e2
        injection e2 with e2 _
        have := HFR.out.2.1
        have := HS.out.size
        omega
      clear hS2 hbW hb2 hwF hx2 hFb d0 HM6
      refine law_l3 (y := ((Ybaf.f3.body.bind (findIf 17)).getD (.skip, .skip, .skip)).2.2) (by unfold IsIf3; kernel_rfl) h9 kF hE2 hEn HAT.out.1.2.2.2.2.1 HL.out.1 (by assumption) ?_
      clear h9 kF hE2 hEn
      intro v12 v60 v61 v62 v63 v64 v65 v66 v67 v68 v69 v70 v71 v72 v73 v74 v75 v76 v77 v78 v79 v80 v81 v82 v83 v84 v85 v86 v87 x3 hp
      obtain ⟨hb3, ao, cap, hfile⟩ := file_of_l3 hp
      have HS3 : Hid (L2S H T w (sumL (fs.take k)) o nn md u7 x3) := HS.out.below (HX2.out.1.trans (hb3.mono HX2.out.2))
      obtain ⟨its, hits⟩ : ∃ its, its = f.es.map itOf := ⟨_, rfl⟩
      have HITS : Hid (its.length = f.es.length ∧ ∀ it ∈ its, it.fit) := ⟨by rw [hits]; simp, by rw [hits]; exact HFT.out⟩
      rw [← hits] at hfile
      have HFI : Hid (FileS Fb mod ao cap its x3) := hfile
      have HADD : Hid (Calls Ybaf.prog 9 #[.pointer (some ⟨T, 0, none⟩), .pointer (some ⟨Fb, 0, none⟩)] x3 fun e w' => Fwd (AddAll T o nn md (its.map (prOf mod)) x3) e w') := add_any F T Fb nn o md its mod ao cap x3 (by rw [HS3.out.bel.tape]; exact HF.out) HS3.out.tab hfile.mod hfile.items ⟨hfile.1.lt, (HNEW.out Fb (Nat.le_refl _)).1, (HNEW.out Fb (Nat.le_refl _)).2.1⟩ hfile.2.1 (fun g o' e => ⟨(hfile.2.2 g o' e).2, (HNEW.out g (Nat.le_of_lt (hfile.2.2 g o' e).1)).1, (HNEW.out g (Nat.le_of_lt (hfile.2.2 g o' e).1)).2.1⟩) HITS.out.2 HMS.out (by have := HITS.out.1; have := HL.out.1; omega) (by have := HS3.out.hn; have := HL.out.2.2; omega)
      clear hp hb3 hfile hits
      go_upto_region 24 with (go_at_call 9; refine HADD.out.mono ?_; intro e x4 hp; obtain ⟨er, rfl, hA⟩ := addAll_ret hp; have HA : Hid (AddR T o nn md (its.map (prOf mod)) x3 er x4) := hA; clear hp hA)
      obtain ⟨m1, m2, n', hA1, hA2, hA3, hA4, hA5⟩ := HA.out
      have HF4 : Hid (FileS Fb mod ao cap its x4) := HFI.out.add HNEW.out hA4
      have HR4 : Hid (x4.ownsRow H 50 3 u7 md.length (pcells md)) := HS3.out.row4 hA4
      clear hA1 hA2 hA3 hA4 hA5
      refine law_l4 (y := ((Ybaf.f3.body.bind (findIf 24)).getD (.skip, .skip, .skip)).2.2) (by unfold IsIf3; kernel_rfl) HF4.out.mod HF4.out.items ⟨HF4.out.1.lt, (HNEW.out Fb (Nat.le_refl _)).2.2⟩ HF4.out.2.1 (fun g o' e => ⟨(HF4.out.2.2 g o' e).2, (HNEW.out g (Nat.le_of_lt (HF4.out.2.2 g o' e).1)).2.2⟩) HR4.out (Nat.le_trans HS3.out.size HA.out.size) HITS.out.2 HMS.out (by have := HITS.out.1; have := HL.out.1; omega) (by have := HS3.out.len; have := HL.out.2.2; omega) (by assumption) ?_
      intro v7 v14 v16 v17 v18 v19 v21 v90 v91 v92 v93 v94 v95 v96 v97 v98 v99 v100 v101 v102 v103 v104 v105 v106 v107 v108 v109 v110 v111 v112 v113 v114 v115 v116 v117 v118 v119 v120 v121 v122 v123 v124 v125 v126 v127 v128 v129 v130 v131 v132 v133 v134 v135 v136 v137 v138 v139 v140 v141 v142 v143 v144 v145 v146 v147 v148 v149 v150 v151 v152 v153 v154 v155 v156 v157 v158 v159 v160 v161 v162 v163 v164 v165 v166 v167 v168 v169 v170 v171 x5 hp
      obtain ⟨e14, hr5, hg5, -⟩ := hp
      obtain ⟨m1, m2, n', hA1, hA2, hA3, hA4, hA5⟩ := HA.out
      have HS5 : Hid (L2S H T w (sumL (fs.take (k + 1))) (some (m1, m2)) n' (addL md (its.map (prOf mod))).2 v7 x5) := (by
        have h := HS3.out.step hA1 hA2 hA4 hA5 hr5 hg5
        rw [List.length_map, HITS.out.1, ← HL.out.2.1] at h
        exact h)
      have HF5 : Hid (FileS Fb mod ao cap its x5) := HF4.out.step HNEW.out hg5
      have q0 := ne_err
      have q1 := eq_err
      have q2 := ne_nil
      have q3 := eq_nil
      rcases hA3 with ⟨ht, a, rfl⟩ | ⟨ht, rfl⟩
      · rw [ht] at e14
        subst e14
        clear hr5 hg5 hA1 hA2 hA4 hA5 ht HA
        go_wp2_with fail
        go_roundg (gk - 1)
        case measure => omega
        case rel => exact ⟨k + 1, _, _, _, by have := HKG.out; omega, by go_num, HS5.out⟩
      · have HIN : Hid (∀ it ∈ its, prOf mod it ∈ (addL md (its.map (prOf mod))).2) := fun it h => addL_mem _ _ ht _ (List.mem_map_of_mem h)
        rw [ht] at e14
        subst e14
        clear hr5 hg5 hA1 hA2 hA4 hA5 ht HA
        go_upto_region 50 with fail
        refine law_l6 (by unfold IsAt3; kernel_rfl) HF5.out.mod HF5.out.items HF5.out.1.lt HF5.out.2.1 HS5.out.tab.1 HS5.out.tab.2.1 HIN.out HITS.out.2 HMS.out (by have := HITS.out.1; have := HL.out.1; omega) (by assumption) ?_
        intro z2 z23 z24 z25 z178 z179 z180 z181 z182 z183 z184 z185 z186 z187 z188 z189 z190 z191 z192 z193 z194 z195 z196 z197 z198 z199 z200 z201 z202 z203 z204 z205 z206 z207 z208 x6 hb6
        have HS6 : Hid (L2S H T w (sumL (fs.take (k + 1))) (some (m1, m2)) n' (addL md (its.map (prOf mod))).2 v7 x6) := HS5.out.below hb6
        clear hb6
        go_wp2_with fail
        go_roundg (gk - 1)
        case measure => omega
        case rel => exact ⟨k + 1, _, _, _, by have := HKG.out; omega, by go_num, HS6.out⟩
    · obtain rfl : k = n := by have := HKG.out; have := HN.out; omega
      have hlm : md.length ≤ 2000 := by have := HS.out.len; have := sumL_take_le fs k; have := HFR.out.2.2; omega
      obtain ⟨mo, mc, hu7, -, hrow, -⟩ := prow_of_owns HS.out.row
      have HRW : Hid (PRow wr mo md) := hrow
      have HLM : Hid (md.length ≤ 2000) := hlm
      rw [hu7]
      clear hrow hlm hu7
      go_upto_region 59 with fail
      cases o with
      | none =>
        have ht := HS.out.tab
        obtain ⟨kT, hmd⟩ := ht
        rw [hmd]
        exact law_fin_none (by unfold IsIf3; kernel_rfl) kT HS.out.bel (by assumption) (by assumption)
      | some mm =>
        obtain ⟨m1, m2⟩ := mm
        exact law_fin_some (by unfold IsIf3; kernel_rfl) HS.out.tab.1 HS.out.tab.2.1 HRW.out HLM.out HS.out.size HS.out.bel (by assumption) (by assumption)
end Go.Proofs.YbulkauvkFmt
