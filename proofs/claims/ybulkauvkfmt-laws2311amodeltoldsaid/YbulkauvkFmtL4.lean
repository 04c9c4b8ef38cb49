/-
  The law's loop over a file's items: what the model says.
-/
import Derived.Test.YbulkauvkFmtLf
namespace Go.Proofs.YbulkauvkFmt
open Go.RowKit Go.Extern.Stop Go.Stop Go.Extern Go.Deep

def pcells (ms : List Pr) : List Value := ms.flatMap fun m => [.string m.ns, .string m.id, .int .u64 m.sid]
theorem pcells_snoc (ms : List Pr) (m : Pr) : pcells (ms ++ [m]) = pcells ms ++ [.string m.ns, .string m.id, .int .u64 m.sid] := by simp [pcells]
theorem pcells_len (ms : List Pr) : (pcells ms).length = ms.length * 3 := by
  induction ms with
  | nil => rfl
  | cons x xs ih => simp [pcells] at ih ⊢; omega
theorem pcells_get : ∀ (ms : List Pr) (j : Nat) (m : Pr), ms[j]? = some m → (pcells ms)[j * 3]? = some (.string m.ns) ∧ (pcells ms)[j * 3 + 1]? = some (.string m.id) ∧ (pcells ms)[j * 3 + 2]? = some (.int .u64 m.sid)
  | [], _, _, h => by simp at h
  | x :: xs, 0, m, h => by
    simp at h
    subst h
    exact ⟨rfl, rfl, rfl⟩
  | x :: xs, j + 1, m, h => by
    have ih := pcells_get xs j m (by simpa using h)
    have e : pcells (x :: xs) = .string x.ns :: .string x.id :: .int .u64 x.sid :: pcells xs := rfl
    rw [e]
    rw [show (j + 1) * 3 = j * 3 + 3 by omega]
    exact ⟨by simpa using ih.1, by simpa [Nat.add_assoc] using ih.2.1, by simpa [Nat.add_assoc] using ih.2.2⟩
theorem prow_of_owns {w : World} {B : Nat} {v : Value} {n : Nat} {ms : List Pr} (h : w.ownsRow B 50 3 v n (pcells ms)) : ∃ ao cap, v = .slice ao n cap ∧ n = ms.length ∧ PRow w ao ms ∧ ∀ g o, ao = some ⟨g, o, none⟩ → B ≤ g ∧ g < w.heap.size := by
  obtain ⟨hl, h⟩ := h
  have hn : n = ms.length := by rw [pcells_len] at hl; omega
  obtain ⟨rfl, rfl⟩ | ⟨g, cap, cur, rfl, hb, hg, hc, _, hs, ht⟩ := h
  · exact ⟨none, 0, rfl, hn, fun h => by omega, fun g o e => by cases e⟩
  · have hlt := (Array.getElem?_eq_some_iff.1 hg).1
    refine ⟨_, cap, rfl, hn, fun _ => ⟨g, 0, rfl, hlt, fun j m hj => ?_⟩, fun g' o' e => ?_⟩
    · have hh := pcells_get ms j m hj
      rw [← ht] at hh
      have key : ∀ i v, (cur.toList.take (n * 3))[i]? = some v → w.cell? ⟨g, i, none⟩ = some v := fun i v hi => by
        rw [List.getElem?_take] at hi
        split at hi
        · simp only [World.cell?, hg]; simpa using hi
        · cases hi
      rw [Nat.zero_add]
      exact ⟨key _ _ hh.1, key _ _ hh.2.1, key _ _ hh.2.2⟩
    · injection e with e
      injection e with e1 e2
      subst e1
      exact ⟨hb, hlt⟩
theorem newsP (x : World) (H : Nat) (hH : x.heap.size = H) (a b c : Value) : ∀ (j : Nat) (u : Value), [a, b, c][j]? = some u → (x.alloc (.cells #[a, b, c] 50)).cell? ((⟨H, 0, none⟩ : Addr).add j) = some u := by
  intro j u hu
  subst hH
  rw [show ((⟨x.heap.size, 0, none⟩ : Addr).add j) = ⟨x.heap.size, j, none⟩ by unfold Addr.add; split <;> simp_all, (Blk.new x #[a, b, c] 50).cell]
  simpa using hu
theorem owns_setNe {w : World} {B : Nat} {e : TypeId} {sz : Nat} {v : Value} {n : Nat} {l : List Value} (h : w.ownsRow B e sz v n l) {a : Addr} (ha : v.ownBlock ≠ some a.block) (u : Value) : (w.setCell a u).ownsRow B e sz v n l := by
  obtain ⟨hl, h | ⟨g, cap, cur, rfl, hb, hg, h2⟩⟩ := h
  · exact ⟨hl, .inl h⟩
  · exact ⟨hl, .inr ⟨g, cap, cur, rfl, hb, (blk_setCell_other _ _ _ _ (fun e => ha (by rw [← e]; rfl))).trans hg, h2⟩⟩
theorem info50 : (Ybaf.prog.info? 50).bind (fun i => i.zero.map fun z => (i.size, i.bytes, z.cells.size)) = some (3, 40, 3) := by kernel_rfl
theorem info50' : ∃ i z, Ybaf.prog.info? 50 = some i ∧ i.zero = some z ∧ i.size = 3 ∧ i.bytes = 40 ∧ z.cells.size = 3 := by
  have h := info50
  cases hi : Ybaf.prog.info? 50 with
  | none => rw [hi] at h; simp at h
  | some i =>
    cases hz : i.zero with
    | none => rw [hi] at h; simp [hz] at h
    | some z => rw [hi] at h; simp [hz] at h; exact ⟨i, z, rfl, hz, h.1, h.2.1, h.2.2⟩
theorem badB_snoc {ms : List Pr} {q p : Pr} {k : Nat} (hp : ms[k]? = some p) : badB (ms.take (k + 1)) q = (badB (ms.take k) q || ((sameK p q && !(p.sid == q.sid)) || (p.sid == q.sid && !(sameK p q)))) := by
  unfold badB; rw [List.take_add_one, hp, List.any_append]; simp
theorem dupB_snoc {ms : List Pr} {q p : Pr} {k : Nat} (hp : ms[k]? = some p) : dupB (ms.take (k + 1)) q = (dupB (ms.take k) q || (sameK p q && p.sid == q.sid)) := by
  unfold dupB; rw [List.take_add_one, hp, List.any_append]; simp
theorem sameK_str (p q : Pr) : sameK p q = ((p.ns.toList == q.ns.toList) && (p.id.toList == q.id.toList)) := by rw [str_eq, str_eq]; rfl

/-- v's row is m7's own, or new -/
def Own (m7 : Value) (S : Nat) (v : Value) : Prop := ∀ g, v.ownBlock = some g → m7.ownBlock = some g ∨ S ≤ g
theorem own_refl (m7 : Value) (S : Nat) : Own m7 S m7 := fun _ h => .inl h
theorem own_app {m7 v : Value} {S g H : Nat} (h : Own m7 S v) (hg : v.ownBlock = some g ∨ g = H) (hH : S ≤ H) (n c : Nat) : Own m7 S (.slice (some ⟨g, 0, none⟩) n c) := by
  intro g' e
  simp [Value.ownBlock] at e
  subst e
  rcases hg with hg | rfl
  · exact h _ hg
  · exact .inr hH
section
variable {u x y w2 : World} {r : Option Nat}
theorem gro_refl (u : World) (r : Option Nat) : u.grownBy u r := ⟨rfl, rfl, rfl, Nat.le_refl _, fun _ _ _ => rfl⟩
theorem gro_below (h : u.grownBy x r) (hb : Below x.heap.size x y) : u.grownBy y r :=
  ⟨hb.os.trans h.os, hb.tape.trans h.tape, hb.output.trans h.output, Nat.le_trans h.size hb.size, fun k hk hr => (hb.block k (Nat.lt_of_lt_of_le hk h.size)).trans (h.block k hk hr)⟩
theorem gro_same (h : u.grownBy x r) (h1 : y.heap = x.heap) (h2 : y.os = x.os) (h3 : y.tape = x.tape) (h4 : y.output = x.output) : u.grownBy y r :=
  ⟨h2.trans h.os, h3.trans h.tape, h4.trans h.output, by rw [h1]; exact h.size, fun k hk hr => by rw [h1]; exact h.block k hk hr⟩
theorem gro_set (h : u.grownBy x r) {a : Addr} (ha : u.heap.size ≤ a.block) (v : Value) : u.grownBy (x.setCell a v) r :=
  have hb := below_set (Below.refl a.block x) (Nat.le_refl _) v
  ⟨hb.os.trans h.os, hb.tape.trans h.tape, hb.output.trans h.output, Nat.le_trans h.size hb.size, fun k hk hr => (hb.block k (Nat.lt_of_lt_of_le hk ha)).trans (h.block k hk hr)⟩
theorem gro_app {m7 v : Value} {ob : Obj} (h : u.grownBy x m7.ownBlock) (ho : Own m7 u.heap.size v) (hy : y.heap = (x.alloc ob).heap) (h2 : y.os = x.os) (h3 : y.tape = x.tape) (h4 : y.output = x.output) (hg : y.grownBy w2 v.ownBlock) : u.grownBy w2 m7.ownBlock :=
  ⟨hg.os.trans (h2.trans h.os), hg.tape.trans (h3.trans h.tape), hg.output.trans (h4.trans h.output), Nat.le_trans h.size (Nat.le_trans (by rw [hy]; simp) hg.size), fun k hk hr => by
    have hkx : k < x.heap.size := Nat.lt_of_lt_of_le hk h.size
    rw [hg.block k (by rw [hy]; simp; omega) (fun e => ?_), hy, Below.heap_alloc _ _ _ hkx, h.block k hk hr]
    rcases ho k e.symm with h5 | h5
    · exact hr h5.symm
    · omega⟩
theorem cell_gro (h : u.grownBy x r) {g : Nat} (hg : g < u.heap.size) (hr : r ≠ some g) (o : Nat) : x.cell? ⟨g, o, none⟩ = u.cell? ⟨g, o, none⟩ := World.cell?_of_block (h.block g hg (fun e => hr e.symm))
end
/-- what the loop leaves: the model's word, and the model -/
def L4Post (B : Nat) (m7 : Value) (md qs : List Pr) (u : World) (v14 v7 : Value) (w' : World) : Prop :=
  v14 = .bool (addL md qs).1 ∧ w'.ownsRow B 50 3 v7 (addL md qs).2.length (pcells (addL md qs).2) ∧ u.grownBy w' m7.ownBlock ∧ Own m7 u.heap.size v7
def L4Rel (B : Nat) (m7 : Value) (md qs : List Pr) (u : World) (gk : Nat) (v7 t : Value) (wx : World) : Prop :=
  ∃ (j : Nat) (md' : List Pr), j + gk = qs.length ∧ t = .int .i64 j ∧ md'.length ≤ md.length + j ∧ wx.ownsRow B 50 3 v7 md'.length (pcells md') ∧ addL md qs = addL md' (qs.drop j) ∧ u.grownBy wx m7.ownBlock ∧ Own m7 u.heap.size v7

set_option maxHeartbeats 1600000 in
set_option maxRecDepth 100000 in
theorem law_l4 {x c y : Code} (hxy : IsIf3 24 x c y) {Q : Exit → Act → World → Prop} {B T Fb cap : Nat} {m7 : Value} {ao : Option Addr} {md : List Pr} {its : List It} {mod : ByteArray} {u : World}
    (f0 : u.cell? ⟨Fb, 0, none⟩ = some (.string mod)) (f7 : u.cell? ⟨Fb, 7, none⟩ = some (.slice ao its.length cap)) (hFb : Fb < u.heap.size ∧ m7.ownBlock ≠ some Fb) (hR : IRow u ao its) (hRn : ∀ g o, ao = some ⟨g, o, none⟩ → g < u.heap.size ∧ m7.ownBlock ≠ some g) (ho : u.ownsRow B 50 3 m7 md.length (pcells md)) (hB : B ≤ u.heap.size)
    (hfit : ∀ it ∈ its, it.fit) (hmod : mod.size ≤ 10) (hl : its.length ≤ 2000) (hlm : md.length ≤ 2000) {K1 K : Act → World → Prop} (hk1 : ∀ a w', Code.wp Ybaf.prog c (Exit.then K Q) a w' → K1 a w')
    {sl0 sl1 sl2 sl3 sl4 sl5 sl8 sl9 sl11 sl12 sl13 sl15 sl16 sl17 sl18 sl19 sl20 sl21 sl22 sl23 sl24 sl25 sl26 sl27 sl28 sl29 sl30 sl31 sl32 sl33 sl34 sl35 sl36 sl37 sl38 sl39 sl40 sl41 sl42 sl43 sl44 sl45 sl46 sl47 sl48 sl49 sl50 sl51 sl52 sl53 sl54 sl55 sl56 sl57 sl58 sl59 sl60 sl61 sl62 sl63 sl64 sl65 sl66 sl67 sl68 sl69 sl70 sl71 sl72 sl73 sl74 sl75 sl76 sl77 sl78 sl79 sl80 sl81 sl82 sl83 sl84 sl85 sl86 sl87 sl88 sl89 sl90 sl91 sl92 sl93 sl94 sl95 sl96 sl97 sl98 sl99 sl100 sl101 sl102 sl103 sl104 sl105 sl106 sl107 sl108 sl109 sl110 sl111 sl112 sl113 sl114 sl115 sl116 sl117 sl118 sl119 sl120 sl121 sl122 sl123 sl124 sl125 sl126 sl127 sl128 sl129 sl130 sl131 sl132 sl133 sl134 sl135 sl136 sl137 sl138 sl139 sl140 sl141 sl142 sl143 sl144 sl145 sl146 sl147 sl148 sl149 sl150 sl151 sl152 sl153 sl154 sl155 sl156 sl157 sl158 sl159 sl160 sl161 sl162 sl163 sl164 sl165 sl166 sl167 sl168 sl169 sl170 sl171 sl172 sl173 sl174 sl175 sl176 sl177 sl178 sl179 sl180 sl181 sl182 sl183 sl184 sl185 sl186 sl187 sl188 sl189 sl190 sl191 sl192 sl193 sl194 sl195 sl196 sl197 sl198 sl199 sl200 sl201 sl202 sl203 sl204 sl205 sl206 sl207 sl208 sl209 sl210 sl211 sl212 sl213 sl214 sl215 sl216 sl217 sl218 sl219 sl220 sl221 sl222 sl223 sl224 sl225 sl226 sl227 sl228 sl229 sl230 sl231 sl232 sl233 sl234 sl235 sl236 sl237 sl238 sl239 sl240 sl241 sl242 sl243 sl244 sl245 sl246 sl247 sl248 sl249 sl250 sl251 sl252 sl253 sl254 sl255 sl256 sl257 sl258 sl259 sl260 sl261 sl262 : Value}
    (hK : ∀ (v7 v14 v16 v17 v18 v19 v21 v90 v91 v92 v93 v94 v95 v96 v97 v98 v99 v100 v101 v102 v103 v104 v105 v106 v107 v108 v109 v110 v111 v112 v113 v114 v115 v116 v117 v118 v119 v120 v121 v122 v123 v124 v125 v126 v127 v128 v129 v130 v131 v132 v133 v134 v135 v136 v137 v138 v139 v140 v141 v142 v143 v144 v145 v146 v147 v148 v149 v150 v151 v152 v153 v154 v155 v156 v157 v158 v159 v160 v161 v162 v163 v164 v165 v166 v167 v168 v169 v170 v171 : Value) (w' : World), L4Post B m7 md (its.map (prOf mod)) u v14 v7 w' → K ⟨#[sl0, sl1, sl2, sl3, sl4, sl5, .pointer (some ⟨T, 0, none⟩), v7, sl8, sl9, .pointer (some ⟨Fb, 0, none⟩), sl11, sl12, sl13, v14, sl15, v16, v17, v18, v19, sl20, v21, sl22, sl23, sl24, sl25, sl26, sl27, sl28, sl29, sl30, sl31, sl32, sl33, sl34, sl35, sl36, sl37, sl38, sl39, sl40, sl41, sl42, sl43, sl44, sl45, sl46, sl47, sl48, sl49, sl50, sl51, sl52, sl53, sl54, sl55, sl56, sl57, sl58, sl59, sl60, sl61, sl62, sl63, sl64, sl65, sl66, sl67, sl68, sl69, sl70, sl71, sl72, sl73, sl74, sl75, sl76, sl77, sl78, sl79, sl80, sl81, sl82, sl83, sl84, sl85, sl86, sl87, sl88, sl89, v90, v91, v92, v93, v94, v95, v96, v97, v98, v99, v100, v101, v102, v103, v104, v105, v106, v107, v108, v109, v110, v111, v112, v113, v114, v115, v116, v117, v118, v119, v120, v121, v122, v123, v124, v125, v126, v127, v128, v129, v130, v131, v132, v133, v134, v135, v136, v137, v138, v139, v140, v141, v142, v143, v144, v145, v146, v147, v148, v149, v150, v151, v152, v153, v154, v155, v156, v157, v158, v159, v160, v161, v162, v163, v164, v165, v166, v167, v168, v169, v170, v171, sl172, sl173, sl174, sl175, sl176, sl177, sl178, sl179, sl180, sl181, sl182, sl183, sl184, sl185, sl186, sl187, sl188, sl189, sl190, sl191, sl192, sl193, sl194, sl195, sl196, sl197, sl198, sl199, sl200, sl201, sl202, sl203, sl204, sl205, sl206, sl207, sl208, sl209, sl210, sl211, sl212, sl213, sl214, sl215, sl216, sl217, sl218, sl219, sl220, sl221, sl222, sl223, sl224, sl225, sl226, sl227, sl228, sl229, sl230, sl231, sl232, sl233, sl234, sl235, sl236, sl237, sl238, sl239, sl240, sl241, sl242, sl243, sl244, sl245, sl246, sl247, sl248, sl249, sl250, sl251, sl252, sl253, sl254, sl255, sl256, sl257, sl258, sl259, sl260, sl261, sl262], []⟩ w') :
    Code.wp Ybaf.prog x (Exit.then K1 (Exit.then K Q)) ⟨#[sl0, sl1, sl2, sl3, sl4, sl5, .pointer (some ⟨T, 0, none⟩), m7, sl8, sl9, .pointer (some ⟨Fb, 0, none⟩), sl11, sl12, sl13, .bool false, sl15, sl16, sl17, sl18, sl19, sl20, sl21, sl22, sl23, sl24, sl25, sl26, sl27, sl28, sl29, sl30, sl31, sl32, sl33, sl34, sl35, sl36, sl37, sl38, sl39, sl40, sl41, sl42, sl43, sl44, sl45, sl46, sl47, sl48, sl49, sl50, sl51, sl52, sl53, sl54, sl55, sl56, sl57, sl58, sl59, sl60, sl61, sl62, sl63, sl64, sl65, sl66, sl67, sl68, sl69, sl70, sl71, sl72, sl73, sl74, sl75, sl76, sl77, sl78, sl79, sl80, sl81, sl82, sl83, sl84, sl85, sl86, sl87, sl88, sl89, sl90, sl91, sl92, sl93, sl94, sl95, sl96, sl97, sl98, sl99, sl100, sl101, sl102, sl103, sl104, sl105, sl106, sl107, sl108, sl109, sl110, sl111, sl112, sl113, sl114, sl115, sl116, sl117, sl118, sl119, sl120, sl121, sl122, sl123, sl124, sl125, sl126, sl127, sl128, sl129, sl130, sl131, sl132, sl133, sl134, sl135, sl136, sl137, sl138, sl139, sl140, sl141, sl142, sl143, sl144, sl145, sl146, sl147, sl148, sl149, sl150, sl151, sl152, sl153, sl154, sl155, sl156, sl157, sl158, sl159, sl160, sl161, sl162, sl163, sl164, sl165, sl166, sl167, sl168, sl169, sl170, sl171, sl172, sl173, sl174, sl175, sl176, sl177, sl178, sl179, sl180, sl181, sl182, sl183, sl184, sl185, sl186, sl187, sl188, sl189, sl190, sl191, sl192, sl193, sl194, sl195, sl196, sl197, sl198, sl199, sl200, sl201, sl202, sl203, sl204, sl205, sl206, sl207, sl208, sl209, sl210, sl211, sl212, sl213, sl214, sl215, sl216, sl217, sl218, sl219, sl220, sl221, sl222, sl223, sl224, sl225, sl226, sl227, sl228, sl229, sl230, sl231, sl232, sl233, sl234, sl235, sl236, sl237, sl238, sl239, sl240, sl241, sl242, sl243, sl244, sl245, sl246, sl247, sl248, sl249, sl250, sl251, sl252, sl253, sl254, sl255, sl256, sl257, sl258, sl259, sl260, sl261, sl262], []⟩ u := by
  unfold IsIf3 at hxy
  conv at hxy => lhs; whnf
  obtain ⟨rfl, h2⟩ := Prod.mk.inj (Option.some.inj hxy)
  obtain ⟨rfl, rfl⟩ := Prod.mk.inj h2
  clear hxy h2
  have HK : Hid (∀ (v7 v14 v16 v17 v18 v19 v21 v90 v91 v92 v93 v94 v95 v96 v97 v98 v99 v100 v101 v102 v103 v104 v105 v106 v107 v108 v109 v110 v111 v112 v113 v114 v115 v116 v117 v118 v119 v120 v121 v122 v123 v124 v125 v126 v127 v128 v129 v130 v131 v132 v133 v134 v135 v136 v137 v138 v139 v140 v141 v142 v143 v144 v145 v146 v147 v148 v149 v150 v151 v152 v153 v154 v155 v156 v157 v158 v159 v160 v161 v162 v163 v164 v165 v166 v167 v168 v169 v170 v171 : Value) (w' : World), L4Post B m7 md (its.map (prOf mod)) u v14 v7 w' → K ⟨#[sl0, sl1, sl2, sl3, sl4, sl5, .pointer (some ⟨T, 0, none⟩), v7, sl8, sl9, .pointer (some ⟨Fb, 0, none⟩), sl11, sl12, sl13, v14, sl15, v16, v17, v18, v19, sl20, v21, sl22, sl23, sl24, sl25, sl26, sl27, sl28, sl29, sl30, sl31, sl32, sl33, sl34, sl35, sl36, sl37, sl38, sl39, sl40, sl41, sl42, sl43, sl44, sl45, sl46, sl47, sl48, sl49, sl50, sl51, sl52, sl53, sl54, sl55, sl56, sl57, sl58, sl59, sl60, sl61, sl62, sl63, sl64, sl65, sl66, sl67, sl68, sl69, sl70, sl71, sl72, sl73, sl74, sl75, sl76, sl77, sl78, sl79, sl80, sl81, sl82, sl83, sl84, sl85, sl86, sl87, sl88, sl89, v90, v91, v92, v93, v94, v95, v96, v97, v98, v99, v100, v101, v102, v103, v104, v105, v106, v107, v108, v109, v110, v111, v112, v113, v114, v115, v116, v117, v118, v119, v120, v121, v122, v123, v124, v125, v126, v127, v128, v129, v130, v131, v132, v133, v134, v135, v136, v137, v138, v139, v140, v141, v142, v143, v144, v145, v146, v147, v148, v149, v150, v151, v152, v153, v154, v155, v156, v157, v158, v159, v160, v161, v162, v163, v164, v165, v166, v167, v168, v169, v170, v171, sl172, sl173, sl174, sl175, sl176, sl177, sl178, sl179, sl180, sl181, sl182, sl183, sl184, sl185, sl186, sl187, sl188, sl189, sl190, sl191, sl192, sl193, sl194, sl195, sl196, sl197, sl198, sl199, sl200, sl201, sl202, sl203, sl204, sl205, sl206, sl207, sl208, sl209, sl210, sl211, sl212, sl213, sl214, sl215, sl216, sl217, sl218, sl219, sl220, sl221, sl222, sl223, sl224, sl225, sl226, sl227, sl228, sl229, sl230, sl231, sl232, sl233, sl234, sl235, sl236, sl237, sl238, sl239, sl240, sl241, sl242, sl243, sl244, sl245, sl246, sl247, sl248, sl249, sl250, sl251, sl252, sl253, sl254, sl255, sl256, sl257, sl258, sl259, sl260, sl261, sl262], []⟩ w') := hK
  have HFb : Hid (u.cell? ⟨Fb, 0, none⟩ = some (.string mod) ∧ (Fb < u.heap.size ∧ m7.ownBlock ≠ some Fb) ∧ B ≤ u.heap.size) := ⟨f0, hFb, hB⟩
  have HR : Hid (IRow u ao its ∧ (∀ g o, ao = some (⟨g, o, none⟩ : Addr) → g < u.heap.size ∧ m7.ownBlock ≠ some g) ∧ ∀ it ∈ its, it.fit) := ⟨hR, hRn, hfit⟩
  have HO : Hid (u.ownsRow B 50 3 m7 md.length (pcells md)) := ho
  have HSZ : Hid (mod.size ≤ 10 ∧ its.length ≤ 2000 ∧ md.length ≤ 2000) := ⟨hmod, hl, hlm⟩
  obtain ⟨n, hn⟩ : ∃ n, n = its.length := ⟨_, rfl⟩
  rw [← hn] at f7
  have HN : Hid (n = its.length) := hn
  clear hK f0 hFb hB hR hRn hfit ho hmod hl hlm hn
  go_wp2_with fail
  go_loopg [7, 14, 95] n (fun gk v7 v14 t wx => v14 = .bool false ∧ L4Rel B m7 md (its.map (prOf mod)) u gk v7 t wx)
  case atStart => exact ⟨rfl, 0, md, by have := HN.out; simp; omega, rfl, by omega, HO.out, by simp, gro_refl _ _, own_refl _ _⟩
  case round =>
    obtain ⟨rfl, j, md', hjg, rfl, hlen, hown, hadd, hbr, hov⟩ := hrel
    have hjg' : j + gk = its.length := by simpa using hjg
    have HJG : Hid (j + gk = its.length) := hjg'
    have HOW : Hid (wr.ownsRow B 50 3 u7 md'.length (pcells md')) := hown
    have HAD : Hid (addL md (its.map (prOf mod)) = addL md' ((its.map (prOf mod)).drop j)) := hadd
    have HBR : Hid (u.grownBy wr m7.ownBlock ∧ Own m7 u.heap.size u7) := ⟨hbr, hov⟩
    have HLE : Hid (md'.length ≤ md.length + j) := hlen
    clear hjg hjg' hown hadd hbr hov hlen
    by_cases hj : j < n
    · obtain ⟨g, o, rfl, hg, hmm⟩ := HR.out.1 (by have := HN.out; omega)
      obtain ⟨it, hit⟩ : ∃ it, its[j]? = some it := ⟨its[j]'(by have := HN.out; omega), List.getElem?_eq_getElem _⟩
      have hgB := HR.out.2.1 g o rfl
      have hat := hmm j it hit
      have i0 : wr.cell? ⟨g, o + j * 4, none⟩ = some (.string it.ns) := (cell_gro HBR.out.1 hgB.1 hgB.2 _).trans hat.1
      have i1 : wr.cell? ⟨g, o + j * 4 + 1, none⟩ = some (.string it.id) := (cell_gro HBR.out.1 hgB.1 hgB.2 _).trans hat.2.1
      have i2 : wr.cell? ⟨g, o + j * 4 + 2, none⟩ = some (.int .u64 it.sid) := (cell_gro HBR.out.1 hgB.1 hgB.2 _).trans hat.2.2.1
      have i3 : wr.cell? ⟨g, o + j * 4 + 3, none⟩ = some (.string ⟨#[]⟩) := (cell_gro HBR.out.1 hgB.1 hgB.2 _).trans hat.2.2.2
      have j0 : (0 : Int) ≤ (j : Int) := by omega
      have j1 : (j : Int) < (n : Int) := by omega
      have HIT : Hid (its[j]? = some it ∧ it.fit) := ⟨hit, HR.out.2.2 it (List.mem_of_getElem? hit)⟩
      have hgk : 0 < gk := by have := HJG.out; have := HN.out; omega
      have HGK : Hid (0 < gk) := hgk
      have hn2 : n ≤ 2000 := by have := HSZ.out; have := HN.out; omega
      clear hmm hat hgB hit
      go_upto_region 28 with fail
      obtain ⟨D6, hD6⟩ : ∃ D, D = wr.heap.size := ⟨_, rfl⟩
      obtain ⟨D7, hD7⟩ : ∃ D, D = wr.heap.size + 1 := ⟨_, rfl⟩
      obtain ⟨x1, hx1⟩ : ∃ x1, x1 = (wr.alloc (.cells #[.string it.ns, .string it.id, .int .u64 it.sid, .string ⟨#[]⟩] 43)).alloc (.cells #[.string it.ns, .string it.id] 48) := ⟨_, rfl⟩
      rw [← hx1, ← hD7, ← hD6]
      have k6 : Blk x1 D6 #[.string it.ns, .string it.id, .int .u64 it.sid, .string ⟨#[]⟩] 43 := by rw [hx1, hD6]; exact (Blk.new _ _ _).alloc _
      have k7 : Blk x1 D7 #[.string it.ns, .string it.id] 48 := by
        rw [hx1]; have := Blk.new (wr.alloc (.cells #[.string it.ns, .string it.id, .int .u64 it.sid, .string ⟨#[]⟩] 43)) #[.string it.ns, .string it.id] 48; simpa [hD7] using this
      have hb1 : Below wr.heap.size wr x1 := by rw [hx1]; exact ((Below.refl _ _).alloc (Nat.le_refl _) _).alloc (by simp) _
      have d0 : x1.cell? ⟨D6, 0, none⟩ = some (.string it.ns) := k6.cell 0
      have d1 : x1.cell? ⟨D6, 1, none⟩ = some (.string it.id) := k6.cell 1
      have e1 : x1.cell? ⟨D7, 1, none⟩ = some (.string it.id) := k7.cell 1
      have ff : x1.frozen? ⟨D7, 1, none⟩ = false := k7.frozen 1
      have HDD : Hid (D6 = wr.heap.size ∧ D7 = wr.heap.size + 1) := ⟨hD6, hD7⟩
      have hne67 : D7 ≠ D6 := by omega
      have K6 : Hid (Blk x1 D6 #[.string it.ns, .string it.id, .int .u64 it.sid, .string ⟨#[]⟩] 43) := k6
      have K7 : Hid (Blk x1 D7 #[.string it.ns, .string it.id] 48) := k7
      have HB1 : Hid (Below wr.heap.size wr x1) := hb1
      have hBw : Hid (B ≤ wr.heap.size) := (by have := HBR.out.1.size; have := HFb.out.2.2; show _ ≤ _; omega)
      clear hx1 hD6 hD7 k6 k7 hb1 i0 i1 i2 i3
      obtain ⟨ow, how⟩ : ∃ ow, ow = isOwn it := ⟨_, rfl⟩
      have HOWN : Hid (ow = isOwn it) := how
      clear how
      go_cut [111] from 96 to 171 (fun v w' => v = .bool ow ∧ x1 = w')
      case first =>
        by_cases c1 : it.ns = identB
        · have y1 : (it.ns.toList == [105, 100, 101, 110, 116, 105, 116, 121]) = true := by rw [ident_eq]; simp [c1]
          have HO2 : Hid (isOwn it = true) := (by show _ = _; simp [isOwn, c1])
          clear c1
          go_wp2_with fail
          go_meet
          exact ⟨by rw [HOWN.out, HO2.out], rfl⟩
        · by_cases c2 : it.ns = featB
          · have y1 : (it.ns.toList == [105, 100, 101, 110, 116, 105, 116, 121]) = false := by rw [ident_eq]; simp [c1]
            have y2 : (it.ns.toList == [102, 101, 97, 116, 117, 114, 101]) = true := by rw [feat_eq]; simp [c2]
            have HO2 : Hid (isOwn it = true) := (by show _ = _; simp [isOwn, c2])
            clear c1 c2
            go_wp2_with fail
            go_meet
            exact ⟨by rw [HOWN.out, HO2.out], rfl⟩
          · have y1 : (it.ns.toList == [105, 100, 101, 110, 116, 105, 116, 121]) = false := by rw [ident_eq]; simp [c1]
            have y2 : (it.ns.toList == [102, 101, 97, 116, 117, 114, 101]) = false := by rw [feat_eq]; simp [c2]
            have HO2 : Hid (isOwn it = false) := (by show _ = _; simp [isOwn, c1, c2])
            clear c1 c2
            go_wp2_with fail
            go_meet
            exact ⟨by rw [HOWN.out, HO2.out], rfl⟩
      case rest =>
        obtain ⟨rfl, rfl⟩ := hcut
        have fb1 : x1.cell? ⟨Fb, 0, none⟩ = some (.string mod) := by
          rw [cell_below HB1.out (Nat.lt_of_lt_of_le HFb.out.2.1.1 HBR.out.1.size), cell_gro HBR.out.1 HFb.out.2.1.1 HFb.out.2.1.2]; exact HFb.out.1
        have qF7 : Fb ≠ D7 := by have := HFb.out.2.1.1; have := HBR.out.1.size; have := HDD.out; omega
        have q67 : D6 ≠ D7 := fun e => hne67 e.symm
        have hsm : mod.size ≤ 10 := HSZ.out.1
        have hsi : it.id.size ≤ 40 := HIT.out.2.2.1
        have OX : Hid (x1.ownsRow B 50 3 u7 md'.length (pcells md')) := owns_kept HOW.out (fun g hg => HB1.out.block g hg)
        have BX : Hid (u.grownBy x1 m7.ownBlock ∧ u.heap.size ≤ D7) := ⟨gro_below HBR.out.1 HB1.out, by have := HDD.out; have := HBR.out.1.size; omega⟩
        go_upto_if 111 with fail
        go_cut [] from 96 to 171 (fun w' => Blk w' D7 #[.string (prOf mod it).ns, .string (prOf mod it).id] 48 ∧ Blk w' D6 #[.string it.ns, .string it.id, .int .u64 it.sid, .string ⟨#[]⟩] 43 ∧ w'.ownsRow B 50 3 u7 md'.length (pcells md') ∧ u.grownBy w' m7.ownBlock)
        case first =>
          cases ow
          · have HO2 : Hid (isOwn it = false) := HOWN.out.symm
            go_wp2_with fail
            go_meet
            exact ⟨by unfold prOf; rw [HO2.out]; exact K7.out, K6.out, OX.out, BX.out.1⟩
          · have HO2 : Hid (isOwn it = true) := HOWN.out.symm
            have N7 : Hid (u7.ownBlock ≠ some D7) := own_ne HOW.out (.inl (by have := HDD.out; omega))
            have hsz1 : ¬ (9223372036854775807 < mod.size + 1) := by omega
            have hsz2 : ¬ (9223372036854775807 < mod.size + 1 + it.id.size) := by omega
            go_wp2_with fail
            go_region_held3 (fun w' => w'.cell? ⟨Fb, 0, none⟩ = some (.string mod) ∧ w'.cell? ⟨D6, 1, none⟩ = some (.string it.id)) (first | (exact ⟨(cell_set_other _ ⟨D7, 1, none⟩ _ _ _ qF7).trans fb1, (cell_set_other _ ⟨D7, 1, none⟩ _ _ _ q67).trans d1⟩) | go_keep) (fail)
            all_goals
              go_wp2_with fail
              go_meet
              exact ⟨by unfold prOf; rw [HO2.out]; exact K7.out.set 1 _, K6.out.setOther (a := ⟨D7, 1, none⟩) q67 _, owns_setNe OX.out (a := ⟨D7, 1, none⟩) N7.out _, gro_same (gro_set BX.out.1 (a := ⟨D7, 1, none⟩) BX.out.2 _) rfl rfl rfl rfl⟩
        case rest =>
          obtain ⟨wd, hwd⟩ : ∃ x : World, x = wc := ⟨_, rfl⟩
          subst hwd
          obtain ⟨k7, k6, hO7, hB7⟩ := hcut
          obtain ⟨gK, hgK⟩ : ∃ x, x = gk := ⟨_, rfl⟩
          subst hgK
          obtain ⟨q, hq⟩ : ∃ q, q = prOf mod it := ⟨_, rfl⟩
          rw [← hq] at k7
          have eqs : q.sid = it.sid := by rw [hq]; rfl
          rw [← eqs] at k6
          have HDR : Hid ((its.map (prOf mod)).drop j = q :: (its.map (prOf mod)).drop (j + 1)) := (by show _ = _; rw [hq]; exact drop_map_cons HIT.out.1)
          have HO7 : Hid (wd.ownsRow B 50 3 u7 md'.length (pcells md')) := hO7
          obtain ⟨mo, mc, hu7, -, hrow, -⟩ := prow_of_owns hO7
          have HU7 : Hid (u7 = .slice mo md'.length mc) := hu7
          have HRW : Hid (PRow wd mo md') := hrow
          have HB7 : Hid (u.grownBy wd m7.ownBlock ∧ B ≤ wd.heap.size) := ⟨hB7, by have := hB7.size; have := HFb.out.2.2; omega⟩
          have L67 : Hid (Blk wd D7 #[.string q.ns, .string q.id] 48 ∧ Blk wd D6 #[.string it.ns, .string it.id, .int .u64 q.sid, .string ⟨#[]⟩] 43) := ⟨k7, k6⟩
          obtain ⟨c5, hc5⟩ : ∃ c, c = md'.length := ⟨_, rfl⟩
          have HC5 : Hid (c5 = md'.length) := hc5
          have hc52 : c5 ≤ 5000 := by have := HLE.out; have := HSZ.out; have := HN.out; omega
          rw [← hc5] at hu7
          rw [hu7]
          clear k7 k6 hO7 hB7 hq eqs hu7 hrow hc5 d0 d1 e1 ff fb1
          go_wp2_with fail
          go_loopg [18, 19, 123] c5 (fun gk b18 b19 t wx => ∃ k : Nat, k + gk = c5 ∧ t = .int .i64 k ∧ b18 = .bool (badB (md'.take k) q) ∧ b19 = .bool (dupB (md'.take k) q) ∧ Below wd.heap.size wd wx)
          case atStart => exact ⟨0, by omega, rfl, by simp [badB], by simp [dupB], Below.refl _ _⟩
          case round =>
            obtain ⟨k, hkg, rfl, hv1, hv2, hbk⟩ := hrel
            obtain ⟨b1, hb1'⟩ : ∃ b, b = badB (md'.take k) q := ⟨_, rfl⟩
            obtain ⟨b2, hb2'⟩ : ∃ b, b = dupB (md'.take k) q := ⟨_, rfl⟩
            rw [← hb1'] at hv1
            rw [← hb2'] at hv2
            subst hv1 hv2
            have HB12 : Hid (badB (md'.take k) q = b1 ∧ dupB (md'.take k) q = b2) := ⟨hb1'.symm, hb2'.symm⟩
            have HBK : Hid (Below wd.heap.size wd wr) := hbk
            clear hb1' hb2' hbk
            by_cases hk : k < c5
            · have hk0 : (0 : Int) ≤ (k : Int) := by omega
              have hk1 : (k : Int) < (c5 : Int) := by omega
              obtain ⟨gm, om, hmo, hgm, hmm⟩ := HRW.out (by have := HC5.out; omega)
              subst hmo
              obtain ⟨p, hp⟩ : ∃ p, md'[k]? = some p := ⟨md'[k]'(by have := HC5.out; omega), List.getElem?_eq_getElem _⟩
              have c0 : wr.cell? ⟨gm, om + k * 3, none⟩ = some (.string p.ns) := (cell_below HBK.out hgm _).trans (hmm k p hp).1
              have c1 : wr.cell? ⟨gm, om + k * 3 + 1, none⟩ = some (.string p.id) := (cell_below HBK.out hgm _).trans (hmm k p hp).2.1
              have c2 : wr.cell? ⟨gm, om + k * 3 + 2, none⟩ = some (.int .u64 p.sid) := (cell_below HBK.out hgm _).trans (hmm k p hp).2.2
              have HP : Hid (md'[k]? = some p) := hp
              clear hmm hp
              go_upto_region 35 with fail
              obtain ⟨D, hD⟩ : ∃ D, D = wr.heap.size := ⟨_, rfl⟩
              obtain ⟨x2, hx2⟩ : ∃ x2, x2 = wr.alloc (.cells #[.string p.ns, .string p.id, .int .u64 p.sid] 50) := ⟨_, rfl⟩
              rw [← hx2, ← hD]
              have kD : Blk x2 D #[.string p.ns, .string p.id, .int .u64 p.sid] 50 := by rw [hx2, hD]; exact Blk.new _ _ _
              have hb2 : Below wr.heap.size wr x2 := by rw [hx2]; exact (Below.refl _ _).alloc (Nat.le_refl _) _
              have HBX : Hid (Below wd.heap.size wd x2) := HBK.out.trans (hb2.mono HBK.out.size)
              have p0 : x2.cell? ⟨D, 0, none⟩ = some (.string p.ns) := kD.cell 0
              have p1 : x2.cell? ⟨D, 1, none⟩ = some (.string p.id) := kD.cell 1
              have p2 : x2.cell? ⟨D, 2, none⟩ = some (.int .u64 p.sid) := kD.cell 2
              have z0 : x2.cell? ⟨D7, 0, none⟩ = some (.string q.ns) := (cell_below HBX.out L67.out.1.lt _).trans (L67.out.1.cell 0)
              have z1 : x2.cell? ⟨D7, 1, none⟩ = some (.string q.id) := (cell_below HBX.out L67.out.1.lt _).trans (L67.out.1.cell 1)
              have z2 : x2.cell? ⟨D6, 2, none⟩ = some (.int .u64 q.sid) := (cell_below HBX.out L67.out.2.lt _).trans (L67.out.2.cell 2)
              clear hx2 hD kD hb2 c0 c1 c2 hk0 hk1
              by_cases hns : p.ns = q.ns
              · have yn : (p.ns.toList == q.ns.toList) = true := by rw [str_eq]; simp [hns]
                clear hns
                by_cases hid : p.id = q.id
                · have yi : (p.id.toList == q.id.toList) = true := by rw [str_eq]; simp [hid]
                  clear hid
                  by_cases hs : p.sid = q.sid
                  · have ys : (p.sid == q.sid) = true := by simp [hs]
                    clear hs
                    go_wp2_with fail
                    go_roundg (gk - 1)
                    case measure => omega
                    case rel => exact ⟨k + 1, by omega, by go_num, by rw [badB_snoc HP.out, sameK_str, yn, yi, ys, HB12.out.1]; simp, by rw [dupB_snoc HP.out, sameK_str, yn, yi, ys, HB12.out.2]; simp, HBX.out⟩
                  · have ys : (p.sid == q.sid) = false := by simp [hs]
                    clear hs
                    go_wp2_with fail
                    go_roundg (gk - 1)
                    case measure => omega
                    case rel => exact ⟨k + 1, by omega, by go_num, by rw [badB_snoc HP.out, sameK_str, yn, yi, ys, HB12.out.1]; simp, by rw [dupB_snoc HP.out, sameK_str, yn, yi, ys, HB12.out.2]; simp, HBX.out⟩
                · have yi : (p.id.toList == q.id.toList) = false := by rw [str_eq]; simp [hid]
                  clear hid
                  by_cases hs : p.sid = q.sid
                  · have ys : (p.sid == q.sid) = true := by simp [hs]
                    clear hs
                    go_wp2_with fail
                    go_roundg (gk - 1)
                    case measure => omega
                    case rel => exact ⟨k + 1, by omega, by go_num, by rw [badB_snoc HP.out, sameK_str, yn, yi, ys, HB12.out.1]; simp, by rw [dupB_snoc HP.out, sameK_str, yn, yi, ys, HB12.out.2]; simp, HBX.out⟩
                  · have ys : (p.sid == q.sid) = false := by simp [hs]
                    clear hs
                    go_wp2_with fail
                    go_roundg (gk - 1)
                    case measure => omega
                    case rel => exact ⟨k + 1, by omega, by go_num, by rw [badB_snoc HP.out, sameK_str, yn, yi, ys, HB12.out.1]; simp, by rw [dupB_snoc HP.out, sameK_str, yn, yi, ys, HB12.out.2]; simp, HBX.out⟩
              · have yn : (p.ns.toList == q.ns.toList) = false := by rw [str_eq]; simp [hns]
                clear hns
                by_cases hs : p.sid = q.sid
                · have ys : (p.sid == q.sid) = true := by simp [hs]
                  clear hs
                  go_wp2_with fail
                  go_roundg (gk - 1)
                  case measure => omega
                  case rel => exact ⟨k + 1, by omega, by go_num, by rw [badB_snoc HP.out, sameK_str, yn, ys, HB12.out.1]; simp, by rw [dupB_snoc HP.out, sameK_str, yn, ys, HB12.out.2]; simp, HBX.out⟩
                · have ys : (p.sid == q.sid) = false := by simp [hs]
                  clear hs
                  go_wp2_with fail
                  go_roundg (gk - 1)
                  case measure => omega
                  case rel => exact ⟨k + 1, by omega, by go_num, by rw [badB_snoc HP.out, sameK_str, yn, ys, HB12.out.1]; simp, by rw [dupB_snoc HP.out, sameK_str, yn, ys, HB12.out.2]; simp, HBX.out⟩
            · obtain rfl : k = c5 := by omega
              have et : md'.take k = md' := by rw [HC5.out, List.take_length]
              have HBD : Hid (badB md' q = b1 ∧ dupB md' q = b2) := (by have := HB12.out; rw [et] at this; exact this)
              have HOK : Hid (wr.ownsRow B 50 3 (.slice mo k mc) k (pcells md')) := (by
                have h1 := HO7.out
                rw [HU7.out, ← HC5.out] at h1
                exact owns_kept h1 (fun g hg => HBK.out.block g hg))
              have HBU : Hid (u.grownBy wr m7.ownBlock ∧ B ≤ wr.heap.size) := ⟨gro_below HB7.out.1 HBK.out, Nat.le_trans HB7.out.2 HBK.out.size⟩
              have OV : Hid (Own m7 u.heap.size (.slice mo k mc)) := (by have h1 := HBR.out.2; rw [HU7.out, ← HC5.out] at h1; exact h1)
              clear et hk
              cases b1
              · have HA2 : Hid (addL md (its.map (prOf mod)) = addL (stepL md' q) ((its.map (prOf mod)).drop (j + 1))) := (by show _ = _; rw [HAD.out, HDR.out]; simp [addL, HBD.out.1])
                cases b2
                · have z0 : wr.cell? ⟨D7, 0, none⟩ = some (.string q.ns) := (cell_below HBK.out L67.out.1.lt _).trans (L67.out.1.cell 0)
                  have z1 : wr.cell? ⟨D7, 1, none⟩ = some (.string q.id) := (cell_below HBK.out L67.out.1.lt _).trans (L67.out.1.cell 1)
                  have z2 : wr.cell? ⟨D6, 2, none⟩ = some (.int .u64 q.sid) := (cell_below HBK.out L67.out.2.lt _).trans (L67.out.2.cell 2)
                  have HST : Hid (stepL md' q = md' ++ [q]) := (by show _ = _; unfold stepL; rw [HBD.out.2]; rfl)
                  obtain ⟨ti, z, hi, hz, hs3, hb40, hz3⟩ := info50'
                  have HI6 : Hid (Ybaf.prog.info? 50 = some ti ∧ ti.zero = some z ∧ ti.size = 3 ∧ ti.bytes = 40 ∧ z.cells.size = 3) := ⟨hi, hz, hs3, hb40, hz3⟩
                  clear hi hz hs3 hb40 hz3
                  go_wp2_with (at_builtin; refine wpList_append_lies _ rfl _ _ _ rfl B 50 ti z 3 40 Ybaf.underlying30 HI6.out.1 HI6.out.2.1 HI6.out.2.2.1 HI6.out.2.2.2.1 HI6.out.2.2.2.2 (by omega) (.slice mo k mc) k (pcells md') rfl (owns_kept HOK.out (fun g hg => by exact Below.heap_alloc _ _ _ hg)) ⟨wr.heap.size, 0, none⟩ 1 1 [.string q.ns, .string q.id, .int .u64 q.sid] rfl rfl (by exact newsP _ _ rfl _ _ _) (by simp; exact ⟨rfl, rfl, rfl⟩) (by omega) (by unfold maxLen; omega) (by omega) (Nat.le_trans HBU.out.2 (by simp)) _ rfl ?_)
                  intro g2 cap2 w2 own2 grow2 hat2 hlt2
                  have OW2 : Hid (w2.ownsRow B 50 3 (.slice (some ⟨g2, 0, none⟩) (k + 1) cap2) (stepL md' q).length (pcells (stepL md' q))) := (by rw [HST.out, pcells_snoc, List.length_append, ← HC5.out]; exact own2)
                  have BW2 : Hid (u.grownBy w2 m7.ownBlock) := gro_app (ob := .cells #[.string q.ns, .string q.id, .int .u64 q.sid] 50) HBU.out.1 OV.out (by rfl) (by rfl) (by rfl) (by rfl) grow2
                  have OV2 : Hid (Own m7 u.heap.size (.slice (some ⟨g2, 0, none⟩) (k + 1) cap2)) := own_app OV.out hat2 (by have := HBU.out.1.size; simp; omega) _ _
                  have LS : Hid ((stepL md' q).length ≤ md.length + (j + 1)) := (by rw [HST.out]; have := HLE.out; show _ ≤ _; simp; omega)
                  clear own2 grow2 hat2 hlt2
                  go_wp2_with fail
                  go_roundg (gK - 1)
                  case measure => have := HGK.out; omega
                  case rel => exact ⟨rfl, j + 1, stepL md' q, by have := HJG.out; have := HGK.out; simp only [List.length_map]; omega, by go_num, LS.out, OW2.out, HA2.out, BW2.out, OV2.out⟩
                · have HST : Hid (stepL md' q = md') := (by show _ = _; unfold stepL; rw [HBD.out.2]; rfl)
                  go_wp2_with fail
                  go_roundg (gK - 1)
                  case measure => have := HGK.out; omega
                  case rel => exact ⟨rfl, j + 1, stepL md' q, by have := HJG.out; have := HGK.out; simp only [List.length_map]; omega, by go_num, by rw [HST.out]; have := HLE.out; omega, by rw [HST.out, ← HC5.out]; exact HOK.out, HA2.out, HBU.out.1, OV.out⟩
              · have HA2 : Hid (addL md (its.map (prOf mod)) = (true, md')) := (by show _ = _; rw [HAD.out, HDR.out]; simp [addL, HBD.out.1])
                go_wp2_with fail
                exact HK.out _ _ _ _ _ _ _ _ _ _ _ _ _ _ _ _ _ _ _ _ _ _ _ _ _ _ _ _ _ _ _ _ _ _ _ _ _ _ _ _ _ _ _ _ _ _ _ _ _ _ _ _ _ _ _ _ _ _ _ _ _ _ _ _ _ _ _ _ _ _ _ _ _ _ _ _ _ _ _ _ _ _ _ _ _ _ _ _ _ _ ⟨by rw [HA2.out], by rw [HA2.out, ← HC5.out]; exact HOK.out, HBU.out.1, OV.out⟩
    · obtain rfl : j = n := by have := HJG.out; have := HN.out; omega
      have ed : (its.map (prOf mod)).drop j = [] := by rw [HN.out]; simp
      have HE : Hid (addL md (its.map (prOf mod)) = (false, md')) := (by show _ = _; rw [HAD.out, ed]; rfl)
      clear ed
      go_wp2_with fail
      exact HK.out _ _ _ _ _ _ _ _ _ _ _ _ _ _ _ _ _ _ _ _ _ _ _ _ _ _ _ _ _ _ _ _ _ _ _ _ _ _ _ _ _ _ _ _ _ _ _ _ _ _ _ _ _ _ _ _ _ _ _ _ _ _ _ _ _ _ _ _ _ _ _ _ _ _ _ _ _ _ _ _ _ _ _ _ _ _ _ _ _ _ ⟨by rw [HE.out], by rw [HE.out]; exact HOW.out, HBR.out.1, HBR.out.2⟩
end Go.Proofs.YbulkauvkFmt
