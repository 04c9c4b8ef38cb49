/-
  The law asks the table for the identities of a file that was added.
-/
import Derived.Test.YbulkauvkFmtLf
namespace Go.Proofs.YbulkauvkFmt
open Go.RowKit Go.Extern.Stop Go.Stop Go.Extern Go.Deep

def IsAt3 (n : Nat) (x y : Code) : Prop := Ybaf.f3.body.bind (findSeq n) = some (x, y)

set_option maxHeartbeats 1600000 in
set_option maxRecDepth 100000 in
theorem law_l6 {x y : Code} (hxy : IsAt3 50 x y) {Q : Exit → Act → World → Prop} {T Fb cap m1 m2 n : Nat} {ao : Option Addr} {md : List Pr} {its : List It} {mod : ByteArray} {u : World}
    (f0 : u.cell? ⟨Fb, 0, none⟩ = some (.string mod)) (f7 : u.cell? ⟨Fb, 7, none⟩ = some (.slice ao its.length cap)) (hFb : Fb < u.heap.size) (hR : IRow u ao its) (kT : Blk u T #[.map (some m1), .map (some m2)] 29) (hM : Maps2 u m1 m2 n md) (hin : ∀ it ∈ its, prOf mod it ∈ md)
    (hfit : ∀ it ∈ its, it.fit) (hmod : mod.size ≤ 10) (hl : its.length ≤ 2000) {K : Act → World → Prop} (hk : ∀ a w', Code.wp Ybaf.prog y Q a w' → K a w')
    {sl0 sl1 sl2 sl3 sl4 sl5 sl7 sl8 sl9 sl11 sl12 sl13 sl14 sl15 sl16 sl17 sl18 sl19 sl20 sl21 sl22 sl23 sl24 sl25 sl26 sl27 sl28 sl29 sl30 sl31 sl32 sl33 sl34 sl35 sl36 sl37 sl38 sl39 sl40 sl41 sl42 sl43 sl44 sl45 sl46 sl47 sl48 sl49 sl50 sl51 sl52 sl53 sl54 sl55 sl56 sl57 sl58 sl59 sl60 sl61 sl62 sl63 sl64 sl65 sl66 sl67 sl68 sl69 sl70 sl71 sl72 sl73 sl74 sl75 sl76 sl77 sl78 sl79 sl80 sl81 sl82 sl83 sl84 sl85 sl86 sl87 sl88 sl89 sl90 sl91 sl92 sl93 sl94 sl95 sl96 sl97 sl98 sl99 sl100 sl101 sl102 sl103 sl104 sl105 sl106 sl107 sl108 sl109 sl110 sl111 sl112 sl113 sl114 sl115 sl116 sl117 sl118 sl119 sl120 sl121 sl122 sl123 sl124 sl125 sl126 sl127 sl128 sl129 sl130 sl131 sl132 sl133 sl134 sl135 sl136 sl137 sl138 sl139 sl140 sl141 sl142 sl143 sl144 sl145 sl146 sl147 sl148 sl149 sl150 sl151 sl152 sl153 sl154 sl155 sl156 sl157 sl158 sl159 sl160 sl161 sl162 sl163 sl164 sl165 sl166 sl167 sl168 sl169 sl170 sl171 sl172 sl173 sl174 sl175 sl176 sl177 sl178 sl179 sl180 sl181 sl182 sl183 sl184 sl185 sl186 sl187 sl188 sl189 sl190 sl191 sl192 sl193 sl194 sl195 sl196 sl197 sl198 sl199 sl200 sl201 sl202 sl203 sl204 sl205 sl206 sl207 sl208 sl209 sl210 sl211 sl212 sl213 sl214 sl215 sl216 sl217 sl218 sl219 sl220 sl221 sl222 sl223 sl224 sl225 sl226 sl227 sl228 sl229 sl230 sl231 sl232 sl233 sl234 sl235 sl236 sl237 sl238 sl239 sl240 sl241 sl242 sl243 sl244 sl245 sl246 sl247 sl248 sl249 sl250 sl251 sl252 sl253 sl254 sl255 sl256 sl257 sl258 sl259 sl260 sl261 sl262 : Value}
    (hQ : ∀ (v2 v23 v24 v25 v178 v179 v180 v181 v182 v183 v184 v185 v186 v187 v188 v189 v190 v191 v192 v193 v194 v195 v196 v197 v198 v199 v200 v201 v202 v203 v204 v205 v206 v207 v208 : Value) (w' : World), Below u.heap.size u w' → Q .normal ⟨#[sl0, sl1, v2, sl3, sl4, sl5, .pointer (some ⟨T, 0, none⟩), sl7, sl8, sl9, .pointer (some ⟨Fb, 0, none⟩), sl11, sl12, sl13, sl14, sl15, sl16, sl17, sl18, sl19, sl20, sl21, sl22, v23, v24, v25, sl26, sl27, sl28, sl29, sl30, sl31, sl32, sl33, sl34, sl35, sl36, sl37, sl38, sl39, sl40, sl41, sl42, sl43, sl44, sl45, sl46, sl47, sl48, sl49, sl50, sl51, sl52, sl53, sl54, sl55, sl56, sl57, sl58, sl59, sl60, sl61, sl62, sl63, sl64, sl65, sl66, sl67, sl68, sl69, sl70, sl71, sl72, sl73, sl74, sl75, sl76, sl77, sl78, sl79, sl80, sl81, sl82, sl83, sl84, sl85, sl86, sl87, sl88, sl89, sl90, sl91, sl92, sl93, sl94, sl95, sl96, sl97, sl98, sl99, sl100, sl101, sl102, sl103, sl104, sl105, sl106, sl107, sl108, sl109, sl110, sl111, sl112, sl113, sl114, sl115, sl116, sl117, sl118, sl119, sl120, sl121, sl122, sl123, sl124, sl125, sl126, sl127, sl128, sl129, sl130, sl131, sl132, sl133, sl134, sl135, sl136, sl137, sl138, sl139, sl140, sl141, sl142, sl143, sl144, sl145, sl146, sl147, sl148, sl149, sl150, sl151, sl152, sl153, sl154, sl155, sl156, sl157, sl158, sl159, sl160, sl161, sl162, sl163, sl164, sl165, sl166, sl167, sl168, sl169, sl170, sl171, sl172, sl173, sl174, sl175, sl176, sl177, v178, v179, v180, v181, v182, v183, v184, v185, v186, v187, v188, v189, v190, v191, v192, v193, v194, v195, v196, v197, v198, v199, v200, v201, v202, v203, v204, v205, v206, v207, v208, sl209, sl210, sl211, sl212, sl213, sl214, sl215, sl216, sl217, sl218, sl219, sl220, sl221, sl222, sl223, sl224, sl225, sl226, sl227, sl228, sl229, sl230, sl231, sl232, sl233, sl234, sl235, sl236, sl237, sl238, sl239, sl240, sl241, sl242, sl243, sl244, sl245, sl246, sl247, sl248, sl249, sl250, sl251, sl252, sl253, sl254, sl255, sl256, sl257, sl258, sl259, sl260, sl261, sl262], []⟩ w') :
    Code.wp Ybaf.prog x (Exit.then K Q) ⟨#[sl0, sl1, sl2, sl3, sl4, sl5, .pointer (some ⟨T, 0, none⟩), sl7, sl8, sl9, .pointer (some ⟨Fb, 0, none⟩), sl11, sl12, sl13, sl14, sl15, sl16, sl17, sl18, sl19, sl20, sl21, sl22, sl23, sl24, sl25, sl26, sl27, sl28, sl29, sl30, sl31, sl32, sl33, sl34, sl35, sl36, sl37, sl38, sl39, sl40, sl41, sl42, sl43, sl44, sl45, sl46, sl47, sl48, sl49, sl50, sl51, sl52, sl53, sl54, sl55, sl56, sl57, sl58, sl59, sl60, sl61, sl62, sl63, sl64, sl65, sl66, sl67, sl68, sl69, sl70, sl71, sl72, sl73, sl74, sl75, sl76, sl77, sl78, sl79, sl80, sl81, sl82, sl83, sl84, sl85, sl86, sl87, sl88, sl89, sl90, sl91, sl92, sl93, sl94, sl95, sl96, sl97, sl98, sl99, sl100, sl101, sl102, sl103, sl104, sl105, sl106, sl107, sl108, sl109, sl110, sl111, sl112, sl113, sl114, sl115, sl116, sl117, sl118, sl119, sl120, sl121, sl122, sl123, sl124, sl125, sl126, sl127, sl128, sl129, sl130, sl131, sl132, sl133, sl134, sl135, sl136, sl137, sl138, sl139, sl140, sl141, sl142, sl143, sl144, sl145, sl146, sl147, sl148, sl149, sl150, sl151, sl152, sl153, sl154, sl155, sl156, sl157, sl158, sl159, sl160, sl161, sl162, sl163, sl164, sl165, sl166, sl167, sl168, sl169, sl170, sl171, sl172, sl173, sl174, sl175, sl176, sl177, sl178, sl179, sl180, sl181, sl182, sl183, sl184, sl185, sl186, sl187, sl188, sl189, sl190, sl191, sl192, sl193, sl194, sl195, sl196, sl197, sl198, sl199, sl200, sl201, sl202, sl203, sl204, sl205, sl206, sl207, sl208, sl209, sl210, sl211, sl212, sl213, sl214, sl215, sl216, sl217, sl218, sl219, sl220, sl221, sl222, sl223, sl224, sl225, sl226, sl227, sl228, sl229, sl230, sl231, sl232, sl233, sl234, sl235, sl236, sl237, sl238, sl239, sl240, sl241, sl242, sl243, sl244, sl245, sl246, sl247, sl248, sl249, sl250, sl251, sl252, sl253, sl254, sl255, sl256, sl257, sl258, sl259, sl260, sl261, sl262], []⟩ u := by
  unfold IsAt3 at hxy
  conv at hxy => lhs; whnf
  obtain ⟨rfl, rfl⟩ := Prod.mk.inj (Option.some.inj hxy)
  clear hxy
  have HQ : Hid (∀ (v2 v23 v24 v25 v178 v179 v180 v181 v182 v183 v184 v185 v186 v187 v188 v189 v190 v191 v192 v193 v194 v195 v196 v197 v198 v199 v200 v201 v202 v203 v204 v205 v206 v207 v208 : Value) (w' : World), Below u.heap.size u w' → Q .normal ⟨#[sl0, sl1, v2, sl3, sl4, sl5, .pointer (some ⟨T, 0, none⟩), sl7, sl8, sl9, .pointer (some ⟨Fb, 0, none⟩), sl11, sl12, sl13, sl14, sl15, sl16, sl17, sl18, sl19, sl20, sl21, sl22, v23, v24, v25, sl26, sl27, sl28, sl29, sl30, sl31, sl32, sl33, sl34, sl35, sl36, sl37, sl38, sl39, sl40, sl41, sl42, sl43, sl44, sl45, sl46, sl47, sl48, sl49, sl50, sl51, sl52, sl53, sl54, sl55, sl56, sl57, sl58, sl59, sl60, sl61, sl62, sl63, sl64, sl65, sl66, sl67, sl68, sl69, sl70, sl71, sl72, sl73, sl74, sl75, sl76, sl77, sl78, sl79, sl80, sl81, sl82, sl83, sl84, sl85, sl86, sl87, sl88, sl89, sl90, sl91, sl92, sl93, sl94, sl95, sl96, sl97, sl98, sl99, sl100, sl101, sl102, sl103, sl104, sl105, sl106, sl107, sl108, sl109, sl110, sl111, sl112, sl113, sl114, sl115, sl116, sl117, sl118, sl119, sl120, sl121, sl122, sl123, sl124, sl125, sl126, sl127, sl128, sl129, sl130, sl131, sl132, sl133, sl134, sl135, sl136, sl137, sl138, sl139, sl140, sl141, sl142, sl143, sl144, sl145, sl146, sl147, sl148, sl149, sl150, sl151, sl152, sl153, sl154, sl155, sl156, sl157, sl158, sl159, sl160, sl161, sl162, sl163, sl164, sl165, sl166, sl167, sl168, sl169, sl170, sl171, sl172, sl173, sl174, sl175, sl176, sl177, v178, v179, v180, v181, v182, v183, v184, v185, v186, v187, v188, v189, v190, v191, v192, v193, v194, v195, v196, v197, v198, v199, v200, v201, v202, v203, v204, v205, v206, v207, v208, sl209, sl210, sl211, sl212, sl213, sl214, sl215, sl216, sl217, sl218, sl219, sl220, sl221, sl222, sl223, sl224, sl225, sl226, sl227, sl228, sl229, sl230, sl231, sl232, sl233, sl234, sl235, sl236, sl237, sl238, sl239, sl240, sl241, sl242, sl243, sl244, sl245, sl246, sl247, sl248, sl249, sl250, sl251, sl252, sl253, sl254, sl255, sl256, sl257, sl258, sl259, sl260, sl261, sl262], []⟩ w') := hQ
  have HFb : Hid (u.cell? ⟨Fb, 0, none⟩ = some (.string mod) ∧ Fb < u.heap.size) := ⟨f0, hFb⟩
  have HR : Hid (IRow u ao its ∧ (∀ it ∈ its, prOf mod it ∈ md) ∧ ∀ it ∈ its, it.fit) := ⟨hR, hin, hfit⟩
  have HM : Hid (Maps2 u m1 m2 n md ∧ Blk u T #[.map (some m1), .map (some m2)] 29) := ⟨hM, kT⟩
  have HSZ : Hid (mod.size ≤ 10 ∧ its.length ≤ 2000) := ⟨hmod, hl⟩
  obtain ⟨c, hc⟩ : ∃ c, c = its.length := ⟨_, rfl⟩
  rw [← hc] at f7
  have HC : Hid (c = its.length) := hc
  clear hQ f0 hFb hR hin hfit hM kT hmod hl hc
  go_wp2_with fail
  go_loopg [183] c (fun gk t wx => ∃ k : Nat, k + gk = c ∧ t = .int .i64 k ∧ Below u.heap.size u wx)
  case atStart => exact ⟨0, by omega, rfl, Below.refl _ _⟩
  case round =>
    obtain ⟨k, hkg, rfl, hbr⟩ := hrel
    have HBR : Hid (Below u.heap.size u wr) := hbr
    have hc2 : c ≤ 2000 := by have := HSZ.out; have := HC.out; omega
    clear hbr
    by_cases hk : k < c
    · have hk0 : (0 : Int) ≤ (k : Int) := by omega
      have hk1 : (k : Int) < (c : Int) := by omega
      obtain ⟨g, o, rfl, hg, hmm⟩ := HR.out.1 (by have := HC.out; omega)
      obtain ⟨it, hit⟩ : ∃ it, its[k]? = some it := ⟨its[k]'(by have := HC.out; omega), List.getElem?_eq_getElem _⟩
      have i0 : wr.cell? ⟨g, o + k * 4, none⟩ = some (.string it.ns) := (cell_below HBR.out hg _).trans (hmm k it hit).1
      have i1 : wr.cell? ⟨g, o + k * 4 + 1, none⟩ = some (.string it.id) := (cell_below HBR.out hg _).trans (hmm k it hit).2.1
      have i2 : wr.cell? ⟨g, o + k * 4 + 2, none⟩ = some (.int .u64 it.sid) := (cell_below HBR.out hg _).trans (hmm k it hit).2.2.1
      have i3 : wr.cell? ⟨g, o + k * 4 + 3, none⟩ = some (.string ⟨#[]⟩) := (cell_below HBR.out hg _).trans (hmm k it hit).2.2.2
      have HIT : Hid (it.fit ∧ prOf mod it ∈ md) := ⟨HR.out.2.2 it (List.mem_of_getElem? hit), HR.out.2.1 it (List.mem_of_getElem? hit)⟩
      clear hmm hit
      go_upto_region 53 with fail
      obtain ⟨D, hD⟩ : ∃ D, D = wr.heap.size := ⟨_, rfl⟩
      obtain ⟨x1, hx1⟩ : ∃ x1, x1 = wr.alloc (.cells #[.string it.ns, .string it.id, .int .u64 it.sid, .string ⟨#[]⟩] 43) := ⟨_, rfl⟩
      rw [← hx1, ← hD]
      have kD : Blk x1 D #[.string it.ns, .string it.id, .int .u64 it.sid, .string ⟨#[]⟩] 43 := by rw [hx1, hD]; exact Blk.new _ _ _
      have hb1 : Below wr.heap.size wr x1 := by rw [hx1]; exact (Below.refl _ _).alloc (Nat.le_refl _) _
      have HB1 : Hid (Below u.heap.size u x1) := HBR.out.trans (hb1.mono HBR.out.size)
      have d0 : x1.cell? ⟨D, 0, none⟩ = some (.string it.ns) := kD.cell 0
      have d1 : x1.cell? ⟨D, 1, none⟩ = some (.string it.id) := kD.cell 1
      have d2 : x1.cell? ⟨D, 2, none⟩ = some (.int .u64 it.sid) := kD.cell 2
      have fb : x1.cell? ⟨Fb, 0, none⟩ = some (.string mod) := (cell_below HB1.out HFb.out.2 _).trans HFb.out.1
      clear hx1 hD kD hb1 i0 i1 i2 i3
      by_cases hi : it.ns = identB
      · have y1 : (it.ns.toList == [105, 100, 101, 110, 116, 105, 116, 121]) = true := by rw [ident_eq]; simp [hi]
        have HID : Hid (∀ j, Calls Ybaf.prog 10 #[.pointer (some ⟨T, 0, none⟩), .string mod, .string it.id] (x1.drewN j) fun e w' => e = .returned (.tuple #[.int .u64 it.sid, .bool true]) ∧ w' = x1.drewN j) := fun j => by
          have hMx : Maps2 (x1.drewN j) m1 m2 n md := HM.out.1.of_block (HB1.out.block m1 HM.out.1.s.lt) (HB1.out.block m2 HM.out.1.i.lt)
          have kTx : Blk (x1.drewN j) T #[.map (some m1), .map (some m2)] 29 := HM.out.2.of_block (HB1.out.block T HM.out.2.lt)
          have ho : isOwn it = true := by simp [isOwn, hi]
          refine (identity_any T m1 m2 n md (prOf mod it) mod it.id (x1.drewN j) kTx hMx HIT.out.2 (by unfold prOf; rw [ho, hi]; rfl) ⟨by have := HSZ.out.1; omega, HIT.out.1.2.1⟩).mono ?_
          rintro e w' ⟨rfl, rfl⟩
          exact ⟨rfl, rfl⟩
        have y2 : (it.sid == it.sid) = true := by simp
        clear hi
        go_upto_region 54 with fail
        go_quiet (first | (go_at_call 10; with_reducible refine Calls.quiet_of_same (HID.out _)))
        go_wp2_with fail
        go_roundg (gk - 1)
        case measure => omega
        case rel => exact ⟨k + 1, by omega, by go_num, below_drawn HB1.out _⟩
      · have y1 : (it.ns.toList == [105, 100, 101, 110, 116, 105, 116, 121]) = false := by rw [ident_eq]; simp [hi]
        clear hi
        go_wp2_with fail
        go_roundg (gk - 1)
        case measure => omega
        case rel => exact ⟨k + 1, by omega, by go_num, HB1.out⟩
    · obtain rfl : k = c := by omega
      go_wp2_with fail
      exact HQ.out _ _ _ _ _ _ _ _ _ _ _ _ _ _ _ _ _ _ _ _ _ _ _ _ _ _ _ _ _ _ _ _ _ _ _ _ HBR.out
end Go.Proofs.YbulkauvkFmt
