/-
  The law behind its great loop: the table against the model.
-/
import Derived.Test.YbulkauvkFmtAdd2
namespace Go.Proofs.YbulkauvkFmt
open Go.RowKit Go.Extern.Stop Go.Stop Go.Extern Go.Deep

def IsIf3 (n : Nat) (x c y : Code) : Prop := Ybaf.f3.body.bind (findIf n) = some (x, c, y)
/-- the model's row: pair j at offset o + j * 3 -/
def PAt (w : World) (g o : Nat) (p : Pr) : Prop :=
  w.cell? ⟨g, o, none⟩ = some (.string p.ns) ∧ w.cell? ⟨g, o + 1, none⟩ = some (.string p.id) ∧ w.cell? ⟨g, o + 2, none⟩ = some (.int .u64 p.sid)
def PRow (w : World) (ao : Option Addr) (ms : List Pr) : Prop :=
  0 < ms.length → ∃ g o, ao = some ⟨g, o, none⟩ ∧ g < w.heap.size ∧ ∀ j m, ms[j]? = some m → PAt w g (o + j * 3) m
theorem PRow.same_below {w w' : World} {ao : Option Addr} {ms : List Pr} (h : PRow w ao ms) (hb : Below w.heap.size w w') : PRow w' ao ms := fun hl => by
  obtain ⟨g, o, rfl, hg, hm⟩ := h hl
  exact ⟨g, o, rfl, Nat.lt_of_lt_of_le hg hb.size, fun j m hj => ⟨(cell_below hb hg _).trans (hm j m hj).1, (cell_below hb hg _).trans (hm j m hj).2.1, (cell_below hb hg _).trans (hm j m hj).2.2⟩⟩

set_option maxHeartbeats 1600000 in
set_option maxRecDepth 100000 in
theorem law_fin_some {x c y : Code} (hxy : IsIf3 59 x c y) {H T m1 m2 n mc : Nat} {mo : Option Addr} {md : List Pr} {w u : World} (kT : Blk u T #[.map (some m1), .map (some m2)] 29) (hM : Maps2 u m1 m2 n md) (hR : PRow u mo md) (hl : md.length ≤ 2000) (hH : H ≤ u.heap.size) (hb : Below H w u) {K1 K : Act → World → Prop} (hk1 : ∀ a w', Code.wp Ybaf.prog c (Exit.then K (bodyPost Ybaf.prog Ybaf.f3 fun e w' => e = .returned (.bool true) ∧ Below H w w')) a w' → K1 a w') (hk : ∀ a w', Code.wp Ybaf.prog y (bodyPost Ybaf.prog Ybaf.f3 fun e w' => e = .returned (.bool true) ∧ Below H w w') a w' → K a w')
    {sl0 sl1 sl2 sl3 sl4 sl5 sl8 sl9 sl10 sl11 sl12 sl13 sl14 sl15 sl16 sl17 sl18 sl19 sl20 sl21 sl22 sl23 sl24 sl25 sl26 sl27 sl28 sl29 sl30 sl31 sl32 sl33 sl34 sl35 sl36 sl37 sl38 sl39 sl40 sl41 sl42 sl43 sl44 sl45 sl46 sl47 sl48 sl49 sl50 sl51 sl52 sl53 sl54 sl55 sl56 sl57 sl58 sl59 sl60 sl61 sl62 sl63 sl64 sl65 sl66 sl67 sl68 sl69 sl70 sl71 sl72 sl73 sl74 sl75 sl76 sl77 sl78 sl79 sl80 sl81 sl82 sl83 sl84 sl85 sl86 sl87 sl88 sl89 sl90 sl91 sl92 sl93 sl94 sl95 sl96 sl97 sl98 sl99 sl100 sl101 sl102 sl103 sl104 sl105 sl106 sl107 sl108 sl109 sl110 sl111 sl112 sl113 sl114 sl115 sl116 sl117 sl118 sl119 sl120 sl121 sl122 sl123 sl124 sl125 sl126 sl127 sl128 sl129 sl130 sl131 sl132 sl133 sl134 sl135 sl136 sl137 sl138 sl139 sl140 sl141 sl142 sl143 sl144 sl145 sl146 sl147 sl148 sl149 sl150 sl151 sl152 sl153 sl154 sl155 sl156 sl157 sl158 sl159 sl160 sl161 sl162 sl163 sl164 sl165 sl166 sl167 sl168 sl169 sl170 sl171 sl172 sl173 sl174 sl175 sl176 sl177 sl178 sl179 sl180 sl181 sl182 sl183 sl184 sl185 sl186 sl187 sl188 sl189 sl190 sl191 sl192 sl193 sl194 sl195 sl196 sl197 sl198 sl199 sl200 sl201 sl202 sl203 sl204 sl205 sl206 sl207 sl208 sl209 sl210 sl211 sl212 sl213 sl214 sl215 sl216 sl217 sl218 sl219 sl220 sl221 sl222 sl223 sl224 sl225 sl226 sl227 sl228 sl229 sl230 sl231 sl232 sl233 sl234 sl235 sl236 sl237 sl238 sl239 sl240 sl241 sl242 sl243 sl244 sl245 sl246 sl247 sl248 sl249 sl250 sl251 sl252 sl253 sl254 sl255 sl256 sl257 sl258 sl259 sl260 sl261 sl262 : Value} :
    Code.wp Ybaf.prog x (Exit.then K1 (Exit.then K (bodyPost Ybaf.prog Ybaf.f3 fun e w' => e = .returned (.bool true) ∧ Below H w w'))) ⟨#[sl0, sl1, sl2, sl3, sl4, sl5, .pointer (some ⟨T, 0, none⟩), .slice mo md.length mc, sl8, sl9, sl10, sl11, sl12, sl13, sl14, sl15, sl16, sl17, sl18, sl19, sl20, sl21, sl22, sl23, sl24, sl25, sl26, sl27, sl28, sl29, sl30, sl31, sl32, sl33, sl34, sl35, sl36, sl37, sl38, sl39, sl40, sl41, sl42, sl43, sl44, sl45, sl46, sl47, sl48, sl49, sl50, sl51, sl52, sl53, sl54, sl55, sl56, sl57, sl58, sl59, sl60, sl61, sl62, sl63, sl64, sl65, sl66, sl67, sl68, sl69, sl70, sl71, sl72, sl73, sl74, sl75, sl76, sl77, sl78, sl79, sl80, sl81, sl82, sl83, sl84, sl85, sl86, sl87, sl88, sl89, sl90, sl91, sl92, sl93, sl94, sl95, sl96, sl97, sl98, sl99, sl100, sl101, sl102, sl103, sl104, sl105, sl106, sl107, sl108, sl109, sl110, sl111, sl112, sl113, sl114, sl115, sl116, sl117, sl118, sl119, sl120, sl121, sl122, sl123, sl124, sl125, sl126, sl127, sl128, sl129, sl130, sl131, sl132, sl133, sl134, sl135, sl136, sl137, sl138, sl139, sl140, sl141, sl142, sl143, sl144, sl145, sl146, sl147, sl148, sl149, sl150, sl151, sl152, sl153, sl154, sl155, sl156, sl157, sl158, sl159, sl160, sl161, sl162, sl163, sl164, sl165, sl166, sl167, sl168, sl169, sl170, sl171, sl172, sl173, sl174, sl175, sl176, sl177, sl178, sl179, sl180, sl181, sl182, sl183, sl184, sl185, sl186, sl187, sl188, sl189, sl190, sl191, sl192, sl193, sl194, sl195, sl196, sl197, sl198, sl199, sl200, sl201, sl202, sl203, sl204, sl205, sl206, sl207, sl208, sl209, sl210, sl211, sl212, sl213, sl214, sl215, sl216, sl217, sl218, sl219, sl220, sl221, sl222, sl223, sl224, sl225, sl226, sl227, sl228, sl229, sl230, sl231, sl232, sl233, sl234, sl235, sl236, sl237, sl238, sl239, sl240, sl241, sl242, sl243, sl244, sl245, sl246, sl247, sl248, sl249, sl250, sl251, sl252, sl253, sl254, sl255, sl256, sl257, sl258, sl259, sl260, sl261, sl262], []⟩ u := by
  unfold IsIf3 at hxy
  conv at hxy => lhs; whnf
  obtain ⟨rfl, h2⟩ := Prod.mk.inj (Option.some.inj hxy)
  obtain ⟨rfl, rfl⟩ := Prod.mk.inj h2
  clear hxy h2
  have t0 : u.cell? ⟨T, 0, none⟩ = some (.map (some m1)) := kT.cell 0
  have t1 : u.cell? ⟨T, 1, none⟩ = some (.map (some m2)) := kT.cell 1
  obtain ⟨c, hc⟩ : ∃ c, c = md.length := ⟨_, rfl⟩
  have q1 : (Builtin.len_ #[26] 3 #[.map (some m1)]).run Ybaf.prog u = .ok (.int .i64 c) u := by have := hM.s.len Ybaf.underlying26 3; rw [sidsL_len, ← hc] at this; exact this
  have q2 : (Builtin.len_ #[27] 3 #[.map (some m2)]).run Ybaf.prog u = .ok (.int .i64 c) u := by have := hM.i.len Ybaf.underlying27 3; rw [itemsL_len, ← hc] at this; exact this
  have HC : Hid (c = md.length) := hc
  have HM : Hid (Maps2 u m1 m2 n md ∧ Blk u T #[.map (some m1), .map (some m2)] 29) := ⟨hM, kT⟩
  have HR : Hid (PRow u mo md) := hR
  have HB : Hid (Below H w u ∧ H ≤ u.heap.size) := ⟨hb, hH⟩
  have y1 : ((c : Int) == (c : Int)) = true := by simp
  rw [← hc] at hl ⊢
  clear hc kT hM hR hH hb
  go_wp2_with fail
  go_loopg [226] c (fun gk t wx => ∃ k : Nat, k + gk = c ∧ t = .int .i64 k ∧ Below u.heap.size u wx)
  case atStart => exact ⟨0, by omega, rfl, Below.refl _ _⟩
  case round =>
    obtain ⟨k, hkg, rfl, hbr⟩ := hrel
    have HBR : Hid (Below u.heap.size u wr) := hbr
    clear hbr q1 q2 t0 t1
    by_cases hk : k < c
    · have hk0 : (0 : Int) ≤ (k : Int) := by omega
      have hk1 : (k : Int) < (c : Int) := by omega
      obtain ⟨g, o, rfl, hg, hmm⟩ := HR.out (by have := HC.out; omega)
      obtain ⟨p, hp⟩ : ∃ p, md[k]? = some p := ⟨md[k]'(by have := HC.out; omega), List.getElem?_eq_getElem _⟩
      have hpm : p ∈ md := List.mem_of_getElem? hp
      have c0 : wr.cell? ⟨g, o + k * 3, none⟩ = some (.string p.ns) := (cell_below HBR.out hg _).trans (hmm k p hp).1
      have c1 : wr.cell? ⟨g, o + k * 3 + 1, none⟩ = some (.string p.id) := (cell_below HBR.out hg _).trans (hmm k p hp).2.1
      have c2 : wr.cell? ⟨g, o + k * 3 + 2, none⟩ = some (.int .u64 p.sid) := (cell_below HBR.out hg _).trans (hmm k p hp).2.2
      have HPM : Hid (p ∈ md) := hpm
      clear hmm hp hpm
      go_upto_region 64 with fail
      obtain ⟨D, hD⟩ : ∃ D, D = wr.heap.size := ⟨_, rfl⟩
      obtain ⟨x1, hx1⟩ : ∃ x1, x1 = wr.alloc (.cells #[.string p.ns, .string p.id, .int .u64 p.sid] 50) := ⟨_, rfl⟩
      rw [← hx1, ← hD]
      have kD : Blk x1 D #[.string p.ns, .string p.id, .int .u64 p.sid] 50 := by rw [hx1, hD]; exact Blk.new _ _ _
      have hb1 : Below wr.heap.size wr x1 := by rw [hx1]; exact (Below.refl _ _).alloc (Nat.le_refl _) _
      have HB1 : Hid (Below u.heap.size u x1) := HBR.out.trans (hb1.mono HBR.out.size)
      have Mx : Maps2 x1 m1 m2 n md := HM.out.1.of_block (HB1.out.block m1 HM.out.1.s.lt) (HB1.out.block m2 HM.out.1.i.lt)
      have r1 : (Instr.lookup 26 (.map (some m1)) (.agg #[.string p.ns, .string p.id]) true).run Ybaf.prog x1 = .ok (.tuple #[.int .u64 p.sid, .bool true]) x1 := Mx.sHit HPM.out rfl
      have r2 : (Instr.lookup 27 (.map (some m2)) (.int .u64 p.sid) true).run Ybaf.prog x1 = .ok (.tuple #[.agg #[.string p.ns, .string p.id], .bool true]) x1 := Mx.iHit HPM.out rfl
      have kTx := HM.out.2.below HB1.out HM.out.2.lt
      have t0 : x1.cell? ⟨T, 0, none⟩ = some (.map (some m1)) := kTx.cell 0
      have t1 : x1.cell? ⟨T, 1, none⟩ = some (.map (some m2)) := kTx.cell 1
      have d0 : x1.cell? ⟨D, 0, none⟩ = some (.string p.ns) := kD.cell 0
      have d1 : x1.cell? ⟨D, 1, none⟩ = some (.string p.id) := kD.cell 1
      have d2 : x1.cell? ⟨D, 2, none⟩ = some (.int .u64 p.sid) := kD.cell 2
      have hDl := kD.lt
      have z1 : (p.sid == p.sid) = true := by simp
      have z2 : (p.ns.toList == p.ns.toList) = true := by simp
      have z3 : (p.id.toList == p.id.toList) = true := by simp
      clear hx1 hD kD hb1 Mx kTx c0 c1 c2
      go_wp2_with fail
      go_roundg (gk - 1)
      case measure => omega
      case rel => exact ⟨k + 1, by omega, by go_num, HB1.out.alloc HB1.out.size _⟩
    · obtain rfl : k = c := by omega
      go_wp2_with fail
      go_ret
      exact ⟨rfl, HB.out.1.trans (HBR.out.mono HB.out.2)⟩

set_option maxHeartbeats 1600000 in
set_option maxRecDepth 100000 in
theorem law_fin_none {x c y : Code} (hxy : IsIf3 59 x c y) {H T mc : Nat} {mo : Option Addr} {w u : World} (kT : Blk u T #[.map none, .map none] 29) (hb : Below H w u) {K1 K : Act → World → Prop} (hk1 : ∀ a w', Code.wp Ybaf.prog c (Exit.then K (bodyPost Ybaf.prog Ybaf.f3 fun e w' => e = .returned (.bool true) ∧ Below H w w')) a w' → K1 a w') (hk : ∀ a w', Code.wp Ybaf.prog y (bodyPost Ybaf.prog Ybaf.f3 fun e w' => e = .returned (.bool true) ∧ Below H w w') a w' → K a w')
    {sl0 sl1 sl2 sl3 sl4 sl5 sl8 sl9 sl10 sl11 sl12 sl13 sl14 sl15 sl16 sl17 sl18 sl19 sl20 sl21 sl22 sl23 sl24 sl25 sl26 sl27 sl28 sl29 sl30 sl31 sl32 sl33 sl34 sl35 sl36 sl37 sl38 sl39 sl40 sl41 sl42 sl43 sl44 sl45 sl46 sl47 sl48 sl49 sl50 sl51 sl52 sl53 sl54 sl55 sl56 sl57 sl58 sl59 sl60 sl61 sl62 sl63 sl64 sl65 sl66 sl67 sl68 sl69 sl70 sl71 sl72 sl73 sl74 sl75 sl76 sl77 sl78 sl79 sl80 sl81 sl82 sl83 sl84 sl85 sl86 sl87 sl88 sl89 sl90 sl91 sl92 sl93 sl94 sl95 sl96 sl97 sl98 sl99 sl100 sl101 sl102 sl103 sl104 sl105 sl106 sl107 sl108 sl109 sl110 sl111 sl112 sl113 sl114 sl115 sl116 sl117 sl118 sl119 sl120 sl121 sl122 sl123 sl124 sl125 sl126 sl127 sl128 sl129 sl130 sl131 sl132 sl133 sl134 sl135 sl136 sl137 sl138 sl139 sl140 sl141 sl142 sl143 sl144 sl145 sl146 sl147 sl148 sl149 sl150 sl151 sl152 sl153 sl154 sl155 sl156 sl157 sl158 sl159 sl160 sl161 sl162 sl163 sl164 sl165 sl166 sl167 sl168 sl169 sl170 sl171 sl172 sl173 sl174 sl175 sl176 sl177 sl178 sl179 sl180 sl181 sl182 sl183 sl184 sl185 sl186 sl187 sl188 sl189 sl190 sl191 sl192 sl193 sl194 sl195 sl196 sl197 sl198 sl199 sl200 sl201 sl202 sl203 sl204 sl205 sl206 sl207 sl208 sl209 sl210 sl211 sl212 sl213 sl214 sl215 sl216 sl217 sl218 sl219 sl220 sl221 sl222 sl223 sl224 sl225 sl226 sl227 sl228 sl229 sl230 sl231 sl232 sl233 sl234 sl235 sl236 sl237 sl238 sl239 sl240 sl241 sl242 sl243 sl244 sl245 sl246 sl247 sl248 sl249 sl250 sl251 sl252 sl253 sl254 sl255 sl256 sl257 sl258 sl259 sl260 sl261 sl262 : Value} :
    Code.wp Ybaf.prog x (Exit.then K1 (Exit.then K (bodyPost Ybaf.prog Ybaf.f3 fun e w' => e = .returned (.bool true) ∧ Below H w w'))) ⟨#[sl0, sl1, sl2, sl3, sl4, sl5, .pointer (some ⟨T, 0, none⟩), .slice mo 0 mc, sl8, sl9, sl10, sl11, sl12, sl13, sl14, sl15, sl16, sl17, sl18, sl19, sl20, sl21, sl22, sl23, sl24, sl25, sl26, sl27, sl28, sl29, sl30, sl31, sl32, sl33, sl34, sl35, sl36, sl37, sl38, sl39, sl40, sl41, sl42, sl43, sl44, sl45, sl46, sl47, sl48, sl49, sl50, sl51, sl52, sl53, sl54, sl55, sl56, sl57, sl58, sl59, sl60, sl61, sl62, sl63, sl64, sl65, sl66, sl67, sl68, sl69, sl70, sl71, sl72, sl73, sl74, sl75, sl76, sl77, sl78, sl79, sl80, sl81, sl82, sl83, sl84, sl85, sl86, sl87, sl88, sl89, sl90, sl91, sl92, sl93, sl94, sl95, sl96, sl97, sl98, sl99, sl100, sl101, sl102, sl103, sl104, sl105, sl106, sl107, sl108, sl109, sl110, sl111, sl112, sl113, sl114, sl115, sl116, sl117, sl118, sl119, sl120, sl121, sl122, sl123, sl124, sl125, sl126, sl127, sl128, sl129, sl130, sl131, sl132, sl133, sl134, sl135, sl136, sl137, sl138, sl139, sl140, sl141, sl142, sl143, sl144, sl145, sl146, sl147, sl148, sl149, sl150, sl151, sl152, sl153, sl154, sl155, sl156, sl157, sl158, sl159, sl160, sl161, sl162, sl163, sl164, sl165, sl166, sl167, sl168, sl169, sl170, sl171, sl172, sl173, sl174, sl175, sl176, sl177, sl178, sl179, sl180, sl181, sl182, sl183, sl184, sl185, sl186, sl187, sl188, sl189, sl190, sl191, sl192, sl193, sl194, sl195, sl196, sl197, sl198, sl199, sl200, sl201, sl202, sl203, sl204, sl205, sl206, sl207, sl208, sl209, sl210, sl211, sl212, sl213, sl214, sl215, sl216, sl217, sl218, sl219, sl220, sl221, sl222, sl223, sl224, sl225, sl226, sl227, sl228, sl229, sl230, sl231, sl232, sl233, sl234, sl235, sl236, sl237, sl238, sl239, sl240, sl241, sl242, sl243, sl244, sl245, sl246, sl247, sl248, sl249, sl250, sl251, sl252, sl253, sl254, sl255, sl256, sl257, sl258, sl259, sl260, sl261, sl262], []⟩ u := by
  unfold IsIf3 at hxy
  conv at hxy => lhs; whnf
  obtain ⟨rfl, h2⟩ := Prod.mk.inj (Option.some.inj hxy)
  obtain ⟨rfl, rfl⟩ := Prod.mk.inj h2
  clear hxy h2
  have t0 : u.cell? ⟨T, 0, none⟩ = some (.map none) := kT.cell 0
  have t1 : u.cell? ⟨T, 1, none⟩ = some (.map none) := kT.cell 1
  have q1 : (Builtin.len_ #[26] 3 #[.map none]).run Ybaf.prog u = .ok (.int .i64 0) u := Maps.len_nil Ybaf.underlying26 3
  have q2 : (Builtin.len_ #[27] 3 #[.map none]).run Ybaf.prog u = .ok (.int .i64 0) u := Maps.len_nil Ybaf.underlying27 3
  have HB : Hid (Below H w u) := hb
  clear kT hb
  go_wp2_with fail
  go_loopg [226] 0 (fun _ t wx => t = .int .i64 0 ∧ u = wx)
  case atStart => exact ⟨rfl, rfl⟩
  case round =>
    obtain ⟨rfl, rfl⟩ := hrel
    go_wp2_with fail
    go_ret
    exact ⟨rfl, HB.out⟩

end Go.Proofs.YbulkauvkFmt
