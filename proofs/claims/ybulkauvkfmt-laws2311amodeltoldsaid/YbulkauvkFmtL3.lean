/-
  The law builds a file's items.
-/
import Derived.Test.YbulkauvkFmtL4
import Derived.Test.YbulkauvkFmtOpen
import Derived.Test.YbulkauvkFmtHeld
namespace Go.Proofs.YbulkauvkFmt
open Go.RowKit Go.Extern.Stop Go.Stop Go.Extern Go.Deep

def itOf (e : En) : It := ⟨nsB e.ns, idB e.id, e.sid % 6⟩
def icells (ms : List It) : List Value := ms.flatMap fun m => [.string m.ns, .string m.id, .int .u64 m.sid, .string ⟨#[]⟩]
theorem icells_snoc (ms : List It) (e : En) : icells (ms ++ [itOf e]) = icells ms ++ [.string (nsB e.ns), .string (idB e.id), .int .u64 (e.sid % 6), .string ⟨#[]⟩] := by simp [icells, itOf]
def fileC (mod : ByteArray) (items : Value) : Array Value := #[.string mod, .string ⟨#[]⟩, .int .u32 0, .string ⟨#[]⟩, .string ⟨#[]⟩, .slice none 0 0, .slice none 0 0, items]
def L3Rel (Fb : Nat) (mod : ByteArray) (es : List En) (u : World) (gk : Nat) (t : Value) (wx : World) : Prop :=
  ∃ (k : Nat) (v : Value), k + gk = es.length ∧ t = .int .i64 k ∧ Blk wx Fb (fileC mod v) 38 ∧ wx.ownsRow (Fb + 1) 43 4 v k (icells ((es.take k).map itOf)) ∧ Below Fb u wx
def L3Post (Fb : Nat) (mod : ByteArray) (es : List En) (u w' : World) : Prop :=
  ∃ v, Blk w' Fb (fileC mod v) 38 ∧ w'.ownsRow (Fb + 1) 43 4 v es.length (icells (es.map itOf)) ∧ Below Fb u w'

theorem info43 : (Ybaf.prog.info? 43).bind (fun i => i.zero.map fun z => (i.size, i.bytes, z.cells.size)) = some (4, 56, 4) := by kernel_rfl
theorem info43' : ∃ i z, Ybaf.prog.info? 43 = some i ∧ i.zero = some z ∧ i.size = 4 ∧ i.bytes = 56 ∧ z.cells.size = 4 := by
  have h := info43
  cases hi : Ybaf.prog.info? 43 with
  | none => rw [hi] at h; simp at h
  | some i =>
    cases hz : i.zero with
    | none => rw [hi] at h; simp [hz] at h
    | some z => rw [hi] at h; simp [hz] at h; exact ⟨i, z, rfl, hz, h.1, h.2.1, h.2.2⟩

set_option maxHeartbeats 1600000 in
set_option maxRecDepth 100000 in
theorem law_l3 {x c y : Code} (hxy : IsIf3 17 x c y) {Q : Exit → Act → World → Prop} {D9 Fb ic : Nat} {io : Option Addr} {es : List En} {mod : ByteArray} {u : World}
    (h9 : u.cell? ⟨D9, 1, none⟩ = some (.slice io es.length ic)) (kF : Blk u Fb (fileC mod (.slice none 0 0)) 38) (hE : EnRow u io es) (hEn : 0 < es.length → ∀ g o, io = some ⟨g, o, none⟩ → g < Fb) (hfit : ∀ e ∈ es, e.fit) (hl : es.length ≤ 1024) {K1 K : Act → World → Prop} (hk1 : ∀ a w', Code.wp Ybaf.prog c (Exit.then K Q) a w' → K1 a w')
    {sl0 sl1 sl2 sl3 sl4 sl5 sl6 sl7 sl8 sl11 sl12 sl13 sl14 sl15 sl16 sl17 sl18 sl19 sl20 sl21 sl22 sl23 sl24 sl25 sl26 sl27 sl28 sl29 sl30 sl31 sl32 sl33 sl34 sl35 sl36 sl37 sl38 sl39 sl40 sl41 sl42 sl43 sl44 sl45 sl46 sl47 sl48 sl49 sl50 sl51 sl52 sl53 sl54 sl55 sl56 sl57 sl58 sl59 sl60 sl61 sl62 sl63 sl64 sl65 sl66 sl67 sl68 sl69 sl70 sl71 sl72 sl73 sl74 sl75 sl76 sl77 sl78 sl79 sl80 sl81 sl82 sl83 sl84 sl85 sl86 sl87 sl88 sl89 sl90 sl91 sl92 sl93 sl94 sl95 sl96 sl97 sl98 sl99 sl100 sl101 sl102 sl103 sl104 sl105 sl106 sl107 sl108 sl109 sl110 sl111 sl112 sl113 sl114 sl115 sl116 sl117 sl118 sl119 sl120 sl121 sl122 sl123 sl124 sl125 sl126 sl127 sl128 sl129 sl130 sl131 sl132 sl133 sl134 sl135 sl136 sl137 sl138 sl139 sl140 sl141 sl142 sl143 sl144 sl145 sl146 sl147 sl148 sl149 sl150 sl151 sl152 sl153 sl154 sl155 sl156 sl157 sl158 sl159 sl160 sl161 sl162 sl163 sl164 sl165 sl166 sl167 sl168 sl169 sl170 sl171 sl172 sl173 sl174 sl175 sl176 sl177 sl178 sl179 sl180 sl181 sl182 sl183 sl184 sl185 sl186 sl187 sl188 sl189 sl190 sl191 sl192 sl193 sl194 sl195 sl196 sl197 sl198 sl199 sl200 sl201 sl202 sl203 sl204 sl205 sl206 sl207 sl208 sl209 sl210 sl211 sl212 sl213 sl214 sl215 sl216 sl217 sl218 sl219 sl220 sl221 sl222 sl223 sl224 sl225 sl226 sl227 sl228 sl229 sl230 sl231 sl232 sl233 sl234 sl235 sl236 sl237 sl238 sl239 sl240 sl241 sl242 sl243 sl244 sl245 sl246 sl247 sl248 sl249 sl250 sl251 sl252 sl253 sl254 sl255 sl256 sl257 sl258 sl259 sl260 sl261 sl262 : Value}
    (hK : ∀ (v12 v60 v61 v62 v63 v64 v65 v66 v67 v68 v69 v70 v71 v72 v73 v74 v75 v76 v77 v78 v79 v80 v81 v82 v83 v84 v85 v86 v87 : Value) (w' : World), L3Post Fb mod es u w' → K ⟨#[sl0, sl1, sl2, sl3, sl4, sl5, sl6, sl7, sl8, .pointer (some ⟨D9, 0, none⟩), .pointer (some ⟨Fb, 0, none⟩), sl11, v12, sl13, sl14, sl15, sl16, sl17, sl18, sl19, sl20, sl21, sl22, sl23, sl24, sl25, sl26, sl27, sl28, sl29, sl30, sl31, sl32, sl33, sl34, sl35, sl36, sl37, sl38, sl39, sl40, sl41, sl42, sl43, sl44, sl45, sl46, sl47, sl48, sl49, sl50, sl51, sl52, sl53, sl54, sl55, sl56, sl57, sl58, sl59, v60, v61, v62, v63, v64, v65, v66, v67, v68, v69, v70, v71, v72, v73, v74, v75, v76, v77, v78, v79, v80, v81, v82, v83, v84, v85, v86, v87, sl88, sl89, sl90, sl91, sl92, sl93, sl94, sl95, sl96, sl97, sl98, sl99, sl100, sl101, sl102, sl103, sl104, sl105, sl106, sl107, sl108, sl109, sl110, sl111, sl112, sl113, sl114, sl115, sl116, sl117, sl118, sl119, sl120, sl121, sl122, sl123, sl124, sl125, sl126, sl127, sl128, sl129, sl130, sl131, sl132, sl133, sl134, sl135, sl136, sl137, sl138, sl139, sl140, sl141, sl142, sl143, sl144, sl145, sl146, sl147, sl148, sl149, sl150, sl151, sl152, sl153, sl154, sl155, sl156, sl157, sl158, sl159, sl160, sl161, sl162, sl163, sl164, sl165, sl166, sl167, sl168, sl169, sl170, sl171, sl172, sl173, sl174, sl175, sl176, sl177, sl178, sl179, sl180, sl181, sl182, sl183, sl184, sl185, sl186, sl187, sl188, sl189, sl190, sl191, sl192, sl193, sl194, sl195, sl196, sl197, sl198, sl199, sl200, sl201, sl202, sl203, sl204, sl205, sl206, sl207, sl208, sl209, sl210, sl211, sl212, sl213, sl214, sl215, sl216, sl217, sl218, sl219, sl220, sl221, sl222, sl223, sl224, sl225, sl226, sl227, sl228, sl229, sl230, sl231, sl232, sl233, sl234, sl235, sl236, sl237, sl238, sl239, sl240, sl241, sl242, sl243, sl244, sl245, sl246, sl247, sl248, sl249, sl250, sl251, sl252, sl253, sl254, sl255, sl256, sl257, sl258, sl259, sl260, sl261, sl262], []⟩ w') :
    Code.wp Ybaf.prog x (Exit.then K1 (Exit.then K Q)) ⟨#[sl0, sl1, sl2, sl3, sl4, sl5, sl6, sl7, sl8, .pointer (some ⟨D9, 0, none⟩), .pointer (some ⟨Fb, 0, none⟩), sl11, sl12, sl13, sl14, sl15, sl16, sl17, sl18, sl19, sl20, sl21, sl22, sl23, sl24, sl25, sl26, sl27, sl28, sl29, sl30, sl31, sl32, sl33, sl34, sl35, sl36, sl37, sl38, sl39, sl40, sl41, sl42, sl43, sl44, sl45, sl46, sl47, sl48, sl49, sl50, sl51, sl52, sl53, sl54, sl55, sl56, sl57, sl58, sl59, sl60, sl61, sl62, sl63, sl64, sl65, sl66, sl67, sl68, sl69, sl70, sl71, sl72, sl73, sl74, sl75, sl76, sl77, sl78, sl79, sl80, sl81, sl82, sl83, sl84, sl85, sl86, sl87, sl88, sl89, sl90, sl91, sl92, sl93, sl94, sl95, sl96, sl97, sl98, sl99, sl100, sl101, sl102, sl103, sl104, sl105, sl106, sl107, sl108, sl109, sl110, sl111, sl112, sl113, sl114, sl115, sl116, sl117, sl118, sl119, sl120, sl121, sl122, sl123, sl124, sl125, sl126, sl127, sl128, sl129, sl130, sl131, sl132, sl133, sl134, sl135, sl136, sl137, sl138, sl139, sl140, sl141, sl142, sl143, sl144, sl145, sl146, sl147, sl148, sl149, sl150, sl151, sl152, sl153, sl154, sl155, sl156, sl157, sl158, sl159, sl160, sl161, sl162, sl163, sl164, sl165, sl166, sl167, sl168, sl169, sl170, sl171, sl172, sl173, sl174, sl175, sl176, sl177, sl178, sl179, sl180, sl181, sl182, sl183, sl184, sl185, sl186, sl187, sl188, sl189, sl190, sl191, sl192, sl193, sl194, sl195, sl196, sl197, sl198, sl199, sl200, sl201, sl202, sl203, sl204, sl205, sl206, sl207, sl208, sl209, sl210, sl211, sl212, sl213, sl214, sl215, sl216, sl217, sl218, sl219, sl220, sl221, sl222, sl223, sl224, sl225, sl226, sl227, sl228, sl229, sl230, sl231, sl232, sl233, sl234, sl235, sl236, sl237, sl238, sl239, sl240, sl241, sl242, sl243, sl244, sl245, sl246, sl247, sl248, sl249, sl250, sl251, sl252, sl253, sl254, sl255, sl256, sl257, sl258, sl259, sl260, sl261, sl262], []⟩ u := by
  unfold IsIf3 at hxy
  conv at hxy => lhs; whnf
  obtain ⟨rfl, h2⟩ := Prod.mk.inj (Option.some.inj hxy)
  obtain ⟨rfl, rfl⟩ := Prod.mk.inj h2
  clear hxy h2
  have HK : Hid (∀ (v12 v60 v61 v62 v63 v64 v65 v66 v67 v68 v69 v70 v71 v72 v73 v74 v75 v76 v77 v78 v79 v80 v81 v82 v83 v84 v85 v86 v87 : Value) (w' : World), L3Post Fb mod es u w' → K ⟨#[sl0, sl1, sl2, sl3, sl4, sl5, sl6, sl7, sl8, .pointer (some ⟨D9, 0, none⟩), .pointer (some ⟨Fb, 0, none⟩), sl11, v12, sl13, sl14, sl15, sl16, sl17, sl18, sl19, sl20, sl21, sl22, sl23, sl24, sl25, sl26, sl27, sl28, sl29, sl30, sl31, sl32, sl33, sl34, sl35, sl36, sl37, sl38, sl39, sl40, sl41, sl42, sl43, sl44, sl45, sl46, sl47, sl48, sl49, sl50, sl51, sl52, sl53, sl54, sl55, sl56, sl57, sl58, sl59, v60, v61, v62, v63, v64, v65, v66, v67, v68, v69, v70, v71, v72, v73, v74, v75, v76, v77, v78, v79, v80, v81, v82, v83, v84, v85, v86, v87, sl88, sl89, sl90, sl91, sl92, sl93, sl94, sl95, sl96, sl97, sl98, sl99, sl100, sl101, sl102, sl103, sl104, sl105, sl106, sl107, sl108, sl109, sl110, sl111, sl112, sl113, sl114, sl115, sl116, sl117, sl118, sl119, sl120, sl121, sl122, sl123, sl124, sl125, sl126, sl127, sl128, sl129, sl130, sl131, sl132, sl133, sl134, sl135, sl136, sl137, sl138, sl139, sl140, sl141, sl142, sl143, sl144, sl145, sl146, sl147, sl148, sl149, sl150, sl151, sl152, sl153, sl154, sl155, sl156, sl157, sl158, sl159, sl160, sl161, sl162, sl163, sl164, sl165, sl166, sl167, sl168, sl169, sl170, sl171, sl172, sl173, sl174, sl175, sl176, sl177, sl178, sl179, sl180, sl181, sl182, sl183, sl184, sl185, sl186, sl187, sl188, sl189, sl190, sl191, sl192, sl193, sl194, sl195, sl196, sl197, sl198, sl199, sl200, sl201, sl202, sl203, sl204, sl205, sl206, sl207, sl208, sl209, sl210, sl211, sl212, sl213, sl214, sl215, sl216, sl217, sl218, sl219, sl220, sl221, sl222, sl223, sl224, sl225, sl226, sl227, sl228, sl229, sl230, sl231, sl232, sl233, sl234, sl235, sl236, sl237, sl238, sl239, sl240, sl241, sl242, sl243, sl244, sl245, sl246, sl247, sl248, sl249, sl250, sl251, sl252, sl253, sl254, sl255, sl256, sl257, sl258, sl259, sl260, sl261, sl262], []⟩ w') := hK
  have HE : Hid (EnRow u io es ∧ (0 < es.length → ∀ g o, io = some (⟨g, o, none⟩ : Addr) → g < Fb) ∧ ∀ e ∈ es, e.fit) := ⟨hE, hEn, hfit⟩
  have KF : Hid (Blk u Fb (fileC mod (.slice none 0 0)) 38) := kF
  obtain ⟨n, hn⟩ : ∃ n, n = es.length := ⟨_, rfl⟩
  rw [← hn] at h9 hl
  have HN : Hid (n = es.length) := hn
  clear hK hE hEn hfit kF hn
  go_wp2_with fail
  go_loopg [63] n (fun gk t wx => L3Rel Fb mod es u gk t wx)
  case atStart => exact ⟨0, _, by have := HN.out; omega, rfl, KF.out, ⟨by simp [icells], .inl ⟨rfl, rfl⟩⟩, Below.refl _ _⟩
  case round =>
    obtain ⟨k, v, hkg, rfl, kFw, hown, hbr⟩ := hrel
    have KW : Hid (Blk wr Fb (fileC mod v) 38) := kFw
    have HO : Hid (wr.ownsRow (Fb + 1) 43 4 v k (icells ((es.take k).map itOf))) := hown
    have HB : Hid (Below Fb u wr) := hbr
    have HKG : Hid (k + gk = es.length) := hkg
    clear kFw hown hbr hkg
    by_cases hk : k < n
    · have hk0 : (0 : Int) ≤ (k : Int) := by omega
      have hk1 : (k : Int) < (n : Int) := by omega
      have hgk : 0 < gk := by have := HKG.out; have := HN.out; omega
      obtain ⟨g, o, rfl, hg, hmm⟩ := HE.out.1 (by have := HN.out; omega)
      obtain ⟨e, he⟩ : ∃ e, es[k]? = some e := ⟨es[k]'(by have := HN.out; omega), List.getElem?_eq_getElem _⟩
      have hgF := HE.out.2.1 (by have := HN.out; omega) g o rfl
      have c0 : wr.cell? ⟨g, o + k * 3, none⟩ = some (.int .u8 e.ns) := (cell_below HB.out hgF _).trans (hmm k e he).1
      have c1 : wr.cell? ⟨g, o + k * 3 + 1, none⟩ = some (.int .u8 e.id) := (cell_below HB.out hgF _).trans (hmm k e he).2.1
      have c2 : wr.cell? ⟨g, o + k * 3 + 2, none⟩ = some (.int .u8 e.sid) := (cell_below HB.out hgF _).trans (hmm k e he).2.2
      have HEE : Hid (es[k]? = some e ∧ e.fit) := ⟨he, HE.out.2.2 e (List.mem_of_getElem? he)⟩
      clear hmm he hgF
      go_upto_region 20 with fail
      obtain ⟨D, hD⟩ : ∃ D, D = wr.heap.size := ⟨_, rfl⟩
      obtain ⟨x1, hx1⟩ : ∃ x1, x1 = wr.alloc (.cells #[.int .u8 e.ns, .int .u8 e.id, .int .u8 e.sid] 40) := ⟨_, rfl⟩
      rw [← hx1, ← hD]
      have kD : Blk x1 D #[.int .u8 e.ns, .int .u8 e.id, .int .u8 e.sid] 40 := by rw [hx1, hD]; exact Blk.new _ _ _
      have hb1 : Below wr.heap.size wr x1 := by rw [hx1]; exact (Below.refl _ _).alloc (Nat.le_refl _) _
      have kX : Blk x1 Fb (fileC mod v) 38 := KW.out.below hb1 KW.out.lt
      have HS0 : (fun w' : World => w'.cell? ⟨Fb, 7, none⟩ = some v ∧ w'.cell? ⟨D, 0, none⟩ = some (.int .u8 e.ns) ∧ w'.cell? ⟨D, 1, none⟩ = some (.int .u8 e.id) ∧ w'.cell? ⟨D, 2, none⟩ = some (.int .u8 e.sid)) x1.drew := ⟨kX.cell 7, kD.cell 0, kD.cell 1, kD.cell 2⟩
      have HDE : Hid (D = wr.heap.size) := hD
      clear hx1 hD c0 c1 c2
      refine wp_region_noPanic ?_
      refine wp_region_T 20 (fun w' : World => w'.cell? ⟨Fb, 7, none⟩ = some v ∧ w'.cell? ⟨D, 0, none⟩ = some (.int .u8 e.ns) ∧ w'.cell? ⟨D, 1, none⟩ = some (.int .u8 e.id) ∧ w'.cell? ⟨D, 2, none⟩ = some (.int .u8 e.sid)) (by kernel_rfl) ?_
      have hs0 : 0 ≤ e.sid := HEE.out.2.2.2.1
      have hs1 : e.sid ≤ 255 := HEE.out.2.2.2.2
      have hmod6 : e.sid.tmod 6 = e.sid % 6 := Int.tmod_eq_emod_of_nonneg hs0
      have hwr6 : IntKind.u64.wrap (e.sid % 6) = e.sid % 6 := by simp only [IntKind.wrap, IntKind.bits, IntKind.signed]; simp; omega
      refine wpAnyT_take (i := 0) (oi := { dst := some 67, op := Op.move (Operand.tmp 10), type := 31, pos := _, after := #[], guard := none }) (v := (.pointer (some ⟨Fb, 0, none⟩))) rfl (by kernel_rfl) (by kernel_rfl) (by kernel_rfl) (by kernel_rfl) (fun _ _ _ h => h) (Or.inl ⟨by rfl, ?hy⟩) HS0 ?_
      case hy => intro w hSw; obtain ⟨s0, s1, s2, s3⟩ := hSw; go_simp
      try simp only [Act.put, List.setIfInBounds_toArray, List.set_cons_zero, List.set_cons_succ]
      refine wpAnyT_take (i := 1) (oi := { dst := some 68, op := Op.move (Operand.tmp 10), type := 31, pos := _, after := #[], guard := none }) (v := (.pointer (some ⟨Fb, 0, none⟩))) rfl (by kernel_rfl) (by kernel_rfl) (by kernel_rfl) (by kernel_rfl) (fun _ _ _ h => h) (Or.inl ⟨by rfl, ?hy⟩) HS0 ?_
      case hy => intro w hSw; obtain ⟨s0, s1, s2, s3⟩ := hSw; go_simp
      try simp only [Act.put, List.setIfInBounds_toArray, List.set_cons_zero, List.set_cons_succ]
      refine wpAnyT_take (i := 2) (oi := { dst := some 69, op := Op.nilCheck (Operand.tmp 68), type := 0, pos := _, after := #[{ on := 1, ground := Ground.data }], guard := none }) (v := (.pointer (some ⟨Fb, 0, none⟩))) rfl (by kernel_rfl) (by kernel_rfl) (by kernel_rfl) (by kernel_rfl) (fun _ _ _ h => h) (Or.inl ⟨by rfl, ?hy⟩) HS0 ?_
      case hy => intro w hSw; obtain ⟨s0, s1, s2, s3⟩ := hSw; go_simp
      try simp only [Act.put, List.setIfInBounds_toArray, List.set_cons_zero, List.set_cons_succ]
      refine wpAnyT_take (i := 3) (oi := { dst := some 70, op := Op.fieldAddr 38 (Operand.tmp 69) 7, type := 0, pos := _, after := #[{ on := 2, ground := Ground.data }], guard := none }) (v := (.pointer (some ⟨Fb, 7, none⟩))) rfl (by kernel_rfl) (by kernel_rfl) (by kernel_rfl) (by kernel_rfl) (fun _ _ _ h => h) (Or.inl ⟨by rfl, ?hy⟩) HS0 ?_
      case hy => intro w hSw; obtain ⟨s0, s1, s2, s3⟩ := hSw; go_simp
      try simp only [Act.put, List.setIfInBounds_toArray, List.set_cons_zero, List.set_cons_succ]
      refine wpAnyT_take (i := 4) (oi := { dst := some 71, op := Op.load 36 (Operand.tmp 70), type := 36, pos := _, after := #[{ on := 3, ground := Ground.data }], guard := none }) (v := v) rfl (by kernel_rfl) (by kernel_rfl) (by kernel_rfl) (by kernel_rfl) (fun _ _ _ h => h) (Or.inl ⟨by rfl, ?hy⟩) HS0 ?_
      case hy => intro w hSw; obtain ⟨s0, s1, s2, s3⟩ := hSw; go_simp
      try simp only [Act.put, List.setIfInBounds_toArray, List.set_cons_zero, List.set_cons_succ]
      refine wpAnyT_take (i := 5) (oi := { dst := some 72, op := Op.fieldAddr 40 (Operand.tmp 12) 0, type := 0, pos := _, after := #[], guard := none }) (v := (.pointer (some ⟨D, 0, none⟩))) rfl (by kernel_rfl) (by kernel_rfl) (by kernel_rfl) (by kernel_rfl) (fun _ _ _ h => h) (Or.inl ⟨by rfl, ?hy⟩) HS0 ?_
      case hy => intro w hSw; obtain ⟨s0, s1, s2, s3⟩ := hSw; go_simp
      try simp only [Act.put, List.setIfInBounds_toArray, List.set_cons_zero, List.set_cons_succ]
      refine wpAnyT_take (i := 6) (oi := { dst := some 73, op := Op.load 5 (Operand.tmp 72), type := 5, pos := _, after := #[{ on := 5, ground := Ground.data }], guard := none }) (v := (.int .u8 e.ns)) rfl (by kernel_rfl) (by kernel_rfl) (by kernel_rfl) (by kernel_rfl) (fun _ _ _ h => h) (Or.inl ⟨by rfl, ?hy⟩) HS0 ?_
      case hy => intro w hSw; obtain ⟨s0, s1, s2, s3⟩ := hSw; go_simp
      try simp only [Act.put, List.setIfInBounds_toArray, List.set_cons_zero, List.set_cons_succ]
      refine wpAnyT_take (i := 8) (oi := { dst := some 75, op := Op.fieldAddr 40 (Operand.tmp 12) 1, type := 0, pos := _, after := #[], guard := none }) (v := (.pointer (some ⟨D, 1, none⟩))) rfl (by kernel_rfl) (by kernel_rfl) (by kernel_rfl) (by kernel_rfl) (fun _ _ _ h => h) (Or.inl ⟨by rfl, ?hy⟩) HS0 ?_
      case hy => intro w hSw; obtain ⟨s0, s1, s2, s3⟩ := hSw; go_simp
      try simp only [Act.put, List.setIfInBounds_toArray, List.set_cons_zero, List.set_cons_succ]
      refine wpAnyT_take (i := 9) (oi := { dst := some 76, op := Op.load 5 (Operand.tmp 75), type := 5, pos := _, after := #[{ on := 8, ground := Ground.data }], guard := none }) (v := (.int .u8 e.id)) rfl (by kernel_rfl) (by kernel_rfl) (by kernel_rfl) (by kernel_rfl) (fun _ _ _ h => h) (Or.inl ⟨by rfl, ?hy⟩) HS0 ?_
      case hy => intro w hSw; obtain ⟨s0, s1, s2, s3⟩ := hSw; go_simp
      try simp only [Act.put, List.setIfInBounds_toArray, List.set_cons_zero, List.set_cons_succ]
      refine wpAnyT_take (i := 11) (oi := { dst := some 78, op := Op.fieldAddr 40 (Operand.tmp 12) 2, type := 0, pos := _, after := #[], guard := none }) (v := (.pointer (some ⟨D, 2, none⟩))) rfl (by kernel_rfl) (by kernel_rfl) (by kernel_rfl) (by kernel_rfl) (fun _ _ _ h => h) (Or.inl ⟨by rfl, ?hy⟩) HS0 ?_
      case hy => intro w hSw; obtain ⟨s0, s1, s2, s3⟩ := hSw; go_simp
      try simp only [Act.put, List.setIfInBounds_toArray, List.set_cons_zero, List.set_cons_succ]
      refine wpAnyT_take (i := 12) (oi := { dst := some 79, op := Op.load 5 (Operand.tmp 78), type := 5, pos := _, after := #[{ on := 11, ground := Ground.data }], guard := none }) (v := (.int .u8 e.sid)) rfl (by kernel_rfl) (by kernel_rfl) (by kernel_rfl) (by kernel_rfl) (fun _ _ _ h => h) (Or.inl ⟨by rfl, ?hy⟩) HS0 ?_
      case hy => intro w hSw; obtain ⟨s0, s1, s2, s3⟩ := hSw; go_simp
      try simp only [Act.put, List.setIfInBounds_toArray, List.set_cons_zero, List.set_cons_succ]
      refine wpAnyT_take (i := 13) (oi := { dst := some 80, op := Op.binOp BinOp.rem 5 (Operand.tmp 79) (Operand.const (Value.int IntKind.u8 6)) 5, type := 5, pos := _, after := #[{ on := 12, ground := Ground.data }], guard := none }) (v := (.int .u8 (e.sid % 6))) rfl (by kernel_rfl) (by kernel_rfl) (by kernel_rfl) (by kernel_rfl) (fun _ _ _ h => h) (Or.inl ⟨by rfl, ?hy⟩) HS0 ?_
      case hy => intro w hSw; obtain ⟨s0, s1, s2, s3⟩ := hSw; go_simp
      try simp only [Act.put, List.setIfInBounds_toArray, List.set_cons_zero, List.set_cons_succ]
      refine wpAnyT_take (i := 14) (oi := { dst := some 81, op := Op.convert 5 41 (Operand.tmp 80), type := 41, pos := _, after := #[{ on := 13, ground := Ground.data }], guard := none }) (v := (.int .u64 (e.sid % 6))) rfl (by kernel_rfl) (by kernel_rfl) (by kernel_rfl) (by kernel_rfl) (fun _ _ _ h => h) (Or.inl ⟨by rfl, ?hy⟩) HS0 ?_
      case hy => intro w hSw; obtain ⟨s0, s1, s2, s3⟩ := hSw; go_simp
      try simp only [Act.put, List.setIfInBounds_toArray, List.set_cons_zero, List.set_cons_succ]
      have r7 : ∀ y : World, (callFunc 7 #[.int .u8 e.ns]).run Ybaf.prog y = .ok (.enter 7 #[.int .u8 e.ns]) y := fun y => by kernel_rfl
      have r8 : ∀ y : World, (callFunc 8 #[.int .u8 e.id]).run Ybaf.prog y = .ok (.enter 8 #[.int .u8 e.id]) y := fun y => by kernel_rfl
      have HC7 : Hid (∀ y : World, Calls Ybaf.prog 7 #[.int .u8 e.ns] y fun e' w' => e' = .returned (.string (nsB e.ns)) ∧ y = w') := fun y => ns_any e.ns y HEE.out.2.1
      have HC8 : Hid (∀ y : World, Calls Ybaf.prog 8 #[.int .u8 e.id] y fun e' w' => e' = .returned (.string (idB e.id)) ∧ y = w') := fun y => id_any e.id y HEE.out.2.2.1
      refine wpAnyT_all (rs := [7]) (by kernel_rfl) (by simp) ?_
      intro i hi
      simp only [List.mem_cons, List.mem_nil_iff, or_false] at hi
      subst hi
      refine wpOp_call (o := { dst := some 74, op := Op.call { callee := Callee.value (Operand.func 7), args := #[Operand.tmp 73], argTypes := #[5] }, type := 9, pos := _, after := #[{ on := 6, ground := Ground.data }], guard := none }) rfl rfl 7 _ _ rfl #[.int .u8 e.ns] (by simp [Act.eval]) (r7 _) (.string (nsB e.ns)) (HC7.out _) ?_
      refine ⟨fun _ => HS0, ?_⟩
      try simp only [Act.put, List.setIfInBounds_toArray, List.set_cons_zero, List.set_cons_succ]
      refine wpAnyT_all (rs := [10]) (by kernel_rfl) (by simp) ?_
      intro i hi
      simp only [List.mem_cons, List.mem_nil_iff, or_false] at hi
      subst hi
      refine wpOp_call (o := { dst := some 77, op := Op.call { callee := Callee.value (Operand.func 8), args := #[Operand.tmp 76], argTypes := #[5] }, type := 9, pos := _, after := #[{ on := 9, ground := Ground.data }, { on := 7, ground := Ground.chain }], guard := none }) rfl rfl 8 _ _ rfl #[.int .u8 e.id] (by simp [Act.eval]) (r8 _) (.string (idB e.id)) (HC8.out _) ?_
      refine ⟨fun _ => HS0, ?_⟩
      try simp only [Act.put, List.setIfInBounds_toArray, List.set_cons_zero, List.set_cons_succ]
      refine wpAnyT_take (i := 15) (oi := { dst := some 82, op := Op.build 43 #[(0, Operand.tmp 74), (1, Operand.tmp 77), (2, Operand.tmp 81)], type := 43, pos := _, after := #[{ on := 7, ground := Ground.data }, { on := 10, ground := Ground.data }, { on := 14, ground := Ground.data }], guard := none }) (v := .agg #[.string (nsB e.ns), .string (idB e.id), .int .u64 (e.sid % 6), .string ⟨#[]⟩]) rfl (by kernel_rfl) (by kernel_rfl) (by kernel_rfl) (by kernel_rfl) (fun _ _ _ h => h) (Or.inl ⟨by rfl, ?hy⟩) HS0 ?_
      case hy => intro w hSw; go_simp
      try simp only [Act.put, List.setIfInBounds_toArray, List.set_cons_zero, List.set_cons_succ]
      refine wpAnyT_all (rs := [16]) (by kernel_rfl) (by simp) ?_
      intro i hi
      simp only [List.mem_cons, List.mem_nil_iff, or_false] at hi
      subst hi
      refine wpOp_value (o := { dst := some 83, op := Op.buildSlice 36 1 #[(0, Operand.tmp 82)], type := 36, pos := _, after := #[{ on := 15, ground := Ground.data }], guard := none }) (v := .slice (some ⟨x1.heap.size, 0, none⟩) 1 1) (w' := x1.drew.alloc (.cells #[.string (nsB e.ns), .string (idB e.id), .int .u64 (e.sid % 6), .string ⟨#[]⟩] 43)) rfl rfl ?hr ?_
      case hr => go_simp
      try simp only [Act.put, List.setIfInBounds_toArray, List.set_cons_zero, List.set_cons_succ]
      have kX1 : Blk (x1.drew.alloc (.cells #[.string (nsB e.ns), .string (idB e.id), .int .u64 (e.sid % 6), .string ⟨#[]⟩] 43)) Fb (fileC mod v) 38 := Blk.alloc (w := x1.drew) kX _
      have kD1 : Blk (x1.drew.alloc (.cells #[.string (nsB e.ns), .string (idB e.id), .int .u64 (e.sid % 6), .string ⟨#[]⟩] 43)) D #[.int .u8 e.ns, .int .u8 e.id, .int .u8 e.sid] 40 := Blk.alloc (w := x1.drew) kD _
      refine ⟨fun _ => ⟨kX1.cell 7, kD1.cell 0, kD1.cell 1, kD1.cell 2⟩, ?_⟩
      try simp only [Act.put, List.setIfInBounds_toArray, List.set_cons_zero, List.set_cons_succ]
      obtain ⟨ti, z, hi, hz, hs3, hb56, hz3⟩ := info43'
      have HOX : Hid (x1.ownsRow (Fb + 1) 43 4 v k (icells ((es.take k).map itOf))) := owns_kept HO.out (fun g hg => hb1.block g hg)
      have hnF : v.ownBlock ≠ some Fb := own_ne HO.out (.inr (Nat.lt_succ_self _))
      have hFx : Fb < x1.heap.size := kX.lt
      have hDx : D < x1.heap.size := kD.lt
      have hnD : v.ownBlock ≠ some D := own_ne HO.out (.inl (Nat.le_of_eq HDE.out.symm))
      refine wpAnyT_all (rs := [17]) (by kernel_rfl) (by simp) ?_
      intro i hi'
      simp only [List.mem_cons, List.mem_nil_iff, or_false] at hi'
      subst hi'
      refine wpOp_wp (o := { dst := some 84, op := Op.call { callee := Callee.builtin Builtin.append, args := #[Operand.tmp 71, Operand.tmp 83], argTypes := #[36, 36] }, type := 36, pos := _, after := #[{ on := 4, ground := Ground.data }, { on := 16, ground := Ground.data }, { on := 10, ground := Ground.chain }], guard := none }) rfl rfl ?_
      refine wp_append_lies _ _ _ _ rfl (Fb + 1) 43 ti z 4 56 Ybaf.underlying36 hi hz hs3 hb56 hz3 (by omega) v k (icells ((es.take k).map itOf)) (by simp [Act.eval]) (owns_kept HOX.out (fun g hg => by exact Below.heap_alloc _ _ _ hg)) ⟨x1.heap.size, 0, none⟩ 1 1 [.string (nsB e.ns), .string (idB e.id), .int .u64 (e.sid % 6), .string ⟨#[]⟩] (by simp [Act.eval]) rfl (by exact World.news_of_block (Blk.new x1.drew #[.string (nsB e.ns), .string (idB e.id), .int .u64 (e.sid % 6), .string ⟨#[]⟩] 43)) (by simp; exact ⟨rfl, rfl, rfl, rfl⟩) (by omega) (by unfold maxLen; omega) (by omega) (by simp; omega) _ rfl ?_
      intro g2 cap2 w2 own2 grow2 hat2 hlt2
      have kX2 : Blk w2 Fb (fileC mod v) 38 := kX1.kept grow2 (fun e => hnF e.symm)
      have kD2 : Blk w2 D #[.int .u8 e.ns, .int .u8 e.id, .int .u8 e.sid] 40 := kD1.kept grow2 (fun e => hnD e.symm)
      have HS2 : (fun w' : World => w'.cell? ⟨Fb, 7, none⟩ = some v ∧ w'.cell? ⟨D, 0, none⟩ = some (.int .u8 e.ns) ∧ w'.cell? ⟨D, 1, none⟩ = some (.int .u8 e.id) ∧ w'.cell? ⟨D, 2, none⟩ = some (.int .u8 e.sid)) w2 := ⟨kX2.cell 7, kD2.cell 0, kD2.cell 1, kD2.cell 2⟩
      refine ⟨fun _ => HS2, ?_⟩
      try simp only [Act.put, List.setIfInBounds_toArray, List.set_cons_zero, List.set_cons_succ]
      refine wpAnyT_all (rs := [18]) (by kernel_rfl) (by simp) ?_
      intro i hi'
      simp only [List.mem_cons, List.mem_nil_iff, or_false] at hi'
      subst hi'
      refine wpOp_value (o := { dst := some 85, op := Op.nilCheck (Operand.tmp 67), type := 0, pos := _, after := #[{ on := 0, ground := Ground.data }, { on := 0, ground := Ground.phase }, { on := 1, ground := Ground.phase }, { on := 2, ground := Ground.phase }, { on := 3, ground := Ground.phase }, { on := 4, ground := Ground.phase }, { on := 5, ground := Ground.phase }, { on := 6, ground := Ground.phase }, { on := 7, ground := Ground.phase }, { on := 8, ground := Ground.phase }, { on := 9, ground := Ground.phase }, { on := 10, ground := Ground.phase }, { on := 11, ground := Ground.phase }, { on := 12, ground := Ground.phase }, { on := 13, ground := Ground.phase }, { on := 14, ground := Ground.phase }, { on := 15, ground := Ground.phase }, { on := 16, ground := Ground.phase }, { on := 17, ground := Ground.phase }], guard := none }) (v := .pointer (some ⟨Fb, 0, none⟩)) (w' := w2) rfl rfl ?hr ?_
      case hr => go_simp
      refine ⟨fun _ => HS2, ?_⟩
      try simp only [Act.put, List.setIfInBounds_toArray, List.set_cons_zero, List.set_cons_succ]
      refine wpAnyT_all (rs := [19]) (by kernel_rfl) (by simp) ?_
      intro i hi'
      simp only [List.mem_cons, List.mem_nil_iff, or_false] at hi'
      subst hi'
      refine wpOp_value (o := { dst := some 86, op := Op.fieldAddr 38 (Operand.tmp 85) 7, type := 0, pos := _, after := #[{ on := 18, ground := Ground.data }, { on := 0, ground := Ground.phase }, { on := 1, ground := Ground.phase }, { on := 2, ground := Ground.phase }, { on := 3, ground := Ground.phase }, { on := 4, ground := Ground.phase }, { on := 5, ground := Ground.phase }, { on := 6, ground := Ground.phase }, { on := 7, ground := Ground.phase }, { on := 8, ground := Ground.phase }, { on := 9, ground := Ground.phase }, { on := 10, ground := Ground.phase }, { on := 11, ground := Ground.phase }, { on := 12, ground := Ground.phase }, { on := 13, ground := Ground.phase }, { on := 14, ground := Ground.phase }, { on := 15, ground := Ground.phase }, { on := 16, ground := Ground.phase }, { on := 17, ground := Ground.phase }], guard := none }) (v := .pointer (some ⟨Fb, 7, none⟩)) (w' := w2) rfl rfl ?hr ?_
      case hr => go_simp
      refine ⟨fun _ => HS2, ?_⟩
      try simp only [Act.put, List.setIfInBounds_toArray, List.set_cons_zero, List.set_cons_succ]
      refine wpAnyT_all (rs := [20]) (by kernel_rfl) (by simp) ?_
      intro i hi'
      simp only [List.mem_cons, List.mem_nil_iff, or_false] at hi'
      subst hi'
      have fX2 : w2.frozen? ⟨Fb, 7, none⟩ = false := kX2.frozen 7
      have sX2 : w2.cell? ⟨Fb, 7, none⟩ = some v := kX2.cell 7
      refine wpOp_skip (o := { dst := none, op := Op.store 36 (Operand.tmp 86) (Operand.tmp 84), type := 0, pos := _, after := #[{ on := 19, ground := Ground.data }, { on := 17, ground := Ground.data }, { on := 17, ground := Ground.chain }, { on := 0, ground := Ground.phase }, { on := 1, ground := Ground.phase }, { on := 2, ground := Ground.phase }, { on := 3, ground := Ground.phase }, { on := 4, ground := Ground.phase }, { on := 5, ground := Ground.phase }, { on := 6, ground := Ground.phase }, { on := 7, ground := Ground.phase }, { on := 8, ground := Ground.phase }, { on := 9, ground := Ground.phase }, { on := 10, ground := Ground.phase }, { on := 11, ground := Ground.phase }, { on := 12, ground := Ground.phase }, { on := 13, ground := Ground.phase }, { on := 14, ground := Ground.phase }, { on := 15, ground := Ground.phase }, { on := 16, ground := Ground.phase }, { on := 17, ground := Ground.phase }], guard := none }) (w' := w2.setCell ⟨Fb, 7, none⟩ (.slice (some ⟨g2, 0, none⟩) (k + 1) cap2)) rfl rfl ?hr ?_
      case hr => go_simp
      refine ⟨fun h => absurd rfl h, ?_⟩
      refine wpAnyT_done (by kernel_rfl) ?_ _
      refine NoPanic.normal ?_
      try simp only [Act.put]
      have hlt' : (es.take (k + 1)).map itOf = (es.take k).map itOf ++ [itOf e] := by rw [List.take_add_one, HEE.out.1]; simp
      have OW3 : Hid ((w2.setCell ⟨Fb, 7, none⟩ (.slice (some ⟨g2, 0, none⟩) (k + 1) cap2)).ownsRow (Fb + 1) 43 4 (.slice (some ⟨g2, 0, none⟩) (k + 1) cap2) (k + 1) (icells ((es.take (k + 1)).map itOf))) := (by rw [hlt', icells_snoc]; exact owns_set own2 (Nat.lt_succ_self _) _)
      have BW3 : Hid (Below Fb u (w2.setCell ⟨Fb, 7, none⟩ (.slice (some ⟨g2, 0, none⟩) (k + 1) cap2))) := below_set (below_grow (x := x1.drew.alloc (.cells #[.string (nsB e.ns), .string (idB e.id), .int .u64 (e.sid % 6), .string ⟨#[]⟩] 43)) (below_same ((HB.out.trans (hb1.mono (Nat.le_of_lt KW.out.lt))).alloc (Nat.le_of_lt hFx) (.cells #[.string (nsB e.ns), .string (idB e.id), .int .u64 (e.sid % 6), .string ⟨#[]⟩] 43)) rfl rfl rfl rfl) (by simp; omega) grow2 (owns_le HOX.out (Nat.le_succ _))) (Nat.le_refl _) _
      have KX3 : Hid (Blk (w2.setCell ⟨Fb, 7, none⟩ (.slice (some ⟨g2, 0, none⟩) (k + 1) cap2)) Fb (fileC mod (.slice (some ⟨g2, 0, none⟩) (k + 1) cap2)) 38) := kX2.set 7 _
      clear own2 grow2 hat2 hlt2 kX2 kD2 HS2 fX2 sX2 kX1 kD1 hlt' hi hz hs3 hb56 hz3 kD hb1 kX HS0
      go_wp2_with fail
      go_roundg (gk - 1)
      case measure => omega
      case rel => exact ⟨k + 1, _, by have := HKG.out; omega, by go_num, KX3.out, OW3.out, BW3.out⟩
    · obtain rfl : k = n := by have := HKG.out; have := HN.out; omega
      have et : es.take k = es := by rw [HN.out, List.take_length]
      have HOE : Hid (wr.ownsRow (Fb + 1) 43 4 v es.length (icells (es.map itOf))) := (by have h := HO.out; rw [et, HN.out] at h; exact h)
      clear et
      go_wp2_with fail
      exact HK.out _ _ _ _ _ _ _ _ _ _ _ _ _ _ _ _ _ _ _ _ _ _ _ _ _ _ _ _ _ _ ⟨v, KW.out, HOE.out, HB.out⟩
end Go.Proofs.YbulkauvkFmt
