/-
  The walks of Table.Identity and Table.Add.
-/
import Derived.Test.YbulkauvkFmtTab
import Derived.Deep.RegionLaw
namespace Go.Proofs.YbulkauvkFmt
open Go.RowKit Go.Extern.Stop Go.Stop Go.Extern Go.Deep
attribute [local go_sem ↓] Go.wp_at_zero Go.wp_at_succ

def identB : ByteArray := ⟨#[105, 100, 101, 110, 116, 105, 116, 121]⟩
def featB : ByteArray := ⟨#[102, 101, 97, 116, 117, 114, 101]⟩
set_option maxHeartbeats 800000 in
set_option maxRecDepth 100000 in
theorem identity_any (T m1 m2 n : Nat) (md : List Pr) (p : Pr) (mod nm : ByteArray) (w : World) (kT : Blk w T #[.map (some m1), .map (some m2)] 29) (hM : Maps2 w m1 m2 n md) (hp : p ∈ md) (hk : kv p.ns p.id = kv identB (mod ++ ⟨#[58]⟩ ++ nm)) (hs : mod.size ≤ 50 ∧ nm.size ≤ 40) :
    Calls Ybaf.prog 10 #[.pointer (some ⟨T, 0, none⟩), .string mod, .string nm] w fun e w' => e = .returned (.tuple #[.int .u64 p.sid, .bool true]) ∧ w = w' := by
  have t0 : w.cell? ⟨T, 0, none⟩ = some (.map (some m1)) := kT.cell 0
  have hrun := hM.sHit hp hk
  clear kT hM hp hk
  unfold kv identB at hrun
  obtain ⟨hs1, hs2⟩ := hs
  go_enter Ybaf.func10, Ybaf.ntmps10
  go_wp2_with fail
  go_ret2
  exact ⟨rfl, rfl⟩

theorem errB_at (F : Interp) (a b c d : ByteArray) (x : Int) (w y : World) (hF : F.answers w.tape) (h1 : y.heap = (w.alloc (.cells #[.iface 41 (.int .u64 x), .iface 9 (.string a), .iface 9 (.string b), .iface 9 (.string c), .iface 9 (.string d)] 20)).heap) (h2 : y.os = w.os) (h3 : y.tape = w.tape) (h4 : y.output = w.output) : Calls Ybaf.prog 14 #[.string ⟨#[83, 73, 68, 32, 37, 100, 32, 105, 115, 32, 97, 115, 115, 105, 103, 110, 101, 100, 32, 116, 111, 32, 37, 115, 32, 37, 115, 32, 97, 110, 100, 32, 116, 111, 32, 37, 115, 32, 37, 115]⟩, .slice (some ⟨w.heap.size, 0, none⟩) 5 5] y fun e w' => ErrPost w e w' := by
  have kb : Blk y w.heap.size #[.iface 41 (.int .u64 x), .iface 9 (.string a), .iface 9 (.string b), .iface 9 (.string c), .iface 9 (.string d)] 20 := (Blk.new w _ 20).of_block (by rw [h1])
  have hb : Below w.heap.size w y := below_same ((Below.refl w.heap.size w).alloc (Nat.le_refl _) _) h1 h2 h3 h4
  refine (errB_any F w.heap.size a b c d x y (by rw [h3]; exact hF) (kb.cell 0) (kb.cell 1) (kb.cell 2) (kb.cell 3) (kb.cell 4)).mono ?_
  rintro e w' ⟨ad, he, hb2⟩
  exact ⟨ad, he, hb.trans (hb2.mono hb.size)⟩
theorem cat (a b : ByteArray) (h : a.size + b.size ≤ 1000) (w : World) : (binOp .add 9 (.string a) (.string b)).run Ybaf.prog w = .ok (.string (a ++ b)) w := by
  have h1 : a.size ≤ 1000 := by omega
  have h2 : b.size ≤ 1000 := by omega
  go_simp
  omega
/-- an item of a file -/
structure It where
  ns : ByteArray
  id : ByteArray
  sid : Int
def It.fit (p : It) : Prop := p.ns.size ≤ 40 ∧ p.id.size ≤ 40 ∧ 0 ≤ p.sid ∧ p.sid ≤ 255
def IAt (w : World) (g o : Nat) (m : It) : Prop :=
  w.cell? ⟨g, o, none⟩ = some (.string m.ns) ∧ w.cell? ⟨g, o + 1, none⟩ = some (.string m.id) ∧ w.cell? ⟨g, o + 2, none⟩ = some (.int .u64 m.sid) ∧ w.cell? ⟨g, o + 3, none⟩ = some (.string ⟨#[]⟩)
def IRow (w : World) (ao : Option Addr) (ms : List It) : Prop :=
  0 < ms.length → ∃ g o, ao = some ⟨g, o, none⟩ ∧ g < w.heap.size ∧ ∀ j m, ms[j]? = some m → IAt w g (o + j * 4) m
/-- the key under which it stands -/
def isOwn (it : It) : Bool := decide (it.ns = identB) || decide (it.ns = featB)
theorem str_eq (a b : ByteArray) : (a.toList == b.toList) = decide (a = b) := by
  rw [Go.ByteArray.toList_eq, Go.ByteArray.toList_eq]
  by_cases h : a = b
  · simp [h]
  · have h2 : (a.data.toList == b.data.toList) = false := by rw [beq_eq_false_iff_ne]; exact fun e => h (bytes_ext e)
    rw [h2]
    simp [h]
theorem ident_eq (a : ByteArray) : (a.toList == [105, 100, 101, 110, 116, 105, 116, 121]) = decide (a = identB) := by
  rw [← str_eq, show identB.toList = [105, 100, 101, 110, 116, 105, 116, 121] from by rw [Go.ByteArray.toList_eq]; rfl]
theorem feat_eq (a : ByteArray) : (a.toList == [102, 101, 97, 116, 117, 114, 101]) = decide (a = featB) := by
  rw [← str_eq, show featB.toList = [102, 101, 97, 116, 117, 114, 101] from by rw [Go.ByteArray.toList_eq]; rfl]
def prOf (mod : ByteArray) (it : It) : Pr := ⟨it.ns, if isOwn it then mod ++ ⟨#[58]⟩ ++ it.id else it.id, it.sid⟩

/-- all but the two maps is as it was -/
structure KeepM (m1 m2 : Nat) (w w' : World) : Prop where
  os : w'.os = w.os
  tape : w'.tape = w.tape
  output : w'.output = w.output
  size : w.heap.size ≤ w'.heap.size
  block : ∀ g, g < w.heap.size → g ≠ m1 → g ≠ m2 → w'.heap[g]? = w.heap[g]?
theorem KeepM.refl (m1 m2 : Nat) (w : World) : KeepM m1 m2 w w := ⟨rfl, rfl, rfl, Nat.le_refl _, fun _ _ _ _ => rfl⟩
theorem KeepM.trans {m1 m2 : Nat} {w v x : World} (h : KeepM m1 m2 w v) (g : KeepM m1 m2 v x) : KeepM m1 m2 w x :=
  ⟨g.os.trans h.os, g.tape.trans h.tape, g.output.trans h.output, Nat.le_trans h.size g.size, fun k hk h1 h2 => (g.block k (Nat.lt_of_lt_of_le hk h.size) h1 h2).trans (h.block k hk h1 h2)⟩
theorem KeepM.of_below {m1 m2 : Nat} {w w' : World} (h : Below w.heap.size w w') : KeepM m1 m2 w w' := ⟨h.os, h.tape, h.output, h.size, fun g hg _ _ => h.block g hg⟩
theorem KeepM.same {m1 m2 : Nat} {w x y : World} (h : KeepM m1 m2 w x) (h1 : y.heap = x.heap) (h2 : y.os = x.os) (h3 : y.tape = x.tape) (h4 : y.output = x.output) : KeepM m1 m2 w y :=
  ⟨h2.trans h.os, h3.trans h.tape, h4.trans h.output, by rw [h1]; exact h.size, by rw [h1]; exact h.block⟩
theorem KeepM.setNew {m1 m2 : Nat} {w x y : World} (h : KeepM m1 m2 w x) {a : Addr} (ha : w.heap.size ≤ a.block) (v : Value) (h1 : y.heap = (x.setCell a v).heap) (h2 : y.os = x.os) (h3 : y.tape = x.tape) (h4 : y.output = x.output) : KeepM m1 m2 w y :=
  KeepM.same (x := x.setCell a v) ⟨h.os, h.tape, h.output, by simpa [World.setCell] using h.size, fun g hg q1 q2 => (blk_setCell_other _ _ _ _ (by omega)).trans (h.block g hg q1 q2)⟩ h1 h2 h3 h4
theorem KeepM.cell {m1 m2 : Nat} {w w' : World} (h : KeepM m1 m2 w w') {g : Nat} (hg : g < w.heap.size) (h1 : g ≠ m1) (h2 : g ≠ m2) (o : Nat) : w'.cell? ⟨g, o, none⟩ = w.cell? ⟨g, o, none⟩ := by
  simp only [World.cell?, h.block g hg h1 h2]

/-- where region n stands ahead of more code -/
def findSeq (n : Nat) : Code → Option (Code × Code)
  | .seq (.region i o d) b => if i = n then some (.region i o d, b) else findSeq n b
  | .seq a b => match findSeq n a with
    | some c => some c
    | none => findSeq n b
  | .cond _ a b => match findSeq n a with
    | some c => some c
    | none => findSeq n b
  | .block _ c => findSeq n c
  | .loop c => findSeq n c
  | .scope c => findSeq n c
  | _ => none
def findIf (n : Nat) : Code → Option (Code × Code × Code)
  | .seq (.seq (.region i o d) c) b => if i = n then some (.region i o d, c, b) else match findIf n c with
    | some r => some r
    | none => findIf n b
  | .seq a b => match findIf n a with
    | some c => some c
    | none => findIf n b
  | .cond _ a b => match findIf n a with
    | some c => some c
    | none => findIf n b
  | .block _ c => findIf n c
  | .loop c => findIf n c
  | .scope c => findIf n c
  | _ => none
def IsIf9 (n : Nat) (x c y : Code) : Prop := Ybaf.f9.body.bind (findIf n) = some (x, c, y)

theorem drop_map_cons {its : List It} {mod : ByteArray} {j : Nat} {it : It} (h : its[j]? = some it) : (its.map (prOf mod)).drop j = prOf mod it :: (its.map (prOf mod)).drop (j + 1) := by
  obtain ⟨hl, rfl⟩ := List.getElem?_eq_some_iff.1 h
  rw [List.drop_eq_getElem_cons (by simpa using hl)]
  simp
def AddPost (m1 m2 _T n : Nat) (md : List Pr) (qs : List Pr) (w : World) (e : Ending) (w' : World) : Prop :=
  ∃ n', n' ≤ n + qs.length ∧ Maps2 w' m1 m2 n' (addL md qs).2 ∧ (((addL md qs).1 = true ∧ ∃ a, e = .returned (.iface 117 (.pointer (some a)))) ∨ ((addL md qs).1 = false ∧ e = .returned .nilIface)) ∧ KeepM m1 m2 w w'

theorem addPost_err {m1 m2 T n n' : Nat} {md md' qs rest : List Pr} {q : Pr} {w : World} {e : Ending} {w' : World} {j : Nat} {ad : Addr} (h : addL md qs = addL md' (qs.drop j)) (hd : qs.drop j = q :: rest) (hb : badB md' q = true) (hM : Maps2 w' m1 m2 n' md') (hK : KeepM m1 m2 w w') (hn : n' ≤ n + qs.length) (he : e = .returned (.iface 117 (.pointer (some ad)))) : AddPost m1 m2 T n md qs w e w' := by
  have e1 : addL md qs = (true, md') := by rw [h, hd]; simp [addL, hb]
  exact ⟨n', hn, by rw [e1]; exact hM, .inl ⟨by rw [e1], ad, he⟩, hK⟩
def Fwd (Po : Ending → World → Prop) (e : Ending) (w' : World) : Prop := Po e w'
def ARel (m1 m2 n : Nat) (md qs : List Pr) (w : World) (gk : Nat) (t : Value) (wx : World) : Prop :=
  ∃ (j : Nat) (md' : List Pr), j + gk = qs.length ∧ t = .int .i64 j ∧ Maps2 wx m1 m2 (n + j) md' ∧ addL md qs = addL md' (qs.drop j) ∧ KeepM m1 m2 w wx

set_option maxHeartbeats 1600000 in
set_option maxRecDepth 100000 in
theorem add_loop {x cd y : Code} (hxy : IsIf9 4 x cd y) (F : Interp) {T Fb m1 m2 n : Nat} {md : List Pr} {its : List It} {mod : ByteArray} {ao : Option Addr} {cap : Nat} {u : World} {Po : Ending → World → Prop} (hPo : ∀ e w', AddPost m1 m2 T n md (its.map (prOf mod)) u e w' → Po e w') (hF : F.answers u.tape)
    (kT : Blk u T #[.map (some m1), .map (some m2)] 29) (hM : Maps2 u m1 m2 n md) (hT : T ≠ m1 ∧ T ≠ m2) (f0 : u.cell? ⟨Fb, 0, none⟩ = some (.string mod)) (f7 : u.cell? ⟨Fb, 7, none⟩ = some (.slice ao its.length cap)) (hFb : Fb < u.heap.size ∧ Fb ≠ m1 ∧ Fb ≠ m2) (hR : IRow u ao its) (hRn : ∀ g o, ao = some ⟨g, o, none⟩ → g ≠ m1 ∧ g ≠ m2)
    (hfit : ∀ it ∈ its, it.fit) (hmod : mod.size ≤ 10) (hl : its.length ≤ 2000) (hn : n ≤ 100000) {K1 K : Act → World → Prop} (hk1 : ∀ a w', Code.wp Ybaf.prog cd (Exit.then K (bodyPost Ybaf.prog Ybaf.f9 fun e w' => Fwd Po e w')) a w' → K1 a w') (hk : ∀ a w', Code.wp Ybaf.prog y (bodyPost Ybaf.prog Ybaf.f9 fun e w' => Fwd Po e w') a w' → K a w')
    {sl2 sl3 sl4 sl5 sl6 sl7 sl8 sl9 sl10 sl11 sl12 sl13 sl14 sl15 sl16 sl17 sl18 sl19 sl20 sl21 sl22 sl23 sl24 sl25 sl26 sl27 sl28 sl29 sl30 sl31 sl32 sl33 sl34 sl35 sl36 sl37 sl38 sl39 sl40 sl41 sl42 sl43 sl44 sl45 sl46 sl47 sl48 sl49 sl50 sl51 sl52 sl53 sl54 sl55 sl56 sl57 sl58 sl59 sl60 sl61 sl62 sl63 sl64 sl65 sl66 sl67 sl68 sl69 sl70 sl71 sl72 sl73 sl74 sl75 sl76 sl77 sl78 sl79 sl80 sl81 sl82 sl83 sl84 sl85 sl86 sl87 sl88 sl89 sl90 sl91 sl92 sl93 sl94 sl95 sl96 sl97 sl98 sl99 sl100 sl101 sl102 sl103 sl104 sl105 sl106 sl107 sl108 sl109 sl110 sl111 sl112 sl113 sl114 sl115 sl116 sl117 sl118 sl119 sl120 sl121 sl122 sl123 sl124 sl125 sl126 sl127 sl128 sl129 sl130 sl131 sl132 sl133 sl134 sl135 : Value} :
    Code.wp Ybaf.prog x (Exit.then K1 (Exit.then K (bodyPost Ybaf.prog Ybaf.f9 fun e w' => Fwd Po e w'))) ⟨#[.pointer (some ⟨T, 0, none⟩), .pointer (some ⟨Fb, 0, none⟩), sl2, sl3, sl4, sl5, sl6, sl7, sl8, sl9, sl10, sl11, sl12, sl13, sl14, sl15, sl16, sl17, sl18, sl19, sl20, sl21, sl22, sl23, sl24, sl25, sl26, sl27, sl28, sl29, sl30, sl31, sl32, sl33, sl34, sl35, sl36, sl37, sl38, sl39, sl40, sl41, sl42, sl43, sl44, sl45, sl46, sl47, sl48, sl49, sl50, sl51, sl52, sl53, sl54, sl55, sl56, sl57, sl58, sl59, sl60, sl61, sl62, sl63, sl64, sl65, sl66, sl67, sl68, sl69, sl70, sl71, sl72, sl73, sl74, sl75, sl76, sl77, sl78, sl79, sl80, sl81, sl82, sl83, sl84, sl85, sl86, sl87, sl88, sl89, sl90, sl91, sl92, sl93, sl94, sl95, sl96, sl97, sl98, sl99, sl100, sl101, sl102, sl103, sl104, sl105, sl106, sl107, sl108, sl109, sl110, sl111, sl112, sl113, sl114, sl115, sl116, sl117, sl118, sl119, sl120, sl121, sl122, sl123, sl124, sl125, sl126, sl127, sl128, sl129, sl130, sl131, sl132, sl133, sl134, sl135], []⟩ u := by
  unfold IsIf9 at hxy
  conv at hxy => lhs; whnf
  obtain ⟨rfl, h2⟩ := Prod.mk.inj (Option.some.inj hxy)
  obtain ⟨rfl, rfl⟩ := Prod.mk.inj h2
  clear hxy h2
  have HPO : Hid (∀ e w', AddPost m1 m2 T n md (its.map (prOf mod)) u e w' → Po e w') := hPo
  clear hPo
  have HF : Hid (F.answers u.tape) := hF
  have KT : Hid (Blk u T #[.map (some m1), .map (some m2)] 29) := kT
  have HM : Hid (Maps2 u m1 m2 n md) := hM
  have HR : Hid (IRow u ao its ∧ (∀ g o, ao = some (⟨g, o, none⟩ : Addr) → g ≠ m1 ∧ g ≠ m2) ∧ ∀ it ∈ its, it.fit) := ⟨hR, hRn, hfit⟩
  have HFb : Hid (u.cell? ⟨Fb, 0, none⟩ = some (.string mod) ∧ Fb < u.heap.size ∧ Fb ≠ m1 ∧ Fb ≠ m2) := ⟨f0, hFb⟩
  have HSZ : Hid (mod.size ≤ 10 ∧ its.length ≤ 2000 ∧ n ≤ 100000) := ⟨hmod, hl, hn⟩
  have HT : Hid (T ≠ m1 ∧ T ≠ m2) := hT
  obtain ⟨c, hc⟩ : ∃ c, c = its.length := ⟨_, rfl⟩
  rw [← hc] at f7
  have HC : Hid (c = its.length) := hc
  clear hF kT hM hR hRn hfit f0 hFb hmod hl hn hc hT
  go_wp2_with fail
  go_loopg [30] c (fun gk t wx => ARel m1 m2 n md (its.map (prOf mod)) u gk t wx)
  case atStart => exact ⟨0, md, by have := HC.out; simp; omega, rfl, HM.out, by simp, KeepM.refl _ _ _⟩
  case round =>
    obtain ⟨j, md', hjg, rfl, hM, hadd, hK⟩ := hrel
    have HM2 : Hid (Maps2 wr m1 m2 (n + j) md') := hM
    have HK : Hid (KeepM m1 m2 u wr) := hK
    have HAD : Hid (addL md (its.map (prOf mod)) = addL md' ((its.map (prOf mod)).drop j)) := hadd
    have hjg' : j + gk = its.length := by simpa using hjg
    have HJG : Hid (j + gk = its.length) := hjg'
    clear hM hK hadd hjg hjg'
    by_cases hj : j < c
    · obtain ⟨g, o, rfl, hg, hmm⟩ := HR.out.1 (by have := HC.out; omega)
      obtain ⟨it, hit⟩ : ∃ it, its[j]? = some it := ⟨its[j]'(by have := HC.out; omega), List.getElem?_eq_getElem _⟩
      have hgne := HR.out.2.1 g o rfl
      have hat := hmm j it hit
      have i0 : wr.cell? ⟨g, o + j * 4, none⟩ = some (.string it.ns) := (HK.out.cell hg hgne.1 hgne.2 _).trans hat.1
      have i1 : wr.cell? ⟨g, o + j * 4 + 1, none⟩ = some (.string it.id) := (HK.out.cell hg hgne.1 hgne.2 _).trans hat.2.1
      have i2 : wr.cell? ⟨g, o + j * 4 + 2, none⟩ = some (.int .u64 it.sid) := (HK.out.cell hg hgne.1 hgne.2 _).trans hat.2.2.1
      have i3 : wr.cell? ⟨g, o + j * 4 + 3, none⟩ = some (.string ⟨#[]⟩) := (HK.out.cell hg hgne.1 hgne.2 _).trans hat.2.2.2
      have j0 : (0 : Int) ≤ (j : Int) := by omega
      have j1 : (j : Int) < (c : Int) := by omega
      have HIT : Hid (its[j]? = some it ∧ it.fit) := ⟨hit, HR.out.2.2 it (List.mem_of_getElem? hit)⟩
      have hgk : 0 < gk := by have := HJG.out; have := HC.out; omega
      have HGK : Hid (0 < gk) := hgk
      have hc2 : c ≤ 2000 := by have := HSZ.out; have := HC.out; omega
      clear hmm hat hgne hit
      go_upto_region 8 with fail
      obtain ⟨D6, hD6⟩ : ∃ D, D = wr.heap.size := ⟨_, rfl⟩
      obtain ⟨D7, hD7⟩ : ∃ D, D = wr.heap.size + 1 := ⟨_, rfl⟩
      obtain ⟨x1, hx1⟩ : ∃ x1, x1 = (wr.alloc (.cells #[.string it.ns, .string it.id, .int .u64 it.sid, .string ⟨#[]⟩] 43)).alloc (.cells #[.string it.ns, .string it.id] 48) := ⟨_, rfl⟩
      rw [← hx1, ← hD7, ← hD6]
      have k6 : Blk x1 D6 #[.string it.ns, .string it.id, .int .u64 it.sid, .string ⟨#[]⟩] 43 := by rw [hx1, hD6]; exact (Blk.new _ _ _).alloc _
      have k7 : Blk x1 D7 #[.string it.ns, .string it.id] 48 := by
        rw [hx1]; have := Blk.new (wr.alloc (.cells #[.string it.ns, .string it.id, .int .u64 it.sid, .string ⟨#[]⟩] 43)) #[.string it.ns, .string it.id] 48; simpa [hD7] using this
      have hb1 : Below wr.heap.size wr x1 := by rw [hx1]; exact ((Below.refl _ _).alloc (Nat.le_refl _) _).alloc (by simp) _
      have d0 : x1.cell? ⟨D6, 0, none⟩ = some (.string it.ns) := k6.cell 0
      have d1 : x1.cell? ⟨D6, 1, none⟩ = some (.string it.id) := k6.cell 1
      have d2 : x1.cell? ⟨D6, 2, none⟩ = some (.int .u64 it.sid) := k6.cell 2
      have e1 : x1.cell? ⟨D7, 1, none⟩ = some (.string it.id) := k7.cell 1
      have ff : x1.frozen? ⟨D7, 1, none⟩ = false := k7.frozen 1
      have HDD : Hid (D6 = wr.heap.size ∧ D7 = wr.heap.size + 1) := ⟨hD6, hD7⟩
      have hne67 : D7 ≠ D6 := by omega
      have K6 : Hid (Blk x1 D6 #[.string it.ns, .string it.id, .int .u64 it.sid, .string ⟨#[]⟩] 43) := k6
      have K7 : Hid (Blk x1 D7 #[.string it.ns, .string it.id] 48) := k7
      have HB1 : Hid (Below wr.heap.size wr x1) := hb1
      clear hx1 hD6 hD7 k6 k7 hb1 i0 i1 i2 i3
      obtain ⟨ow, how⟩ : ∃ ow, ow = isOwn it := ⟨_, rfl⟩
      have HOWN : Hid (ow = isOwn it) := how
      clear how
      go_cut [46] (fun v w' => v = .bool ow ∧ x1 = w')
      case first =>
        by_cases c1 : it.ns = identB
        · have y1 : (it.ns.toList == [105, 100, 101, 110, 116, 105, 116, 121]) = true := by rw [ident_eq]; simp [c1]
          have HOW : Hid (isOwn it = true) := (by show _ = _; simp [isOwn, c1])
          clear c1
          go_wp2_with fail
          go_meet
          exact ⟨by rw [HOWN.out, HOW.out], rfl⟩
        · by_cases c2 : it.ns = featB
          · have y1 : (it.ns.toList == [105, 100, 101, 110, 116, 105, 116, 121]) = false := by rw [ident_eq]; simp [c1]
            have y2 : (it.ns.toList == [102, 101, 97, 116, 117, 114, 101]) = true := by rw [feat_eq]; simp [c2]
            have HOW : Hid (isOwn it = true) := (by show _ = _; simp [isOwn, c2])
            clear c1 c2
            go_wp2_with fail
            go_meet
            exact ⟨by rw [HOWN.out, HOW.out], rfl⟩
          · have y1 : (it.ns.toList == [105, 100, 101, 110, 116, 105, 116, 121]) = false := by rw [ident_eq]; simp [c1]
            have y2 : (it.ns.toList == [102, 101, 97, 116, 117, 114, 101]) = false := by rw [feat_eq]; simp [c2]
            have HOW : Hid (isOwn it = false) := (by show _ = _; simp [isOwn, c1, c2])
            clear c1 c2
            go_wp2_with fail
            go_meet
            exact ⟨by rw [HOWN.out, HOW.out], rfl⟩
      case rest =>
        obtain ⟨rfl, rfl⟩ := hcut
        have fb1 : x1.cell? ⟨Fb, 0, none⟩ = some (.string mod) := by
          rw [cell_below HB1.out (Nat.lt_of_lt_of_le HFb.out.2.1 HK.out.size), HK.out.cell HFb.out.2.1 HFb.out.2.2.1 HFb.out.2.2.2]; exact HFb.out.1
        have qF7 : Fb ≠ D7 := by have := HFb.out.2.1; have := HK.out.size; have := HDD.out; omega
        have q67 : D6 ≠ D7 := fun e => hne67 e.symm
        have hsm : mod.size ≤ 10 := HSZ.out.1
        have hsi : it.id.size ≤ 40 := HIT.out.2.2.1
        have MX : Hid (Maps2 x1 m1 m2 (n + j) md') := HM2.out.of_block (HB1.out.block m1 HM2.out.s.lt) (HB1.out.block m2 HM2.out.i.lt)
        have KX : Hid (KeepM m1 m2 u x1) := HK.out.trans (KeepM.of_below HB1.out)
        have N7 : Hid (D7 ≠ m1 ∧ D7 ≠ m2 ∧ u.heap.size ≤ D7) := (by have := HM2.out.s.lt; have := HM2.out.i.lt; have := HDD.out; have := HK.out.size; show _ ∧ _ ∧ _; omega)
        go_upto_if 46 with fail
        go_cut [] (fun w' => Blk w' D7 #[.string (prOf mod it).ns, .string (prOf mod it).id] 48 ∧ Blk w' D6 #[.string it.ns, .string it.id, .int .u64 it.sid, .string ⟨#[]⟩] 43 ∧ Maps2 w' m1 m2 (n + j) md' ∧ KeepM m1 m2 u w')
        case first =>
          cases ow
          · have HOW : Hid (isOwn it = false) := HOWN.out.symm
            go_wp2_with fail
            go_meet
            exact ⟨by unfold prOf; rw [HOW.out]; exact K7.out, K6.out, MX.out, KX.out⟩
          · have HOW : Hid (isOwn it = true) := HOWN.out.symm
            have hsz1 : ¬ (9223372036854775807 < mod.size + 1) := by omega
            have hsz2 : ¬ (9223372036854775807 < mod.size + 1 + it.id.size) := by omega
            go_wp2_with fail
            go_region_law (fail)
            all_goals
              go_wp2_with fail
              go_meet
              exact ⟨by unfold prOf; rw [HOW.out]; exact K7.out.set 1 _, K6.out.setOther (a := ⟨D7, 1, none⟩) q67 _, MX.out.of_block (blk_setCell_other _ ⟨D7, 1, none⟩ _ _ (Ne.symm N7.out.1)) (blk_setCell_other _ ⟨D7, 1, none⟩ _ _ (Ne.symm N7.out.2.1)), KX.out.setNew N7.out.2.2 _ rfl rfl rfl rfl⟩
        case rest =>
          obtain ⟨wd, hwd⟩ : ∃ x : World, x = wc := ⟨_, rfl⟩
          subst hwd
          obtain ⟨k7, k6, hM7, hK7⟩ := hcut
          obtain ⟨q, hq⟩ : ∃ q, q = prOf mod it := ⟨_, rfl⟩
          rw [← hq] at k7
          have eqs : q.sid = it.sid := by rw [hq]; rfl
          have eqn : q.ns = it.ns := by rw [hq]; rfl
          have hqf : q.fit := by
            have h1 := HIT.out.2
            refine ⟨by rw [hq]; exact Nat.le_trans h1.1 (by omega), ?_, by rw [eqs]; exact h1.2.2.1, by rw [eqs]; exact h1.2.2.2⟩
            rw [hq]
            unfold prOf
            have h2 := h1.2.1
            have h3 := HSZ.out.1
            dsimp only
            split
            · simp only [ByteArray.size_append]
              have : (⟨#[58]⟩ : ByteArray).size = 1 := rfl
              omega
            · omega
          rw [← eqs, ← eqn] at k6
          have HQ : Hid (q = prOf mod it ∧ q.fit) := ⟨hq, hqf⟩
          have hTu := KT.out.lt
          have kTc : Blk wd T #[.map (some m1), .map (some m2)] 29 := KT.out.of_block (hK7.block T hTu HT.out.1 HT.out.2)
          have t0 : wd.cell? ⟨T, 0, none⟩ = some (.map (some m1)) := kTc.cell 0
          have t1 : wd.cell? ⟨T, 1, none⟩ = some (.map (some m2)) := kTc.cell 1
          have a0 : wd.cell? ⟨D6, 0, none⟩ = some (.string q.ns) := k6.cell 0
          have a2 : wd.cell? ⟨D6, 2, none⟩ = some (.int .u64 q.sid) := k6.cell 2
          have z0 : wd.cell? ⟨D7, 0, none⟩ = some (.string q.ns) := k7.cell 0
          have z1 : wd.cell? ⟨D7, 1, none⟩ = some (.string q.id) := k7.cell 1
          have hl6 := k6.lt
          have hl7 := k7.lt
          have hlT := kTc.lt
          have M7 : Hid (Maps2 wd m1 m2 (n + j) md') := hM7
          have K8 : Hid (KeepM m1 m2 u wd) := hK7
          have L6 : Hid (Blk wd D6 #[.string q.ns, .string it.id, .int .u64 q.sid, .string ⟨#[]⟩] 43 ∧ Blk wd D7 #[.string q.ns, .string q.id] 48 ∧ Blk wd T #[.map (some m1), .map (some m2)] 29) := ⟨k6, k7, kTc⟩
          have HFC : Hid (F.answers wd.tape) := (by show F.answers wd.tape; rw [hK7.tape]; exact HF.out)
          have hqi : q.id.size ≤ 200 := by have := hqf.2.1; omega
          have HDR : Hid ((its.map (prOf mod)).drop j = q :: (its.map (prOf mod)).drop (j + 1)) := (by show _ = _; rw [hq]; exact drop_map_cons HIT.out.1)
          clear k6 k7 hM7 hK7 hq hqf kTc eqs eqn d0 d1 d2 e1 ff hTu MX KX K6 K7 fb1 qF7
          have wy := M7.out.ways q
          rcases wy with ⟨hmem, hbad, hdup⟩ | ⟨p, hp, hkp, hsp, hbad⟩ | ⟨hno, p, hp, hsp, hkp, hbad⟩ | ⟨hno, hns, hbad, hdup⟩
          · -- it stands already
            have hr1 : ∀ k, (Instr.lookup 26 (.map (some m1)) (.agg #[.string q.ns, .string q.id]) true).run Ybaf.prog (wd.drewN k) = .ok (.tuple #[.int .u64 q.sid, .bool true]) (wd.drewN k) := fun k => (M7.out.of_block (w' := wd.drewN k) rfl rfl).sHit hmem rfl
            have hr2 : ∀ y : World, y.heap[m2]? = wd.heap[m2]? → (Instr.lookup 27 (.map (some m2)) (.int .u64 q.sid) true).run Ybaf.prog y = .ok (.tuple #[.agg #[.string q.ns, .string q.id], .bool true]) y := fun y hy => (M7.out.i.of_block hy).hit keyed41 keyElem_inj Ybaf.underlying27 (zero48 y) (keyElem_kv _ _) (mem_items hmem)
            have HFR : Hid (Fresh md' q) := .inl ⟨hmem, hdup⟩
            have HBD : Hid (badB md' q = false) := hbad
            have y1 : (q.sid == q.sid) = true := by simp
            have y2 : (q.ns.toList == q.ns.toList) = true := by simp
            have y3 : (q.id.toList == q.id.toList) = true := by simp
            clear hmem hbad hdup
            have hm2 : m2 < wd.heap.size := M7.out.i.lt
            have hrA : ∀ k, (Instr.lookup 27 (.map (some m2)) (.int .u64 q.sid) true).run Ybaf.prog (wd.drewN k) = .ok (.tuple #[.agg #[.string q.ns, .string q.id], .bool true]) (wd.drewN k) := fun k => hr2 _ rfl
            have hrB : ∀ k ob, (Instr.lookup 27 (.map (some m2)) (.int .u64 q.sid) true).run Ybaf.prog ((wd.drewN k).alloc ob) = .ok (.tuple #[.agg #[.string q.ns, .string q.id], .bool true]) ((wd.drewN k).alloc ob) := fun k ob => hr2 _ (Below.heap_alloc _ _ _ hm2)
            have hrC : ∀ k ob, (Instr.lookup 27 (.map (some m2)) (.int .u64 q.sid) true).run Ybaf.prog ((wd.drewN k).alloc ob).drew = .ok (.tuple #[.agg #[.string q.ns, .string q.id], .bool true]) ((wd.drewN k).alloc ob).drew := fun k ob => hr2 _ (Below.heap_alloc _ _ _ hm2)
            have hrD : ∀ k ob l, (Instr.lookup 27 (.map (some m2)) (.int .u64 q.sid) true).run Ybaf.prog (((wd.drewN k).alloc ob).drewN l) = .ok (.tuple #[.agg #[.string q.ns, .string q.id], .bool true]) (((wd.drewN k).alloc ob).drewN l) := fun k ob l => hr2 _ (Below.heap_alloc _ _ _ hm2)
            clear hr2
            have hn0 : ∀ k (cs : Array Value) i, ((wd.drewN k).alloc (.cells cs 48)).cell? ⟨wd.heap.size, i, none⟩ = cs[i]? := fun k cs i => (Blk.new (wd.drewN k) cs 48).cell i
            have hn1 : ∀ k (cs : Array Value) i, ((wd.drewN k).alloc (.cells cs 48)).frozen? ⟨wd.heap.size, i, none⟩ = false := fun k cs i => (Blk.new (wd.drewN k) cs 48).frozen i
            have hn2 : ∀ k (cs : Array Value) i v, ((wd.drewN k).alloc (.cells cs 48)).setCell ⟨wd.heap.size, i, none⟩ v = (wd.drewN k).alloc (.cells (cs.setIfInBounds i v) 48) := fun k cs i v => World.setCell_alloc_new _ _ _ _
            go_upto_region 10 with fail
            go_quiet (fail)
            go_wp2_with fail
            clear hr1
            go_cut [10, 11] (fun v10 v11 w' => v10 = .pointer (some ⟨wd.heap.size, 0, none⟩) ∧ v11 = .bool true ∧ Blk w' wd.heap.size #[.string q.ns, .string q.id] 48 ∧ Below wd.heap.size wd w')
            case first =>
              go_region_held3 (fun w' => w'.cell? ⟨T, 1, none⟩ = some (.map (some m2)) ∧ w'.cell? ⟨D6, 2, none⟩ = some (.int .u64 q.sid)) (go_keep) (fail)
              all_goals
                go_wp2_with fail
                go_meet
                exact ⟨rfl, rfl, Blk.new _ _ _, below_same ((Below.refl wd.heap.size wd).alloc (Nat.le_refl _) _) rfl rfl rfl rfl⟩
            case rest =>
              obtain ⟨rfl, rfl, k10, hb10⟩ := hcut
              clear hrA hrB hrC hrD hn0 hn1 hn2
              obtain ⟨we, hwe⟩ : ∃ x : World, x = wc := ⟨_, rfl⟩
              subst hwe
              have Me : Hid (Maps2 we m1 m2 (n + j) md') := M7.out.of_block (hb10.block m1 M7.out.s.lt) (hb10.block m2 M7.out.i.lt)
              have CE : Hid (we.cell? ⟨T, 0, none⟩ = some (.map (some m1)) ∧ we.cell? ⟨T, 1, none⟩ = some (.map (some m2)) ∧ we.cell? ⟨D7, 0, none⟩ = some (.string q.ns) ∧ we.cell? ⟨D7, 1, none⟩ = some (.string q.id) ∧ we.cell? ⟨D6, 2, none⟩ = some (.int .u64 q.sid)) := ⟨(cell_below hb10 hlT _).trans t0, (cell_below hb10 hlT _).trans t1, (cell_below hb10 hl7 _).trans z0, (cell_below hb10 hl7 _).trans z1, (cell_below hb10 hl6 _).trans a2⟩
              have KE : Hid (KeepM m1 m2 u we) := K8.out.trans (KeepM.of_below hb10)
              have ve0 : we.cell? ⟨T, 0, none⟩ = some (.map (some m1)) := CE.out.1
              have ve1 : we.cell? ⟨T, 1, none⟩ = some (.map (some m2)) := CE.out.2.1
              have ve2 : we.cell? ⟨D7, 0, none⟩ = some (.string q.ns) := CE.out.2.2.1
              have ve3 : we.cell? ⟨D7, 1, none⟩ = some (.string q.id) := CE.out.2.2.2.1
              have ve4 : we.cell? ⟨D6, 2, none⟩ = some (.int .u64 q.sid) := CE.out.2.2.2.2
              have w0 : we.cell? ⟨wd.heap.size, 0, none⟩ = some _ := k10.cell 0
              have w1 : we.cell? ⟨wd.heap.size, 1, none⟩ = some _ := k10.cell 1
              have hnl : n + j < maxLen := by have := HSZ.out; have := HJG.out; unfold maxLen; omega
              have hst1 := Me.out.store1 hnl HQ.out.2 HFR.out
              obtain ⟨f1, hf1⟩ : ∃ f : World → World, ∀ y, y.heap = we.heap → (Instr.mapUpdate 26 (.map (some m1)) (.agg #[.string q.ns, .string q.id]) (.int .u64 q.sid)).run Ybaf.prog y = .ok () (f y) ∧ MapIs 48 (plainElem Ybaf.prog 41) (f y) m1 (n + j + 1) (sidsL (stepL md' q)) ∧ y.grownBy (f y) (some m1) := by
                classical
                exact ⟨fun y => if h : y.heap = we.heap then Classical.choose (hst1 y h) else y, fun y h => by simp only [dif_pos h]; exact Classical.choose_spec (hst1 y h)⟩
              have NT : Hid (T ≠ m1 ∧ T ≠ m2 ∧ D7 ≠ m1 ∧ D7 ≠ m2 ∧ D6 ≠ m1 ∧ D6 ≠ m2) := (by have := HM2.out.s.lt; have := HM2.out.i.lt; have := HDD.out; have := HT.out; show _ ∧ _ ∧ _ ∧ _ ∧ _ ∧ _; omega)
              have LT : Hid (T < we.heap.size ∧ D7 < we.heap.size ∧ D6 < we.heap.size ∧ m1 < we.heap.size ∧ m2 < we.heap.size ∧ u.heap.size ≤ we.heap.size) := (by have := hb10.size; have := Me.out.s.lt; have := Me.out.i.lt; have := KE.out.size; show _ ∧ _ ∧ _ ∧ _ ∧ _ ∧ _; omega)
              have HF1 : Hid (∀ y, y.heap = we.heap → ((f1 y).cell? ⟨T, 0, none⟩ = some (.map (some m1)) ∧ (f1 y).cell? ⟨T, 1, none⟩ = some (.map (some m2)) ∧ (f1 y).cell? ⟨D7, 0, none⟩ = some (.string q.ns) ∧ (f1 y).cell? ⟨D7, 1, none⟩ = some (.string q.id) ∧ (f1 y).cell? ⟨D6, 2, none⟩ = some (.int .u64 q.sid))) := fun y hy => by
                have hg := (hf1 y hy).2.2
                have c : ∀ g i, g < we.heap.size → g ≠ m1 → (f1 y).cell? ⟨g, i, none⟩ = we.cell? ⟨g, i, none⟩ := fun g i hl hn => by
                  rw [hg.cell_far ⟨g, i, none⟩ (by rw [hy]; exact hl) (fun e => hn (Option.some.inj e))]
                  simp only [World.cell?, hy]
                exact ⟨(c _ _ LT.out.1 NT.out.1).trans CE.out.1, (c _ _ LT.out.1 NT.out.1).trans CE.out.2.1, (c _ _ LT.out.2.1 NT.out.2.2.1).trans CE.out.2.2.1, (c _ _ LT.out.2.1 NT.out.2.2.1).trans CE.out.2.2.2.1, (c _ _ LT.out.2.2.1 NT.out.2.2.2.2.1).trans CE.out.2.2.2.2⟩
              have r1 : (Instr.mapUpdate 26 (.map (some m1)) (.agg #[.string q.ns, .string q.id]) (.int .u64 q.sid)).run Ybaf.prog we = .ok () (f1 we) := (hf1 _ rfl).1
              have r2 : (Instr.mapUpdate 26 (.map (some m1)) (.agg #[.string q.ns, .string q.id]) (.int .u64 q.sid)).run Ybaf.prog we.drew = .ok () (f1 we.drew) := (hf1 we.drew rfl).1
              have r3 : ∀ k, (Instr.mapUpdate 26 (.map (some m1)) (.agg #[.string q.ns, .string q.id]) (.int .u64 q.sid)).run Ybaf.prog (we.drewN k) = .ok () (f1 (we.drewN k)) := fun k => (hf1 (we.drewN k) rfl).1
              have FF1 : Hid (∀ y, y.heap = we.heap → y.os = we.os → y.tape = we.tape → y.output = we.output → MapIs 48 (plainElem Ybaf.prog 41) (f1 y) m1 (n + j + 1) (sidsL (stepL md' q)) ∧ (f1 y).heap[m2]? = we.heap[m2]? ∧ KeepM m1 m2 u (f1 y) ∧ ((f1 y).cell? ⟨T, 0, none⟩ = some (.map (some m1)) ∧ (f1 y).cell? ⟨T, 1, none⟩ = some (.map (some m2)) ∧ (f1 y).cell? ⟨D7, 0, none⟩ = some (.string q.ns) ∧ (f1 y).cell? ⟨D7, 1, none⟩ = some (.string q.id) ∧ (f1 y).cell? ⟨D6, 2, none⟩ = some (.int .u64 q.sid))) := fun y h1 h2 h3 h4 => by
                have hg := (hf1 y h1).2.2
                refine ⟨(hf1 y h1).2.1, ?_, KE.out.trans ⟨hg.os.trans h2, hg.tape.trans h3, hg.output.trans h4, by rw [← h1]; exact hg.size, fun g hgl q1 q2 => by rw [hg.block g (by rw [h1]; exact hgl) (fun e => q1 (Option.some.inj e)), h1]⟩, HF1.out y h1⟩
                rw [hg.block m2 (by rw [h1]; exact LT.out.2.2.2.2.1) (fun e => Me.out.ne (Option.some.inj e).symm), h1]
              clear hst1 hf1 k10 hb10
              go_upto_region 16 with fail
              clear w0 w1
              go_cut [] (fun w' => MapIs 48 (plainElem Ybaf.prog 41) w' m1 (n + j + 1) (sidsL (stepL md' q)) ∧ w'.heap[m2]? = we.heap[m2]? ∧ KeepM m1 m2 u w' ∧ (w'.cell? ⟨T, 0, none⟩ = some (.map (some m1)) ∧ w'.cell? ⟨T, 1, none⟩ = some (.map (some m2)) ∧ w'.cell? ⟨D7, 0, none⟩ = some (.string q.ns) ∧ w'.cell? ⟨D7, 1, none⟩ = some (.string q.id) ∧ w'.cell? ⟨D6, 2, none⟩ = some (.int .u64 q.sid)))
              case first =>
                go_region_held3 (fun w' => w'.cell? ⟨T, 0, none⟩ = some (.map (some m1)) ∧ w'.cell? ⟨T, 1, none⟩ = some (.map (some m2)) ∧ w'.cell? ⟨D7, 0, none⟩ = some (.string q.ns) ∧ w'.cell? ⟨D7, 1, none⟩ = some (.string q.id) ∧ w'.cell? ⟨D6, 2, none⟩ = some (.int .u64 q.sid)) (first | (exact HF1.out _ (by rfl)) | go_keep) (fail)
                all_goals
                  go_wp2_with fail
                  go_meet
                  exact FF1.out _ (by rfl) (by rfl) (by rfl) (by rfl)
              case rest =>
                obtain ⟨hS3, hI3, hK3, g0, g1, g2, g3, g4⟩ := hcut
                obtain ⟨wf, hwf⟩ : ∃ x : World, x = wc := ⟨_, rfl⟩
                subst hwf
                clear r1 r2 r3 ve0 ve1 ve2 ve3 ve4
                have CF : Hid (wf.cell? ⟨T, 0, none⟩ = some (.map (some m1)) ∧ wf.cell? ⟨T, 1, none⟩ = some (.map (some m2)) ∧ wf.cell? ⟨D7, 0, none⟩ = some (.string q.ns) ∧ wf.cell? ⟨D7, 1, none⟩ = some (.string q.id) ∧ wf.cell? ⟨D6, 2, none⟩ = some (.int .u64 q.sid)) := ⟨g0, g1, g2, g3, g4⟩
                have LF : Hid (T < wf.heap.size ∧ D7 < wf.heap.size ∧ D6 < wf.heap.size ∧ m2 < wf.heap.size ∧ m1 < wf.heap.size) := (by
                  have e : ∀ g i v, wf.cell? ⟨g, i, none⟩ = some v → g < wf.heap.size := fun g i v h => World.block_lt_of_cell? wf _ h
                  have hm : m2 < wf.heap.size := by
                    have h1 := LT.out.2.2.2.2.1
                    rw [Array.getElem?_eq_getElem h1] at hI3
                    exact (Array.getElem?_eq_some_iff.1 hI3).1
                  exact ⟨e _ _ _ g0, e _ _ _ g2, e _ _ _ g4, hm, hS3.lt⟩)
                have hst2 := fun (y : World) (h : y.heap = wf.heap) => Me.out.store2 hnl HQ.out.2 HFR.out y (by rw [h]; exact hI3)
                obtain ⟨f2, hf2⟩ : ∃ f : World → World, ∀ y, y.heap = wf.heap → (Instr.mapUpdate 27 (.map (some m2)) (.int .u64 q.sid) (.agg #[.string q.ns, .string q.id])).run Ybaf.prog y = .ok () (f y) ∧ MapIs 41 keyElem (f y) m2 (n + j + 1) (itemsL (stepL md' q)) ∧ y.grownBy (f y) (some m2) := by
                  classical
                  exact ⟨fun y => if h : y.heap = wf.heap then Classical.choose (hst2 y h) else y, fun y h => by simp only [dif_pos h]; exact Classical.choose_spec (hst2 y h)⟩
                have HF2 : Hid (∀ y, y.heap = wf.heap → ((f2 y).cell? ⟨T, 0, none⟩ = some (.map (some m1)) ∧ (f2 y).cell? ⟨T, 1, none⟩ = some (.map (some m2)) ∧ (f2 y).cell? ⟨D7, 0, none⟩ = some (.string q.ns) ∧ (f2 y).cell? ⟨D7, 1, none⟩ = some (.string q.id) ∧ (f2 y).cell? ⟨D6, 2, none⟩ = some (.int .u64 q.sid))) := fun y hy => by
                  have hg := (hf2 y hy).2.2
                  have c : ∀ g i, g < wf.heap.size → g ≠ m2 → (f2 y).cell? ⟨g, i, none⟩ = wf.cell? ⟨g, i, none⟩ := fun g i hl hn => by
                    rw [hg.cell_far ⟨g, i, none⟩ (by rw [hy]; exact hl) (fun e => hn (Option.some.inj e))]
                    simp only [World.cell?, hy]
                  exact ⟨(c _ _ LF.out.1 NT.out.2.1).trans CF.out.1, (c _ _ LF.out.1 NT.out.2.1).trans CF.out.2.1, (c _ _ LF.out.2.1 NT.out.2.2.2.1).trans CF.out.2.2.1, (c _ _ LF.out.2.1 NT.out.2.2.2.1).trans CF.out.2.2.2.1, (c _ _ LF.out.2.2.1 NT.out.2.2.2.2.2).trans CF.out.2.2.2.2⟩
                have r1 : (Instr.mapUpdate 27 (.map (some m2)) (.int .u64 q.sid) (.agg #[.string q.ns, .string q.id])).run Ybaf.prog wf = .ok () (f2 wf) := (hf2 _ rfl).1
                have r2 : (Instr.mapUpdate 27 (.map (some m2)) (.int .u64 q.sid) (.agg #[.string q.ns, .string q.id])).run Ybaf.prog wf.drew = .ok () (f2 wf.drew) := (hf2 wf.drew rfl).1
                have r3 : ∀ k, (Instr.mapUpdate 27 (.map (some m2)) (.int .u64 q.sid) (.agg #[.string q.ns, .string q.id])).run Ybaf.prog (wf.drewN k) = .ok () (f2 (wf.drewN k)) := fun k => (hf2 (wf.drewN k) rfl).1
                have FF2 : Hid (∀ y, y.heap = wf.heap → y.os = wf.os → y.tape = wf.tape → y.output = wf.output → Maps2 (f2 y) m1 m2 (n + j + 1) (stepL md' q) ∧ KeepM m1 m2 u (f2 y)) := fun y h1 h2 h3 h4 => by
                  have hg := (hf2 y h1).2.2
                  refine ⟨⟨hS3.of_block ?_, (hf2 y h1).2.1, Me.out.ne, fit_step Me.out.fit HQ.out.2⟩, hK3.trans ⟨hg.os.trans h2, hg.tape.trans h3, hg.output.trans h4, by rw [← h1]; exact hg.size, fun g hgl q1 q2 => by rw [hg.block g (by rw [h1]; exact hgl) (fun e => q2 (Option.some.inj e)), h1]⟩⟩
                  rw [hg.block m1 (by rw [h1]; exact LF.out.2.2.2.2) (fun e => Me.out.ne (Option.some.inj e)), h1]
                clear hst2 hf2 hS3 hI3 hK3
                go_upto_region 17 with fail
                go_region_held3 (fun w' => w'.cell? ⟨T, 0, none⟩ = some (.map (some m1)) ∧ w'.cell? ⟨T, 1, none⟩ = some (.map (some m2)) ∧ w'.cell? ⟨D7, 0, none⟩ = some (.string q.ns) ∧ w'.cell? ⟨D7, 1, none⟩ = some (.string q.id) ∧ w'.cell? ⟨D6, 2, none⟩ = some (.int .u64 q.sid)) (first | (exact HF2.out _ (by rfl)) | go_keep) (fail)
                all_goals
                  go_wp2_with fail
                  go_roundg (gk - 1)
                  case measure => omega
                  case rel => exact ⟨j + 1, stepL md' q, by have := HJG.out; have := HGK.out; simp only [List.length_map]; omega, by go_num, (FF2.out _ (by rfl) (by rfl) (by rfl) (by rfl)).1, by rw [HAD.out, HDR.out]; simp [addL, HBD.out], (FF2.out _ (by rfl) (by rfl) (by rfl) (by rfl)).2⟩
          · -- its key stands with another number
            have hr1 : ∀ k, (Instr.lookup 26 (.map (some m1)) (.agg #[.string q.ns, .string q.id]) true).run Ybaf.prog (wd.drewN k) = .ok (.tuple #[.int .u64 p.sid, .bool true]) (wd.drewN k) := fun k => (M7.out.of_block (w' := wd.drewN k) rfl rfl).sHit hp hkp
            have y1 : (p.sid == q.sid) = false := by simp [hsp]
            have HBD : Hid (badB md' q = true) := hbad
            have HEA : Hid (∀ k, Calls Ybaf.prog 14 #[.string ⟨#[37, 115, 32, 37, 115, 32, 104, 97, 115, 32, 116, 119, 111, 32, 83, 73, 68, 115, 44, 32, 37, 100, 32, 97, 110, 100, 32, 37, 100]⟩, .slice (some ⟨wd.heap.size, 0, none⟩) 4 4] ((wd.drewN k).alloc (.cells #[.iface 9 (.string q.ns), .iface 9 (.string q.id), .iface 41 (.int .u64 p.sid), .iface 41 (.int .u64 q.sid)] 20)) fun e w' => ErrPost wd e w') := fun k => errA_new F q.ns q.id p.sid q.sid wd k HFC.out
            clear hp hkp hsp hbad
            go_upto_region 10 with fail
            go_quiet (fail)
            go_wp2_with fail
            go_region_held3 (fun w' => w'.cell? ⟨D6, 0, none⟩ = some (.string q.ns) ∧ w'.cell? ⟨D6, 2, none⟩ = some (.int .u64 q.sid) ∧ w'.cell? ⟨D7, 1, none⟩ = some (.string q.id)) (first | (exact ⟨(cell_below hb9.out hl6 _).trans a0, (cell_below hb9.out hl6 _).trans a2, (cell_below hb9.out hl7 _).trans z1⟩) | go_keep) (first | (go_at_call 15; refine (plain_any q.id _ hqi).mono ?_; rintro e w8 ⟨rfl, rfl⟩) | (go_at_call 14; (with_reducible refine (HEA.out _).mono ?_); rintro e w9 ⟨ad, rfl, hb8⟩; have hb9 : Hid (Below wd.heap.size wd w9) := hb8; clear hb8))
            go_wp2_with fail
            go_ret
            exact HPO.out _ _ (addPost_err HAD.out HDR.out HBD.out (M7.out.of_block (hb9.out.block m1 M7.out.s.lt) (hb9.out.block m2 M7.out.i.lt)) (K8.out.trans (KeepM.of_below hb9.out)) (by have := HJG.out; simp; omega) rfl)
          · -- its number stands with another key
            have hr1 : ∀ k, (Instr.lookup 26 (.map (some m1)) (.agg #[.string q.ns, .string q.id]) true).run Ybaf.prog (wd.drewN k) = .ok (.tuple #[.int .u64 0, .bool false]) (wd.drewN k) := fun k => (M7.out.of_block (w' := wd.drewN k) rfl rfl).sMiss HQ.out.2.1 HQ.out.2.2.1 hno
            have hr2 : ∀ y : World, y.heap[m2]? = wd.heap[m2]? → (Instr.lookup 27 (.map (some m2)) (.int .u64 q.sid) true).run Ybaf.prog y = .ok (.tuple #[.agg #[.string p.ns, .string p.id], .bool true]) y := fun y hy => by
              rw [← hsp]
              exact (M7.out.i.of_block hy).hit keyed41 keyElem_inj Ybaf.underlying27 (zero48 y) (keyElem_kv _ _) (mem_items hp)
            have HBD : Hid (badB md' q = true) := hbad
            have HPF : Hid (p.fit) := M7.out.fit p hp
            have hpi : p.id.size ≤ 200 := by have := HPF.out.2.1; omega
            have HKP : Hid (kv p.ns p.id ≠ kv q.ns q.id) := hkp
            clear hno hp hsp hkp hbad
            have hm2 : m2 < wd.heap.size := M7.out.i.lt
            have hrA : ∀ k, (Instr.lookup 27 (.map (some m2)) (.int .u64 q.sid) true).run Ybaf.prog (wd.drewN k) = .ok (.tuple #[.agg #[.string p.ns, .string p.id], .bool true]) (wd.drewN k) := fun k => hr2 _ rfl
            have hrB : ∀ k ob, (Instr.lookup 27 (.map (some m2)) (.int .u64 q.sid) true).run Ybaf.prog ((wd.drewN k).alloc ob) = .ok (.tuple #[.agg #[.string p.ns, .string p.id], .bool true]) ((wd.drewN k).alloc ob) := fun k ob => hr2 _ (Below.heap_alloc _ _ _ hm2)
            have hrC : ∀ k ob, (Instr.lookup 27 (.map (some m2)) (.int .u64 q.sid) true).run Ybaf.prog ((wd.drewN k).alloc ob).drew = .ok (.tuple #[.agg #[.string p.ns, .string p.id], .bool true]) ((wd.drewN k).alloc ob).drew := fun k ob => hr2 _ (Below.heap_alloc _ _ _ hm2)
            have hrD : ∀ k ob l, (Instr.lookup 27 (.map (some m2)) (.int .u64 q.sid) true).run Ybaf.prog (((wd.drewN k).alloc ob).drewN l) = .ok (.tuple #[.agg #[.string p.ns, .string p.id], .bool true]) (((wd.drewN k).alloc ob).drewN l) := fun k ob l => hr2 _ (Below.heap_alloc _ _ _ hm2)
            clear hr2
            have hn0 : ∀ k (cs : Array Value) i, ((wd.drewN k).alloc (.cells cs 48)).cell? ⟨wd.heap.size, i, none⟩ = cs[i]? := fun k cs i => (Blk.new (wd.drewN k) cs 48).cell i
            have hn1 : ∀ k (cs : Array Value) i, ((wd.drewN k).alloc (.cells cs 48)).frozen? ⟨wd.heap.size, i, none⟩ = false := fun k cs i => (Blk.new (wd.drewN k) cs 48).frozen i
            have hn2 : ∀ k (cs : Array Value) i v, ((wd.drewN k).alloc (.cells cs 48)).setCell ⟨wd.heap.size, i, none⟩ v = (wd.drewN k).alloc (.cells (cs.setIfInBounds i v) 48) := fun k cs i v => World.setCell_alloc_new _ _ _ _
            go_upto_region 10 with fail
            go_quiet (fail)
            go_wp2_with fail
            clear hr1
            go_cut [10, 11] (fun v10 v11 w' => v10 = .pointer (some ⟨wd.heap.size, 0, none⟩) ∧ v11 = .bool true ∧ Blk w' wd.heap.size #[.string p.ns, .string p.id] 48 ∧ Below wd.heap.size wd w')
            case first =>
              go_region_held3 (fun w' => w'.cell? ⟨T, 1, none⟩ = some (.map (some m2)) ∧ w'.cell? ⟨D6, 2, none⟩ = some (.int .u64 q.sid)) (go_keep) (fail)
              all_goals
                go_wp2_with fail
                go_meet
                exact ⟨rfl, rfl, Blk.new _ _ _, below_same ((Below.refl wd.heap.size wd).alloc (Nat.le_refl _) _) rfl rfl rfl rfl⟩
            case rest =>
              obtain ⟨rfl, rfl, k10, hb10⟩ := hcut
              clear hrA hrB hrC hrD hn0 hn1 hn2
              obtain ⟨we, hwe⟩ : ∃ x : World, x = wc := ⟨_, rfl⟩
              subst hwe
              have Me : Hid (Maps2 we m1 m2 (n + j) md') := M7.out.of_block (hb10.block m1 M7.out.s.lt) (hb10.block m2 M7.out.i.lt)
              have KE : Hid (KeepM m1 m2 u we) := K8.out.trans (KeepM.of_below hb10)
              have a0' : we.cell? ⟨D6, 0, none⟩ = some (.string q.ns) := (cell_below hb10 hl6 _).trans a0
              have a2' : we.cell? ⟨D6, 2, none⟩ = some (.int .u64 q.sid) := (cell_below hb10 hl6 _).trans a2
              have z0' : we.cell? ⟨D7, 0, none⟩ = some (.string q.ns) := (cell_below hb10 hl7 _).trans z0
              have z1' : we.cell? ⟨D7, 1, none⟩ = some (.string q.id) := (cell_below hb10 hl7 _).trans z1
              have w0 : we.cell? ⟨wd.heap.size, 0, none⟩ = some (.string p.ns) := k10.cell 0
              have w1 : we.cell? ⟨wd.heap.size, 1, none⟩ = some (.string p.id) := k10.cell 1
              have l6 : D6 < we.heap.size := Nat.lt_of_lt_of_le hl6 hb10.size
              have l7 : D7 < we.heap.size := Nat.lt_of_lt_of_le hl7 hb10.size
              have l10 : wd.heap.size < we.heap.size := k10.lt
              have HEB : Hid (∀ y : World, y.heap = (we.alloc (.cells #[.iface 41 (.int .u64 q.sid), .iface 9 (.string p.ns), .iface 9 (.string p.id), .iface 9 (.string q.ns), .iface 9 (.string q.id)] 20)).heap → y.os = we.os → y.tape = we.tape → y.output = we.output → Calls Ybaf.prog 14 #[.string ⟨#[83, 73, 68, 32, 37, 100, 32, 105, 115, 32, 97, 115, 115, 105, 103, 110, 101, 100, 32, 116, 111, 32, 37, 115, 32, 37, 115, 32, 97, 110, 100, 32, 116, 111, 32, 37, 115, 32, 37, 115]⟩, .slice (some ⟨we.heap.size, 0, none⟩) 5 5] y fun e w' => ErrPost we e w') := fun y h1 h2 h3 h4 => errB_at F p.ns p.id q.ns q.id q.sid we y (by rw [hb10.tape]; exact HFC.out) h1 h2 h3 h4
              clear k10 hb10
              by_cases hnn : p.ns = q.ns
              · have y1 : (p.ns.toList == q.ns.toList) = true := by rw [str_eq]; simp [hnn]
                have y2 : (p.id.toList == q.id.toList) = false := by
                  rw [str_eq]
                  have hid2 : p.id ≠ q.id := fun e => HKP.out (by rw [hnn, e])
                  simp [hid2]
                clear hnn
                go_wp2_with fail
                go_region_held3 (fun w' => w'.cell? ⟨D6, 0, none⟩ = some (.string q.ns) ∧ w'.cell? ⟨D6, 2, none⟩ = some (.int .u64 q.sid) ∧ w'.cell? ⟨D7, 1, none⟩ = some (.string q.id) ∧ w'.cell? ⟨wd.heap.size, 0, none⟩ = some (.string p.ns) ∧ w'.cell? ⟨wd.heap.size, 1, none⟩ = some (.string p.id)) (first | (exact ⟨(cell_below hb9.out l6 _).trans a0', (cell_below hb9.out l6 _).trans a2', (cell_below hb9.out l7 _).trans z1', (cell_below hb9.out l10 _).trans w0, (cell_below hb9.out l10 _).trans w1⟩) | go_keep) (first | (go_at_call 15; refine (plain_any _ _ (by first | exact hqi | exact hpi)).mono ?_; rintro e w8 ⟨rfl, rfl⟩) | (go_at_call 14; refine (HEB.out _ (by rfl) (by rfl) (by rfl) (by rfl)).mono ?_; rintro e w9 ⟨ad, rfl, hb8⟩; have hb9 : Hid (Below we.heap.size we w9) := hb8; clear hb8))
                all_goals
                  go_wp2_with fail
                  go_ret
                  exact HPO.out _ _ (addPost_err HAD.out HDR.out HBD.out (Me.out.of_block (hb9.out.block m1 Me.out.s.lt) (hb9.out.block m2 Me.out.i.lt)) (KE.out.trans (KeepM.of_below hb9.out)) (by have := HJG.out; simp; omega) rfl)
              · have y1 : (p.ns.toList == q.ns.toList) = false := by rw [str_eq]; simp [hnn]
                clear hnn
                go_wp2_with fail
                go_region_held3 (fun w' => w'.cell? ⟨D6, 0, none⟩ = some (.string q.ns) ∧ w'.cell? ⟨D6, 2, none⟩ = some (.int .u64 q.sid) ∧ w'.cell? ⟨D7, 1, none⟩ = some (.string q.id) ∧ w'.cell? ⟨wd.heap.size, 0, none⟩ = some (.string p.ns) ∧ w'.cell? ⟨wd.heap.size, 1, none⟩ = some (.string p.id)) (first | (exact ⟨(cell_below hb9.out l6 _).trans a0', (cell_below hb9.out l6 _).trans a2', (cell_below hb9.out l7 _).trans z1', (cell_below hb9.out l10 _).trans w0, (cell_below hb9.out l10 _).trans w1⟩) | go_keep) (first | (go_at_call 15; refine (plain_any _ _ (by first | exact hqi | exact hpi)).mono ?_; rintro e w8 ⟨rfl, rfl⟩) | (go_at_call 14; refine (HEB.out _ (by rfl) (by rfl) (by rfl) (by rfl)).mono ?_; rintro e w9 ⟨ad, rfl, hb8⟩; have hb9 : Hid (Below we.heap.size we w9) := hb8; clear hb8))
                all_goals
                  go_wp2_with fail
                  go_ret
                  exact HPO.out _ _ (addPost_err HAD.out HDR.out HBD.out (Me.out.of_block (hb9.out.block m1 Me.out.s.lt) (hb9.out.block m2 Me.out.i.lt)) (KE.out.trans (KeepM.of_below hb9.out)) (by have := HJG.out; simp; omega) rfl)
          · -- neither stands
            have hr1 : ∀ k, (Instr.lookup 26 (.map (some m1)) (.agg #[.string q.ns, .string q.id]) true).run Ybaf.prog (wd.drewN k) = .ok (.tuple #[.int .u64 0, .bool false]) (wd.drewN k) := fun k => (M7.out.of_block (w' := wd.drewN k) rfl rfl).sMiss HQ.out.2.1 HQ.out.2.2.1 hno
            have hr2 : ∀ y : World, y.heap[m2]? = wd.heap[m2]? → (Instr.lookup 27 (.map (some m2)) (.int .u64 q.sid) true).run Ybaf.prog y = .ok (.tuple #[.agg #[.string ⟨#[]⟩, .string ⟨#[]⟩], .bool false]) y := fun y hy => by
              refine (M7.out.i.of_block hy).miss keyed41 keyElem_inj Ybaf.underlying27 (zero48 y) (keyElem_kv _ _) (key41 q.sid (wf_small HQ.out.2.2.2.1 HQ.out.2.2.2.2)) (fun x hx => ?_)
              obtain ⟨p, hp, rfl⟩ := List.mem_map.1 hx
              intro e2
              injection e2 with _ e2
              exact hns p hp e2
            have HFR : Hid (Fresh md' q) := .inr ⟨hno, hns, hdup⟩
            have HBD : Hid (badB md' q = false) := hbad
            clear hno hns hbad hdup
            have hm2 : m2 < wd.heap.size := M7.out.i.lt
            have hrA : ∀ k, (Instr.lookup 27 (.map (some m2)) (.int .u64 q.sid) true).run Ybaf.prog (wd.drewN k) = .ok (.tuple #[.agg #[.string (⟨#[]⟩ : ByteArray), .string (⟨#[]⟩ : ByteArray)], .bool false]) (wd.drewN k) := fun k => hr2 _ rfl
            have hrB : ∀ k ob, (Instr.lookup 27 (.map (some m2)) (.int .u64 q.sid) true).run Ybaf.prog ((wd.drewN k).alloc ob) = .ok (.tuple #[.agg #[.string (⟨#[]⟩ : ByteArray), .string (⟨#[]⟩ : ByteArray)], .bool false]) ((wd.drewN k).alloc ob) := fun k ob => hr2 _ (Below.heap_alloc _ _ _ hm2)
            have hrC : ∀ k ob, (Instr.lookup 27 (.map (some m2)) (.int .u64 q.sid) true).run Ybaf.prog ((wd.drewN k).alloc ob).drew = .ok (.tuple #[.agg #[.string (⟨#[]⟩ : ByteArray), .string (⟨#[]⟩ : ByteArray)], .bool false]) ((wd.drewN k).alloc ob).drew := fun k ob => hr2 _ (Below.heap_alloc _ _ _ hm2)
            have hrD : ∀ k ob l, (Instr.lookup 27 (.map (some m2)) (.int .u64 q.sid) true).run Ybaf.prog (((wd.drewN k).alloc ob).drewN l) = .ok (.tuple #[.agg #[.string (⟨#[]⟩ : ByteArray), .string (⟨#[]⟩ : ByteArray)], .bool false]) (((wd.drewN k).alloc ob).drewN l) := fun k ob l => hr2 _ (Below.heap_alloc _ _ _ hm2)
            clear hr2
            have hn0 : ∀ k (cs : Array Value) i, ((wd.drewN k).alloc (.cells cs 48)).cell? ⟨wd.heap.size, i, none⟩ = cs[i]? := fun k cs i => (Blk.new (wd.drewN k) cs 48).cell i
            have hn1 : ∀ k (cs : Array Value) i, ((wd.drewN k).alloc (.cells cs 48)).frozen? ⟨wd.heap.size, i, none⟩ = false := fun k cs i => (Blk.new (wd.drewN k) cs 48).frozen i
            have hn2 : ∀ k (cs : Array Value) i v, ((wd.drewN k).alloc (.cells cs 48)).setCell ⟨wd.heap.size, i, none⟩ v = (wd.drewN k).alloc (.cells (cs.setIfInBounds i v) 48) := fun k cs i v => World.setCell_alloc_new _ _ _ _
            go_upto_region 10 with fail
            go_quiet (fail)
            go_wp2_with fail
            clear hr1
            go_cut [10, 11] (fun v10 v11 w' => v10 = .pointer (some ⟨wd.heap.size, 0, none⟩) ∧ v11 = .bool false ∧ Blk w' wd.heap.size #[.string (⟨#[]⟩ : ByteArray), .string (⟨#[]⟩ : ByteArray)] 48 ∧ Below wd.heap.size wd w')
            case first =>
              go_region_held3 (fun w' => w'.cell? ⟨T, 1, none⟩ = some (.map (some m2)) ∧ w'.cell? ⟨D6, 2, none⟩ = some (.int .u64 q.sid)) (go_keep) (fail)
              all_goals
                go_wp2_with fail
                go_meet
                exact ⟨rfl, rfl, Blk.new _ _ _, below_same ((Below.refl wd.heap.size wd).alloc (Nat.le_refl _) _) rfl rfl rfl rfl⟩
            case rest =>
              obtain ⟨rfl, rfl, k10, hb10⟩ := hcut
              clear hrA hrB hrC hrD hn0 hn1 hn2
              obtain ⟨we, hwe⟩ : ∃ x : World, x = wc := ⟨_, rfl⟩
              subst hwe
              have Me : Hid (Maps2 we m1 m2 (n + j) md') := M7.out.of_block (hb10.block m1 M7.out.s.lt) (hb10.block m2 M7.out.i.lt)
              have CE : Hid (we.cell? ⟨T, 0, none⟩ = some (.map (some m1)) ∧ we.cell? ⟨T, 1, none⟩ = some (.map (some m2)) ∧ we.cell? ⟨D7, 0, none⟩ = some (.string q.ns) ∧ we.cell? ⟨D7, 1, none⟩ = some (.string q.id) ∧ we.cell? ⟨D6, 2, none⟩ = some (.int .u64 q.sid)) := ⟨(cell_below hb10 hlT _).trans t0, (cell_below hb10 hlT _).trans t1, (cell_below hb10 hl7 _).trans z0, (cell_below hb10 hl7 _).trans z1, (cell_below hb10 hl6 _).trans a2⟩
              have KE : Hid (KeepM m1 m2 u we) := K8.out.trans (KeepM.of_below hb10)
              have ve0 : we.cell? ⟨T, 0, none⟩ = some (.map (some m1)) := CE.out.1
              have ve1 : we.cell? ⟨T, 1, none⟩ = some (.map (some m2)) := CE.out.2.1
              have ve2 : we.cell? ⟨D7, 0, none⟩ = some (.string q.ns) := CE.out.2.2.1
              have ve3 : we.cell? ⟨D7, 1, none⟩ = some (.string q.id) := CE.out.2.2.2.1
              have ve4 : we.cell? ⟨D6, 2, none⟩ = some (.int .u64 q.sid) := CE.out.2.2.2.2
              have w0 : we.cell? ⟨wd.heap.size, 0, none⟩ = some _ := k10.cell 0
              have w1 : we.cell? ⟨wd.heap.size, 1, none⟩ = some _ := k10.cell 1
              have hnl : n + j < maxLen := by have := HSZ.out; have := HJG.out; unfold maxLen; omega
              have hst1 := Me.out.store1 hnl HQ.out.2 HFR.out
              obtain ⟨f1, hf1⟩ : ∃ f : World → World, ∀ y, y.heap = we.heap → (Instr.mapUpdate 26 (.map (some m1)) (.agg #[.string q.ns, .string q.id]) (.int .u64 q.sid)).run Ybaf.prog y = .ok () (f y) ∧ MapIs 48 (plainElem Ybaf.prog 41) (f y) m1 (n + j + 1) (sidsL (stepL md' q)) ∧ y.grownBy (f y) (some m1) := by
                classical
                exact ⟨fun y => if h : y.heap = we.heap then Classical.choose (hst1 y h) else y, fun y h => by simp only [dif_pos h]; exact Classical.choose_spec (hst1 y h)⟩
              have NT : Hid (T ≠ m1 ∧ T ≠ m2 ∧ D7 ≠ m1 ∧ D7 ≠ m2 ∧ D6 ≠ m1 ∧ D6 ≠ m2) := (by have := HM2.out.s.lt; have := HM2.out.i.lt; have := HDD.out; have := HT.out; show _ ∧ _ ∧ _ ∧ _ ∧ _ ∧ _; omega)
              have LT : Hid (T < we.heap.size ∧ D7 < we.heap.size ∧ D6 < we.heap.size ∧ m1 < we.heap.size ∧ m2 < we.heap.size ∧ u.heap.size ≤ we.heap.size) := (by have := hb10.size; have := Me.out.s.lt; have := Me.out.i.lt; have := KE.out.size; show _ ∧ _ ∧ _ ∧ _ ∧ _ ∧ _; omega)
              have HF1 : Hid (∀ y, y.heap = we.heap → ((f1 y).cell? ⟨T, 0, none⟩ = some (.map (some m1)) ∧ (f1 y).cell? ⟨T, 1, none⟩ = some (.map (some m2)) ∧ (f1 y).cell? ⟨D7, 0, none⟩ = some (.string q.ns) ∧ (f1 y).cell? ⟨D7, 1, none⟩ = some (.string q.id) ∧ (f1 y).cell? ⟨D6, 2, none⟩ = some (.int .u64 q.sid))) := fun y hy => by
                have hg := (hf1 y hy).2.2
                have c : ∀ g i, g < we.heap.size → g ≠ m1 → (f1 y).cell? ⟨g, i, none⟩ = we.cell? ⟨g, i, none⟩ := fun g i hl hn => by
                  rw [hg.cell_far ⟨g, i, none⟩ (by rw [hy]; exact hl) (fun e => hn (Option.some.inj e))]
                  simp only [World.cell?, hy]
                exact ⟨(c _ _ LT.out.1 NT.out.1).trans CE.out.1, (c _ _ LT.out.1 NT.out.1).trans CE.out.2.1, (c _ _ LT.out.2.1 NT.out.2.2.1).trans CE.out.2.2.1, (c _ _ LT.out.2.1 NT.out.2.2.1).trans CE.out.2.2.2.1, (c _ _ LT.out.2.2.1 NT.out.2.2.2.2.1).trans CE.out.2.2.2.2⟩
              have r1 : (Instr.mapUpdate 26 (.map (some m1)) (.agg #[.string q.ns, .string q.id]) (.int .u64 q.sid)).run Ybaf.prog we = .ok () (f1 we) := (hf1 _ rfl).1
              have r2 : (Instr.mapUpdate 26 (.map (some m1)) (.agg #[.string q.ns, .string q.id]) (.int .u64 q.sid)).run Ybaf.prog we.drew = .ok () (f1 we.drew) := (hf1 we.drew rfl).1
              have r3 : ∀ k, (Instr.mapUpdate 26 (.map (some m1)) (.agg #[.string q.ns, .string q.id]) (.int .u64 q.sid)).run Ybaf.prog (we.drewN k) = .ok () (f1 (we.drewN k)) := fun k => (hf1 (we.drewN k) rfl).1
              have FF1 : Hid (∀ y, y.heap = we.heap → y.os = we.os → y.tape = we.tape → y.output = we.output → MapIs 48 (plainElem Ybaf.prog 41) (f1 y) m1 (n + j + 1) (sidsL (stepL md' q)) ∧ (f1 y).heap[m2]? = we.heap[m2]? ∧ KeepM m1 m2 u (f1 y) ∧ ((f1 y).cell? ⟨T, 0, none⟩ = some (.map (some m1)) ∧ (f1 y).cell? ⟨T, 1, none⟩ = some (.map (some m2)) ∧ (f1 y).cell? ⟨D7, 0, none⟩ = some (.string q.ns) ∧ (f1 y).cell? ⟨D7, 1, none⟩ = some (.string q.id) ∧ (f1 y).cell? ⟨D6, 2, none⟩ = some (.int .u64 q.sid))) := fun y h1 h2 h3 h4 => by
                have hg := (hf1 y h1).2.2
                refine ⟨(hf1 y h1).2.1, ?_, KE.out.trans ⟨hg.os.trans h2, hg.tape.trans h3, hg.output.trans h4, by rw [← h1]; exact hg.size, fun g hgl q1 q2 => by rw [hg.block g (by rw [h1]; exact hgl) (fun e => q1 (Option.some.inj e)), h1]⟩, HF1.out y h1⟩
                rw [hg.block m2 (by rw [h1]; exact LT.out.2.2.2.2.1) (fun e => Me.out.ne (Option.some.inj e).symm), h1]
              clear hst1 hf1 k10 hb10
              go_upto_region 16 with fail
              clear w0 w1
              go_cut [] (fun w' => MapIs 48 (plainElem Ybaf.prog 41) w' m1 (n + j + 1) (sidsL (stepL md' q)) ∧ w'.heap[m2]? = we.heap[m2]? ∧ KeepM m1 m2 u w' ∧ (w'.cell? ⟨T, 0, none⟩ = some (.map (some m1)) ∧ w'.cell? ⟨T, 1, none⟩ = some (.map (some m2)) ∧ w'.cell? ⟨D7, 0, none⟩ = some (.string q.ns) ∧ w'.cell? ⟨D7, 1, none⟩ = some (.string q.id) ∧ w'.cell? ⟨D6, 2, none⟩ = some (.int .u64 q.sid)))
              case first =>
                go_region_held3 (fun w' => w'.cell? ⟨T, 0, none⟩ = some (.map (some m1)) ∧ w'.cell? ⟨T, 1, none⟩ = some (.map (some m2)) ∧ w'.cell? ⟨D7, 0, none⟩ = some (.string q.ns) ∧ w'.cell? ⟨D7, 1, none⟩ = some (.string q.id) ∧ w'.cell? ⟨D6, 2, none⟩ = some (.int .u64 q.sid)) (first | (exact HF1.out _ (by rfl)) | go_keep) (fail)
                all_goals
                  go_wp2_with fail
                  go_meet
                  exact FF1.out _ (by rfl) (by rfl) (by rfl) (by rfl)
              case rest =>
                obtain ⟨hS3, hI3, hK3, g0, g1, g2, g3, g4⟩ := hcut
                obtain ⟨wf, hwf⟩ : ∃ x : World, x = wc := ⟨_, rfl⟩
                subst hwf
                clear r1 r2 r3 ve0 ve1 ve2 ve3 ve4
                have CF : Hid (wf.cell? ⟨T, 0, none⟩ = some (.map (some m1)) ∧ wf.cell? ⟨T, 1, none⟩ = some (.map (some m2)) ∧ wf.cell? ⟨D7, 0, none⟩ = some (.string q.ns) ∧ wf.cell? ⟨D7, 1, none⟩ = some (.string q.id) ∧ wf.cell? ⟨D6, 2, none⟩ = some (.int .u64 q.sid)) := ⟨g0, g1, g2, g3, g4⟩
                have LF : Hid (T < wf.heap.size ∧ D7 < wf.heap.size ∧ D6 < wf.heap.size ∧ m2 < wf.heap.size ∧ m1 < wf.heap.size) := (by
                  have e : ∀ g i v, wf.cell? ⟨g, i, none⟩ = some v → g < wf.heap.size := fun g i v h => World.block_lt_of_cell? wf _ h
                  have hm : m2 < wf.heap.size := by
                    have h1 := LT.out.2.2.2.2.1
                    rw [Array.getElem?_eq_getElem h1] at hI3
                    exact (Array.getElem?_eq_some_iff.1 hI3).1
                  exact ⟨e _ _ _ g0, e _ _ _ g2, e _ _ _ g4, hm, hS3.lt⟩)
                have hst2 := fun (y : World) (h : y.heap = wf.heap) => Me.out.store2 hnl HQ.out.2 HFR.out y (by rw [h]; exact hI3)
                obtain ⟨f2, hf2⟩ : ∃ f : World → World, ∀ y, y.heap = wf.heap → (Instr.mapUpdate 27 (.map (some m2)) (.int .u64 q.sid) (.agg #[.string q.ns, .string q.id])).run Ybaf.prog y = .ok () (f y) ∧ MapIs 41 keyElem (f y) m2 (n + j + 1) (itemsL (stepL md' q)) ∧ y.grownBy (f y) (some m2) := by
                  classical
                  exact ⟨fun y => if h : y.heap = wf.heap then Classical.choose (hst2 y h) else y, fun y h => by simp only [dif_pos h]; exact Classical.choose_spec (hst2 y h)⟩
                have HF2 : Hid (∀ y, y.heap = wf.heap → ((f2 y).cell? ⟨T, 0, none⟩ = some (.map (some m1)) ∧ (f2 y).cell? ⟨T, 1, none⟩ = some (.map (some m2)) ∧ (f2 y).cell? ⟨D7, 0, none⟩ = some (.string q.ns) ∧ (f2 y).cell? ⟨D7, 1, none⟩ = some (.string q.id) ∧ (f2 y).cell? ⟨D6, 2, none⟩ = some (.int .u64 q.sid))) := fun y hy => by
                  have hg := (hf2 y hy).2.2
                  have c : ∀ g i, g < wf.heap.size → g ≠ m2 → (f2 y).cell? ⟨g, i, none⟩ = wf.cell? ⟨g, i, none⟩ := fun g i hl hn => by
                    rw [hg.cell_far ⟨g, i, none⟩ (by rw [hy]; exact hl) (fun e => hn (Option.some.inj e))]
                    simp only [World.cell?, hy]
                  exact ⟨(c _ _ LF.out.1 NT.out.2.1).trans CF.out.1, (c _ _ LF.out.1 NT.out.2.1).trans CF.out.2.1, (c _ _ LF.out.2.1 NT.out.2.2.2.1).trans CF.out.2.2.1, (c _ _ LF.out.2.1 NT.out.2.2.2.1).trans CF.out.2.2.2.1, (c _ _ LF.out.2.2.1 NT.out.2.2.2.2.2).trans CF.out.2.2.2.2⟩
                have r1 : (Instr.mapUpdate 27 (.map (some m2)) (.int .u64 q.sid) (.agg #[.string q.ns, .string q.id])).run Ybaf.prog wf = .ok () (f2 wf) := (hf2 _ rfl).1
                have r2 : (Instr.mapUpdate 27 (.map (some m2)) (.int .u64 q.sid) (.agg #[.string q.ns, .string q.id])).run Ybaf.prog wf.drew = .ok () (f2 wf.drew) := (hf2 wf.drew rfl).1
                have r3 : ∀ k, (Instr.mapUpdate 27 (.map (some m2)) (.int .u64 q.sid) (.agg #[.string q.ns, .string q.id])).run Ybaf.prog (wf.drewN k) = .ok () (f2 (wf.drewN k)) := fun k => (hf2 (wf.drewN k) rfl).1
                have FF2 : Hid (∀ y, y.heap = wf.heap → y.os = wf.os → y.tape = wf.tape → y.output = wf.output → Maps2 (f2 y) m1 m2 (n + j + 1) (stepL md' q) ∧ KeepM m1 m2 u (f2 y)) := fun y h1 h2 h3 h4 => by
                  have hg := (hf2 y h1).2.2
                  refine ⟨⟨hS3.of_block ?_, (hf2 y h1).2.1, Me.out.ne, fit_step Me.out.fit HQ.out.2⟩, hK3.trans ⟨hg.os.trans h2, hg.tape.trans h3, hg.output.trans h4, by rw [← h1]; exact hg.size, fun g hgl q1 q2 => by rw [hg.block g (by rw [h1]; exact hgl) (fun e => q2 (Option.some.inj e)), h1]⟩⟩
                  rw [hg.block m1 (by rw [h1]; exact LF.out.2.2.2.2) (fun e => Me.out.ne (Option.some.inj e)), h1]
                clear hst2 hf2 hS3 hI3 hK3
                go_upto_region 17 with fail
                go_region_held3 (fun w' => w'.cell? ⟨T, 0, none⟩ = some (.map (some m1)) ∧ w'.cell? ⟨T, 1, none⟩ = some (.map (some m2)) ∧ w'.cell? ⟨D7, 0, none⟩ = some (.string q.ns) ∧ w'.cell? ⟨D7, 1, none⟩ = some (.string q.id) ∧ w'.cell? ⟨D6, 2, none⟩ = some (.int .u64 q.sid)) (first | (exact HF2.out _ (by rfl)) | go_keep) (fail)
                all_goals
                  go_wp2_with fail
                  go_roundg (gk - 1)
                  case measure => omega
                  case rel => exact ⟨j + 1, stepL md' q, by have := HJG.out; have := HGK.out; simp only [List.length_map]; omega, by go_num, (FF2.out _ (by rfl) (by rfl) (by rfl) (by rfl)).1, by rw [HAD.out, HDR.out]; simp [addL, HBD.out], (FF2.out _ (by rfl) (by rfl) (by rfl) (by rfl)).2⟩
    · obtain rfl : j = c := by have := HJG.out; have := HC.out; omega
      have ed : (its.map (prOf mod)).drop j = [] := by rw [HC.out]; simp
      have HE : Hid (addL md (its.map (prOf mod)) = (false, md')) := (by show _ = _; rw [HAD.out, ed]; rfl)
      clear ed
      go_wp2_with fail
      go_ret
      exact HPO.out _ _ ⟨n + j, by have := HJG.out; simp; omega, by rw [HE.out]; exact HM2.out, .inr ⟨by rw [HE.out], rfl⟩, HK.out⟩
end Go.Proofs.YbulkauvkFmt
