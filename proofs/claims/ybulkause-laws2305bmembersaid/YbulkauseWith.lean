/-
  The walk of View.withMembers.
-/
import Derived.Test.YbulkauseNew
import Derived.Deep.DrawnRows
namespace Go.Proofs.Ybulkause
open Go.RowKit Go.Deep
attribute [local go_sem ↓] Go.wp_at_zero Go.wp_at_succ

/-- the cells of a View that the law makes -/
def vwCells (i1 i2 ep au : Int) (mem left : Value) : Array Value := #[.int .i64 i1, .int .u64 i2, .int .u64 ep, .int .i64 au, .int .u8 0, .slice none 0 0, .int .u64 0, .int .u64 0, .int .i64 0, .int .u64 0, mem, left]
theorem built148w (i1 i2 ep au : Int) (lo : Option Addr) (n c : Nat) : Yba.prog.built 148 [(0, .agg #[.int .i64 i1, .int .u64 i2]), (1, .agg #[.int .u64 ep, .int .i64 au]), (2, .int .u8 0), (3, .slice none 0 0), (4, .agg #[.int .u64 0, .int .u64 0]), (5, .agg #[.int .i64 0, .int .u64 0]), (7, .slice lo n c)] = some (vwCells i1 i2 ep au (.slice none 0 0) (.slice lo n c)) := by kernel_rfl
theorem built148v (i1 i2 ep au : Int) (mo lo : Option Addr) (m k n c : Nat) : Yba.prog.built 148 [(0, .agg #[.int .i64 i1, .int .u64 i2]), (1, .agg #[.int .u64 ep, .int .i64 au]), (6, .slice mo m k), (7, .slice lo n c)] = some (vwCells i1 i2 ep au (.slice mo m k) (.slice lo n c)) := by kernel_rfl
theorem built148i (i1 i2 : Int) : Yba.prog.built 148 [(0, .agg #[.int .i64 i1, .int .u64 i2])] = some (vwCells i1 i2 0 0 (.slice none 0 0) (.slice none 0 0)) := by kernel_rfl

theorem owns_set {w : World} {B : Nat} {v : Value} {n : Nat} {l : List Value} (h : w.ownsRow B 106 3 v n l) {a : Addr} (ha : a.block < B) (x : Value) : (w.setCell a x).ownsRow B 106 3 v n l := by
  obtain ⟨hl, h | ⟨g, cap, cur, hv, hb, hg, h2⟩⟩ := h
  · exact ⟨hl, .inl h⟩
  · exact ⟨hl, .inr ⟨g, cap, cur, hv, hb, (blk_setCell_other _ _ _ _ (by omega)).trans hg, h2⟩⟩
theorem below_set {B : Nat} {w x : World} (h : Below B w x) {a : Addr} (ha : B ≤ a.block) (v : Value) : Below B w (x.setCell a v) :=
  ⟨h.os, h.tape, h.output, by simpa [World.setCell] using h.size, fun k hk => (blk_setCell_other _ _ _ _ (by omega)).trans (h.block k hk)⟩
theorem own_ne {w : World} {B : Nat} {v : Value} {n : Nat} {l : List Value} (h : w.ownsRow B 106 3 v n l) {D : Nat} (hD : w.heap.size ≤ D ∨ D < B) : v.ownBlock ≠ some D := by
  obtain ⟨_, ⟨rfl, _⟩ | ⟨g, cap, cur, rfl, hbg, hg, _⟩⟩ := h
  · simp [Value.ownBlock]
  · have := (Array.getElem?_eq_some_iff.1 hg).1
    simp [Value.ownBlock]; omega
/-- a block that is not appended to -/
theorem block_app {x y w2 : World} {ob : Obj} {v : Value} {D : Nat} (hy : y.heap = (x.alloc ob).heap) (hg : y.grownBy w2 v.ownBlock) (hD : D < x.heap.size) (hne : v.ownBlock ≠ some D) : w2.heap[D]? = x.heap[D]? := by
  have h1 : D < y.heap.size := by rw [hy]; simp; omega
  rw [hg.block D h1 (fun e => hne e.symm), hy, Below.heap_alloc _ _ _ hD]
theorem cell_app {x y w2 : World} {ob : Obj} {v : Value} {D : Nat} (hy : y.heap = (x.alloc ob).heap) (hg : y.grownBy w2 v.ownBlock) (hD : D < x.heap.size) (hne : v.ownBlock ≠ some D) (i : Nat) : w2.cell? ⟨D, i, none⟩ = x.cell? ⟨D, i, none⟩ := by
  simp only [World.cell?, block_app hy hg hD hne]
theorem owns_le {w : World} {B B' : Nat} {v : Value} {n : Nat} {l : List Value} (h : w.ownsRow B 106 3 v n l) (hB : B' ≤ B) : w.ownsRow B' 106 3 v n l := by
  obtain ⟨hl, h | ⟨g, cap, cur, hv, hb, h2⟩⟩ := h
  · exact ⟨hl, .inl h⟩
  · exact ⟨hl, .inr ⟨g, cap, cur, hv, Nat.le_trans hB hb, h2⟩⟩
theorem below_app' {B : Nat} {w x y w2 : World} {ob : Obj} {v : Value} {k : Nat} {l : List Value} (hb : Below B w x) (hB : B ≤ x.heap.size) (hy : y.heap = (x.alloc ob).heap) (h2 : y.os = x.os) (h3 : y.tape = x.tape) (h4 : y.output = x.output) (hg : y.grownBy w2 v.ownBlock) (ho : x.ownsRow B 106 3 v k l) : Below B w w2 :=
  below_grow (x := y) (below_to_drawn (hb.alloc hB ob) ⟨hy, h2, h3, h4⟩) (by rw [hy]; simp; omega) hg ho
theorem MRow.same_below {w w' : World} {ao : Option Addr} {ms : List Mb} (h : MRow w ao ms) (hb : Below w.heap.size w w') : MRow w' ao ms := fun hl => by
  obtain ⟨g, o, rfl, hg, hm⟩ := h hl
  exact ⟨g, o, rfl, Nat.lt_of_lt_of_le hg hb.size, fun j m hj => (hm j m hj).keep (fun o' => cell_below hb hg o')⟩
theorem below_same {B : Nat} {w x y : World} (h : Below B w x) (h1 : y.heap = x.heap) (h2 : y.os = x.os) (h3 : y.tape = x.tape) (h4 : y.output = x.output) : Below B w y := below_to_drawn h ⟨h1, h2, h3, h4⟩

def WithPost (V : Nat) (i1 i2 ep au : Int) (lv : Value) (ex ms : List Mb) (w : World) (e : Ending) (w' : World) : Prop :=
  Below w.heap.size w w' ∧ ((sameB ex ms = true ∧ e = .returned (.pointer (some ⟨V, 0, none⟩))) ∨ (sameB ex ms = false ∧ ∃ N mv, e = .returned (.pointer (some ⟨N, 0, none⟩)) ∧ w.heap.size ≤ N ∧ Blk w' N (vwCells i1 i2 ep au mv lv) 148 ∧ w'.ownsRow w.heap.size 106 3 mv ex.length (mcells ex)))

def WithRel (N : Nat) (i1 i2 ep au : Int) (lv : Value) (ls ps : List Mb) (w : World) (gk : Nat) (t : Value) (wx : World) : Prop :=
  ∃ (k : Nat) (mv : Value), k + gk = ps.length ∧ t = .int .i64 k ∧ Blk wx N (vwCells i1 i2 ep au mv lv) 148 ∧ wx.ownsRow (N + 1) 106 3 mv (kept ls (ps.take k)).length (mcells (kept ls (ps.take k))) ∧ Below N w wx

set_option maxHeartbeats 800000 in
set_option maxRecDepth 100000 in
theorem withMembers_any (V : Nat) (i1 i2 ep au : Int) (mo lo po : Option Addr) (mc lc pc : Nat) (ms ls ps : List Mb) (w : World) (kV : Blk w V (vwCells i1 i2 ep au (.slice mo ms.length mc) (.slice lo ls.length lc)) 148)
    (hm : MRow w mo ms) (hl : MRow w lo ls) (hp : MRow w po ps) (hI : Inc ls) (hlm : ms.length ≤ 2000) (hll : ls.length ≤ 2000) (hlp : ps.length ≤ 2000) :
    Calls Yba.prog 27 #[.pointer (some ⟨V, 0, none⟩), .slice po ps.length pc, .slice lo ls.length lc] w fun e w' => WithPost V i1 i2 ep au (.slice lo ls.length lc) (kept ls ps) ms w e w' := by
  have v0 : w.cell? ⟨V, 0, none⟩ = some (.int .i64 i1) := kV.cell 0
  have v1 : w.cell? ⟨V, 1, none⟩ = some (.int .u64 i2) := kV.cell 1
  have v2 : w.cell? ⟨V, 2, none⟩ = some (.int .u64 ep) := kV.cell 2
  have v3 : w.cell? ⟨V, 3, none⟩ = some (.int .i64 au) := kV.cell 3
  have v4 : w.cell? ⟨V, 4, none⟩ = some (.int .u8 0) := kV.cell 4
  have v5 : w.cell? ⟨V, 5, none⟩ = some (.slice none 0 0) := kV.cell 5
  have v6 : w.cell? ⟨V, 6, none⟩ = some (.int .u64 0) := kV.cell 6
  have v7 : w.cell? ⟨V, 7, none⟩ = some (.int .u64 0) := kV.cell 7
  have v8 : w.cell? ⟨V, 8, none⟩ = some (.int .i64 0) := kV.cell 8
  have v9 : w.cell? ⟨V, 9, none⟩ = some (.int .u64 0) := kV.cell 9
  have hVl := kV.lt
  obtain ⟨n, hn⟩ : ∃ n, n = ps.length := ⟨_, rfl⟩
  obtain ⟨nl, hnl⟩ : ∃ n, n = ls.length := ⟨_, rfl⟩
  rw [← hn] at hlp ⊢
  rw [← hnl] at hll ⊢
  have HN : Hid (n = ps.length ∧ nl = ls.length) := ⟨hn, hnl⟩
  have KV : Hid (Blk w V (vwCells i1 i2 ep au (.slice mo ms.length mc) (.slice lo nl lc)) 148) := (by rw [hnl]; exact kV)
  have HM : Hid (MRow w mo ms) := hm
  have HL : Hid (MRow w lo ls) := hl
  have HP : Hid (MRow w po ps) := hp
  have HI : Hid (Inc ls) := hI
  clear kV hn hnl hm hl hp hI
  go_enter Yba.func27, Yba.ntmps27
  go_upto_region 1 with fail
  go_region_held3 (fun w' => w'.cell? ⟨V, 0, none⟩ = some (.int .i64 i1) ∧ w'.cell? ⟨V, 1, none⟩ = some (.int .u64 i2) ∧ w'.cell? ⟨V, 2, none⟩ = some (.int .u64 ep) ∧ w'.cell? ⟨V, 3, none⟩ = some (.int .i64 au) ∧ w'.cell? ⟨V, 4, none⟩ = some (.int .u8 0) ∧ w'.cell? ⟨V, 5, none⟩ = some (.slice none 0 0) ∧ w'.cell? ⟨V, 6, none⟩ = some (.int .u64 0) ∧ w'.cell? ⟨V, 7, none⟩ = some (.int .u64 0) ∧ w'.cell? ⟨V, 8, none⟩ = some (.int .i64 0) ∧ w'.cell? ⟨V, 9, none⟩ = some (.int .u64 0)) (go_keep) (fail)
  rename_i hheld
  clear hheld
  go_wp2_with fail
  obtain ⟨N, hN⟩ : ∃ N, N = w.heap.size := ⟨_, rfl⟩
  generalize hu : (World.alloc _ _).drew = u
  have kN : Blk u N (vwCells i1 i2 ep au (.slice none 0 0) (.slice lo nl lc)) 148 := by rw [← hu, hN]; exact Blk.new _ _ _
  have hbu : Below N w u := by rw [← hu, hN]; exact below_same ((Below.refl w.heap.size w).alloc (Nat.le_refl _) _) rfl rfl rfl rfl
  rw [← hN]
  have HNN : Hid (N = w.heap.size) := hN
  clear hu hN
  have KN : Hid (Blk u N (vwCells i1 i2 ep au (.slice none 0 0) (.slice lo nl lc)) 148) := kN
  have HBU : Hid (Below N w u) := hbu
  clear kN hbu
  clear v0 v1 v2 v3 v4 v5 v6 v7 v8 v9
  go_loopg [39] n (fun gk t wx => WithRel N i1 i2 ep au (.slice lo nl lc) ls ps w gk t wx)
  case atStart => exact ⟨0, _, by have := HN.out; omega, rfl, KN.out, ⟨by simp [mcells, kept], .inl ⟨rfl, by simp [kept]⟩⟩, HBU.out⟩
  case round =>
    obtain ⟨k, mv, hkg, rfl, kN, hown, hb⟩ := hrel
    have hNl := kN.lt
    have HO : Hid (wr.ownsRow (N + 1) 106 3 mv (kept ls (ps.take k)).length (mcells (kept ls (ps.take k)))) := hown
    have HB : Hid (Below N w wr) := hb
    have JN : Hid (Blk wr N (vwCells i1 i2 ep au mv (.slice lo nl lc)) 148) := kN
    have HKG : Hid (k + gk = ps.length) := hkg
    clear hown hb kN hkg
    have HLT : Hid (∀ ao g o, ao = some (⟨g, o, none⟩ : Addr) → g < w.heap.size → g < N) := fun _ _ _ _ h => by rw [HNN.out]; exact h
    by_cases hk : k < n
    · have hk0 : (0 : Int) ≤ (k : Int) := by omega
      have hgk : 0 < gk := by have := HKG.out; have := HN.out.1; omega
      have hk1 : (k : Int) < (n : Int) := by omega
      obtain ⟨g, o, rfl, hg, hmm⟩ := HP.out (by have := HN.out; omega)
      obtain ⟨m, hm⟩ : ∃ m, ps[k]? = some m := ⟨ps[k]'(by have := HN.out; omega), List.getElem?_eq_getElem _⟩
      have hgN : g < N := by rw [HNN.out]; exact hg
      have hma := (hmm k m hm).keep (fun o' => cell_below HB.out hgN o')
      have c0 := hma.1
      have c1 := hma.2.1
      have c2 := hma.2.2
      have hlg : g < wr.heap.size := by omega
      have HM2 : Hid (ps[k]? = some m) := hm
      clear hma hmm hm
      go_upto_region 5 with fail
      obtain ⟨D, hD⟩ : ∃ D, D = wr.heap.size := ⟨_, rfl⟩
      obtain ⟨x1, hx1⟩ : ∃ x1, x1 = wr.alloc (.cells #[.int .i64 m.id, .int .i64 m.idx, .int .u64 m.seq] 106) := ⟨_, rfl⟩
      rw [← hx1, ← hD]
      have kD : Blk x1 D #[.int .i64 m.id, .int .i64 m.idx, .int .u64 m.seq] 106 := by rw [hx1, hD]; exact Blk.new _ _ _
      have hb1 : Below D wr x1 := by rw [hx1, hD]; exact (Below.refl _ _).alloc (Nat.le_refl _) _
      have hDN : D ≠ N := by omega
      have hNx : N < x1.heap.size := by have := hb1.size; omega
      have m0 : x1.cell? ⟨D, 0, none⟩ = some (.int .i64 m.id) := kD.cell 0
      have m1 : x1.cell? ⟨D, 1, none⟩ = some (.int .i64 m.idx) := kD.cell 1
      have m2 : x1.cell? ⟨D, 2, none⟩ = some (.int .u64 m.seq) := kD.cell 2
      have HD : Hid (D = wr.heap.size) := hD
      have HX : Hid (Below D wr x1 ∧ D < x1.heap.size) := ⟨hb1, kD.lt⟩
      have JN1 : Hid (Blk x1 N (vwCells i1 i2 ep au mv (.slice lo nl lc)) 148) := JN.out.below hb1 (by rw [hD]; exact hNl)
      have HRX : Hid (MRow x1 lo ls) := fun h => by
        obtain ⟨g, o, e, hg, hm⟩ := HL.out h
        exact ⟨g, o, e, by have := HB.out.size; have := hb1.size; omega, fun j m hj => ((hm j m hj).keep (fun o' => cell_below HB.out (by rw [HNN.out]; exact hg) o')).keep (fun o' => cell_below hb1 (by have := HB.out.size; omega) o')⟩
      have HREM : Hid (Calls Yba.prog 33 #[.pointer (some ⟨N, 0, none⟩), .agg #[.int .i64 m.id, .int .i64 m.idx, .int .u64 m.seq]] x1 fun e w' => e = .returned (.bool (goneB ls m)) ∧ Below x1.heap.size x1 w') := removed_any N lo lc ls m x1 (by have := HN.out; omega) (by rw [← HN.out.2]; exact JN1.out.cell 11) hNx HRX.out HI.out
      clear hx1 hD kD hb1
      by_cases hgo : goneB ls m = true
      · have HGO : Hid (goneB ls m = true) := hgo
        go_wp2_with (go_at_call 33; refine HREM.out.mono ?_; rintro e w' ⟨rfl, hb2⟩)
        have HB2 := (show Hid _ from hb2)
        clear hb2
        go_roundg (gk - 1)
        case measure => omega
        case rel => exact ⟨k + 1, mv, by have := HKG.out; omega, by go_num, JN1.out.below HB2.out hNx, by rw [kept_snoc_out HM2.out HGO.out]; exact owns_kept HO.out (fun g hg => (HB2.out.block g (by have := HX.out.2; have := HD.out; omega)).trans (HX.out.1.block g (by rw [HD.out]; exact hg))), (HB.out.trans (HX.out.1.mono (by rw [HD.out]; exact Nat.le_of_lt hNl))).trans (HB2.out.mono (Nat.le_of_lt hNx))⟩
      · have hgo2 : goneB ls m = false := by simpa using hgo
        have HGO : Hid (goneB ls m = false) := hgo2
        clear hgo
        go_upto_region 6 with (go_at_call 33; refine HREM.out.mono ?_; rintro e w' ⟨rfl, hb2⟩)
        have HB2 : Hid (Below x1.heap.size x1 w') := hb2
        have d0 : w'.cell? ⟨D, 0, none⟩ = some (.int .i64 m.id) := (cell_below hb2 HX.out.2 _).trans m0
        have d1 : w'.cell? ⟨D, 1, none⟩ = some (.int .i64 m.idx) := (cell_below hb2 HX.out.2 _).trans m1
        have d2 : w'.cell? ⟨D, 2, none⟩ = some (.int .u64 m.seq) := (cell_below hb2 HX.out.2 _).trans m2
        have JN2 : Hid (Blk w' N (vwCells i1 i2 ep au mv (.slice lo nl lc)) 148) := JN1.out.below hb2 hNx
        have e10 : w'.cell? ⟨N, 10, none⟩ = some mv := JN2.out.cell 10
        have f10 : w'.frozen? ⟨N, 10, none⟩ = false := JN2.out.frozen 10
        have hNw : N < w'.heap.size := JN2.out.lt
        have hDw : D < w'.heap.size := by have := hb2.size; have := HX.out.2; omega
        have HO2 : Hid (w'.ownsRow (N + 1) 106 3 mv (kept ls (ps.take k)).length (mcells (kept ls (ps.take k)))) := owns_kept HO.out (fun g hg => (hb2.block g (by have := HX.out.2; have := HD.out; omega)).trans (HX.out.1.block g (by rw [HD.out]; exact hg)))
        have NEN : Hid (mv.ownBlock ≠ some N ∧ mv.ownBlock ≠ some D) := ⟨own_ne HO.out (.inr (Nat.lt_succ_self _)), own_ne HO.out (.inl (by rw [HD.out]; exact Nat.le_refl _))⟩
        have HBW : Hid (Below N w w') := (HB.out.trans (HX.out.1.mono (by rw [HD.out]; exact Nat.le_of_lt hNl))).trans (hb2.mono (Nat.le_of_lt hNx))
        have HLK : Hid ((kept ls (ps.take k)).length ≤ 2000) := (by
          have h1 := kept_len ls (ps.take k)
          have h2 : (ps.take k).length ≤ ps.length := by simp; omega
          have := HN.out.1
          show _ ≤ _
          omega)
        have hDN2 : N ≠ D := Ne.symm hDN
        obtain ⟨ti, z, hi, hz, hs3, hb24, hz3⟩ := info106'
        have HI6 : Hid (Yba.prog.info? 106 = some ti ∧ ti.zero = some z ∧ ti.size = 3 ∧ ti.bytes = 24 ∧ z.cells.size = 3) := ⟨hi, hz, hs3, hb24, hz3⟩
        have HD0 : Hid (w'.cell? ⟨D, 0, none⟩ = some (.int .i64 m.id) ∧ w'.cell? ⟨D, 1, none⟩ = some (.int .i64 m.idx) ∧ w'.cell? ⟨D, 2, none⟩ = some (.int .u64 m.seq)) := ⟨d0, d1, d2⟩
        clear hi hz hs3 hb24 hz3 hb2 m0 m1 m2 c0 c1 c2 hk0 hk1
        go_region_law (first | (refine step_append_lies _ (by rfl) _ _ _ (by rfl) (N + 1) 106 ti z 3 24 Yba.underlying120 HI6.out.1 HI6.out.2.1 HI6.out.2.2.1 HI6.out.2.2.2.1 HI6.out.2.2.2.2 (by omega) mv (kept ls (ps.take k)).length (mcells (kept ls (ps.take k))) (by rfl) (owns_kept HO2.out (fun g hg => by exact Below.heap_alloc _ _ _ hg)) ⟨w'.heap.size, 0, none⟩ 1 1 [.int .i64 m.id, .int .i64 m.idx, .int .u64 m.seq] (by rfl) (by rfl) (by exact news3 _ _ rfl _ _ _) (by simp; exact ⟨rfl, rfl, rfl⟩) (by omega) (by have := HLK.out; unfold maxLen; omega) (by have := HLK.out; omega) (Nat.le_trans hNw (alloc_ge _ _ _)) _ (by rfl) ?_; intro g2 cap2 w2 own2 grow2 hat2 hlt2; have e10' : w2.cell? ⟨N, 10, none⟩ = some mv := (cell_app (ob := .cells #[.int .i64 m.id, .int .i64 m.idx, .int .u64 m.seq] 106) (by rfl) grow2 hNw NEN.out.1 _).trans (JN2.out.cell 10); have f10' : w2.frozen? ⟨N, 10, none⟩ = false := (JN2.out.of_block (block_app (ob := .cells #[.int .i64 m.id, .int .i64 m.idx, .int .u64 m.seq] 106) (by rfl) grow2 hNw NEN.out.1)).frozen 10))
        all_goals
          go_wp2_with fail
          go_roundg (gk - 1)
          case measure => omega
          case rel => exact ⟨k + 1, _, by have := HKG.out; omega, by go_num, (JN2.out.of_block (block_app (ob := .cells #[.int .i64 m.id, .int .i64 m.idx, .int .u64 m.seq] 106) (by rfl) grow2 hNw NEN.out.1)).set 10 _, by rw [kept_snoc_in HM2.out HGO.out, mcells_snoc, List.length_append]; exact owns_set own2 (Nat.lt_succ_self _) _, below_set (below_app' (ob := .cells #[.int .i64 m.id, .int .i64 m.idx, .int .u64 m.seq] 106) HBW.out (Nat.le_of_lt hNw) (by rfl) (by rfl) (by rfl) (by rfl) grow2 (owns_le HO2.out (Nat.le_succ _))) (Nat.le_refl _) _⟩
    · obtain rfl : k = n := by have := HKG.out; have := HN.out.1; omega
      have et : ps.take k = ps := by rw [HN.out.1, List.take_length]
      have HOW : Hid (wr.ownsRow (N + 1) 106 3 mv (kept ls ps).length (mcells (kept ls ps))) := (by have := HO.out; rw [et] at this; exact this)
      obtain ⟨ao, cap, rfl, -, -, hrow, -⟩ := mrow_of_owns HOW.out
      have hVN : V < N := by rw [HNN.out]; exact hVl
      have hVw : V < wr.heap.size := by omega
      have JV : Hid (Blk wr V (vwCells i1 i2 ep au (.slice mo ms.length mc) (.slice lo nl lc)) 148) := KV.out.below HB.out hVN
      have v10 : wr.cell? ⟨V, 10, none⟩ = some (.slice mo ms.length mc) := JV.out.cell 10
      have v11 : wr.cell? ⟨V, 11, none⟩ = some (.slice lo nl lc) := JV.out.cell 11
      have e10 : wr.cell? ⟨N, 10, none⟩ = some (.slice ao (kept ls ps).length cap) := JN.out.cell 10
      have e11 : wr.cell? ⟨N, 11, none⟩ = some (.slice lo nl lc) := JN.out.cell 11
      have hrm : MRow wr mo ms := HM.out.same_below (by rw [← HNN.out]; exact HB.out)
      have hrl : MRow wr lo ls := HL.out.same_below (by rw [← HNN.out]; exact HB.out)
      have hle : (kept ls ps).length ≤ 2000 := by have h1 := kept_len ls ps; have := HN.out.1; omega
      have HE2 : Hid (∀ j, Calls Yba.prog 34 #[.slice lo nl lc, .slice lo nl lc] (wr.drewN j) fun e w' => e = .returned (.bool true) ∧ ∃ m, w' = (wr.drewN j).drewN m) := fun j => by
        have h := equal_any lo lo lc lc ls ls (wr.drewN j) (by have := HN.out.2; omega) (by have := HN.out.2; omega) hrl hrl
        rw [sameB_refl, ← HN.out.2] at h
        exact h
      by_cases hs : sameB (kept ls ps) ms = true
      · have HSB : Hid (sameB (kept ls ps) ms = true) := hs
        have HE1 : Hid (∀ j, Calls Yba.prog 34 #[.slice ao (kept ls ps).length cap, .slice mo ms.length mc] (wr.drewN j) fun e w' => e = .returned (.bool true) ∧ ∃ m, w' = (wr.drewN j).drewN m) := fun j => by
          have h := equal_any ao mo cap mc (kept ls ps) ms (wr.drewN j) (by omega) (by omega) hrow hrm
          rw [hs] at h
          exact h
        clear hs hrow hrm hrl et
        go_wp2_with fail
        go_quiet (first | (go_at_call 34; with_reducible refine Calls.quiet_of (HE1.out _)) | (go_at_call 34; with_reducible refine Calls.quiet_of (HE2.out _)))
        go_wp2_with fail
        go_ret
        exact ⟨by rw [← HNN.out]; exact below_drawn HB.out _, .inl ⟨HSB.out, rfl⟩⟩
      · have hs2 : sameB (kept ls ps) ms = false := by simpa using hs
        have HSB : Hid (sameB (kept ls ps) ms = false) := hs2
        have HE1 : Hid (∀ j, Calls Yba.prog 34 #[.slice ao (kept ls ps).length cap, .slice mo ms.length mc] (wr.drewN j) fun e w' => e = .returned (.bool false) ∧ ∃ m, w' = (wr.drewN j).drewN m) := fun j => by
          have h := equal_any ao mo cap mc (kept ls ps) ms (wr.drewN j) (by omega) (by omega) hrow hrm
          rw [hs2] at h
          exact h
        clear hs hs2 hrow hrm hrl et
        go_wp2_with fail
        go_quiet (first | (go_at_call 34; with_reducible refine Calls.quiet_of (HE1.out _)) | (go_at_call 34; with_reducible refine Calls.quiet_of (HE2.out _)))
        go_wp2_with fail
        go_ret
        exact ⟨by rw [← HNN.out]; exact below_drawn HB.out _, .inr ⟨HSB.out, N, _, rfl, by rw [HNN.out]; exact Nat.le_refl _, JN.out, by rw [← HNN.out]; exact owns_le HOW.out (Nat.le_succ _)⟩⟩
end Go.Proofs.Ybulkause
