/-
  Rows of members (three cells each), and the small functions over them.
-/
import Derived.Test.YbulkauseRows
import Derived.Test.YbulkauseKit
import Derived.Deep.DeepCutAuto
import Derived.Deep.RegionHeld3
import Derived.BigQuiet
import Derived.Deep.QuietTactic
namespace Go.Proofs.Ybulkause
open Go.RowKit Go.Deep

structure Mb where
  id : Int
  idx : Int
  seq : Int

/-- the value of a member -/
def Mb.val (m : Mb) : Value := .agg #[.int .i64 m.id, .int .i64 m.idx, .int .u64 m.seq]

/-- member m lies at offset o of block g -/
def MAt (w : World) (g o : Nat) (m : Mb) : Prop :=
  w.cell? ⟨g, o, none⟩ = some (.int .i64 m.id) ∧ w.cell? ⟨g, o + 1, none⟩ = some (.int .i64 m.idx) ∧ w.cell? ⟨g, o + 2, none⟩ = some (.int .u64 m.seq)

/-- the slice that begins at ao reads as ms -/
def MRow (w : World) (ao : Option Addr) (ms : List Mb) : Prop :=
  0 < ms.length → ∃ g o, ao = some ⟨g, o, none⟩ ∧ g < w.heap.size ∧ ∀ j m, ms[j]? = some m → MAt w g (o + j * 3) m

theorem MAt.keep {w w' : World} {g o : Nat} {m : Mb} (h : MAt w g o m) (e : ∀ o, w'.cell? ⟨g, o, none⟩ = w.cell? ⟨g, o, none⟩) : MAt w' g o m :=
  ⟨(e _).trans h.1, (e _).trans h.2.1, (e _).trans h.2.2⟩

theorem cell_below {B : Nat} {w w' : World} (hb : Below B w w') {g : Nat} (h : g < B) (o : Nat) : w'.cell? ⟨g, o, none⟩ = w.cell? ⟨g, o, none⟩ := by
  simp only [World.cell?, hb.block g h]

theorem MRow.below {B : Nat} {w w' : World} {ao : Option Addr} {ms : List Mb} (h : MRow w ao ms) (hb : Below B w w') (hB : ∀ g o, ao = some ⟨g, o, none⟩ → g < B) : MRow w' ao ms := by
  intro hl
  obtain ⟨g, o, rfl, hg, hm⟩ := h hl
  exact ⟨g, o, rfl, Nat.lt_of_lt_of_le hg hb.size, fun j m hj => (hm j m hj).keep (fun o' => cell_below hb (hB g o rfl) o')⟩

theorem below_top {D : Nat} {w v1 w' : World} (hD : D = w.heap.size) (h1 : Below D w v1) (hs : D < v1.heap.size) (hb : Below v1.heap.size v1 w') : Below w.heap.size w w' := by
  subst hD; exact h1.trans (hb.mono (Nat.le_of_lt hs))

/-- is m removed by an entry of ms? -/
def goneB (ms : List Mb) (m : Mb) : Bool := ms.any fun e => e.id == m.id && decide (m.seq ≤ e.seq)

theorem goneB_snoc {ms : List Mb} {m e : Mb} {k : Nat} (h : goneB (ms.take k) m = false) (he : ms[k]? = some e) (hx : (e.id == m.id && decide (m.seq ≤ e.seq)) = false) : goneB (ms.take (k + 1)) m = false := by
  unfold goneB at h ⊢
  rw [List.take_add_one, he, List.any_append, h]
  simpa using hx
theorem goneB_hit {ms : List Mb} {m e : Mb} {k : Nat} (he : ms[k]? = some e) (hx : (e.id == m.id && decide (m.seq ≤ e.seq)) = true) : goneB ms m = true :=
  List.any_eq_true.2 ⟨e, List.mem_of_getElem? he, hx⟩

set_option maxHeartbeats 800000 in
theorem gone_any (ao : Option Addr) (cap : Nat) (ms : List Mb) (m : Mb) (w : World) (hl : ms.length ≤ 2000000) (hR : MRow w ao ms) :
    Calls Yba.prog 11 #[.slice ao ms.length cap, .agg #[.int .i64 m.id, .int .i64 m.idx, .int .u64 m.seq]] w fun e w' => e = .returned (.bool (goneB ms m)) ∧ Below w.heap.size w w' := by
  go_enter Yba.func11, Yba.ntmps11
  go_wp2_with fail
  obtain ⟨D, hD⟩ : ∃ D, D = w.heap.size := ⟨_, rfl⟩
  obtain ⟨v1, hv1⟩ : ∃ v1, v1 = w.alloc (.cells #[.int .i64 m.id, .int .i64 m.idx, .int .u64 m.seq] 106) := ⟨_, rfl⟩
  rw [← hv1, ← hD]
  have kD : Blk v1 D #[.int .i64 m.id, .int .i64 m.idx, .int .u64 m.seq] 106 := by rw [hv1, hD]; exact Blk.new _ _ _
  have hb1 : Below D w v1 := by rw [hv1, hD]; exact (Below.refl _ _).alloc (Nat.le_refl _) _
  have hR1 : MRow v1 ao ms := fun h => by
    obtain ⟨g, o, e, hg, hm⟩ := hR h
    exact ⟨g, o, e, Nat.lt_of_lt_of_le hg hb1.size, fun j m hj => (hm j m hj).keep (fun o' => cell_below hb1 (by rw [hD]; exact hg) o')⟩
  have HD : Hid (D = w.heap.size) := hD
  have HS : Hid (D < v1.heap.size) := kD.lt
  clear hv1 hD hR
  go_loopg [9] ms.length (fun gk t wx => ∃ k : Nat, k + gk = ms.length ∧ t = .int .i64 k ∧ goneB (ms.take k) m = false ∧ Below v1.heap.size v1 wx)
  case atStart => exact ⟨0, by omega, rfl, by simp [goneB], Below.refl _ _⟩
  case round =>
    obtain ⟨k, hkg, rfl, hno, hb⟩ := hrel
    have jD := kD.below hb kD.lt
    have m0 : wr.cell? ⟨D, 0, none⟩ = some (.int .i64 m.id) := jD.cell 0
    have m1 : wr.cell? ⟨D, 1, none⟩ = some (.int .i64 m.idx) := jD.cell 1
    have m2 : wr.cell? ⟨D, 2, none⟩ = some (.int .u64 m.seq) := jD.cell 2
    have hlD := jD.lt
    have HNO : Hid (goneB (ms.take k) m = false) := hno
    clear hno
    by_cases hk : k < ms.length
    · obtain ⟨g, o, rfl, hg, hm⟩ := hR1 (by omega)
      obtain ⟨e, he⟩ : ∃ e, ms[k]? = some e := ⟨ms[k], List.getElem?_eq_getElem (by omega)⟩
      have hme := (hm k e he).keep (fun o' => cell_below hb hg o')
      have c0 := hme.1
      have c1 := hme.2.1
      have c2 := hme.2.2
      have hi0 : (0 : Int) ≤ (k : Int) := by omega
      have hi1 : (k : Int) < (ms.length : Int) := by omega
      have HE : Hid (ms[k]? = some e) := he
      have HB : Hid (Below v1.heap.size v1 wr) := hb
      clear he hb hme hm
      by_cases h1 : e.id = m.id
      · have y1 : (e.id == m.id) = true := by simp [h1]
        by_cases h2 : m.seq ≤ e.seq
        · have H2 : Hid ((e.id == m.id && decide (m.seq ≤ e.seq)) = true) := (by show _ = _; simp [h1, h2])
          clear h1
          go_wp2_with fail
          go_ret
          exact ⟨by simp [goneB_hit HE.out H2.out], below_top HD.out hb1 HS.out (HB.out.alloc HB.out.size _)⟩
        · have H2 : Hid ((e.id == m.id && decide (m.seq ≤ e.seq)) = false) := (by show _ = _; simp [h2])
          clear h1
          go_wp2_with fail
          go_roundg (gk - 1)
          case measure => omega
          case rel => exact ⟨k + 1, by omega, by go_num, goneB_snoc HNO.out HE.out H2.out, HB.out.alloc HB.out.size _⟩
      · have y1 : (e.id == m.id) = false := by simp [h1]
        have H2 : Hid ((e.id == m.id && decide (m.seq ≤ e.seq)) = false) := (by show _ = _; simp [h1])
        clear h1
        go_wp2_with fail
        go_roundg (gk - 1)
        case measure => omega
        case rel => exact ⟨k + 1, by omega, by go_num, goneB_snoc HNO.out HE.out H2.out, HB.out.alloc HB.out.size _⟩
    · obtain rfl : k = ms.length := by omega
      go_wp2_with fail
      go_ret
      have e := HNO.out
      rw [List.take_length] at e
      exact ⟨by simp [e], below_top HD.out hb1 HS.out hb⟩

/-- two members of one value -/
def eqM (x y : Mb) : Bool := x.id == y.id && (x.idx == y.idx && x.seq == y.seq)
def sameB : List Mb → List Mb → Bool
  | [], [] => true
  | x :: xs, y :: ys => eqM x y && sameB xs ys
  | _, _ => false
theorem sameB_len : ∀ {xs ys : List Mb}, xs.length ≠ ys.length → sameB xs ys = false
  | [], [], h => absurd rfl h
  | [], _ :: _, _ => rfl
  | _ :: _, [], _ => rfl
  | x :: xs, y :: ys, h => by
    have : sameB xs ys = false := sameB_len (fun e => h (by simp [e]))
    simp [sameB, this]
theorem sameB_snoc : ∀ {xs ys : List Mb} {x y : Mb} {k : Nat}, sameB (xs.take k) (ys.take k) = true → xs[k]? = some x → ys[k]? = some y → eqM x y = true → sameB (xs.take (k + 1)) (ys.take (k + 1)) = true
  | [], _, _, _, _, _, h, _, _ => by simp at h
  | _ :: _, [], _, _, _, _, _, h, _ => by simp at h
  | a :: xs, b :: ys, x, y, 0, _, hx, hy, he => by
    simp at hx hy
    subst hx hy
    simp [sameB, he]
  | a :: xs, b :: ys, x, y, k + 1, h, hx, hy, he => by
    simp only [List.take_succ_cons, sameB, Bool.and_eq_true] at h ⊢
    exact ⟨h.1, sameB_snoc h.2 (by simpa using hx) (by simpa using hy) he⟩
theorem sameB_hit : ∀ {xs ys : List Mb} {x y : Mb} {k : Nat}, xs[k]? = some x → ys[k]? = some y → eqM x y = false → sameB xs ys = false
  | [], _, _, _, _, h, _, _ => by simp at h
  | _ :: _, [], _, _, _, _, h, _ => by simp at h
  | a :: xs, b :: ys, x, y, 0, hx, hy, he => by
    simp at hx hy
    subst hx hy
    simp [sameB, he]
  | a :: xs, b :: ys, x, y, k + 1, hx, hy, he => by
    have : sameB xs ys = false := sameB_hit (k := k) (by simpa using hx) (by simpa using hy) he
    simp [sameB, this]

/-- the world but for the draws -/
def SameW (w w' : World) : Prop := ∃ m, w' = w.drewN m
theorem SameW.refl (w : World) : SameW w w := ⟨0, rfl⟩
theorem SameW.drewN {w x : World} (h : SameW w x) (k : Nat) : SameW w (x.drewN k) := by
  obtain ⟨m, rfl⟩ := h
  exact ⟨m + k, by rw [World.drewN_drewN]⟩
theorem SameW.heap {w x : World} (h : SameW w x) : x.heap = w.heap := by
  obtain ⟨m, rfl⟩ := h
  rfl

set_option maxHeartbeats 800000 in
theorem same_any (ao bo : Option Addr) (ca cb : Nat) (xs ys : List Mb) (w : World) (hl : xs.length ≤ 2000000) (_hl2 : ys.length ≤ 2000000) (hX : MRow w ao xs) (hY : MRow w bo ys) :
    Calls Yba.prog 12 #[.slice ao xs.length ca, .slice bo ys.length cb] w fun e w' => e = .returned (.bool (sameB xs ys)) ∧ SameW w w' := by
  by_cases hlen : xs.length = ys.length
  · have HL : Hid (xs.length = ys.length) := hlen
    obtain ⟨n, hn⟩ : ∃ n, n = xs.length := ⟨_, rfl⟩
    rw [← hlen, ← hn]
    have HN : Hid (n = xs.length) := hn
    rw [← hn] at hl
    clear hlen _hl2 hn
    go_enter Yba.func12, Yba.ntmps12
    go_wp2_with fail
    go_loopg [13] n (fun gk t wx => ∃ k : Nat, k + gk = n ∧ t = .int .i64 k ∧ sameB (xs.take k) (ys.take k) = true ∧ SameW w wx)
    case atStart => exact ⟨0, by omega, rfl, by simp [sameB], SameW.refl _⟩
    case round =>
      obtain ⟨k, hkg, rfl, hno, hw⟩ := hrel
      have HNO : Hid (sameB (xs.take k) (ys.take k) = true) := hno
      have HW : Hid (SameW w wr) := hw
      clear hno hw
      by_cases hk : k < n
      · obtain ⟨g, o, rfl, hg, hm⟩ := hX (by have := HN.out; omega)
        obtain ⟨g2, o2, rfl, hg2, hm2⟩ := hY (by have := HN.out; have := HL.out; omega)
        obtain ⟨x, hx⟩ : ∃ x, xs[k]? = some x := ⟨xs[k]'(by have := HN.out; omega), List.getElem?_eq_getElem _⟩
        obtain ⟨y, hy⟩ : ∃ y, ys[k]? = some y := ⟨ys[k]'(by have := HN.out; have := HL.out; omega), List.getElem?_eq_getElem _⟩
        have hw := HW.out
        have hme := (hm k x hx).keep (w' := wr) (fun o' => by simp only [World.cell?, hw.heap])
        have hme2 := (hm2 k y hy).keep (w' := wr) (fun o' => by simp only [World.cell?, hw.heap])
        have c0 := hme.1
        have c1 := hme.2.1
        have c2 := hme.2.2
        have d0 := hme2.1
        have d1 := hme2.2.1
        have d2 := hme2.2.2
        have hi0 : (0 : Int) ≤ (k : Int) := by omega
        have hi1 : (k : Int) < (n : Int) := by omega
        have HX : Hid (xs[k]? = some x) := hx
        have HY : Hid (ys[k]? = some y) := hy
        clear hx hy hme hme2 hm hm2 hw
        by_cases h1 : x.id = y.id
        · have y1 : (x.id == y.id) = true := by simp [h1]
          by_cases h2 : x.idx = y.idx
          · have y2 : (x.idx == y.idx) = true := by simp [h2]
            by_cases h3 : x.seq = y.seq
            · have y3 : (x.seq == y.seq) = true := by simp [h3]
              have H2 : Hid (eqM x y = true) := (by show _ = _; simp [eqM, h1, h2, h3])
              clear h1 h2 h3
              go_upto_region 6 with fail
              go_quiet (fail)
              go_wp2_with fail
              go_roundg (gk - 1)
              case measure => omega
              case rel => exact ⟨k + 1, by omega, by go_num, sameB_snoc HNO.out HX.out HY.out H2.out, HW.out.drewN _⟩
            · have y3 : (x.seq == y.seq) = false := by simp [h3]
              have H2 : Hid (eqM x y = false) := (by show _ = _; simp [eqM, h3])
              clear h1 h2 h3
              go_upto_region 6 with fail
              go_quiet (fail)
              go_wp2_with fail
              go_ret
              exact ⟨by simp [sameB_hit HX.out HY.out H2.out], HW.out.drewN _⟩
          · have y2 : (x.idx == y.idx) = false := by simp [h2]
            have H2 : Hid (eqM x y = false) := (by show _ = _; simp [eqM, h2])
            clear h1 h2
            go_upto_region 6 with fail
            go_quiet (fail)
            go_wp2_with fail
            go_ret
            exact ⟨by simp [sameB_hit HX.out HY.out H2.out], HW.out.drewN _⟩
        · have y1 : (x.id == y.id) = false := by simp [h1]
          have H2 : Hid (eqM x y = false) := (by show _ = _; simp [eqM, h1])
          clear h1
          go_upto_region 6 with fail
          go_quiet (fail)
          go_wp2_with fail
          go_ret
          exact ⟨by simp [sameB_hit HX.out HY.out H2.out], HW.out.drewN _⟩
      · obtain rfl : k = n := by omega
        go_wp2_with fail
        go_ret
        have e := HNO.out
        have hy : ys.length = k := HL.out.symm.trans HN.out.symm
        rw [HN.out, List.take_length, ← HN.out, ← hy, List.take_length] at e
        exact ⟨by simp [e], HW.out⟩
  · have H := sameB_len hlen
    rw [H]
    have h1 : ((xs.length : Int) == (ys.length : Int)) = false := by simp; omega
    go_enter Yba.func12, Yba.ntmps12
    go_wp2_with fail
    go_ret
    exact ⟨rfl, SameW.refl _⟩
end Go.Proofs.Ybulkause
