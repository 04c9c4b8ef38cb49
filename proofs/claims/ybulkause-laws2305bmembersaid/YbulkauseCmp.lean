/-
  The walks of cmp.Compare, byID, slices.BinarySearchFunc.
-/
import Derived.Test.YbulkauseMem
namespace Go.Proofs.Ybulkause
open Go.RowKit Go.Deep

def cmpI (a b : Int) : Int := if a < b then -1 else if b < a then 1 else 0
theorem cmpI_lt {a b : Int} (h : a < b) : cmpI a b = -1 := if_pos h
theorem cmpI_gt {a b : Int} (h : b < a) : cmpI a b = 1 := by unfold cmpI; rw [if_neg (by omega), if_pos h]
theorem cmpI_eq {a b : Int} (h : a = b) : cmpI a b = 0 := by unfold cmpI; rw [if_neg (by omega), if_neg (by omega)]

set_option maxHeartbeats 400000 in
theorem compare_any (a b : Int) (w : World) : Calls Yba.prog 31 #[.int .i64 a, .int .i64 b] w fun e w' => e = .returned (.int .i64 (cmpI a b)) ∧ w = w' := by
  by_cases h1 : a < b
  · rw [cmpI_lt h1]
    go_enter Yba.func31, Yba.ntmps31
    go_wp2
    go_ret
    exact ⟨rfl, rfl⟩
  · by_cases h2 : b < a
    · rw [cmpI_gt h2]
      go_enter Yba.func31, Yba.ntmps31
      go_wp2
      go_ret
      exact ⟨rfl, rfl⟩
    · rw [cmpI_eq (by omega)]
      go_enter Yba.func31, Yba.ntmps31
      go_wp2
      go_ret
      exact ⟨rfl, rfl⟩

set_option maxHeartbeats 400000 in
theorem byID_any (m : Mb) (t : Int) (w : World) : Calls Yba.prog 25 #[.agg #[.int .i64 m.id, .int .i64 m.idx, .int .u64 m.seq], .int .i64 t] w fun e w' => e = .returned (.int .i64 (cmpI m.id t)) ∧ Below w.heap.size w w' := by
  go_enter Yba.func25, Yba.ntmps25
  go_wp2_with (go_at_call 31; refine (compare_any _ _ _).mono ?_; rintro e w' ⟨rfl, rfl⟩)
  go_ret
  exact ⟨rfl, (Below.refl _ _).alloc (Nat.le_refl _) _⟩

/-- increasing ids -/
def Inc (ms : List Mb) : Prop := ∀ (i j : Nat) (x y : Mb), i < j → ms[i]? = some x → ms[j]? = some y → x.id < y.id

def SearchPost (ms : List Mb) (t : Int) (w : World) (e : Ending) (w' : World) : Prop :=
  ∃ (i : Nat) (fd : Bool), e = .returned (.tuple #[.int .i64 i, .bool fd]) ∧ Below w.heap.size w w' ∧ (fd = true → ∃ x : Mb, ms[i]? = some x ∧ x.id = t) ∧ (fd = false → ∀ (k : Nat) (x : Mb), ms[k]? = some x → x.id ≠ t)

set_option maxHeartbeats 800000 in
theorem search_any (ao : Option Addr) (cap : Nat) (ms : List Mb) (t : Int) (w : World) (hl : ms.length ≤ 2000000) (hR : MRow w ao ms) (hI : Inc ms) :
    Calls Yba.prog 24 #[.slice ao ms.length cap, .int .i64 t, .func (.func 25) #[] #[]] w fun e w' => SearchPost ms t w e w' := by
  obtain ⟨n, hn⟩ : ∃ n, n = ms.length := ⟨_, rfl⟩
  rw [← hn] at hl ⊢
  have HN : Hid (n = ms.length) := hn
  clear hn
  go_enter Yba.func24, Yba.ntmps24
  go_wp2_with fail
  go_loopg [9, 10] n (fun gk ti tj wx => ∃ i j : Nat, i + gk = j ∧ ti = .int .i64 i ∧ tj = .int .i64 j ∧ j ≤ n ∧ (∀ (k : Nat) (x : Mb), k < i → ms[k]? = some x → x.id < t) ∧ (∀ (k : Nat) (x : Mb), j ≤ k → ms[k]? = some x → t ≤ x.id) ∧ Below w.heap.size w wx)
  case atStart => exact ⟨0, n, by omega, rfl, rfl, Nat.le_refl _, fun k x h => by omega, fun k x h hx => by have := (List.getElem?_eq_some_iff.1 hx).1; have := HN.out; omega, Below.refl _ _⟩
  case round =>
    obtain ⟨i, j, hij, rfl, rfl, hjn, hlo, hhi, hb⟩ := hrel
    by_cases hk : i < j
    · have hi0 : (i : Int) < (j : Int) := by omega
      obtain ⟨h, hh⟩ : ∃ h : Nat, (i + j) / 2 = h := ⟨_, rfl⟩
      have eh : ((i : Int) + (j : Int)) / 2 = (h : Int) := by omega
      obtain ⟨g, o, rfl, hg, hm⟩ := hR (by have := HN.out; omega)
      obtain ⟨x, hx⟩ : ∃ x, ms[h]? = some x := ⟨ms[h]'(by have := HN.out; omega), List.getElem?_eq_getElem _⟩
      have hme := (hm h x hx).keep (fun o' => cell_below hb hg o')
      have c0 := hme.1
      have c1 := hme.2.1
      have c2 := hme.2.2
      have hi1 : (0 : Int) ≤ (h : Int) := by omega
      have hi2 : (h : Int) < (n : Int) := by omega
      have HX : Hid (ms[h]? = some x) := hx
      have HB : Hid (Below w.heap.size w wr) := hb
      have HLO : Hid (∀ (k : Nat) (x : Mb), k < i → ms[k]? = some x → x.id < t) := hlo
      have HHI : Hid (∀ (k : Nat) (x : Mb), j ≤ k → ms[k]? = some x → t ≤ x.id) := hhi
      have H1 : Hid (i ≤ h ∧ h < j) := ⟨by omega, by omega⟩
      clear hx hb hlo hhi hme hh hm
      go_upto_region 5 with fail

      clear eh
      by_cases hc : x.id < t
      · have hcmp : cmpI x.id t = -1 := cmpI_lt hc
        have HC : Hid (x.id < t) := hc
        go_wp2_with (go_at_call 25; refine (byID_any x t _).mono ?_; rintro e w' ⟨rfl, hb2⟩)
        go_roundg (j - (h + 1))
        case measure => have := H1.out; omega
        case rel => exact ⟨h + 1, j, by have := H1.out; omega, by go_num, rfl, hjn, fun k y hk hy => by
          by_cases hk2 : k = h
          · subst hk2; have e := HX.out.symm.trans hy; injection e with e; subst e; exact HC.out
          · exact Int.lt_trans (hI k h y x (by omega) hy HX.out) HC.out, HHI.out, HB.out.trans (hb2.mono HB.out.size)⟩
      · have HC : Hid (¬ x.id < t) := hc
        have hcmp : ¬ (cmpI x.id t < 0) := by
          by_cases h2 : t < x.id
          · rw [cmpI_gt h2]; omega
          · rw [cmpI_eq (by omega)]; omega
        go_wp2_with (go_at_call 25; refine (byID_any x t _).mono ?_; rintro e w' ⟨rfl, hb2⟩)
        go_roundg (h - i)
        case measure => have := H1.out; omega
        case rel => exact ⟨i, h, by have := H1.out; omega, rfl, by go_num, by have := H1.out; omega, HLO.out, fun k y hk hy => by
          have hc2 := HC.out
          by_cases hk2 : k = h
          · subst hk2; have e := HX.out.symm.trans hy; injection e with e; subst e; omega
          · have := hI h k x y (by omega) HX.out hy; omega, HB.out.trans (hb2.mono HB.out.size)⟩
    · obtain rfl : i = j := by omega
      have HB : Hid (Below w.heap.size w wr) := hb
      have HLO : Hid (∀ (k : Nat) (x : Mb), k < i → ms[k]? = some x → x.id < t) := hlo
      have HHI : Hid (∀ (k : Nat) (x : Mb), i ≤ k → ms[k]? = some x → t ≤ x.id) := hhi
      by_cases hin : i < n
      · obtain ⟨g, o, rfl, hg, hm⟩ := hR (by have := HN.out; omega)
        obtain ⟨x, hx⟩ : ∃ x, ms[i]? = some x := ⟨ms[i]'(by have := HN.out; omega), List.getElem?_eq_getElem _⟩
        have hme := (hm i x hx).keep (fun o' => cell_below hb hg o')
        have c0 := hme.1
        have c1 := hme.2.1
        have c2 := hme.2.2
        have hi1 : (0 : Int) ≤ (i : Int) := by omega
        have hi2 : (i : Int) < (n : Int) := by omega
        have HX : Hid (ms[i]? = some x) := hx
        clear hx hb hlo hhi hme hm
        by_cases hc : x.id = t
        · have hcmp : (cmpI x.id t == 0) = true := by rw [cmpI_eq hc]; rfl
          have HC : Hid (x.id = t) := hc
          clear hc
          go_wp2_with (go_at_call 25; refine (byID_any x t _).mono ?_; rintro e w' ⟨rfl, hb2⟩)
          go_ret2
          exact ⟨i, true, rfl, HB.out.trans (hb2.mono HB.out.size), fun _ => ⟨x, HX.out, HC.out⟩, fun h => by cases h⟩
        · have hcmp : (cmpI x.id t == 0) = false := by
            have h2 : t < x.id := by have := HHI.out i x (Nat.le_refl _) HX.out; omega
            rw [cmpI_gt h2]; rfl
          have HC : Hid (x.id ≠ t) := hc
          clear hc
          go_wp2_with (go_at_call 25; refine (byID_any x t _).mono ?_; rintro e w' ⟨rfl, hb2⟩)
          go_ret2
          refine ⟨i, false, rfl, HB.out.trans (hb2.mono HB.out.size), fun h => (by cases h), fun _ k y hy => ?_⟩
          have h2 : t < x.id := by have := HHI.out i x (Nat.le_refl _) HX.out; have := HC.out; omega
          by_cases hk2 : k < i
          · have := HLO.out k y hk2 hy; omega
          · by_cases hk3 : k = i
            · subst hk3; have e := HX.out.symm.trans hy; injection e with e; subst e; omega
            · have := hI i k x y (by omega) HX.out hy; omega
      · have HI2 : Hid (¬ i < n) := hin
        have hi2 : ¬ ((i : Int) < (n : Int)) := by omega
        clear hb hlo hhi
        go_wp2_with fail
        go_ret2
        refine ⟨i, false, rfl, HB.out, fun h => (by cases h), fun _ k y hy => ?_⟩
        have hlt := (List.getElem?_eq_some_iff.1 hy).1
        have := HLO.out k y (by have := HN.out; have := HI2.out; omega) hy
        omega

set_option maxHeartbeats 800000 in
theorem equal_any (ao bo : Option Addr) (ca cb : Nat) (xs ys : List Mb) (w : World) (hl : xs.length ≤ 2000000) (_hl2 : ys.length ≤ 2000000) (hX : MRow w ao xs) (hY : MRow w bo ys) :
    Calls Yba.prog 34 #[.slice ao xs.length ca, .slice bo ys.length cb] w fun e w' => e = .returned (.bool (sameB xs ys)) ∧ SameW w w' := by
  by_cases hlen : xs.length = ys.length
  · have HL : Hid (xs.length = ys.length) := hlen
    obtain ⟨n, hn⟩ : ∃ n, n = xs.length := ⟨_, rfl⟩
    rw [← hlen, ← hn]
    have HN : Hid (n = xs.length) := hn
    rw [← hn] at hl
    clear hlen _hl2 hn
    go_enter Yba.func34, Yba.ntmps34
    go_wp2_with fail
    go_loopg [13] n (fun gk t wx => ∃ k : Nat, k + gk = n ∧ t = .int .i64 k ∧ sameB (xs.take k) (ys.take k) = true ∧ SameW w wx)
    case atStart => exact ⟨0, by omega, rfl, by simp [sameB], SameW.refl _⟩
    case round =>
      obtain ⟨k, hkg, rfl, hno, hw⟩ := hrel
      have HNO : Hid (sameB (xs.take k) (ys.take k) = true) := hno
      have HW : Hid (SameW w wr) := hw
      clear hno hw
      by_cases hk : k < n
      · obtain ⟨g, o, rfl, hg, hm⟩ := hX (by have := HN.out; omega)
        obtain ⟨g2, o2, rfl, hg2, hm2⟩ := hY (by have := HN.out; have := HL.out; omega)
        obtain ⟨x, hx⟩ : ∃ x, xs[k]? = some x := ⟨xs[k]'(by have := HN.out; omega), List.getElem?_eq_getElem _⟩
        obtain ⟨y, hy⟩ : ∃ y, ys[k]? = some y := ⟨ys[k]'(by have := HN.out; have := HL.out; omega), List.getElem?_eq_getElem _⟩
        have hw := HW.out
        have hme := (hm k x hx).keep (w' := wr) (fun o' => by simp only [World.cell?, hw.heap])
        have hme2 := (hm2 k y hy).keep (w' := wr) (fun o' => by simp only [World.cell?, hw.heap])
        have c0 := hme.1
        have c1 := hme.2.1
        have c2 := hme.2.2
        have d0 := hme2.1
        have d1 := hme2.2.1
        have d2 := hme2.2.2
        have hi0 : (0 : Int) ≤ (k : Int) := by omega
        have hi1 : (k : Int) < (n : Int) := by omega
        have HX : Hid (xs[k]? = some x) := hx
        have HY : Hid (ys[k]? = some y) := hy
        clear hx hy hme hme2 hm hm2 hw
        by_cases h1 : x.id = y.id
        · have y1 : (x.id == y.id) = true := by simp [h1]
          by_cases h2 : x.idx = y.idx
          · have y2 : (x.idx == y.idx) = true := by simp [h2]
            by_cases h3 : x.seq = y.seq
            · have y3 : (x.seq == y.seq) = true := by simp [h3]
              have H2 : Hid (eqM x y = true) := (by show _ = _; simp [eqM, h1, h2, h3])
              clear h1 h2 h3
              go_upto_region 6 with fail
              go_quiet (fail)
              go_wp2_with fail
              go_roundg (gk - 1)
              case measure => omega
              case rel => exact ⟨k + 1, by omega, by go_num, sameB_snoc HNO.out HX.out HY.out H2.out, HW.out.drewN _⟩
            · have y3 : (x.seq == y.seq) = false := by simp [h3]
              have H2 : Hid (eqM x y = false) := (by show _ = _; simp [eqM, h3])
              clear h1 h2 h3
              go_upto_region 6 with fail
              go_quiet (fail)
              go_wp2_with fail
              go_ret
              exact ⟨by simp [sameB_hit HX.out HY.out H2.out], HW.out.drewN _⟩
          · have y2 : (x.idx == y.idx) = false := by simp [h2]
            have H2 : Hid (eqM x y = false) := (by show _ = _; simp [eqM, h2])
            clear h1 h2
            go_upto_region 6 with fail
            go_quiet (fail)
            go_wp2_with fail
            go_ret
            exact ⟨by simp [sameB_hit HX.out HY.out H2.out], HW.out.drewN _⟩
        · have y1 : (x.id == y.id) = false := by simp [h1]
          have H2 : Hid (eqM x y = false) := (by show _ = _; simp [eqM, h1])
          clear h1
          go_upto_region 6 with fail
          go_quiet (fail)
          go_wp2_with fail
          go_ret
          exact ⟨by simp [sameB_hit HX.out HY.out H2.out], HW.out.drewN _⟩
      · obtain rfl : k = n := by omega
        go_wp2_with fail
        go_ret
        have e := HNO.out
        have hy : ys.length = k := HL.out.symm.trans HN.out.symm
        rw [HN.out, List.take_length, ← HN.out, ← hy, List.take_length] at e
        exact ⟨by simp [e], HW.out⟩
  · have H := sameB_len hlen
    rw [H]
    have h1 : ((xs.length : Int) == (ys.length : Int)) = false := by simp; omega
    go_enter Yba.func34, Yba.ntmps34
    go_wp2_with fail
    go_ret
    exact ⟨rfl, SameW.refl _⟩
end Go.Proofs.Ybulkause
