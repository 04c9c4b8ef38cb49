/-
  package time on the road: a Time without a monotonic reading, as its count of nanoseconds.
-/
import Derived.Test.YbulkaussRows
import Derived.Test.YbulkaussKit
import Derived.Laws.BitsAllLaws
namespace Go.Proofs.Ybulkauss
open Go.RowKit Go.Deep

theorem bits_top (n : Int) (h0 : 0 ≤ n) (h1 : n < 9223372036854775808) : bits BinOp.and IntKind.u64 n 9223372036854775808 = 0 := by
  rw [u64_and n 9223372036854775808 h0 (by omega) (by omega) (by omega)]
  have e : n.toNat &&& (9223372036854775808 : Int).toNat = 0 := by
    have h63 : (9223372036854775808 : Int).toNat = 2 ^ 63 := rfl
    rw [h63]
    apply Nat.eq_of_testBit_eq
    intro i
    rw [Nat.testBit_and, Nat.testBit_two_pow, Nat.zero_testBit]
    by_cases hi : 63 = i
    · subst hi
      rw [Nat.testBit_lt_two_pow (show n.toNat < 2 ^ 63 by omega)]; rfl
    · simp [hi]
  rw [e]; rfl
theorem bits_low (n : Int) (h0 : 0 ≤ n) (h1 : n < 1073741824) : bits BinOp.and IntKind.u64 n 1073741823 = n := by
  rw [u64_and n 1073741823 h0 (by omega) (by omega) (by omega)]
  have : (1073741823 : Int).toNat = 2 ^ 30 - 1 := rfl
  rw [this, Nat.and_two_pow_sub_one_eq_mod]
  omega
theorem bits_clr (n : Int) (h0 : 0 ≤ n) (h1 : n < 1073741824) : bits BinOp.andNot IntKind.u64 n 1073741823 = 0 := by
  rw [u64_andNot n 1073741823 h0 (by omega) (by omega) (by omega)]
  have e : n.toNat &&& (18446744073709551615 - (1073741823 : Int).toNat) = 0 := by
    have h30 : 18446744073709551615 - (1073741823 : Int).toNat = (2 ^ 34 - 1) <<< 30 := rfl
    rw [h30]
    apply Nat.eq_of_testBit_eq
    intro i
    rw [Nat.testBit_and, Nat.testBit_shiftLeft, Nat.zero_testBit]
    by_cases hi : 30 ≤ i
    · rw [Nat.testBit_lt_two_pow (Nat.lt_of_lt_of_le (show n.toNat < 2 ^ 30 by omega) (Nat.pow_le_pow_right (by omega) hi))]; rfl
    · simp [hi]
  rw [e]; rfl
theorem bits_or0 (n : Int) (h0 : 0 ≤ n) (h1 : n < 18446744073709551616) : bits BinOp.or IntKind.u64 0 n = n := by
  rw [u64_or 0 n (by omega) (by omega) h0 h1]
  simp; omega

set_option maxHeartbeats 400000 in
theorem nsec_any (b o : Nat) (n : Int) (w : World) (h0 : 0 ≤ n) (h1 : n < 1000000000) (hc : w.cell? ⟨b, o, none⟩ = some (.int .u64 n)) :
    Calls Yba.prog 16 #[.pointer (some ⟨b, o, none⟩)] w fun e w' => e = .returned (.int .i32 n) ∧ w = w' := by
  have hl := bits_low n h0 (by omega)
  go_enter Yba.func16, Yba.ntmps16
  go_wp2
  go_ret
  exact ⟨rfl, rfl⟩

set_option maxHeartbeats 400000 in
theorem sec_any (b o : Nat) (n s : Int) (w : World) (h0 : 0 ≤ n) (h1 : n < 1000000000) (hc : w.cell? ⟨b, o, none⟩ = some (.int .u64 n)) (hs : w.cell? ⟨b, o + 1, none⟩ = some (.int .i64 s)) :
    Calls Yba.prog 20 #[.pointer (some ⟨b, o, none⟩)] w fun e w' => e = .returned (.int .i64 s) ∧ w = w' := by
  have hl := bits_top n h0 (by omega)
  go_enter Yba.func20, Yba.ntmps20
  go_wp2
  go_ret
  exact ⟨rfl, rfl⟩

set_option maxHeartbeats 400000 in
theorem addSec_any (b o : Nat) (n s d : Int) (w : World) (h0 : 0 ≤ n) (h1 : n < 1000000000) (hs1 : -100000000000 ≤ s) (hs2 : s ≤ 100000000000) (hd1 : -100000000000 ≤ d) (hd2 : d ≤ 100000000000)
    (hc : w.cell? ⟨b, o, none⟩ = some (.int .u64 n)) (hs : w.cell? ⟨b, o + 1, none⟩ = some (.int .i64 s)) (hf : w.frozen? ⟨b, o + 1, none⟩ = false) :
    Calls Yba.prog 17 #[.pointer (some ⟨b, o, none⟩), .int .i64 d] w fun e w' => e = .returned (.tuple #[]) ∧ w.setCell ⟨b, o + 1, none⟩ (.int .i64 (s + d)) = w' := by
  have hl := bits_top n h0 (by omega)
  by_cases hd : 0 < d
  · have x1 : s < s + d := by omega
    go_enter Yba.func17, Yba.ntmps17
    go_wp2
    first | go_end0 | refine bodyPost_ret (results_none rfl _ _ _) rfl ?_
    exact ⟨rfl, rfl⟩
  · have x1 : decide (s < s + d) = false := by simp; omega
    have x2 : decide (0 < d) = false := by simp; omega
    clear hd
    go_enter Yba.func17, Yba.ntmps17
    go_wp2
    first | go_end0 | refine bodyPost_ret (results_none rfl _ _ _) rfl ?_
    exact ⟨rfl, rfl⟩

/-- a Time without a monotonic reading, T nanoseconds behind the zero time -/
def Tm (T : Int) : Value := .agg #[.int .u64 (T % 1000000000), .int .i64 (T / 1000000000), .pointer none]

theorem Tm_of {X n s : Int} (h0 : 0 ≤ n) (h1 : n < 1000000000) (h : X = s * 1000000000 + n) : Tm X = .agg #[.int .u64 n, .int .i64 s, .pointer none] := by
  have e1 : X % 1000000000 = n := by omega
  have e2 : X / 1000000000 = s := by omega
  unfold Tm; rw [e1, e2]

theorem tq (d : Int) : d.tdiv 1000000000 * 1000000000 + d.tmod 1000000000 = d ∧ -1000000000 < d.tmod 1000000000 ∧ d.tmod 1000000000 < 1000000000 := by
  have h := Int.tdiv_mul_add_tmod d 1000000000
  refine ⟨h, ?_, ?_⟩
  · rcases Int.le_total 0 d with hd | hd
    · have := Int.tmod_nonneg 1000000000 hd; omega
    · have := Int.tmod_nonneg 1000000000 (show 0 ≤ -d by omega)
      have h2 := Int.tmod_lt_of_pos (-d) (show (0 : Int) < 1000000000 by omega)
      rw [Int.neg_tmod] at h2
      omega
  · exact Int.tmod_lt_of_pos d (by omega)

set_option maxHeartbeats 800000 in
theorem add_raw (n s d q m : Int) (w : World) (h0 : 0 ≤ n) (h1 : n < 1000000000) (hs1 : -50000000000 ≤ s) (hs2 : s ≤ 50000000000) (hq : d.tdiv 1000000000 = q) (hm : d.tmod 1000000000 = m)
    (q1 : -10000000000 ≤ q) (q2 : q ≤ 10000000000) (m1 : -1000000000 < m) (m2 : m < 1000000000) :
    Calls Yba.prog 7 #[.agg #[.int .u64 n, .int .i64 s, .pointer none], .int .i64 d] w fun e w' => (∃ n' s', 0 ≤ n' ∧ n' < 1000000000 ∧ s' * 1000000000 + n' = s * 1000000000 + n + (q * 1000000000 + m) ∧ e = .returned (.agg #[.int .u64 n', .int .i64 s', .pointer none])) ∧ Below w.heap.size w w' := by
  have hl0 := bits_clr n h0 (by omega)
  by_cases c1 : 1000000000 ≤ n + m
  · have hor := bits_or0 (n + m - 1000000000) (by omega) (by omega)
    have hto := bits_top (n + m - 1000000000) (by omega) (by omega)
    have k1 : ∀ o, ((w.alloc (.cells #[.int .u64 (n + m - 1000000000), .int .i64 s, .pointer none] 43)).alloc o).cell? ⟨w.heap.size, 0, none⟩ = some (.int .u64 (n + m - 1000000000)) := fun o => by rw [World.cell?_alloc_past _ _ _ (by simp)]; simp
    have k2 : ∀ o, ((w.alloc (.cells #[.int .u64 (n + m - 1000000000), .int .i64 s, .pointer none] 43)).alloc o).cell? ⟨w.heap.size, 0 + 1, none⟩ = some (.int .i64 s) := fun o => by rw [World.cell?_alloc_past _ _ _ (by simp)]; simp
    have k3 : ∀ o, ((w.alloc (.cells #[.int .u64 (n + m - 1000000000), .int .i64 s, .pointer none] 43)).alloc o).frozen? ⟨w.heap.size, 0 + 1, none⟩ = false := fun o => by rw [World.frozen?_alloc_past _ _ _ (by simp)]; simp
    have C17 := fun o => addSec_any w.heap.size 0 (n + m - 1000000000) s (q + 1) _ (by omega) (by omega) (by omega) (by omega) (by omega) (by omega) (k1 o) (k2 o) (k3 o)
    clear k1 k2 k3
    go_enter Yba.func7, Yba.ntmps7
    go_wp2_with (first | (go_at_call 16; go_must (refine (nsec_any w.heap.size 0 n _ h0 h1 (by simp)).mono ?_; rintro e w' ⟨rfl, rfl⟩)) | (go_at_call 17; go_must (refine (C17 _).mono ?_; clear C17; rintro e w' ⟨rfl, rfl⟩)))
    refine bodyPost_ret (v := .agg #[.int .u64 (n + m - 1000000000), .int .i64 (s + (q + 1)), .pointer none]) (by simp [results, Yba.results7, go_sem]) rfl ⟨⟨n + m - 1000000000, s + (q + 1), by omega, by omega, by omega, rfl⟩, ?_⟩
    exact ((Below.refl _ _).alloc (Nat.le_refl _) _).alloc (by simp) _
  · by_cases c2 : n + m < 0
    · have hor := bits_or0 (n + m + 1000000000) (by omega) (by omega)
      have hto := bits_top (n + m + 1000000000) (by omega) (by omega)
      have k1 : ∀ o, ((w.alloc (.cells #[.int .u64 (n + m + 1000000000), .int .i64 s, .pointer none] 43)).alloc o).cell? ⟨w.heap.size, 0, none⟩ = some (.int .u64 (n + m + 1000000000)) := fun o => by rw [World.cell?_alloc_past _ _ _ (by simp)]; simp
      have k2 : ∀ o, ((w.alloc (.cells #[.int .u64 (n + m + 1000000000), .int .i64 s, .pointer none] 43)).alloc o).cell? ⟨w.heap.size, 0 + 1, none⟩ = some (.int .i64 s) := fun o => by rw [World.cell?_alloc_past _ _ _ (by simp)]; simp
      have k3 : ∀ o, ((w.alloc (.cells #[.int .u64 (n + m + 1000000000), .int .i64 s, .pointer none] 43)).alloc o).frozen? ⟨w.heap.size, 0 + 1, none⟩ = false := fun o => by rw [World.frozen?_alloc_past _ _ _ (by simp)]; simp
      have C17 := fun o => addSec_any w.heap.size 0 (n + m + 1000000000) s (q - 1) _ (by omega) (by omega) (by omega) (by omega) (by omega) (by omega) (k1 o) (k2 o) (k3 o)
      clear k1 k2 k3
      go_enter Yba.func7, Yba.ntmps7
      go_wp2_with (first | (go_at_call 16; go_must (refine (nsec_any w.heap.size 0 n _ h0 h1 (by simp)).mono ?_; rintro e w' ⟨rfl, rfl⟩)) | (go_at_call 17; go_must (refine (C17 _).mono ?_; clear C17; rintro e w' ⟨rfl, rfl⟩)))
      refine bodyPost_ret (v := .agg #[.int .u64 (n + m + 1000000000), .int .i64 (s + (q - 1)), .pointer none]) (by simp [results, Yba.results7, go_sem]) rfl ⟨⟨n + m + 1000000000, s + (q - 1), by omega, by omega, by omega, rfl⟩, ?_⟩
      exact ((Below.refl _ _).alloc (Nat.le_refl _) _).alloc (by simp) _
    · have hor := bits_or0 (n + m) (by omega) (by omega)
      have hto := bits_top (n + m) (by omega) (by omega)
      have k1 : ∀ o, ((w.alloc (.cells #[.int .u64 (n + m), .int .i64 s, .pointer none] 43)).alloc o).cell? ⟨w.heap.size, 0, none⟩ = some (.int .u64 (n + m)) := fun o => by rw [World.cell?_alloc_past _ _ _ (by simp)]; simp
      have k2 : ∀ o, ((w.alloc (.cells #[.int .u64 (n + m), .int .i64 s, .pointer none] 43)).alloc o).cell? ⟨w.heap.size, 0 + 1, none⟩ = some (.int .i64 s) := fun o => by rw [World.cell?_alloc_past _ _ _ (by simp)]; simp
      have k3 : ∀ o, ((w.alloc (.cells #[.int .u64 (n + m), .int .i64 s, .pointer none] 43)).alloc o).frozen? ⟨w.heap.size, 0 + 1, none⟩ = false := fun o => by rw [World.frozen?_alloc_past _ _ _ (by simp)]; simp
      have C17 := fun o => addSec_any w.heap.size 0 (n + m) s (q) _ (by omega) (by omega) (by omega) (by omega) (by omega) (by omega) (k1 o) (k2 o) (k3 o)
      clear k1 k2 k3
      go_enter Yba.func7, Yba.ntmps7
      go_wp2_with (first | (go_at_call 16; go_must (refine (nsec_any w.heap.size 0 n _ h0 h1 (by simp)).mono ?_; rintro e w' ⟨rfl, rfl⟩)) | (go_at_call 17; go_must (refine (C17 _).mono ?_; clear C17; rintro e w' ⟨rfl, rfl⟩)))
      refine bodyPost_ret (v := .agg #[.int .u64 (n + m), .int .i64 (s + (q)), .pointer none]) (by simp [results, Yba.results7, go_sem]) rfl ⟨⟨n + m, s + (q), by omega, by omega, by omega, rfl⟩, ?_⟩
      exact ((Below.refl _ _).alloc (Nat.le_refl _) _).alloc (by simp) _

theorem add_any (T d : Int) (w : World) (hT1 : -40000000000000000000 ≤ T) (hT2 : T ≤ 40000000000000000000) (hd1 : -9223372036854775808 ≤ d) (hd2 : d ≤ 9223372036854775807) :
    Calls Yba.prog 7 #[Tm T, .int .i64 d] w fun e w' => e = .returned (Tm (T + d)) ∧ Below w.heap.size w w' := by
  obtain ⟨e1, e2, e3⟩ := tq d
  refine (add_raw (T % 1000000000) (T / 1000000000) d _ _ w (by omega) (by omega) (by omega) (by omega) rfl rfl (by omega) (by omega) e2 e3).mono ?_
  rintro e w' ⟨⟨n', s', a, b, c, rfl⟩, hb⟩
  refine ⟨?_, hb⟩
  rw [Tm_of a b (show T + d = s' * 1000000000 + n' by omega)]

theorem bits_two (a b : Int) (h0 : 0 ≤ a) (h1 : a < 1000000000) (h2 : 0 ≤ b) (h3 : b < 1000000000) : bits BinOp.and IntKind.u64 (bits BinOp.and IntKind.u64 a b) 9223372036854775808 = 0 := by
  have e := u64_and a b h0 (by omega) h2 (by omega)
  have hle : a.toNat &&& b.toNat ≤ a.toNat := Nat.and_le_left
  exact bits_top _ (by rw [e]; omega) (by rw [e]; omega)

set_option maxHeartbeats 800000 in
theorem before_raw (n1 s1 n2 s2 : Int) (w : World) (h0 : 0 ≤ n1) (h1 : n1 < 1000000000) (h2 : 0 ≤ n2) (h3 : n2 < 1000000000) :
    Calls Yba.prog 10 #[.agg #[.int .u64 n1, .int .i64 s1, .pointer none], .agg #[.int .u64 n2, .int .i64 s2, .pointer none]] w fun e w' => e = .returned (.bool (decide (s1 * 1000000000 + n1 < s2 * 1000000000 + n2))) ∧ Below w.heap.size w w' := by
  have hb2 := bits_two n1 n2 h0 h1 h2 h3
  obtain ⟨w1, hw1⟩ : ∃ w1, w1 = (w.alloc (.cells #[.int .u64 n1, .int .i64 s1, .pointer none] 43)).alloc (.cells #[.int .u64 n2, .int .i64 s2, .pointer none] 43) := ⟨_, rfl⟩
  have a0 : w1.cell? ⟨w.heap.size, 0, none⟩ = some (.int .u64 n1) := by rw [hw1, World.cell?_alloc_past _ _ _ (by simp)]; simp
  have a1 : w1.cell? ⟨w.heap.size, 0 + 1, none⟩ = some (.int .i64 s1) := by rw [hw1, World.cell?_alloc_past _ _ _ (by simp)]; simp
  have c0 : w1.cell? ⟨w.heap.size + 1, 0, none⟩ = some (.int .u64 n2) := by rw [hw1, World.cell?_alloc_at _ _ _ _ (by simp)]; simp
  have c1 : w1.cell? ⟨w.heap.size + 1, 0 + 1, none⟩ = some (.int .i64 s2) := by rw [hw1, World.cell?_alloc_at _ _ _ _ (by simp)]; simp
  have hbl : Below w.heap.size w w1 := by rw [hw1]; exact ((Below.refl _ _).alloc (Nat.le_refl _) _).alloc (by simp) _
  have A20 := sec_any w.heap.size 0 n1 s1 w1 h0 h1 a0 a1
  have B20 := sec_any (w.heap.size + 1) 0 n2 s2 w1 h2 h3 c0 c1
  have A16 := nsec_any w.heap.size 0 n1 w1 h0 h1 a0
  have B16 := nsec_any (w.heap.size + 1) 0 n2 w1 h2 h3 c0
  have HW : Hid (w1 = (w.alloc (.cells #[.int .u64 n1, .int .i64 s1, .pointer none] 43)).alloc (.cells #[.int .u64 n2, .int .i64 s2, .pointer none] 43)) := hw1
  have HA20 : Hid (Calls Yba.prog 20 #[.pointer (some ⟨w.heap.size, 0, none⟩)] w1 fun e w' => e = .returned (.int .i64 s1) ∧ w1 = w') := A20
  have HB20 : Hid (Calls Yba.prog 20 #[.pointer (some ⟨w.heap.size + 1, 0, none⟩)] w1 fun e w' => e = .returned (.int .i64 s2) ∧ w1 = w') := B20
  have HA16 : Hid (Calls Yba.prog 16 #[.pointer (some ⟨w.heap.size, 0, none⟩)] w1 fun e w' => e = .returned (.int .i32 n1) ∧ w1 = w') := A16
  have HB16 : Hid (Calls Yba.prog 16 #[.pointer (some ⟨w.heap.size + 1, 0, none⟩)] w1 fun e w' => e = .returned (.int .i32 n2) ∧ w1 = w') := B16
  clear A20 B20 A16 B16 a0 a1 c0 c1 hw1
  go_enter Yba.func10, Yba.ntmps10
  go_wp2_with fail
  rw [← HW.out]
  refine HA20.out.mono ?_
  rintro e w' ⟨rfl, rfl⟩
  go_wp2_with fail
  refine HB20.out.mono ?_
  rintro e w' ⟨rfl, rfl⟩
  rcases Int.lt_trichotomy s1 s2 with hlt | heq | hgt
  · have d1 : decide (s1 < s2) = true := by simp [hlt]
    have hr : Hid (decide (s1 * 1000000000 + n1 < s2 * 1000000000 + n2) = true) := by show _ = _; simp; omega
    clear hlt
    go_wp2_with fail
    go_ret
    exact ⟨by rw [hr.out]; rfl, hbl⟩
  · subst heq
    have hr : Hid (decide (s1 * 1000000000 + n1 < s1 * 1000000000 + n2) = decide (n1 < n2)) := by show _ = _; congr 1; apply propext; omega
    have d1 : decide (s1 < s1) = false := by simp
    go_wp2_with fail
    refine HA16.out.mono ?_
    rintro e w' ⟨rfl, rfl⟩
    go_wp2_with fail
    refine HB16.out.mono ?_
    rintro e w' ⟨rfl, rfl⟩
    go_wp2_with fail
    go_ret
    exact ⟨by rw [hr.out]; rfl, hbl⟩
  · have d1 : decide (s1 < s2) = false := by simp; omega
    have d2 : (s1 == s2) = false := by simp; omega
    have hr : Hid (decide (s1 * 1000000000 + n1 < s2 * 1000000000 + n2) = false) := by show _ = _; simp; omega
    clear hgt
    go_wp2_with fail
    go_ret
    exact ⟨by rw [hr.out]; rfl, hbl⟩

theorem before_any (a b : Int) (w : World) : Calls Yba.prog 10 #[Tm a, Tm b] w fun e w' => e = .returned (.bool (decide (a < b))) ∧ Below w.heap.size w w' := by
  refine (before_raw (a % 1000000000) (a / 1000000000) (b % 1000000000) (b / 1000000000) w (by omega) (by omega) (by omega) (by omega)).mono ?_
  rintro e w' ⟨rfl, hb⟩
  refine ⟨?_, hb⟩
  have e1 : a / 1000000000 * 1000000000 + a % 1000000000 = a := by omega
  have e2 : b / 1000000000 * 1000000000 + b % 1000000000 = b := by omega
  rw [e1, e2]

set_option maxHeartbeats 800000 in
theorem equal_raw (n s : Int) (w : World) (h0 : 0 ≤ n) (h1 : n < 1000000000) :
    Calls Yba.prog 11 #[.agg #[.int .u64 n, .int .i64 s, .pointer none], .agg #[.int .u64 n, .int .i64 s, .pointer none]] w fun e w' => e = .returned (.bool true) ∧ Below w.heap.size w w' := by
  have hb2 := bits_two n n h0 h1 h0 h1
  obtain ⟨w1, hw1⟩ : ∃ w1, w1 = (w.alloc (.cells #[.int .u64 n, .int .i64 s, .pointer none] 43)).alloc (.cells #[.int .u64 n, .int .i64 s, .pointer none] 43) := ⟨_, rfl⟩
  have a0 : w1.cell? ⟨w.heap.size, 0, none⟩ = some (.int .u64 n) := by rw [hw1, World.cell?_alloc_past _ _ _ (by simp)]; simp
  have a1 : w1.cell? ⟨w.heap.size, 0 + 1, none⟩ = some (.int .i64 s) := by rw [hw1, World.cell?_alloc_past _ _ _ (by simp)]; simp
  have c0 : w1.cell? ⟨w.heap.size + 1, 0, none⟩ = some (.int .u64 n) := by rw [hw1, World.cell?_alloc_at _ _ _ _ (by simp)]; simp
  have c1 : w1.cell? ⟨w.heap.size + 1, 0 + 1, none⟩ = some (.int .i64 s) := by rw [hw1, World.cell?_alloc_at _ _ _ _ (by simp)]; simp
  have hbl : Below w.heap.size w w1 := by rw [hw1]; exact ((Below.refl _ _).alloc (Nat.le_refl _) _).alloc (by simp) _
  have HA20 : Hid (Calls Yba.prog 20 #[.pointer (some ⟨w.heap.size, 0, none⟩)] w1 fun e w' => e = .returned (.int .i64 s) ∧ w1 = w') := sec_any w.heap.size 0 n s w1 h0 h1 a0 a1
  have HB20 : Hid (Calls Yba.prog 20 #[.pointer (some ⟨w.heap.size + 1, 0, none⟩)] w1 fun e w' => e = .returned (.int .i64 s) ∧ w1 = w') := sec_any (w.heap.size + 1) 0 n s w1 h0 h1 c0 c1
  have HA16 : Hid (Calls Yba.prog 16 #[.pointer (some ⟨w.heap.size, 0, none⟩)] w1 fun e w' => e = .returned (.int .i32 n) ∧ w1 = w') := nsec_any w.heap.size 0 n w1 h0 h1 a0
  have HB16 : Hid (Calls Yba.prog 16 #[.pointer (some ⟨w.heap.size + 1, 0, none⟩)] w1 fun e w' => e = .returned (.int .i32 n) ∧ w1 = w') := nsec_any (w.heap.size + 1) 0 n w1 h0 h1 c0
  have HW : Hid (w1 = (w.alloc (.cells #[.int .u64 n, .int .i64 s, .pointer none] 43)).alloc (.cells #[.int .u64 n, .int .i64 s, .pointer none] 43)) := hw1
  clear a0 a1 c0 c1 hw1
  go_enter Yba.func11, Yba.ntmps11
  go_wp2_with fail
  rw [← HW.out]
  refine HA20.out.mono ?_
  rintro e w' ⟨rfl, rfl⟩
  go_wp2_with fail
  refine HB20.out.mono ?_
  rintro e w' ⟨rfl, rfl⟩
  go_wp2_with fail
  refine HA16.out.mono ?_
  rintro e w' ⟨rfl, rfl⟩
  go_wp2_with fail
  refine HB16.out.mono ?_
  rintro e w' ⟨rfl, rfl⟩
  go_wp2_with fail
  go_ret
  exact ⟨rfl, hbl⟩

theorem equal_any (a b : Int) (h : a = b) (w : World) : Calls Yba.prog 11 #[Tm a, Tm b] w fun e w' => e = .returned (.bool true) ∧ Below w.heap.size w w' := by
  subst h
  exact equal_raw (a % 1000000000) (a / 1000000000) w (by omega) (by omega)
end Go.Proofs.Ybulkauss
