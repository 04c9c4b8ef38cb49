/-
  The walks of zzs2311bkeyword and newestRevision.
-/
import Derived.Test.YbulkauvkRows
import Derived.Test.YbulkauvkKit
import Derived.Test.YbulkauvkPlain
namespace Go.Proofs.Ybulkauvk
open Go.RowKit Go.Deep

def revBytes : List UInt8 := [114, 101, 118, 105, 115, 105, 111, 110]
/-- is the keyword of kind k 'revision'? -/
def isRev (k : Int) : Bool := decide (k % 4 = 0)
def kwOf (k : Int) : ByteArray := if k % 4 = 0 then ⟨#[114, 101, 118, 105, 115, 105, 111, 110]⟩ else if k % 4 = 1 then ⟨#[82, 101, 118, 105, 115, 105, 111, 110]⟩ else if k % 4 = 2 then ⟨#[114, 101, 118, 105, 115, 105, 111, 110, 45, 100, 97, 116, 101]⟩ else ⟨#[105, 109, 112, 111, 114, 116]⟩

set_option maxHeartbeats 400000 in
theorem keyword_any (k : Int) (h0 : 0 ≤ k) (h1 : k ≤ 255) (w : World) :
    Calls Yba.prog 7 #[.int .u8 k] w fun e w' => e = .returned (.string (kwOf k)) ∧ w = w' := by
  by_cases c0 : k % 4 = 0
  · have e : kwOf k = ⟨#[114, 101, 118, 105, 115, 105, 111, 110]⟩ := by simp [kwOf, c0]
    rw [e]
    clear e
    have d0 : (k % 4 == 0) = true := by simp [c0]
    clear c0
    go_enter Yba.func7, Yba.ntmps7
    go_wp2
    go_ret
    exact ⟨rfl, rfl⟩
  by_cases c1 : k % 4 = 1
  · have e : kwOf k = ⟨#[82, 101, 118, 105, 115, 105, 111, 110]⟩ := by simp [kwOf, c1]
    rw [e]
    clear e
    have d0 : (k % 4 == 0) = false := by simp [c0]
    have d1 : (k % 4 == 1) = true := by simp [c1]
    clear c0 c1
    go_enter Yba.func7, Yba.ntmps7
    go_wp2
    go_ret
    exact ⟨rfl, rfl⟩
  by_cases c2 : k % 4 = 2
  · have e : kwOf k = ⟨#[114, 101, 118, 105, 115, 105, 111, 110, 45, 100, 97, 116, 101]⟩ := by simp [kwOf, c2]
    rw [e]
    clear e
    have d0 : (k % 4 == 0) = false := by simp [c0]
    have d1 : (k % 4 == 1) = false := by simp [c1]
    have d2 : (k % 4 == 2) = true := by simp [c2]
    clear c0 c1 c2
    go_enter Yba.func7, Yba.ntmps7
    go_wp2
    go_ret
    exact ⟨rfl, rfl⟩
  · have e : kwOf k = ⟨#[105, 109, 112, 111, 114, 116]⟩ := by simp [kwOf, c0, c1, c2]
    rw [e]
    clear e
    have d0 : (k % 4 == 0) = false := by simp [c0]
    have d1 : (k % 4 == 1) = false := by simp [c1]
    have d2 : (k % 4 == 2) = false := by simp [c2]
    clear c0 c1 c2
    go_enter Yba.func7, Yba.ntmps7
    go_wp2
    go_ret
    exact ⟨rfl, rfl⟩

theorem rev_iff (k : Int) : ((kwOf k).toList == revBytes) = isRev k := by
  unfold isRev kwOf
  by_cases c0 : k % 4 = 0
  · simp only [c0, if_true]; decide +kernel
  · rw [if_neg c0]
    by_cases c1 : k % 4 = 1
    · simp only [c1, if_true]; decide +kernel
    · rw [if_neg c1]
      by_cases c2 : k % 4 = 2
      · simp only [c2, if_true]; decide +kernel
      · rw [if_neg c2, decide_eq_false c0]; decide +kernel

/-- the statements that the list of pointers leads to -/
def Stmts (w : World) (g n : Nat) (K : Nat → Int) (S : Nat → ByteArray) : Prop :=
  ∀ j, j < n → ∃ D, w.cell? ⟨g, j, none⟩ = some (.pointer (some ⟨D, 0, none⟩)) ∧ w.cell? ⟨D, 0, none⟩ = some (.string (kwOf (K j))) ∧ w.cell? ⟨D, 1, none⟩ = some (.string (S j))

set_option maxHeartbeats 400000 in
theorem newest_any (T g n cap : Nat) (ao : Option Addr) (K : Nat → Int) (S : Nat → ByteArray) (w : World) (hn : n ≤ 1024) (hT : w.cell? ⟨T, 3, none⟩ = some (.slice ao n cap)) (ha : 0 < n → ao = some ⟨g, 0, none⟩) (hs : Stmts w g n K S) :
    Calls Yba.prog 6 #[.pointer (some ⟨T, 0, none⟩)] w fun e w' => e = .returned (.string (nw (fun j => isRev (K j)) S n)) ∧ w = w' := by
  go_enter Yba.func6, Yba.ntmps6
  go_wp2
  go_loop [3, 11] (fun r t => ∃ k : Nat, k ≤ n ∧ t = .int .i64 k ∧ r = .string (nw (fun j => isRev (K j)) S k)) (fun _ t => n - (intOf t).toNat)
  case atStart => exact ⟨0, Nat.zero_le _, rfl, rfl⟩
  case round =>
    obtain ⟨k, hk, rfl, rfl⟩ := hrel
    by_cases hlt : k < n
    · obtain ⟨D, c1, c2, c3⟩ := hs k hlt
      obtain rfl := ha (by omega)
      obtain ⟨kw, hkw⟩ : ∃ kw, kw = kwOf (K k) := ⟨_, rfl⟩
      obtain ⟨nk, hnk⟩ : ∃ nk, nk = nw (fun j => isRev (K j)) S k := ⟨_, rfl⟩
      rw [← hkw] at c2
      rw [← hnk]
      have hr := rev_iff (K k)
      rw [← hkw] at hr
      unfold revBytes at hr
      have hstep : nw (fun j => isRev (K j)) S (k + 1) = if (isRev (K k) && gt (S k) nk) = true then S k else nk := by rw [hnk]; rfl
      have HS : Hid (nw (fun j => isRev (K j)) S (k + 1) = if (isRev (K k) && gt (S k) nk) = true then S k else nk) := hstep
      clear hstep hnk hkw
      by_cases cr : isRev (K k) = true
      · rw [cr] at hr
        by_cases cg : gt (S k) nk = true
        · have cg' : (Op.bytesLess (S k).toList nk.toList || (S k).toList == nk.toList) = false := by simpa [gt] using cg
          have hfin : nw (fun j => isRev (K j)) S (k + 1) = S k := by rw [HS.out, if_pos (by rw [cr, cg]; rfl)]
          have HF : Hid (nw (fun j => isRev (K j)) S (k + 1) = S k) := hfin
          clear hfin cr cg
          go_wp2
          go_round
          case rel => exact ⟨k + 1, by omega, by go_num, by rw [HF.out]⟩
          case measure => simp [intOf]; omega
        · have cg' : (Op.bytesLess (S k).toList nk.toList || (S k).toList == nk.toList) = true := by
            cases hX : (Op.bytesLess (S k).toList nk.toList || (S k).toList == nk.toList) with
            | true => rfl
            | false => exact absurd (by unfold gt; rw [hX]; rfl) cg
          have hfin : nw (fun j => isRev (K j)) S (k + 1) = nk := by rw [HS.out, if_neg (by simp [cg])]
          have HF : Hid (nw (fun j => isRev (K j)) S (k + 1) = nk) := hfin
          clear hfin cr cg
          go_wp2
          go_round
          case rel => exact ⟨k + 1, by omega, by go_num, by rw [HF.out]⟩
          case measure => simp [intOf]; omega
      · have cr' : isRev (K k) = false := by simpa using cr
        rw [cr'] at hr
        have hfin : nw (fun j => isRev (K j)) S (k + 1) = nk := by rw [HS.out, if_neg (by simp [cr'])]
        have HF : Hid (nw (fun j => isRev (K j)) S (k + 1) = nk) := hfin
        clear hfin cr cr'
        go_wp2
        go_round
        case rel => exact ⟨k + 1, by omega, by go_num, by rw [HF.out]⟩
        case measure => simp [intOf]; omega
    · obtain rfl : n = k := by omega
      go_wp2
      go_ret
      exact ⟨rfl, rfl⟩
end Go.Proofs.Ybulkauvk
