/-
  The plain laws: the newest revision among a list of keywords and arguments; the order of byte strings.
-/
import GoSem.Op.String
namespace Go.Proofs.Ybulkauvk

theorem less_irrefl : ∀ a : List UInt8, Op.bytesLess a a = false
  | [] => rfl
  | x :: a => by simp [Op.bytesLess, less_irrefl a]

theorem less_trans : ∀ a b c : List UInt8, Op.bytesLess a b = true → Op.bytesLess b c = true → Op.bytesLess a c = true
  | _, [], _, h, _ => by simp [Op.bytesLess] at h
  | _, _ :: _, [], _, h => by simp [Op.bytesLess] at h
  | [], _ :: _, _ :: _, _, _ => rfl
  | x :: a, y :: b, z :: c, h1, h2 => by
    simp only [Op.bytesLess, Bool.or_eq_true, decide_eq_true_eq, Bool.and_eq_true, beq_iff_eq] at h1 h2 ⊢
    rcases h1 with h1 | ⟨rfl, h1⟩
    · rcases h2 with h2 | ⟨rfl, h2⟩
      · exact .inl (by rw [UInt8.lt_iff_toNat_lt] at *; omega)
      · exact .inl h1
    · rcases h2 with h2 | ⟨rfl, h2⟩
      · exact .inl h2
      · exact .inr ⟨rfl, less_trans a b c h1 h2⟩

theorem less_total : ∀ a b : List UInt8, Op.bytesLess a b = true ∨ a = b ∨ Op.bytesLess b a = true
  | [], [] => .inr (.inl rfl)
  | [], _ :: _ => .inl rfl
  | _ :: _, [] => .inr (.inr rfl)
  | x :: a, y :: b => by
    simp only [Op.bytesLess, Bool.or_eq_true, decide_eq_true_eq, Bool.and_eq_true, beq_iff_eq, List.cons.injEq]
    by_cases h1 : x < y
    · exact .inl (.inl h1)
    by_cases h2 : y < x
    · exact .inr (.inr (.inl h2))
    have e : x = y := by
      apply UInt8.toNat_inj.1
      rw [UInt8.lt_iff_toNat_lt] at h1 h2
      omega
    subst e
    rcases less_total a b with h | h | h
    · exact .inl (.inr ⟨rfl, h⟩)
    · exact .inr (.inl ⟨rfl, h⟩)
    · exact .inr (.inr (.inr ⟨rfl, h⟩))

/-- Go's a > b -/
def gt (a b : ByteArray) : Bool := !(Op.bytesLess a.toList b.toList || a.toList == b.toList)

/-- the newest of the first k: 'rv j': statement j is a revision; 'S j': its argument -/
def nw (rv : Nat → Bool) (S : Nat → ByteArray) : Nat → ByteArray
  | 0 => ⟨#[]⟩
  | k + 1 => if (rv k && gt (S k) (nw rv S k)) = true then S k else nw rv S k

theorem gt_false_of_le {a b : ByteArray} (h : Op.bytesLess a.toList b.toList = true ∨ a.toList = b.toList) : gt a b = false := by
  unfold gt
  rcases h with h | h <;> simp [h]

theorem nw_ge (rv : Nat → Bool) (S : Nat → ByteArray) : ∀ k j, j < k → rv j = true → Op.bytesLess (S j).toList (nw rv S k).toList = true ∨ (S j).toList = (nw rv S k).toList
  | 0, j, h, _ => by omega
  | k + 1, j, hj, hr => by
    simp only [nw]
    by_cases hc : (rv k && gt (S k) (nw rv S k)) = true
    · rw [if_pos hc]
      by_cases e : j = k
      · subst e; exact .inr rfl
      · have ih := nw_ge rv S k j (by omega) hr
        have hg : gt (S k) (nw rv S k) = true := by simp only [Bool.and_eq_true] at hc; exact hc.2
        have hlt : Op.bytesLess (nw rv S k).toList (S k).toList = true := by
          unfold gt at hg
          simp only [Bool.not_eq_true', Bool.or_eq_false_iff, beq_eq_false_iff_ne] at hg
          rcases less_total (S k).toList (nw rv S k).toList with h | h | h
          · rw [h] at hg; simp at hg
          · exact absurd h hg.2
          · exact h
        rcases ih with ih | ih
        · exact .inl (less_trans _ _ _ ih hlt)
        · rw [ih]; exact .inl hlt
    · rw [if_neg hc]
      by_cases e : j = k
      · subst e
        rw [hr, Bool.true_and] at hc
        unfold gt at hc
        simp only [Bool.not_eq_true', Bool.or_eq_false_iff, not_and, beq_eq_false_iff_ne] at hc
        by_cases hl : Op.bytesLess (S j).toList (nw rv S j).toList = true
        · exact .inl hl
        · exact .inr (by simpa using hc (by simpa using hl))
      · exact nw_ge rv S k j (by omega) hr

theorem nw_le (rv : Nat → Bool) (S : Nat → ByteArray) (k j : Nat) (hj : j < k) (hr : rv j = true) : gt (S j) (nw rv S k) = false := gt_false_of_le (nw_ge rv S k j hj hr)

/-- it is empty, or one of the revisions' arguments -/
theorem nw_mem (rv : Nat → Bool) (S : Nat → ByteArray) : ∀ k, nw rv S k = ⟨#[]⟩ ∨ ∃ j, j < k ∧ rv j = true ∧ S j = nw rv S k
  | 0 => .inl rfl
  | k + 1 => by
    simp only [nw]
    by_cases hc : (rv k && gt (S k) (nw rv S k)) = true
    · rw [if_pos hc]; simp only [Bool.and_eq_true] at hc; exact .inr ⟨k, by omega, hc.1, rfl⟩
    · rw [if_neg hc]
      rcases nw_mem rv S k with h | ⟨j, h1, h2, h3⟩
      · exact .inl h
      · exact .inr ⟨j, by omega, h2, h3⟩

/-- what the law's loop has found behind k rounds -/
def fnd (rv : Nat → Bool) (S : Nat → ByteArray) (got : ByteArray) : Nat → Bool
  | 0 => got.toList.isEmpty
  | k + 1 => fnd rv S got k || (rv k && (S k).toList == got.toList)

theorem fnd_of (rv : Nat → Bool) (S : Nat → ByteArray) (got : ByteArray) : ∀ k j, j < k → rv j = true → S j = got → fnd rv S got k = true
  | 0, _, h, _, _ => by omega
  | k + 1, j, hj, hr, hs => by
    simp only [fnd, Bool.or_eq_true]
    by_cases e : j = k
    · subst e; subst hs; right; simp [hr]
    · exact .inl (fnd_of rv S got k j (by omega) hr hs)
theorem fnd_empty (rv : Nat → Bool) (S : Nat → ByteArray) (got : ByteArray) (h : got.toList.isEmpty = true) : ∀ k, fnd rv S got k = true
  | 0 => h
  | k + 1 => by simp [fnd, fnd_empty rv S got h k]

theorem fnd_all (rv : Nat → Bool) (S : Nat → ByteArray) (k : Nat) : fnd rv S (nw rv S k) k = true := by
  rcases nw_mem rv S k with h | ⟨j, h1, h2, h3⟩
  · exact fnd_empty rv S _ (by rw [h]; unfold ByteArray.toList ByteArray.toList.loop; simp [ByteArray.size]) k
  · exact fnd_of rv S _ k j h1 h2 h3
end Go.Proofs.Ybulkauvk
