/-
  The plain laws: rows of one's own read xs members, ids that increase, the merge of one entry, the filter.
-/
import Derived.Test.YbulkauseCell
namespace Go.Proofs.Ybulkause
open Go.RowKit Go.Deep

theorem mcells_get : ∀ (ms : List Mb) (j : Nat) (m : Mb), ms[j]? = some m → (mcells ms)[j * 3]? = some (.int .i64 m.id) ∧ (mcells ms)[j * 3 + 1]? = some (.int .i64 m.idx) ∧ (mcells ms)[j * 3 + 2]? = some (.int .u64 m.seq)
  | [], _, _, h => by simp at h
  | x :: xs, 0, m, h => by
    simp at h
    subst h
    exact ⟨rfl, rfl, rfl⟩
  | x :: xs, j + 1, m, h => by
    have ih := mcells_get xs j m (by simpa using h)
    have e : mcells (x :: xs) = .int .i64 x.id :: .int .i64 x.idx :: .int .u64 x.seq :: mcells xs := rfl
    rw [e]
    rw [show (j + 1) * 3 = j * 3 + 3 by omega]
    exact ⟨by simpa using ih.1, by simpa [Nat.add_assoc] using ih.2.1, by simpa [Nat.add_assoc] using ih.2.2⟩
theorem mcells_len (ms : List Mb) : (mcells ms).length = ms.length * 3 := by
  induction ms with
  | nil => rfl
  | cons x xs ih => simp [mcells] at ih ⊢; omega

theorem mrow_of_owns {w : World} {B : Nat} {v : Value} {n : Nat} {ms : List Mb} (h : w.ownsRow B 106 3 v n (mcells ms)) : ∃ ao cap, v = .slice ao n cap ∧ n = ms.length ∧ n ≤ cap ∧ MRow w ao ms ∧ ∀ g o, ao = some ⟨g, o, none⟩ → B ≤ g ∧ g < w.heap.size := by
  obtain ⟨hl, h⟩ := h
  have hn : n = ms.length := by rw [mcells_len] at hl; omega
  obtain ⟨rfl, rfl⟩ | ⟨g, cap, cur, rfl, hb, hg, hc, _, hs, ht⟩ := h
  · exact ⟨none, 0, rfl, hn, Nat.le_refl _, fun h => by omega, fun g o e => by cases e⟩
  · have hlt := (Array.getElem?_eq_some_iff.1 hg).1
    refine ⟨_, cap, rfl, hn, hc, fun _ => ⟨g, 0, rfl, hlt, fun j m hj => ?_⟩, fun g' o' e => ?_⟩
    · have hj2 := (List.getElem?_eq_some_iff.1 hj).1
      have hh := mcells_get ms j m hj
      rw [← ht] at hh
      have key : ∀ i v, (cur.toList.take (n * 3))[i]? = some v → w.cell? ⟨g, i, none⟩ = some v := fun i v hi => by
        rw [List.getElem?_take] at hi
        split at hi
        · simp only [World.cell?, hg]; simpa using hi
        · cases hi
      rw [Nat.zero_add]
      exact ⟨key _ _ hh.1, key _ _ hh.2.1, key _ _ hh.2.2⟩
    · injection e with e
      injection e with e1 e2
      subst e1
      exact ⟨hb, hlt⟩

theorem MRow.drop {w : World} {g o : Nat} {m : Mb} {ms : List Mb} (h : MRow w (some ⟨g, o, none⟩) (m :: ms)) : MRow w (some ⟨g, o + 3, none⟩) ms := by
  intro hl
  obtain ⟨g', o', e, hg, hm⟩ := h (by simp)
  injection e with e
  injection e with e1 e2
  subst e1 e2
  refine ⟨g, o + 3, rfl, hg, fun j m hj => ?_⟩
  have := hm (j + 1) m (by simpa using hj)
  rw [show o + 3 + j * 3 = o + (j + 1) * 3 by omega]
  exact this

theorem idAt_lt {st : Int} {G : Nat → Int} (hG : ∀ j, 0 ≤ G j ∧ G j ≤ 255) : ∀ (d i : Nat), idAt st G i < idAt st G (i + (d + 1))
  | 0, i => by have := hG (i + 1); simp only [idAt]; omega
  | d + 1, i => by
    have := idAt_lt (st := st) hG d i
    have := hG (i + (d + 1) + 1)
    rw [show i + (d + 1 + 1) = i + (d + 1) + 1 by omega]
    show _ < idAt st G (i + (d + 1)) + (G (i + (d + 1) + 1) + 1)
    omega
theorem mbs_len (st : Int) (G I S : Nat → Int) (n : Nat) : (mbs st G I S n).length = n := by simp [mbs]
theorem inc_mbs {st : Int} {G I S : Nat → Int} {n : Nat} (hG : ∀ j, 0 ≤ G j ∧ G j ≤ 255) : Inc (mbs st G I S n) := by
  intro i j x y hij hx hy
  simp only [mbs, List.getElem?_map, Option.map_eq_some_iff, List.getElem?_eq_some_iff, List.length_range, List.getElem_range] at hx hy
  obtain ⟨_, ⟨_, rfl⟩, rfl⟩ := hx
  obtain ⟨_, ⟨_, rfl⟩, rfl⟩ := hy
  obtain ⟨d, rfl⟩ : ∃ d, j = i + (d + 1) := ⟨j - i - 1, by omega⟩
  exact idAt_lt hG d i

/-- the merge of one entry into a list in increasing id -/
def put1 (s : Mb) : List Mb → List Mb
  | [] => [s]
  | a :: xs => if a.id < s.id then a :: put1 s xs else if s.id < a.id then s :: a :: xs else (if s.seq ≤ a.seq then a else s) :: xs
/-- what is left to be laid, done or not -/
def left1 (s : Mb) (b : Bool) (xs : List Mb) : List Mb := if b then xs else put1 s xs
theorem put1_len (s : Mb) : ∀ xs : List Mb, (put1 s xs).length ≤ xs.length + 1
  | [] => by simp [put1]
  | a :: xs => by
    unfold put1
    split
    · have := put1_len s xs; simp; omega
    · split <;> simp
theorem put1_lt {s a : Mb} {xs : List Mb} (h : a.id < s.id) : put1 s (a :: xs) = a :: put1 s xs := by simp [put1, h]
theorem put1_gt {s a : Mb} {xs : List Mb} (h : s.id < a.id) : put1 s (a :: xs) = s :: a :: xs := by
  unfold put1
  rw [if_neg (by omega), if_pos h]
theorem put1_eq_a {s a : Mb} {xs : List Mb} (h : s.id = a.id) (hs : s.seq ≤ a.seq) : put1 s (a :: xs) = a :: xs := by
  unfold put1
  rw [if_neg (by omega), if_neg (by omega), if_pos hs]
theorem put1_eq_s {s a : Mb} {xs : List Mb} (h : s.id = a.id) (hs : ¬ s.seq ≤ a.seq) : put1 s (a :: xs) = s :: xs := by
  unfold put1
  rw [if_neg (by omega), if_neg (by omega), if_neg hs]
theorem drop_cons {ms : List Mb} {k : Nat} {m : Mb} (h : ms[k]? = some m) : ms.drop k = m :: ms.drop (k + 1) := by
  obtain ⟨hl, rfl⟩ := List.getElem?_eq_some_iff.1 h
  exact List.drop_eq_getElem_cons hl

/-- the law's list, kept -/
def kept (ls ms : List Mb) : List Mb := ms.filter fun m => !goneB ls m
theorem kept_len (ls ms : List Mb) : (kept ls ms).length ≤ ms.length := List.length_filter_le _ _
theorem kept_snoc_in {ls ms : List Mb} {m : Mb} {k : Nat} (h : ms[k]? = some m) (hg : goneB ls m = false) : kept ls (ms.take (k + 1)) = kept ls (ms.take k) ++ [m] := by
  unfold kept
  rw [List.take_add_one, h, List.filter_append]
  simp [hg]
theorem kept_snoc_out {ls ms : List Mb} {m : Mb} {k : Nat} (h : ms[k]? = some m) (hg : goneB ls m = true) : kept ls (ms.take (k + 1)) = kept ls (ms.take k) := by
  unfold kept
  rw [List.take_add_one, h, List.filter_append]
  simp [hg]
theorem sameB_refl : ∀ xs : List Mb, sameB xs xs = true
  | [] => rfl
  | x :: xs => by simp [sameB, eqM, sameB_refl xs]
end Go.Proofs.Ybulkause
