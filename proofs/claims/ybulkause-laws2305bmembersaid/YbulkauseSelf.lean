/-
  The walks of State.self and zzs2305bbuild.
-/
import Derived.Test.YbulkauseView
import Derived.Deep.AppendLies
namespace Go.Proofs.Ybulkause
open Go.RowKit Go.Deep

set_option maxHeartbeats 800000 in
theorem self_any (S : Nat) (id idx sq : Int) (w : World) (h0 : w.cell? ⟨S, 0, none⟩ = some (.int .i64 id)) (h16 : w.cell? ⟨S, 16, none⟩ = some (.int .i64 idx)) (h17 : w.cell? ⟨S, 17, none⟩ = some (.int .u64 sq)) (_hS : S < w.heap.size) :
    Calls Yba.prog 19 #[.pointer (some ⟨S, 0, none⟩)] w fun e w' => e = .returned (.agg #[.int .i64 id, .int .i64 idx, .int .u64 sq]) ∧ Below w.heap.size w w' := by
  go_enter Yba.func19, Yba.ntmps19
  go_upto_region 1 with fail
  go_region_held3 (fun w' => w'.cell? ⟨S, 0, none⟩ = some (.int .i64 id) ∧ w'.cell? ⟨S, 16, none⟩ = some (.int .i64 idx) ∧ w'.cell? ⟨S, 17, none⟩ = some (.int .u64 sq)) (go_keep) (fail)
  go_wp2_with fail
  exact bodyPost_ret (v := .agg #[.int .i64 id, .int .i64 idx, .int .u64 sq]) (by simp [results, Yba.results19, go_sem]) rfl ⟨rfl, below_to_drawn ((Below.refl _ _).alloc (Nat.le_refl _) _) ⟨rfl, rfl, rfl, rfl⟩⟩

/-- the entry k of the arguments, in cells -/
def EAt (w : World) (g o : Nat) (G I S : Int) : Prop :=
  w.cell? ⟨g, o, none⟩ = some (.int .u8 G) ∧ w.cell? ⟨g, o + 1, none⟩ = some (.int .i64 I) ∧ w.cell? ⟨g, o + 2, none⟩ = some (.int .u64 S)
def ERow (w : World) (ao : Option Addr) (n : Nat) (G I S : Nat → Int) : Prop :=
  0 < n → ∃ g o, ao = some ⟨g, o, none⟩ ∧ g < w.heap.size ∧ ∀ j, j < n → EAt w g (o + j * 3) (G j) (I j) (S j)

def idAt (st : Int) (G : Nat → Int) : Nat → Int
  | 0 => st
  | k + 1 => idAt st G k + (G (k + 1) + 1)
def idB (st : Int) (G : Nat → Int) : Nat → Int
  | 0 => st
  | k + 1 => idAt st G k
theorem idAt_bound {st : Int} {G : Nat → Int} (hG : ∀ j, 0 ≤ G j ∧ G j ≤ 255) (h0 : -128 ≤ st ∧ st ≤ 127) : ∀ k, -128 ≤ idAt st G k ∧ idAt st G k ≤ 127 + 256 * k
  | 0 => by simp only [idAt]; omega
  | k + 1 => by have := idAt_bound hG h0 k; have := hG (k + 1); simp only [idAt]; omega
theorem idB_bound {st : Int} {G : Nat → Int} (hG : ∀ j, 0 ≤ G j ∧ G j ≤ 255) (h0 : -128 ≤ st ∧ st ≤ 127) : ∀ k, -128 ≤ idB st G k ∧ idB st G k ≤ 127 + 256 * k
  | 0 => by simp only [idB]; omega
  | k + 1 => by have := idAt_bound hG h0 k; simp only [idB]; omega

/-- the members that are built, and their cells -/
def mbs (st : Int) (G I S : Nat → Int) (n : Nat) : List Mb := (List.range n).map fun k => ⟨idAt st G k, I k, S k⟩
def mcells (ms : List Mb) : List Value := ms.flatMap fun m => [.int .i64 m.id, .int .i64 m.idx, .int .u64 m.seq]
theorem mcells_snoc (ms : List Mb) (m : Mb) : mcells (ms ++ [m]) = mcells ms ++ [.int .i64 m.id, .int .i64 m.idx, .int .u64 m.seq] := by simp [mcells]
theorem mbs_succ (st : Int) (G I S : Nat → Int) (n : Nat) : mbs st G I S (n + 1) = mbs st G I S n ++ [⟨idAt st G n, I n, S n⟩] := by simp [mbs, List.range_succ]

theorem info106 : (Yba.prog.info? 106).bind (fun i => i.zero.map fun z => (i.size, i.bytes, z.cells.size)) = some (3, 24, 3) := by kernel_rfl
theorem info106' : ∃ i z, Yba.prog.info? 106 = some i ∧ i.zero = some z ∧ i.size = 3 ∧ i.bytes = 24 ∧ z.cells.size = 3 := by
  have h := info106
  cases hi : Yba.prog.info? 106 with
  | none => rw [hi] at h; simp at h
  | some i =>
    cases hz : i.zero with
    | none => rw [hi] at h; simp [hz] at h
    | some z => rw [hi] at h; simp [hz] at h; exact ⟨i, z, rfl, hz, h.1, h.2.1, h.2.2⟩

/-- a row of one's own stands where its block stands -/
theorem owns_kept {w w' : World} {B : Nat} {e : TypeId} {sz n : Nat} {v : Value} {xs : List Value} (h : w.ownsRow B e sz v n xs) (hk : ∀ g, g < w.heap.size → w'.heap[g]? = w.heap[g]?) : w'.ownsRow B e sz v n xs := by
  obtain ⟨hl, h | ⟨g, cap, cur, hv, hb, hg, h2⟩⟩ := h
  · exact ⟨hl, .inl h⟩
  · exact ⟨hl, .inr ⟨g, cap, cur, hv, hb, (hk g (Array.getElem?_eq_some_iff.1 hg).1).trans hg, h2⟩⟩
end Go.Proofs.Ybulkause
