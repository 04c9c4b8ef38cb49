/-
  A Table, its two maps over one list of pairs; the plain step of Add.
-/
import Derived.Test.YbulkauvkFmtErr
namespace Go.Proofs.YbulkauvkFmt
open Go.RowKit Go.WideShapes
open Go.Maps (Keyed)

/-- a key and its number -/
structure Pr where
  ns : ByteArray
  id : ByteArray
  sid : Int

def Pr.fit (p : Pr) : Prop := p.ns.size ≤ 100 ∧ p.id.size ≤ 100 ∧ 0 ≤ p.sid ∧ p.sid ≤ 255
def sidsL (md : List Pr) : List (Value × Value) := md.map fun p => (kv p.ns p.id, .int .u64 p.sid)
def itemsL (md : List Pr) : List (Value × Value) := md.map fun p => (.int .u64 p.sid, kv p.ns p.id)
theorem sidsL_snoc (md : List Pr) (q : Pr) : sidsL (md ++ [q]) = sidsL md ++ [(kv q.ns q.id, .int .u64 q.sid)] := by simp [sidsL]
theorem itemsL_snoc (md : List Pr) (q : Pr) : itemsL (md ++ [q]) = itemsL md ++ [(.int .u64 q.sid, kv q.ns q.id)] := by simp [itemsL]
theorem sidsL_len (md : List Pr) : (sidsL md).length = md.length := by simp [sidsL]
theorem itemsL_len (md : List Pr) : (itemsL md).length = md.length := by simp [itemsL]

def sameK (p q : Pr) : Bool := decide (p.ns = q.ns) && decide (p.id = q.id)
def badB (md : List Pr) (q : Pr) : Bool := md.any fun p => (sameK p q && !(p.sid == q.sid)) || (p.sid == q.sid && !(sameK p q))
def dupB (md : List Pr) (q : Pr) : Bool := md.any fun p => sameK p q && p.sid == q.sid
def stepL (md : List Pr) (q : Pr) : List Pr := if dupB md q then md else md ++ [q]
/-- Add's plain run: is there an error, and what stands then -/
def addL : List Pr → List Pr → Bool × List Pr
  | md, [] => (false, md)
  | md, q :: qs => if badB md q then (true, md) else addL (stepL md q) qs

theorem wf_small {n : Int} (h0 : 0 ≤ n) (h1 : n ≤ 255) : (Lit.int .u64 n).wf = true := by
  simp [Lit.wf, IntKind.min, IntKind.max, IntKind.signed, IntKind.bits]
  omega
theorem le_maxLen {n : Nat} (h : n ≤ 100) : n ≤ maxLen := by unfold maxLen; omega
theorem sameK_iff {p q : Pr} : sameK p q = true ↔ kv p.ns p.id = kv q.ns q.id := by
  unfold sameK
  simp only [Bool.and_eq_true, decide_eq_true_eq]
  exact ⟨fun h => by rw [h.1, h.2], fun h => kv_inj h⟩

/-- the two maps stand over md -/
structure Maps2 (w : World) (m1 m2 n : Nat) (md : List Pr) : Prop where
  s : MapIs 48 (plainElem Ybaf.prog 41) w m1 n (sidsL md)
  i : MapIs 41 keyElem w m2 n (itemsL md)
  ne : m1 ≠ m2
  fit : ∀ p ∈ md, p.fit

theorem MapIs.func {k : TypeId} {R : Value → Option (DataW Unit × List MemPlace)} {w : World} {b n : Nat} {l : List (Value × Value)} (h : MapIs k R w b n l) (hR : RInj R) {key v1 v2 : Value} (h1 : (key, v1) ∈ l) (h2 : (key, v2) ∈ l) : v1 = v2 := by
  obtain ⟨D, _, _, g, _⟩ := h
  obtain ⟨kl, d, ps, e1, e2, _, e4⟩ := g _ h1
  obtain ⟨kl', d', ps', f1, f2, _, f4⟩ := g _ h2
  have hk : kl = kl' := Option.some.inj (e1.symm.trans f1)
  subst hk
  have hd : d = d' := (e4 (.map [])).symm.trans (f4 (.map []))
  subst hd
  exact hR _ _ _ _ _ e2 f2

section
variable {w : World} {m1 m2 n : Nat} {md : List Pr}
theorem Maps2.of_block {w' : World} (h : Maps2 w m1 m2 n md) (e1 : w'.heap[m1]? = w.heap[m1]?) (e2 : w'.heap[m2]? = w.heap[m2]?) : Maps2 w' m1 m2 n md := ⟨h.s.of_block e1, h.i.of_block e2, h.ne, h.fit⟩

theorem mem_sids {p : Pr} (h : p ∈ md) : (kv p.ns p.id, Value.int .u64 p.sid) ∈ sidsL md := List.mem_map.2 ⟨p, h, rfl⟩
theorem mem_items {p : Pr} (h : p ∈ md) : (Value.int .u64 p.sid, kv p.ns p.id) ∈ itemsL md := List.mem_map.2 ⟨p, h, rfl⟩

/-- the four ways of one item -/
theorem Maps2.ways (h : Maps2 w m1 m2 n md) (q : Pr) :
    (q ∈ md ∧ badB md q = false ∧ dupB md q = true) ∨ (∃ p ∈ md, kv p.ns p.id = kv q.ns q.id ∧ p.sid ≠ q.sid ∧ badB md q = true) ∨
    ((∀ p ∈ md, kv p.ns p.id ≠ kv q.ns q.id) ∧ ∃ p ∈ md, p.sid = q.sid ∧ kv p.ns p.id ≠ kv q.ns q.id ∧ badB md q = true) ∨
    ((∀ p ∈ md, kv p.ns p.id ≠ kv q.ns q.id) ∧ (∀ p ∈ md, p.sid ≠ q.sid) ∧ badB md q = false ∧ dupB md q = false) := by
  by_cases hk : ∃ p ∈ md, kv p.ns p.id = kv q.ns q.id
  · obtain ⟨p, hp, hkp⟩ := hk
    by_cases hs : p.sid = q.sid
    · left
      have hpq : p = q := by
        obtain ⟨a, b, c⟩ := p
        obtain ⟨a', b', c'⟩ := q
        obtain ⟨rfl, rfl⟩ := kv_inj hkp
        simp at hs
        subst hs
        rfl
      subst hpq
      refine ⟨hp, ?_, List.any_eq_true.2 ⟨p, hp, by simp [sameK]⟩⟩
      refine Bool.eq_false_iff.2 fun hb => ?_
      obtain ⟨p', hp', hc⟩ := List.any_eq_true.1 hb
      simp only [Bool.or_eq_true, Bool.and_eq_true, Bool.not_eq_true', beq_iff_eq] at hc
      rcases hc with ⟨h1, h2⟩ | ⟨h1, h2⟩
      · have e1 := sameK_iff.1 h1
        have := h.s.func int_inj (mem_sids hp) (by rw [← e1]; exact mem_sids hp')
        injection this with _ this
        simp [this] at h2
      · have := h.i.func keyElem_inj (mem_items hp) (by rw [← h1]; exact mem_items hp')
        rw [sameK_iff.2 this.symm] at h2
        cases h2
    · right; left
      exact ⟨p, hp, hkp, hs, List.any_eq_true.2 ⟨p, hp, by simp [sameK_iff.2 hkp, hs]⟩⟩
  · have hk' : ∀ p ∈ md, kv p.ns p.id ≠ kv q.ns q.id := fun p hp e => hk ⟨p, hp, e⟩
    right; right
    by_cases hs : ∃ p ∈ md, p.sid = q.sid
    · left
      obtain ⟨p, hp, hsp⟩ := hs
      have hf : sameK p q = false := Bool.eq_false_iff.2 fun e => hk' p hp (sameK_iff.1 e)
      exact ⟨hk', p, hp, hsp, hk' p hp, List.any_eq_true.2 ⟨p, hp, by simp [hf, hsp]⟩⟩
    · right
      have hs' : ∀ p ∈ md, p.sid ≠ q.sid := fun p hp e => hs ⟨p, hp, e⟩
      refine ⟨hk', hs', Bool.eq_false_iff.2 fun hb => ?_, Bool.eq_false_iff.2 fun hb => ?_⟩
      · obtain ⟨p, hp, hc⟩ := List.any_eq_true.1 hb
        simp only [Bool.or_eq_true, Bool.and_eq_true, beq_iff_eq] at hc
        rcases hc with ⟨h1, _⟩ | ⟨h1, _⟩
        · exact hk' p hp (sameK_iff.1 h1)
        · exact hs' p hp h1
      · obtain ⟨p, hp, hc⟩ := List.any_eq_true.1 hb
        simp only [Bool.and_eq_true, beq_iff_eq] at hc
        exact hs' p hp hc.2

theorem Maps2.sHit (h : Maps2 w m1 m2 n md) {p : Pr} (hp : p ∈ md) {ns id : ByteArray} (e : kv p.ns p.id = kv ns id) : (Instr.lookup 26 (.map (some m1)) (kv ns id) true).run Ybaf.prog w = .ok (.tuple #[.int .u64 p.sid, .bool true]) w := by
  rw [← e]
  exact h.s.hit keyed48 int_inj Ybaf.underlying26 (zero41 w) (plainElem_int Ybaf.underlying41 (by decide)) (mem_sids hp)
theorem Maps2.sMiss (h : Maps2 w m1 m2 n md) {ns id : ByteArray} (h1 : ns.size ≤ 100) (h2 : id.size ≤ 100) (e : ∀ p ∈ md, kv p.ns p.id ≠ kv ns id) : (Instr.lookup 26 (.map (some m1)) (kv ns id) true).run Ybaf.prog w = .ok (.tuple #[.int .u64 0, .bool false]) w := by
  obtain ⟨kl, hkl⟩ := key48 ns id (le_maxLen h1) (le_maxLen h2)
  refine h.s.miss keyed48 int_inj Ybaf.underlying26 (zero41 w) (plainElem_int Ybaf.underlying41 (by decide)) hkl (fun x hx => ?_)
  obtain ⟨p, hp, rfl⟩ := List.mem_map.1 hx
  exact e p hp
theorem Maps2.iHit (h : Maps2 w m1 m2 n md) {p : Pr} (hp : p ∈ md) {s : Int} (e : p.sid = s) : (Instr.lookup 27 (.map (some m2)) (.int .u64 s) true).run Ybaf.prog w = .ok (.tuple #[kv p.ns p.id, .bool true]) w := by
  rw [← e]
  exact h.i.hit keyed41 keyElem_inj Ybaf.underlying27 (zero48 w) (keyElem_kv _ _) (mem_items hp)
theorem Maps2.iMiss (h : Maps2 w m1 m2 n md) {s : Int} (h0 : 0 ≤ s) (h1 : s ≤ 255) (e : ∀ p ∈ md, p.sid ≠ s) : (Instr.lookup 27 (.map (some m2)) (.int .u64 s) true).run Ybaf.prog w = .ok (.tuple #[kv ⟨#[]⟩ ⟨#[]⟩, .bool false]) w := by
  refine h.i.miss keyed41 keyElem_inj Ybaf.underlying27 (zero48 w) (keyElem_kv _ _) (key41 s (wf_small h0 h1)) (fun x hx => ?_)
  obtain ⟨p, hp, rfl⟩ := List.mem_map.1 hx
  intro e2
  injection e2 with _ e2
  exact e p hp e2
/-- q stands already, or neither its key nor its number does -/
def Fresh (md : List Pr) (q : Pr) : Prop := (q ∈ md ∧ dupB md q = true) ∨ ((∀ p ∈ md, kv p.ns p.id ≠ kv q.ns q.id) ∧ (∀ p ∈ md, p.sid ≠ q.sid) ∧ dupB md q = false)
theorem Maps2.store1 (h : Maps2 w m1 m2 n md) (hn : n < maxLen) {q : Pr} (hq : q.fit) (hf : Fresh md q) : ∀ y : World, y.heap = w.heap → ∃ y', (Instr.mapUpdate 26 (.map (some m1)) (kv q.ns q.id) (.int .u64 q.sid)).run Ybaf.prog y = .ok () y' ∧ MapIs 48 (plainElem Ybaf.prog 41) y' m1 (n + 1) (sidsL (stepL md q)) ∧ y.grownBy y' (some m1) := by
  intro y hy
  have hs : MapIs 48 (plainElem Ybaf.prog 41) y m1 n (sidsL md) := h.s.of_block (by rw [hy])
  rcases hf with ⟨hm, hd⟩ | ⟨hk, _, hd⟩
  · have e : stepL md q = md := by simp [stepL, hd]
    rw [e]
    exact hs.again keyed48 Ybaf.underlying26 hn (mem_sids hm)
  · have e : stepL md q = md ++ [q] := by simp [stepL, hd]
    rw [e, sidsL_snoc]
    obtain ⟨kl, hkl⟩ := key48 q.ns q.id (le_maxLen hq.1) (le_maxLen hq.2.1)
    refine hs.add keyed48 Ybaf.underlying26 hn hkl (plainElem_int Ybaf.underlying41 (wf_small hq.2.2.1 hq.2.2.2)) (fun x hx => ?_)
    obtain ⟨p, hp, rfl⟩ := List.mem_map.1 hx
    exact hk p hp
theorem Maps2.store2 (h : Maps2 w m1 m2 n md) (hn : n < maxLen) {q : Pr} (hq : q.fit) (hf : Fresh md q) : ∀ y : World, y.heap[m2]? = w.heap[m2]? → ∃ y', (Instr.mapUpdate 27 (.map (some m2)) (.int .u64 q.sid) (kv q.ns q.id)).run Ybaf.prog y = .ok () y' ∧ MapIs 41 keyElem y' m2 (n + 1) (itemsL (stepL md q)) ∧ y.grownBy y' (some m2) := by
  intro y hy
  have hs : MapIs 41 keyElem y m2 n (itemsL md) := h.i.of_block hy
  rcases hf with ⟨hm, hd⟩ | ⟨_, hk, hd⟩
  · have e : stepL md q = md := by simp [stepL, hd]
    rw [e]
    exact hs.again keyed41 Ybaf.underlying27 hn (mem_items hm)
  · have e : stepL md q = md ++ [q] := by simp [stepL, hd]
    rw [e, itemsL_snoc]
    refine hs.add keyed41 Ybaf.underlying27 hn (key41 q.sid (wf_small hq.2.2.1 hq.2.2.2)) (keyElem_kv _ _) (fun x hx => ?_)
    obtain ⟨p, hp, rfl⟩ := List.mem_map.1 hx
    intro e2
    injection e2 with _ e2
    exact hk p hp e2
theorem fit_step {q : Pr} (h : ∀ p ∈ md, p.fit) (hq : q.fit) : ∀ p ∈ stepL md q, p.fit := by
  intro p hp
  unfold stepL at hp
  split at hp
  · exact h p hp
  · rcases List.mem_append.1 hp with hp | hp
    · exact h p hp
    · obtain rfl : p = q := by simpa using hp
      exact hq
end
end Go.Proofs.YbulkauvkFmt
