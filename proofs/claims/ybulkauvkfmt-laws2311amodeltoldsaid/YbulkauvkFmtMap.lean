/-
  A map of the call's own under a word of its own: which keys it holds, and with what.
-/
import Derived.Test.YbulkauvkFmtRows
import Derived.WalkKit
import Derived.Maps.OwnSet
import Derived.DeepKeys4
import Derived.Below
namespace Go.Proofs.YbulkauvkFmt
open Go.RowKit Go.WideShapes
open Go.Maps (Keyed)

/-- block b is a map with the entries l (in whatever order), after at most n stores -/
def MapIs (k : TypeId) (R : Value → Option (DataW Unit × List MemPlace)) (w : World) (b n : Nat) (l : List (Value × Value)) : Prop :=
  ∃ D : DataW Unit, w.ownsMap Ybaf.prog k R b n D ∧ Maps.size D = l.length ∧
    (∀ kv ∈ l, ∃ kl d ps, keyOf Ybaf.prog k kv.1 = some kl ∧ R kv.2 = some (d, ps) ∧ Maps.has D kl = true ∧ ∀ z, D.atKey kl z = d) ∧
    (∀ key kl, keyOf Ybaf.prog k key = some kl → (∀ kv ∈ l, kv.1 ≠ key) → Maps.has D kl = false)

/-- what reads alike is alike -/
def RInj (R : Value → Option (DataW Unit × List MemPlace)) : Prop := ∀ a b d p q, R a = some (d, p) → R b = some (d, q) → a = b

section
variable {k t e : TypeId} {R : Value → Option (DataW Unit × List MemPlace)} {w : World} {b n : Nat} {l : List (Value × Value)}

theorem MapIs.made (w : World) (k : TypeId) (R : Value → Option (DataW Unit × List MemPlace)) : MapIs k R (w.alloc (.map #[] 0)) w.heap.size 0 [] :=
  ⟨.map [], World.ownsMap_made w _ k R, rfl, by simp, fun _ _ _ _ => rfl⟩
theorem MapIs.lt (h : MapIs k R w b n l) : b < w.heap.size := by obtain ⟨D, hD, _⟩ := h; exact hD.lt
theorem MapIs.of_block {w' : World} (h : MapIs k R w b n l) (e : w'.heap[b]? = w.heap[b]?) : MapIs k R w' b n l := by
  obtain ⟨D, ⟨es, clock, hb, F⟩, h1⟩ := h
  exact ⟨D, ⟨es, clock, e.trans hb, F⟩, h1⟩
theorem MapIs.mono {n' : Nat} (h : MapIs k R w b n l) (hn : n ≤ n') : MapIs k R w b n' l := by
  obtain ⟨D, hD, h1⟩ := h
  exact ⟨D, hD.mono hn, h1⟩
theorem MapIs.below {B : Nat} {w' : World} (h : MapIs k R w b n l) (hb : Below B w w') (hB : b < B) : MapIs k R w' b n l := h.of_block (hb.block b hB)

theorem MapIs.hit (h : MapIs k R w b n l) (K : Keyed Ybaf.prog k) (hR : RInj R) (ht : Ybaf.prog.underlying t = some (.map k e)) {z : Value} (hz : (zeroValue e).run Ybaf.prog w = .ok z w) {zd : DataW Unit} {zp : List MemPlace} (hzd : R z = some (zd, zp))
    {key val : Value} (hm : (key, val) ∈ l) : (Instr.lookup t (.map (some b)) key true).run Ybaf.prog w = .ok (.tuple #[val, .bool true]) w := by
  obtain ⟨D, hD, _, h1, _⟩ := h
  obtain ⟨kl, d, ps, hkey, hv, hh, hat⟩ := h1 _ hm
  obtain ⟨v, qs, hrun, hRv⟩ := hD.look_ok K ht hz hzd hkey
  rw [hat zd] at hRv
  have : v = val := hR _ _ _ _ _ hRv hv
  rw [hrun, hh, this]
theorem MapIs.miss (h : MapIs k R w b n l) (K : Keyed Ybaf.prog k) (hR : RInj R) (ht : Ybaf.prog.underlying t = some (.map k e)) {z : Value} (hz : (zeroValue e).run Ybaf.prog w = .ok z w) {zd : DataW Unit} {zp : List MemPlace} (hzd : R z = some (zd, zp))
    {key : Value} {kl : Lit} (hkey : keyOf Ybaf.prog k key = some kl) (hm : ∀ kv ∈ l, kv.1 ≠ key) : (Instr.lookup t (.map (some b)) key true).run Ybaf.prog w = .ok (.tuple #[z, .bool false]) w := by
  obtain ⟨D, hD, _, _, h2⟩ := h
  have hh := h2 key kl hkey hm
  obtain ⟨v, qs, hrun, hRv⟩ := hD.look_ok K ht hz hzd hkey
  rw [Maps.atKey_of_not_has hh] at hRv
  have : v = z := hR _ _ _ _ _ hRv hzd
  rw [hrun, hh, this]
theorem MapIs.len (h : MapIs k R w b n l) (ht : Ybaf.prog.underlying t = some (.map k e)) (ty : TypeId) : (Builtin.len_ #[t] ty #[.map (some b)]).run Ybaf.prog w = .ok (.int .i64 l.length) w := by
  obtain ⟨D, hD, hs, _⟩ := h
  rw [hD.len ht ty, hs]
theorem MapIs.add (h : MapIs k R w b n l) (K : Keyed Ybaf.prog k) (ht : Ybaf.prog.underlying t = some (.map k e)) (hn : n < maxLen) {key val : Value} {kl : Lit} {d : DataW Unit} {ps : List MemPlace}
    (hkey : keyOf Ybaf.prog k key = some kl) (hv : R val = some (d, ps)) (hm : ∀ kv ∈ l, kv.1 ≠ key) : ∃ w', (Instr.mapUpdate t (.map (some b)) key val).run Ybaf.prog w = .ok () w' ∧ MapIs k R w' b (n + 1) (l ++ [(key, val)]) ∧ w.grownBy w' (some b) := by
  obtain ⟨D, hD, hs, h1, h2⟩ := h
  have hh := h2 key kl hkey hm
  obtain ⟨w', hrun, hD', hg⟩ := hD.store K ht hn hkey hv
  refine ⟨w', hrun, ⟨_, hD', ?_, ?_, ?_⟩, hg.grown⟩
  · rw [Maps.size_put (hD.tidy K), hh, hs]; simp
  · intro kv hkv
    rcases List.mem_append.1 hkv with hkv | hkv
    · obtain ⟨kl', d', ps', e1, e2, e3, e4⟩ := h1 kv hkv
      have hne : kl' ≠ kl := fun eq => hm kv hkv (K.inj e1 (by rw [eq]; exact hkey))
      exact ⟨kl', d', ps', e1, e2, by rw [Maps.has_put_other hne]; exact e3, fun z => by rw [Maps.atKey_put_other hne]; exact e4 z⟩
    · obtain rfl : kv = (key, val) := by simpa using hkv
      exact ⟨kl, d, ps, hkey, hv, Maps.has_put_same hD.isMap (K.key hkey) d, fun z => Maps.atKey_put_same hD.isMap (K.key hkey) d z⟩
  · intro key' kl' hk' hm'
    have hne : kl' ≠ kl := fun eq => hm' (key, val) (by simp) (K.inj (by rw [← eq] at hkey; exact hkey) hk')
    rw [Maps.has_put_other hne]
    exact h2 key' kl' hk' (fun kv hkv => hm' kv (List.mem_append_left _ hkv))
theorem MapIs.again (h : MapIs k R w b n l) (K : Keyed Ybaf.prog k) (ht : Ybaf.prog.underlying t = some (.map k e)) (hn : n < maxLen) {key val : Value} (hm : (key, val) ∈ l) :
    ∃ w', (Instr.mapUpdate t (.map (some b)) key val).run Ybaf.prog w = .ok () w' ∧ MapIs k R w' b (n + 1) l ∧ w.grownBy w' (some b) := by
  obtain ⟨D, hD, hs, h1, h2⟩ := h
  obtain ⟨kl, d, ps, hkey, hv, hh, hat⟩ := h1 _ hm
  obtain ⟨w', hrun, hD', hg⟩ := hD.store K ht hn hkey hv
  refine ⟨w', hrun, ⟨_, hD', ?_, ?_, ?_⟩, hg.grown⟩
  · rw [Maps.size_put (hD.tidy K), hh, hs]; simp
  · intro kv hkv
    obtain ⟨kl', d', ps', e1, e2, e3, e4⟩ := h1 kv hkv
    by_cases hne : kl' = kl
    · subst hne
      have := hat (.map [])
      rw [e4] at this
      subst this
      exact ⟨kl', d', ps', e1, e2, Maps.has_put_same hD.isMap (K.key hkey) d', fun z => Maps.atKey_put_same hD.isMap (K.key hkey) d' z⟩
    · exact ⟨kl', d', ps', e1, e2, by rw [Maps.has_put_other hne]; exact e3, fun z => by rw [Maps.atKey_put_other hne]; exact e4 z⟩
  · intro key' kl' hk' hm'
    have hne : kl' ≠ kl := fun eq => hm' (key, val) hm (K.inj (by rw [← eq] at hkey; exact hkey) hk')
    rw [Maps.has_put_other hne]
    exact h2 key' kl' hk' hm'
end
end Go.Proofs.YbulkauvkFmt
