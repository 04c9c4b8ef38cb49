/-
  eventPool.setHolder by one contract: what it makes of the words, as a plain function 'upd'.
-/
import Derived.Test.YbulkaussHolder
import Derived.Test.YbulkaussClone
namespace Go.Proofs.Ybulkauss
open Go.RowKit Go.Deep

/-- the bit of a slot in its word -/
def bitOf (s : Nat) : Int := IntKind.u64.wrap (2 ^ (s % 64))

/-- the words behind setHolder -/
def upd (on : Bool) (zs : List Int) (wd : Nat) (b : Int) : List Int :=
  if on then (zs ++ List.replicate (wd + 1 - zs.length) 0).set wd (bits BinOp.or IntKind.u64 (zs.getD wd 0) b)
  else zs.set wd (bits BinOp.andNot IntKind.u64 (zs.getD wd 0) b)

theorem upd_length_on (zs : List Int) (wd : Nat) (b : Int) : (upd true zs wd b).length = max zs.length (wd + 1) := by
  simp [upd]; omega
theorem upd_length_off (zs : List Int) (wd : Nat) (b : Int) : (upd false zs wd b).length = zs.length := by simp [upd]

/-- two rows apart, all that was there is as it was -/
structure Kept2 (E : Nat) (row : Option Nat) (w w' : World) : Prop where
  os : w'.os = w.os
  tape : w'.tape = w.tape
  output : w'.output = w.output
  size : w.heap.size ≤ w'.heap.size
  block : ∀ k, k < w.heap.size → k ≠ E → some k ≠ row → w'.heap[k]? = w.heap[k]?

theorem ownsRow_set {w : World} {base H n cap : Nat} {zs : List Int} (h : w.ownsRow base 24 1 (.slice (some ⟨H, 0, none⟩) n cap) n (zs.map (Value.int .u64))) (wd : Nat) (x : Int) :
    (w.setCell ⟨H, wd, none⟩ (.int .u64 x)).ownsRow base 24 1 (.slice (some ⟨H, 0, none⟩) n cap) n ((zs.set wd x).map (Value.int .u64)) := by
  have := (h.stored wd (.int .u64 x)).1
  simpa [List.map_set] using this

theorem drewN_blk {w : World} {b : Nat} {c : Array Value} {t : TypeId} (h : Blk w b c t) (q : Nat) : Blk (w.drewN q) b c t := h
theorem drewN_own {w : World} {base e size n : Nat} {v : Value} {xs : List Value} (h : w.ownsRow base e size v n xs) (q : Nat) : (w.drewN q).ownsRow base e size v n xs := h

theorem set_self {ec : Array Value} {k : Nat} {v : Value} (h : ec[k]? = some v) : ec.setIfInBounds k v = ec := by
  apply Array.ext_getElem?
  intro j
  rw [Array.getElem?_setIfInBounds]
  split
  · next e => subst e; split
              · exact h.symm
              · next hlt => rw [Array.getElem?_eq_none (by omega)]
  · rfl

/-- ONE CONTRACT FOR setHolder -/
theorem holder_any (P E ne r i s base : Nat) (on : Bool) (ec : Array Value) (ho : Option Addr) (n cap : Nat) (zs : List Int) (w : World) (hr : r < ne) (hne : ne ≤ 2) (hi : i < 2) (hs : s ≤ 65535)
    (p0 : w.cell? ⟨P, 0, none⟩ = some (.slice (some ⟨E, 0, none⟩) ne ne)) (hE : Blk w E ec 142) (ef : ec[r * 15 + 11]? = some (.int .u32 0)) (eh : ec[13 + i]? = some (.slice ho n cap))
    (hown : w.ownsRow base 24 1 (.slice ho n cap) n (zs.map (Value.int .u64))) (hEb : E < base) (hbs : base ≤ w.heap.size) (hn : n ≤ 2048) (hsh : n ≤ s / 64 → n ≤ 1024 ∧ cap = n) :
    Calls Yba.prog 13 #[.pointer (some ⟨P, 0, none⟩), .int .u32 r, .int .i64 i, .int .i64 s, .bool on] w fun e w' => e = .returned (.tuple #[]) ∧
      ∃ ho' n' cap', (ho' = none ↔ ho = none ∧ on = false) ∧ n' = (upd on zs (s / 64) (bitOf s)).length ∧ (n' ≤ s / 64 → cap' = n') ∧ Blk w' E (ec.setIfInBounds (13 + i) (.slice ho' n' cap')) 142 ∧
        (∀ g, (Value.slice ho' n' cap').ownBlock = some g → (Value.slice ho n cap).ownBlock = some g ∨ w.heap.size ≤ g) ∧
        w'.ownsRow base 24 1 (.slice ho' n' cap') n' ((upd on zs (s / 64) (bitOf s)).map (Value.int .u64)) ∧ Kept2 E (Value.slice ho n cap).ownBlock w w' := by
  have hzl : zs.length = n := by have := hown.1; simp at this; exact this
  have cf : w.cell? ⟨E, r * 15 + 11, none⟩ = some (.int .u32 0) := (hE.cell _).trans ef
  have ch : w.cell? ⟨E, 13 + i, none⟩ = some (.slice ho n cap) := (hE.cell _).trans eh
  by_cases hlong : s / 64 < n
  · -- the word is there
    rcases hown.2 with ⟨_, e0⟩ | ⟨H, cap', cur, e, hb, hg, hnc, hcm, hcs, htake⟩
    · omega
    obtain ⟨rfl, -, rfl⟩ := Value.slice.inj e
    have hwd : (zs.map (Value.int .u64))[s / 64]? = some (.int .u64 (zs.getD (s / 64) 0)) := map_get _ _ (by omega)
    have hx : w.cell? ⟨H, s / 64, none⟩ = some (.int .u64 (zs.getD (s / 64) 0)) := by rw [hown.cellAt (s / 64) (by omega), hwd]
    have hf := hown.frozenAt (s / 64)
    have hEH : E ≠ H := by omega
    have key : ∀ (on : Bool) (x : Int) (q : Nat), (upd on zs (s / 64) (bitOf s)) = zs.set (s / 64) x →
        ∃ ho' n' cap', (ho' = none ↔ some (⟨H, 0, none⟩ : Addr) = none ∧ on = false) ∧ n' = (upd on zs (s / 64) (bitOf s)).length ∧ (n' ≤ s / 64 → cap' = n') ∧ Blk ((w.drewN q).setCell ⟨H, s / 64, none⟩ (.int .u64 x)) E (ec.setIfInBounds (13 + i) (.slice ho' n' cap')) 142 ∧
          (∀ g, (Value.slice ho' n' cap').ownBlock = some g → (Value.slice (some ⟨H, 0, none⟩) n cap).ownBlock = some g ∨ w.heap.size ≤ g) ∧
          ((w.drewN q).setCell ⟨H, s / 64, none⟩ (.int .u64 x)).ownsRow base 24 1 (.slice ho' n' cap') n' ((upd on zs (s / 64) (bitOf s)).map (Value.int .u64)) ∧ Kept2 E (Value.slice (some ⟨H, 0, none⟩) n cap).ownBlock w ((w.drewN q).setCell ⟨H, s / 64, none⟩ (.int .u64 x)) := by
      intro on x q hu
      refine ⟨some ⟨H, 0, none⟩, n, cap, by simp, by rw [hu]; simp [hzl], fun h => absurd h (by omega), ?_, fun g hg => .inl hg, ?_, ?_⟩
      · rw [set_self eh]; exact (drewN_blk hE q).setOther hEH _
      · rw [hu]; exact ownsRow_set (drewN_own hown q) _ _
      · exact ⟨rfl, rfl, rfl, by simp [World.setCell], fun k hk _ hne => Below.heap_setCell _ _ _ _ (by intro e; exact hne (by rw [e]; rfl))⟩
    cases on with
    | true =>
      refine (set_on_long P E ne r i s n cap H (zs.getD (s / 64) 0) w hr hne hi hs p0 cf ch hn hlong hx hf).mono ?_
      rintro e w' ⟨rfl, q, rfl⟩
      refine ⟨rfl, key true _ q ?_⟩
      simp only [upd, if_true]
      rw [show s / 64 + 1 - zs.length = 0 by omega, List.replicate_zero, List.append_nil]; rfl
    | false =>
      refine (set_off_long P E ne r i s n cap H (zs.getD (s / 64) 0) w hr hne hi hs p0 cf ch hn hlong hx hf).mono ?_
      rintro e w' ⟨rfl, q, rfl⟩
      exact ⟨rfl, key false _ q (by simp [upd, bitOf])⟩
  · obtain ⟨hn1, rfl⟩ := hsh (by omega)
    have hnone : ho = none → cap = 0 := by
      intro e; subst e
      rcases hown.2 with ⟨e1, e0⟩ | ⟨H, cap', cur, e, _⟩
      · exact e0
      · cases e
    cases on with
    | false =>
      refine (set_off_short P E ne r i s cap cap ho w hr hne hi hs p0 cf ch hn1 (by omega)).mono ?_
      rintro e w' ⟨rfl, q, rfl⟩
      have hu : upd false zs (s / 64) (bitOf s) = zs := by simp only [upd]; exact List.set_eq_of_length_le (by omega)
      refine ⟨rfl, ho, cap, cap, by simp, by rw [hu]; exact hzl.symm, fun _ => rfl, ?_, fun g hg => .inl hg, ?_, ⟨rfl, rfl, rfl, Nat.le_refl _, fun _ _ _ _ => rfl⟩⟩
      · rw [set_self eh]; exact drewN_blk hE q
      · rw [hu]; exact drewN_own hown q
    | true =>
      refine (set_on_short P E ne r i s cap ho (zs.map (Value.int .u64)) w hr hne hi hs hE.lt p0 cf ch (hE.frozen _) hn1 (by omega) hnone (by simpa using hzl) ?_).mono ?_
      · intro b hb j v hj
        subst hb
        rcases hown.2 with ⟨e1, e0⟩ | ⟨H, cap', cur, e, _⟩
        · cases e1
        · obtain ⟨e1, -, -⟩ := Value.slice.inj e
          obtain rfl := Option.some.inj e1
          exact hown.cells rfl j v hj
      rintro e w' ⟨rfl, q, C, R, hC1, hC2, hRs, hRt, rfl⟩
      have hul := upd_length_on zs (s / 64) (bitOf s)
      have hul' : (upd true zs (s / 64) (bitOf s)).length = s / 64 + 1 := by omega
      have hsz : ((w.drewN q).setCell ⟨E, 13 + i, none⟩ (.slice (some ⟨w.heap.size, 0, none⟩) (s / 64 + 1) C)).heap.size = w.heap.size := by simp [World.setCell]
      refine ⟨rfl, some ⟨w.heap.size, 0, none⟩, s / 64 + 1, C, by simp, hul'.symm, fun h => absurd h (by omega), ?_, fun g hg => .inr (by have : w.heap.size = g := Option.some.inj hg; omega), ?_, ?_⟩
      · exact ((drewN_blk hE q).set _ _).alloc _
      · refine ⟨by simp [hul'], .inr ⟨w.heap.size, C, R.setIfInBounds (s / 64) (.int .u64 (bits BinOp.or IntKind.u64 0 (IntKind.u64.wrap (2 ^ (s % 64))))), rfl, hbs, ?_, hC1, hC2, by simpa using hRs, ?_⟩⟩
        · have := Blk.new ((w.drewN q).setCell ⟨E, 13 + i, none⟩ (.slice (some ⟨w.heap.size, 0, none⟩) (s / 64 + 1) C)) (R.setIfInBounds (s / 64) (.int .u64 (bits BinOp.or IntKind.u64 0 (IntKind.u64.wrap (2 ^ (s % 64)))))) 24
          rw [hsz] at this
          exact this
        · simp only [upd, if_true, Nat.mul_one]
          rw [Array.toList_setIfInBounds, List.take_set, hRt, List.map_set, List.map_append, List.map_replicate, hzl]
          congr 2
          rw [List.getD_eq_getElem?_getD, List.getElem?_eq_none (by omega)]; rfl
      · refine ⟨rfl, rfl, rfl, by simp [World.setCell], fun k hk hkE _ => ?_⟩
        rw [Below.heap_alloc _ _ k (by rw [hsz]; exact hk), Below.heap_setCell _ _ _ _ hkE]; rfl
end Go.Proofs.Ybulkauss
