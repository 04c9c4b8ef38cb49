/-
  The walks of zzs2306cclone and zzs2306ceq.
-/
import Derived.Test.YbulkaussRows
import Derived.Test.YbulkaussKit
import Derived.BigQuiet
import Derived.Deep.QuietTactic
namespace Go.Proofs.Ybulkauss
open Go.RowKit Go.Deep

theorem info24' : (Yba.prog.info? 24).map (fun i => (i.zero, i.size, i.bytes)) = some (some (.int .u64 0), 1, 8) := by kernel_rfl
theorem size24 : (Yba.prog.info? 24).map (·.size) = some 1 := by kernel_rfl

/-- what a walk is told of a slice of uint64 that it only reads: its elements are zs -/
def Reads (w : World) (ao : Option Addr) (zs : List Int) : Prop :=
  (ao = none → zs = []) ∧ (0 < zs.length → ∃ b off, ao = some ⟨b, off, none⟩ ∧ ∀ i, i < zs.length → w.cell? ⟨b, off + i, none⟩ = some (.int .u64 (zs.getD i 0)))

theorem getElem?_made (z : Value) (n i : Nat) (h : i < n) : (madeCells #[z] n)[i]? = some z := by
  simp [madeCells, h, Nat.mod_one]

theorem map_get (zs : List Int) (i : Nat) (h : i < zs.length) : (zs.map (Value.int .u64))[i]? = some (.int .u64 (zs.getD i 0)) := by
  simp [List.getElem?_eq_getElem h]

set_option maxHeartbeats 400000 in
theorem clone_nil (len cap : Nat) (w : World) :
    Calls Yba.prog 12 #[.slice none len cap] w fun e w' => e = .returned (.slice none 0 0) ∧ w = w' := by
  have hnil := fun w => Lib.run_eql_slice_nil (P := Yba.prog) w 128 24 none len cap 0 0 Yba.underlying128
  go_enter Yba.func12, Yba.ntmps12
  go_wp2
  go_ret
  exact ⟨rfl, rfl⟩

set_option maxHeartbeats 400000 in
theorem clone_some (x : Addr) (cap : Nat) (zs : List Int) (w : World) (hlen : zs.length ≤ 1024) (hr : Reads w (some x) zs) :
    Calls Yba.prog 12 #[.slice (some x) zs.length cap] w fun e w' => e = .returned (.slice (some ⟨w.heap.size, 0, none⟩) zs.length zs.length) ∧
      (∃ c, Blk w' w.heap.size c 24 ∧ c.toList = zs.map (Value.int .u64)) ∧ w.grownBy w' none := by
  have hnil := fun w => Lib.run_eql_slice_nil (P := Yba.prog) w 128 24 (some x) zs.length cap 0 0 Yba.underlying128
  have hmk := run_make_row' (P := Yba.prog) 128 24 (.int .u64 0) 8 Yba.underlying128 info24' rfl .i64 .i64 zs.length (by omega) (by omega)
  have hB := Blk.new w (madeCells #[.int .u64 0] zs.length) 24
  obtain ⟨cs, hcs⟩ : ∃ cs, cs = zs.map (Value.int .u64) := ⟨_, rfl⟩
  have HC : Hid (cs = zs.map (Value.int .u64)) := hcs
  have h1 : ∀ v ∈ cs, v.oneCell' = true := by rw [hcs]; exact ints_oneCell _ _
  have HL : Hid (cs.length = zs.length) := by show cs.length = zs.length; rw [hcs]; simp
  clear hcs
  go_enter Yba.func12, Yba.ntmps12
  go_wp2_with (with_reducible refine wpList_copy_at _ _ 128 128 24 Yba.underlying128 size24 (some ⟨w.heap.size, 0, none⟩) (some x) zs.length zs.length zs.length cap ?qa ?qb w.heap.size 0 _ 24 hB cs ?q2 ?q3 ?q4 h1 ?_)
  case qa => rfl
  case qb => rfl
  case q2 => rw [HL.out]; exact (Nat.min_self _).symm
  case q3 =>
    intro hp j v hj
    have hjl : j < zs.length := by rw [← HL.out]; exact (List.getElem?_eq_some_iff.1 hj).1
    obtain ⟨b, off, e, hc⟩ := hr.2 (by omega)
    obtain rfl := Option.some.inj e
    rw [HC.out, map_get _ _ hjl] at hj
    have e : (⟨b, off, none⟩ : Addr).add j = ⟨b, off + j, none⟩ := by unfold Addr.add; split <;> simp_all
    have hb : b < w.heap.size := World.block_lt_of_cell? w _ (hc j hjl)
    rw [e, World.cell?_alloc_past _ b _ hb, hc j hjl, hj]
  case q4 => rw [HL.out]; simp [size_madeCells]
  intro w1 c hc hcs hcg hgr
  have hfin : c.toList = zs.map (Value.int .u64) := by
    apply List.ext_getElem?
    intro i
    rw [Array.getElem?_toList, hcg i]
    by_cases hi : i < zs.length
    · rw [if_pos (by rw [HL.out]; omega), HC.out]; simp
    · rw [if_neg (by rw [HL.out]; omega), Array.getElem?_eq_none (by rw [size_madeCells]; omega), List.getElem?_eq_none (by simp; omega)]
  have hg0 : w.grownBy w1 none := ⟨hgr.os, hgr.tape, hgr.output, by have := hgr.size; simp at this; omega, fun k hk _ => by
    rw [hgr.block k (by simp; omega) (by intro e; have := Option.some.inj e; omega)]; exact Below.heap_alloc w _ k hk⟩
  clear hcg hgr hcs hB hmk hnil
  go_wp2_with fail
  go_ret
  exact ⟨rfl, ⟨c, hc, hfin⟩, hg0⟩

/-- the clone, whatever the slice: what the law's walk takes -/
theorem clone_any (ao : Option Addr) (cap base : Nat) (zs : List Int) (w : World) (hlen : zs.length ≤ 1024) (hr : Reads w ao zs) (hb : base ≤ w.heap.size) :
    Calls Yba.prog 12 #[.slice ao zs.length cap] w fun e w' => ∃ ho, e = .returned (.slice ho zs.length zs.length) ∧ (ho = none ↔ ao = none) ∧
      (∀ g, (Value.slice ho zs.length zs.length).ownBlock = some g → w.heap.size ≤ g) ∧ w'.ownsRow base 24 1 (.slice ho zs.length zs.length) zs.length (zs.map (Value.int .u64)) ∧ w.grownBy w' none := by
  cases ao with
  | none =>
    have h0 := hr.1 rfl
    subst h0
    refine (clone_nil _ _ w).mono ?_
    rintro e w' ⟨rfl, rfl⟩
    exact ⟨none, rfl, by simp, by simp [Value.ownBlock], World.ownsRow_nil _ _ _ _, World.grownBy.refl _ _⟩
  | some x =>
    refine (clone_some x cap zs w hlen hr).mono ?_
    rintro e w' ⟨rfl, ⟨c, hc, hct⟩, hg⟩
    refine ⟨_, rfl, by simp, fun g hg => by have : w.heap.size = g := Option.some.inj hg; omega, ⟨by simp, .inr ⟨w.heap.size, zs.length, c, rfl, hb, hc, Nat.le_refl _, by unfold maxLen; omega, ?_, ?_⟩⟩, hg⟩
    · have := congrArg List.length hct; simp at this; omega
    · rw [hct]; exact List.take_of_length_le (by simp)

set_option maxHeartbeats 400000 in
theorem eq_same (ao bo : Option Addr) (ca cb : Nat) (zs : List Int) (w : World) (hlen : zs.length ≤ 2048) (ha : Reads w ao zs) (hb : Reads w bo zs) :
    Calls Yba.prog 14 #[.slice ao zs.length ca, .slice bo zs.length cb] w fun e w' => e = .returned (.bool true) ∧ ∃ q, w.drewN q = w' := by
  go_enter Yba.func14, Yba.ntmps14
  go_wp2_with fail
  go_loopw [5] (fun i wx => ∃ k : Nat, k ≤ zs.length ∧ i = .int .i64 k ∧ ∃ q, w.drewN q = wx) (fun i _ => zs.length - (intOf i).toNat)
  case atStart => exact ⟨0, Nat.zero_le _, rfl, 0, rfl⟩
  case round =>
    obtain ⟨k, hk, rfl, q, rfl⟩ := hrel
    by_cases hlt : k < zs.length
    · obtain ⟨b1, o1, rfl, h1⟩ := ha.2 (by omega)
      obtain ⟨b2, o2, rfl, h2⟩ := hb.2 (by omega)
      have x1 := h1 k hlt
      have x2 := h2 k hlt
      have x3 : (k : Int) < (zs.length : Int) := by omega
      clear ha hb h1 h2
      go_wp2_with fail
      go_quiet (fail)
      go_wp2_with fail
      go_roundw
      case rel => exact ⟨k + 1, by omega, by go_num, _, rfl⟩
      case measure => simp [intOf]; omega
    · go_wp2_with fail
      go_ret
      exact ⟨rfl, q, rfl⟩
end Go.Proofs.Ybulkauss
