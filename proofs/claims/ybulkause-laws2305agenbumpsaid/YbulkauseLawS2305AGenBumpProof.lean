/-
  The proof of 'Rows.LawS2305AGenBumpSaid': the frame is the kit's shell for this statement, the walk is typed by hand.
-/
import Derived.Test.YbulkauseRows
import Derived.Test.YbulkauseKit
import Derived.Test.YbulkauseState
import Derived.Test.YbulkauseLeave
import Derived.WalkKit
import Derived.ProofKit
import Derived.OpenShut
import Derived.ShutString
import Derived.ChangeOld
import Derived.Below
import Derived.Deep.DeepCutAuto
import Derived.BigQuiet
import Derived.Deep.QuietTactic
namespace Go.Proofs.Ybulkause.lawS2305AGenBump
open Go.ChangeShapes Go.WideShapes Go.ChangeAt Go.RowKit Go.Deep
open Go.ChangeMaps (open_string shut_string)
set_option linter.unusedVariables false

theorem own : ownKnob Yba.prog.godebug = none := by kernel_rfl
theorem laidOut : laidOutB Yba.prog = true := by kernel_rfl

/-- WHAT THE WALK IS TOLD OF A SLICE OF INTEGERS THAT CAME IN: it is nil; or it leads to a row of 'cap' cells, the numbers 'zs' (the first 'len' are its elements, the rest its spare room), each fitting its kind. -/
def IsRow (k : IntKind) (w : World) (a : Option Addr) (len cap : Nat) (zs : List Int) : Prop :=
  (a = none ∧ len = 0 ∧ cap = 0 ∧ zs = []) ∨
  ∃ x, a = some x ∧ len ≤ cap ∧ cap ≤ maxLen ∧ zs.length = cap ∧ (∀ i, i < zs.length → w.cell? (x.add i) = some (.int k (zs.getD i 0))) ∧ ∀ n ∈ zs, (Lit.int k n).wf = true

/-! ### THE WALK -/
/-- what the walk wants of the slice: where it has an element, its address and its cells -/
theorem row_at {k : IntKind} {w : World} {a : Option Addr} {len cap : Nat} {zs : List Int} (h : IsRow k w a len cap zs) (hl : 0 < len) :
    ∃ b off, a = some ⟨b, off, none⟩ ∧ ∀ i, i < len → w.cell? ⟨b, off + i, none⟩ = some (.int k (zs.getD i 0)) := by
  rcases h with ⟨_, rfl, _⟩ | ⟨x, rfl, hlc, _, hz, hcell, _⟩
  · omega
  · obtain ⟨b, off, rfl, hc⟩ := ints_at hcell (by omega)
    exact ⟨b, off, rfl, fun i hi => hc i (by omega)⟩

theorem info23 : (Yba.prog.info? 23).map (fun i => (i.zero, i.size, i.bytes)) = some (some (.int .u64 0), 1, 8) := by kernel_rfl
theorem info25 : (Yba.prog.info? 25).map (fun i => (i.zero, i.size, i.bytes)) = some (some (.pointer none), 1, 8) := by kernel_rfl
theorem info104 : (Yba.prog.info? 104).map (fun i => (i.zero, i.size, i.bytes)) = some (some (.pointer none), 1, 8) := by kernel_rfl
theorem neq104 (a : Addr) (w : World) : (binOp .neq 104 (.pointer (some a)) (.pointer (some a))).run Yba.prog w = .ok (.bool false) w := by
  obtain ⟨j, hj⟩ : ∃ j, Yba.prog.info? 108 = some j := Option.isSome_iff_exists.1 (by kernel_rfl)
  exact run_neq_ptr_same w a Yba.underlying104 hj
theorem size23 : (Yba.prog.info? 23).map (·.size) = some 1 := by kernel_rfl

theorem getElem?_made (z : Value) (n i : Nat) (h : i < n) : (madeCells #[z] n)[i]? = some z := by
  simp [madeCells, h, Nat.mod_one]

/-- the elements that are copied, as cells -/
theorem src_of {w : World} {a : Option Addr} {len cap : Nat} {zs : List Int} (h : IsRow .u64 w a len cap zs) :
    ∃ cs : List Value, cs.length = len ∧ (∀ i, i < len → cs[i]? = some (.int .u64 (zs.getD i 0))) ∧ (∀ v ∈ cs, v.oneCell' = true) ∧
      (0 < cs.length → ∃ b off, a = some ⟨b, off, none⟩ ∧ b < w.heap.size ∧ ∀ i, i < len → w.cell? ⟨b, off + i, none⟩ = some (.int .u64 (zs.getD i 0))) := by
  have hlz : len ≤ zs.length := by rcases h with ⟨_, rfl, _⟩ | ⟨x, _, hlc, _, hz, _⟩ <;> omega
  refine ⟨(zs.take len).map (Value.int .u64), by simp; omega, fun i hi => ?_, ints_oneCell _ _, fun hpos => ?_⟩
  · simp [hi, List.getElem?_eq_getElem (show i < zs.length by omega)]
  · obtain ⟨b, off, rfl, hc⟩ := row_at h (by simp at hpos; omega)
    refine ⟨b, off, rfl, ?_, hc⟩
    have := hc 0 (by simp at hpos; omega)
    exact World.block_lt_of_cell? w _ this

def nodeCells : Array Value := #[.int .i64 0, .nilFunc, .nilFunc, .int .i32 0, .int .u32 0, .bool false, .slice none 0 0, .slice none 0 0, .pointer none, .pointer none, .pointer none, .pointer none, .pointer none, .int .u8 0]
theorem built44 : Yba.prog.built 44 [] = some nodeCells := by kernel_rfl

/-- the nodes' loop: what holds behind k rounds -/
def NRel (n NB : Nat) (w2 : World) (k : Nat) (wr : World) : Prop :=
  Below NB w2 wr ∧ ∃ nc, Blk wr NB nc 25 ∧ nc.size = n ∧ (∀ j, j < n → ∃ p, nc[j]? = some (.pointer p)) ∧
    (0 < k → ∃ N, NB < N ∧ nc[0]? = some (.pointer (some ⟨N, 0, none⟩)) ∧ Blk wr N nodeCells 44)

theorem nrel_step {n NB : Nat} {w2 wr : World} {k : Nat} (h : NRel n NB w2 k wr) (hk : k < n) :
    NRel n NB w2 (k + 1) ((wr.alloc (.cells nodeCells 44)).setCell ⟨NB, k, none⟩ (.pointer (some ⟨wr.heap.size, 0, none⟩))) := by
  obtain ⟨hb, nc, hn, hs, hp, h0⟩ := h
  have hlt := hn.lt
  refine ⟨(hb.alloc (by omega) _).setCell (Nat.le_refl _) _, _, (hn.alloc _).set k _, by simpa using hs, fun j hj => ?_, fun _ => ?_⟩
  · rw [Array.getElem?_setIfInBounds]
    split
    · exact ⟨_, by rw [if_pos (by omega)]⟩
    · exact hp j hj
  · by_cases e : k = 0
    · subst e
      refine ⟨wr.heap.size, hlt, ?_, ?_⟩
      · rw [Array.getElem?_setIfInBounds, if_pos rfl, if_pos (by omega)]
      · exact (Blk.new wr nodeCells 44).setOther (show wr.heap.size ≠ NB by omega) _
    · obtain ⟨N, hN, hc, hB⟩ := h0 (by omega)
      refine ⟨N, hN, ?_, ?_⟩
      · rw [Array.getElem?_setIfInBounds, if_neg e]; exact hc
      · exact (hB.alloc _).setOther (show N ≠ NB by omega) _

def topoCells : Array Value := #[.slice none 0 0, .slice none 0 0, .map none, .slice none 0 0, .map none, .map none, .slice none 0 0, .slice none 0 0]
def simCells (t ns : Value) : Array Value := #[t, .int .i64 0, .int .i64 0, .bool false, .pointer none, .pointer none, .pointer none, .bool false, .pointer none, ns, .slice none 0 0, .map none, .bool false, .int .i64 0, .pointer none, .slice none 0 0, .int .i64 0, .int .i64 0, .slice none 0 0, .slice none 0 0, .slice none 0 0, .slice none 0 0, .slice none 0 0, .slice none 0 0, .slice none 0 0, .slice none 0 0, .slice none 0 0, .slice none 0 0, .slice none 0 0, .slice none 0 0, .int .i64 0, .int .i64 0, .int .u32 0, .int .i64 0, .int .i64 0, .slice none 0 0, .map none, .slice none 0 0, .int .i64 0, .map none, .map none, .map none, .int .i64 0, .pointer none, .pointer none, .pointer none, .slice none 0 0, .map none, .map none, .map none, .bool false, .int .i64 0, .int .i64 0, .int .i64 0, .int .i64 0, .bool false, .slice none 0 0, .map none, .int .i64 0, .int .i64 0, .int .i64 0, .int .i64 0]
def cCells (sp gp gv : Value) : Array Value := #[sp, .slice none 0 0, gp, .slice none 0 0, .slice none 0 0, .map none, .slice none 0 0, .slice none 0 0, gv, .slice none 0 0, .slice none 0 0, .slice none 0 0]
def depCells : Array Value := #[.int .i64 0, .int .i64 0, .int .u64 0, .int .i64 0, .map none]
theorem built58 : Yba.prog.built 58 [] = some topoCells := by kernel_rfl
theorem built93 (x : Option Addr) (y : Option Addr) (l c : Nat) : Yba.prog.built 93 [(0, .pointer x), (2, .slice y l c)] = some (simCells (.pointer x) (.slice y l c)) := by kernel_rfl
theorem built103 (x : Option Addr) (y : Option Addr) (l c : Nat) : Yba.prog.built 103 [(0, .pointer x), (2, .slice y l c)] = some (cCells (.pointer x) (.slice y l c) (.slice none 0 0)) := by kernel_rfl
theorem built108 : Yba.prog.built 108 [] = some depCells := by kernel_rfl
theorem cCells_set (sp gp gv v : Value) : (cCells sp gp gv).setIfInBounds 8 v = cCells sp gp v := rfl

/-- the loop that fills c.gone: what holds behind k rounds -/
def GRel (C : Nat) (sp gp : Value) (w3 : World) (k : Nat) (wr : World) : Prop :=
  Below C w3 wr ∧ ∃ ao cap ps, Blk wr C (cCells sp gp (.slice ao k cap)) 103 ∧ wr.ownsRow (C + 1) 104 1 (.slice ao k cap) k ps ∧ ∀ v ∈ ps, ∃ D : Nat, v = Value.pointer (some ⟨D, 0, none⟩)

theorem shape_of {w : World} {base e size n : Nat} {v : Value} {xs : List Value} (h : w.ownsRow base e size v n xs) : ∃ ao cap, v = .slice ao n cap := by
  rcases h.2 with ⟨rfl, rfl⟩ | ⟨g, cap, cur, rfl, _⟩
  · exact ⟨none, 0, rfl⟩
  · exact ⟨_, _, rfl⟩

theorem grel_step {C : Nat} {sp gp : Value} {w3 wr w1 : World} {k : Nat} {ao : Option Addr} {cap : Nat} {ps : List Value} (hb : Below C w3 wr) (hC : Blk wr C (cCells sp gp (.slice ao k cap)) 103)
    (hown : wr.ownsRow (C + 1) 104 1 (.slice ao k cap) k ps) (hps : ∀ v ∈ ps, ∃ D : Nat, v = Value.pointer (some ⟨D, 0, none⟩)) {q : Nat} {o1 o2 : Obj} {v' : Value}
    (hown' : w1.ownsRow (C + 1) 104 1 v' (k + 1) (ps ++ [.pointer (some ⟨q, 0, none⟩)])) (hgr : ((wr.alloc o1).alloc o2).grownBy w1 (Value.slice ao k cap).ownBlock) :
    (∃ ao' cap', v' = .slice ao' (k + 1) cap') ∧ Blk w1 C (cCells sp gp (.slice ao k cap)) 103 ∧ GRel C sp gp w3 (k + 1) (w1.setCell ⟨C, 8, none⟩ v') := by
  have hne : some C ≠ (Value.slice ao k cap).ownBlock := fun e => by have := hown.lt C e.symm; omega
  have hC1 : Blk w1 C (cCells sp gp (.slice ao k cap)) 103 := ((hC.alloc _).alloc _).kept hgr hne
  have hlt := hC.lt
  obtain ⟨ao', cap', rfl⟩ := shape_of hown'
  refine ⟨⟨ao', cap', rfl⟩, hC1, ?_, ao', cap', ps ++ [.pointer (some ⟨q, 0, none⟩)], ?_, ?_, ?_⟩
  · refine Below.setCell ((((hb.alloc (by omega) _).alloc (by simp; omega) _)).grown hgr (by simp; omega) ?_) (Nat.le_refl _) _
    intro j hj
    have := (hown.lt j hj).1
    omega
  · have := hC1.set 8 (.slice ao' (k + 1) cap')
    rw [cCells_set] at this
    exact this
  · exact ownsRow_setCell_below hown' (show C < C + 1 by omega) _
  · intro v hv
    rcases List.mem_append.1 hv with h | h
    · exact hps v h
    · simp at h; exact ⟨_, h⟩

set_option maxHeartbeats 400000 in
set_option maxRecDepth 100000 in
theorem walk (a0 : Option Addr) (len0 cap0 : Nat) (z0 : List Int) (a1 : Int) (a2 : Int) (w : World) (w0 : IsRow .u64 w a0 len0 cap0 z0) (w1 : (Lit.int .i64 a1).wf = true) (w2 : (Lit.int .u8 a2).wf = true) :
    Calls Yba.prog 3 #[.slice a0 len0 cap0, .int .i64 a1, .int .u8 a2] w fun e w' => e = .returned (.bool true) ∧ Below w.heap.size w w' := by
  have hlen : len0 ≤ maxLen := by rcases w0 with ⟨_, h, _⟩ | ⟨x, _, h1, h2, _⟩ <;> omega
  unfold maxLen at hlen
  by_cases hbig : 1024 < len0
  · go_enter Yba.func3, Yba.ntmps3
    go_wp2
    go_ret
    exact ⟨rfl, Below.refl _ _⟩
  obtain ⟨n, hn⟩ : ∃ n, n = if len0 = 0 then 1 else len0 := ⟨_, rfl⟩
  have hn1 : 1 ≤ n := by rw [hn]; split <;> omega
  have hn2 : n ≤ 1024 := by rw [hn]; split <;> omega
  have hn3 : len0 ≤ n := by rw [hn]; split <;> omega
  have hn4 : 1 < n → n ≤ len0 := by rw [hn]; split <;> omega
  have HN : Hid (n = if len0 = 0 then 1 else len0) := hn
  clear hn
  obtain ⟨cs, hcl, hcg, hc1, hsrc⟩ := src_of w0
  obtain ⟨Z, hZ⟩ : ∃ Z : Nat → Int, ∀ i, Z i = if i < len0 then z0.getD i 0 else 0 := ⟨_, fun _ => rfl⟩
  have HC : Hid (cs.length = len0) := hcl
  have HZ : Hid (∀ i, Z i = if i < len0 then z0.getD i 0 else 0) := hZ
  have HG : Hid (∀ i, i < len0 → cs[i]? = some (.int .u64 (Z i))) := fun i hi => by rw [hcg i hi, hZ, if_pos hi]
  have HS : Hid (0 < len0 → ∃ b off, a0 = some ⟨b, off, none⟩ ∧ b < w.heap.size ∧ ∀ i, i < len0 → w.cell? ⟨b, off + i, none⟩ = some (.int .u64 (Z i))) := by
    intro hp
    obtain ⟨b, off, e, hb, hc⟩ := hsrc (by omega)
    exact ⟨b, off, e, hb, fun i hi => by rw [hc i hi, hZ, if_pos hi]⟩
  have ha2 := bounds_u8 w2
  clear hcl hZ hcg hsrc w0 w1 w2
  have hmk := run_make_row' (P := Yba.prog) 22 23 (.int .u64 0) 8 Yba.underlying22 info23 rfl .i64 .i64 n (by omega) (by omega)
  have hmk2 := run_make_row' (P := Yba.prog) 24 25 (.pointer none) 8 Yba.underlying24 info25 rfl .i64 .i64 n (by omega) (by omega)
  go_enter Yba.func3, Yba.ntmps3
  go_upto_if 25 with fail
  go_cut [7] (fun s7 w' => s7 = .int .i64 n ∧ w = w')
  case first =>
    by_cases h0 : len0 = 0
    · go_wp2
      all_goals go_meet
      exact ⟨by have := HN.out; rw [if_pos h0] at this; rw [this]; rfl, rfl⟩
    · go_wp2
      all_goals go_meet
      exact ⟨by have := HN.out; rw [if_neg h0] at this; rw [this], rfl⟩
  case rest =>
    obtain ⟨rfl, rfl⟩ := hcut
    have hB := Blk.new w (madeCells #[.int .u64 0] n) 23
    go_upto_if 33 with (with_reducible refine wpList_copy_at _ _ 22 22 23 Yba.underlying22 size23 (some ⟨w.heap.size, 0, none⟩) a0 n n len0 cap0 ?qa ?qb w.heap.size 0 _ 23 hB cs ?q2 ?q3 ?q4 hc1 ?_)
    case qa => rfl
    case qb => rfl
    case q2 => rw [HC.out]; exact (Nat.min_eq_left hn3).symm
    case q3 =>
      intro hp
      obtain ⟨b, off, rfl, hb, hc⟩ := HS.out (by have := HC.out; omega)
      refine ⟨_, rfl, fun j v hj => ?_⟩
      have hjl : j < len0 := by have := (List.getElem?_eq_some_iff.1 hj).1; have := HC.out; omega
      rw [HG.out j hjl] at hj
      have e : (⟨b, off, none⟩ : Addr).add j = ⟨b, off + j, none⟩ := by unfold Addr.add; split <;> simp_all
      rw [e, World.cell?_alloc_past _ b _ hb, hc j hjl, hj]
    case q4 => rw [HC.out]; simp [size_madeCells]; exact hn3
    intro w1 gc hgc hgs hgg hgr
    have hbel : Below w.heap.size w w1 := ((Below.refl _ _).alloc (Nat.le_refl _) _).grown hgr (by simp) (by simp)
    have hsz : w.heap.size + 1 ≤ w1.heap.size := by have := hgr.size; simpa using this
    have hZc : ∀ i, i < n → gc[i]? = some (.int .u64 (Z i)) := by
      intro i hi
      rw [hgg i]
      by_cases hl : i < len0
      · rw [if_pos (by have := HC.out; omega)]; exact HG.out i hl
      · rw [if_neg (by have := HC.out; omega), getElem?_made _ _ _ hi, HZ.out i, if_neg hl]
    rw [size_madeCells] at hgs
    clear hgg hgr hB
    go_upto_if 33 with fail
    go_cut [9] (fun s9 w' => s9 = .int .u64 (Z 0) ∧ w1 = w')
    case first =>
      by_cases h0 : len0 = 0
      · go_wp2
        all_goals go_meet
        exact ⟨by rw [HZ.out, if_neg (by omega)], rfl⟩
      · obtain ⟨b, off, rfl, hb, hc⟩ := HS.out (by omega)
        have h00 := (hbel.cell (p := ⟨b, off, none⟩) hb).trans (by simpa using hc 0 (by omega))
        clear hc hZc
        go_wp2
        all_goals go_meet
        exact ⟨rfl, rfl⟩
    case rest =>
      obtain ⟨rfl, rfl⟩ := hcut
      go_wp2_with fail
      obtain ⟨w2, hw2⟩ : ∃ w2, w2 = w1.alloc (.cells (madeCells #[.pointer none] n) 25) := ⟨_, rfl⟩
      obtain ⟨NB, hNB⟩ : ∃ NB, NB = w1.heap.size := ⟨_, rfl⟩
      rw [← hw2, ← hNB]
      have hN2 : NRel n NB w2 0 w2 := by
        refine ⟨Below.refl _ _, _, by rw [hw2, hNB]; exact Blk.new _ _ _, size_madeCells _ _, fun j hj => ⟨none, getElem?_made _ _ _ hj⟩, fun h => absurd h (by omega)⟩
      have hgc2 : Blk w2 w.heap.size gc 23 := by rw [hw2]; exact hgc.alloc _
      have hbel2 : Below w.heap.size w w2 := by rw [hw2]; exact hbel.alloc (by omega) _
      have hNBlt : w.heap.size < NB := by omega
      clear hw2 hNB hbel hgc hsz hmk hmk2
      go_loopw [11] (fun i wr => ∃ k : Nat, k ≤ n ∧ i = .int .i64 k ∧ NRel n NB w2 k wr) (fun i _ => n - (intOf i).toNat)
      case atStart => exact ⟨0, Nat.zero_le _, rfl, hN2⟩
      case round =>
        obtain ⟨k, hk, rfl, hrel⟩ := hrel
        by_cases hlt : k < n
        · have R := nrel_step hrel hlt
          obtain ⟨-, nc, hnc, hns, hnp, -⟩ := hrel
          obtain ⟨pk, hpk⟩ := hnp k hlt
          have q1 : ∀ o, (wr.alloc o).cell? ⟨NB, k, none⟩ = some (.pointer pk) := fun o => ((hnc.alloc o).cell k).trans hpk
          have q2 : ∀ o, (wr.alloc o).frozen? ⟨NB, k, none⟩ = false := fun o => (hnc.alloc o).frozen k
          clear hnc hns hnp hpk
          have HR : Hid (NRel n NB w2 (k + 1) ((wr.alloc (.cells nodeCells 44)).setCell ⟨NB, k, none⟩ (.pointer (some ⟨wr.heap.size, 0, none⟩)))) := R
          clear R
          go_wp2_with (with_reducible refine wpList_build_at 44 _ nodeCells [] ?hv built44 ?_; rotate_left; case hv => rfl)
          go_roundw
          case rel => exact ⟨k + 1, by omega, by go_num, HR.out⟩
          case measure => simp [intOf]; omega
        · obtain rfl : n = k := by omega
          obtain ⟨hbn, nc, hnc, hns, hnp, hn0⟩ := hrel
          obtain ⟨N, hNlt, hN0, hNB⟩ := hn0 (by omega)
          clear hnp hn0 hlt hk
          go_wp2_with (first | (with_reducible refine wpList_build_at 93 _ _ _ ?hv2 (built93 (some ⟨wr.heap.size, 0, none⟩) (some ⟨NB, 0, none⟩) n n) ?_; rotate_left; case hv2 => simp [Act.eval]) | (with_reducible refine wpList_build_at 103 _ _ _ ?hv3 (built103 (some ⟨wr.heap.size + 1, 0, none⟩) (some ⟨w.heap.size, 0, none⟩) n n) ?_; rotate_left; case hv3 => simp [Act.eval]))
          obtain ⟨T, hT⟩ : ∃ T, T = wr.heap.size := ⟨_, rfl⟩
          obtain ⟨m, hm⟩ : ∃ m : Nat, (m : Int) = a2 % 4 := ⟨(a2 % 4).toNat, by omega⟩
          have hm3 : m ≤ 3 := by omega
          rw [← hT, ← hm, show T + 1 + 1 = T + 2 from rfl]
          obtain ⟨w3, hw3⟩ : ∃ w3, w3 = (((wr.alloc (.cells topoCells 58)).alloc (.cells (simCells (.pointer (some ⟨T, 0, none⟩)) (.slice (some ⟨NB, 0, none⟩) n n)) 93)).alloc (.cells (cCells (.pointer (some ⟨T + 1, 0, none⟩)) (.slice (some ⟨w.heap.size, 0, none⟩) n n) (.slice none 0 0)) 103)) := ⟨_, rfl⟩
          have e3 := hw3
          unfold topoCells at e3
          rw [← e3]
          clear e3
          have kT : Blk w3 T topoCells 58 := by rw [hw3, hT]; exact ((Blk.new _ _ _).alloc _).alloc _
          have kS : Blk w3 (T + 1) (simCells (.pointer (some ⟨T, 0, none⟩)) (.slice (some ⟨NB, 0, none⟩) n n)) 93 := by
            rw [hw3]; refine Blk.alloc ?_ _; have := Blk.new (wr.alloc (.cells topoCells 58)) (simCells (.pointer (some ⟨T, 0, none⟩)) (.slice (some ⟨NB, 0, none⟩) n n)) 93; simpa [hT] using this
          have kC : Blk w3 (T + 2) (cCells (.pointer (some ⟨T + 1, 0, none⟩)) (.slice (some ⟨w.heap.size, 0, none⟩) n n) (.slice none 0 0)) 103 := by
            rw [hw3]; have := Blk.new ((wr.alloc (.cells topoCells 58)).alloc (.cells (simCells (.pointer (some ⟨T, 0, none⟩)) (.slice (some ⟨NB, 0, none⟩) n n)) 93)) (cCells (.pointer (some ⟨T + 1, 0, none⟩)) (.slice (some ⟨w.heap.size, 0, none⟩) n n) (.slice none 0 0)) 103; simpa [hT] using this
          have kNB : Blk w3 NB nc 25 := by rw [hw3]; exact ((hnc.alloc _).alloc _).alloc _
          have kN : Blk w3 N nodeCells 44 := by rw [hw3]; exact ((hNB.alloc _).alloc _).alloc _
          have kG : Blk w3 w.heap.size gc 23 := by rw [hw3]; exact (((hgc2.below hbn hNBlt).alloc _).alloc _).alloc _
          have hNT : N < T := by rw [hT]; exact hNB.lt
          have kz : w3.heap.size = T + 3 := by rw [hw3, hT]; simp
          have kB : Below w.heap.size w w3 := by
            rw [hw3]
            have hw := hbel2.trans (hbn.mono (Nat.le_of_lt hNBlt))
            exact ((hw.alloc (by omega) _).alloc (by simp; omega) _).alloc (by simp; omega) _
          clear hw3 hm hT hbn hnc hNB hgc2 hN2 hbel2
          go_loopw [15] (fun i wx => ∃ k : Nat, k ≤ m ∧ i = .int .i64 k ∧ GRel (T + 2) (.pointer (some ⟨T + 1, 0, none⟩)) (.slice (some ⟨w.heap.size, 0, none⟩) n n) w3 k wx) (fun i _ => m - (intOf i).toNat)
          case atStart => exact ⟨0, Nat.zero_le _, rfl, Below.refl _ _, none, 0, [], kC, World.ownsRow_nil _ _ _ _, by simp⟩
          case round =>
            obtain ⟨k, hk, rfl, hrel⟩ := hrel
            by_cases hlt : k < m
            · obtain ⟨hb, ao, cap, ps, hC, hown, hps⟩ := hrel
              have c8 : wr.cell? ⟨T + 2, 8, none⟩ = some (.slice ao k cap) := (hC.cell 8).trans rfl
              have ha : ∀ o, (wr.alloc o).cell? ⟨T + 2, 8, none⟩ = some (.slice ao k cap) := fun o => ((hC.alloc o).cell 8).trans rfl
              obtain ⟨i0, hi, hz0, hz1, hz2⟩ := info_parts info104
              go_wp2_with (at_builtin; refine wpList_append_own _ rfl _ _ 99 rfl (T + 2 + 1) 104 i0 (.pointer none) 1 8 Yba.underlying99 hi hz0 hz1 hz2 rfl (by decide) _ _ ps rfl ((hown.alloc _).alloc _) ⟨wr.heap.size + 1, 0, none⟩ 1 1 [.pointer (some ⟨wr.heap.size, 0, none⟩)] rfl rfl ?c1 ?c2 ?c3 ?c4 ?c5 ?_)
              case c1 =>
                intro j u hj
                match j, hj with
                | 0, hj => simp at hj; subst hj; simp [Addr.add]
              case c2 => intro u hu; simp at hu; subst hu; rfl
              case c3 => unfold maxLen; omega
              case c4 => omega
              case c5 => have := hC.lt; simp; omega
              intro v' w4 hown' hgr _
              obtain ⟨⟨ao', cap', rfl⟩, hC1, R⟩ := grel_step hb hC hown hps hown' hgr
              have q1 : w4.cell? ⟨T + 2, 8, none⟩ = some (.slice ao k cap) := (hC1.cell 8).trans rfl
              have q2 := hC1.frozen 8
              have HR : Hid (GRel (T + 2) (.pointer (some ⟨T + 1, 0, none⟩)) (.slice (some ⟨w.heap.size, 0, none⟩) n n) w3 (k + 1) (w4.setCell ⟨T + 2, 8, none⟩ (.slice ao' (k + 1) cap'))) := R
              clear R hC1 hgr hown' hb hC hown hps c8 ha hi hz0 hz1 hz2
              go_wp2_with fail
              go_roundw
              case rel => exact ⟨k + 1, by omega, by go_num, HR.out⟩
              case measure => simp [intOf]; omega
            · obtain rfl : m = k := by omega
              obtain ⟨hb, ao, cap, ps, hC, hown, hps⟩ := hrel
              clear hlt hk
              have hpl : ps.length = m := by have := hown.1; omega
              have hmk3 := run_make_row' (P := Yba.prog) 99 104 (.pointer none) 8 Yba.underlying99 info104 rfl .i64 .i64 m (by omega) (by omega)
              have c8 : ∀ o, (wr.alloc o).cell? ⟨T + 2, 8, none⟩ = some (.slice ao m cap) := fun o => ((hC.alloc o).cell 8).trans rfl
              have hOB := Blk.new wr (madeCells #[.pointer none] m) 104
              go_wp2_with (with_reducible refine wpList_copy_at _ _ 99 99 104 Yba.underlying99 ?q0 (some ⟨wr.heap.size, 0, none⟩) ao m m m cap ?qa ?qb wr.heap.size 0 _ 104 hOB ps ?q2 ?q3 ?q4 ?q5 ?_)
              case q0 => kernel_rfl
              case qa => rfl
              case qb => rfl
              case q2 => rw [hpl]; exact (Nat.min_self m).symm
              case q3 =>
                intro hp
                rcases hown.2 with ⟨e, e0⟩ | ⟨g, cap', cur, e, _⟩
                · omega
                · injection e with e1
                  subst e1
                  refine ⟨_, rfl, fun j v hj => ?_⟩
                  exact (hown.alloc _).cells rfl j v hj
              case q4 => rw [hpl]; simp [size_madeCells]
              case q5 => intro v hv; obtain ⟨p, rfl⟩ := hps v hv; rfl
              intro w4 oc hoc hos hog hgr
              have hlt := hC.lt
              have hne : ∀ b, b < wr.heap.size → some b ≠ some wr.heap.size := fun b hb e => by have := Option.some.inj e; omega
              have kT4 := ((kT.below hb (by omega)).alloc (.cells (madeCells #[.pointer none] m) 104)).kept hgr (hne _ (by omega))
              have kS4 := ((kS.below hb (by omega)).alloc (.cells (madeCells #[.pointer none] m) 104)).kept hgr (hne _ (by omega))
              have kC4 := (hC.alloc (.cells (madeCells #[.pointer none] m) 104)).kept hgr (hne _ (by omega))
              have kNB4 := ((kNB.below hb (by omega)).alloc (.cells (madeCells #[.pointer none] m) 104)).kept hgr (hne _ (by omega))
              have kN4 := ((kN.below hb (by omega)).alloc (.cells (madeCells #[.pointer none] m) 104)).kept hgr (hne _ (by omega))
              have kG4 := ((kG.below hb (by omega)).alloc (.cells (madeCells #[.pointer none] m) 104)).kept hgr (hne _ (by omega))
              have hown4 := (hown.alloc (.cells (madeCells #[.pointer none] m) 104)).kept hgr (by
                rcases hown.2 with ⟨e, e0⟩ | ⟨g, cap', cur, e, h1, h2, _⟩
                · left; rw [e]; rfl
                · right; rw [e]; intro h; have := (Array.getElem?_eq_some_iff.1 h2).1; have : g = wr.heap.size := Option.some.inj h; omega)
              have kB4 : Below w.heap.size w w4 := ((kB.trans (hb.mono (by omega))).alloc (by omega) _).grown hgr (by simp; omega) (by intro j hj; have := Option.some.inj hj; omega)
              have hog' : ∀ i, i < m → oc[i]? = ps[i]? := fun i hi => by rw [hog i, if_pos (by omega)]; simp
              clear hog hgr hne hb hC hown kT kS kC kNB kN kG kB hmk3 c8 hOB kz
              obtain ⟨OB, hOBe⟩ : ∃ OB, OB = wr.heap.size := ⟨_, rfl⟩
              rw [← hOBe] at hlt hoc
              rw [← hOBe]
              have HNN : Hid (oc.size = (madeCells #[Value.pointer none] m).size) := hos
              clear hOBe hos
              go_wp2_with fail
              refine (leave_any (T + 2) (T + 1) T N w.heap.size NB n (Z 0) a1 w4 hn1 hn2 ((kC4.cell 0).trans rfl) ((kC4.cell 2).trans rfl) ((kS4.cell 0).trans rfl) ((kS4.cell 9).trans rfl) ((kT4.cell 5).trans rfl) ((kT4.cell 7).trans rfl) ((kG4.cell 0).trans (hZc 0 (by omega))) (kG4.frozen 0) ((kNB4.cell 0).trans hN0)
                ((kN4.cell 3).trans rfl) (kN4.frozen 3) ((kN4.cell 5).trans rfl) ((kN4.cell 10).trans rfl) (by omega) (by omega) (by omega) (by omega) kN4.lt).mono ?_
              rintro e w5 ⟨rfl, hw5⟩
              have kC5 : Blk w5 (T + 2) (cCells (.pointer (some ⟨T + 1, 0, none⟩)) (.slice (some ⟨w.heap.size, 0, none⟩) n n) (.slice ao m cap)) 103 := by
                rw [← hw5]; exact (((kC4.setOther (show T + 2 ≠ w.heap.size by omega) _).setOther (show T + 2 ≠ N by omega) _).setOther (show T + 2 ≠ N by omega) _).alloc _
              have kG5 : Blk w5 w.heap.size (gc.setIfInBounds 0 (.int .u64 (IntKind.u64.wrap (Z 0 + 1)))) 23 := by
                rw [← hw5]; exact (((kG4.set 0 _).setOther (show w.heap.size ≠ N by omega) _).setOther (show w.heap.size ≠ N by omega) _).alloc _
              have kO5 : Blk w5 OB oc 104 := by
                rw [← hw5]; exact (((hoc.setOther (show OB ≠ w.heap.size by omega) _).setOther (show OB ≠ N by omega) _).setOther (show OB ≠ N by omega) _).alloc _
              have hown5 : w5.ownsRow (T + 2 + 1) 104 1 (.slice ao m cap) m ps := by
                rw [← hw5]; exact (ownsRow_setCell_below (ownsRow_setCell_below (ownsRow_setCell_below hown4 (show w.heap.size < T + 2 + 1 by omega) _) (show N < T + 2 + 1 by omega) _) (show N < T + 2 + 1 by omega) _).alloc _
              have kB5 : Below w.heap.size w w5 := by
                rw [← hw5]
                have h4 := kN4.lt
                exact (((kB4.setCell (Nat.le_refl _) _).setCell (show w.heap.size ≤ N by omega) _).setCell (show w.heap.size ≤ N by omega) _).alloc (by simp [World.setCell]; omega) _
              clear hw5 kC4 kG4 hoc hown4 kB4 kT4 kS4 kNB4 kN4
              have g0 : (gc.setIfInBounds 0 (.int .u64 (IntKind.u64.wrap (Z 0 + 1))))[0]? = some (.int .u64 (IntKind.u64.wrap (Z 0 + 1))) := by
                rw [Array.getElem?_setIfInBounds, if_pos rfl, if_pos (by omega)]
              have gk : ∀ k, 1 ≤ k → k < n → (gc.setIfInBounds 0 (.int .u64 (IntKind.u64.wrap (Z 0 + 1))))[k]? = some (.int .u64 (Z k)) := by
                intro k h1 h2
                rw [Array.getElem?_setIfInBounds, if_neg (by omega)]; exact hZc k h2
              have d2 : w5.cell? ⟨T + 2, 2, none⟩ = some (.slice (some ⟨w.heap.size, 0, none⟩) n n) := (kC5.cell 2).trans rfl
              have d8 : w5.cell? ⟨T + 2, 8, none⟩ = some (.slice ao m cap) := (kC5.cell 8).trans rfl
              have dg0 : w5.cell? ⟨w.heap.size, 0, none⟩ = some (.int .u64 (IntKind.u64.wrap (Z 0 + 1))) := (kG5.cell 0).trans g0
              clear hZc hN0
              go_wp2_with fail
              go_loopw [17] (fun i wx => ∃ k : Nat, 1 ≤ k ∧ k ≤ n ∧ i = .int .i64 k ∧ wx.Alike w5 ∧ wx.tape = w5.tape) (fun i _ => n - (intOf i).toNat)
              case atStart => exact ⟨1, by omega, hn1, rfl, World.Alike.refl _, rfl⟩
              case round =>
                obtain ⟨k, hk1, hk, rfl, hal⟩ := hrel
                by_cases hlt : k < n
                · obtain ⟨b, off, rfl, hb, hc⟩ := HS.out (by omega)
                  have x1 : wr.cell? ⟨b, off + k, none⟩ = some (.int .u64 (Z k)) := (hal.1.cell _).trans ((kB5.cell (p := ⟨b, off + k, none⟩) hb).trans (hc k (by omega)))
                  have x2 : wr.cell? ⟨w.heap.size, k, none⟩ = some (.int .u64 (Z k)) := (hal.1.cell _).trans ((kG5.cell k).trans (gk k hk1 hlt))
                  have x3 : wr.cell? ⟨T + 2, 2, none⟩ = some (.slice (some ⟨w.heap.size, 0, none⟩) n n) := (hal.1.cell _).trans d2
                  have x4 : (k : Int) < (n : Int) := by omega
                  have x5 : (k : Int) < (len0 : Int) := by omega
                  have HA : Hid (wr.Alike w5 ∧ wr.tape = w5.tape) := hal
                  clear hal hc d2 d8 dg0 gk g0
                  go_wp2_with fail
                  go_quiet (fail)
                  go_wp2_with fail
                  go_roundw
                  case rel => exact ⟨k + 1, by omega, by omega, by go_num, World.Alike.trans (World.drewN_alike _ _) HA.out.1, HA.out.2⟩
                  case measure => simp [intOf]; omega
                · have x8 : wr.cell? ⟨T + 2, 8, none⟩ = some (.slice ao m cap) := (hal.1.cell _).trans d8
                  go_wp2_with fail
                  obtain ⟨w6, rfl⟩ : ∃ w6 : World, w6 = wr := ⟨_, rfl⟩
                  go_loopw [18] (fun i wx => ∃ k : Nat, k ≤ m ∧ i = .int .i64 k ∧ wx.Alike w5 ∧ wx.tape = w5.tape) (fun i _ => m - (intOf i).toNat)
                  case atStart => exact ⟨0, by omega, rfl, hal⟩
                  case round =>
                    clear hal
                    obtain ⟨j, hj, rfl, hal⟩ := hrel
                    by_cases hjm : j < m
                    · rcases hown5.2 with ⟨_, e0⟩ | ⟨g, cap', cur, e, _⟩
                      · omega
                      obtain ⟨rfl, -, rfl⟩ := Value.slice.inj e
                      clear e
                      obtain ⟨p, hp⟩ := hps ps[j] (List.getElem_mem _)
                      have hpj : ps[j]? = some (.pointer (some ⟨p, 0, none⟩)) := by rw [List.getElem?_eq_getElem (by omega), hp]
                      have x1 : wr.cell? ⟨g, j, none⟩ = some (.pointer (some ⟨p, 0, none⟩)) := (hal.1.cell _).trans (by
                        have := hown5.cells (g := g) rfl j _ hpj
                        have e : (⟨g, 0, none⟩ : Addr).add j = ⟨g, j, none⟩ := by unfold Addr.add; split <;> simp_all
                        rwa [e] at this)
                      have x2 : wr.cell? ⟨OB, j, none⟩ = some (.pointer (some ⟨p, 0, none⟩)) := (hal.1.cell _).trans ((kO5.cell j).trans ((hog' j hjm).trans hpj))
                      have x3 : wr.cell? ⟨T + 2, 8, none⟩ = some (.slice (some ⟨g, 0, none⟩) m cap) := (hal.1.cell _).trans d8
                      have x4 : (j : Int) < (m : Int) := by omega
                      have HA : Hid (wr.Alike w5 ∧ wr.tape = w5.tape) := hal
                      have hneq := neq104 ⟨p, 0, none⟩
                      clear hal d2 d8 dg0 gk g0 x8 hp hpj hown5 hog' hps
                      go_wp2_with fail
                      go_quiet (fail)
                      go_wp2_with fail
                      go_roundw
                      case rel => exact ⟨j + 1, by omega, by go_num, World.Alike.trans (World.drewN_alike _ _) HA.out.1, HA.out.2⟩
                      case measure => simp [intOf]; omega
                    · go_wp2_with fail
                      go_ret
                      exact ⟨rfl, kB5.trans ⟨hal.1.2.1, hal.2, hal.1.2.2, Nat.le_of_eq hal.1.size.symm, fun _ _ => by rw [hal.1.1]⟩⟩

/-! ### THE ROW's STEP: WRITTEN OUT: LEAVE IT -/
set_option maxRecDepth 100000 in
theorem lifted (os : Os) (started : os.Started) (H : Type) (enc : TypeId × Value → H) :
    ReturnsInHanded {} Yba.checked os 3 .any (Rows.lawS2305AGenBumpSpec.pre6 enc Yba.prog Yba.f3 Rows.lawS2305AGenBumpRow.domain false) (Rows.lawS2305AGenBumpSpec.post enc Yba.prog Yba.f3 false true false false) := by
  refine returnsInHanded_of_change (C := Yba.checked) own started (by kernel_rfl) Yba.func3
    (ChangeSpec.witness6 (enc := enc) (C := Yba.checked) false ⟨#[], #[.slice none 0 0, .int .i64 0, .int .u8 0], []⟩ 8 (by kernel_rfl) (by kernel_rfl) (by kernel_rfl) (by kernel_rfl)) ?_
  intro W base args ds gs before hval0 hW hcnd _
  have hval : ∀ (j : Nat) t v, Yba.f3.params[j]? = some t → args[j]? = some v → Value.okWide Yba.prog W .any base t v := hval0
  have hW' := hW
  obtain ⟨p, q, hA0, hV, rfl, hfz, hnd⟩ := hW
  have hA : DataW.TrodAll enc Yba.prog W 0 (fun _ => true) true Yba.f3.params.toList args.toList ds p := hA0
  rw [Yba.params3] at hA hval
  obtain ⟨v0, vs0, d0, ds0, p0, q0, hargs, rfl, rfl, h0, r0⟩ := trodAll_cons hA
  obtain ⟨v1, vs1, d1, ds1, p1, q1, rfl, rfl, rfl, h1, r1⟩ := trodAll_cons r0
  obtain ⟨v2, vs2, d2, ds2, p2, q2, rfl, rfl, rfl, h2, r2⟩ := trodAll_cons r1
  obtain ⟨rfl, rfl, rfl⟩ := trodAll_nil r2
  obtain rfl : args = #[v0, v1, v2] := by cases args; simp_all
  obtain ⟨rfl, rfl⟩ := trodVars_none hV
  obtain ⟨a0, len0, cap0, rfl⟩ := okWide_slice Yba.underlying22 (hval 0 22 v0 rfl rfl)
  have k0 := h0
  have lt0 : ∀ x ∈ p0, x.block < W.heap.size := by obtain ⟨m, hm⟩ := k0; exact DataW.trod_lt m _ _ _ hm
  obtain ⟨z0, w0⟩ : ∃ zs, IsRow .u64 W a0 len0 cap0 zs := by
    obtain ⟨fuel, hf⟩ := h0
    rcases open_ints Yba.underlying22 Yba.underlying23 (by kernel_rfl) hf with ⟨hcs, _⟩ | ⟨x, l, c, zs, hcs, _, hl, hm, hz, _, hcell, hwz⟩
    · simp [Value.cells] at hcs
      obtain ⟨rfl, rfl, rfl⟩ := hcs
      exact ⟨[], .inl ⟨rfl, rfl, rfl, rfl⟩⟩
    · simp [Value.cells] at hcs
      obtain ⟨rfl, rfl, rfl⟩ := hcs
      exact ⟨zs, .inr ⟨_, rfl, hl, hm, by simpa using hz, hcell, hwz⟩⟩
  obtain ⟨a1, rfl, rfl, rfl, w1⟩ := open_int Yba.underlying3 (hval 1 3 v1 rfl rfl) h1
  obtain ⟨a2, rfl, rfl, rfl, w2⟩ := open_int Yba.underlying5 (hval 2 5 v2 rfl rfl) h2
  clear hA0 hval0
  refine (walk a0 len0 cap0 z0 a1 a2 W w0 w1 w2).mono fun e W' ⟨he, bel⟩ => ?_
  subst he
  exact ⟨_, rfl, _, _, _, [], _, [], hW', trodAll_mk1 (shut_bool Yba.underlying4 _), (trodAll_cons_mk (Below.trod laidOut (by kernel_rfl) (of_decide_eq_true (by kernel_rfl)) k0 bel lt0) (trodAll_cons_mk (shut_int Yba.underlying3 w1) (trodAll_cons_mk (shut_int Yba.underlying5 w2) trodAll_mk0))), rfl, bel.frame _, fun h => by cases h⟩

theorem over : Rows.lawS2305AGenBumpRow.holds Yba.pinned (OpenSpec.ofChange Rows.lawS2305AGenBumpSpec) :=
  OpenClaim.holds_of_wide 3 Yba.f3 rfl rfl rfl rfl rfl rfl rfl ⟨rfl, rfl, rfl, rfl, rfl⟩ rfl rfl rfl rfl rfl (by kernel_rfl) Yba.func3 (by kernel_rfl)
    (of_decide_eq_true (by kernel_rfl)) (by unfold Func.isWrapper; first | (rw [if_pos (by decide +kernel)]; kernel_rfl) | (rw [if_neg (by decide +kernel)]; exact ⟨rfl, rfl⟩))
    (fun os started H enc _ => lifted os started H enc)

/-- ████ THE STATEMENT ████ -/
theorem proved : Rows.LawS2305AGenBumpSaid := over
#print axioms proved
end Go.Proofs.Ybulkause.lawS2305AGenBump
