/-
  The walk of newest, whose second list is one entry.
-/
import Derived.Test.YbulkausePut
import Derived.Laws.MakeOwn
namespace Go.Proofs.Ybulkause
open Go.RowKit Go.Deep

theorem slice_tail {w : World} {g o ca : Nat} {a : Mb} {rest : List Mb} (h : MRow w (some ⟨g, o, none⟩) (a :: rest)) (hl : (a :: rest).length ≤ ca) : MRow w (if ca = 1 then some ⟨g, o, none⟩ else some ⟨g, o + 3, none⟩) rest := by
  by_cases hc : ca = 1
  · intro h2
    simp at hl
    omega
  · rw [if_neg hc]; exact h.drop
theorem alloc_ge (x : World) (k : Nat) (o : Obj) : x.heap.size ≤ ((x.drewN k).alloc o).heap.size := by simp [World.alloc, World.drewN]
theorem below_drawn {B : Nat} {w x : World} (h : Below B w x) (k : Nat) : Below B w (x.drewN k) := below_to_drawn h ⟨rfl, rfl, rfl, rfl⟩
/-- behind an append to a row of one's own -/
theorem below_grow {B : Nat} {w x w2 y : World} {v : Value} {k : Nat} {l : List Value} (hb : Below B w x) (hB : B ≤ x.heap.size) (hg : x.grownBy w2 v.ownBlock) (ho : y.ownsRow B 106 3 v k l) : Below B w w2 := by
  refine hb.trans ⟨hg.os, hg.tape, hg.output, hg.size, fun j hj => hg.block j (Nat.lt_of_lt_of_le hj hB) (fun e => ?_)⟩
  obtain ⟨_, ⟨rfl, _⟩ | ⟨g, cap, cur, rfl, hbg, _⟩⟩ := ho
  · simp [Value.ownBlock] at e
  · simp [Value.ownBlock] at e; omega
theorem below_app {B : Nat} {w x w2 : World} {v : Value} {k n : Nat} {l : List Value} {o : Obj} (hb : Below B w x) (hB : B ≤ x.heap.size) (hg : ((x.drewN n).alloc o).grownBy w2 v.ownBlock) (ho : x.ownsRow B 106 3 v k l) : Below B w w2 :=
  below_grow ((below_drawn hb n).alloc hB _) (Nat.le_trans hB (alloc_ge _ _ _)) hg ho

/-- the second list: one entry, or done -/
def OneB (gb : Nat) (b : Bool) (u : Value) : Prop := if b then ∃ bo cb, u = .slice bo 0 cb else u = .slice (some ⟨gb, 0, none⟩) 1 1
def NewRel (gb : Nat) (xs : List Mb) (s : Mb) (w : World) (gk : Nat) (u0 u1 u5 : Value) (wx : World) : Prop :=
  ∃ (ys : List Mb) (ao' : Option Addr) (ca' : Nat) (b : Bool) (out : List Mb), gk = ys.length + (if b then 0 else 1) ∧ u0 = .slice ao' ys.length ca' ∧ ys.length ≤ ca' ∧ ca' ≤ maxLen ∧ MRow w ao' ys ∧ OneB gb b u1 ∧
    wx.ownsRow w.heap.size 106 3 u5 out.length (mcells out) ∧ out.length + gk ≤ 2000 ∧ out ++ left1 s b ys = put1 s xs ∧ Below w.heap.size w wx

def NewPost (xs : List Mb) (s : Mb) (w : World) (e : Ending) (w' : World) : Prop := ∃ v n, e = .returned v ∧ w'.ownsRow w.heap.size 106 3 v n (mcells (put1 s xs)) ∧ Below w.heap.size w w'

set_option linter.unusedSimpArgs false in
set_option maxHeartbeats 800000 in
set_option maxRecDepth 100000 in
theorem newest_any (ao : Option Addr) (ca gb : Nat) (xs : List Mb) (s : Mb) (w : World) (hl : xs.length ≤ 1024) (hca : xs.length ≤ ca) (hc2 : ca ≤ maxLen) (hR : MRow w ao xs) (hS : MAt w gb 0 s) (hgb : gb < w.heap.size) :
    Calls Yba.prog 28 #[.slice ao xs.length ca, .slice (some ⟨gb, 0, none⟩) 1 1] w fun e w' => NewPost xs s w e w' := by
  obtain ⟨ti, z, hi, hz, hs3, hb24, hz3⟩ := info106'
  obtain ⟨wm, hr, hown0, hg0⟩ := run_make_own (P := Yba.prog) w w.heap.size 120 106 ti z 3 Yba.underlying120 hi hz hs3 .i64 .i64 (xs.length + 1) (by rw [hb24]; omega) (by unfold maxLen; omega) (Nat.le_refl _)
  rw [show ((xs.length + 1 : Nat) : Int) = (xs.length : Int) + 1 by omega] at hr
  have HI : Hid (Yba.prog.info? 106 = some ti ∧ ti.zero = some z ∧ ti.size = 3 ∧ ti.bytes = 24 ∧ z.cells.size = 3) := ⟨hi, hz, hs3, hb24, hz3⟩
  have HO0 : Hid (wm.ownsRow w.heap.size 106 3 (.slice (some ⟨w.heap.size, 0, none⟩) 0 (xs.length + 1)) 0 []) := hown0
  have HB0 : Hid (Below w.heap.size w wm) := ⟨hg0.os, hg0.tape, hg0.output, hg0.size, fun k hk => hg0.block k hk (by simp)⟩
  have HR : Hid (MRow w ao xs) := hR
  have HS : Hid (MAt w gb 0 s) := hS
  have HC : Hid (xs.length ≤ ca ∧ ca ≤ maxLen) := ⟨hca, hc2⟩
  clear hi hz hs3 hb24 hz3 hown0 hg0 hR hS hca hc2
  go_enter Yba.func28, Yba.ntmps28
  go_wp2_with fail
  clear hr
  go_loopg [0, 1, 5] (xs.length + 1) (fun gk u0 u1 u5 wx => NewRel gb xs s w gk u0 u1 u5 wx)
  case atStart => exact ⟨xs, ao, ca, false, [], by simp, rfl, HC.out.1, HC.out.2, HR.out, by simp [OneB], HO0.out, by simp; omega, by simp [left1], HB0.out⟩
  case round =>
    obtain ⟨ys, ao', ca', b, out, hgk, rfl, hle, hc2, hR, hone, hown, hlen, hrest, hb⟩ := hrel
    have HO : Hid (wr.ownsRow w.heap.size 106 3 u5 out.length (mcells out)) := hown
    have HB : Hid (Below w.heap.size w wr) := hb
    have HRS : Hid (out ++ left1 s b ys = put1 s xs) := hrest
    have HGK : Hid (gk = ys.length + (if b then 0 else 1)) := hgk
    have HLE : Hid (ys.length ≤ ca' ∧ ca' ≤ maxLen ∧ out.length + gk ≤ 2000) := ⟨hle, hc2, hlen⟩
    have HMR : Hid (MRow w ao' ys) := hR
    have s0 : wr.cell? ⟨gb, 0, none⟩ = some (.int .i64 s.id) := (cell_below hb hgb _).trans HS.out.1
    have s1 : wr.cell? ⟨gb, 1, none⟩ = some (.int .i64 s.idx) := (cell_below hb hgb _).trans HS.out.2.1
    have s2 : wr.cell? ⟨gb, 2, none⟩ = some (.int .u64 s.seq) := (cell_below hb hgb _).trans HS.out.2.2
    have hlb : gb < wr.heap.size := Nat.lt_of_lt_of_le hgb HB.out.size
    clear hgk hle hc2 hR hown hlen hrest hb
    obtain ⟨n, hn⟩ : ∃ n, n = ys.length := ⟨_, rfl⟩
    rw [← hn]
    have HN : Hid (n = ys.length) := hn
    clear hn
    cases b
    · obtain rfl : u1 = .slice (some ⟨gb, 0, none⟩) 1 1 := by simpa [OneB] using hone
      clear hone
      cases ys with
      | nil =>
        obtain rfl : n = 0 := HN.out
        go_upto_region 7 with fail
        go_quiet (fail)
        go_upto_region 9 with fail
        go_quiet (fail)
        go_upto_region 10 with fail
        go_region_held3 (fun w' => w'.cell? ⟨gb, 0, none⟩ = some (.int .i64 s.id) ∧ w'.cell? ⟨gb, 1, none⟩ = some (.int .i64 s.idx) ∧ w'.cell? ⟨gb, 2, none⟩ = some (.int .u64 s.seq)) (first | go_keep | (have hb2 := below_app HB.out HB.out.size grow2 HO.out; exact ⟨(cell_below hb2 hgb _).trans HS.out.1, (cell_below hb2 hgb _).trans HS.out.2.1, (cell_below hb2 hgb _).trans HS.out.2.2⟩)) (first | (refine step_append_lies _ (by rfl) _ _ _ (by rfl) w.heap.size 106 ti z 3 24 Yba.underlying120 HI.out.1 HI.out.2.1 HI.out.2.2.1 HI.out.2.2.2.1 HI.out.2.2.2.2 (by omega) u5 out.length (mcells out) (by rfl) (owns_kept HO.out (fun g hg => by exact Below.heap_alloc _ _ _ hg)) ⟨wr.heap.size, 0, none⟩ 1 1 [.int .i64 s.id, .int .i64 s.idx, .int .u64 s.seq] (by rfl) (by rfl) (by exact news3 _ _ rfl _ _ _) (by simp; exact ⟨rfl, rfl, rfl⟩) (by omega) (by have := HLE.out.2.2; unfold maxLen; omega) (by have := HLE.out.2.2; omega) (Nat.le_trans HB.out.size (alloc_ge _ _ _)) _ (by rfl) ?_; intro g2 cap2 w2 own2 grow2 hat2 hlt2))
        go_wp2_with fail
        have hnn := HN.out
        have hkk := HGK.out
        have hll := HLE.out
        simp only [List.length_cons, List.length_nil, if_true, if_false, Bool.false_eq_true] at hnn hkk hll
        have e1 : gk - 1 = ([] : List Mb).length + (if true then 0 else 1) := by simp only [List.length_cons, List.length_nil, if_true, if_false, Bool.false_eq_true]; omega
        have e4 : (out ++ [s]).length + (gk - 1) ≤ 2000 := by simp only [List.length_append, List.length_cons, List.length_nil]; omega
        go_roundg (gk - 1)
        case measure => omega
        case rel => exact ⟨[], _, _, true, out ++ [s], e1, by rw [HN.out], HLE.out.1, by omega, HMR.out, by unfold OneB; exact ⟨_, _, rfl⟩, by rw [mcells_snoc, List.length_append]; exact own2, e4, by rw [← HRS.out, show left1 s false [] = [s] from rfl]; simp [left1], below_app HB.out HB.out.size grow2 HO.out⟩
      | cons a rest =>
        obtain ⟨g, o, rfl, hg, hm⟩ := HMR.out (by simp)
        have hma := hm 0 a rfl
        rw [Nat.zero_mul, Nat.add_zero] at hma
        have HA : Hid (MAt w g o a) := hma
        have c0 : wr.cell? ⟨g, o, none⟩ = some (.int .i64 a.id) := (cell_below HB.out hg _).trans hma.1
        have c1 : wr.cell? ⟨g, o + 1, none⟩ = some (.int .i64 a.idx) := (cell_below HB.out hg _).trans hma.2.1
        have c2 : wr.cell? ⟨g, o + 2, none⟩ = some (.int .u64 a.seq) := (cell_below HB.out hg _).trans hma.2.2
        have hlg : g < wr.heap.size := Nat.lt_of_lt_of_le hg HB.out.size
        have n0 : (0 : Int) < (n : Int) := by have := HN.out; simp at this; omega
        have n1 : (1 : Int) ≤ (n : Int) := by omega
        have m0 : 0 < n := by omega
        have yn : decide (0 < n) = true := by simp [m0]
        have yz : ((n : Int) == 0) = false := by simp; omega
        have n2 : (n : Int) ≤ (ca' : Int) := by have := HN.out; have := HLE.out.1; omega
        clear hma hm
        by_cases h1 : a.id < s.id
        · have H1 : Hid (a.id < s.id) := h1
          have y1 : decide (a.id < s.id) = true := by simp [h1]
          go_upto_region 7 with fail
          go_quiet (fail)
          go_upto_region 8 with fail
          go_region_held3 (fun w' => w'.cell? ⟨g, o, none⟩ = some (.int .i64 a.id) ∧ w'.cell? ⟨g, o + 1, none⟩ = some (.int .i64 a.idx) ∧ w'.cell? ⟨g, o + 2, none⟩ = some (.int .u64 a.seq)) (first | go_keep | (have hb2 := below_app HB.out HB.out.size grow2 HO.out; exact ⟨(cell_below hb2 hg _).trans HA.out.1, (cell_below hb2 hg _).trans HA.out.2.1, (cell_below hb2 hg _).trans HA.out.2.2⟩)) (first | (refine step_append_lies _ (by rfl) _ _ _ (by rfl) w.heap.size 106 ti z 3 24 Yba.underlying120 HI.out.1 HI.out.2.1 HI.out.2.2.1 HI.out.2.2.2.1 HI.out.2.2.2.2 (by omega) u5 out.length (mcells out) (by rfl) (owns_kept HO.out (fun g hg => by exact Below.heap_alloc _ _ _ hg)) ⟨wr.heap.size, 0, none⟩ 1 1 [.int .i64 a.id, .int .i64 a.idx, .int .u64 a.seq] (by rfl) (by rfl) (by exact news3 _ _ rfl _ _ _) (by simp; exact ⟨rfl, rfl, rfl⟩) (by omega) (by have := HLE.out.2.2; unfold maxLen; omega) (by have := HLE.out.2.2; omega) (Nat.le_trans HB.out.size (alloc_ge _ _ _)) _ (by rfl) ?_; intro g2 cap2 w2 own2 grow2 hat2 hlt2))
          obtain ⟨ap, hap⟩ : ∃ ap : Option Addr, ap = (if ca' = 1 then some ⟨g, o, none⟩ else some ⟨g, o + 3, none⟩) := ⟨_, rfl⟩
          rw [← hap]
          have HAP : Hid (MRow w ap rest) := (by rw [hap]; exact slice_tail HMR.out HLE.out.1)
          clear hap
          go_wp2_with fail
          have hnn := HN.out
          have hkk := HGK.out
          have hll := HLE.out
          simp only [List.length_cons, List.length_nil, if_true, if_false, Bool.false_eq_true] at hnn hkk hll
          have e1 : gk - 1 = (rest : List Mb).length + (if false then 0 else 1) := by simp only [List.length_cons, List.length_nil, if_true, if_false, Bool.false_eq_true]; omega
          have e2 : n - 1 = rest.length := by omega
          have e3 : rest.length ≤ ca' - 1 := by omega
          have e4 : (out ++ [a]).length + (gk - 1) ≤ 2000 := by simp only [List.length_append, List.length_cons, List.length_nil]; omega
          go_roundg (gk - 1)
          case measure => omega
          case rel => exact ⟨rest, _, _, false, out ++ [a], e1, by rw [e2], e3, by omega, HAP.out, by unfold OneB; rfl, by rw [mcells_snoc, List.length_append]; exact own2, e4, by rw [← HRS.out, show left1 s false (a :: rest) = a :: left1 s false rest from put1_lt H1.out]; simp [left1], below_app HB.out HB.out.size grow2 HO.out⟩
        · have H1 : Hid (¬ a.id < s.id) := h1
          have y1 : decide (a.id < s.id) = false := by simp [h1]
          by_cases h2 : s.id < a.id
          · have H2 : Hid (s.id < a.id) := h2
            have y2 : decide (s.id < a.id) = true := by simp [h2]
            clear h1
            go_upto_region 7 with fail
            go_quiet (fail)
            go_upto_region 9 with fail
            go_quiet (fail)
            go_upto_region 10 with fail
            go_region_held3 (fun w' => w'.cell? ⟨gb, 0, none⟩ = some (.int .i64 s.id) ∧ w'.cell? ⟨gb, 1, none⟩ = some (.int .i64 s.idx) ∧ w'.cell? ⟨gb, 2, none⟩ = some (.int .u64 s.seq)) (first | go_keep | (have hb2 := below_app HB.out HB.out.size grow2 HO.out; exact ⟨(cell_below hb2 hgb _).trans HS.out.1, (cell_below hb2 hgb _).trans HS.out.2.1, (cell_below hb2 hgb _).trans HS.out.2.2⟩)) (first | (refine step_append_lies _ (by rfl) _ _ _ (by rfl) w.heap.size 106 ti z 3 24 Yba.underlying120 HI.out.1 HI.out.2.1 HI.out.2.2.1 HI.out.2.2.2.1 HI.out.2.2.2.2 (by omega) u5 out.length (mcells out) (by rfl) (owns_kept HO.out (fun g hg => by exact Below.heap_alloc _ _ _ hg)) ⟨wr.heap.size, 0, none⟩ 1 1 [.int .i64 s.id, .int .i64 s.idx, .int .u64 s.seq] (by rfl) (by rfl) (by exact news3 _ _ rfl _ _ _) (by simp; exact ⟨rfl, rfl, rfl⟩) (by omega) (by have := HLE.out.2.2; unfold maxLen; omega) (by have := HLE.out.2.2; omega) (Nat.le_trans HB.out.size (alloc_ge _ _ _)) _ (by rfl) ?_; intro g2 cap2 w2 own2 grow2 hat2 hlt2))
            go_wp2_with fail
            have hnn := HN.out
            have hkk := HGK.out
            have hll := HLE.out
            simp only [List.length_cons, List.length_nil, if_true, if_false, Bool.false_eq_true] at hnn hkk hll
            have e1 : gk - 1 = (a :: rest : List Mb).length + (if true then 0 else 1) := by simp only [List.length_cons, List.length_nil, if_true, if_false, Bool.false_eq_true]; omega
            have e4 : (out ++ [s]).length + (gk - 1) ≤ 2000 := by simp only [List.length_append, List.length_cons, List.length_nil]; omega
            go_roundg (gk - 1)
            case measure => omega
            case rel => exact ⟨a :: rest, _, _, true, out ++ [s], e1, by rw [HN.out], HLE.out.1, by omega, HMR.out, by unfold OneB; exact ⟨_, _, rfl⟩, by rw [mcells_snoc, List.length_append]; exact own2, e4, by rw [← HRS.out, show left1 s false (a :: rest) = s :: left1 s true (a :: rest) from put1_gt H2.out]; simp [left1], below_app HB.out HB.out.size grow2 HO.out⟩
          · have H2 : Hid (¬ s.id < a.id) := h2
            have y2 : decide (s.id < a.id) = false := by simp [h2]
            have HE : Hid (s.id = a.id) := (by show _ = _; omega)
            clear h1 h2
            go_upto_region 7 with fail
            go_quiet (fail)
            go_upto_region 9 with fail
            go_quiet (fail)
            go_upto_region 3 with fail
            by_cases h3 : s.seq ≤ a.seq
            · have H3 : Hid (s.seq ≤ a.seq) := h3
              have y3 : decide (s.seq ≤ a.seq) = true := by simp [h3]
              go_quiet (fail)
              go_wp2_with (at_builtin; refine wpList_append_lies _ rfl _ _ _ rfl w.heap.size 106 ti z 3 24 Yba.underlying120 HI.out.1 HI.out.2.1 HI.out.2.2.1 HI.out.2.2.2.1 HI.out.2.2.2.2 (by omega) u5 out.length (mcells out) rfl (owns_kept HO.out (fun g hg => by exact Below.heap_alloc _ _ _ hg)) ⟨wr.heap.size, 0, none⟩ 1 1 [.int .i64 a.id, .int .i64 a.idx, .int .u64 a.seq] rfl rfl (by exact news3 _ _ rfl _ _ _) (by simp; exact ⟨rfl, rfl, rfl⟩) (by omega) (by have := HLE.out.2.2; unfold maxLen; omega) (by have := HLE.out.2.2; omega) (Nat.le_trans HB.out.size (alloc_ge _ _ _)) _ rfl ?_)
              intro g2 cap2 w2 own2 grow2 hat2 hlt2
              go_upto_region 6 with fail
              go_quiet (fail)
              obtain ⟨ap, hap⟩ : ∃ ap : Option Addr, ap = (if ca' = 1 then some ⟨g, o, none⟩ else some ⟨g, o + 3, none⟩) := ⟨_, rfl⟩
              rw [← hap]
              have HAP : Hid (MRow w ap rest) := (by rw [hap]; exact slice_tail HMR.out HLE.out.1)
              clear hap
              go_wp2_with fail
              have hnn := HN.out
              have hkk := HGK.out
              have hll := HLE.out
              simp only [List.length_cons, List.length_nil, if_true, if_false, Bool.false_eq_true] at hnn hkk hll
              have e1 : gk - 2 = (rest : List Mb).length + (if true then 0 else 1) := by simp only [List.length_cons, List.length_nil, if_true, if_false, Bool.false_eq_true]; omega
              have e2 : n - 1 = rest.length := by omega
              have e3 : rest.length ≤ ca' - 1 := by omega
              have e4 : (out ++ [a]).length + (gk - 2) ≤ 2000 := by simp only [List.length_append, List.length_cons, List.length_nil]; omega
              go_roundg (gk - 2)
              case measure => omega
              case rel => exact ⟨rest, _, _, true, out ++ [a], e1, by rw [e2], e3, by omega, HAP.out, by unfold OneB; exact ⟨_, _, rfl⟩, by rw [mcells_snoc, List.length_append]; exact own2, e4, by rw [← HRS.out, show left1 s false (a :: rest) = a :: left1 s true rest from put1_eq_a HE.out H3.out]; simp [left1], below_drawn (below_app HB.out HB.out.size grow2 HO.out) _⟩
            · have H3 : Hid (¬ s.seq ≤ a.seq) := h3
              have y3 : decide (s.seq ≤ a.seq) = false := by simp [h3]
              go_quiet (fail)
              go_wp2_with (at_builtin; refine wpList_append_lies _ rfl _ _ _ rfl w.heap.size 106 ti z 3 24 Yba.underlying120 HI.out.1 HI.out.2.1 HI.out.2.2.1 HI.out.2.2.2.1 HI.out.2.2.2.2 (by omega) u5 out.length (mcells out) rfl (owns_kept HO.out (fun g hg => by exact Below.heap_alloc _ _ _ hg)) ⟨wr.heap.size, 0, none⟩ 1 1 [.int .i64 s.id, .int .i64 s.idx, .int .u64 s.seq] rfl rfl (by exact news3 _ _ rfl _ _ _) (by simp; exact ⟨rfl, rfl, rfl⟩) (by omega) (by have := HLE.out.2.2; unfold maxLen; omega) (by have := HLE.out.2.2; omega) (Nat.le_trans HB.out.size (alloc_ge _ _ _)) _ rfl ?_)
              intro g2 cap2 w2 own2 grow2 hat2 hlt2
              go_upto_region 6 with fail
              go_quiet (fail)
              obtain ⟨ap, hap⟩ : ∃ ap : Option Addr, ap = (if ca' = 1 then some ⟨g, o, none⟩ else some ⟨g, o + 3, none⟩) := ⟨_, rfl⟩
              rw [← hap]
              have HAP : Hid (MRow w ap rest) := (by rw [hap]; exact slice_tail HMR.out HLE.out.1)
              clear hap
              go_wp2_with fail
              have hnn := HN.out
              have hkk := HGK.out
              have hll := HLE.out
              simp only [List.length_cons, List.length_nil, if_true, if_false, Bool.false_eq_true] at hnn hkk hll
              have e1 : gk - 2 = (rest : List Mb).length + (if true then 0 else 1) := by simp only [List.length_cons, List.length_nil, if_true, if_false, Bool.false_eq_true]; omega
              have e2 : n - 1 = rest.length := by omega
              have e3 : rest.length ≤ ca' - 1 := by omega
              have e4 : (out ++ [s]).length + (gk - 2) ≤ 2000 := by simp only [List.length_append, List.length_cons, List.length_nil]; omega
              go_roundg (gk - 2)
              case measure => omega
              case rel => exact ⟨rest, _, _, true, out ++ [s], e1, by rw [e2], e3, by omega, HAP.out, by unfold OneB; exact ⟨_, _, rfl⟩, by rw [mcells_snoc, List.length_append]; exact own2, e4, by rw [← HRS.out, show left1 s false (a :: rest) = s :: left1 s true rest from put1_eq_s HE.out (by have := H3.out; omega)]; simp [left1], below_drawn (below_app HB.out HB.out.size grow2 HO.out) _⟩
    · obtain ⟨bo, cb, rfl⟩ : ∃ bo cb, u1 = .slice bo 0 cb := by simpa [OneB] using hone
      clear hone
      cases ys with
      | nil =>
        obtain rfl : n = 0 := HN.out
        go_wp2_with fail
        go_ret
        have e := HRS.out
        simp only [left1, if_true, List.append_nil] at e
        exact ⟨_, _, rfl, by rw [← e]; exact HO.out, HB.out⟩
      | cons a rest =>
        obtain ⟨g, o, rfl, hg, hm⟩ := HMR.out (by simp)
        have hma := hm 0 a rfl
        rw [Nat.zero_mul, Nat.add_zero] at hma
        have HA : Hid (MAt w g o a) := hma
        have c0 : wr.cell? ⟨g, o, none⟩ = some (.int .i64 a.id) := (cell_below HB.out hg _).trans hma.1
        have c1 : wr.cell? ⟨g, o + 1, none⟩ = some (.int .i64 a.idx) := (cell_below HB.out hg _).trans hma.2.1
        have c2 : wr.cell? ⟨g, o + 2, none⟩ = some (.int .u64 a.seq) := (cell_below HB.out hg _).trans hma.2.2
        have hlg : g < wr.heap.size := Nat.lt_of_lt_of_le hg HB.out.size
        have n0 : (0 : Int) < (n : Int) := by have := HN.out; simp at this; omega
        have n1 : (1 : Int) ≤ (n : Int) := by omega
        have m0 : 0 < n := by omega
        have yn : decide (0 < n) = true := by simp [m0]
        have n2 : (n : Int) ≤ (ca' : Int) := by have := HN.out; have := HLE.out.1; omega
        clear hma hm
        go_upto_region 7 with fail
        go_quiet (fail)
        go_upto_region 8 with fail
        go_region_held3 (fun w' => w'.cell? ⟨g, o, none⟩ = some (.int .i64 a.id) ∧ w'.cell? ⟨g, o + 1, none⟩ = some (.int .i64 a.idx) ∧ w'.cell? ⟨g, o + 2, none⟩ = some (.int .u64 a.seq)) (first | go_keep | (have hb2 := below_app HB.out HB.out.size grow2 HO.out; exact ⟨(cell_below hb2 hg _).trans HA.out.1, (cell_below hb2 hg _).trans HA.out.2.1, (cell_below hb2 hg _).trans HA.out.2.2⟩)) (first | (refine step_append_lies _ (by rfl) _ _ _ (by rfl) w.heap.size 106 ti z 3 24 Yba.underlying120 HI.out.1 HI.out.2.1 HI.out.2.2.1 HI.out.2.2.2.1 HI.out.2.2.2.2 (by omega) u5 out.length (mcells out) (by rfl) (owns_kept HO.out (fun g hg => by exact Below.heap_alloc _ _ _ hg)) ⟨wr.heap.size, 0, none⟩ 1 1 [.int .i64 a.id, .int .i64 a.idx, .int .u64 a.seq] (by rfl) (by rfl) (by exact news3 _ _ rfl _ _ _) (by simp; exact ⟨rfl, rfl, rfl⟩) (by omega) (by have := HLE.out.2.2; unfold maxLen; omega) (by have := HLE.out.2.2; omega) (Nat.le_trans HB.out.size (alloc_ge _ _ _)) _ (by rfl) ?_; intro g2 cap2 w2 own2 grow2 hat2 hlt2))
        obtain ⟨ap, hap⟩ : ∃ ap : Option Addr, ap = (if ca' = 1 then some ⟨g, o, none⟩ else some ⟨g, o + 3, none⟩) := ⟨_, rfl⟩
        rw [← hap]
        have HAP : Hid (MRow w ap rest) := (by rw [hap]; exact slice_tail HMR.out HLE.out.1)
        clear hap
        go_wp2_with fail
        have hnn := HN.out
        have hkk := HGK.out
        have hll := HLE.out
        simp only [List.length_cons, List.length_nil, if_true, if_false, Bool.false_eq_true] at hnn hkk hll
        have e1 : gk - 1 = (rest : List Mb).length + (if true then 0 else 1) := by simp only [List.length_cons, List.length_nil, if_true, if_false, Bool.false_eq_true]; omega
        have e2 : n - 1 = rest.length := by omega
        have e3 : rest.length ≤ ca' - 1 := by omega
        have e4 : (out ++ [a]).length + (gk - 1) ≤ 2000 := by simp only [List.length_append, List.length_cons, List.length_nil]; omega
        go_roundg (gk - 1)
        case measure => omega
        case rel => exact ⟨rest, _, _, true, out ++ [a], e1, by rw [e2], e3, by omega, HAP.out, by unfold OneB; exact ⟨_, _, rfl⟩, by rw [mcells_snoc, List.length_append]; exact own2, e4, by rw [← HRS.out, show left1 s true (a :: rest) = a :: left1 s true rest from rfl]; simp [left1], below_app HB.out HB.out.size grow2 HO.out⟩
end Go.Proofs.Ybulkause
