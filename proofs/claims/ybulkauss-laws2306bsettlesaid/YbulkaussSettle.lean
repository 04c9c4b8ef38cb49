/-
  The walk of ringNode.settleBatches.
-/
import Derived.Test.YbulkaussNode
import Derived.BigQuiet
import Derived.Deep.QuietTactic
import Derived.Deep.RegionHeld3
namespace Go.Proofs.Ybulkauss
open Go.RowKit Go.Deep

/-- a peer in six cells from off on -/
def PrAt (nc : Array Value) (off : Nat) (x : Int) : Prop :=
  nc[off]? = some (.int .u64 0) ∧ nc[off + 1]? = some (.int .u64 x) ∧ nc[off + 2]? = some (.int .u64 0) ∧ nc[off + 3]? = some (.int .u64 0) ∧ nc[off + 4]? = some (.pointer none) ∧ nc[off + 5]? = some (.int .u16 0)

/-- what is told of a lane -/
structure Lane where
  tgt : Int
  sq : Int
  qo : Option Addr
  nq : Nat
  eo : Option Addr
  ne : Nat
  akTo : Int
  ak : Int

/-- a lane in the cells from o on -/
def LaneIs (nc : Array Value) (o : Nat) (l : Lane) : Prop :=
  nc[o + 6]? = some (.slice l.qo l.nq l.nq) ∧ PrAt nc (o + 7) l.tgt ∧ nc[o + 13]? = some (.int .u8 l.sq) ∧ nc[o + 14]? = some (.slice l.eo l.ne l.ne) ∧ PrAt nc (o + 33) l.akTo ∧ nc[o + 39]? = some (.int .u8 l.ak)

theorem PrAt.congr {nc nc' : Array Value} {o : Nat} {x : Int} (h : PrAt nc o x) (e : ∀ k, o ≤ k → k < o + 6 → nc'[k]? = nc[k]?) : PrAt nc' o x :=
  ⟨(e _ (by omega) (by omega)).trans h.1, (e _ (by omega) (by omega)).trans h.2.1, (e _ (by omega) (by omega)).trans h.2.2.1, (e _ (by omega) (by omega)).trans h.2.2.2.1, (e _ (by omega) (by omega)).trans h.2.2.2.2.1, (e _ (by omega) (by omega)).trans h.2.2.2.2.2⟩
theorem LaneIs.congr {nc nc' : Array Value} {o : Nat} {l : Lane} (h : LaneIs nc o l) (e : ∀ k, o ≤ k → k < o + 40 → nc'[k]? = nc[k]?) : LaneIs nc' o l :=
  ⟨(e _ (by omega) (by omega)).trans h.1, h.2.1.congr (fun k h1 h2 => e k (by omega) (by omega)), (e _ (by omega) (by omega)).trans h.2.2.1, (e _ (by omega) (by omega)).trans h.2.2.2.1, h.2.2.2.2.1.congr (fun k h1 h2 => e k (by omega) (by omega)), (e _ (by omega) (by omega)).trans h.2.2.2.2.2⟩
theorem At.congr {nc nc' : Array Value} {o : Nat} {T : Int} (h : At nc o T) (e : ∀ k, o ≤ k → k < o + 3 → nc'[k]? = nc[k]?) : At nc' o T :=
  ⟨(e _ (by omega) (by omega)).trans h.1, (e _ (by omega) (by omega)).trans h.2.1, (e _ (by omega) (by omega)).trans h.2.2⟩

/-- is the batch that waits acknowledged? -/
def clr (l : Lane) (x a : Int) : Bool := decide (0 < l.ne) && l.tgt == x && l.sq == a
/-- the lane behind that -/
def settle (l : Lane) (x a : Int) : Lane := if clr l x a then { l with eo := none, ne := 0 } else l
/-- does it call for a keep-alive? -/
def trg (l : Lane) (x a : Int) : Bool := clr l x a && decide (0 < l.nq)
/-- the two times, behind a call for a keep-alive at t or none -/
def nxB (b : Bool) (t nx : Int) : Int := if b then minT t nx else nx
def duB (b : Bool) (t nx du : Int) : Int := if b then dueT t nx du else du

theorem minT_minT (t nx : Int) (b : Bool) : minT t (nxB b t nx) = minT t nx := by
  cases b
  · rfl
  · unfold nxB minT; simp only [if_true]; split <;> simp_all
theorem dueT_dueT (t nx du : Int) (b : Bool) : dueT t (nxB b t nx) (duB b t nx du) = dueT t nx du := by
  cases b
  · rfl
  · unfold nxB duB dueT minT
    simp only [if_true]
    by_cases h1 : t < nx
    · rw [if_pos h1, if_neg (by omega)]
    · rw [if_neg h1, if_neg (fun h => h1 h.1), if_neg (fun h => h1 h.1)]

theorem settle_no {l : Lane} {x a : Int} (h : clr l x a = false) : settle l x a = l ∧ trg l x a = false := by
  unfold settle trg; rw [h]; exact ⟨rfl, rfl⟩
theorem settle_yes {l : Lane} {x a : Int} (h : clr l x a = true) : settle l x a = { l with eo := none, ne := 0 } ∧ trg l x a = decide (0 < l.nq) := by
  unfold settle trg; rw [h]; exact ⟨rfl, by rw [Bool.true_and]⟩

/-- behind the store of nil into the lane's batch -/
theorem lane_clear {nc : Array Value} {o : Nat} {l : Lane} (h : LaneIs nc o l) : LaneIs (nc.setIfInBounds (o + 14) (.slice none 0 0)) o { l with eo := none, ne := 0 } := by
  have e : ∀ k, k ≠ o + 14 → (nc.setIfInBounds (o + 14) (.slice none 0 0))[k]? = nc[k]? := fun k hk => by rw [Array.getElem?_setIfInBounds, if_neg (fun h => hk h.symm)]
  have hlt : o + 14 < nc.size := (Array.getElem?_eq_some_iff.1 h.2.2.2.1).1
  refine ⟨(e _ (by omega)).trans h.1, h.2.1.congr (fun k h1 h2 => e k (by omega)), (e _ (by omega)).trans h.2.2.1, ?_, h.2.2.2.2.1.congr (fun k h1 h2 => e k (by omega)), (e _ (by omega)).trans h.2.2.2.2.2⟩
  rw [Array.getElem?_setIfInBounds, if_pos rfl, if_pos hlt]

/-- the node has its cells, and those of the lanes are one value each -/
def Sz (nc : Array Value) : Prop := nc.size = 267 ∧ ∀ k, 74 ≤ k → k < 154 → ∃ v, nc[k]? = some v ∧ v.oneCell' = true
theorem Sz.set {nc : Array Value} (h : Sz nc) (i : Nat) {v : Value} (hv : v.oneCell' = true) : Sz (nc.setIfInBounds i v) := by
  refine ⟨by simpa using h.1, fun k h1 h2 => ?_⟩
  rw [Array.getElem?_setIfInBounds]
  by_cases hk : i = k
  · rw [if_pos hk, if_pos (by have := h.1; omega)]; exact ⟨v, rfl, hv⟩
  · rw [if_neg hk]; exact h.2 k h1 h2
theorem Sz.congr {nc nc' : Array Value} (h : Sz nc) (hs : nc'.size = 267) (e : ∀ k, 3 ≤ k → k < 235 → nc'[k]? = nc[k]?) : Sz nc' :=
  ⟨hs, fun k h1 h2 => by rw [e k (by omega) (by omega)]; exact h.2 k h1 h2⟩

/-- the node behind k lanes: lanes l0, l1 as they stand, the times -/
def NodeIs (w0 : World) (N : Nat) (l0 l1 : Lane) (nx du : Int) (wr : World) : Prop :=
  w0.grownBy wr (some N) ∧ ∃ nc, Blk wr N nc 115 ∧ Sz nc ∧ LaneIs nc 74 l0 ∧ LaneIs nc 114 l1 ∧ At nc 235 nx ∧ At nc 0 du

/-- lane 0 | 1 behind k rounds -/
def laneK (k j : Nat) (l : Lane) (x a : Int) : Lane := if j < k then settle l x a else l
def trgK (k : Nat) (l0 l1 : Lane) (x a : Int) : Bool := (decide (0 < k) && trg l0 x a) || (decide (1 < k) && trg l1 x a)

theorem eq29 (w : World) : (Op.equalIn 9996 29 (.pointer none) (.pointer none)).run Yba.prog w = .ok true w := by kernel_rfl

theorem _root_.Go.World.grownBy.drawnR {w v : World} {row : Option Nat} (h : w.grownBy v row) (q : Nat) : w.grownBy (v.drewN q) row := ⟨h.os, h.tape, h.output, h.size, h.block⟩
theorem NodeIs.drawn {w0 v x : World} {N : Nat} {l0 l1 : Lane} {nx du : Int} (h : NodeIs w0 N l0 l1 nx du v) (hx : x.heap = v.heap ∧ x.os = v.os ∧ x.tape = v.tape ∧ x.output = v.output) : NodeIs w0 N l0 l1 nx du x := by
  obtain ⟨hg, nc, h1, h2⟩ := h
  exact ⟨⟨hx.2.1.trans hg.os, hx.2.2.1.trans hg.tape, hx.2.2.2.trans hg.output, by rw [hx.1]; exact hg.size, fun k hk hne => by rw [hx.1]; exact hg.block k hk hne⟩, nc, h1.of_block (by rw [hx.1]), h2⟩

/-- the store of nil into lane j's batch -/
theorem node_clear {w0 v : World} {N : Nat} {l0 l1 : Lane} {nx du : Int} {nc : Array Value} (hg : w0.grownBy v (some N)) (jN : Blk v N nc 115) (jsz : Sz nc) (jl0 : LaneIs nc 74 l0) (jl1 : LaneIs nc 114 l1) (jx : At nc 235 nx) (jd : At nc 0 du) :
    NodeIs w0 N { l0 with eo := none, ne := 0 } l1 nx du (v.setCell ⟨N, 88, none⟩ (.slice none 0 0)) ∧ NodeIs w0 N l0 { l1 with eo := none, ne := 0 } nx du (v.setCell ⟨N, 128, none⟩ (.slice none 0 0)) := by
  have hgs : ∀ c, w0.grownBy (v.setCell ⟨N, c, none⟩ (.slice none 0 0)) (some N) := fun c => ⟨hg.os, hg.tape, hg.output, by rw [size_setCell']; exact hg.size, fun k hk hne => by
    rw [Below.heap_setCell _ _ _ _ (fun e => hne (by rw [e]))]; exact hg.block k hk hne⟩
  have e : ∀ c k, k ≠ c → (nc.setIfInBounds c (.slice none 0 0))[k]? = nc[k]? := fun c k hk => by rw [Array.getElem?_setIfInBounds, if_neg (fun h => hk h.symm)]
  refine ⟨⟨hgs 88, _, jN.set 88 _, jsz.set _ rfl, lane_clear (o := 74) jl0, jl1.congr (fun k h1 h2 => e 88 k (by omega)), jx.congr (fun k h1 h2 => e 88 k (by omega)), jd.congr (fun k h1 h2 => e 88 k (by omega))⟩,
    ⟨hgs 128, _, jN.set 128 _, jsz.set _ rfl, jl0.congr (fun k h1 h2 => e 128 k (by omega)), lane_clear (o := 114) jl1, jx.congr (fun k h1 h2 => e 128 k (by omega)), jd.congr (fun k h1 h2 => e 128 k (by omega))⟩⟩

/-- behind keepAliveBy -/
theorem node_alive {w0 v v' : World} {N : Nat} {l0 l1 : Lane} {nx du t : Int} {nc nc' : Array Value} (hg : w0.grownBy v (some N)) (js : Sz nc) (jl0 : LaneIs nc 74 l0) (jl1 : LaneIs nc 114 l1)
    (k1 : Blk v' N nc' 115) (k2 : nc'.size = 267) (k3 : At nc' 235 (minT t nx)) (k4 : At nc' 0 (dueT t nx du)) (k5 : ∀ k, 3 ≤ k → k < 235 → nc'[k]? = nc[k]?) (k6 : v.grownBy v' (some N)) :
    NodeIs w0 N l0 l1 (minT t nx) (dueT t nx du) v' :=
  ⟨⟨k6.os.trans hg.os, k6.tape.trans hg.tape, k6.output.trans hg.output, Nat.le_trans hg.size k6.size, fun k hk hne => (k6.block k (Nat.lt_of_lt_of_le hk hg.size) hne).trans (hg.block k hk hne)⟩,
    nc', k1, js.congr k2 k5, jl0.congr (fun k h1 h2 => k5 k (by omega) (by omega)), jl1.congr (fun k h1 h2 => k5 k (by omega) (by omega)), k3, k4⟩

theorem nodeIs_eq {w0 v : World} {N : Nat} {l0 l1 l0' l1' : Lane} {nx du nx' du' : Int} (h : NodeIs w0 N l0 l1 nx du v) (e0 : l0 = l0') (e1 : l1 = l1') (e2 : nx = nx') (e3 : du = du') : NodeIs w0 N l0' l1' nx' du' v := by
  subst e0 e1 e2 e3; exact h

/-- the seven cells of an acknowledgement laid anew -/
def acked (nc : Array Value) (o : Nat) (x ba : Int) : Array Value := (((((((nc.setIfInBounds (o + 33) (.int .u64 0)).setIfInBounds (o + 34) (.int .u64 x)).setIfInBounds (o + 35) (.int .u64 0)).setIfInBounds (o + 36) (.int .u64 0)).setIfInBounds (o + 37) (.pointer none)).setIfInBounds (o + 38) (.int .u16 0)).setIfInBounds (o + 39) (.int .u8 ba))

theorem acked_far {nc : Array Value} {o k : Nat} {x ba : Int} (h : k < o + 33 ∨ o + 39 < k) : (acked nc o x ba)[k]? = nc[k]? := by
  unfold acked
  simp only [Array.getElem?_setIfInBounds]
  rw [if_neg (by omega), if_neg (by omega), if_neg (by omega), if_neg (by omega), if_neg (by omega), if_neg (by omega), if_neg (by omega)]
theorem acked_size (nc : Array Value) (o : Nat) (x ba : Int) : (acked nc o x ba).size = nc.size := by unfold acked; simp
theorem lane_ack {nc : Array Value} {o : Nat} {l : Lane} (x ba : Int) (h : LaneIs nc o l) : LaneIs (acked nc o x ba) o { l with akTo := x, ak := ba } := by
  have e : ∀ k, (k < o + 33 ∨ o + 39 < k) → (acked nc o x ba)[k]? = nc[k]? := fun k hk => acked_far hk
  have hlt : o + 39 < nc.size := (Array.getElem?_eq_some_iff.1 h.2.2.2.2.2).1
  refine ⟨(e _ (by omega)).trans h.1, h.2.1.congr (fun k h1 h2 => e k (by omega)), (e _ (by omega)).trans h.2.2.1, (e _ (by omega)).trans h.2.2.2.1, ⟨?_, ?_, ?_, ?_, ?_, ?_⟩, ?_⟩
  all_goals (unfold acked; simp [Array.getElem?_setIfInBounds]; omega)

/-- a lane behind an acknowledgement or none -/
def ack1 (b : Bool) (x ba : Int) (l : Lane) : Lane := if b then { l with akTo := x, ak := ba } else l
/-- a lane behind the settling or none -/
def laneF (f : Bool) (l : Lane) (x a : Int) : Lane := if f then settle l x a else l
/-- what stands behind settleBatches -/
def Settled (w : World) (N : Nat) (l0 l1 : Lane) (nx du t x fl ac ba : Int) (mn : Nat) (w' : World) : Prop :=
  NodeIs w N (ack1 (decide (0 < mn) && (bits BinOp.and IntKind.u8 fl 1 == 0)) x ba (laneF (bits BinOp.and IntKind.u8 fl 8 != 0) l0 x ac))
    (ack1 (decide (0 < mn) && !(bits BinOp.and IntKind.u8 fl 1 == 0)) x ba (laneF (bits BinOp.and IntKind.u8 fl 8 != 0) l1 x ac))
    (nxB ((bits BinOp.and IntKind.u8 fl 8 != 0) && (trg l0 x ac || trg l1 x ac)) t nx) (duB ((bits BinOp.and IntKind.u8 fl 8 != 0) && (trg l0 x ac || trg l1 x ac)) t nx du) w'

theorem settled_of {w v1 w' : World} {N : Nat} {l0 l1 a0 a1 : Lane} {nx du t x fl ac ba nx' du' : Int} {mn : Nat} {f : Bool} (kg : w.grownBy v1 (some N)) (h : NodeIs v1 N a0 a1 nx' du' w')
    (hf : f = (bits BinOp.and IntKind.u8 fl 8 != 0)) (e0 : a0 = ack1 (decide (0 < mn) && (bits BinOp.and IntKind.u8 fl 1 == 0)) x ba (laneK (if f then 2 else 0) 0 l0 x ac))
    (e1 : a1 = ack1 (decide (0 < mn) && !(bits BinOp.and IntKind.u8 fl 1 == 0)) x ba (laneK (if f then 2 else 0) 1 l1 x ac))
    (e2 : nx' = nxB (f && trgK 2 l0 l1 x ac) t nx) (e3 : du' = duB (f && trgK 2 l0 l1 x ac) t nx du) : Settled w N l0 l1 nx du t x fl ac ba mn w' := by
  have t2 : trgK 2 l0 l1 x ac = (trg l0 x ac || trg l1 x ac) := by simp [trgK]
  have L0 : laneK (if f then 2 else 0) 0 l0 x ac = laneF f l0 x ac := by cases f <;> simp [laneK, laneF]
  have L1 : laneK (if f then 2 else 0) 1 l1 x ac = laneF f l1 x ac := by cases f <;> simp [laneK, laneF]
  unfold Settled
  rw [← hf, ← t2, ← L0, ← L1]
  obtain ⟨hg, nc, hh⟩ := nodeIs_eq h e0 e1 e2 e3
  exact ⟨⟨hg.os.trans kg.os, hg.tape.trans kg.tape, hg.output.trans kg.output, Nat.le_trans kg.size hg.size, fun k hk hne => (hg.block k (Nat.lt_of_lt_of_le hk kg.size) hne).trans (kg.block k hk hne)⟩, nc, hh⟩

theorem grownBy_set {v1 v : World} {N : Nat} (hg : v1.grownBy v (some N)) (c : Nat) (u : Value) : v1.grownBy (v.setCell ⟨N, c, none⟩ u) (some N) :=
  ⟨hg.os, hg.tape, hg.output, by rw [size_setCell']; exact hg.size, fun k hk hne => by
    rw [Below.heap_setCell _ _ _ _ (fun e => hne (by rw [e]))]; exact hg.block k hk hne⟩

theorem node_ack0 {w0 v : World} {N : Nat} {l0 l1 : Lane} {nx du : Int} {nc : Array Value} (x ba : Int) (hg : w0.grownBy v (some N)) (jN : Blk v N nc 115) (jsz : Sz nc) (jl0 : LaneIs nc 74 l0) (jl1 : LaneIs nc 114 l1) (jx : At nc 235 nx) (jd : At nc 0 du) :
    NodeIs w0 N { l0 with akTo := x, ak := ba } l1 nx du (((((((v.setCell ⟨N, 107, none⟩ (.int .u64 0)).setCell ⟨N, 108, none⟩ (.int .u64 x)).setCell ⟨N, 109, none⟩ (.int .u64 0)).setCell ⟨N, 110, none⟩ (.int .u64 0)).setCell ⟨N, 111, none⟩ (.pointer none)).setCell ⟨N, 112, none⟩ (.int .u16 0)).setCell ⟨N, 113, none⟩ (.int .u8 ba)) :=
  ⟨(grownBy_set (grownBy_set (grownBy_set (grownBy_set (grownBy_set (grownBy_set (grownBy_set hg _ _) _ _) _ _) _ _) _ _) _ _) _ _), acked nc 74 x ba, (((((((jN.set 107 _).set 108 _).set 109 _).set 110 _).set 111 _).set 112 _).set 113 _), by unfold acked; exact ((((((jsz.set _ rfl).set _ rfl).set _ rfl).set _ rfl).set _ rfl).set _ rfl).set _ rfl, lane_ack (o := 74) x ba jl0, jl1.congr (fun k h1 h2 => acked_far (by omega)), jx.congr (fun k h1 h2 => acked_far (by omega)), jd.congr (fun k h1 h2 => acked_far (by omega))⟩

theorem node_ack1 {w0 v : World} {N : Nat} {l0 l1 : Lane} {nx du : Int} {nc : Array Value} (x ba : Int) (hg : w0.grownBy v (some N)) (jN : Blk v N nc 115) (jsz : Sz nc) (jl0 : LaneIs nc 74 l0) (jl1 : LaneIs nc 114 l1) (jx : At nc 235 nx) (jd : At nc 0 du) :
    NodeIs w0 N l0 { l1 with akTo := x, ak := ba } nx du (((((((v.setCell ⟨N, 147, none⟩ (.int .u64 0)).setCell ⟨N, 148, none⟩ (.int .u64 x)).setCell ⟨N, 149, none⟩ (.int .u64 0)).setCell ⟨N, 150, none⟩ (.int .u64 0)).setCell ⟨N, 151, none⟩ (.pointer none)).setCell ⟨N, 152, none⟩ (.int .u16 0)).setCell ⟨N, 153, none⟩ (.int .u8 ba)) :=
  ⟨(grownBy_set (grownBy_set (grownBy_set (grownBy_set (grownBy_set (grownBy_set (grownBy_set hg _ _) _ _) _ _) _ _) _ _) _ _) _ _), acked nc 114 x ba, (((((((jN.set 147 _).set 148 _).set 149 _).set 150 _).set 151 _).set 152 _).set 153 _), by unfold acked; exact ((((((jsz.set _ rfl).set _ rfl).set _ rfl).set _ rfl).set _ rfl).set _ rfl).set _ rfl, jl0.congr (fun k h1 h2 => acked_far (by omega)), lane_ack (o := 114) x ba jl1, jx.congr (fun k h1 h2 => acked_far (by omega)), jd.congr (fun k h1 h2 => acked_far (by omega))⟩
theorem NodeIs.drew {w0 v : World} {N : Nat} {l0 l1 : Lane} {nx du : Int} (h : NodeIs w0 N l0 l1 nx du v) : NodeIs w0 N l0 l1 nx du v.drew := h.drawn ⟨rfl, rfl, rfl, rfl⟩

theorem side_t (w : World) : Calls Yba.prog 9 #[.bool true] w fun e w' => e = .returned (.int .i64 0) ∧ w' = w := by
  go_enter Yba.func9, Yba.ntmps9
  go_wp2
  exact bodyPost_ret (v := .int .i64 0) (by simp [results, Yba.results9, go_sem]) rfl ⟨rfl, rfl⟩
theorem side_f (w : World) : Calls Yba.prog 9 #[.bool false] w fun e w' => e = .returned (.int .i64 1) ∧ w' = w := by
  go_enter Yba.func9, Yba.ntmps9
  go_wp2
  exact bodyPost_ret (v := .int .i64 1) (by simp [results, Yba.results9, go_sem]) rfl ⟨rfl, rfl⟩

set_option maxHeartbeats 1600000 in
set_option maxRecDepth 100000 in
theorem settle_any (N M : Nat) (l0 l1 : Lane) (nx du nw x fl ac ba : Int) (mo : Option Addr) (mn : Nat) (mc : Array Value) (w : World) (hNM : N ≠ M)
    (hN : NodeIs w N l0 l1 nx du w) (hM : Blk w M mc 123) (m3 : mc[3]? = some (.int .u8 fl)) (m17 : mc[17]? = some (.slice mo mn mn)) (m24 : mc[24]? = some (.int .u8 ba)) (m25 : mc[25]? = some (.int .u8 ac))
    (hw1 : -9223372036854775808 ≤ nw) (hw2 : nw ≤ 9223372036854775807) (_hmn : mn ≤ 2) (_hq0 : l0.nq ≤ 2) (_hq1 : l1.nq ≤ 2) (he0 : l0.ne ≤ 2) (he1 : l1.ne ≤ 2) :
    Calls Yba.prog 8 #[.pointer (some ⟨N, 0, none⟩), Tm nw, Pr x, .pointer (some ⟨M, 0, none⟩)] w fun e w' => e = .returned (.tuple #[]) ∧ Settled w N l0 l1 nx du (nw + 20000000) x fl ac ba mn w' := by
  have cm3 : w.cell? ⟨M, 3, none⟩ = some (.int .u8 fl) := (hM.cell 3).trans m3
  have hMlt := hM.lt
  have hNlt : N < w.heap.size := by obtain ⟨_, nc, h, _⟩ := hN; exact h.lt
  have hp29 := eq29
  unfold Tm Pr
  go_enter Yba.func8, Yba.ntmps8
  go_upto_if 17 with fail
  obtain ⟨A, hA⟩ : ∃ A, A = w.heap.size := ⟨_, rfl⟩
  obtain ⟨v1, hv1⟩ : ∃ v1, v1 = (w.alloc (.cells #[.int .u64 (nw % 1000000000), .int .i64 (nw / 1000000000), .pointer none] 43)).alloc (.cells #[.int .u64 0, .int .u64 x, .int .u64 0, .int .u64 0, .pointer none, .int .u16 0] 38) := ⟨_, rfl⟩
  rw [← hv1, ← hA]
  have kA : Blk v1 A #[.int .u64 (nw % 1000000000), .int .i64 (nw / 1000000000), .pointer none] 43 := by rw [hv1, hA]; exact (Blk.new _ _ _).alloc _
  have kX : Blk v1 (A + 1) #[.int .u64 0, .int .u64 x, .int .u64 0, .int .u64 0, .pointer none, .int .u16 0] 38 := by
    rw [hv1]; have := Blk.new (w.alloc (.cells #[.int .u64 (nw % 1000000000), .int .i64 (nw / 1000000000), .pointer none] 43)) #[.int .u64 0, .int .u64 x, .int .u64 0, .int .u64 0, .pointer none, .int .u16 0] 38; simpa [hA] using this
  have kM : Blk v1 M mc 123 := by rw [hv1]; exact (hM.alloc _).alloc _
  have kg : w.grownBy v1 (some N) := by
    rw [hv1]; exact ⟨rfl, rfl, rfl, by simp; omega, fun k hk _ => by rw [Below.heap_alloc _ _ _ (by simp; omega), Below.heap_alloc _ _ _ hk]⟩
  have hN1 : NodeIs v1 N l0 l1 nx du v1 := by
    obtain ⟨_, nc, h1, h2⟩ := hN
    exact ⟨World.grownBy.refl _ _, nc, by rw [hv1]; exact (h1.alloc _).alloc _, h2⟩
  have hNA : N < A := by omega
  have hMA : M < A := by omega
  clear hv1 hA hN cm3 hM hMlt hNlt
  go_cut [] (fun w' => ∃ f : Bool, f = (bits BinOp.and IntKind.u8 fl 8 != 0) ∧ NodeIs v1 N (laneK (if f then 2 else 0) 0 l0 x ac) (laneK (if f then 2 else 0) 1 l1 x ac) (nxB (f && trgK 2 l0 l1 x ac) (nw + 20000000) nx) (duB (f && trgK 2 l0 l1 x ac) (nw + 20000000) nx du) w')
  case first =>
    by_cases hf : (bits BinOp.and IntKind.u8 fl 8 != 0) = true
    · go_wp2_with fail
      have HF : Hid ((bits BinOp.and IntKind.u8 fl 8 != 0) = true) := hf
      rename_i hh
      clear hh hf
      go_loopg [18] 2 (fun g t wx => ∃ k : Nat, k + g = 2 ∧ t = .int .i64 k ∧ NodeIs v1 N (laneK k 0 l0 x ac) (laneK k 1 l1 x ac) (nxB (trgK k l0 l1 x ac) (nw + 20000000) nx) (duB (trgK k l0 l1 x ac) (nw + 20000000) nx du) wx)
      case atStart => exact ⟨0, rfl, rfl, by simpa [laneK, trgK, nxB, duB] using hN1⟩
      case round =>
        obtain ⟨k, hkg, rfl, hg, nc, jN, jsz, jl0, jl1, jx, jd⟩ := hrel
        have jM := kM.kept hg (by intro e; have := Option.some.inj e; omega)
        have jA := kA.kept hg (by intro e; have := Option.some.inj e; omega)
        have jX := kX.kept hg (by intro e; have := Option.some.inj e; omega)
        have e25 : wr.cell? ⟨M, 25, none⟩ = some (.int .u8 ac) := (jM.cell 25).trans m25
        have x0 : wr.cell? ⟨A + 1, 0, none⟩ = some (.int .u64 0) := jX.cell 0
        have x1 : wr.cell? ⟨A + 1, 1, none⟩ = some (.int .u64 x) := jX.cell 1
        have x2 : wr.cell? ⟨A + 1, 2, none⟩ = some (.int .u64 0) := jX.cell 2
        have x3 : wr.cell? ⟨A + 1, 3, none⟩ = some (.int .u64 0) := jX.cell 3
        have x4 : wr.cell? ⟨A + 1, 4, none⟩ = some (.pointer none) := jX.cell 4
        have x5 : wr.cell? ⟨A + 1, 5, none⟩ = some (.int .u16 0) := jX.cell 5
        have a0 : wr.cell? ⟨A, 0, none⟩ = some (.int .u64 (nw % 1000000000)) := jA.cell 0
        have a1 : wr.cell? ⟨A, 1, none⟩ = some (.int .i64 (nw / 1000000000)) := jA.cell 1
        have a2 : wr.cell? ⟨A, 2, none⟩ = some (.pointer none) := jA.cell 2
        have HG : Hid (v1.grownBy wr (some N)) := hg
        clear hN1 kM kA kX hg jX
        by_cases hk0 : k = 0
        · subst hk0
          have E0 : LaneIs nc 74 l0 := by simpa [laneK] using jl0
          have n6 : wr.cell? ⟨N, 80, none⟩ = some (.slice l0.qo l0.nq l0.nq) := (jN.cell 80).trans E0.1
          have n7 : wr.cell? ⟨N, 81, none⟩ = some (.int .u64 0) := (jN.cell 81).trans E0.2.1.1
          have n8 : wr.cell? ⟨N, 82, none⟩ = some (.int .u64 l0.tgt) := (jN.cell 82).trans E0.2.1.2.1
          have n9 : wr.cell? ⟨N, 83, none⟩ = some (.int .u64 0) := (jN.cell 83).trans E0.2.1.2.2.1
          have n10 : wr.cell? ⟨N, 84, none⟩ = some (.int .u64 0) := (jN.cell 84).trans E0.2.1.2.2.2.1
          have n11 : wr.cell? ⟨N, 85, none⟩ = some (.pointer none) := (jN.cell 85).trans E0.2.1.2.2.2.2.1
          have n12 : wr.cell? ⟨N, 86, none⟩ = some (.int .u16 0) := (jN.cell 86).trans E0.2.1.2.2.2.2.2
          have n13 : wr.cell? ⟨N, 87, none⟩ = some (.int .u8 l0.sq) := (jN.cell 87).trans E0.2.2.1
          have n14 : wr.cell? ⟨N, 88, none⟩ = some (.slice l0.eo l0.ne l0.ne) := (jN.cell 88).trans E0.2.2.2.1
          have f14 := jN.frozen 88
          have HNI : Hid (NodeIs v1 N (laneK 0 0 l0 x ac) (laneK 0 1 l1 x ac) (nxB (trgK 0 l0 l1 x ac) (nw + 20000000) nx) (duB (trgK 0 l0 l1 x ac) (nw + 20000000) nx du) wr) := ⟨HG.out, nc, jN, jsz, jl0, jl1, jx, jd⟩
          by_cases hne : 0 < l0.ne
          · have y1 : decide ((0 : Int) < (l0.ne : Int)) = true := by simp; omega
            by_cases ht : l0.tgt = x
            · have y2 : (l0.tgt == x) = true := by simp [ht]
              by_cases hsq : l0.sq = ac
              · have y3 : (l0.sq == ac) = true := by simp [hsq]
                have hc : Hid (clr l0 x ac = true) := by show _ = _; simp [clr, hne, ht, hsq]
                clear ht hsq
                by_cases hq : 0 < l0.nq
                · go_upto_region 7 with fail
                  go_quiet (fail)
                  go_wp2_with fail
                  obtain ⟨g2, nc2, b2, s2, la, lb, tx, td⟩ := (node_clear (v := wr.drewN nq) (HG.out.drawnR nq) jN jsz jl0 jl1 jx jd).1
                  have y2A : Blk ((wr.drewN nq).setCell ⟨N, 88, none⟩ (.slice none 0 0)) A #[.int .u64 (nw % 1000000000), .int .i64 (nw / 1000000000), .pointer none] 43 := Blk.setOther (w := wr.drewN nq) jA (show A ≠ N by omega) _
                  refine (add_any nw 20000000 _ (by omega) (by omega) (by omega) (by omega)).mono ?_
                  rintro e w3 ⟨rfl, hb3⟩
                  have b3 := b2.of_block (hb3.block N b2.lt)
                  go_wp2_with fail
                  refine (keepAlive_any N nc2 (nw + 20000000) _ _ w3 b3 s2.1 td tx).mono ?_
                  rintro e w4 ⟨rfl, nc4, r1, r2, r3, r4, r5, r6⟩
                  have g3 : v1.grownBy w3 (some N) := ⟨hb3.os.trans g2.os, hb3.tape.trans g2.tape, hb3.output.trans g2.output, Nat.le_trans g2.size hb3.size, fun k hk hne => (hb3.block k (Nat.lt_of_lt_of_le hk g2.size)).trans (g2.block k hk hne)⟩
                  have R := node_alive g3 s2 la lb r1 r2 r3 r4 r5 r6
                  rw [minT_minT, dueT_dueT] at R
                  have HR : Hid (NodeIs v1 N _ _ (minT (nw + 20000000) nx) (dueT (nw + 20000000) nx du) w4) := R
                  clear R r1 r2 r3 r4 r5 r6 g3 b3 hb3 y2A g2 b2 s2 la lb tx td
                  go_wp2_with fail
                  go_roundg (gk - 1)
                  case measure => omega
                  case rel => exact ⟨1, by omega, by go_num, nodeIs_eq HR.out (by simp [laneK, (settle_yes hc.out).1]) (by simp [laneK]) (by simp [trgK, (settle_yes hc.out).2, hq, nxB]) (by simp [trgK, (settle_yes hc.out).2, hq, duB])⟩
                · go_upto_region 7 with fail
                  go_quiet (fail)
                  go_wp2_with fail
                  go_roundg (gk - 1)
                  case measure => omega
                  case rel => exact ⟨1, by omega, by go_num, nodeIs_eq ((node_clear (v := wr.drewN _) (HG.out.drawnR _) jN jsz jl0 jl1 jx jd).1) (by simp [laneK, (settle_yes hc.out).1]) (by simp [laneK]) (by simp [trgK, (settle_yes hc.out).2, hq]) (by simp [trgK, (settle_yes hc.out).2, hq])⟩
              · have y3 : (l0.sq == ac) = false := by simp [hsq]
                have hc : Hid (clr l0 x ac = false) := by show _ = _; simp [clr, hsq]
                clear ht hsq
                go_upto_region 7 with fail
                go_quiet (fail)
                go_wp2_with fail
                go_roundg (gk - 1)
                case measure => omega
                case rel => exact ⟨1, by omega, by go_num, nodeIs_eq (HNI.out.drawn ⟨rfl, rfl, rfl, rfl⟩) (by simp [laneK, (settle_no hc.out).1]) (by simp [laneK]) (by simp [trgK, (settle_no hc.out).2]) (by simp [trgK, (settle_no hc.out).2])⟩
            · have y2 : (l0.tgt == x) = false := by simp [ht]
              have hc : Hid (clr l0 x ac = false) := by show _ = _; simp [clr, ht]
              clear ht
              go_upto_region 7 with fail
              go_quiet (fail)
              go_wp2_with fail
              go_roundg (gk - 1)
              case measure => omega
              case rel => exact ⟨1, by omega, by go_num, nodeIs_eq (HNI.out.drawn ⟨rfl, rfl, rfl, rfl⟩) (by simp [laneK, (settle_no hc.out).1]) (by simp [laneK]) (by simp [trgK, (settle_no hc.out).2]) (by simp [trgK, (settle_no hc.out).2])⟩
          · have y1 : decide ((0 : Int) < (l0.ne : Int)) = false := by simp; omega
            have hc : Hid (clr l0 x ac = false) := by show _ = _; simp [clr, hne]
            go_upto_region 7 with fail
            go_quiet (fail)
            go_wp2_with fail
            go_roundg (gk - 1)
            case measure => omega
            case rel => exact ⟨1, by omega, by go_num, nodeIs_eq (HNI.out.drawn ⟨rfl, rfl, rfl, rfl⟩) (by simp [laneK, (settle_no hc.out).1]) (by simp [laneK]) (by simp [trgK, (settle_no hc.out).2]) (by simp [trgK, (settle_no hc.out).2])⟩
        · by_cases hk1 : k = 1
          · subst hk1
            have E0 : LaneIs nc 114 l1 := by simpa [laneK] using jl1
            have n6 : wr.cell? ⟨N, 120, none⟩ = some (.slice l1.qo l1.nq l1.nq) := (jN.cell 120).trans E0.1
            have n7 : wr.cell? ⟨N, 121, none⟩ = some (.int .u64 0) := (jN.cell 121).trans E0.2.1.1
            have n8 : wr.cell? ⟨N, 122, none⟩ = some (.int .u64 l1.tgt) := (jN.cell 122).trans E0.2.1.2.1
            have n9 : wr.cell? ⟨N, 123, none⟩ = some (.int .u64 0) := (jN.cell 123).trans E0.2.1.2.2.1
            have n10 : wr.cell? ⟨N, 124, none⟩ = some (.int .u64 0) := (jN.cell 124).trans E0.2.1.2.2.2.1
            have n11 : wr.cell? ⟨N, 125, none⟩ = some (.pointer none) := (jN.cell 125).trans E0.2.1.2.2.2.2.1
            have n12 : wr.cell? ⟨N, 126, none⟩ = some (.int .u16 0) := (jN.cell 126).trans E0.2.1.2.2.2.2.2
            have n13 : wr.cell? ⟨N, 127, none⟩ = some (.int .u8 l1.sq) := (jN.cell 127).trans E0.2.2.1
            have n14 : wr.cell? ⟨N, 128, none⟩ = some (.slice l1.eo l1.ne l1.ne) := (jN.cell 128).trans E0.2.2.2.1
            have f14 := jN.frozen 128
            have HNI : Hid (NodeIs v1 N (laneK 1 0 l0 x ac) (laneK 1 1 l1 x ac) (nxB (trgK 1 l0 l1 x ac) (nw + 20000000) nx) (duB (trgK 1 l0 l1 x ac) (nw + 20000000) nx du) wr) := ⟨HG.out, nc, jN, jsz, jl0, jl1, jx, jd⟩
            by_cases hne : 0 < l1.ne
            · have y1 : decide ((0 : Int) < (l1.ne : Int)) = true := by simp; omega
              by_cases ht : l1.tgt = x
              · have y2 : (l1.tgt == x) = true := by simp [ht]
                by_cases hsq : l1.sq = ac
                · have y3 : (l1.sq == ac) = true := by simp [hsq]
                  have hc : Hid (clr l1 x ac = true) := by show _ = _; simp [clr, hne, ht, hsq]
                  clear ht hsq
                  by_cases hq : 0 < l1.nq
                  · go_upto_region 7 with fail
                    go_quiet (fail)
                    go_wp2_with fail
                    obtain ⟨g2, nc2, b2, s2, la, lb, tx, td⟩ := (node_clear (v := wr.drewN nq) (HG.out.drawnR nq) jN jsz jl0 jl1 jx jd).2
                    have y2A : Blk ((wr.drewN nq).setCell ⟨N, 128, none⟩ (.slice none 0 0)) A #[.int .u64 (nw % 1000000000), .int .i64 (nw / 1000000000), .pointer none] 43 := Blk.setOther (w := wr.drewN nq) jA (show A ≠ N by omega) _
                    refine (add_any nw 20000000 _ (by omega) (by omega) (by omega) (by omega)).mono ?_
                    rintro e w3 ⟨rfl, hb3⟩
                    have b3 := b2.of_block (hb3.block N b2.lt)
                    go_wp2_with fail
                    refine (keepAlive_any N nc2 (nw + 20000000) _ _ w3 b3 s2.1 td tx).mono ?_
                    rintro e w4 ⟨rfl, nc4, r1, r2, r3, r4, r5, r6⟩
                    have g3 : v1.grownBy w3 (some N) := ⟨hb3.os.trans g2.os, hb3.tape.trans g2.tape, hb3.output.trans g2.output, Nat.le_trans g2.size hb3.size, fun k hk hne => (hb3.block k (Nat.lt_of_lt_of_le hk g2.size)).trans (g2.block k hk hne)⟩
                    have R := node_alive g3 s2 la lb r1 r2 r3 r4 r5 r6
                    rw [minT_minT, dueT_dueT] at R
                    have HR : Hid (NodeIs v1 N _ _ (minT (nw + 20000000) nx) (dueT (nw + 20000000) nx du) w4) := R
                    clear R r1 r2 r3 r4 r5 r6 g3 b3 hb3 y2A g2 b2 s2 la lb tx td
                    go_wp2_with fail
                    go_roundg (gk - 1)
                    case measure => omega
                    case rel => exact ⟨2, by omega, by go_num, nodeIs_eq HR.out (by simp [laneK]) (by simp [laneK, (settle_yes hc.out).1]) (by simp [trgK, (settle_yes hc.out).2, hq, nxB]) (by simp [trgK, (settle_yes hc.out).2, hq, duB])⟩
                  · go_upto_region 7 with fail
                    go_quiet (fail)
                    go_wp2_with fail
                    go_roundg (gk - 1)
                    case measure => omega
                    case rel => exact ⟨2, by omega, by go_num, nodeIs_eq ((node_clear (v := wr.drewN _) (HG.out.drawnR _) jN jsz jl0 jl1 jx jd).2) (by simp [laneK]) (by simp [laneK, (settle_yes hc.out).1]) (by simp [trgK, (settle_yes hc.out).2, hq]) (by simp [trgK, (settle_yes hc.out).2, hq])⟩
                · have y3 : (l1.sq == ac) = false := by simp [hsq]
                  have hc : Hid (clr l1 x ac = false) := by show _ = _; simp [clr, hsq]
                  clear ht hsq
                  go_upto_region 7 with fail
                  go_quiet (fail)
                  go_wp2_with fail
                  go_roundg (gk - 1)
                  case measure => omega
                  case rel => exact ⟨2, by omega, by go_num, nodeIs_eq (HNI.out.drawn ⟨rfl, rfl, rfl, rfl⟩) (by simp [laneK]) (by simp [laneK, (settle_no hc.out).1]) (by simp [trgK, (settle_no hc.out).2]) (by simp [trgK, (settle_no hc.out).2])⟩
              · have y2 : (l1.tgt == x) = false := by simp [ht]
                have hc : Hid (clr l1 x ac = false) := by show _ = _; simp [clr, ht]
                clear ht
                go_upto_region 7 with fail
                go_quiet (fail)
                go_wp2_with fail
                go_roundg (gk - 1)
                case measure => omega
                case rel => exact ⟨2, by omega, by go_num, nodeIs_eq (HNI.out.drawn ⟨rfl, rfl, rfl, rfl⟩) (by simp [laneK]) (by simp [laneK, (settle_no hc.out).1]) (by simp [trgK, (settle_no hc.out).2]) (by simp [trgK, (settle_no hc.out).2])⟩
            · have y1 : decide ((0 : Int) < (l1.ne : Int)) = false := by simp; omega
              have hc : Hid (clr l1 x ac = false) := by show _ = _; simp [clr, hne]
              go_upto_region 7 with fail
              go_quiet (fail)
              go_wp2_with fail
              go_roundg (gk - 1)
              case measure => omega
              case rel => exact ⟨2, by omega, by go_num, nodeIs_eq (HNI.out.drawn ⟨rfl, rfl, rfl, rfl⟩) (by simp [laneK]) (by simp [laneK, (settle_no hc.out).1]) (by simp [trgK, (settle_no hc.out).2]) (by simp [trgK, (settle_no hc.out).2])⟩
          · -- END2
            obtain rfl : k = 2 := by omega
            have R : NodeIs v1 N (laneK 2 0 l0 x ac) (laneK 2 1 l1 x ac) (nxB (trgK 2 l0 l1 x ac) (nw + 20000000) nx) (duB (trgK 2 l0 l1 x ac) (nw + 20000000) nx du) wr := ⟨HG.out, nc, jN, jsz, jl0, jl1, jx, jd⟩
            go_wp2_with fail
            go_meet
            exact ⟨true, HF.out.symm, by simpa using R⟩
    · go_wp2_with fail
      go_meet
      exact ⟨false, by simpa using hf, by simpa [laneK, nxB, duB] using hN1⟩
  case rest =>
    obtain ⟨f, hfe, hg, nc, jN, jsz, jl0, jl1, jx, jd⟩ := hcut
    have jM := kM.kept hg (by intro e; have := Option.some.inj e; omega)
    have jX := kX.kept hg (by intro e; have := Option.some.inj e; omega)
    have e17 : wc.cell? ⟨M, 17, none⟩ = some (.slice mo mn mn) := (jM.cell 17).trans m17
    have e24 : wc.cell? ⟨M, 24, none⟩ = some (.int .u8 ba) := (jM.cell 24).trans m24
    have e3 : wc.cell? ⟨M, 3, none⟩ = some (.int .u8 fl) := (jM.cell 3).trans m3
    have x0 : wc.cell? ⟨A + 1, 0, none⟩ = some (.int .u64 0) := jX.cell 0
    have x1 : wc.cell? ⟨A + 1, 1, none⟩ = some (.int .u64 x) := jX.cell 1
    have x2 : wc.cell? ⟨A + 1, 2, none⟩ = some (.int .u64 0) := jX.cell 2
    have x3 : wc.cell? ⟨A + 1, 3, none⟩ = some (.int .u64 0) := jX.cell 3
    have x4 : wc.cell? ⟨A + 1, 4, none⟩ = some (.pointer none) := jX.cell 4
    have x5 : wc.cell? ⟨A + 1, 5, none⟩ = some (.int .u16 0) := jX.cell 5
    clear hN1 kM kA kX
    by_cases hm : 0 < mn
    · cases hs : (bits BinOp.and IntKind.u8 fl 1 == 0)
      · --F
        have HM : Hid (0 < mn) := hm
        have HS : Hid ((bits BinOp.and IntKind.u8 fl 1 == 0) = false) := hs
        go_upto_region 13 with fail
        go_region_held3 (fun w' => w'.cell? ⟨M, 3, none⟩ = some (.int .u8 fl)) (go_keep) (first | (go_at_call 9; refine (side_f _).mono ?_; rintro e w' ⟨rfl, rfl⟩))
        go_upto_region 14 with fail
        have n0 := (jN.cell 147).trans jl1.2.2.2.2.1.1
        have n1 := (jN.cell 148).trans jl1.2.2.2.2.1.2.1
        have n2 := (jN.cell 149).trans jl1.2.2.2.2.1.2.2.1
        have n3 := (jN.cell 150).trans jl1.2.2.2.2.1.2.2.2.1
        have n4 := (jN.cell 151).trans jl1.2.2.2.2.1.2.2.2.2.1
        have n5 := (jN.cell 152).trans jl1.2.2.2.2.1.2.2.2.2.2
        have n6 := (jN.cell 153).trans jl1.2.2.2.2.2
        have f0 := jN.frozen 147
        have f1 := jN.frozen 148
        have f2 := jN.frozen 149
        have f3 := jN.frozen 150
        have f4 := jN.frozen 151
        have f5 := jN.frozen 152
        have f6 := jN.frozen 153
        have q1 : A + 1 ≠ N := by omega
        have q2 : N ≠ A + 1 := by omega
        go_region_held3 (fun w' => w'.cell? ⟨M, 24, none⟩ = some (.int .u8 ba) ∧ w'.cell? ⟨A + 1, 0, none⟩ = some (.int .u64 0) ∧ w'.cell? ⟨A + 1, 1, none⟩ = some (.int .u64 x) ∧ w'.cell? ⟨A + 1, 2, none⟩ = some (.int .u64 0) ∧ w'.cell? ⟨A + 1, 3, none⟩ = some (.int .u64 0) ∧ w'.cell? ⟨A + 1, 4, none⟩ = some (.pointer none) ∧ w'.cell? ⟨A + 1, 5, none⟩ = some (.int .u16 0)) (go_keep) (fail)
        go_end0
        exact ⟨rfl, settled_of kg ((node_ack1 x ba hg jN jsz jl0 jl1 jx jd).drew.drew) hfe (by simp [ack1, HM.out, HS.out]) (by simp [ack1, HM.out, HS.out]) rfl rfl⟩
      · --T
        have HM : Hid (0 < mn) := hm
        have HS : Hid ((bits BinOp.and IntKind.u8 fl 1 == 0) = true) := hs
        go_upto_region 13 with fail
        go_region_held3 (fun w' => w'.cell? ⟨M, 3, none⟩ = some (.int .u8 fl)) (go_keep) (first | (go_at_call 9; refine (side_t _).mono ?_; rintro e w' ⟨rfl, rfl⟩))
        go_upto_region 14 with fail
        have n0 := (jN.cell 107).trans jl0.2.2.2.2.1.1
        have n1 := (jN.cell 108).trans jl0.2.2.2.2.1.2.1
        have n2 := (jN.cell 109).trans jl0.2.2.2.2.1.2.2.1
        have n3 := (jN.cell 110).trans jl0.2.2.2.2.1.2.2.2.1
        have n4 := (jN.cell 111).trans jl0.2.2.2.2.1.2.2.2.2.1
        have n5 := (jN.cell 112).trans jl0.2.2.2.2.1.2.2.2.2.2
        have n6 := (jN.cell 113).trans jl0.2.2.2.2.2
        have f0 := jN.frozen 107
        have f1 := jN.frozen 108
        have f2 := jN.frozen 109
        have f3 := jN.frozen 110
        have f4 := jN.frozen 111
        have f5 := jN.frozen 112
        have f6 := jN.frozen 113
        have q1 : A + 1 ≠ N := by omega
        have q2 : N ≠ A + 1 := by omega
        go_region_held3 (fun w' => w'.cell? ⟨M, 24, none⟩ = some (.int .u8 ba) ∧ w'.cell? ⟨A + 1, 0, none⟩ = some (.int .u64 0) ∧ w'.cell? ⟨A + 1, 1, none⟩ = some (.int .u64 x) ∧ w'.cell? ⟨A + 1, 2, none⟩ = some (.int .u64 0) ∧ w'.cell? ⟨A + 1, 3, none⟩ = some (.int .u64 0) ∧ w'.cell? ⟨A + 1, 4, none⟩ = some (.pointer none) ∧ w'.cell? ⟨A + 1, 5, none⟩ = some (.int .u16 0)) (go_keep) (fail)
        go_end0
        exact ⟨rfl, settled_of kg ((node_ack0 x ba hg jN jsz jl0 jl1 jx jd).drew.drew) hfe (by simp [ack1, HM.out, HS.out]) (by simp [ack1, HM.out, HS.out]) rfl rfl⟩
    · have HM : Hid (¬ 0 < mn) := hm
      go_wp2_with fail
      go_end0
      exact ⟨rfl, settled_of kg ⟨hg, nc, jN, jsz, jl0, jl1, jx, jd⟩ hfe (by simp [ack1, HM.out]) (by simp [ack1, HM.out]) rfl rfl⟩
end Go.Proofs.Ybulkauss
