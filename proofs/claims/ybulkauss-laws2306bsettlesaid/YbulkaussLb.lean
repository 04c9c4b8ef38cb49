/-
  The node of the law: the fields of a lane laid one by one.
-/
import Derived.Test.YbulkaussLa
import Derived.Laws.MakeOwn
namespace Go.Proofs.Ybulkauss
open Go.RowKit Go.Deep

def toS (nc : Array Value) (o : Nat) (x : Int) : Array Value := ((((((nc.setIfInBounds (o + 7) (.int .u64 0)).setIfInBounds (o + 8) (.int .u64 x)).setIfInBounds (o + 9) (.int .u64 0)).setIfInBounds (o + 10) (.int .u64 0)).setIfInBounds (o + 11) (.pointer none)).setIfInBounds (o + 12) (.int .u16 0))
theorem toS_far {nc : Array Value} {o k : Nat} {x : Int} (h : k < o + 7 ∨ o + 12 < k) : (toS nc o x)[k]? = nc[k]? := by
  unfold toS
  simp only [Array.getElem?_setIfInBounds]
  rw [if_neg (by omega), if_neg (by omega), if_neg (by omega), if_neg (by omega), if_neg (by omega), if_neg (by omega)]
theorem toS_size (nc : Array Value) (o : Nat) (x : Int) : (toS nc o x).size = nc.size := by unfold toS; simp
theorem lane_to {nc : Array Value} {o : Nat} {l : Lane} (x : Int) (h : LaneIs nc o l) : LaneIs (toS nc o x) o { l with tgt := x } := by
  have e : ∀ k, (k < o + 7 ∨ o + 12 < k) → (toS nc o x)[k]? = nc[k]? := fun k hk => toS_far hk
  have hlt : o + 39 < nc.size := (Array.getElem?_eq_some_iff.1 h.2.2.2.2.2).1
  refine ⟨(e _ (by omega)).trans h.1, ⟨?_, ?_, ?_, ?_, ?_, ?_⟩, (e _ (by omega)).trans h.2.2.1, (e _ (by omega)).trans h.2.2.2.1, h.2.2.2.2.1.congr (fun k h1 h2 => e k (by omega)), (e _ (by omega)).trans h.2.2.2.2.2⟩
  all_goals (unfold toS; simp [Array.getElem?_setIfInBounds]; omega)
theorem NodeIs.to0 {w0 v : World} {N : Nat} {l0 l1 : Lane} {nx du : Int} (h : NodeIs w0 N l0 l1 nx du v) (x : Int) :
    NodeIs w0 N { l0 with tgt := x } l1 nx du ((((((v.setCell ⟨N, 81, none⟩ (.int .u64 0)).setCell ⟨N, 82, none⟩ (.int .u64 x)).setCell ⟨N, 83, none⟩ (.int .u64 0)).setCell ⟨N, 84, none⟩ (.int .u64 0)).setCell ⟨N, 85, none⟩ (.pointer none)).setCell ⟨N, 86, none⟩ (.int .u16 0)) := by
  obtain ⟨hg, nc, h1, h2, h3, h4, h5, h6⟩ := h
  exact ⟨(grownBy_set (grownBy_set (grownBy_set (grownBy_set (grownBy_set (grownBy_set hg _ _) _ _) _ _) _ _) _ _) _ _), toS nc 74 x, ((((((h1.set 81 _).set 82 _).set 83 _).set 84 _).set 85 _).set 86 _), by unfold toS; exact ((((((h2.set _ rfl).set _ rfl).set _ rfl).set _ rfl).set _ rfl).set _ rfl), lane_to (o := 74) x h3, h4.congr (fun k _ _ => toS_far (by omega)), h5.congr (fun k _ _ => toS_far (by omega)), h6.congr (fun k _ _ => toS_far (by omega))⟩
theorem NodeIs.to1 {w0 v : World} {N : Nat} {l0 l1 : Lane} {nx du : Int} (h : NodeIs w0 N l0 l1 nx du v) (x : Int) :
    NodeIs w0 N l0 { l1 with tgt := x } nx du ((((((v.setCell ⟨N, 121, none⟩ (.int .u64 0)).setCell ⟨N, 122, none⟩ (.int .u64 x)).setCell ⟨N, 123, none⟩ (.int .u64 0)).setCell ⟨N, 124, none⟩ (.int .u64 0)).setCell ⟨N, 125, none⟩ (.pointer none)).setCell ⟨N, 126, none⟩ (.int .u16 0)) := by
  obtain ⟨hg, nc, h1, h2, h3, h4, h5, h6⟩ := h
  exact ⟨(grownBy_set (grownBy_set (grownBy_set (grownBy_set (grownBy_set (grownBy_set hg _ _) _ _) _ _) _ _) _ _) _ _), toS nc 114 x, ((((((h1.set 121 _).set 122 _).set 123 _).set 124 _).set 125 _).set 126 _), by unfold toS; exact ((((((h2.set _ rfl).set _ rfl).set _ rfl).set _ rfl).set _ rfl).set _ rfl), h3.congr (fun k _ _ => toS_far (by omega)), lane_to (o := 114) x h4, h5.congr (fun k _ _ => toS_far (by omega)), h6.congr (fun k _ _ => toS_far (by omega))⟩
def sqS (nc : Array Value) (o : Nat) (x : Int) : Array Value := (nc.setIfInBounds (o + 13) (.int .u8 x))
theorem sqS_far {nc : Array Value} {o k : Nat} {x : Int} (h : k < o + 13 ∨ o + 13 < k) : (sqS nc o x)[k]? = nc[k]? := by
  unfold sqS
  simp only [Array.getElem?_setIfInBounds]
  rw [if_neg (by omega)]
theorem sqS_size (nc : Array Value) (o : Nat) (x : Int) : (sqS nc o x).size = nc.size := by unfold sqS; simp
theorem lane_sq {nc : Array Value} {o : Nat} {l : Lane} (x : Int) (h : LaneIs nc o l) : LaneIs (sqS nc o x) o { l with sq := x } := by
  have e : ∀ k, (k < o + 13 ∨ o + 13 < k) → (sqS nc o x)[k]? = nc[k]? := fun k hk => sqS_far hk
  have hlt : o + 39 < nc.size := (Array.getElem?_eq_some_iff.1 h.2.2.2.2.2).1
  refine ⟨(e _ (by omega)).trans h.1, h.2.1.congr (fun k h1 h2 => e k (by omega)), ?_, (e _ (by omega)).trans h.2.2.2.1, h.2.2.2.2.1.congr (fun k h1 h2 => e k (by omega)), (e _ (by omega)).trans h.2.2.2.2.2⟩
  all_goals (unfold sqS; simp [Array.getElem?_setIfInBounds]; omega)
theorem NodeIs.sq0 {w0 v : World} {N : Nat} {l0 l1 : Lane} {nx du : Int} (h : NodeIs w0 N l0 l1 nx du v) (x : Int) :
    NodeIs w0 N { l0 with sq := x } l1 nx du (v.setCell ⟨N, 87, none⟩ (.int .u8 x)) := by
  obtain ⟨hg, nc, h1, h2, h3, h4, h5, h6⟩ := h
  exact ⟨(grownBy_set hg _ _), sqS nc 74 x, (h1.set 87 _), by unfold sqS; exact (h2.set _ rfl), lane_sq (o := 74) x h3, h4.congr (fun k _ _ => sqS_far (by omega)), h5.congr (fun k _ _ => sqS_far (by omega)), h6.congr (fun k _ _ => sqS_far (by omega))⟩
theorem NodeIs.sq1 {w0 v : World} {N : Nat} {l0 l1 : Lane} {nx du : Int} (h : NodeIs w0 N l0 l1 nx du v) (x : Int) :
    NodeIs w0 N l0 { l1 with sq := x } nx du (v.setCell ⟨N, 127, none⟩ (.int .u8 x)) := by
  obtain ⟨hg, nc, h1, h2, h3, h4, h5, h6⟩ := h
  exact ⟨(grownBy_set hg _ _), sqS nc 114 x, (h1.set 127 _), by unfold sqS; exact (h2.set _ rfl), h3.congr (fun k _ _ => sqS_far (by omega)), lane_sq (o := 114) x h4, h5.congr (fun k _ _ => sqS_far (by omega)), h6.congr (fun k _ _ => sqS_far (by omega))⟩
def evS (nc : Array Value) (o : Nat) (p : Option Addr) (n : Nat) : Array Value := (nc.setIfInBounds (o + 14) (.slice p n n))
theorem evS_far {nc : Array Value} {o k : Nat} {p : Option Addr} {n : Nat} (h : k < o + 14 ∨ o + 14 < k) : (evS nc o p n)[k]? = nc[k]? := by
  unfold evS
  simp only [Array.getElem?_setIfInBounds]
  rw [if_neg (by omega)]
theorem evS_size (nc : Array Value) (o : Nat) (p : Option Addr) (n : Nat) : (evS nc o p n).size = nc.size := by unfold evS; simp
theorem lane_ev {nc : Array Value} {o : Nat} {l : Lane} (p : Option Addr) (n : Nat) (h : LaneIs nc o l) : LaneIs (evS nc o p n) o { l with eo := p, ne := n } := by
  have e : ∀ k, (k < o + 14 ∨ o + 14 < k) → (evS nc o p n)[k]? = nc[k]? := fun k hk => evS_far hk
  have hlt : o + 39 < nc.size := (Array.getElem?_eq_some_iff.1 h.2.2.2.2.2).1
  refine ⟨(e _ (by omega)).trans h.1, h.2.1.congr (fun k h1 h2 => e k (by omega)), (e _ (by omega)).trans h.2.2.1, ?_, h.2.2.2.2.1.congr (fun k h1 h2 => e k (by omega)), (e _ (by omega)).trans h.2.2.2.2.2⟩
  all_goals (unfold evS; simp [Array.getElem?_setIfInBounds]; omega)
theorem NodeIs.ev0 {w0 v : World} {N : Nat} {l0 l1 : Lane} {nx du : Int} (h : NodeIs w0 N l0 l1 nx du v) (p : Option Addr) (n : Nat) :
    NodeIs w0 N { l0 with eo := p, ne := n } l1 nx du (v.setCell ⟨N, 88, none⟩ (.slice p n n)) := by
  obtain ⟨hg, nc, h1, h2, h3, h4, h5, h6⟩ := h
  exact ⟨(grownBy_set hg _ _), evS nc 74 p n, (h1.set 88 _), by unfold evS; exact (h2.set _ rfl), lane_ev (o := 74) p n h3, h4.congr (fun k _ _ => evS_far (by omega)), h5.congr (fun k _ _ => evS_far (by omega)), h6.congr (fun k _ _ => evS_far (by omega))⟩
theorem NodeIs.ev1 {w0 v : World} {N : Nat} {l0 l1 : Lane} {nx du : Int} (h : NodeIs w0 N l0 l1 nx du v) (p : Option Addr) (n : Nat) :
    NodeIs w0 N l0 { l1 with eo := p, ne := n } nx du (v.setCell ⟨N, 128, none⟩ (.slice p n n)) := by
  obtain ⟨hg, nc, h1, h2, h3, h4, h5, h6⟩ := h
  exact ⟨(grownBy_set hg _ _), evS nc 114 p n, (h1.set 128 _), by unfold evS; exact (h2.set _ rfl), h3.congr (fun k _ _ => evS_far (by omega)), lane_ev (o := 114) p n h4, h5.congr (fun k _ _ => evS_far (by omega)), h6.congr (fun k _ _ => evS_far (by omega))⟩
def quS (nc : Array Value) (o : Nat) (p : Option Addr) (n : Nat) : Array Value := (nc.setIfInBounds (o + 6) (.slice p n n))
theorem quS_far {nc : Array Value} {o k : Nat} {p : Option Addr} {n : Nat} (h : k < o + 6 ∨ o + 6 < k) : (quS nc o p n)[k]? = nc[k]? := by
  unfold quS
  simp only [Array.getElem?_setIfInBounds]
  rw [if_neg (by omega)]
theorem quS_size (nc : Array Value) (o : Nat) (p : Option Addr) (n : Nat) : (quS nc o p n).size = nc.size := by unfold quS; simp
theorem lane_qu {nc : Array Value} {o : Nat} {l : Lane} (p : Option Addr) (n : Nat) (h : LaneIs nc o l) : LaneIs (quS nc o p n) o { l with qo := p, nq := n } := by
  have e : ∀ k, (k < o + 6 ∨ o + 6 < k) → (quS nc o p n)[k]? = nc[k]? := fun k hk => quS_far hk
  have hlt : o + 39 < nc.size := (Array.getElem?_eq_some_iff.1 h.2.2.2.2.2).1
  refine ⟨?_, h.2.1.congr (fun k h1 h2 => e k (by omega)), (e _ (by omega)).trans h.2.2.1, (e _ (by omega)).trans h.2.2.2.1, h.2.2.2.2.1.congr (fun k h1 h2 => e k (by omega)), (e _ (by omega)).trans h.2.2.2.2.2⟩
  all_goals (unfold quS; simp [Array.getElem?_setIfInBounds]; omega)
theorem NodeIs.qu0 {w0 v : World} {N : Nat} {l0 l1 : Lane} {nx du : Int} (h : NodeIs w0 N l0 l1 nx du v) (p : Option Addr) (n : Nat) :
    NodeIs w0 N { l0 with qo := p, nq := n } l1 nx du (v.setCell ⟨N, 80, none⟩ (.slice p n n)) := by
  obtain ⟨hg, nc, h1, h2, h3, h4, h5, h6⟩ := h
  exact ⟨(grownBy_set hg _ _), quS nc 74 p n, (h1.set 80 _), by unfold quS; exact (h2.set _ rfl), lane_qu (o := 74) p n h3, h4.congr (fun k _ _ => quS_far (by omega)), h5.congr (fun k _ _ => quS_far (by omega)), h6.congr (fun k _ _ => quS_far (by omega))⟩
theorem NodeIs.qu1 {w0 v : World} {N : Nat} {l0 l1 : Lane} {nx du : Int} (h : NodeIs w0 N l0 l1 nx du v) (p : Option Addr) (n : Nat) :
    NodeIs w0 N l0 { l1 with qo := p, nq := n } nx du (v.setCell ⟨N, 120, none⟩ (.slice p n n)) := by
  obtain ⟨hg, nc, h1, h2, h3, h4, h5, h6⟩ := h
  exact ⟨(grownBy_set hg _ _), quS nc 114 p n, (h1.set 120 _), by unfold quS; exact (h2.set _ rfl), h3.congr (fun k _ _ => quS_far (by omega)), lane_qu (o := 114) p n h4, h5.congr (fun k _ _ => quS_far (by omega)), h6.congr (fun k _ _ => quS_far (by omega))⟩
def akToS (nc : Array Value) (o : Nat) (x : Int) : Array Value := ((((((nc.setIfInBounds (o + 33) (.int .u64 0)).setIfInBounds (o + 34) (.int .u64 x)).setIfInBounds (o + 35) (.int .u64 0)).setIfInBounds (o + 36) (.int .u64 0)).setIfInBounds (o + 37) (.pointer none)).setIfInBounds (o + 38) (.int .u16 0))
theorem akToS_far {nc : Array Value} {o k : Nat} {x : Int} (h : k < o + 33 ∨ o + 38 < k) : (akToS nc o x)[k]? = nc[k]? := by
  unfold akToS
  simp only [Array.getElem?_setIfInBounds]
  rw [if_neg (by omega), if_neg (by omega), if_neg (by omega), if_neg (by omega), if_neg (by omega), if_neg (by omega)]
theorem akToS_size (nc : Array Value) (o : Nat) (x : Int) : (akToS nc o x).size = nc.size := by unfold akToS; simp
theorem lane_akTo {nc : Array Value} {o : Nat} {l : Lane} (x : Int) (h : LaneIs nc o l) : LaneIs (akToS nc o x) o { l with akTo := x } := by
  have e : ∀ k, (k < o + 33 ∨ o + 38 < k) → (akToS nc o x)[k]? = nc[k]? := fun k hk => akToS_far hk
  have hlt : o + 39 < nc.size := (Array.getElem?_eq_some_iff.1 h.2.2.2.2.2).1
  refine ⟨(e _ (by omega)).trans h.1, h.2.1.congr (fun k h1 h2 => e k (by omega)), (e _ (by omega)).trans h.2.2.1, (e _ (by omega)).trans h.2.2.2.1, ⟨?_, ?_, ?_, ?_, ?_, ?_⟩, (e _ (by omega)).trans h.2.2.2.2.2⟩
  all_goals (unfold akToS; simp [Array.getElem?_setIfInBounds]; omega)
theorem NodeIs.akTo0 {w0 v : World} {N : Nat} {l0 l1 : Lane} {nx du : Int} (h : NodeIs w0 N l0 l1 nx du v) (x : Int) :
    NodeIs w0 N { l0 with akTo := x } l1 nx du ((((((v.setCell ⟨N, 107, none⟩ (.int .u64 0)).setCell ⟨N, 108, none⟩ (.int .u64 x)).setCell ⟨N, 109, none⟩ (.int .u64 0)).setCell ⟨N, 110, none⟩ (.int .u64 0)).setCell ⟨N, 111, none⟩ (.pointer none)).setCell ⟨N, 112, none⟩ (.int .u16 0)) := by
  obtain ⟨hg, nc, h1, h2, h3, h4, h5, h6⟩ := h
  exact ⟨(grownBy_set (grownBy_set (grownBy_set (grownBy_set (grownBy_set (grownBy_set hg _ _) _ _) _ _) _ _) _ _) _ _), akToS nc 74 x, ((((((h1.set 107 _).set 108 _).set 109 _).set 110 _).set 111 _).set 112 _), by unfold akToS; exact ((((((h2.set _ rfl).set _ rfl).set _ rfl).set _ rfl).set _ rfl).set _ rfl), lane_akTo (o := 74) x h3, h4.congr (fun k _ _ => akToS_far (by omega)), h5.congr (fun k _ _ => akToS_far (by omega)), h6.congr (fun k _ _ => akToS_far (by omega))⟩
theorem NodeIs.akTo1 {w0 v : World} {N : Nat} {l0 l1 : Lane} {nx du : Int} (h : NodeIs w0 N l0 l1 nx du v) (x : Int) :
    NodeIs w0 N l0 { l1 with akTo := x } nx du ((((((v.setCell ⟨N, 147, none⟩ (.int .u64 0)).setCell ⟨N, 148, none⟩ (.int .u64 x)).setCell ⟨N, 149, none⟩ (.int .u64 0)).setCell ⟨N, 150, none⟩ (.int .u64 0)).setCell ⟨N, 151, none⟩ (.pointer none)).setCell ⟨N, 152, none⟩ (.int .u16 0)) := by
  obtain ⟨hg, nc, h1, h2, h3, h4, h5, h6⟩ := h
  exact ⟨(grownBy_set (grownBy_set (grownBy_set (grownBy_set (grownBy_set (grownBy_set hg _ _) _ _) _ _) _ _) _ _) _ _), akToS nc 114 x, ((((((h1.set 147 _).set 148 _).set 149 _).set 150 _).set 151 _).set 152 _), by unfold akToS; exact ((((((h2.set _ rfl).set _ rfl).set _ rfl).set _ rfl).set _ rfl).set _ rfl), h3.congr (fun k _ _ => akToS_far (by omega)), lane_akTo (o := 114) x h4, h5.congr (fun k _ _ => akToS_far (by omega)), h6.congr (fun k _ _ => akToS_far (by omega))⟩
def akS (nc : Array Value) (o : Nat) (x : Int) : Array Value := (nc.setIfInBounds (o + 39) (.int .u8 x))
theorem akS_far {nc : Array Value} {o k : Nat} {x : Int} (h : k < o + 39 ∨ o + 39 < k) : (akS nc o x)[k]? = nc[k]? := by
  unfold akS
  simp only [Array.getElem?_setIfInBounds]
  rw [if_neg (by omega)]
theorem akS_size (nc : Array Value) (o : Nat) (x : Int) : (akS nc o x).size = nc.size := by unfold akS; simp
theorem lane_ak {nc : Array Value} {o : Nat} {l : Lane} (x : Int) (h : LaneIs nc o l) : LaneIs (akS nc o x) o { l with ak := x } := by
  have e : ∀ k, (k < o + 39 ∨ o + 39 < k) → (akS nc o x)[k]? = nc[k]? := fun k hk => akS_far hk
  have hlt : o + 39 < nc.size := (Array.getElem?_eq_some_iff.1 h.2.2.2.2.2).1
  refine ⟨(e _ (by omega)).trans h.1, h.2.1.congr (fun k h1 h2 => e k (by omega)), (e _ (by omega)).trans h.2.2.1, (e _ (by omega)).trans h.2.2.2.1, h.2.2.2.2.1.congr (fun k h1 h2 => e k (by omega)), ?_⟩
  all_goals (unfold akS; simp [Array.getElem?_setIfInBounds]; omega)
theorem NodeIs.ak0 {w0 v : World} {N : Nat} {l0 l1 : Lane} {nx du : Int} (h : NodeIs w0 N l0 l1 nx du v) (x : Int) :
    NodeIs w0 N { l0 with ak := x } l1 nx du (v.setCell ⟨N, 113, none⟩ (.int .u8 x)) := by
  obtain ⟨hg, nc, h1, h2, h3, h4, h5, h6⟩ := h
  exact ⟨(grownBy_set hg _ _), akS nc 74 x, (h1.set 113 _), by unfold akS; exact (h2.set _ rfl), lane_ak (o := 74) x h3, h4.congr (fun k _ _ => akS_far (by omega)), h5.congr (fun k _ _ => akS_far (by omega)), h6.congr (fun k _ _ => akS_far (by omega))⟩
theorem NodeIs.ak1 {w0 v : World} {N : Nat} {l0 l1 : Lane} {nx du : Int} (h : NodeIs w0 N l0 l1 nx du v) (x : Int) :
    NodeIs w0 N l0 { l1 with ak := x } nx du (v.setCell ⟨N, 153, none⟩ (.int .u8 x)) := by
  obtain ⟨hg, nc, h1, h2, h3, h4, h5, h6⟩ := h
  exact ⟨(grownBy_set hg _ _), akS nc 114 x, (h1.set 153 _), by unfold akS; exact (h2.set _ rfl), h3.congr (fun k _ _ => akS_far (by omega)), lane_ak (o := 114) x h4, h5.congr (fun k _ _ => akS_far (by omega)), h6.congr (fun k _ _ => akS_far (by omega))⟩
theorem NodeIs.lane0 {w0 v : World} {N : Nat} {l0 l1 : Lane} {nx du : Int} (h : NodeIs w0 N l0 l1 nx du v) :
    v.cell? ⟨N, 80, none⟩ = some (.slice l0.qo l0.nq l0.nq) ∧ v.cell? ⟨N, 81, none⟩ = some (.int .u64 0) ∧ v.cell? ⟨N, 82, none⟩ = some (.int .u64 l0.tgt) ∧ v.cell? ⟨N, 83, none⟩ = some (.int .u64 0) ∧ v.cell? ⟨N, 84, none⟩ = some (.int .u64 0) ∧ v.cell? ⟨N, 85, none⟩ = some (.pointer none) ∧ v.cell? ⟨N, 86, none⟩ = some (.int .u16 0) ∧ v.cell? ⟨N, 87, none⟩ = some (.int .u8 l0.sq) ∧ v.cell? ⟨N, 88, none⟩ = some (.slice l0.eo l0.ne l0.ne) ∧ v.cell? ⟨N, 107, none⟩ = some (.int .u64 0) ∧ v.cell? ⟨N, 108, none⟩ = some (.int .u64 l0.akTo) ∧ v.cell? ⟨N, 109, none⟩ = some (.int .u64 0) ∧ v.cell? ⟨N, 110, none⟩ = some (.int .u64 0) ∧ v.cell? ⟨N, 111, none⟩ = some (.pointer none) ∧ v.cell? ⟨N, 112, none⟩ = some (.int .u16 0) ∧ v.cell? ⟨N, 113, none⟩ = some (.int .u8 l0.ak) := by
  obtain ⟨hg, nc, h1, h2, h3, h4, h5, h6⟩ := h
  exact ⟨(h1.cell _).trans h3.1, (h1.cell _).trans h3.2.1.1, (h1.cell _).trans h3.2.1.2.1, (h1.cell _).trans h3.2.1.2.2.1, (h1.cell _).trans h3.2.1.2.2.2.1, (h1.cell _).trans h3.2.1.2.2.2.2.1, (h1.cell _).trans h3.2.1.2.2.2.2.2, (h1.cell _).trans h3.2.2.1, (h1.cell _).trans h3.2.2.2.1, (h1.cell _).trans h3.2.2.2.2.1.1, (h1.cell _).trans h3.2.2.2.2.1.2.1, (h1.cell _).trans h3.2.2.2.2.1.2.2.1, (h1.cell _).trans h3.2.2.2.2.1.2.2.2.1, (h1.cell _).trans h3.2.2.2.2.1.2.2.2.2.1, (h1.cell _).trans h3.2.2.2.2.1.2.2.2.2.2, (h1.cell _).trans h3.2.2.2.2.2⟩
theorem NodeIs.lane1 {w0 v : World} {N : Nat} {l0 l1 : Lane} {nx du : Int} (h : NodeIs w0 N l0 l1 nx du v) :
    v.cell? ⟨N, 120, none⟩ = some (.slice l1.qo l1.nq l1.nq) ∧ v.cell? ⟨N, 121, none⟩ = some (.int .u64 0) ∧ v.cell? ⟨N, 122, none⟩ = some (.int .u64 l1.tgt) ∧ v.cell? ⟨N, 123, none⟩ = some (.int .u64 0) ∧ v.cell? ⟨N, 124, none⟩ = some (.int .u64 0) ∧ v.cell? ⟨N, 125, none⟩ = some (.pointer none) ∧ v.cell? ⟨N, 126, none⟩ = some (.int .u16 0) ∧ v.cell? ⟨N, 127, none⟩ = some (.int .u8 l1.sq) ∧ v.cell? ⟨N, 128, none⟩ = some (.slice l1.eo l1.ne l1.ne) ∧ v.cell? ⟨N, 147, none⟩ = some (.int .u64 0) ∧ v.cell? ⟨N, 148, none⟩ = some (.int .u64 l1.akTo) ∧ v.cell? ⟨N, 149, none⟩ = some (.int .u64 0) ∧ v.cell? ⟨N, 150, none⟩ = some (.int .u64 0) ∧ v.cell? ⟨N, 151, none⟩ = some (.pointer none) ∧ v.cell? ⟨N, 152, none⟩ = some (.int .u16 0) ∧ v.cell? ⟨N, 153, none⟩ = some (.int .u8 l1.ak) := by
  obtain ⟨hg, nc, h1, h2, h3, h4, h5, h6⟩ := h
  exact ⟨(h1.cell _).trans h4.1, (h1.cell _).trans h4.2.1.1, (h1.cell _).trans h4.2.1.2.1, (h1.cell _).trans h4.2.1.2.2.1, (h1.cell _).trans h4.2.1.2.2.2.1, (h1.cell _).trans h4.2.1.2.2.2.2.1, (h1.cell _).trans h4.2.1.2.2.2.2.2, (h1.cell _).trans h4.2.2.1, (h1.cell _).trans h4.2.2.2.1, (h1.cell _).trans h4.2.2.2.2.1.1, (h1.cell _).trans h4.2.2.2.2.1.2.1, (h1.cell _).trans h4.2.2.2.2.1.2.2.1, (h1.cell _).trans h4.2.2.2.2.1.2.2.2.1, (h1.cell _).trans h4.2.2.2.2.1.2.2.2.2.1, (h1.cell _).trans h4.2.2.2.2.1.2.2.2.2.2, (h1.cell _).trans h4.2.2.2.2.2⟩

/-- the world grows, the blocks below B stand -/
theorem below_grown {B N : Nat} {w v v' : World} (h : Below B w v) (hg : v.grownBy v' (some N)) (hB : B ≤ N) (hs : B ≤ v.heap.size) : Below B w v' :=
  h.trans ⟨hg.os, hg.tape, hg.output, hg.size, fun k hk => hg.block k (by omega) (fun e => by have := Option.some.inj e; omega)⟩
theorem event_small : (Yba.prog.info? 139).bind (fun i => i.zero.map fun _ => decide (i.bytes ≤ 100000)) = some true := by kernel_rfl
theorem make_run (L : Int) (n : Nat) (hL : L = (n : Int)) (hn : n ≤ 2) : ∃ ob : Obj, ∀ w : World, (Instr.makeSlice 71 (.int .i64 L) (.int .i64 L)).run Yba.prog w = .ok (.slice (some ⟨w.heap.size, 0, none⟩) n n) (w.alloc ob) := by
  obtain ⟨i, z, hi, hz, hb⟩ : ∃ i z, Yba.prog.info? 139 = some i ∧ i.zero = some z ∧ i.bytes ≤ 100000 := by
    have hz0 := event_small
    cases hi : Yba.prog.info? 139 with
    | none => rw [hi] at hz0; simp at hz0
    | some i =>
      cases hz : i.zero with
      | none => rw [hi] at hz0; simp [hz] at hz0
      | some z => rw [hi] at hz0; simp [hz] at hz0; exact ⟨i, z, rfl, hz, hz0⟩
  subst hL
  have hbn : i.bytes * n ≤ 100000 * 2 := Nat.mul_le_mul hb hn
  have hbn2 : (i.bytes : Int) * (n : Int) ≤ 281474976710656 := by
    have : ((i.bytes * n : Nat) : Int) ≤ 200000 := by omega
    rw [Int.natCast_mul] at this; omega
  refine ⟨.cells (madeCells z.cells (n * i.size)) 139, fun w => ?_⟩
  have hr := run_make (P := Yba.prog) w 71 139 i z Yba.underlying71 hi hz .i64 .i64 n n (by omega) (Int.le_refl _) hbn2 (by omega)
  simp only [Int.toNat_natCast] at hr
  exact hr
/-- a row of cells written into a block that is new -/
theorem setCells_new (w : World) (t : TypeId) : ∀ (vs : List Value) (o : Nat) (c : Array Value), o + vs.length ≤ c.size →
    ∃ c', (w.alloc (.cells c t)).setCells w.heap.size o vs = w.alloc (.cells c' t) ∧ c'.size = c.size ∧ ∀ k, c'[k]? = if o ≤ k ∧ k < o + vs.length then vs[k - o]? else c[k]?
  | [], o, c, _ => ⟨c, rfl, rfl, fun k => by rw [if_neg]; simp⟩
  | v :: vs, o, c, hl => by
    simp only [List.length_cons] at hl
    obtain ⟨c', h1, h2, h3⟩ := setCells_new w t vs (o + 1) (c.setIfInBounds o v) (by simp; omega)
    refine ⟨c', ?_, by rw [h2]; simp, fun k => ?_⟩
    · show ((w.alloc (.cells c t)).setCell ⟨w.heap.size, o, none⟩ v).setCells w.heap.size (o + 1) vs = _
      rw [World.setCell_alloc_new]; exact h1
    rw [h3 k, Array.getElem?_setIfInBounds]
    simp only [List.length_cons]
    by_cases hk : o = k
    · subst hk
      rw [if_neg (by omega), if_pos rfl, if_pos (by omega), if_pos (by omega)]; simp
    · by_cases hk2 : o + 1 ≤ k ∧ k < o + 1 + vs.length
      · rw [if_pos hk2, if_pos (by omega)]
        obtain ⟨j, rfl⟩ : ∃ j, k = o + 1 + j := ⟨k - (o + 1), by omega⟩
        have e1 : o + 1 + j - (o + 1) = j := by omega
        have e2 : o + 1 + j - o = j + 1 := by omega
        rw [e1, e2]; simp
      · rw [if_neg hk2, if_neg hk, if_neg (by omega)]

/-- the two runs of 'x := v', v a great struct -/
theorem var_runs (t : TypeId) (n : Nat) (hz0 : (Yba.prog.info? t).bind (fun i => i.zero.map fun z => (z.cells.size, i.size)) = some (n, n)) :
    ∃ z : Array Value, (∀ w : World, (Instr.alloc t true (.tuple #[])).run Yba.prog w = .ok (.pointer (some ⟨w.heap.size, 0, none⟩)) (w.alloc (.cells z t))) ∧
      ∀ (w : World) (cs : List Value), cs.length = n → cs.toArray.all (·.oneCell') = true →
        (Instr.storeAt t (.pointer (some ⟨w.heap.size, 0, none⟩)) (.agg cs.toArray)).run Yba.prog (w.alloc (.cells z t)) = .ok () (w.alloc (.cells cs.toArray t)) := by
  obtain ⟨i, z, hi, hz, hzs, hs⟩ : ∃ i z, Yba.prog.info? t = some i ∧ i.zero = some z ∧ z.cells.size = n ∧ i.size = n := by
    cases hi : Yba.prog.info? t with
    | none => rw [hi] at hz0; simp at hz0
    | some i =>
      cases hz : i.zero with
      | none => rw [hi] at hz0; simp [hz] at hz0
      | some z => rw [hi] at hz0; simp [hz] at hz0; exact ⟨i, z, rfl, hz, hz0.1, hz0.2⟩
  refine ⟨z.cells, fun w => by simp [Instr.alloc, zeroValue, typeInfo, hi, hz, newVar, newRow], fun w cs hl h1 => ?_⟩
  have hb : Blk (w.alloc (.cells z.cells t)) w.heap.size z.cells t := Blk.new _ _ _
  rw [run_storeAt_mid (P := Yba.prog) _ w.heap.size 0 t cs.toArray (fun j hj => ⟨by
    rw [hb.cell, Array.getElem?_eq_getElem (show 0 + j < z.cells.size by simp at hj; omega)]; rfl, hb.frozen _⟩) (by rw [hi]; simp [hs, hl]) h1]
  obtain ⟨c', h2, h3, h4⟩ := setCells_new w t cs 0 z.cells (by omega)
  have : c' = cs.toArray := Array.ext_getElem? (fun k => by
    rw [h4 k]
    by_cases hk : k < n
    · rw [if_pos (by omega)]; simp
    · rw [if_neg (by omega), Array.getElem?_eq_none (by omega), Array.getElem?_eq_none (by simp; omega)])
  rw [this] at h2
  exact congrArg _ h2
theorem wp_alloc_at {op : Oper} {a : Act} {w : World} {K : Act → World → Prop} {Q : Exit → Act → World → Prop} (t : TypeId) (z : Array Value) (ho : op.op = .alloc t)
    (hal : ∀ w : World, (Instr.alloc t true (.tuple #[])).run Yba.prog w = .ok (.pointer (some ⟨w.heap.size, 0, none⟩)) (w.alloc (.cells z t)))
    (h : K (a.put op.dst (.pointer (some ⟨w.heap.size, 0, none⟩))) (w.alloc (.cells z t))) : op.wp Yba.prog a w K Q := by
  unfold Oper.wp execOp
  simp only [ho, Sem.run_bind, Sem.run_pure, Result.andThen_ok, hal w]
  exact h
theorem wp_store_as {op : Oper} {a : Act} {w w' : World} {K : Act → World → Prop} {Q : Exit → Act → World → Prop} (t : TypeId) (x y : Operand) (p v : Value) (ho : op.op = .store t x y) (hx : a.eval x = p) (hy : a.eval y = v)
    (hst : (Instr.storeAt t p v).run Yba.prog w = .ok () w') (h : K (a.put op.dst undef) w') : op.wp Yba.prog a w K Q := by
  unfold Oper.wp execOp
  simp only [ho, hx, hy, Sem.run_bind, Sem.run_pure, Result.andThen_ok, hst]
  exact h
/-- the lane of a side -/
def sideI (b : Bool) : Int := if b then 0 else 1
theorem side_any (b : Bool) (w : World) : Calls Yba.prog 9 #[.bool b] w fun e w' => e = .returned (.int .i64 (sideI b)) ∧ w = w' := by
  cases b
  · exact (side_f w).mono (fun e w' h => ⟨h.1, h.2.symm⟩)
  · exact (side_t w).mono (fun e w' h => ⟨h.1, h.2.symm⟩)
theorem end_tgt (b f : Bool) (x ba a : Int) (l : Lane) : (ack1 b x ba (laneF f l x a)).tgt = l.tgt := by
  unfold ack1 laneF settle; cases b <;> cases f <;> simp <;> split <;> rfl
theorem end_sq (b f : Bool) (x ba a : Int) (l : Lane) : (ack1 b x ba (laneF f l x a)).sq = l.sq := by
  unfold ack1 laneF settle; cases b <;> cases f <;> simp <;> split <;> rfl
theorem end_qo (b f : Bool) (x ba a : Int) (l : Lane) : (ack1 b x ba (laneF f l x a)).qo = l.qo := by
  unfold ack1 laneF settle; cases b <;> cases f <;> simp <;> split <;> rfl
theorem end_nq (b f : Bool) (x ba a : Int) (l : Lane) : (ack1 b x ba (laneF f l x a)).nq = l.nq := by
  unfold ack1 laneF settle; cases b <;> cases f <;> simp <;> split <;> rfl
def eoE (c : Bool) (o : Option Addr) : Option Addr := if c then none else o
def neE (c : Bool) (n : Nat) : Nat := if c then 0 else n
def akE (b : Bool) (x y : Int) : Int := if b then x else y
theorem end_eo (b f : Bool) (x ba a : Int) (l : Lane) : (ack1 b x ba (laneF f l x a)).eo = eoE (f && clr l x a) l.eo := by
  unfold ack1 laneF settle eoE; cases b <;> cases f <;> simp <;> split <;> rfl
theorem end_ne (b f : Bool) (x ba a : Int) (l : Lane) : (ack1 b x ba (laneF f l x a)).ne = neE (f && clr l x a) l.ne := by
  unfold ack1 laneF settle neE; cases b <;> cases f <;> simp <;> split <;> rfl
theorem end_akTo (b f : Bool) (x ba a : Int) (l : Lane) : (ack1 b x ba (laneF f l x a)).akTo = akE b x l.akTo := by
  unfold ack1 laneF settle akE; cases b <;> cases f <;> simp <;> split <;> rfl
theorem end_ak (b f : Bool) (x ba a : Int) (l : Lane) : (ack1 b x ba (laneF f l x a)).ak = akE b ba l.ak := by
  unfold ack1 laneF settle akE; cases b <;> cases f <;> simp <;> split <;> rfl
/-- what a lane is behind it all -/
def endL (b c : Bool) (x ba : Int) (l : Lane) : Lane := ⟨l.tgt, l.sq, l.qo, l.nq, eoE c l.eo, neE c l.ne, akE b x l.akTo, akE b ba l.ak⟩
theorem end_lane (b f : Bool) (x ba a : Int) (l : Lane) : ack1 b x ba (laneF f l x a) = endL b (f && clr l x a) x ba l := by
  unfold endL
  rw [← end_tgt b f x ba a l, ← end_sq b f x ba a l, ← end_qo b f x ba a l, ← end_nq b f x ba a l, ← end_eo b f x ba a l, ← end_ne b f x ba a l, ← end_akTo b f x ba a l, ← end_ak b f x ba a l]
/-- the cells of a lane that lies at the head of its block -/
theorem LaneIs.cells0 {w : World} {b : Nat} {nc : Array Value} {t : TypeId} {l : Lane} (h : LaneIs nc 0 l) (hb : Blk w b nc t) :
    w.cell? ⟨b, 6, none⟩ = some (.slice l.qo l.nq l.nq) ∧ w.cell? ⟨b, 7, none⟩ = some (.int .u64 0) ∧ w.cell? ⟨b, 8, none⟩ = some (.int .u64 l.tgt) ∧ w.cell? ⟨b, 9, none⟩ = some (.int .u64 0) ∧ w.cell? ⟨b, 10, none⟩ = some (.int .u64 0) ∧ w.cell? ⟨b, 11, none⟩ = some (.pointer none) ∧ w.cell? ⟨b, 12, none⟩ = some (.int .u16 0) ∧
    w.cell? ⟨b, 13, none⟩ = some (.int .u8 l.sq) ∧ w.cell? ⟨b, 14, none⟩ = some (.slice l.eo l.ne l.ne) ∧
    w.cell? ⟨b, 33, none⟩ = some (.int .u64 0) ∧ w.cell? ⟨b, 34, none⟩ = some (.int .u64 l.akTo) ∧ w.cell? ⟨b, 35, none⟩ = some (.int .u64 0) ∧ w.cell? ⟨b, 36, none⟩ = some (.int .u64 0) ∧ w.cell? ⟨b, 37, none⟩ = some (.pointer none) ∧ w.cell? ⟨b, 38, none⟩ = some (.int .u16 0) ∧
    w.cell? ⟨b, 39, none⟩ = some (.int .u8 l.ak) := h.cells hb
/-- a cell stands over a call that only makes memory -/
theorem below_cell {x w' : World} (hb : Below x.heap.size x w') {b o : Nat} {v : Value} (h : x.cell? ⟨b, o, none⟩ = some v) : w'.cell? ⟨b, o, none⟩ = some v := by
  have hlt : b < x.heap.size := by
    refine Decidable.byContradiction fun hn => ?_
    have e : x.heap[b]? = none := Array.getElem?_eq_none (by omega)
    simp [World.cell?, e] at h
  have e := hb.block b hlt
  rw [← h]
  simp only [World.cell?, e]
theorem equal_keep (a b : Int) (h : a = b) (w : World) : Calls Yba.prog 11 #[.agg #[.int .u64 (a % 1000000000), .int .i64 (a / 1000000000), .pointer none], .agg #[.int .u64 (b % 1000000000), .int .i64 (b / 1000000000), .pointer none]] w fun e w' => e = .returned (.bool true) ∧ Below w.heap.size w w' ∧ ∀ b o v, w.cell? ⟨b, o, none⟩ = some v → w'.cell? ⟨b, o, none⟩ = some v :=
  (equal_any a b h w).mono (fun _ _ hh => ⟨hh.1, hh.2, fun _ _ _ hv => below_cell hh.2 hv⟩)
/-- the trigger behind k lanes -/
def trgL (f : Bool) (k : Nat) (l0 l1 : Lane) (x a : Int) : Bool := f && trgK k l0 l1 x a
theorem trgL_no0 {F : Bool} {l0 l1 : Lane} {x a : Int} (h : (F && clr l0 x a) = false) : trgL F 0 l0 l1 x a = trgL F 1 l0 l1 x a := by
  unfold trgL trgK trg; cases F <;> simp_all
theorem trgL_yes0 {F : Bool} {l0 l1 : Lane} {x a : Int} (h : (F && clr l0 x a) = true) (hq : 0 < l0.nq) : true = trgL F 1 l0 l1 x a := by
  unfold trgL trgK trg; cases F <;> simp_all
theorem trgL_idle0 {F : Bool} {l0 l1 : Lane} {x a : Int} (hq : ¬ 0 < l0.nq) : trgL F 0 l0 l1 x a = trgL F 1 l0 l1 x a := by
  unfold trgL trgK trg; cases F <;> simp_all
theorem trgL_no1 {F : Bool} {l0 l1 : Lane} {x a : Int} (h : (F && clr l1 x a) = false) : trgL F 1 l0 l1 x a = trgL F 2 l0 l1 x a := by
  unfold trgL trgK trg; cases F <;> simp_all
theorem trgL_yes1 {F : Bool} {l0 l1 : Lane} {x a : Int} (h : (F && clr l1 x a) = true) (hq : 0 < l1.nq) : true = trgL F 2 l0 l1 x a := by
  unfold trgL trgK trg; cases F <;> simp_all
theorem trgL_idle1 {F : Bool} {l0 l1 : Lane} {x a : Int} (hq : ¬ 0 < l1.nq) : trgL F 1 l0 l1 x a = trgL F 2 l0 l1 x a := by
  unfold trgL trgK trg; cases F <;> simp_all
theorem trgL_end {F : Bool} {l0 l1 : Lane} {x a : Int} : trgL F 2 l0 l1 x a = (F && (trg l0 x a || trg l1 x a)) := by
  simp [trgL, trgK]
/-- the blocks below H stand, and there are so many -/
def BW (H : Nat) (w w' : World) : Prop := Below H w w' ∧ H ≤ w'.heap.size
theorem bw_drew {H : Nat} {w x : World} (h : BW H w x) : BW H w x.drew := ⟨h.1.trans ⟨rfl, rfl, rfl, Nat.le_refl _, fun _ _ => rfl⟩, h.2⟩
theorem bw_call {H : Nat} {w x w' : World} (h : BW H w x) (hb : Below x.heap.size x w') : BW H w w' := ⟨h.1.trans (hb.mono h.2), Nat.le_trans h.2 hb.size⟩
theorem below_cells {x w' : World} (hb : Below x.heap.size x w') (b o : Nat) (h : b < x.heap.size) : w'.cell? ⟨b, o, none⟩ = x.cell? ⟨b, o, none⟩ := by
  have e := hb.block b h
  simp only [World.cell?, e]
theorem equal_bw (p q : Int) (w : World) (h0 : 0 ≤ p) (h1 : p < 1000000000) : Calls Yba.prog 11 #[.agg #[.int .u64 p, .int .i64 q, .pointer none], .agg #[.int .u64 p, .int .i64 q, .pointer none]] w fun e w' => e = .returned (.bool true) ∧ (∀ H w0, BW H w0 w → BW H w0 w') ∧ ∀ b o, b < w.heap.size → w'.cell? ⟨b, o, none⟩ = w.cell? ⟨b, o, none⟩ :=
  (equal_raw p q w h0 h1).mono (fun _ _ hh => ⟨hh.1, fun _ _ h => bw_call h hh.2, fun b o hv => below_cells hh.2 b o hv⟩)
/-- the cells of a time -/
def tmC (t : Int) : Array Value := #[.int .u64 (t % 1000000000), .int .i64 (t / 1000000000), .pointer none]
theorem tmC_set (s t : Int) : (((tmC s).setIfInBounds 0 (.int .u64 (t % 1000000000))).setIfInBounds 1 (.int .i64 (t / 1000000000))).setIfInBounds 2 (.pointer none) = tmC t := rfl
theorem side_b0 {mn : Nat} {SB B : Bool} {sd : Int} (h : B = (decide (0 < mn) && SB)) (hs : sd = sideI SB) : B = (decide (0 < mn) && decide ((0 : Int) = sd)) := by
  subst hs; rw [h]; cases SB <;> simp [sideI]
theorem side_b1 {mn : Nat} {SB B : Bool} {sd : Int} (h : B = (decide (0 < mn) && !SB)) (hs : sd = sideI SB) : B = (decide (0 < mn) && decide ((1 : Int) = sd)) := by
  subst hs; rw [h]; cases SB <;> simp [sideI]
def Fits (l : Lane) (d0 d1 d2 d3 d4 d5 : Int) : Prop := l.tgt = d0 % 3 ∧ l.sq = d1 % 4 ∧ (l.ne : Int) = d2 % 3 ∧ (l.nq : Int) = d3 % 3 ∧ l.akTo = d4 % 3 ∧ l.ak = d5
end Go.Proofs.Ybulkauss
