/-
  Table.Add, whole: with its maps, and without.
-/
import Derived.Test.YbulkauvkFmtAdd
namespace Go.Proofs.YbulkauvkFmt
open Go.RowKit Go.Extern.Stop Go.Stop Go.Extern Go.Deep

/-- the table: nothing yet, or its two maps -/
def TabO (w : World) (T : Nat) (o : Option (Nat × Nat)) (n : Nat) (md : List Pr) : Prop :=
  match o with
  | none => Blk w T #[.map none, .map none] 29 ∧ md = []
  | some (m1, m2) => Blk w T #[.map (some m1), .map (some m2)] 29 ∧ Maps2 w m1 m2 n md ∧ T ≠ m1 ∧ T ≠ m2
/-- is g one of the table's maps? -/
def InT (o : Option (Nat × Nat)) (g : Nat) : Prop := ∃ a b, o = some (a, b) ∧ (g = a ∨ g = b)
structure KeepT (T : Nat) (o : Option (Nat × Nat)) (w w' : World) : Prop where
  os : w'.os = w.os
  tape : w'.tape = w.tape
  output : w'.output = w.output
  size : w.heap.size ≤ w'.heap.size
  block : ∀ g, g < w.heap.size → g ≠ T → ¬ InT o g → w'.heap[g]? = w.heap[g]?
/-- what Add leaves -/
def AddAll (T : Nat) (o : Option (Nat × Nat)) (n : Nat) (md qs : List Pr) (w : World) (e : Ending) (w' : World) : Prop :=
  ∃ m1 m2 n', n' ≤ n + qs.length ∧ TabO w' T (some (m1, m2)) n' (addL md qs).2 ∧ (((addL md qs).1 = true ∧ ∃ a, e = .returned (.iface 117 (.pointer (some a)))) ∨ ((addL md qs).1 = false ∧ e = .returned .nilIface)) ∧ KeepT T o w w' ∧ (o = some (m1, m2) ∨ (w.heap.size ≤ m1 ∧ w.heap.size ≤ m2))

theorem map_nil (w : World) : (binOp .eql 26 (.map none) (.map none)).run Ybaf.prog w = .ok (.bool true) w := by kernel_rfl
theorem map_some (m : Nat) (w : World) : (binOp .eql 26 (.map (some m)) (.map none)).run Ybaf.prog w = .ok (.bool false) w := by kernel_rfl
theorem make26 (w : World) : (Instr.makeMap 26 none).run Ybaf.prog w = .ok (.map (some w.heap.size)) (w.alloc (.map #[] 0)) := by kernel_rfl
theorem make27 (w : World) : (Instr.makeMap 27 none).run Ybaf.prog w = .ok (.map (some w.heap.size)) (w.alloc (.map #[] 0)) := by kernel_rfl

set_option maxHeartbeats 1600000 in
set_option maxRecDepth 100000 in
theorem add_any (F : Interp) (T Fb n : Nat) (o : Option (Nat × Nat)) (md : List Pr) (its : List It) (mod : ByteArray) (ao : Option Addr) (cap : Nat) (w : World) (hF : F.answers w.tape) (hT : TabO w T o n md) (f0 : w.cell? ⟨Fb, 0, none⟩ = some (.string mod)) (f7 : w.cell? ⟨Fb, 7, none⟩ = some (.slice ao its.length cap)) (hFb : Fb < w.heap.size ∧ Fb ≠ T ∧ ¬ InT o Fb) (hR : IRow w ao its) (hRn : ∀ g o', ao = some ⟨g, o', none⟩ → g < w.heap.size ∧ g ≠ T ∧ ¬ InT o g)
    (hfit : ∀ it ∈ its, it.fit) (hmod : mod.size ≤ 10) (hl : its.length ≤ 2000) (hn : n ≤ 100000) :
    Calls Ybaf.prog 9 #[.pointer (some ⟨T, 0, none⟩), .pointer (some ⟨Fb, 0, none⟩)] w fun e w' => Fwd (AddAll T o n md (its.map (prOf mod)) w) e w' := by
  have HF : Hid (F.answers w.tape) := hF
  have HR : Hid (IRow w ao its ∧ (∀ g o', ao = some (⟨g, o', none⟩ : Addr) → g < w.heap.size ∧ g ≠ T ∧ ¬ InT o g) ∧ (∀ it ∈ its, it.fit)) := ⟨hR, hRn, hfit⟩
  have HFb : Hid (w.cell? ⟨Fb, 0, none⟩ = some (.string mod) ∧ w.cell? ⟨Fb, 7, none⟩ = some (.slice ao its.length cap) ∧ Fb < w.heap.size ∧ Fb ≠ T ∧ ¬ InT o Fb) := ⟨f0, f7, hFb⟩
  have HSZ : Hid (mod.size ≤ 10 ∧ its.length ≤ 2000 ∧ n ≤ 100000) := ⟨hmod, hl, hn⟩
  clear hF hR hRn hfit f0 f7 hFb hmod hl hn
  cases o with
  | none =>
    obtain ⟨kT, rfl⟩ := hT
    have t0 : w.cell? ⟨T, 0, none⟩ = some (.map none) := kT.cell 0
    have t1 : w.cell? ⟨T, 1, none⟩ = some (.map none) := kT.cell 1
    have g0 : w.frozen? ⟨T, 0, none⟩ = false := kT.frozen 0
    have g1 : w.frozen? ⟨T, 1, none⟩ = false := kT.frozen 1
    have KT : Hid (Blk w T #[.map none, .map none] 29) := kT
    have hTl := kT.lt
    clear kT
    have q0 := map_nil
    have q1 := make26
    have q2 := make27
    go_enter Ybaf.func9, Ybaf.ntmps9
    go_upto_region 4 with fail
    obtain ⟨v, hv⟩ : ∃ v, v = (w.setCell ⟨T, 0, none⟩ (.map (some w.heap.size))).setCell ⟨T, 1, none⟩ (.map (some (w.heap.size + 1))) := ⟨_, rfl⟩
    rw [← hv]
    have hvs : v.heap.size = w.heap.size := by rw [hv]; simp [World.setCell]
    have kTv : Blk v T #[.map (some w.heap.size), .map (some (w.heap.size + 1))] 29 := by rw [hv]; exact (KT.out.set 0 _).set 1 _
    have hvo : v.os = w.os ∧ v.tape = w.tape ∧ v.output = w.output := by rw [hv]; exact ⟨rfl, rfl, rfl⟩
    have hvb : ∀ g, g ≠ T → v.heap[g]? = w.heap[g]? := fun g hg => by rw [hv, blk_setCell_other _ _ _ _ hg, blk_setCell_other _ _ _ _ hg]
    obtain ⟨u, hu⟩ : ∃ u, u = (v.alloc (.map #[] 0)).alloc (.map #[] 0) := ⟨_, rfl⟩
    rw [← hu]
    have kTu : Blk u T #[.map (some w.heap.size), .map (some (w.heap.size + 1))] 29 := by rw [hu]; exact (kTv.alloc _).alloc _
    have hus : u.heap.size = w.heap.size + 2 := by rw [hu]; simp [hvs]
    have hub : ∀ g, g < w.heap.size → g ≠ T → u.heap[g]? = w.heap[g]? := fun g hg hn => by
      rw [hu, Below.heap_alloc _ _ _ (by simp [hvs]; omega), Below.heap_alloc _ _ _ (by rw [hvs]; exact hg), hvb g hn]
    have huo : u.os = w.os ∧ u.tape = w.tape ∧ u.output = w.output := by rw [hu]; exact hvo
    have hMu : Maps2 u w.heap.size (w.heap.size + 1) 0 [] := by
      have a1 := MapIs.made v 48 (plainElem Ybaf.prog 41)
      have a2 := MapIs.made (v.alloc (.map #[] 0)) 41 keyElem
      refine ⟨?_, ?_, by omega, by simp⟩
      · have a3 : MapIs 48 (plainElem Ybaf.prog 41) u v.heap.size 0 [] := a1.of_block (by rw [hu, Below.heap_alloc _ _ _ (by simp)])
        rw [hvs] at a3
        exact a3
      · rw [← hu] at a2
        have e : (v.alloc (.map #[] 0)).heap.size = w.heap.size + 1 := by simp [hvs]
        rw [e] at a2
        exact a2
    have cu : ∀ g i, g < w.heap.size → g ≠ T → u.cell? ⟨g, i, none⟩ = w.cell? ⟨g, i, none⟩ := fun g i hg hn => by simp only [World.cell?, hub g hg hn]
    have hRu : IRow u ao its := fun hp => by
      obtain ⟨g, o', e, hg, hm⟩ := HR.out.1 hp
      have hgn := (HR.out.2.1 g o' e).2.1
      exact ⟨g, o', e, by omega, fun j m hj => ⟨(cu _ _ hg hgn).trans (hm j m hj).1, (cu _ _ hg hgn).trans (hm j m hj).2.1, (cu _ _ hg hgn).trans (hm j m hj).2.2.1, (cu _ _ hg hgn).trans (hm j m hj).2.2.2⟩⟩
    have hFu : F.answers u.tape := by rw [huo.2.1]; exact HF.out
    have hFbl := HFb.out.2.2.1
    refine add_loop (by unfold IsIf9; kernel_rfl) F (fun e w' h => ?_) hFu kTu hMu ⟨by omega, by omega⟩ ((cu _ _ hFbl HFb.out.2.2.2.1).trans HFb.out.1) ((cu _ _ hFbl HFb.out.2.2.2.1).trans HFb.out.2.1) ⟨by omega, by omega, by omega⟩ hRu (fun g o' e => by have := (HR.out.2.1 g o' e).1; omega) HR.out.2.2 HSZ.out.1 HSZ.out.2.1 (by omega) (by assumption) (by assumption)
    obtain ⟨n', h1, h2, h3, h4⟩ := h
    exact ⟨w.heap.size, w.heap.size + 1, n', by omega, ⟨kTu.of_block (h4.block T (by omega) (by omega) (by omega)), h2, by omega, by omega⟩, h3, ⟨h4.os.trans huo.1, h4.tape.trans huo.2.1, h4.output.trans huo.2.2, by have := h4.size; omega, fun g hg hn _ => (h4.block g (by omega) (by omega) (by omega)).trans (hub g hg hn)⟩, .inr ⟨Nat.le_refl _, by omega⟩⟩
  | some mm =>
    obtain ⟨m1, m2⟩ := mm
    obtain ⟨kT, hM, hT1, hT2⟩ := hT
    have t0 : w.cell? ⟨T, 0, none⟩ = some (.map (some m1)) := kT.cell 0
    have KT : Hid (Blk w T #[.map (some m1), .map (some m2)] 29) := kT
    have HM : Hid (Maps2 w m1 m2 n md ∧ T ≠ m1 ∧ T ≠ m2) := ⟨hM, hT1, hT2⟩
    clear kT hM hT1 hT2
    have hin : ∀ g, ¬ InT (some (m1, m2)) g → g ≠ m1 ∧ g ≠ m2 := fun g h => ⟨fun e => h ⟨m1, m2, rfl, .inl e⟩, fun e => h ⟨m1, m2, rfl, .inr e⟩⟩
    have HIN : Hid (∀ g, ¬ InT (some (m1, m2)) g → g ≠ m1 ∧ g ≠ m2) := hin
    clear hin
    have q0 := map_some m1
    go_enter Ybaf.func9, Ybaf.ntmps9
    go_upto_region 4 with fail
    refine add_loop (by unfold IsIf9; kernel_rfl) F (fun e w' h => ?_) HF.out KT.out HM.out.1 HM.out.2 HFb.out.1 HFb.out.2.1 ⟨HFb.out.2.2.1, HIN.out _ HFb.out.2.2.2.2⟩ HR.out.1 (fun g o' e => HIN.out _ (HR.out.2.1 g o' e).2.2) HR.out.2.2 HSZ.out.1 HSZ.out.2.1 HSZ.out.2.2 (by assumption) (by assumption)
    obtain ⟨n', h1, h2, h3, h4⟩ := h
    exact ⟨m1, m2, n', h1, ⟨KT.out.of_block (h4.block T KT.out.lt HM.out.2.1 HM.out.2.2), h2, HM.out.2⟩, h3, ⟨h4.os, h4.tape, h4.output, h4.size, fun g hg _ hi => h4.block g hg (HIN.out g hi).1 (HIN.out g hi).2⟩, .inl rfl⟩
end Go.Proofs.YbulkauvkFmt
