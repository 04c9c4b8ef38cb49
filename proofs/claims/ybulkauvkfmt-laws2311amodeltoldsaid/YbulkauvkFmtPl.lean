/-
  The law's great loop, in plain words: the table and the model side by side.
-/
import Derived.Test.YbulkauvkFmtL3
import Derived.Test.YbulkauvkFmtL6
namespace Go.Proofs.YbulkauvkFmt
open Go.RowKit Go.Deep

def sumL (fs : List Fi) : Nat := (fs.map fun f => f.es.length).sum
theorem sumL_succ {fs : List Fi} {k : Nat} {f : Fi} (h : fs[k]? = some f) : sumL (fs.take (k + 1)) = sumL (fs.take k) + f.es.length := by
  unfold sumL
  rw [List.take_add_one, h]
  simp
theorem sumL_take_le (fs : List Fi) (k : Nat) : sumL (fs.take k) ≤ sumL fs := by
  have h : sumL (fs.take k ++ fs.drop k) = sumL (fs.take k) + sumL (fs.drop k) := by
    unfold sumL
    rw [List.map_append, List.sum_append]
  rw [List.take_append_drop] at h
  omega
theorem sumL_bound {fs : List Fi} (h : ∀ f ∈ fs, f.es.length ≤ 140737488355328) : sumL fs ≤ fs.length * 140737488355328 := by
  induction fs with
  | nil => simp [sumL]
  | cons x xs ih =>
    have h1 := h x List.mem_cons_self
    have h2 := ih (fun f hf => h f (List.mem_cons_of_mem _ hf))
    simp only [sumL, List.map_cons, List.sum_cons, List.length_cons] at h2 ⊢
    omega
theorem len_le_sum {fs : List Fi} {k : Nat} {f : Fi} (h : fs[k]? = some f) : f.es.length ≤ sumL fs := by
  have h1 := sumL_succ h
  have h2 := sumL_take_le fs (k + 1)
  omega

theorem addL_keep : ∀ (qs md : List Pr) (p : Pr), p ∈ md → p ∈ (addL md qs).2
  | [], _, _, h => h
  | q :: qs, md, p, h => by
    unfold addL
    split
    · exact h
    · refine addL_keep qs _ p ?_
      unfold stepL
      split
      · exact h
      · exact List.mem_append_left _ h
theorem pr_ext {p q : Pr} (h : (sameK p q && p.sid == q.sid) = true) : p = q := by
  obtain ⟨a, b, c⟩ := p
  obtain ⟨a', b', c'⟩ := q
  simp [sameK] at h
  obtain ⟨⟨rfl, rfl⟩, rfl⟩ := h
  rfl
theorem step_mem (md : List Pr) (q : Pr) : q ∈ stepL md q := by
  unfold stepL
  split
  · rename_i h
    obtain ⟨p, hp, hc⟩ := List.any_eq_true.1 h
    rw [← pr_ext hc]
    exact hp
  · simp
theorem addL_mem : ∀ (qs md : List Pr), (addL md qs).1 = false → ∀ q ∈ qs, q ∈ (addL md qs).2
  | [], _, _, q, h => by cases h
  | x :: qs, md, h, q, hq => by
    unfold addL at h ⊢
    split at h
    · cases h
    · rename_i hb
      rw [if_neg hb]
      rcases List.mem_cons.1 hq with rfl | hq
      · exact addL_keep qs _ _ (step_mem md q)
      · exact addL_mem qs _ h q hq
theorem step_len (md : List Pr) (q : Pr) : (stepL md q).length ≤ md.length + 1 := by
  unfold stepL
  split <;> simp
theorem addL_len : ∀ (qs md : List Pr), (addL md qs).2.length ≤ md.length + qs.length
  | [], _ => by simp [addL]
  | q :: qs, md => by
    unfold addL
    split
    · simp
    · have := addL_len qs (stepL md q)
      have := step_len md q
      simp only [List.length_cons]
      omega

theorem icells_len (ms : List It) : (icells ms).length = ms.length * 4 := by
  induction ms with
  | nil => rfl
  | cons x xs ih => simp [icells] at ih ⊢; omega
theorem icells_get : ∀ (ms : List It) (j : Nat) (m : It), ms[j]? = some m → (icells ms)[j * 4]? = some (.string m.ns) ∧ (icells ms)[j * 4 + 1]? = some (.string m.id) ∧ (icells ms)[j * 4 + 2]? = some (.int .u64 m.sid) ∧ (icells ms)[j * 4 + 3]? = some (.string ⟨#[]⟩)
  | [], _, _, h => by simp at h
  | x :: xs, 0, m, h => by
    simp at h
    subst h
    exact ⟨rfl, rfl, rfl, rfl⟩
  | x :: xs, j + 1, m, h => by
    have ih := icells_get xs j m (by simpa using h)
    have e : icells (x :: xs) = .string x.ns :: .string x.id :: .int .u64 x.sid :: .string ⟨#[]⟩ :: icells xs := rfl
    rw [e]
    rw [show (j + 1) * 4 = j * 4 + 4 by omega]
    exact ⟨by simpa using ih.1, by simpa [Nat.add_assoc] using ih.2.1, by simpa [Nat.add_assoc] using ih.2.2.1, by simpa [Nat.add_assoc] using ih.2.2.2⟩
theorem irow_of_owns {w : World} {B : Nat} {v : Value} {n : Nat} {ms : List It} (h : w.ownsRow B 43 4 v n (icells ms)) : ∃ ao cap, v = .slice ao n cap ∧ n = ms.length ∧ IRow w ao ms ∧ ∀ g o, ao = some ⟨g, o, none⟩ → B ≤ g ∧ g < w.heap.size := by
  obtain ⟨hl, h⟩ := h
  have hn : n = ms.length := by rw [icells_len] at hl; omega
  obtain ⟨rfl, rfl⟩ | ⟨g, cap, cur, rfl, hb, hg, hc, _, hs, ht⟩ := h
  · exact ⟨none, 0, rfl, hn, fun h => by omega, fun g o e => by cases e⟩
  · have hlt := (Array.getElem?_eq_some_iff.1 hg).1
    refine ⟨_, cap, rfl, hn, fun _ => ⟨g, 0, rfl, hlt, fun j m hj => ?_⟩, fun g' o' e => ?_⟩
    · have hh := icells_get ms j m hj
      rw [← ht] at hh
      have key : ∀ i v, (cur.toList.take (n * 4))[i]? = some v → w.cell? ⟨g, i, none⟩ = some v := fun i v hi => by
        rw [List.getElem?_take] at hi
        split at hi
        · simp only [World.cell?, hg]; simpa using hi
        · cases hi
      rw [Nat.zero_add]
      exact ⟨key _ _ hh.1, key _ _ hh.2.1, key _ _ hh.2.2.1, key _ _ hh.2.2.2⟩
    · injection e with e
      injection e with e1 e2
      subst e1
      exact ⟨hb, hlt⟩
theorem itOf_fit {e : En} (h : e.fit) : (itOf e).fit := by
  have h1 := small_ns e.ns
  have h2 := small_id e.id
  have h3 := h.2.2
  refine ⟨?_, ?_, ?_, ?_⟩
  · show (nsB e.ns).size ≤ 40; omega
  · show (idB e.id).size ≤ 40; omega
  · show 0 ≤ e.sid % 6; omega
  · show e.sid % 6 ≤ 255; omega

/-- the file that the law has built -/
def FileS (Fb : Nat) (mod : ByteArray) (ao : Option Addr) (cap : Nat) (its : List It) (x : World) : Prop :=
  Blk x Fb (fileC mod (.slice ao its.length cap)) 38 ∧ IRow x ao its ∧ ∀ g o, ao = some ⟨g, o, none⟩ → Fb < g ∧ g < x.heap.size
theorem file_of_l3 {Fb : Nat} {mod : ByteArray} {es : List En} {u w' : World} (h : L3Post Fb mod es u w') : Below Fb u w' ∧ ∃ ao cap, FileS Fb mod ao cap (es.map itOf) w' := by
  obtain ⟨v, hk, ho, hb⟩ := h
  obtain ⟨ao, cap, rfl, hn, hr, hlt⟩ := irow_of_owns ho
  refine ⟨hb, ao, cap, by rw [List.length_map]; exact hk, hr, fun g o e => ?_⟩
  have := hlt g o e
  omega
theorem FileS.keep {Fb : Nat} {mod : ByteArray} {ao : Option Addr} {cap : Nat} {its : List It} {x y : World} (h : FileS Fb mod ao cap its x) (hb : ∀ g, Fb ≤ g → g < x.heap.size → y.heap[g]? = x.heap[g]?) (hs : x.heap.size ≤ y.heap.size) : FileS Fb mod ao cap its y := by
  obtain ⟨k, r, l⟩ := h
  refine ⟨k.of_block (hb Fb (Nat.le_refl _) k.lt), fun hp => ?_, fun g o e => ⟨(l g o e).1, Nat.lt_of_lt_of_le (l g o e).2 hs⟩⟩
  obtain ⟨g, o, e, hg, hm⟩ := r hp
  have hbg := hb g (Nat.le_of_lt (l g o e).1) hg
  have key : ∀ i, y.cell? ⟨g, i, none⟩ = x.cell? ⟨g, i, none⟩ := fun i => World.cell?_of_block hbg
  exact ⟨g, o, e, Nat.lt_of_lt_of_le hg hs, fun j m hj => ⟨(key _).trans (hm j m hj).1, (key _).trans (hm j m hj).2.1, (key _).trans (hm j m hj).2.2.1, (key _).trans (hm j m hj).2.2.2⟩⟩
theorem FileS.mod {Fb : Nat} {mod : ByteArray} {ao : Option Addr} {cap : Nat} {its : List It} {x : World} (h : FileS Fb mod ao cap its x) : x.cell? ⟨Fb, 0, none⟩ = some (.string mod) := h.1.cell 0
theorem FileS.items {Fb : Nat} {mod : ByteArray} {ao : Option Addr} {cap : Nat} {its : List It} {x : World} (h : FileS Fb mod ao cap its x) : x.cell? ⟨Fb, 7, none⟩ = some (.slice ao its.length cap) := h.1.cell 7

/-- the table and the model, behind some files with s items -/
structure L2S (H T : Nat) (W : World) (s : Nat) (o : Option (Nat × Nat)) (n : Nat) (md : List Pr) (v7 : Value) (wx : World) : Prop where
  tab : TabO wx T o n md
  row : wx.ownsRow H 50 3 v7 md.length (pcells md)
  bel : Below H W wx
  hT : H ≤ T
  hI : ∀ g, InT o g → H ≤ g
  len : md.length ≤ s
  hn : n ≤ s
  size : H ≤ wx.heap.size

theorem MapIs.obj {k : TypeId} {R : Value → Option (DataW Unit × List MemPlace)} {w : World} {b n : Nat} {l : List (Value × Value)} (h : MapIs k R w b n l) : ∃ es c, w.heap[b]? = some (.map es c) := by
  obtain ⟨D, ⟨es, c, h, _⟩, _⟩ := h
  exact ⟨es, c, h⟩
theorem TabO.lt {w : World} {T n : Nat} {o : Option (Nat × Nat)} {md : List Pr} (h : TabO w T o n md) : T < w.heap.size ∧ ∀ g, InT o g → g < w.heap.size := by
  cases o with
  | none => exact ⟨h.1.lt, fun g ⟨a, b, e, _⟩ => by cases e⟩
  | some mm =>
    obtain ⟨m1, m2⟩ := mm
    refine ⟨h.1.lt, fun g ⟨a, b, e, hg⟩ => ?_⟩
    injection e with e
    injection e with e1 e2
    subst e1 e2
    rcases hg with rfl | rfl
    · exact h.2.1.s.lt
    · exact h.2.1.i.lt
theorem TabO.kept {w x : World} {T n : Nat} {o : Option (Nat × Nat)} {md : List Pr} (h : TabO w T o n md) (hT : x.heap[T]? = w.heap[T]?) (hI : ∀ g, InT o g → x.heap[g]? = w.heap[g]?) : TabO x T o n md := by
  cases o with
  | none => exact ⟨h.1.of_block hT, h.2⟩
  | some mm =>
    obtain ⟨m1, m2⟩ := mm
    exact ⟨h.1.of_block hT, h.2.1.of_block (hI m1 ⟨m1, m2, rfl, .inl rfl⟩) (hI m2 ⟨m1, m2, rfl, .inr rfl⟩), h.2.2⟩
theorem TabO.apart {w : World} {B T n k : Nat} {o : Option (Nat × Nat)} {md : List Pr} {v : Value} {l : List Value} (h : TabO w T o n md) (ho : w.ownsRow B 50 3 v k l) : v.ownBlock ≠ some T ∧ ∀ g, InT o g → v.ownBlock ≠ some g := by
  obtain ⟨_, ⟨rfl, _⟩ | ⟨b, cap, cur, rfl, hb, hg, _⟩⟩ := ho
  · exact ⟨by simp [Value.ownBlock], fun g _ => by simp [Value.ownBlock]⟩
  · have kT : ∃ c, Blk w T c 29 := by
      cases o with
      | none => exact ⟨_, h.1⟩
      | some mm => exact ⟨_, h.1⟩
    obtain ⟨c, kT⟩ := kT
    refine ⟨fun e => ?_, fun g hi e => ?_⟩
    · simp [Value.ownBlock] at e
      subst e
      unfold Blk at kT
      rw [hg] at kT
      injection kT with kT
      injection kT with _ kT
      cases kT
    · simp [Value.ownBlock] at e
      subst e
      obtain ⟨m1, m2, rfl, hm⟩ := hi
      have : ∃ es c, w.heap[b]? = some (.map es c) := by
        rcases hm with rfl | rfl
        · exact h.2.1.s.obj
        · exact h.2.1.i.obj
      obtain ⟨es, c', this⟩ := this
      rw [hg] at this
      cases this

section
variable {H T s n : Nat} {W wr x x3 x4 x5 x6 : World} {o : Option (Nat × Nat)} {md : List Pr} {v7 : Value}
theorem L2S.new (h : L2S H T W s o n md v7 wr) {g : Nat} (hg : wr.heap.size ≤ g) : g ≠ T ∧ ¬ InT o g ∧ v7.ownBlock ≠ some g :=
  ⟨fun e => by have := h.tab.lt.1; omega, fun e => by have := h.tab.lt.2 g e; omega, own_ne h.row (.inl hg)⟩
theorem L2S.below (h : L2S H T W s o n md v7 wr) (hb : Below wr.heap.size wr x) : L2S H T W s o n md v7 x where
  tab := h.tab.kept (hb.block T h.tab.lt.1) (fun g hg => hb.block g (h.tab.lt.2 g hg))
  row := owns_kept h.row (fun g hg => hb.block g hg)
  bel := h.bel.trans (hb.mono h.size)
  hT := h.hT
  hI := h.hI
  len := h.len
  hn := h.hn
  size := Nat.le_trans h.size hb.size
/-- the model behind Add -/
theorem L2S.row4 (h : L2S H T W s o n md v7 x3) (hk : KeepT T o x3 x4) : x4.ownsRow H 50 3 v7 md.length (pcells md) := by
  have ha := h.tab.apart h.row
  have hrow := h.row
  obtain ⟨hl, h' | ⟨g, cap, cur, rfl, hb, hg, h2⟩⟩ := hrow
  · exact ⟨hl, .inl h'⟩
  · refine ⟨hl, .inr ⟨g, cap, cur, rfl, hb, (hk.block g (Array.getElem?_eq_some_iff.1 hg).1 (fun e => ha.1 (by rw [← e]; rfl)) (fun hi => ha.2 g hi rfl)).trans hg, h2⟩⟩
/-- the file behind Add -/
theorem FileS.add {Fb : Nat} {mod : ByteArray} {ao : Option Addr} {cap : Nat} {its : List It} (hf : FileS Fb mod ao cap its x3) (hnew : ∀ g, Fb ≤ g → g ≠ T ∧ ¬ InT o g ∧ v7.ownBlock ≠ some g) (hk : KeepT T o x3 x4) : FileS Fb mod ao cap its x4 :=
  hf.keep (fun g hg hl => hk.block g hl (hnew g hg).1 (hnew g hg).2.1) hk.size
/-- the file behind the model's step -/
theorem FileS.step {Fb : Nat} {mod : ByteArray} {ao : Option Addr} {cap : Nat} {its : List It} (hf : FileS Fb mod ao cap its x4) (hnew : ∀ g, Fb ≤ g → g ≠ T ∧ ¬ InT o g ∧ v7.ownBlock ≠ some g) (hk : x4.grownBy x5 v7.ownBlock) : FileS Fb mod ao cap its x5 :=
  hf.keep (fun g hg hl => hk.block g hl (fun e => (hnew g hg).2.2 e.symm)) hk.size
/-- one file further -/
theorem L2S.step (h : L2S H T W s o n md v7 x3) {qs : List Pr} {m1 m2 n' : Nat} {v7' : Value} (hn' : n' ≤ n + qs.length) (ht : TabO x4 T (some (m1, m2)) n' (addL md qs).2) (hk : KeepT T o x3 x4) (hoo : o = some (m1, m2) ∨ (x3.heap.size ≤ m1 ∧ x3.heap.size ≤ m2))
    (hr : x5.ownsRow H 50 3 v7' (addL md qs).2.length (pcells (addL md qs).2)) (hg : x4.grownBy x5 v7.ownBlock) : L2S H T W (s + qs.length) (some (m1, m2)) n' (addL md qs).2 v7' x5 where
  tab := by
    have ha := ht.apart (h.row4 hk)
    exact ht.kept (hg.block T ht.lt.1 (fun e => ha.1 e.symm)) (fun g hi => hg.block g (ht.lt.2 g hi) (fun e => ha.2 g hi e.symm))
  row := hr
  bel := by
    have hb4 : Below H W x4 := h.bel.trans ⟨hk.os, hk.tape, hk.output, hk.size, fun g hgH => hk.block g (Nat.lt_of_lt_of_le hgH h.size) (fun e => by have := h.hT; omega) (fun hi => by have := h.hI g hi; omega)⟩
    exact below_grow hb4 (Nat.le_trans h.size hk.size) hg h.row
  hT := h.hT
  hI := fun g ⟨a, b, e, hgab⟩ => by
    rcases hoo with rfl | hoo
    · exact h.hI g ⟨a, b, e, hgab⟩
    · injection e with e
      injection e with e1 e2
      have := h.size
      omega
  len := by have := addL_len qs md; have := h.len; omega
  hn := by have := h.hn; omega
  size := Nat.le_trans h.size (Nat.le_trans hk.size hg.size)
end
end Go.Proofs.YbulkauvkFmt
