/-
  The two maps of a Table: their keys and elements.
-/
import Derived.Test.YbulkauvkFmtMap
namespace Go.Proofs.YbulkauvkFmt
open Go.RowKit Go.WideShapes
open Go.Maps (Keyed)
set_option maxRecDepth 100000

theorem laidOut : laidOutB Ybaf.prog = true := by kernel_rfl
theorem row48 : (48 : TypeId) < Ybaf.prog.types.size := of_decide_eq_true (by kernel_rfl)
theorem wide48 : (match Ybaf.prog.underlying 48 with | some (.array _ _) | some (.struct _) => true | _ => false) = true := by kernel_rfl
theorem keyed48 : Keyed Ybaf.prog 48 := Keyed.of_law (deep_law_laid laidOut (m := 2) (by omega) row48 (by kernel_rfl) wide48)
theorem keyed41 : Keyed Ybaf.prog 41 := Maps.int_keyed Ybaf.underlying41
theorem keyType48 : Ybaf.prog.keyType 48 = true := by kernel_rfl
theorem cells48 : Ybaf.prog.cellsOf 48 = 2 := by kernel_rfl
theorem cells9 : Ybaf.prog.cellsOf 9 = 1 := by kernel_rfl
theorem size_two : ∃ m, Ybaf.prog.types.size + 1 = m + 2 := ⟨Ybaf.prog.types.size - 1, by have h : (48 : Nat) < Ybaf.prog.types.size := row48; omega⟩

/-- the value of a key -/
def kv (ns id : ByteArray) : Value := .agg #[.string ns, .string id]
set_option linter.unusedSimpArgs false in
theorem key_two {P : Program} {k : TypeId} {f0 f1 : Field} (hu : P.underlying k = some (.struct #[f0, f1])) (t0 : P.underlying f0.type = some .string) (t1 : P.underlying f1.type = some .string) (o0 : f0.offset = 0) (o1 : f1.offset = 1) (n0 : (f0.name != "_") = true) (n1 : (f1.name != "_") = true)
    (hc : P.cellsOf k = 2) (c0 : P.cellsOf f0.type = 1) (c1 : P.cellsOf f1.type = 1) (hkt : P.keyType k = true) {m : Nat} (hm : P.types.size + 1 = m + 2) (a b : ByteArray) (h1 : a.size ≤ maxLen) (h2 : b.size ≤ maxLen) : ∃ kl, keyOf P k (.agg #[.string a, .string b]) = some kl := by
  have e0 : P.keyLits (m + 1) f0.type [.string a] = some [.string a.data.toList] := by unfold Program.keyLits; simp [t0, h1]
  have e1 : P.keyLits (m + 1) f1.type [.string b] = some [.string b.data.toList] := by unfold Program.keyLits; simp [t1, h2]
  have e2 : P.keyLits (m + 2) k [.string a, .string b] = some [.string a.data.toList, .string b.data.toList] := by
    unfold Program.keyLits
    simp only [hu]
    simp [hc, n0, n1, o0, o1, c0, c1, e0, e1, bne] at *
    simp [n0, n1]
  refine ⟨.string (keyBytes [.string a.data.toList, .string b.data.toList]), ?_⟩
  unfold keyOf
  simp only [hu]
  rw [hkt, hm]
  have hf : (Value.agg #[.string a, .string b]).formed P k = true := by simp [Value.formed, hu, hc]
  rw [hf]
  simp [Value.cells, e2]
theorem key48 (ns id : ByteArray) (h1 : ns.size ≤ maxLen) (h2 : id.size ≤ maxLen) : ∃ kl, keyOf Ybaf.prog 48 (kv ns id) = some kl := by
  obtain ⟨m, hm⟩ := size_two
  exact key_two Ybaf.underlying48 Ybaf.underlying9 Ybaf.underlying9 rfl rfl (by decide) (by decide) cells48 cells9 cells9 keyType48 hm ns id h1 h2
theorem key41 (n : Int) (h : (Lit.int .u64 n).wf = true) : keyOf Ybaf.prog 41 (.int .u64 n) = some (.int .u64 n) := Maps.keyOf_int_mk Ybaf.underlying41 h
theorem zero41 (w : World) : (zeroValue 41).run Ybaf.prog w = .ok (.int .u64 0) w := by kernel_rfl
theorem zero48 (w : World) : (zeroValue 48).run Ybaf.prog w = .ok (kv ⟨#[]⟩ ⟨#[]⟩) w := by kernel_rfl

/-- how a key reads as an element -/
def keyElem : Value → Option (DataW Unit × List MemPlace)
  | .agg cs => match cs.toList with
    | [.string a, .string b] => some (.agg [.lit (.string a.data.toList), .lit (.string b.data.toList)], [])
    | _ => none
  | _ => none
theorem keyElem_kv (a b : ByteArray) : keyElem (kv a b) = some (.agg [.lit (.string a.data.toList), .lit (.string b.data.toList)], []) := rfl
theorem bytes_ext {a b : ByteArray} (h : a.data.toList = b.data.toList) : a = b := by
  obtain ⟨⟨a⟩⟩ := a
  obtain ⟨⟨b⟩⟩ := b
  simp at h
  rw [h]
theorem keyElem_inv {v : Value} {z : DataW Unit × List MemPlace} (h : keyElem v = some z) : ∃ a b, v = kv a b ∧ z = (.agg [.lit (.string a.data.toList), .lit (.string b.data.toList)], []) := by
  unfold keyElem at h
  split at h
  · rename_i cs
    split at h
    · rename_i a b e
      cases h
      refine ⟨a, b, ?_, rfl⟩
      unfold kv
      obtain ⟨l⟩ := cs
      simp at e
      rw [e]
    · cases h
  · cases h
theorem keyElem_inj : RInj keyElem := by
  intro x y d p q hx hy
  obtain ⟨a, b, rfl, e1⟩ := keyElem_inv hx
  obtain ⟨a', b', rfl, e2⟩ := keyElem_inv hy
  injection e1 with e1 _
  injection e2 with e2 _
  rw [e1] at e2
  simp only [DataW.agg.injEq, List.cons.injEq, DataW.lit.injEq, Lit.string.injEq, and_true] at e2
  have h1 : a = a' := bytes_ext e2.1
  have h2 : b = b' := bytes_ext e2.2
  rw [h1, h2]
theorem int_inj : RInj (plainElem Ybaf.prog 41) := by
  intro x y d p q hx hy
  obtain ⟨a, rfl, e1, _⟩ := plainElem_int_inv Ybaf.underlying41 hx
  obtain ⟨a', rfl, e2, _⟩ := plainElem_int_inv Ybaf.underlying41 hy
  injection e1 with e1 _
  injection e2 with e2 _
  rw [e1] at e2
  injection e2 with e2
  injection e2 with _ e2
  rw [e2]
theorem kv_inj {a b c d : ByteArray} (h : kv a b = kv c d) : a = c ∧ b = d := by
  unfold kv at h
  injection h with h
  simp at h
  exact h
end Go.Proofs.YbulkauvkFmt
