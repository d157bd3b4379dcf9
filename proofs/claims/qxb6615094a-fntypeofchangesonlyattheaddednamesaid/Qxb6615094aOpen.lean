/-
  A SLICE OF STRINGS AMONG THE ARGUMENTS, opened as 'Strs' asks.
-/
import Derived.Test.Qxb6615094aLeaf
import Derived.ProofKit
import Derived.OpenShut
import Derived.SliceStrings
namespace Go.Proofs.Qxb6615094a
open Go.ChangeShapes Go.WideShapes Go.ChangeAt Go.RowKit
set_option linter.unusedVariables false

theorem open_strs {H : Type} {enc : TypeId × Value → H} {W : World} {a : Option Addr} {len cap : Nat} {d : DataW H} {p : List MemPlace}
    (h : DataW.Trod enc Try.prog W 0 (fun _ => true) true 22 (.slice a len cap) d p) :
    ∃ ss : List ByteArray, len = ss.length ∧ ss.length ≤ maxLen ∧ (∀ s ∈ ss, s.size ≤ maxLen) ∧ Strs W a ss := by
  obtain ⟨fuel, hf⟩ := h
  rcases open_strings Try.underlying22 Try.underlying9 (by kernel_rfl) hf with ⟨hcs, _⟩ | ⟨x, l, c, ss, hcs, _, hl, hm, hz, _, hcell, hws⟩
  · simp [Value.cells] at hcs
    obtain ⟨rfl, rfl, rfl⟩ := hcs
    exact ⟨[], rfl, Nat.zero_le _, by simp, Or.inl rfl⟩
  · simp [Value.cells] at hcs
    obtain ⟨rfl, rfl, rfl⟩ := hcs
    simp only [if_true] at hz
    have hlen : (ss.take len).length = len := by simp; omega
    refine ⟨ss.take len, hlen.symm, by omega, fun s hs => hws s (List.mem_of_mem_take hs), ?_⟩
    by_cases h0 : len = 0
    · exact Or.inl (List.eq_nil_of_length_eq_zero (by omega))
    · obtain ⟨b, off, spot⟩ := x
      have hspot : spot = none := by simpa [Addr.add] using World.cell?_spot (hcell 0 (by omega))
      subst hspot
      refine Or.inr ⟨b, off, rfl, fun i hi => ?_⟩
      have e := hcell i (by omega)
      rw [add_plain] at e
      rw [e]
      simp only [List.getD_eq_getElem?_getD]
      rw [List.getElem?_take_of_lt (by omega)]
end Go.Proofs.Qxb6615094a
