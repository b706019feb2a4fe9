/-
  A slice of strings among the arguments, opened for the walk.
-/
import Derived.Test.Qxb6002403aKit
import Derived.SliceStrings
import Derived.ChangeOld
namespace Go.Proofs.Qxb6002403a
open Go.ChangeShapes Go.WideShapes Go.ChangeAt Go.RowKit

theorem laidOut : laidOutB Try.prog = true := by kernel_rfl
theorem own : ownKnob Try.prog.godebug = none := by kernel_rfl

theorem strs_of_cells {w : World} {a : Addr} {ss : List ByteArray} {len : Nat} (h : ∀ i, i < ss.length → w.cell? (a.add i) = some (.string (ss.getD i ByteArray.empty))) : StrsAt w (some a) (ss.take len) := by
  by_cases h0 : (ss.take len).length = 0
  · exact Or.inl (List.eq_nil_of_length_eq_zero h0)
  · right
    have hp : 0 < ss.length := by
      have := List.length_take_le' len ss
      omega
    have h00 := h 0 hp
    obtain ⟨b, off, sp⟩ := a
    have hsp : sp = none := by
      cases sp with
      | none => rfl
      | some s =>
        simp only [Addr.add, if_pos] at h00
        unfold World.cell? at h00
        split at h00
        · simp at h00
        · cases h00
    subst hsp
    refine ⟨b, off, rfl, fun j x hj => ?_⟩
    rw [List.getElem?_take] at hj
    split at hj
    · have hjl := (List.getElem?_eq_some_iff.1 hj).1
      have := h j hjl
      have e : ss.getD j ByteArray.empty = x := by rw [List.getD_eq_getElem?_getD, hj]; rfl
      rw [e] at this
      by_cases hj0 : j = 0
      · subst hj0; simpa [Addr.add] using this
      · simpa [Addr.add, hj0] using this
    · cases hj

/-- What the walk is told of a slice of strings that came in. -/
theorem strs_open {H : Type} {enc : TypeId × Value → H} {W : World} {a : Option Addr} {len cap : Nat} {d : DataW H} {p : List MemPlace} (h : DataW.Trod enc Try.prog W 0 (fun _ => true) true 22 (.slice a len cap) d p) :
    ∃ xs : List ByteArray, len = xs.length ∧ StrsAt W a xs ∧ (∀ x ∈ xs, x.size ≤ maxLen) ∧ xs.length ≤ maxLen := by
  obtain ⟨fuel, hf⟩ := h
  rcases open_strings Try.underlying22 Try.underlying9 (by kernel_rfl) hf with ⟨hcs, _⟩ | ⟨x, l, c, ss, hcs, _, hl, hm, hz, _, hcell, hws⟩
  · simp [Value.cells] at hcs
    obtain ⟨rfl, rfl, rfl⟩ := hcs
    exact ⟨[], rfl, Or.inl rfl, by simp, by simp⟩
  · simp [Value.cells] at hcs
    obtain ⟨rfl, rfl, rfl⟩ := hcs
    have hz' : ss.length = cap := by simpa using hz
    refine ⟨ss.take len, by simp; omega, strs_of_cells hcell, fun y hy => hws y (List.mem_of_mem_take hy), by simp; omega⟩

end Go.Proofs.Qxb6002403a
