/-
  PLAIN LAWS for seat b6001776a: the text before and behind the first dot.
-/
import Derived.Lib.Strings
import Derived.Lib.Bytealg
namespace Go.Proofs.Qxb6001776a
set_option linter.unusedVariables false
set_option linter.unusedSimpArgs false

/-- Before the first dot (all, where there is none). -/
def bef : List UInt8 → List UInt8
  | [] => []
  | b :: l => if b = 46 then [] else b :: bef l
/-- Behind the first dot (nothing, where there is none). -/
def aft : List UInt8 → List UInt8
  | [] => []
  | b :: l => if b = 46 then l else aft l

theorem bef_le (l : List UInt8) : (bef l).length ≤ l.length := by
  induction l with
  | nil => simp [bef]
  | cons b l ih => unfold bef; split <;> simp <;> omega
theorem aft_le (l : List UInt8) : (aft l).length ≤ l.length := by
  induction l with
  | nil => simp [aft]
  | cons b l ih => unfold aft; split <;> simp <;> omega

theorem cut_miss : ∀ (l : List UInt8), Lib.indexByte l 46 = -1 → bef l = l ∧ aft l = []
  | [], _ => ⟨rfl, rfl⟩
  | b :: l, h => by
    unfold Lib.indexByte at h
    by_cases hb : b = 46
    · subst hb; simp at h
    · rw [if_neg (by simpa using hb)] at h
      have h' : Lib.indexByte l 46 = -1 := by
        by_cases e : (Lib.indexByte l 46 == -1) = true
        · simpa using e
        · rw [if_neg e] at h
          have := Lib.indexByte_ge l 46
          omega
      obtain ⟨i1, i2⟩ := cut_miss l h'
      exact ⟨by rw [bef, if_neg hb, i1], by rw [aft, if_neg hb, i2]⟩

theorem cut_hit : ∀ (l : List UInt8) (i : Nat), Lib.indexByte l 46 = i → bef l = l.take i ∧ aft l = l.drop (i + 1) ∧ i < l.length
  | [], i, h => by simp [Lib.indexByte] at h
  | b :: l, i, h => by
    unfold Lib.indexByte at h
    by_cases hb : b = 46
    · subst hb
      simp at h
      have : i = 0 := by omega
      subst this
      exact ⟨by simp [bef], by simp [aft], by simp⟩
    · rw [if_neg (by simpa using hb)] at h
      by_cases e : (Lib.indexByte l 46 == -1) = true
      · rw [if_pos e] at h; omega
      · rw [if_neg e] at h
        have hge := Lib.indexByte_ge l 46
        have e' : Lib.indexByte l 46 ≠ -1 := by simpa using e
        have h' : Lib.indexByte l 46 = ((i - 1 : Nat) : Int) := by omega
        have hi : i = (i - 1) + 1 := by omega
        obtain ⟨i1, i2, i3⟩ := cut_hit l (i - 1) h'
        rw [hi]
        exact ⟨by rw [bef, if_neg hb, i1]; simp, by rw [aft, if_neg hb, i2]; simp, by simp; omega⟩

theorem cut_cases (l : List UInt8) : Lib.indexByte l 46 = -1 ∨ ∃ i : Nat, Lib.indexByte l 46 = i := by
  have := Lib.indexByte_ge l 46
  by_cases e : Lib.indexByte l 46 = -1
  · exact Or.inl e
  · exact Or.inr ⟨(Lib.indexByte l 46).toNat, by omega⟩

end Go.Proofs.Qxb6001776a
