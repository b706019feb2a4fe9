import Derived.Test.Qxb6001776aWords
namespace Go.Proofs.Qxb6001776a.fnVersionFlagsMajorMinorStable
open Go.RowKit
set_option linter.unusedVariables false
set_option linter.unusedSimpArgs false

theorem trimV_v (l : List UInt8) : trimV (118 :: l) = l := by
  simp [trimV, Lib.trimPrefix, Lib.hasPrefix]
theorem trimV_other (b : UInt8) (l : List UInt8) (h : b ≠ 118) : trimV (b :: l) = b :: l := by
  simp [trimV, Lib.trimPrefix, Lib.hasPrefix, List.isPrefixOf]
  intro e; exact absurd e.symm h

/-- x does not begin with v. -/
def plainHead (l : List UInt8) : Prop := l = [] ∨ ∃ b t, l = b :: t ∧ b ≠ 118

theorem trim_plain {l : List UInt8} (h : plainHead l) : trimV l = l := by
  rcases h with rfl | ⟨b, t, rfl, hb⟩
  · rfl
  · exact trimV_other b t hb

theorem major_v (x : ByteArray) (h : plainHead x.data.toList) : majorB ((⟨#[118]⟩ : ByteArray) ++ x) = majorB x ∧ minorB ((⟨#[118]⟩ : ByteArray) ++ x) = minorB x := by
  have e : ((⟨#[118]⟩ : ByteArray) ++ x).data.toList = 118 :: x.data.toList := by rw [data_app']; rfl
  constructor
  · unfold majorB; rw [e, trimV_v, trim_plain h]
  · unfold minorB; rw [e, trimV_v, trim_plain h]

theorem cnt_cons (c b : UInt8) (l : List UInt8) : cnt c (b :: l) = cnt c l + if b = c then 1 else 0 := by
  unfold cnt; rw [List.count_cons]; simp

theorem bef_app : ∀ (l y : List UInt8), 1 ≤ cnt 46 l → bef (l ++ y) = bef l ∧ aft (l ++ y) = aft l ++ y ∧ cnt 46 l = cnt 46 (aft l) + 1
  | [], y, h => by simp [cnt] at h
  | b :: l, y, h => by
    rw [cnt_cons] at h ⊢
    by_cases hb : b = 46
    · subst hb
      simp [bef, aft]
    · rw [if_neg hb] at h ⊢
      obtain ⟨i1, i2, i3⟩ := bef_app l y (by omega)
      refine ⟨by rw [List.cons_append, bef, if_neg hb, bef, if_neg hb, i1], by rw [List.cons_append, aft, if_neg hb, aft, if_neg hb, i2], by rw [aft, if_neg hb]; omega⟩

theorem plain_app {x y : List UInt8} (h : plainHead x) (hc : 2 ≤ cnt 46 x) : plainHead (x ++ y) := by
  rcases h with rfl | ⟨b, t, rfl, hb⟩
  · simp [cnt] at hc
  · exact Or.inr ⟨b, t ++ y, rfl, hb⟩

theorem major_app (x y : ByteArray) (h : plainHead x.data.toList) (hc : 2 ≤ cnt 46 x.data.toList) : majorB (x ++ y) = majorB x ∧ minorB (x ++ y) = minorB x := by
  obtain ⟨a1, a2, a3⟩ := bef_app x.data.toList y.data.toList (by omega)
  obtain ⟨b1, _, _⟩ := bef_app (aft x.data.toList) y.data.toList (by omega)
  have e : (x ++ y).data.toList = x.data.toList ++ y.data.toList := data_app' x y
  constructor
  · unfold majorB; rw [e, trim_plain (plain_app h hc), trim_plain h, a1]
  · unfold minorB; rw [e, trim_plain (plain_app h hc), trim_plain h, a2, b1]

theorem nosp_of {l : List UInt8} (h : has 32 l = false) : ∀ b ∈ l, b ≠ 32 := by
  intro b hb e
  subst e
  rw [has_true hb] at h
  cases h

theorem head_eq (v : ByteArray) (h : 0 < v.size) : ∃ t, v.data.toList = v[0]'h :: t := by
  have e : v[0]'h = v.data.toList[0]'(by rw [← Lib.size_eq]; exact h) := rfl
  rw [e]
  have := List.drop_eq_getElem_cons (i := 0) (l := v.data.toList) (by rw [← Lib.size_eq]; exact h)
  exact ⟨_, by simpa using this⟩

theorem head_cases (v : ByteArray) : (v.size = 0 ∧ plainHead v.data.toList) ∨ (∃ h : 0 < v.size, (((v[0]'h).toNat : Int) == 118) = true) ∨ (∃ h : 0 < v.size, (((v[0]'h).toNat : Int) == 118) = false ∧ plainHead v.data.toList) := by
  by_cases h0 : v.size = 0
  · left
    exact ⟨h0, Or.inl (List.eq_nil_of_length_eq_zero (by rw [← Lib.size_eq]; exact h0))⟩
  · right
    have hp : 0 < v.size := by omega
    obtain ⟨t, ht⟩ := head_eq v hp
    by_cases hc : v[0]'hp = 118
    · exact Or.inl ⟨hp, byte_hit (c := 118) rfl hc⟩
    · exact Or.inr ⟨hp, byte_miss (c := 118) rfl hc, Or.inr ⟨_, t, ht, hc⟩⟩
end Go.Proofs.Qxb6001776a.fnVersionFlagsMajorMinorStable
