import Derived.Test.Qxb6001776aStablePlain
namespace Go.Proofs.Qxb6001776a.fnVersionFlagsMajorMinorStable
open Go.ChangeShapes Go.WideShapes Go.ChangeAt Go.RowKit
set_option linter.unusedVariables false
set_option linter.unusedSimpArgs false

/-- The block of six values: what the later tests read of it. -/
structure SixAt (B : Nat) (M m : ByteArray) (w : World) : Prop where
  c1 : w.cell? ⟨B, 1, none⟩ = some (.string M)
  c2 : w.cell? ⟨B, 2, none⟩ = some (.string m)
  lt : B < w.heap.size

theorem SixAt.later {B : Nat} {M m : ByteArray} {w w1 : World} (h : SixAt B M m w) (hb : Below w.heap.size w w1) : SixAt B M m w1 where
  c1 := by rw [hb.cell (p := ⟨B, 1, none⟩) h.lt]; exact h.c1
  c2 := by rw [hb.cell (p := ⟨B, 2, none⟩) h.lt]; exact h.c2
  lt := Nat.lt_of_lt_of_le h.lt hb.size

theorem SixAt.new (w : World) (a M m b c d : ByteArray) : SixAt w.heap.size M m (w.alloc (.cells #[.string a, .string M, .string m, .string b, .string c, .string d] 26)) where
  c1 := (World.cell?_alloc_at _ _ _ _ rfl).trans rfl
  c2 := (World.cell?_alloc_at _ _ _ _ rfl).trans rfl
  lt := by simp

theorem app_size (x y : ByteArray) (h : x.size + y.size ≤ 65536) : (x ++ y).size ≤ 1000000 ∧ ((⟨#[118]⟩ : ByteArray) ++ x).size ≤ 1000000 := by
  rw [ByteArray.size_append, ByteArray.size_append]
  have : (⟨#[118]⟩ : ByteArray).size = 1 := rfl
  omega

theorem nosp_v (x : ByteArray) (h : ∀ b ∈ x.data.toList, b ≠ 32) : ∀ b ∈ ((⟨#[118]⟩ : ByteArray) ++ x).data.toList, b ≠ 32 := by
  intro b hb
  rw [data_app', List.mem_append] at hb
  rcases hb with hb | hb
  · simp at hb; subst hb; decide
  · exact h b hb
theorem nosp_app (x y : ByteArray) (h : ∀ b ∈ x.data.toList, b ≠ 32) (h' : ∀ b ∈ y.data.toList, b ≠ 32) : ∀ b ∈ (x ++ y).data.toList, b ≠ 32 := by
  intro b hb
  rw [data_app', List.mem_append] at hb
  rcases hb with hb | hb
  · exact h b hb
  · exact h' b hb

set_option maxHeartbeats 1600000 in
theorem walk_main (x y : ByteArray) (w : World) (hs : x.size + y.size ≤ 65536) (hx : has 32 x.data.toList = false) (hy : has 32 y.data.toList = false)
    (hpl : plainHead x.data.toList) (hcase : x.size = 0 ∨ ∃ h : 0 < x.size, (((x[0]'h).toNat : Int) == 118) = false) :
    Calls Try.prog 5 #[.string x, .string y] w fun e w' => e = .returned (.bool true) ∧ Below w.heap.size w w' := by
  have HX := hide hx
  have HY := hide hy
  have HN := hide (nosp_of hx)
  have HNV := hide (nosp_v x (nosp_of hx))
  have HNA := hide (nosp_app x y (nosp_of hx) (nosp_of hy))
  have HMV := hide (major_v x hpl)
  have HMA := hide (fun hc => major_app x y hpl hc)
  have HS := hide (app_size x y hs)
  clear hx hy hpl
  generalize hMe : majorB x = M at *
  generalize hme : minorB x = m at *
  have HMe := hide hMe
  have Hme := hide hme
  clear hMe hme
  rcases hcase with hz | ⟨hp, ht⟩
  all_goals
    go_enter Try.func5, Try.ntmps5
    go_wp2_with fail
    refine (bytes2_yes x y _ (by omega)).mono ?_
    rintro e w1 ⟨rfl, hw1⟩
    have hw2 := hw1.symm
    subst hw2
    clear hw1
    go_wp2_with fail
    refine (has_any x 32 32 _ (by unfold maxLen; omega) rfl).mono ?_
    rintro e w1 ⟨rfl, hw1⟩
    have hw2 := hw1.symm
    subst hw2
    clear hw1
    rw [unhide HX]
    go_wp2_with fail
    refine (has_any y 32 32 _ (by unfold maxLen; omega) rfl).mono ?_
    rintro e w1 ⟨rfl, hw1⟩
    have hw2 := hw1.symm
    subst hw2
    clear hw1
    rw [unhide HY]
    go_wp2_with fail
    refine (flags8 x _ (by omega)).mono ?_
    rintro e w1 ⟨rfl, hb1⟩
    go_wp2_with fail
    refine (values_flags x _ (by omega) (unhide HN)).mono ?_
    rintro e w2 ⟨rfl, hb2⟩
    rw [unhide HMe, unhide Hme]
    have hb12 := hb1.trans (hb2.mono hb1.size)
    clear hb1 hb2
    go_wp2_with fail
    refine (flags8 _ _ (unhide HS).2).mono ?_
    rintro e w3 ⟨rfl, hb3⟩
    go_wp2_with fail
    refine (values_flags _ _ (unhide HS).2 (unhide HNV)).mono ?_
    rintro e w4 ⟨rfl, hb4⟩
    rw [(unhide HMV).1, (unhide HMV).2]
    have s4 := ((SixAt.new w2 x M m x M m).later hb3).later hb4
    have b4 : Below w.heap.size w w4 := (hb12.alloc hb12.size _).trans ((hb3.trans (hb4.mono hb3.size)).mono (by have := hb12.size; simp; omega))
    generalize w2.heap.size = B1 at s4 ⊢
    have c11 := s4.c1
    have c12 := s4.c2
    have l1 := s4.lt
    clear hb12 hb3 hb4
    go_wp2_with fail
    refine (count_any x 46 46 _ (by unfold maxLen; omega) rfl).mono ?_
    rintro e w5 ⟨rfl, hw5⟩
    have s5 : SixAt B1 M m w5 := by
      rw [hw5]
      exact s4.later ((Below.refl _ _).alloc (Nat.le_refl _) _)
    have b5 : Below w.heap.size w w5 := by rw [hw5]; exact b4.alloc b4.size _
    clear hw5 s4 b4 c11 c12 l1
    have hcl := cnt_le 46 x.data.toList
    have HC := hide (Lib.size_eq x)
    by_cases hc : 2 ≤ cnt 46 x.data.toList
    · go_wp2_with fail
      refine (flags8 _ _ (unhide HS).1).mono ?_
      rintro e w6 ⟨rfl, hb6⟩
      go_wp2_with fail
      refine (values_flags _ _ (unhide HS).1 (unhide HNA)).mono ?_
      rintro e w7 ⟨rfl, hb7⟩
      rw [(unhide HMA hc).1, (unhide HMA hc).2]
      have s7 := (s5.later hb6).later hb7
      have b7 := (b5.trans (hb6.mono b5.size)).trans (hb7.mono (Nat.le_trans b5.size hb6.size))
      have c11 := s7.c1
      have c12 := s7.c2
      have l1 := s7.lt
      clear hb6 hb7
      go_wp2
      go_ret
      exact ⟨rfl, b7.alloc b7.size _⟩
    · go_wp2
      go_ret
      exact ⟨rfl, b5⟩

theorem walk (x : ByteArray) (y : ByteArray) (w0 : x.size ≤ maxLen) (w1 : y.size ≤ maxLen) (w : World) :
    Calls Try.prog 5 #[.string x, .string y] w fun e w' => e = .returned (.bool true) ∧ Below w.heap.size w w' := by
  have hb := hide (bytes2_any x y w w0 w1)
  by_cases h1 : x.size + y.size ≤ 1048576
  · have hd := hide (decide_eq_true h1)
    by_cases h2 : x.size + y.size ≤ 65536
    · cases hx : has 32 x.data.toList
      · cases hy : has 32 y.data.toList
        · rcases head_cases x with ⟨hz, hpl⟩ | ⟨hp, ht⟩ | ⟨hp, ht, hpl⟩
          · exact walk_main x y w h2 hx hy hpl (Or.inl hz)
          · have HX := hide hx
            have HY := hide hy
            clear hx hy
            go_enter Try.func5, Try.ntmps5
            go_wp2_with fail
            refine (unhide hb).mono ?_
            rintro e w1 ⟨rfl, hw1⟩
            have hw2 := hw1.symm
            subst hw2
            clear hw1
            rw [unhide hd]
            go_wp2_with fail
            refine (has_any x 32 32 _ w0 rfl).mono ?_
            rintro e w1 ⟨rfl, hw1⟩
            have hw2 := hw1.symm
            subst hw2
            clear hw1
            rw [unhide HX]
            go_wp2_with fail
            refine (has_any y 32 32 _ w1 rfl).mono ?_
            rintro e w1 ⟨rfl, hw1⟩
            have hw2 := hw1.symm
            subst hw2
            clear hw1
            rw [unhide HY]
            go_wp2
            go_ret
            exact ⟨rfl, Below.refl _ _⟩
          · exact walk_main x y w h2 hx hy hpl (Or.inr ⟨hp, ht⟩)
        · have HX := hide hx
          have HY := hide hy
          clear hx hy
          go_enter Try.func5, Try.ntmps5
          go_wp2_with fail
          refine (unhide hb).mono ?_
          rintro e w1 ⟨rfl, hw1⟩
          have hw2 := hw1.symm
          subst hw2
          clear hw1
          rw [unhide hd]
          go_wp2_with fail
          refine (has_any x 32 32 _ w0 rfl).mono ?_
          rintro e w1 ⟨rfl, hw1⟩
          have hw2 := hw1.symm
          subst hw2
          clear hw1
          rw [unhide HX]
          go_wp2_with fail
          refine (has_any y 32 32 _ w1 rfl).mono ?_
          rintro e w1 ⟨rfl, hw1⟩
          have hw2 := hw1.symm
          subst hw2
          clear hw1
          rw [unhide HY]
          go_wp2
          go_ret
          exact ⟨rfl, Below.refl _ _⟩
      · have HX := hide hx
        clear hx
        go_enter Try.func5, Try.ntmps5
        go_wp2_with fail
        refine (unhide hb).mono ?_
        rintro e w1 ⟨rfl, hw1⟩
        have hw2 := hw1.symm
        subst hw2
        clear hw1
        rw [unhide hd]
        go_wp2_with fail
        refine (has_any x 32 32 _ w0 rfl).mono ?_
        rintro e w1 ⟨rfl, hw1⟩
        have hw2 := hw1.symm
        subst hw2
        clear hw1
        rw [unhide HX]
        go_wp2
        go_ret
        exact ⟨rfl, Below.refl _ _⟩
    · skip
      go_enter Try.func5, Try.ntmps5
      go_wp2_with fail
      refine (unhide hb).mono ?_
      rintro e w1 ⟨rfl, hw1⟩
      have hw2 := hw1.symm
      subst hw2
      clear hw1
      rw [unhide hd]
      go_wp2
      go_ret
      exact ⟨rfl, Below.refl _ _⟩
  · have hd := hide (decide_eq_false h1)
    go_enter Try.func5, Try.ntmps5
    go_wp2_with fail
    refine (unhide hb).mono ?_
    rintro e w1 ⟨rfl, hw1⟩
    have hw2 := hw1.symm
    subst hw2
    clear hw1
    rw [unhide hd]
    go_wp2
    go_ret
    exact ⟨rfl, Below.refl _ _⟩
end Go.Proofs.Qxb6001776a.fnVersionFlagsMajorMinorStable
