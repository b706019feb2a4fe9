import Derived.Test.Qxb6001776aWords
namespace Go.Proofs.Qxb6001776a.fnVersionFlagsClientServerAgree
open Go.ChangeShapes Go.WideShapes Go.ChangeAt Go.RowKit
set_option linter.unusedVariables false
set_option linter.unusedSimpArgs false

theorem bcell {W w1 : World} (hb : Below W.heap.size W w1) : (∀ b o, b < W.heap.size → w1.cell? ⟨b, o, none⟩ = W.cell? ⟨b, o, none⟩) ∧ (∀ b o, b < W.heap.size → w1.frozen? ⟨b, o, none⟩ = W.frozen? ⟨b, o, none⟩) :=
  ⟨fun b o h => hb.cell (p := ⟨b, o, none⟩) h, fun b o h => hb.frozen (p := ⟨b, o, none⟩) h⟩

theorem bef_nodot (l : List UInt8) : has 46 (bef l) = false := by
  induction l with
  | nil => rfl
  | cons b l ih =>
    unfold bef
    split
    · rfl
    · rename_i h
      unfold has at ih ⊢
      rw [List.contains_cons, ih]
      simp
      exact fun e => h e.symm

theorem has_false {l : List UInt8} (h : has 46 l = false) : ∀ b ∈ l, b ≠ 46 := by
  intro b hb e
  subst e
  rw [has_true hb] at h
  cases h

theorem nodot_parts : ∀ (l : List UInt8), has 46 l = false → bef l = l ∧ aft l = []
  | [], _ => ⟨rfl, rfl⟩
  | b :: l, h => by
    have h' := has_false h
    have hb : b ≠ 46 := h' b (by simp)
    have hl : has 46 l = false := by
      unfold has at h ⊢
      rw [List.contains_cons, Bool.or_eq_false_iff] at h
      exact h.2
    obtain ⟨i1, i2⟩ := nodot_parts l hl
    exact ⟨by rw [bef, if_neg hb, i1], by rw [aft, if_neg hb, i2]⟩

theorem dot_parts : ∀ (l : List UInt8), has 46 l = true → l = bef l ++ 46 :: aft l
  | [], h => by cases h
  | b :: l, h => by
    by_cases hb : b = 46
    · subst hb; simp [bef, aft]
    · have hl : has 46 l = true := by
        unfold has at h ⊢
        rw [List.contains_cons, Bool.or_eq_true] at h
        rcases h with h | h
        · exact absurd (by simpa using h : (46 : UInt8) = b).symm hb
        · exact h
      have := dot_parts l hl
      rw [bef, if_neg hb, aft, if_neg hb, List.cons_append, ← this]

/-- The first two dot-parts of a text with a dot, and what stands behind them. -/
theorem dot_cases (l : List UInt8) (h : has 46 l = true) : ∃ r, l = (bef l ++ [46] ++ bef (aft l)) ++ r ∧ (r = [] ∨ ∃ t, r = 46 :: t) := by
  have e := dot_parts l h
  cases h2 : has 46 (aft l) with
  | false =>
    refine ⟨[], ?_, Or.inl rfl⟩
    rw [(nodot_parts _ h2).1]
    simpa using e
  | true =>
    have e2 := dot_parts _ h2
    refine ⟨46 :: aft (aft l), ?_, Or.inr ⟨_, rfl⟩⟩
    have : bef l ++ [46] ++ bef (aft l) ++ 46 :: aft (aft l) = bef l ++ 46 :: (bef (aft l) ++ 46 :: aft (aft l)) := by simp
    rw [this, ← e2, ← e]

theorem head_eq (v : ByteArray) (h : 0 < v.size) : ∃ t, v.data.toList = v[0]'h :: t := by
  have e : v[0]'h = v.data.toList[0]'(by rw [← Lib.size_eq]; exact h) := rfl
  rw [e]
  have := List.drop_eq_getElem_cons (i := 0) (l := v.data.toList) (by rw [← Lib.size_eq]; exact h)
  exact ⟨_, by simpa using this⟩

theorem t_cases (v : ByteArray) : (v.size = 0 ∧ v.data.toList = trimV v.data.toList) ∨ (∃ h : 0 < v.size, (((v[0]'h).toNat : Int) == 118) = true ∧ (v.extract 1 v.size).data.toList = trimV v.data.toList) ∨
    (∃ h : 0 < v.size, (((v[0]'h).toNat : Int) == 118) = false ∧ v.data.toList = trimV v.data.toList) := by
  by_cases h0 : v.size = 0
  · left
    refine ⟨h0, ?_⟩
    have : v.data.toList = [] := List.eq_nil_of_length_eq_zero (by rw [← Lib.size_eq]; exact h0)
    rw [this]; rfl
  · right
    have hp : 0 < v.size := by omega
    obtain ⟨t, ht⟩ := head_eq v hp
    by_cases hc : v[0]'hp = 118
    · left
      refine ⟨hp, byte_hit (c := 118) rfl hc, ?_⟩
      rw [Lib.extract_data, List.take_of_length_le (by simp [← Lib.size_eq]), ht, hc]
      simp [trimV, Lib.trimPrefix, Lib.hasPrefix]
    · right
      refine ⟨hp, byte_miss (c := 118) rfl hc, ?_⟩
      rw [ht]
      simp [trimV, Lib.trimPrefix, Lib.hasPrefix, List.isPrefixOf]
      intro e; exact absurd e.symm hc

/-- What the law asks of t, major and minor where t has no dot. -/
theorem no_dot {T M m : ByteArray} {l : List UInt8} (hT : T.data.toList = l) (hM : M.data.toList = bef l) (hm : m.data.toList = bef (aft l)) (h : has 46 T.data.toList = false) :
    (M.toList == T.toList) = true ∧ m.toList.isEmpty = true := by
  rw [hT] at h
  obtain ⟨e1, e2⟩ := nodot_parts l h
  rw [Lib.toList_data, Lib.toList_data, Lib.toList_data, hM, hT, e1, hm, e2]
  simp [bef]

theorem with_dot {T M m : ByteArray} {l : List UInt8} (hT : T.data.toList = l) (hM : M.data.toList = bef l) (hm : m.data.toList = bef (aft l)) (h : has 46 T.data.toList = true) :
    Lib.hasPrefix T.data.toList (M ++ ⟨#[46]⟩ ++ m).data.toList = true ∧ (T.size = M.size + 1 + m.size ∨ ∃ hp : M.size + 1 + m.size < T.size, (((T[M.size + 1 + m.size]'hp).toNat : Int) == 46) = true) := by
  rw [hT] at h
  obtain ⟨r, hr, hc⟩ := dot_cases l h
  have hP : (M ++ ⟨#[46]⟩ ++ m).data.toList = bef l ++ [46] ++ bef (aft l) := by
    rw [data_app', data_app', hM, hm]
  have hl : T.data.toList = (M ++ ⟨#[46]⟩ ++ m).data.toList ++ r := by rw [hP, hT]; exact hr
  have hlen : (M ++ ⟨#[46]⟩ ++ m).data.toList.length = M.size + 1 + m.size := by
    rw [← Lib.size_eq, ByteArray.size_append, ByteArray.size_append]; rfl
  refine ⟨?_, ?_⟩
  · unfold Lib.hasPrefix
    rw [List.isPrefixOf_iff_prefix, hl]
    exact List.prefix_append _ _
  · have hs : T.size = M.size + 1 + m.size + r.length := by rw [Lib.size_eq, hl, List.length_append, hlen]
    rcases hc with rfl | ⟨t, rfl⟩
    · left; simpa using hs
    · right
      simp at hs
      have hp : M.size + 1 + m.size < T.size := by omega
      refine ⟨hp, ?_⟩
      have e : T[M.size + 1 + m.size]'hp = T.data.toList[M.size + 1 + m.size]'(by rw [← Lib.size_eq]; exact hp) := rfl
      apply byte_hit (c := 46) rfl
      rw [e]
      apply Option.some.inj
      rw [← List.getElem?_eq_getElem, hl, List.getElem?_append_right (by omega), hlen]
      simp

theorem mdm_size (M m : ByteArray) (h1 : M.size ≤ 65536) (h2 : m.size ≤ 65536) : (M ++ (⟨#[46]⟩ : ByteArray) ++ m).size ≤ 200000 := by
  rw [ByteArray.size_append, ByteArray.size_append]
  have : (⟨#[46]⟩ : ByteArray).size = 1 := rfl
  omega

set_option maxHeartbeats 1600000 in
theorem walk_main (v : ByteArray) (w : World) (hs : v.size ≤ 65536) (hv : has 32 v.data.toList = false) :
    Calls Try.prog 4 #[.string v] w fun e w' => e = .returned (.bool true) ∧ Below w.heap.size w w' := by
  have hnosp : ∀ b ∈ v.data.toList, b ≠ 32 := by
    intro b hb e
    subst e
    rw [has_true hb] at hv
    cases hv
  have HV := hide hv
  have HN := hide hnosp
  clear hv hnosp
  have hd := hide (decide_eq_true (show v.size ≤ 1048576 by omega))
  have hM := major_size v
  have hm := minor_size v
  generalize hMe : majorB v = M at *
  generalize hme : minorB v = m at *
  have HMe := hide hMe
  have Hme := hide hme
  have hMl : M.data.toList = bef (trimV v.data.toList) := by rw [← hMe]; rfl
  have hml : m.data.toList = bef (aft (trimV v.data.toList)) := by rw [← hme]; rfl
  have HMl := hide hMl
  have Hml := hide hml
  have HhM : Hid (has 46 M.data.toList = false) := by rw [hMl]; exact bef_nodot _
  have Hhm : Hid (has 46 m.data.toList = false) := by rw [hml]; exact bef_nodot _
  clear hMe hme hMl hml
  go_enter Try.func4, Try.ntmps4
  go_wp2_with fail
  refine (bytes1_any v _ (by unfold maxLen; omega)).mono ?_
  rintro e w1 ⟨rfl, hw1⟩
  have hw2 := hw1.symm
  subst hw2
  clear hw1
  rw [unhide hd]
  go_wp2_with fail
  refine (has_any v 32 32 _ (by unfold maxLen; omega) rfl).mono ?_
  rintro e w1 ⟨rfl, hw1⟩
  have hw2 := hw1.symm
  subst hw2
  clear hw1
  rw [unhide HV]
  go_wp2_with fail
  refine (flags8 v _ (by omega)).mono ?_
  rintro e w1 ⟨rfl, hb1⟩
  go_wp2_with fail
  refine (values_flags v _ (by omega) (unhide HN)).mono ?_
  rintro e w2 ⟨rfl, hb2⟩
  rw [unhide HMe, unhide Hme]
  have hb12 := hb1.trans (hb2.mono hb1.size)
  clear hb1 hb2
  go_wp2_with fail
  refine (has_any M 46 46 _ (by unfold maxLen; omega) rfl).mono ?_
  rintro e w3 ⟨rfl, hw3⟩
  rw [unhide HhM]
  have hb3 : Below w.heap.size w w3 := by rw [hw3]; exact hb12.alloc hb12.size _
  clear hw3 hb12
  go_wp2_with fail
  refine (has_any m 46 46 _ (by unfold maxLen; omega) rfl).mono ?_
  rintro e w4 ⟨rfl, hw4⟩
  rw [unhide Hhm]
  have hb4 : Below w.heap.size w w4 := by rw [hw4]; exact hb3
  clear hw4 hb3
  have htc := t_cases v
  rcases htc with ⟨hz, htl⟩ | ⟨hp, ht, htl⟩ | ⟨hp, ht, htl⟩
  · have hdot : has 46 v.data.toList = false := by
      have : v.data.toList = [] := List.eq_nil_of_length_eq_zero (by rw [← Lib.size_eq]; exact hz)
      rw [this]; rfl
    obtain ⟨e1, e2⟩ := no_dot htl (unhide HMl) (unhide Hml) hdot
    have HD := hide hdot
    clear htl hdot
    go_wp2_with fail
    refine (has_any v 46 46 _ (by unfold maxLen; omega) rfl).mono ?_
    rintro e w5 ⟨rfl, hw5⟩
    have hb5 : Below w.heap.size w w5 := by rw [hw5]; exact hb4
    clear hw5 hb4
    rw [unhide HD]
    go_wp2
    go_ret
    exact ⟨rfl, hb5⟩
  · have HTL := hide htl
    clear htl
    go_wp2_with fail
    have hTs : (v.extract 1 v.size).size ≤ 65536 := by rw [ByteArray.size_extract]; omega
    generalize v.extract 1 v.size = T at HTL hTs ⊢
    refine (has_any T 46 46 _ (by unfold maxLen; omega) rfl).mono ?_
    rintro e w5 ⟨rfl, hw5⟩
    have hb5 : Below w.heap.size w w5 := by rw [hw5]; exact hb4
    clear hw5 hb4
    cases hdot : has 46 T.data.toList
    · obtain ⟨e1, e2⟩ := no_dot (unhide HTL) (unhide HMl) (unhide Hml) hdot
      clear hdot
      go_wp2
      go_ret
      exact ⟨rfl, hb5⟩
    · obtain ⟨e1, e2⟩ := with_dot (unhide HTL) (unhide HMl) (unhide Hml) hdot
      have E1 := hide e1
      have E2 := hide e2
      clear hdot e1 e2
      go_wp2_with fail
      have hPs := mdm_size M m (by omega) (by omega)
      refine (prefix_any T _ _ (by unfold maxLen; omega) (by unfold maxLen; omega)).mono ?_
      rintro e w6 ⟨rfl, hw6⟩
      have hb6 : Below w.heap.size w w6 := by rw [hw6]; exact hb5
      clear hw6 hb5
      rw [unhide E1]
      rcases unhide E2 with hl | ⟨hl, hc⟩
      · go_wp2
        go_ret
        exact ⟨rfl, hb6⟩
      · go_wp2
        go_ret
        exact ⟨rfl, hb6⟩
  · have HTL := hide htl
    clear htl
    go_wp2_with fail
    refine (has_any v 46 46 _ (by unfold maxLen; omega) rfl).mono ?_
    rintro e w5 ⟨rfl, hw5⟩
    have hb5 : Below w.heap.size w w5 := by rw [hw5]; exact hb4
    clear hw5 hb4
    cases hdot : has 46 v.data.toList
    · obtain ⟨e1, e2⟩ := no_dot (unhide HTL) (unhide HMl) (unhide Hml) hdot
      clear hdot
      go_wp2
      go_ret
      exact ⟨rfl, hb5⟩
    · obtain ⟨e1, e2⟩ := with_dot (unhide HTL) (unhide HMl) (unhide Hml) hdot
      have E1 := hide e1
      have E2 := hide e2
      clear hdot e1 e2
      go_wp2_with fail
      have hPs := mdm_size M m (by omega) (by omega)
      refine (prefix_any v _ _ (by unfold maxLen; omega) (by unfold maxLen; omega)).mono ?_
      rintro e w6 ⟨rfl, hw6⟩
      have hb6 : Below w.heap.size w w6 := by rw [hw6]; exact hb5
      clear hw6 hb5
      rw [unhide E1]
      rcases unhide E2 with hl | ⟨hl, hc⟩
      · go_wp2
        go_ret
        exact ⟨rfl, hb6⟩
      · go_wp2
        go_ret
        exact ⟨rfl, hb6⟩

theorem walk (a0 : ByteArray) (w0 : a0.size ≤ maxLen) (w : World) :
    Calls Try.prog 4 #[.string a0] w fun e w' => e = .returned (.bool true) ∧ Below w.heap.size w w' := by
  have hb := hide (bytes1_any a0 w w0)
  by_cases h1 : a0.size ≤ 1048576
  · have hd := hide (decide_eq_true h1)
    by_cases h2 : a0.size ≤ 65536
    · cases hv : has 32 a0.data.toList
      · exact walk_main a0 w h2 hv
      · have HV := hide hv
        clear hv
        go_enter Try.func4, Try.ntmps4
        go_wp2_with fail
        refine (unhide hb).mono ?_
        rintro e w' ⟨rfl, rfl⟩
        rw [unhide hd]
        go_wp2_with fail
        refine (has_any a0 32 32 _ w0 rfl).mono ?_
        rintro e w' ⟨rfl, rfl⟩
        rw [unhide HV]
        go_wp2
        go_ret
        exact ⟨rfl, Below.refl _ _⟩
    · go_enter Try.func4, Try.ntmps4
      go_wp2_with fail
      refine (unhide hb).mono ?_
      rintro e w' ⟨rfl, rfl⟩
      rw [unhide hd]
      go_wp2
      go_ret
      exact ⟨rfl, Below.refl _ _⟩
  · have hd := hide (decide_eq_false h1)
    go_enter Try.func4, Try.ntmps4
    go_wp2_with fail
    refine (unhide hb).mono ?_
    rintro e w' ⟨rfl, rfl⟩
    rw [unhide hd]
    go_wp2
    go_ret
    exact ⟨rfl, Below.refl _ _⟩
end Go.Proofs.Qxb6001776a.fnVersionFlagsClientServerAgree
