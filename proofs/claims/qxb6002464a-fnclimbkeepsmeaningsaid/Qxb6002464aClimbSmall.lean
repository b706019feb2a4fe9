import Derived.Test.Qxb6002464aSmall
import Derived.Test.Qxb6002464aClimbPlain
namespace Go.Proofs.Qxb6002464a
open Go.ChangeShapes Go.WideShapes Go.ChangeAt Go.RowKit
set_option linter.unusedVariables false
set_option linter.unusedSimpArgs false

/-- How long the first element is. -/
def elemLen (m : List UInt8) : Nat := (m.takeWhile (· != 47)).length

theorem E_le (m : List UInt8) : elemLen m ≤ m.length := by
  induction m with
  | nil => simp [elemLen]
  | cons b m ih =>
    unfold elemLen at *
    rw [List.takeWhile_cons]
    split
    · simp; omega
    · simp
theorem E_take (m : List UInt8) : m.take (elemLen m) = m.takeWhile (· != 47) := by
  induction m with
  | nil => simp
  | cons b m ih =>
    unfold elemLen at *
    rw [List.takeWhile_cons]
    split
    · simp [ih]
    · simp
theorem E_drop (m : List UInt8) : m.drop (elemLen m) = m.dropWhile (· != 47) := Lib.Pa.drop_len_tw m
theorem E_hit (m : List UInt8) (j : Nat) (h : j ≤ elemLen m) (hb : m[j]? = some 47) : elemLen m = j := by
  induction m generalizing j with
  | nil => simp at hb
  | cons b m ih =>
    unfold elemLen at h ih ⊢
    rw [List.takeWhile_cons] at h ⊢
    by_cases e : (b != 47) = true
    · rw [if_pos e] at h ⊢
      cases j with
      | zero => simp at hb; simp [hb] at e
      | succ j => simp at hb h ⊢; exact ih j h hb
    · rw [if_neg e] at h ⊢; simp at h ⊢; omega
theorem E_miss (m : List UInt8) (j : Nat) (b : UInt8) (h : j ≤ elemLen m) (hb : m[j]? = some b) (hne : b ≠ 47) : j + 1 ≤ elemLen m := by
  induction m generalizing j with
  | nil => simp at hb
  | cons c m ih =>
    unfold elemLen at h ih ⊢
    rw [List.takeWhile_cons] at h ⊢
    by_cases e : (c != 47) = true
    · rw [if_pos e] at h ⊢
      cases j with
      | zero => simp
      | succ j => simp at hb h ⊢; exact ih j h hb
    · rw [if_neg e] at h ⊢
      simp at h
      subst h
      simp at hb e
      exact absurd (hb ▸ e) hne
theorem E_end (m : List UInt8) (j : Nat) (h : j ≤ elemLen m) (hj : m.length ≤ j) : elemLen m = j := by
  have := E_le m
  omega

theorem E_index (m : List UInt8) : Lib.indexByte m 47 = if elemLen m < m.length then (elemLen m : Int) else -1 := by
  induction m with
  | nil => rfl
  | cons b m ih =>
    unfold Lib.indexByte
    by_cases e : b = 47
    · subst e
      rw [if_pos (by simp)]
      have : elemLen (47 :: m) = 0 := by simp [elemLen]
      rw [this, if_pos (by simp)]; rfl
    · rw [if_neg (by simpa using e)]
      have e1 : elemLen (b :: m) = elemLen m + 1 := by simp [elemLen, e]
      rw [e1, List.length_cons]
      by_cases c : elemLen m < m.length
      · have hv : Lib.indexByte m 47 = (elemLen m : Int) := by rw [ih, if_pos c]
        have : ¬ (((elemLen m : Int) == -1) = true) := by rw [beq_iff_eq]; omega
        rw [hv, if_neg this, if_pos (show elemLen m + 1 < m.length + 1 by omega)]; omega
      · have hv : Lib.indexByte m 47 = -1 := by rw [ih, if_neg c]
        rw [hv, if_neg (show ¬ elemLen m + 1 < m.length + 1 by omega)]; rfl

theorem seg_rest (m : List UInt8) : Rest (m.drop (elemLen m)) := by rw [E_drop]; exact Lib.Pa.dw_head m
theorem seg_no47 (m : List UInt8) : 47 ∉ m.take (elemLen m) := by rw [E_take]; exact Lib.Pa.tw_no47 m
theorem seg_step (st : List (List UInt8)) (m : List UInt8) : F st m = F (Lib.Pa.cleanStep true st (m.take (elemLen m))) (m.drop (elemLen m)) := by
  have := F_elem st (m.take (elemLen m)) (m.drop (elemLen m)) (seg_no47 m) (seg_rest m)
  rw [List.take_append_drop] at this
  exact this

theorem at_drop (s : ByteArray) (k : Nat) (h : k < s.size) (i : Nat) (hi : i ≤ k) : (s.data.toList.drop i)[k - i]? = some s[k] := by
  rw [List.getElem?_drop, show i + (k - i) = k by omega]
  exact Lib.Pa.at_eq s k h

/-- ElemEnd at the head of the name. -/
theorem elemEnd_any (s : ByteArray) (w : World) (hp : 0 < s.size) (hs : s.size ≤ 4294967296) :
    Calls Try.prog 9 #[.string s, .int .i64 0] w fun e w' => e = .returned (.int .i64 ((1 + elemLen (s.data.toList.tail) : Nat) : Int)) ∧ w' = w := by
  have hl := E_le (s.data.toList.tail)
  have hlen : (s.data.toList.tail).length = s.size - 1 := by simp
  have hex : (s.extract 1 s.size).data.toList = s.data.toList.tail := by rw [Lib.extract_data, List.take_of_length_le (by simp), List.drop_one]
  have HX := hide hex
  by_cases c : elemLen (s.data.toList.tail) < (s.data.toList.tail).length
  · have hi : Lib.indexByte (s.extract 1 s.size).data.toList 47 = (elemLen (s.data.toList.tail) : Int) := by rw [hex, E_index, if_pos c]
    have HI := hide hi
    clear hi hex
    generalize elemLen (s.data.toList.tail) = E at *
    generalize (s.data.toList.tail).length = L at *
    go_enter Try.func9, Try.ntmps9
    go_wp2_with fail
    refine (Try.strings_IndexByte _ _ _).mono ?_
    rintro e w1 ⟨rfl, hw1⟩
    have hw2 := hw1.symm
    subst hw2
    clear hw1
    rw [show ((Int.toNat 47).toUInt8 : UInt8) = 47 from rfl, unhide HI]
    go_wp2
    go_ret
    exact ⟨ret_int (by omega), rfl⟩
  · have hi : Lib.indexByte (s.extract 1 s.size).data.toList 47 = -1 := by rw [hex, E_index, if_neg c]
    have HI := hide hi
    clear hi hex
    generalize elemLen (s.data.toList.tail) = E at *
    generalize (s.data.toList.tail).length = L at *
    go_enter Try.func9, Try.ntmps9
    go_wp2_with fail
    refine (Try.strings_IndexByte _ _ _).mono ?_
    rintro e w1 ⟨rfl, hw1⟩
    have hw2 := hw1.symm
    subst hw2
    clear hw1
    rw [show ((Int.toNat 47).toUInt8 : UInt8) = 47 from rfl, unhide HI]
    go_wp2
    go_ret
    exact ⟨ret_int (by omega), rfl⟩

/-- zzFirstElemEnd. -/
theorem firstEnd_any (s : ByteArray) (w : World) (hp : 0 < s.size) (hs : s.size ≤ 4294967296) :
    Calls Try.prog 14 #[.string s] w fun e w' => e = .returned (.int .i64 ((1 + elemLen (s.data.toList.tail) : Nat) : Int)) ∧ w' = w := by
  go_enter Try.func14, Try.ntmps14
  go_wp2
  go_loop [3] (fun i => ∃ k : Nat, 1 ≤ k ∧ k ≤ s.size ∧ i = .int .i64 k ∧ k - 1 ≤ elemLen (s.data.toList.tail)) (fun i => s.size - (intOf i).toNat)
  case atStart => exact ⟨1, Nat.le_refl _, hp, rfl, Nat.zero_le _⟩
  case round =>
    obtain ⟨k, hk1, hk, rfl, hE⟩ := hrel
    by_cases hlt : k < s.size
    · have hat := at_drop s k hlt 1 hk1
      rw [List.drop_one] at hat
      by_cases he : s[k] = 47
      · have ht : ((s[k].toNat : Int) == 47) = true := byte_hit (c := 47) rfl he
        have hq := hide (E_hit _ _ hE (he ▸ hat))
        clear hat he hE
        go_wp2
        go_ret
        exact ⟨ret_int (by rw [unhide hq]; omega), rfl⟩
      · have ht : ((s[k].toNat : Int) == 47) = false := byte_miss (c := 47) rfl he
        have hq := hide (E_miss _ _ _ hE hat he)
        clear hat he hE
        go_wp2
        go_round
        case rel => exact ⟨k + 1, by omega, by omega, by go_num, by have := unhide hq; omega⟩
        case measure => simp [intOf]; omega
    · have hq := hide (E_end _ _ hE (by simp; omega))
      clear hE
      go_wp2
      go_ret
      exact ⟨ret_int (by rw [unhide hq]; omega), rfl⟩

/-- zzIsDotElem, at an element that is none. -/
theorem dot_no (s : ByteArray) (w : World) (h0 : s.toList ≠ []) (h1 : s.toList ≠ [46]) (h2 : s.toList ≠ [46, 46]) :
    Calls Try.prog 13 #[.string s] w fun e w' => e = .returned (.bool false) ∧ w' = w := by
  have e0 : s.toList.isEmpty = false := by cases h : s.toList with
    | nil => exact absurd h h0
    | cons a b => rfl
  have e1 : (s.toList == [46]) = false := by rw [beq_eq_false_iff_ne]; exact h1
  have e2 : (s.toList == [46, 46]) = false := by rw [beq_eq_false_iff_ne]; exact h2
  go_enter Try.func13, Try.ntmps13
  go_wp2
  go_ret
  exact ⟨rfl, rfl⟩

/-- under. -/
theorem under_any (s t : ByteArray) (w : World) (h1 : s.size ≤ 4294967296) (h2 : t.size ≤ 4294967296) :
    Calls Try.prog 26 #[.string s, .string t] w fun e w' => e = .returned (.string ⟨(und s.data.toList t.data.toList).toArray⟩) ∧ w' = w := by
  have hT : t.toList = t.data.toList := Lib.toList_data t
  have hS : s.toList = s.data.toList := Lib.toList_data s
  by_cases c1 : s.toList = [47]
  · have e1 : (s.toList == [47]) = true := by simp [c1]
    by_cases c2 : t.toList = []
    · have e2 : t.toList.isEmpty = true := by simp [c2]
      have hu : (⟨(und s.data.toList t.data.toList).toArray⟩ : ByteArray) = s ++ t := by
        unfold und
        rw [if_neg (by rw [← hT]; simp [c2])]
        apply ByteArray.ext; simp
      rw [hu]
      clear hu hT hS
      go_enter Try.func26, Try.ntmps26
      go_wp2
      go_ret
      exact ⟨rfl, rfl⟩
    · have e2 : t.toList.isEmpty = false := by cases h : t.toList with
        | nil => exact absurd h c2
        | cons a b => rfl
      have hu : (⟨(und s.data.toList t.data.toList).toArray⟩ : ByteArray) = t := by
        unfold und
        rw [if_pos ⟨by rw [← hS]; exact c1, by rw [← hT]; exact c2⟩]
      rw [hu]
      clear hu hT hS
      go_enter Try.func26, Try.ntmps26
      go_wp2
      go_ret
      exact ⟨rfl, rfl⟩
  · have e1 : (s.toList == [47]) = false := by rw [beq_eq_false_iff_ne]; exact c1
    have hu : (⟨(und s.data.toList t.data.toList).toArray⟩ : ByteArray) = s ++ t := by
      unfold und
      rw [if_neg (fun h => c1 (hS.trans h.1))]
      apply ByteArray.ext; simp
    rw [hu]
    clear hu hT hS
    go_enter Try.func26, Try.ntmps26
    go_wp2
    go_ret
    exact ⟨rfl, rfl⟩

theorem zzunder_any (s t : ByteArray) (w : World) (h1 : s.size ≤ 4294967296) (h2 : t.size ≤ 4294967296) :
    Calls Try.prog 16 #[.string s, .string t] w fun e w' => e = .returned (.string ⟨(und s.data.toList t.data.toList).toArray⟩) ∧ w' = w := by
  have H := hide (under_any s t w h1 h2)
  go_enter Try.func16, Try.ntmps16
  go_wp2_with fail
  refine (unhide H).mono ?_
  rintro e w1 ⟨rfl, hw1⟩
  have hw2 := hw1.symm
  subst hw2
  clear hw1
  go_wp2
  go_ret
  exact ⟨rfl, rfl⟩

/-- zzIsAncestor, at a name above. -/
theorem anc_yes (s t : ByteArray) (w : World) (h : isUp s.data.toList t.data.toList = true) (h1 : s.size ≤ 4294967296) (h2 : t.size ≤ 4294967296) :
    Calls Try.prog 15 #[.string s, .string t] w fun e w' => e = .returned (.bool true) ∧ w' = w := by
  have hT : t.toList = t.data.toList := Lib.toList_data t
  have hS : s.toList = s.data.toList := Lib.toList_data s
  unfold isUp at h
  rw [← hT, ← hS] at h
  by_cases c1 : s.toList = t.toList
  · have e1 : (s.toList == t.toList) = true := by simp [c1]
    clear h hT hS
    go_enter Try.func15, Try.ntmps15
    go_wp2
    go_ret
    exact ⟨rfl, rfl⟩
  · have e1 : (s.toList == t.toList) = false := by rw [beq_eq_false_iff_ne]; exact c1
    by_cases c2 : s.toList = [47]
    · have e2 : (s.toList == [47]) = true := by simp [c2]
      have e3 : ([47] == t.toList) = false := by rw [← c2]; exact e1
      have c3 : ¬ [47] = t.toList := by rw [← c2]; exact c1
      clear h hT hS
      go_enter Try.func15, Try.ntmps15
      go_wp2
      go_ret
      exact ⟨rfl, rfl⟩
    · have e2 : (s.toList == [47]) = false := by rw [beq_eq_false_iff_ne]; exact c2
      rw [e1, e2] at h
      simp only [Bool.or_self, Bool.false_or, Bool.and_eq_true, beq_iff_eq, decide_eq_true_eq] at h
      obtain ⟨⟨g1, g2⟩, g3⟩ := h
      have hls : s.toList.length = s.size := by rw [hS, Lib.size_eq]
      have hlt : t.toList.length = t.size := by rw [hT, Lib.size_eq]
      rw [hls, hlt] at g1
      rw [hls] at g2 g3
      have c3 : (t.extract 0 s.size).toList = s.toList := by
        rw [Lib.toList_data, Lib.extract_data, ← hT]; simpa using g2
      have e3 : ((t.extract 0 s.size).toList == s.toList) = true := by simp [c3]
      have c4 : t[s.size] = 47 := by
        rw [hT, Lib.Pa.at_eq t s.size g1] at g3
        exact Option.some.inj g3
      have e4 : ((t[s.size].toNat : Int) == 47) = true := byte_hit (c := 47) rfl c4
      have C4 := hide c4
      clear hT hS hls hlt g2 g3 c4
      go_enter Try.func15, Try.ntmps15
      go_wp2
      go_ret
      exact ⟨ret_bool (by first | rfl | assumption), rfl⟩

theorem bytes10_any (a b : ByteArray) (w : World) (h1 : a.size ≤ maxLen) (h2 : b.size ≤ maxLen) :
    Calls Try.prog 10 #[.string a, .string b] w fun e w' => e = .returned (.bool (decide (a.size + b.size ≤ 1048576))) ∧ w' = w := by
  unfold maxLen at h1 h2
  by_cases c1 : 1048576 < a.size
  · go_enter Try.func10, Try.ntmps10
    go_wp2
    go_ret
    exact ⟨ret_bool (decide_eq_false (by omega)).symm, rfl⟩
  by_cases c2 : 1048576 < b.size
  · go_enter Try.func10, Try.ntmps10
    go_wp2
    go_ret
    exact ⟨ret_bool (decide_eq_false (by omega)).symm, rfl⟩
  by_cases c3 : 1048576 < a.size + b.size
  · go_enter Try.func10, Try.ntmps10
    go_wp2
    go_ret
    exact ⟨ret_bool (decide_eq_false (by omega)).symm, rfl⟩
  go_enter Try.func10, Try.ntmps10
  go_wp2
  go_ret
  exact ⟨ret_bool (decide_eq_true (by omega)).symm, rfl⟩

end Go.Proofs.Qxb6002464a
