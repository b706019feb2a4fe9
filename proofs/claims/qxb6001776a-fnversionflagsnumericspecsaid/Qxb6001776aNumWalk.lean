import Derived.Test.Qxb6001776aNumPlain
namespace Go.Proofs.Qxb6001776a.fnVersionFlagsNumericSpec
open Go.ChangeShapes Go.WideShapes Go.ChangeAt Go.RowKit
set_option linter.unusedVariables false
set_option linter.unusedSimpArgs false

theorem flags8 (s : ByteArray) (w : World) (hs : s.size ≤ 1000000) :
    Calls Try.prog 8 #[.string s] w fun e w' => e = .returned (.string (flagsB s)) ∧ Below w.heap.size w w' := by
  go_enter Try.func8, Try.ntmps8
  go_wp2_with (go_at_call 15; refine (flags15 s _ hs).mono ?_; rintro e w' ⟨rfl, hb⟩)
  go_ret
  exact ⟨rfl, hb⟩

set_option maxHeartbeats 1600000 in
/-- The main way: all tests passed. -/
theorem walk_main (a0 a1 a2 : ByteArray) (a3 : Bool) (w : World) (hsum : a0.size + a1.size + a2.size ≤ 65536)
    (h0 : isDig a0.data.toList = true) (h1 : isDig a1.data.toList = true) (hr : a2.data.toList = [] ∨ ∃ t, a2.data.toList = 46 :: t) :
    Calls Try.prog 3 #[.string a0, .string a1, .string a2, .bool a3] w fun e w' => e = .returned (.bool true) ∧ Below w.heap.size w w' := by
  have H0 := hide h0
  have H1 := hide h1
  have hver := hide (want_eq (verB a0 a1 a2 a3) a0 a1 (major_ver a0 a1 a2 a3 h0) (minor_ver a0 a1 a2 a3 h0 h1 hr))
  have hcase : a2.size = 0 ∨ ∃ h : 0 < a2.size, (((a2[0]'h).toNat : Int) != 46) = false := by
    rcases hr with h | ⟨t, h⟩
    · left; rw [Lib.size_eq, h]; rfl
    · right
      have hp : 0 < a2.size := by rw [Lib.size_eq, h]; simp
      have e : a2[0]'hp = 46 := by
        have : a2[0]'hp = a2.data.toList[0]'(by rw [h]; simp) := rfl
        rw [this]; simp [h]
      exact ⟨hp, by rw [e]; rfl⟩
  clear h0 h1 hr
  rcases hcase with hz | ⟨hp, ht⟩ <;> cases a3
  · go_enter Try.func3, Try.ntmps3
    go_wp2_with fail
    refine (bytes3_yes a0 a1 a2 _ _ (by omega)).mono ?_
    rintro e w1 ⟨rfl, hw1⟩
    have hw2 := hw1.symm
    subst hw2
    clear hw1
    go_wp2_with fail
    refine (digits_any a0 _ (by unfold maxLen; omega)).mono ?_
    rintro e w1 ⟨rfl, hw1⟩
    have hw2 := hw1.symm
    subst hw2
    clear hw1
    rw [unhide H0]
    go_wp2_with fail
    refine (digits_any a1 _ (by unfold maxLen; omega)).mono ?_
    rintro e w1 ⟨rfl, hw1⟩
    have hw2 := hw1.symm
    subst hw2
    clear hw1
    rw [unhide H1]
    go_wp2_with fail
    have hVs : (a0 ++ ⟨#[46]⟩ ++ a1 ++ a2 : ByteArray).size ≤ 70000 := by
      simp only [ByteArray.size_append]
      have e1 : (⟨#[46]⟩ : ByteArray).size = 1 := rfl
      have e2 : (⟨#[118]⟩ : ByteArray).size = 1 := rfl
      omega
    have hver2 : Hid ((flagsB (a0 ++ ⟨#[46]⟩ ++ a1 ++ a2)).data.toList = (wantTo (a0 ++ ⟨#[46]⟩ ++ a1 ++ a2) a0 a1 2).data.toList) := hver
    clear hver
    generalize (a0 ++ ⟨#[46]⟩ ++ a1 ++ a2 : ByteArray) = V at hVs hver2 ⊢
    refine (flags8 V _ (by omega)).mono ?_
    rintro e w1 ⟨rfl, hb⟩

    have hw0 := want0_size V a0 a1
    have hw1 := want1_size V a0 a1 hVs (by omega) (by omega)
    go_wp2_with fail
    go_loop [11, 12] (fun t i => ∃ k : Nat, k ≤ 2 ∧ i = .int .i64 k ∧ t = .string (wantTo V a0 a1 k)) (fun _ i => 2 - (intOf i).toNat)
    case atStart => exact ⟨0, Nat.zero_le _, rfl, rfl⟩
    case round =>
      obtain ⟨k, hk, rfl, rfl⟩ := hrel
      rcases (show k = 0 ∨ k = 1 ∨ k = 2 from by omega) with rfl | rfl | rfl
      · go_wp2
        go_round
        case rel => exact ⟨1, by omega, rfl, rfl⟩
        case measure => simp [intOf]
      · go_wp2
        go_round
        case rel => exact ⟨2, by omega, rfl, rfl⟩
        case measure => simp [intOf]
      · go_wp2
        go_ret
        exact ⟨ret_bool (by rw [Lib.toList_data, Lib.toList_data, unhide hver2]; simp), hb⟩
  · go_enter Try.func3, Try.ntmps3
    go_wp2_with fail
    refine (bytes3_yes a0 a1 a2 _ _ (by omega)).mono ?_
    rintro e w1 ⟨rfl, hw1⟩
    have hw2 := hw1.symm
    subst hw2
    clear hw1
    go_wp2_with fail
    refine (digits_any a0 _ (by unfold maxLen; omega)).mono ?_
    rintro e w1 ⟨rfl, hw1⟩
    have hw2 := hw1.symm
    subst hw2
    clear hw1
    rw [unhide H0]
    go_wp2_with fail
    refine (digits_any a1 _ (by unfold maxLen; omega)).mono ?_
    rintro e w1 ⟨rfl, hw1⟩
    have hw2 := hw1.symm
    subst hw2
    clear hw1
    rw [unhide H1]
    go_wp2_with fail
    have hVs : (⟨#[118]⟩ ++ (a0 ++ ⟨#[46]⟩ ++ a1 ++ a2) : ByteArray).size ≤ 70000 := by
      simp only [ByteArray.size_append]
      have e1 : (⟨#[46]⟩ : ByteArray).size = 1 := rfl
      have e2 : (⟨#[118]⟩ : ByteArray).size = 1 := rfl
      omega
    have hver2 : Hid ((flagsB (⟨#[118]⟩ ++ (a0 ++ ⟨#[46]⟩ ++ a1 ++ a2))).data.toList = (wantTo (⟨#[118]⟩ ++ (a0 ++ ⟨#[46]⟩ ++ a1 ++ a2)) a0 a1 2).data.toList) := hver
    clear hver
    generalize (⟨#[118]⟩ ++ (a0 ++ ⟨#[46]⟩ ++ a1 ++ a2) : ByteArray) = V at hVs hver2 ⊢
    refine (flags8 V _ (by omega)).mono ?_
    rintro e w1 ⟨rfl, hb⟩

    have hw0 := want0_size V a0 a1
    have hw1 := want1_size V a0 a1 hVs (by omega) (by omega)
    go_wp2_with fail
    go_loop [11, 12] (fun t i => ∃ k : Nat, k ≤ 2 ∧ i = .int .i64 k ∧ t = .string (wantTo V a0 a1 k)) (fun _ i => 2 - (intOf i).toNat)
    case atStart => exact ⟨0, Nat.zero_le _, rfl, rfl⟩
    case round =>
      obtain ⟨k, hk, rfl, rfl⟩ := hrel
      rcases (show k = 0 ∨ k = 1 ∨ k = 2 from by omega) with rfl | rfl | rfl
      · go_wp2
        go_round
        case rel => exact ⟨1, by omega, rfl, rfl⟩
        case measure => simp [intOf]
      · go_wp2
        go_round
        case rel => exact ⟨2, by omega, rfl, rfl⟩
        case measure => simp [intOf]
      · go_wp2
        go_ret
        exact ⟨ret_bool (by rw [Lib.toList_data, Lib.toList_data, unhide hver2]; simp), hb⟩
  · go_enter Try.func3, Try.ntmps3
    go_wp2_with fail
    refine (bytes3_yes a0 a1 a2 _ _ (by omega)).mono ?_
    rintro e w1 ⟨rfl, hw1⟩
    have hw2 := hw1.symm
    subst hw2
    clear hw1
    go_wp2_with fail
    refine (digits_any a0 _ (by unfold maxLen; omega)).mono ?_
    rintro e w1 ⟨rfl, hw1⟩
    have hw2 := hw1.symm
    subst hw2
    clear hw1
    rw [unhide H0]
    go_wp2_with fail
    refine (digits_any a1 _ (by unfold maxLen; omega)).mono ?_
    rintro e w1 ⟨rfl, hw1⟩
    have hw2 := hw1.symm
    subst hw2
    clear hw1
    rw [unhide H1]
    go_wp2_with fail
    have hVs : (a0 ++ ⟨#[46]⟩ ++ a1 ++ a2 : ByteArray).size ≤ 70000 := by
      simp only [ByteArray.size_append]
      have e1 : (⟨#[46]⟩ : ByteArray).size = 1 := rfl
      have e2 : (⟨#[118]⟩ : ByteArray).size = 1 := rfl
      omega
    have hver2 : Hid ((flagsB (a0 ++ ⟨#[46]⟩ ++ a1 ++ a2)).data.toList = (wantTo (a0 ++ ⟨#[46]⟩ ++ a1 ++ a2) a0 a1 2).data.toList) := hver
    clear hver
    generalize (a0 ++ ⟨#[46]⟩ ++ a1 ++ a2 : ByteArray) = V at hVs hver2 ⊢
    refine (flags8 V _ (by omega)).mono ?_
    rintro e w1 ⟨rfl, hb⟩

    have hw0 := want0_size V a0 a1
    have hw1 := want1_size V a0 a1 hVs (by omega) (by omega)
    go_wp2_with fail
    go_loop [11, 12] (fun t i => ∃ k : Nat, k ≤ 2 ∧ i = .int .i64 k ∧ t = .string (wantTo V a0 a1 k)) (fun _ i => 2 - (intOf i).toNat)
    case atStart => exact ⟨0, Nat.zero_le _, rfl, rfl⟩
    case round =>
      obtain ⟨k, hk, rfl, rfl⟩ := hrel
      rcases (show k = 0 ∨ k = 1 ∨ k = 2 from by omega) with rfl | rfl | rfl
      · go_wp2
        go_round
        case rel => exact ⟨1, by omega, rfl, rfl⟩
        case measure => simp [intOf]
      · go_wp2
        go_round
        case rel => exact ⟨2, by omega, rfl, rfl⟩
        case measure => simp [intOf]
      · go_wp2
        go_ret
        exact ⟨ret_bool (by rw [Lib.toList_data, Lib.toList_data, unhide hver2]; simp), hb⟩
  · go_enter Try.func3, Try.ntmps3
    go_wp2_with fail
    refine (bytes3_yes a0 a1 a2 _ _ (by omega)).mono ?_
    rintro e w1 ⟨rfl, hw1⟩
    have hw2 := hw1.symm
    subst hw2
    clear hw1
    go_wp2_with fail
    refine (digits_any a0 _ (by unfold maxLen; omega)).mono ?_
    rintro e w1 ⟨rfl, hw1⟩
    have hw2 := hw1.symm
    subst hw2
    clear hw1
    rw [unhide H0]
    go_wp2_with fail
    refine (digits_any a1 _ (by unfold maxLen; omega)).mono ?_
    rintro e w1 ⟨rfl, hw1⟩
    have hw2 := hw1.symm
    subst hw2
    clear hw1
    rw [unhide H1]
    go_wp2_with fail
    have hVs : (⟨#[118]⟩ ++ (a0 ++ ⟨#[46]⟩ ++ a1 ++ a2) : ByteArray).size ≤ 70000 := by
      simp only [ByteArray.size_append]
      have e1 : (⟨#[46]⟩ : ByteArray).size = 1 := rfl
      have e2 : (⟨#[118]⟩ : ByteArray).size = 1 := rfl
      omega
    have hver2 : Hid ((flagsB (⟨#[118]⟩ ++ (a0 ++ ⟨#[46]⟩ ++ a1 ++ a2))).data.toList = (wantTo (⟨#[118]⟩ ++ (a0 ++ ⟨#[46]⟩ ++ a1 ++ a2)) a0 a1 2).data.toList) := hver
    clear hver
    generalize (⟨#[118]⟩ ++ (a0 ++ ⟨#[46]⟩ ++ a1 ++ a2) : ByteArray) = V at hVs hver2 ⊢
    refine (flags8 V _ (by omega)).mono ?_
    rintro e w1 ⟨rfl, hb⟩

    have hw0 := want0_size V a0 a1
    have hw1 := want1_size V a0 a1 hVs (by omega) (by omega)
    go_wp2_with fail
    go_loop [11, 12] (fun t i => ∃ k : Nat, k ≤ 2 ∧ i = .int .i64 k ∧ t = .string (wantTo V a0 a1 k)) (fun _ i => 2 - (intOf i).toNat)
    case atStart => exact ⟨0, Nat.zero_le _, rfl, rfl⟩
    case round =>
      obtain ⟨k, hk, rfl, rfl⟩ := hrel
      rcases (show k = 0 ∨ k = 1 ∨ k = 2 from by omega) with rfl | rfl | rfl
      · go_wp2
        go_round
        case rel => exact ⟨1, by omega, rfl, rfl⟩
        case measure => simp [intOf]
      · go_wp2
        go_round
        case rel => exact ⟨2, by omega, rfl, rfl⟩
        case measure => simp [intOf]
      · go_wp2
        go_ret
        exact ⟨ret_bool (by rw [Lib.toList_data, Lib.toList_data, unhide hver2]; simp), hb⟩

theorem walk (a0 : ByteArray) (a1 : ByteArray) (a2 : ByteArray) (a3 : Bool) (w0 : a0.size ≤ maxLen) (w1 : a1.size ≤ maxLen) (w2 : a2.size ≤ maxLen) (w : World) :
    Calls Try.prog 3 #[.string a0, .string a1, .string a2, .bool a3] w fun e w' => e = .returned (.bool true) ∧ Below w.heap.size w w' := by
  by_cases hsum : a0.size + a1.size + a2.size ≤ 65536
  · cases h0 : isDig a0.data.toList
    · have H0 := hide h0
      clear h0
      go_enter Try.func3, Try.ntmps3
      go_wp2_with fail
      refine (bytes3_yes a0 a1 a2 _ _ (by omega)).mono ?_
      rintro e w1 ⟨rfl, hw1⟩
      have hw2 := hw1.symm
      subst hw2
      clear hw1
      go_wp2_with fail
      refine (digits_any a0 _ (by unfold maxLen; omega)).mono ?_
      rintro e w1 ⟨rfl, hw1⟩
      have hw2 := hw1.symm
      subst hw2
      clear hw1
      rw [unhide H0]
      go_wp2
      go_ret
      exact ⟨rfl, Below.refl _ _⟩
    · cases h1 : isDig a1.data.toList
      · have H0 := hide h0
        have H1 := hide h1
        clear h0 h1
        go_enter Try.func3, Try.ntmps3
        go_wp2_with fail
        refine (bytes3_yes a0 a1 a2 _ _ (by omega)).mono ?_
        rintro e w1 ⟨rfl, hw1⟩
        have hw2 := hw1.symm
        subst hw2
        clear hw1
        go_wp2_with fail
        refine (digits_any a0 _ (by unfold maxLen; omega)).mono ?_
        rintro e w1 ⟨rfl, hw1⟩
        have hw2 := hw1.symm
        subst hw2
        clear hw1
        rw [unhide H0]
        go_wp2_with fail
        refine (digits_any a1 _ (by unfold maxLen; omega)).mono ?_
        rintro e w1 ⟨rfl, hw1⟩
        have hw2 := hw1.symm
        subst hw2
        clear hw1
        rw [unhide H1]
        go_wp2
        go_ret
        exact ⟨rfl, Below.refl _ _⟩
      · by_cases hz : a2.size = 0
        · exact walk_main a0 a1 a2 a3 w hsum h0 h1 (Or.inl (by apply List.eq_nil_of_length_eq_zero; rw [← Lib.size_eq]; exact hz))
        · have hp : 0 < a2.size := by omega
          by_cases he : a2[0]'hp = 46
          · refine walk_main a0 a1 a2 a3 w hsum h0 h1 (Or.inr ?_)
            have e : a2[0]'hp = a2.data.toList[0]'(by rw [← Lib.size_eq]; exact hp) := rfl
            rw [e] at he
            cases hl : a2.data.toList with
            | nil => rw [Lib.size_eq, hl] at hp; simp at hp
            | cons c t =>
              simp only [hl, List.getElem_cons_zero] at he
              exact ⟨t, by rw [he]⟩
          · have ht : ((((a2[0]'hp).toNat : Int)) != 46) = true := by
              have := byte_miss (n := 46) (c := 46) rfl he
              unfold bne; rw [this]; rfl
            have HE := hide he
            have H0 := hide h0
            have H1 := hide h1
            clear h0 h1 he
            go_enter Try.func3, Try.ntmps3
            go_wp2_with fail
            refine (bytes3_yes a0 a1 a2 _ _ (by omega)).mono ?_
            rintro e w1 ⟨rfl, hw1⟩
            have hw2 := hw1.symm
            subst hw2
            clear hw1
            go_wp2_with fail
            refine (digits_any a0 _ (by unfold maxLen; omega)).mono ?_
            rintro e w1 ⟨rfl, hw1⟩
            have hw2 := hw1.symm
            subst hw2
            clear hw1
            rw [unhide H0]
            go_wp2_with fail
            refine (digits_any a1 _ (by unfold maxLen; omega)).mono ?_
            rintro e w1 ⟨rfl, hw1⟩
            have hw2 := hw1.symm
            subst hw2
            clear hw1
            rw [unhide H1]
            go_wp2
            go_ret
            exact ⟨rfl, Below.refl _ _⟩
  · have hb := hide (bytes3_any a0 a1 a2 a3 w w0 w1 w2)
    by_cases hbig : a0.size + a1.size + a2.size ≤ 1048576
    · have hd := hide (decide_eq_true hbig)
      go_enter Try.func3, Try.ntmps3
      go_wp2_with fail
      refine (unhide hb).mono ?_
      rintro e w' ⟨rfl, rfl⟩
      rw [unhide hd]
      go_wp2
      go_ret
      exact ⟨rfl, Below.refl _ _⟩
    · have hd := hide (decide_eq_false hbig)
      go_enter Try.func3, Try.ntmps3
      go_wp2_with fail
      refine (unhide hb).mono ?_
      rintro e w' ⟨rfl, rfl⟩
      rw [unhide hd]
      go_wp2
      go_ret
      exact ⟨rfl, Below.refl _ _⟩

end Go.Proofs.Qxb6001776a.fnVersionFlagsNumericSpec
