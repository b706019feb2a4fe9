import Derived.Test.Qxb6002403aRune
namespace Go.Proofs.Qxb6002403a
open Go.ChangeShapes Go.WideShapes Go.ChangeAt Go.RowKit
set_option linter.unusedVariables false
set_option linter.unusedSimpArgs false

def alnumZ (n : Int) : Bool := decide ((97 ≤ n ∧ n ≤ 122) ∨ (65 ≤ n ∧ n ≤ 90) ∨ (48 ≤ n ∧ n ≤ 57))
def setL : List UInt8 := [45, 46, 95, 126, 33, 36, 38, 39, 40, 41, 42, 43, 44, 59, 61, 37, 58, 91, 93]
/-- The bytes that isHost lets pass. -/
def hostOK (c : UInt8) : Bool := alnumZ c.toNat || decide (0 ≤ Lib.indexByte setL c)

set_option maxHeartbeats 400000 in
theorem alnum_any (n : Int) (w : World) (h0 : 0 ≤ n) (h1 : n < 256) :
    Calls Try.prog 16 #[.int .u8 n] w fun e w' => e = .returned (.bool (alnumZ n)) ∧ w' = w := by
  rcases (show n < 48 ∨ (48 ≤ n ∧ n ≤ 57) ∨ (57 < n ∧ n < 65) ∨ (65 ≤ n ∧ n ≤ 90) ∨ (90 < n ∧ n < 97) ∨ (97 ≤ n ∧ n ≤ 122) ∨ 122 < n from by omega) with h | ⟨h, h'⟩ | ⟨h, h'⟩ | ⟨h, h'⟩ | ⟨h, h'⟩ | ⟨h, h'⟩ | h
  · go_enter Try.func16, Try.ntmps16
    go_wp2
    go_ret
    exact ⟨ret_bool (by rw [Bool.eq_iff_iff]; simp [alnumZ]; omega), rfl⟩
  · go_enter Try.func16, Try.ntmps16
    go_wp2
    go_ret
    exact ⟨ret_bool (by rw [Bool.eq_iff_iff]; simp [alnumZ]; omega), rfl⟩
  · go_enter Try.func16, Try.ntmps16
    go_wp2
    go_ret
    exact ⟨ret_bool (by rw [Bool.eq_iff_iff]; simp [alnumZ]; omega), rfl⟩
  · go_enter Try.func16, Try.ntmps16
    go_wp2
    go_ret
    exact ⟨ret_bool (by rw [Bool.eq_iff_iff]; simp [alnumZ]; omega), rfl⟩
  · go_enter Try.func16, Try.ntmps16
    go_wp2
    go_ret
    exact ⟨ret_bool (by rw [Bool.eq_iff_iff]; simp [alnumZ]; omega), rfl⟩
  · go_enter Try.func16, Try.ntmps16
    go_wp2
    go_ret
    exact ⟨ret_bool (by rw [Bool.eq_iff_iff]; simp [alnumZ]; omega), rfl⟩
  · go_enter Try.func16, Try.ntmps16
    go_wp2
    go_ret
    exact ⟨ret_bool (by rw [Bool.eq_iff_iff]; simp [alnumZ]; omega), rfl⟩

theorem ok_high (c : UInt8) (h : 128 ≤ c.toNat) : hostOK c = false := by
  unfold hostOK
  have h1 : alnumZ c.toNat = false := decide_eq_false (by omega)
  have hs : ∀ x ∈ setL, x.toNat < 128 := by decide
  have h2 : Lib.indexByte setL c = -1 := indexByte_absent _ _ (fun x hx e => by have := hs x hx; rw [e] at this; omega)
  rw [h1, h2]; rfl

theorem take_snoc (s : ByteArray) (k : Nat) (h : k < s.size) : s.data.toList.take (k + 1) = s.data.toList.take k ++ [s[k]] := by
  rw [List.take_succ_eq_append_getElem (by simpa using h)]; rfl
theorem mem_at (s : ByteArray) (k : Nat) (h : k < s.size) : s[k] ∈ s.data.toList := by
  have : s[k] = s.data.toList[k]'(by simpa using h) := rfl
  rw [this]; exact List.getElem_mem _

def allOK (l : List UInt8) : Bool := l.all hostOK
theorem allOK_false (s : ByteArray) (k : Nat) (h : k < s.size) (hb : hostOK s[k] = false) : false = allOK s.data.toList := by
  unfold allOK
  rw [eq_comm, List.all_eq_false]
  exact ⟨_, mem_at s k h, by simp [hb]⟩
theorem allOK_snoc {l : List UInt8} {b : UInt8} (h : allOK l = true) (hb : hostOK b = true) : allOK (l ++ [b]) = true := by
  unfold allOK at *; rw [List.all_append, h]; simp [hb]

theorem toUInt8_toNat (c : UInt8) : ((c.toNat : Int)).toNat.toUInt8 = c := by
  rw [Int.toNat_natCast]
  apply UInt8.toNat_inj.1
  simp

set_option maxRecDepth 100000 in
set_option maxHeartbeats 800000 in
theorem isHost_any (s : ByteArray) (w : World) (hs : s.size ≤ maxLen) :
    Calls Try.prog 15 #[.string s] w fun e w' => e = .returned (.bool (allOK s.data.toList)) ∧ ∃ n, w' = w.drewN n := by
  unfold maxLen at hs
  go_enter Try.func15, Try.ntmps15
  go_wp2
  go_loop [3] (fun i => ∃ k : Nat, k ≤ s.size ∧ i = .int .i64 k ∧ allOK (s.data.toList.take k) = true) (fun i => s.size - (intOf i).toNat)
  case atStart => exact ⟨0, Nat.zero_le _, rfl, rfl⟩
  case round =>
    obtain ⟨k, hk, rfl, hall⟩ := hrel
    by_cases hlt : k < s.size
    · have hts := hide (take_snoc s k hlt)
      have hlt256 : s[k].toNat < 256 := UInt8.toNat_lt _
      cases ha : alnumZ (s[k].toNat : Int)
      · by_cases hh : 128 ≤ s[k].toNat
        · have HA := hide ha
          have hf := hide (allOK_false s k hlt (ok_high _ hh))
          clear ha
          go_wp2_with fail
          refine (alnum_any _ _ (by omega) (by omega)).mono ?_
          rintro e w1 ⟨rfl, hw1⟩
          have hw2 := hw1.symm
          subst hw2
          clear hw1
          rw [unhide HA]
          go_wp2_with fail
          refine (contains_high _ _ (by omega) (by omega)).mono ?_
          rintro e w1 ⟨rfl, n, rfl⟩
          go_wp2
          go_ret
          exact ⟨ret_bool (unhide hf), n, rfl⟩
        · have HA := hide ha
          clear ha
          go_wp2_with fail
          refine (alnum_any _ _ (by omega) (by omega)).mono ?_
          rintro e w1 ⟨rfl, hw1⟩
          have hw2 := hw1.symm
          subst hw2
          clear hw1
          rw [unhide HA]
          go_wp2_with fail
          refine (Try.strings_ContainsRune_ascii _ _ _ (by omega) (by omega)).mono ?_
          rintro e w1 ⟨rfl, hw1⟩
          have hw2 := hw1.symm
          subst hw2
          clear hw1
          have hv : decide (0 ≤ Lib.indexByte (⟨#[45, 46, 95, 126, 33, 36, 38, 39, 40, 41, 42, 43, 44, 59, 61, 37, 58, 91, 93]⟩ : ByteArray).data.toList ((s[k].toNat : Int)).toNat.toUInt8) = hostOK s[k] := by
            rw [toUInt8_toNat]
            unfold hostOK
            rw [unhide HA]; rfl
          rw [hv]
          clear hv
          cases ho : hostOK s[k]
          · have hf := hide (allOK_false s k hlt ho)
            clear ho
            go_wp2
            go_ret
            exact ⟨ret_bool (unhide hf), 0, rfl⟩
          · have HO := hide ho
            clear ho
            go_wp2
            go_round
            case rel => exact ⟨k + 1, by omega, by go_num, by rw [unhide hts]; exact allOK_snoc hall (unhide HO)⟩
            case measure => simp [intOf]; omega
      · have HA := hide ha
        have hok : hostOK s[k] = true := by unfold hostOK; rw [ha]; rfl
        have HO := hide hok
        clear ha hok
        go_wp2_with fail
        refine (alnum_any _ _ (by omega) (by omega)).mono ?_
        rintro e w1 ⟨rfl, hw1⟩
        have hw2 := hw1.symm
        subst hw2
        clear hw1
        rw [unhide HA]
        go_wp2
        go_round
        case rel => exact ⟨k + 1, by omega, by go_num, by rw [unhide hts]; exact allOK_snoc hall (unhide HO)⟩
        case measure => simp [intOf]; omega
    · go_wp2
      go_ret
      exact ⟨ret_bool (by rw [← hall, List.take_of_length_le (by simp; omega)]), 0, rfl⟩

def modelZ (n : Int) : Bool := decide (33 ≤ n ∧ n ≤ 126 ∧ n ≠ 34 ∧ n ≠ 35 ∧ n ≠ 47 ∧ n ≠ 60 ∧ n ≠ 62 ∧ n ≠ 63 ∧ n ≠ 64 ∧ n ≠ 92 ∧ n ≠ 94 ∧ n ≠ 96 ∧ n ≠ 123 ∧ n ≠ 124 ∧ n ≠ 125)

theorem model_host : ∀ k : Fin 256, modelZ ((UInt8.ofNat k.val).toNat : Int) = hostOK (UInt8.ofNat k.val) := by decide +kernel
theorem model_eq (c : UInt8) : modelZ c.toNat = hostOK c := by
  have h := model_host ⟨c.toNat, UInt8.toNat_lt _⟩
  have e : UInt8.ofNat c.toNat = c := by simp
  simp only [e] at h
  exact h

set_option maxHeartbeats 1600000 in
theorem byteOK_any (n : Int) (w : World) (h0 : 0 ≤ n) (h1 : n < 256) :
    Calls Try.prog 13 #[.int .u8 n] w fun e w' => e = .returned (.bool (modelZ n)) ∧ w' = w := by
  rcases (show n < 33 ∨ 126 < n ∨ (33 ≤ n ∧ n ≤ 126) from by omega) with h | h | ⟨h, h'⟩
  · go_enter Try.func13, Try.ntmps13
    go_wp2
    go_ret
    exact ⟨ret_bool (by rw [Bool.eq_iff_iff]; simp [modelZ]; omega), rfl⟩
  · go_enter Try.func13, Try.ntmps13
    go_wp2
    go_ret
    exact ⟨ret_bool (by rw [Bool.eq_iff_iff]; simp [modelZ]; omega), rfl⟩
  by_cases hbad : n = 34 ∨ n = 35 ∨ n = 47 ∨ n = 60 ∨ n = 62 ∨ n = 63 ∨ n = 64 ∨ n = 92 ∨ n = 94 ∨ n = 96 ∨ n = 123 ∨ n = 124 ∨ n = 125
  · rcases hbad with rfl | rfl | rfl | rfl | rfl | rfl | rfl | rfl | rfl | rfl | rfl | rfl | rfl
    all_goals
      go_enter Try.func13, Try.ntmps13
      go_wp2
      go_ret
      exact ⟨rfl, rfl⟩
  have e34 : (n == 34) = false := beq_eq_false_iff_ne.2 (by omega)
  have e35 : (n == 35) = false := beq_eq_false_iff_ne.2 (by omega)
  have e47 : (n == 47) = false := beq_eq_false_iff_ne.2 (by omega)
  have e60 : (n == 60) = false := beq_eq_false_iff_ne.2 (by omega)
  have e62 : (n == 62) = false := beq_eq_false_iff_ne.2 (by omega)
  have e63 : (n == 63) = false := beq_eq_false_iff_ne.2 (by omega)
  have e64 : (n == 64) = false := beq_eq_false_iff_ne.2 (by omega)
  have e92 : (n == 92) = false := beq_eq_false_iff_ne.2 (by omega)
  have e94 : (n == 94) = false := beq_eq_false_iff_ne.2 (by omega)
  have e96 : (n == 96) = false := beq_eq_false_iff_ne.2 (by omega)
  have e123 : (n == 123) = false := beq_eq_false_iff_ne.2 (by omega)
  have e124 : (n == 124) = false := beq_eq_false_iff_ne.2 (by omega)
  have e125 : (n == 125) = false := beq_eq_false_iff_ne.2 (by omega)
  have hm := hide (decide_eq_true (p := 33 ≤ n ∧ n ≤ 126 ∧ n ≠ 34 ∧ n ≠ 35 ∧ n ≠ 47 ∧ n ≠ 60 ∧ n ≠ 62 ∧ n ≠ 63 ∧ n ≠ 64 ∧ n ≠ 92 ∧ n ≠ 94 ∧ n ≠ 96 ∧ n ≠ 123 ∧ n ≠ 124 ∧ n ≠ 125) (by omega))
  clear hbad
  go_enter Try.func13, Try.ntmps13
  go_wp2
  go_ret
  exact ⟨ret_bool (unhide hm).symm, rfl⟩

set_option maxHeartbeats 800000 in
theorem modelOK_any (s : ByteArray) (w : World) (hs : s.size ≤ maxLen) :
    Calls Try.prog 9 #[.string s] w fun e w' => e = .returned (.bool (allOK s.data.toList)) ∧ w' = w := by
  unfold maxLen at hs
  go_enter Try.func9, Try.ntmps9
  go_wp2
  go_loop [3] (fun i => ∃ k : Nat, k ≤ s.size ∧ i = .int .i64 k ∧ allOK (s.data.toList.take k) = true) (fun i => s.size - (intOf i).toNat)
  case atStart => exact ⟨0, Nat.zero_le _, rfl, rfl⟩
  case round =>
    obtain ⟨k, hk, rfl, hall⟩ := hrel
    by_cases hlt : k < s.size
    · have hts := hide (take_snoc s k hlt)
      have hlt256 : s[k].toNat < 256 := UInt8.toNat_lt _
      go_wp2_with fail
      refine (byteOK_any _ _ (by omega) (by omega)).mono ?_
      rintro e w1 ⟨rfl, hw1⟩
      have hw2 := hw1.symm
      subst hw2
      clear hw1
      rw [model_eq]
      cases ho : hostOK s[k]
      · have hf := hide (allOK_false s k hlt ho)
        clear ho
        go_wp2
        go_ret
        exact ⟨ret_bool (unhide hf), rfl⟩
      · have HO := hide ho
        clear ho
        go_wp2
        go_round
        case rel => exact ⟨k + 1, by omega, by go_num, by rw [unhide hts]; exact allOK_snoc hall (unhide HO)⟩
        case measure => simp [intOf]; omega
    · go_wp2
      go_ret
      exact ⟨ret_bool (by rw [← hall, List.take_of_length_le (by simp; omega)]), rfl⟩
end Go.Proofs.Qxb6002403a
