import Derived.Test.Qxb6001776aRows
import Derived.WalkKit
import Derived.ProofKit
import Derived.OpenShut
import Derived.ShutString
import Derived.WalkSpells
import Derived.Lib.Strings

namespace Go.Proofs.Qxb6001776a
open Go.ChangeShapes Go.WideShapes Go.ChangeAt Go.RowKit
set_option linter.unusedVariables false
set_option linter.unusedSimpArgs false

theorem hide {p : Prop} (h : p) : Hid p := h
theorem unhide {p : Prop} (h : Hid p) : p := h
theorem ret_bool {a b : Bool} (h : a = b) : Ending.returned (.bool a) = .returned (.bool b) := by rw [h]
theorem ret_int {k : IntKind} {a b : Int} (h : a = b) : Ending.returned (.int k a) = .returned (.int k b) := by rw [h]
theorem ret_str {a b : ByteArray} (h : a = b) : Ending.returned (.string a) = .returned (.string b) := by rw [h]

set_option maxHeartbeats 400000 in
theorem bytes3_yes (a b r : ByteArray) (v : Bool) (w : World) (h : a.size + b.size + r.size ≤ 1048576) :
    Calls Try.prog 6 #[.string a, .string b, .string r, .bool v] w fun e w' => e = .returned (.bool true) ∧ w' = w := by
  go_enter Try.func6, Try.ntmps6
  go_wp2
  go_ret
  exact ⟨rfl, rfl⟩

set_option maxHeartbeats 400000 in
theorem bytes3_any (a b r : ByteArray) (v : Bool) (w : World) (h1 : a.size ≤ maxLen) (h2 : b.size ≤ maxLen) (h3 : r.size ≤ maxLen) :
    Calls Try.prog 6 #[.string a, .string b, .string r, .bool v] w fun e w' => e = .returned (.bool (decide (a.size + b.size + r.size ≤ 1048576))) ∧ w' = w := by
  unfold maxLen at h1 h2 h3
  by_cases c1 : 1048576 < a.size
  · go_enter Try.func6, Try.ntmps6
    go_wp2
    go_ret
    exact ⟨ret_bool (decide_eq_false (by omega)).symm, rfl⟩
  by_cases c2 : 1048576 < b.size
  · go_enter Try.func6, Try.ntmps6
    go_wp2
    go_ret
    exact ⟨ret_bool (decide_eq_false (by omega)).symm, rfl⟩
  by_cases c3 : 1048576 < a.size + b.size
  · go_enter Try.func6, Try.ntmps6
    go_wp2
    go_ret
    exact ⟨ret_bool (decide_eq_false (by omega)).symm, rfl⟩
  by_cases c4 : 1048576 < r.size
  · go_enter Try.func6, Try.ntmps6
    go_wp2
    go_ret
    exact ⟨ret_bool (decide_eq_false (by omega)).symm, rfl⟩
  by_cases c5 : 1048576 < a.size + b.size + r.size
  · go_enter Try.func6, Try.ntmps6
    go_wp2
    go_ret
    exact ⟨ret_bool (decide_eq_false (by omega)).symm, rfl⟩
  exact (bytes3_yes a b r v w (by omega)).mono fun e w' h => ⟨h.1.trans (ret_bool (decide_eq_true (by omega)).symm), h.2⟩

theorem take_snoc (s : ByteArray) (k : Nat) (h : k < s.size) : s.data.toList.take (k + 1) = s.data.toList.take k ++ [s[k]] := by
  rw [List.take_succ_eq_append_getElem (by simpa using h)]; rfl

def dig (c : UInt8) : Bool := decide (48 ≤ c.toNat ∧ c.toNat ≤ 57)
def isDig (l : List UInt8) : Bool := !l.isEmpty && l.all dig

theorem isDig_false_of (s : ByteArray) (k : Nat) (h : k < s.size) (hb : dig s[k] = false) : isDig s.data.toList = false := by
  have hm : s[k] ∈ s.data.toList := by
    have : s[k] = s.data.toList[k]'(by simpa using h) := rfl
    rw [this]; exact List.getElem_mem _
  unfold isDig
  rw [Bool.and_eq_false_iff]; right
  rw [List.all_eq_false]
  exact ⟨_, hm, by simp [hb]⟩

set_option maxHeartbeats 400000 in
theorem digits_any (s : ByteArray) (w : World) (hs : s.size ≤ maxLen) :
    Calls Try.prog 7 #[.string s] w fun e w' => e = .returned (.bool (isDig s.data.toList)) ∧ w' = w := by
  unfold maxLen at hs
  by_cases h0 : s.size = 0
  · have : s.data.toList = [] := by apply List.eq_nil_of_length_eq_zero; simpa using h0
    rw [this]
    go_enter Try.func7, Try.ntmps7
    go_wp2
    go_ret
    exact ⟨rfl, rfl⟩
  · have h0' : ((s.size : Int) == 0) = false := by simp [h0]
    go_enter Try.func7, Try.ntmps7
    go_wp2
    go_loop [3] (fun i => ∃ k : Nat, k ≤ s.size ∧ i = .int .i64 k ∧ (s.data.toList.take k).all dig = true) (fun i => s.size - (intOf i).toNat)
    case atStart => exact ⟨0, Nat.zero_le _, rfl, rfl⟩
    case round =>
      obtain ⟨k, hk, rfl, hall⟩ := hrel
      by_cases hlt : k < s.size
      · have hts := hide (take_snoc s k hlt)
        by_cases ha : (48 : Int) ≤ (s[k].toNat : Int)
        · by_cases hb : (s[k].toNat : Int) ≤ 57
          · go_wp2
            go_round
            case rel => exact ⟨k + 1, by omega, by go_num, by rw [unhide hts, List.all_append, hall]; simp [dig]; omega⟩
            case measure => simp [intOf]; omega
          · go_wp2
            go_ret
            exact ⟨ret_bool (isDig_false_of s k hlt (by simp [dig]; omega)).symm, rfl⟩
        · go_wp2
          go_ret
          exact ⟨ret_bool (isDig_false_of s k hlt (by simp [dig]; omega)).symm, rfl⟩
      · go_wp2
        go_ret
        refine ⟨?_, rfl⟩
        rw [List.take_of_length_le (by simp; omega)] at hall
        have : s.data.toList.isEmpty = false := by
          rw [List.isEmpty_eq_false_iff]; intro h; apply h0; have := congrArg List.length h; simpa using this
        unfold isDig; rw [hall, this]; rfl

/-! bytes -/
theorem mem_at (s : ByteArray) (k : Nat) (h : k < s.size) : s[k] ∈ s.data.toList := by
  have : s[k] = s.data.toList[k]'(by simpa using h) := rfl
  rw [this]; exact List.getElem_mem _

theorem byte_eq {a c : UInt8} {n : Int} (hc : n = c.toNat) : ((a.toNat : Int) == n) = (a == c) := by
  subst hc
  rw [Bool.eq_iff_iff]; simp only [beq_iff_eq]
  constructor
  · intro h; exact UInt8.toNat_inj.1 (by exact_mod_cast h)
  · intro h; rw [h]

def has (c : UInt8) (l : List UInt8) : Bool := l.contains c
theorem has_true {c : UInt8} {l : List UInt8} (h : c ∈ l) : has c l = true := by unfold has; simpa using h
theorem has_snoc {c : UInt8} {l : List UInt8} {b : UInt8} (h : has c l = false) (hb : b ≠ c) : has c (l ++ [b]) = false := by
  unfold has at *; simp at h ⊢; exact ⟨h, fun e => hb e.symm⟩

set_option maxHeartbeats 400000 in
theorem has_any (s : ByteArray) (n : Int) (c : UInt8) (w : World) (hs : s.size ≤ maxLen) (hc : n = c.toNat) :
    Calls Try.prog 10 #[.string s, .int .u8 n] w fun e w' => e = .returned (.bool (has c s.data.toList)) ∧ w' = w := by
  unfold maxLen at hs
  have hC := hide hc; clear hc
  go_enter Try.func10, Try.ntmps10
  go_wp2
  go_loop [5] (fun i => ∃ k : Nat, k ≤ s.size ∧ i = .int .i64 k ∧ has c (s.data.toList.take k) = false) (fun i => s.size - (intOf i).toNat)
  case atStart => exact ⟨0, Nat.zero_le _, rfl, rfl⟩
  case round =>
    obtain ⟨k, hk, rfl, hall⟩ := hrel
    by_cases hlt : k < s.size
    · have hts := hide (take_snoc s k hlt)
      by_cases he : s[k] = c
      · have ht : ((s[k].toNat : Int) == n) = true := by rw [byte_eq (unhide hC)]; simp [he]
        have hm := hide (mem_at s k hlt)
        have HE := hide he; clear he
        go_wp2
        go_ret
        exact ⟨ret_bool (has_true (unhide HE ▸ unhide hm)).symm, rfl⟩
      · have ht : ((s[k].toNat : Int) == n) = false := by rw [byte_eq (unhide hC)]; simp [he]
        go_wp2
        go_round
        case rel => exact ⟨k + 1, by omega, by go_num, by rw [unhide hts]; exact has_snoc hall he⟩
        case measure => simp [intOf]; omega
    · go_wp2
      go_ret
      exact ⟨ret_bool (by rw [← hall, List.take_of_length_le (by simp; omega)]), rfl⟩

def cnt (c : UInt8) (l : List UInt8) : Nat := l.count c
theorem cnt_le (c : UInt8) (l : List UInt8) : cnt c l ≤ l.length := List.count_le_length
theorem cnt_hit {c : UInt8} {l : List UInt8} {b : UInt8} (hb : b = c) : cnt c (l ++ [b]) = cnt c l + 1 := by
  unfold cnt; subst hb; simp
theorem cnt_miss {c : UInt8} {l : List UInt8} {b : UInt8} (hb : b ≠ c) : cnt c (l ++ [b]) = cnt c l := by
  unfold cnt; simp [List.count_cons]; exact hb

set_option maxHeartbeats 400000 in
theorem count_any (s : ByteArray) (n : Int) (c : UInt8) (w : World) (hs : s.size ≤ maxLen) (hc : n = c.toNat) :
    Calls Try.prog 14 #[.string s, .int .u8 n] w fun e w' => e = .returned (.int .i64 (cnt c s.data.toList)) ∧ w' = w := by
  unfold maxLen at hs
  have hC := hide hc; clear hc
  go_enter Try.func14, Try.ntmps14
  go_wp2
  go_loop [5, 6] (fun t i => ∃ k : Nat, k ≤ s.size ∧ i = .int .i64 k ∧ t = .int .i64 (cnt c (s.data.toList.take k))) (fun _ i => s.size - (intOf i).toNat)
  case atStart => exact ⟨0, Nat.zero_le _, rfl, rfl⟩
  case round =>
    obtain ⟨k, hk, rfl, rfl⟩ := hrel
    have hb := cnt_le c (s.data.toList.take k)
    have hl : (s.data.toList.take k).length ≤ k := List.length_take_le _ _
    by_cases hlt : k < s.size
    · have hts := hide (take_snoc s k hlt)
      by_cases he : s[k] = c
      · have ht : ((s[k].toNat : Int) == n) = true := by rw [byte_eq (unhide hC)]; simp [he]
        have HE := hide he; clear he
        go_wp2
        go_round
        case rel => exact ⟨k + 1, by omega, by go_num, by rw [unhide hts, cnt_hit (unhide HE)]; go_num⟩
        case measure => simp [intOf]; omega
      · have ht : ((s[k].toNat : Int) == n) = false := by rw [byte_eq (unhide hC)]; simp [he]
        go_wp2
        go_round
        case rel => exact ⟨k + 1, by omega, by go_num, by rw [unhide hts, cnt_miss he]⟩
        case measure => simp [intOf]; omega
    · go_wp2
      go_ret
      exact ⟨ret_int (by rw [List.take_of_length_le (by simp; omega)]), rfl⟩

theorem pre_yes (s p : ByteArray) (h : p.size ≤ s.size) : ((s.extract 0 p.size).toList == p.toList) = Lib.hasPrefix s.data.toList p.data.toList := by
  rw [← Lib.hasPrefix_raw]; simp [h]
theorem pre_no (s p : ByteArray) (h : s.size < p.size) : false = Lib.hasPrefix s.data.toList p.data.toList := by
  rw [← Lib.hasPrefix_raw]; simp [h]; omega

set_option maxHeartbeats 400000 in
theorem prefix_any (s p : ByteArray) (w : World) (hs : s.size ≤ maxLen) (hp : p.size ≤ maxLen) :
    Calls Try.prog 12 #[.string s, .string p] w fun e w' => e = .returned (.bool (Lib.hasPrefix s.data.toList p.data.toList)) ∧ w' = w := by
  unfold maxLen at hs hp
  by_cases h : s.size < p.size
  · go_enter Try.func12, Try.ntmps12
    go_wp2
    go_ret
    exact ⟨ret_bool (pre_no s p h), rfl⟩
  · have h' : p.size ≤ s.size := by omega
    go_enter Try.func12, Try.ntmps12
    go_wp2
    go_ret
    exact ⟨ret_bool (pre_yes s p h'), rfl⟩

theorem bytes1_any (a : ByteArray) (w : World) (h1 : a.size ≤ maxLen) :
    Calls Try.prog 9 #[.string a] w fun e w' => e = .returned (.bool (decide (a.size ≤ 1048576))) ∧ w' = w := by
  unfold maxLen at h1
  by_cases c1 : 1048576 < a.size
  · have hd : decide (a.size ≤ 1048576) = false := by simp; omega
    rw [hd]
    go_enter Try.func9, Try.ntmps9
    go_wp2
    go_ret
    exact ⟨rfl, rfl⟩
  · have hd : decide (a.size ≤ 1048576) = true := by simp; omega
    rw [hd]
    go_enter Try.func9, Try.ntmps9
    go_wp2
    go_ret
    exact ⟨rfl, rfl⟩

theorem bytes2_yes (a b : ByteArray) (w : World) (h : a.size + b.size ≤ 1048576) :
    Calls Try.prog 13 #[.string a, .string b] w fun e w' => e = .returned (.bool true) ∧ w' = w := by
  go_enter Try.func13, Try.ntmps13
  go_wp2
  go_ret
  exact ⟨rfl, rfl⟩

theorem bytes2_any (a b : ByteArray) (w : World) (h1 : a.size ≤ maxLen) (h2 : b.size ≤ maxLen) :
    Calls Try.prog 13 #[.string a, .string b] w fun e w' => e = .returned (.bool (decide (a.size + b.size ≤ 1048576))) ∧ w' = w := by
  unfold maxLen at h1 h2
  by_cases c1 : 1048576 < a.size
  · go_enter Try.func13, Try.ntmps13
    go_wp2
    go_ret
    exact ⟨ret_bool (decide_eq_false (by omega)).symm, rfl⟩
  by_cases c2 : 1048576 < b.size
  · go_enter Try.func13, Try.ntmps13
    go_wp2
    go_ret
    exact ⟨ret_bool (decide_eq_false (by omega)).symm, rfl⟩
  by_cases c3 : 1048576 < a.size + b.size
  · go_enter Try.func13, Try.ntmps13
    go_wp2
    go_ret
    exact ⟨ret_bool (decide_eq_false (by omega)).symm, rfl⟩
  exact (bytes2_yes a b w (by omega)).mono fun e w' h => ⟨h.1.trans (ret_bool (decide_eq_true (by omega)).symm), h.2⟩
end Go.Proofs.Qxb6001776a
