import Derived.Test.Qxb6002464aRows
import Derived.Test.Qxb6002464aShelf
import Derived.WalkKit
import Derived.ProofKit
import Derived.OpenShut
import Derived.ShutString
import Derived.WalkSpells
import Derived.Lib.Strings
namespace Go.Proofs.Qxb6002464a
open Go.ChangeShapes Go.WideShapes Go.ChangeAt Go.RowKit
set_option linter.unusedVariables false
set_option linter.unusedSimpArgs false

theorem hide {p : Prop} (h : p) : Hid p := h
theorem unhide {p : Prop} (h : Hid p) : p := h
theorem ret_bool {a b : Bool} (h : a = b) : Ending.returned (.bool a) = .returned (.bool b) := by rw [h]
theorem ret_int {k : IntKind} {a b : Int} (h : a = b) : Ending.returned (.int k a) = .returned (.int k b) := by rw [h]

theorem byte_eq {a c : UInt8} {n : Int} (hc : n = c.toNat) : ((a.toNat : Int) == n) = (a == c) := by
  subst hc
  rw [Bool.eq_iff_iff]; simp only [beq_iff_eq]
  constructor
  · intro h; exact UInt8.toNat_inj.1 (by exact_mod_cast h)
  · intro h; rw [h]
theorem byte_hit {a c : UInt8} {n : Int} (hc : n = c.toNat) (h : a = c) : ((a.toNat : Int) == n) = true := by rw [byte_eq hc]; simp [h]
theorem byte_miss {a c : UInt8} {n : Int} (hc : n = c.toNat) (h : a ≠ c) : ((a.toNat : Int) == n) = false := by rw [byte_eq hc]; simp [h]
theorem bne_hit {a c : UInt8} {n : Int} (hc : n = c.toNat) (h : a = c) : ((a.toNat : Int) != n) = false := by unfold bne; rw [byte_hit hc h]; rfl
theorem bne_miss {a c : UInt8} {n : Int} (hc : n = c.toNat) (h : a ≠ c) : ((a.toNat : Int) != n) = true := by unfold bne; rw [byte_miss hc h]; rfl

theorem take_snoc (s : ByteArray) (k : Nat) (h : k < s.size) : s.data.toList.take (k + 1) = s.data.toList.take k ++ [s[k]] := by
  rw [List.take_succ_eq_append_getElem (by simpa using h)]; rfl
theorem mem_at (s : ByteArray) (k : Nat) (h : k < s.size) : s[k] ∈ s.data.toList := by
  have : s[k] = s.data.toList[k]'(by simpa using h) := rfl
  rw [this]; exact List.getElem_mem _

def has (c : UInt8) (l : List UInt8) : Bool := l.contains c
theorem has_true {c : UInt8} {l : List UInt8} (h : c ∈ l) : has c l = true := by unfold has; simpa using h
theorem has_snoc {c : UInt8} {l : List UInt8} {b : UInt8} (h : has c l = false) (hb : b ≠ c) : has c (l ++ [b]) = false := by
  unfold has at *; simp at h ⊢; exact ⟨h, fun e => hb e.symm⟩

theorem has_index (c : UInt8) (l : List UInt8) : decide (0 ≤ Lib.indexByte l c) = has c l := by
  induction l with
  | nil => rfl
  | cons b l ih =>
    unfold has at ih ⊢
    rw [List.contains_cons]
    unfold Lib.indexByte
    by_cases hb : b = c
    · subst hb; simp
    · rw [if_neg (by simpa using hb)]
      have hcb : (c == b) = false := by simpa using fun e : c = b => hb e.symm
      rw [hcb, Bool.false_or, ← ih]
      have hge := Lib.indexByte_ge l c
      by_cases e : (Lib.indexByte l c == -1) = true
      · rw [if_pos e]
        have : Lib.indexByte l c = -1 := by simpa using e
        rw [this]
      · rw [if_neg e]
        have e' : Lib.indexByte l c ≠ -1 := by simpa using e
        rw [decide_eq_true (by omega), decide_eq_true (by omega)]

/-- zzHasNUL. -/
theorem nul_any (s : ByteArray) (w : World) (hs : s.size ≤ maxLen) :
    Calls Try.prog 21 #[.string s] w fun e w' => e = .returned (.bool (has 0 s.data.toList)) ∧ w' = w := by
  unfold maxLen at hs
  go_enter Try.func21, Try.ntmps21
  go_wp2
  go_loop [3] (fun i => ∃ k : Nat, k ≤ s.size ∧ i = .int .i64 k ∧ has 0 (s.data.toList.take k) = false) (fun i => s.size - (intOf i).toNat)
  case atStart => exact ⟨0, Nat.zero_le _, rfl, rfl⟩
  case round =>
    obtain ⟨k, hk, rfl, hall⟩ := hrel
    by_cases hlt : k < s.size
    · have hts := hide (take_snoc s k hlt)
      by_cases he : s[k] = 0
      · have ht : ((s[k].toNat : Int) == 0) = true := byte_hit (c := 0) rfl he
        have hm := hide (mem_at s k hlt)
        have HE := hide he
        clear he
        go_wp2
        go_ret
        exact ⟨ret_bool (has_true (unhide HE ▸ unhide hm)).symm, rfl⟩
      · have ht : ((s[k].toNat : Int) == 0) = false := byte_miss (c := 0) rfl he
        go_wp2
        go_round
        case rel => exact ⟨k + 1, by omega, by go_num, by rw [unhide hts]; exact has_snoc hall he⟩
        case measure => simp [intOf]; omega
    · go_wp2
      go_ret
      exact ⟨ret_bool (by rw [← hall, List.take_of_length_le (by simp; omega)]), rfl⟩

/-- holdsNUL. -/
theorem holds_any (s : ByteArray) (w : World) :
    Calls Try.prog 29 #[.string s] w fun e w' => e = .returned (.bool (has 0 s.data.toList)) ∧ w' = w := by
  have hx := hide (has_index 0 s.data.toList)
  go_enter Try.func29, Try.ntmps29
  go_wp2_with (go_at_call 24; refine (Try.strings_IndexByte _ _ _).mono ?_; rintro e w' ⟨rfl, rfl⟩)
  go_ret
  exact ⟨ret_bool (unhide hx), rfl⟩

theorem bytes1_any (a : ByteArray) (w : World) (h1 : a.size ≤ maxLen) :
    Calls Try.prog 19 #[.string a] w fun e w' => e = .returned (.bool (decide (a.size ≤ 1048576))) ∧ w' = w := by
  unfold maxLen at h1
  by_cases c1 : 1048576 < a.size
  · go_enter Try.func19, Try.ntmps19
    go_wp2
    go_ret
    exact ⟨ret_bool (decide_eq_false (by omega)).symm, rfl⟩
  · go_enter Try.func19, Try.ntmps19
    go_wp2
    go_ret
    exact ⟨ret_bool (decide_eq_true (by omega)).symm, rfl⟩

theorem bytes2_any (a b : ByteArray) (w : World) (h1 : a.size ≤ maxLen) (h2 : b.size ≤ maxLen) :
    Calls Try.prog 22 #[.string a, .string b] w fun e w' => e = .returned (.bool (decide (a.size + b.size ≤ 1048576))) ∧ w' = w := by
  unfold maxLen at h1 h2
  by_cases c1 : 1048576 < a.size
  · go_enter Try.func22, Try.ntmps22
    go_wp2
    go_ret
    exact ⟨ret_bool (decide_eq_false (by omega)).symm, rfl⟩
  by_cases c2 : 1048576 < b.size
  · go_enter Try.func22, Try.ntmps22
    go_wp2
    go_ret
    exact ⟨ret_bool (decide_eq_false (by omega)).symm, rfl⟩
  by_cases c3 : 1048576 < a.size + b.size
  · go_enter Try.func22, Try.ntmps22
    go_wp2
    go_ret
    exact ⟨ret_bool (decide_eq_false (by omega)).symm, rfl⟩
  go_enter Try.func22, Try.ntmps22
  go_wp2
  go_ret
  exact ⟨ret_bool (decide_eq_true (by omega)).symm, rfl⟩

end Go.Proofs.Qxb6002464a
