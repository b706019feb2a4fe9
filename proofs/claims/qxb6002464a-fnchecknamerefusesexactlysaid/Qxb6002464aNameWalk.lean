import Derived.Test.Qxb6002464aName
namespace Go.Proofs.Qxb6002464a.fnCheckNameRefusesExactly
open Go.ChangeShapes Go.WideShapes Go.ChangeAt Go.RowKit
set_option linter.unusedVariables false
set_option linter.unusedSimpArgs false

theorem drew_below {w w' : World} {n : Nat} (h : w' = w.drewN n) : Below w.heap.size w w' := by subst h; exact ⟨rfl, rfl, rfl, Nat.le_refl _, fun _ _ => rfl⟩

theorem okS (s : ByteArray) (wx : World) (h : has 0 s.data.toList = false) (hp : 0 < s.size) (hf : (((s[0]'hp).toNat : Int) != 47) = false) (hl : s.size < 4096) :
    Calls Try.prog 20 #[.string s] wx fun e w' => e = .returned .nilIface ∧ w' = wx := by
  by_cases he : s.size = 4095
  · exact checkName_slash s wx h he hf
  · exact checkName_short s wx h (by omega)
theorem longN (s : ByteArray) (wx : World) (h : has 0 s.data.toList = false) (hp : 0 < s.size) (hf : (((s[0]'hp).toNat : Int) != 47) = true) (hl : 4095 ≤ s.size) (hs : s.size ≤ 1048576) :
    Calls Try.prog 20 #[.string s] wx fun e w' => e = .returned (.iface 40 (.int .u64 36)) ∧ w' = wx := by
  by_cases he : s.size = 4095
  · exact checkName_edge s wx h he hf
  · exact checkName_long s wx h (by omega) (by omega)

set_option maxRecDepth 100000 in
set_option maxHeartbeats 1600000 in
theorem walk_nulN (s : ByteArray) (w : World) (hs : s.size ≤ 1048576) (h : has 0 s.data.toList = true) (hp : 0 < s.size) (hf : (((s[0]'hp).toNat : Int) != 47) = true) :
    Calls Try.prog 6 #[.string s] w fun e w' => e = .returned (.bool true) ∧ Below w.heap.size w w' := by
  have hd := hide (decide_eq_true (show s.size ≤ 1048576 from hs))
  have H := hide h
  have H1 : Hid (∀ wx, Calls Try.prog 20 #[.string s] wx fun e w' => e = .returned (.iface 40 (.int .u64 22)) ∧ w' = wx) := fun wx => checkName_nul s wx h
  have H2 : Hid (∀ wx, Calls Try.prog 20 #[.string ((⟨#[47]⟩ : ByteArray) ++ s)] wx fun e w' => e = .returned (.iface 40 (.int .u64 22)) ∧ w' = wx) := fun wx => checkName_nul (rooted s) wx (by rw [rooted_has]; exact h)
  have hne : ((s.size : Int) == 0) = false := by rw [beq_eq_false_iff_ne]; omega
  clear h
  go_enter Try.func6, Try.ntmps6
  go_wp2_with fail
  refine (bytes1_any s _ (by unfold maxLen; omega)).mono ?_
  rintro e w1 ⟨rfl, hw1⟩
  have hw2 := hw1.symm
  subst hw2
  clear hw1
  rw [unhide hd]
  go_wp2_with fail
  refine (unhide H1 _).mono ?_
  rintro e w1 ⟨rfl, hw1⟩
  have hw2 := hw1.symm
  subst hw2
  clear hw1
  go_wp2_with fail
  refine (nul_any s _ (by unfold maxLen; omega)).mono ?_
  rintro e w1 ⟨rfl, hw1⟩
  have hw2 := hw1.symm
  subst hw2
  clear hw1
  rw [unhide H]
  go_wp2
  go_quiet ((go_at_call 20; exact Calls.quiet_of_same (unhide H2 _)))
  go_wp2
  go_ret
  exact ⟨rfl, drew_below rfl⟩

set_option maxRecDepth 100000 in
set_option maxHeartbeats 1600000 in
theorem walk_nulS (s : ByteArray) (w : World) (hs : s.size ≤ 1048576) (h : has 0 s.data.toList = true) (hp : 0 < s.size) (hf : (((s[0]'hp).toNat : Int) != 47) = false) :
    Calls Try.prog 6 #[.string s] w fun e w' => e = .returned (.bool true) ∧ Below w.heap.size w w' := by
  have hd := hide (decide_eq_true (show s.size ≤ 1048576 from hs))
  have H := hide h
  have H1 : Hid (∀ wx, Calls Try.prog 20 #[.string s] wx fun e w' => e = .returned (.iface 40 (.int .u64 22)) ∧ w' = wx) := fun wx => checkName_nul s wx h
  have hne : ((s.size : Int) == 0) = false := by rw [beq_eq_false_iff_ne]; omega
  clear h
  go_enter Try.func6, Try.ntmps6
  go_wp2_with fail
  refine (bytes1_any s _ (by unfold maxLen; omega)).mono ?_
  rintro e w1 ⟨rfl, hw1⟩
  have hw2 := hw1.symm
  subst hw2
  clear hw1
  rw [unhide hd]
  go_wp2_with fail
  refine (unhide H1 _).mono ?_
  rintro e w1 ⟨rfl, hw1⟩
  have hw2 := hw1.symm
  subst hw2
  clear hw1
  go_wp2_with fail
  refine (nul_any s _ (by unfold maxLen; omega)).mono ?_
  rintro e w1 ⟨rfl, hw1⟩
  have hw2 := hw1.symm
  subst hw2
  clear hw1
  rw [unhide H]
  go_wp2
  go_ret
  exact ⟨rfl, Below.refl _ _⟩

set_option maxRecDepth 100000 in
set_option maxHeartbeats 1600000 in
theorem walk_longS (s : ByteArray) (w : World) (hs : s.size ≤ 1048576) (h : has 0 s.data.toList = false) (hp : 0 < s.size) (hf : (((s[0]'hp).toNat : Int) != 47) = false) (hl : 4096 ≤ s.size) :
    Calls Try.prog 6 #[.string s] w fun e w' => e = .returned (.bool true) ∧ Below w.heap.size w w' := by
  have hd := hide (decide_eq_true (show s.size ≤ 1048576 from hs))
  have H := hide h
  have H1 : Hid (∀ wx, Calls Try.prog 20 #[.string s] wx fun e w' => e = .returned (.iface 40 (.int .u64 36)) ∧ w' = wx) := fun wx => checkName_long s wx h hl (by omega)
  have hne : ((s.size : Int) == 0) = false := by rw [beq_eq_false_iff_ne]; omega
  clear h
  go_enter Try.func6, Try.ntmps6
  go_wp2_with fail
  refine (bytes1_any s _ (by unfold maxLen; omega)).mono ?_
  rintro e w1 ⟨rfl, hw1⟩
  have hw2 := hw1.symm
  subst hw2
  clear hw1
  rw [unhide hd]
  go_wp2_with fail
  refine (unhide H1 _).mono ?_
  rintro e w1 ⟨rfl, hw1⟩
  have hw2 := hw1.symm
  subst hw2
  clear hw1
  go_wp2_with fail
  refine (nul_any s _ (by unfold maxLen; omega)).mono ?_
  rintro e w1 ⟨rfl, hw1⟩
  have hw2 := hw1.symm
  subst hw2
  clear hw1
  rw [unhide H]
  go_wp2
  go_ret
  exact ⟨rfl, Below.refl _ _⟩

set_option maxRecDepth 100000 in
set_option maxHeartbeats 1600000 in
theorem walk_okS (s : ByteArray) (w : World) (hs : s.size ≤ 1048576) (h : has 0 s.data.toList = false) (hp : 0 < s.size) (hf : (((s[0]'hp).toNat : Int) != 47) = false) (hl : s.size < 4096) :
    Calls Try.prog 6 #[.string s] w fun e w' => e = .returned (.bool true) ∧ Below w.heap.size w w' := by
  have hd := hide (decide_eq_true (show s.size ≤ 1048576 from hs))
  have H := hide h
  have H1 : Hid (∀ wx, Calls Try.prog 20 #[.string s] wx fun e w' => e = .returned (.nilIface) ∧ w' = wx) := fun wx => okS s wx h hp hf hl
  have hne : ((s.size : Int) == 0) = false := by rw [beq_eq_false_iff_ne]; omega
  have hdl : decide ((s.size : Int) < 4096) = true := decide_eq_true (by omega)
  clear h
  go_enter Try.func6, Try.ntmps6
  go_wp2_with fail
  refine (bytes1_any s _ (by unfold maxLen; omega)).mono ?_
  rintro e w1 ⟨rfl, hw1⟩
  have hw2 := hw1.symm
  subst hw2
  clear hw1
  rw [unhide hd]
  go_wp2_with fail
  refine (unhide H1 _).mono ?_
  rintro e w1 ⟨rfl, hw1⟩
  have hw2 := hw1.symm
  subst hw2
  clear hw1
  go_wp2_with fail
  refine (nul_any s _ (by unfold maxLen; omega)).mono ?_
  rintro e w1 ⟨rfl, hw1⟩
  have hw2 := hw1.symm
  subst hw2
  clear hw1
  rw [unhide H]
  go_wp2
  go_ret
  exact ⟨rfl, Below.refl _ _⟩

set_option maxRecDepth 100000 in
set_option maxHeartbeats 1600000 in
theorem walk_longN (s : ByteArray) (w : World) (hs : s.size ≤ 1048576) (h : has 0 s.data.toList = false) (hp : 0 < s.size) (hf : (((s[0]'hp).toNat : Int) != 47) = true) (hl : 4095 ≤ s.size) :
    Calls Try.prog 6 #[.string s] w fun e w' => e = .returned (.bool true) ∧ Below w.heap.size w w' := by
  have hd := hide (decide_eq_true (show s.size ≤ 1048576 from hs))
  have H := hide h
  have H1 : Hid (∀ wx, Calls Try.prog 20 #[.string s] wx fun e w' => e = .returned (.iface 40 (.int .u64 36)) ∧ w' = wx) := fun wx => longN s wx h hp hf hl hs
  have H2 : Hid (∀ wx, Calls Try.prog 20 #[.string ((⟨#[47]⟩ : ByteArray) ++ s)] wx fun e w' => e = .returned (.iface 40 (.int .u64 36)) ∧ w' = wx) := fun wx => checkName_long (rooted s) wx (by rw [rooted_has]; exact h) (by rw [rooted_size]; omega) (by rw [rooted_size]; omega)
  have hne : ((s.size : Int) == 0) = false := by rw [beq_eq_false_iff_ne]; omega
  clear h
  go_enter Try.func6, Try.ntmps6
  go_wp2_with fail
  refine (bytes1_any s _ (by unfold maxLen; omega)).mono ?_
  rintro e w1 ⟨rfl, hw1⟩
  have hw2 := hw1.symm
  subst hw2
  clear hw1
  rw [unhide hd]
  go_wp2_with fail
  refine (unhide H1 _).mono ?_
  rintro e w1 ⟨rfl, hw1⟩
  have hw2 := hw1.symm
  subst hw2
  clear hw1
  go_wp2_with fail
  refine (nul_any s _ (by unfold maxLen; omega)).mono ?_
  rintro e w1 ⟨rfl, hw1⟩
  have hw2 := hw1.symm
  subst hw2
  clear hw1
  rw [unhide H]
  go_wp2
  go_quiet ((go_at_call 20; exact Calls.quiet_of_same (unhide H2 _)))
  go_wp2
  go_ret
  exact ⟨rfl, drew_below rfl⟩

set_option maxRecDepth 100000 in
set_option maxHeartbeats 1600000 in
theorem walk_okN (s : ByteArray) (w : World) (hs : s.size ≤ 1048576) (h : has 0 s.data.toList = false) (hp : 0 < s.size) (hf : (((s[0]'hp).toNat : Int) != 47) = true) (hl : s.size < 4095) :
    Calls Try.prog 6 #[.string s] w fun e w' => e = .returned (.bool true) ∧ Below w.heap.size w w' := by
  have hd := hide (decide_eq_true (show s.size ≤ 1048576 from hs))
  have H := hide h
  have H1 : Hid (∀ wx, Calls Try.prog 20 #[.string s] wx fun e w' => e = .returned (.nilIface) ∧ w' = wx) := fun wx => checkName_short s wx h hl
  have H2 : Hid (∀ wx, Calls Try.prog 20 #[.string ((⟨#[47]⟩ : ByteArray) ++ s)] wx fun e w' => e = .returned (.nilIface) ∧ w' = wx) := fun wx => checkRooted_ok s wx h hl
  have hne : ((s.size : Int) == 0) = false := by rw [beq_eq_false_iff_ne]; omega
  have hdl : decide ((s.size : Int) + 1 < 4096) = true := decide_eq_true (by omega)
  clear h
  go_enter Try.func6, Try.ntmps6
  go_wp2_with fail
  refine (bytes1_any s _ (by unfold maxLen; omega)).mono ?_
  rintro e w1 ⟨rfl, hw1⟩
  have hw2 := hw1.symm
  subst hw2
  clear hw1
  rw [unhide hd]
  go_wp2_with fail
  refine (unhide H1 _).mono ?_
  rintro e w1 ⟨rfl, hw1⟩
  have hw2 := hw1.symm
  subst hw2
  clear hw1
  go_wp2_with fail
  refine (nul_any s _ (by unfold maxLen; omega)).mono ?_
  rintro e w1 ⟨rfl, hw1⟩
  have hw2 := hw1.symm
  subst hw2
  clear hw1
  rw [unhide H]
  go_wp2
  go_quiet ((go_at_call 20; exact Calls.quiet_of_same (unhide H2 _)))
  go_wp2
  go_ret
  exact ⟨rfl, drew_below rfl⟩

set_option maxRecDepth 100000 in
set_option maxHeartbeats 1600000 in
theorem walk_okE (s : ByteArray) (w : World) (hs : s.size ≤ 1048576) (h : has 0 s.data.toList = false) (hz : s.size = 0) :
    Calls Try.prog 6 #[.string s] w fun e w' => e = .returned (.bool true) ∧ Below w.heap.size w w' := by
  have hd := hide (decide_eq_true (show s.size ≤ 1048576 from hs))
  have H := hide h
  have H1 : Hid (∀ wx, Calls Try.prog 20 #[.string s] wx fun e w' => e = .returned (.nilIface) ∧ w' = wx) := fun wx => checkName_short s wx h (by omega)
  have H2 : Hid (∀ wx, Calls Try.prog 20 #[.string ((⟨#[47]⟩ : ByteArray) ++ s)] wx fun e w' => e = .returned (.nilIface) ∧ w' = wx) := fun wx => checkRooted_ok s wx h (by omega)
  clear h
  go_enter Try.func6, Try.ntmps6
  go_wp2_with fail
  refine (bytes1_any s _ (by unfold maxLen; omega)).mono ?_
  rintro e w1 ⟨rfl, hw1⟩
  have hw2 := hw1.symm
  subst hw2
  clear hw1
  rw [unhide hd]
  go_wp2_with fail
  refine (unhide H1 _).mono ?_
  rintro e w1 ⟨rfl, hw1⟩
  have hw2 := hw1.symm
  subst hw2
  clear hw1
  go_wp2_with fail
  refine (nul_any s _ (by unfold maxLen; omega)).mono ?_
  rintro e w1 ⟨rfl, hw1⟩
  have hw2 := hw1.symm
  subst hw2
  clear hw1
  rw [unhide H]
  go_wp2
  go_quiet ((go_at_call 20; exact Calls.quiet_of_same (unhide H2 _)))
  go_wp2
  go_ret
  exact ⟨rfl, drew_below rfl⟩

theorem walk (a0 : ByteArray) (w0 : a0.size ≤ maxLen) (w : World) :
    Calls Try.prog 6 #[.string a0] w fun e w' => e = .returned (.bool true) ∧ Below w.heap.size w w' := by
  by_cases hs : a0.size ≤ 1048576
  · by_cases hz : a0.size = 0
    · have h : has 0 a0.data.toList = false := by
        have : a0.data.toList = [] := List.eq_nil_of_length_eq_zero (by rw [← Lib.size_eq]; exact hz)
        rw [this]; rfl
      exact walk_okE a0 w hs h hz
    · have hp : 0 < a0.size := by omega
      cases h : has 0 a0.data.toList <;> cases hf : (((a0[0]'hp).toNat : Int) != 47)
      · by_cases hl : 4096 ≤ a0.size
        · exact walk_longS a0 w hs h hp hf hl
        · exact walk_okS a0 w hs h hp hf (by omega)
      · by_cases hl : 4095 ≤ a0.size
        · exact walk_longN a0 w hs h hp hf hl
        · exact walk_okN a0 w hs h hp hf (by omega)
      · exact walk_nulS a0 w hs h hp hf
      · exact walk_nulN a0 w hs h hp hf
  · have hb := hide (bytes1_any a0 w w0)
    have hd := hide (decide_eq_false hs)
    go_enter Try.func6, Try.ntmps6
    go_wp2_with fail
    refine (unhide hb).mono ?_
    rintro e w' ⟨rfl, rfl⟩
    rw [unhide hd]
    go_wp2
    go_ret
    exact ⟨rfl, Below.refl _ _⟩
end Go.Proofs.Qxb6002464a.fnCheckNameRefusesExactly
