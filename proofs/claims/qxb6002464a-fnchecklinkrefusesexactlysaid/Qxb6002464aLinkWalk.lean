import Derived.Test.Qxb6002464aLink
namespace Go.Proofs.Qxb6002464a.fnCheckLinkRefusesExactly
open Go.ChangeShapes Go.WideShapes Go.ChangeAt Go.RowKit
set_option linter.unusedVariables false
set_option linter.unusedSimpArgs false

theorem drew_below {w w' : World} {n : Nat} (h : w' = w.drewN n) : Below w.heap.size w w' := by subst h; exact ⟨rfl, rfl, rfl, Nat.le_refl _, fun _ _ => rfl⟩
theorem empty_iff (t : ByteArray) : t.toList.isEmpty = decide (t.size = 0) := by
  rw [Lib.toList_data, Lib.size_eq]
  cases t.data.toList <;> simp
theorem okS (s : ByteArray) (wx : World) (h : has 0 s.data.toList = false) (hp : 0 < s.size) (hf : (((s[0]'hp).toNat : Int) == 47) = true) (hl : s.size < 4096) :
    Calls Try.prog 20 #[.string s] wx fun e w' => e = .returned .nilIface ∧ w' = wx := by
  by_cases he : s.size = 4095
  · exact checkName_slash s wx h he (by unfold bne; rw [hf]; rfl)
  · exact checkName_short s wx h (by omega)

set_option maxRecDepth 100000 in
set_option maxHeartbeats 1600000 in
theorem walk_1S0 (t n : ByteArray) (w : World) (hs : t.size + n.size ≤ 1048576) (ht : has 0 t.data.toList = true) (hn : has 0 n.data.toList = false) (hp : 0 < t.size) (hf : (((t[0]'hp).toNat : Int) == 47) = true) :
    Calls Try.prog 7 #[.string t, .string n] w fun e w' => e = .returned (.bool true) ∧ Below w.heap.size w w' := by
  have hd := hide (decide_eq_true (show t.size + n.size ≤ 1048576 from hs))
  have HT := hide ht
  have HN := hide hn
  have hE : t.toList.isEmpty = false := by rw [empty_iff]; exact decide_eq_false (by omega)
  have H1 : Hid (Calls Try.prog 23 #[.string t, .string n] w fun e w' => e = .returned (.iface 40 (.int .u64 22)) ∧ Below w.heap.size w w') := checkLink_nul t n w (nulOf_left ht)
  have H2 : Hid (∀ wx, Calls Try.prog 20 #[.string t] wx fun e w' => e = .returned (.iface 40 (.int .u64 22)) ∧ w' = wx) := fun wx => checkName_nul t wx ht
  clear ht hn
  go_enter Try.func7, Try.ntmps7
  go_wp2_with fail
  refine (bytes2_any t n _ (by unfold maxLen; omega) (by unfold maxLen; omega)).mono ?_
  rintro e w1 ⟨rfl, hw1⟩
  have hw2 := hw1.symm
  subst hw2
  clear hw1
  rw [unhide hd]
  go_wp2_with fail
  refine (unhide H1).mono ?_
  rintro e w1 ⟨rfl, hb1⟩
  go_wp2_with fail
  refine (nul_any t _ (by unfold maxLen; omega)).mono ?_
  rintro e w1 ⟨rfl, hw1⟩
  have hw2 := hw1.symm
  subst hw2
  clear hw1
  rw [unhide HT]
  go_wp2_with fail
  refine (nul_any n _ (by unfold maxLen; omega)).mono ?_
  rintro e w1 ⟨rfl, hw1⟩
  have hw2 := hw1.symm
  subst hw2
  clear hw1
  rw [unhide HN]
  go_wp2
  go_quiet ((go_at_call 20; exact Calls.quiet_of_same (unhide H2 _)))
  go_wp2
  go_ret
  exact ⟨rfl, hb1.trans ((drew_below rfl).mono hb1.size)⟩

set_option maxRecDepth 100000 in
set_option maxHeartbeats 1600000 in
theorem walk_1S1 (t n : ByteArray) (w : World) (hs : t.size + n.size ≤ 1048576) (ht : has 0 t.data.toList = true) (hn : has 0 n.data.toList = true) (hp : 0 < t.size) (hf : (((t[0]'hp).toNat : Int) == 47) = true) :
    Calls Try.prog 7 #[.string t, .string n] w fun e w' => e = .returned (.bool true) ∧ Below w.heap.size w w' := by
  have hd := hide (decide_eq_true (show t.size + n.size ≤ 1048576 from hs))
  have HT := hide ht
  have HN := hide hn
  have hE : t.toList.isEmpty = false := by rw [empty_iff]; exact decide_eq_false (by omega)
  have H1 : Hid (Calls Try.prog 23 #[.string t, .string n] w fun e w' => e = .returned (.iface 40 (.int .u64 22)) ∧ Below w.heap.size w w') := checkLink_nul t n w (nulOf_left ht)
  clear ht hn
  go_enter Try.func7, Try.ntmps7
  go_wp2_with fail
  refine (bytes2_any t n _ (by unfold maxLen; omega) (by unfold maxLen; omega)).mono ?_
  rintro e w1 ⟨rfl, hw1⟩
  have hw2 := hw1.symm
  subst hw2
  clear hw1
  rw [unhide hd]
  go_wp2_with fail
  refine (unhide H1).mono ?_
  rintro e w1 ⟨rfl, hb1⟩
  go_wp2_with fail
  refine (nul_any t _ (by unfold maxLen; omega)).mono ?_
  rintro e w1 ⟨rfl, hw1⟩
  have hw2 := hw1.symm
  subst hw2
  clear hw1
  rw [unhide HT]
  go_wp2_with fail
  refine (nul_any n _ (by unfold maxLen; omega)).mono ?_
  rintro e w1 ⟨rfl, hw1⟩
  have hw2 := hw1.symm
  subst hw2
  clear hw1
  rw [unhide HN]
  go_wp2
  go_ret
  exact ⟨rfl, hb1⟩

set_option maxRecDepth 100000 in
set_option maxHeartbeats 1600000 in
theorem walk_1N0 (t n : ByteArray) (w : World) (hs : t.size + n.size ≤ 1048576) (ht : has 0 t.data.toList = true) (hn : has 0 n.data.toList = false) (hp : 0 < t.size) (hf : (((t[0]'hp).toNat : Int) == 47) = false) :
    Calls Try.prog 7 #[.string t, .string n] w fun e w' => e = .returned (.bool true) ∧ Below w.heap.size w w' := by
  have hd := hide (decide_eq_true (show t.size + n.size ≤ 1048576 from hs))
  have HT := hide ht
  have HN := hide hn
  have hE : t.toList.isEmpty = false := by rw [empty_iff]; exact decide_eq_false (by omega)
  have H1 : Hid (Calls Try.prog 23 #[.string t, .string n] w fun e w' => e = .returned (.iface 40 (.int .u64 22)) ∧ Below w.heap.size w w') := checkLink_nul t n w (nulOf_left ht)
  clear ht hn
  go_enter Try.func7, Try.ntmps7
  go_wp2_with fail
  refine (bytes2_any t n _ (by unfold maxLen; omega) (by unfold maxLen; omega)).mono ?_
  rintro e w1 ⟨rfl, hw1⟩
  have hw2 := hw1.symm
  subst hw2
  clear hw1
  rw [unhide hd]
  go_wp2_with fail
  refine (unhide H1).mono ?_
  rintro e w1 ⟨rfl, hb1⟩
  go_wp2_with fail
  refine (nul_any t _ (by unfold maxLen; omega)).mono ?_
  rintro e w1 ⟨rfl, hw1⟩
  have hw2 := hw1.symm
  subst hw2
  clear hw1
  rw [unhide HT]
  go_wp2
  go_ret
  exact ⟨rfl, hb1⟩

set_option maxRecDepth 100000 in
set_option maxHeartbeats 1600000 in
theorem walk_1N1 (t n : ByteArray) (w : World) (hs : t.size + n.size ≤ 1048576) (ht : has 0 t.data.toList = true) (hn : has 0 n.data.toList = true) (hp : 0 < t.size) (hf : (((t[0]'hp).toNat : Int) == 47) = false) :
    Calls Try.prog 7 #[.string t, .string n] w fun e w' => e = .returned (.bool true) ∧ Below w.heap.size w w' := by
  have hd := hide (decide_eq_true (show t.size + n.size ≤ 1048576 from hs))
  have HT := hide ht
  have HN := hide hn
  have hE : t.toList.isEmpty = false := by rw [empty_iff]; exact decide_eq_false (by omega)
  have H1 : Hid (Calls Try.prog 23 #[.string t, .string n] w fun e w' => e = .returned (.iface 40 (.int .u64 22)) ∧ Below w.heap.size w w') := checkLink_nul t n w (nulOf_left ht)
  clear ht hn
  go_enter Try.func7, Try.ntmps7
  go_wp2_with fail
  refine (bytes2_any t n _ (by unfold maxLen; omega) (by unfold maxLen; omega)).mono ?_
  rintro e w1 ⟨rfl, hw1⟩
  have hw2 := hw1.symm
  subst hw2
  clear hw1
  rw [unhide hd]
  go_wp2_with fail
  refine (unhide H1).mono ?_
  rintro e w1 ⟨rfl, hb1⟩
  go_wp2_with fail
  refine (nul_any t _ (by unfold maxLen; omega)).mono ?_
  rintro e w1 ⟨rfl, hw1⟩
  have hw2 := hw1.symm
  subst hw2
  clear hw1
  rw [unhide HT]
  go_wp2
  go_ret
  exact ⟨rfl, hb1⟩

set_option maxRecDepth 100000 in
set_option maxHeartbeats 1600000 in
theorem walk_2E (t n : ByteArray) (w : World) (hs : t.size + n.size ≤ 1048576) (ht : has 0 t.data.toList = false) (hn : has 0 n.data.toList = true) (hz : t.size = 0) :
    Calls Try.prog 7 #[.string t, .string n] w fun e w' => e = .returned (.bool true) ∧ Below w.heap.size w w' := by
  have hd := hide (decide_eq_true (show t.size + n.size ≤ 1048576 from hs))
  have HT := hide ht
  have HN := hide hn
  have hE : t.toList.isEmpty = true := by rw [empty_iff]; exact decide_eq_true hz
  have H1 : Hid (Calls Try.prog 23 #[.string t, .string n] w fun e w' => e = .returned (.iface 40 (.int .u64 22)) ∧ Below w.heap.size w w') := checkLink_nul t n w (nulOf_right hn)
  clear ht hn
  go_enter Try.func7, Try.ntmps7
  go_wp2_with fail
  refine (bytes2_any t n _ (by unfold maxLen; omega) (by unfold maxLen; omega)).mono ?_
  rintro e w1 ⟨rfl, hw1⟩
  have hw2 := hw1.symm
  subst hw2
  clear hw1
  rw [unhide hd]
  go_wp2_with fail
  refine (unhide H1).mono ?_
  rintro e w1 ⟨rfl, hb1⟩
  go_wp2_with fail
  refine (nul_any t _ (by unfold maxLen; omega)).mono ?_
  rintro e w1 ⟨rfl, hw1⟩
  have hw2 := hw1.symm
  subst hw2
  clear hw1
  rw [unhide HT]
  go_wp2_with fail
  refine (nul_any n _ (by unfold maxLen; omega)).mono ?_
  rintro e w1 ⟨rfl, hw1⟩
  have hw2 := hw1.symm
  subst hw2
  clear hw1
  rw [unhide HN]
  go_wp2
  go_ret
  exact ⟨rfl, hb1⟩

set_option maxRecDepth 100000 in
set_option maxHeartbeats 1600000 in
theorem walk_2S (t n : ByteArray) (w : World) (hs : t.size + n.size ≤ 1048576) (ht : has 0 t.data.toList = false) (hn : has 0 n.data.toList = true) (hp : 0 < t.size) (hf : (((t[0]'hp).toNat : Int) == 47) = true) :
    Calls Try.prog 7 #[.string t, .string n] w fun e w' => e = .returned (.bool true) ∧ Below w.heap.size w w' := by
  have hd := hide (decide_eq_true (show t.size + n.size ≤ 1048576 from hs))
  have HT := hide ht
  have HN := hide hn
  have hE : t.toList.isEmpty = false := by rw [empty_iff]; exact decide_eq_false (by omega)
  have H1 : Hid (Calls Try.prog 23 #[.string t, .string n] w fun e w' => e = .returned (.iface 40 (.int .u64 22)) ∧ Below w.heap.size w w') := checkLink_nul t n w (nulOf_right hn)
  clear ht hn
  go_enter Try.func7, Try.ntmps7
  go_wp2_with fail
  refine (bytes2_any t n _ (by unfold maxLen; omega) (by unfold maxLen; omega)).mono ?_
  rintro e w1 ⟨rfl, hw1⟩
  have hw2 := hw1.symm
  subst hw2
  clear hw1
  rw [unhide hd]
  go_wp2_with fail
  refine (unhide H1).mono ?_
  rintro e w1 ⟨rfl, hb1⟩
  go_wp2_with fail
  refine (nul_any t _ (by unfold maxLen; omega)).mono ?_
  rintro e w1 ⟨rfl, hw1⟩
  have hw2 := hw1.symm
  subst hw2
  clear hw1
  rw [unhide HT]
  go_wp2_with fail
  refine (nul_any n _ (by unfold maxLen; omega)).mono ?_
  rintro e w1 ⟨rfl, hw1⟩
  have hw2 := hw1.symm
  subst hw2
  clear hw1
  rw [unhide HN]
  go_wp2_with fail
  refine (nul_any n _ (by unfold maxLen; omega)).mono ?_
  rintro e w1 ⟨rfl, hw1⟩
  have hw2 := hw1.symm
  subst hw2
  clear hw1
  rw [unhide HN]
  go_wp2
  go_ret
  exact ⟨rfl, hb1⟩

set_option maxRecDepth 100000 in
set_option maxHeartbeats 1600000 in
theorem walk_2N (t n : ByteArray) (w : World) (hs : t.size + n.size ≤ 1048576) (ht : has 0 t.data.toList = false) (hn : has 0 n.data.toList = true) (hp : 0 < t.size) (hf : (((t[0]'hp).toNat : Int) == 47) = false) :
    Calls Try.prog 7 #[.string t, .string n] w fun e w' => e = .returned (.bool true) ∧ Below w.heap.size w w' := by
  have hd := hide (decide_eq_true (show t.size + n.size ≤ 1048576 from hs))
  have HT := hide ht
  have HN := hide hn
  have hE : t.toList.isEmpty = false := by rw [empty_iff]; exact decide_eq_false (by omega)
  have H1 : Hid (Calls Try.prog 23 #[.string t, .string n] w fun e w' => e = .returned (.iface 40 (.int .u64 22)) ∧ Below w.heap.size w w') := checkLink_nul t n w (nulOf_right hn)
  clear ht hn
  go_enter Try.func7, Try.ntmps7
  go_wp2_with fail
  refine (bytes2_any t n _ (by unfold maxLen; omega) (by unfold maxLen; omega)).mono ?_
  rintro e w1 ⟨rfl, hw1⟩
  have hw2 := hw1.symm
  subst hw2
  clear hw1
  rw [unhide hd]
  go_wp2_with fail
  refine (unhide H1).mono ?_
  rintro e w1 ⟨rfl, hb1⟩
  go_wp2_with fail
  refine (nul_any t _ (by unfold maxLen; omega)).mono ?_
  rintro e w1 ⟨rfl, hw1⟩
  have hw2 := hw1.symm
  subst hw2
  clear hw1
  rw [unhide HT]
  go_wp2_with fail
  refine (nul_any n _ (by unfold maxLen; omega)).mono ?_
  rintro e w1 ⟨rfl, hw1⟩
  have hw2 := hw1.symm
  subst hw2
  clear hw1
  rw [unhide HN]
  go_wp2
  go_ret
  exact ⟨rfl, hb1⟩

set_option maxRecDepth 100000 in
set_option maxHeartbeats 1600000 in
theorem walk_3E (t n : ByteArray) (w : World) (hs : t.size + n.size ≤ 1048576) (ht : has 0 t.data.toList = false) (hn : has 0 n.data.toList = false) (hz : t.size = 0) :
    Calls Try.prog 7 #[.string t, .string n] w fun e w' => e = .returned (.bool true) ∧ Below w.heap.size w w' := by
  have hd := hide (decide_eq_true (show t.size + n.size ≤ 1048576 from hs))
  have HT := hide ht
  have HN := hide hn
  have hE : t.toList.isEmpty = true := by rw [empty_iff]; exact decide_eq_true hz
  have H1 : Hid (Calls Try.prog 23 #[.string t, .string n] w fun e w' => e = .returned (.iface 40 (.int .u64 2)) ∧ Below w.heap.size w w') := checkLink_empty t n w (nulOf_none ht hn) hE
  clear ht hn
  go_enter Try.func7, Try.ntmps7
  go_wp2_with fail
  refine (bytes2_any t n _ (by unfold maxLen; omega) (by unfold maxLen; omega)).mono ?_
  rintro e w1 ⟨rfl, hw1⟩
  have hw2 := hw1.symm
  subst hw2
  clear hw1
  rw [unhide hd]
  go_wp2_with fail
  refine (unhide H1).mono ?_
  rintro e w1 ⟨rfl, hb1⟩
  go_wp2_with fail
  refine (nul_any t _ (by unfold maxLen; omega)).mono ?_
  rintro e w1 ⟨rfl, hw1⟩
  have hw2 := hw1.symm
  subst hw2
  clear hw1
  rw [unhide HT]
  go_wp2_with fail
  refine (nul_any n _ (by unfold maxLen; omega)).mono ?_
  rintro e w1 ⟨rfl, hw1⟩
  have hw2 := hw1.symm
  subst hw2
  clear hw1
  rw [unhide HN]
  go_wp2
  go_ret
  exact ⟨rfl, hb1⟩

set_option maxRecDepth 100000 in
set_option maxHeartbeats 1600000 in
theorem walk_3Sl (t n : ByteArray) (w : World) (hs : t.size + n.size ≤ 1048576) (ht : has 0 t.data.toList = false) (hn : has 0 n.data.toList = false) (hp : 0 < t.size) (hf : (((t[0]'hp).toNat : Int) == 47) = true) (hl : 4096 ≤ t.size) :
    Calls Try.prog 7 #[.string t, .string n] w fun e w' => e = .returned (.bool true) ∧ Below w.heap.size w w' := by
  have hd := hide (decide_eq_true (show t.size + n.size ≤ 1048576 from hs))
  have HT := hide ht
  have HN := hide hn
  have hE : t.toList.isEmpty = false := by rw [empty_iff]; exact decide_eq_false (by omega)
  have hdl : decide ((t.size : Int) < 4096) = false := decide_eq_false (by omega)
  have H1 : Hid (Calls Try.prog 23 #[.string t, .string n] w fun e w' => e = .returned (.iface 40 (.int .u64 36)) ∧ Below w.heap.size w w') := checkLink_long t n w (nulOf_none ht hn) hE hl (by omega)
  have H2 : Hid (∀ wx, Calls Try.prog 20 #[.string t] wx fun e w' => e = .returned (.iface 40 (.int .u64 36)) ∧ w' = wx) := fun wx => checkName_long t wx ht hl (by omega)
  clear ht hn
  go_enter Try.func7, Try.ntmps7
  go_wp2_with fail
  refine (bytes2_any t n _ (by unfold maxLen; omega) (by unfold maxLen; omega)).mono ?_
  rintro e w1 ⟨rfl, hw1⟩
  have hw2 := hw1.symm
  subst hw2
  clear hw1
  rw [unhide hd]
  go_wp2_with fail
  refine (unhide H1).mono ?_
  rintro e w1 ⟨rfl, hb1⟩
  go_wp2_with fail
  refine (nul_any t _ (by unfold maxLen; omega)).mono ?_
  rintro e w1 ⟨rfl, hw1⟩
  have hw2 := hw1.symm
  subst hw2
  clear hw1
  rw [unhide HT]
  go_wp2_with fail
  refine (nul_any n _ (by unfold maxLen; omega)).mono ?_
  rintro e w1 ⟨rfl, hw1⟩
  have hw2 := hw1.symm
  subst hw2
  clear hw1
  rw [unhide HN]
  go_wp2_with fail
  refine (nul_any n _ (by unfold maxLen; omega)).mono ?_
  rintro e w1 ⟨rfl, hw1⟩
  have hw2 := hw1.symm
  subst hw2
  clear hw1
  rw [unhide HN]
  go_wp2
  go_quiet ((go_at_call 20; exact Calls.quiet_of_same (unhide H2 _)))
  go_wp2
  go_ret
  exact ⟨rfl, hb1.trans ((drew_below rfl).mono hb1.size)⟩

set_option maxRecDepth 100000 in
set_option maxHeartbeats 1600000 in
theorem walk_3Sk (t n : ByteArray) (w : World) (hs : t.size + n.size ≤ 1048576) (ht : has 0 t.data.toList = false) (hn : has 0 n.data.toList = false) (hp : 0 < t.size) (hf : (((t[0]'hp).toNat : Int) == 47) = true) (hl : t.size < 4096) :
    Calls Try.prog 7 #[.string t, .string n] w fun e w' => e = .returned (.bool true) ∧ Below w.heap.size w w' := by
  have hd := hide (decide_eq_true (show t.size + n.size ≤ 1048576 from hs))
  have HT := hide ht
  have HN := hide hn
  have hE : t.toList.isEmpty = false := by rw [empty_iff]; exact decide_eq_false (by omega)
  have hdl : decide ((t.size : Int) < 4096) = true := decide_eq_true (by omega)
  have H1 : Hid (Calls Try.prog 23 #[.string t, .string n] w fun e w' => e = .returned (.nilIface) ∧ Below w.heap.size w w') := checkLink_ok t n w (nulOf_none ht hn) hE hl
  have H2 : Hid (∀ wx, Calls Try.prog 20 #[.string t] wx fun e w' => e = .returned (.nilIface) ∧ w' = wx) := fun wx => okS t wx ht hp hf hl
  clear ht hn
  go_enter Try.func7, Try.ntmps7
  go_wp2_with fail
  refine (bytes2_any t n _ (by unfold maxLen; omega) (by unfold maxLen; omega)).mono ?_
  rintro e w1 ⟨rfl, hw1⟩
  have hw2 := hw1.symm
  subst hw2
  clear hw1
  rw [unhide hd]
  go_wp2_with fail
  refine (unhide H1).mono ?_
  rintro e w1 ⟨rfl, hb1⟩
  go_wp2_with fail
  refine (nul_any t _ (by unfold maxLen; omega)).mono ?_
  rintro e w1 ⟨rfl, hw1⟩
  have hw2 := hw1.symm
  subst hw2
  clear hw1
  rw [unhide HT]
  go_wp2_with fail
  refine (nul_any n _ (by unfold maxLen; omega)).mono ?_
  rintro e w1 ⟨rfl, hw1⟩
  have hw2 := hw1.symm
  subst hw2
  clear hw1
  rw [unhide HN]
  go_wp2_with fail
  refine (nul_any n _ (by unfold maxLen; omega)).mono ?_
  rintro e w1 ⟨rfl, hw1⟩
  have hw2 := hw1.symm
  subst hw2
  clear hw1
  rw [unhide HN]
  go_wp2
  go_quiet ((go_at_call 20; exact Calls.quiet_of_same (unhide H2 _)))
  go_wp2
  go_ret
  exact ⟨rfl, hb1.trans ((drew_below rfl).mono hb1.size)⟩

set_option maxRecDepth 100000 in
set_option maxHeartbeats 1600000 in
theorem walk_3Nl (t n : ByteArray) (w : World) (hs : t.size + n.size ≤ 1048576) (ht : has 0 t.data.toList = false) (hn : has 0 n.data.toList = false) (hp : 0 < t.size) (hf : (((t[0]'hp).toNat : Int) == 47) = false) (hl : 4096 ≤ t.size) :
    Calls Try.prog 7 #[.string t, .string n] w fun e w' => e = .returned (.bool true) ∧ Below w.heap.size w w' := by
  have hd := hide (decide_eq_true (show t.size + n.size ≤ 1048576 from hs))
  have HT := hide ht
  have HN := hide hn
  have hE : t.toList.isEmpty = false := by rw [empty_iff]; exact decide_eq_false (by omega)
  have hdl : decide ((t.size : Int) < 4096) = false := decide_eq_false (by omega)
  have H1 : Hid (Calls Try.prog 23 #[.string t, .string n] w fun e w' => e = .returned (.iface 40 (.int .u64 36)) ∧ Below w.heap.size w w') := checkLink_long t n w (nulOf_none ht hn) hE hl (by omega)
  clear ht hn
  go_enter Try.func7, Try.ntmps7
  go_wp2_with fail
  refine (bytes2_any t n _ (by unfold maxLen; omega) (by unfold maxLen; omega)).mono ?_
  rintro e w1 ⟨rfl, hw1⟩
  have hw2 := hw1.symm
  subst hw2
  clear hw1
  rw [unhide hd]
  go_wp2_with fail
  refine (unhide H1).mono ?_
  rintro e w1 ⟨rfl, hb1⟩
  go_wp2_with fail
  refine (nul_any t _ (by unfold maxLen; omega)).mono ?_
  rintro e w1 ⟨rfl, hw1⟩
  have hw2 := hw1.symm
  subst hw2
  clear hw1
  rw [unhide HT]
  go_wp2_with fail
  refine (nul_any n _ (by unfold maxLen; omega)).mono ?_
  rintro e w1 ⟨rfl, hw1⟩
  have hw2 := hw1.symm
  subst hw2
  clear hw1
  rw [unhide HN]
  go_wp2
  go_ret
  exact ⟨rfl, hb1⟩

set_option maxRecDepth 100000 in
set_option maxHeartbeats 1600000 in
theorem walk_3Nk (t n : ByteArray) (w : World) (hs : t.size + n.size ≤ 1048576) (ht : has 0 t.data.toList = false) (hn : has 0 n.data.toList = false) (hp : 0 < t.size) (hf : (((t[0]'hp).toNat : Int) == 47) = false) (hl : t.size < 4096) :
    Calls Try.prog 7 #[.string t, .string n] w fun e w' => e = .returned (.bool true) ∧ Below w.heap.size w w' := by
  have hd := hide (decide_eq_true (show t.size + n.size ≤ 1048576 from hs))
  have HT := hide ht
  have HN := hide hn
  have hE : t.toList.isEmpty = false := by rw [empty_iff]; exact decide_eq_false (by omega)
  have hdl : decide ((t.size : Int) < 4096) = true := decide_eq_true (by omega)
  have H1 : Hid (Calls Try.prog 23 #[.string t, .string n] w fun e w' => e = .returned (.nilIface) ∧ Below w.heap.size w w') := checkLink_ok t n w (nulOf_none ht hn) hE hl
  clear ht hn
  go_enter Try.func7, Try.ntmps7
  go_wp2_with fail
  refine (bytes2_any t n _ (by unfold maxLen; omega) (by unfold maxLen; omega)).mono ?_
  rintro e w1 ⟨rfl, hw1⟩
  have hw2 := hw1.symm
  subst hw2
  clear hw1
  rw [unhide hd]
  go_wp2_with fail
  refine (unhide H1).mono ?_
  rintro e w1 ⟨rfl, hb1⟩
  go_wp2_with fail
  refine (nul_any t _ (by unfold maxLen; omega)).mono ?_
  rintro e w1 ⟨rfl, hw1⟩
  have hw2 := hw1.symm
  subst hw2
  clear hw1
  rw [unhide HT]
  go_wp2_with fail
  refine (nul_any n _ (by unfold maxLen; omega)).mono ?_
  rintro e w1 ⟨rfl, hw1⟩
  have hw2 := hw1.symm
  subst hw2
  clear hw1
  rw [unhide HN]
  go_wp2
  go_ret
  exact ⟨rfl, hb1⟩

theorem walk (a0 : ByteArray) (a1 : ByteArray) (w0 : a0.size ≤ maxLen) (w1 : a1.size ≤ maxLen) (w : World) :
    Calls Try.prog 7 #[.string a0, .string a1] w fun e w' => e = .returned (.bool true) ∧ Below w.heap.size w w' := by
  by_cases hs : a0.size + a1.size ≤ 1048576
  · by_cases hz : a0.size = 0
    · have h : has 0 a0.data.toList = false := by
        have : a0.data.toList = [] := List.eq_nil_of_length_eq_zero (by rw [← Lib.size_eq]; exact hz)
        rw [this]; rfl
      cases hn : has 0 a1.data.toList
      · exact walk_3E a0 a1 w hs h hn hz
      · exact walk_2E a0 a1 w hs h hn hz
    · have hp : 0 < a0.size := by omega
      cases ht : has 0 a0.data.toList <;> cases hn : has 0 a1.data.toList <;> cases hf : (((a0[0]'hp).toNat : Int) == 47)
      · by_cases hl : 4096 ≤ a0.size
        · exact walk_3Nl a0 a1 w hs ht hn hp hf hl
        · exact walk_3Nk a0 a1 w hs ht hn hp hf (by omega)
      · by_cases hl : 4096 ≤ a0.size
        · exact walk_3Sl a0 a1 w hs ht hn hp hf hl
        · exact walk_3Sk a0 a1 w hs ht hn hp hf (by omega)
      · exact walk_2N a0 a1 w hs ht hn hp hf
      · exact walk_2S a0 a1 w hs ht hn hp hf
      · exact walk_1N0 a0 a1 w hs ht hn hp hf
      · exact walk_1S0 a0 a1 w hs ht hn hp hf
      · exact walk_1N1 a0 a1 w hs ht hn hp hf
      · exact walk_1S1 a0 a1 w hs ht hn hp hf
  · have hb := hide (bytes2_any a0 a1 w w0 w1)
    have hd := hide (decide_eq_false hs)
    go_enter Try.func7, Try.ntmps7
    go_wp2_with fail
    refine (unhide hb).mono ?_
    rintro e w' ⟨rfl, rfl⟩
    rw [unhide hd]
    go_wp2
    go_ret
    exact ⟨rfl, Below.refl _ _⟩
end Go.Proofs.Qxb6002464a.fnCheckLinkRefusesExactly
