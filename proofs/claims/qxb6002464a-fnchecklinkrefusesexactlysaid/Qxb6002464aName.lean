import Derived.Test.Qxb6002464aSmall
import Derived.Deep.QuietTactic
import Derived.BigQuiet
namespace Go.Proofs.Qxb6002464a
open Go.ChangeShapes Go.WideShapes Go.ChangeAt Go.RowKit
set_option linter.unusedVariables false
set_option linter.unusedSimpArgs false

theorem checkName_nul (s : ByteArray) (w : World) (h : has 0 s.data.toList = true) :
    Calls Try.prog 20 #[.string s] w fun e w' => e = .returned (.iface 40 (.int .u64 22)) ∧ w' = w := by
  have H := hide h
  clear h
  go_enter Try.func20, Try.ntmps20
  go_wp2_with (go_at_call 29; refine (holds_any _ _).mono ?_; rintro e w' ⟨rfl, rfl⟩; rw [unhide H])
  go_ret
  exact ⟨rfl, rfl⟩

set_option maxRecDepth 100000 in
theorem checkName_long (s : ByteArray) (w : World) (h : has 0 s.data.toList = false) (hl : 4096 ≤ s.size) (hs : s.size ≤ 4294967296) :
    Calls Try.prog 20 #[.string s] w fun e w' => e = .returned (.iface 40 (.int .u64 36)) ∧ w' = w := by
  have H := hide h
  clear h
  go_enter Try.func20, Try.ntmps20
  go_wp2_with (go_at_call 29; refine (holds_any _ _).mono ?_; rintro e w' ⟨rfl, rfl⟩; rw [unhide H])
  go_ret
  exact ⟨rfl, rfl⟩

theorem checkName_edge (s : ByteArray) (w : World) (h : has 0 s.data.toList = false) (hl : s.size = 4095) (hf : ((s[0]'(by omega)).toNat : Int) != 47) :
    Calls Try.prog 20 #[.string s] w fun e w' => e = .returned (.iface 40 (.int .u64 36)) ∧ w' = w := by
  have H := hide h
  have hp : 0 < s.size := by omega
  clear h
  go_enter Try.func20, Try.ntmps20
  go_wp2_with (go_at_call 29; refine (holds_any _ _).mono ?_; rintro e w' ⟨rfl, rfl⟩; rw [unhide H])
  go_ret
  exact ⟨rfl, rfl⟩

set_option maxRecDepth 100000 in
theorem checkName_short (s : ByteArray) (w : World) (h : has 0 s.data.toList = false) (hl : s.size < 4095) :
    Calls Try.prog 20 #[.string s] w fun e w' => e = .returned .nilIface ∧ w' = w := by
  have H := hide h
  have hne : ((s.size : Int) == 4095) = false := by rw [beq_eq_false_iff_ne]; omega
  clear h
  go_enter Try.func20, Try.ntmps20
  go_wp2_with (go_at_call 29; refine (holds_any _ _).mono ?_; rintro e w' ⟨rfl, rfl⟩; rw [unhide H])
  go_ret
  exact ⟨rfl, rfl⟩

theorem checkName_slash (s : ByteArray) (w : World) (h : has 0 s.data.toList = false) (hl : s.size = 4095) (hf : (((s[0]'(by omega)).toNat : Int) != 47) = false) :
    Calls Try.prog 20 #[.string s] w fun e w' => e = .returned .nilIface ∧ w' = w := by
  have H := hide h
  have hp : 0 < s.size := by omega
  clear h
  go_enter Try.func20, Try.ntmps20
  go_wp2_with (go_at_call 29; refine (holds_any _ _).mono ?_; rintro e w' ⟨rfl, rfl⟩; rw [unhide H])
  go_ret
  exact ⟨rfl, rfl⟩

/-- The name with a slash ahead. -/
def rooted (s : ByteArray) : ByteArray := ⟨#[47]⟩ ++ s
theorem rooted_size (s : ByteArray) : (rooted s).size = s.size + 1 := by
  unfold rooted; rw [ByteArray.size_append]
  have : (⟨#[47]⟩ : ByteArray).size = 1 := rfl
  omega
theorem rooted_has (s : ByteArray) : has 0 (rooted s).data.toList = has 0 s.data.toList := by
  unfold rooted has
  have e : ((⟨#[47]⟩ : ByteArray) ++ s).data.toList = 47 :: s.data.toList := by simp
  rw [e, List.contains_cons]
  have : ((0 : UInt8) == 47) = false := by decide
  rw [this, Bool.false_or]
theorem rooted_head (s : ByteArray) (h : 0 < (rooted s).size) : ((((rooted s)[0]'h).toNat : Int) != 47) = false := by
  apply bne_hit (c := 47) rfl
  have e : (rooted s)[0]'h = (rooted s).data.toList[0]'(by rw [← Lib.size_eq]; exact h) := rfl
  rw [e]
  have e2 : (rooted s).data.toList = 47 :: s.data.toList := by unfold rooted; simp
  simp only [e2, List.getElem_cons_zero]

/-- What CheckName says of the rooted name, in one word. -/
theorem checkRooted_ok (s : ByteArray) (w : World) (h : has 0 s.data.toList = false) (hl : s.size < 4095) :
    Calls Try.prog 20 #[.string (rooted s)] w fun e w' => e = .returned .nilIface ∧ w' = w := by
  have hz := rooted_size s
  by_cases he : s.size + 1 = 4095
  · exact checkName_slash _ w (by rw [rooted_has]; exact h) (by omega) (rooted_head s _)
  · exact checkName_short _ w (by rw [rooted_has]; exact h) (by omega)

end Go.Proofs.Qxb6002464a
