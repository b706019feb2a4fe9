import Derived.Test.Qxb6001776aSplit
namespace Go.Proofs.Qxb6001776a
open Go.ChangeShapes Go.WideShapes Go.ChangeAt Go.RowKit
set_option linter.unusedVariables false
set_option linter.unusedSimpArgs false

/-- k8s.io component-base version.gitVersion -/
def key0 : ByteArray := ⟨#[107, 56, 115, 46, 105, 111, 47, 99, 111, 109, 112, 111, 110, 101, 110, 116, 45, 98, 97, 115, 101, 47, 118, 101, 114, 115, 105, 111, 110, 46, 103, 105, 116, 86, 101, 114, 115, 105, 111, 110]⟩
/-- k8s.io component-base version.gitMajor -/
def key1 : ByteArray := ⟨#[107, 56, 115, 46, 105, 111, 47, 99, 111, 109, 112, 111, 110, 101, 110, 116, 45, 98, 97, 115, 101, 47, 118, 101, 114, 115, 105, 111, 110, 46, 103, 105, 116, 77, 97, 106, 111, 114]⟩
/-- k8s.io component-base version.gitMinor -/
def key2 : ByteArray := ⟨#[107, 56, 115, 46, 105, 111, 47, 99, 111, 109, 112, 111, 110, 101, 110, 116, 45, 98, 97, 115, 101, 47, 118, 101, 114, 115, 105, 111, 110, 46, 103, 105, 116, 77, 105, 110, 111, 114]⟩
/-- k8s.io client-go pkg version.gitVersion -/
def key3 : ByteArray := ⟨#[107, 56, 115, 46, 105, 111, 47, 99, 108, 105, 101, 110, 116, 45, 103, 111, 47, 112, 107, 103, 47, 118, 101, 114, 115, 105, 111, 110, 46, 103, 105, 116, 86, 101, 114, 115, 105, 111, 110]⟩
/-- k8s.io client-go pkg version.gitMajor -/
def key4 : ByteArray := ⟨#[107, 56, 115, 46, 105, 111, 47, 99, 108, 105, 101, 110, 116, 45, 103, 111, 47, 112, 107, 103, 47, 118, 101, 114, 115, 105, 111, 110, 46, 103, 105, 116, 77, 97, 106, 111, 114]⟩
/-- k8s.io client-go pkg version.gitMinor -/
def key5 : ByteArray := ⟨#[107, 56, 115, 46, 105, 111, 47, 99, 108, 105, 101, 110, 116, 45, 103, 111, 47, 112, 107, 103, 47, 118, 101, 114, 115, 105, 111, 110, 46, 103, 105, 116, 77, 105, 110, 111, 114]⟩

theorem key0_any (w : World) : Calls Try.prog 17 #[.int .i64 0] w fun e w' => e = .returned (.string key0) ∧ w' = w := by
  go_enter Try.func17, Try.ntmps17
  go_wp2
  go_ret
  exact ⟨rfl, rfl⟩

theorem key1_any (w : World) : Calls Try.prog 17 #[.int .i64 1] w fun e w' => e = .returned (.string key1) ∧ w' = w := by
  go_enter Try.func17, Try.ntmps17
  go_wp2
  go_ret
  exact ⟨rfl, rfl⟩

theorem key2_any (w : World) : Calls Try.prog 17 #[.int .i64 2] w fun e w' => e = .returned (.string key2) ∧ w' = w := by
  go_enter Try.func17, Try.ntmps17
  go_wp2
  go_ret
  exact ⟨rfl, rfl⟩

theorem key3_any (w : World) : Calls Try.prog 17 #[.int .i64 3] w fun e w' => e = .returned (.string key3) ∧ w' = w := by
  go_enter Try.func17, Try.ntmps17
  go_wp2
  go_ret
  exact ⟨rfl, rfl⟩

theorem key4_any (w : World) : Calls Try.prog 17 #[.int .i64 4] w fun e w' => e = .returned (.string key4) ∧ w' = w := by
  go_enter Try.func17, Try.ntmps17
  go_wp2
  go_ret
  exact ⟨rfl, rfl⟩

theorem key5_any (w : World) : Calls Try.prog 17 #[.int .i64 5] w fun e w' => e = .returned (.string key5) ∧ w' = w := by
  go_enter Try.func17, Try.ntmps17
  go_wp2
  go_ret
  exact ⟨rfl, rfl⟩
end Go.Proofs.Qxb6001776a
