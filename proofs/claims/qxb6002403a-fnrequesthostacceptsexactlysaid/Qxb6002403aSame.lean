import Derived.Test.Qxb6002403aKit
import Derived.RegionTactic
import Derived.Deep.QuietTactic
import Derived.BigQuiet
namespace Go.Proofs.Qxb6002403a
open Go.ChangeShapes Go.WideShapes Go.ChangeAt Go.RowKit
set_option linter.unusedVariables false
set_option linter.unusedSimpArgs false

theorem same_none (a1 a2 : Option Addr) (c1 c2 : Nat) (w : World) :
    Calls Try.prog 10 #[.slice a1 0 c1, .slice a2 0 c2] w fun e w' => e = .returned (.bool true) ∧ Below w.heap.size w w' := by
  go_enter Try.func10, Try.ntmps10
  go_wp2
  go_loop [5] (fun i => i = .int .i64 0) (fun _ => 0)
  case atStart => rfl
  case round =>
    subst hrel
    go_wp2
    go_ret
    exact ⟨rfl, Below.refl _ _⟩

set_option maxHeartbeats 1600000 in
theorem same_some (b1 o1 c1 b2 o2 c2 : Nat) (xs : List ByteArray) (w : World) (hl : xs.length ≤ 65536)
    (hc1 : ∀ j x, xs[j]? = some x → w.cell? ⟨b1, o1 + j, none⟩ = some (.string x)) (hc2 : ∀ j x, xs[j]? = some x → w.cell? ⟨b2, o2 + j, none⟩ = some (.string x)) :
    Calls Try.prog 10 #[.slice (some ⟨b1, o1, none⟩) xs.length c1, .slice (some ⟨b2, o2, none⟩) xs.length c2] w fun e w' => e = .returned (.bool true) ∧ Below w.heap.size w w' := by
  have HC1 := hide hc1
  have HC2 := hide hc2
  clear hc1 hc2
  go_enter Try.func10, Try.ntmps10
  go_wp2
  go_loopw [5] (fun i wr => ∃ k d : Nat, k ≤ xs.length ∧ i = .int .i64 k ∧ wr = w.drewN d) (fun i _ => xs.length - (intOf i).toNat)
  case atStart => exact ⟨0, 0, Nat.zero_le _, rfl, rfl⟩
  case round =>
    obtain ⟨k, d, hk, rfl, rfl⟩ := hrel
    by_cases hlt : k < xs.length
    · obtain ⟨x, hxk⟩ : ∃ x, xs[k]? = some x := ⟨_, List.getElem?_eq_getElem hlt⟩
      have hcx := unhide HC1 k x hxk
      have hcy := unhide HC2 k x hxk
      have hlt' : (k : Int) < (xs.length : Int) := by omega
      clear hxk
      go_wp2
      go_quiet (fail)
      go_wp2
      go_roundw
      case rel => exact ⟨k + 1, _, by omega, by go_num, rfl⟩
      case measure => simp [intOf]; omega
    · go_wp2
      go_ret
      exact ⟨rfl, below_drewN w d⟩

/-- Two slices of the same strings are found the same. -/
theorem same_any (a1 a2 : Option Addr) (c1 c2 : Nat) (xs : List ByteArray) (w : World) (hl : xs.length ≤ 65536) (h1 : StrsAt w a1 xs) (h2 : StrsAt w a2 xs) :
    Calls Try.prog 10 #[.slice a1 xs.length c1, .slice a2 xs.length c2] w fun e w' => e = .returned (.bool true) ∧ Below w.heap.size w w' := by
  rcases h1 with rfl | ⟨b1, o1, rfl, hc1⟩
  · exact same_none a1 a2 c1 c2 w
  · rcases h2 with rfl | ⟨b2, o2, rfl, hc2⟩
    · exact same_none _ a2 c1 c2 w
    · exact same_some b1 o1 c1 b2 o2 c2 xs w hl hc1 hc2
end Go.Proofs.Qxb6002403a
