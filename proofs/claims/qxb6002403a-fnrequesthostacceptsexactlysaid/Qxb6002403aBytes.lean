import Derived.Test.Qxb6002403aKit
namespace Go.Proofs.Qxb6002403a
open Go.ChangeShapes Go.WideShapes Go.ChangeAt Go.RowKit
set_option linter.unusedVariables false
set_option linter.unusedSimpArgs false

/-- A bool is answered. -/
def SomeBool (e : Ending) : Prop := ∃ b, e = .returned (.bool b)
theorem someBool (b : Bool) : SomeBool (.returned (.bool b)) := ⟨b, rfl⟩
/-- The bound of the first law's length test: it answers some bool, and the world stands. -/
theorem bytes11_big (ao : Option Addr) (n cap : Nat) (p : Bool) (u : ByteArray) (m1 m2 : Int) (w : World) (hn : 1048576 < n) (hn2 : n ≤ maxLen) :
    Calls Try.prog 11 #[.slice ao n cap, .bool p, .string u, .int .i64 m1, .int .i64 m2] w fun e w' => SomeBool e ∧ w' = w := by
  unfold maxLen at hn2
  go_enter Try.func11, Try.ntmps11
  go_wp2
  go_ret
  exact ⟨someBool _, rfl⟩

set_option maxHeartbeats 800000 in
theorem bytes11_none (ao : Option Addr) (cap : Nat) (p : Bool) (u : ByteArray) (m1 m2 : Int) (w : World) (hu : u.size ≤ maxLen) :
    Calls Try.prog 11 #[.slice ao 0 cap, .bool p, .string u, .int .i64 m1, .int .i64 m2] w fun e w' => SomeBool e ∧ w' = w := by
  unfold maxLen at hu
  go_enter Try.func11, Try.ntmps11
  go_wp2
  go_loop [11, 12] (fun t i => i = .int .i64 0 ∧ t = .int .i64 0) (fun _ _ => 0)
  case atStart => exact ⟨rfl, rfl⟩
  case round =>
    obtain ⟨rfl, rfl⟩ := hrel
    by_cases hb : 1048576 < u.size
    all_goals
      go_wp2
      go_ret
      exact ⟨someBool _, rfl⟩

set_option maxHeartbeats 1600000 in
theorem bytes11_some (b off cap : Nat) (xs : List ByteArray) (p : Bool) (u : ByteArray) (m1 m2 : Int) (w : World) (hu : u.size ≤ maxLen) (hx : ∀ x ∈ xs, x.size ≤ maxLen) (hn : xs.length ≤ 1048576)
    (hc : ∀ j x, xs[j]? = some x → w.cell? ⟨b, off + j, none⟩ = some (.string x)) :
    Calls Try.prog 11 #[.slice (some ⟨b, off, none⟩) xs.length cap, .bool p, .string u, .int .i64 m1, .int .i64 m2] w fun e w' => SomeBool e ∧ w' = w := by
  unfold maxLen at hu hx
  have HC := hide hc
  have HX := hide hx
  clear hc hx
  go_enter Try.func11, Try.ntmps11
  go_wp2
  go_loop [11, 12] (fun t i => ∃ (k : Nat) (z : Int), k ≤ xs.length ∧ i = .int .i64 k ∧ t = .int .i64 z ∧ 0 ≤ z ∧ z ≤ 1048576) (fun _ i => xs.length - (intOf i).toNat)
  case atStart => exact ⟨0, _, Nat.zero_le _, rfl, rfl, by omega, by omega⟩
  case round =>
    obtain ⟨k, z, hk, rfl, rfl, hz0, hz1⟩ := hrel
    by_cases hlt : k < xs.length
    · obtain ⟨x, hxk⟩ : ∃ x, xs[k]? = some x := ⟨_, List.getElem?_eq_getElem hlt⟩
      have hcx := unhide HC k x hxk
      have hxs := unhide HX x (List.mem_of_getElem? hxk)
      clear hxk
      by_cases h1 : 1048576 < x.size
      · go_wp2
        go_ret
        exact ⟨someBool _, rfl⟩
      · by_cases h2 : 1048576 < z + x.size
        · go_wp2
          go_ret
          exact ⟨someBool _, rfl⟩
        · go_wp2
          go_round
          case rel => exact ⟨k + 1, _, by omega, by go_num, rfl, by omega, by omega⟩
          case measure => simp [intOf]; omega
    · by_cases hb : 1048576 < u.size
      · go_wp2
        go_ret
        exact ⟨someBool _, rfl⟩
      · by_cases h2 : 1048576 < z + u.size
        · go_wp2
          go_ret
          exact ⟨someBool _, rfl⟩
        · go_wp2
          go_ret
          exact ⟨someBool _, rfl⟩

theorem bytes11_any (ao : Option Addr) (cap : Nat) (xs : List ByteArray) (p : Bool) (u : ByteArray) (m1 m2 : Int) (w : World) (hu : u.size ≤ maxLen) (hx : ∀ x ∈ xs, x.size ≤ maxLen) (hl : xs.length ≤ maxLen) (h : StrsAt w ao xs) :
    Calls Try.prog 11 #[.slice ao xs.length cap, .bool p, .string u, .int .i64 m1, .int .i64 m2] w fun e w' => SomeBool e ∧ w' = w := by
  by_cases hn : xs.length ≤ 1048576
  · rcases h with rfl | ⟨b, off, rfl, hc⟩
    · exact bytes11_none ao cap p u m1 m2 w hu
    · exact bytes11_some b off cap xs p u m1 m2 w hu hx hn hc
  · exact bytes11_big ao xs.length cap p u m1 m2 w (by omega) hl
end Go.Proofs.Qxb6002403a
