import Derived.Test.Qxb6002403aBytes
namespace Go.Proofs.Qxb6002403a
open Go.ChangeShapes Go.WideShapes Go.ChangeAt Go.RowKit
set_option linter.unusedVariables false
set_option linter.unusedSimpArgs false

theorem bytes5_big (a1 a2 : Option Addr) (n1 c1 n2 c2 : Nat) (p : Bool) (s1 s2 : ByteArray) (m : Int) (w : World) (h : 1048576 < n1) (h1 : n1 ≤ maxLen) :
    Calls Try.prog 5 #[.slice a1 n1 c1, .bool p, .string s1, .slice a2 n2 c2, .string s2, .int .i64 m] w fun e w' => SomeBool e ∧ w' = w := by
  unfold maxLen at h1
  go_enter Try.func5, Try.ntmps5
  go_wp2
  go_ret
  exact ⟨someBool _, rfl⟩

set_option maxHeartbeats 6400000 in
theorem bytes5_nn (a1 : Option Addr) (c1 : Nat) (a2 : Option Addr) (c2 : Nat) (p : Bool) (s1 s2 : ByteArray) (m : Int) (w : World) (hs1 : s1.size ≤ maxLen) (hs2 : s2.size ≤ maxLen) :
    Calls Try.prog 5 #[.slice a1 0 c1, .bool p, .string s1, .slice a2 0 c2, .string s2, .int .i64 m] w fun e w' => SomeBool e ∧ w' = w := by
  unfold maxLen at *
  go_enter Try.func5, Try.ntmps5
  go_wp2
  go_loop [13, 14] (fun t i => i = .int .i64 0 ∧ ∃ z : Int, t = .int .i64 z ∧ 0 ≤ z ∧ z ≤ 1048576) (fun _ _ => 0)
  case atStart => exact ⟨rfl, _, rfl, by omega, by omega⟩
  case round =>
    obtain ⟨rfl, z, rfl, hz0, hz1⟩ := hrel
    by_cases u1 : 1048576 < s1.size
    · skip
      go_wp2
      go_ret
      exact ⟨someBool _, rfl⟩
    · skip
      by_cases u2 : (1048576 : Int) < z + s1.size
      · skip
        go_wp2
        go_ret
        exact ⟨someBool _, rfl⟩
      · skip
        go_wp2
        go_loop [13, 15] (fun t i => i = .int .i64 0 ∧ ∃ z : Int, t = .int .i64 z ∧ 0 ≤ z ∧ z ≤ 1048576) (fun _ _ => 0)
        case atStart => exact ⟨rfl, _, rfl, by omega, by omega⟩
        case round =>
          clear hz0 hz1
          obtain ⟨rfl, z, rfl, hz0, hz1⟩ := hrel
          by_cases t1 : 1048576 < s2.size
          · skip
            go_wp2
            go_ret
            exact ⟨someBool _, rfl⟩
          · skip
            by_cases t2 : (1048576 : Int) < z + s2.size
            · skip
              go_wp2
              go_ret
              exact ⟨someBool _, rfl⟩
            · skip
              go_wp2
              go_ret
              exact ⟨someBool _, rfl⟩

set_option maxHeartbeats 6400000 in
theorem bytes5_ns (a1 : Option Addr) (c1 : Nat) (b2 o2 c2 : Nat) (xs2 : List ByteArray) (p : Bool) (s1 s2 : ByteArray) (m : Int) (w : World) (hs1 : s1.size ≤ maxLen) (hs2 : s2.size ≤ maxLen) (l2 : xs2.length ≤ maxLen) (hc2 : ∀ j x, xs2[j]? = some x → w.cell? ⟨b2, o2 + j, none⟩ = some (.string x)) (hx2 : ∀ x ∈ xs2, x.size ≤ maxLen) :
    Calls Try.prog 5 #[.slice a1 0 c1, .bool p, .string s1, .slice (some ⟨b2, o2, none⟩) xs2.length c2, .string s2, .int .i64 m] w fun e w' => SomeBool e ∧ w' = w := by
  unfold maxLen at *
  have HC2 := hide hc2
  have HX2 := hide hx2
  clear hc2 hx2
  go_enter Try.func5, Try.ntmps5
  go_wp2
  go_loop [13, 14] (fun t i => i = .int .i64 0 ∧ ∃ z : Int, t = .int .i64 z ∧ 0 ≤ z ∧ z ≤ 1048576) (fun _ _ => 0)
  case atStart => exact ⟨rfl, _, rfl, by omega, by omega⟩
  case round =>
    obtain ⟨rfl, z, rfl, hz0, hz1⟩ := hrel
    by_cases u1 : 1048576 < s1.size
    · skip
      go_wp2
      go_ret
      exact ⟨someBool _, rfl⟩
    · skip
      by_cases u2 : (1048576 : Int) < z + s1.size
      · skip
        go_wp2
        go_ret
        exact ⟨someBool _, rfl⟩
      · skip
        by_cases u3 : 1048576 < xs2.length
        · skip
          go_wp2
          go_ret
          exact ⟨someBool _, rfl⟩
        · skip
          by_cases u4 : (1048576 : Int) < z + s1.size + xs2.length
          · skip
            go_wp2
            go_ret
            exact ⟨someBool _, rfl⟩
          · skip
            go_wp2
            go_loop [13, 15] (fun t i => ∃ (k : Nat) (z : Int), k ≤ xs2.length ∧ i = .int .i64 k ∧ t = .int .i64 z ∧ 0 ≤ z ∧ z ≤ 1048576) (fun _ i => xs2.length - (intOf i).toNat)
            case atStart => exact ⟨0, _, Nat.zero_le _, rfl, rfl, by omega, by omega⟩
            case round =>
              clear hz0 hz1
              obtain ⟨k, z, hk, rfl, rfl, hz0, hz1⟩ := hrel
              by_cases hlt : k < xs2.length
              · skip
                obtain ⟨x, hxk⟩ : ∃ x, xs2[k]? = some x := ⟨_, List.getElem?_eq_getElem hlt⟩
                have hcx := unhide HC2 k x hxk
                have hxs := unhide HX2 x (List.mem_of_getElem? hxk)
                clear hxk
                by_cases g : 1048576 < x.size
                · skip
                  go_wp2
                  go_ret
                  exact ⟨someBool _, rfl⟩
                · skip
                  by_cases g2 : (1048576 : Int) < z + x.size
                  · skip
                    go_wp2
                    go_ret
                    exact ⟨someBool _, rfl⟩
                  · skip
                    go_wp2
                    go_round
                    case rel => exact ⟨k + 1, _, by omega, by go_num, rfl, by omega, by omega⟩
                    case measure => simp [intOf]; omega
              · skip
                by_cases t1 : 1048576 < s2.size
                · skip
                  go_wp2
                  go_ret
                  exact ⟨someBool _, rfl⟩
                · skip
                  by_cases t2 : (1048576 : Int) < z + s2.size
                  · skip
                    go_wp2
                    go_ret
                    exact ⟨someBool _, rfl⟩
                  · skip
                    go_wp2
                    go_ret
                    exact ⟨someBool _, rfl⟩

set_option maxHeartbeats 6400000 in
theorem bytes5_sn (b1 o1 c1 : Nat) (xs1 : List ByteArray) (a2 : Option Addr) (c2 : Nat) (p : Bool) (s1 s2 : ByteArray) (m : Int) (w : World) (hs1 : s1.size ≤ maxLen) (hs2 : s2.size ≤ maxLen) (l1 : xs1.length ≤ 1048576) (hc1 : ∀ j x, xs1[j]? = some x → w.cell? ⟨b1, o1 + j, none⟩ = some (.string x)) (hx1 : ∀ x ∈ xs1, x.size ≤ maxLen) :
    Calls Try.prog 5 #[.slice (some ⟨b1, o1, none⟩) xs1.length c1, .bool p, .string s1, .slice a2 0 c2, .string s2, .int .i64 m] w fun e w' => SomeBool e ∧ w' = w := by
  unfold maxLen at *
  have HC1 := hide hc1
  have HX1 := hide hx1
  clear hc1 hx1
  go_enter Try.func5, Try.ntmps5
  go_wp2
  go_loop [13, 14] (fun t i => ∃ (k : Nat) (z : Int), k ≤ xs1.length ∧ i = .int .i64 k ∧ t = .int .i64 z ∧ 0 ≤ z ∧ z ≤ 1048576) (fun _ i => xs1.length - (intOf i).toNat)
  case atStart => exact ⟨0, _, Nat.zero_le _, rfl, rfl, by omega, by omega⟩
  case round =>
    obtain ⟨k, z, hk, rfl, rfl, hz0, hz1⟩ := hrel
    by_cases hlt : k < xs1.length
    · skip
      obtain ⟨x, hxk⟩ : ∃ x, xs1[k]? = some x := ⟨_, List.getElem?_eq_getElem hlt⟩
      have hcx := unhide HC1 k x hxk
      have hxs := unhide HX1 x (List.mem_of_getElem? hxk)
      clear hxk
      by_cases g : 1048576 < x.size
      · skip
        go_wp2
        go_ret
        exact ⟨someBool _, rfl⟩
      · skip
        by_cases g2 : (1048576 : Int) < z + x.size
        · skip
          go_wp2
          go_ret
          exact ⟨someBool _, rfl⟩
        · skip
          go_wp2
          go_round
          case rel => exact ⟨k + 1, _, by omega, by go_num, rfl, by omega, by omega⟩
          case measure => simp [intOf]; omega
    · skip
      by_cases u1 : 1048576 < s1.size
      · skip
        go_wp2
        go_ret
        exact ⟨someBool _, rfl⟩
      · skip
        by_cases u2 : (1048576 : Int) < z + s1.size
        · skip
          go_wp2
          go_ret
          exact ⟨someBool _, rfl⟩
        · skip
          go_wp2
          go_loop [13, 15] (fun t i => i = .int .i64 0 ∧ ∃ z : Int, t = .int .i64 z ∧ 0 ≤ z ∧ z ≤ 1048576) (fun _ _ => 0)
          case atStart => exact ⟨rfl, _, rfl, by omega, by omega⟩
          case round =>
            clear hz0 hz1
            obtain ⟨rfl, z, rfl, hz0, hz1⟩ := hrel
            by_cases t1 : 1048576 < s2.size
            · skip
              go_wp2
              go_ret
              exact ⟨someBool _, rfl⟩
            · skip
              by_cases t2 : (1048576 : Int) < z + s2.size
              · skip
                go_wp2
                go_ret
                exact ⟨someBool _, rfl⟩
              · skip
                go_wp2
                go_ret
                exact ⟨someBool _, rfl⟩

set_option maxHeartbeats 6400000 in
theorem bytes5_ss (b1 o1 c1 : Nat) (xs1 : List ByteArray) (b2 o2 c2 : Nat) (xs2 : List ByteArray) (p : Bool) (s1 s2 : ByteArray) (m : Int) (w : World) (hs1 : s1.size ≤ maxLen) (hs2 : s2.size ≤ maxLen) (l1 : xs1.length ≤ 1048576) (hc1 : ∀ j x, xs1[j]? = some x → w.cell? ⟨b1, o1 + j, none⟩ = some (.string x)) (hx1 : ∀ x ∈ xs1, x.size ≤ maxLen) (l2 : xs2.length ≤ maxLen) (hc2 : ∀ j x, xs2[j]? = some x → w.cell? ⟨b2, o2 + j, none⟩ = some (.string x)) (hx2 : ∀ x ∈ xs2, x.size ≤ maxLen) :
    Calls Try.prog 5 #[.slice (some ⟨b1, o1, none⟩) xs1.length c1, .bool p, .string s1, .slice (some ⟨b2, o2, none⟩) xs2.length c2, .string s2, .int .i64 m] w fun e w' => SomeBool e ∧ w' = w := by
  unfold maxLen at *
  have HC1 := hide hc1
  have HX1 := hide hx1
  clear hc1 hx1
  have HC2 := hide hc2
  have HX2 := hide hx2
  clear hc2 hx2
  go_enter Try.func5, Try.ntmps5
  go_wp2
  go_loop [13, 14] (fun t i => ∃ (k : Nat) (z : Int), k ≤ xs1.length ∧ i = .int .i64 k ∧ t = .int .i64 z ∧ 0 ≤ z ∧ z ≤ 1048576) (fun _ i => xs1.length - (intOf i).toNat)
  case atStart => exact ⟨0, _, Nat.zero_le _, rfl, rfl, by omega, by omega⟩
  case round =>
    obtain ⟨k, z, hk, rfl, rfl, hz0, hz1⟩ := hrel
    by_cases hlt : k < xs1.length
    · skip
      obtain ⟨x, hxk⟩ : ∃ x, xs1[k]? = some x := ⟨_, List.getElem?_eq_getElem hlt⟩
      have hcx := unhide HC1 k x hxk
      have hxs := unhide HX1 x (List.mem_of_getElem? hxk)
      clear hxk
      by_cases g : 1048576 < x.size
      · skip
        go_wp2
        go_ret
        exact ⟨someBool _, rfl⟩
      · skip
        by_cases g2 : (1048576 : Int) < z + x.size
        · skip
          go_wp2
          go_ret
          exact ⟨someBool _, rfl⟩
        · skip
          go_wp2
          go_round
          case rel => exact ⟨k + 1, _, by omega, by go_num, rfl, by omega, by omega⟩
          case measure => simp [intOf]; omega
    · skip
      by_cases u1 : 1048576 < s1.size
      · skip
        go_wp2
        go_ret
        exact ⟨someBool _, rfl⟩
      · skip
        by_cases u2 : (1048576 : Int) < z + s1.size
        · skip
          go_wp2
          go_ret
          exact ⟨someBool _, rfl⟩
        · skip
          by_cases u3 : 1048576 < xs2.length
          · skip
            go_wp2
            go_ret
            exact ⟨someBool _, rfl⟩
          · skip
            by_cases u4 : (1048576 : Int) < z + s1.size + xs2.length
            · skip
              go_wp2
              go_ret
              exact ⟨someBool _, rfl⟩
            · skip
              go_wp2
              go_loop [13, 15] (fun t i => ∃ (k : Nat) (z : Int), k ≤ xs2.length ∧ i = .int .i64 k ∧ t = .int .i64 z ∧ 0 ≤ z ∧ z ≤ 1048576) (fun _ i => xs2.length - (intOf i).toNat)
              case atStart => exact ⟨0, _, Nat.zero_le _, rfl, rfl, by omega, by omega⟩
              case round =>
                clear hz0 hz1
                obtain ⟨k, z, hk, rfl, rfl, hz0, hz1⟩ := hrel
                by_cases hlt : k < xs2.length
                · skip
                  obtain ⟨x, hxk⟩ : ∃ x, xs2[k]? = some x := ⟨_, List.getElem?_eq_getElem hlt⟩
                  have hcx := unhide HC2 k x hxk
                  have hxs := unhide HX2 x (List.mem_of_getElem? hxk)
                  clear hxk
                  by_cases g : 1048576 < x.size
                  · skip
                    go_wp2
                    go_ret
                    exact ⟨someBool _, rfl⟩
                  · skip
                    by_cases g2 : (1048576 : Int) < z + x.size
                    · skip
                      go_wp2
                      go_ret
                      exact ⟨someBool _, rfl⟩
                    · skip
                      go_wp2
                      go_round
                      case rel => exact ⟨k + 1, _, by omega, by go_num, rfl, by omega, by omega⟩
                      case measure => simp [intOf]; omega
                · skip
                  by_cases t1 : 1048576 < s2.size
                  · skip
                    go_wp2
                    go_ret
                    exact ⟨someBool _, rfl⟩
                  · skip
                    by_cases t2 : (1048576 : Int) < z + s2.size
                    · skip
                      go_wp2
                      go_ret
                      exact ⟨someBool _, rfl⟩
                    · skip
                      go_wp2
                      go_ret
                      exact ⟨someBool _, rfl⟩

theorem bytes5_any (a1 a2 : Option Addr) (c1 c2 : Nat) (xs1 xs2 : List ByteArray) (p : Bool) (s1 s2 : ByteArray) (m : Int) (w : World) (hs1 : s1.size ≤ maxLen) (hs2 : s2.size ≤ maxLen)
    (h1 : StrsAt w a1 xs1) (hx1 : ∀ x ∈ xs1, x.size ≤ maxLen) (hl1 : xs1.length ≤ maxLen) (h2 : StrsAt w a2 xs2) (hx2 : ∀ x ∈ xs2, x.size ≤ maxLen) (hl2 : xs2.length ≤ maxLen) :
    Calls Try.prog 5 #[.slice a1 xs1.length c1, .bool p, .string s1, .slice a2 xs2.length c2, .string s2, .int .i64 m] w fun e w' => SomeBool e ∧ w' = w := by
  by_cases g1 : xs1.length ≤ 1048576
  · rcases h1 with rfl | ⟨b1, o1, rfl, hc1⟩
    · rcases h2 with rfl | ⟨b2, o2, rfl, hc2⟩
      · exact bytes5_nn a1 c1 a2 c2 p s1 s2 m w hs1 hs2
      · exact bytes5_ns a1 c1 b2 o2 c2 xs2 p s1 s2 m w hs1 hs2 hl2 hc2 hx2
    · rcases h2 with rfl | ⟨b2, o2, rfl, hc2⟩
      · exact bytes5_sn b1 o1 c1 xs1 a2 c2 p s1 s2 m w hs1 hs2 g1 hc1 hx1
      · exact bytes5_ss b1 o1 c1 xs1 b2 o2 c2 xs2 p s1 s2 m w hs1 hs2 g1 hc1 hx1 hl2 hc2 hx2
  · exact bytes5_big a1 a2 _ c1 _ c2 p s1 s2 m w (by omega) hl1
end Go.Proofs.Qxb6002403a
