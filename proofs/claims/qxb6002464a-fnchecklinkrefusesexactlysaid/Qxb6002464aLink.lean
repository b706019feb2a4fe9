import Derived.Test.Qxb6002464aName
namespace Go.Proofs.Qxb6002464a
open Go.ChangeShapes Go.WideShapes Go.ChangeAt Go.RowKit
set_option linter.unusedVariables false
set_option linter.unusedSimpArgs false

/-- What CheckNUL says of two names. -/
def nulOf (t n : ByteArray) : Value := if (has 0 t.data.toList || has 0 n.data.toList) = true then .iface 40 (.int .u64 22) else .nilIface
theorem nulOf_left {t n : ByteArray} (h : has 0 t.data.toList = true) : nulOf t n = .iface 40 (.int .u64 22) := by unfold nulOf; rw [h]; rfl
theorem nulOf_right {t n : ByteArray} (h : has 0 n.data.toList = true) : nulOf t n = .iface 40 (.int .u64 22) := by unfold nulOf; rw [h, Bool.or_true]; rfl
theorem nulOf_none {t n : ByteArray} (h : has 0 t.data.toList = false) (h' : has 0 n.data.toList = false) : nulOf t n = .nilIface := by unfold nulOf; rw [h, h']; rfl
theorem ret_val {a b : Value} (h : a = b) : Ending.returned a = .returned b := by rw [h]

set_option maxHeartbeats 800000 in
theorem checkNUL_any (B : Nat) (t n : ByteArray) (w : World) (hc0 : w.cell? ⟨B, 0, none⟩ = some (.string t)) (hc1 : w.cell? ⟨B, 1, none⟩ = some (.string n)) :
    Calls Try.prog 30 #[.slice (some ⟨B, 0, none⟩) 2 2] w fun e w' => e = .returned (nulOf t n) ∧ w' = w := by
  go_enter Try.func30, Try.ntmps30
  go_wp2
  go_loop [7] (fun i => ∃ k : Nat, k ≤ 2 ∧ i = .int .i64 k ∧ (1 ≤ k → has 0 t.data.toList = false) ∧ (2 ≤ k → has 0 n.data.toList = false)) (fun i => 2 - (intOf i).toNat)
  case atStart => exact ⟨0, by omega, rfl, fun h => by omega, fun h => by omega⟩
  case round =>
    obtain ⟨k, hk, rfl, h1, h2⟩ := hrel
    have H1 := hide h1
    have H2 := hide h2
    clear h1 h2
    rcases (show k = 0 ∨ k = 1 ∨ k = 2 from by omega) with rfl | rfl | rfl
    · go_wp2_with fail
      refine (holds_any t _).mono ?_
      rintro e w1 ⟨rfl, hw1⟩
      have hw2 := hw1.symm
      subst hw2
      clear hw1
      cases h : has 0 t.data.toList
      · have H := hide h
        clear h
        go_wp2
        go_round
        case rel => exact ⟨1, by omega, rfl, fun _ => unhide H, fun h => by omega⟩
        case measure => simp [intOf]
      · have H := hide h
        clear h
        go_wp2
        go_ret
        exact ⟨ret_val (nulOf_left (unhide H)).symm, rfl⟩
    · go_wp2_with fail
      refine (holds_any n _).mono ?_
      rintro e w1 ⟨rfl, hw1⟩
      have hw2 := hw1.symm
      subst hw2
      clear hw1
      cases h : has 0 n.data.toList
      · have H := hide h
        clear h
        go_wp2
        go_round
        case rel => exact ⟨2, by omega, rfl, fun _ => unhide H1 (by omega), fun _ => unhide H⟩
        case measure => simp [intOf]
      · have H := hide h
        clear h
        go_wp2
        go_ret
        exact ⟨ret_val (nulOf_right (unhide H)).symm, rfl⟩
    · go_wp2
      go_ret
      exact ⟨ret_val (nulOf_none (unhide H1 (by omega)) (unhide H2 (by omega))).symm, rfl⟩

set_option maxHeartbeats 800000 in
theorem checkLink_nul (t n : ByteArray) (w : World) (h : nulOf t n = .iface 40 (.int .u64 22)) :
    Calls Try.prog 23 #[.string t, .string n] w fun e w' => e = .returned (.iface 40 (.int .u64 22)) ∧ Below w.heap.size w w' := by
  have H := hide h
  clear h
  go_enter Try.func23, Try.ntmps23
  go_wp2_with fail
  refine (checkNUL_any w.heap.size t n _ ((World.cell?_alloc_at _ _ _ _ rfl).trans rfl) ((World.cell?_alloc_at _ _ _ _ rfl).trans rfl)).mono ?_
  rintro e w1 ⟨rfl, hw1⟩
  have hb : Below w.heap.size w w1 := by rw [hw1]; exact (Below.refl _ _).alloc (Nat.le_refl _) _
  clear hw1
  rw [unhide H]
  go_wp2
  go_ret
  exact ⟨rfl, hb⟩

set_option maxRecDepth 100000 in
set_option maxHeartbeats 800000 in
theorem checkLink_empty (t n : ByteArray) (w : World) (h : nulOf t n = .nilIface) (hE : t.toList.isEmpty = true) :
    Calls Try.prog 23 #[.string t, .string n] w fun e w' => e = .returned (.iface 40 (.int .u64 2)) ∧ Below w.heap.size w w' := by
  have H := hide h
  clear h
  go_enter Try.func23, Try.ntmps23
  go_wp2_with fail
  refine (checkNUL_any w.heap.size t n _ ((World.cell?_alloc_at _ _ _ _ rfl).trans rfl) ((World.cell?_alloc_at _ _ _ _ rfl).trans rfl)).mono ?_
  rintro e w1 ⟨rfl, hw1⟩
  have hb : Below w.heap.size w w1 := by rw [hw1]; exact (Below.refl _ _).alloc (Nat.le_refl _) _
  clear hw1
  rw [unhide H]
  go_wp2
  go_ret
  exact ⟨rfl, hb⟩

set_option maxRecDepth 100000 in
set_option maxHeartbeats 800000 in
theorem checkLink_long (t n : ByteArray) (w : World) (h : nulOf t n = .nilIface) (hE : t.toList.isEmpty = false) (hl : 4096 ≤ t.size) (hs : t.size ≤ 1048576) :
    Calls Try.prog 23 #[.string t, .string n] w fun e w' => e = .returned (.iface 40 (.int .u64 36)) ∧ Below w.heap.size w w' := by
  have H := hide h
  clear h
  have hd : decide ((4096 : Int) ≤ (t.size : Int)) = true := decide_eq_true (by omega)
  go_enter Try.func23, Try.ntmps23
  go_wp2_with fail
  refine (checkNUL_any w.heap.size t n _ ((World.cell?_alloc_at _ _ _ _ rfl).trans rfl) ((World.cell?_alloc_at _ _ _ _ rfl).trans rfl)).mono ?_
  rintro e w1 ⟨rfl, hw1⟩
  have hb : Below w.heap.size w w1 := by rw [hw1]; exact (Below.refl _ _).alloc (Nat.le_refl _) _
  clear hw1
  rw [unhide H]
  go_wp2
  go_ret
  exact ⟨rfl, hb⟩

set_option maxRecDepth 100000 in
set_option maxHeartbeats 800000 in
theorem checkLink_ok (t n : ByteArray) (w : World) (h : nulOf t n = .nilIface) (hE : t.toList.isEmpty = false) (hl : t.size < 4096) :
    Calls Try.prog 23 #[.string t, .string n] w fun e w' => e = .returned .nilIface ∧ Below w.heap.size w w' := by
  have H := hide h
  clear h
  have hd : decide ((4096 : Int) ≤ (t.size : Int)) = false := decide_eq_false (by omega)
  go_enter Try.func23, Try.ntmps23
  go_wp2_with fail
  refine (checkNUL_any w.heap.size t n _ ((World.cell?_alloc_at _ _ _ _ rfl).trans rfl) ((World.cell?_alloc_at _ _ _ _ rfl).trans rfl)).mono ?_
  rintro e w1 ⟨rfl, hw1⟩
  have hb : Below w.heap.size w w1 := by rw [hw1]; exact (Below.refl _ _).alloc (Nat.le_refl _) _
  clear hw1
  rw [unhide H]
  go_wp2
  go_ret
  exact ⟨rfl, hb⟩
end Go.Proofs.Qxb6002464a
