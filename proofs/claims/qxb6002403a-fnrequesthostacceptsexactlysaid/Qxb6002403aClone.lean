import Derived.Test.Qxb6002403aKit
import Derived.Laws.OwnMore
namespace Go.Proofs.Qxb6002403a
open Go.ChangeShapes Go.WideShapes Go.ChangeAt Go.RowKit
set_option linter.unusedVariables false
set_option linter.unusedSimpArgs false

theorem info9 : (Try.prog.info? 9).map (fun i => (i.zero, i.size, i.bytes)) = some (some (.string ByteArray.empty), 1, 16) := by kernel_rfl

/-- The copy's cells behind k rounds. -/
def half (xs : List ByteArray) (k : Nat) : List Value := (xs.take k).map Value.string ++ List.replicate (xs.length - k) (.string ByteArray.empty)

theorem half_len (xs : List ByteArray) (k : Nat) (h : k ≤ xs.length) : (half xs k).length = xs.length := by
  unfold half; simp; omega
theorem half_set (xs : List ByteArray) (k : Nat) (x : ByteArray) (hx : xs[k]? = some x) : (half xs k).set k (.string x) = half xs (k + 1) := by
  have hk : k < xs.length := (List.getElem?_eq_some_iff.1 hx).1
  have hxe : xs[k] = x := (List.getElem?_eq_some_iff.1 hx).2
  unfold half
  rw [List.take_succ_eq_append_getElem hk, hxe]
  have hl : ((xs.take k).map Value.string).length = k := by simp; omega
  rw [List.set_append_right _ _ (by omega), hl, Nat.sub_self]
  have : xs.length - k = (xs.length - (k + 1)) + 1 := by omega
  rw [this, List.replicate_succ]
  simp
theorem half_all (xs : List ByteArray) : half xs xs.length = xs.map Value.string := by unfold half; simp

theorem strs_of_owns {w : World} {g B : Nat} {xs : List ByteArray} {cap : Nat} (h : w.ownsRow B 9 1 (.slice (some ⟨g, 0, none⟩) xs.length cap) xs.length (xs.map Value.string)) : StrsAt w (some ⟨g, 0, none⟩) xs := by
  refine Or.inr ⟨g, 0, rfl, fun j x hj => ?_⟩
  have hjl := (List.getElem?_eq_some_iff.1 hj).1
  rw [Nat.zero_add, h.cellAt j (by rw [Nat.mul_one]; exact hjl), List.getElem?_map, hj]
  rfl

/-- What cloneStrings gives: a slice of the same strings; nothing old has turned. -/
def Cloned (w : World) (xs : List ByteArray) (e : Ending) (w' : World) : Prop :=
  ∃ ao cap, e = .returned (.slice ao xs.length cap) ∧ StrsAt w' ao xs ∧ Below w.heap.size w w'

theorem clone_nil (cap : Nat) (w : World) :
    Calls Try.prog 7 #[.slice none 0 cap] w fun e w' => Cloned w [] e w' := by
  have heq := fun (wx : World) => Lib.run_eql_slice_nil (P := Try.prog) wx 22 9 none 0 cap 0 0 Try.underlying22
  go_enter Try.func7, Try.ntmps7
  go_wp2
  go_ret
  exact ⟨none, 0, rfl, Or.inl rfl, Below.refl _ _⟩

set_option maxHeartbeats 800000 in
theorem clone_empty (a : Addr) (cap : Nat) (w : World) :
    Calls Try.prog 7 #[.slice (some a) 0 cap] w fun e w' => Cloned w [] e w' := by
  obtain ⟨i0, hi, hz0, hz1, hz2⟩ := info_parts info9
  have heq := fun (wx : World) => Lib.run_eql_slice_nil (P := Try.prog) wx 22 9 (some a) 0 cap 0 0 Try.underlying22
  go_enter Try.func7, Try.ntmps7
  go_wp2_with (first
    | (at_make; refine wpList_make_full _ rfl _ _ 22 rfl w.heap.size 9 i0 (.string ByteArray.empty) 1 Try.underlying22 hi hz0 hz1 _ _ _ _ 0 rfl rfl rfl rfl (by omega) (by unfold maxLen; omega) (Nat.le_refl _) ?_; intro w1 hown hgrow))
  have hb : Below w.heap.size w w1 := (Below.refl _ _).grown hgrow (Nat.le_refl _) (fun k e => by cases e)
  go_loop [4] (fun i => i = .int .i64 0) (fun _ => 0)
  case atStart => rfl
  case round =>
    subst hrel
    go_wp2
    go_ret
    exact ⟨_, _, rfl, Or.inl rfl, hb⟩

set_option maxHeartbeats 1600000 in
theorem clone_some (b off cap : Nat) (xs : List ByteArray) (w : World) (hl : xs.length ≤ 65536)
    (hc : ∀ j x, xs[j]? = some x → w.cell? ⟨b, off + j, none⟩ = some (.string x)) :
    Calls Try.prog 7 #[.slice (some ⟨b, off, none⟩) xs.length cap] w fun e w' => Cloned w xs e w' := by
  obtain ⟨i0, hi, hz0, hz1, hz2⟩ := info_parts info9
  have heq := fun (wx : World) => Lib.run_eql_slice_nil (P := Try.prog) wx 22 9 (some ⟨b, off, none⟩) xs.length cap 0 0 Try.underlying22
  have HC := hide hc
  clear hc
  go_enter Try.func7, Try.ntmps7
  go_wp2_with (first
    | (at_make; refine wpList_make_full _ rfl _ _ 22 rfl w.heap.size 9 i0 (.string ByteArray.empty) 1 Try.underlying22 hi hz0 hz1 _ _ _ _ xs.length rfl rfl rfl rfl (by rw [hz2]; omega) (by unfold maxLen; omega) (Nat.le_refl _) ?_; intro w1 hown hgrow))
  have hb : Below w.heap.size w w1 := (Below.refl _ _).grown hgrow (Nat.le_refl _) (fun k e => by cases e)
  have hown0 : w1.ownsRow w.heap.size 9 1 (.slice (some ⟨w.heap.size, 0, none⟩) xs.length xs.length) xs.length (half xs 0) := by
    have e : (madeCells (Value.string ByteArray.empty).cells (xs.length * 1)).toList = half xs 0 := by
      unfold half
      rw [Nat.mul_one]
      exact toList_madeCells_one _ _
    rw [← e]; exact hown
  clear hown hgrow
  go_loopw [4] (fun i wr => ∃ k : Nat, k ≤ xs.length ∧ i = .int .i64 k ∧ wr.ownsRow w.heap.size 9 1 (.slice (some ⟨w.heap.size, 0, none⟩) xs.length xs.length) xs.length (half xs k) ∧ Below w.heap.size w wr) (fun i _ => xs.length - (intOf i).toNat)
  case atStart => exact ⟨0, Nat.zero_le _, rfl, hown0, hb⟩
  case round =>
    obtain ⟨k, hk, rfl, hrow, hbl⟩ := hrel
    clear hown0 hb
    by_cases hlt : k < xs.length
    · obtain ⟨x, hxk⟩ : ∃ x, xs[k]? = some x := ⟨_, List.getElem?_eq_getElem hlt⟩
      have hcx : wr.cell? ⟨b, off + k, none⟩ = some (.string x) := by
        have h0 := unhide HC k x hxk
        rw [hbl.cell (p := ⟨b, off + k, none⟩) (World.block_lt_of_cell? _ _ h0)]
        exact h0
      have HXK := hide hxk
      have hfz := hrow.frozenAt k
      obtain ⟨old, hold⟩ : ∃ old, wr.cell? ⟨w.heap.size, k, none⟩ = some old := by
        refine ⟨(half xs k)[k]'(by rw [half_len _ _ hk]; exact hlt), ?_⟩
        rw [hrow.cellAt k (by omega)]
        exact List.getElem?_eq_getElem _
      have hst := hide (hrow.stored k (.string x)).1
      have hb2 := hide (hbl.setCell (p := ⟨w.heap.size, k, none⟩) (Nat.le_refl _) (.string x))
      have hset := hide (half_set xs k x hxk)
      clear hxk hrow hbl
      go_wp2
      go_roundw
      case rel => exact ⟨k + 1, by omega, by go_num, by rw [← unhide hset]; exact unhide hst, unhide hb2⟩
      case measure => simp [intOf]; omega
    · have hkn : k = xs.length := by omega
      subst hkn
      have HR := hide hrow
      clear hrow
      go_wp2
      go_ret
      refine ⟨_, _, rfl, strs_of_owns (B := w.heap.size) (cap := xs.length) ?_, hbl⟩
      rw [← half_all]
      exact unhide HR

theorem clone_any (ao : Option Addr) (cap : Nat) (xs : List ByteArray) (w : World) (hl : xs.length ≤ 65536) (h : StrsAt w ao xs) :
    Calls Try.prog 7 #[.slice ao xs.length cap] w fun e w' => Cloned w xs e w' := by
  rcases h with rfl | ⟨b, off, rfl, hc⟩
  · cases ao with
    | none => exact clone_nil cap w
    | some a => exact clone_empty a cap w
  · exact clone_some b off cap xs w hl hc
end Go.Proofs.Qxb6002403a
