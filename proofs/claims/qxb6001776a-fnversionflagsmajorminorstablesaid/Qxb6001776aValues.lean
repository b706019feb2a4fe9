import Derived.Test.Qxb6001776aKeys
namespace Go.Proofs.Qxb6001776a
open Go.ChangeShapes Go.WideShapes Go.ChangeAt Go.RowKit
set_option linter.unusedVariables false
set_option linter.unusedSimpArgs false

def keyOf : Nat → ByteArray
  | 0 => key0
  | 1 => key1
  | 2 => key2
  | 3 => key3
  | 4 => key4
  | _ => key5

theorem key_any (k : Nat) (hk : k < 6) (w : World) : Calls Try.prog 17 #[.int .i64 (k : Int)] w fun e w' => e = .returned (.string (keyOf k)) ∧ w' = w := by
  rcases (show k = 0 ∨ k = 1 ∨ k = 2 ∨ k = 3 ∨ k = 4 ∨ k = 5 from by omega) with rfl | rfl | rfl | rfl | rfl | rfl
  · exact key0_any w
  · exact key1_any w
  · exact key2_any w
  · exact key3_any w
  · exact key4_any w
  · exact key5_any w

theorem keyOf_size (k : Nat) : (keyOf k).size ≤ 64 := by
  unfold keyOf
  split <;> decide

def nilB : ByteArray := ⟨#[]⟩
def xB : ByteArray := ⟨#[45, 88]⟩
def eqB : ByteArray := ⟨#[61]⟩

/-- The array variable behind k rounds; the result's cells, not yet written. -/
structure VC (B : Nat) (V : Nat → ByteArray) (k : Nat) (wr : World) : Prop where
  vc : ∀ j, j < 6 → wr.cell? ⟨B + 1, j, none⟩ = some (.string (if j < k then V j else ⟨#[]⟩))
  vf : ∀ j, j < 6 → wr.frozen? ⟨B + 1, j, none⟩ = false
  rc : ∀ j, j < 6 → wr.cell? ⟨B, j, none⟩ = some (.string ⟨#[]⟩)
  rf : ∀ j, j < 6 → wr.frozen? ⟨B, j, none⟩ = false

theorem VC.step {B : Nat} {V : Nat → ByteArray} {k : Nat} {wr : World} (h : VC B V k wr) (hk : k < 6) : VC B V (k + 1) (wr.setCell ⟨B + 1, k, none⟩ (.string (V k))) where
  vc := by
    intro j hj
    by_cases e : j = k
    · subst e
      rw [World.cell?_setCell_same _ _ _ (h.vc j hj), if_pos (by omega)]
    · rw [World.cell?_setCell_other _ _ _ _ (by intro e'; simp at e' <;> omega), h.vc j hj]
      by_cases c : j < k
      · rw [if_pos c, if_pos (by omega)]
      · rw [if_neg c, if_neg (by omega)]
  vf := by intro j hj; rw [World.frozen?_setCell]; exact h.vf j hj
  rc := by intro j hj; rw [World.cell?_setCell_other _ _ _ _ (by intro e'; simp at e')]; exact h.rc j hj
  rf := by intro j hj; rw [World.frozen?_setCell]; exact h.rf j hj

theorem vc_start {w w1 : World} {V : Nat → ByteArray} (hb : Below ((w.alloc (.cells #[.string ⟨#[]⟩, .string ⟨#[]⟩, .string ⟨#[]⟩, .string ⟨#[]⟩, .string ⟨#[]⟩, .string ⟨#[]⟩] 26)).alloc (.cells #[.string ⟨#[]⟩, .string ⟨#[]⟩, .string ⟨#[]⟩, .string ⟨#[]⟩, .string ⟨#[]⟩, .string ⟨#[]⟩] 26)).heap.size
      ((w.alloc (.cells #[.string ⟨#[]⟩, .string ⟨#[]⟩, .string ⟨#[]⟩, .string ⟨#[]⟩, .string ⟨#[]⟩, .string ⟨#[]⟩] 26)).alloc (.cells #[.string ⟨#[]⟩, .string ⟨#[]⟩, .string ⟨#[]⟩, .string ⟨#[]⟩, .string ⟨#[]⟩, .string ⟨#[]⟩] 26)) w1) : VC w.heap.size V 0 w1 where
  vc := by
    intro j hj
    rw [hb.cell (p := ⟨w.heap.size + 1, j, none⟩) (by simp), World.cell?_alloc_at _ _ _ _ (by simp), if_neg (by omega)]
    rcases (show j = 0 ∨ j = 1 ∨ j = 2 ∨ j = 3 ∨ j = 4 ∨ j = 5 from by omega) with rfl | rfl | rfl | rfl | rfl | rfl <;> rfl
  vf := by
    intro j hj
    rw [hb.frozen (p := ⟨w.heap.size + 1, j, none⟩) (by simp)]
    simp
  rc := by
    intro j hj
    rw [hb.cell (p := ⟨w.heap.size, j, none⟩) (by simp; omega), World.cell?_alloc_past _ _ _ (by simp), World.cell?_alloc_at _ _ _ _ (by simp)]
    rcases (show j = 0 ∨ j = 1 ∨ j = 2 ∨ j = 3 ∨ j = 4 ∨ j = 5 from by omega) with rfl | rfl | rfl | rfl | rfl | rfl <;> rfl
  rf := by
    intro j hj
    rw [hb.frozen (p := ⟨w.heap.size, j, none⟩) (by simp; omega)]
    simp

theorem xB_is : (xB.toList == [45, 88]) = true := by rw [Lib.toList_data]; rfl

theorem pre_kev (k v : ByteArray) : Lib.hasPrefix (k ++ eqB ++ v).data.toList (k ++ eqB).data.toList = true := by
  unfold Lib.hasPrefix
  rw [List.isPrefixOf_iff_prefix]
  exact ⟨v.data.toList, by simp⟩

theorem cut_kev (k v : ByteArray) : (k ++ eqB ++ v).extract (k.size + 1) (k.size + 1 + v.size) = v := by
  have h : (k ++ eqB).data.toList.length = k.size + 1 := by
    rw [← Lib.size_eq, ByteArray.size_append]; rfl
  rw [Lib.extract_eq, ← Lib.mk_data v]
  congr 2
  have e : (k ++ eqB ++ v).data.toList = (k ++ eqB).data.toList ++ v.data.toList := by simp
  rw [Lib.mk_data, e, ← h, List.drop_left, Nat.add_sub_cancel_left, Lib.size_eq, List.take_length]

set_option maxHeartbeats 800000 in
theorem values_ok (f : ByteArray) (V : Nat → ByteArray) (w : World) (hs : f.size ≤ 4294967296) (hV : ∀ j, (V j).size ≤ 4294967296)
    (hsp : sp f.data.toList = [xB, keyOf 0 ++ eqB ++ V 0, xB, keyOf 1 ++ eqB ++ V 1, xB, keyOf 2 ++ eqB ++ V 2, xB, keyOf 3 ++ eqB ++ V 3, xB, keyOf 4 ++ eqB ++ V 4, xB, keyOf 5 ++ eqB ++ V 5].map (·.data.toList)) :
    Calls Try.prog 11 #[.string f] w fun e w' => e = .returned (.tuple #[.agg #[.string (V 0), .string (V 1), .string (V 2), .string (V 3), .string (V 4), .string (V 5)], .bool true]) ∧ Below w.heap.size w w' := by
  have HSP := hide hsp; clear hsp
  go_enter Try.func11, Try.ntmps11
  go_wp2_with fail
  refine (split_any f _ hs).mono ?_
  rintro e w1 ⟨g, cap, P, rfl, hP, hown, hb⟩
  have hP' : P = [xB, keyOf 0 ++ eqB ++ V 0, xB, keyOf 1 ++ eqB ++ V 1, xB, keyOf 2 ++ eqB ++ V 2, xB, keyOf 3 ++ eqB ++ V 3, xB, keyOf 4 ++ eqB ++ V 4, xB, keyOf 5 ++ eqB ++ V 5] := by
    rw [unhide HSP] at hP
    refine (List.map_inj_right ?_).1 hP.symm
    intro x y hxy
    cases x; cases y; simp at hxy; simp [hxy]
  clear hP
  have hPl : P.length = 12 := by rw [hP']; rfl
  have hcw : ∀ j, j < 6 → w1.cell? ⟨g, 2 * j, none⟩ = some (.string xB) ∧ w1.cell? ⟨g, 2 * j + 1, none⟩ = some (.string (keyOf j ++ eqB ++ V j)) := by
    intro j hj
    rw [hown.cellAt (2 * j) (by omega), hown.cellAt (2 * j + 1) (by omega), hP']
    rcases (show j = 0 ∨ j = 1 ∨ j = 2 ∨ j = 3 ∨ j = 4 ∨ j = 5 from by omega) with rfl | rfl | rfl | rfl | rfl | rfl <;> exact ⟨rfl, rfl⟩
  have hg : w.heap.size + 2 ≤ g := by
    have := (hown.lt g rfl).1
    simp at this; omega
  have hz : w.heap.size + 2 ≤ w1.heap.size := by
    have := hb.size; simp at this; omega
  have hvc : VC w.heap.size V 0 w1 := vc_start hb
  have hbw : Below w.heap.size w w1 := (((Below.refl _ _).alloc (Nat.le_refl _) _).alloc (by simp) _).trans (hb.mono (by simp; omega))
  clear hP' hown hb
  go_wp2
  go_loopw [6] (fun i wr => ∃ k : Nat, k ≤ 6 ∧ i = .int .i64 k ∧ VC w.heap.size V k wr ∧ (∀ j, j < 6 → wr.cell? ⟨g, 2 * j, none⟩ = some (.string xB) ∧ wr.cell? ⟨g, 2 * j + 1, none⟩ = some (.string (keyOf j ++ eqB ++ V j))) ∧ Below w.heap.size w wr ∧ w.heap.size + 2 ≤ wr.heap.size)
    (fun i _ => 6 - (intOf i).toNat)
  case atStart => exact ⟨0, by omega, rfl, hvc, hcw, hbw, hz⟩
  case round =>
    obtain ⟨k, hk, rfl, hv, hc, hbl, hzz⟩ := hrel
    by_cases hlt : k < 6
    · have c1 := (hc k hlt).1
      have c2 := (hc k hlt).2
      have hx := xB_is
      have hks := keyOf_size k
      go_wp2_with fail
      refine (key_any k hlt _).mono ?_
      rintro e w2 ⟨rfl, rfl⟩
      have hvk := hV k
      have heq : eqB.size = 1 := rfl
      have hpre : Lib.hasPrefix (keyOf k ++ eqB ++ V k).data.toList (keyOf k ++ ⟨#[61]⟩).data.toList = true := pre_kev _ _
      have Hpre := hide hpre
      clear hpre
      go_wp2_with fail
      refine (prefix_any _ _ _ (by unfold maxLen; rw [ByteArray.size_append, ByteArray.size_append]; omega) (by unfold maxLen; rw [ByteArray.size_append]; show _ + 1 ≤ _; omega)).mono ?_
      rintro e w3 ⟨rfl, rfl⟩
      rw [unhide Hpre]
      have f1 := hv.vf k hlt
      have g1 := hv.vc k hlt
      go_wp2_with fail
      have hcut := cut_kev (keyOf k) (V k)
      rw [hcut]
      refine ⟨⟨k + 1, by omega, by go_num, hv.step hlt, ?_, hbl.setCell (by simp) _, by simpa using hzz⟩, by simp [intOf]; omega⟩
      intro j hj
      rw [World.cell?_setCell_other _ _ _ _ (by intro e'; simp at e' <;> omega), World.cell?_setCell_other _ _ _ _ (by intro e'; simp at e' <;> omega)]
      exact hc j hj
    · have hk6 : k = 6 := by omega
      subst hk6
      have v0 := hv.vc 0 (by omega); have v1 := hv.vc 1 (by omega); have v2 := hv.vc 2 (by omega)
      have v3 := hv.vc 3 (by omega); have v4 := hv.vc 4 (by omega); have v5 := hv.vc 5 (by omega)
      rw [if_pos (by omega)] at v0 v1 v2 v3 v4 v5
      have r0 := hv.rc 0 (by omega); have r1 := hv.rc 1 (by omega); have r2 := hv.rc 2 (by omega)
      have r3 := hv.rc 3 (by omega); have r4 := hv.rc 4 (by omega); have r5 := hv.rc 5 (by omega)
      have f0 := hv.rf 0 (by omega); have f1 := hv.rf 1 (by omega); have f2 := hv.rf 2 (by omega)
      have f3 := hv.rf 3 (by omega); have f4 := hv.rf 4 (by omega); have f5 := hv.rf 5 (by omega)
      clear hc hcw hvc
      go_wp2
      refine bodyPost_ret (v := .tuple #[.agg #[.string (V 0), .string (V 1), .string (V 2), .string (V 3), .string (V 4), .string (V 5)], .bool true]) (by simp [results, Try.results11, go_sem, r0, r1, r2, r3, r4, r5]) rfl ⟨rfl, ?_⟩
      exact (((((hbl.setCell (by simp) _).setCell (by simp) _).setCell (by simp) _).setCell (by simp) _).setCell (by simp) _).setCell (by simp) _
end Go.Proofs.Qxb6001776a
