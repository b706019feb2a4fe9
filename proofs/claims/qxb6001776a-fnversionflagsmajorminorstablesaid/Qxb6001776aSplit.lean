import Derived.Test.Qxb6001776aSmall
import Derived.Test.Qxb6001776aPlain
namespace Go.Proofs.Qxb6001776a
open Go.ChangeShapes Go.WideShapes Go.ChangeAt Go.RowKit
set_option linter.unusedVariables false
set_option linter.unusedSimpArgs false

theorem byte_hit {a c : UInt8} {n : Int} (hc : n = c.toNat) (h : a = c) : ((a.toNat : Int) == n) = true := by rw [byte_eq hc]; simp [h]
theorem byte_miss {a c : UInt8} {n : Int} (hc : n = c.toNat) (h : a ≠ c) : ((a.toNat : Int) == n) = false := by rw [byte_eq hc]; simp [h]

theorem info9 : (Try.prog.info? 9).map (fun i => (i.zero, i.size, i.bytes)) = some (some (.string ByteArray.empty), 1, 16) := by kernel_rfl

theorem sp_len (l : List UInt8) : (sp l).length ≤ l.length + 1 := by
  induction l with
  | nil => simp [sp]
  | cons b l ih =>
    unfold sp
    split
    · simp; omega
    · split
      · simp
      · rename_i h; rw [h] at ih; simp at ih ⊢; omega

/-- What one byte does to the pieces. -/
theorem piece_space (s : ByteArray) (P : List ByteArray) (st k : Nat) (h : k < s.size) (hst : st ≤ k) (hb : s[k] = 32)
    (hsp : sp (s.data.toList.take k) = P.map (·.data.toList) ++ [(s.extract st k).data.toList]) :
    sp (s.data.toList.take (k + 1)) = (P ++ [s.extract st k]).map (·.data.toList) ++ [(s.extract (k + 1) (k + 1)).data.toList] := by
  rw [take_snoc s k h, hb, sp_snoc_space, hsp]
  simp
theorem piece_other (s : ByteArray) (P : List ByteArray) (st k : Nat) (h : k < s.size) (hst : st ≤ k) (hb : s[k] ≠ 32)
    (hsp : sp (s.data.toList.take k) = P.map (·.data.toList) ++ [(s.extract st k).data.toList]) :
    sp (s.data.toList.take (k + 1)) = P.map (·.data.toList) ++ [(s.extract st (k + 1)).data.toList] := by
  rw [take_snoc s k h, sp_snoc_other _ _ hb _ _ hsp]
  congr 2
  rw [Lib.extract_data, Lib.extract_data]
  have e : s[k] = s.data.toList[k]'(by simpa using h) := rfl
  rw [e]
  have : k + 1 - st = (k - st) + 1 := by omega
  rw [this, List.take_succ_eq_append_getElem (by simp; omega)]
  congr 2
  rw [List.getElem_drop]
  congr 1; omega

theorem piece_len (s : ByteArray) (P : List ByteArray) (st k : Nat)
    (hsp : sp (s.data.toList.take k) = P.map (·.data.toList) ++ [(s.extract st k).data.toList]) : P.length ≤ k := by
  have := sp_len (s.data.toList.take k)
  rw [hsp] at this
  simp at this
  omega

theorem slice_of_owns {w : World} {B e size n : Nat} {v : Value} {xs : List Value} (h : w.ownsRow B e size v (n + 1) xs) (hn : 0 < n + 1) : ∃ g cap, v = .slice (some ⟨g, 0, none⟩) (n + 1) cap := by
  rcases h.2 with ⟨_, h⟩ | ⟨g3, cap3, _, h, _⟩
  · omega
  · exact ⟨g3, cap3, h⟩

set_option maxHeartbeats 800000 in
theorem split_any (s : ByteArray) (w : World) (hs : s.size ≤ 4294967296) :
    Calls Try.prog 16 #[.string s] w fun e w' => ∃ (g cap : Nat) (P : List ByteArray), e = .returned (.slice (some ⟨g, 0, none⟩) P.length cap) ∧
      sp s.data.toList = P.map (·.data.toList) ∧ w'.ownsRow w.heap.size 9 1 (.slice (some ⟨g, 0, none⟩) P.length cap) P.length (P.map Value.string) ∧ Below w.heap.size w w' := by
  obtain ⟨i0, hi, hz0, hz1, hz2⟩ := info_parts info9
  go_enter Try.func16, Try.ntmps16
  go_wp2
  go_loopw [3, 4, 5] (fun v t i wr => ∃ (k st : Nat) (P : List ByteArray) (ao : Option Addr) (cv : Nat), k ≤ s.size ∧ st ≤ k ∧ i = .int .i64 k ∧ t = .int .i64 st ∧
      sp (s.data.toList.take k) = P.map (·.data.toList) ++ [(s.extract st k).data.toList] ∧
      v = .slice ao P.length cv ∧ wr.ownsRow w.heap.size 9 1 v P.length (P.map Value.string) ∧ Below w.heap.size w wr)
    (fun _ _ i _ => s.size - (intOf i).toNat)
  case atStart => exact ⟨0, 0, [], none, 0, Nat.zero_le _, Nat.le_refl _, rfl, rfl, by simp [sp], rfl, World.ownsRow_nil _ _ _ _, Below.refl _ _⟩
  case round =>
    obtain ⟨k, st, P, ao, cv, hk, hst, rfl, rfl, hsp0, rfl, hown, hnx⟩ := hrel
    have hpl := piece_len s P st k hsp0
    have hsp := hide hsp0
    clear hsp0
    have hsize := hnx.size
    by_cases hlt : k < s.size
    · by_cases hb : s[k] = 32
      · have ht : ((s[k].toNat : Int) == 32) = true := byte_hit (c := 32) rfl hb
        have HB := hide hb; clear hb
        go_wp2_with (first
          | (at_builtin; refine wpList_append_own _ rfl _ _ 31 rfl w.heap.size 9 i0 (.string ByteArray.empty) 1 16 Try.underlying31 hi hz0 hz1 hz2 rfl (by decide) _ _ _ rfl (hown.alloc _) ⟨wr.heap.size, 0, none⟩ 1 1 [.string (s.extract st k)] rfl rfl (cell_one_new _ _ _) (fun x hx => by simp at hx; subst hx; rfl) (by unfold maxLen; omega) (by omega) (by simp; omega) ?_; intro v' w3 hown' hgrow3 hnil3))
        go_roundw
        case rel =>
          obtain ⟨g3, cap3, hv3⟩ := slice_of_owns hown' (by omega)
          have hL : (P ++ [s.extract st k]).length = P.length + 1 := by simp
          rw [← hL] at hv3
          exact ⟨k + 1, k + 1, P ++ [s.extract st k], _, cap3, by omega, by omega, by go_num, by go_num, piece_space s P st k hlt hst (unhide HB) (unhide hsp), hv3, by rw [List.map_append, hL]; exact hown',
            (hnx.alloc hsize _).grown hgrow3 (by simp; omega) (fun q hq => (hown.lt q hq).1)⟩
        case measure => simp [intOf]; omega
      · have ht : ((s[k].toNat : Int) == 32) = false := byte_miss (c := 32) rfl hb
        go_wp2
        go_roundw
        case rel => exact ⟨k + 1, st, P, ao, cv, by omega, by omega, by go_num, rfl, piece_other s P st k hlt hst hb (unhide hsp), rfl, hown, hnx⟩
        case measure => simp [intOf]; omega
    · have hkn : k = s.size := by omega
      subst hkn
      go_wp2_with (first
        | (at_builtin; refine wpList_append_own _ rfl _ _ 31 rfl w.heap.size 9 i0 (.string ByteArray.empty) 1 16 Try.underlying31 hi hz0 hz1 hz2 rfl (by decide) _ _ _ rfl (hown.alloc _) ⟨wr.heap.size, 0, none⟩ 1 1 [.string (s.extract st s.size)] rfl rfl (cell_one_new _ _ _) (fun x hx => by simp at hx; subst hx; rfl) (by unfold maxLen; omega) (by omega) (by simp; omega) ?_; intro v' w3 hown' hgrow3 hnil3))
      obtain ⟨g3, cap3, hv3⟩ := slice_of_owns hown' (by omega)
      have hL : (P ++ [s.extract st s.size]).length = P.length + 1 := by simp
      rw [← hL] at hv3 hown'
      subst hv3
      go_ret
      refine ⟨g3, cap3, P ++ [s.extract st s.size], rfl, ?_, by rw [List.map_append]; exact hown', (hnx.alloc hsize _).grown hgrow3 (by simp; omega) (fun q hq => (hown.lt q hq).1)⟩
      have := unhide hsp
      rw [List.take_of_length_le (by simp)] at this
      rw [this]; simp
end Go.Proofs.Qxb6001776a
