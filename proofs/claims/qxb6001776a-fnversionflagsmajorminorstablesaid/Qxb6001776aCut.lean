import Derived.Test.Qxb6001776aSmall
import Derived.Test.Qxb6001776aParts
import Derived.Test.Qxb6001776aShelf
import Derived.RegionTactic
namespace Go.Proofs.Qxb6001776a
open Go.ChangeShapes Go.WideShapes Go.ChangeAt Go.RowKit
set_option linter.unusedVariables false
set_option linter.unusedSimpArgs false

theorem bef_hit (s : ByteArray) (i : Nat) (h : bef s.data.toList = s.data.toList.take i) : s.extract 0 i = ⟨(bef s.data.toList).toArray⟩ := by
  rw [Lib.extract_eq, h]; simp
theorem aft_hit (s : ByteArray) (i : Nat) (h : aft s.data.toList = s.data.toList.drop (i + 1)) : s.extract (i + 1) s.size = ⟨(aft s.data.toList).toArray⟩ := by
  rw [Lib.extract_eq, h, Lib.size_eq, List.take_of_length_le (by simp)]

set_option maxHeartbeats 400000 in
theorem cut21 (s : ByteArray) (w : World) (hs : s.size ≤ 4294967296) :
    Calls Try.prog 21 #[.string s, .string ⟨#[46]⟩] w fun e w' => ∃ b n, e = .returned (.tuple #[.string ⟨(bef s.data.toList).toArray⟩, .string ⟨(aft s.data.toList).toArray⟩, .bool b]) ∧ w' = w.drewN n := by
  rcases cut_cases s.data.toList with hix | ⟨i, hix⟩
  · obtain ⟨e1, e2⟩ := cut_miss _ hix
    rw [e1, e2, Lib.mk_data]
    have HIX := hide hix
    clear hix e1 e2
    go_enter Try.func21, Try.ntmps21
    go_wp2_with (go_at_call 26; refine (Try.stringslite_Index_one _ 46 _).mono ?_; rintro e w' ⟨rfl, rfl⟩; rw [unhide HIX])
    go_ret3
    exact ⟨false, 0, rfl, rfl⟩
  · obtain ⟨e1, e2, e3⟩ := cut_hit _ _ hix
    have g1 := hide (bef_hit s i e1)
    have g2 := hide (aft_hit s i e2)
    rw [← Lib.size_eq] at e3
    have HIX := hide hix
    clear hix e1 e2
    go_enter Try.func21, Try.ntmps21
    go_wp2_with (go_at_call 26; refine (Try.stringslite_Index_one _ 46 _).mono ?_; rintro e w' ⟨rfl, rfl⟩; rw [unhide HIX])
    go_region
    go_wp2
    go_ret3
    exact ⟨true, 1, by rw [← unhide g1, ← unhide g2]; rfl, rfl⟩

set_option maxHeartbeats 400000 in
theorem cut18 (s : ByteArray) (w : World) (hs : s.size ≤ 4294967296) :
    Calls Try.prog 18 #[.string s, .string ⟨#[46]⟩] w fun e w' => ∃ b n, e = .returned (.tuple #[.string ⟨(bef s.data.toList).toArray⟩, .string ⟨(aft s.data.toList).toArray⟩, .bool b]) ∧ w' = w.drewN n := by
  go_enter Try.func18, Try.ntmps18
  go_wp2_with (go_at_call 21; refine (cut21 _ _ hs).mono ?_; rintro e w' ⟨b, n, rfl, rfl⟩)
  go_ret3
  exact ⟨_, _, rfl, rfl⟩

end Go.Proofs.Qxb6001776a
