import Derived.Test.Qxb6002403aZz
import Derived.Test.Qxb6002403aClone
import Derived.Test.Qxb6002403aBytes6
namespace Go.Proofs.Qxb6002403a.fnRequestHostConsumesHeader
open Go.ChangeShapes Go.WideShapes Go.ChangeAt Go.RowKit
set_option linter.unusedVariables false
set_option linter.unusedSimpArgs false

theorem below_grown {w w1 w2 : World} {B : Nat} (h : Below w.heap.size w w1) (hg : w1.grownBy w2 (some B)) (hB : w.heap.size ≤ B) : Below w.heap.size w w2 :=
  h.grown hg h.size (fun k e => by cases e; exact hB)

theorem found_one (v : Value) : found ⟨#[72, 111, 115, 116]⟩ (#[].push { key := .string ⟨#[72, 111, 115, 116]⟩, val := v, born := 0 }) = some (some (0, v)) := by
  have h : ((⟨#[72, 111, 115, 116]⟩ : ByteArray) == ⟨#[72, 111, 115, 116]⟩) = true := by rfl
  simp only [found, List.push_toArray, List.nil_append]
  simp only [Instr.findNow, Instr.sameNow, h]
theorem erase_one (e : MapEntry) : (#[].push e).eraseIdxIfInBounds 0 = #[] := by
  simp [Array.eraseIdxIfInBounds]
theorem found_gone (e : MapEntry) : found ⟨#[72, 111, 115, 116]⟩ ((#[].push e).eraseIdxIfInBounds 0) = some none := by
  rw [erase_one]; rfl

set_option maxHeartbeats 3200000 in
theorem walk (ao : Option Addr) (cap : Nat) (xs : List ByteArray) (p : Bool) (u : ByteArray) (m1 m2 : Int) (w : World) (hs : StrsAt w ao xs) (hx : ∀ x ∈ xs, x.size ≤ maxLen) (hl : xs.length ≤ maxLen) (hu : u.size ≤ maxLen) :
    Calls Try.prog 4 #[.slice ao xs.length cap, .bool p, .string u, .int .i64 m1, .int .i64 m2] w fun e w' => e = .returned (.bool true) ∧ Below w.heap.size w w' := by
  have H11 := hide (bytes11_any ao cap xs p u m1 m2 w hu hx hl hs)
  have H6 := hide (bytes6_any ao none cap 0 xs [] ⟨#[]⟩ u w (by unfold maxLen; decide) hu hs hx hl (Or.inl rfl) (by simp) (by unfold maxLen; decide))
  have HS := hide hs
  have HX := hide hx
  have HL := hide hl
  have HU := hide hu
  have hmm := @run_makeMap Try.prog
  unfold maxLen at hl hu
  clear hs hx
  go_enter Try.func4, Try.ntmps4
  go_wp2_with fail
  refine (unhide H11).mono ?_
  rintro e w1 ⟨⟨b, rfl⟩, hw1⟩
  have hw2 := hw1.symm
  subst hw2
  clear hw1
  cases b
  · go_wp2
    go_ret
    exact ⟨rfl, Below.refl _ _⟩
  go_wp2_with fail
  refine (unhide H6).mono ?_
  rintro e w1 ⟨⟨z, rfl, hz⟩, hw1⟩
  have hw2 := hw1.symm
  subst hw2
  clear hw1
  by_cases hzz : z ≤ 1048576
  case neg =>
    clear hz
    go_wp2
    go_ret
    exact ⟨rfl, Below.refl _ _⟩
  have hn := (hz hzz).1
  clear hz
  cases p
  · go_wp2_with fail
    refine (clone_any ao cap xs _ hn (unhide HS)).mono ?_
    rintro e w1 ⟨ao1, c1, rfl, hs1, hb1⟩
    go_wp2_with fail
    have hB : w.heap.size ≤ w1.heap.size := hb1.size
    have hbm : Below w.heap.size w (w1.alloc (.map #[] 0)) := hb1.alloc hb1.size _
    have hm0 : MapIs (w1.alloc (.map #[] 0)) w1.heap.size #[] 0 := heap_alloc_new _ _
    have HM0 := hide hm0
    clear hm0 hb1 hs1
    by_cases hm1c : 1 ≤ m1
    · refine (zz_absent_refused _ _ _ u m1 _ (unhide HM0) rfl hm1c).mono ?_
      rintro e w3 ⟨g, rfl, hg3⟩
      have hb3 := hbm.grown hg3 hbm.size (fun k e => by cases e)
      clear hbm hg3
      go_wp2
      go_ret
      exact ⟨rfl, hb3⟩
    · refine (zz_absent_ok _ _ _ u m1 _ (unhide HM0) rfl (by omega)).mono ?_
      rintro e w3 ⟨rfl, hg3, hm3⟩
      have hb3 := below_grown hbm hg3 hB
      have HM3 := hide hm3
      clear hbm hg3 hm3
      generalize w1.heap.size = B at HM3 hB ⊢
      cases hE : u.toList.isEmpty
      all_goals
        by_cases hm2c : 1 ≤ m2
        · go_wp2_with fail
          refine (zz_absent_refused _ _ _ u m2 _ (unhide HM3) rfl hm2c).mono ?_
          rintro e w4 ⟨g, rfl, hg4⟩
          have hb4 := hb3.trans (Below.refl _ w3 |>.grown hg4 hb3.size (fun k e => by cases e))
          clear hb3 hg4
          go_wp2
          go_ret
          exact ⟨rfl, hb4⟩
        · go_wp2_with fail
          refine (zz_absent_ok _ _ _ u m2 _ (unhide HM3) rfl (by omega)).mono ?_
          rintro e w4 ⟨rfl, hg4, hm4⟩
          have hb4 := below_grown hb3 hg4 hB
          clear hb3 hg4 hm4
          go_wp2
          go_ret
          exact ⟨rfl, hb4⟩
  · by_cases hne : xs.length = 0
    · go_wp2
      go_ret
      exact ⟨rfl, Below.refl _ _⟩
    · have hne' : ((xs.length : Int) == 0) = false := by simp [hne]
      go_wp2_with fail
      refine (clone_any ao cap xs _ hn (unhide HS)).mono ?_
      rintro e w1 ⟨ao1, c1, rfl, hs1, hb1⟩
      go_wp2_with fail
      have hB : w.heap.size ≤ w1.heap.size := hb1.size
      have hbm : Below w.heap.size w (w1.alloc (.map #[] 0)) := hb1.alloc hb1.size _
      have hm0 : MapIs (w1.alloc (.map #[] 0)) w1.heap.size #[] 0 := heap_alloc_new _ _
      have hsm := hs1.below ((Below.refl _ _).alloc (Nat.le_refl _) (.map #[] 0))
      refine (clone_any ao1 c1 xs _ hn hsm).mono ?_
      rintro e w2 ⟨ao2, c2, rfl, hs2, hb2⟩
      have hm2 := hm0.below hb2
      have hbw := hbm.trans (hb2.mono hbm.size)
      have HM2 := hide hm2
      clear hm0 hm2 hb1 hs1 hbm hsm hb2
      generalize w1.heap.size = B at HM2 hB ⊢
      go_wp2_with (first
        | (at_mapUpdate; refine wpList_put _ rfl _ _ _ 26 22 rfl Try.underlying26 B #[] 0 rfl (unhide HM2) ⟨#[72, 111, 115, 116]⟩ (.slice ao2 xs.length c2) rfl rfl rfl ?_; intro w5 hm5 hg5)
        | fail)
      have hs5 := hs2.kept hg5 (fun k e => by cases e; exact ⟨_, _, unhide HM2⟩)
      have hb5 := below_grown hbw hg5 hB
      have hz := zz_present B _ _ 0 ao2 c2 xs u m1 w5 hm5 (found_one _) hs5 (unhide HX) (unhide HL) (fun e => hne (by rw [e]; rfl))
      clear hm5 hg5 hs5 hs2 hbw
      by_cases hone : ∃ x, xs = [x] ∧ allOK x.data.toList = true
      · obtain ⟨x, hxs, hok⟩ := hone
        have hcall := hide (hz.1 x hxs hok)
        clear hz hok
        refine (unhide hcall).mono ?_
        rintro e w3 ⟨rfl, hg3, hm3⟩
        have hb3 := below_grown hb5 hg3 hB
        have HM3 := hide hm3
        have HXS := hide hxs
        clear hb5 hg3 hm3 hxs
        cases hE : u.toList.isEmpty
        · rw [pick_other hE]
          by_cases hm2c : 1 ≤ m2
          · go_wp2_with fail
            refine (zz_absent_refused _ _ _ u m2 _ (unhide HM3) (found_gone _) hm2c).mono ?_
            rintro e w4 ⟨g, rfl, hg4⟩
            have hb4 := hb3.trans (Below.refl _ w3 |>.grown hg4 hb3.size (fun k e => by cases e))
            clear hb3 hg4
            go_wp2
            go_ret
            exact ⟨rfl, hb4⟩
          · go_wp2_with fail
            refine (zz_absent_ok _ _ _ u m2 _ (unhide HM3) (found_gone _) (by omega)).mono ?_
            rintro e w4 ⟨rfl, hg4, hm4⟩
            have hb4 := below_grown hb3 hg4 hB
            clear hb3 hg4 hm4
            go_wp2
            go_ret
            exact ⟨rfl, hb4⟩
        · rw [pick_empty hE]
          by_cases hm2c : 1 ≤ m2
          · go_wp2_with fail
            refine (zz_absent_refused _ _ _ u m2 _ (unhide HM3) (found_gone _) hm2c).mono ?_
            rintro e w4 ⟨g, rfl, hg4⟩
            have hb4 := hb3.trans (Below.refl _ w3 |>.grown hg4 hb3.size (fun k e => by cases e))
            clear hb3 hg4
            go_wp2
            go_ret
            exact ⟨rfl, hb4⟩
          · go_wp2_with fail
            refine (zz_absent_ok _ _ _ u m2 _ (unhide HM3) (found_gone _) (by omega)).mono ?_
            rintro e w4 ⟨rfl, hg4, hm4⟩
            have hb4 := below_grown hb3 hg4 hB
            clear hb3 hg4 hm4
            go_wp2
            go_ret
            exact ⟨rfl, hb4⟩
      · have hbad : ∀ x, xs = [x] → allOK x.data.toList = false := by
          intro x hx
          cases hc : allOK x.data.toList
          · rfl
          · exact absurd ⟨x, hx, hc⟩ hone
        have hcall := hide (hz.2 hbad)
        clear hz hone hbad
        refine (unhide hcall).mono ?_
        rintro e w3 ⟨g, rfl, hg3⟩
        have hb3 := hb5.grown hg3 hb5.size (fun k e => by cases e)
        clear hb5 hg3
        go_wp2
        go_ret
        exact ⟨rfl, hb3⟩
end Go.Proofs.Qxb6002403a.fnRequestHostConsumesHeader
