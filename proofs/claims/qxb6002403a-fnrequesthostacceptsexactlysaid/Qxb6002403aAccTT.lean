import Derived.Test.Qxb6002403aAccKit
namespace Go.Proofs.Qxb6002403a.fnRequestHostAcceptsExactly
open Go.ChangeShapes Go.WideShapes Go.ChangeAt Go.RowKit
set_option linter.unusedVariables false
set_option linter.unusedSimpArgs false

set_option maxHeartbeats 6400000 in
theorem acc_tt (a1 a3 : Option Addr) (c1 c3 : Nat) (xs ys : List ByteArray) (key u : ByteArray) (m : Int) (w : World) (hs : StrsAt w a1 xs) (hx : ∀ x ∈ xs, x.size ≤ maxLen) (hl : xs.length ≤ maxLen)
    (hs3 : StrsAt w a3 ys) (hy : ∀ x ∈ ys, x.size ≤ maxLen) (hl3 : ys.length ≤ maxLen) (hk : key.size ≤ maxLen) (hu : u.size ≤ maxLen) (hkey : (key.toList == [72, 111, 115, 116]) = false) :
    Calls Try.prog 3 #[.slice a1 xs.length c1, .bool true, .string key, .slice a3 ys.length c3, .string u, .int .i64 m] w fun e w' => e = .returned (.bool true) ∧ Below w.heap.size w w' := by
  have H5 := hide (bytes5_any a1 a3 c1 c3 xs ys true key u m w hk hu hs hx hl hs3 hy hl3)
  have H6 := hide (bytes6_any a1 a3 c1 c3 xs ys key u w hk hu hs hx hl hs3 hy hl3)
  have HX := hide hx
  have HL := hide hl
  have HS := hide (Holds.cons hs (Holds.cons hs3 Holds.nil))
  have HKN := hide hkey
  have hmm := @run_makeMap Try.prog
  unfold maxLen at hl hl3 hu hk
  clear hs hx hs3 hy
  go_enter Try.func3, Try.ntmps3
  go_wp2_with fail
  refine (unhide H5).mono ?_
  rintro e w1 ⟨⟨b, rfl⟩, hw1⟩
  have hw2 := hw1.symm
  subst hw2
  clear hw1
  cases b
  · go_wp2
    go_ret
    exact ⟨rfl, Below.refl _ _⟩
  go_wp2_with fail
  refine (unhide H6).mono ?_
  rintro e w1 ⟨⟨z, rfl, hz⟩, hw1⟩
  have hw2 := hw1.symm
  subst hw2
  clear hw1
  by_cases hzz : z ≤ 1048576
  case neg =>
    clear hz
    go_wp2
    go_ret
    exact ⟨rfl, Below.refl _ _⟩
  have hn := (hz hzz).1
  have hn3 := (hz hzz).2
  clear hz
  by_cases hne : xs.length = 0
  · go_wp2
    go_ret
    exact ⟨rfl, Below.refl _ _⟩
  have hne' : ((xs.length : Int) == 0) = false := by simp [hne]
  go_wp2_with fail
  refine (clone_any a1 c1 xs _ hn (unhide HS).hd).mono ?_
  rintro e w1 ⟨b1, d1, rfl, hs1, hb1⟩
  have hh1 := Holds.cons hs1 ((unhide HS).below hb1)
  clear hs1 HS
  go_wp2_with fail
  refine (clone_any a3 c3 ys _ hn3 hh1.tl.tl.hd).mono ?_
  rintro e w2 ⟨b3, d3, rfl, hs2, hb2⟩
  have hh2 := Holds.cons (hh1.below hb2).hd (Holds.cons hs2 Holds.nil)
  have hbb := hb1.trans (hb2.mono hb1.size)
  clear hh1 hs2 hb1 hb2
  have hB : w.heap.size ≤ w2.heap.size := hbb.size
  have hm0 : MapIs (w2.alloc (.map #[] 0)) w2.heap.size #[] 0 := heap_alloc_new _ _
  have hh3 := hh2.below ((Below.refl _ _).alloc (Nat.le_refl _) (.map #[] 0))
  have hb3 : Below w.heap.size w (w2.alloc (.map #[] 0)) := hbb.alloc hbb.size _
  clear hh2 hbb
  have hkey1 := hide (host_ne hkey)
  go_wp2_with fail
  refine (clone_any b1 d1 xs _ hn hh3.hd).mono ?_
  rintro e w3 ⟨b2, d2, rfl, hs3, hb4⟩
  have hh4 := Holds.cons hs3 (hh3.below hb4)
  have hm1 := hm0.below hb4
  have hb5 := hb3.trans (hb4.mono hb3.size)
  have HM1 := hide hm1
  clear hs3 hh3 hm0 hb3 hb4 hm1
  generalize w2.heap.size = B at HM1 hB ⊢
  go_wp2_with (first
    | (at_mapUpdate; refine wpList_put _ rfl _ _ _ 26 22 rfl Try.underlying26 B #[] 0 rfl (unhide HM1) ⟨#[72, 111, 115, 116]⟩ (.slice b2 xs.length d2) rfl rfl rfl ?_; intro w4 hm2 hg2)
    | fail)
  have hh5 := hh4.kept hg2 (unhide HM1)
  have hb6 := below_grown hb5 hg2 hB
  clear hh4 hb5 hg2 HM1
  refine (clone_any b3 d3 ys _ hn3 hh5.tl.tl.hd).mono ?_
  rintro e w5 ⟨b4, d4, rfl, hs4, hb7⟩
  have hh6 := Holds.cons hs4 (hh5.below hb7)
  have hm3 := hm2.below hb7
  have hb8 := hb6.trans (hb7.mono hb6.size)
  have HM3 := hide hm3
  clear hs4 hh5 hm2 hb6 hb7 hm3
  go_wp2_with (first
    | (at_mapUpdate; refine wpList_put _ rfl _ _ _ 26 22 rfl Try.underlying26 B _ 1 rfl (unhide HM3) key (.slice b4 ys.length d4) rfl rfl (found_miss (unhide hkey1) _ _) ?_; intro w6 hm4 hg4)
    | fail)
  have hh7 := hh6.kept hg4 (unhide HM3)
  have hb9 := below_grown hb8 hg4 hB
  clear hh6 hb8 hg4 HM3
  have HM := hide hm4
  have HH := hide hh7
  have HB := hide hb9
  clear hm4 hh7 hb9
  have hz := zz_present B _ _ 0 b2 d2 xs u m _ (unhide HM) (found_first _ _ _ _) (unhide HH).tl.hd (unhide HX) (unhide HL) (fun e => hne (by rw [e]; rfl))
  by_cases hone : ∃ x, xs = [x] ∧ allOK x.data.toList = true
  · obtain ⟨x, hxs, hok⟩ := hone
    have hcall := hide (hz.1 x hxs hok)
    have HO := hide hok
    have hxm := unhide HX x (by rw [hxs]; simp)
    clear hz hok H5 H6 HX HL
    refine (unhide hcall).mono ?_
    rintro e w7 ⟨rfl, hg7, hm7⟩
    rw [erase_two] at hm7
    have hh7 := (unhide HH).kept hg7 (unhide HM)
    have hb7 := below_grown (unhide HB) hg7 hB
    clear hg7 HM HH HB hcall
    have hlk := run_miss Try.underlying26 (z := .slice none 0 0) (by kernel_rfl) hm7 (found_miss (Ne.symm (unhide hkey1)) _ _)
    subst hxs
    rcases hh7.tl.tl.hd with h0 | ⟨bb, oo, hb1e, hc⟩
    · cases h0
    subst hb1e
    have hcx : w7.cell? ⟨bb, oo, none⟩ = some (.string x) := by simpa using hc 0 x rfl
    clear hc
    cases hE : u.toList.isEmpty
    · rw [pick_other hE]
      go_wp2_with fail
      refine (modelOK_any x _ hxm).mono ?_
      rintro e w8 ⟨rfl, hw8⟩
      have hw9 := hw8.symm
      subst hw9
      clear hw8
      rw [unhide HO]
      have hlk2 := run_get Try.underlying26 hm7 (found_hit key _ _)
      go_wp2_with fail
      refine (same_any b4 b3 d4 d3 ys _ hn3 hh7.hd hh7.tl.tl.tl.hd).mono ?_
      rintro e wr ⟨rfl, hbr⟩
      have hbf := hb7.trans (hbr.mono hb7.size)
      clear hlk2
      go_wp2
      go_ret
      exact ⟨rfl, hbf⟩
    · rw [pick_empty hE]
      go_wp2_with fail
      refine (modelOK_any x _ hxm).mono ?_
      rintro e w8 ⟨rfl, hw8⟩
      have hw9 := hw8.symm
      subst hw9
      clear hw8
      rw [unhide HO]
      have hlk2 := run_get Try.underlying26 hm7 (found_hit key _ _)
      go_wp2_with fail
      refine (same_any b4 b3 d4 d3 ys _ hn3 hh7.hd hh7.tl.tl.tl.hd).mono ?_
      rintro e wr ⟨rfl, hbr⟩
      have hbf := hb7.trans (hbr.mono hb7.size)
      clear hlk2
      go_wp2
      go_ret
      exact ⟨rfl, hbf⟩
  · have hbad : ∀ x, xs = [x] → allOK x.data.toList = false := by
      intro x hx
      cases hc : allOK x.data.toList
      · rfl
      · exact absurd ⟨x, hx, hc⟩ hone
    have hcall := hide (hz.2 hbad)
    clear hz hone
    refine (unhide hcall).mono ?_
    rintro e w7 ⟨g, rfl, hg7⟩
    have hm7 := (unhide HM).kept hg7
    have hh7 := (unhide HH).same hg7
    have hb7 := below_same (unhide HB) hg7
    have hlk := run_get Try.underlying26 hm7 (found_first _ _ _ _)
    have HBAD := hide hbad
    clear hg7 HM HH HB hcall hbad H5 H6
    by_cases h1 : xs.length = 1
    · obtain ⟨x, hxs⟩ := List.length_eq_one_iff.1 h1
      have hok := hide (unhide HBAD x hxs)
      have hxm := unhide HX x (by rw [hxs]; simp)
      clear HBAD h1 HX HL
      subst hxs
      rcases hh7.tl.tl.hd with h0 | ⟨bb, oo, hb1e, hc⟩
      · cases h0
      subst hb1e
      have hcx : w7.cell? ⟨bb, oo, none⟩ = some (.string x) := by simpa using hc 0 x rfl
      clear hc
      go_wp2_with fail
      refine (modelOK_any x _ hxm).mono ?_
      rintro e w8 ⟨rfl, hw8⟩
      have hw9 := hw8.symm
      subst hw9
      clear hw8
      rw [unhide hok]
      go_wp2_with fail
      refine (same_any b2 _ d2 d1 [x] _ hn hh7.tl.hd hh7.tl.tl.hd).mono ?_
      rintro e w9 ⟨rfl, hb89⟩
      have hm9 := hm7.below hb89
      have hh9 := hh7.below hb89
      have hb9 := hb7.trans (hb89.mono hb7.size)
      clear hlk hm7 hh7 hb7 hb89 hcx
      have hlk2 := run_get Try.underlying26 hm9 (found_second (unhide hkey1) _ _ _ _)
      go_wp2_with fail
      refine (same_any b4 b3 d4 d3 ys _ hn3 hh9.hd hh9.tl.tl.tl.hd).mono ?_
      rintro e wr ⟨rfl, hbr⟩
      have hbf := hb9.trans (hbr.mono hb9.size)
      clear hlk2
      go_wp2
      go_ret
      exact ⟨rfl, hbf⟩
    · have h1' : ((xs.length : Int) == 1) = false := by
        rw [beq_eq_false_iff_ne]; omega
      go_wp2_with fail
      refine (same_any b2 b1 d2 d1 xs _ hn hh7.tl.hd hh7.tl.tl.hd).mono ?_
      rintro e w9 ⟨rfl, hb89⟩
      have hm9 := hm7.below hb89
      have hh9 := hh7.below hb89
      have hb9 := hb7.trans (hb89.mono hb7.size)
      clear hlk hm7 hh7 hb7 hb89
      have hlk2 := run_get Try.underlying26 hm9 (found_second (unhide hkey1) _ _ _ _)
      go_wp2_with fail
      refine (same_any b4 b3 d4 d3 ys _ hn3 hh9.hd hh9.tl.tl.tl.hd).mono ?_
      rintro e wr ⟨rfl, hbr⟩
      have hbf := hb9.trans (hbr.mono hb9.size)
      clear hlk2
      go_wp2
      go_ret
      exact ⟨rfl, hbf⟩
end Go.Proofs.Qxb6002403a.fnRequestHostAcceptsExactly
