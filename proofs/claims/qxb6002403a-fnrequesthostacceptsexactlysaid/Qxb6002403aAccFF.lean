import Derived.Test.Qxb6002403aAccKit
namespace Go.Proofs.Qxb6002403a.fnRequestHostAcceptsExactly
open Go.ChangeShapes Go.WideShapes Go.ChangeAt Go.RowKit
set_option linter.unusedVariables false
set_option linter.unusedSimpArgs false

set_option maxHeartbeats 6400000 in
theorem acc_ff (a1 a3 : Option Addr) (c1 c3 : Nat) (xs ys : List ByteArray) (key u : ByteArray) (m : Int) (w : World) (hs : StrsAt w a1 xs) (hx : ∀ x ∈ xs, x.size ≤ maxLen) (hl : xs.length ≤ maxLen)
    (hs3 : StrsAt w a3 ys) (hy : ∀ x ∈ ys, x.size ≤ maxLen) (hl3 : ys.length ≤ maxLen) (hk : key.size ≤ maxLen) (hu : u.size ≤ maxLen) (hkey : (key.toList == [72, 111, 115, 116]) = true) :
    Calls Try.prog 3 #[.slice a1 xs.length c1, .bool false, .string key, .slice a3 ys.length c3, .string u, .int .i64 m] w fun e w' => e = .returned (.bool true) ∧ Below w.heap.size w w' := by
  have H5 := hide (bytes5_any a1 a3 c1 c3 xs ys false key u m w hk hu hs hx hl hs3 hy hl3)
  have H6 := hide (bytes6_any a1 a3 c1 c3 xs ys key u w hk hu hs hx hl hs3 hy hl3)
  have HX := hide hx
  have HL := hide hl
  have HS := hide (Holds.cons hs (Holds.cons hs3 Holds.nil))
  have HKN := hide hkey
  have hmm := @run_makeMap Try.prog
  unfold maxLen at hl hl3 hu hk
  clear hs hx hs3 hy
  go_enter Try.func3, Try.ntmps3
  go_wp2_with fail
  refine (unhide H5).mono ?_
  rintro e w1 ⟨⟨b, rfl⟩, hw1⟩
  have hw2 := hw1.symm
  subst hw2
  clear hw1
  cases b
  · go_wp2
    go_ret
    exact ⟨rfl, Below.refl _ _⟩
  go_wp2_with fail
  refine (unhide H6).mono ?_
  rintro e w1 ⟨⟨z, rfl, hz⟩, hw1⟩
  have hw2 := hw1.symm
  subst hw2
  clear hw1
  by_cases hzz : z ≤ 1048576
  case neg =>
    clear hz
    go_wp2
    go_ret
    exact ⟨rfl, Below.refl _ _⟩
  have hn := (hz hzz).1
  have hn3 := (hz hzz).2
  clear hz
  go_wp2_with fail
  refine (clone_any a1 c1 xs _ hn (unhide HS).hd).mono ?_
  rintro e w1 ⟨b1, d1, rfl, hs1, hb1⟩
  have hh1 := Holds.cons hs1 ((unhide HS).below hb1)
  clear hs1 HS
  go_wp2_with fail
  refine (clone_any a3 c3 ys _ hn3 hh1.tl.tl.hd).mono ?_
  rintro e w2 ⟨b3, d3, rfl, hs2, hb2⟩
  have hh2 := Holds.cons (hh1.below hb2).hd (Holds.cons hs2 Holds.nil)
  have hbb := hb1.trans (hb2.mono hb1.size)
  clear hh1 hs2 hb1 hb2
  have hB : w.heap.size ≤ w2.heap.size := hbb.size
  have hm0 : MapIs (w2.alloc (.map #[] 0)) w2.heap.size #[] 0 := heap_alloc_new _ _
  have hh3 := hh2.below ((Below.refl _ _).alloc (Nat.le_refl _) (.map #[] 0))
  have hb3 : Below w.heap.size w (w2.alloc (.map #[] 0)) := hbb.alloc hbb.size _
  clear hh2 hbb
  have hkey1 := hide (host_eq hkey)
  have HM1 := hide hm0
  have hh5 := Holds.cons (w := w2.alloc (.map #[] 0)) (a := none) (xs := []) (Or.inl rfl) hh3
  have hb6 := hb3
  clear hh3 hm0 hb3
  go_wp2_with fail
  have hh7 := Holds.cons (w := w2.alloc (.map #[] 0)) (a := none) (xs := []) (Or.inl rfl) hh5
  have hm4 := unhide HM1
  have hb9 := hb6
  clear hh5 HM1 hb6
  have HM := hide hm4
  have HH := hide hh7
  have HB := hide hb9
  clear hm4 hh7 hb9
  by_cases hm1 : 1 ≤ m
  · refine (zz_absent_refused _ _ _ u m _ (unhide HM) (found_nil ⟨#[72, 111, 115, 116]⟩) hm1).mono ?_
    rintro e w7 ⟨g, rfl, hg7⟩
    have hm7 := (unhide HM).kept hg7
    have hh7 := (unhide HH).same hg7
    have hb7 := below_same (unhide HB) hg7
    have hlk := run_miss Try.underlying26 (z := .slice none 0 0) (by kernel_rfl) hm7 (found_nil ⟨#[72, 111, 115, 116]⟩)
    clear hg7 HM HH HB
    go_wp2
    go_ret
    exact ⟨rfl, hb7⟩
  · cases hE : u.toList.isEmpty
    all_goals
      refine (zz_absent_ok _ _ _ u m _ (unhide HM) (found_nil ⟨#[72, 111, 115, 116]⟩) (by omega)).mono ?_
      rintro e w7 ⟨rfl, hg7, hm7⟩
      have hh7 := (unhide HH).kept hg7 (unhide HM)
      have hb7 := below_grown (unhide HB) hg7 hB
      have hlk := run_miss Try.underlying26 (z := .slice none 0 0) (by kernel_rfl) hm7 (found_nil ⟨#[72, 111, 115, 116]⟩)
      clear hg7 HM HH HB
      go_wp2
      go_ret
      exact ⟨rfl, hb7⟩
end Go.Proofs.Qxb6002403a.fnRequestHostAcceptsExactly
