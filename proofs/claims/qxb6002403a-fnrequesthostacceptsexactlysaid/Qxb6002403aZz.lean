import Derived.Test.Qxb6002403aReq
namespace Go.Proofs.Qxb6002403a
open Go.ChangeShapes Go.WideShapes Go.ChangeAt Go.RowKit
set_option linter.unusedVariables false
set_option linter.unusedSimpArgs false

theorem grown_none {w w' : World} (h : w.grownBy w' none) (row : Option Nat) : w.grownBy w' row :=
  ⟨h.os, h.tape, h.output, h.size, fun k hk _ => h.block k hk (by simp)⟩
theorem grown_trans_none {w w1 w2 : World} (h1 : w.grownBy w1 none) (h2 : w1.grownBy w2 none) : w.grownBy w2 none :=
  ⟨h2.os.trans h1.os, h2.tape.trans h1.tape, h2.output.trans h1.output, Nat.le_trans h1.size h2.size, fun k hk hn => (h2.block k (Nat.lt_of_lt_of_le hk h1.size) (by simp)).trans (h1.block k hk (by simp))⟩

set_option maxHeartbeats 800000 in
theorem zz_refused (B : Nat) (u : ByteArray) (minor : Int) (w : World)
    (hr : ∀ w1, Below w.heap.size w w1 → w1.cell? ⟨w.heap.size, 3, none⟩ = some (.string u) → Calls Try.prog 12 #[.map (some B), .pointer (some ⟨w.heap.size, 0, none⟩), .int .i64 minor] w1 fun e w' => Refused w1 e w') :
    Calls Try.prog 8 #[.map (some B), .string u, .int .i64 minor] w fun e w' => Refused w e w' := by
  have HR := hide hr
  clear hr
  go_enter Try.func8, Try.ntmps8
  go_wp2_with fail
  refine (unhide HR _ ((Below.refl _ _).alloc (Nat.le_refl _) _) ((World.cell?_alloc_at _ _ _ _ rfl).trans rfl)).mono ?_
  rintro e w2 ⟨g, rfl, hg⟩
  go_wp2
  go_ret2
  exact ⟨g, rfl, grown_trans_none (World.grownBy_alloc _ _ _) hg⟩

set_option maxHeartbeats 800000 in
theorem zz_taken (B : Nat) (u h : ByteArray) (es' : Array MapEntry) (clock : Nat) (minor : Int) (w : World)
    (hr : ∀ w1, Below w.heap.size w w1 → w1.cell? ⟨w.heap.size, 3, none⟩ = some (.string u) → Calls Try.prog 12 #[.map (some B), .pointer (some ⟨w.heap.size, 0, none⟩), .int .i64 minor] w1 fun e w' => Taken B h es' clock w1 e w') :
    Calls Try.prog 8 #[.map (some B), .string u, .int .i64 minor] w fun e w' => Taken B h es' clock w e w' := by
  have HR := hide hr
  clear hr
  go_enter Try.func8, Try.ntmps8
  go_wp2_with fail
  refine (unhide HR _ ((Below.refl _ _).alloc (Nat.le_refl _) _) ((World.cell?_alloc_at _ _ _ _ rfl).trans rfl)).mono ?_
  rintro e w2 ⟨rfl, hg, hm⟩
  go_wp2
  go_ret2
  exact ⟨rfl, grown_trans (World.grownBy_alloc _ _ _) hg, hm⟩

/-- ZZrequestHost at a Host entry that holds the strings xs (at least one). -/
theorem zz_present (B : Nat) (es : Array MapEntry) (clock i : Nat) (ao : Option Addr) (cap : Nat) (xs : List ByteArray) (u : ByteArray) (minor : Int) (w : World) (h : MapIs w B es clock)
    (hf : found ⟨#[72, 111, 115, 116]⟩ es = some (some (i, .slice ao xs.length cap))) (hs : StrsAt w ao xs) (hx : ∀ x ∈ xs, x.size ≤ maxLen) (hl : xs.length ≤ maxLen) (hne : xs ≠ []) :
    (∀ x, xs = [x] → allOK x.data.toList = true → Calls Try.prog 8 #[.map (some B), .string u, .int .i64 minor] w fun e w' => Taken B (pick u x) (es.eraseIdxIfInBounds i) clock w e w') ∧
    ((∀ x, xs = [x] → allOK x.data.toList = false) → Calls Try.prog 8 #[.map (some B), .string u, .int .i64 minor] w fun e w' => Refused w e w') := by
  constructor
  · intro x hxs hok
    subst hxs
    apply zz_taken
    intro w1 hb hU
    rcases hs.below hb with h0 | ⟨b, off, rfl, hc⟩
    · cases h0
    · exact req_ok B es clock i b off cap w.heap.size x u minor w1 (h.below hb) hf (by simpa using hc 0 x rfl) (hx x (by simp)) hok hU
  · intro hbad
    apply zz_refused
    intro w1 hb hU
    match xs, hne with
    | [x], _ =>
      rcases hs.below hb with h0 | ⟨b, off, rfl, hc⟩
      · cases h0
      · exact req_bad B es clock i b off cap x _ minor w1 (h.below hb) hf (by simpa using hc 0 x rfl) (hx x (by simp)) (hbad x rfl)
    | x :: y :: t, _ =>
      exact req_many B es clock i ao _ cap _ minor w1 (h.below hb) hf (by simp) hl

theorem zz_absent_ok (B : Nat) (es : Array MapEntry) (clock : Nat) (u : ByteArray) (minor : Int) (w : World) (h : MapIs w B es clock) (hf : found ⟨#[72, 111, 115, 116]⟩ es = some none) (hm : minor < 1) :
    Calls Try.prog 8 #[.map (some B), .string u, .int .i64 minor] w fun e w' => Taken B u es clock w e w' :=
  zz_taken B u u es clock minor w fun w1 hb hU => req_none_ok B es clock w.heap.size u minor w1 (h.below hb) hf hm hU

theorem zz_absent_refused (B : Nat) (es : Array MapEntry) (clock : Nat) (u : ByteArray) (minor : Int) (w : World) (h : MapIs w B es clock) (hf : found ⟨#[72, 111, 115, 116]⟩ es = some none) (hm : 1 ≤ minor) :
    Calls Try.prog 8 #[.map (some B), .string u, .int .i64 minor] w fun e w' => Refused w e w' :=
  zz_refused B u minor w fun w1 hb hU => req_none_refuse B es clock _ minor w1 (h.below hb) hf hm
end Go.Proofs.Qxb6002403a
