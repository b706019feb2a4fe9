import Derived.Test.Qxb6002403aKit
import Derived.Test.Qxb6002403aShelf
import Derived.RegionTactic
import Derived.Deep.QuietTactic
import Derived.BigQuiet
import Derived.WalkMore
import Derived.Scope
import Derived.Laws.Runes
namespace Go.Proofs.Qxb6002403a
open Go.ChangeShapes Go.WideShapes Go.ChangeAt Go.RowKit
set_option linter.unusedVariables false
set_option linter.unusedSimpArgs false

/-- The bytes beside letters and digits that isHost lets pass. -/
def setB : ByteArray := ⟨#[45, 46, 95, 126, 33, 36, 38, 39, 40, 41, 42, 43, 44, 59, 61, 37, 58, 91, 93]⟩

theorem enc_two (r : Int) (h0 : 128 ≤ r) (h1 : r < 256) : ∃ a b : UInt8, Utf8.encode r = ⟨#[a, b]⟩ ∧ 128 ≤ b.toNat := by
  have hv : Utf8.valid r = true := by rw [validRune_eq]; simp [validRune]; omega
  have hc : ¬ r.toNat < 128 := by omega
  have hd : r.toNat < 2048 := by omega
  unfold Utf8.encode
  simp only [hv, if_true, hc, if_false, hd]
  refine ⟨_, _, rfl, ?_⟩
  simp; omega

theorem indexByte_absent (l : List UInt8) (c : UInt8) (h : ∀ x ∈ l, x ≠ c) : Lib.indexByte l c = -1 := by
  induction l with
  | nil => rfl
  | cons b l ih =>
    unfold Lib.indexByte
    rw [if_neg (by simpa using h b (by simp)), ih fun x hx => h x (by simp [hx])]
    rfl

theorem idx_high (a b : UInt8) (h : 128 ≤ b.toNat) : Lib.indexByte [95, 126, 33, 36, 38, 39, 40, 41, 42, 43, 44, 59, 61, 37, 58, 91, 93] ((⟨#[a, b]⟩ : ByteArray)[1]'(show 1 < 2 by decide)) = -1 := by
  show Lib.indexByte [95, 126, 33, 36, 38, 39, 40, 41, 42, 43, 44, 59, 61, 37, 58, 91, 93] b = -1
  apply indexByte_absent
  have hs : ∀ x ∈ [(95 : UInt8), 126, 33, 36, 38, 39, 40, 41, 42, 43, 44, 59, 61, 37, 58, 91, 93], x.toNat < 128 := by decide
  intro x hx e
  have := hs x hx
  rw [e] at this
  omega

theorem drew_two {w w1 : World} {n m : Nat} (h : w.drewN n = w1) : ∃ k, w1.drewN m = w.drewN k := by
  subst h
  exact ⟨_, World.drewN_drewN _ _ _⟩

theorem slice_two (wx : World) : (Instr.slice 9 (.string ⟨#[45, 46, 95, 126, 33, 36, 38, 39, 40, 41, 42, 43, 44, 59, 61, 37, 58, 91, 93]⟩) (some (.int .i64 2)) none none).run Try.prog wx = .ok (.string ⟨#[95, 126, 33, 36, 38, 39, 40, 41, 42, 43, 44, 59, 61, 37, 58, 91, 93]⟩) wx := by kernel_rfl

theorem high_ne (a b : UInt8) (hb : 128 ≤ b.toNat) : ((((⟨#[45, 46, 95, 126, 33, 36, 38, 39, 40, 41, 42, 43, 44, 59, 61, 37, 58, 91, 93]⟩ : ByteArray)[1]'(by decide)).toNat : Int) != (((⟨#[a, b]⟩ : ByteArray)[1]'(show 1 < 2 by decide)).toNat : Int)) = true := by
  show ((46 : Int) != (b.toNat : Int)) = true
  rw [bne_iff_ne]; omega

set_option maxRecDepth 100000 in
set_option maxHeartbeats 800000 in
theorem index_high (r : Int) (w : World) (h0 : 128 ≤ r) (h1 : r < 256) :
    Calls Try.prog 18 #[.string ⟨#[45, 46, 95, 126, 33, 36, 38, 39, 40, 41, 42, 43, 44, 59, 61, 37, 58, 91, 93]⟩, .int .i32 r] w fun e w' => e = .returned (.int .i64 (-1)) ∧ ∃ n, w' = w.drewN n := by
  obtain ⟨a, b, he, hb⟩ := enc_two r h0 h1
  have hv : Lib.validRune r = true := by simp [Lib.validRune]; omega
  have HV := hide hv
  clear hv
  go_enter Try.func18, Try.ntmps18
  go_wp2_with (go_at_call 20; refine (Try.utf8_ValidRune _ _).mono ?_; rintro e w' ⟨rfl, rfl⟩; rw [unhide HV])
  go_step3
  go_wp2
  refine wp_loop_rounds 1 ?_
  rw [rounds_succ]
  go_wp2
  go_step3
  go_wp2
  have ht := high_ne a b hb
  go_quiet (fail)
  go_wp2
  have hsl := slice_two
  generalize hw1 : World.drewN w' nq = w1
  have HW := hide hw1
  clear hw1
  go_quiet ((go_at_call 19; exact Calls.quiet_of_same (Try.strings_IndexByte _ _ _)))
  have hix := idx_high a b hb
  go_wp2
  rw [Exit.noGoto_ret]
  go_wp2
  rw [Exit.noGoto_ret]
  go_ret
  exact ⟨rfl, drew_two (unhide HW)⟩

set_option maxRecDepth 100000 in
theorem contains_high (r : Int) (w : World) (h0 : 128 ≤ r) (h1 : r < 256) :
    Calls Try.prog 17 #[.string ⟨#[45, 46, 95, 126, 33, 36, 38, 39, 40, 41, 42, 43, 44, 59, 61, 37, 58, 91, 93]⟩, .int .i32 r] w fun e w' => e = .returned (.bool false) ∧ ∃ n, w' = w.drewN n := by
  go_enter Try.func17, Try.ntmps17
  go_wp2_with (go_at_call 18; refine (index_high r _ h0 h1).mono ?_; rintro e w' ⟨rfl, n, rfl⟩)
  go_ret
  exact ⟨rfl, n, rfl⟩
end Go.Proofs.Qxb6002403a
