import Derived.Test.Qxb6002403aRows
import Derived.WalkKit
import Derived.ProofKit
import Derived.OpenShut
import Derived.ShutString
import Derived.WalkSpells
import Derived.Lib.Strings
import Derived.Deep.Draws
import Derived.Laws.AppendOwn
namespace Go.Proofs.Qxb6002403a
open Go.ChangeShapes Go.WideShapes Go.ChangeAt Go.RowKit
set_option linter.unusedVariables false
set_option linter.unusedSimpArgs false

theorem hide {p : Prop} (h : p) : Hid p := h
theorem unhide {p : Prop} (h : Hid p) : p := h
theorem ret_bool {a b : Bool} (h : a = b) : Ending.returned (.bool a) = .returned (.bool b) := by rw [h]
theorem ret_int {k : IntKind} {a b : Int} (h : a = b) : Ending.returned (.int k a) = .returned (.int k b) := by rw [h]

theorem byte_eq {a c : UInt8} {n : Int} (hc : n = c.toNat) : ((a.toNat : Int) == n) = (a == c) := by
  subst hc
  rw [Bool.eq_iff_iff]; simp only [beq_iff_eq]
  constructor
  · intro h; exact UInt8.toNat_inj.1 (by exact_mod_cast h)
  · intro h; rw [h]

/-- What a slice of strings holds: nothing; or the strings in the cells from its address on. -/
def StrsAt (w : World) (ao : Option Addr) (xs : List ByteArray) : Prop :=
  xs = [] ∨ ∃ b off, ao = some ⟨b, off, none⟩ ∧ ∀ j x, xs[j]? = some x → w.cell? ⟨b, off + j, none⟩ = some (.string x)

theorem StrsAt.kept {w w' : World} {ao : Option Addr} {xs : List ByteArray} {row : Option Nat} (h : StrsAt w ao xs) (hg : w.grownBy w' row) (hrow : ∀ k, row = some k → ∃ es c, w.heap[k]? = some (.map es c)) : StrsAt w' ao xs := by
  rcases h with h | ⟨b, off, h1, h2⟩
  · exact Or.inl h
  · refine Or.inr ⟨b, off, h1, fun j x hj => ?_⟩
    have hc := h2 j x hj
    refine hg.cell hc ?_
    intro e
    obtain ⟨es, c, hm⟩ := hrow b e.symm
    simp [World.cell?, hm] at hc

theorem grown_of_below {w w' : World} (h : Below w.heap.size w w') (row : Option Nat) : w.grownBy w' row :=
  ⟨h.os, h.tape, h.output, h.size, fun k hk _ => h.block k hk⟩

theorem StrsAt.below {w w' : World} {ao : Option Addr} {xs : List ByteArray} (h : StrsAt w ao xs) (hb : Below w.heap.size w w') : StrsAt w' ao xs :=
  h.kept (grown_of_below hb none) (fun k e => by cases e)

theorem below_drewN {B : Nat} (w : World) (n : Nat) : Below B w (w.drewN n) := ⟨rfl, rfl, rfl, Nat.le_refl _, fun _ _ => rfl⟩

theorem grown_trans {w w1 w2 : World} {B : Nat} (h1 : w.grownBy w1 (some B)) (h2 : w1.grownBy w2 (some B)) : w.grownBy w2 (some B) :=
  ⟨h2.os.trans h1.os, h2.tape.trans h1.tape, h2.output.trans h1.output, Nat.le_trans h1.size h2.size, fun k hk hn => (h2.block k (Nat.lt_of_lt_of_le hk h1.size) hn).trans (h1.block k hk hn)⟩

end Go.Proofs.Qxb6002403a
