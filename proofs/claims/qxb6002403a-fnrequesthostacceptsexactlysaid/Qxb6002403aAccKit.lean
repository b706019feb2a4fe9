import Derived.Test.Qxb6002403aZz
import Derived.Test.Qxb6002403aClone
import Derived.Test.Qxb6002403aSame
import Derived.Test.Qxb6002403aBytes6
import Derived.Test.Qxb6002403aBytes5
namespace Go.Proofs.Qxb6002403a.fnRequestHostAcceptsExactly
open Go.ChangeShapes Go.WideShapes Go.ChangeAt Go.RowKit
set_option linter.unusedVariables false
set_option linter.unusedSimpArgs false

/-- Several slices, each with what it holds. -/
def Holds (w : World) (l : List (Option Addr × List ByteArray)) : Prop := ∀ p ∈ l, StrsAt w p.1 p.2
theorem Holds.below {w w' : World} {l : List (Option Addr × List ByteArray)} (h : Holds w l) (hb : Below w.heap.size w w') : Holds w' l := fun p hp => (h p hp).below hb
theorem Holds.kept {w w' : World} {l : List (Option Addr × List ByteArray)} {B : Nat} {es : Array MapEntry} {c : Nat} (h : Holds w l) (hg : w.grownBy w' (some B)) (hm : MapIs w B es c) : Holds w' l :=
  fun p hp => (h p hp).kept hg (fun k e => by cases e; exact ⟨es, c, hm⟩)
theorem Holds.same {w w' : World} {l : List (Option Addr × List ByteArray)} (h : Holds w l) (hg : w.grownBy w' none) : Holds w' l :=
  fun p hp => (h p hp).kept hg (fun k e => by cases e)
theorem Holds.cons {w : World} {l : List (Option Addr × List ByteArray)} {a : Option Addr} {xs : List ByteArray} (h : StrsAt w a xs) (hl : Holds w l) : Holds w ((a, xs) :: l) := by
  intro p hp
  rcases List.mem_cons.1 hp with rfl | hp
  · exact h
  · exact hl p hp
theorem Holds.nil {w : World} : Holds w [] := fun p hp => by cases hp
theorem Holds.hd {w : World} {l : List (Option Addr × List ByteArray)} {a : Option Addr} {xs : List ByteArray} (h : Holds w ((a, xs) :: l)) : StrsAt w a xs := h (a, xs) (by simp)
theorem Holds.tl {w : World} {l : List (Option Addr × List ByteArray)} {q : Option Addr × List ByteArray} (h : Holds w (q :: l)) : Holds w l := fun p hp => h p (by simp [hp])

theorem below_grown {w w1 w2 : World} {B : Nat} (h : Below w.heap.size w w1) (hg : w1.grownBy w2 (some B)) (hB : w.heap.size ≤ B) : Below w.heap.size w w2 :=
  h.grown hg h.size (fun k e => by cases e; exact hB)
theorem below_same {w w1 w2 : World} (h : Below w.heap.size w w1) (hg : w1.grownBy w2 none) : Below w.heap.size w w2 :=
  h.grown hg h.size (fun k e => by cases e)

theorem bytes_ne {a b : ByteArray} (h : a ≠ b) : (a == b) = false := by
  cases hc : a == b
  · rfl
  · exact absurd ((Go.MapKept.bytes_beq a b).1 hc) h
theorem bytes_eq (a : ByteArray) : (a == a) = true := (Go.MapKept.bytes_beq a a).2 rfl

theorem found_nil (k : ByteArray) : found k #[] = some none := rfl
theorem found_hit (k : ByteArray) (v : Value) (c : Nat) : found k (#[].push { key := .string k, val := v, born := c }) = some (some (0, v)) := by
  simp only [found, List.push_toArray, List.nil_append]
  simp only [Instr.findNow, Instr.sameNow, bytes_eq]
theorem found_miss {k k' : ByteArray} (h : k ≠ k') (v : Value) (c : Nat) : found k (#[].push { key := .string k', val := v, born := c }) = some none := by
  simp only [found, List.push_toArray, List.nil_append]
  simp only [Instr.findNow, Instr.sameNow, bytes_ne h]
theorem found_first (k : ByteArray) (v : Value) (c : Nat) (e : MapEntry) : found k ((#[].push { key := .string k, val := v, born := c }).push e) = some (some (0, v)) := by
  simp only [found, List.push_toArray, List.nil_append, List.cons_append]
  simp only [Instr.findNow, Instr.sameNow, bytes_eq]
theorem found_second {k k' : ByteArray} (h : k ≠ k') (v v' : Value) (c c' : Nat) : found k ((#[].push { key := .string k', val := v', born := c' }).push { key := .string k, val := v, born := c }) = some (some (1, v)) := by
  simp only [found, List.push_toArray, List.nil_append, List.cons_append]
  simp only [Instr.findNow, Instr.sameNow, bytes_ne h, bytes_eq]
theorem erase_one (e : MapEntry) : (#[].push e).eraseIdxIfInBounds 0 = #[] := by
  simp [Array.eraseIdxIfInBounds]
theorem erase_two (e e' : MapEntry) : ((#[].push e).push e').eraseIdxIfInBounds 0 = #[].push e' := by
  simp [Array.eraseIdxIfInBounds]

def hostB : ByteArray := ⟨#[72, 111, 115, 116]⟩
theorem host_eq {k : ByteArray} (h : (k.toList == [72, 111, 115, 116]) = true) : k = ⟨#[72, 111, 115, 116]⟩ := by
  rw [Lib.toList_data, beq_iff_eq] at h
  rw [← Lib.mk_data k, h]
theorem host_ne {k : ByteArray} (h : (k.toList == [72, 111, 115, 116]) = false) : k ≠ ⟨#[72, 111, 115, 116]⟩ := by
  intro e
  subst e
  rw [Lib.toList_data] at h
  simp at h

theorem empty_of' {u : ByteArray} (h : u.toList.isEmpty = true) : u = ⟨#[]⟩ := by
  rw [Lib.toList_data, List.isEmpty_iff] at h
  rw [← Lib.mk_data u, h]
end Go.Proofs.Qxb6002403a.fnRequestHostAcceptsExactly
