/-
  PLAIN LAWS for seat b6001776a: no Go in sight: splitting at spaces, the flags' words, the first two dot-parts.
-/
import Derived.Lib.Strings
import Derived.Lib.Join
namespace Go.Proofs.Qxb6001776a
set_option linter.unusedVariables false
set_option linter.unusedSimpArgs false

/-- The text split at every space (32). -/
def sp : List UInt8 → List (List UInt8)
  | [] => [[]]
  | b :: l => if b = 32 then [] :: sp l else match sp l with
    | [] => [[b]]
    | x :: xs => (b :: x) :: xs

theorem sp_ne (l : List UInt8) : sp l ≠ [] := by
  cases l with
  | nil => simp [sp]
  | cons b l =>
    unfold sp
    split
    · simp
    · split <;> simp

theorem sp_cons_ne {b : UInt8} {l x : List UInt8} {xs : List (List UInt8)} (hb : b ≠ 32) (h : sp l = x :: xs) : sp (b :: l) = (b :: x) :: xs := by
  rw [sp, if_neg hb, h]

theorem sp_word (x : List UInt8) (hx : ∀ b ∈ x, b ≠ 32) : sp x = [x] := by
  induction x with
  | nil => rfl
  | cons b x ih =>
    exact sp_cons_ne (hx b (by simp)) (ih fun c hc => hx c (by simp [hc]))

theorem sp_word_space (x y : List UInt8) (hx : ∀ b ∈ x, b ≠ 32) : sp (x ++ 32 :: y) = x :: sp y := by
  induction x with
  | nil => simp [sp]
  | cons b x ih =>
    exact sp_cons_ne (hx b (by simp)) (ih fun c hc => hx c (by simp [hc]))

/-- One byte more, a space: the last piece is shut and an empty one begun. -/
theorem sp_snoc_space (l : List UInt8) : sp (l ++ [32]) = sp l ++ [[]] := by
  induction l with
  | nil => simp [sp]
  | cons b l ih =>
    rw [List.cons_append]
    by_cases hb : b = 32
    · subst hb
      rw [sp, if_pos rfl, ih, sp, if_pos rfl]; rfl
    · obtain ⟨x, xs, hx⟩ := List.exists_cons_of_ne_nil (sp_ne l)
      rw [sp_cons_ne hb hx]
      rw [hx] at ih
      rw [sp_cons_ne hb ih]; rfl

theorem sp_snoc_other (l : List UInt8) (c : UInt8) (hc : c ≠ 32) : ∀ (P : List (List UInt8)) (z : List UInt8), sp l = P ++ [z] → sp (l ++ [c]) = P ++ [z ++ [c]] := by
  induction l with
  | nil =>
    intro P z h
    have h' : [[]] = P ++ [z] := h
    have hl := congrArg List.length h'
    simp at hl
    subst hl
    simp at h'
    subst h'
    simp [sp, hc]
  | cons b l ih =>
    intro P z h
    rw [List.cons_append]
    by_cases hb : b = 32
    · subst hb
      rw [sp, if_pos rfl] at h
      cases P with
      | nil =>
        simp at h
        exact absurd h.2 (sp_ne l)
      | cons p P =>
        simp at h
        rw [sp, if_pos rfl, ih P z h.2, ← h.1]; rfl
    · obtain ⟨x, xs, hx⟩ := List.exists_cons_of_ne_nil (sp_ne l)
      rw [sp_cons_ne hb hx] at h
      cases P with
      | nil =>
        simp at h
        obtain ⟨rfl, rfl⟩ := h
        have := ih [] x (by simpa using hx)
        rw [sp_cons_ne hb (by simpa using this)]; rfl
      | cons p P =>
        simp at h
        obtain ⟨rfl, h2⟩ := h
        have := ih (x :: P) z (by rw [hx, h2]; rfl)
        rw [sp_cons_ne hb this]; rfl

/-- Words without a space, joined by spaces, split into themselves. -/
theorem sp_join : ∀ (ws : List (List UInt8)), ws ≠ [] → (∀ x ∈ ws, ∀ b ∈ x, b ≠ 32) → sp (Lib.join ws [32]) = ws
  | [], h, _ => absurd rfl h
  | [x], _, h => by rw [Lib.join_one, sp_word x (h x (by simp))]
  | x :: y :: ws, _, h => by
    have ih := sp_join (y :: ws) (by simp) (fun z hz => h z (by simp at hz ⊢; exact Or.inr hz))
    have e : Lib.join (x :: y :: ws) [32] = x ++ 32 :: Lib.join (y :: ws) [32] := by
      rw [Lib.join_cons, Lib.join_cons]
      simp [Lib.joinTail, List.append_assoc]
    rw [e, sp_word_space x _ (h x (by simp)), ih]

end Go.Proofs.Qxb6001776a
