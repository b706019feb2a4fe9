import Derived.Lib.JoinSame2
import Derived.Lib.CleanSame
namespace Go.Proofs.Qxb6002464a
open Go.Lib Go.Lib.Pa
set_option linter.unusedVariables false
set_option linter.unusedSimpArgs false

/-- The elements kept (the last first) behind the reading of l, with st kept before it. -/
def F (st : List (List UInt8)) (l : List UInt8) : List (List UInt8) := (els l).foldl (cleanStep true) st
/-- What zzClean computes. -/
def zc (l : List UInt8) : List UInt8 := rend true (F [] l)
/-- Empty, or begins with a slash. -/
def Rest (l : List UInt8) : Prop := l = [] ∨ l.head? = some 47
def Good (x : List UInt8) : Prop := x ≠ [] ∧ 47 ∉ x ∧ x ≠ [46] ∧ x ≠ [46, 46]
def Goods (st : List (List UInt8)) : Prop := ∀ x ∈ st, Good x

theorem F_nil (st : List (List UInt8)) : F st [] = st := by unfold F; simp [els, cleanStep]
theorem F_slash (st : List (List UInt8)) (l : List UInt8) : F st (47 :: l) = F st l := by
  unfold F; rw [els_slash, List.foldl_cons, step_nil]
theorem F_elem (st : List (List UInt8)) (x y : List UInt8) (hx : 47 ∉ x) (hy : Rest y) : F st (x ++ y) = F (cleanStep true st x) y := by
  unfold F
  rw [els_elem x y hx hy, foldl_rest true _ y hy]; rfl
theorem F_app (st : List (List UInt8)) (a y : List UInt8) (hy : Rest y) : F st (a ++ y) = F (F st a) y := by
  rcases hy with rfl | hy
  · rw [List.append_nil, F_nil]
  · cases y with
    | nil => simp at hy
    | cons c t =>
      have : c = 47 := by simpa using hy
      subst this
      rw [F_slash]
      unfold F
      rw [els_app, List.foldl_append]

theorem step_good {st : List (List UInt8)} {x : List UInt8} (h : Goods st) (hx : 47 ∉ x) : Goods (cleanStep true st x) := by
  unfold cleanStep
  by_cases h1 : x = [] ∨ x = [46]
  · rw [if_pos h1]; exact h
  · rw [if_neg h1]
    by_cases h2 : x = [46, 46]
    · rw [if_pos h2]
      cases st with
      | nil => simp; exact h
      | cons y r =>
        have : y ≠ [46, 46] := (h y (by simp)).2.2.2
        simp only [if_neg this]
        exact fun z hz => h z (by simp [hz])
    · rw [if_neg h2]
      intro z hz
      rcases List.mem_cons.1 hz with rfl | hz
      · exact ⟨fun e => h1 (.inl e), hx, fun e => h1 (.inr e), h2⟩
      · exact h z hz
theorem els_no47 (l : List UInt8) : ∀ x ∈ els l, 47 ∉ x := by
  induction l with
  | nil => intro x hx; simp [els] at hx; subst hx; simp
  | cons c t ih =>
    intro x hx
    by_cases hc : c = 47
    · subst hc
      rw [els_slash] at hx
      rcases List.mem_cons.1 hx with rfl | hx
      · simp
      · exact ih x hx
    · obtain ⟨e, r, he⟩ := els_ne t
      rw [els, if_neg hc, he] at hx
      rw [he] at ih
      rcases List.mem_cons.1 hx with rfl | hx
      · have := ih e (by simp)
        intro h
        rcases List.mem_cons.1 h with h | h
        · exact hc h.symm
        · exact this h
      · exact ih x (by simp [hx])
theorem foldl_good (L : List (List UInt8)) (h : ∀ x ∈ L, 47 ∉ x) (st : List (List UInt8)) (hs : Goods st) : Goods (L.foldl (cleanStep true) st) := by
  induction L generalizing st with
  | nil => exact hs
  | cons x L ih => exact ih (fun z hz => h z (by simp [hz])) _ (step_good hs (h x (by simp)))
theorem F_good (st : List (List UInt8)) (l : List UInt8) (hs : Goods st) : Goods (F st l) := foldl_good _ (els_no47 l) _ hs
theorem goods_nil : Goods [] := by intro x hx; simp at hx

theorem rend_cons {x : List UInt8} {r : List (List UInt8)} : rend true (x :: r) = (if r = [] then [] else rend true r) ++ 47 :: x := by
  cases r with
  | nil => simp [rend]
  | cons y r => simp [rend]
theorem push_good {st : List (List UInt8)} {x : List UInt8} (h : Good x) : cleanStep true st x = x :: st := step_elem true st x h.1 h.2.2.1 h.2.2.2
theorem pop_good {st : List (List UInt8)} {x : List UInt8} (h : Good x) : cleanStep true (x :: st) [46, 46] = st := by simp [cleanStep, h.2.2.2]
theorem pop_nil : cleanStep true [] [46, 46] = [] := by simp [cleanStep]
theorem pop_tail {st : List (List UInt8)} (h : Goods st) : cleanStep true st [46, 46] = st.tail := by
  cases st with
  | nil => simp [cleanStep]
  | cons x r => rw [pop_good (h x (by simp))]; rfl

theorem F_rend (st : List (List UInt8)) (h : Goods st) : F [] (rend true st) = st := by
  induction st with
  | nil => simp [rend, F_slash, F_nil]
  | cons x r ih =>
    have hx := h x (by simp)
    have hr : Goods r := fun z hz => h z (by simp [hz])
    have e : F r (47 :: x) = x :: r := by
      rw [F_slash]
      have := F_elem r x [] hx.2.1 (.inl rfl)
      rw [List.append_nil, F_nil] at this
      rw [this, push_good hx]
    rw [rend_cons]
    by_cases h0 : r = []
    · subst h0
      rw [if_pos rfl, List.nil_append]; exact e
    · rw [if_neg h0, F_app _ _ _ (.inr rfl), ih hr, e]
theorem zc_rend (st : List (List UInt8)) (h : Goods st) : zc (rend true st) = rend true st := by unfold zc; rw [F_rend st h]
theorem rend_head (st : List (List UInt8)) : (rend true st).head? = some 47 := by
  induction st with
  | nil => simp [rend]
  | cons x r ih =>
    rw [rend_cons]
    by_cases h0 : r = []
    · rw [if_pos h0]; rfl
    · rw [if_neg h0]
      cases hq : rend true r with
      | nil => rw [hq] at ih; simp at ih
      | cons a b => rw [hq] at ih; simpa using ih
theorem rend_ne (st : List (List UInt8)) : rend true st ≠ [] := by
  intro e; have := rend_head st; rw [e] at this; simp at this

theorem clean_abs (l : List UInt8) (h : l.head? = some 47) : clean l = zc l := by
  have hne : l ≠ [] := by rintro rfl; simp at h
  rw [clean_eq_cleanEls, cleanEls_abs l hne (by simp [h])]
  unfold zc F
  rw [rend_eq]; rfl

theorem split_last (a x : List UInt8) (hx : 47 ∉ x) : (split (a ++ 47 :: x)).1 = a ++ [47] := by
  have hi : lastIndexByte (a ++ 47 :: x) 47 = (a.length : Int) := by
    unfold lastIndexByte
    refine lastIdx_eq_of _ _ a.length _ (by simp) (by simp) ?_
    intro j h1 h2 e
    rw [List.getElem?_append_right (by omega)] at e
    obtain ⟨q, hq⟩ : ∃ q, j - a.length = q + 1 := ⟨j - a.length - 1, by omega⟩
    rw [hq, List.getElem?_cons_succ] at e
    exact hx (List.mem_of_getElem? e)
  unfold split
  rw [hi]
  simp only
  have : ((a.length : Int) + 1).toNat = a.length + 1 := by omega
  rw [this]
  rw [show a ++ 47 :: x = (a ++ [47]) ++ x by simp]
  rw [List.take_left' (by simp)]

/-- path.Dir of a clean name. -/
theorem dir_rend (st : List (List UInt8)) (h : Goods st) : dir (rend true st) = rend true st.tail := by
  unfold dir
  cases st with
  | nil =>
    have : (split (rend true [])).1 = [47] := by
      have := split_last [] [] (by simp)
      simpa [rend] using this
    rw [this, clean_abs _ rfl]; simp [zc, F_slash, F_nil]
  | cons x r =>
    have hx := h x (by simp)
    have hr : Goods r := fun z hz => h z (by simp [hz])
    rw [rend_cons, split_last _ _ hx.2.1]
    by_cases h0 : r = []
    · subst h0
      rw [if_pos rfl, List.nil_append, clean_abs _ rfl]; simp [zc, F_slash, F_nil]
    · rw [if_neg h0]
      rw [clean_abs]
      · unfold zc
        rw [F_app _ _ _ (.inr rfl), F_rend r hr, F_slash, F_nil]; rfl
      · have := rend_head r
        cases hq : rend true r with
        | nil => rw [hq] at this; simp at this
        | cons a b => rw [hq] at this; simpa using this

/-- One name above another. -/
def isUp (up dir : List UInt8) : Bool := up == dir || up == [47] || (decide (up.length < dir.length) && dir.take up.length == up && dir[up.length]? == some 47)

theorem up_rend (U V : List (List UInt8)) : isUp (rend true U) (rend true (V ++ U)) = true := by
  induction V with
  | nil => simp [isUp]
  | cons x V ih =>
    by_cases hU : U = []
    · subst hU; simp [isUp, rend]
    · have hVU : V ++ U ≠ [] := by simp [hU]
      rw [List.cons_append, rend_cons, if_neg hVU]
      unfold isUp at ih ⊢
      simp only [Bool.or_eq_true, Bool.and_eq_true, beq_iff_eq, decide_eq_true_eq] at ih ⊢
      rcases ih with (h | h) | ⟨⟨h1, h2⟩, h3⟩
      · right
        rw [← h]
        simp
      · left; right; exact h
      · right
        refine ⟨⟨by simp; omega, ?_⟩, ?_⟩
        · rw [List.take_append_of_le_length (by omega)]; exact h2
        · rw [List.getElem?_append_left (by omega)]; exact h3

/-- What 'under' makes. -/
def und (up r : List UInt8) : List UInt8 := if up = [47] ∧ r ≠ [] then r else up ++ r
theorem und_mean (U : List (List UInt8)) (r : List UInt8) (hU : Goods U) (hr : Rest r) : F [] (und (rend true U) r) = F U r := by
  unfold und
  by_cases h : rend true U = [47] ∧ r ≠ []
  · rw [if_pos h]
    have : U = [] := by
      cases U with
      | nil => rfl
      | cons x U =>
        have := rend_cons_len true x U (hU x (by simp)).1
        rw [h.1] at this
        have h1 := List.length_pos_iff.2 (rend_ne U)
        simp only [List.length_cons, List.length_nil] at this
        omega
    rw [this]
  · rw [if_neg h, F_app _ _ _ hr, F_rend U hU]

/-- The bytes of the elements kept, the first first. -/
theorem rend_flat (L : List (List UInt8)) (h : L ≠ []) : rend true L.reverse = L.flatMap (47 :: ·) := by
  rw [rend_eq]
  simp only [List.reverse_reverse, if_true]
  induction L with
  | nil => exact absurd rfl h
  | cons x L ih =>
    cases L with
    | nil => simp [List.intercalate]
    | cons y L => 
      have := ih (by simp)
      rw [J_cons, List.flatMap_cons, ← this]; simp

end Go.Proofs.Qxb6002464a
