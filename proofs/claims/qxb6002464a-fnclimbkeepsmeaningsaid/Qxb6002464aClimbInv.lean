import Derived.Test.Qxb6002464aClimbSmall
import Derived.Deep.AppendLies
import Derived.Lib.AppendStr
import Derived.Laws.IdiomStrings
import Derived.OwnWalk
import Derived.WalkSmall
import Derived.Below
namespace Go.Proofs.Qxb6002464a
open Go.ChangeShapes Go.WideShapes Go.ChangeAt Go.RowKit
set_option linter.unusedVariables false
set_option linter.unusedSimpArgs false

def seg (l : List UInt8) (q : Nat × Nat) : List UInt8 := (l.drop q.1).take (q.2 - q.1)
def segs (l : List UInt8) (ps : List (Nat × Nat)) : List (List UInt8) := ps.map (seg l)

theorem seg_extract (s : ByteArray) (i j : Nat) : (s.extract i j).toList = seg s.data.toList (i, j) := by
  rw [Lib.toList_data, Lib.extract_data]; rfl
theorem seg_len (l : List UInt8) (i j : Nat) (h : i ≤ j) (hj : j ≤ l.length) : (seg l (i, j)).length = j - i := by
  unfold seg; simp; omega

theorem adv {st R : List (List UInt8)} {l : List UInt8} {i j : Nat} (hE : elemLen (l.drop i) = j - i) (hj : i ≤ j) (hA : F st (l.drop i) = R) :
    F (Lib.Pa.cleanStep true st (seg l (i, j))) (l.drop j) = R := by
  rw [seg_step, hE, List.drop_drop, show i + (j - i) = j by omega] at hA
  exact hA
theorem seg_good {l : List UInt8} {i j : Nat} (hE : elemLen (l.drop i) = j - i) (hj : i < j) (hl : j ≤ l.length) (h1 : seg l (i, j) ≠ [46]) (h2 : seg l (i, j) ≠ [46, 46]) : Good (seg l (i, j)) := by
  refine ⟨?_, ?_, h1, h2⟩
  · intro e
    have := seg_len l i j (by omega) hl
    rw [e] at this; simp at this; omega
  · have := seg_no47 (l.drop i)
    rw [hE] at this
    exact this

structure Inv (s : ByteArray) (w : World) (k : Nat) (ps : List (Nat × Nat)) (v3 v4 : Value) (wr : World) : Prop where
  hk : k ≤ s.size
  plain : F (segs s.data.toList ps).reverse (s.data.toList.drop k) = F [] s.data.toList
  good : ∀ q ∈ ps, q.1 < q.2 ∧ q.2 ≤ s.size ∧ Good (seg s.data.toList q)
  len : ps.length ≤ k
  own3 : wr.ownsRow w.heap.size 3 1 v3 ps.length (ps.map fun q => .int .i64 (q.1 : Int))
  own4 : wr.ownsRow w.heap.size 3 1 v4 ps.length (ps.map fun q => .int .i64 (q.2 : Int))
  apart : ∀ g, v3.ownBlock = some g → v4.ownBlock ≠ some g
  below : Below w.heap.size w wr

theorem Inv.start (s : ByteArray) (w : World) : Inv s w 0 [] (.slice none 0 0) (.slice none 0 0) w :=
  ⟨Nat.zero_le _, rfl, fun _ h => by simp at h, Nat.le_refl _, World.ownsRow_nil _ _ _ _, World.ownsRow_nil _ _ _ _, fun g h => by simp [Value.ownBlock] at h, Below.refl _ _⟩

/-- What the two inner loops have found. -/
structure Found (s : ByteArray) (ps : List (Nat × Nat)) (k i j : Nat) : Prop where
  lt : k < j
  le : i ≤ j
  ki : k ≤ i
  top : j ≤ s.size
  el : elemLen (s.data.toList.drop i) = j - i
  plain : F (segs s.data.toList ps).reverse (s.data.toList.drop i) = F [] s.data.toList

theorem F_skip {st R : List (List UInt8)} (s : ByteArray) (i : Nat) (h : i < s.size) (hb : s[i] = 47) (hA : F st (s.data.toList.drop i) = R) : F st (s.data.toList.drop (i + 1)) = R := by
  have : s.data.toList.drop i = 47 :: s.data.toList.drop (i + 1) := by
    rw [List.drop_eq_getElem_cons (by simpa using h)]
    congr 1
  rw [this, F_slash] at hA
  exact hA

variable {s : ByteArray} {w wr : World} {k i j : Nat} {ps : List (Nat × Nat)} {v3 v4 : Value}

theorem seg_nil (hf : Found s ps k i j) (h : j = i) : seg s.data.toList (i, j) = [] := by subst h; simp [seg]

/-- Nothing between the slashes, or a single dot. -/
theorem Inv.same (h : Inv s w k ps v3 v4 wr) (hf : Found s ps k i j) (he : seg s.data.toList (i, j) = [] ∨ seg s.data.toList (i, j) = [46]) : Inv s w j ps v3 v4 wr := by
  refine ⟨hf.top, ?_, h.good, Nat.le_trans h.len (Nat.le_of_lt hf.lt), h.own3, h.own4, h.apart, h.below⟩
  have := adv hf.el hf.le hf.plain
  rcases he with he | he
  · rw [he, Lib.Pa.step_nil] at this; exact this
  · rw [he, Lib.Pa.step_dot] at this; exact this

/-- Two dots at the root. -/
theorem Inv.root (h : Inv s w k [] v3 v4 wr) (hf : Found s [] k i j) (he : seg s.data.toList (i, j) = [46, 46]) : Inv s w j [] v3 v4 wr := by
  refine ⟨hf.top, ?_, h.good, Nat.zero_le _, h.own3, h.own4, h.apart, h.below⟩
  have := adv hf.el hf.le hf.plain
  rw [he] at this
  exact this

/-- Two dots: the last element goes. -/
theorem Inv.pop {qs : List (Nat × Nat)} {q : Nat × Nat} {g3 c3 g4 c4 : Nat} (h : Inv s w k (qs ++ [q]) (.slice (some ⟨g3, 0, none⟩) (qs.length + 1) c3) (.slice (some ⟨g4, 0, none⟩) (qs.length + 1) c4) wr) (hf : Found s (qs ++ [q]) k i j)
    (he : seg s.data.toList (i, j) = [46, 46]) : Inv s w j qs (.slice (some ⟨g3, 0, none⟩) qs.length c3) (.slice (some ⟨g4, 0, none⟩) qs.length c4) wr := by
  have hl := h.len
  have hlt := hf.lt
  rw [List.length_append, List.length_singleton] at hl
  refine ⟨hf.top, ?_, fun x hx => h.good x (by simp [hx]), by omega, ?_, ?_, h.apart, h.below⟩
  · have := adv hf.el hf.le hf.plain
    rw [he] at this
    have hg := (h.good q (by simp)).2.2
    rw [show (segs s.data.toList (qs ++ [q])).reverse = seg s.data.toList q :: (segs s.data.toList qs).reverse by simp [segs], pop_good hg] at this
    exact this
  · have := h.own3
    rw [List.length_append, List.length_singleton, List.map_append] at this
    exact ownsRow_pop (by simp) this
  · have := h.own4
    rw [List.length_append, List.length_singleton, List.map_append] at this
    exact ownsRow_pop (by simp) this

/-- An element is kept. -/
theorem Inv.push {g3 c3 g4 c4 : Nat} {wq : World} (h : Inv s w k ps v3 v4 wr) (hf : Found s ps k i j) (hlt : i < j) (h1 : seg s.data.toList (i, j) ≠ [46]) (h2 : seg s.data.toList (i, j) ≠ [46, 46])
    (own3 : wq.ownsRow w.heap.size 3 1 (.slice (some ⟨g3, 0, none⟩) (ps.length + 1) c3) (ps.length + 1) ((ps.map fun q => Value.int .i64 (q.1 : Int)) ++ [.int .i64 (i : Int)]))
    (own4 : wq.ownsRow w.heap.size 3 1 (.slice (some ⟨g4, 0, none⟩) (ps.length + 1) c4) (ps.length + 1) ((ps.map fun q => Value.int .i64 (q.2 : Int)) ++ [.int .i64 (j : Int)]))
    (hne : g3 ≠ g4) (hb : Below w.heap.size w wq) :
    Inv s w j (ps ++ [(i, j)]) (.slice (some ⟨g3, 0, none⟩) (ps ++ [(i, j)]).length c3) (.slice (some ⟨g4, 0, none⟩) (ps ++ [(i, j)]).length c4) wq := by
  have hL : (ps ++ [(i, j)]).length = ps.length + 1 := by simp
  have hg : Good (seg s.data.toList (i, j)) := seg_good hf.el hlt (by rw [← Lib.size_eq]; exact hf.top) h1 h2
  refine ⟨hf.top, ?_, ?_, ?_, ?_, ?_, ?_, hb⟩
  · have := adv hf.el hf.le hf.plain
    rw [push_good hg] at this
    rw [show (segs s.data.toList (ps ++ [(i, j)])).reverse = seg s.data.toList (i, j) :: (segs s.data.toList ps).reverse by simp [segs]]
    exact this
  · intro x hx
    rcases List.mem_append.1 hx with hx | hx
    · exact h.good x hx
    · simp at hx; subst hx; exact ⟨hlt, hf.top, hg⟩
  · rw [hL]; have := h.len; have := hf.lt; omega
  · rw [hL, List.map_append]; exact own3
  · rw [hL, List.map_append]; exact own4
  · intro g e e2; simp only [Value.ownBlock, Option.some.injEq] at e e2; exact hne (e.trans e2.symm)

/-- The bytes written for the first k elements. -/
def outs (l : List UInt8) (ps : List (Nat × Nat)) : List UInt8 := (segs l ps).flatMap (47 :: ·)
def cells (l : List UInt8) : List Value := l.map fun b => Value.int .u8 b.toNat
theorem cells_len (l : List UInt8) : (cells l).length = l.length := by simp [cells]
theorem outs_snoc (l : List UInt8) (ps : List (Nat × Nat)) (q : Nat × Nat) : outs l (ps ++ [q]) = outs l ps ++ (47 :: seg l q) := by simp [outs, segs]
theorem outs_len (l : List UInt8) (ps : List (Nat × Nat)) (n : Nat) (h : ∀ q ∈ ps, q.2 ≤ n) : (outs l ps).length ≤ ps.length * (n + 1) := by
  induction ps with
  | nil => simp [outs, segs]
  | cons q ps ih =>
    have h1 := ih (fun x hx => h x (by simp [hx]))
    have h2 := h q (by simp)
    have h3 : (seg l q).length ≤ q.2 := by unfold seg; simp; omega
    have e : outs l (q :: ps) = 47 :: seg l q ++ outs l ps := by simp [outs, segs]
    rw [e, List.length_append, List.length_cons, List.length_cons, Nat.succ_mul]
    omega

theorem Inv.empty (h : Inv s w s.size [] v3 v4 wr) : zc s.data.toList = [47] := by
  have := h.plain
  rw [show s.data.toList.drop s.size = [] by rw [Lib.size_eq]; simp, F_nil] at this
  unfold zc
  rw [← this]; simp [segs, Lib.Pa.rend]
theorem Inv.full (h : Inv s w s.size ps v3 v4 wr) (hne : ps ≠ []) : zc s.data.toList = outs s.data.toList ps := by
  have := h.plain
  rw [show s.data.toList.drop s.size = [] by rw [Lib.size_eq]; simp, F_nil] at this
  unfold zc
  rw [← this, rend_flat _ (by simpa [segs] using hne)]; rfl

end Go.Proofs.Qxb6002464a
