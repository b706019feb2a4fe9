import Derived.Test.Qxb6001776aCut
import Derived.Test.Qxb6001776aSplit
namespace Go.Proofs.Qxb6001776a
open Go.ChangeShapes Go.WideShapes Go.ChangeAt Go.RowKit
set_option linter.unusedVariables false
set_option linter.unusedSimpArgs false

def srvB : ByteArray := ⟨#[107, 56, 115, 46, 105, 111, 47, 99, 111, 109, 112, 111, 110, 101, 110, 116, 45, 98, 97, 115, 101, 47, 118, 101, 114, 115, 105, 111, 110]⟩
def cliB : ByteArray := ⟨#[107, 56, 115, 46, 105, 111, 47, 99, 108, 105, 101, 110, 116, 45, 103, 111, 47, 112, 107, 103, 47, 118, 101, 114, 115, 105, 111, 110]⟩
def dashB : ByteArray := ⟨#[45, 88, 32]⟩
def gvB : ByteArray := ⟨#[46, 103, 105, 116, 86, 101, 114, 115, 105, 111, 110, 61]⟩
def gMB : ByteArray := ⟨#[46, 103, 105, 116, 77, 97, 106, 111, 114, 61]⟩
def gmB : ByteArray := ⟨#[46, 103, 105, 116, 77, 105, 110, 111, 114, 61]⟩

def segs (v M m p : ByteArray) : List ByteArray := [dashB ++ p ++ gvB ++ v, dashB ++ p ++ gMB ++ M, dashB ++ p ++ gmB ++ m]
def segsTo (v M m : ByteArray) : Nat → List ByteArray
  | 0 => []
  | 1 => segs v M m srvB
  | _ => segs v M m srvB ++ segs v M m cliB

def trimV (l : List UInt8) : List UInt8 := Lib.trimPrefix l [118]
def majorB (s : ByteArray) : ByteArray := ⟨(bef (trimV s.data.toList)).toArray⟩
def minorB (s : ByteArray) : ByteArray := ⟨(bef (aft (trimV s.data.toList))).toArray⟩
def flagsB (s : ByteArray) : ByteArray := ⟨(Lib.join ((segsTo s (majorB s) (minorB s) 2).map (·.data.toList)) [32]).toArray⟩

theorem cell_new (w : World) (xs : List Value) (t : TypeId) : ∀ j u, xs[j]? = some u → (w.alloc (.cells xs.toArray t)).cell? ((⟨w.heap.size, 0, none⟩ : Addr).add j) = some u := by
  intro j u hj
  by_cases h0 : j = 0
  · subst h0; simp [Addr.add, hj]
  · simp [Addr.add, h0, hj]

theorem join_len (xs : List (List UInt8)) (n : Nat) (h : ∀ x ∈ xs, x.length ≤ n) : (Lib.join xs [32]).length ≤ xs.length * (n + 1) := by
  cases xs with
  | nil => simp [Lib.join_nil]
  | cons x r =>
    rw [Lib.join_cons, List.length_append, Lib.joinTail_length]
    have hx := h x (by simp)
    have hr : Lib.lens r ≤ r.length * n := by
      have h' : ∀ y ∈ r, y.length ≤ n := fun y hy => h y (by simp [hy])
      clear h hx
      induction r with
      | nil => simp [Lib.lens]
      | cons y r ih =>
        have := ih (fun z hz => h' z (by simp [hz]))
        have hy := h' y (by simp)
        simp only [Lib.lens, List.map_cons, List.sum_cons, List.length_cons, Nat.succ_mul] at this ⊢
        omega
    simp only [List.length_cons, List.length_nil, Nat.succ_mul, Nat.mul_succ]
    omega

theorem seg_size (p q v : ByteArray) (h1 : p.size ≤ 29) (h2 : q.size ≤ 12) (h3 : v.size ≤ 1000000) : (dashB ++ p ++ q ++ v).data.toList.length ≤ 1000100 := by
  rw [← Lib.size_eq, ByteArray.size_append, ByteArray.size_append, ByteArray.size_append]
  have : dashB.size = 3 := rfl
  omega

theorem flags_len (s M m : ByteArray) (hs : s.size ≤ 1000000) (hM : M.size ≤ 1000000) (hm : m.size ≤ 1000000) : (Lib.join ((segsTo s M m 2).map (·.data.toList)) [32]).length ≤ 140737488355328 := by
  refine Nat.le_trans (join_len _ 1000100 ?_) (by show 6 * _ ≤ _; omega)
  intro x hx
  have a1 : srvB.size ≤ 29 := by decide
  have a2 : cliB.size ≤ 29 := by decide
  have b1 : gvB.size ≤ 12 := by decide
  have b2 : gMB.size ≤ 12 := by decide
  have b3 : gmB.size ≤ 12 := by decide
  simp only [segsTo, segs, List.cons_append, List.nil_append, List.map_cons, List.map_nil, List.mem_cons, List.not_mem_nil, or_false] at hx
  rcases hx with rfl | rfl | rfl | rfl | rfl | rfl <;> apply seg_size <;> assumption

theorem strs_one (xs : List ByteArray) : ∀ u ∈ xs.map Value.string, u.oneCell' = true := by
  intro u hu
  rw [List.mem_map] at hu
  obtain ⟨x, _, rfl⟩ := hu
  rfl
theorem World.size_drewN (w : World) (n : Nat) : (w.drewN n).heap.size = w.heap.size := rfl
theorem Below.drewN {B : Nat} (w : World) (n : Nat) : Below B w (w.drewN n) := ⟨rfl, rfl, rfl, Nat.le_refl _, fun _ _ => rfl⟩

set_option maxHeartbeats 1600000 in
theorem flags15 (s : ByteArray) (w : World) (hs : s.size ≤ 1000000) :
    Calls Try.prog 15 #[.string s] w fun e w' => e = .returned (.string (flagsB s)) ∧ Below w.heap.size w w' := by
  obtain ⟨i0, hi, hz0, hz1, hz2⟩ := info_parts info9
  have ht := Lib.trimPrefix_le s.data.toList [118]
  have hb1 := bef_le (trimV s.data.toList)
  have ha1 := aft_le (trimV s.data.toList)
  have hb2 := bef_le (aft (trimV s.data.toList))
  have hsl := Lib.size_eq s
  go_enter Try.func15, Try.ntmps15
  go_wp2_with fail
  refine (Try.strings_TrimPrefix _ _ _).mono ?_
  rintro e w1 ⟨rfl, hw1⟩
  have hw2 := hw1.symm
  subst hw2
  clear hw1
  generalize hT : (⟨(Lib.trimPrefix s.data.toList (⟨#[118]⟩ : ByteArray).data.toList).toArray⟩ : ByteArray) = T
  have hTl : T.data.toList = trimV s.data.toList := by rw [← hT]; rfl
  have hTs : T.size ≤ 1000000 := by rw [Lib.size_eq, hTl]; unfold trimV; omega
  have HT := hide hTl
  clear hT hTl
  go_wp2_with fail
  refine (cut18 T _ (by omega)).mono ?_
  rintro e w2 ⟨b1, n1, rfl, rfl⟩
  generalize hM : (⟨(bef T.data.toList).toArray⟩ : ByteArray) = M
  generalize hA : (⟨(aft T.data.toList).toArray⟩ : ByteArray) = A
  have hMs : M.size ≤ 1000000 := by rw [Lib.size_eq, ← hM]; show (bef T.data.toList).length ≤ _; have := bef_le T.data.toList; rw [← Lib.size_eq] at this; omega
  have hAs : A.size ≤ 1000000 := by rw [Lib.size_eq, ← hA]; show (aft T.data.toList).length ≤ _; have := aft_le T.data.toList; rw [← Lib.size_eq] at this; omega
  have hMe : M = majorB s := by rw [← hM]; unfold majorB; rw [unhide HT]
  have hAe : A.data.toList = aft (trimV s.data.toList) := by rw [← hA, unhide HT]
  have HM := hide hMe
  have HA := hide hAe
  clear hM hA hMe hAe
  go_wp2_with fail
  refine (cut18 A _ (by omega)).mono ?_
  rintro e w3 ⟨b2, n2, rfl, rfl⟩
  generalize hm : (⟨(bef A.data.toList).toArray⟩ : ByteArray) = m
  have hms : m.size ≤ 1000000 := by rw [Lib.size_eq, ← hm]; show (bef A.data.toList).length ≤ _; have := bef_le A.data.toList; rw [← Lib.size_eq] at this; omega
  have hme : m = minorB s := by rw [← hm]; unfold minorB; rw [unhide HA]
  have Hm := hide hme
  clear hm hme ht hb1 ha1 hb2 hsl
  go_wp2_with fail
  go_loopw [6, 24] (fun v i wr => ∃ (k : Nat) (ao : Option Addr) (cv : Nat), k ≤ 2 ∧ i = .int .i64 k ∧ v = .slice ao (segsTo s M m k).length cv ∧ wr.ownsRow (w.heap.size + 1) 9 1 v (segsTo s M m k).length ((segsTo s M m k).map Value.string) ∧
      Below w.heap.size w wr ∧ w.heap.size + 1 ≤ wr.heap.size ∧ wr.cell? ⟨w.heap.size, 0, none⟩ = some (.string srvB) ∧ wr.cell? ⟨w.heap.size, 1, none⟩ = some (.string cliB))
    (fun _ i _ => 2 - (intOf i).toNat)
  case atStart => exact ⟨0, none, 0, Nat.zero_le _, rfl, rfl, World.ownsRow_nil _ _ _ _, (Below.drewN _ _).alloc (Nat.le_refl _) _, by simp [World.size_drewN], (World.cell?_alloc_at _ _ _ _ rfl).trans rfl, (World.cell?_alloc_at _ _ _ _ rfl).trans rfl⟩
  case round =>
    obtain ⟨k, ao, cv, hk, rfl, rfl, hown, hnx, hsz, hc0, hc1⟩ := hrel
    have hsv : srvB.size ≤ 29 := by decide
    have hcv : cliB.size ≤ 29 := by decide
    rcases (show k = 0 ∨ k = 1 ∨ k = 2 from by omega) with rfl | rfl | rfl
    · go_wp2_with (first
        | (at_builtin; refine wpList_append_own _ rfl _ _ 31 rfl (w.heap.size + 1) 9 i0 (.string ByteArray.empty) 1 16 Try.underlying31 hi hz0 hz1 hz2 rfl (by decide) _ _ _ rfl (hown.alloc _) ⟨wr.heap.size, 0, none⟩ 3 3 ((segs s M m srvB).map Value.string) rfl rfl (cell_new wr ((segs s M m srvB).map Value.string) 9) (strs_one _) (by unfold maxLen; simp [segsTo, segs]) (by simp [segsTo, segs]) (by simp; omega) ?_; intro v' w3 hown' hgrow3 hnil3))
      go_roundw
      case rel =>
        obtain ⟨g3, cap3, hv3⟩ := slice_of_owns (n := (segsTo s M m 0).length + 2) hown' (by omega)
        have hL : (segsTo s M m 1).length = (segsTo s M m 0).length + 3 := rfl
        have hE : (segsTo s M m 1).map Value.string = (segsTo s M m 0).map Value.string ++ (segs s M m srvB).map Value.string := rfl
        have hb3 : Below (w.heap.size + 1) wr w3 := ((Below.refl _ _).alloc (by omega) _).grown hgrow3 (by simp; omega) (fun q hq => (hown.lt q hq).1)
        refine ⟨1, _, cap3, by omega, by go_num, hv3, by rw [hE, hL]; exact hown', hnx.trans (hb3.mono (by omega)), by have := hb3.size; omega, ?_, ?_⟩
        · rw [hb3.cell (p := ⟨w.heap.size, 0, none⟩) (by simp)]; exact hc0
        · rw [hb3.cell (p := ⟨w.heap.size, 1, none⟩) (by simp)]; exact hc1
      case measure => simp [intOf]
    · go_wp2_with (first
        | (at_builtin; refine wpList_append_own _ rfl _ _ 31 rfl (w.heap.size + 1) 9 i0 (.string ByteArray.empty) 1 16 Try.underlying31 hi hz0 hz1 hz2 rfl (by decide) _ _ _ rfl (hown.alloc _) ⟨wr.heap.size, 0, none⟩ 3 3 ((segs s M m cliB).map Value.string) rfl rfl (cell_new wr ((segs s M m cliB).map Value.string) 9) (strs_one _) (by unfold maxLen; simp [segsTo, segs]) (by simp [segsTo, segs]) (by simp; omega) ?_; intro v' w3 hown' hgrow3 hnil3))
      go_roundw
      case rel =>
        obtain ⟨g3, cap3, hv3⟩ := slice_of_owns (n := (segsTo s M m 1).length + 2) hown' (by omega)
        have hL : (segsTo s M m 2).length = (segsTo s M m 1).length + 3 := rfl
        have hE : (segsTo s M m 2).map Value.string = (segsTo s M m 1).map Value.string ++ (segs s M m cliB).map Value.string := rfl
        have hb3 : Below (w.heap.size + 1) wr w3 := ((Below.refl _ _).alloc (by omega) _).grown hgrow3 (by simp; omega) (fun q hq => (hown.lt q hq).1)
        refine ⟨2, _, cap3, by omega, by go_num, hv3, by rw [hE, hL]; exact hown', hnx.trans (hb3.mono (by omega)), by have := hb3.size; omega, ?_, ?_⟩
        · rw [hb3.cell (p := ⟨w.heap.size, 0, none⟩) (by simp)]; exact hc0
        · rw [hb3.cell (p := ⟨w.heap.size, 1, none⟩) (by simp)]; exact hc1
      case measure => simp [intOf]
    · obtain ⟨g, cap, hv⟩ := slice_of_owns (n := 5) hown (by omega)
      rw [hv] at hown
      have hcells : ∀ (j : Nat) x, (segsTo s M m 2)[j]? = some x → wr.cell? ⟨g, 0 + j, none⟩ = some (.string x) := by
        intro j x hj
        have hjl := (List.getElem?_eq_some_iff.1 hj).1
        rw [Nat.zero_add, World.ownsRow.cellAt hown j (by rw [Nat.mul_one]; exact hjl), List.getElem?_map, hj]
        rfl
      have hgl : g < wr.heap.size := (hown.lt g rfl).2
      have hcap : (segsTo s M m 2).length ≤ cap := by
        rcases hown.2 with ⟨h, _⟩ | ⟨g', cap', _, h, _, _, hn, _⟩
        · cases h
        · simp only [Value.slice.injEq] at h
          have e : (segsTo s M m 2).length = 6 := rfl
          omega
      have hlen := hide (flags_len s M m hs hMs hms)
      simp only [Value.slice.injEq] at hv
      obtain ⟨hao, _, hcv2⟩ := hv
      subst hao
      subst hcv2
      have hj := Try.strings_Join g 0 cv (segsTo s M m 2) ⟨#[32]⟩ wr hcells hgl (by show 6 ≤ _; omega) hcap (unhide hlen)
      have h6 : (segsTo s M m 2).length = 6 := rfl
      rw [h6] at hj
      have HJ := hide hj
      clear hj h6 hlen hcells hown hi hz0 hz1 hz2 hc0 hc1
      go_wp2_with fail
      refine (unhide HJ).mono ?_
      rintro e w' ⟨rfl, hb5⟩
      go_wp2_with fail
      go_ret
      refine ⟨?_, hnx.trans (hb5.mono hnx.size)⟩
      rw [unhide HM, unhide Hm]
      rfl
end Go.Proofs.Qxb6001776a
