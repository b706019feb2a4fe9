import Derived.Test.Qxb6001776aFlags
import Derived.Test.Qxb6001776aValues
namespace Go.Proofs.Qxb6001776a
open Go.RowKit
set_option linter.unusedVariables false
set_option linter.unusedSimpArgs false

/-- The six values that the flags set. -/
def valOf (v M m : ByteArray) : Nat → ByteArray
  | 0 => v
  | 1 => M
  | 2 => m
  | 3 => v
  | 4 => M
  | _ => m

theorem data_app' (a b : ByteArray) : (a ++ b).data.toList = a.data.toList ++ b.data.toList := by simp

theorem key_parts : key0.data.toList ++ [61] = srvB.data.toList ++ gvB.data.toList ∧ key1.data.toList ++ [61] = srvB.data.toList ++ gMB.data.toList ∧ key2.data.toList ++ [61] = srvB.data.toList ++ gmB.data.toList ∧
    key3.data.toList ++ [61] = cliB.data.toList ++ gvB.data.toList ∧ key4.data.toList ++ [61] = cliB.data.toList ++ gMB.data.toList ∧ key5.data.toList ++ [61] = cliB.data.toList ++ gmB.data.toList := by
  refine ⟨?_, ?_, ?_, ?_, ?_, ?_⟩ <;> rfl

def wordsOf (v M m : ByteArray) : List ByteArray :=
  [xB, keyOf 0 ++ eqB ++ valOf v M m 0, xB, keyOf 1 ++ eqB ++ valOf v M m 1, xB, keyOf 2 ++ eqB ++ valOf v M m 2, xB, keyOf 3 ++ eqB ++ valOf v M m 3, xB, keyOf 4 ++ eqB ++ valOf v M m 4, xB, keyOf 5 ++ eqB ++ valOf v M m 5]

theorem word_data (p q k v : ByteArray) (h : k.data.toList ++ [61] = p.data.toList ++ q.data.toList) : (k ++ eqB ++ v).data.toList = p.data.toList ++ (q.data.toList ++ v.data.toList) := by
  rw [data_app', data_app', ← List.append_assoc, ← h]; rfl

theorem seg_word (p q v : ByteArray) : (dashB ++ p ++ q ++ v).data.toList = xB.data.toList ++ ([32] ++ (p.data.toList ++ (q.data.toList ++ v.data.toList))) := by
  rw [data_app', data_app', data_app']
  simp only [List.append_assoc]
  rfl

theorem flags_words (v M m : ByteArray) : Lib.join ((segsTo v M m 2).map (·.data.toList)) [32] = Lib.join ((wordsOf v M m).map (·.data.toList)) [32] := by
  obtain ⟨k0, k1, k2, k3, k4, k5⟩ := key_parts
  have e0 : (keyOf 0 ++ eqB ++ valOf v M m 0).data.toList = srvB.data.toList ++ (gvB.data.toList ++ v.data.toList) := word_data _ _ _ _ k0
  have e1 : (keyOf 1 ++ eqB ++ valOf v M m 1).data.toList = srvB.data.toList ++ (gMB.data.toList ++ M.data.toList) := word_data _ _ _ _ k1
  have e2 : (keyOf 2 ++ eqB ++ valOf v M m 2).data.toList = srvB.data.toList ++ (gmB.data.toList ++ m.data.toList) := word_data _ _ _ _ k2
  have e3 : (keyOf 3 ++ eqB ++ valOf v M m 3).data.toList = cliB.data.toList ++ (gvB.data.toList ++ v.data.toList) := word_data _ _ _ _ k3
  have e4 : (keyOf 4 ++ eqB ++ valOf v M m 4).data.toList = cliB.data.toList ++ (gMB.data.toList ++ M.data.toList) := word_data _ _ _ _ k4
  have e5 : (keyOf 5 ++ eqB ++ valOf v M m 5).data.toList = cliB.data.toList ++ (gmB.data.toList ++ m.data.toList) := word_data _ _ _ _ k5
  simp only [segsTo, segs, wordsOf, List.cons_append, List.nil_append, List.map_cons, List.map_nil, e0, e1, e2, e3, e4, e5, seg_word, Lib.join_cons, Lib.joinTail, List.flatten_cons, List.flatten_nil, List.append_nil, List.append_assoc]

theorem nosp_key (k : Nat) : ∀ b ∈ (keyOf k).data.toList, b ≠ 32 := by
  unfold keyOf
  split <;> decide

theorem nosp_word (k : Nat) (v : ByteArray) (h : ∀ b ∈ v.data.toList, b ≠ 32) : ∀ b ∈ (keyOf k ++ eqB ++ v).data.toList, b ≠ 32 := by
  intro b hb
  rw [data_app', data_app', List.mem_append, List.mem_append] at hb
  rcases hb with (hb | hb) | hb
  · exact nosp_key k b hb
  · have : ∀ b ∈ eqB.data.toList, b ≠ 32 := by decide
    exact this b hb
  · exact h b hb

theorem words_split (v M m : ByteArray) (hv : ∀ b ∈ v.data.toList, b ≠ 32) (hM : ∀ b ∈ M.data.toList, b ≠ 32) (hm : ∀ b ∈ m.data.toList, b ≠ 32) :
    sp (Lib.join ((segsTo v M m 2).map (·.data.toList)) [32]) = (wordsOf v M m).map (·.data.toList) := by
  rw [flags_words]
  apply sp_join
  · simp [wordsOf]
  · intro x hx
    have hX : ∀ b ∈ xB.data.toList, b ≠ 32 := by decide
    simp only [wordsOf, List.map_cons, List.map_nil, List.mem_cons, List.not_mem_nil, or_false] at hx
    rcases hx with rfl | rfl | rfl | rfl | rfl | rfl | rfl | rfl | rfl | rfl | rfl | rfl
    all_goals first | exact hX | exact nosp_word _ _ hv | exact nosp_word _ _ hM | exact nosp_word _ _ hm

theorem bef_mem (l : List UInt8) : ∀ b ∈ bef l, b ∈ l := by
  induction l with
  | nil => simp [bef]
  | cons c l ih =>
    intro b hb
    unfold bef at hb
    split at hb
    · simp at hb
    · simp only [List.mem_cons] at hb ⊢
      rcases hb with h | h
      · exact Or.inl h
      · exact Or.inr (ih b h)
theorem aft_mem (l : List UInt8) : ∀ b ∈ aft l, b ∈ l := by
  induction l with
  | nil => simp [aft]
  | cons c l ih =>
    intro b hb
    unfold aft at hb
    split at hb
    · simp [hb]
    · simp [ih b hb]
theorem trim_mem (l : List UInt8) : ∀ b ∈ trimV l, b ∈ l := by
  intro b hb
  unfold trimV Lib.trimPrefix at hb
  split at hb
  · exact List.mem_of_mem_drop hb
  · exact hb

/-- The flags of a version without a space split into the twelve words. -/
theorem flags_split (v : ByteArray) (hv : ∀ b ∈ v.data.toList, b ≠ 32) : sp (flagsB v).data.toList = (wordsOf v (majorB v) (minorB v)).map (·.data.toList) :=
  words_split v (majorB v) (minorB v) hv (fun b hb => hv b (trim_mem _ b (bef_mem _ b hb))) (fun b hb => hv b (trim_mem _ b (aft_mem _ b (bef_mem _ b hb))))

theorem flags8 (s : ByteArray) (w : World) (hs : s.size ≤ 1000000) :
    Calls Try.prog 8 #[.string s] w fun e w' => e = .returned (.string (flagsB s)) ∧ Below w.heap.size w w' := by
  go_enter Try.func8, Try.ntmps8
  go_wp2_with (go_at_call 15; refine (flags15 s _ hs).mono ?_; rintro e w' ⟨rfl, hb⟩)
  go_ret
  exact ⟨rfl, hb⟩

theorem trim_len (l : List UInt8) : (trimV l).length ≤ l.length := Lib.trimPrefix_le _ _

theorem major_size (v : ByteArray) : (majorB v).size ≤ v.size := by
  rw [Lib.size_eq, Lib.size_eq]
  exact Nat.le_trans (bef_le _) (trim_len _)
theorem minor_size (v : ByteArray) : (minorB v).size ≤ v.size := by
  rw [Lib.size_eq, Lib.size_eq]
  exact Nat.le_trans (bef_le _) (Nat.le_trans (aft_le _) (trim_len _))

theorem flags_size (v : ByteArray) (hv : v.size ≤ 1000000) : (flagsB v).size ≤ 4294967296 := by
  rw [Lib.size_eq]
  have h1 := major_size v
  have h2 := minor_size v
  show (Lib.join ((segsTo v (majorB v) (minorB v) 2).map (·.data.toList)) [32]).length ≤ _
  refine Nat.le_trans (join_len _ 1000100 ?_) (by show 6 * _ ≤ _; omega)
  intro x hx
  have a1 : srvB.size ≤ 29 := by decide
  have a2 : cliB.size ≤ 29 := by decide
  have b1 : gvB.size ≤ 12 := by decide
  have b2 : gMB.size ≤ 12 := by decide
  have b3 : gmB.size ≤ 12 := by decide
  have c1 : (majorB v).size ≤ 1000000 := by omega
  have c2 : (minorB v).size ≤ 1000000 := by omega
  simp only [segsTo, segs, List.cons_append, List.nil_append, List.map_cons, List.map_nil, List.mem_cons, List.not_mem_nil, or_false] at hx
  rcases hx with rfl | rfl | rfl | rfl | rfl | rfl <;> apply seg_size <;> assumption

/-- vfValues of the flags of a version without a space. -/
theorem values_flags (v : ByteArray) (w : World) (hs : v.size ≤ 1000000) (hv : ∀ b ∈ v.data.toList, b ≠ 32) :
    Calls Try.prog 11 #[.string (flagsB v)] w fun e w' => e = .returned (.tuple #[.agg #[.string v, .string (majorB v), .string (minorB v), .string v, .string (majorB v), .string (minorB v)], .bool true]) ∧ Below w.heap.size w w' := by
  have h1 := major_size v
  have h2 := minor_size v
  refine values_ok (flagsB v) (valOf v (majorB v) (minorB v)) w (flags_size v hs) ?_ (flags_split v hv)
  intro j
  unfold valOf
  split <;> omega
end Go.Proofs.Qxb6001776a
