import Derived.Test.Qxb6002464aClimbSmall
import Derived.Deep.QuietTactic
import Derived.Below
namespace Go.Proofs.Qxb6002464a
open Go.ChangeShapes Go.WideShapes Go.ChangeAt Go.RowKit
set_option linter.unusedVariables false
set_option linter.unusedSimpArgs false

def strLen : Value → Nat
  | .string s => s.size
  | _ => 0

/-- Where the climb stands: at the directory U of D, with r left of rest. -/
structure Cl (D : List (List UInt8)) (rest d r : List UInt8) : Prop where
  ex : ∃ U V : List (List UInt8), d = Lib.Pa.rend true U ∧ D = V ++ U ∧ F U r = F D rest
  suf : ∃ i, i ≤ rest.length ∧ r = rest.drop i
  st : Rest r

theorem Cl.start (D : List (List UInt8)) (rest : List UInt8) (h : Rest rest) : Cl D rest (Lib.Pa.rend true D) rest := ⟨⟨D, [], rfl, rfl, rfl⟩, ⟨0, Nat.zero_le _, rfl⟩, h⟩

theorem tail_len (U : List (List UInt8)) : (Lib.Pa.rend true U.tail).length ≤ (Lib.Pa.rend true U).length := by
  cases U with
  | nil => exact Nat.le_refl _
  | cons x r =>
    simp only [List.tail_cons]
    rw [rend_cons]
    by_cases h : r = []
    · subst h; simp [Lib.Pa.rend]
    · rw [if_neg h]; simp

theorem Cl.next {D : List (List UInt8)} {rest d r d' : List UInt8} (h : Cl D rest d r) (hne : r ≠ [])
    (hd : ∀ U, d = Lib.Pa.rend true U → ∀ V, D = V ++ U → ∃ U' V', d' = Lib.Pa.rend true U' ∧ D = V' ++ U' ∧ Lib.Pa.cleanStep true U (r.tail.take (elemLen r.tail)) = U') :
    Cl D rest d' (r.drop (1 + elemLen r.tail)) := by
  obtain ⟨⟨U, V, e1, e2, e3⟩, ⟨i, hi, e4⟩, hst⟩ := h
  obtain ⟨U', V', f1, f2, f3⟩ := hd U e1 V e2
  have hr : r = 47 :: r.tail := by
    rcases hst with h | h
    · exact absurd h hne
    · cases r with
      | nil => simp at h
      | cons c t => simp at h; subst h; rfl
  have hdrop : r.drop (1 + elemLen r.tail) = r.tail.drop (elemLen r.tail) := by
    conv => lhs; rw [hr]
    rw [Nat.add_comm, List.drop_succ_cons]
    rfl
  refine ⟨⟨U', V', f1, f2, ?_⟩, ?_, ?_⟩
  · rw [← e3, hdrop]
    conv => rhs; rw [hr, F_slash, seg_step, f3]
  · have hl := E_le r.tail
    have hlt : r.tail.length = r.length - 1 := by simp
    have h0 : 0 < r.length := List.length_pos_iff.2 hne
    refine ⟨i + (1 + elemLen r.tail), ?_, ?_⟩
    · have : r.length = rest.length - i := by rw [e4]; simp
      omega
    · rw [e4, List.drop_drop]
  · rw [hdrop]; exact seg_rest _

theorem Cl.stay {D : List (List UInt8)} {rest d r : List UInt8} (h : Cl D rest d r) (hne : r ≠ []) (hx : r.tail.take (elemLen r.tail) = [] ∨ r.tail.take (elemLen r.tail) = [46]) :
    Cl D rest d (r.drop (1 + elemLen r.tail)) := by
  refine h.next hne fun U h1 V h2 => ⟨U, V, h1, h2, ?_⟩
  rcases hx with hx | hx
  · rw [hx, Lib.Pa.step_nil]
  · rw [hx, Lib.Pa.step_dot]
theorem Cl.up {D : List (List UInt8)} {rest d r : List UInt8} (hD : Goods D) (h : Cl D rest d r) (hne : r ≠ []) (hx : r.tail.take (elemLen r.tail) = [46, 46]) :
    Cl D rest (Lib.Pa.dir d) (r.drop (1 + elemLen r.tail)) := by
  refine h.next hne fun U h1 V h2 => ?_
  have hU : Goods U := fun x hx => hD x (by rw [h2]; simp [hx])
  cases hc : U with
  | nil =>
    subst hc
    exact ⟨[], V, by rw [h1, dir_rend _ hU]; rfl, h2, by rw [hx, pop_nil]⟩
  | cons x r =>
    subst hc
    refine ⟨r, V ++ [x], by rw [h1, dir_rend _ hU]; rfl, by rw [h2]; simp, by rw [hx, pop_tail hU]; rfl⟩
theorem Cl.len {D : List (List UInt8)} {rest d r : List UInt8} (hD : Goods D) (h : Cl D rest d r) : (Lib.Pa.dir d).length ≤ d.length := by
  obtain ⟨⟨U, V, e1, e2, e3⟩, _, _⟩ := h
  have hU : Goods U := fun x hx => hD x (by rw [e2]; simp [hx])
  rw [e1, dir_rend _ hU]
  exact tail_len U

/-- Where the climb ends. -/
structure Cd (D : List (List UInt8)) (rest d r : List UInt8) : Prop where
  cl : Cl D rest d r
  no : r ≠ [] → r.tail.take (elemLen r.tail) ≠ [] ∧ r.tail.take (elemLen r.tail) ≠ [46] ∧ r.tail.take (elemLen r.tail) ≠ [46, 46]

theorem ret_two {a b a' b' : ByteArray} (h : a = a') (h2 : b = b') : Ending.returned (.tuple #[.string a, .string b]) = .returned (.tuple #[.string a', .string b']) := by rw [h, h2]

theorem tail_extract (r : ByteArray) (E : Nat) : (r.extract 1 (1 + E)).toList = r.data.toList.tail.take E := by
  rw [Lib.toList_data, Lib.extract_data, List.drop_one, show 1 + E - 1 = E by omega]
theorem drop_extract (r : ByteArray) (k : Nat) : (r.extract k r.size).data.toList = r.data.toList.drop k := by
  rw [Lib.extract_data, List.take_of_length_le (by simp)]
theorem empty_of (r : ByteArray) (h : r.toList = []) : r.data.toList = [] := by rw [← Lib.toList_data]; exact h

set_option maxRecDepth 100000 in
set_option maxHeartbeats 1600000 in
theorem climb_any (D : List (List UInt8)) (dir rest : ByteArray) (w : World) (hd : dir.data.toList = Lib.Pa.rend true D) (hD : Goods D) (hr : Rest rest.data.toList) (h1 : dir.size ≤ 1048576) (h2 : rest.size ≤ 1048576) :
    Calls Try.prog 25 #[.string dir, .string rest] w fun e w' => ∃ up r : ByteArray, e = .returned (.tuple #[.string up, .string r]) ∧ Cd D rest.data.toList up.data.toList r.data.toList ∧ up.size ≤ 1048576 ∧ Below w.heap.size w w' := by
  have h0 : Cl D rest.data.toList dir.data.toList rest.data.toList := by rw [hd]; exact Cl.start D _ hr
  have HD := hide hD
  clear hd hD hr
  go_enter Try.func25, Try.ntmps25
  go_wp2
  go_loopw [0, 1] (fun v0 v1 wr => ∃ (d r : ByteArray), v0 = .string d ∧ v1 = .string r ∧ d.size ≤ 1048576 ∧ r.size ≤ 1048576 ∧ Cl D rest.data.toList d.data.toList r.data.toList ∧ Below w.heap.size w wr) (fun _ v1 _ => strLen v1)
  case atStart => exact ⟨dir, rest, rfl, rfl, h1, h2, h0, Below.refl _ _⟩
  case round =>
    clear h0
    obtain ⟨d, r, rfl, rfl, hd, hr, hcl, hb⟩ := hrel
    by_cases hp : 0 < r.size
    · have hne : r.data.toList ≠ [] := by
        intro e
        have hz : r.size = 0 := by rw [Lib.size_eq, e]; rfl
        omega
      have HN := hide hne
      have e0 : r.toList.isEmpty = false := by
        rw [Lib.toList_data]
        cases h : r.data.toList with
        | nil => exact absurd h hne
        | cons a b => rfl
      have hE := E_le r.data.toList.tail
      have hlen : r.data.toList.tail.length = r.size - 1 := by simp
      rw [hlen] at hE
      have hend := hide (elemEnd_any r wr hp (by omega))
      have hts := hide (tail_extract r (elemLen r.data.toList.tail))
      have hds := hide (drop_extract r (1 + elemLen r.data.toList.tail))
      have hup := hide (fun hx => hcl.up (unhide HD) hne hx)
      have hst := hide (fun hx => hcl.stay hne hx)
      have hln := hide (hcl.len (unhide HD))
      have hfin := hide (fun (g0 : r.data.toList.tail.take (elemLen r.data.toList.tail) ≠ []) g1 g2 => Cd.mk hcl (fun _ => ⟨g0, g1, g2⟩))
      generalize hEq : elemLen r.data.toList.tail = E at *
      clear hne hlen hEq hcl
      go_wp2_with fail
      refine (unhide hend).mono ?_
      rintro e w1 ⟨rfl, hw1⟩
      have hw2 := hw1.symm
      subst hw2
      clear hw1
      by_cases c2 : (r.extract 1 (1 + E)).toList = [46, 46]
      · have t2 : ((r.extract 1 (1 + E)).toList == [46, 46]) = true := by rw [c2]; rfl
        have C2 := hide c2
        clear c2
        go_wp2_with fail
        refine (Try.path_Dir d wr (by omega)).mono ?_
        rintro e w1 ⟨rfl, hb1⟩
        go_wp2
        go_roundw
        case rel =>
          have hx := unhide hup (by rw [← unhide hts]; exact unhide C2)
          have hl := unhide hln
          refine ⟨⟨(Lib.Pa.dir d.data.toList).toArray⟩, r.extract (1 + E) r.size, rfl, rfl, ?_, ?_, ?_, hb.trans (hb1.mono hb.size)⟩
          · rw [Lib.size_eq]; rw [← Lib.size_eq] at hl; exact Nat.le_trans hl hd
          · rw [ByteArray.size_extract]; omega
          · rw [unhide hds]; exact hx
        case measure => simp [strLen]; omega
      · have t2 : ((r.extract 1 (1 + E)).toList == [46, 46]) = false := by rw [beq_eq_false_iff_ne]; exact c2
        have C2 := hide c2
        by_cases c0 : (r.extract 1 (1 + E)).toList = []
        · have t0 : (r.extract 1 (1 + E)).toList.isEmpty = true := by rw [c0]; rfl
          have C0 := hide c0
          clear c0 c2
          go_wp2
          go_roundw
          case rel =>
            have hx := unhide hst (.inl (by rw [← unhide hts]; exact unhide C0))
            refine ⟨d, r.extract (1 + E) r.size, rfl, rfl, hd, ?_, ?_, hb⟩
            · rw [ByteArray.size_extract]; omega
            · rw [unhide hds]; exact hx
          case measure => simp [strLen]; omega
        · have t0 : (r.extract 1 (1 + E)).toList.isEmpty = false := by
            cases h : (r.extract 1 (1 + E)).toList with
            | nil => exact absurd h c0
            | cons a b => rfl
          have C0 := hide c0
          by_cases c1 : (r.extract 1 (1 + E)).toList = [46]
          · have t1 : ((r.extract 1 (1 + E)).toList == [46]) = true := by rw [c1]; rfl
            have C1 := hide c1
            clear c0 c1 c2
            go_wp2
            go_roundw
            case rel =>
              have hx := unhide hst (.inr (by rw [← unhide hts]; exact unhide C1))
              refine ⟨d, r.extract (1 + E) r.size, rfl, rfl, hd, ?_, ?_, hb⟩
              · rw [ByteArray.size_extract]; omega
              · rw [unhide hds]; exact hx
            case measure => simp [strLen]; omega
          · have t1 : ((r.extract 1 (1 + E)).toList == [46]) = false := by rw [beq_eq_false_iff_ne]; exact c1
            have C1 := hide c1
            clear c0 c1 c2
            go_wp2
            go_ret2
            refine ⟨d, r, rfl, unhide hfin ?_ ?_ ?_, hd, hb⟩
            · rw [← unhide hts]; exact unhide C0
            · rw [← unhide hts]; exact unhide C1
            · rw [← unhide hts]; exact unhide C2
    · have hz : r.data.toList = [] := Lib.Pa.nil_of_size r hp
      have e0 : r.toList.isEmpty = true := by rw [Lib.toList_data, hz]; rfl
      have HZ := hide hz
      clear hz
      go_wp2
      go_ret2
      refine ⟨d, ByteArray.empty, rfl, ⟨?_, fun h => absurd rfl h⟩, hd, hb⟩
      rw [unhide HZ] at hcl
      exact hcl
end Go.Proofs.Qxb6002464a
