import Derived.Test.Qxb6002464aClimbUp
import Derived.Test.Qxb6002464aClimbClean
namespace Go.Proofs.Qxb6002464a.fnClimbKeepsMeaning
open Go.ChangeShapes Go.WideShapes Go.ChangeAt Go.RowKit
set_option linter.unusedVariables false
set_option linter.unusedSimpArgs false

theorem zzclimb_any (D : List (List UInt8)) (dir rest : ByteArray) (w : World) (hd : dir.data.toList = Lib.Pa.rend true D) (hD : Goods D) (hr : Rest rest.data.toList) (h1 : dir.size ≤ 1048576) (h2 : rest.size ≤ 1048576) :
    Calls Try.prog 12 #[.string dir, .string rest] w fun e w' => ∃ up r : ByteArray, e = .returned (.tuple #[.string up, .string r]) ∧ Cd D rest.data.toList up.data.toList r.data.toList ∧ up.size ≤ 1048576 ∧ Below w.heap.size w w' := by
  have H := hide (climb_any D dir rest w hd hD hr h1 h2)
  clear hd hD hr
  go_enter Try.func12, Try.ntmps12
  go_wp2_with fail
  refine (unhide H).mono ?_
  rintro e w1 ⟨up, r, rfl, hcd, hu, hb⟩
  go_wp2
  go_ret2
  exact ⟨up, r, rfl, hcd, hu, hb⟩

theorem same_bytes (s : ByteArray) : (⟨s.data.toList.toArray⟩ : ByteArray) = s := by cases s; simp

theorem und_len (a b : List UInt8) : (und a b).length ≤ a.length + b.length := by
  unfold und
  split
  · omega
  · simp

/-- What the law asks of what climb hands back. -/
structure Fine (dir rest up r : ByteArray) : Prop where
  len : r.size ≤ rest.size
  suf : rest.extract (rest.size - r.size) rest.size = r
  up1 : zc up.data.toList = up.data.toList
  anc : isUp up.data.toList dir.data.toList = true
  mean : zc (und up.data.toList r.data.toList) = zc (dir ++ rest).data.toList
  head : ∀ h : 0 < r.size, r[0] = 47
  no : r.data.toList ≠ [] → r.data.toList.tail.take (elemLen r.data.toList.tail) ≠ [] ∧ r.data.toList.tail.take (elemLen r.data.toList.tail) ≠ [46] ∧ r.data.toList.tail.take (elemLen r.data.toList.tail) ≠ [46, 46]

theorem fine_of {D : List (List UInt8)} {dir rest up r : ByteArray} (hd : dir.data.toList = Lib.Pa.rend true D) (hD : Goods D) (hr : Rest rest.data.toList) (h : Cd D rest.data.toList up.data.toList r.data.toList) : Fine dir rest up r := by
  obtain ⟨⟨⟨U, V, e1, e2, e3⟩, ⟨i, hi, e4⟩, hst⟩, hno⟩ := h
  have hU : Goods U := fun x hx => hD x (by rw [e2]; simp [hx])
  have hsz : r.size = rest.size - i := by rw [Lib.size_eq, e4, List.length_drop, ← Lib.size_eq]
  rw [← Lib.size_eq] at hi
  refine ⟨by omega, ?_, ?_, ?_, ?_, ?_, hno⟩
  · have : rest.size - r.size = i := by omega
    rw [this, ← same_bytes (rest.extract i rest.size), drop_extract, ← e4, same_bytes]
  · rw [e1, zc_rend U hU]
  · rw [e1, hd, e2]; exact up_rend U V
  · unfold zc
    rw [e1, und_mean U _ hU hst, e3]
    have : (dir ++ rest).data.toList = dir.data.toList ++ rest.data.toList := by simp
    rw [this, F_app _ _ _ hr, hd, F_rend D hD]
  · intro h0
    have := Lib.Pa.at_eq r 0 h0
    rcases hst with hs | hs
    · rw [hs] at this; simp at this
    · rw [List.head?_eq_getElem?, this] at hs
      exact Option.some.inj hs

theorem big (a0 a1 : ByteArray) (w0 : a0.size ≤ maxLen) (w1 : a1.size ≤ maxLen) (w : World) (h : ¬ a0.size + a1.size ≤ 1048576) :
    Calls Try.prog 4 #[.string a0, .string a1] w fun e w' => e = .returned (.bool true) ∧ Below w.heap.size w w' := by
  have H := hide (bytes10_any a0 a1 w w0 w1)
  have hd := hide (decide_eq_false h)
  clear w0 w1 h
  go_enter Try.func4, Try.ntmps4
  go_wp2_with fail
  refine (unhide H).mono ?_
  rintro e w1 ⟨rfl, hw1⟩
  have hw2 := hw1.symm
  subst hw2
  clear hw1
  rw [unhide hd]
  go_wp2
  go_ret
  exact ⟨rfl, Below.refl _ _⟩

set_option maxRecDepth 100000 in
theorem noslash (a0 a1 : ByteArray) (w : World) (h : a0.size + a1.size ≤ 1048576) (hp : 0 < a1.size) (hb : a1[0] ≠ 47) :
    Calls Try.prog 4 #[.string a0, .string a1] w fun e w' => e = .returned (.bool true) ∧ Below w.heap.size w w' := by
  have H := hide (bytes10_any a0 a1 w (by unfold maxLen; omega) (by unfold maxLen; omega))
  have hd := hide (decide_eq_true h)
  have ht : ((a1[0].toNat : Int) != 47) = true := bne_miss (c := 47) rfl hb
  clear hb
  go_enter Try.func4, Try.ntmps4
  go_wp2_with fail
  refine (unhide H).mono ?_
  rintro e w1 ⟨rfl, hw1⟩
  have hw2 := hw1.symm
  subst hw2
  clear hw1
  rw [unhide hd]
  go_wp2
  go_ret
  exact ⟨rfl, Below.refl _ _⟩

-- GENERATED
set_option maxRecDepth 100000 in
theorem unclean_E (a0 a1 : ByteArray) (w : World) (h : a0.size + a1.size ≤ 1048576) (hp : ¬ 0 < a1.size) (hc : zc a0.data.toList ≠ a0.data.toList) :
    Calls Try.prog 4 #[.string a0, .string a1] w fun e w' => e = .returned (.bool true) ∧ Below w.heap.size w w' := by
  have H := hide (bytes10_any a0 a1 w (by unfold maxLen; omega) (by unfold maxLen; omega))
  have hd := hide (decide_eq_true h)
  obtain ⟨c, hce⟩ : ∃ c : ByteArray, c = ⟨(zc a0.data.toList).toArray⟩ := ⟨_, rfl⟩
  have hne : c.toList ≠ a0.toList := by rw [Lib.toList_data, Lib.toList_data, hce]; simpa using hc
  have t0 : (c.toList == a0.toList) = false := by rw [beq_eq_false_iff_ne]; exact hne
  have t1 : (c.toList != a0.toList) = true := by unfold bne; rw [t0]; rfl
  have H1 := hide (clean_any a0 w (by omega))
  rw [← hce] at H1
  clear hce hc hne
  go_enter Try.func4, Try.ntmps4
  go_wp2_with fail
  refine (unhide H).mono ?_
  rintro e w1 ⟨rfl, hw1⟩
  have hw2 := hw1.symm
  subst hw2
  clear hw1
  rw [unhide hd]
  go_wp2_with fail
  refine (unhide H1).mono ?_
  rintro e w1 ⟨rfl, hb1⟩
  go_wp2
  go_ret
  exact ⟨rfl, hb1⟩

set_option maxRecDepth 100000 in
theorem unclean_S (a0 a1 : ByteArray) (w : World) (h : a0.size + a1.size ≤ 1048576) (hp : 0 < a1.size) (ht : ((a1[0].toNat : Int) != 47) = false) (hc : zc a0.data.toList ≠ a0.data.toList) :
    Calls Try.prog 4 #[.string a0, .string a1] w fun e w' => e = .returned (.bool true) ∧ Below w.heap.size w w' := by
  have H := hide (bytes10_any a0 a1 w (by unfold maxLen; omega) (by unfold maxLen; omega))
  have hd := hide (decide_eq_true h)
  obtain ⟨c, hce⟩ : ∃ c : ByteArray, c = ⟨(zc a0.data.toList).toArray⟩ := ⟨_, rfl⟩
  have hne : c.toList ≠ a0.toList := by rw [Lib.toList_data, Lib.toList_data, hce]; simpa using hc
  have t0 : (c.toList == a0.toList) = false := by rw [beq_eq_false_iff_ne]; exact hne
  have t1 : (c.toList != a0.toList) = true := by unfold bne; rw [t0]; rfl
  have H1 := hide (clean_any a0 w (by omega))
  rw [← hce] at H1
  clear hce hc hne
  go_enter Try.func4, Try.ntmps4
  go_wp2_with fail
  refine (unhide H).mono ?_
  rintro e w1 ⟨rfl, hw1⟩
  have hw2 := hw1.symm
  subst hw2
  clear hw1
  rw [unhide hd]
  go_wp2_with fail
  refine (unhide H1).mono ?_
  rintro e w1 ⟨rfl, hb1⟩
  go_wp2
  go_ret
  exact ⟨rfl, hb1⟩

set_option maxRecDepth 100000 in
set_option maxHeartbeats 1600000 in
theorem main_E (a0 a1 : ByteArray) (w : World) (h : a0.size + a1.size ≤ 1048576) (hp : ¬ 0 < a1.size) (hr : Rest a1.data.toList) (hc : zc a0.data.toList = a0.data.toList) :
    Calls Try.prog 4 #[.string a0, .string a1] w fun e w' => e = .returned (.bool true) ∧ Below w.heap.size w w' := by
  have H := hide (bytes10_any a0 a1 w (by unfold maxLen; omega) (by unfold maxLen; omega))
  have hd := hide (decide_eq_true h)
  have hD : Goods (F [] a0.data.toList) := F_good [] _ goods_nil
  have hz : a0.data.toList = Lib.Pa.rend true (F [] a0.data.toList) := hc.symm
  have HF := hide (fun (up r : ByteArray) (hcd : Cd (F [] a0.data.toList) a1.data.toList up.data.toList r.data.toList) => fine_of hz hD hr hcd)
  have HC : Hid (∀ (p : ByteArray) (wx : World), p.size ≤ 4194304 → (⟨(zc p.data.toList).toArray⟩ : ByteArray) = p → Calls Try.prog 11 #[.string p] wx fun e w' => e = .returned (.string p) ∧ Below wx.heap.size wx w') := by
    intro p wx hp he
    have := clean_any p wx hp
    rw [he] at this
    exact this
  have H1 := hide (unhide HC a0 w (by omega) (by rw [hc, same_bytes]))
  have H2 := hide (fun wx => zzclimb_any (F [] a0.data.toList) a0 a1 wx hz hD hr (by omega) (by omega))
  clear hD hz hr hc
  go_enter Try.func4, Try.ntmps4
  go_wp2_with fail
  refine (unhide H).mono ?_
  rintro e w1 ⟨rfl, hw1⟩
  have hw2 := hw1.symm
  subst hw2
  clear hw1
  rw [unhide hd]
  go_wp2_with fail
  refine (unhide H1).mono ?_
  rintro e wa ⟨rfl, hb1⟩
  go_wp2_with fail
  refine (unhide H2 wa).mono ?_
  rintro e wb ⟨up, r, rfl, hcd, hu, hb2⟩
  obtain ⟨hlen, hsuf, hup1, hanc, hmean, hhead, hno⟩ := unhide HF up r hcd
  clear hcd HF
  have HU := hide hup1
  have hup1 := HU
  have HA := hide hanc
  have hanc := HA
  have HM := hide hmean
  have hmean := HM
  have HN := hide hno
  have HH := hide hhead
  have t3 : ((a1.extract (a1.size - r.size) a1.size).toList == r.toList) = true := by rw [hsuf]; simp
  have t4 : ((a1.extract (a1.size - r.size) a1.size).toList != r.toList) = false := by rw [hsuf]; simp
  have HS := hide hsuf
  clear hno hhead hsuf
  by_cases c : 0 < r.size
  · exact absurd (Nat.lt_of_lt_of_le c hlen) hp
  · have e0 : r.toList.isEmpty = true := by rw [Lib.toList_data, Lib.Pa.nil_of_size r c]; rfl
    go_wp2_with fail
    refine (unhide HC up wb (by omega) (by rw [unhide hup1, same_bytes])).mono ?_
    rintro e wc ⟨rfl, hbc⟩
    go_wp2_with fail
    refine (anc_yes up a0 wc (unhide hanc) (by omega) (by omega)).mono ?_
    rintro e w1 ⟨rfl, hw1⟩
    have hw2 := hw1.symm
    subst hw2
    clear hw1
    go_wp2_with fail
    refine (clean_any (a0 ++ a1) wc (by rw [ByteArray.size_append]; omega)).mono ?_
    rintro e wd ⟨rfl, hbd⟩
    go_wp2_with fail
    refine (zzunder_any up r wd (by omega) (by omega)).mono ?_
    rintro e w1 ⟨rfl, hw1⟩
    have hw2 := hw1.symm
    subst hw2
    clear hw1
    go_wp2_with fail
    refine (clean_any ⟨(und up.data.toList r.data.toList).toArray⟩ wd (by rw [Lib.size_eq]; exact Nat.le_trans (und_len _ _) (by rw [← Lib.size_eq, ← Lib.size_eq]; omega))).mono ?_
    rintro e we ⟨rfl, hbe⟩
    rw [show (⟨(und up.data.toList r.data.toList).toArray⟩ : ByteArray).data.toList = und up.data.toList r.data.toList from rfl, unhide hmean]
    go_wp2
    go_ret
    exact ⟨rfl, ((((hb1.trans (hb2.mono hb1.size)).trans (hbc.mono (Nat.le_trans hb1.size hb2.size))).trans (hbd.mono (Nat.le_trans hb1.size (Nat.le_trans hb2.size hbc.size)))).trans (hbe.mono (Nat.le_trans hb1.size (Nat.le_trans hb2.size (Nat.le_trans hbc.size hbd.size)))))⟩

set_option maxRecDepth 100000 in
set_option maxHeartbeats 1600000 in
theorem main_S (a0 a1 : ByteArray) (w : World) (h : a0.size + a1.size ≤ 1048576) (hp : 0 < a1.size) (ht : ((a1[0].toNat : Int) != 47) = false) (hr : Rest a1.data.toList) (hc : zc a0.data.toList = a0.data.toList) :
    Calls Try.prog 4 #[.string a0, .string a1] w fun e w' => e = .returned (.bool true) ∧ Below w.heap.size w w' := by
  have H := hide (bytes10_any a0 a1 w (by unfold maxLen; omega) (by unfold maxLen; omega))
  have hd := hide (decide_eq_true h)
  have hD : Goods (F [] a0.data.toList) := F_good [] _ goods_nil
  have hz : a0.data.toList = Lib.Pa.rend true (F [] a0.data.toList) := hc.symm
  have HF := hide (fun (up r : ByteArray) (hcd : Cd (F [] a0.data.toList) a1.data.toList up.data.toList r.data.toList) => fine_of hz hD hr hcd)
  have HC : Hid (∀ (p : ByteArray) (wx : World), p.size ≤ 4194304 → (⟨(zc p.data.toList).toArray⟩ : ByteArray) = p → Calls Try.prog 11 #[.string p] wx fun e w' => e = .returned (.string p) ∧ Below wx.heap.size wx w') := by
    intro p wx hp he
    have := clean_any p wx hp
    rw [he] at this
    exact this
  have H1 := hide (unhide HC a0 w (by omega) (by rw [hc, same_bytes]))
  have H2 := hide (fun wx => zzclimb_any (F [] a0.data.toList) a0 a1 wx hz hD hr (by omega) (by omega))
  clear hD hz hr hc
  go_enter Try.func4, Try.ntmps4
  go_wp2_with fail
  refine (unhide H).mono ?_
  rintro e w1 ⟨rfl, hw1⟩
  have hw2 := hw1.symm
  subst hw2
  clear hw1
  rw [unhide hd]
  go_wp2_with fail
  refine (unhide H1).mono ?_
  rintro e wa ⟨rfl, hb1⟩
  go_wp2_with fail
  refine (unhide H2 wa).mono ?_
  rintro e wb ⟨up, r, rfl, hcd, hu, hb2⟩
  obtain ⟨hlen, hsuf, hup1, hanc, hmean, hhead, hno⟩ := unhide HF up r hcd
  clear hcd HF
  have HU := hide hup1
  have hup1 := HU
  have HA := hide hanc
  have hanc := HA
  have HM := hide hmean
  have hmean := HM
  have HN := hide hno
  have HH := hide hhead
  have t3 : ((a1.extract (a1.size - r.size) a1.size).toList == r.toList) = true := by rw [hsuf]; simp
  have t4 : ((a1.extract (a1.size - r.size) a1.size).toList != r.toList) = false := by rw [hsuf]; simp
  have HS := hide hsuf
  clear hno hhead hsuf
  by_cases c : 0 < r.size
  · have hrne : r.data.toList ≠ [] := by
      intro e
      have hz : r.size = 0 := by rw [Lib.size_eq, e]; rfl
      omega
    have e0 : r.toList.isEmpty = false := by
      rw [Lib.toList_data]
      cases hh : r.data.toList with
      | nil => exact absurd hh hrne
      | cons a b => rfl
    have t5 : ((r[0].toNat : Int) != 47) = false := bne_hit (c := 47) rfl (unhide HH c)
    obtain ⟨n0, n1, n2⟩ := unhide HN hrne
    have hts := tail_extract r (elemLen r.data.toList.tail)
    rw [← hts] at n0 n1 n2
    have hE := E_le r.data.toList.tail
    have hlen2 : r.data.toList.tail.length = r.size - 1 := by simp
    rw [hlen2] at hE
    have HE := hide (firstEnd_any r wb c (by omega))
    have HD0 := hide (dot_no _ wb n0 n1 n2)
    clear hts hrne n0 n1 n2 hlen2
    generalize elemLen r.data.toList.tail = E at *
    go_wp2_with fail
    refine (unhide HE).mono ?_
    rintro e w1 ⟨rfl, hw1⟩
    have hw2 := hw1.symm
    subst hw2
    clear hw1
    go_wp2_with fail
    refine (unhide HD0).mono ?_
    rintro e w1 ⟨rfl, hw1⟩
    have hw2 := hw1.symm
    subst hw2
    clear hw1
    go_wp2_with fail
    refine (unhide HC up wb (by omega) (by rw [unhide hup1, same_bytes])).mono ?_
    rintro e wc ⟨rfl, hbc⟩
    go_wp2_with fail
    refine (anc_yes up a0 wc (unhide hanc) (by omega) (by omega)).mono ?_
    rintro e w1 ⟨rfl, hw1⟩
    have hw2 := hw1.symm
    subst hw2
    clear hw1
    go_wp2_with fail
    refine (clean_any (a0 ++ a1) wc (by rw [ByteArray.size_append]; omega)).mono ?_
    rintro e wd ⟨rfl, hbd⟩
    go_wp2_with fail
    refine (zzunder_any up r wd (by omega) (by omega)).mono ?_
    rintro e w1 ⟨rfl, hw1⟩
    have hw2 := hw1.symm
    subst hw2
    clear hw1
    go_wp2_with fail
    refine (clean_any ⟨(und up.data.toList r.data.toList).toArray⟩ wd (by rw [Lib.size_eq]; exact Nat.le_trans (und_len _ _) (by rw [← Lib.size_eq, ← Lib.size_eq]; omega))).mono ?_
    rintro e we ⟨rfl, hbe⟩
    rw [show (⟨(und up.data.toList r.data.toList).toArray⟩ : ByteArray).data.toList = und up.data.toList r.data.toList from rfl, unhide hmean]
    go_wp2
    go_ret
    exact ⟨rfl, ((((hb1.trans (hb2.mono hb1.size)).trans (hbc.mono (Nat.le_trans hb1.size hb2.size))).trans (hbd.mono (Nat.le_trans hb1.size (Nat.le_trans hb2.size hbc.size)))).trans (hbe.mono (Nat.le_trans hb1.size (Nat.le_trans hb2.size (Nat.le_trans hbc.size hbd.size)))))⟩
  · have e0 : r.toList.isEmpty = true := by rw [Lib.toList_data, Lib.Pa.nil_of_size r c]; rfl
    go_wp2_with fail
    refine (unhide HC up wb (by omega) (by rw [unhide hup1, same_bytes])).mono ?_
    rintro e wc ⟨rfl, hbc⟩
    go_wp2_with fail
    refine (anc_yes up a0 wc (unhide hanc) (by omega) (by omega)).mono ?_
    rintro e w1 ⟨rfl, hw1⟩
    have hw2 := hw1.symm
    subst hw2
    clear hw1
    go_wp2_with fail
    refine (clean_any (a0 ++ a1) wc (by rw [ByteArray.size_append]; omega)).mono ?_
    rintro e wd ⟨rfl, hbd⟩
    go_wp2_with fail
    refine (zzunder_any up r wd (by omega) (by omega)).mono ?_
    rintro e w1 ⟨rfl, hw1⟩
    have hw2 := hw1.symm
    subst hw2
    clear hw1
    go_wp2_with fail
    refine (clean_any ⟨(und up.data.toList r.data.toList).toArray⟩ wd (by rw [Lib.size_eq]; exact Nat.le_trans (und_len _ _) (by rw [← Lib.size_eq, ← Lib.size_eq]; omega))).mono ?_
    rintro e we ⟨rfl, hbe⟩
    rw [show (⟨(und up.data.toList r.data.toList).toArray⟩ : ByteArray).data.toList = und up.data.toList r.data.toList from rfl, unhide hmean]
    go_wp2
    go_ret
    exact ⟨rfl, ((((hb1.trans (hb2.mono hb1.size)).trans (hbc.mono (Nat.le_trans hb1.size hb2.size))).trans (hbd.mono (Nat.le_trans hb1.size (Nat.le_trans hb2.size hbc.size)))).trans (hbe.mono (Nat.le_trans hb1.size (Nat.le_trans hb2.size (Nat.le_trans hbc.size hbd.size)))))⟩

theorem walk (a0 a1 : ByteArray) (w0 : a0.size ≤ maxLen) (w1 : a1.size ≤ maxLen) (w : World) :
    Calls Try.prog 4 #[.string a0, .string a1] w fun e w' => e = .returned (.bool true) ∧ Below w.heap.size w w' := by
  by_cases h : a0.size + a1.size ≤ 1048576
  · by_cases hp : 0 < a1.size
    · by_cases hb : a1[0] = 47
      · have ht : ((a1[0].toNat : Int) != 47) = false := bne_hit (c := 47) rfl hb
        by_cases hc : zc a0.data.toList = a0.data.toList
        · refine main_S a0 a1 w h hp ht (.inr ?_) hc
          rw [List.head?_eq_getElem?, Lib.Pa.at_eq a1 0 hp, hb]
        · exact unclean_S a0 a1 w h hp ht hc
      · exact noslash a0 a1 w h hp hb
    · by_cases hc : zc a0.data.toList = a0.data.toList
      · exact main_E a0 a1 w h hp (.inl (Lib.Pa.nil_of_size a1 hp)) hc
      · exact unclean_E a0 a1 w h hp hc
  · exact big a0 a1 w0 w1 w h

end Go.Proofs.Qxb6002464a.fnClimbKeepsMeaning
