import Derived.Test.Qxb6001776aFlags
namespace Go.Proofs.Qxb6001776a
set_option linter.unusedVariables false
set_option linter.unusedSimpArgs false

theorem bef_dot (x y : List UInt8) (h : ∀ b ∈ x, b ≠ 46) : bef (x ++ 46 :: y) = x := by
  induction x with
  | nil => simp [bef]
  | cons b x ih => rw [List.cons_append, bef, if_neg (h b (by simp)), ih fun c hc => h c (by simp [hc])]
theorem aft_dot (x y : List UInt8) (h : ∀ b ∈ x, b ≠ 46) : aft (x ++ 46 :: y) = y := by
  induction x with
  | nil => simp [aft]
  | cons b x ih => rw [List.cons_append, aft, if_neg (h b (by simp)), ih fun c hc => h c (by simp [hc])]
theorem bef_none (x : List UInt8) (h : ∀ b ∈ x, b ≠ 46) : bef x = x := by
  induction x with
  | nil => rfl
  | cons b x ih => rw [bef, if_neg (h b (by simp)), ih fun c hc => h c (by simp [hc])]

theorem dig_ne (c d : UInt8) (h : dig c = true) (hd : ¬ (48 ≤ d.toNat ∧ d.toNat ≤ 57)) : c ≠ d := by
  intro e
  subst e
  unfold dig at h
  exact hd (of_decide_eq_true h)

theorem isDig_all {l : List UInt8} (h : isDig l = true) : ∀ b ∈ l, dig b = true := by
  unfold isDig at h
  rw [Bool.and_eq_true] at h
  exact List.all_eq_true.1 h.2
theorem isDig_cons {l : List UInt8} (h : isDig l = true) : ∃ b t, l = b :: t := by
  cases l with
  | nil => simp [isDig] at h
  | cons b t => exact ⟨b, t, rfl⟩

theorem trimV_v (l : List UInt8) : trimV (118 :: l) = l := by
  simp [trimV, Lib.trimPrefix, Lib.hasPrefix]
theorem trimV_other (b : UInt8) (l : List UInt8) (h : b ≠ 118) : trimV (b :: l) = b :: l := by
  simp [trimV, Lib.trimPrefix, Lib.hasPrefix, List.isPrefixOf]
  intro e; exact absurd e.symm h

/-- The version that the law builds. -/
def verB (a b r : ByteArray) (v : Bool) : ByteArray := if v then ⟨#[118]⟩ ++ (a ++ ⟨#[46]⟩ ++ b ++ r) else a ++ ⟨#[46]⟩ ++ b ++ r

theorem data_app (a b : ByteArray) : (a ++ b).data.toList = a.data.toList ++ b.data.toList := by simp

theorem trimV_ver (a b r : ByteArray) (v : Bool) (ha : isDig a.data.toList = true) : trimV (verB a b r v).data.toList = a.data.toList ++ 46 :: (b.data.toList ++ r.data.toList) := by
  have e : (a ++ ⟨#[46]⟩ ++ b ++ r).data.toList = a.data.toList ++ 46 :: (b.data.toList ++ r.data.toList) := by
    rw [data_app, data_app, data_app]; simp
  cases v with
  | true =>
    show trimV (⟨#[118]⟩ ++ (a ++ ⟨#[46]⟩ ++ b ++ r)).data.toList = _
    rw [data_app, e]
    exact trimV_v _
  | false =>
    show trimV (a ++ ⟨#[46]⟩ ++ b ++ r).data.toList = _
    rw [e]
    obtain ⟨c, t, hc⟩ := isDig_cons ha
    have hd := isDig_all ha c (by rw [hc]; simp)
    rw [hc, List.cons_append]
    exact trimV_other c _ (dig_ne c 118 hd (by decide))

theorem major_ver (a b r : ByteArray) (v : Bool) (ha : isDig a.data.toList = true) : majorB (verB a b r v) = a := by
  unfold majorB
  rw [trimV_ver a b r v ha, bef_dot _ _ (fun c hc => dig_ne c 46 (isDig_all ha c hc) (by decide)), Lib.mk_data]

theorem minor_ver (a b r : ByteArray) (v : Bool) (ha : isDig a.data.toList = true) (hb : isDig b.data.toList = true)
    (hr : r.data.toList = [] ∨ ∃ t, r.data.toList = 46 :: t) : minorB (verB a b r v) = b := by
  unfold minorB
  have hb' : ∀ c ∈ b.data.toList, c ≠ 46 := fun c hc => dig_ne c 46 (isDig_all hb c hc) (by decide)
  rw [trimV_ver a b r v ha, aft_dot _ _ (fun c hc => dig_ne c 46 (isDig_all ha c hc) (by decide))]
  rcases hr with h | ⟨t, h⟩
  · rw [h, List.append_nil, bef_none _ hb', Lib.mk_data]
  · rw [h, bef_dot _ _ hb', Lib.mk_data]

def spB : ByteArray := ⟨#[32, 45, 88, 32]⟩
/-- One half of the wanted text, as the law's own loop builds it. -/
def half (v a b p : ByteArray) : ByteArray := dashB ++ p ++ gvB ++ v ++ spB ++ p ++ gMB ++ a ++ spB ++ p ++ gmB ++ b
def wantTo (v a b : ByteArray) : Nat → ByteArray
  | 0 => ⟨#[]⟩
  | 1 => ⟨#[]⟩ ++ half v a b srvB
  | _ => ⟨#[]⟩ ++ half v a b srvB ++ ⟨#[32]⟩ ++ half v a b cliB

theorem half_size (v a b p : ByteArray) (h1 : v.size ≤ 70000) (h2 : a.size ≤ 70000) (h3 : b.size ≤ 70000) (h4 : p.size ≤ 29) : (half v a b p).size ≤ 220000 := by
  unfold half
  simp only [ByteArray.size_append]
  have e1 : dashB.size = 3 := rfl
  have e2 : gvB.size = 12 := rfl
  have e3 : gMB.size = 10 := rfl
  have e4 : gmB.size = 10 := rfl
  have e5 : spB.size = 4 := rfl
  omega
theorem want0_size (v a b : ByteArray) : (wantTo v a b 0).size ≤ 0 := Nat.le_refl _
theorem want1_size (v a b : ByteArray) (h1 : v.size ≤ 70000) (h2 : a.size ≤ 70000) (h3 : b.size ≤ 70000) : (wantTo v a b 1).size ≤ 220000 := by
  show (⟨#[]⟩ ++ half v a b srvB : ByteArray).size ≤ _
  have := half_size v a b srvB h1 h2 h3 (by decide)
  rw [ByteArray.size_append]
  have e : (⟨#[]⟩ : ByteArray).size = 0 := rfl
  omega

theorem want_eq (v a b : ByteArray) (ha : majorB v = a) (hb : minorB v = b) : (flagsB v).data.toList = (wantTo v a b 2).data.toList := by
  unfold flagsB
  rw [ha, hb]
  show Lib.join ((segsTo v a b 2).map (·.data.toList)) [32] = _
  simp only [segsTo, segs, List.cons_append, List.nil_append, List.map_cons, List.map_nil, Lib.join_cons, Lib.joinTail, List.flatten_cons, List.flatten_nil, wantTo, half, data_app, spB, dashB, List.append_nil, List.append_assoc]
end Go.Proofs.Qxb6001776a
