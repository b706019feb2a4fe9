import Derived.Test.Qxb6002403aMap
import Derived.Test.Qxb6002403aHost
namespace Go.Proofs.Qxb6002403a
open Go.ChangeShapes Go.WideShapes Go.ChangeAt Go.RowKit
set_option linter.unusedVariables false
set_option linter.unusedSimpArgs false

/-- The header is refused: no host, an error that is not nil; nothing old has turned. -/
def Refused (w : World) (e : Ending) (w' : World) : Prop :=
  ∃ g : Addr, e = .returned (.tuple #[.string ⟨#[]⟩, .iface 42 (.pointer (some g))]) ∧ w.grownBy w' none
/-- The header is taken: the host h, no error; the map's entries are now es'. -/
def Taken (B : Nat) (h : ByteArray) (es' : Array MapEntry) (clock : Nat) (w : World) (e : Ending) (w' : World) : Prop :=
  e = .returned (.tuple #[.string h, .nilIface]) ∧ w.grownBy w' (some B) ∧ MapIs w' B es' clock

theorem bad_any (s : ByteArray) (w : World) : Calls Try.prog 14 #[.string s] w fun e w' => e = .returned (.pointer (some ⟨w.heap.size, 0, none⟩)) ∧ Below w.heap.size w w' := by
  go_enter Try.func14, Try.ntmps14
  go_wp2
  go_ret
  exact ⟨rfl, (Below.refl _ _).alloc (Nat.le_refl _) _⟩

set_option maxHeartbeats 800000 in
theorem req_many (B : Nat) (es : Array MapEntry) (clock i : Nat) (ao : Option Addr) (n cap : Nat) (up : Value) (minor : Int) (w : World) (h : MapIs w B es clock)
    (hf : found ⟨#[72, 111, 115, 116]⟩ es = some (some (i, .slice ao n cap))) (hn : 1 < n) (hn2 : n ≤ maxLen) :
    Calls Try.prog 12 #[.map (some B), up, .int .i64 minor] w fun e w' => Refused w e w' := by
  unfold maxLen at hn2
  have hlk := run_get Try.underlying36 h hf
  have H := hide h
  clear h hf
  go_enter Try.func12, Try.ntmps12
  go_wp2_with (go_at_call 14; refine (bad_any _ _).mono ?_; rintro e w' ⟨rfl, hb⟩)
  go_ret2
  exact ⟨_, rfl, grown_of_below hb none⟩

set_option maxHeartbeats 800000 in
theorem req_bad (B : Nat) (es : Array MapEntry) (clock i : Nat) (b off cap : Nat) (x : ByteArray) (up : Value) (minor : Int) (w : World) (h : MapIs w B es clock)
    (hf : found ⟨#[72, 111, 115, 116]⟩ es = some (some (i, .slice (some ⟨b, off, none⟩) 1 cap))) (hc : w.cell? ⟨b, off, none⟩ = some (.string x)) (hx : x.size ≤ maxLen) (hok : allOK x.data.toList = false) :
    Calls Try.prog 12 #[.map (some B), up, .int .i64 minor] w fun e w' => Refused w e w' := by
  have hlk := run_get Try.underlying36 h hf
  have HO := hide hok
  clear h hf hok
  go_enter Try.func12, Try.ntmps12
  go_wp2_with fail
  refine (isHost_any x _ hx).mono ?_
  rintro e w1 ⟨rfl, n, rfl⟩
  rw [unhide HO]
  go_wp2_with fail
  refine (bad_any _ _).mono ?_
  rintro e w' ⟨rfl, hb⟩
  go_wp2
  go_ret2
  exact ⟨_, rfl, grown_of_below ((below_drewN w n).trans hb) none⟩

set_option maxHeartbeats 800000 in
theorem req_none_refuse (B : Nat) (es : Array MapEntry) (clock : Nat) (up : Value) (minor : Int) (w : World) (h : MapIs w B es clock)
    (hf : found ⟨#[72, 111, 115, 116]⟩ es = some none) (hm : 1 ≤ minor) :
    Calls Try.prog 12 #[.map (some B), up, .int .i64 minor] w fun e w' => Refused w e w' := by
  have hlk := run_miss Try.underlying36 (z := .slice none 0 0) (by kernel_rfl) h hf
  clear h hf
  go_enter Try.func12, Try.ntmps12
  go_wp2_with (go_at_call 14; refine (bad_any _ _).mono ?_; rintro e w' ⟨rfl, hb⟩)
  go_ret2
  exact ⟨_, rfl, grown_of_below hb none⟩

theorem grown_drewN (w : World) (n : Nat) (row : Option Nat) : w.grownBy (w.drewN n) row := ⟨rfl, rfl, rfl, Nat.le_refl _, fun _ _ _ => rfl⟩

theorem cell_of_grown {w w' : World} {B : Nat} {es : Array MapEntry} {clock : Nat} {a : Addr} {v : Value} (h : MapIs w B es clock) (hg : w.grownBy w' (some B)) (hc : w.cell? a = some v) : w'.cell? a = some v := by
  refine hg.cell hc ?_
  intro e
  simp only [Option.some.injEq] at e
  unfold MapIs at h
  rw [← e] at h
  simp [World.cell?, h] at hc

/-- The target's host where there is one, else x. -/
def pick (u x : ByteArray) : ByteArray := if u.toList.isEmpty = true then x else u
theorem pick_empty {u x : ByteArray} (h : u.toList.isEmpty = true) : pick u x = x := if_pos h
theorem pick_other {u x : ByteArray} (h : u.toList.isEmpty = false) : pick u x = u := if_neg (by rw [h]; decide)

set_option maxHeartbeats 1600000 in
theorem req_ok (B : Nat) (es : Array MapEntry) (clock i : Nat) (b off cap U : Nat) (x u : ByteArray) (minor : Int) (w : World) (h : MapIs w B es clock)
    (hf : found ⟨#[72, 111, 115, 116]⟩ es = some (some (i, .slice (some ⟨b, off, none⟩) 1 cap))) (hc : w.cell? ⟨b, off, none⟩ = some (.string x)) (hx : x.size ≤ maxLen) (hok : allOK x.data.toList = true)
    (hU : w.cell? ⟨U, 3, none⟩ = some (.string u)) :
    Calls Try.prog 12 #[.map (some B), .pointer (some ⟨U, 0, none⟩), .int .i64 minor] w fun e w' => Taken B (pick u x) (es.eraseIdxIfInBounds i) clock w e w' := by
  have hlk := run_get Try.underlying36 h hf
  have HO := hide hok
  have HM := hide h
  have HF := hide hf
  clear h hf hok
  cases hE : u.toList.isEmpty
  · have hpk := hide (pick_other (x := x) hE)
    go_enter Try.func12, Try.ntmps12
    go_wp2_with fail
    refine (isHost_any x _ hx).mono ?_
    rintro e w1 ⟨rfl, n, rfl⟩
    rw [unhide HO]
    clear hlk
    go_wp2_with (at_delete; refine wpList_del _ rfl _ _ 36 22 rfl Try.underlying36 B es clock rfl (show MapIs (w.drewN n) B es clock from unhide HM) ⟨#[72, 111, 115, 116]⟩ rfl i _ (unhide HF) ?_; intro w2 hm2 hg2; have hc2 := cell_of_grown (show MapIs (w.drewN n) B es clock from unhide HM) hg2 hc; have hu2 := cell_of_grown (show MapIs (w.drewN n) B es clock from unhide HM) hg2 hU)
    go_ret2
    exact ⟨by rw [unhide hpk]; rfl, grown_trans (grown_drewN w n _) hg2, hm2⟩
  · have hpk := hide (pick_empty (x := x) hE)
    go_enter Try.func12, Try.ntmps12
    go_wp2_with fail
    refine (isHost_any x _ hx).mono ?_
    rintro e w1 ⟨rfl, n, rfl⟩
    rw [unhide HO]
    clear hlk
    go_wp2_with (at_delete; refine wpList_del _ rfl _ _ 36 22 rfl Try.underlying36 B es clock rfl (show MapIs (w.drewN n) B es clock from unhide HM) ⟨#[72, 111, 115, 116]⟩ rfl i _ (unhide HF) ?_; intro w2 hm2 hg2; have hc2 := cell_of_grown (show MapIs (w.drewN n) B es clock from unhide HM) hg2 hc; have hu2 := cell_of_grown (show MapIs (w.drewN n) B es clock from unhide HM) hg2 hU)
    go_ret2
    exact ⟨by rw [unhide hpk]; rfl, grown_trans (grown_drewN w n _) hg2, hm2⟩

theorem empty_of {u : ByteArray} (h : u.toList.isEmpty = true) : u = ⟨#[]⟩ := by
  rw [Lib.toList_data, List.isEmpty_iff] at h
  rw [← Lib.mk_data u, h]

set_option maxHeartbeats 1600000 in
theorem req_none_ok (B : Nat) (es : Array MapEntry) (clock U : Nat) (u : ByteArray) (minor : Int) (w : World) (h : MapIs w B es clock)
    (hf : found ⟨#[72, 111, 115, 116]⟩ es = some none) (hm : minor < 1) (hU : w.cell? ⟨U, 3, none⟩ = some (.string u)) :
    Calls Try.prog 12 #[.map (some B), .pointer (some ⟨U, 0, none⟩), .int .i64 minor] w fun e w' => Taken B u es clock w e w' := by
  have hlk := run_miss Try.underlying36 (z := .slice none 0 0) (by kernel_rfl) h hf
  have HM := hide h
  have HF := hide hf
  clear h hf
  cases hE : u.toList.isEmpty
  · go_enter Try.func12, Try.ntmps12
    go_wp2_with (at_delete; refine wpList_del_miss _ rfl _ _ 36 22 rfl Try.underlying36 B es clock rfl (unhide HM) ⟨#[72, 111, 115, 116]⟩ rfl (unhide HF) ?_; intro w2 hm2 hg2; have hu2 := cell_of_grown (unhide HM) hg2 hU)
    go_ret2
    exact ⟨rfl, hg2, hm2⟩
  · have he := hide (empty_of hE)
    go_enter Try.func12, Try.ntmps12
    go_wp2_with (at_delete; refine wpList_del_miss _ rfl _ _ 36 22 rfl Try.underlying36 B es clock rfl (unhide HM) ⟨#[72, 111, 115, 116]⟩ rfl (unhide HF) ?_; intro w2 hm2 hg2; have hu2 := cell_of_grown (unhide HM) hg2 hU)
    go_ret2
    exact ⟨by rw [unhide he]; rfl, hg2, hm2⟩
end Go.Proofs.Qxb6002403a
