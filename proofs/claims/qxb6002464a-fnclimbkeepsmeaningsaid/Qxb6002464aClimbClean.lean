import Derived.Test.Qxb6002464aClimbInv
import Derived.Deep.RegionHeld3
import Derived.StillTactics
import Derived.Laws.Pointers
namespace Go.Proofs.Qxb6002464a
open Go.ChangeShapes Go.WideShapes Go.ChangeAt Go.RowKit
set_option linter.unusedVariables false
set_option linter.unusedSimpArgs false

theorem info3 : (Try.prog.info? 3).map (fun i => (i.zero, i.size, i.bytes)) = some (some (.int .i64 0), 1, 8) := by kernel_rfl
theorem info5 : (Try.prog.info? 5).map (fun i => (i.zero, i.size, i.bytes)) = some (some (.int .u8 0), 1, 1) := by kernel_rfl

theorem cap_of {w : World} {B : Nat} {e : TypeId} {size g n cap : Nat} {xs : List Value} {m : Nat} (h : w.ownsRow B e size (.slice (some ⟨g, 0, none⟩) m cap) n xs) : m ≤ cap ∧ cap ≤ maxLen := by
  rcases h.2 with ⟨h, _⟩ | ⟨g', cap', cur, hv, _, _, h1, h2, _⟩
  · cases h
  · cases hv; exact ⟨h1, h2⟩
theorem noneOr {v3 v4 : Value} (h : ∀ g, v3.ownBlock = some g → v4.ownBlock ≠ some g) : v4.ownBlock = none ∨ v4.ownBlock ≠ v3.ownBlock := by
  cases e : v4.ownBlock with
  | none => exact .inl rfl
  | some g => exact .inr (fun e2 => h g e2.symm e)
theorem far_of {v3 v4 : Value} {g3 H : Nat} (h : ∀ g, v3.ownBlock = some g → v4.ownBlock ≠ some g) (hl : ∀ q, v4.ownBlock = some q → q < H) (hat : v3.ownBlock = some g3 ∨ g3 = H + 1) : v4.ownBlock ≠ some g3 := by
  intro e
  rcases hat with h3 | h3
  · exact h g3 h3 e
  · have := hl g3 e; omega
theorem far2 {v4 : Value} {g3 g4 H : Nat} (h : v4.ownBlock ≠ some g3) (hl : g3 < H) (hat : v4.ownBlock = some g4 ∨ g4 = H + 1) : g3 ≠ g4 := by
  intro e
  subst e
  rcases hat with h4 | h4
  · exact h h4
  · omega
structure Out (s : ByteArray) (wr : World) (ps : List (Nat × Nat)) (m n : Nat) (v8 : Value) (wx : World) : Prop where
  len : n = (outs s.data.toList (ps.take m)).length
  own : wx.ownsRow wr.heap.size 5 1 v8 n (cells (outs s.data.toList (ps.take m)))
  below : Below wr.heap.size wr wx

theorem step_append_str {P : Program} (w : World) {ops : Array Oper} {o : Oper} {a : Act} {K : Act → World → Prop} {Q : Exit → Act → World → Prop} {E : Prop} (hgd : o.guard = none) (sl x : Operand) (t u : TypeId)
    (ho : o.op = .call { callee := .builtin .append, args := #[sl, x], argTypes := #[t, u] })
    (base : Nat) (e : TypeId) (i : TypeInfo) (ht : P.underlying t = some (.slice e)) (hu : P.underlying u = some .string) (hi : P.info? e = some i) (hz : i.zero = some (.int .u8 0))
    (hsize : i.size = 1) (hby : i.bytes = 1)
    (v : Value) (n : Nat) (xs : List Value) (hs : a.eval sl = v) (hown : w.ownsRow base e 1 v n xs) (s : ByteArray) (hx : a.eval x = .string s) (hpos : 0 < n)
    (h63 : n + s.size ≤ maxLen) (hbytes : n + s.size ≤ 140737488355328) (hbase : base ≤ w.heap.size)
    (h : ∀ g cap w', w'.ownsRow base e 1 (.slice (some ⟨g, 0, none⟩) (n + s.size) cap) (n + s.size) (xs ++ Lib.strCells s) → w.grownBy w' v.ownBlock → K (a.put o.dst (.slice (some ⟨g, 0, none⟩) (n + s.size) cap)) w') :
    if Region.wanted o (yielded ops a.tmps) = true then Oper.wp P o a w K Q else E := by
  have hw : Region.wanted o (yielded ops a.tmps) = true := by simp [Region.wanted, hgd]
  rw [if_pos hw]
  obtain ⟨v', w', hr, h2, h3, _⟩ := Lib.run_append_own_string (P := P) w base t u o.type e i ht hu hi hz hsize hby v n xs hown s h63 hbytes hbase
  obtain ⟨g, cap, rfl, _, _⟩ := h2.form (by omega)
  unfold Oper.wp execOp
  simp only [ho, resolve, invoke, builtin, Sem.run_bind, Sem.run_pure, Result.andThen_ok, List.map_toArray, List.map_cons, List.map_nil, hs, hx, hr]
  exact h g cap w' h2 h3

theorem below_cell {w w' : World} {B g m : Nat} {v : Value} (h : Below B w w') (hg : g < B) (hc : w.cell? ((⟨g, 0, none⟩ : Addr).add m) = some v) : w'.cell? ⟨g, m, none⟩ = some v := by
  have e : (⟨g, 0, none⟩ : Addr).add m = ⟨g, m, none⟩ := by unfold Addr.add; split <;> simp_all
  rw [e] at hc
  rw [World.cell?_of_block (h.block g hg)]; exact hc
theorem get_map {ps : List (Nat × Nat)} {m : Nat} (f : Nat × Nat → Value) (h : m < ps.length) : (ps.map f)[m]? = some (f ps[m]) := by
  rw [List.getElem?_map, List.getElem?_eq_getElem h]; rfl
theorem mul_small {a b : Nat} (ha : a ≤ 4194304) (hb : b ≤ 4194305) : a * b ≤ 17592190238720 := Nat.le_trans (Nat.mul_le_mul ha hb) (by decide)
theorem Out.small {s : ByteArray} {wr wx : World} {ps : List (Nat × Nat)} {m n : Nat} {v8 : Value} (h : Out s wr ps m n v8 wx) (hg : ∀ q ∈ ps, q.1 < q.2 ∧ q.2 ≤ s.size ∧ Good (seg s.data.toList q)) (hs : s.size ≤ 4194304) (hp : ps.length ≤ s.size) : n ≤ 17592190238720 := by
  rw [h.len]
  refine Nat.le_trans (outs_len _ _ s.size (fun q hq => (hg q (List.mem_of_mem_take hq)).2.1)) (mul_small ?_ (by omega))
  rw [List.length_take]; omega
theorem take_next {ps : List (Nat × Nat)} {m : Nat} (h : m < ps.length) : ps.take (m + 1) = ps.take m ++ [ps[m]] := List.take_succ_eq_append_getElem h
theorem cells_app (a b : List UInt8) : cells (a ++ b) = cells a ++ cells b := by simp [cells]
theorem strCells_seg (s : ByteArray) (a b : Nat) : Lib.strCells (s.extract a b) = cells (seg s.data.toList (a, b)) := by
  unfold Lib.strCells cells
  rw [Lib.extract_data]; rfl
/-- What one round writes. -/
theorem Out.step {s : ByteArray} {wr wx : World} {ps : List (Nat × Nat)} {m n : Nat} {v8 : Value} (h : Out s wr ps m n v8 wx) (hm : m < ps.length) :
    ∀ (v : Value) (wy : World), wy.ownsRow wr.heap.size 5 1 v (n + 1 + (s.extract ps[m].1 ps[m].2).size) (cells (outs s.data.toList (ps.take m)) ++ [.int .u8 47] ++ Lib.strCells (s.extract ps[m].1 ps[m].2)) → Below wr.heap.size wr wy →
      Out s wr ps (m + 1) (n + 1 + (s.extract ps[m].1 ps[m].2).size) v wy := by
  intro v wy h1 h2
  have e1 : outs s.data.toList (ps.take (m + 1)) = outs s.data.toList (ps.take m) ++ (47 :: seg s.data.toList ps[m]) := by rw [take_next hm, outs_snoc]
  have e2 : (s.extract ps[m].1 ps[m].2).size = (seg s.data.toList ps[m]).length := by rw [Lib.size_eq, Lib.extract_data]; rfl
  refine ⟨?_, ?_, h2⟩
  · rw [e1, List.length_append, List.length_cons, ← h.len, e2]; omega
  · rw [e1, cells_app]
    rw [strCells_seg, List.append_assoc] at h1
    exact h1

theorem Out.conv {s : ByteArray} {wb wx : World} {ps : List (Nat × Nat)} {n g8 c8 : Nat} (h : Out s wb ps ps.length n (.slice (some ⟨g8, 0, none⟩) n c8) wx) :
    (convert 39 9 (.slice (some ⟨g8, 0, none⟩) n c8)).run Try.prog wx = .ok (.string ⟨(outs s.data.toList ps).toArray⟩) wx := by
  have hn := h.len
  have ho := h.own
  rw [List.take_length] at hn ho
  subst hn
  exact run_convert_bytes_back wx 39 9 5 ⟨g8, 0, none⟩ c8 (outs s.data.toList ps) Try.underlying39 Try.underlying5 Try.underlying9 (fun j hj => ho.cells (g := g8) rfl j _ (by simp [cells, hj]))

theorem size_alloc (w : World) (o : Obj) : (w.alloc o).heap.size = w.heap.size + 1 := by simp

set_option maxRecDepth 100000 in
set_option maxHeartbeats 3200000 in
theorem clean_any (s : ByteArray) (w : World) (hs : s.size ≤ 4194304) :
    Calls Try.prog 11 #[.string s] w fun e w' => e = .returned (.string ⟨(zc s.data.toList).toArray⟩) ∧ Below w.heap.size w w' := by
  obtain ⟨i3, hi3, z30, z31, z32⟩ := info_parts info3
  obtain ⟨i5, hi5, z50, z51, z52⟩ := info_parts info5
  go_enter Try.func11, Try.ntmps11
  go_wp2
  go_loopw [3, 4, 5] (fun v3 v4 i wr => ∃ (k : Nat) (ps : List (Nat × Nat)) (a3 a4 : Option Addr) (c3 c4 : Nat), i = .int .i64 k ∧ k ≤ s.size ∧ v3 = .slice a3 ps.length c3 ∧ v4 = .slice a4 ps.length c4 ∧ Inv s w k ps v3 v4 wr)
    (fun _ _ i _ => s.size - (intOf i).toNat)
  case atStart => exact ⟨0, [], none, none, 0, 0, rfl, Nat.zero_le _, rfl, rfl, Inv.start s w⟩
  case round =>
    obtain ⟨k, ps, a3, a4, c3, c4, rfl, hk, rfl, rfl, hinv⟩ := hrel
    by_cases hlt : k < s.size
    · go_wp2
      go_loop [5] (fun i => ∃ i' : Nat, i = .int .i64 i' ∧ k ≤ i' ∧ i' ≤ s.size ∧ Hid (F (segs s.data.toList ps).reverse (s.data.toList.drop i') = F [] s.data.toList)) (fun i => s.size - (intOf i).toNat)
      case atStart => exact ⟨k, rfl, Nat.le_refl _, hk, hide hinv.plain⟩
      case round =>
        rename_i hrel
        obtain ⟨i', rfl, hki, hi', hA⟩ := hrel
        by_cases hil : i' < s.size
        · by_cases hb : s[i'] = 47
          · have ht : ((s[i'].toNat : Int) == 47) = true := byte_hit (c := 47) rfl hb
            have HB := hide hb
            clear hb
            go_wp2
            go_round
            case rel => exact ⟨i' + 1, by go_num, by omega, by omega, hide (F_skip s i' hil (unhide HB) (unhide hA))⟩
            case measure => simp [intOf]; omega
          · have ht : ((s[i'].toNat : Int) == 47) = false := byte_miss (c := 47) rfl hb
            have hE0 := hide (E_miss _ 0 _ (Nat.zero_le _) (by have := at_drop s i' hil i' (Nat.le_refl _); rwa [Nat.sub_self] at this) hb)
            clear hb
            go_wp2
            clear ht
            go_loop [6] (fun v => ∃ j : Nat, v = .int .i64 j ∧ i' ≤ j ∧ j ≤ s.size ∧ Hid (j - i' ≤ elemLen (s.data.toList.drop i'))) (fun v => s.size - (intOf v).toNat)
            case atStart => exact ⟨i', rfl, Nat.le_refl _, hi', hide (by omega)⟩
            case round =>
              rename_i hrel
              obtain ⟨j, rfl, hij0, hj, hEj⟩ := hrel
              by_cases hjl : j < s.size
              · by_cases hb : s[j] = 47
                · have ht : ((s[j].toNat : Int) != 47) = false := bne_hit (c := 47) rfl hb
                  have hel := E_hit _ _ (unhide hEj) (hb ▸ at_drop s j hjl i' hij0)
                  have hij : i' < j := by have := unhide hE0; rw [hel] at this; omega
                  have hf : Found s ps k i' j := ⟨by omega, hij0, hki, hj, hel, unhide hA⟩
                  clear hb hel hE0 hEj hA
                  by_cases h2 : seg s.data.toList (i', j) = [46, 46]
                  · have t2 : ((s.extract i' j).toList == [46, 46]) = true := by rw [seg_extract, h2]; rfl
                    have H2 := hide h2
                    clear h2
                    rcases List.eq_nil_or_concat ps with hps | ⟨qs, q, hps⟩
                    · subst hps
                      go_wp2
                      go_roundw
                      case rel => exact ⟨j, [], a3, a4, c3, c4, rfl, hf.top, rfl, rfl, hinv.root hf (unhide H2)⟩
                      case measure => simp [intOf]; omega
                    · rw [List.concat_eq_append] at hps
                      subst hps
                      obtain ⟨g3, d3, h3, _, _⟩ := hinv.own3.form (by simp)
                      obtain ⟨g4, d4, h4, _, _⟩ := hinv.own4.form (by simp)
                      injection h3 with h3a _ h3c
                      injection h4 with h4a _ h4c
                      subst h3a h3c h4a h4c
                      have hL : (qs ++ [q]).length = qs.length + 1 := by simp
                      rw [hL] at hinv ⊢
                      have hc3 := cap_of hinv.own3
                      have hc4 := cap_of hinv.own4
                      have hP := hide (hinv.pop hf (unhide H2))
                      have hj0 : j ≤ s.size := hf.top
                      have hql : qs.length ≤ s.size := by have := hinv.len; rw [hL] at this; omega
                      clear hinv
                      clear hL
                      go_wp2
                      go_roundw
                      case rel => exact ⟨j, qs, _, _, c3, c4, rfl, hj0, by go_num, by go_num, unhide hP⟩
                      case measure => simp [intOf]; omega
                  · have t2 : ((s.extract i' j).toList == [46, 46]) = false := by rw [seg_extract, beq_eq_false_iff_ne]; exact h2
                    have H2 := hide h2
                    clear h2
                    by_cases h1 : seg s.data.toList (i', j) = [46]
                    · have t1 : ((s.extract i' j).toList != [46]) = false := by rw [seg_extract, h1]; rfl
                      have t0 : ((s.extract i' j).toList == [46]) = true := by rw [seg_extract, h1]; rfl
                      have H1 := hide h1
                      clear h1
                      go_wp2
                      go_roundw
                      case rel => exact ⟨j, ps, a3, a4, c3, c4, rfl, hf.top, rfl, rfl, hinv.same hf (.inr (unhide H1))⟩
                      case measure => simp [intOf]; omega
                    · have t0 : ((s.extract i' j).toList == [46]) = false := by rw [seg_extract, beq_eq_false_iff_ne]; exact h1
                      have t1 : ((s.extract i' j).toList != [46]) = true := by unfold bne; rw [t0]; rfl
                      have H1 := hide h1
                      clear h1
                      have hpl := hinv.len
                      have hn43 := hide (noneOr hinv.apart)
                      have hbz := hinv.below.size
                      go_wp2_with (first
                        | (at_builtin; refine wpList_append_lies _ rfl _ _ 38 rfl w.heap.size 3 i3 (.int .i64 0) 1 8 Try.underlying38 hi3 z30 z31 z32 rfl (by decide) (.slice a3 ps.length c3) _ _ rfl (hinv.own3.alloc _) ⟨wr.heap.size, 0, none⟩ 1 1 [.int .i64 i'] rfl rfl (cell_one_new _ _ _) (fun x hx => by simp at hx; subst hx; rfl) (by decide) (by unfold maxLen; omega) (by omega) (by simp; omega) (wr.heap.size + 1) (by simp) ?_; intro g3 d3 w3 own3 hg3 hat3 hlt3)
                        | (at_builtin; refine wpList_append_lies _ rfl _ _ 38 rfl w.heap.size 3 i3 (.int .i64 0) 1 8 Try.underlying38 hi3 z30 z31 z32 rfl (by decide) (.slice a4 ps.length c4) _ _ rfl (((hinv.own4.alloc _).kept hg3 (unhide hn43)).alloc _) ⟨w3.heap.size, 0, none⟩ 1 1 [.int .i64 j] rfl rfl (cell_one_new _ _ _) (fun x hx => by simp at hx; subst hx; rfl) (by decide) (by unfold maxLen; omega) (by omega) (by have hh := hg3.size; rw [size_alloc] at hh ⊢; omega) (w3.heap.size + 1) (by simp) ?_; intro g4 d4 w4 own4 hg4 hat4 hlt4))
                      go_roundw
                      case rel =>
                        have hz3 := hg3.size
                        rw [size_alloc] at hz3
                        have hne := far_of hinv.apart (fun q hq => (hinv.own4.lt q hq).2) hat3
                        have hb3 := (hinv.below.alloc hbz (.cells #[.int .i64 (i' : Int)] 3)).grown hg3 (by rw [size_alloc]; omega) (fun q hq => (hinv.own3.lt q hq).1)
                        have hb4 := (hb3.alloc (by omega) (.cells #[.int .i64 (j : Int)] 3)).grown hg4 (by rw [size_alloc]; omega) (fun q hq => (hinv.own4.lt q hq).1)
                        have hL : (ps ++ [(i', j)]).length = ps.length + 1 := by simp
                        refine ⟨j, ps ++ [(i', j)], some ⟨g3, 0, none⟩, some ⟨g4, 0, none⟩, d3, d4, rfl, hf.top, ?_, ?_, ?_⟩
                        rotate_left 2
                        · have hp := hinv.push hf hij (unhide H1) (unhide H2) ((own3.alloc _).kept hg4 (.inr (Ne.symm hne))) own4 (far2 hne hlt3 hat4) hb4
                          rw [hL] at hp
                          exact hp
                        · rw [hL]
                        · rw [hL]
                      case measure => simp [intOf]; omega
                · have ht : ((s[j].toNat : Int) != 47) = true := bne_miss (c := 47) rfl hb
                  have hq := hide (E_miss _ _ _ (unhide hEj) (at_drop s j hjl i' hij0) hb)
                  clear hb
                  go_wp2
                  go_round
                  case rel => exact ⟨j + 1, by go_num, by omega, by omega, hide (by have := unhide hq; omega)⟩
                  case measure => simp [intOf]; omega
              · have hjn : j = s.size := by omega
                have hel := E_end _ _ (unhide hEj) (by rw [List.length_drop, ← Lib.size_eq]; omega)
                have hij : i' < j := by omega
                have hf : Found s ps k i' j := ⟨by omega, hij0, hki, hj, hel, unhide hA⟩
                have hjn0 := hide hjn
                clear hel hE0 hEj hA hjn
                by_cases h2 : seg s.data.toList (i', j) = [46, 46]
                · have t2 : ((s.extract i' j).toList == [46, 46]) = true := by rw [seg_extract, h2]; rfl
                  have H2 := hide h2
                  clear h2
                  rcases List.eq_nil_or_concat ps with hps | ⟨qs, q, hps⟩
                  · subst hps
                    go_wp2
                    go_roundw
                    case rel => exact ⟨j, [], a3, a4, c3, c4, rfl, hf.top, rfl, rfl, hinv.root hf (unhide H2)⟩
                    case measure => simp [intOf]; omega
                  · rw [List.concat_eq_append] at hps
                    subst hps
                    obtain ⟨g3, d3, h3, _, _⟩ := hinv.own3.form (by simp)
                    obtain ⟨g4, d4, h4, _, _⟩ := hinv.own4.form (by simp)
                    injection h3 with h3a _ h3c
                    injection h4 with h4a _ h4c
                    subst h3a h3c h4a h4c
                    have hL : (qs ++ [q]).length = qs.length + 1 := by simp
                    rw [hL] at hinv ⊢
                    have hc3 := cap_of hinv.own3
                    have hc4 := cap_of hinv.own4
                    have hP := hide (hinv.pop hf (unhide H2))
                    have hj0 : j ≤ s.size := hf.top
                    have hql : qs.length ≤ s.size := by have := hinv.len; rw [hL] at this; omega
                    clear hinv
                    clear hL
                    go_wp2
                    go_roundw
                    case rel => exact ⟨j, qs, _, _, c3, c4, rfl, hj0, by go_num, by go_num, unhide hP⟩
                    case measure => simp [intOf]; omega
                · have t2 : ((s.extract i' j).toList == [46, 46]) = false := by rw [seg_extract, beq_eq_false_iff_ne]; exact h2
                  have H2 := hide h2
                  clear h2
                  by_cases h1 : seg s.data.toList (i', j) = [46]
                  · have t1 : ((s.extract i' j).toList != [46]) = false := by rw [seg_extract, h1]; rfl
                    have t0 : ((s.extract i' j).toList == [46]) = true := by rw [seg_extract, h1]; rfl
                    have H1 := hide h1
                    clear h1
                    go_wp2
                    go_roundw
                    case rel => exact ⟨j, ps, a3, a4, c3, c4, rfl, hf.top, rfl, rfl, hinv.same hf (.inr (unhide H1))⟩
                    case measure => simp [intOf]; omega
                  · have t0 : ((s.extract i' j).toList == [46]) = false := by rw [seg_extract, beq_eq_false_iff_ne]; exact h1
                    have t1 : ((s.extract i' j).toList != [46]) = true := by unfold bne; rw [t0]; rfl
                    have H1 := hide h1
                    clear h1
                    have hpl := hinv.len
                    have hn43 := hide (noneOr hinv.apart)
                    have hbz := hinv.below.size
                    go_wp2_with (first
                      | (at_builtin; refine wpList_append_lies _ rfl _ _ 38 rfl w.heap.size 3 i3 (.int .i64 0) 1 8 Try.underlying38 hi3 z30 z31 z32 rfl (by decide) (.slice a3 ps.length c3) _ _ rfl (hinv.own3.alloc _) ⟨wr.heap.size, 0, none⟩ 1 1 [.int .i64 i'] rfl rfl (cell_one_new _ _ _) (fun x hx => by simp at hx; subst hx; rfl) (by decide) (by unfold maxLen; omega) (by omega) (by simp; omega) (wr.heap.size + 1) (by simp) ?_; intro g3 d3 w3 own3 hg3 hat3 hlt3)
                      | (at_builtin; refine wpList_append_lies _ rfl _ _ 38 rfl w.heap.size 3 i3 (.int .i64 0) 1 8 Try.underlying38 hi3 z30 z31 z32 rfl (by decide) (.slice a4 ps.length c4) _ _ rfl (((hinv.own4.alloc _).kept hg3 (unhide hn43)).alloc _) ⟨w3.heap.size, 0, none⟩ 1 1 [.int .i64 j] rfl rfl (cell_one_new _ _ _) (fun x hx => by simp at hx; subst hx; rfl) (by decide) (by unfold maxLen; omega) (by omega) (by have hh := hg3.size; rw [size_alloc] at hh ⊢; omega) (w3.heap.size + 1) (by simp) ?_; intro g4 d4 w4 own4 hg4 hat4 hlt4))
                    go_roundw
                    case rel =>
                      have hz3 := hg3.size
                      rw [size_alloc] at hz3
                      have hne := far_of hinv.apart (fun q hq => (hinv.own4.lt q hq).2) hat3
                      have hb3 := (hinv.below.alloc hbz (.cells #[.int .i64 (i' : Int)] 3)).grown hg3 (by rw [size_alloc]; omega) (fun q hq => (hinv.own3.lt q hq).1)
                      have hb4 := (hb3.alloc (by omega) (.cells #[.int .i64 (j : Int)] 3)).grown hg4 (by rw [size_alloc]; omega) (fun q hq => (hinv.own4.lt q hq).1)
                      have hL : (ps ++ [(i', j)]).length = ps.length + 1 := by simp
                      refine ⟨j, ps ++ [(i', j)], some ⟨g3, 0, none⟩, some ⟨g4, 0, none⟩, d3, d4, rfl, hf.top, ?_, ?_, ?_⟩
                      rotate_left 2
                      · have hp := hinv.push hf hij (unhide H1) (unhide H2) ((own3.alloc _).kept hg4 (.inr (Ne.symm hne))) own4 (far2 hne hlt3 hat4) hb4
                        rw [hL] at hp
                        exact hp
                      · rw [hL]
                      · rw [hL]
                    case measure => simp [intOf]; omega
        · have hin : i' = s.size := by omega
          have hel : elemLen (s.data.toList.drop i') = i' - i' := by
            rw [List.drop_eq_nil_of_le (by rw [← Lib.size_eq]; omega)]; simp [elemLen]
          have hf : Found s ps k i' i' := ⟨by omega, Nat.le_refl _, hki, hi', hel, unhide hA⟩
          clear hel hin
          go_wp2
          go_loop [6] (fun v => v = .int .i64 i') (fun v => 0)
          case atStart => rfl
          case round =>
            rename_i hrel
            subst hrel
            go_wp2
            go_roundw
            case rel => exact ⟨i', ps, a3, a4, c3, c4, rfl, hi', rfl, rfl, hinv.same hf (.inl (seg_nil hf rfl))⟩
            case measure => simp [intOf]; omega
    · have hkn : k = s.size := by omega
      subst hkn
      rcases List.eq_nil_or_concat ps with hps | ⟨qs, q, hps⟩
      · subst hps
        have hz := hide hinv.empty
        have hb := hinv.below
        go_wp2
        go_ret
        exact ⟨by rw [unhide hz]; rfl, hb⟩
      · have hne : ps ≠ [] := by rw [hps, List.concat_eq_append]; simp
        have hpos : 0 < ps.length := List.length_pos_iff.2 hne
        have hz := hide (hinv.full hne)
        have hpl := hinv.len
        clear hps hne
        rename World => wb
        obtain ⟨g3, d3, h3, _, hg3⟩ := hinv.own3.form hpos
        obtain ⟨g4, d4, h4, _, hg4⟩ := hinv.own4.form hpos
        injection h3 with h3a _ h3c
        injection h4 with h4a _ h4c
        subst h3a h3c h4a h4c
        have ht : ((ps.length : Int) == 0) = false := by rw [beq_eq_false_iff_ne]; omega
        have hgood := hide hinv.good
        have hbel := hinv.below
        have hc3 := hide (hinv.own3.cells (g := g3) rfl)
        have hc4 := hide (hinv.own4.cells (g := g4) rfl)
        clear hinv
        go_wp2_with (first
          | (at_make; refine wpList_make_own _ rfl _ _ 39 rfl wb.heap.size 5 i5 (.int .u8 0) 1 Try.underlying39 hi5 z50 z51 _ _ _ (s.size + 1) rfl rfl (by omega) (by rw [z52]; omega) (by unfold maxLen; omega) (Nat.le_refl _) ?_; intro w1 own8 hg8))
        have hout : Out s wb ps 0 0 (.slice (some ⟨wb.heap.size, 0, none⟩) 0 (s.size + 1)) w1 := ⟨rfl, own8, (Below.refl _ _).grown hg8 (Nat.le_refl _) (fun k e => by cases e)⟩
        clear own8 hg8
        go_loopw [8, 9] (fun v8 v9 wr => ∃ (m n g8 c8 : Nat), v9 = .int .i64 m ∧ m ≤ ps.length ∧ v8 = .slice (some ⟨g8, 0, none⟩) n c8 ∧ Out s wb ps m n v8 wr) (fun _ v9 _ => ps.length - (intOf v9).toNat)
        case atStart => exact ⟨0, 0, _, _, rfl, Nat.zero_le _, rfl, hout⟩
        case round =>
          rename_i hrel
          clear hout
          obtain ⟨m, n, g8, c8, rfl, hm, rfl, hout⟩ := hrel
          have hbx := hout.below
          have hbz := hbx.size
          have hw1 := hbel.size
          by_cases hml : m < ps.length
          · have hnl := hout.small (unhide hgood) hs (by omega)
            have hq := hide (unhide hgood _ (List.getElem_mem hml))
            have hx3 := below_cell hbx hg3 (unhide hc3 m _ (get_map _ hml))
            have hx4 := below_cell hbx hg4 (unhide hc4 m _ (get_map _ hml))
            have hstep := hide (hout.step hml)
            obtain ⟨⟨q1, q2⟩, hqe⟩ : ∃ q, q = ps[m] := ⟨_, rfl⟩
            rw [← hqe] at hq hx3 hx4 hstep
            clear hqe
            simp only at hx3 hx4
            obtain ⟨hq1, hq2, _⟩ := unhide hq
            simp only at hq1 hq2
            have hown := hout.own
            clear hq hout
            have hm0 : (0 : Int) ≤ (m : Int) := Int.natCast_nonneg _
            have hm1 : (m : Int) < (ps.length : Int) := by omega
            have b1 : (0 : Int) ≤ (q1 : Int) := Int.natCast_nonneg _
            have b2 : (q1 : Int) ≤ (q2 : Int) := by omega
            have b3 : (q2 : Int) ≤ (s.size : Int) := by omega
            go_wp2_with (first
              | (at_builtin; refine wpList_append_lies _ rfl _ _ 39 rfl wb.heap.size 5 i5 (.int .u8 0) 1 1 Try.underlying39 hi5 z50 z51 z52 rfl (by decide) (.slice (some ⟨g8, 0, none⟩) n c8) _ _ rfl (hown.alloc _) ⟨wr.heap.size, 0, none⟩ 1 1 [.int .u8 47] rfl rfl (cell_one_new _ _ _) (fun x hx => by simp at hx; subst hx; rfl) (by decide) (by unfold maxLen; omega) (by omega) (by rw [size_alloc]; omega) (wr.heap.size + 1) (by simp) ?_; intro g9 d9 w9 own9 hg9 hat9 hlt9))
            have hz9 := hg9.size
            rw [size_alloc] at hz9
            have hb9 := (hbx.alloc hbz (.cells #[.int .u8 47] 5)).grown hg9 (by rw [size_alloc]; omega) (fun q hq => (hown.lt q hq).1)
            have hy3 : w9.cell? ⟨g3, m, none⟩ = some (.int .i64 q1) := by rw [World.cell?_of_block (hb9.block g3 hg3)]; rw [World.cell?_of_block (hbx.block g3 hg3)] at hx3; exact hx3
            have hy4 : w9.cell? ⟨g4, m, none⟩ = some (.int .i64 q2) := by rw [World.cell?_of_block (hb9.block g4 hg4)]; rw [World.cell?_of_block (hbx.block g4 hg4)] at hx4; exact hx4
            have hn3 : g3 ≠ g9 := by have := (own9.lt g9 rfl).1; omega
            have hn4 : g4 ≠ g9 := by have := (own9.lt g9 rfl).1; omega
            have hsz : (s.extract q1 q2).size ≤ s.size := by rw [ByteArray.size_extract]; omega
            clear hx3 hx4 hown hg9 hat9 hlt9 hbx
            go_region_held3 (fun w' => w'.cell? ⟨g3, m, none⟩ = some (.int .i64 q1) ∧ w'.cell? ⟨g4, m, none⟩ = some (.int .i64 q2))
              (first
                | go_keep
                | (go_split_ands
                   refine ⟨?_, ?_⟩
                   · (rw [World.cell?_of_block (hgA.block g3 (by simp; omega) (by simp only [Value.ownBlock, ne_eq, Option.some.injEq]; exact hn3))]; assumption)
                   · (rw [World.cell?_of_block (hgA.block g4 (by simp; omega) (by simp only [Value.ownBlock, ne_eq, Option.some.injEq]; exact hn4))]; assumption)))
              ((refine step_append_str _ (by rfl) _ _ _ _ (by rfl) wb.heap.size 5 i5 Try.underlying39 Try.underlying9 hi5 z50 z51 z52 (.slice (some ⟨g9, 0, none⟩) (n + 1) d9) (n + 1) _ (by rfl) own9.drew (s.extract q1 q2) (by rfl) (by omega) (by unfold maxLen; omega) (by omega) (by simp; omega) ?_; intro gA dA wA ownA hgA))
            have hbA := hb9.drew.grown hgA (by simp; omega) (fun q hq => (own9.lt q hq).1)
            go_wp2
            go_roundw
            case rel =>
              have ho := unhide hstep _ _ ownA hbA
              have hse : (s.extract q1 q2).size = q2 - q1 := by rw [ByteArray.size_extract]; omega
              rw [hse] at ho
              exact ⟨m + 1, n + 1 + (q2 - q1), gA, dA, by go_num, by omega, rfl, ho⟩
            case measure => simp [intOf]; omega
          · have hmn : m = ps.length := by omega
            subst hmn
            have kc := hout.conv
            clear hout
            go_wp2
            go_ret
            exact ⟨by rw [unhide hz]; rfl, hbel.trans (hbx.mono hw1)⟩

end Go.Proofs.Qxb6002464a
