/-
  A map keyed by strings, its entries written out: look-up, store, delete, at the operation.
-/
import Derived.Test.Qxb6002403aKit
import Derived.Maps.OwnSet
import Derived.WideMake
namespace Go.Proofs.Qxb6002403a
open Go.ChangeShapes Go.WideShapes Go.ChangeAt Go.RowKit Go.MapKept
open Go.ChangeMaps (setBlock heap_setBlock_same heap_setBlock_other)
set_option linter.unusedVariables false
set_option linter.unusedSimpArgs false

/-- Block B is the map with just these entries. -/
def MapIs (w : World) (B : Nat) (es : Array MapEntry) (clock : Nat) : Prop := w.heap[B]? = some (.map es clock)

theorem MapIs.kept {w w' : World} {B : Nat} {es : Array MapEntry} {clock : Nat} (h : MapIs w B es clock) (hg : w.grownBy w' none) : MapIs w' B es clock := by
  unfold MapIs at *
  rw [hg.block B (Array.getElem?_eq_some_iff.1 h).1 (by simp)]
  exact h
theorem MapIs.below {w w' : World} {B : Nat} {es : Array MapEntry} {clock : Nat} (h : MapIs w B es clock) (hb : Below w.heap.size w w') : MapIs w' B es clock := h.kept (grown_of_below hb none)

theorem grown_setBlock {w : World} {B : Nat} {es : Array MapEntry} {clock : Nat} (h : MapIs w B es clock) (o : Obj) : w.grownBy (setBlock w B o) (some B) :=
  ⟨rfl, rfl, rfl, by simp [setBlock], fun k hk hn => heap_setBlock_other h o (fun e => hn (by rw [e]))⟩

/-- Where the key stands among the entries. -/
def found (k : ByteArray) (es : Array MapEntry) : Option (Option (Nat × Value)) := Instr.findNow .string (.string k) es.toList 0

theorem run_get {t e : TypeId} (ht : Try.prog.underlying t = some (.map 9 e)) {w : World} {B : Nat} {es : Array MapEntry} {clock : Nat} (h : MapIs w B es clock) {k : ByteArray} {i : Nat} {v : Value} (hf : found k es = some (some (i, v))) :
    (Instr.lookup t (.map (some B)) (.string k) true).run Try.prog w = .ok (.tuple #[v, .bool true]) w := by
  have hk := Try.underlying9
  have hc : ∀ b, (Instr.checkKey b 10000 9 (.string k)).run Try.prog w = .ok () w := fun b => run_checkKey (k := .string k) hk (by simp [IsKey]) b 9999
  simp [Instr.lookup, run_underlying ht, Go.MapKept.run_getObj_map h, hc, run_findKey hk hf, Result.andThen]

theorem run_miss {t e : TypeId} (ht : Try.prog.underlying t = some (.map 9 e)) {w : World} {z : Value} (hz : (zeroValue e).run Try.prog w = .ok z w) {B : Nat} {es : Array MapEntry} {clock : Nat} (h : MapIs w B es clock) {k : ByteArray} (hf : found k es = some none) :
    (Instr.lookup t (.map (some B)) (.string k) true).run Try.prog w = .ok (.tuple #[z, .bool false]) w := by
  have hk := Try.underlying9
  have hc : ∀ b, (Instr.checkKey b 10000 9 (.string k)).run Try.prog w = .ok () w := fun b => run_checkKey (k := .string k) hk (by simp [IsKey]) b 9999
  simp [Instr.lookup, run_underlying ht, Go.MapKept.run_getObj_map h, hc, run_findKey hk hf, Result.andThen, hz]

theorem run_put {t e : TypeId} (ht : Try.prog.underlying t = some (.map 9 e)) {w : World} {B : Nat} {es : Array MapEntry} {clock : Nat} (h : MapIs w B es clock) {k : ByteArray} (v : Value) (hf : found k es = some none) :
    ∃ w', (Instr.mapUpdate t (.map (some B)) (.string k) v).run Try.prog w = .ok () w' ∧ MapIs w' B (es.push { key := .string k, val := v, born := clock }) (clock + 1) ∧ w.grownBy w' (some B) := by
  have hk := Try.underlying9
  have hc : (Instr.checkKey false 10000 9 (.string k)).run Try.prog w = .ok () w := run_checkKey (k := .string k) hk (by simp [IsKey]) false 9999
  refine ⟨setBlock w B (.map (es.push { key := .string k, val := v, born := clock }) (clock + 1)), ?_, heap_setBlock_same h _, grown_setBlock h _⟩
  simp [Instr.mapUpdate, run_underlying ht, Go.MapKept.run_getObj_map h, hc, run_findKey hk hf, Go.MapKept.run_setObj_map _ h, Result.andThen, setBlock]

theorem run_del {t e ty : TypeId} (ht : Try.prog.underlying t = some (.map 9 e)) {w : World} {B : Nat} {es : Array MapEntry} {clock : Nat} (h : MapIs w B es clock) {k : ByteArray} {i : Nat} {v : Value} (hf : found k es = some (some (i, v))) :
    ∃ w', (Builtin.delete_ #[t, 9] ty #[.map (some B), .string k]).run Try.prog w = .ok (.tuple #[]) w' ∧ MapIs w' B (es.eraseIdxIfInBounds i) clock ∧ w.grownBy w' (some B) := by
  have hk := Try.underlying9
  have hc : ∀ b, (Instr.checkKey b 10000 9 (.string k)).run Try.prog w = .ok () w := fun b => run_checkKey (k := .string k) hk (by simp [IsKey]) b 9999
  refine ⟨setBlock w B (.map (es.eraseIdxIfInBounds i) clock), ?_, heap_setBlock_same h _, grown_setBlock h _⟩
  simp [Builtin.delete_, run_underlying ht, Go.MapKept.run_getObj_map h, hc, run_findKey hk hf, Go.MapKept.run_setObj_map _ h, Result.andThen, setBlock]

theorem run_del_miss {t e ty : TypeId} (ht : Try.prog.underlying t = some (.map 9 e)) {w : World} {B : Nat} {es : Array MapEntry} {clock : Nat} (h : MapIs w B es clock) {k : ByteArray} (hf : found k es = some none) :
    ∃ w', (Builtin.delete_ #[t, 9] ty #[.map (some B), .string k]).run Try.prog w = .ok (.tuple #[]) w' ∧ MapIs w' B es clock ∧ w.grownBy w' (some B) := by
  have hk := Try.underlying9
  have hc : ∀ b, (Instr.checkKey b 10000 9 (.string k)).run Try.prog w = .ok () w := fun b => run_checkKey (k := .string k) hk (by simp [IsKey]) b 9999
  refine ⟨setBlock w B (.map es clock), ?_, heap_setBlock_same h _, grown_setBlock h _⟩
  simp [Builtin.delete_, run_underlying ht, Go.MapKept.run_getObj_map h, hc, run_findKey hk hf, Go.MapKept.run_setObj_map _ h, Result.andThen, setBlock]

/-- 'm[k] = v' at a key that is not there. -/
theorem wpList_put (w : World) {ops : Array Oper} {rest : List Oper} {o : Oper} {a : Act} {Q : Exit → Act → World → Prop}
    (hg : o.guard = none) (m x v : Operand) (t e : TypeId) (hop : o.op = Op.mapUpdate t m x v) (ht : Try.prog.underlying t = some (.map 9 e)) (B : Nat) (es : Array MapEntry) (clock : Nat)
    (hm : a.eval m = .map (some B)) (h : MapIs w B es clock) (k : ByteArray) (val : Value) (hx : a.eval x = .string k) (hv : a.eval v = val) (hf : found k es = some none)
    (hK : ∀ w', MapIs w' B (es.push { key := .string k, val := val, born := clock }) (clock + 1) → w.grownBy w' (some B) → wpList Try.prog ops Q rest (a.put o.dst undef) w') :
    wpList Try.prog ops Q (o :: rest) a w := by
  refine wpList_plain hg fun K' hK' => ?_
  obtain ⟨w', hrun, r1, r2⟩ := run_put ht h val hf
  unfold Oper.wp
  simp [execOp, hop, hm, hx, hv, hrun, Result.andThen]
  exact hK' _ _ (hK w' r1 r2)

/-- 'delete(m, k)' at a key that is there. -/
theorem wpList_del (w : World) {ops : Array Oper} {rest : List Oper} {o : Oper} {a : Act} {Q : Exit → Act → World → Prop}
    (hg : o.guard = none) (m x : Operand) (t e : TypeId) (hop : o.op = Op.call { callee := Callee.builtin Builtin.delete, args := #[m, x], argTypes := #[t, 9] }) (ht : Try.prog.underlying t = some (.map 9 e)) (B : Nat) (es : Array MapEntry) (clock : Nat)
    (hm : a.eval m = .map (some B)) (h : MapIs w B es clock) (k : ByteArray) (hx : a.eval x = .string k) (i : Nat) (v : Value) (hf : found k es = some (some (i, v)))
    (hK : ∀ w', MapIs w' B (es.eraseIdxIfInBounds i) clock → w.grownBy w' (some B) → wpList Try.prog ops Q rest (a.put o.dst (.tuple #[])) w') :
    wpList Try.prog ops Q (o :: rest) a w := by
  refine wpList_plain hg fun K' hK' => ?_
  obtain ⟨w', hrun, r1, r2⟩ := run_del (ty := o.type) ht h hf
  unfold Oper.wp
  simp [execOp, hop, resolve, invoke, builtin, hm, hx, hrun, Result.andThen]
  exact hK' _ _ (hK w' r1 r2)

/-- 'delete(m, k)' at a key that is not there. -/
theorem wpList_del_miss (w : World) {ops : Array Oper} {rest : List Oper} {o : Oper} {a : Act} {Q : Exit → Act → World → Prop}
    (hg : o.guard = none) (m x : Operand) (t e : TypeId) (hop : o.op = Op.call { callee := Callee.builtin Builtin.delete, args := #[m, x], argTypes := #[t, 9] }) (ht : Try.prog.underlying t = some (.map 9 e)) (B : Nat) (es : Array MapEntry) (clock : Nat)
    (hm : a.eval m = .map (some B)) (h : MapIs w B es clock) (k : ByteArray) (hx : a.eval x = .string k) (hf : found k es = some none)
    (hK : ∀ w', MapIs w' B es clock → w.grownBy w' (some B) → wpList Try.prog ops Q rest (a.put o.dst (.tuple #[])) w') :
    wpList Try.prog ops Q (o :: rest) a w := by
  refine wpList_plain hg fun K' hK' => ?_
  obtain ⟨w', hrun, r1, r2⟩ := run_del_miss (ty := o.type) ht h hf
  unfold Oper.wp
  simp [execOp, hop, resolve, invoke, builtin, hm, hx, hrun, Result.andThen]
  exact hK' _ _ (hK w' r1 r2)

end Go.Proofs.Qxb6002403a
