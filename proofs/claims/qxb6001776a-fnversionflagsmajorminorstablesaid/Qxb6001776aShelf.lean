/-
  The library contracts that this seat uses, laid at its dump in plain words (written by the kit's own tool for this program; only the ones needed are kept).
-/
import Derived.Shelf.Strings.OnBuilder
import Derived.Shelf.Strings.Search2
import Derived.Shelf.Strings.Prefix
import Derived.Test.Qxb6001776aProg
namespace Go.Proofs
open Go.Shelf
def Try.lays156_ren : Go.Shelf.Ren := ⟨fun | 156 => 20 | 165 => 23 | 166 => 24 | 169 => 25 | 240 => 28 | 241 => 29 | 276 => 34 | 277 => 35 | n => n, fun | 31 => 31 | 9 => 9 | 3 => 3 | 4 => 4 | 0 => 0 | 20 => 20 | 72 => 41 | 76 => 45 | 70 => 38 | 37 => 39 | 75 => 44 | 127 => 49 | 164 => 52 | 5 => 5 | 80 => 47 | n => n, fun | n => n⟩
theorem Try.lays156 : Go.Proofs.Lays.n156 Try.prog Try.lays156_ren := {
  mixed := by kernel_rfl
  f156 := Try.func20.trans (congrArg some (by kernel_rfl))
  f165 := Try.func23.trans (congrArg some (by kernel_rfl))
  f166 := Try.func24.trans (congrArg some (by kernel_rfl))
  f169 := Try.func25.trans (congrArg some (by kernel_rfl))
  f240 := Try.func28.trans (congrArg some (by kernel_rfl))
  f241 := Try.func29.trans (congrArg some (by kernel_rfl))
  f276 := Try.func34.trans (congrArg some (by kernel_rfl))
  f277 := Try.func35.trans (congrArg some (by kernel_rfl))
  t0 := Try.underlying0
  a0 := Try.isAgg0
  z0 := Try.sizeOf0
  v0 := Try.zeroValue0
  t3 := Try.underlying3
  a3 := Try.isAgg3
  z3 := Try.sizeOf3
  v3 := Try.zeroValue3
  t4 := Try.underlying4
  a4 := Try.isAgg4
  z4 := Try.sizeOf4
  v4 := Try.zeroValue4
  t9 := Try.underlying9
  a9 := Try.isAgg9
  z9 := Try.sizeOf9
  v9 := Try.zeroValue9
  t20 := Try.underlying20
  a20 := Try.isAgg20
  z20 := Try.sizeOf20
  v20 := Try.zeroValue20
  t31 := Try.underlying31
  a31 := Try.isAgg31
  z31 := Try.sizeOf31
  v31 := Try.zeroValue31
  t37 := Try.underlying39
  a37 := Try.isAgg39
  z37 := Try.sizeOf39
  v37 := Try.zeroValue39
  t70 := Try.underlying38
  a70 := Try.isAgg38
  z70 := Try.sizeOf38
  v70 := Try.zeroValue38
  t72 := Try.underlying41
  a72 := Try.isAgg41
  z72 := Try.sizeOf41
  v72 := Try.zeroValue41
  t75 := Try.underlying44
  a75 := Try.isAgg44
  z75 := Try.sizeOf44
  v75 := Try.zeroValue44
  t76 := Try.underlying45
  a76 := Try.isAgg45
  z76 := Try.sizeOf45
  v76 := Try.zeroValue45
  t127 := Try.underlying49
  a127 := Try.isAgg49
  z127 := Try.sizeOf49
  v127 := Try.zeroValue49
  t164 := Try.underlying52
  a164 := Try.isAgg52
  z164 := Try.sizeOf52
  v164 := Try.zeroValue52 }
theorem Try.Builder_Extra_156 : Builder.Extra Try.prog Try.lays156_ren := {
  sizeBuilder := by kernel_rfl
  liesBuilder := by kernel_rfl
  t5 := Try.underlying5
  a5 := Try.isAgg5
  z5 := Try.sizeOf5
  v5 := Try.zeroValue5
  infoByte := by kernel_rfl
  cellsByte := by kernel_rfl
  sizeByte := by kernel_rfl
  neB5 := by decide }
open Go.RowKit in
theorem Try.strings_Join (bk o c : Nat) (xs : List ByteArray) (sep : ByteArray) (w : World) (hcells : ∀ (j : Nat) x, xs[j]? = some x → w.cell? ⟨bk, o + j, none⟩ = some (.string x)) (hbk : bk < w.heap.size) (hN : xs.length ≤ 140737488355328) (hcap : xs.length ≤ c) (hlen : (Lib.join (xs.map (·.data.toList)) sep.data.toList).length ≤ 140737488355328) :
    Calls Try.prog 20 #[.slice (some ⟨bk, o, none⟩) xs.length c, .string sep] w fun e w' => e = .returned (.string ⟨(Lib.join (xs.map (·.data.toList)) sep.data.toList).toArray⟩) ∧ Below w.heap.size w w' := Any.strings_Join Try.lays156 Try.Builder_Extra_156 bk o c xs sep w hcells hbk hN hcap hlen
def Try.lays219_ren : Go.Shelf.Ren := ⟨fun | 219 => 26 | 217 => 30 | 225 => 31 | 224 => 32 | 267 => 33 | 266 => 36 | 314 => 37 | n => n, fun | 9 => 9 | 3 => 3 | 4 => 4 | 5 => 5 | 46 => 51 | 146 => 56 | 51 => 55 | n => n, fun | 1 => 0 | n => n⟩
theorem Try.lays219 : Go.Proofs.Lays.n219 Try.prog Try.lays219_ren := {
  mixed := by kernel_rfl
  f217 := Try.func30.trans (congrArg some (by kernel_rfl))
  f219 := Try.func26.trans (congrArg some (by kernel_rfl))
  f224 := Try.func32.trans (congrArg some (by kernel_rfl))
  f225 := Try.func31.trans (congrArg some (by kernel_rfl))
  f266 := Try.func36.trans (congrArg some (by kernel_rfl))
  f267 := Try.func33.trans (congrArg some (by kernel_rfl))
  f314 := Try.func37.trans (congrArg some (by kernel_rfl))
  t3 := Try.underlying3
  a3 := Try.isAgg3
  z3 := Try.sizeOf3
  v3 := Try.zeroValue3
  t4 := Try.underlying4
  a4 := Try.isAgg4
  z4 := Try.sizeOf4
  v4 := Try.zeroValue4
  t5 := Try.underlying5
  a5 := Try.isAgg5
  z5 := Try.sizeOf5
  v5 := Try.zeroValue5
  t9 := Try.underlying9
  a9 := Try.isAgg9
  z9 := Try.sizeOf9
  v9 := Try.zeroValue9
  t46 := Try.underlying51
  a46 := Try.isAgg51
  z46 := Try.sizeOf51
  v46 := Try.zeroValue51
  t51 := Try.underlying55
  a51 := Try.isAgg55
  z51 := Try.sizeOf55
  v51 := Try.zeroValue55
  t146 := Try.underlying56
  a146 := Try.isAgg56
  z146 := Try.sizeOf56
  v146 := Try.zeroValue56
  g1 := by kernel_rfl }
open Go.RowKit Go.Lib in
theorem Try.stringslite_Index_one (s : ByteArray) (c : UInt8) (w : World) :
    Calls Try.prog 26 #[.string s, .string ⟨#[c]⟩] w fun e w' => e = .returned (.int .i64 (Lib.indexByte s.data.toList c)) ∧ w' = w := Any.stringslite_Index_one Try.lays219 s c w
open Go.RowKit Go.Lib in
def Try.lays101_ren : Go.Shelf.Ren := ⟨fun | 101 => 19 | 208 => 22 | 206 => 27 | n => n, fun | 9 => 9 | 4 => 4 | 3 => 3 | n => n, fun | n => n⟩
theorem Try.lays101 : Go.Proofs.Lays.n101 Try.prog Try.lays101_ren := {
  mixed := by kernel_rfl
  f101 := Try.func19.trans (congrArg some (by kernel_rfl))
  f206 := Try.func27.trans (congrArg some (by kernel_rfl))
  f208 := Try.func22.trans (congrArg some (by kernel_rfl))
  t3 := Try.underlying3
  a3 := Try.isAgg3
  z3 := Try.sizeOf3
  v3 := Try.zeroValue3
  t4 := Try.underlying4
  a4 := Try.isAgg4
  z4 := Try.sizeOf4
  v4 := Try.zeroValue4
  t9 := Try.underlying9
  a9 := Try.isAgg9
  z9 := Try.sizeOf9
  v9 := Try.zeroValue9 }
open Go.RowKit Go.Lib in
theorem Try.strings_TrimPrefix (s p : ByteArray) (w : World) :
    Calls Try.prog 19 #[.string s, .string p] w fun e w' => e = .returned (.string ⟨(Lib.trimPrefix s.data.toList p.data.toList).toArray⟩) ∧ w' = w := Any.strings_TrimPrefix Try.lays101 s p w
end Go.Proofs
