/-
  The library contracts that this seat uses, laid at its dump in plain words (written by the kit's own tool for this program; only the ones needed are kept).
-/
import Derived.Shelf.Small.Strs
import Derived.Shelf.Path.Clean
import Derived.Test.Qxb6002464aProg
namespace Go.Proofs
open Go.Shelf
def Try.lays137_ren : Go.Shelf.Ren := ⟨fun | 137 => 24 | 217 => 31 | 266 => 35 | n => n, fun | 9 => 9 | 5 => 5 | 3 => 3 | n => n, fun | n => n⟩
theorem Try.lays137 : Go.Proofs.Lays.n137 Try.prog Try.lays137_ren := {
  mixed := by kernel_rfl
  f137 := Try.func24.trans (congrArg some (by kernel_rfl))
  f217 := Try.func31.trans (congrArg some (by kernel_rfl))
  f266 := Try.func35.trans (congrArg some (by kernel_rfl))
  t3 := Try.underlying3
  a3 := Try.isAgg3
  z3 := Try.sizeOf3
  v3 := Try.zeroValue3
  t5 := Try.underlying5
  a5 := Try.isAgg5
  z5 := Try.sizeOf5
  v5 := Try.zeroValue5
  t9 := Try.underlying9
  a9 := Try.isAgg9
  z9 := Try.sizeOf9
  v9 := Try.zeroValue9 }
open Go.RowKit in
theorem Try.strings_IndexByte (s : ByteArray) (c : Int) (w : World) :
    Calls Try.prog 24 #[.string s, .int .u8 c] w fun e w' => e = .returned (.int .i64 (Lib.indexByte s.data.toList c.toNat.toUInt8)) ∧ w' = w := Any.strings_IndexByte Try.lays137 s c w
def Try.laysPah27_ren : Go.Shelf.Ren := ⟨fun | 27 => 32 | 29 => 36 | 30 => 37 | 45 => 38 | 46 => 39 | 47 => 40 | 48 => 41 | n => n, fun | 9 => 9 | 24 => 26 | 5 => 5 | 3 => 3 | 4 => 4 | 42 => 45 | 0 => 0 | 48 => 49 | 30 => 39 | n => n, fun | n => n⟩
theorem Try.laysPah27 : Go.Proofs.Lays.ph27 Try.prog Try.laysPah27_ren := {
  mixed := by kernel_rfl
  f27 := Try.func32.trans (congrArg some (by kernel_rfl))
  f29 := Try.func36.trans (congrArg some (by kernel_rfl))
  f30 := Try.func37.trans (congrArg some (by kernel_rfl))
  f45 := Try.func38.trans (congrArg some (by kernel_rfl))
  f46 := Try.func39.trans (congrArg some (by kernel_rfl))
  f47 := Try.func40.trans (congrArg some (by kernel_rfl))
  f48 := Try.func41.trans (congrArg some (by kernel_rfl))
  t0 := Try.underlying0
  a0 := Try.isAgg0
  z0 := Try.sizeOf0
  v0 := Try.zeroValue0
  t3 := Try.underlying3
  a3 := Try.isAgg3
  z3 := Try.sizeOf3
  v3 := Try.zeroValue3
  t4 := Try.underlying4
  a4 := Try.isAgg4
  z4 := Try.sizeOf4
  v4 := Try.zeroValue4
  t5 := Try.underlying5
  a5 := Try.isAgg5
  z5 := Try.sizeOf5
  v5 := Try.zeroValue5
  t9 := Try.underlying9
  a9 := Try.isAgg9
  z9 := Try.sizeOf9
  v9 := Try.zeroValue9
  t24 := Try.underlying26
  a24 := Try.isAgg26
  z24 := Try.sizeOf26
  v24 := Try.zeroValue26
  t30 := Try.underlying39
  a30 := Try.isAgg39
  z30 := Try.sizeOf39
  v30 := Try.zeroValue39
  t42 := Try.underlying45
  a42 := Try.isAgg45
  z42 := Try.sizeOf45
  v42 := Try.zeroValue45
  t48 := Try.underlying49
  a48 := Try.isAgg49
  z48 := Try.sizeOf49
  v48 := Try.zeroValue49
  info5 := by kernel_rfl }
open Go.RowKit Go.Lib in
theorem Try.path_Dir (s : ByteArray) (w : World) (hbig : s.size ≤ 281474976710656) :
    Calls Try.prog 32 #[.string s] w fun e w' => e = .returned (.string ⟨(Pa.dir s.data.toList).toArray⟩) ∧ Below w.heap.size w w' := Any.path_Dir Try.laysPah27 s w hbig
end Go.Proofs
