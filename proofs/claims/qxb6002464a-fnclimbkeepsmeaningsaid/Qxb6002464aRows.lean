/-
  No cell of these rows narrows 'for every input' (looked for: loops, veiled, ifaces, maps, wideKeys, modest, calm, conditions, laid).
  DERIVED. THE GIVEN ROWS OF THIS SEAT. 5 by the template 'for every input the law returns true; each argument reads behind the call as it read before'; 0 by the template 'total and deterministic' (their statements: Qxb6002464aTotals.lean).
  GIVEN WITH THE SEED: the statements are not yours to turn. If you find one false, say at which input.
  Laid BY PROGRAM, IN A SANDBOX (cutbox-rows.mjs): the forced cells as the released guide's own fill.sh prints them over the translation ddfc4f05c73a9ec6… (all of the seat's roots in one cut). By AI agents, Wed Nov 11 2026. No macro, syntax, notation, axiom, sorry.
-/
import Derived.Test.Qxb6002464aChecked
import GoSem.Claim
import GoSem.ClaimJoined
import GoSem.ClaimMapViews
import Derived.JoinedTies
import Derived.KernelRfl
namespace Go.Proofs.Qxb6002464a
/- THE CELL 'sum', in the pinned program and in every row, IS THE sha256 OF THE DUMP (.gsa) THAT Qxb6002464aProg.lean LOADS. Nothing in Lean hashes anything: it is a label: what it is worth is what the hold of that sum in a sandbox is worth. -/
noncomputable def Try.pinned : Pinned := { name := "qxb6002464a", sum := "ddfc4f05c73a9ec6bb711347d689ae18db4e616a72c9a566118ebd83c9f00b4f", checked := Try.checked }
namespace Rows
def none {H : Type} : Left H := { results := [], args := [] }

/-- 'zzlaws_internal_resolve_g1.FnElemEndFindsNextSlash': WHATEVER THE INPUT: true; the input reads as it did. -/
def fnElemEndFindsNextSlashSpec : ChangeSpec := { name := "fnElemEndFindsNextSlash", fn := fun _ => fun
  | [d1, d2] => { results := [.lit (.bool true)], args := [d1, d2] }
  | _ => none }
def fnElemEndFindsNextSlashRow : OpenClaim := { program := "qxb6002464a", sum := "ddfc4f05c73a9ec6bb711347d689ae18db4e616a72c9a566118ebd83c9f00b4f", func := "example.com/underglass/underglass/zzlaws_internal_resolve_g1.FnElemEndFindsNextSlash", spec := "fnElemEndFindsNextSlash", inPlace := ["internal/bytealg.IndexByteString"], apart := false }
def FnElemEndFindsNextSlashSaid : Prop := fnElemEndFindsNextSlashRow.holds Try.pinned (OpenSpec.ofChange fnElemEndFindsNextSlashSpec)

/-- ITS FALSE NEIGHBOUR: 'it returns false'. Refute it at one input. -/
def fnElemEndFindsNextSlashWrong : ChangeSpec := { name := "fnElemEndFindsNextSlash", fn := fun _ => fun
  | [d1, d2] => { results := [.lit (.bool false)], args := [d1, d2] }
  | _ => none }
def FnElemEndFindsNextSlashWrongFalsely : Prop := fnElemEndFindsNextSlashRow.holds Try.pinned (OpenSpec.ofChange fnElemEndFindsNextSlashWrong)

/-- 'zzlaws_internal_resolve_g1.FnClimbKeepsMeaning': WHATEVER THE INPUT: true; the input reads as it did. -/
def fnClimbKeepsMeaningSpec : ChangeSpec := { name := "fnClimbKeepsMeaning", fn := fun _ => fun
  | [d1, d2] => { results := [.lit (.bool true)], args := [d1, d2] }
  | _ => none }
def fnClimbKeepsMeaningRow : OpenClaim := { program := "qxb6002464a", sum := "ddfc4f05c73a9ec6bb711347d689ae18db4e616a72c9a566118ebd83c9f00b4f", func := "example.com/underglass/underglass/zzlaws_internal_resolve_g1.FnClimbKeepsMeaning", spec := "fnClimbKeepsMeaning", inPlace := ["internal/bytealg.IndexByteString"], apart := false }
def FnClimbKeepsMeaningSaid : Prop := fnClimbKeepsMeaningRow.holds Try.pinned (OpenSpec.ofChange fnClimbKeepsMeaningSpec)

/-- ITS FALSE NEIGHBOUR: 'it returns false'. Refute it at one input. -/
def fnClimbKeepsMeaningWrong : ChangeSpec := { name := "fnClimbKeepsMeaning", fn := fun _ => fun
  | [d1, d2] => { results := [.lit (.bool false)], args := [d1, d2] }
  | _ => none }
def FnClimbKeepsMeaningWrongFalsely : Prop := fnClimbKeepsMeaningRow.holds Try.pinned (OpenSpec.ofChange fnClimbKeepsMeaningWrong)

/-- 'zzlaws_internal_resolve_g1.FnChildIgnoresName': WHATEVER THE INPUT: true; the input reads as it did. -/
def fnChildIgnoresNameSpec : ChangeSpec := { name := "fnChildIgnoresName", fn := fun _ => fun
  | [d1, d2, d3] => { results := [.lit (.bool true)], args := [d1, d2, d3] }
  | _ => none }
def fnChildIgnoresNameRow : OpenClaim := { program := "qxb6002464a", sum := "ddfc4f05c73a9ec6bb711347d689ae18db4e616a72c9a566118ebd83c9f00b4f", func := "example.com/underglass/underglass/zzlaws_internal_resolve_g1.FnChildIgnoresName", spec := "fnChildIgnoresName", apart := false }
def FnChildIgnoresNameSaid : Prop := fnChildIgnoresNameRow.holds Try.pinned (OpenSpec.ofChange fnChildIgnoresNameSpec)

/-- ITS FALSE NEIGHBOUR: 'it returns false'. Refute it at one input. -/
def fnChildIgnoresNameWrong : ChangeSpec := { name := "fnChildIgnoresName", fn := fun _ => fun
  | [d1, d2, d3] => { results := [.lit (.bool false)], args := [d1, d2, d3] }
  | _ => none }
def FnChildIgnoresNameWrongFalsely : Prop := fnChildIgnoresNameRow.holds Try.pinned (OpenSpec.ofChange fnChildIgnoresNameWrong)

/-- 'zzlaws_internal_resolve_g1.FnCheckNameRefusesExactly': WHATEVER THE INPUT: true; the input reads as it did. -/
def fnCheckNameRefusesExactlySpec : ChangeSpec := { name := "fnCheckNameRefusesExactly", fn := fun _ => fun
  | [d] => { results := [.lit (.bool true)], args := [d] }
  | _ => none }
def fnCheckNameRefusesExactlyRow : OpenClaim := { program := "qxb6002464a", sum := "ddfc4f05c73a9ec6bb711347d689ae18db4e616a72c9a566118ebd83c9f00b4f", func := "example.com/underglass/underglass/zzlaws_internal_resolve_g1.FnCheckNameRefusesExactly", spec := "fnCheckNameRefusesExactly", inPlace := ["internal/bytealg.IndexByteString"], apart := false }
def FnCheckNameRefusesExactlySaid : Prop := fnCheckNameRefusesExactlyRow.holds Try.pinned (OpenSpec.ofChange fnCheckNameRefusesExactlySpec)

/-- ITS FALSE NEIGHBOUR: 'it returns false'. Refute it at one input. -/
def fnCheckNameRefusesExactlyWrong : ChangeSpec := { name := "fnCheckNameRefusesExactly", fn := fun _ => fun
  | [d] => { results := [.lit (.bool false)], args := [d] }
  | _ => none }
def FnCheckNameRefusesExactlyWrongFalsely : Prop := fnCheckNameRefusesExactlyRow.holds Try.pinned (OpenSpec.ofChange fnCheckNameRefusesExactlyWrong)

/-- 'zzlaws_internal_resolve_g1.FnCheckLinkRefusesExactly': WHATEVER THE INPUT: true; the input reads as it did. -/
def fnCheckLinkRefusesExactlySpec : ChangeSpec := { name := "fnCheckLinkRefusesExactly", fn := fun _ => fun
  | [d1, d2] => { results := [.lit (.bool true)], args := [d1, d2] }
  | _ => none }
def fnCheckLinkRefusesExactlyRow : OpenClaim := { program := "qxb6002464a", sum := "ddfc4f05c73a9ec6bb711347d689ae18db4e616a72c9a566118ebd83c9f00b4f", func := "example.com/underglass/underglass/zzlaws_internal_resolve_g1.FnCheckLinkRefusesExactly", spec := "fnCheckLinkRefusesExactly", inPlace := ["internal/bytealg.IndexByteString"], apart := false }
def FnCheckLinkRefusesExactlySaid : Prop := fnCheckLinkRefusesExactlyRow.holds Try.pinned (OpenSpec.ofChange fnCheckLinkRefusesExactlySpec)

/-- ITS FALSE NEIGHBOUR: 'it returns false'. Refute it at one input. -/
def fnCheckLinkRefusesExactlyWrong : ChangeSpec := { name := "fnCheckLinkRefusesExactly", fn := fun _ => fun
  | [d1, d2] => { results := [.lit (.bool false)], args := [d1, d2] }
  | _ => none }
def FnCheckLinkRefusesExactlyWrongFalsely : Prop := fnCheckLinkRefusesExactlyRow.holds Try.pinned (OpenSpec.ofChange fnCheckLinkRefusesExactlyWrong)

end Rows
end Go.Proofs.Qxb6002464a
