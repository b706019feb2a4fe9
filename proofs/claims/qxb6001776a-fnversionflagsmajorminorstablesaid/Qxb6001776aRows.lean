/-
  No cell of these rows narrows 'for every input' (looked for: loops, veiled, ifaces, maps, wideKeys, modest, calm, conditions, laid).
  DERIVED. THE GIVEN ROWS OF THIS SEAT. 3 by the template 'for every input the law returns true; each argument reads behind the call as it read before'; 0 by the template 'total and deterministic' (their statements: Qxb6001776aTotals.lean).
  GIVEN WITH THE SEED: the statements are not yours to turn. If you find one false, say at which input.
  Laid BY PROGRAM, IN A SANDBOX (cutbox-rows.mjs): the forced cells as the released guide's own fill.sh prints them over the translation 892787549179fa2b… (all of the seat's roots in one cut). By AI agents, Wed Nov 11 2026. No macro, syntax, notation, axiom, sorry.
-/
import Derived.Test.Qxb6001776aChecked
import GoSem.Claim
import GoSem.ClaimJoined
import GoSem.ClaimMapViews
import Derived.JoinedTies
import Derived.KernelRfl
namespace Go.Proofs.Qxb6001776a
/- THE CELL 'sum', in the pinned program and in every row, IS THE sha256 OF THE DUMP (.gsa) THAT Qxb6001776aProg.lean LOADS. Nothing in Lean hashes anything: it is a label: what it is worth is what the hold of that sum in a sandbox is worth. -/
noncomputable def Try.pinned : Pinned := { name := "qxb6001776a", sum := "892787549179fa2b9b610197f0c914498481f2cb2574ae425ed451dd8825ef24", checked := Try.checked }
namespace Rows
def none {H : Type} : Left H := { results := [], args := [] }

/-- 'zzlaws_internal_dev_devcluster_b1.FnVersionFlagsNumericSpec': WHATEVER THE INPUT: true; the input reads as it did. -/
def fnVersionFlagsNumericSpecSpec : ChangeSpec := { name := "fnVersionFlagsNumericSpec", fn := fun _ => fun
  | [d1, d2, d3, d4] => { results := [.lit (.bool true)], args := [d1, d2, d3, d4] }
  | _ => none }
def fnVersionFlagsNumericSpecRow : OpenClaim := { program := "qxb6001776a", sum := "892787549179fa2b9b610197f0c914498481f2cb2574ae425ed451dd8825ef24", func := "example.com/cradle/cradle/zzlaws_internal_dev_devcluster_b1.FnVersionFlagsNumericSpec", spec := "fnVersionFlagsNumericSpec", inPlace := ["internal/bytealg.IndexByteString", "internal/bytealg.IndexString", "internal/abi.NoEscape", "internal/bytealg.MakeNoZero"], named := ["internal/bytealg.MaxLen"], apart := false }
def FnVersionFlagsNumericSpecSaid : Prop := fnVersionFlagsNumericSpecRow.holds Try.pinned (OpenSpec.ofChange fnVersionFlagsNumericSpecSpec)

/-- ITS FALSE NEIGHBOUR: 'it returns false'. Refute it at one input. -/
def fnVersionFlagsNumericSpecWrong : ChangeSpec := { name := "fnVersionFlagsNumericSpec", fn := fun _ => fun
  | [d1, d2, d3, d4] => { results := [.lit (.bool false)], args := [d1, d2, d3, d4] }
  | _ => none }
def FnVersionFlagsNumericSpecWrongFalsely : Prop := fnVersionFlagsNumericSpecRow.holds Try.pinned (OpenSpec.ofChange fnVersionFlagsNumericSpecWrong)

/-- 'zzlaws_internal_dev_devcluster_b1.FnVersionFlagsClientServerAgree': WHATEVER THE INPUT: true; the input reads as it did. -/
def fnVersionFlagsClientServerAgreeSpec : ChangeSpec := { name := "fnVersionFlagsClientServerAgree", fn := fun _ => fun
  | [d] => { results := [.lit (.bool true)], args := [d] }
  | _ => none }
def fnVersionFlagsClientServerAgreeRow : OpenClaim := { program := "qxb6001776a", sum := "892787549179fa2b9b610197f0c914498481f2cb2574ae425ed451dd8825ef24", func := "example.com/cradle/cradle/zzlaws_internal_dev_devcluster_b1.FnVersionFlagsClientServerAgree", spec := "fnVersionFlagsClientServerAgree", inPlace := ["internal/bytealg.IndexByteString", "internal/bytealg.IndexString", "internal/abi.NoEscape", "internal/bytealg.MakeNoZero"], named := ["internal/bytealg.MaxLen"], apart := false }
def FnVersionFlagsClientServerAgreeSaid : Prop := fnVersionFlagsClientServerAgreeRow.holds Try.pinned (OpenSpec.ofChange fnVersionFlagsClientServerAgreeSpec)

/-- ITS FALSE NEIGHBOUR: 'it returns false'. Refute it at one input. -/
def fnVersionFlagsClientServerAgreeWrong : ChangeSpec := { name := "fnVersionFlagsClientServerAgree", fn := fun _ => fun
  | [d] => { results := [.lit (.bool false)], args := [d] }
  | _ => none }
def FnVersionFlagsClientServerAgreeWrongFalsely : Prop := fnVersionFlagsClientServerAgreeRow.holds Try.pinned (OpenSpec.ofChange fnVersionFlagsClientServerAgreeWrong)

/-- 'zzlaws_internal_dev_devcluster_b1.FnVersionFlagsMajorMinorStable': WHATEVER THE INPUT: true; the input reads as it did. -/
def fnVersionFlagsMajorMinorStableSpec : ChangeSpec := { name := "fnVersionFlagsMajorMinorStable", fn := fun _ => fun
  | [d1, d2] => { results := [.lit (.bool true)], args := [d1, d2] }
  | _ => none }
def fnVersionFlagsMajorMinorStableRow : OpenClaim := { program := "qxb6001776a", sum := "892787549179fa2b9b610197f0c914498481f2cb2574ae425ed451dd8825ef24", func := "example.com/cradle/cradle/zzlaws_internal_dev_devcluster_b1.FnVersionFlagsMajorMinorStable", spec := "fnVersionFlagsMajorMinorStable", inPlace := ["internal/bytealg.IndexByteString", "internal/bytealg.IndexString", "internal/abi.NoEscape", "internal/bytealg.MakeNoZero"], named := ["internal/bytealg.MaxLen"], apart := false }
def FnVersionFlagsMajorMinorStableSaid : Prop := fnVersionFlagsMajorMinorStableRow.holds Try.pinned (OpenSpec.ofChange fnVersionFlagsMajorMinorStableSpec)

/-- ITS FALSE NEIGHBOUR: 'it returns false'. Refute it at one input. -/
def fnVersionFlagsMajorMinorStableWrong : ChangeSpec := { name := "fnVersionFlagsMajorMinorStable", fn := fun _ => fun
  | [d1, d2] => { results := [.lit (.bool false)], args := [d1, d2] }
  | _ => none }
def FnVersionFlagsMajorMinorStableWrongFalsely : Prop := fnVersionFlagsMajorMinorStableRow.holds Try.pinned (OpenSpec.ofChange fnVersionFlagsMajorMinorStableWrong)

end Rows
end Go.Proofs.Qxb6001776a
