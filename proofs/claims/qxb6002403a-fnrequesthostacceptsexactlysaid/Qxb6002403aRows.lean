/-
  No cell of these rows narrows 'for every input' (looked for: loops, veiled, ifaces, maps, wideKeys, modest, calm, conditions, laid).
  DERIVED. THE GIVEN ROWS OF THIS SEAT. 2 by the template 'for every input the law returns true; each argument reads behind the call as it read before'; 0 by the template 'total and deterministic' (their statements: Qxb6002403aTotals.lean).
  GIVEN WITH THE SEED: the statements are not yours to turn. If you find one false, say at which input.
  Laid BY PROGRAM, IN A SANDBOX (cutbox-rows.mjs): the forced cells as the released guide's own fill.sh prints them over the translation 1340cb2de530c17a… (all of the seat's roots in one cut). By AI agents, Wed Nov 11 2026. No macro, syntax, notation, axiom, sorry.
-/
import Derived.Test.Qxb6002403aChecked
import GoSem.Claim
import GoSem.ClaimJoined
import GoSem.ClaimMapViews
import Derived.JoinedTies
import Derived.KernelRfl
namespace Go.Proofs.Qxb6002403a
/- THE CELL 'sum', in the pinned program and in every row, IS THE sha256 OF THE DUMP (.gsa) THAT Qxb6002403aProg.lean LOADS. Nothing in Lean hashes anything: it is a label: what it is worth is what the hold of that sum in a sandbox is worth. -/
noncomputable def Try.pinned : Pinned := { name := "qxb6002403a", sum := "1340cb2de530c17a1acb220d2051c14f2e1a565bf9a4044bbe23376fa6283da5", checked := Try.checked }
namespace Rows
def none {H : Type} : Left H := { results := [], args := [] }

/-- 'zzlaws_internal_http1_g1.FnRequestHostAcceptsExactly': WHATEVER THE INPUT: true; the input reads as it did. -/
def fnRequestHostAcceptsExactlySpec : ChangeSpec := { name := "fnRequestHostAcceptsExactly", fn := fun _ => fun
  | [d1, d2, d3, d4, d5, d6] => { results := [.lit (.bool true)], args := [d1, d2, d3, d4, d5, d6] }
  | _ => none }
def fnRequestHostAcceptsExactlyRow : OpenClaim := { program := "qxb6002403a", sum := "1340cb2de530c17a1acb220d2051c14f2e1a565bf9a4044bbe23376fa6283da5", func := "example.com/tenure/tenure/zzlaws_internal_http1_g1.FnRequestHostAcceptsExactly", spec := "fnRequestHostAcceptsExactly", inPlace := ["internal/bytealg.IndexByteString", "internal/bytealg.IndexString"], named := ["internal/bytealg.MaxLen"], apart := false }
def FnRequestHostAcceptsExactlySaid : Prop := fnRequestHostAcceptsExactlyRow.holds Try.pinned (OpenSpec.ofChange fnRequestHostAcceptsExactlySpec)

/-- ITS FALSE NEIGHBOUR: 'it returns false'. Refute it at one input. -/
def fnRequestHostAcceptsExactlyWrong : ChangeSpec := { name := "fnRequestHostAcceptsExactly", fn := fun _ => fun
  | [d1, d2, d3, d4, d5, d6] => { results := [.lit (.bool false)], args := [d1, d2, d3, d4, d5, d6] }
  | _ => none }
def FnRequestHostAcceptsExactlyWrongFalsely : Prop := fnRequestHostAcceptsExactlyRow.holds Try.pinned (OpenSpec.ofChange fnRequestHostAcceptsExactlyWrong)

/-- 'zzlaws_internal_http1_g1.FnRequestHostConsumesHeader': WHATEVER THE INPUT: true; the input reads as it did. -/
def fnRequestHostConsumesHeaderSpec : ChangeSpec := { name := "fnRequestHostConsumesHeader", fn := fun _ => fun
  | [d1, d2, d3, d4, d5] => { results := [.lit (.bool true)], args := [d1, d2, d3, d4, d5] }
  | _ => none }
def fnRequestHostConsumesHeaderRow : OpenClaim := { program := "qxb6002403a", sum := "1340cb2de530c17a1acb220d2051c14f2e1a565bf9a4044bbe23376fa6283da5", func := "example.com/tenure/tenure/zzlaws_internal_http1_g1.FnRequestHostConsumesHeader", spec := "fnRequestHostConsumesHeader", inPlace := ["internal/bytealg.IndexByteString", "internal/bytealg.IndexString"], named := ["internal/bytealg.MaxLen"], apart := false }
def FnRequestHostConsumesHeaderSaid : Prop := fnRequestHostConsumesHeaderRow.holds Try.pinned (OpenSpec.ofChange fnRequestHostConsumesHeaderSpec)

/-- ITS FALSE NEIGHBOUR: 'it returns false'. Refute it at one input. -/
def fnRequestHostConsumesHeaderWrong : ChangeSpec := { name := "fnRequestHostConsumesHeader", fn := fun _ => fun
  | [d1, d2, d3, d4, d5] => { results := [.lit (.bool false)], args := [d1, d2, d3, d4, d5] }
  | _ => none }
def FnRequestHostConsumesHeaderWrongFalsely : Prop := fnRequestHostConsumesHeaderRow.holds Try.pinned (OpenSpec.ofChange fnRequestHostConsumesHeaderWrong)

end Rows
end Go.Proofs.Qxb6002403a
