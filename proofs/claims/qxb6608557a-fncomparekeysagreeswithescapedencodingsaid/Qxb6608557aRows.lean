/-
  No cell of these rows narrows 'for every input' (looked for: loops, veiled, ifaces, maps, wideKeys, modest, calm, conditions, laid).
  DERIVED. THE GIVEN ROWS OF THIS SEAT. 2 by the template 'for every input the law returns true; each argument reads behind the call as it read before'; 0 by the template 'total and deterministic' (their statements: Qxb6608557aTotals.lean).
  GIVEN WITH THE SEED: the statements are not yours to turn. If you find one false, say at which input.
  Laid BY PROGRAM, IN A SANDBOX (cutbox-rows.mjs): the forced cells as the released guide's own fill.sh prints them over the translation 8f2db1b5d0fe4e32… (all of the seat's roots in one cut). By AI agents, Wed Nov 11 2026. No macro, syntax, notation, axiom, sorry.
-/
import Derived.Test.Qxb6608557aChecked
import GoSem.Claim
import GoSem.ClaimJoined
import GoSem.ClaimMapViews
import Derived.JoinedTies
import Derived.KernelRfl
namespace Go.Proofs.Qxb6608557a
/- THE CELL 'sum', in the pinned program and in every row, IS THE sha256 OF THE DUMP (.gsa) THAT Qxb6608557aProg.lean LOADS. Nothing in Lean hashes anything: it is a label: what it is worth is what the hold of that sum in a sandbox is worth. -/
noncomputable def Try.pinned : Pinned := { name := "qxb6608557a", sum := "8f2db1b5d0fe4e32beb851c53844f05ef7c146502dfd95397175028456bd2fb3", checked := Try.checked }
namespace Rows
def none {H : Type} : Left H := { results := [], args := [] }

/-- 'zzlaws_internal_stream_b1.FnCompareKeysAgreesWithEscapedEncoding': WHATEVER THE INPUT: true; the input reads as it did. -/
def fnCompareKeysAgreesWithEscapedEncodingSpec : ChangeSpec := { name := "fnCompareKeysAgreesWithEscapedEncoding", fn := fun _ => fun
  | [d1, d2, d3, d4] => { results := [.lit (.bool true)], args := [d1, d2, d3, d4] }
  | _ => none }
def fnCompareKeysAgreesWithEscapedEncodingRow : OpenClaim := { program := "qxb6608557a", sum := "8f2db1b5d0fe4e32beb851c53844f05ef7c146502dfd95397175028456bd2fb3", func := "example.com/evervigil/evervigil/zzlaws_internal_stream_b1.FnCompareKeysAgreesWithEscapedEncoding", spec := "fnCompareKeysAgreesWithEscapedEncoding", apart := false }
def FnCompareKeysAgreesWithEscapedEncodingSaid : Prop := fnCompareKeysAgreesWithEscapedEncodingRow.holds Try.pinned (OpenSpec.ofChange fnCompareKeysAgreesWithEscapedEncodingSpec)

/-- ITS FALSE NEIGHBOUR: 'it returns false'. Refute it at one input. -/
def fnCompareKeysAgreesWithEscapedEncodingWrong : ChangeSpec := { name := "fnCompareKeysAgreesWithEscapedEncoding", fn := fun _ => fun
  | [d1, d2, d3, d4] => { results := [.lit (.bool false)], args := [d1, d2, d3, d4] }
  | _ => none }
def FnCompareKeysAgreesWithEscapedEncodingWrongFalsely : Prop := fnCompareKeysAgreesWithEscapedEncodingRow.holds Try.pinned (OpenSpec.ofChange fnCompareKeysAgreesWithEscapedEncodingWrong)

/-- 'zzlaws_internal_stream_b1.FnCompareKeysNamespaceFirstPrefixesBefore': WHATEVER THE INPUT: true; the input reads as it did. -/
def fnCompareKeysNamespaceFirstPrefixesBeforeSpec : ChangeSpec := { name := "fnCompareKeysNamespaceFirstPrefixesBefore", fn := fun _ => fun
  | [d1, d2, d3, d4] => { results := [.lit (.bool true)], args := [d1, d2, d3, d4] }
  | _ => none }
def fnCompareKeysNamespaceFirstPrefixesBeforeRow : OpenClaim := { program := "qxb6608557a", sum := "8f2db1b5d0fe4e32beb851c53844f05ef7c146502dfd95397175028456bd2fb3", func := "example.com/evervigil/evervigil/zzlaws_internal_stream_b1.FnCompareKeysNamespaceFirstPrefixesBefore", spec := "fnCompareKeysNamespaceFirstPrefixesBefore", apart := false }
def FnCompareKeysNamespaceFirstPrefixesBeforeSaid : Prop := fnCompareKeysNamespaceFirstPrefixesBeforeRow.holds Try.pinned (OpenSpec.ofChange fnCompareKeysNamespaceFirstPrefixesBeforeSpec)

/-- ITS FALSE NEIGHBOUR: 'it returns false'. Refute it at one input. -/
def fnCompareKeysNamespaceFirstPrefixesBeforeWrong : ChangeSpec := { name := "fnCompareKeysNamespaceFirstPrefixesBefore", fn := fun _ => fun
  | [d1, d2, d3, d4] => { results := [.lit (.bool false)], args := [d1, d2, d3, d4] }
  | _ => none }
def FnCompareKeysNamespaceFirstPrefixesBeforeWrongFalsely : Prop := fnCompareKeysNamespaceFirstPrefixesBeforeRow.holds Try.pinned (OpenSpec.ofChange fnCompareKeysNamespaceFirstPrefixesBeforeWrong)

end Rows
end Go.Proofs.Qxb6608557a
