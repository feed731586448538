/-
  No cell of these rows narrows 'for every input' (looked for: loops, veiled, ifaces, maps, wideKeys, modest, calm, conditions, laid).
  DERIVED. THE GIVEN ROWS OF THIS SEAT. 1 by the template 'for every input the law returns true; each argument reads behind the call as it read before'; 0 by the template 'total and deterministic' (their statements: Qxb6608747aTotals.lean).
  GIVEN WITH THE SEED: the statements are not yours to turn. If you find one false, say at which input.
  Laid BY PROGRAM, IN A SANDBOX (cutbox-rows.mjs): the forced cells as the released guide's own fill.sh prints them over the translation 56449ff5ea118bf5… (all of the seat's roots in one cut). By AI agents, Wed Nov 11 2026. No macro, syntax, notation, axiom, sorry.
-/
import Derived.Test.Qxb6608747aChecked
import GoSem.Claim
import GoSem.ClaimJoined
import GoSem.ClaimMapViews
import Derived.JoinedTies
import Derived.KernelRfl
namespace Go.Proofs.Qxb6608747a
/- THE CELL 'sum', in the pinned program and in every row, IS THE sha256 OF THE DUMP (.gsa) THAT Qxb6608747aProg.lean LOADS. Nothing in Lean hashes anything: it is a label: what it is worth is what the hold of that sum in a sandbox is worth. -/
noncomputable def Try.pinned : Pinned := { name := "qxb6608747a", sum := "56449ff5ea118bf5a958d16d40ce863df08d8ef1d16524e15517715eba4f59b0", checked := Try.checked }
namespace Rows
def none {H : Type} : Left H := { results := [], args := [] }

/-- 'zzlaws_internal_value_b1.FnTextSinkWritingAndMeasuringAgree': WHATEVER THE INPUT: true; the input reads as it did. -/
def fnTextSinkWritingAndMeasuringAgreeSpec : ChangeSpec := { name := "fnTextSinkWritingAndMeasuringAgree", fn := fun _ => fun
  | [d1, d2] => { results := [.lit (.bool true)], args := [d1, d2] }
  | _ => none }
def fnTextSinkWritingAndMeasuringAgreeRow : OpenClaim := { program := "qxb6608747a", sum := "56449ff5ea118bf5a958d16d40ce863df08d8ef1d16524e15517715eba4f59b0", func := "example.com/sibyl/sibyl/zzlaws_internal_value_b1.FnTextSinkWritingAndMeasuringAgree", spec := "fnTextSinkWritingAndMeasuringAgree", inPlace := ["internal/abi.NoEscape"], apart := false }
def FnTextSinkWritingAndMeasuringAgreeSaid : Prop := fnTextSinkWritingAndMeasuringAgreeRow.holds Try.pinned (OpenSpec.ofChange fnTextSinkWritingAndMeasuringAgreeSpec)

/-- ITS FALSE NEIGHBOUR: 'it returns false'. Refute it at one input. -/
def fnTextSinkWritingAndMeasuringAgreeWrong : ChangeSpec := { name := "fnTextSinkWritingAndMeasuringAgree", fn := fun _ => fun
  | [d1, d2] => { results := [.lit (.bool false)], args := [d1, d2] }
  | _ => none }
def FnTextSinkWritingAndMeasuringAgreeWrongFalsely : Prop := fnTextSinkWritingAndMeasuringAgreeRow.holds Try.pinned (OpenSpec.ofChange fnTextSinkWritingAndMeasuringAgreeWrong)

end Rows
end Go.Proofs.Qxb6608747a
