/-
  NARROWER THAN 'FOR EVERY INPUT', by the rows' own cells (each row's printed sentence says how): FnNewJSONWriterWritesThrough: laid.
  DERIVED. THE GIVEN ROWS OF THIS SEAT. 1 by the template 'for every input the law returns true; each argument reads behind the call as it read before'; 0 by the template 'total and deterministic' (their statements: Qxb6608520aDoorTotals.lean).
  GIVEN WITH THE SEED: the statements are not yours to turn. If you find one false, say at which input.
  Laid BY PROGRAM, IN A SANDBOX (cutbox-rows.mjs): the forced cells as the released guide's own fill.sh prints them over the translation b9a7bb5fd659e787… (all of the seat's roots in one cut). By AI agents, Wed Nov 11 2026. No macro, syntax, notation, axiom, sorry.
-/
import Derived.Test.Qxb6608520aDoorChecked
import GoSem.Claim
import GoSem.ClaimJoined
import GoSem.ClaimMapViews
import Derived.JoinedTies
import Derived.KernelRfl
namespace Go.Proofs.Qxb6608520aDoor
/- THE CELL 'sum', in the pinned program and in every row, IS THE sha256 OF THE DUMP (.gsa) THAT Qxb6608520aDoorProg.lean LOADS. Nothing in Lean hashes anything: it is a label: what it is worth is what the hold of that sum in a sandbox is worth. -/
noncomputable def Tryd.pinned : Pinned := { name := "qxb6608520adoor", sum := "b9a7bb5fd659e787870f4e89772f4bca10d48a8f8784d97dd60c58a7bc0dbe25", checked := Tryd.checked }
namespace Rows
def none {H : Type} : Left H := { results := [], args := [] }

/- WHAT THE LISTED PACKAGE-LEVEL VARIABLES READ AS WHEN THE CALL BEGINS. Each datum BY PROGRAM (the guide's laid-datum.mjs) off the statement by which the dump's own 'gosem.cut.vars' lays the variable. In a bare row this is a premise. The card (Qxb6608520aDoorCards.lean) ties it to the program's text. -/
def laid_io_ErrShortWrite {H : Type} : DataW H := .iface "*errors.errorString" (.ptr (.agg [.lit (.string [115, 104, 111, 114, 116, 32, 119, 114, 105, 116, 101])]))

/-- 'zzlaws_internal_sim_b1.FnNewJSONWriterWritesThrough': WHATEVER THE INPUT: true; the input reads as it did. -/
def fnNewJSONWriterWritesThroughSpec : ChangeSpec := { name := "fnNewJSONWriterWritesThrough", fn := fun _ => fun
  | [d1, d2] => { results := [.lit (.bool true)], args := [d1, d2] }
  | _ => none }
def fnNewJSONWriterWritesThroughRow : OpenClaim := { program := "qxb6608520adoor", sum := "b9a7bb5fd659e787870f4e89772f4bca10d48a8f8784d97dd60c58a7bc0dbe25", func := "example.com/tidecommit/tidecommit/zzlaws_internal_sim_b1.FnNewJSONWriterWritesThrough", spec := "fnNewJSONWriterWritesThrough", unfollowed := true, recurses := true, named := ["io.ErrShortWrite"], apart := false, laid := [("io.ErrShortWrite", laid_io_ErrShortWrite)] }
def FnNewJSONWriterWritesThroughSaid : Prop := fnNewJSONWriterWritesThroughRow.holds Tryd.pinned (OpenSpec.ofChange fnNewJSONWriterWritesThroughSpec)

/-- ITS FALSE NEIGHBOUR: 'it returns false'. Refute it at one input. -/
def fnNewJSONWriterWritesThroughWrong : ChangeSpec := { name := "fnNewJSONWriterWritesThrough", fn := fun _ => fun
  | [d1, d2] => { results := [.lit (.bool false)], args := [d1, d2] }
  | _ => none }
def FnNewJSONWriterWritesThroughWrongFalsely : Prop := fnNewJSONWriterWritesThroughRow.holds Tryd.pinned (OpenSpec.ofChange fnNewJSONWriterWritesThroughWrong)

end Rows
end Go.Proofs.Qxb6608520aDoor
