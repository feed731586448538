/-
  No cell of these rows narrows 'for every input' (looked for: loops, veiled, ifaces, maps, wideKeys, modest, calm, conditions, laid).
  DERIVED. THE GIVEN ROWS OF THIS SEAT. 2 by the template 'for every input the law returns true; each argument reads behind the call as it read before'; 0 by the template 'total and deterministic' (their statements: Qxb6608628aTotals.lean).
  GIVEN WITH THE SEED: the statements are not yours to turn. If you find one false, say at which input.
  Laid BY PROGRAM, IN A SANDBOX (cutbox-rows.mjs): the forced cells as the released guide's own fill.sh prints them over the translation a5e2d7fe7000cfa3… (all of the seat's roots in one cut). By AI agents, Wed Nov 11 2026. No macro, syntax, notation, axiom, sorry.
-/
import Derived.Test.Qxb6608628aChecked
import GoSem.Claim
import GoSem.ClaimJoined
import GoSem.ClaimMapViews
import Derived.JoinedTies
import Derived.KernelRfl
namespace Go.Proofs.Qxb6608628a
/- THE CELL 'sum', in the pinned program and in every row, IS THE sha256 OF THE DUMP (.gsa) THAT Qxb6608628aProg.lean LOADS. Nothing in Lean hashes anything: it is a label: what it is worth is what the hold of that sum in a sandbox is worth. -/
noncomputable def Try.pinned : Pinned := { name := "qxb6608628a", sum := "a5e2d7fe7000cfa371d16367773e92c7b2da90fe6cb5a6e11cf17c229aee96e9", checked := Try.checked }
namespace Rows
def none {H : Type} : Left H := { results := [], args := [] }

/-- 'zzlaws_resp_b1.FnSimpleStringAppendsItsOwnLine': WHATEVER THE INPUT: true; the input reads as it did. -/
def fnSimpleStringAppendsItsOwnLineSpec : ChangeSpec := { name := "fnSimpleStringAppendsItsOwnLine", fn := fun _ => fun
  | [d1, d2, d3, d4] => { results := [.lit (.bool true)], args := [d1, d2, d3, d4] }
  | _ => none }
def fnSimpleStringAppendsItsOwnLineRow : OpenClaim := { program := "qxb6608628a", sum := "a5e2d7fe7000cfa371d16367773e92c7b2da90fe6cb5a6e11cf17c229aee96e9", func := "example.com/metered-tap/metered-tap/zzlaws_resp_b1.FnSimpleStringAppendsItsOwnLine", spec := "fnSimpleStringAppendsItsOwnLine", apart := false }
def FnSimpleStringAppendsItsOwnLineSaid : Prop := fnSimpleStringAppendsItsOwnLineRow.holds Try.pinned (OpenSpec.ofChange fnSimpleStringAppendsItsOwnLineSpec)

/-- ITS FALSE NEIGHBOUR: 'it returns false'. Refute it at one input. -/
def fnSimpleStringAppendsItsOwnLineWrong : ChangeSpec := { name := "fnSimpleStringAppendsItsOwnLine", fn := fun _ => fun
  | [d1, d2, d3, d4] => { results := [.lit (.bool false)], args := [d1, d2, d3, d4] }
  | _ => none }
def FnSimpleStringAppendsItsOwnLineWrongFalsely : Prop := fnSimpleStringAppendsItsOwnLineRow.holds Try.pinned (OpenSpec.ofChange fnSimpleStringAppendsItsOwnLineWrong)

/-- 'zzlaws_resp_b1.FnSimpleStringSplitsAtAnyCut': WHATEVER THE INPUT: true; the input reads as it did. -/
def fnSimpleStringSplitsAtAnyCutSpec : ChangeSpec := { name := "fnSimpleStringSplitsAtAnyCut", fn := fun _ => fun
  | [d1, d2, d3, d4] => { results := [.lit (.bool true)], args := [d1, d2, d3, d4] }
  | _ => none }
def fnSimpleStringSplitsAtAnyCutRow : OpenClaim := { program := "qxb6608628a", sum := "a5e2d7fe7000cfa371d16367773e92c7b2da90fe6cb5a6e11cf17c229aee96e9", func := "example.com/metered-tap/metered-tap/zzlaws_resp_b1.FnSimpleStringSplitsAtAnyCut", spec := "fnSimpleStringSplitsAtAnyCut", apart := false }
def FnSimpleStringSplitsAtAnyCutSaid : Prop := fnSimpleStringSplitsAtAnyCutRow.holds Try.pinned (OpenSpec.ofChange fnSimpleStringSplitsAtAnyCutSpec)

/-- ITS FALSE NEIGHBOUR: 'it returns false'. Refute it at one input. -/
def fnSimpleStringSplitsAtAnyCutWrong : ChangeSpec := { name := "fnSimpleStringSplitsAtAnyCut", fn := fun _ => fun
  | [d1, d2, d3, d4] => { results := [.lit (.bool false)], args := [d1, d2, d3, d4] }
  | _ => none }
def FnSimpleStringSplitsAtAnyCutWrongFalsely : Prop := fnSimpleStringSplitsAtAnyCutRow.holds Try.pinned (OpenSpec.ofChange fnSimpleStringSplitsAtAnyCutWrong)

end Rows
end Go.Proofs.Qxb6608628a
