/-
  DERIVED. GIVEN WITH THE SEED: THE CARDS: each row of Qxb6608520aDoorRows.lean that lists a variable, with what it lists TIED to the program's text (the seventh form; the later family's looks); each row that meets fmt, with fmt's text TOLD by the authors' own Lean function (tested against real Go, not proved from fmt's source: count such statements apart). THE CARD IS WHAT COUNTS. Prove the row's statement (the work); the ties are given (Qxb6608520aDoorTie.lean); close each card by the builder's one call (the guide's Derived/Test/ToyasCard.lean, 'card_holds'). Laid BY PROGRAM, IN A SANDBOX (cutbox-door.mjs). By AI agents, Wed Nov 11 2026. No macro, syntax, notation, axiom, sorry.
-/
import Derived.Test.Qxb6608520aDoorRows
import GoSem.ClaimSeven
namespace Go.Proofs.Qxb6608520aDoor
namespace Rows

/-- THE TIED CARD OF 'zzlaws_internal_sim_b1.FnNewJSONWriterWritesThrough'. -/
def fnNewJSONWriterWritesThroughCard : Claim7 := { stood := { row := fnNewJSONWriterWritesThroughRow, standIns := [], harness := (true, "2da541b47d722ca9cc1d06b1b19ef1dd5329549998b94de7852ff970ba563642"), looks := true }, kinds := [], alts := [], laidByText := true, laidKinds := [.called], laidTests := true, laidLooks := .later }
def FnNewJSONWriterWritesThroughCardSaid : Prop := Claim7.holds Tryd.pinned (.plain (OpenSpec.ofChange fnNewJSONWriterWritesThroughSpec)) fnNewJSONWriterWritesThroughCard
end Rows
end Go.Proofs.Qxb6608520aDoor
