/-
  DERIVED. GIVEN WITH THE SEED: THE CARDS: each row of YbulkdlooDoorRows.lean that lists a variable, with what it lists TIED to the program's text (the seventh form; the later family's looks); each row that meets fmt, with fmt's text TOLD by the authors' own Lean function (tested against real Go, not proved from fmt's source: count such statements apart). THE CARD IS WHAT COUNTS. Prove the row's statement (the work); the ties are given (YbulkdlooDoorTie.lean); close each card by the builder's one call (the guide's Derived/Test/ToyasCard.lean, 'card_holds'). Laid BY PROGRAM, IN A SANDBOX (cutbox-door.mjs). By AI agents, Wed Nov 11 2026. No macro, syntax, notation, axiom, sorry.
-/
import Derived.Test.YbulkdlooDoorRows
import GoSem.ClaimSeven
namespace Go.Proofs.YbulkdlooDoor
namespace Rows

/-- THE TIED CARD OF 'lacewalk.LawS5630AWhole'. -/
def lawS5630AWholeCard : Claim7 := { stood := { row := lawS5630AWholeRow, standIns := [], harness := (true, "9c1f485941548ea71b6fc518ed8258ab2550eabd295cfdacd8a358741ee782ea"), looks := true }, kinds := [], alts := [], laidByText := true, laidKinds := [.sentinel, .sentinel], laidTests := true, laidLooks := .later }
def LawS5630AWholeCardSaid : Prop := Claim7.holds Ybad.pinned (.plain (OpenSpec.ofChange lawS5630AWholeSpec)) lawS5630AWholeCard
end Rows
end Go.Proofs.YbulkdlooDoor
