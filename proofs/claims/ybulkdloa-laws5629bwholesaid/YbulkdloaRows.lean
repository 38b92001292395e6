/-
  No cell of these rows narrows 'for every input' (looked for: loops, veiled, ifaces, maps, wideKeys, modest, calm, conditions, laid).
  DERIVED. THE GIVEN ROWS OF THIS SEAT. 1 by the template 'for every input the law returns true; each argument reads behind the call as it read before'; 0 by the template 'total and deterministic' (their statements: YbulkdloaTotals.lean).
  GIVEN WITH THE SEED: the statements are not yours to turn. If you find one false, say at which input.
  Laid BY PROGRAM, IN A SANDBOX (cutbox-rows.mjs): the forced cells as the released guide's own fill.sh prints them over the translation a7ab2312e2dd8ff9… (all of the seat's roots in one cut). By AI agents, Wed Nov 11 2026. No macro, syntax, notation, axiom, sorry.
-/
import Derived.Test.YbulkdloaChecked
import GoSem.Claim
import GoSem.ClaimJoined
import GoSem.ClaimMapViews
import Derived.JoinedTies
import Derived.KernelRfl
namespace Go.Proofs.Ybulkdloa
/- THE CELL 'sum', in the pinned program and in every row, IS THE sha256 OF THE DUMP (.gsa) THAT YbulkdloaProg.lean LOADS. Nothing in Lean hashes anything: it is a label: what it is worth is what the hold of that sum in a sandbox is worth. -/
noncomputable def Yba.pinned : Pinned := { name := "ybulkdloa", sum := "a7ab2312e2dd8ff9fe5476e66293a15c8f56be683f06fd294fd733a15da6b3f8", checked := Yba.checked }
namespace Rows
def none {H : Type} : Left H := { results := [], args := [] }

/-- 'upstream.LawS5629BWhole': WHATEVER THE INPUT: true; the input reads as it did. -/
def lawS5629BWholeSpec : ChangeSpec := { name := "lawS5629BWhole", fn := fun _ => fun
  | [d1, d2, d3, d4, d5, d6, d7, d8, d9] => { results := [.lit (.bool true)], args := [d1, d2, d3, d4, d5, d6, d7, d8, d9] }
  | _ => none }
def lawS5629BWholeRow : OpenClaim := { program := "ybulkdloa", sum := "a7ab2312e2dd8ff9fe5476e66293a15c8f56be683f06fd294fd733a15da6b3f8", func := "example.com/tollgate/tollgate/upstream.LawS5629BWhole", spec := "lawS5629BWhole", apart := false }
def LawS5629BWholeSaid : Prop := lawS5629BWholeRow.holds Yba.pinned (OpenSpec.ofChange lawS5629BWholeSpec)

/-- ITS FALSE NEIGHBOUR: 'it returns false'. Refute it at one input. -/
def lawS5629BWholeWrong : ChangeSpec := { name := "lawS5629BWhole", fn := fun _ => fun
  | [d1, d2, d3, d4, d5, d6, d7, d8, d9] => { results := [.lit (.bool false)], args := [d1, d2, d3, d4, d5, d6, d7, d8, d9] }
  | _ => none }
def LawS5629BWholeWrongFalsely : Prop := lawS5629BWholeRow.holds Yba.pinned (OpenSpec.ofChange lawS5629BWholeWrong)

end Rows
end Go.Proofs.Ybulkdloa
