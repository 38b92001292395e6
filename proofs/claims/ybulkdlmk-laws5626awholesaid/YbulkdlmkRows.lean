/-
  No cell of these rows narrows 'for every input' (looked for: loops, veiled, ifaces, maps, wideKeys, modest, calm, conditions, laid).
  DERIVED. THE GIVEN ROWS OF THIS SEAT. 2 by the template 'for every input the law returns true; each argument reads behind the call as it read before'; 0 by the template 'total and deterministic' (their statements: YbulkdlmkTotals.lean).
  GIVEN WITH THE SEED: the statements are not yours to turn. If you find one false, say at which input.
  Laid BY PROGRAM, IN A SANDBOX (cutbox-rows.mjs): the forced cells as the released guide's own fill.sh prints them over the translation f2b14e0e07161bbd… (all of the seat's roots in one cut). By AI agents, Wed Nov 11 2026. No macro, syntax, notation, axiom, sorry.
-/
import Derived.Test.YbulkdlmkChecked
import GoSem.Claim
import GoSem.ClaimJoined
import GoSem.ClaimMapViews
import Derived.JoinedTies
import Derived.KernelRfl
namespace Go.Proofs.Ybulkdlmk
/- THE CELL 'sum', in the pinned program and in every row, IS THE sha256 OF THE DUMP (.gsa) THAT YbulkdlmkProg.lean LOADS. Nothing in Lean hashes anything: it is a label: what it is worth is what the hold of that sum in a sandbox is worth. -/
noncomputable def Yba.pinned : Pinned := { name := "ybulkdlmk", sum := "f2b14e0e07161bbd9303aa24611a43fbdd71f37950f1daf5a21953443c914901", checked := Yba.checked }
namespace Rows
def none {H : Type} : Left H := { results := [], args := [] }

/-- 'quartermaster.LawS5626AWhole': WHATEVER THE INPUT: true; the input reads as it did. -/
def lawS5626AWholeSpec : ChangeSpec := { name := "lawS5626AWhole", fn := fun _ => fun
  | [d1, d2, d3, d4] => { results := [.lit (.bool true)], args := [d1, d2, d3, d4] }
  | _ => none }
def lawS5626AWholeRow : OpenClaim := { program := "ybulkdlmk", sum := "f2b14e0e07161bbd9303aa24611a43fbdd71f37950f1daf5a21953443c914901", func := "example.com/quartermaster/quartermaster.LawS5626AWhole", spec := "lawS5626AWhole", inPlace := ["math.Float64bits", "math.Float64frombits"], apart := false }
def LawS5626AWholeSaid : Prop := lawS5626AWholeRow.holds Yba.pinned (OpenSpec.ofChange lawS5626AWholeSpec)

/-- ITS FALSE NEIGHBOUR: 'it returns false'. Refute it at one input. -/
def lawS5626AWholeWrong : ChangeSpec := { name := "lawS5626AWhole", fn := fun _ => fun
  | [d1, d2, d3, d4] => { results := [.lit (.bool false)], args := [d1, d2, d3, d4] }
  | _ => none }
def LawS5626AWholeWrongFalsely : Prop := lawS5626AWholeRow.holds Yba.pinned (OpenSpec.ofChange lawS5626AWholeWrong)

/-- 'quartermaster.LawS5626BWhole': WHATEVER THE INPUT: true; the input reads as it did. -/
def lawS5626BWholeSpec : ChangeSpec := { name := "lawS5626BWhole", fn := fun _ => fun
  | [d1, d2, d3, d4] => { results := [.lit (.bool true)], args := [d1, d2, d3, d4] }
  | _ => none }
def lawS5626BWholeRow : OpenClaim := { program := "ybulkdlmk", sum := "f2b14e0e07161bbd9303aa24611a43fbdd71f37950f1daf5a21953443c914901", func := "example.com/quartermaster/quartermaster.LawS5626BWhole", spec := "lawS5626BWhole", inPlace := ["math.Float64bits"], apart := false }
def LawS5626BWholeSaid : Prop := lawS5626BWholeRow.holds Yba.pinned (OpenSpec.ofChange lawS5626BWholeSpec)

/-- ITS FALSE NEIGHBOUR: 'it returns false'. Refute it at one input. -/
def lawS5626BWholeWrong : ChangeSpec := { name := "lawS5626BWhole", fn := fun _ => fun
  | [d1, d2, d3, d4] => { results := [.lit (.bool false)], args := [d1, d2, d3, d4] }
  | _ => none }
def LawS5626BWholeWrongFalsely : Prop := lawS5626BWholeRow.holds Yba.pinned (OpenSpec.ofChange lawS5626BWholeWrong)

end Rows
end Go.Proofs.Ybulkdlmk
