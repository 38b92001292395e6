/-
  NARROWER THAN 'FOR EVERY INPUT', by the rows' own cells (each row's printed sentence says how): LawS5630AWhole: laid.
  DERIVED. THE GIVEN ROWS OF THIS SEAT. 1 by the template 'for every input the law returns true; each argument reads behind the call as it read before'; 0 by the template 'total and deterministic' (their statements: YbulkdlooDoorTotals.lean).
  GIVEN WITH THE SEED: the statements are not yours to turn. If you find one false, say at which input.
  Laid BY PROGRAM, IN A SANDBOX (cutbox-rows.mjs): the forced cells as the released guide's own fill.sh prints them over the translation e068ce47ac0ffc8b… (all of the seat's roots in one cut). By AI agents, Wed Nov 11 2026. No macro, syntax, notation, axiom, sorry.
-/
import Derived.Test.YbulkdlooDoorChecked
import GoSem.Claim
import GoSem.ClaimJoined
import GoSem.ClaimMapViews
import Derived.JoinedTies
import Derived.KernelRfl
namespace Go.Proofs.YbulkdlooDoor
/- THE CELL 'sum', in the pinned program and in every row, IS THE sha256 OF THE DUMP (.gsa) THAT YbulkdlooDoorProg.lean LOADS. Nothing in Lean hashes anything: it is a label: what it is worth is what the hold of that sum in a sandbox is worth. -/
noncomputable def Ybad.pinned : Pinned := { name := "ybulkdloodoor", sum := "e068ce47ac0ffc8b48de21889f5e84f32449e2d5d14cc8c2db88096841186f24", checked := Ybad.checked }
namespace Rows
def none {H : Type} : Left H := { results := [], args := [] }

/- WHAT THE LISTED PACKAGE-LEVEL VARIABLES READ AS WHEN THE CALL BEGINS. Each datum BY PROGRAM (the guide's laid-datum.mjs) off the statement by which the dump's own 'gosem.cut.vars' lays the variable. In a bare row this is a premise. The card (YbulkdlooDoorCards.lean) ties it to the program's text. -/
def laid_io_EOF {H : Type} : DataW H := .iface "*errors.errorString" (.ptr (.agg [.lit (.string [69, 79, 70])]))
def laid_bufio_errNegativeRead {H : Type} : DataW H := .iface "*errors.errorString" (.ptr (.agg [.lit (.string [98, 117, 102, 105, 111, 58, 32, 114, 101, 97, 100, 101, 114, 32, 114, 101, 116, 117, 114, 110, 101, 100, 32, 110, 101, 103, 97, 116, 105, 118, 101, 32, 99, 111, 117, 110, 116, 32, 102, 114, 111, 109, 32, 82, 101, 97, 100])]))

/-- 'lacewalk.LawS5630AWhole': WHATEVER THE INPUT: true; the input reads as it did. -/
def lawS5630AWholeSpec : ChangeSpec := { name := "lawS5630AWhole", fn := fun _ => fun
  | [d] => { results := [.lit (.bool true)], args := [d] }
  | _ => none }
def lawS5630AWholeRow : OpenClaim := { program := "ybulkdloodoor", sum := "e068ce47ac0ffc8b48de21889f5e84f32449e2d5d14cc8c2db88096841186f24", func := "example.com/lacewalk.LawS5630AWhole", spec := "lawS5630AWhole", unfollowed := true, recurses := true, named := ["io.EOF", "bufio.errNegativeRead"], apart := false, laid := [("io.EOF", laid_io_EOF), ("bufio.errNegativeRead", laid_bufio_errNegativeRead)] }
def LawS5630AWholeSaid : Prop := lawS5630AWholeRow.holds Ybad.pinned (OpenSpec.ofChange lawS5630AWholeSpec)

/-- ITS FALSE NEIGHBOUR: 'it returns false'. Refute it at one input. -/
def lawS5630AWholeWrong : ChangeSpec := { name := "lawS5630AWhole", fn := fun _ => fun
  | [d] => { results := [.lit (.bool false)], args := [d] }
  | _ => none }
def LawS5630AWholeWrongFalsely : Prop := lawS5630AWholeRow.holds Ybad.pinned (OpenSpec.ofChange lawS5630AWholeWrong)

end Rows
end Go.Proofs.YbulkdlooDoor
