/-
  No cell of these rows narrows 'for every input' (looked for: loops, veiled, ifaces, maps, wideKeys, modest, calm, conditions, laid).
  DERIVED. THE GIVEN ROWS OF THIS SEAT. 4 by the template 'for every input the law returns true; each argument reads behind the call as it read before'; 0 by the template 'total and deterministic' (their statements: YbulkdlooTotals.lean).
  GIVEN WITH THE SEED: the statements are not yours to turn. If you find one false, say at which input.
  Laid BY PROGRAM, IN A SANDBOX (cutbox-rows.mjs): the forced cells as the released guide's own fill.sh prints them over the translation fadcb36795157297… (all of the seat's roots in one cut). By AI agents, Wed Nov 11 2026. No macro, syntax, notation, axiom, sorry.
-/
import Derived.Test.YbulkdlooChecked
import GoSem.Claim
import GoSem.ClaimJoined
import GoSem.ClaimMapViews
import Derived.JoinedTies
import Derived.KernelRfl
namespace Go.Proofs.Ybulkdloo
/- THE CELL 'sum', in the pinned program and in every row, IS THE sha256 OF THE DUMP (.gsa) THAT YbulkdlooProg.lean LOADS. Nothing in Lean hashes anything: it is a label: what it is worth is what the hold of that sum in a sandbox is worth. -/
noncomputable def Yba.pinned : Pinned := { name := "ybulkdloo", sum := "fadcb3679515729702f4b833cc91463c25a725fff4bcbb7430a38ad1bcc20e3c", checked := Yba.checked }
namespace Rows
def none {H : Type} : Left H := { results := [], args := [] }

/-- 'lacewalk.LawS5630BWhole': WHATEVER THE INPUT: true; the input reads as it did. -/
def lawS5630BWholeSpec : ChangeSpec := { name := "lawS5630BWhole", fn := fun _ => fun
  | [d1, d2, d3] => { results := [.lit (.bool true)], args := [d1, d2, d3] }
  | _ => none }
def lawS5630BWholeRow : OpenClaim := { program := "ybulkdloo", sum := "fadcb3679515729702f4b833cc91463c25a725fff4bcbb7430a38ad1bcc20e3c", func := "example.com/lacewalk.LawS5630BWhole", spec := "lawS5630BWhole", unfollowed := true, recurses := true, apart := false }
def LawS5630BWholeSaid : Prop := lawS5630BWholeRow.holds Yba.pinned (OpenSpec.ofChange lawS5630BWholeSpec)

/-- ITS FALSE NEIGHBOUR: 'it returns false'. Refute it at one input. -/
def lawS5630BWholeWrong : ChangeSpec := { name := "lawS5630BWhole", fn := fun _ => fun
  | [d1, d2, d3] => { results := [.lit (.bool false)], args := [d1, d2, d3] }
  | _ => none }
def LawS5630BWholeWrongFalsely : Prop := lawS5630BWholeRow.holds Yba.pinned (OpenSpec.ofChange lawS5630BWholeWrong)

/-- 'lacewalk.LawS5630BUnsigned': WHATEVER THE INPUT: true; the input reads as it did. -/
def lawS5630BUnsignedSpec : ChangeSpec := { name := "lawS5630BUnsigned", fn := fun _ => fun
  | [d1, d2, d3] => { results := [.lit (.bool true)], args := [d1, d2, d3] }
  | _ => none }
def lawS5630BUnsignedRow : OpenClaim := { program := "ybulkdloo", sum := "fadcb3679515729702f4b833cc91463c25a725fff4bcbb7430a38ad1bcc20e3c", func := "example.com/lacewalk.LawS5630BUnsigned", spec := "lawS5630BUnsigned", unfollowed := true, recurses := true, apart := false }
def LawS5630BUnsignedSaid : Prop := lawS5630BUnsignedRow.holds Yba.pinned (OpenSpec.ofChange lawS5630BUnsignedSpec)

/-- ITS FALSE NEIGHBOUR: 'it returns false'. Refute it at one input. -/
def lawS5630BUnsignedWrong : ChangeSpec := { name := "lawS5630BUnsigned", fn := fun _ => fun
  | [d1, d2, d3] => { results := [.lit (.bool false)], args := [d1, d2, d3] }
  | _ => none }
def LawS5630BUnsignedWrongFalsely : Prop := lawS5630BUnsignedRow.holds Yba.pinned (OpenSpec.ofChange lawS5630BUnsignedWrong)

/-- 'lacewalk.LawS5630CWhole': WHATEVER THE INPUT: true; the input reads as it did. -/
def lawS5630CWholeSpec : ChangeSpec := { name := "lawS5630CWhole", fn := fun _ => fun
  | [d1, d2] => { results := [.lit (.bool true)], args := [d1, d2] }
  | _ => none }
def lawS5630CWholeRow : OpenClaim := { program := "ybulkdloo", sum := "fadcb3679515729702f4b833cc91463c25a725fff4bcbb7430a38ad1bcc20e3c", func := "example.com/lacewalk.LawS5630CWhole", spec := "lawS5630CWhole", unfollowed := true, recurses := true, apart := false }
def LawS5630CWholeSaid : Prop := lawS5630CWholeRow.holds Yba.pinned (OpenSpec.ofChange lawS5630CWholeSpec)

/-- ITS FALSE NEIGHBOUR: 'it returns false'. Refute it at one input. -/
def lawS5630CWholeWrong : ChangeSpec := { name := "lawS5630CWhole", fn := fun _ => fun
  | [d1, d2] => { results := [.lit (.bool false)], args := [d1, d2] }
  | _ => none }
def LawS5630CWholeWrongFalsely : Prop := lawS5630CWholeRow.holds Yba.pinned (OpenSpec.ofChange lawS5630CWholeWrong)

/-- 'lacewalk.LawS5630CFloat': WHATEVER THE INPUT: true; the input reads as it did. -/
def lawS5630CFloatSpec : ChangeSpec := { name := "lawS5630CFloat", fn := fun _ => fun
  | [d] => { results := [.lit (.bool true)], args := [d] }
  | _ => none }
def lawS5630CFloatRow : OpenClaim := { program := "ybulkdloo", sum := "fadcb3679515729702f4b833cc91463c25a725fff4bcbb7430a38ad1bcc20e3c", func := "example.com/lacewalk.LawS5630CFloat", spec := "lawS5630CFloat", inPlace := ["math.Float64frombits", "math.Float64bits"], unfollowed := true, recurses := true, apart := false }
def LawS5630CFloatSaid : Prop := lawS5630CFloatRow.holds Yba.pinned (OpenSpec.ofChange lawS5630CFloatSpec)

/-- ITS FALSE NEIGHBOUR: 'it returns false'. Refute it at one input. -/
def lawS5630CFloatWrong : ChangeSpec := { name := "lawS5630CFloat", fn := fun _ => fun
  | [d] => { results := [.lit (.bool false)], args := [d] }
  | _ => none }
def LawS5630CFloatWrongFalsely : Prop := lawS5630CFloatRow.holds Yba.pinned (OpenSpec.ofChange lawS5630CFloatWrong)

end Rows
end Go.Proofs.Ybulkdloo
