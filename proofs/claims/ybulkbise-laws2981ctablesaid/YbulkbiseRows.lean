/-
  No cell of these rows narrows 'for every input' (looked for: loops, veiled, ifaces, maps, wideKeys, modest, calm, conditions, laid).
  DERIVED. THE GIVEN ROWS OF THIS SEAT. 2 by the template 'for every input the law returns true; each argument reads behind the call as it read before'; 0 by the template 'total and deterministic' (their statements: YbulkbiseTotals.lean).
  GIVEN WITH THE SEED: the statements are not yours to turn. If you find one false, say at which input.
  Laid BY PROGRAM, IN A SANDBOX (cutbox-rows.mjs): the forced cells as the released guide's own fill.sh prints them over the translation 4c6af83c2b8ed1c1… (all of the seat's roots in one cut). By AI agents, Wed Nov 11 2026. No macro, syntax, notation, axiom, sorry.
-/
import Derived.Test.YbulkbiseChecked
import GoSem.Claim
import GoSem.ClaimJoined
import GoSem.ClaimMapViews
import Derived.JoinedTies
import Derived.KernelRfl
namespace Go.Proofs.Ybulkbise
/- THE CELL 'sum', in the pinned program and in every row, IS THE sha256 OF THE DUMP (.gsa) THAT YbulkbiseProg.lean LOADS. Nothing in Lean hashes anything: it is a label: what it is worth is what the hold of that sum in a sandbox is worth. -/
noncomputable def Yba.pinned : Pinned := { name := "ybulkbise", sum := "4c6af83c2b8ed1c17c239d256365e02d0af79867c973391418bc83a0a0e4f536", checked := Yba.checked }
namespace Rows
def none {H : Type} : Left H := { results := [], args := [] }

/-- 'message.LawS2981CTable': WHATEVER THE INPUT: true; the input reads as it did. -/
def lawS2981CTableSpec : ChangeSpec := { name := "lawS2981CTable", fn := fun _ => fun
  | [d1, d2] => { results := [.lit (.bool true)], args := [d1, d2] }
  | _ => none }
def lawS2981CTableRow : OpenClaim := { program := "ybulkbise", sum := "4c6af83c2b8ed1c17c239d256365e02d0af79867c973391418bc83a0a0e4f536", func := "example.com/weircast/weircast/internal/message.LawS2981CTable", spec := "lawS2981CTable", apart := false }
def LawS2981CTableSaid : Prop := lawS2981CTableRow.holds Yba.pinned (OpenSpec.ofChange lawS2981CTableSpec)

/-- ITS FALSE NEIGHBOUR: 'it returns false'. Refute it at one input. -/
def lawS2981CTableWrong : ChangeSpec := { name := "lawS2981CTable", fn := fun _ => fun
  | [d1, d2] => { results := [.lit (.bool false)], args := [d1, d2] }
  | _ => none }
def LawS2981CTableWrongFalsely : Prop := lawS2981CTableRow.holds Yba.pinned (OpenSpec.ofChange lawS2981CTableWrong)

/-- 'message.LawS2981CYear': WHATEVER THE INPUT: true; the input reads as it did. -/
def lawS2981CYearSpec : ChangeSpec := { name := "lawS2981CYear", fn := fun _ => fun
  | [d] => { results := [.lit (.bool true)], args := [d] }
  | _ => none }
def lawS2981CYearRow : OpenClaim := { program := "ybulkbise", sum := "4c6af83c2b8ed1c17c239d256365e02d0af79867c973391418bc83a0a0e4f536", func := "example.com/weircast/weircast/internal/message.LawS2981CYear", spec := "lawS2981CYear", apart := false }
def LawS2981CYearSaid : Prop := lawS2981CYearRow.holds Yba.pinned (OpenSpec.ofChange lawS2981CYearSpec)

/-- ITS FALSE NEIGHBOUR: 'it returns false'. Refute it at one input. -/
def lawS2981CYearWrong : ChangeSpec := { name := "lawS2981CYear", fn := fun _ => fun
  | [d] => { results := [.lit (.bool false)], args := [d] }
  | _ => none }
def LawS2981CYearWrongFalsely : Prop := lawS2981CYearRow.holds Yba.pinned (OpenSpec.ofChange lawS2981CYearWrong)

end Rows
end Go.Proofs.Ybulkbise
