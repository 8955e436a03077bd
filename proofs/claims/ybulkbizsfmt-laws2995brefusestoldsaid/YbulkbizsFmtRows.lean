/-
  No cell of these rows narrows 'for every input' (looked for: loops, veiled, ifaces, maps, wideKeys, modest, calm, conditions, laid).
  DERIVED. THE GIVEN ROWS OF THIS SEAT. 1 by the template 'for every input the law returns true; each argument reads behind the call as it read before'; 0 by the template 'total and deterministic' (their statements: YbulkbizsFmtTotals.lean).
  GIVEN WITH THE SEED: the statements are not yours to turn. If you find one false, say at which input.
  Laid BY PROGRAM, IN A SANDBOX (cutbox-rows.mjs): the forced cells as the released guide's own fill.sh prints them over the translation 7acd4f878d222e85… (all of the seat's roots in one cut). By AI agents, Wed Nov 11 2026. No macro, syntax, notation, axiom, sorry.
-/
import Derived.Test.YbulkbizsFmtChecked
import GoSem.Claim
import GoSem.ClaimJoined
import GoSem.ClaimMapViews
import Derived.JoinedTies
import Derived.KernelRfl
namespace Go.Proofs.YbulkbizsFmt
/- THE CELL 'sum', in the pinned program and in every row, IS THE sha256 OF THE DUMP (.gsa) THAT YbulkbizsFmtProg.lean LOADS. Nothing in Lean hashes anything: it is a label: what it is worth is what the hold of that sum in a sandbox is worth. -/
noncomputable def Ybaf.pinned : Pinned := { name := "ybulkbizsfmt", sum := "7acd4f878d222e85ab7127e644c3f1898916c3811be4f744bc473b881738192d", checked := Ybaf.checked }
namespace Rows
def none {H : Type} : Left H := { results := [], args := [] }

/-- 'plan.LawS2995BRefuses': WHATEVER THE INPUT: true; the input reads as it did. -/
def lawS2995BRefusesSpec : ChangeSpec := { name := "lawS2995BRefuses", fn := fun _ => fun
  | [d1, d2, d3] => { results := [.lit (.bool true)], args := [d1, d2, d3] }
  | _ => none }
def lawS2995BRefusesRow : OpenClaim := { program := "ybulkbizsfmt", sum := "7acd4f878d222e85ab7127e644c3f1898916c3811be4f744bc473b881738192d", func := "example.com/vestline/vestline/plan.LawS2995BRefuses", spec := "lawS2995BRefuses", stops := ["fmt.errorf, its operands' methods called"], inPlace := ["fmt.errorf"], unfollowed := true, recurses := true, apart := false }
/-- NO THEOREM (fmt's text is open here; it may be false): for the released tool's asking of the row's closed facts alone. THE STATEMENT IS 'LawS2995BRefusesToldSaid' (YbulkbizsFmtCards.lean). -/
def LawS2995BRefusesFormAsk : Prop := lawS2995BRefusesRow.holds Ybaf.pinned (OpenSpec.ofChange lawS2995BRefusesSpec)

/-- ITS FALSE NEIGHBOUR: 'it returns false'. Refute it at one input. -/
def lawS2995BRefusesWrong : ChangeSpec := { name := "lawS2995BRefuses", fn := fun _ => fun
  | [d1, d2, d3] => { results := [.lit (.bool false)], args := [d1, d2, d3] }
  | _ => none }
def LawS2995BRefusesWrongFormAsk : Prop := lawS2995BRefusesRow.holds Ybaf.pinned (OpenSpec.ofChange lawS2995BRefusesWrong)

end Rows
end Go.Proofs.YbulkbizsFmt
