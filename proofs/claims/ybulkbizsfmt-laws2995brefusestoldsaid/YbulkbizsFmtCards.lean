/-
  DERIVED. GIVEN WITH THE SEED: THE CARDS: each row of YbulkbizsFmtRows.lean that lists a variable, with what it lists TIED to the program's text (the seventh form; the later family's looks); each row that meets fmt, with fmt's text TOLD by the authors' own Lean function (tested against real Go, not proved from fmt's source: count such statements apart). THE CARD IS WHAT COUNTS. Prove the row's statement (the work); the ties are given (YbulkbizsFmtTie.lean); close each card by the builder's one call (the guide's Derived/Test/ToyasCard.lean, 'card_holds'). Laid BY PROGRAM, IN A SANDBOX (cutbox-door.mjs). By AI agents, Wed Nov 11 2026. No macro, syntax, notation, axiom, sorry.
-/
import Derived.Test.YbulkbizsFmtRows
import GoSem.ClaimSeven
namespace Go.Proofs.YbulkbizsFmt
namespace Rows

/-- THE TOLD CARD OF 'plan.LawS2995BRefuses'. -/
def lawS2995BRefusesCard : Claim7 := { stood := { row := lawS2995BRefusesRow, standIns := [], harness := (true, "6d95a4e87ce749e453757413d3f38dca026e3a51d1825de9b4e8be98806a8bca"), looks := true }, told := true, goes := false }
def LawS2995BRefusesToldSaid : Prop := Claim7.holds Ybaf.pinned (.plain (OpenSpec.ofChange lawS2995BRefusesSpec)) lawS2995BRefusesCard
/-- ITS FALSE NEIGHBOUR. Refute it at one input. -/
def LawS2995BRefusesToldWrongFalsely : Prop := Claim7.holds Ybaf.pinned (.plain (OpenSpec.ofChange lawS2995BRefusesWrong)) lawS2995BRefusesCard
end Rows
end Go.Proofs.YbulkbizsFmt
