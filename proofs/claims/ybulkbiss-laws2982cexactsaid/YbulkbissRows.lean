/-
  No cell of these rows narrows 'for every input' (looked for: loops, veiled, ifaces, maps, wideKeys, modest, calm, conditions, laid).
  DERIVED. THE GIVEN ROWS OF THIS SEAT. 3 by the template 'for every input the law returns true; each argument reads behind the call as it read before'; 0 by the template 'total and deterministic' (their statements: YbulkbissTotals.lean).
  GIVEN WITH THE SEED: the statements are not yours to turn. If you find one false, say at which input.
  Laid BY PROGRAM, IN A SANDBOX (cutbox-rows.mjs): the forced cells as the released guide's own fill.sh prints them over the translation 37d9b5521ecf5ef3… (all of the seat's roots in one cut). By AI agents, Wed Nov 11 2026. No macro, syntax, notation, axiom, sorry.
-/
import Derived.Test.YbulkbissChecked
import GoSem.Claim
import GoSem.ClaimJoined
import GoSem.ClaimMapViews
import Derived.JoinedTies
import Derived.KernelRfl
namespace Go.Proofs.Ybulkbiss
/- THE CELL 'sum', in the pinned program and in every row, IS THE sha256 OF THE DUMP (.gsa) THAT YbulkbissProg.lean LOADS. Nothing in Lean hashes anything: it is a label: what it is worth is what the hold of that sum in a sandbox is worth. -/
noncomputable def Yba.pinned : Pinned := { name := "ybulkbiss", sum := "37d9b5521ecf5ef3c9e210de58d55a28a336660683e1b22d69a291b9fd03b11f", checked := Yba.checked }
namespace Rows
def none {H : Type} : Left H := { results := [], args := [] }

/-- 'tripleslash.LawS2982ADecodes': WHATEVER THE INPUT: true; the input reads as it did. -/
def lawS2982ADecodesSpec : ChangeSpec := { name := "lawS2982ADecodes", fn := fun _ => fun
  | [d1, d2] => { results := [.lit (.bool true)], args := [d1, d2] }
  | _ => none }
def lawS2982ADecodesRow : OpenClaim := { program := "ybulkbiss", sum := "37d9b5521ecf5ef3c9e210de58d55a28a336660683e1b22d69a291b9fd03b11f", func := "example.com/tripleslash/tripleslash.LawS2982ADecodes", spec := "lawS2982ADecodes", inPlace := ["internal/bytealg.IndexByteString"], apart := false }
def LawS2982ADecodesSaid : Prop := lawS2982ADecodesRow.holds Yba.pinned (OpenSpec.ofChange lawS2982ADecodesSpec)

/-- ITS FALSE NEIGHBOUR: 'it returns false'. Refute it at one input. -/
def lawS2982ADecodesWrong : ChangeSpec := { name := "lawS2982ADecodes", fn := fun _ => fun
  | [d1, d2] => { results := [.lit (.bool false)], args := [d1, d2] }
  | _ => none }
def LawS2982ADecodesWrongFalsely : Prop := lawS2982ADecodesRow.holds Yba.pinned (OpenSpec.ofChange lawS2982ADecodesWrong)

/-- 'tripleslash.LawS2982APlain': WHATEVER THE INPUT: true; the input reads as it did. -/
def lawS2982APlainSpec : ChangeSpec := { name := "lawS2982APlain", fn := fun _ => fun
  | [d1, d2] => { results := [.lit (.bool true)], args := [d1, d2] }
  | _ => none }
def lawS2982APlainRow : OpenClaim := { program := "ybulkbiss", sum := "37d9b5521ecf5ef3c9e210de58d55a28a336660683e1b22d69a291b9fd03b11f", func := "example.com/tripleslash/tripleslash.LawS2982APlain", spec := "lawS2982APlain", inPlace := ["internal/bytealg.IndexByteString"], apart := false }
def LawS2982APlainSaid : Prop := lawS2982APlainRow.holds Yba.pinned (OpenSpec.ofChange lawS2982APlainSpec)

/-- ITS FALSE NEIGHBOUR: 'it returns false'. Refute it at one input. -/
def lawS2982APlainWrong : ChangeSpec := { name := "lawS2982APlain", fn := fun _ => fun
  | [d1, d2] => { results := [.lit (.bool false)], args := [d1, d2] }
  | _ => none }
def LawS2982APlainWrongFalsely : Prop := lawS2982APlainRow.holds Yba.pinned (OpenSpec.ofChange lawS2982APlainWrong)

/-- 'tripleslash.LawS2982CExact': WHATEVER THE INPUT: true; the input reads as it did. -/
def lawS2982CExactSpec : ChangeSpec := { name := "lawS2982CExact", fn := fun _ => fun
  | [d1, d2] => { results := [.lit (.bool true)], args := [d1, d2] }
  | _ => none }
def lawS2982CExactRow : OpenClaim := { program := "ybulkbiss", sum := "37d9b5521ecf5ef3c9e210de58d55a28a336660683e1b22d69a291b9fd03b11f", func := "example.com/tripleslash/tripleslash.LawS2982CExact", spec := "lawS2982CExact", apart := false }
def LawS2982CExactSaid : Prop := lawS2982CExactRow.holds Yba.pinned (OpenSpec.ofChange lawS2982CExactSpec)

/-- ITS FALSE NEIGHBOUR: 'it returns false'. Refute it at one input. -/
def lawS2982CExactWrong : ChangeSpec := { name := "lawS2982CExact", fn := fun _ => fun
  | [d1, d2] => { results := [.lit (.bool false)], args := [d1, d2] }
  | _ => none }
def LawS2982CExactWrongFalsely : Prop := lawS2982CExactRow.holds Yba.pinned (OpenSpec.ofChange lawS2982CExactWrong)

end Rows
end Go.Proofs.Ybulkbiss
