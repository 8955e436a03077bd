/-
  No cell of these rows narrows 'for every input' (looked for: loops, veiled, ifaces, maps, wideKeys, modest, calm, conditions, laid).
  DERIVED. THE GIVEN ROWS OF THIS SEAT. 4 by the template 'for every input the law returns true; each argument reads behind the call as it read before'; 0 by the template 'total and deterministic' (their statements: YbulkbioyTotals.lean).
  GIVEN WITH THE SEED: the statements are not yours to turn. If you find one false, say at which input.
  Laid BY PROGRAM, IN A SANDBOX (cutbox-rows.mjs): the forced cells as the released guide's own fill.sh prints them over the translation dbddec164353f2c0… (all of the seat's roots in one cut). By AI agents, Wed Nov 11 2026. No macro, syntax, notation, axiom, sorry.
-/
import Derived.Test.YbulkbioyChecked
import GoSem.Claim
import GoSem.ClaimJoined
import GoSem.ClaimMapViews
import Derived.JoinedTies
import Derived.KernelRfl
namespace Go.Proofs.Ybulkbioy
/- THE CELL 'sum', in the pinned program and in every row, IS THE sha256 OF THE DUMP (.gsa) THAT YbulkbioyProg.lean LOADS. Nothing in Lean hashes anything: it is a label: what it is worth is what the hold of that sum in a sandbox is worth. -/
noncomputable def Yba.pinned : Pinned := { name := "ybulkbioy", sum := "dbddec164353f2c0e46363329a0e4646ca9e682016d48d6af538c199f40ed19e", checked := Yba.checked }
namespace Rows
def none {H : Type} : Left H := { results := [], args := [] }

/-- 'cast.LawS2975AMatchesBrute': WHATEVER THE INPUT: true; the input reads as it did. -/
def lawS2975AMatchesBruteSpec : ChangeSpec := { name := "lawS2975AMatchesBrute", fn := fun _ => fun
  | [d1, d2, d3, d4] => { results := [.lit (.bool true)], args := [d1, d2, d3, d4] }
  | _ => none }
def lawS2975AMatchesBruteRow : OpenClaim := { program := "ybulkbioy", sum := "dbddec164353f2c0e46363329a0e4646ca9e682016d48d6af538c199f40ed19e", func := "example.com/meshwright/meshwright/cast.LawS2975AMatchesBrute", spec := "lawS2975AMatchesBrute", inPlace := ["math.archCeil", "math.archFloor", "math.Float64bits", "math.Float64frombits", "math.archTrunc"], unfollowed := true, recurses := true, apart := false }
def LawS2975AMatchesBruteSaid : Prop := lawS2975AMatchesBruteRow.holds Yba.pinned (OpenSpec.ofChange lawS2975AMatchesBruteSpec)

/-- ITS FALSE NEIGHBOUR: 'it returns false'. Refute it at one input. -/
def lawS2975AMatchesBruteWrong : ChangeSpec := { name := "lawS2975AMatchesBrute", fn := fun _ => fun
  | [d1, d2, d3, d4] => { results := [.lit (.bool false)], args := [d1, d2, d3, d4] }
  | _ => none }
def LawS2975AMatchesBruteWrongFalsely : Prop := lawS2975AMatchesBruteRow.holds Yba.pinned (OpenSpec.ofChange lawS2975AMatchesBruteWrong)

/-- 'cast.LawS2975APartition': WHATEVER THE INPUT: true; the input reads as it did. -/
def lawS2975APartitionSpec : ChangeSpec := { name := "lawS2975APartition", fn := fun _ => fun
  | [d1, d2] => { results := [.lit (.bool true)], args := [d1, d2] }
  | _ => none }
def lawS2975APartitionRow : OpenClaim := { program := "ybulkbioy", sum := "dbddec164353f2c0e46363329a0e4646ca9e682016d48d6af538c199f40ed19e", func := "example.com/meshwright/meshwright/cast.LawS2975APartition", spec := "lawS2975APartition", inPlace := ["math.archCeil", "math.archFloor", "math.Float64bits", "math.Float64frombits", "math.archTrunc"], unfollowed := true, recurses := true, apart := false }
def LawS2975APartitionSaid : Prop := lawS2975APartitionRow.holds Yba.pinned (OpenSpec.ofChange lawS2975APartitionSpec)

/-- ITS FALSE NEIGHBOUR: 'it returns false'. Refute it at one input. -/
def lawS2975APartitionWrong : ChangeSpec := { name := "lawS2975APartition", fn := fun _ => fun
  | [d1, d2] => { results := [.lit (.bool false)], args := [d1, d2] }
  | _ => none }
def LawS2975APartitionWrongFalsely : Prop := lawS2975APartitionRow.holds Yba.pinned (OpenSpec.ofChange lawS2975APartitionWrong)

/-- 'meshwright.LawS2975CModel': WHATEVER THE INPUT: true; the input reads as it did. -/
def lawS2975CModelSpec : ChangeSpec := { name := "lawS2975CModel", fn := fun _ => fun
  | [d] => { results := [.lit (.bool true)], args := [d] }
  | _ => none }
def lawS2975CModelRow : OpenClaim := { program := "ybulkbioy", sum := "dbddec164353f2c0e46363329a0e4646ca9e682016d48d6af538c199f40ed19e", func := "example.com/meshwright/meshwright.LawS2975CModel", spec := "lawS2975CModel", apart := false }
def LawS2975CModelSaid : Prop := lawS2975CModelRow.holds Yba.pinned (OpenSpec.ofChange lawS2975CModelSpec)

/-- ITS FALSE NEIGHBOUR: 'it returns false'. Refute it at one input. -/
def lawS2975CModelWrong : ChangeSpec := { name := "lawS2975CModel", fn := fun _ => fun
  | [d] => { results := [.lit (.bool false)], args := [d] }
  | _ => none }
def LawS2975CModelWrongFalsely : Prop := lawS2975CModelRow.holds Yba.pinned (OpenSpec.ofChange lawS2975CModelWrong)

/-- 'meshwright.LawS2975CBuilt': WHATEVER THE INPUT: true; the input reads as it did. -/
def lawS2975CBuiltSpec : ChangeSpec := { name := "lawS2975CBuilt", fn := fun _ => fun
  | [d1, d2, d3] => { results := [.lit (.bool true)], args := [d1, d2, d3] }
  | _ => none }
def lawS2975CBuiltRow : OpenClaim := { program := "ybulkbioy", sum := "dbddec164353f2c0e46363329a0e4646ca9e682016d48d6af538c199f40ed19e", func := "example.com/meshwright/meshwright.LawS2975CBuilt", spec := "lawS2975CBuilt", apart := false }
def LawS2975CBuiltSaid : Prop := lawS2975CBuiltRow.holds Yba.pinned (OpenSpec.ofChange lawS2975CBuiltSpec)

/-- ITS FALSE NEIGHBOUR: 'it returns false'. Refute it at one input. -/
def lawS2975CBuiltWrong : ChangeSpec := { name := "lawS2975CBuilt", fn := fun _ => fun
  | [d1, d2, d3] => { results := [.lit (.bool false)], args := [d1, d2, d3] }
  | _ => none }
def LawS2975CBuiltWrongFalsely : Prop := lawS2975CBuiltRow.holds Yba.pinned (OpenSpec.ofChange lawS2975CBuiltWrong)

end Rows
end Go.Proofs.Ybulkbioy
