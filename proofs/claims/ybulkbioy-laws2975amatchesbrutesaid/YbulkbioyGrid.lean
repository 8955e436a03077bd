/-
  DERIVED. Grid: the plain functions behind the package's grids (floats by their bits), and what the kernel reckons of the hundred pairs of grids.
-/
import Derived.Laws.FloatArith
import Derived.KernelRfl
import Derived.RowKit
namespace Go.Proofs.Ybulkbioy
namespace Grid
open Go.RowKit

/-- The ten sides, by their bits. -/
def sides : List Nat := [4607182418800017408, 4602678819172646912, 4600877379321698714, 4599676419421066581, 4599075939470750515, 4598175219545276416, 4596373779694328218, 4594572339843380019, 4591870180066957722, 4589708452245819884]
/-- How many squares a row has, side by side. -/
def acrosses : List Nat := [1, 2, 3, 3, 4, 4, 5, 7, 10, 15]
def one : Nat := 4607182418800017408
def two : Nat := 4611686018427387904

def minF (x y : Nat) : Option Nat :=
  match FloatKind.f64.format.order x y with
  | Option.none => Option.none
  | some .lt => some x
  | some .gt => some y
  | some .eq => some (if (FloatKind.f64.decode x).neg then x else y)

/-- The clipped centre of index i in the grid of side hs. -/
def midV (hs : Nat) (i : Int) : Option Nat :=
  (floatBits .mul .f64 (floatOfInt .f64 i) hs).bind fun lo => (floatBits .add .f64 lo hs).bind fun hi => (minF hi one).bind fun m => (floatBits .add .f64 lo m).bind fun s => floatBits .quo .f64 s two
/-- The index of coordinate x in the grid of side cs, ca across. -/
def idxV (cs : Nat) (ca : Int) (x : Nat) : Option Int :=
  (floatBits .quo .f64 x cs).bind fun q => (floatToIntVal .f64 q .i32).map fun n => if ca - 1 < n then ca - 1 else n
/-- The law's own owner of fine index i. -/
def ownerV (hs cs : Nat) (ca : Int) (i : Int) : Option Int :=
  (floatBits .mul .f64 (floatOfInt .f64 i) hs).bind fun lo => (floatBits .add .f64 lo hs).bind fun hi =>
  (floatBits .add .f64 lo (if FloatKind.f64.format.order hi one == some .gt then one else hi)).bind fun s => (floatBits .quo .f64 s two).bind fun x => idxV cs ca x
def firstV (cs hs : Nat) (i : Int) : Option Int :=
  (floatBits .mul .f64 (floatOfInt .f64 i) cs).bind fun p => (floatBits .quo .f64 p hs).bind fun q => (floatToIntVal .f64 q .i32).map fun n => if 0 < wrap32 (n - 1) then wrap32 (n - 1) else 0
def lastV (hs : Nat) (ha : Int) (cs : Nat) (i : Int) : Option Int :=
  (floatBits .mul .f64 (floatOfInt .f64 (i + 1)) cs).bind fun p => (floatBits .quo .f64 p hs).bind fun q => (floatToIntVal .f64 q .i32).map fun n => if wrap32 (n + 1) < ha - 1 then wrap32 (n + 1) else ha - 1
def acrossV (side : Nat) : Option Int :=
  (floatBits .quo .f64 one side).bind fun q => floatToIntVal .f64 (FloatKind.f64.encode ((FloatKind.f64.decode q).integral .up)) .i32

def mid (hs : Nat) (i : Int) : Nat := (midV hs i).getD 0
def idx (cs : Nat) (ca : Int) (x : Nat) : Int := (idxV cs ca x).getD 0
/-- A finite number. -/
def isNum (q : Nat) : Bool := match FloatKind.f64.decode q with
  | .number _ _ _ => true
  | _ => false

/-- The coarse square that holds fine index k. -/
def own (hs cs ca : Nat) (k : Nat) : Option Int := (midV hs k).bind fun x => idxV cs ca x

def pairB (hs ha cs ca : Nat) : Bool :=
  ((List.range ha).all fun k => match own hs cs ca k with
    | some t => decide (0 ≤ t ∧ t < ca) && (ownerV hs cs ca k == some t) &&
        (match firstV cs hs t, lastV hs ha cs t with
          | some f, some l => decide (f ≤ k ∧ k ≤ l)
          | _, _ => false)
    | Option.none => false)

def allB' : Bool := (List.range 10).all fun i => (List.range 10).all fun j => pairB (sides.getD i 0) (acrosses.getD i 0) (sides.getD j 0) (acrosses.getD j 0)
theorem all_ok : allB' = true := by decide +kernel
theorem across_ok : ((List.range 10).all fun i => acrossV (sides.getD i 0) == some (acrosses.getD i 0 : Int)) = true := by decide +kernel
theorem num_ok : ((List.range 10).all fun i => match floatBits .quo .f64 one (sides.getD i 0) with | some q => isNum q | Option.none => true) = true := by decide +kernel
end Grid
end Go.Proofs.Ybulkbioy
