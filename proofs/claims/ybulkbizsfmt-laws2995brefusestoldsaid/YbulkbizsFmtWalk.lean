/-
  DERIVED. The walks of the seat's law: the closed facts on fmt.errorf's stop at this dump, then errorAt, check, and the law, for every interpretation F of the stop.
-/
import Derived.Test.YbulkbizsFmtRows
import Derived.Stop.CallBack
import Derived.Stop.IfaceNil
import Derived.WalkKit
import Derived.WalkSpells
import Derived.Deep.RegionWith
import Derived.Lib.Builder
namespace Go.Proofs.YbulkbizsFmt
open Go.RowKit Go.Extern.Stop Go.Stop Go.Extern

theorem call8 (args : Array Value) (w : World) : (callFunc 8 args).run Ybaf.prog w = (FmtCalls.errorf #[9, 38] #[28] args).run Ybaf.prog w :=
  run_callFunc_next Ybaf.func8 (by kernel_rfl) (by kernel_rfl) (by kernel_rfl) args w
theorem nextTurns : Extern.next FmtCalls.turnsRow = some (FmtCalls.begun #[] #[]) := by kernel_rfl
theorem guard_any (name : String) (w : World) : (FmtStop.guard name).run Ybaf.prog w = .ok () w := by kernel_rfl
theorem fmt_parts : FmtStop.printed? ⟨#[97, 103, 101, 32, 105, 115, 32, 37, 100, 59, 32, 105, 116, 32, 109, 117, 115, 116, 32, 98, 101, 32, 97, 98, 111, 118, 101, 32, 48]⟩ 1 = some [(0, 100, false)] := by kernel_rfl
theorem fmt_run (w : World) : (FmtDoors.printed ⟨#[97, 103, 101, 32, 105, 115, 32, 37, 100, 59, 32, 105, 116, 32, 109, 117, 115, 116, 32, 98, 101, 32, 97, 98, 111, 118, 101, 32, 48]⟩ 1).run Ybaf.prog w = .ok [(0, 100, false)] w := by kernel_rfl
def shapeInt : List UInt8 := [5, 3, 0, 0, 0, 0, 0, 0, 0, 105, 110, 116]
theorem act_int (name : String) (x : Value) (w : World) : (FmtCalls.act name true 100 false (.iface 3 x)).run Ybaf.prog w = .ok (.closed true) w := by kernel_rfl
theorem op_int (name : String) (x : Int) (w : World) : (FmtStop.operand name true 100 false (.iface 3 (.int .i64 x))).run Ybaf.prog w = .ok (shapeInt, Go.Extern.Stop.digits 8 (x % 2 ^ 64).toNat) w := by kernel_rfl
theorem str_int (w : World) : (typeStr 3).run Ybaf.prog w = .ok "int" w := by kernel_rfl
theorem ptr_err (w : World) : (FmtStop.ptrTo "errors.errorString").run Ybaf.prog w = .ok 43 w := by kernel_rfl
theorem elem_err (w : World) : (elemOf 43).run Ybaf.prog w = .ok 45 w := by kernel_rfl
theorem isError_err (w : World) : (FmtDoors.textMethod 43 "Error").run Ybaf.prog w = .ok true w := by kernel_rfl

theorem assert_ve (p : Value) (w : World) : (Instr.typeAssert (.iface 30 p) 28 30 true).run Ybaf.prog w = .ok (.tuple #[p, .bool true]) w := by kernel_rfl
theorem assert_int (p : Value) (w : World) : (Instr.typeAssert (.iface 32 p) 20 32 true).run Ybaf.prog w = .ok (.tuple #[p, .bool true]) w := by kernel_rfl
theorem same_int (a : Addr) (w : World) : (binOp .neq 32 (.pointer (some a)) (.pointer (some a))).run Ybaf.prog w = .ok (.bool false) w := by
  have h : ∃ j, Ybaf.prog.info? 3 = some j := Option.isSome_iff_exists.1 (by kernel_rfl)
  obtain ⟨j, hj⟩ := h
  exact Lib.run_neq_ptr_same w a Ybaf.underlying32 hj

attribute [local go_sem] same_int assert_ve assert_int call8 guard_any fmt_parts fmt_run act_int op_int str_int ptr_err elem_err isError_err

/-- What fmt.errorf is asked. -/
def reading (n : Int) : List (List UInt8) :=
  [[97, 103, 101, 32, 105, 115, 32, 37, 100, 59, 32, 105, 116, 32, 109, 117, 115, 116, 32, 98, 101, 32, 97, 98, 111, 118, 101, 32, 48], shapeInt, digits 8 (n % 18446744073709551616).toNat]

set_option maxHeartbeats 800000 in
theorem errorAt_any (F : Interp) (a : Addr) (n : Int) (blk : Nat) (w : World) (hF : F.answers w.tape) (hc : w.cell? ⟨blk, 0, none⟩ = some (.iface 3 (.int .i64 n))) :
    Calls Ybaf.prog 5 #[.iface 32 (.pointer (some a)), .string ⟨#[97, 103, 101, 32, 105, 115, 32, 37, 100, 59, 32, 105, 116, 32, 109, 117, 115, 116, 32, 98, 101, 32, 97, 98, 111, 118, 101, 32, 48]⟩, .slice (some ⟨blk, 0, none⟩) 1 1] w fun e w' =>
      e = .returned (.iface 30 (.pointer (some ⟨w.heap.size + 1, 0, none⟩))) ∧
      w' = ((w.alloc (.cells #[.string (FmtStop.textOf (F "fmt.errorf" (reading n) 0))] 45)).alloc (.cells #[.iface 32 (.pointer (some a)), .iface 43 (.pointer (some ⟨w.heap.size, 0, none⟩))] 35)).drew := by
  have hF' := answers_open hF
  go_enter Ybaf.func5, Ybaf.ntmps5
  go_wp2
  apply rows_value nextTurns
  case hr =>
    go_simp
    exact ⟨rfl, rfl⟩
  case h =>
    go_wp2
    go_ret
    exact ⟨rfl, rfl⟩

/-- What a refusal leaves: a new valueError whose first field is the address a, whose second an error that is not nil. -/
def Refused (a : Addr) (w : World) (e : Ending) (w' : World) : Prop :=
  ∃ (k : Nat) (x : Value), e = .returned (.iface 30 (.pointer (some ⟨k, 0, none⟩))) ∧ w'.cell? ⟨k, 0, none⟩ = some (.iface 32 (.pointer (some a))) ∧ w'.cell? ⟨k, 1, none⟩ = some (.iface 43 x) ∧ Below w.heap.size w w'

set_option maxHeartbeats 800000 in
theorem check_ok (g : Nat) (n : Int) (w : World) (hn : 1 ≤ n) (hc : w.cell? ⟨g, 2, none⟩ = some (.int .i64 n)) :
    Calls Ybaf.prog 4 #[.pointer (some ⟨g, 0, none⟩)] w fun e w' => e = .returned .nilIface ∧ w' = w := by
  go_enter Ybaf.func4, Ybaf.ntmps4
  go_wp2
  go_ret
  exact ⟨rfl, rfl⟩

theorem errorAt_refused (F : Interp) (a : Addr) (n : Int) (blk : Nat) (w : World) (hF : F.answers w.tape) (hc : w.cell? ⟨blk, 0, none⟩ = some (.iface 3 (.int .i64 n))) :
    Calls Ybaf.prog 5 #[.iface 32 (.pointer (some a)), .string ⟨#[97, 103, 101, 32, 105, 115, 32, 37, 100, 59, 32, 105, 116, 32, 109, 117, 115, 116, 32, 98, 101, 32, 97, 98, 111, 118, 101, 32, 48]⟩, .slice (some ⟨blk, 0, none⟩) 1 1] w (Refused a w) :=
  (errorAt_any F a n blk w hF hc).mono fun e w' ⟨he, hw⟩ => by
    subst hw
    refine ⟨w.heap.size + 1, .pointer (some ⟨w.heap.size, 0, none⟩), he, ?_, ?_, ?_⟩
    · go_simp
    · go_simp
    · exact (((Below.refl _ _).alloc (Nat.le_refl _) _).alloc (by simp) _).drew

set_option maxHeartbeats 1600000 in
theorem check_bad (F : Interp) (g : Nat) (n : Int) (w : World) (hF : F.answers w.tape) (hn : n < 1) (hc : w.cell? ⟨g, 2, none⟩ = some (.int .i64 n)) :
    Calls Ybaf.prog 4 #[.pointer (some ⟨g, 0, none⟩)] w (Refused ⟨g, 2, none⟩ w) := by
  go_enter Ybaf.func4, Ybaf.ntmps4
  go_wp2
  go_region_with (go_at_call 5; refine (errorAt_refused F _ n _ _ (by exact hF) (by go_simp)).mono ?_; rintro e w1 ⟨k, x, rfl, h0, h1, hb⟩)
  go_wp2
  go_ret
  refine ⟨k, x, rfl, h0, h1, ?_⟩
  exact (((Below.refl _ _).alloc (Nat.le_refl _) _).drew).trans (hb.mono (by simp))

set_option maxHeartbeats 1600000 in
theorem walk_ok (n : Int) (s1 s2 : ByteArray) (w : World) (hn : 1 ≤ n) :
    Calls Ybaf.prog 3 #[.int .i64 n, .string s1, .string s2] w fun e w' => e = .returned (.bool true) ∧ Below w.heap.size w w' := by
  go_enter Ybaf.func3, Ybaf.ntmps3
  go_wp2_with (go_at_call 4; refine (check_ok _ n _ hn (by go_simp)).mono ?_; rintro e w' ⟨rfl, hw⟩; subst hw)
  go_ret
  exact ⟨rfl, (Below.refl _ _).alloc (Nat.le_refl _) _⟩

set_option maxHeartbeats 1600000 in
theorem walk_bad (F : Interp) (n : Int) (s1 s2 : ByteArray) (w : World) (hF : F.answers w.tape) (hn : n < 1) :
    Calls Ybaf.prog 3 #[.int .i64 n, .string s1, .string s2] w fun e w' => e = .returned (.bool true) ∧ Below w.heap.size w w' := by
  go_enter Ybaf.func3, Ybaf.ntmps3
  go_wp2_with fail
  refine (check_bad F _ n _ (by exact hF) hn (by go_simp)).mono ?_
  rintro e w1 ⟨k, x, rfl, h0, h1, hb⟩
  have c0 : w1.cell? ⟨w.heap.size, 0, none⟩ = some (.string s1) := (hb.cell (by simp)).trans (by go_simp)
  have c1 : w1.cell? ⟨w.heap.size, 1, none⟩ = some (.string s2) := (hb.cell (by simp)).trans (by go_simp)
  have c2 : w1.cell? ⟨w.heap.size, 2, none⟩ = some (.int .i64 n) := (hb.cell (by simp)).trans (by go_simp)
  have hB : Below w.heap.size w w1 := ((Below.refl _ _).alloc (Nat.le_refl _) _).trans (hb.mono (by simp))
  clear hb
  go_wp2
  go_ret
  exact ⟨rfl, hB⟩
end Go.Proofs.YbulkbizsFmt
