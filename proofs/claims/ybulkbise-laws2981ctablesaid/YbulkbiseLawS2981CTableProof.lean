/-
  DERIVED. The proof of Rows.LawS2981CTableSaid: the guide's frame at this function's number and types, the walk filled in.
-/
import Derived.Test.YbulkbiseRows
import Derived.Test.YbulkbiseDays
import Derived.WalkKit
import Derived.ProofKit
import Derived.OpenShut
import Derived.ShutString
namespace Go.Proofs.Ybulkbise.lawS2981CTable
open Go.ChangeShapes Go.WideShapes Go.ChangeAt Go.RowKit
open Go.ChangeMaps (open_string shut_string)
set_option linter.unusedVariables false      -- a walk need not use every 'w<i>' (that an integer argument fits its kind)

set_option maxHeartbeats 1000000 in
theorem model_any (m y : Int) (w : World) :
    Calls Yba.prog 6 #[.int .i64 m, .int .i64 y] w fun e w' => e = .returned (.int .i64 (dim m y)) ∧ Grown w w' := by
  by_cases hlo : m < 1
  · go_enter Yba.func6, Yba.ntmps6
    go_wp2
    go_ret
    exact ⟨ret_int (dim_long (by omega)).symm, Grown.refl _⟩
  by_cases hhi : 12 < m
  · go_enter Yba.func6, Yba.ntmps6
    go_wp2
    go_ret
    exact ⟨ret_int (dim_long (by omega)).symm, Grown.refl _⟩
  by_cases hm2 : m = 2
  · subst hm2
    clear hlo hhi
    by_cases hy : leapB y = true
    · go_enter Yba.func6, Yba.ntmps6
      go_wp2_with (go_at_call 7; refine (leap_any _ _).mono ?_; rintro e w' ⟨rfl, hw⟩; subst hw)
      go_ret
      exact ⟨ret_int (dim_leap hy).symm, (Grown.refl _).alloc _ _⟩
    · have hy' : leapB y = false := by simpa using hy
      clear hy
      go_enter Yba.func6, Yba.ntmps6
      go_wp2_with (go_at_call 7; refine (leap_any _ _).mono ?_; rintro e w' ⟨rfl, hw⟩; subst hw)
      go_ret
      exact ⟨ret_int (dim_plain hy').symm, (Grown.refl _).alloc _ _⟩
  have h : m = 1 ∨ m = 3 ∨ m = 4 ∨ m = 5 ∨ m = 6 ∨ m = 7 ∨ m = 8 ∨ m = 9 ∨ m = 10 ∨ m = 11 ∨ m = 12 := by omega
  clear hlo hhi hm2
  rcases h with rfl | rfl | rfl | rfl | rfl | rfl | rfl | rfl | rfl | rfl | rfl
  all_goals
    go_enter Yba.func6, Yba.ntmps6
    go_wp2
    go_ret
    exact ⟨rfl, (Grown.refl _).alloc _ _⟩

theorem own : ownKnob Yba.prog.godebug = none := by kernel_rfl

/-! ### STEP 1: THE WALK: the Go text returns true. 'Grown w w'': the world has at most new blocks (Derived/RowKit3.lean). Part the cases AHEAD of 'go_enter' where a test parts the walk; take each callee by a contract of your own. -/
theorem walk (a0 : Int) (a1 : Int) (w0 : (Lit.int .i64 a0).wf = true) (w1 : (Lit.int .i64 a1).wf = true) (w : World) :
    Calls Yba.prog 3 #[.int .i64 a0, .int .i64 a1] w fun e w' => e = .returned (.bool true) ∧ Grown w w' := by
  go_enter Yba.func3, Yba.ntmps3
  go_wp2_with (first | (go_at_call 5; refine (days_any _ _ _).mono ?_; rintro e w' ⟨rfl, hw⟩; replace hw := hw.symm; subst hw) | (go_at_call 6; refine (model_any _ _ _).mono ?_; rintro e w1 ⟨rfl, hg1⟩))
  go_ret
  exact ⟨ret_bool (by simp), hg1⟩

/-! ### THE ROW's STEP: WRITTEN OUT: LEAVE IT -/
set_option maxRecDepth 100000 in
theorem lifted (os : Os) (started : os.Started) (H : Type) (enc : TypeId × Value → H) :
    ReturnsInHanded {} Yba.checked os 3 .any (Rows.lawS2981CTableSpec.pre6 enc Yba.prog Yba.f3 Rows.lawS2981CTableRow.domain false) (Rows.lawS2981CTableSpec.post enc Yba.prog Yba.f3 false true false false) := by
  refine returnsInHanded_of_change (C := Yba.checked) own started (by kernel_rfl) Yba.func3
    (ChangeSpec.witness6 (enc := enc) (C := Yba.checked) false ⟨#[], #[.int .i64 0, .int .i64 0], []⟩ 8 (by kernel_rfl) (by kernel_rfl) (by kernel_rfl) (by kernel_rfl)) ?_
  intro W base args ds gs before hval0 hW hcnd _
  have hval : ∀ (j : Nat) t v, Yba.f3.params[j]? = some t → args[j]? = some v → Value.okWide Yba.prog W .any base t v := hval0
  have hW' := hW
  obtain ⟨p, q, hA0, hV, rfl, hfz, hnd⟩ := hW
  have hA : DataW.TrodAll enc Yba.prog W 0 (fun _ => true) true Yba.f3.params.toList args.toList ds p := hA0
  rw [Yba.params3] at hA hval
  obtain ⟨v0, vs0, d0, ds0, p0, q0, hargs, rfl, rfl, h0, r0⟩ := trodAll_cons hA
  obtain ⟨v1, vs1, d1, ds1, p1, q1, rfl, rfl, rfl, h1, r1⟩ := trodAll_cons r0
  obtain ⟨rfl, rfl, rfl⟩ := trodAll_nil r1
  obtain rfl : args = #[v0, v1] := by cases args; simp_all
  obtain ⟨rfl, rfl⟩ := trodVars_none hV
  obtain ⟨a0, rfl, rfl, rfl, w0⟩ := open_int Yba.underlying3 (hval 0 3 v0 rfl rfl) h0
  obtain ⟨a1, rfl, rfl, rfl, w1⟩ := open_int Yba.underlying3 (hval 1 3 v1 rfl rfl) h1
  clear hA0 hval0
  simp only [List.append_nil] at hW'
  refine (walk a0 a1 w0 w1 W).mono fun e W' ⟨he, hg⟩ => ?_
  subst he
  exact ⟨_, rfl, post_of_same (pa := []) (pv := []) hW' (fun _ _ _ => (trodAll_cons_mk (shut_bool Yba.underlying4 _) trodAll_mk0)) (fun sp _ => (trodAll_cons_mk (shut_int Yba.underlying3 w0) (trodAll_cons_mk (shut_int Yba.underlying3 w1) trodAll_mk0))) (fun _ _ => rfl) rfl
    (hg.frame _) hg.2.1 (ok_one (by kernel_rfl) rfl (okWide_bool_mk Yba.underlying4 _))⟩

theorem over : Rows.lawS2981CTableRow.holds Yba.pinned (OpenSpec.ofChange Rows.lawS2981CTableSpec) :=
  OpenClaim.holds_of_wide 3 Yba.f3 rfl rfl rfl rfl rfl rfl rfl ⟨rfl, rfl, rfl, rfl, rfl⟩ rfl rfl rfl rfl rfl (by kernel_rfl) Yba.func3 (by kernel_rfl)
    (of_decide_eq_true (by kernel_rfl)) (by unfold Func.isWrapper; first | (rw [if_pos (by decide +kernel)]; kernel_rfl) | (rw [if_neg (by decide +kernel)]; exact ⟨rfl, rfl⟩))
    (fun os started H enc _ => lifted os started H enc)

/-- ████ THE STATEMENT ████ -/
theorem proved : Rows.LawS2981CTableSaid :=
  over
end Go.Proofs.Ybulkbise.lawS2981CTable
namespace Go.Proofs.Ybulkbise
theorem lawS2981CTable_proved : Rows.LawS2981CTableSaid := lawS2981CTable.proved
end Go.Proofs.Ybulkbise
