/-
  DERIVED. The proof of Rows.LawS2981CYearSaid: the guide's frame at this function's number and types, the walk filled in.
-/
import Derived.Test.YbulkbiseRows
import Derived.Test.YbulkbiseDays
import Derived.WalkKit
import Derived.ProofKit
import Derived.OpenShut
import Derived.ShutString
namespace Go.Proofs.Ybulkbise.lawS2981CYear
open Go.ChangeShapes Go.WideShapes Go.ChangeAt Go.RowKit
open Go.ChangeMaps (open_string shut_string)
set_option linter.unusedVariables false      -- a walk need not use every 'w<i>' (that an integer argument fits its kind)

/-- The days of the months 1 to k - 1. -/
def cum (y : Int) : Nat → Int
  | 0 => 0
  | 1 => 0
  | k + 2 => cum y (k + 1) + dim ((k : Int) + 1) y
theorem cum_succ (y : Int) (k : Nat) (h : 1 ≤ k) : cum y (k + 1) = cum y k + dim (k : Int) y := by
  obtain ⟨j, rfl⟩ : ∃ j, k = j + 1 := ⟨k - 1, by omega⟩
  rfl
theorem cum_bd (y : Int) : ∀ (k : Nat), 1 ≤ k → 0 ≤ cum y k ∧ cum y k ≤ 31 * k
  | 0, h => by omega
  | 1, _ => by simp [cum]
  | k + 2, _ => by
    have := cum_bd y (k + 1) (by omega)
    have hd := dim_lo ((k + 1 : Nat) : Int) y
    rw [cum_succ y (k + 1) (by omega)]
    omega
theorem cum_13 (y : Int) : cum y 13 = 337 + dim 2 y := by
  have e : ∀ m : Int, m ≠ 2 → dim m y = if m = 4 ∨ m = 6 ∨ m = 9 ∨ m = 11 then 30 else 31 := fun m hm => by simp only [dim, if_neg hm]
  simp [cum, e]
  omega
theorem cum_leap {y : Int} (h : leapB y = true) : cum y 13 = 366 := by rw [cum_13, dim_leap h]; rfl
theorem cum_plain {y : Int} (h : leapB y = false) : cum y 13 = 365 := by rw [cum_13, dim_plain h]; rfl

theorem own : ownKnob Yba.prog.godebug = none := by kernel_rfl

/-! ### STEP 1: THE WALK: the Go text returns true. 'Grown w w'': the world has at most new blocks (Derived/RowKit3.lean). Part the cases AHEAD of 'go_enter' where a test parts the walk; take each callee by a contract of your own. -/
theorem walk (a0 : Int) (w0 : (Lit.int .i64 a0).wf = true) (w : World) :
    Calls Yba.prog 4 #[.int .i64 a0] w fun e w' => e = .returned (.bool true) ∧ Grown w w' := by
  obtain ⟨b0, b1⟩ := bounds_i64 w0
  by_cases hbig : 4611686018427387904 < a0
  · go_enter Yba.func4, Yba.ntmps4
    go_wp2
    go_ret
    exact ⟨rfl, Grown.refl _⟩
  by_cases hsml : a0 < -4611686018427387904
  · go_enter Yba.func4, Yba.ntmps4
    go_wp2
    go_ret
    exact ⟨rfl, Grown.refl _⟩
  have hA : a0 ≤ 4611686018427387904 := by omega
  have hB : -4611686018427387904 ≤ a0 := by omega
  clear hbig hsml w0
  go_enter Yba.func4, Yba.ntmps4
  go_wp2
  go_loop [3, 4] (fun t i => ∃ k : Nat, 1 ≤ k ∧ k ≤ 13 ∧ i = .int .i64 k ∧ t = .int .i64 (cum a0 k)) (fun _ i => 13 - (intOf i).toNat)
  case atStart => exact ⟨1, by omega, by omega, rfl, rfl⟩
  case round =>
    obtain ⟨k, hk1, hk2, rfl, rfl⟩ := hrel
    have hc := cum_bd a0 k (by omega)
    by_cases hlt : k ≤ 12
    · have hd := dim_lo k a0
      have hl := dim_later (k : Int) a0
      go_wp2_with (go_at_call 5; refine (days_any _ _ _).mono ?_; rintro e w' ⟨rfl, rfl⟩)
      go_round
      case rel => exact ⟨k + 1, by omega, by omega, by go_num, by rw [cum_succ a0 k hk1]⟩
      case measure => simp [intOf]; omega
    · obtain rfl : k = 13 := by omega
      by_cases hy : leapB a0 = true
      · have e1 := cum_leap hy
        have e2 := dim_leap hy
        rw [e1]
        clear e1 hc
        go_wp2_with (first | (go_at_call 5; refine (days_any _ _ _).mono ?_; rintro e w' ⟨rfl, rfl⟩) | (go_at_call 7; refine (leap_any _ _).mono ?_; rintro e w' ⟨rfl, rfl⟩))
        go_ret
        exact ⟨rfl, Grown.refl _⟩
      · have hy' : leapB a0 = false := by simpa using hy
        clear hy
        have e1 := cum_plain hy'
        have e2 := dim_plain hy'
        rw [e1]
        clear e1 hc
        go_wp2_with (first | (go_at_call 5; refine (days_any _ _ _).mono ?_; rintro e w' ⟨rfl, rfl⟩) | (go_at_call 7; refine (leap_any _ _).mono ?_; rintro e w' ⟨rfl, rfl⟩))
        go_ret
        exact ⟨rfl, Grown.refl _⟩

/-! ### THE ROW's STEP: WRITTEN OUT: LEAVE IT -/
set_option maxRecDepth 100000 in
theorem lifted (os : Os) (started : os.Started) (H : Type) (enc : TypeId × Value → H) :
    ReturnsInHanded {} Yba.checked os 4 .any (Rows.lawS2981CYearSpec.pre6 enc Yba.prog Yba.f4 Rows.lawS2981CYearRow.domain false) (Rows.lawS2981CYearSpec.post enc Yba.prog Yba.f4 false true false false) := by
  refine returnsInHanded_of_change (C := Yba.checked) own started (by kernel_rfl) Yba.func4
    (ChangeSpec.witness6 (enc := enc) (C := Yba.checked) false ⟨#[], #[.int .i64 0], []⟩ 8 (by kernel_rfl) (by kernel_rfl) (by kernel_rfl) (by kernel_rfl)) ?_
  intro W base args ds gs before hval0 hW hcnd _
  have hval : ∀ (j : Nat) t v, Yba.f4.params[j]? = some t → args[j]? = some v → Value.okWide Yba.prog W .any base t v := hval0
  have hW' := hW
  obtain ⟨p, q, hA0, hV, rfl, hfz, hnd⟩ := hW
  have hA : DataW.TrodAll enc Yba.prog W 0 (fun _ => true) true Yba.f4.params.toList args.toList ds p := hA0
  rw [Yba.params4] at hA hval
  obtain ⟨v0, vs0, d0, ds0, p0, q0, hargs, rfl, rfl, h0, r0⟩ := trodAll_cons hA
  obtain ⟨rfl, rfl, rfl⟩ := trodAll_nil r0
  obtain rfl : args = #[v0] := by cases args; simp_all
  obtain ⟨rfl, rfl⟩ := trodVars_none hV
  obtain ⟨a0, rfl, rfl, rfl, w0⟩ := open_int Yba.underlying3 (hval 0 3 v0 rfl rfl) h0
  clear hA0 hval0
  simp only [List.append_nil] at hW'
  refine (walk a0 w0 W).mono fun e W' ⟨he, hg⟩ => ?_
  subst he
  exact ⟨_, rfl, post_of_same (pa := []) (pv := []) hW' (fun _ _ _ => (trodAll_cons_mk (shut_bool Yba.underlying4 _) trodAll_mk0)) (fun sp _ => (trodAll_cons_mk (shut_int Yba.underlying3 w0) trodAll_mk0)) (fun _ _ => rfl) rfl
    (hg.frame _) hg.2.1 (ok_one (by kernel_rfl) rfl (okWide_bool_mk Yba.underlying4 _))⟩

theorem over : Rows.lawS2981CYearRow.holds Yba.pinned (OpenSpec.ofChange Rows.lawS2981CYearSpec) :=
  OpenClaim.holds_of_wide 4 Yba.f4 rfl rfl rfl rfl rfl rfl rfl ⟨rfl, rfl, rfl, rfl, rfl⟩ rfl rfl rfl rfl rfl (by kernel_rfl) Yba.func4 (by kernel_rfl)
    (of_decide_eq_true (by kernel_rfl)) (by unfold Func.isWrapper; first | (rw [if_pos (by decide +kernel)]; kernel_rfl) | (rw [if_neg (by decide +kernel)]; exact ⟨rfl, rfl⟩))
    (fun os started H enc _ => lifted os started H enc)

/-- ████ THE STATEMENT ████ -/
theorem proved : Rows.LawS2981CYearSaid :=
  over
end Go.Proofs.Ybulkbise.lawS2981CYear
namespace Go.Proofs.Ybulkbise
theorem lawS2981CYear_proved : Rows.LawS2981CYearSaid := lawS2981CYear.proved
end Go.Proofs.Ybulkbise
