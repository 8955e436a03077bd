/-
  DERIVED. The proof of Rows.LawS2975CModelSaid: the guide's frame at this function's number and types, the walk filled in.
-/
import Derived.Test.YbulkbioyRows
import Derived.Test.YbulkbioyKeys
import Derived.WalkKit
import Derived.ProofKit
import Derived.OpenShut
import Derived.ShutString
namespace Go.Proofs.Ybulkbioy.lawS2975CModel
open Go.ChangeShapes Go.WideShapes Go.ChangeAt Go.RowKit
open Go.ChangeMaps (open_string shut_string)
set_option linter.unusedVariables false      -- a walk need not use every 'w<i>' (that an integer argument fits its kind)

/-- What the law has gathered behind k bytes. -/
def wantB (l : List UInt8) (k : Nat) : Bool := !l.isEmpty && allB (l.take k)
theorem want_zero (s : ByteArray) : decide (0 < s.size) = wantB s.data.toList 0 := by
  have : allB (s.data.toList.take 0) = true := rfl
  rw [wantB, this, Bool.and_true]
  cases h : s.data.toList with
  | nil => have : s.size = 0 := by simpa [← ByteArray.size_data] using congrArg List.length h
           simp [this]
  | cons x xs => have : s.size = xs.length + 1 := by simpa [← ByteArray.size_data] using congrArg List.length h
                 simp [this]
theorem want_yes (s : ByteArray) (k : Nat) (hlt : k < s.size) (hok : okB (s[k].toNat : Int) = true) : wantB s.data.toList (k + 1) = wantB s.data.toList k := by
  simp only [wantB]; rw [take_snoc s k hlt, allB_snoc, hok, Bool.and_true]
theorem want_no (s : ByteArray) (k : Nat) (hlt : k < s.size) (hok : okB (s[k].toNat : Int) = false) : wantB s.data.toList (k + 1) = false := by
  simp only [wantB]; rw [take_snoc s k hlt, allB_snoc, hok, Bool.and_false, Bool.and_false]
theorem want_end (s : ByteArray) (k : Nat) (h : ¬ k < s.size) : wantB s.data.toList k = keyB s.data.toList := by
  simp only [wantB]; rw [List.take_of_length_le (by simp; omega)]; rfl

theorem own : ownKnob Yba.prog.godebug = none := by kernel_rfl

/-! ### STEP 1: THE WALK: the Go text returns true. 'Grown w w'': the world has at most new blocks (Derived/RowKit3.lean). Part the cases AHEAD of 'go_enter' where a test parts the walk; take each callee by a contract of your own. -/
theorem walk (a0 : ByteArray) (w0 : a0.size ≤ maxLen) (w : World) :
    Calls Yba.prog 5 #[.string a0] w fun e w' => e = .returned (.bool true) ∧ Grown w w' := by
  unfold maxLen at w0
  by_cases hbig : 4096 < a0.size
  · go_enter Yba.func5, Yba.ntmps5
    go_wp2
    go_ret
    exact ⟨rfl, Grown.refl _⟩
  · go_enter Yba.func5, Yba.ntmps5
    go_wp2
    go_loop [3, 4] (fun t i => ∃ k : Nat, k ≤ a0.size ∧ i = .int .i64 k ∧ t = .bool (wantB a0.data.toList k)) (fun _ i => a0.size - (intOf i).toNat)
    case atStart => exact ⟨0, Nat.zero_le _, rfl, by rw [want_zero]⟩
    case round =>
      obtain ⟨k, hk1, rfl, rfl⟩ := hrel
      by_cases hlt : k < a0.size
      · have hc0 : (0:Int) ≤ (a0[k].toNat : Int) := by omega
        have hc1 : (a0[k].toNat : Int) ≤ 255 := by have := a0[k].toNat_lt; omega
        by_cases hok : okB (a0[k].toNat : Int) = true
        · go_wp2_with (go_at_call 11; refine (cok_any _ _ hc0 hc1).mono ?_; rintro e w' ⟨rfl, rfl⟩)
          go_round
          case rel => exact ⟨k + 1, by omega, by go_num, by rw [want_yes a0 k hlt hok]⟩
          case measure => simp [intOf]; omega
        · have hno : okB (a0[k].toNat : Int) = false := by simpa using hok
          clear hok
          go_wp2_with (go_at_call 11; refine (cok_any _ _ hc0 hc1).mono ?_; rintro e w' ⟨rfl, rfl⟩)
          go_round
          case rel => exact ⟨k + 1, by omega, by go_num, by rw [want_no a0 k hlt hno]⟩
          case measure => simp [intOf]; omega
      · rw [want_end a0 k hlt]
        go_wp2_with (go_at_call 12; refine (valid_any _ _ w0).mono ?_; rintro e w' ⟨rfl, rfl⟩)
        go_ret
        exact ⟨ret_bool (by simp), Grown.refl _⟩

/-! ### THE ROW's STEP: WRITTEN OUT: LEAVE IT -/
set_option maxRecDepth 100000 in
theorem lifted (os : Os) (started : os.Started) (H : Type) (enc : TypeId × Value → H) :
    ReturnsInHanded {} Yba.checked os 5 .any (Rows.lawS2975CModelSpec.pre6 enc Yba.prog Yba.f5 Rows.lawS2975CModelRow.domain false) (Rows.lawS2975CModelSpec.post enc Yba.prog Yba.f5 false true false false) := by
  refine returnsInHanded_of_change (C := Yba.checked) own started (by kernel_rfl) Yba.func5
    (ChangeSpec.witness6 (enc := enc) (C := Yba.checked) false ⟨#[], #[.string ByteArray.empty], []⟩ 8 (by kernel_rfl) (by kernel_rfl) (by kernel_rfl) (by kernel_rfl)) ?_
  intro W base args ds gs before hval0 hW hcnd _
  have hval : ∀ (j : Nat) t v, Yba.f5.params[j]? = some t → args[j]? = some v → Value.okWide Yba.prog W .any base t v := hval0
  have hW' := hW
  obtain ⟨p, q, hA0, hV, rfl, hfz, hnd⟩ := hW
  have hA : DataW.TrodAll enc Yba.prog W 0 (fun _ => true) true Yba.f5.params.toList args.toList ds p := hA0
  rw [Yba.params5] at hA hval
  obtain ⟨v0, vs0, d0, ds0, p0, q0, hargs, rfl, rfl, h0, r0⟩ := trodAll_cons hA
  obtain ⟨rfl, rfl, rfl⟩ := trodAll_nil r0
  obtain rfl : args = #[v0] := by cases args; simp_all
  obtain ⟨rfl, rfl⟩ := trodVars_none hV
  obtain ⟨a0, rfl, rfl, rfl, w0⟩ := open_string Yba.underlying9 (hval 0 9 v0 rfl rfl) h0
  clear hA0 hval0
  simp only [List.append_nil] at hW'
  refine (walk a0 w0 W).mono fun e W' ⟨he, hg⟩ => ?_
  subst he
  exact ⟨_, rfl, post_of_same (pa := []) (pv := []) hW' (fun _ _ _ => (trodAll_cons_mk (shut_bool Yba.underlying4 _) trodAll_mk0)) (fun sp _ => (trodAll_cons_mk (shut_string Yba.underlying9 w0) trodAll_mk0)) (fun _ _ => rfl) rfl
    (hg.frame _) hg.2.1 (ok_one (by kernel_rfl) rfl (okWide_bool_mk Yba.underlying4 _))⟩

theorem over : Rows.lawS2975CModelRow.holds Yba.pinned (OpenSpec.ofChange Rows.lawS2975CModelSpec) :=
  OpenClaim.holds_of_wide 5 Yba.f5 rfl rfl rfl rfl rfl rfl rfl ⟨rfl, rfl, rfl, rfl, rfl⟩ rfl rfl rfl rfl rfl (by kernel_rfl) Yba.func5 (by kernel_rfl)
    (of_decide_eq_true (by kernel_rfl)) (by unfold Func.isWrapper; first | (rw [if_pos (by decide +kernel)]; kernel_rfl) | (rw [if_neg (by decide +kernel)]; exact ⟨rfl, rfl⟩))
    (fun os started H enc _ => lifted os started H enc)

/-- ████ THE STATEMENT ████ -/
theorem proved : Rows.LawS2975CModelSaid :=
  over
end Go.Proofs.Ybulkbioy.lawS2975CModel
namespace Go.Proofs.Ybulkbioy
theorem lawS2975CModel_proved : Rows.LawS2975CModelSaid := lawS2975CModel.proved
end Go.Proofs.Ybulkbioy
