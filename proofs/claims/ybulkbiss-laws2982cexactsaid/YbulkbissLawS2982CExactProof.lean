/-
  DERIVED. The proof of Rows.LawS2982CExactSaid: the guide's frame at this function's number and types, the walk filled in.
-/
import Derived.Test.YbulkbissRows
import Derived.Test.YbulkbissParts
import Derived.WalkSmall
import Derived.WalkKit
import Derived.ProofKit
import Derived.OpenShut
import Derived.ShutString
import Derived.ChangeOld
import Derived.Below
namespace Go.Proofs.Ybulkbiss.lawS2982CExact
open Go.ChangeShapes Go.WideShapes Go.ChangeAt Go.RowKit
open Go.ChangeMaps (open_string shut_string)
set_option linter.unusedVariables false

theorem own : ownKnob Yba.prog.godebug = none := by kernel_rfl
theorem laidOut : laidOutB Yba.prog = true := by kernel_rfl

/-- WHAT THE WALK IS TOLD OF A SLICE OF INTEGERS THAT CAME IN: it is nil; or it leads to a row of 'cap' cells, the numbers 'zs' (the first 'len' are its elements, the rest its spare room), each fitting its kind. -/
def IsRow (k : IntKind) (w : World) (a : Option Addr) (len cap : Nat) (zs : List Int) : Prop :=
  (a = none ∧ len = 0 ∧ cap = 0 ∧ zs = []) ∨
  ∃ x, a = some x ∧ len ≤ cap ∧ cap ≤ maxLen ∧ zs.length = cap ∧ (∀ i, i < zs.length → w.cell? (x.add i) = some (.int k (zs.getD i 0))) ∧ ∀ n ∈ zs, (Lit.int k n).wf = true

theorem clone_any (a0 : Option Addr) (len0 cap0 : Nat) (z0 : List Int) (w : World) (hlen : len0 ≤ 4096) (w0 : IsRow .u8 w a0 len0 cap0 z0) :
    Calls Yba.prog 9 #[.slice a0 len0 cap0] w fun e w' => ∃ v, e = .returned v ∧ w'.ownsRow w.heap.size 5 1 v len0 ((z0.take len0).map (Value.int .u8)) ∧ Below w.heap.size w w' := by
  rcases w0 with ⟨rfl, rfl, rfl, rfl⟩ | ⟨x, rfl, hlc, _, hzl, hcell, _⟩
  · exact (clone_nil w).mono fun e w' ⟨h1, h2⟩ => ⟨_, h1, by subst h2; exact World.ownsRow_nil _ _ _ _, by subst h2; exact Below.refl _ _⟩
  · exact clone_some x len0 cap0 z0 w hlen (by omega) hcell

theorem got_left (zs : List Int) (ys : List Int) (len k : Nat) (hk : k < len) (hl : len ≤ zs.length) : (zs.take len ++ ys).getD k 0 = zs.getD k 0 := by
  simp only [List.getD]
  rw [List.getElem?_append_left (by simp; omega), List.getElem?_take_of_lt hk]
theorem got_right (zs : List Int) (s : ByteArray) (len k : Nat) (hk : k < s.size) (hl : len ≤ zs.length) : (zs.take len ++ bsls s s.size).getD (len + k) 0 = bsl (s[k].toNat : Int) := by
  have e : (zs.take len).length = len := by simp; omega
  have h1 : bsls s s.size = s.data.toList.map fun c => bsl (c.toNat : Int) := by
    simp only [bsls]; rw [List.take_of_length_le (by simp)]
  rw [h1]
  simp only [List.getD]
  rw [List.getElem?_append_right (by omega), e, Nat.add_sub_cancel_left, List.getElem?_map, List.getElem?_eq_getElem (by simpa using hk)]
  rfl

set_option maxHeartbeats 1000000 in
theorem core (a0 : Option Addr) (len0 cap0 : Nat) (z0 : List Int) (a1 : ByteArray) (w : World) (w0 : IsRow .u8 w a0 len0 cap0 z0) (hlen : len0 ≤ 4096) (hs : a1.size ≤ 4096) (hzl : len0 ≤ z0.length)
    (ha : 0 < len0 → ∃ b off, a0 = some ⟨b, off, none⟩ ∧ ∀ i, i < len0 → w.cell? ⟨b, off + i, none⟩ = some (.int .u8 (z0.getD i 0)))
    (hz : ∀ i, 0 ≤ z0.getD i 0 ∧ z0.getD i 0 ≤ 255) :
    Calls Yba.prog 5 #[.slice a0 len0 cap0, .string a1] w fun e w' => e = .returned (.bool true) ∧ Below w.heap.size w w' := by
  go_enter Yba.func5, Yba.ntmps5
  go_wp2_with fail
  refine (clone_any a0 len0 cap0 z0 w hlen w0).mono ?_
  rintro e w1 ⟨v, rfl, hown1, hb1⟩
  clear w0
  go_wp2_with fail
  refine (bs_any w.heap.size v len0 (z0.take len0) a1 w1 hlen hs hb1.size hown1).mono ?_
  rintro e w2 ⟨v', rfl, hown2, hb2⟩
  have hbel := hb1.trans hb2
  obtain ⟨ao, cap, rfl, hgot⟩ := shape hown2
  clear hown1 hb1 hb2 hown2
  go_wp2
  go_loopw [7] (fun si wr => ∃ (k d : Nat), k ≤ len0 ∧ si = .int .i64 k ∧ wr = w2.drewN d) (fun si _ => len0 - (intOf si).toNat)
  case atStart => exact ⟨0, 0, Nat.zero_le _, rfl, rfl⟩
  case round =>
    obtain ⟨k, d, hk, rfl, rfl⟩ := hrel
    by_cases hlt : k < len0
    · obtain ⟨g, rfl, hg⟩ := hgot (by omega)
      obtain ⟨b, off, rfl, hc⟩ := ha (by omega)
      have hgk : w2.cell? ⟨g, k, none⟩ = some (.int .u8 (z0.getD k 0)) := by rw [hg k (by omega), got_left _ _ _ _ hlt hzl]
      have hck : w2.cell? ⟨b, off + k, none⟩ = some (.int .u8 (z0.getD k 0)) := (hbel.cell (World.block_lt_of_cell? _ _ (hc k hlt))).trans (hc k hlt)
      obtain ⟨hy0, hy1⟩ := hz k
      generalize z0.getD k 0 = y at *
      clear hg hc ha hgot hz
      go_wp2
      go_quiet (fail)
      go_wp2
      go_roundw
      case rel => exact ⟨k + 1, _, by omega, by go_num, rfl⟩
      case measure => simp [intOf]; omega
    · obtain rfl : k = len0 := by omega
      go_wp2
      go_loopw [8] (fun si wr => ∃ (j d : Nat), j ≤ a1.size ∧ si = .int .i64 j ∧ wr = w2.drewN d) (fun si _ => a1.size - (intOf si).toNat)
      case atStart => exact ⟨0, _, Nat.zero_le _, rfl, rfl⟩
      case round =>
        obtain ⟨j, d, hj, rfl, rfl⟩ := hrel
        by_cases hlt2 : j < a1.size
        · obtain ⟨g, rfl, hg⟩ := hgot (by omega)
          have hc0 : (0:Int) ≤ (a1[j].toNat : Int) := by omega
          have hc1 : (a1[j].toNat : Int) ≤ 255 := by have := a1[j].toNat_lt; omega
          have hgj : w2.cell? ⟨g, k + j, none⟩ = some (.int .u8 (bsl (a1[j].toNat : Int))) := by rw [hg (k + j) (by omega), got_right _ _ _ _ hlt2 hzl]
          clear hg ha hgot hz
          by_cases hsl : (a1[j].toNat : Int) = 47
          · have hb : bsl (a1[j].toNat : Int) = 92 := by simp only [bsl]; rw [if_pos hsl]
            have hsl' : ((a1[j].toNat : Int) == 47) = true := by simpa using hsl
            rw [hb] at hgj
            clear hsl hb
            go_wp2
            go_roundw
            case rel => exact ⟨j + 1, _, by omega, by go_num, rfl⟩
            case measure => simp [intOf]; omega
          · have hb : bsl (a1[j].toNat : Int) = (a1[j].toNat : Int) := by simp only [bsl]; rw [if_neg hsl]
            have hsl' : ((a1[j].toNat : Int) == 47) = false := by simpa using hsl
            rw [hb] at hgj
            clear hsl hb
            go_wp2
            go_roundw
            case rel => exact ⟨j + 1, _, by omega, by go_num, rfl⟩
            case measure => simp [intOf]; omega
        · go_wp2
          go_ret
          exact ⟨rfl, below_drewN hbel _⟩

/-! ### STEP 1: THE WALK -/
theorem walk (a0 : Option Addr) (len0 cap0 : Nat) (z0 : List Int) (a1 : ByteArray) (w : World) (w0 : IsRow .u8 w a0 len0 cap0 z0) (w1 : a1.size ≤ maxLen) :
    Calls Yba.prog 5 #[.slice a0 len0 cap0, .string a1] w fun e w' => e = .returned (.bool true) ∧ Below w.heap.size w w' := by
  unfold maxLen at w1
  have hm : (len0 : Int) ≤ 9223372036854775807 := by
    rcases w0 with ⟨_, h, _⟩ | ⟨x, _, h, h', _⟩
    · omega
    · unfold maxLen at h'; omega
  by_cases hbig : 4096 < len0
  · have hbig' : (4096 : Int) < (len0 : Int) := by omega
    go_enter Yba.func5, Yba.ntmps5
    go_wp2
    go_ret
    exact ⟨rfl, Below.refl _ _⟩
  by_cases hbig2 : 4096 < a1.size
  · go_enter Yba.func5, Yba.ntmps5
    go_wp2
    go_ret
    exact ⟨rfl, Below.refl _ _⟩
  refine core a0 len0 cap0 z0 a1 w w0 (by omega) (by omega) ?_ ?_ ?_
  · rcases w0 with ⟨_, h', _⟩ | ⟨x, rfl, hlc, _, hzl, hcell, _⟩ <;> omega
  · intro h
    rcases w0 with ⟨_, h', _⟩ | ⟨x, rfl, hlc, _, hzl, hcell, _⟩
    · omega
    · obtain ⟨b, off, rfl, hc⟩ := ints_at hcell (by omega)
      exact ⟨b, off, rfl, fun i hi => hc i (by omega)⟩
  · rcases w0 with ⟨_, _, _, rfl⟩ | ⟨x, rfl, hlc, _, hzl, hcell, hwf⟩
    · intro i; simp
    · have := range_u8 hwf
      intro i
      simpa [List.getD] using this i

/-! ### THE ROW's STEP: WRITTEN OUT: LEAVE IT -/
set_option maxRecDepth 100000 in
theorem lifted (os : Os) (started : os.Started) (H : Type) (enc : TypeId × Value → H) :
    ReturnsInHanded {} Yba.checked os 5 .any (Rows.lawS2982CExactSpec.pre6 enc Yba.prog Yba.f5 Rows.lawS2982CExactRow.domain false) (Rows.lawS2982CExactSpec.post enc Yba.prog Yba.f5 false true false false) := by
  refine returnsInHanded_of_change (C := Yba.checked) own started (by kernel_rfl) Yba.func5
    (ChangeSpec.witness6 (enc := enc) (C := Yba.checked) false ⟨#[], #[.slice none 0 0, .string ByteArray.empty], []⟩ 8 (by kernel_rfl) (by kernel_rfl) (by kernel_rfl) (by kernel_rfl)) ?_
  intro W base args ds gs before hval0 hW hcnd _
  have hval : ∀ (j : Nat) t v, Yba.f5.params[j]? = some t → args[j]? = some v → Value.okWide Yba.prog W .any base t v := hval0
  have hW' := hW
  obtain ⟨p, q, hA0, hV, rfl, hfz, hnd⟩ := hW
  have hA : DataW.TrodAll enc Yba.prog W 0 (fun _ => true) true Yba.f5.params.toList args.toList ds p := hA0
  rw [Yba.params5] at hA hval
  obtain ⟨v0, vs0, d0, ds0, p0, q0, hargs, rfl, rfl, h0, r0⟩ := trodAll_cons hA
  obtain ⟨v1, vs1, d1, ds1, p1, q1, rfl, rfl, rfl, h1, r1⟩ := trodAll_cons r0
  obtain ⟨rfl, rfl, rfl⟩ := trodAll_nil r1
  obtain rfl : args = #[v0, v1] := by cases args; simp_all
  obtain ⟨rfl, rfl⟩ := trodVars_none hV
  obtain ⟨a0, len0, cap0, rfl⟩ := okWide_slice Yba.underlying22 (hval 0 22 v0 rfl rfl)
  have k0 := h0
  have lt0 : ∀ x ∈ p0, x.block < W.heap.size := by obtain ⟨m, hm⟩ := k0; exact DataW.trod_lt m _ _ _ hm
  obtain ⟨z0, w0⟩ : ∃ zs, IsRow .u8 W a0 len0 cap0 zs := by
    obtain ⟨fuel, hf⟩ := h0
    rcases open_ints Yba.underlying22 Yba.underlying5 (by kernel_rfl) hf with ⟨hcs, _⟩ | ⟨x, l, c, zs, hcs, _, hl, hm, hz, _, hcell, hwz⟩
    · simp [Value.cells] at hcs
      obtain ⟨rfl, rfl, rfl⟩ := hcs
      exact ⟨[], .inl ⟨rfl, rfl, rfl, rfl⟩⟩
    · simp [Value.cells] at hcs
      obtain ⟨rfl, rfl, rfl⟩ := hcs
      exact ⟨zs, .inr ⟨_, rfl, hl, hm, by simpa using hz, hcell, hwz⟩⟩
  obtain ⟨a1, rfl, rfl, rfl, w1⟩ := open_string Yba.underlying9 (hval 1 9 v1 rfl rfl) h1
  clear hA0 hval0
  refine (walk a0 len0 cap0 z0 a1 W w0 w1).mono fun e W' ⟨he, bel⟩ => ?_
  subst he
  exact ⟨_, rfl, _, _, _, [], _, [], hW', trodAll_mk1 (shut_bool Yba.underlying4 _), (trodAll_cons_mk (Below.trod laidOut (by kernel_rfl) (of_decide_eq_true (by kernel_rfl)) k0 bel lt0) (trodAll_cons_mk (shut_string Yba.underlying9 w1) trodAll_mk0)), rfl, bel.frame _, fun h => by cases h⟩

theorem over : Rows.lawS2982CExactRow.holds Yba.pinned (OpenSpec.ofChange Rows.lawS2982CExactSpec) :=
  OpenClaim.holds_of_wide 5 Yba.f5 rfl rfl rfl rfl rfl rfl rfl ⟨rfl, rfl, rfl, rfl, rfl⟩ rfl rfl rfl rfl rfl (by kernel_rfl) Yba.func5 (by kernel_rfl)
    (of_decide_eq_true (by kernel_rfl)) (by unfold Func.isWrapper; first | (rw [if_pos (by decide +kernel)]; kernel_rfl) | (rw [if_neg (by decide +kernel)]; exact ⟨rfl, rfl⟩))
    (fun os started H enc _ => lifted os started H enc)

/-- ████ THE STATEMENT ████ -/
theorem proved : Rows.LawS2982CExactSaid := over
end Go.Proofs.Ybulkbiss.lawS2982CExact
namespace Go.Proofs.Ybulkbiss
theorem lawS2982CExact_proved : Rows.LawS2982CExactSaid := lawS2982CExact.proved
end Go.Proofs.Ybulkbiss
