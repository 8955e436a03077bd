/-
  DERIVED. The proof of Rows.LawS2975CBuiltSaid: the guide's frame at this function's number and types, the walk filled in.
-/
import Derived.Test.YbulkbioyRows
import Derived.Test.YbulkbioyKeys
import Derived.Laws.BytesArg
import Derived.WalkKit
import Derived.ProofKit
import Derived.OpenShut
import Derived.ShutString
import Derived.ChangeOld
import Derived.Below
namespace Go.Proofs.Ybulkbioy.lawS2975CBuilt
open Go.ChangeShapes Go.WideShapes Go.ChangeAt Go.RowKit
open Go.ChangeMaps (open_string shut_string)
set_option linter.unusedVariables false

theorem own : ownKnob Yba.prog.godebug = none := by kernel_rfl
theorem laidOut : laidOutB Yba.prog = true := by kernel_rfl

/-- WHAT THE WALK IS TOLD OF A SLICE OF INTEGERS THAT CAME IN: it is nil; or it leads to a row of 'cap' cells, the numbers 'zs' (the first 'len' are its elements, the rest its spare room), each fitting its kind. -/
def IsRow (k : IntKind) (w : World) (a : Option Addr) (len cap : Nat) (zs : List Int) : Prop :=
  (a = none ∧ len = 0 ∧ cap = 0 ∧ zs = []) ∨
  ∃ x, a = some x ∧ len ≤ cap ∧ cap ≤ maxLen ∧ zs.length = cap ∧ (∀ i, i < zs.length → w.cell? (x.add i) = some (.int k (zs.getD i 0))) ∧ ∀ n ∈ zs, (Lit.int k n).wf = true

theorem Yba.info5 : (Yba.prog.info? 5).map (fun i => (i.zero, i.size, i.bytes)) = some (some (.int .u8 0), 1, 1) := by kernel_rfl

/-- The letter that the law's alphabet bears at z mod 37. -/
def alphaAt (z : Int) : Int := if z % 37 < 26 then 97 + z % 37 else if z % 37 < 36 then 22 + z % 37 else 45
/-- The first k letters that the law has built. -/
def alphas (zs : List Int) (k : Nat) : List Int := (List.range k).map fun i => alphaAt (zs.getD i 0)
theorem alphas_succ (zs : List Int) (k : Nat) : alphas zs (k + 1) = alphas zs k ++ [alphaAt (zs.getD k 0)] := by
  simp [alphas, List.range_succ]
theorem alphas_length (zs : List Int) (k : Nat) : (alphas zs k).length = k := by simp [alphas]
theorem alphaAt_ok (z : Int) : okB (alphaAt z) = true ∧ 0 ≤ alphaAt z ∧ alphaAt z ≤ 255 := by
  have h0 : 0 ≤ z % 37 := by omega
  have h1 : z % 37 < 37 := by omega
  refine ⟨okB_true ?_, ?_, ?_⟩ <;> (unfold alphaAt; (repeat' split) <;> omega)
theorem index_alpha (y : Int) (w : World) : (Instr.index 9 (.string ⟨#[97, 98, 99, 100, 101, 102, 103, 104, 105, 106, 107, 108, 109, 110, 111, 112, 113, 114, 115, 116, 117, 118, 119, 120, 121, 122, 48, 49, 50, 51, 52, 53, 54, 55, 56, 57, 45]⟩) (.int .i64 (y % 37))).run Yba.prog w = .ok (.int .u8 (alphaAt y)) w := by
  have h : ∀ m : Fin 37, (Instr.index 9 (.string ⟨#[97, 98, 99, 100, 101, 102, 103, 104, 105, 106, 107, 108, 109, 110, 111, 112, 113, 114, 115, 116, 117, 118, 119, 120, 121, 122, 48, 49, 50, 51, 52, 53, 54, 55, 56, 57, 45]⟩) (.int .i64 (m.val : Int))).run Yba.prog w = .ok (.int .u8 (if (m.val : Int) < 26 then 97 + (m.val : Int) else if (m.val : Int) < 36 then 22 + (m.val : Int) else 45)) w := by
    intro m
    rw [run_index_string w 9 _ .i64 _ Yba.underlying9]
    rw [dif_pos ⟨by omega, by have := m.isLt; simp [ByteArray.size]; omega⟩]
    have e : ∀ m : Fin 37, (((#[97, 98, 99, 100, 101, 102, 103, 104, 105, 106, 107, 108, 109, 110, 111, 112, 113, 114, 115, 116, 117, 118, 119, 120, 121, 122, 48, 49, 50, 51, 52, 53, 54, 55, 56, 57, 45] : Array UInt8)[m.val]'(m.isLt)).toNat : Int) = if (m.val : Int) < 26 then 97 + (m.val : Int) else if (m.val : Int) < 36 then 22 + (m.val : Int) else 45 := by decide
    rw [← e m]
    rfl
  have := h ⟨(y % 37).toNat, by omega⟩
  have e : (((y % 37).toNat : Nat) : Int) = y % 37 := by omega
  simp only [e] at this
  exact this
theorem cell_lt {w : World} {b o : Nat} {v : Value} (h : w.cell? ⟨b, o, none⟩ = some v) : b < w.heap.size := by
  rcases Nat.lt_or_ge b w.heap.size with h' | h'
  · exact h'
  · simp [World.cell?, Array.getElem?_eq_none h'] at h

/-- 'validKey' of a string, kept from the walk's eyes. -/
def keyS (s : ByteArray) : Bool := keyB s.data.toList
theorem valid_s (s : ByteArray) (w : World) (hs : s.size ≤ maxLen) :
    Calls Yba.prog 12 #[.string s] w fun e w' => e = .returned (.bool (keyS s)) ∧ w' = w := valid_any s w hs
theorem keyS_empty : keyS ⟨#[]⟩ = false := rfl
theorem back_byte {x : Int} (h0 : 0 ≤ x) (h1 : x ≤ 255) : (((UInt8.ofNat x.toNat).toNat : Nat) : Int) = x := by
  rw [UInt8.toNat_ofNat']; omega
theorem keyS_built (bs : List Int) (hne : 0 < bs.length) (h : ∀ x ∈ bs, okB x = true ∧ 0 ≤ x ∧ x ≤ 255) : keyS (strOfNums bs) = true := by
  unfold keyS keyB allB
  rw [strOfNums_data]
  have e : (bs.map fun n => UInt8.ofNat n.toNat).isEmpty = false := by
    cases bs with
    | nil => simp at hne
    | cons x xs => rfl
  rw [e]
  simp only [Bool.not_false, Bool.true_and, List.all_map, List.all_eq_true, Function.comp]
  intro x hx
  obtain ⟨h1, h2, h3⟩ := h x hx
  rw [back_byte h2 h3]; exact h1
theorem keyS_spoilt (bs : List Int) (p : Nat) (hp : p < bs.length) (b : Int) (hb : okB b = false) (h0 : 0 ≤ b) (h1 : b ≤ 255) : keyS (strOfNums (bs.set p b)) = false := by
  unfold keyS keyB
  rw [strOfNums_data]
  have : allB ((bs.set p b).map fun n => UInt8.ofNat n.toNat) = false := by
    unfold allB
    rw [List.all_eq_false]
    refine ⟨UInt8.ofNat b.toNat, ?_, ?_⟩
    · exact List.mem_map.2 ⟨b, List.mem_set hp b, rfl⟩
    · rw [back_byte h0 h1, hb]; simp
  rw [this, Bool.and_false]
theorem conv_own {w : World} {base g n cap : Nat} {bs : List Int} (hl : bs.length = n) (h : w.ownsRow base 5 1 (.slice (some ⟨g, 0, none⟩) n cap) n (bs.map (Value.int .u8))) :
    (convert 38 9 (.slice (some ⟨g, 0, none⟩) n cap)).run Yba.prog w = .ok (.string (strOfNums bs)) w :=
  run_convert_bytes_arg w 38 5 Yba.underlying38 Yba.underlying5 g 0 n cap bs hl (fun i hi => by
    rw [Nat.zero_add, h.cellAt i (by omega)]
    simp [List.getElem?_map, List.getD, List.getElem?_eq_getElem (show i < bs.length by omega)]) 9 Yba.underlying9
theorem conv_put {w : World} {base g n cap p : Nat} {bs : List Int} {b : Int} (hl : bs.length = n) (h : w.ownsRow base 5 1 (.slice (some ⟨g, 0, none⟩) n cap) n (bs.map (Value.int .u8))) :
    (convert 38 9 (.slice (some ⟨g, 0, none⟩) n cap)).run Yba.prog (w.setCell ⟨g, p, none⟩ (.int .u8 b)) = .ok (.string (strOfNums (bs.set p b))) (w.setCell ⟨g, p, none⟩ (.int .u8 b)) := by
  have := (h.stored p (.int .u8 b)).1
  rw [← List.map_set] at this
  exact conv_own (by simpa using hl) this
theorem cell_own {w : World} {base g n cap p : Nat} {bs : List Int} (hl : bs.length = n) (hp : p < n) (h : w.ownsRow base 5 1 (.slice (some ⟨g, 0, none⟩) n cap) n (bs.map (Value.int .u8))) :
    w.cell? ⟨g, p, none⟩ = some (.int .u8 (bs.getD p 0)) := by
  rw [h.cellAt p (by omega)]
  simp [List.getElem?_map, List.getD, List.getElem?_eq_getElem (show p < bs.length by omega)]
theorem alphas_mem (zs : List Int) (k : Nat) : ∀ x ∈ alphas zs k, okB x = true ∧ 0 ≤ x ∧ x ≤ 255 := by
  intro x hx
  simp only [alphas, List.mem_map] at hx
  obtain ⟨i, _, rfl⟩ := hx
  exact alphaAt_ok _

set_option maxHeartbeats 1000000 in
theorem core (a0 : Option Addr) (len0 cap0 : Nat) (z0 : List Int) (a1 : Int) (a2 : Int) (w : World) (hlen : len0 ≤ 1024)
    (ha : 0 < len0 → ∃ b off, a0 = some ⟨b, off, none⟩ ∧ ∀ i, i < len0 → w.cell? ⟨b, off + i, none⟩ = some (.int .u8 (z0.getD i 0)))
    (hz : ∀ i, 0 ≤ z0.getD i 0 ∧ z0.getD i 0 ≤ 255)
    (p0 : 0 ≤ a1) (p1 : a1 < 18446744073709551616) (q0 : 0 ≤ a2) (q1 : a2 ≤ 255) :
    Calls Yba.prog 6 #[.slice a0 len0 cap0, .int .u64 a1, .int .u8 a2] w fun e w' => e = .returned (.bool true) ∧ Below w.heap.size w w' := by
  obtain ⟨i0, hi, hz0, hz1, hz2⟩ := info_parts Yba.info5
  go_enter Yba.func6, Yba.ntmps6
  go_wp2_with (at_make; refine wpList_make_own _ rfl _ _ 38 rfl w.heap.size 5 i0 (.int .u8 0) 1 Yba.underlying38 hi hz0 hz1 _ _ _ (len0 + 1) rfl rfl (by omega) ?b2 ?b3 (Nat.le_refl _) ?_)
  case b2 => rw [hz2]; omega
  case b3 => unfold maxLen; omega
  intro w0 hown0 hgrow0
  go_wp2
  go_loopw [7, 8] (fun out si wr => ∃ (k : Nat), k ≤ len0 ∧ si = .int .i64 k ∧ out = .slice (some ⟨w.heap.size, 0, none⟩) k (len0 + 1) ∧
      wr.ownsRow w.heap.size 5 1 (.slice (some ⟨w.heap.size, 0, none⟩) k (len0 + 1)) k ((alphas z0 k).map (Value.int .u8)) ∧ Below w.heap.size w wr)
    (fun _ si _ => len0 - (intOf si).toNat)
  case atStart => exact ⟨0, Nat.zero_le _, rfl, rfl, hown0, (Below.refl _ _).grown hgrow0 (Nat.le_refl _) (fun k h => by cases h)⟩
  case round =>
    obtain ⟨k, hk, rfl, rfl, hown, hnx⟩ := hrel
    by_cases hlt : k < len0
    · obtain ⟨b, off, rfl, hc⟩ := ha (by omega)
      have hbB : b < w.heap.size := cell_lt (hc k hlt)
      have hcx : wr.cell? ⟨b, off + k, none⟩ = some (.int .u8 (z0.getD k 0)) := (hnx.cell (by exact hbB)).trans (hc k hlt)
      obtain ⟨hy0, hy1⟩ := hz k
      generalize hy : z0.getD k 0 = y at *
      clear hc ha
      have hix := index_alpha y
      go_wp2_with (at_builtin; (refine wpList_append_fits _ rfl (.tmp 24) (.tmp 32) 38 rfl w.heap.size 5 i0 1 Yba.underlying38 hi hz1 w.heap.size k (len0 + 1) _ rfl (hown.alloc _) ⟨wr.heap.size, 0, none⟩ 1 1 [.int .u8 (alphaAt y)] rfl rfl (cell_one_new _ _ _) (by intro u hu; simp at hu; subst hu; rfl) (by omega) ?_; intro w1 hown1 hgrow1))
      go_roundw
      case rel => exact ⟨k + 1, by omega, by go_num, rfl, by rw [alphas_succ, hy]; simpa using hown1, (hnx.alloc hnx.size _).grown hgrow1 (by simp; have := hnx.size; omega) (fun k hk => by cases hk; exact Nat.le_refl _)⟩
      case measure => simp [intOf]; omega
    · obtain rfl : k = len0 := by omega
      clear ha hlt
      by_cases hk0 : k = 0
      · subst hk0
        have hke := keyS_empty
        have hse : ByteArray.size ⟨#[]⟩ ≤ maxLen := by unfold maxLen; simp [ByteArray.size]
        have e0 : alphas z0 0 = [] := rfl
        rw [e0] at hown
        clear e0 hz
        have hg1 : keyS (strOfNums [97]) = true := keyS_built [97] (by simp) (by intro x hx; simp at hx; subst hx; exact ⟨rfl, by omega, by omega⟩)
        have hsz : (strOfNums [97]).size ≤ maxLen := by rw [strOfNums_size]; unfold maxLen; simp
        have hp : a1 % 1 = 0 := by omega
        by_cases hok : okB a2 = true
        · have hbd := of_okB hok
          have hb2 : a2 ≤ 122 := by omega
          have hg2 : keyS (strOfNums [a2 + 128]) = false := keyS_spoilt [97] 0 (by simp) _ (okB_false (by omega)) (by omega) (by omega)
          have hsz2 : (strOfNums [a2 + 128]).size ≤ maxLen := by rw [strOfNums_size]; unfold maxLen; simp
          clear hbd
          go_wp2_with (first | (go_at_call 11; refine (cok_any _ _ q0 q1).mono ?_; rintro e w' ⟨rfl, rfl⟩) | (go_at_call 12; refine (valid_s _ _ ?_).mono ?_; (first | exact hse | exact hsz | exact hsz2); rintro e w' ⟨rfl, hw⟩; replace hw := hw.symm; subst hw) | (at_builtin; (refine wpList_append_fits _ rfl (.tmp 38) (.tmp 39) 38 rfl w.heap.size 5 i0 1 Yba.underlying38 hi hz1 w.heap.size 0 (0 + 1) _ rfl (hown.alloc _) ⟨wr.heap.size, 0, none⟩ 1 1 [.int .u8 97] rfl rfl (cell_one_new _ _ _) (by intro u hu; simp at hu; subst hu; rfl) (by omega) ?_; intro w1 hown1 hgrow1; simp only [Nat.zero_add, List.map_nil, List.nil_append] at hown1; have hcv := conv_own (bs := [97]) (n := 1) rfl hown1; have hcp := cell_own (bs := [97]) (p := 0) (n := 1) rfl (by decide) hown1; have hfp := hown1.frozenAt 0; have hcv2 := conv_put (bs := [97]) (p := 0) (b := a2 + 128) (n := 1) rfl hown1; have hcv2' : (convert 38 9 (.slice (some ⟨w.heap.size, 0, none⟩) 1 1)).run Yba.prog (w1.setCell ⟨w.heap.size, 0, none⟩ (.int .u8 (a2 + 128))) = .ok (.string (strOfNums [a2 + 128])) (w1.setCell ⟨w.heap.size, 0, none⟩ (.int .u8 (a2 + 128))) := hcv2; clear hcv2)))
          go_ret
          exact ⟨rfl, ((hnx.alloc hnx.size _).grown hgrow1 (by simp; have := hnx.size; omega) (fun k hk => by cases hk; exact Nat.le_refl _)).setCell (Nat.le_refl _) _⟩
        · have hno : okB a2 = false := by simpa using hok
          clear hok
          have hg2 : keyS (strOfNums [a2]) = false := keyS_spoilt [97] 0 (by simp) _ hno q0 q1
          have hsz2 : (strOfNums [a2]).size ≤ maxLen := by rw [strOfNums_size]; unfold maxLen; simp
          go_wp2_with (first | (go_at_call 11; refine (cok_any _ _ q0 q1).mono ?_; rintro e w' ⟨rfl, rfl⟩) | (go_at_call 12; refine (valid_s _ _ ?_).mono ?_; (first | exact hse | exact hsz | exact hsz2); rintro e w' ⟨rfl, hw⟩; replace hw := hw.symm; subst hw) | (at_builtin; (refine wpList_append_fits _ rfl (.tmp 38) (.tmp 39) 38 rfl w.heap.size 5 i0 1 Yba.underlying38 hi hz1 w.heap.size 0 (0 + 1) _ rfl (hown.alloc _) ⟨wr.heap.size, 0, none⟩ 1 1 [.int .u8 97] rfl rfl (cell_one_new _ _ _) (by intro u hu; simp at hu; subst hu; rfl) (by omega) ?_; intro w1 hown1 hgrow1; simp only [Nat.zero_add, List.map_nil, List.nil_append] at hown1; have hcv := conv_own (bs := [97]) (n := 1) rfl hown1; have hcp := cell_own (bs := [97]) (p := 0) (n := 1) rfl (by decide) hown1; have hfp := hown1.frozenAt 0; have hcv2 := conv_put (bs := [97]) (p := 0) (b := a2) (n := 1) rfl hown1; have hcv2' : (convert 38 9 (.slice (some ⟨w.heap.size, 0, none⟩) 1 1)).run Yba.prog (w1.setCell ⟨w.heap.size, 0, none⟩ (.int .u8 (a2))) = .ok (.string (strOfNums [a2])) (w1.setCell ⟨w.heap.size, 0, none⟩ (.int .u8 (a2))) := hcv2; clear hcv2)))
          go_ret
          exact ⟨rfl, ((hnx.alloc hnx.size _).grown hgrow1 (by simp; have := hnx.size; omega) (fun k hk => by cases hk; exact Nat.le_refl _)).setCell (Nat.le_refl _) _⟩
      · have hk1 : 1 ≤ k := by omega
        have hkb : ((k : Int) == 0) = false := by simp; omega
        obtain ⟨bs, hbs⟩ : ∃ bs, bs = alphas z0 k := ⟨_, rfl⟩
        have hl : bs.length = k := by rw [hbs]; exact alphas_length z0 k
        have hmem : ∀ x ∈ bs, okB x = true ∧ 0 ≤ x ∧ x ≤ 255 := by rw [hbs]; exact alphas_mem z0 k
        rw [← hbs] at hown
        clear hbs hz
        have hg1 : keyS (strOfNums bs) = true := keyS_built bs (by omega) hmem
        obtain ⟨p, hp⟩ : ∃ p : Nat, a1 % (k : Int) = p := ⟨(a1 % (k : Int)).toNat, by have := Int.emod_nonneg a1 (show (k : Int) ≠ 0 by omega); omega⟩
        have hpk : p < k := by have := Int.emod_lt_of_pos a1 (show (0 : Int) < k by omega); omega
        have hcv := conv_own hl hown
        have hcp := cell_own hl hpk hown
        have hfp := hown.frozenAt p
        have hsz : (strOfNums bs).size ≤ maxLen := by rw [strOfNums_size]; unfold maxLen; omega
        by_cases hok : okB a2 = true
        · have hcv2 := conv_put (p := p) (b := a2 + 128) hl hown
          have hbd := of_okB hok
          have hb2 : a2 ≤ 122 := by omega
          have hg2 : keyS (strOfNums (bs.set p (a2 + 128))) = false := keyS_spoilt bs p (by omega) _ (okB_false (by omega)) (by omega) (by omega)
          have hsz2 : (strOfNums (bs.set p (a2 + 128))).size ≤ maxLen := by rw [strOfNums_size]; unfold maxLen; simp; omega
          clear hbd hmem
          go_wp2_with (first | (go_at_call 11; refine (cok_any _ _ q0 q1).mono ?_; rintro e w' ⟨rfl, rfl⟩) | (go_at_call 12; refine (valid_s _ _ ?_).mono ?_; (first | exact hsz | exact hsz2); rintro e w' ⟨rfl, rfl⟩))
          go_ret
          exact ⟨rfl, hnx.setCell (Nat.le_refl _) _⟩
        · have hno : okB a2 = false := by simpa using hok
          clear hok
          have hcv2 := conv_put (p := p) (b := a2) hl hown
          have hg2 : keyS (strOfNums (bs.set p a2)) = false := keyS_spoilt bs p (by omega) _ hno q0 q1
          have hsz2 : (strOfNums (bs.set p a2)).size ≤ maxLen := by rw [strOfNums_size]; unfold maxLen; simp; omega
          clear hmem
          go_wp2_with (first | (go_at_call 11; refine (cok_any _ _ q0 q1).mono ?_; rintro e w' ⟨rfl, rfl⟩) | (go_at_call 12; refine (valid_s _ _ ?_).mono ?_; (first | exact hsz | exact hsz2); rintro e w' ⟨rfl, rfl⟩))
          go_ret
          exact ⟨rfl, hnx.setCell (Nat.le_refl _) _⟩

/-! ### STEP 1: THE WALK -/
theorem walk (a0 : Option Addr) (len0 cap0 : Nat) (z0 : List Int) (a1 : Int) (a2 : Int) (w : World) (w0 : IsRow .u8 w a0 len0 cap0 z0) (w1 : (Lit.int .u64 a1).wf = true) (w2 : (Lit.int .u8 a2).wf = true) :
    Calls Yba.prog 6 #[.slice a0 len0 cap0, .int .u64 a1, .int .u8 a2] w fun e w' => e = .returned (.bool true) ∧ Below w.heap.size w w' := by
  obtain ⟨p0, p1⟩ := bounds_u64 w1
  obtain ⟨q0, q1⟩ := bounds_u8 w2
  by_cases hbig : 1024 < len0
  · have hbig' : (1024 : Int) < (len0 : Int) := by omega
    have hm : (len0 : Int) ≤ 9223372036854775807 := by
      rcases w0 with ⟨_, h, _⟩ | ⟨x, _, h, h', _⟩
      · omega
      · unfold maxLen at h'; omega
    go_enter Yba.func6, Yba.ntmps6
    go_wp2
    go_ret
    exact ⟨rfl, Below.refl _ _⟩
  · refine core a0 len0 cap0 z0 a1 a2 w (by omega) ?_ ?_ p0 (by omega) q0 q1
    · intro h
      rcases w0 with ⟨_, h', _⟩ | ⟨x, rfl, hlc, _, hzl, hcell, _⟩
      · omega
      · obtain ⟨b, off, rfl, hc⟩ := ints_at hcell (by omega)
        exact ⟨b, off, rfl, fun i hi => hc i (by omega)⟩
    · rcases w0 with ⟨_, _, _, rfl⟩ | ⟨x, rfl, hlc, _, hzl, hcell, hwf⟩
      · intro i; simp
      · have := range_u8 hwf
        intro i
        simpa [List.getD] using this i

/-! ### THE ROW's STEP: WRITTEN OUT: LEAVE IT -/
set_option maxRecDepth 100000 in
theorem lifted (os : Os) (started : os.Started) (H : Type) (enc : TypeId × Value → H) :
    ReturnsInHanded {} Yba.checked os 6 .any (Rows.lawS2975CBuiltSpec.pre6 enc Yba.prog Yba.f6 Rows.lawS2975CBuiltRow.domain false) (Rows.lawS2975CBuiltSpec.post enc Yba.prog Yba.f6 false true false false) := by
  refine returnsInHanded_of_change (C := Yba.checked) own started (by kernel_rfl) Yba.func6
    (ChangeSpec.witness6 (enc := enc) (C := Yba.checked) false ⟨#[], #[.slice none 0 0, .int .u64 0, .int .u8 0], []⟩ 8 (by kernel_rfl) (by kernel_rfl) (by kernel_rfl) (by kernel_rfl)) ?_
  intro W base args ds gs before hval0 hW hcnd _
  have hval : ∀ (j : Nat) t v, Yba.f6.params[j]? = some t → args[j]? = some v → Value.okWide Yba.prog W .any base t v := hval0
  have hW' := hW
  obtain ⟨p, q, hA0, hV, rfl, hfz, hnd⟩ := hW
  have hA : DataW.TrodAll enc Yba.prog W 0 (fun _ => true) true Yba.f6.params.toList args.toList ds p := hA0
  rw [Yba.params6] at hA hval
  obtain ⟨v0, vs0, d0, ds0, p0, q0, hargs, rfl, rfl, h0, r0⟩ := trodAll_cons hA
  obtain ⟨v1, vs1, d1, ds1, p1, q1, rfl, rfl, rfl, h1, r1⟩ := trodAll_cons r0
  obtain ⟨v2, vs2, d2, ds2, p2, q2, rfl, rfl, rfl, h2, r2⟩ := trodAll_cons r1
  obtain ⟨rfl, rfl, rfl⟩ := trodAll_nil r2
  obtain rfl : args = #[v0, v1, v2] := by cases args; simp_all
  obtain ⟨rfl, rfl⟩ := trodVars_none hV
  obtain ⟨a0, len0, cap0, rfl⟩ := okWide_slice Yba.underlying38 (hval 0 38 v0 rfl rfl)
  have k0 := h0
  have lt0 : ∀ x ∈ p0, x.block < W.heap.size := by obtain ⟨m, hm⟩ := k0; exact DataW.trod_lt m _ _ _ hm
  obtain ⟨z0, w0⟩ : ∃ zs, IsRow .u8 W a0 len0 cap0 zs := by
    obtain ⟨fuel, hf⟩ := h0
    rcases open_ints Yba.underlying38 Yba.underlying5 (by kernel_rfl) hf with ⟨hcs, _⟩ | ⟨x, l, c, zs, hcs, _, hl, hm, hz, _, hcell, hwz⟩
    · simp [Value.cells] at hcs
      obtain ⟨rfl, rfl, rfl⟩ := hcs
      exact ⟨[], .inl ⟨rfl, rfl, rfl, rfl⟩⟩
    · simp [Value.cells] at hcs
      obtain ⟨rfl, rfl, rfl⟩ := hcs
      exact ⟨zs, .inr ⟨_, rfl, hl, hm, by simpa using hz, hcell, hwz⟩⟩
  obtain ⟨a1, rfl, rfl, rfl, w1⟩ := open_int Yba.underlying39 (hval 1 39 v1 rfl rfl) h1
  obtain ⟨a2, rfl, rfl, rfl, w2⟩ := open_int Yba.underlying5 (hval 2 5 v2 rfl rfl) h2
  clear hA0 hval0
  refine (walk a0 len0 cap0 z0 a1 a2 W w0 w1 w2).mono fun e W' ⟨he, bel⟩ => ?_
  subst he
  exact ⟨_, rfl, _, _, _, [], _, [], hW', trodAll_mk1 (shut_bool Yba.underlying4 _), (trodAll_cons_mk (Below.trod laidOut (by kernel_rfl) (of_decide_eq_true (by kernel_rfl)) k0 bel lt0) (trodAll_cons_mk (shut_int Yba.underlying39 w1) (trodAll_cons_mk (shut_int Yba.underlying5 w2) trodAll_mk0))), rfl, bel.frame _, fun h => by cases h⟩

theorem over : Rows.lawS2975CBuiltRow.holds Yba.pinned (OpenSpec.ofChange Rows.lawS2975CBuiltSpec) :=
  OpenClaim.holds_of_wide 6 Yba.f6 rfl rfl rfl rfl rfl rfl rfl ⟨rfl, rfl, rfl, rfl, rfl⟩ rfl rfl rfl rfl rfl (by kernel_rfl) Yba.func6 (by kernel_rfl)
    (of_decide_eq_true (by kernel_rfl)) (by unfold Func.isWrapper; first | (rw [if_pos (by decide +kernel)]; kernel_rfl) | (rw [if_neg (by decide +kernel)]; exact ⟨rfl, rfl⟩))
    (fun os started H enc _ => lifted os started H enc)

/-- ████ THE STATEMENT ████ -/
theorem proved : Rows.LawS2975CBuiltSaid := over
end Go.Proofs.Ybulkbioy.lawS2975CBuilt
namespace Go.Proofs.Ybulkbioy
theorem lawS2975CBuilt_proved : Rows.LawS2975CBuiltSaid := lawS2975CBuilt.proved
end Go.Proofs.Ybulkbioy
