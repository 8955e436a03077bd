/-
  DERIVED. Parts: the walks of slices.Clone at bytes and of appendBackslashed.
-/
import Derived.Test.YbulkbissRows
import Derived.WalkKit
import Derived.WalkSpells
import Derived.BigQuiet
import Derived.Deep.QuietTactic
namespace Go.Proofs.Ybulkbiss
open Go.RowKit

theorem Yba.info5 : (Yba.prog.info? 5).map (fun i => (i.zero, i.size, i.bytes)) = some (some (.int .u8 0), 1, 1) := by kernel_rfl

theorem nil_test (a : Option Addr) (n c : Nat) (w : World) : (binOp .eql 22 (.slice a n c) (.slice none 0 0)).run Yba.prog w = .ok (.bool a.isNone) w :=
  Lib.run_eql_slice_nil w 22 5 a n c 0 0 Yba.underlying22

set_option maxHeartbeats 400000 in
theorem clone_nil (w : World) :
    Calls Yba.prog 9 #[.slice none 0 0] w fun e w' => e = .returned (.slice none 0 0) ∧ w' = w := by
  have hn := nil_test none 0 0
  go_enter Yba.func9, Yba.ntmps9
  go_wp2
  go_ret
  exact ⟨rfl, rfl⟩

set_option maxHeartbeats 400000 in
theorem clone_some (x : Addr) (len cap : Nat) (zs : List Int) (w : World) (hlen : len ≤ 4096) (hzl : len ≤ zs.length)
    (hc : ∀ i, i < zs.length → w.cell? (x.add i) = some (.int .u8 (zs.getD i 0))) :
    Calls Yba.prog 9 #[.slice (some x) len cap] w fun e w' => ∃ v, e = .returned v ∧ w'.ownsRow w.heap.size 5 1 v len ((zs.take len).map (Value.int .u8)) ∧ Below w.heap.size w w' := by
  obtain ⟨i0, hi, hz0, hz1, hz2⟩ := info_parts Yba.info5
  have hn := nil_test (some x) len cap
  go_enter Yba.func9, Yba.ntmps9
  go_wp2_with (at_builtin; (refine wpList_append_own _ rfl (.tmp 5) (.tmp 6) 22 rfl w.heap.size 5 i0 (.int .u8 0) 1 1 Yba.underlying22 hi hz0 hz1 hz2 rfl (by decide) _ 0 [] rfl (World.ownsRow_lit w #[] 0 (Nat.le_refl _) (Nat.zero_le _) rfl) x len cap ((zs.take len).map (Value.int .u8)) rfl ?c0 ?c1 ?c2 ?c3 ?c4 ?c5 ?_))
  case c0 => simp; omega
  case c1 =>
    intro j u hj
    have hjl : j < len := by
      rcases Nat.lt_or_ge j len with h | h
      · exact h
      · rw [List.getElem?_eq_none (by simp; omega)] at hj; cases hj
    have hcj := hc j (by omega)
    have e : ((w.alloc (.cells #[] 5)).cell? (x.add j)) = w.cell? (x.add j) := World.cell?_alloc_old _ _ _ (Nat.ne_of_lt (World.block_lt_of_cell? _ _ hcj))
    rw [e, hcj]
    simp [List.getElem?_map, hjl, List.getElem?_eq_getElem (show j < zs.length by omega)] at hj
    subst hj
    simp [List.getD, List.getElem?_eq_getElem (show j < zs.length by omega)]
  case c2 => intro u hu; obtain ⟨n, _, rfl⟩ := List.mem_map.1 hu; rfl
  case c3 => unfold maxLen; omega
  case c4 => omega
  case c5 => simp
  intro v' w1 hown1 hgrow1 _
  go_wp2
  go_ret
  refine ⟨_, rfl, ?_, ((Below.refl _ _).alloc (Nat.le_refl _) _).grown hgrow1 (by simp) (fun k hk => by cases hk; exact Nat.le_refl _)⟩
  simpa using hown1

/-- One byte as 'appendBackslashed' writes it. -/
def bsl (c : Int) : Int := if c = 47 then 92 else c
/-- The first k bytes of s, each as 'appendBackslashed' writes it. -/
def bsls (s : ByteArray) (k : Nat) : List Int := (s.data.toList.take k).map fun c => bsl (c.toNat : Int)
theorem take_snoc (s : ByteArray) (k : Nat) (h : k < s.size) : s.data.toList.take (k + 1) = s.data.toList.take k ++ [s[k]] := by
  rw [List.take_succ_eq_append_getElem (by simpa using h)]; rfl
theorem bsls_succ (s : ByteArray) (k : Nat) (h : k < s.size) : bsls s (k + 1) = bsls s k ++ [bsl (s[k].toNat : Int)] := by
  simp only [bsls]; rw [take_snoc s k h]; simp
theorem bsls_length (s : ByteArray) (k : Nat) (h : k ≤ s.size) : (bsls s k).length = k := by
  simp [bsls]; omega

set_option maxHeartbeats 1000000 in
theorem bs_any (B : Nat) (v : Value) (n : Nat) (xs : List Int) (s : ByteArray) (w : World) (hn : n ≤ 4096) (hs : s.size ≤ 4096) (hB : B ≤ w.heap.size)
    (hown : w.ownsRow B 5 1 v n (xs.map (Value.int .u8))) :
    Calls Yba.prog 10 #[v, .string s] w fun e w' => ∃ v', e = .returned v' ∧ w'.ownsRow B 5 1 v' (n + s.size) ((xs ++ bsls s s.size).map (Value.int .u8)) ∧ Below B w w' := by
  obtain ⟨i0, hi, hz0, hz1, hz2⟩ := info_parts Yba.info5
  go_enter Yba.func10, Yba.ntmps10
  go_wp2
  go_loopw [0, 5] (fun out si wr => ∃ (k : Nat), k ≤ s.size ∧ si = .int .i64 k ∧
      wr.ownsRow B 5 1 out (n + k) ((xs ++ bsls s k).map (Value.int .u8)) ∧ Below B w wr)
    (fun _ si _ => s.size - (intOf si).toNat)
  case atStart => exact ⟨0, Nat.zero_le _, rfl, by simpa [bsls] using hown, Below.refl _ _⟩
  case round =>
    obtain ⟨k, hk, rfl, hown', hnx⟩ := hrel
    by_cases hlt : k < s.size
    · have hc0 : (0:Int) ≤ (s[k].toNat : Int) := by omega
      have hc1 : (s[k].toNat : Int) ≤ 255 := by have := s[k].toNat_lt; omega
      have hsz := hnx.size
      by_cases hsl : (s[k].toNat : Int) = 47
      · have hb : bsl (s[k].toNat : Int) = 92 := by simp only [bsl]; rw [if_pos hsl]
        have hsl' : ((s[k].toNat : Int) == 47) = true := by simpa using hsl
        clear hsl
        go_wp2_with (at_builtin; (refine wpList_append_own _ rfl (.tmp 18) (.tmp 20) 22 rfl B 5 i0 (.int .u8 0) 1 1 Yba.underlying22 hi hz0 hz1 hz2 rfl (by decide) _ (n + k) _ rfl (hown'.alloc _) ⟨wr.heap.size, 0, none⟩ 1 1 [.int .u8 92] rfl rfl (cell_one_new _ _ _) (by intro u hu; simp at hu; subst hu; rfl) (by unfold maxLen; omega) (by omega) (by simp; omega) ?_; intro v' w1 hown1 hgrow1 _))
        go_roundw
        case rel => exact ⟨k + 1, by omega, by go_num, by rw [bsls_succ s k hlt, hb]; simpa [Nat.add_assoc] using hown1, (hnx.alloc (Nat.le_trans hB hnx.size) _).grown hgrow1 (by simp; omega) (fun q hq => (hown'.lt q hq).1)⟩
        case measure => simp [intOf]; omega
      · have hb : bsl (s[k].toNat : Int) = (s[k].toNat : Int) := by simp only [bsl]; rw [if_neg hsl]
        have hsl' : ((s[k].toNat : Int) == 47) = false := by simpa using hsl
        clear hsl
        go_wp2_with (at_builtin; (refine wpList_append_own _ rfl (.tmp 18) (.tmp 20) 22 rfl B 5 i0 (.int .u8 0) 1 1 Yba.underlying22 hi hz0 hz1 hz2 rfl (by decide) _ (n + k) _ rfl (hown'.alloc _) ⟨wr.heap.size, 0, none⟩ 1 1 [.int .u8 (s[k].toNat : Int)] rfl rfl (cell_one_new _ _ _) (by intro u hu; simp at hu; subst hu; rfl) (by unfold maxLen; omega) (by omega) (by simp; omega) ?_; intro v' w1 hown1 hgrow1 _))
        go_roundw
        case rel => exact ⟨k + 1, by omega, by go_num, by rw [bsls_succ s k hlt, hb]; simpa [Nat.add_assoc] using hown1, (hnx.alloc (Nat.le_trans hB hnx.size) _).grown hgrow1 (by simp; omega) (fun q hq => (hown'.lt q hq).1)⟩
        case measure => simp [intOf]; omega
    · obtain rfl : k = s.size := by omega
      go_wp2
      go_ret
      exact ⟨_, rfl, hown', hnx⟩

/-- What an owned row of bytes looks like to a reader. -/
theorem shape {w : World} {B n : Nat} {v : Value} {xs : List Int} (h : w.ownsRow B 5 1 v n (xs.map (Value.int .u8))) :
    ∃ ao cap, v = .slice ao n cap ∧ (0 < n → ∃ g, ao = some ⟨g, 0, none⟩ ∧ ∀ i, i < n → w.cell? ⟨g, i, none⟩ = some (.int .u8 (xs.getD i 0))) := by
  have hl : xs.length = n := by have := h.1; simpa using this
  rcases h.2 with ⟨rfl, rfl⟩ | ⟨g, cap, cur, rfl, _⟩
  · exact ⟨none, 0, rfl, fun h => by omega⟩
  · refine ⟨some ⟨g, 0, none⟩, cap, rfl, fun _ => ⟨g, rfl, fun i hi => ?_⟩⟩
    rw [h.cellAt i (by omega)]
    simp [List.getElem?_map, List.getD, List.getElem?_eq_getElem (show i < xs.length by omega)]

end Go.Proofs.Ybulkbiss
