/-
  DERIVED. Keys: the plain functions behind 'zzs2975cok' and 'validKey', and the walks of both.
-/
import Derived.Test.YbulkbioyRows
import Derived.WalkKit
import Derived.WalkSpells
namespace Go.Proofs.Ybulkbioy
open Go.RowKit

/-- One byte of a key is allowed. -/
def okB (c : Int) : Bool := decide ((97 ≤ c ∧ c ≤ 122) ∨ (48 ≤ c ∧ c ≤ 57) ∨ c = 45)
/-- All bytes are allowed. -/
def allB (l : List UInt8) : Bool := l.all fun c => okB (c.toNat : Int)
/-- 'validKey', plainly. -/
def keyB (l : List UInt8) : Bool := !l.isEmpty && allB l

theorem okB_true {c : Int} (h : (97 ≤ c ∧ c ≤ 122) ∨ (48 ≤ c ∧ c ≤ 57) ∨ c = 45) : okB c = true := by
  simp only [okB]; exact decide_eq_true h
theorem okB_false {c : Int} (h : ¬ ((97 ≤ c ∧ c ≤ 122) ∨ (48 ≤ c ∧ c ≤ 57) ∨ c = 45)) : okB c = false := by
  simp only [okB]; exact decide_eq_false h
theorem of_okB {c : Int} (h : okB c = true) : (97 ≤ c ∧ c ≤ 122) ∨ (48 ≤ c ∧ c ≤ 57) ∨ c = 45 := by
  simp only [okB] at h; exact of_decide_eq_true h
theorem of_okB_not {c : Int} (h : okB c = false) : ¬ ((97 ≤ c ∧ c ≤ 122) ∨ (48 ≤ c ∧ c ≤ 57) ∨ c = 45) := by
  simp only [okB] at h; exact of_decide_eq_false h

theorem take_snoc (s : ByteArray) (k : Nat) (h : k < s.size) : s.data.toList.take (k + 1) = s.data.toList.take k ++ [s[k]] := by
  rw [List.take_succ_eq_append_getElem (by simpa using h)]; rfl
theorem allB_snoc (l : List UInt8) (c : UInt8) : allB (l ++ [c]) = (allB l && okB (c.toNat : Int)) := by
  simp [allB]
theorem allB_at (s : ByteArray) (k : Nat) (h : k < s.size) (h' : okB (s[k].toNat : Int) = false) : allB s.data.toList = false := by
  simp only [allB, List.all_eq_false]
  exact ⟨s[k], by simp [ByteArray.getElem_eq_getElem_data], by simp [h']⟩

theorem ret_bool {a b : Bool} (h : a = b) : Ending.returned (.bool a) = .returned (.bool b) := by rw [h]

set_option maxHeartbeats 400000 in
theorem cok_any (c : Int) (w : World) (h0 : 0 ≤ c) (h1 : c ≤ 255) :
    Calls Yba.prog 11 #[.int .u8 c] w fun e w' => e = .returned (.bool (okB c)) ∧ w' = w := by
  go_enter Yba.func11, Yba.ntmps11
  go_wp2
  all_goals go_ret
  · exact ⟨ret_bool (okB_true (by omega)).symm, rfl⟩
  · rename_i h; simp only [beq_eq_false_iff_ne] at h; exact ⟨ret_bool (okB_false (by omega)).symm, rfl⟩
  · exact ⟨ret_bool (okB_true (by omega)).symm, rfl⟩
  · have h : ¬ c = 45 := by intro h; subst h; contradiction
    exact ⟨ret_bool (okB_false (by omega)).symm, rfl⟩
  · have h : c = 45 := by simpa using ‹(c == 45) = true›
    exact ⟨ret_bool (okB_true (by omega)).symm, rfl⟩
  · have h : ¬ c = 45 := by simpa using ‹(c == 45) = false›
    exact ⟨ret_bool (okB_false (by omega)).symm, rfl⟩

set_option maxHeartbeats 400000 in
theorem valid_any (s : ByteArray) (w : World) (hs : s.size ≤ maxLen) :
    Calls Yba.prog 12 #[.string s] w fun e w' => e = .returned (.bool (keyB s.data.toList)) ∧ w' = w := by
  unfold maxLen at hs
  by_cases h : s.toList.isEmpty = true
  · go_enter Yba.func12, Yba.ntmps12
    go_wp2
    go_ret
    rw [ByteArray.toList_eq] at h
    exact ⟨ret_bool (by simp [keyB, h]), rfl⟩
  · have h' : s.toList.isEmpty = false := by simpa using h
    clear h
    have hk : Hid (keyB s.data.toList = allB s.data.toList) := by
      rw [ByteArray.toList_eq] at h'
      show _ = _
      simp only [keyB, h']; rfl
    go_enter Yba.func12, Yba.ntmps12
    go_wp2
    go_loop [9] (fun i => ∃ k : Nat, k ≤ s.size ∧ i = .int .i64 k ∧ allB (s.data.toList.take k) = true) (fun i => s.size - (intOf i).toNat)
    case atStart => exact ⟨0, Nat.zero_le _, rfl, rfl⟩
    case round =>
      obtain ⟨k, hk1, rfl, hall0⟩ := hrel
      have hall : Hid (allB (s.data.toList.take k) = true) := hall0
      clear hall0
      by_cases hlt : k < s.size
      · have hc0 : (0:Int) ≤ (s[k].toNat : Int) := by omega
        have hc1 : (s[k].toNat : Int) ≤ 255 := by have := s[k].toNat_lt; omega
        go_wp2
        all_goals first
          | (go_ret
             refine ⟨ret_bool ?_, rfl⟩
             rw [hk.out, allB_at s k hlt (okB_false (by simp only [bne_iff_ne, ne_eq] at *; omega))])
          | (have hok : okB (s[k].toNat : Int) = true := okB_true (by simp only [bne_eq_false_iff_eq] at *; omega)
             go_round
             case rel => exact ⟨k + 1, by omega, by go_num, by rw [take_snoc s k hlt, allB_snoc, hall.out, hok]; rfl⟩
             case measure => simp [intOf]; omega)
      · go_wp2
        go_ret
        refine ⟨ret_bool ?_, rfl⟩
        rw [hk.out]
        have := hall.out
        rw [List.take_of_length_le (by simp; omega)] at this
        exact this.symm
end Go.Proofs.Ybulkbioy
