/-
  DERIVED. Floats: what a float operation gives, whatever the operands; the walks of the closures and of the small functions on grids.
-/
import Derived.Test.YbulkbioyRows
import Derived.Test.YbulkbioyGrid
import Derived.WalkKit
import Derived.WalkSpells
import Derived.WalkLawsBesides
import Derived.Deep.Draws
import Derived.Laws.FloatArith
import Derived.OpenShut
namespace Go.Proofs.Ybulkbioy
open Go.RowKit

theorem store_float (a : Addr) (k : FloatKind) (n : Nat) (m : Mode) (w : World) : (store a (.float k n) m).run Yba.prog w = stored Yba.prog w a (.float k n) m := run_store Yba.prog w a _ m rfl
attribute [local go_sem] store_float

theorem arith_any (op : BinOp) (hop : op = .add ∨ op = .mul ∨ op = .quo) (t : TypeId) (x y : Nat) (w : World) :
    ∃ r d, (binOp op t (.float .f64 x) (.float .f64 y)).run Yba.prog w = .ok (.float .f64 r) (w.drewN d) ∧ ∀ r', floatBits op .f64 x y = some r' → r = r' ∧ d = 0 := by
  cases h : floatBits op .f64 x y with
  | some r => exact ⟨r, 0, run_float_arith w op t .f64 x y r h, fun r' e => ⟨by injection e, rfl⟩⟩
  | none =>
    rcases hop with rfl | rfl | rfl
    all_goals
      simp only [floatBits] at h
      refine ⟨(Question.nanBits .f64 x y).cut (w.tape w.drawn (.nanBits .f64 x y)), 1, ?_, fun r' e => by cases e⟩
      simp [binOp, Op.floatArith, h, Question.forced]
      rfl

theorem conv_any (x : Nat) (w : World) :
    ∃ n d, (convert 23 21 (.float .f64 x)).run Yba.prog w = .ok (.int .i32 n) (w.drewN d) ∧ (Lit.int .i32 n).wf = true ∧ ∀ m, floatToIntVal .f64 x .i32 = some m → n = m ∧ d = 0 := by
  cases h : floatToIntVal .f64 x .i32 with
  | some n => exact ⟨n, 0, run_convert_float_int w 23 21 .f64 .i32 x n (by kernel_rfl) Yba.underlying21 h, floatToIntVal_wf h, fun m e => ⟨by injection e, rfl⟩⟩
  | none =>
    refine ⟨IntKind.i32.wrap ((Question.floatToInt .f64 x .i32).cut (w.tape w.drawn (.floatToInt .f64 x .i32)) : Nat), 1, ?_, ?_, fun m e => by cases e⟩
    · unfold floatToIntVal at h
      have hu : Yba.prog.underlying 23 = some (.float .f64) := Yba.underlying23
      split at h
      · rename_i m he
        split at h
        · cases h
        · rename_i hb
          simp [convert, run_underlying hu, run_underlying Yba.underlying21, Conv.floatToInt, he, hb, Question.forced]
          rfl
      · rename_i he
        simp [convert, run_underlying hu, run_underlying Yba.underlying21, Conv.floatToInt, he, Question.forced]
        rfl
    · exact wf_wrap _ _

/-- A 32-bit result within bounds; where V names it, that very one; the world has at most drawn. -/
def Ranged (w : World) (lo hi : Int) (V : Option Int) (e : Ending) (w' : World) : Prop :=
  ∃ n d, e = .returned (.int .i32 n) ∧ w' = w.drewN d ∧ lo ≤ n ∧ n ≤ hi ∧ ∀ m, V = some m → n = m

theorem wrap32_bd (n : Int) : -2147483648 ≤ wrap32 n ∧ wrap32 n ≤ 2147483647 := by unfold wrap32; omega

theorem bind_some {α β : Type} {o : Option α} {f : α → Option β} {b : β} (h : o.bind f = some b) : ∃ a, o = some a ∧ f a = some b := Option.bind_eq_some_iff.1 h

set_option maxHeartbeats 400000 in
theorem first_any (bc bh cs hs : Nat) (i : Int) (w : World) (hc : w.cell? ⟨bc, 0, none⟩ = some (.float .f64 cs)) (hh : w.cell? ⟨bh, 0, none⟩ = some (.float .f64 hs)) :
    Calls Yba.prog 14 #[.int .i32 i, .pointer (some ⟨bc, 0, none⟩), .pointer (some ⟨bh, 0, none⟩)] w (Ranged w 0 2147483647 (Grid.firstV cs hs i)) := by
  obtain ⟨p, d1, hp, hp'⟩ := arith_any .mul (by simp) 23 (floatOfInt .f64 i) cs w
  obtain ⟨q, d2, hq, hq'⟩ := arith_any .quo (by simp) 23 p hs (w.drewN d1)
  obtain ⟨n, d3, hn, hw, hn'⟩ := conv_any q (w.drewN (d1 + d2))
  rw [World.drewN_drewN] at hq hn
  obtain ⟨n0, n1⟩ := wrap32_bd (n - 1)
  have H : Hid (∀ m, Grid.firstV cs hs i = some m → (if 0 < wrap32 (n - 1) then wrap32 (n - 1) else 0) = m) := by
    intro m hm
    obtain ⟨p0, e1, hm⟩ := bind_some hm
    obtain ⟨q0, e2, hm⟩ := bind_some hm
    obtain ⟨k0, e3, rfl⟩ := Option.map_eq_some_iff.1 hm
    rw [← (hp' p0 e1).1] at e2
    rw [← (hq' q0 e2).1] at e3
    rw [(hn' k0 e3).1]
  clear hp' hq' hn' hw
  by_cases ht : 0 < wrap32 (n - 1)
  · have H' := H.out
    rw [if_pos ht] at H'
    have H2 : Hid (∀ m, Grid.firstV cs hs i = some m → wrap32 (n - 1) = m) := H'
    clear H H'
    go_enter Yba.func14, Yba.ntmps14
    go_wp2
    go_ret
    exact ⟨_, _, rfl, rfl, by omega, n1, H2.out⟩
  · have H' := H.out
    rw [if_neg ht] at H'
    have H2 : Hid (∀ m, Grid.firstV cs hs i = some m → 0 = m) := H'
    clear H H'
    go_enter Yba.func14, Yba.ntmps14
    go_wp2
    go_ret
    exact ⟨_, _, rfl, rfl, by omega, by omega, H2.out⟩

set_option maxHeartbeats 400000 in
theorem last_any (bc bh cs hs : Nat) (ha i : Int) (w : World) (ha0 : 1 ≤ ha) (ha1 : ha ≤ 15) (i0 : -32768 ≤ i) (i1 : i ≤ 32767)
    (hc : w.cell? ⟨bc, 0, none⟩ = some (.float .f64 cs)) (hh : w.cell? ⟨bh, 0, none⟩ = some (.float .f64 hs)) (hb : w.cell? ⟨bh, 1, none⟩ = some (.int .i32 ha)) :
    Calls Yba.prog 15 #[.int .i32 i, .pointer (some ⟨bh, 0, none⟩), .pointer (some ⟨bc, 0, none⟩)] w (Ranged w (-2147483648) (ha - 1) (Grid.lastV hs ha cs i)) := by
  obtain ⟨p, d1, hp, hp'⟩ := arith_any .mul (by simp) 23 (floatOfInt .f64 (i + 1)) cs w
  obtain ⟨q, d2, hq, hq'⟩ := arith_any .quo (by simp) 23 p hs (w.drewN d1)
  obtain ⟨n, d3, hn, hw, hn'⟩ := conv_any q (w.drewN (d1 + d2))
  rw [World.drewN_drewN] at hq hn
  obtain ⟨n0, n1⟩ := wrap32_bd (n + 1)
  have H : Hid (∀ m, Grid.lastV hs ha cs i = some m → (if wrap32 (n + 1) < ha - 1 then wrap32 (n + 1) else ha - 1) = m) := by
    intro m hm
    obtain ⟨p0, e1, hm⟩ := bind_some hm
    obtain ⟨q0, e2, hm⟩ := bind_some hm
    obtain ⟨k0, e3, rfl⟩ := Option.map_eq_some_iff.1 hm
    rw [← (hp' p0 e1).1] at e2
    rw [← (hq' q0 e2).1] at e3
    rw [(hn' k0 e3).1]
  clear hp' hq' hn' hw
  by_cases ht : wrap32 (n + 1) < ha - 1
  · have H' := H.out
    rw [if_pos ht] at H'
    have H2 : Hid (∀ m, Grid.lastV hs ha cs i = some m → wrap32 (n + 1) = m) := H'
    clear H H'
    go_enter Yba.func15, Yba.ntmps15
    go_wp2
    go_ret
    exact ⟨_, _, rfl, rfl, by omega, by omega, H2.out⟩
  · have H' := H.out
    rw [if_neg ht] at H'
    have H2 : Hid (∀ m, Grid.lastV hs ha cs i = some m → ha - 1 = m) := H'
    clear H H'
    go_enter Yba.func15, Yba.ntmps15
    go_wp2
    go_ret
    exact ⟨_, _, rfl, rfl, by omega, by omega, H2.out⟩

theorem min_f (x y m : Nat) (h : Grid.minF x y = some m) (w : World) : (Builtin.min_ #[23, 23] 23 #[.float .f64 x, .float .f64 y]).run Yba.prog w = .ok (.float .f64 m) w := by
  unfold Grid.minF at h
  simp only [Builtin.min_, List.foldlM_cons, List.foldlM_nil, Builtin.min2]
  split at h
  · cases h
  all_goals
    rename_i e
    cases h
    simp [e]

set_option maxHeartbeats 400000 in
theorem mid_at (bh hs x : Nat) (i : Int) (w : World) (hh : w.cell? ⟨bh, 0, none⟩ = some (.float .f64 hs)) (hx : Grid.midV hs i = some x) :
    Calls Yba.prog 21 #[.int .i32 i, .pointer (some ⟨bh, 0, none⟩)] w fun e w' => e = .returned (.float .f64 x) ∧ w' = w := by
  obtain ⟨lo, e1, hx⟩ := bind_some hx
  obtain ⟨hi, e2, hx⟩ := bind_some hx
  obtain ⟨m, e3, hx⟩ := bind_some hx
  obtain ⟨s, e4, e5⟩ := bind_some hx
  have h1 := run_float_arith (P := Yba.prog) w .mul 23 .f64 _ _ lo e1
  have h2 := run_float_arith (P := Yba.prog) w .add 23 .f64 _ _ hi e2
  have h3 : (Builtin.min_ #[23, 23] 23 #[.float .f64 hi, .float .f64 4607182418800017408]).run Yba.prog w = .ok (.float .f64 m) w := min_f _ _ m e3 w
  have h4 := run_float_arith (P := Yba.prog) w .add 23 .f64 _ _ s e4
  have h5 : (binOp .quo 23 (.float .f64 s) (.float .f64 4611686018427387904)).run Yba.prog w = .ok (.float .f64 x) w := run_float_arith (P := Yba.prog) w .quo 23 .f64 _ _ x e5
  clear hx e1 e2 e3 e4 e5
  go_enter Yba.func21, Yba.ntmps21
  go_wp2
  go_ret
  exact ⟨rfl, rfl⟩

set_option maxHeartbeats 400000 in
theorem index_at (cs x : Nat) (ca t : Int) (w : World) (ca0 : 1 ≤ ca) (ca1 : ca ≤ 15) (ht : Grid.idxV cs ca x = some t) :
    Calls Yba.prog 20 #[.agg #[.float .f64 cs, .int .i32 ca], .float .f64 x] w fun e w' => e = .returned (.int .i32 t) ∧ w' = w.alloc (.cells #[.float .f64 cs, .int .i32 ca] 25) := by
  obtain ⟨q, e1, ht⟩ := bind_some ht
  obtain ⟨n, e2, rfl⟩ := Option.map_eq_some_iff.1 ht
  have h1 := fun w => run_float_arith (P := Yba.prog) w .quo 23 .f64 _ _ q e1
  have h2 := fun w => run_convert_float_int (P := Yba.prog) w 23 21 .f64 .i32 q n (by kernel_rfl) Yba.underlying21 e2
  clear ht e1 e2
  by_cases hlt : ca - 1 < n
  · rw [if_pos hlt]
    go_enter Yba.func20, Yba.ntmps20
    go_wp2
    go_ret
    exact ⟨rfl, rfl⟩
  · rw [if_neg hlt]
    go_enter Yba.func20, Yba.ntmps20
    go_wp2
    go_ret
    exact ⟨rfl, rfl⟩

set_option maxHeartbeats 800000 in
theorem owner_at (hs cs : Nat) (ha ca i t : Int) (w : World) (ca0 : 1 ≤ ca) (ca1 : ca ≤ 15) (ht : Grid.ownerV hs cs ca i = some t) :
    Calls Yba.prog 10 #[.agg #[.float .f64 hs, .int .i32 ha], .agg #[.float .f64 cs, .int .i32 ca], .int .i32 i] w fun e w' => e = .returned (.int .i32 t) ∧ Below w.heap.size w w' := by
  obtain ⟨lo, e1, ht⟩ := bind_some ht
  obtain ⟨hi, e2, ht⟩ := bind_some ht
  obtain ⟨s, e4, ht⟩ := bind_some ht
  obtain ⟨x, e5, ht⟩ := bind_some ht
  obtain ⟨q, e6, ht⟩ := bind_some ht
  obtain ⟨n, e7, rfl⟩ := Option.map_eq_some_iff.1 ht
  have h1 := fun w => run_float_arith (P := Yba.prog) w .mul 23 .f64 _ _ lo e1
  have h2 := fun w => run_float_arith (P := Yba.prog) w .add 23 .f64 _ _ hi e2
  have h5 : ∀ w, (binOp .quo 23 (.float .f64 s) (.float .f64 4611686018427387904)).run Yba.prog w = .ok (.float .f64 x) w := fun w => run_float_arith (P := Yba.prog) w .quo 23 .f64 _ _ x e5
  have h6 := fun w => run_float_arith (P := Yba.prog) w .quo 23 .f64 _ _ q e6
  have h7 := fun w => run_convert_float_int (P := Yba.prog) w 23 21 .f64 .i32 q n (by kernel_rfl) Yba.underlying21 e7
  clear ht e1 e2 e5 e6 e7
  have hbel : ∀ (o1 o2 : Obj), Below w.heap.size w ((w.alloc o1).alloc o2) := fun o1 o2 => ((Below.refl _ _).alloc (Nat.le_refl _) _).alloc (by simp) _
  by_cases hg : (FloatKind.f64.format.order hi 4607182418800017408 == some .gt) = true
  · have e4' : floatBits .add .f64 lo 4607182418800017408 = some s := by
      have e4'' := e4
      unfold Grid.one at e4''
      rw [if_pos hg] at e4''
      exact e4''
    have h4 := fun w => run_float_arith (P := Yba.prog) w .add 23 .f64 _ _ s e4'
    clear e4 e4'
    by_cases hlt : ca - 1 < n
    · rw [if_pos hlt]
      go_enter Yba.func10, Yba.ntmps10
      go_wp2
      go_ret
      exact ⟨rfl, hbel _ _⟩
    · rw [if_neg hlt]
      go_enter Yba.func10, Yba.ntmps10
      go_wp2
      go_ret
      exact ⟨rfl, hbel _ _⟩
  · have hg' : (FloatKind.f64.format.order hi 4607182418800017408 == some .gt) = false := by simpa using hg
    have e4' : floatBits .add .f64 lo hi = some s := by
      have e4'' := e4
      unfold Grid.one at e4''
      rw [if_neg hg] at e4''
      exact e4''
    have h4 := fun w => run_float_arith (P := Yba.prog) w .add 23 .f64 _ _ s e4'
    clear e4 e4' hg
    by_cases hlt : ca - 1 < n
    · rw [if_pos hlt]
      go_enter Yba.func10, Yba.ntmps10
      go_wp2
      go_ret
      exact ⟨rfl, hbel _ _⟩
    · rw [if_neg hlt]
      go_enter Yba.func10, Yba.ntmps10
      go_wp2
      go_ret
      exact ⟨rfl, hbel _ _⟩

set_option maxHeartbeats 800000 in
theorem side_any (k : Int) (w : World) (k0 : 0 ≤ k) (k1 : k ≤ 255) :
    Calls Yba.prog 8 #[.int .u8 k] w fun e w' => e = .returned (.float .f64 (Grid.sides.getD (k % 10).toNat 0)) ∧ w' = w := by
  have h : k % 10 = 0 ∨ k % 10 = 1 ∨ k % 10 = 2 ∨ k % 10 = 3 ∨ k % 10 = 4 ∨ k % 10 = 5 ∨ k % 10 = 6 ∨ k % 10 = 7 ∨ k % 10 = 8 ∨ k % 10 = 9 := by omega
  rcases h with h | h | h | h | h | h | h | h | h | h
  all_goals
    rw [h]
    go_enter Yba.func8, Yba.ntmps8
    go_wp2
    go_ret
    exact ⟨rfl, rfl⟩

set_option maxHeartbeats 800000 in
theorem newGrid_at (side q r : Nat) (n : Int) (w : World) (e1 : floatBits .quo .f64 Grid.one side = some q) (h2 : ∀ w, (callFunc 18 #[.float .f64 q]).run Yba.prog w = .ok (.value (.float .f64 r)) w) (e2 : floatToIntVal .f64 r .i32 = some n) :
    Calls Yba.prog 7 #[.float .f64 side] w fun e w' => e = .returned (.agg #[.float .f64 side, .int .i32 n]) ∧ Below w.heap.size w w' := by
  have h1 : ∀ w, (binOp .quo 23 (.float .f64 4607182418800017408) (.float .f64 side)).run Yba.prog w = .ok (.float .f64 q) w := fun w => run_float_arith (P := Yba.prog) w .quo 23 .f64 _ _ q e1
  have h3 := fun w => run_convert_float_int (P := Yba.prog) w 23 21 .f64 .i32 _ n (by kernel_rfl) Yba.underlying21 e2
  clear e1 e2
  go_enter Yba.func7, Yba.ntmps7
  go_wp2
  exact bodyPost_ret (v := .agg #[.float .f64 side, .int .i32 n]) (by simp [results, Yba.results7, go_sem]) rfl ⟨rfl, (Below.refl _ _).alloc (Nat.le_refl _) _⟩

set_option maxHeartbeats 800000 in
/-- The ten grids. -/
theorem newGrid_side (j : Nat) (hj : j < 10) (w : World) :
    Calls Yba.prog 7 #[.float .f64 (Grid.sides.getD j 0)] w fun e w' => e = .returned (.agg #[.float .f64 (Grid.sides.getD j 0), .int .i32 ((Grid.acrosses.getD j 0 : Nat) : Int)]) ∧ Below w.heap.size w w' := by
  match j, hj with
  | 0, _ => exact newGrid_at 4607182418800017408 4607182418800017408 4607182418800017408 1 w (by kernel_rfl) (fun w => by kernel_rfl) (by kernel_rfl)
  | 1, _ => exact newGrid_at 4602678819172646912 4611686018427387904 4611686018427387904 2 w (by kernel_rfl) (fun w => by kernel_rfl) (by kernel_rfl)
  | 2, _ => exact newGrid_at 4600877379321698714 4612811918334230528 4613937818241073152 3 w (by kernel_rfl) (fun w => by kernel_rfl) (by kernel_rfl)
  | 3, _ => exact newGrid_at 4599676419421066581 4613937818241073152 4613937818241073152 3 w (by kernel_rfl) (fun w => by kernel_rfl) (by kernel_rfl)
  | 4, _ => exact newGrid_at 4599075939470750515 4614688418178968235 4616189618054758400 4 w (by kernel_rfl) (fun w => by kernel_rfl) (by kernel_rfl)
  | 5, _ => exact newGrid_at 4598175219545276416 4616189618054758400 4616189618054758400 4 w (by kernel_rfl) (fun w => by kernel_rfl) (by kernel_rfl)
  | 6, _ => exact newGrid_at 4596373779694328218 4617315517961601024 4617315517961601024 5 w (by kernel_rfl) (fun w => by kernel_rfl) (by kernel_rfl)
  | 7, _ => exact newGrid_at 4594572339843380019 4619192017806338731 4619567317775286272 7 w (by kernel_rfl) (fun w => by kernel_rfl) (by kernel_rfl)
  | 8, _ => exact newGrid_at 4591870180066957722 4621819117588971520 4621819117588971520 10 w (by kernel_rfl) (fun w => by kernel_rfl) (by kernel_rfl)
  | 9, _ => exact newGrid_at 4589708452245819884 4624231760246491428 4624633867356078080 15 w (by kernel_rfl) (fun w => by kernel_rfl) (by kernel_rfl)

theorem mid_fun (bh hs : Nat) (i : Int) (w : World) (hh : w.cell? ⟨bh, 0, none⟩ = some (.float .f64 hs)) (hx : (Grid.midV hs i).isSome = true) :
    Calls Yba.prog 21 #[.int .i32 i, .pointer (some ⟨bh, 0, none⟩)] w fun e w' => e = .returned (.float .f64 (Grid.mid hs i)) ∧ w' = w := by
  obtain ⟨x, hx⟩ := Option.isSome_iff_exists.1 hx
  have e : Grid.mid hs i = x := by simp [Grid.mid, hx]
  rw [e]
  exact mid_at bh hs x i w hh hx
theorem index_fun (cs x : Nat) (ca : Int) (w : World) (ca0 : 1 ≤ ca) (ca1 : ca ≤ 15) (ht : (Grid.idxV cs ca x).isSome = true) :
    Calls Yba.prog 20 #[.agg #[.float .f64 cs, .int .i32 ca], .float .f64 x] w fun e w' => e = .returned (.int .i32 (Grid.idx cs ca x)) ∧ w' = w.alloc (.cells #[.float .f64 cs, .int .i32 ca] 25) := by
  obtain ⟨t, ht⟩ := Option.isSome_iff_exists.1 ht
  have e : Grid.idx cs ca x = t := by simp [Grid.idx, ht]
  rw [e]
  exact index_at cs x ca t w ca0 ca1 ht
end Go.Proofs.Ybulkbioy
