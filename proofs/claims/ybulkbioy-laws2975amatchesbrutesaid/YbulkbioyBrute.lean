/-
  DERIVED. Brute: the walk of LawS2975AMatchesBrute.
-/
import Derived.Test.YbulkbioyWithin
import Derived.Test.YbulkbioyTally
import Derived.BigQuiet
import Derived.Deep.QuietTactic
namespace Go.Proofs.Ybulkbioy
namespace Brute
open Go.RowKit
attribute [local go_sem] store_float

/-- What an owned row of squares looks like to a reader. -/
theorem shape2 {w : World} {B m : Nat} {v : Value} {xs : List Value} (h : w.ownsRow B 29 2 v m xs) : ∃ ao cap, v = .slice ao m cap ∧ (0 < m → ∃ g, ao = some ⟨g, 0, none⟩ ∧ B ≤ g) := by
  rcases h.2 with ⟨rfl, rfl⟩ | ⟨g, cap, cur, rfl, hB, _⟩
  · exact ⟨none, 0, rfl, fun h => by omega⟩
  · exact ⟨some ⟨g, 0, none⟩, cap, rfl, fun _ => ⟨g, rfl, hB⟩⟩
theorem cellsOf_at : ∀ (L : List (Nat × Nat)) (i : Nat) (h : i < L.length), (cellsOf L)[i * 2]? = some (.int .i32 (L[i].1 : Int)) ∧ (cellsOf L)[i * 2 + 1]? = some (.int .i32 (L[i].2 : Int))
  | q :: L, 0, _ => by simp [cellsOf]
  | q :: L, i + 1, h => by
    have := cellsOf_at L i (by simpa using h)
    have e : cellsOf (q :: L) = .int .i32 (q.1 : Int) :: .int .i32 (q.2 : Int) :: cellsOf L := rfl
    rw [e, show (i + 1) * 2 = i * 2 + 1 + 1 from by omega]
    simpa using this
theorem square_cells {w : World} {B g m cap : Nat} {L : List (Nat × Nat)} (hm : L.length = m) (h : w.ownsRow B 29 2 (.slice (some ⟨g, 0, none⟩) m cap) m (cellsOf L)) (i : Nat) (hi : i < L.length) :
    w.cell? ⟨g, i * 2, none⟩ = some (.int .i32 (L[i].1 : Int)) ∧ w.cell? ⟨g, i * 2 + 1, none⟩ = some (.int .i32 (L[i].2 : Int)) := by
  obtain ⟨h1, h2⟩ := cellsOf_at L i hi
  rw [h.cellAt (i * 2) (by omega), h.cellAt (i * 2 + 1) (by omega)]
  exact ⟨h1, h2⟩

/-- The law's three boxes as they lie in a world. -/
structure Boxed (cs ca hs n : Nat) (sc sr : Int) (Bc Bh Bs : Nat) (w : World) : Prop where
  c0 : w.cell? ⟨Bc, 0, none⟩ = some (.float .f64 cs)
  c1 : w.cell? ⟨Bc, 1, none⟩ = some (.int .i32 (ca : Int))
  h0 : w.cell? ⟨Bh, 0, none⟩ = some (.float .f64 hs)
  h1 : w.cell? ⟨Bh, 1, none⟩ = some (.int .i32 (n : Int))
  s0 : w.cell? ⟨Bs, 0, none⟩ = some (.int .i32 sc)
  s1 : w.cell? ⟨Bs, 1, none⟩ = some (.int .i32 sr)
theorem Boxed.later {cs ca hs n : Nat} {sc sr : Int} {Bc Bh Bs : Nat} {w w' : World} (h : Boxed cs ca hs n sc sr Bc Bh Bs w) (hb : Below w.heap.size w w') : Boxed cs ca hs n sc sr Bc Bh Bs w' :=
  ⟨keep1 hb h.c0, keep1 hb h.c1, keep1 hb h.h0, keep1 hb h.h1, keep1 hb h.s0, keep1 hb h.s1⟩
theorem keep6 {W w' : World} (hb : Below W.heap.size W w') {a1 a2 a3 a4 a5 a6 : Addr} {v1 v2 v3 v4 v5 v6 : Value}
    (h : W.cell? a1 = some v1 ∧ W.cell? a2 = some v2 ∧ W.cell? a3 = some v3 ∧ W.cell? a4 = some v4 ∧ W.cell? a5 = some v5 ∧ W.cell? a6 = some v6) :
    w'.cell? a1 = some v1 ∧ w'.cell? a2 = some v2 ∧ w'.cell? a3 = some v3 ∧ w'.cell? a4 = some v4 ∧ w'.cell? a5 = some v5 ∧ w'.cell? a6 = some v6 :=
  ⟨keep1 hb h.1, keep1 hb h.2.1, keep1 hb h.2.2.1, keep1 hb h.2.2.2.1, keep1 hb h.2.2.2.2.1, keep1 hb h.2.2.2.2.2⟩
theorem Boxed.six {cs ca hs n : Nat} {sc sr : Int} {Bc Bh Bs : Nat} {w : World} (h : Boxed cs ca hs n sc sr Bc Bh Bs w) :
    w.cell? ⟨Bc, 0, none⟩ = some (.float .f64 cs) ∧ w.cell? ⟨Bc, 1, none⟩ = some (.int .i32 (ca : Int)) ∧ w.cell? ⟨Bh, 0, none⟩ = some (.float .f64 hs) ∧ w.cell? ⟨Bh, 1, none⟩ = some (.int .i32 (n : Int)) ∧ w.cell? ⟨Bs, 0, none⟩ = some (.int .i32 sc) ∧ w.cell? ⟨Bs, 1, none⟩ = some (.int .i32 sr) :=
  ⟨h.c0, h.c1, h.h0, h.h1, h.s0, h.s1⟩

theorem later_alloc {w : World} {a : Addr} {v : Value} {o : Obj} (h : w.cell? a = some v) : (w.alloc o).cell? a = some v := by
  rw [World.cell?_alloc_lt _ _ _ (World.block_lt_of_cell? _ _ h)]; exact h

theorem listing_miss {PC PR : Nat → Bool} {n r : Nat} (h : ¬ PR r = true) : Grid.listing PC PR n (r + 1) = Grid.listing PC PR n r := by
  simp [Grid.listing, Grid.sel_succ, h]

set_option maxRecDepth 1000000 in
set_option maxHeartbeats 2000000 in
theorem brute_any (ci fi sc sr : Int) (w : World) (c0 : 0 ≤ ci) (c1 : ci ≤ 255) (f0 : 0 ≤ fi) (f1 : fi ≤ 255) (s0 : -32768 ≤ sc) (s1 : sc ≤ 32767) (r0 : -32768 ≤ sr) (r1 : sr ≤ 32767) :
    Calls Yba.prog 3 #[.int .u8 ci, .int .u8 fi, .int .i16 sc, .int .i16 sr] w fun e w' => e = .returned (.bool true) ∧ Below w.heap.size w w' := by
  obtain ⟨i0, hi, hz0, hz1, hz2⟩ := info_parts Yba.info29
  have hcj : (ci % 10).toNat < 10 := by omega
  have hfj : (fi % 10).toNat < 10 := by omega
  have g := Grid.good_pair (fi % 10).toNat (ci % 10).toNat hfj hcj
  have gc := newGrid_side (ci % 10).toNat hcj
  have gf := newGrid_side (fi % 10).toNat hfj
  have sc' := fun w => side_any ci w c0 c1
  have sf' := fun w => side_any fi w f0 f1
  generalize Grid.sides.getD (ci % 10).toNat 0 = cs at *
  generalize Grid.acrosses.getD (ci % 10).toNat 0 = ca at *
  generalize Grid.sides.getD (fi % 10).toNat 0 = hs at *
  generalize Grid.acrosses.getD (fi % 10).toNat 0 = n at *
  clear hcj hfj
  have Gc : Hid (∀ w, Calls Yba.prog 7 #[.float .f64 cs] w fun e w' => e = .returned (.agg #[.float .f64 cs, .int .i32 (ca : Int)]) ∧ Below w.heap.size w w') := gc
  have Gf : Hid (∀ w, Calls Yba.prog 7 #[.float .f64 hs] w fun e w' => e = .returned (.agg #[.float .f64 hs, .int .i32 (n : Int)]) ∧ Below w.heap.size w w') := gf
  have Sc : Hid (∀ w, Calls Yba.prog 8 #[.int .u8 ci] w fun e w' => e = .returned (.float .f64 cs) ∧ w' = w) := sc'
  have Sf : Hid (∀ w, Calls Yba.prog 8 #[.int .u8 fi] w fun e w' => e = .returned (.float .f64 hs) ∧ w' = w) := sf'
  clear gc gf sc' sf'
  have n1 := g.n1
  have n2 := g.n2
  have k1 := g.c1
  have k2 := g.c2
  go_enter Yba.func3, Yba.ntmps3
  go_wp2_with fail
  refine (Sc.out _).mono ?_
  rintro e w' ⟨rfl, hw⟩
  replace hw := hw.symm
  subst hw
  go_wp2_with fail
  refine (Gc.out _).mono ?_
  rintro e w1 ⟨rfl, hb1⟩
  go_wp2_with fail
  refine (Sf.out _).mono ?_
  rintro e w' ⟨rfl, hw⟩
  replace hw := hw.symm
  subst hw
  have q0 : (w1.alloc (.cells #[.float .f64 cs, .int .i32 (ca : Int)] 25)).cell? ⟨w1.heap.size, 0, none⟩ = some (.float .f64 cs) := by simp
  have q1 : (w1.alloc (.cells #[.float .f64 cs, .int .i32 (ca : Int)] 25)).cell? ⟨w1.heap.size, 1, none⟩ = some (.int .i32 (ca : Int)) := by simp
  have hb2 := hb1.alloc hb1.size (.cells #[.float .f64 cs, .int .i32 (ca : Int)] 25)
  generalize w1.alloc (.cells #[.float .f64 cs, .int .i32 (ca : Int)] 25) = w2 at q0 q1 hb2 ⊢
  generalize w1.heap.size = Bc at q0 q1 ⊢
  clear hb1
  go_wp2_with fail
  refine (Gf.out _).mono ?_
  rintro e w3 ⟨rfl, hb3⟩
  have hb4 := hb2.trans (hb3.mono hb2.size)
  have bx : Boxed cs ca hs n sc sr Bc w3.heap.size (w3.heap.size + 1) ((w3.alloc (.cells #[.float .f64 hs, .int .i32 (n : Int)] 25)).alloc (.cells #[.int .i32 sc, .int .i32 sr] 29)) :=
    ⟨later_alloc (later_alloc (keep1 hb3 q0)), later_alloc (later_alloc (keep1 hb3 q1)), later_alloc (by simp), later_alloc (by simp), by simp, by simp⟩
  have hb5 := (hb4.alloc hb4.size (.cells #[.float .f64 hs, .int .i32 (n : Int)] 25)).alloc (by simp; have := hb4.size; omega) (.cells #[.int .i32 sc, .int .i32 sr] 29)
  have p0 := bx.c0
  have p1 := bx.c1
  clear q0 q1 hb2 hb3 hb4 Gc Gf Sc Sf
  go_wp2_with fail
  clear p0 p1
  generalize (w3.alloc (.cells #[.float .f64 hs, .int .i32 (n : Int)] 25)).alloc (.cells #[.int .i32 sc, .int .i32 sr] 29) = w5 at bx hb5 ⊢
  generalize w3.heap.size + 1 = Bs at bx ⊢
  generalize w3.heap.size = Bh at bx ⊢
  refine (within_any hs n cs ca g sc sr s0 s1 r0 r1 w5).mono ?_
  rintro e w6 ⟨v, rfl, hgot, hb6⟩
  obtain ⟨PC, hPC⟩ : ∃ P, P = Grid.inB hs n cs ca sc := ⟨_, rfl⟩
  obtain ⟨PR, hPR⟩ : ∃ P, P = Grid.inB hs n cs ca sr := ⟨_, rfl⟩
  rw [← hPC, ← hPR] at hgot
  have HPC : Hid (PC = Grid.inB hs n cs ca sc) := hPC
  have HPR : Hid (PR = Grid.inB hs n cs ca sr) := hPR
  clear hPC hPR
  have Hn : Hid ((∀ k, PR k = true → k < n) ∧ (∀ k, PC k = true → k < n)) := by
    rw [HPR.out, HPC.out]
    exact ⟨fun k h => (Grid.inB_iff.1 h).1, fun k h => (Grid.inB_iff.1 h).1⟩
  have bx6 := bx.later hb6
  have hbw6 := hb5.trans (hb6.mono hb5.size)
  clear bx hb5 hb6
  go_wp2
  go_loopw [13, 14] (fun v i wr => ∃ r : Nat, r ≤ n ∧ i = .int .i32 r ∧ wr.ownsRow w6.heap.size 29 2 v (Grid.listing PC PR n r).length (cellsOf (Grid.listing PC PR n r)) ∧ Below w6.heap.size w6 wr)
    (fun _ i _ => n - (intOf i).toNat)
  case atStart => exact ⟨0, Nat.zero_le _, rfl, World.ownsRow_nil _ _ _ _, Below.refl _ _⟩
  case round =>
    obtain ⟨r, hr, rfl, hown, hB⟩ := hrel
    have bxr := bx6.later hB
    have b1 := bxr.h1
    by_cases hrn : r < n
    · have hS0 := bxr.six
      have Hown : Hid (Grid.ownerV hs cs ca (r : Int) = some (Grid.T hs cs ca r)) := g.own r hrn
      clear bxr
      by_cases ht : (Grid.T hs cs ca r == sr) = true
      · have hPRr : Hid (PR r = true) := by
          show _ = _
          rw [HPR.out]; exact Grid.inB_iff.2 ⟨hrn, by simpa using ht⟩
        have ht2 : (Grid.T hs cs ca r != sr) = false := by simpa using ht
        go_wp2
        go_region_held3 (fun w' => w'.cell? ⟨Bc, 0, none⟩ = some (.float .f64 cs) ∧ w'.cell? ⟨Bc, 1, none⟩ = some (.int .i32 (ca : Int)) ∧ w'.cell? ⟨Bh, 0, none⟩ = some (.float .f64 hs) ∧ w'.cell? ⟨Bh, 1, none⟩ = some (.int .i32 (n : Int)) ∧ w'.cell? ⟨Bs, 0, none⟩ = some (.int .i32 sc) ∧ w'.cell? ⟨Bs, 1, none⟩ = some (.int .i32 sr))
          (first | exact hS0 | exact keep6 hb9 (by assumption))
          (first | (go_at_call 10; refine (owner_at hs cs n ca _ _ _ (by omega) (by omega) Hown.out).mono ?_; rintro e w9 ⟨rfl, hb9⟩))
        have hb8 : Below wr.heap.size wr w9 := (Below.refl wr.heap.size wr).drew.trans hb9
        have hown9 := ownsRow_below hb8 hown
        have hB9 := hB.trans (hb8.mono hB.size)
        clear hown hB hS0 hb8 hb9 b1 Hown
        go_wp2
        go_loopw [13, 15] (fun v i wr => ∃ c : Nat, c ≤ n ∧ i = .int .i32 c ∧ wr.ownsRow w6.heap.size 29 2 v (Grid.upto PC PR n r c).length (cellsOf (Grid.upto PC PR n r c)) ∧ Below w6.heap.size w6 wr)
          (fun _ i _ => n - (intOf i).toNat)
        case atStart =>
          refine ⟨0, Nat.zero_le _, rfl, ?_, hB9⟩
          rw [Grid.upto_start (fun j _ => Nat.zero_le j)]
          exact hown9
        case round =>
          clear hown9 hB9
          obtain ⟨c, hc, rfl, hown, hB⟩ := hrel
          have bxr := bx6.later hB
          have b1 := bxr.h1
          by_cases hcn : c < n
          · have hS0 := bxr.six
            have Hown : Hid (Grid.ownerV hs cs ca (c : Int) = some (Grid.T hs cs ca c)) := g.own c hcn
            clear bxr
            by_cases htc : (Grid.T hs cs ca c == sc) = true
            · have Hup : Hid (Grid.upto PC PR n r (c + 1) = Grid.upto PC PR n r c ++ [(c, r)]) := Grid.upto_hit hPRr.out (by rw [HPC.out]; exact Grid.inB_iff.2 ⟨hcn, by simpa using htc⟩)
              have hsm := Grid.upto_small PC PR n r c n2 hrn (by omega)
              go_wp2
              go_region_held3 (fun w' => w'.cell? ⟨Bc, 0, none⟩ = some (.float .f64 cs) ∧ w'.cell? ⟨Bc, 1, none⟩ = some (.int .i32 (ca : Int)) ∧ w'.cell? ⟨Bh, 0, none⟩ = some (.float .f64 hs) ∧ w'.cell? ⟨Bh, 1, none⟩ = some (.int .i32 (n : Int)) ∧ w'.cell? ⟨Bs, 0, none⟩ = some (.int .i32 sc) ∧ w'.cell? ⟨Bs, 1, none⟩ = some (.int .i32 sr))
                (first | exact hS0 | exact keep6 hb9 (by assumption))
                (first | (go_at_call 10; refine (owner_at hs cs n ca _ _ _ (by omega) (by omega) Hown.out).mono ?_; rintro e w9 ⟨rfl, hb9⟩))
              have hb8 : Below wr.heap.size wr w9 := (Below.refl wr.heap.size wr).drew.trans hb9
              have hown9 := ownsRow_below hb8 hown
              have hB9 := hB.trans (hb8.mono hB.size)
              have hz9 := hB9.size
              clear hown hB hS0 hb8 hb9 b1 Hown
              go_wp2_with (at_builtin; (refine wpList_append_own _ rfl (.tmp 58) (.tmp 62) 30 rfl w6.heap.size 29 i0 (.agg #[.int .i32 0, .int .i32 0]) 2 8 Yba.underlying30 hi hz0 hz1 hz2 rfl (by decide) _ (Grid.upto PC PR n r c).length _ rfl (hown9.alloc _) ⟨w9.heap.size, 0, none⟩ 1 1 [.int .i32 (c : Int), .int .i32 (r : Int)] rfl rfl (cell_two_new _ _ _ _) (by intro u hu; simp at hu; rcases hu with rfl | rfl <;> rfl) (by unfold maxLen; omega) (by omega) (by simp; omega) ?_; intro v' w11 hown11 hgrow11 _))
              go_roundw
              case rel =>
                have hown12 : w11.ownsRow w6.heap.size 29 2 v' (Grid.upto PC PR n r (c + 1)).length (cellsOf (Grid.upto PC PR n r (c + 1))) := by rw [Hup.out, cellsOf_snoc]; simpa using hown11
                have hB12 : Below w6.heap.size w6 w11 := (hB9.alloc hB9.size _).grown hgrow11 (by simp; omega) (fun q hq => (hown9.lt q hq).1)
                first
                  | exact ⟨c + 1, by omega, by go_num, hown12, hB12⟩
                  | ((repeat apply Exists.intro); exact ⟨⟨c + 1, by omega, by go_num, hown12, hB12⟩, rfl⟩)
              case measure => simp [intOf]; omega
            · have htc' : (Grid.T hs cs ca c == sc) = false := by simpa using htc
              have e : Grid.upto PC PR n r (c + 1) = Grid.upto PC PR n r c := Grid.upto_miss (fun h => htc (by rw [HPC.out] at h; simpa using (Grid.inB_iff.1 h.2).2))
              rw [← e] at hown
              clear e htc
              go_wp2
              go_region_held3 (fun w' => w'.cell? ⟨Bc, 0, none⟩ = some (.float .f64 cs) ∧ w'.cell? ⟨Bc, 1, none⟩ = some (.int .i32 (ca : Int)) ∧ w'.cell? ⟨Bh, 0, none⟩ = some (.float .f64 hs) ∧ w'.cell? ⟨Bh, 1, none⟩ = some (.int .i32 (n : Int)) ∧ w'.cell? ⟨Bs, 0, none⟩ = some (.int .i32 sc) ∧ w'.cell? ⟨Bs, 1, none⟩ = some (.int .i32 sr))
                (first | exact hS0 | exact keep6 hb9 (by assumption))
                (first | (go_at_call 10; refine (owner_at hs cs n ca _ _ _ (by omega) (by omega) Hown.out).mono ?_; rintro e w9 ⟨rfl, hb9⟩))
              have hb8 : Below wr.heap.size wr w9 := (Below.refl wr.heap.size wr).drew.trans hb9
              have hown9 := ownsRow_below hb8 hown
              have hB9 := hB.trans (hb8.mono hB.size)
              clear hown hB hS0 hb8 hb9 b1 Hown
              go_wp2
              go_roundw
              case rel => exact ⟨c + 1, by omega, by go_num, hown9, hB9⟩
              case measure => simp [intOf]; omega
          · obtain rfl : c = n := by omega
            rw [Grid.upto_end Hn.out.2 Hn.out.2] at hown
            go_wp2
            go_roundw
            case rel => exact ⟨r + 1, by omega, by go_num, hown, hB⟩
            case measure => simp [intOf]; omega
      · have ht' : (Grid.T hs cs ca r == sr) = false := by simpa using ht
        have e : Grid.listing PC PR n (r + 1) = Grid.listing PC PR n r := listing_miss (fun h => ht (by rw [HPR.out] at h; simpa using (Grid.inB_iff.1 h).2))
        rw [← e] at hown
        clear e ht
        have ht2 : (Grid.T hs cs ca r != sr) = true := by simpa using ht'
        go_wp2
        go_region_held3 (fun w' => w'.cell? ⟨Bc, 0, none⟩ = some (.float .f64 cs) ∧ w'.cell? ⟨Bc, 1, none⟩ = some (.int .i32 (ca : Int)) ∧ w'.cell? ⟨Bh, 0, none⟩ = some (.float .f64 hs) ∧ w'.cell? ⟨Bh, 1, none⟩ = some (.int .i32 (n : Int)) ∧ w'.cell? ⟨Bs, 0, none⟩ = some (.int .i32 sc) ∧ w'.cell? ⟨Bs, 1, none⟩ = some (.int .i32 sr))
          (first | exact hS0 | exact keep6 hb9 (by assumption))
          (first | (go_at_call 10; refine (owner_at hs cs n ca _ _ _ (by omega) (by omega) Hown.out).mono ?_; rintro e w9 ⟨rfl, hb9⟩))
        have hb8 : Below wr.heap.size wr w9 := (Below.refl wr.heap.size wr).drew.trans hb9
        have hown9 := ownsRow_below hb8 hown
        have hB9 := hB.trans (hb8.mono hB.size)
        clear hown hB hS0 hb8 hb9 b1 Hown
        go_wp2
        go_roundw
        case rel => exact ⟨r + 1, by omega, by go_num, hown9, hB9⟩
        case measure => simp [intOf]; omega
    · obtain rfl : r = n := by omega
      have hgot9 := ownsRow_below hB hgot
      have hbw : Below w.heap.size w wr := hbw6.trans (hB.mono hbw6.size)
      have hLen := Grid.listing_len PC PR r r
      have hLen2 : r * r ≤ 15 * 15 := Nat.mul_le_mul n2 n2
      have hLen3 : (Grid.listing PC PR r r).length ≤ 225 := by omega
      clear hgot hbw6 hB bxr hLen hLen2
      generalize Grid.listing PC PR r r = L at hgot9 hown hLen3
      obtain ⟨m, hm⟩ : ∃ m, L.length = m := ⟨_, rfl⟩
      rw [hm] at hown hgot9 hLen3
      have Hm : Hid (L.length = m) := hm
      clear hm
      obtain ⟨ao, cap, e1, hsh⟩ := shape2 hgot9
      obtain ⟨ao', cap', e2, hsh'⟩ := shape2 hown
      subst e1 e2
      go_wp2
      go_loopw [71] (fun i wd => ∃ (j d : Nat), j ≤ m ∧ i = .int .i64 j ∧ wd = wr.drewN d) (fun i _ => m - (intOf i).toNat)
      case atStart => exact ⟨0, 0, Nat.zero_le _, rfl, rfl⟩
      case round =>
        obtain ⟨j, d, hj, rfl, rfl⟩ := hrel
        by_cases hjm : j < m
        · obtain ⟨gl, rfl, _⟩ := hsh (by omega)
          obtain ⟨gl', rfl, _⟩ := hsh' (by omega)
          have hjL : j < L.length := by rw [Hm.out]; exact hjm
          obtain ⟨e0, e1⟩ := square_cells Hm.out hgot9 j hjL
          obtain ⟨e2, e3⟩ := square_cells Hm.out hown j hjL
          generalize (L[j].1 : Int) = c at e0 e2
          generalize (L[j].2 : Int) = q at e1 e3
          clear hsh hsh' hgot9 hown bx6 hjL
          go_wp2
          go_quiet (fail)
          go_wp2
          go_roundw
          case rel => exact ⟨j + 1, _, by omega, by go_num, rfl⟩
          case measure => simp [intOf]; omega
        · go_wp2
          go_ret
          exact ⟨rfl, below_drewN hbw _⟩
end Brute
end Go.Proofs.Ybulkbioy
