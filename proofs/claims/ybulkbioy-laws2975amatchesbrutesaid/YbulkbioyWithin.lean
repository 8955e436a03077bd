/-
  DERIVED. Within: the walk of (grid).within: for every square s, inside the coarse grid or not, it lists just the fine squares that lie in s, by row and then by column, in memory of its own.
-/
import Derived.Test.YbulkbioyCentre
import Derived.Test.YbulkbioyList
import Derived.WalkSmall
namespace Go.Proofs.Ybulkbioy
open Go.RowKit
attribute [local go_sem] store_float

theorem Yba.info29 : (Yba.prog.info? 29).map (fun i => (i.zero, i.size, i.bytes)) = some (some (.agg #[.int .i32 0, .int .i32 0]), 2, 8) := by kernel_rfl

/-- The cells of a list of squares. -/
def cellsOf (L : List (Nat × Nat)) : List Value := L.flatMap fun q => [.int .i32 (q.1 : Int), .int .i32 (q.2 : Int)]
theorem cellsOf_snoc (L : List (Nat × Nat)) (c r : Nat) : cellsOf (L ++ [(c, r)]) = cellsOf L ++ [.int .i32 (c : Int), .int .i32 (r : Int)] := by simp [cellsOf]
theorem cellsOf_length (L : List (Nat × Nat)) : (cellsOf L).length = L.length * 2 := by
  induction L with
  | nil => rfl
  | cons q L ih => simp [cellsOf] at *; omega

theorem keep1 {W w' : World} (hb : Below W.heap.size W w') {a : Addr} {v : Value} (h : W.cell? a = some v) : w'.cell? a = some v := (hb.cell (World.block_lt_of_cell? _ _ h)).trans h

theorem ownsRow_base {w : World} {B B' : Nat} {e : TypeId} {size n : Nat} {v : Value} {xs : List Value} (hB : B ≤ B') (h : w.ownsRow B' e size v n xs) : w.ownsRow B e size v n xs := by
  obtain ⟨h1, h2⟩ := h
  refine ⟨h1, ?_⟩
  rcases h2 with h2 | ⟨g, cap, cur, h3, h4, h5⟩
  · exact .inl h2
  · exact .inr ⟨g, cap, cur, h3, Nat.le_trans hB h4, h5⟩

theorem ownsRow_below {W w' : World} {B : Nat} {e : TypeId} {size n : Nat} {v : Value} {xs : List Value} (hb : Below W.heap.size W w') (h : W.ownsRow B e size v n xs) : w'.ownsRow B e size v n xs := by
  obtain ⟨h1, h2⟩ := h
  refine ⟨h1, ?_⟩
  rcases h2 with h2 | ⟨g, cap, cur, h3, h4, h5, h6⟩
  · exact .inl h2
  · have hlt : g < W.heap.size := by
      rcases Nat.lt_or_ge g W.heap.size with h | h
      · exact h
      · rw [Array.getElem?_eq_none h] at h5; cases h5
    exact .inr ⟨g, cap, cur, h3, h4, (hb.block g hlt).trans h5, h6⟩

/-- The three boxes that 'within' makes of its operands, as they lie in a world: B is the first one's number. -/
structure Boxes (hs n cs ca : Nat) (sc sr : Int) (B : Nat) (w : World) : Prop where
  h0 : w.cell? ⟨B, 0, none⟩ = some (.float .f64 hs)
  h1 : w.cell? ⟨B, 1, none⟩ = some (.int .i32 (n : Int))
  c0 : w.cell? ⟨B + 1, 0, none⟩ = some (.float .f64 cs)
  c1 : w.cell? ⟨B + 1, 1, none⟩ = some (.int .i32 (ca : Int))
  s0 : w.cell? ⟨B + 1 + 1, 0, none⟩ = some (.int .i32 sc)
  s1 : w.cell? ⟨B + 1 + 1, 1, none⟩ = some (.int .i32 sr)
theorem Boxes.later {hs n cs ca : Nat} {sc sr : Int} {B : Nat} {w w' : World} (h : Boxes hs n cs ca sc sr B w) (hb : Below w.heap.size w w') : Boxes hs n cs ca sc sr B w' :=
  ⟨keep1 hb h.h0, keep1 hb h.h1, keep1 hb h.c0, keep1 hb h.c1, keep1 hb h.s0, keep1 hb h.s1⟩
theorem boxes_made (hs n cs ca : Nat) (sc sr : Int) (w : World) :
    Boxes hs n cs ca sc sr w.heap.size (((w.alloc (.cells #[.float .f64 hs, .int .i32 (n : Int)] 25)).alloc (.cells #[.float .f64 cs, .int .i32 (ca : Int)] 25)).alloc (.cells #[.int .i32 sc, .int .i32 sr] 29)) := by
  constructor <;> go_simp

theorem boxes8 {hs n cs ca : Nat} {sc sr : Int} {B : Nat} {w3 w7 : World} (bx : Boxes hs n cs ca sc sr B w3) (hB : Below w3.heap.size w3 w7) (c r : Int) :
    (w7.alloc (.cells #[.int .i32 c, .int .i32 r] 29)).cell? ⟨B, 0, none⟩ = some (.float .f64 hs) ∧ (w7.alloc (.cells #[.int .i32 c, .int .i32 r] 29)).cell? ⟨B, 1, none⟩ = some (.int .i32 (n : Int)) ∧ (w7.alloc (.cells #[.int .i32 c, .int .i32 r] 29)).cell? ⟨B + 1, 0, none⟩ = some (.float .f64 cs) ∧ (w7.alloc (.cells #[.int .i32 c, .int .i32 r] 29)).cell? ⟨B + 1, 1, none⟩ = some (.int .i32 (ca : Int)) ∧ (w7.alloc (.cells #[.int .i32 c, .int .i32 r] 29)).cell? ⟨B + 1 + 1, 0, none⟩ = some (.int .i32 sc) ∧ (w7.alloc (.cells #[.int .i32 c, .int .i32 r] 29)).cell? ⟨B + 1 + 1, 1, none⟩ = some (.int .i32 sr) ∧ (w7.alloc (.cells #[.int .i32 c, .int .i32 r] 29)).cell? ⟨w7.heap.size, 0, none⟩ = some (.int .i32 c) ∧ (w7.alloc (.cells #[.int .i32 c, .int .i32 r] 29)).cell? ⟨w7.heap.size, 1, none⟩ = some (.int .i32 r) := by
  have b := (bx.later hB).later ((Below.refl w7.heap.size w7).alloc (Nat.le_refl _) (.cells #[.int .i32 c, .int .i32 r] 29))
  exact ⟨b.h0, b.h1, b.c0, b.c1, b.s0, b.s1, by simp, by simp⟩
theorem keep8 {W w' : World} (hb : Below W.heap.size W w') {a1 a2 a3 a4 a5 a6 a7 a8 : Addr} {v1 v2 v3 v4 v5 v6 v7 v8 : Value}
    (h : W.cell? a1 = some v1 ∧ W.cell? a2 = some v2 ∧ W.cell? a3 = some v3 ∧ W.cell? a4 = some v4 ∧ W.cell? a5 = some v5 ∧ W.cell? a6 = some v6 ∧ W.cell? a7 = some v7 ∧ W.cell? a8 = some v8) :
    w'.cell? a1 = some v1 ∧ w'.cell? a2 = some v2 ∧ w'.cell? a3 = some v3 ∧ w'.cell? a4 = some v4 ∧ w'.cell? a5 = some v5 ∧ w'.cell? a6 = some v6 ∧ w'.cell? a7 = some v7 ∧ w'.cell? a8 = some v8 :=
  ⟨keep1 hb h.1, keep1 hb h.2.1, keep1 hb h.2.2.1, keep1 hb h.2.2.2.1, keep1 hb h.2.2.2.2.1, keep1 hb h.2.2.2.2.2.1, keep1 hb h.2.2.2.2.2.2.1, keep1 hb h.2.2.2.2.2.2.2⟩

set_option maxHeartbeats 2000000 in
theorem within_any (hs n cs ca : Nat) (g : Grid.Good hs n cs ca) (sc sr : Int) (c0 : -32768 ≤ sc) (c1 : sc ≤ 32767) (r0 : -32768 ≤ sr) (r1 : sr ≤ 32767) (w : World) :
    Calls Yba.prog 9 #[.agg #[.float .f64 hs, .int .i32 n], .agg #[.float .f64 cs, .int .i32 ca], .agg #[.int .i32 sc, .int .i32 sr]] w fun e w' =>
      ∃ v, e = .returned v ∧ w'.ownsRow w.heap.size 29 2 v (Grid.listing (Grid.inB hs n cs ca sc) (Grid.inB hs n cs ca sr) n n).length (cellsOf (Grid.listing (Grid.inB hs n cs ca sc) (Grid.inB hs n cs ca sr) n n)) ∧ Below w.heap.size w w' := by
  obtain ⟨i0, hi, hz0, hz1, hz2⟩ := info_parts Yba.info29
  have n1 := g.n1
  have n2 := g.n2
  obtain ⟨PC, hPC⟩ : ∃ P, P = Grid.inB hs n cs ca sc := ⟨_, rfl⟩
  obtain ⟨PR, hPR⟩ : ∃ P, P = Grid.inB hs n cs ca sr := ⟨_, rfl⟩
  rw [← hPC, ← hPR]
  have HPC : Hid (PC = Grid.inB hs n cs ca sc) := hPC
  have HPR : Hid (PR = Grid.inB hs n cs ca sr) := hPR
  clear hPC hPR
  have bx := boxes_made hs n cs ca sc sr w
  have bel : Below w.heap.size w (((w.alloc (.cells #[.float .f64 hs, .int .i32 (n : Int)] 25)).alloc (.cells #[.float .f64 cs, .int .i32 (ca : Int)] 25)).alloc (.cells #[.int .i32 sc, .int .i32 sr] 29)) := (((Below.refl _ _).alloc (Nat.le_refl _) _).alloc (by simp) _).alloc (by simp; omega) _
  go_enter Yba.func9, Yba.ntmps9
  go_wp2_with fail
  generalize (((w.alloc (.cells #[.float .f64 hs, .int .i32 (n : Int)] 25)).alloc (.cells #[.float .f64 cs, .int .i32 (ca : Int)] 25)).alloc (.cells #[.int .i32 sc, .int .i32 sr] 29)) = w3 at bx bel ⊢
  refine (first_any _ _ cs hs _ _ bx.c0 bx.h0).mono ?_
  rintro e w4 ⟨f, d, rfl, hw, f0, f1, hf⟩
  have hB4 : Below w3.heap.size w3 w4 := by rw [hw]; exact below_drewN (Below.refl _ _) _
  clear hw
  have Hf : Hid (∀ m, Grid.firstV cs hs sr = some m → f = m) := hf
  clear hf
  obtain ⟨fn, rfl⟩ : ∃ fn : Nat, f = fn := ⟨f.toNat, by omega⟩
  have HfR : Hid (∀ k, PR k = true → (fn : Int) ≤ k) := by rw [HPR.out]; exact g.encF Hf.out
  have Hn : Hid ((∀ k, PR k = true → k < n) ∧ (∀ k, PC k = true → k < n)) := by
    rw [HPR.out, HPC.out]
    exact ⟨fun k h => (Grid.inB_iff.1 h).1, fun k h => (Grid.inB_iff.1 h).1⟩
  go_wp2
  go_loopw [9, 10] (fun v i wr => ∃ r : Nat, r ≤ 2147483647 ∧ i = .int .i32 r ∧ wr.ownsRow w3.heap.size 29 2 v (Grid.listing PC PR n r).length (cellsOf (Grid.listing PC PR n r)) ∧ Below w3.heap.size w3 wr)
    (fun _ i _ => n - (intOf i).toNat)
  case atStart =>
    have e : Grid.listing PC PR n fn = [] := Grid.listing_start (fun k hk => by have := HfR.out k hk; omega)
    exact ⟨fn, by omega, rfl, by rw [e]; exact World.ownsRow_nil _ _ _ _, hB4⟩
  case round =>
    obtain ⟨r, hr1, rfl, hown, hB⟩ := hrel
    have bxr := bx.later hB
    have b0 := bxr.s0
    have b1 := bxr.s1
    go_wp2_with fail
    refine (last_any _ _ cs hs n sr _ (by omega) (by omega) r0 r1 bxr.c0 bxr.h0 bxr.h1).mono ?_
    rintro e w5 ⟨l, d2, rfl, hw, l0, l1, hl⟩
    have hown5 : w5.ownsRow w3.heap.size 29 2 u9 (Grid.listing PC PR n r).length (cellsOf (Grid.listing PC PR n r)) := by rw [hw]; exact hown
    have hB5 : Below w3.heap.size w3 w5 := by rw [hw]; exact below_drewN hB _
    clear hw hown hB b0 b1 bxr
    have bxr := bx.later hB5
    have b0 := bxr.s0
    have b1 := bxr.s1
    have HlR : Hid (∀ k, PR k = true → (k : Int) ≤ l) := by rw [HPR.out]; exact g.encL hl
    clear hl
    by_cases hle : (r : Int) ≤ l
    · go_wp2_with fail
      refine (first_any _ _ cs hs _ _ bxr.c0 bxr.h0).mono ?_
      rintro e w6 ⟨fc, d3, rfl, hw, fc0, fc1, hfc⟩
      have hown6 : w6.ownsRow w3.heap.size 29 2 u9 (Grid.listing PC PR n r).length (cellsOf (Grid.listing PC PR n r)) := by rw [hw]; exact hown5
      have hB6 : Below w3.heap.size w3 w6 := by rw [hw]; exact below_drewN hB5 _
      clear hw hown5 hB5 b0 b1 bxr
      have HfC : Hid (∀ k, PC k = true → fc ≤ k) := by rw [HPC.out]; exact g.encF hfc
      clear hfc
      obtain ⟨fcn, rfl⟩ : ∃ fcn : Nat, fc = fcn := ⟨fc.toNat, by omega⟩
      have hrn : r < n := by omega
      go_wp2
      go_loopw [9, 11] (fun v i wr => ∃ c : Nat, c ≤ 2147483647 ∧ i = .int .i32 c ∧ wr.ownsRow w3.heap.size 29 2 v (Grid.upto PC PR n r c).length (cellsOf (Grid.upto PC PR n r c)) ∧ Below w3.heap.size w3 wr)
        (fun _ i _ => n - (intOf i).toNat)
      case atStart =>
        have e : Grid.upto PC PR n r fcn = Grid.listing PC PR n r := Grid.upto_start (fun k hk => by have := HfC.out k hk; omega)
        refine ⟨fcn, by omega, rfl, ?_, ?_⟩
        · rw [e]; exact hown6
        · exact hB6
      case round =>
        clear hown6 hB6
        obtain ⟨c, hc1, rfl, hown, hB⟩ := hrel
        have bxr := bx.later hB
        have b0 := bxr.s0
        have b1 := bxr.s1
        go_wp2_with fail
        refine (last_any _ _ cs hs n sc _ (by omega) (by omega) c0 c1 bxr.c0 bxr.h0 bxr.h1).mono ?_
        rintro e w7 ⟨lc, d4, rfl, hw, lc0, lc1, hl⟩
        have hown7 : w7.ownsRow w3.heap.size 29 2 u9 (Grid.upto PC PR n r c).length (cellsOf (Grid.upto PC PR n r c)) := by rw [hw]; exact hown
        have hB7 : Below w3.heap.size w3 w7 := by rw [hw]; exact below_drewN hB _
        clear hw hown hB b0 b1 bxr
        have HlC : Hid (∀ k, PC k = true → (k : Int) ≤ lc) := by rw [HPC.out]; exact g.encL hl
        clear hl
        by_cases hlc : (c : Int) ≤ lc
        · have hcn : c < n := by omega
          have hxc := g.mids c hcn
          have hxr := g.mids r hrn
          have hic := g.idxs c hcn
          have hir := g.idxs r hrn
          have Hxc : Hid ((Grid.midV hs (c : Int)).isSome = true) := hxc
          have Hxr : Hid ((Grid.midV hs (r : Int)).isSome = true) := hxr
          have Hic : Hid ((Grid.idxV cs ca (Grid.mid hs (c : Int))).isSome = true) := hic
          have Hir : Hid ((Grid.idxV cs ca (Grid.mid hs (r : Int))).isSome = true) := hir
          clear hxc hxr hic hir
          have k1 := g.c1
          have k2 := g.c2
          go_wp2
          have hS0 := boxes8 bx hB7 (c : Int) (r : Int)
          have hown8 := hown7.alloc (.cells #[.int .i32 (c : Int), .int .i32 (r : Int)] 29)
          have hB8 := hB7.alloc hB7.size (.cells #[.int .i32 (c : Int), .int .i32 (r : Int)] 29)
          generalize w7.alloc (.cells #[.int .i32 (c : Int), .int .i32 (r : Int)] 29) = w8 at hS0 hown8 hB8 ⊢
          generalize w7.heap.size = Bq at hS0 ⊢
          clear hown7 hB7
          by_cases ht1 : (Grid.idx cs ca (Grid.mid hs (c : Int)) == sc) = true
          · by_cases ht2 : (Grid.idx cs ca (Grid.mid hs (r : Int)) == sr) = true
            · have hup : Grid.upto PC PR n r (c + 1) = Grid.upto PC PR n r c ++ [(c, r)] := Grid.upto_hit (by rw [HPR.out]; exact Grid.inB_iff.2 ⟨hrn, by simpa [Grid.T] using ht2⟩) (by rw [HPC.out]; exact Grid.inB_iff.2 ⟨hcn, by simpa [Grid.T] using ht1⟩)
              have Hup : Hid (Grid.upto PC PR n r (c + 1) = Grid.upto PC PR n r c ++ [(c, r)]) := hup
              clear hup
              go_region_held3 (fun w' => w'.cell? ⟨w.heap.size, 0, none⟩ = some (.float .f64 hs) ∧ w'.cell? ⟨w.heap.size, 1, none⟩ = some (.int .i32 (n : Int)) ∧ w'.cell? ⟨w.heap.size + 1, 0, none⟩ = some (.float .f64 cs) ∧ w'.cell? ⟨w.heap.size + 1, 1, none⟩ = some (.int .i32 (ca : Int)) ∧ w'.cell? ⟨w.heap.size + 1 + 1, 0, none⟩ = some (.int .i32 sc) ∧ w'.cell? ⟨w.heap.size + 1 + 1, 1, none⟩ = some (.int .i32 sr) ∧ w'.cell? ⟨Bq, 0, none⟩ = some (.int .i32 (c : Int)) ∧ w'.cell? ⟨Bq, 1, none⟩ = some (.int .i32 (r : Int)))
                (first | exact hS0 | exact keep8 hb10 (by assumption) | exact keep8 hb9 (by assumption))
                (first | (go_at_call 17; refine (centre_at hs n _ _ _ Hxc.out Hxr.out).mono ?_; rintro e w9 ⟨rfl, hb9⟩) | (go_at_call 16; refine (square_at cs ca _ _ _ (by omega) (by omega) Hic.out Hir.out).mono ?_; rintro e w10 ⟨rfl, hb10⟩))
              have hb8 : Below w8.heap.size w8 w10 := ((Below.refl w8.heap.size w8).drew.trans hb9).trans (hb10.mono hb9.size)
              have hown10 := ownsRow_below hb8 hown8
              have hB10 := hB8.trans (hb8.mono hB8.size)
              obtain ⟨_, _, _, _, _, _, q0, q1⟩ := keep8 hb8 hS0
              have hsm := Grid.upto_small PC PR n r c n2 hrn (by omega)
              have hz10 := hB10.size
              clear hown8 hB8 hS0 hb8 hb9 hb10
              go_wp2_with (at_builtin; (refine wpList_append_own _ rfl (.tmp 49) (.tmp 51) 30 rfl w3.heap.size 29 i0 (.agg #[.int .i32 0, .int .i32 0]) 2 8 Yba.underlying30 hi hz0 hz1 hz2 rfl (by decide) _ (Grid.upto PC PR n r c).length _ rfl (hown10.alloc _) ⟨w10.heap.size, 0, none⟩ 1 1 [.int .i32 (c : Int), .int .i32 (r : Int)] rfl rfl (cell_two_new _ _ _ _) (by intro u hu; simp at hu; rcases hu with rfl | rfl <;> rfl) (by unfold maxLen; omega) (by omega) (by simp; omega) ?_; intro v' w11 hown11 hgrow11 _))
              go_roundw
              case rel => exact ⟨c + 1, by omega, by go_num, by rw [Hup.out, cellsOf_snoc]; simpa using hown11, (hB10.alloc hB10.size _).grown hgrow11 (by simp; omega) (fun q hq => (hown10.lt q hq).1)⟩
              case measure => simp [intOf]; omega
            · have ht2' : (Grid.idx cs ca (Grid.mid hs (r : Int)) == sr) = false := by simpa using ht2
              have hup : Grid.upto PC PR n r (c + 1) = Grid.upto PC PR n r c := Grid.upto_miss (fun h => ht2 (by rw [HPR.out] at h; simpa [Grid.T] using (Grid.inB_iff.1 h.1).2))
              clear ht2
              rw [← hup] at hown8
              clear hup
              go_region_held3 (fun w' => w'.cell? ⟨w.heap.size, 0, none⟩ = some (.float .f64 hs) ∧ w'.cell? ⟨w.heap.size, 1, none⟩ = some (.int .i32 (n : Int)) ∧ w'.cell? ⟨w.heap.size + 1, 0, none⟩ = some (.float .f64 cs) ∧ w'.cell? ⟨w.heap.size + 1, 1, none⟩ = some (.int .i32 (ca : Int)) ∧ w'.cell? ⟨w.heap.size + 1 + 1, 0, none⟩ = some (.int .i32 sc) ∧ w'.cell? ⟨w.heap.size + 1 + 1, 1, none⟩ = some (.int .i32 sr) ∧ w'.cell? ⟨Bq, 0, none⟩ = some (.int .i32 (c : Int)) ∧ w'.cell? ⟨Bq, 1, none⟩ = some (.int .i32 (r : Int)))
                (first | exact hS0 | exact keep8 hb10 (by assumption) | exact keep8 hb9 (by assumption))
                (first | (go_at_call 17; refine (centre_at hs n _ _ _ Hxc.out Hxr.out).mono ?_; rintro e w9 ⟨rfl, hb9⟩) | (go_at_call 16; refine (square_at cs ca _ _ _ (by omega) (by omega) Hic.out Hir.out).mono ?_; rintro e w10 ⟨rfl, hb10⟩))
              have hb8 : Below w8.heap.size w8 w10 := ((Below.refl w8.heap.size w8).drew.trans hb9).trans (hb10.mono hb9.size)
              have hown10 := ownsRow_below hb8 hown8
              have hB10 := hB8.trans (hb8.mono hB8.size)
              clear hown8 hB8 hS0 hb8 hb9 hb10
              go_wp2
              go_roundw
              case rel => exact ⟨c + 1, by omega, by go_num, hown10, hB10⟩
              case measure => simp [intOf]; omega
          · have ht1' : (Grid.idx cs ca (Grid.mid hs (c : Int)) == sc) = false := by simpa using ht1
            have hup : Grid.upto PC PR n r (c + 1) = Grid.upto PC PR n r c := Grid.upto_miss (fun h => ht1 (by rw [HPC.out] at h; simpa [Grid.T] using (Grid.inB_iff.1 h.2).2))
            clear ht1
            rw [← hup] at hown8
            clear hup
            go_region_held3 (fun w' => w'.cell? ⟨w.heap.size, 0, none⟩ = some (.float .f64 hs) ∧ w'.cell? ⟨w.heap.size, 1, none⟩ = some (.int .i32 (n : Int)) ∧ w'.cell? ⟨w.heap.size + 1, 0, none⟩ = some (.float .f64 cs) ∧ w'.cell? ⟨w.heap.size + 1, 1, none⟩ = some (.int .i32 (ca : Int)) ∧ w'.cell? ⟨w.heap.size + 1 + 1, 0, none⟩ = some (.int .i32 sc) ∧ w'.cell? ⟨w.heap.size + 1 + 1, 1, none⟩ = some (.int .i32 sr) ∧ w'.cell? ⟨Bq, 0, none⟩ = some (.int .i32 (c : Int)) ∧ w'.cell? ⟨Bq, 1, none⟩ = some (.int .i32 (r : Int)))
              (first | exact hS0 | exact keep8 hb10 (by assumption) | exact keep8 hb9 (by assumption))
              (first | (go_at_call 17; refine (centre_at hs n _ _ _ Hxc.out Hxr.out).mono ?_; rintro e w9 ⟨rfl, hb9⟩) | (go_at_call 16; refine (square_at cs ca _ _ _ (by omega) (by omega) Hic.out Hir.out).mono ?_; rintro e w10 ⟨rfl, hb10⟩))
            have hb8 : Below w8.heap.size w8 w10 := ((Below.refl w8.heap.size w8).drew.trans hb9).trans (hb10.mono hb9.size)
            have hown10 := ownsRow_below hb8 hown8
            have hB10 := hB8.trans (hb8.mono hB8.size)
            clear hown8 hB8 hS0 hb8 hb9 hb10
            go_wp2
            go_roundw
            case rel => exact ⟨c + 1, by omega, by go_num, hown10, hB10⟩
            case measure => simp [intOf]; omega
        · have e : Grid.upto PC PR n r c = Grid.listing PC PR n (r + 1) := Grid.upto_end (fun k hk => by have := HlC.out k hk; omega) Hn.out.2
          rw [e] at hown7
          clear e
          go_wp2
          go_roundw
          case rel => exact ⟨r + 1, by omega, by go_num, hown7, hB7⟩
          case measure => simp [intOf]; omega
    · have e : Grid.listing PC PR n r = Grid.listing PC PR n n := Grid.listing_end (fun k hk => by have := HlR.out k hk; omega) Hn.out.1
      rw [e] at hown5
      clear e
      go_wp2
      go_ret
      exact ⟨_, rfl, ownsRow_base bel.size hown5, bel.trans (hB5.mono bel.size)⟩
end Go.Proofs.Ybulkbioy
