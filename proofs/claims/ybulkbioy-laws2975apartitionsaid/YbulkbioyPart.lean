/-
  DERIVED. Part: the walk of LawS2975APartition.
-/
import Derived.Test.YbulkbioyWithin
import Derived.Test.YbulkbioyTally
namespace Go.Proofs.Ybulkbioy
open Go.RowKit
attribute [local go_sem] store_float

theorem Yba.info3 : (Yba.prog.info? 3).map (fun i => (i.zero, i.size, i.bytes)) = some (some (.int .i64 0), 1, 8) := by kernel_rfl

/-- The two grids' boxes as they lie in a world. -/
structure Grids (cs ca hs n Bc Bh : Nat) (w : World) : Prop where
  c0 : w.cell? ⟨Bc, 0, none⟩ = some (.float .f64 cs)
  c1 : w.cell? ⟨Bc, 1, none⟩ = some (.int .i32 (ca : Int))
  h0 : w.cell? ⟨Bh, 0, none⟩ = some (.float .f64 hs)
  h1 : w.cell? ⟨Bh, 1, none⟩ = some (.int .i32 (n : Int))
theorem Grids.later {cs ca hs n Bc Bh B : Nat} {w w' : World} (h : Grids cs ca hs n Bc Bh w) (hz : w.heap.size = B) (hb : Below B w w') : Grids cs ca hs n Bc Bh w' := by
  subst hz
  exact ⟨keep1 hb h.c0, keep1 hb h.c1, keep1 hb h.h0, keep1 hb h.h1⟩

/-- The table of counts: N cells in block G; cell k holds how often P meets it. -/
def Cnt (n N G : Nat) (P : List (Nat × Nat)) (w : World) : Prop :=
  ∃ zs : List Int, w.ownsRow G 3 1 (.slice (some ⟨G, 0, none⟩) N N) N (zs.map (Value.int .i64)) ∧ ∀ k, k < N → zs.getD k 0 = ((Grid.hits n P k : Nat) : Int)
theorem Cnt.below {n N G : Nat} {P : List (Nat × Nat)} {w w' : World} (h : Cnt n N G P w) (hb : Below w.heap.size w w') : Cnt n N G P w' := by
  obtain ⟨zs, h1, h2⟩ := h
  exact ⟨zs, ownsRow_below hb h1, h2⟩
theorem Cnt.read {n N G : Nat} {P : List (Nat × Nat)} {w : World} (h : Cnt n N G P w) (k : Nat) (hk : k < N) : w.cell? ⟨G, k, none⟩ = some (.int .i64 ((Grid.hits n P k : Nat) : Int)) := by
  obtain ⟨zs, h1, h2⟩ := h
  have hl : zs.length = N := by have := h1.1; simpa using this
  rw [h1.cellAt k (by omega), ← h2 k hk]
  simp [List.getElem?_map, List.getD, List.getElem?_eq_getElem (show k < zs.length by omega)]
theorem Cnt.free {n N G : Nat} {P : List (Nat × Nat)} {w : World} (h : Cnt n N G P w) (k : Nat) : w.frozen? ⟨G, k, none⟩ = false := by
  obtain ⟨zs, h1, h2⟩ := h
  exact h1.frozenAt k
theorem Cnt.step {n N G : Nat} {P : List (Nat × Nat)} {w : World} (h : Cnt n N G P w) (c r : Nat) (hk : r * n + c < N) :
    Cnt n N G (P ++ [(c, r)]) (w.setCell ⟨G, r * n + c, none⟩ (.int .i64 (((Grid.hits n P (r * n + c) : Nat) : Int) + 1))) := by
  obtain ⟨zs, h1, h2⟩ := h
  have hl : zs.length = N := by have := h1.1; simpa using this
  refine ⟨zs.set (r * n + c) (((Grid.hits n P (r * n + c) : Nat) : Int) + 1), ?_, ?_⟩
  · rw [List.map_set]; exact (h1.stored _ _).1
  · intro k hkN
    rw [Grid.hits_snoc]
    by_cases e : r * n + c = k
    · subst e
      simp [List.getD, hl, hk]
    · have := h2 k hkN
      simp only [List.getD] at this ⊢
      rw [List.getElem?_set_ne e, this]
      simp [e]
theorem Cnt.start {n N G : Nat} {w : World} (h : w.ownsRow G 3 1 (.slice (some ⟨G, 0, none⟩) N N) N ((List.replicate N (0 : Int)).map (Value.int .i64))) : Cnt n N G [] w := by
  refine ⟨_, h, ?_⟩
  intro k hk
  simp [List.getD, hk, Grid.hits_nil]

/-- What an owned row of squares looks like to a reader. -/
theorem shape2 {w : World} {B m : Nat} {v : Value} {xs : List Value} (h : w.ownsRow B 29 2 v m xs) : ∃ ao cap, v = .slice ao m cap ∧ (0 < m → ∃ g, ao = some ⟨g, 0, none⟩ ∧ B ≤ g) := by
  rcases h.2 with ⟨rfl, rfl⟩ | ⟨g, cap, cur, rfl, hB, _⟩
  · exact ⟨none, 0, rfl, fun h => by omega⟩
  · exact ⟨some ⟨g, 0, none⟩, cap, rfl, fun _ => ⟨g, rfl, hB⟩⟩
theorem cellsOf_at : ∀ (L : List (Nat × Nat)) (i : Nat) (h : i < L.length), (cellsOf L)[i * 2]? = some (.int .i32 (L[i].1 : Int)) ∧ (cellsOf L)[i * 2 + 1]? = some (.int .i32 (L[i].2 : Int))
  | q :: L, 0, _ => by simp [cellsOf]
  | q :: L, i + 1, h => by
    have := cellsOf_at L i (by simpa using h)
    have e : cellsOf (q :: L) = .int .i32 (q.1 : Int) :: .int .i32 (q.2 : Int) :: cellsOf L := rfl
    rw [e, show (i + 1) * 2 = i * 2 + 1 + 1 from by omega]
    simpa using this
theorem square_cells {w : World} {B g m cap : Nat} {L : List (Nat × Nat)} (hm : L.length = m) (h : w.ownsRow B 29 2 (.slice (some ⟨g, 0, none⟩) m cap) m (cellsOf L)) (i : Nat) (hi : i < L.length) :
    w.cell? ⟨g, i * 2, none⟩ = some (.int .i32 (L[i].1 : Int)) ∧ w.cell? ⟨g, i * 2 + 1, none⟩ = some (.int .i32 (L[i].2 : Int)) := by
  obtain ⟨h1, h2⟩ := cellsOf_at L i hi
  rw [h.cellAt (i * 2) (by omega), h.cellAt (i * 2 + 1) (by omega)]
  exact ⟨h1, h2⟩

set_option maxRecDepth 1000000 in
set_option maxHeartbeats 2000000 in
theorem part_any (ci fi : Int) (w : World) (c0 : 0 ≤ ci) (c1 : ci ≤ 255) (f0 : 0 ≤ fi) (f1 : fi ≤ 255) :
    Calls Yba.prog 4 #[.int .u8 ci, .int .u8 fi] w fun e w' => e = .returned (.bool true) ∧ Below w.heap.size w w' := by
  obtain ⟨i0, hi, hz0, hz1, hz2⟩ := info_parts Yba.info3
  have hcj : (ci % 10).toNat < 10 := by omega
  have hfj : (fi % 10).toNat < 10 := by omega
  have g := Grid.good_pair (fi % 10).toNat (ci % 10).toNat hfj hcj
  have gc := newGrid_side (ci % 10).toNat hcj
  have gf := newGrid_side (fi % 10).toNat hfj
  have sc' := fun w => side_any ci w c0 c1
  have sf' := fun w => side_any fi w f0 f1
  generalize Grid.sides.getD (ci % 10).toNat 0 = cs at *
  generalize Grid.acrosses.getD (ci % 10).toNat 0 = ca at *
  generalize Grid.sides.getD (fi % 10).toNat 0 = hs at *
  generalize Grid.acrosses.getD (fi % 10).toNat 0 = n at *
  clear hcj hfj
  have Gc : Hid (∀ w, Calls Yba.prog 7 #[.float .f64 cs] w fun e w' => e = .returned (.agg #[.float .f64 cs, .int .i32 (ca : Int)]) ∧ Below w.heap.size w w') := gc
  have Gf : Hid (∀ w, Calls Yba.prog 7 #[.float .f64 hs] w fun e w' => e = .returned (.agg #[.float .f64 hs, .int .i32 (n : Int)]) ∧ Below w.heap.size w w') := gf
  have Sc : Hid (∀ w, Calls Yba.prog 8 #[.int .u8 ci] w fun e w' => e = .returned (.float .f64 cs) ∧ w' = w) := sc'
  have Sf : Hid (∀ w, Calls Yba.prog 8 #[.int .u8 fi] w fun e w' => e = .returned (.float .f64 hs) ∧ w' = w) := sf'
  clear gc gf sc' sf'
  go_enter Yba.func4, Yba.ntmps4
  go_wp2_with fail
  refine (Sc.out _).mono ?_
  rintro e w' ⟨rfl, hw⟩
  replace hw := hw.symm
  subst hw
  go_wp2_with fail
  refine (Gc.out _).mono ?_
  rintro e w1 ⟨rfl, hb1⟩
  go_wp2_with fail
  refine (Sf.out _).mono ?_
  rintro e w' ⟨rfl, hw⟩
  replace hw := hw.symm
  subst hw
  have q0 : (w1.alloc (.cells #[.float .f64 cs, .int .i32 (ca : Int)] 25)).cell? ⟨w1.heap.size, 0, none⟩ = some (.float .f64 cs) := by simp
  have q1 : (w1.alloc (.cells #[.float .f64 cs, .int .i32 (ca : Int)] 25)).cell? ⟨w1.heap.size, 1, none⟩ = some (.int .i32 (ca : Int)) := by simp
  have hb2 := hb1.alloc hb1.size (.cells #[.float .f64 cs, .int .i32 (ca : Int)] 25)
  generalize w1.alloc (.cells #[.float .f64 cs, .int .i32 (ca : Int)] 25) = w2 at q0 q1 hb2 ⊢
  generalize w1.heap.size = Bc at q0 q1 ⊢
  clear hb1
  go_wp2_with fail
  refine (Gf.out _).mono ?_
  rintro e w3 ⟨rfl, hb3⟩
  have hb4 := hb2.trans (hb3.mono hb2.size)
  have gr : Grids cs ca hs n Bc w3.heap.size (w3.alloc (.cells #[.float .f64 hs, .int .i32 (n : Int)] 25)) :=
    ⟨by rw [World.cell?_alloc_lt _ _ _ (World.block_lt_of_cell? _ _ (keep1 hb3 q0))]; exact keep1 hb3 q0, by rw [World.cell?_alloc_lt _ _ _ (World.block_lt_of_cell? _ _ (keep1 hb3 q1))]; exact keep1 hb3 q1, by simp, by simp⟩
  have hb5 := hb4.alloc hb4.size (.cells #[.float .f64 hs, .int .i32 (n : Int)] 25)
  clear q0 q1 hb2 hb3 hb4
  have n1 := g.n1
  have n2 := g.n2
  have k1 := g.c1
  have k2 := g.c2
  have hnn : n * n ≤ 225 := Nat.mul_le_mul n2 n2
  have hni0 : (0 : Int) ≤ (n : Int) * (n : Int) := by have := Int.natCast_mul n n; omega
  have hni1 : (n : Int) * (n : Int) ≤ 225 := by have := Int.natCast_mul n n; omega
  have hz5 : (w3.alloc (.cells #[.float .f64 hs, .int .i32 (n : Int)] 25)).heap.size = w3.heap.size + 1 := by simp
  go_wp2_with (at_make; refine wpList_make_full _ rfl (.tmp 28) (.tmp 28) 34 rfl (w3.heap.size + 1) 3 i0 (.int .i64 0) 1 Yba.underlying34 hi hz0 hz1 _ _ _ _ (n * n) rfl rfl (by simp) (by simp) ?b2 ?b3 (by simp) ?_)
  case b2 => rw [hz2]; omega
  case b3 => unfold maxLen; omega
  intro w6 hown6 hgrow6
  have hb6 : Below (w3.heap.size + 1) (w3.alloc (.cells #[.float .f64 hs, .int .i32 (n : Int)] 25)) w6 := (Below.refl _ _).grown hgrow6 (by simp) (fun k h => by cases h)
  have hown7 : w6.ownsRow (w3.heap.size + 1) 3 1 (.slice (some ⟨w3.heap.size + 1, 0, none⟩) (n * n) (n * n)) (n * n) ((List.replicate (n * n) (0 : Int)).map (Value.int .i64)) := by
    have e : (madeCells #[.int .i64 0] (n * n)).toList = (List.replicate (n * n) (0 : Int)).map (Value.int .i64) := by
      rw [List.map_replicate]; exact toList_madeCells_one _ _
    rw [← e]; simpa using hown6
  have hbw := hb5.trans (hb6.mono (by rw [← hz5]; exact hb5.size))
  generalize (w3.alloc (.cells #[.float .f64 hs, .int .i32 (n : Int)] 25)) = w5 at gr hb5 hz5 hb6
  clear hown6 hgrow6 hbw
  have cnt := Cnt.start (n := n) hown7
  clear hown7
  go_wp2
  generalize w3.heap.size + 1 = G at *
  generalize w3.heap.size = Bh at *
  generalize hN : n * n = N at *
  have HN : Hid (n * n = N) := hN
  have hN0 : 0 < N := by rw [← hN]; exact Nat.mul_pos n1 n1
  clear hN
  go_loopw [9] (fun i wr => ∃ sr : Nat, sr ≤ ca ∧ i = .int .i32 sr ∧ Cnt n N G (Grid.done hs n cs ca sr 0) wr ∧ Below G w5 wr) (fun i _ => ca - (intOf i).toNat)
  case atStart => exact ⟨0, Nat.zero_le _, rfl, cnt, hb6⟩
  case round =>
    obtain ⟨sr, hsr, rfl, hcnt, hB⟩ := hrel
    clear cnt hb6
    have grr := gr.later hz5 hB
    have g1 := grr.c1
    by_cases hlt : sr < ca
    · go_wp2
      go_loopw [10] (fun i wr => ∃ sc : Nat, sc ≤ ca ∧ i = .int .i32 sc ∧ Cnt n N G (Grid.done hs n cs ca sr sc) wr ∧ Below G w5 wr) (fun i _ => ca - (intOf i).toNat)
      case atStart => exact ⟨0, Nat.zero_le _, rfl, hcnt, hB⟩
      case round =>
        clear hcnt hB grr g1
        obtain ⟨sc, hsc, rfl, hcnt, hB⟩ := hrel
        have grr := gr.later hz5 hB
        have g0 := grr.c0
        have g1 := grr.c1
        have g2 := grr.h0
        have g3 := grr.h1
        by_cases hltc : sc < ca
        · go_wp2_with fail
          refine (within_any hs n cs ca g sc sr (by omega) (by omega) (by omega) (by omega) _).mono ?_
          rintro e w7 ⟨v, rfl, hown, hb⟩
          have hGlt : G < wr.heap.size := World.block_lt_of_cell? _ _ (hcnt.read 0 hN0)
          have hcnt7 := hcnt.below hb
          have hB7 := hB.trans (hb.mono (by rw [← hz5]; exact hB.size))
          have hLen := Grid.lst_len hs n cs ca n2 sr sc
          have hMem : ∀ q ∈ Grid.lst hs n cs ca sr sc, q.1 < n ∧ q.2 < n := fun q hq => ⟨(Grid.mem_listing.1 hq).1.1, (Grid.mem_listing.1 hq).2.1⟩
          have hOrd : (Grid.lst hs n cs ca sr sc).Pairwise Grid.Before := Grid.listing_sorted _ _ _ _
          have hDone := Grid.done_step hs n cs ca sr sc
          have hDlen := Grid.done_len hs n cs ca n2 k2 sr sc (by omega) (by omega)
          have hownL : w7.ownsRow wr.heap.size 29 2 v (Grid.lst hs n cs ca sr sc).length (cellsOf (Grid.lst hs n cs ca sr sc)) := hown
          clear hown hb hcnt hB grr g0 g1 g2 g3
          generalize wr.heap.size = B2 at hGlt hownL
          generalize Grid.lst hs n cs ca sr sc = L at hLen hMem hOrd hDone hownL
          generalize hD : Grid.done hs n cs ca sr sc = D at hDone hDlen hcnt7
          obtain ⟨m, hm⟩ : ∃ m, L.length = m := ⟨_, rfl⟩
          rw [hm] at hLen hownL
          obtain ⟨ao, cap, rfl, hsh⟩ := shape2 hownL
          have Hm : Hid (L.length = m) := hm
          have HMem : Hid (∀ q ∈ L, q.1 < n ∧ q.2 < n) := hMem
          have HOrd : Hid (L.Pairwise Grid.Before) := hOrd
          have HDone : Hid (Grid.done hs n cs ca sr (sc + 1) = D ++ L) := hDone
          clear hm hMem hOrd hDone hD
          go_wp2
          go_loopw [50] (fun i wr => ∃ j : Nat, j ≤ m ∧ i = .int .i64 j ∧ wr.ownsRow B2 29 2 (.slice ao m cap) m (cellsOf L) ∧ Cnt n N G (D ++ L.take j) wr ∧ Below G w5 wr) (fun i _ => m - (intOf i).toNat)
          case atStart => exact ⟨0, Nat.zero_le _, rfl, hownL, by simpa using hcnt7, hB7⟩
          case round =>
            clear hownL hcnt7 hB7
            obtain ⟨j, hj, rfl, hownL, hcnt, hB⟩ := hrel
            by_cases hjm : j < m
            · obtain ⟨gl, rfl, hBg⟩ := hsh (by omega)
              have hjL : j < L.length := by rw [Hm.out]; exact hjm
              obtain ⟨e0, e1⟩ := square_cells Hm.out hownL j hjL
              have hcr := HMem.out L[j] (List.getElem_mem hjL)
              have hTake : L.take (j + 1) = L.take j ++ [L[j]] := List.take_succ_eq_append_getElem hjL
              have hPrev : ∀ i, i + 1 = j → ∃ h : i < L.length, Grid.Before L[i] L[j] := fun i hi => ⟨by omega, List.pairwise_iff_getElem.1 HOrd.out i j (by omega) hjL (by omega)⟩
              obtain ⟨c, r, hq⟩ : ∃ c r, L[j] = (c, r) := ⟨_, _, rfl⟩
              rw [hq] at e0 e1 hcr hTake hPrev
              obtain ⟨hc, hr⟩ := hcr
              have hKN : r * n + c < N := by
                rw [← HN.out]
                have h1 : (r + 1) * n ≤ n * n := Nat.mul_le_mul_right n hr
                rw [Nat.add_mul] at h1
                omega
              have hz := Grid.hits_le n (D ++ L.take j) (r * n + c)
              rw [List.length_append, List.length_take] at hz
              have hcell := hcnt.read (r * n + c) hKN
              have hfree := hcnt.free (r * n + c)
              have hGw : G < wr.heap.size := World.block_lt_of_cell? _ _ hcell
              have hgw : gl < wr.heap.size := World.block_lt_of_cell? _ _ e0
              have grr := gr.later hz5 hB
              have g3 := grr.h1
              have hBw : Bh < wr.heap.size := World.block_lt_of_cell? _ _ g3
              have HTake : Hid (L.take (j + 1) = L.take j ++ [(c, r)]) := hTake
              have HPrev : Hid (∀ i, i + 1 = j → ∃ h : i < L.length, Grid.Before L[i] (c, r)) := hPrev
              have hKi : (r : Int) * (n : Int) = ((r * n : Nat) : Int) := (Int.natCast_mul r n).symm
              have hstep := hcnt.step c r hKN
              clear hq hTake hPrev grr
              generalize hKe : r * n = K at *
              have HKe : Hid (r * n = K) := hKe
              generalize hZe : Grid.hits n (D ++ L.take j) (K + c) = Z at *
              have HZe : Hid (Grid.hits n (D ++ L.take j) (K + c) = Z) := hZe
              clear hKe hZe
              have Hst : Hid (Cnt n N G (D ++ L.take j ++ [(c, r)]) (wr.setCell ⟨G, K + c, none⟩ (.int .i64 ((Z : Int) + 1)))) := hstep
              clear hstep
              by_cases hj0 : j = 0
              · subst hj0
                go_wp2
                go_roundw
                case rel =>
                  refine ⟨1, by omega, rfl, (ownsRow_setCell_below hownL hGlt _).alloc _, ?_, (hB.setCell (Nat.le_refl _) _).alloc (by simp; omega) _⟩
                  have := Hst.out.below ((Below.refl _ _).alloc (Nat.le_refl _) (.cells #[.int .i32 (c : Int), .int .i32 (r : Int)] 29))
                  rw [HTake.out, ← List.append_assoc]
                  exact this
                case measure => simp [intOf]; omega
              · obtain ⟨i, rfl⟩ : ∃ i, j = i + 1 := ⟨j - 1, by omega⟩
                obtain ⟨hiL, hbf⟩ := HPrev.out i rfl
                obtain ⟨p0, p1⟩ := square_cells Hm.out hownL i hiL
                obtain ⟨c', r', hq'⟩ : ∃ c' r', L[i] = (c', r') := ⟨_, _, rfl⟩
                rw [hq'] at p0 p1 hbf
                clear hq' HPrev hj0
                rcases hbf with hbf | hbf
                · have hbf' : r' < r := hbf
                  clear hbf
                  go_wp2
                  go_roundw
                  case rel =>
                    refine ⟨i + 1 + 1, by omega, by go_num, ((ownsRow_setCell_below hownL hGlt _).alloc _).alloc _, ?_, ((hB.setCell (Nat.le_refl _) _).alloc (by simp; omega) _).alloc (by simp; omega) _⟩
                    have := Hst.out.below (((Below.refl _ _).alloc (Nat.le_refl _) (.cells #[.int .i32 (c : Int), .int .i32 (r : Int)] 29)).alloc (by simp) (.cells #[.int .i32 (c' : Int), .int .i32 (r' : Int)] 29))
                    rw [HTake.out, ← List.append_assoc]
                    exact this
                  case measure => simp [intOf]; omega
                · have hbf1 : r' = r := hbf.1
                  have hbf2 : c' < c := hbf.2
                  clear hbf
                  subst hbf1
                  go_wp2
                  go_roundw
                  case rel =>
                    refine ⟨i + 1 + 1, by omega, by go_num, ((ownsRow_setCell_below hownL hGlt _).alloc _).alloc _, ?_, ((hB.setCell (Nat.le_refl _) _).alloc (by simp; omega) _).alloc (by simp; omega) _⟩
                    have := Hst.out.below (((Below.refl _ _).alloc (Nat.le_refl _) (.cells #[.int .i32 (c : Int), .int .i32 (r' : Int)] 29)).alloc (by simp) (.cells #[.int .i32 (c' : Int), .int .i32 (r' : Int)] 29))
                    rw [HTake.out, ← List.append_assoc]
                    exact this
                  case measure => simp [intOf]; omega
            · go_wp2
              go_roundw
              case rel =>
                refine ⟨sc + 1, by omega, by go_num, ?_, hB⟩
                rw [HDone.out]
                rw [List.take_of_length_le (by rw [Hm.out]; omega)] at hcnt
                exact hcnt
              case measure => simp [intOf]; omega
        · obtain rfl : sc = ca := by omega
          rw [Grid.done_next] at hcnt
          go_wp2
          go_roundw
          case rel => exact ⟨sr + 1, by omega, by go_num, hcnt, hB⟩
          case measure => simp [intOf]; omega
    · obtain rfl : sr = ca := by omega
      have hbw : Below w.heap.size w wr := hb5.trans (hB.mono (by rw [← hz5]; exact hb5.size))
      have hone : ∀ k, k < N → wr.cell? ⟨G, k, none⟩ = some (.int .i64 1) := fun k hk => by
        rw [hcnt.read k hk, Grid.hits_all g k (by rw [HN.out]; exact hk)]; rfl
      have Hone : Hid (∀ k, k < N → wr.cell? ⟨G, k, none⟩ = some (.int .i64 1)) := hone
      clear hone hcnt hB grr gr hz5 hb5
      go_wp2
      go_loop [121] (fun i => ∃ k : Nat, k ≤ N ∧ i = .int .i64 k) (fun i => N - (intOf i).toNat)
      case atStart => exact ⟨0, Nat.zero_le _, rfl⟩
      case round =>
        obtain ⟨k, hk, rfl⟩ := hrel
        by_cases hkN : k < N
        · have hck := Hone.out k hkN
          go_wp2
          go_round
          case rel => exact ⟨k + 1, by omega, by go_num⟩
          case measure => simp [intOf]; omega
        · go_wp2
          go_ret
          exact ⟨rfl, hbw⟩
end Go.Proofs.Ybulkbioy
