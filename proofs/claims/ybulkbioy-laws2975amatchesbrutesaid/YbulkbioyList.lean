/-
  DERIVED. List: the plain listing of squares, row by row, and what the kernel's table says of a pair of grids, as facts.
-/
import Derived.Test.YbulkbioyGrid
namespace Go.Proofs.Ybulkbioy
namespace Grid

/-- The numbers below k that P picks. -/
def sel (P : Nat → Bool) (k : Nat) : List Nat := (List.range k).filter P
theorem sel_zero (P : Nat → Bool) : sel P 0 = [] := rfl
theorem sel_succ (P : Nat → Bool) (k : Nat) : sel P (k + 1) = sel P k ++ if P k = true then [k] else [] := by
  simp only [sel, List.range_succ, List.filter_append]
  congr 1
  by_cases h : P k = true <;> simp [h]
theorem sel_none {P : Nat → Bool} {k : Nat} (h : ∀ j, P j = true → k ≤ j) : sel P k = [] := by
  simp only [sel, List.filter_eq_nil_iff, List.mem_range]
  intro j hj hp
  have := h j hp
  omega
theorem sel_more {P : Nat → Bool} {a : Nat} (ha : ∀ j, P j = true → j < a) : ∀ d, sel P (a + d) = sel P a
  | 0 => rfl
  | d + 1 => by
    rw [← Nat.add_assoc, sel_succ, sel_more ha d]
    have : P (a + d) ≠ true := fun h => by have := ha _ h; omega
    simp [this]
theorem sel_all {P : Nat → Bool} {a b : Nat} (ha : ∀ j, P j = true → j < a) (hb : ∀ j, P j = true → j < b) : sel P a = sel P b := by
  rcases Nat.le_total a b with h | h
  · obtain ⟨d, rfl⟩ : ∃ d, b = a + d := ⟨b - a, by omega⟩
    exact (sel_more ha d).symm
  · obtain ⟨d, rfl⟩ : ∃ d, a = b + d := ⟨a - b, by omega⟩
    exact sel_more hb d
theorem mem_sel {P : Nat → Bool} {k j : Nat} : j ∈ sel P k ↔ j < k ∧ P j = true := by simp [sel]

/-- One row of squares. -/
def row (cols : List Nat) (r : Nat) : List (Nat × Nat) := cols.map fun c => (c, r)
/-- The rows below r that PR picks, each with the columns below n that PC picks. -/
def listing (PC PR : Nat → Bool) (n r : Nat) : List (Nat × Nat) := (sel PR r).flatMap fun q => row (sel PC n) q
/-- The same, the row r as far as column c. -/
def upto (PC PR : Nat → Bool) (n r c : Nat) : List (Nat × Nat) := listing PC PR n r ++ if PR r = true then row (sel PC c) r else []

theorem upto_hit {PC PR : Nat → Bool} {n r c : Nat} (hr : PR r = true) (hc : PC c = true) : upto PC PR n r (c + 1) = upto PC PR n r c ++ [(c, r)] := by
  simp [upto, hr, sel_succ, hc, row]
theorem upto_miss {PC PR : Nat → Bool} {n r c : Nat} (h : ¬ (PR r = true ∧ PC c = true)) : upto PC PR n r (c + 1) = upto PC PR n r c := by
  by_cases hr : PR r = true
  · have hc : ¬ PC c = true := fun hc => h ⟨hr, hc⟩
    simp [upto, hr, sel_succ, hc]
  · simp [upto, hr]
theorem upto_start {PC PR : Nat → Bool} {n r c : Nat} (h : ∀ j, PC j = true → c ≤ j) : upto PC PR n r c = listing PC PR n r := by
  simp [upto, sel_none h, row]
theorem upto_end {PC PR : Nat → Bool} {n r c : Nat} (h : ∀ j, PC j = true → j < c) (hn : ∀ j, PC j = true → j < n) : upto PC PR n r c = listing PC PR n (r + 1) := by
  rw [upto, sel_all h hn]
  simp only [listing, sel_succ, List.flatMap_append]
  congr 1
  by_cases hr : PR r = true <;> simp [hr]
theorem listing_start {PC PR : Nat → Bool} {n r : Nat} (h : ∀ j, PR j = true → r ≤ j) : listing PC PR n r = [] := by
  simp [listing, sel_none h]
theorem listing_end {PC PR : Nat → Bool} {n r : Nat} (h : ∀ j, PR j = true → j < r) (hn : ∀ j, PR j = true → j < n) : listing PC PR n r = listing PC PR n n := by
  rw [listing, listing, sel_all h hn]

/-- The coarse square that holds fine index k. -/
def T (hs cs ca : Nat) (k : Nat) : Int := idx cs ca (mid hs k)
/-- Fine index k lies in the coarse square s. -/
def inB (hs n cs ca : Nat) (s : Int) (k : Nat) : Bool := decide (k < n) && decide (T hs cs ca k = s)
theorem inB_iff {hs n cs ca : Nat} {s : Int} {k : Nat} : inB hs n cs ca s k = true ↔ k < n ∧ T hs cs ca k = s := by simp [inB]

/-- What the kernel's table says of a fine grid (hs, n) and a coarse one (cs, ca). -/
structure Good (hs n cs ca : Nat) : Prop where
  n1 : 1 ≤ n
  n2 : n ≤ 15
  c1 : 1 ≤ ca
  c2 : ca ≤ 15
  mids : ∀ k : Nat, k < n → (midV hs k).isSome = true
  idxs : ∀ k : Nat, k < n → (idxV cs ca (mid hs k)).isSome = true
  rng : ∀ k : Nat, k < n → 0 ≤ T hs cs ca k ∧ T hs cs ca k < ca
  own : ∀ k : Nat, k < n → ownerV hs cs ca k = some (T hs cs ca k)
  cov : ∀ k : Nat, k < n → ∃ f l, firstV cs hs (T hs cs ca k) = some f ∧ lastV hs n cs (T hs cs ca k) = some l ∧ f ≤ k ∧ (k : Int) ≤ l

theorem good_of {hs n cs ca : Nat} (n1 : 1 ≤ n) (n2 : n ≤ 15) (c1 : 1 ≤ ca) (c2 : ca ≤ 15) (h : pairB hs n cs ca = true) : Good hs n cs ca := by
  have key : ∀ k : Nat, k < n → ∃ x t f l, midV hs k = some x ∧ idxV cs ca x = some t ∧ 0 ≤ t ∧ t < ca ∧ ownerV hs cs ca k = some t ∧ firstV cs hs t = some f ∧ lastV hs n cs t = some l ∧ f ≤ k ∧ (k : Int) ≤ l := by
    intro k hk
    have h' := List.all_eq_true.1 h k (List.mem_range.2 hk)
    split at h'
    · rename_i t ht
      simp only [Bool.and_eq_true, decide_eq_true_eq, beq_iff_eq] at h'
      obtain ⟨⟨⟨h1, h2⟩, h3⟩, h4⟩ := h'
      split at h4
      · rename_i f l hf hl
        simp only [decide_eq_true_eq] at h4
        obtain ⟨x, hx, hx'⟩ := Option.bind_eq_some_iff.1 ht
        exact ⟨x, t, f, l, hx, hx', h1, h2, h3, hf, hl, h4.1, h4.2⟩
      · cases h4
    · cases h'
  have ht : ∀ k : Nat, k < n → ∀ x t, midV hs k = some x → idxV cs ca x = some t → mid hs k = x ∧ T hs cs ca k = t := by
    intro k _ x t hx ht
    have e : mid hs k = x := by simp [mid, hx]
    exact ⟨e, by simp [T, e, idx, ht]⟩
  refine ⟨n1, n2, c1, c2, ?_, ?_, ?_, ?_, ?_⟩
  all_goals
    intro k hk
    obtain ⟨x, t, f, l, hx, hi, t0, t1, ho, hf, hl, hfk, hlk⟩ := key k hk
    obtain ⟨e1, e2⟩ := ht k hk x t hx hi
  · rw [hx]; rfl
  · rw [e1, hi]; rfl
  · rw [e2]; exact ⟨t0, t1⟩
  · rw [e2]; exact ho
  · rw [e2]; exact ⟨f, l, hf, hl, hfk, hlk⟩

theorem good_pair (i j : Nat) (hi : i < 10) (hj : j < 10) : Good (sides.getD i 0) (acrosses.getD i 0) (sides.getD j 0) (acrosses.getD j 0) := by
  have h1 : ∀ i, i < 10 → 1 ≤ acrosses.getD i 0 ∧ acrosses.getD i 0 ≤ 15 := by decide
  have h := List.all_eq_true.1 (List.all_eq_true.1 all_ok i (List.mem_range.2 hi)) j (List.mem_range.2 hj)
  exact good_of (h1 i hi).1 (h1 i hi).2 (h1 j hj).1 (h1 j hj).2 h

/-- Whatever 'first' may give for s, it lies at or before the indices that lie in s. -/
theorem Good.encF {hs n cs ca : Nat} (g : Good hs n cs ca) {s f : Int} (hf : ∀ m, firstV cs hs s = some m → f = m) :
    ∀ k, inB hs n cs ca s k = true → f ≤ k := by
  intro k hk
  obtain ⟨hkn, rfl⟩ := inB_iff.1 hk
  obtain ⟨f', l', h1, h2, h3, h4⟩ := g.cov k hkn
  rw [hf f' h1]
  exact h3
/-- Whatever 'last' may give for s, it lies at or behind them. -/
theorem Good.encL {hs n cs ca : Nat} (g : Good hs n cs ca) {s l : Int} (hl : ∀ m, lastV hs n cs s = some m → l = m) :
    ∀ k, inB hs n cs ca s k = true → (k : Int) ≤ l := by
  intro k hk
  obtain ⟨hkn, rfl⟩ := inB_iff.1 hk
  obtain ⟨f', l', h1, h2, h3, h4⟩ := g.cov k hkn
  rw [hl l' h2]
  exact h4
theorem sel_len (P : Nat → Bool) (k : Nat) : (sel P k).length ≤ k := by
  have := List.length_filter_le P (List.range k)
  simpa [sel] using this
theorem rows_len (cols : List Nat) (n : Nat) (h : cols.length ≤ n) : ∀ L : List Nat, (L.flatMap fun q => row cols q).length ≤ L.length * n
  | [] => by simp
  | q :: L => by
    have := rows_len cols n h L
    have e : (row cols q).length = cols.length := by simp [row]
    rw [List.flatMap_cons, List.length_append, e, List.length_cons, Nat.add_mul]
    omega
theorem listing_len (PC PR : Nat → Bool) (n r : Nat) : (listing PC PR n r).length ≤ r * n := by
  have h1 := rows_len (sel PC n) n (sel_len PC n) (sel PR r)
  have h2 := Nat.mul_le_mul_right n (sel_len PR r)
  exact Nat.le_trans h1 h2
theorem upto_len (PC PR : Nat → Bool) (n r c : Nat) : (upto PC PR n r c).length ≤ r * n + c := by
  have h1 := listing_len PC PR n r
  have h2 := sel_len PC c
  rw [upto, List.length_append]
  split
  · simp [row]; omega
  · simp; omega
theorem upto_small (PC PR : Nat → Bool) (n r c : Nat) (hn : n ≤ 15) (hr : r < n) (hc : c ≤ n) : (upto PC PR n r c).length ≤ 240 := by
  have h := upto_len PC PR n r c
  have h2 : r * n ≤ 15 * 15 := Nat.mul_le_mul (by omega) hn
  omega
end Grid
end Go.Proofs.Ybulkbioy
