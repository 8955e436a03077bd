/-
  DERIVED. Tally: the plain law of the partition: the lists of all coarse squares hold squares of the fine grid alone, each list in order, and every fine square just once.
-/
import Derived.Test.YbulkbioyList
namespace Go.Proofs.Ybulkbioy
namespace Grid

/-- Row first, then column. -/
def Before (p q : Nat × Nat) : Prop := p.2 < q.2 ∨ (p.2 = q.2 ∧ p.1 < q.1)

theorem pw_mono {α : Type} {R S : α → α → Prop} (H : ∀ a b, R a b → S a b) : ∀ {l : List α}, l.Pairwise R → l.Pairwise S
  | [], _ => List.Pairwise.nil
  | a :: l, h => by
    rw [List.pairwise_cons] at h ⊢
    exact ⟨fun b hb => H _ _ (h.1 b hb), pw_mono H h.2⟩
theorem count_one {α : Type} [BEq α] [LawfulBEq α] (a : α) : ∀ {l : List α}, l.Pairwise (· ≠ ·) → a ∈ l → l.count a = 1
  | [], _, h => by cases h
  | b :: l, hp, hm => by
    rw [List.pairwise_cons] at hp
    by_cases e : b = a
    · subst e
      have h0 : l.count b = 0 := List.count_eq_zero.2 fun hb => hp.1 b hb rfl
      rw [List.count_cons_self, h0]
    · have hm' : a ∈ l := by
        rcases List.mem_cons.1 hm with h | h
        · exact absurd h.symm e
        · exact h
      rw [List.count_cons_of_ne e]
      exact count_one a hp.2 hm'

theorem sel_sorted (P : Nat → Bool) (k : Nat) : (sel P k).Pairwise (· < ·) := (List.pairwise_lt_range).filter _
theorem row_sorted {cols : List Nat} (h : cols.Pairwise (· < ·)) (r : Nat) : (row cols r).Pairwise Before := by
  simp only [row, List.pairwise_map]
  exact pw_mono (fun a b h => Or.inr ⟨rfl, h⟩) h
theorem rows_sorted {cols : List Nat} (h : cols.Pairwise (· < ·)) : ∀ {L : List Nat}, L.Pairwise (· < ·) → (L.flatMap fun q => row cols q).Pairwise Before
  | [], _ => by simp
  | r :: L, hL => by
    rw [List.flatMap_cons, List.pairwise_append]
    rw [List.pairwise_cons] at hL
    refine ⟨row_sorted h r, rows_sorted h hL.2, ?_⟩
    intro a ha b hb
    simp only [row, List.mem_map] at ha
    obtain ⟨c, _, rfl⟩ := ha
    simp only [List.mem_flatMap, row, List.mem_map] at hb
    obtain ⟨r', hr', c', _, rfl⟩ := hb
    exact Or.inl (hL.1 r' hr')
theorem listing_sorted (PC PR : Nat → Bool) (n r : Nat) : (listing PC PR n r).Pairwise Before := rows_sorted (sel_sorted PC n) (sel_sorted PR r)

theorem mem_listing {PC PR : Nat → Bool} {n r : Nat} {q : Nat × Nat} : q ∈ listing PC PR n r ↔ (q.1 < n ∧ PC q.1 = true) ∧ (q.2 < r ∧ PR q.2 = true) := by
  simp only [listing, List.mem_flatMap, row, List.mem_map, mem_sel]
  constructor
  · rintro ⟨a, ⟨h1, h2⟩, b, ⟨h3, h4⟩, rfl⟩
    exact ⟨⟨h3, h4⟩, h1, h2⟩
  · rintro ⟨⟨h1, h2⟩, h3, h4⟩
    exact ⟨q.2, ⟨h3, h4⟩, q.1, ⟨h1, h2⟩, rfl⟩

theorem listing_nodup (PC PR : Nat → Bool) (n r : Nat) : (listing PC PR n r).Pairwise (· ≠ ·) := by
  refine pw_mono ?_ (listing_sorted PC PR n r)
  intro a b h e
  subst e
  rcases h with h | h
  · omega
  · omega

/-- How often the squares of P meet the cell k of an n by n table. -/
def hits (n : Nat) (P : List (Nat × Nat)) (k : Nat) : Nat := P.countP fun q => q.2 * n + q.1 == k
theorem hits_le (n : Nat) (P : List (Nat × Nat)) (k : Nat) : hits n P k ≤ P.length := List.countP_le_length
theorem hits_snoc (n : Nat) (P : List (Nat × Nat)) (c r k : Nat) : hits n (P ++ [(c, r)]) k = hits n P k + if r * n + c = k then 1 else 0 := by
  simp only [hits, List.countP_append, List.countP_cons, List.countP_nil, Nat.zero_add, beq_iff_eq]
theorem hits_nil (n k : Nat) : hits n [] k = 0 := rfl

section
variable (hs n cs ca : Nat)
/-- The list of coarse square (sc, sr). -/
def lst (sr sc : Nat) : List (Nat × Nat) := listing (inB hs n cs ca sc) (inB hs n cs ca sr) n n
/-- The lists of the first m squares of coarse row sr. -/
def doneRow (sr m : Nat) : List (Nat × Nat) := (List.range m).flatMap fun sc => lst hs n cs ca sr sc
/-- The lists of all coarse rows before sr, and of the first m squares of row sr. -/
def done (sr m : Nat) : List (Nat × Nat) := ((List.range sr).flatMap fun s => doneRow hs n cs ca s ca) ++ doneRow hs n cs ca sr m

theorem done_zero : done hs n cs ca 0 0 = [] := rfl
theorem done_next (sr : Nat) : done hs n cs ca sr ca = done hs n cs ca (sr + 1) 0 := by
  simp [done, doneRow, List.range_succ]
theorem done_step (sr m : Nat) : done hs n cs ca sr (m + 1) = done hs n cs ca sr m ++ lst hs n cs ca sr m := by
  simp [done, doneRow, List.range_succ]

theorem lst_len (hn : n ≤ 15) (sr sc : Nat) : (lst hs n cs ca sr sc).length ≤ 225 := by
  have h := listing_len (inB hs n cs ca sc) (inB hs n cs ca sr) n n
  have h2 : n * n ≤ 15 * 15 := Nat.mul_le_mul hn hn
  unfold lst
  omega
theorem flat_len {α β : Type} (f : α → List β) (b : Nat) (h : ∀ a, (f a).length ≤ b) : ∀ L : List α, (L.flatMap f).length ≤ L.length * b
  | [] => by simp
  | a :: L => by
    have := flat_len f b h L
    have := h a
    rw [List.flatMap_cons, List.length_append, List.length_cons, Nat.add_mul]
    omega
theorem doneRow_len (hn : n ≤ 15) (sr m : Nat) : (doneRow hs n cs ca sr m).length ≤ m * 225 := by
  have := flat_len (fun sc => lst hs n cs ca sr sc) 225 (fun sc => lst_len hs n cs ca hn sr sc) (List.range m)
  simpa [doneRow] using this
theorem done_len (hn : n ≤ 15) (hca : ca ≤ 15) (sr m : Nat) (hsr : sr ≤ 15) (hm : m ≤ 15) : (done hs n cs ca sr m).length ≤ 60000 := by
  have h1 := flat_len (fun s => doneRow hs n cs ca s ca) (ca * 225) (fun s => doneRow_len hs n cs ca hn s ca) (List.range sr)
  have h2 := doneRow_len hs n cs ca hn sr m
  rw [List.length_range] at h1
  have h3 : sr * (ca * 225) ≤ 15 * (15 * 225) := Nat.mul_le_mul hsr (Nat.mul_le_mul_right _ hca)
  rw [done, List.length_append]
  omega
end

theorem cell_unique {n c r c' r' : Nat} (hc : c < n) (hc' : c' < n) (h : r * n + c = r' * n + c') : c = c' ∧ r = r' := by
  have e1 : (r * n + c) % n = c := by rw [Nat.mul_comm, Nat.mul_add_mod]; exact Nat.mod_eq_of_lt hc
  have e2 : (r' * n + c') % n = c' := by rw [Nat.mul_comm, Nat.mul_add_mod]; exact Nat.mod_eq_of_lt hc'
  have hcc : c = c' := by rw [← e1, ← e2, h]
  subst hcc
  have hm : r * n = r' * n := by omega
  exact ⟨rfl, Nat.eq_of_mul_eq_mul_right (by omega) hm⟩

/-- One list meets the cell of (c, r) once if it is the list of the coarse square that holds it, else never. -/
theorem hits_lst (hs n cs ca : Nat) (sr sc c r : Nat) (hc : c < n) (hr : r < n) :
    hits n (lst hs n cs ca sr sc) (r * n + c) = if T hs cs ca c = sc ∧ T hs cs ca r = sr then 1 else 0 := by
  have e : hits n (lst hs n cs ca sr sc) (r * n + c) = (lst hs n cs ca sr sc).count (c, r) := by
    unfold hits List.count
    refine List.countP_congr ?_
    intro q hq
    have hm := mem_listing.1 hq
    constructor
    · intro h
      have h' : q.2 * n + q.1 = r * n + c := by simpa using h
      obtain ⟨h1, h2⟩ := cell_unique hm.1.1 hc h'
      simp [← h1, ← h2]
    · intro h
      have h' : q = (c, r) := by simpa using h
      subst h'
      simp
  rw [e]
  by_cases h : T hs cs ca c = sc ∧ T hs cs ca r = sr
  · rw [if_pos h]
    exact count_one _ (listing_nodup _ _ _ _) (mem_listing.2 ⟨⟨hc, inB_iff.2 ⟨hc, h.1⟩⟩, hr, inB_iff.2 ⟨hr, h.2⟩⟩)
  · rw [if_neg h]
    refine List.count_eq_zero.2 fun hm => h ?_
    have hm' := mem_listing.1 hm
    exact ⟨(inB_iff.1 hm'.1.2).2, (inB_iff.1 hm'.2.2).2⟩

theorem hits_append (n : Nat) (P Q : List (Nat × Nat)) (k : Nat) : hits n (P ++ Q) k = hits n P k + hits n Q k := List.countP_append

theorem hits_row (hs n cs ca : Nat) (sr c r : Nat) (hc : c < n) (hr : r < n) : ∀ m, (h : 0 ≤ T hs cs ca c) →
    hits n (doneRow hs n cs ca sr m) (r * n + c) = if T hs cs ca c < m ∧ T hs cs ca r = sr then 1 else 0
  | 0, h => by
    rw [if_neg (by omega)]; rfl
  | m + 1, h => by
    have ih := hits_row hs n cs ca sr c r hc hr m h
    have e : doneRow hs n cs ca sr (m + 1) = doneRow hs n cs ca sr m ++ lst hs n cs ca sr m := by simp [doneRow, List.range_succ]
    rw [e, hits_append, ih, hits_lst hs n cs ca sr m c r hc hr]
    by_cases h1 : T hs cs ca r = sr
    · by_cases h2 : T hs cs ca c < (m : Int)
      · rw [if_pos ⟨h2, h1⟩, if_neg (by omega), if_pos (by omega)]
      · by_cases h3 : T hs cs ca c = (m : Int)
        · rw [if_neg (by omega), if_pos ⟨h3, h1⟩, if_pos (by omega)]
        · rw [if_neg (by omega), if_neg (by omega), if_neg (by omega)]
    · rw [if_neg (by omega), if_neg (by omega), if_neg (by omega)]

theorem hits_rows {hs n cs ca : Nat} (g : Good hs n cs ca) (c r : Nat) (hc : c < n) (hr : r < n) : ∀ sr,
    hits n ((List.range sr).flatMap fun s => doneRow hs n cs ca s ca) (r * n + c) = if T hs cs ca r < sr then 1 else 0
  | 0 => by
    have := (g.rng r hr).1
    rw [if_neg (by omega)]; rfl
  | sr + 1 => by
    have ih := hits_rows g c r hc hr sr
    have hc' := g.rng c hc
    have hr' := g.rng r hr
    rw [List.range_succ, List.flatMap_append, hits_append, ih]
    have e : (List.flatMap (fun s => doneRow hs n cs ca s ca) [sr]) = doneRow hs n cs ca sr ca := by simp
    rw [e, hits_row hs n cs ca sr c r hc hr ca hc'.1]
    by_cases h1 : T hs cs ca r < (sr : Int)
    · rw [if_pos h1, if_neg (by omega), if_pos (by omega)]
    · by_cases h2 : T hs cs ca r = (sr : Int)
      · rw [if_neg h1, if_pos ⟨hc'.2, h2⟩, if_pos (by omega)]
      · rw [if_neg h1, if_neg (by omega), if_neg (by omega)]

/-- ALL LISTS TOGETHER MEET EVERY CELL ONCE. -/
theorem hits_all {hs n cs ca : Nat} (g : Good hs n cs ca) (k : Nat) (hk : k < n * n) : hits n (done hs n cs ca ca 0) k = 1 := by
  have hn : 0 < n := g.n1
  have hc : k % n < n := Nat.mod_lt _ hn
  have hr : k / n < n := Nat.div_lt_of_lt_mul hk
  have e : k = k / n * n + k % n := by have := Nat.div_add_mod k n; rw [Nat.mul_comm] at this; omega
  have e2 : done hs n cs ca ca 0 = (List.range ca).flatMap fun s => doneRow hs n cs ca s ca := by simp [done, doneRow]
  rw [e2, e, hits_rows g (k % n) (k / n) hc hr ca, if_pos (g.rng _ hr).2]
end Grid
end Go.Proofs.Ybulkbioy
