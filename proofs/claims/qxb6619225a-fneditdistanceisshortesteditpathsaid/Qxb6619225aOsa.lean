/-
  The plain mathematics of the edit distance: the table row by row, its recurrence, and what one edit costs. No program is in this text.
-/
namespace Go.Proofs.Qxb6619225a

/-- Two neighbours stand the other way round. -/
def swapB (a b : List Int) (i j : Nat) : Bool := decide (0 < i) && (decide (0 < j) && ((a.getD i 0 == b.getD (j - 1) 0) && (a.getD (i - 1) 0 == b.getD j 0)))

def cost (a b : List Int) (i j : Nat) : Nat := if a.getD i 0 == b.getD j 0 then 0 else 1

/-- The row behind the rows p2 and p: of the first i + 1 of a. -/
def rowNext (a b : List Int) (i : Nat) (p2 p : Nat → Nat) : Nat → Nat
  | 0 => i + 1
  | j + 1 => if swapB a b i j then min (min (p (j + 1) + 1) (min (rowNext a b i p2 p j + 1) (p j + cost a b i j))) (p2 (j - 1) + 1) else min (p (j + 1) + 1) (min (rowNext a b i p2 p j + 1) (p j + cost a b i j))

/-- The row of the first i - 1 and the row of the first i. -/
def rows (a b : List Int) : Nat → (Nat → Nat) × (Nat → Nat)
  | 0 => (fun _ => 0, fun j => j)
  | i + 1 => ((rows a b i).2, rowNext a b i (rows a b i).1 (rows a b i).2)

/-- The distance of a's first i from b's first j. -/
def D (a b : List Int) (i j : Nat) : Nat := (rows a b i).2 j

theorem rows_fst (a b : List Int) (i : Nat) : (rows a b (i + 1)).1 = D a b i := rfl

theorem D_zero (a b : List Int) (j : Nat) : D a b 0 j = j := rfl
theorem D_left (a b : List Int) (i : Nat) : D a b i 0 = i := by cases i <;> rfl

/-- The least of the three plain edits. -/
def three (a b : List Int) (i j : Nat) : Nat := min (D a b i (j + 1) + 1) (min (D a b (i + 1) j + 1) (D a b i j + cost a b i j))

theorem swapB_pos {a b : List Int} {i j : Nat} (h : swapB a b i j = true) : 0 < i ∧ 0 < j := by
  simp [swapB] at h
  exact ⟨h.1, h.2.1⟩

theorem D_succ (a b : List Int) (i j : Nat) : D a b (i + 1) (j + 1) = if swapB a b i j then min (three a b i j) (D a b (i - 1) (j - 1) + 1) else three a b i j := by
  have e : D a b (i + 1) (j + 1) = rowNext a b i (rows a b i).1 (rows a b i).2 (j + 1) := rfl
  rw [e]
  unfold rowNext
  cases h : swapB a b i j with
  | false => rfl
  | true =>
    obtain ⟨hi, hj⟩ := swapB_pos h
    obtain ⟨i', rfl⟩ : ∃ i', i = i' + 1 := ⟨i - 1, by omega⟩
    rfl

theorem D_le (a b : List Int) : ∀ i j, D a b i j ≤ i + j := by
  intro i
  induction i with
  | zero => intro j; rw [D_zero]; omega
  | succ i ih =>
    intro j
    induction j with
    | zero => rw [D_left]; omega
    | succ j ihj =>
      rw [D_succ]
      have h1 := ih (j + 1)
      have : three a b i j ≤ i + 1 + (j + 1) := by unfold three; omega
      split <;> omega

theorem D_del (a b : List Int) (i j : Nat) : D a b (i + 1) j ≤ D a b i j + 1 := by
  cases j with
  | zero => rw [D_left, D_left]; omega
  | succ j => rw [D_succ]; unfold three; split <;> omega
theorem D_ins (a b : List Int) (i j : Nat) : D a b i (j + 1) ≤ D a b i j + 1 := by
  cases i with
  | zero => rw [D_zero, D_zero]; omega
  | succ i => rw [D_succ]; unfold three; split <;> omega
theorem D_rep (a b : List Int) (i j : Nat) : D a b (i + 1) (j + 1) ≤ D a b i j + cost a b i j := by rw [D_succ]; unfold three; split <;> omega
theorem D_swap (a b : List Int) (i j : Nat) (h : swapB a b (i + 1) (j + 1) = true) : D a b (i + 2) (j + 2) ≤ D a b i j + 1 := by
  rw [D_succ, if_pos h]; simp only [Nat.add_sub_cancel]; omega

/-- Distance nought: the same, one by one. -/
theorem D_eq_zero (a b : List Int) : ∀ i j, D a b i j = 0 → i = j ∧ ∀ t, t < i → a.getD t 0 = b.getD t 0 := by
  intro i
  induction i with
  | zero => intro j h; rw [D_zero] at h; exact ⟨h.symm, fun t ht => absurd ht (by omega)⟩
  | succ i ih =>
    intro j h
    cases j with
    | zero => rw [D_left] at h; omega
    | succ j =>
      rw [D_succ] at h
      have h3 : D a b i j + cost a b i j = 0 := by
        split at h
        · unfold three at h; omega
        · unfold three at h; omega
      obtain ⟨rfl, hp⟩ := ih j (by omega)
      refine ⟨rfl, fun t ht => ?_⟩
      by_cases e : t = i
      · subst e
        have hc : cost a b t t = 0 := by omega
        unfold cost at hc
        split at hc
        · rename_i hh; simpa using hh
        · omega
      · exact hp t (by omega)

theorem cost_zero {a b : List Int} {i j : Nat} (h : a.getD i 0 = b.getD j 0) : cost a b i j = 0 := by unfold cost; rw [h]; simp
theorem cost_le (a b : List Int) (i j : Nat) : cost a b i j ≤ 1 := by unfold cost; split <;> omega

/-- Along a stretch that is the same the distance does not grow. -/
theorem D_along (a b : List Int) (i j : Nat) : ∀ t, (∀ s, s < t → a.getD (i + s) 0 = b.getD (j + s) 0) → D a b (i + t) (j + t) ≤ D a b i j
  | 0, _ => Nat.le_refl _
  | t + 1, h => by
    have h1 := D_along a b i j t (fun s hs => h s (by omega))
    have h2 := D_rep a b (i + t) (j + t)
    rw [cost_zero (h t (by omega))] at h2
    have e1 : i + (t + 1) = i + t + 1 := by omega
    have e2 : j + (t + 1) = j + t + 1 := by omega
    rw [e1, e2]
    omega

theorem D_same (a b : List Int) (t : Nat) (h : ∀ s, s < t → a.getD s 0 = b.getD s 0) : D a b t t = 0 := by
  have := D_along a b 0 0 t (fun s hs => by simpa using h s hs)
  rw [D_zero] at this
  simpa using this

/-- Whole lists. -/
def dist (a b : List Int) : Nat := D a b a.length b.length

theorem dist_self (a : List Int) : dist a a = 0 := D_same a a a.length (fun _ _ => rfl)

theorem dist_pos {a b : List Int} (h : a.length ≠ b.length ∨ ∃ t, t < a.length ∧ a.getD t 0 ≠ b.getD t 0) : 1 ≤ dist a b := by
  cases hd : dist a b with
  | zero =>
    obtain ⟨h1, h2⟩ := D_eq_zero a b _ _ hd
    rcases h with h | ⟨t, ht, h⟩
    · exact absurd h1 h
    · exact absurd (h2 t ht) h
  | succ n => omega

/-- One element more in b. -/
theorem dist_ins (a b : List Int) (p : Nat) (hp : p ≤ a.length) (hl : b.length = a.length + 1) (h1 : ∀ s, s < p → a.getD s 0 = b.getD s 0) (h2 : ∀ s, p ≤ s → s < a.length → a.getD s 0 = b.getD (s + 1) 0) : dist a b = 1 := by
  have hlo : 1 ≤ dist a b := dist_pos (.inl (by omega))
  have h0 := D_same a b p h1
  have hi := D_ins a b p p
  have hal := D_along a b p (p + 1) (a.length - p) (fun s hs => by
    have := h2 (p + s) (by omega) (by omega)
    rw [this]; congr 1; omega)
  have e1 : p + (a.length - p) = a.length := by omega
  have e2 : p + 1 + (a.length - p) = b.length := by omega
  rw [e1, e2] at hal
  unfold dist at *
  omega

/-- One element more in a. -/
theorem dist_del (a b : List Int) (p : Nat) (hp : p ≤ a.length) (hl : b.length = a.length + 1) (h1 : ∀ s, s < p → a.getD s 0 = b.getD s 0) (h2 : ∀ s, p ≤ s → s < a.length → a.getD s 0 = b.getD (s + 1) 0) : dist b a = 1 := by
  have hlo : 1 ≤ dist b a := dist_pos (.inl (by omega))
  have h0 := D_same b a p (fun s hs => (h1 s hs).symm)
  have hi := D_del b a p p
  have hal := D_along b a (p + 1) p (a.length - p) (fun s hs => by
    have := h2 (p + s) (by omega) (by omega)
    rw [this]; congr 1; omega)
  have e1 : p + (a.length - p) = a.length := by omega
  have e2 : p + 1 + (a.length - p) = b.length := by omega
  rw [e1, e2] at hal
  unfold dist at *
  omega

/-- One element replaced. -/
theorem dist_rep (a b : List Int) (p : Nat) (hp : p < a.length) (hl : b.length = a.length) (hne : a.getD p 0 ≠ b.getD p 0) (h1 : ∀ s, s < a.length → s ≠ p → a.getD s 0 = b.getD s 0) : dist a b = 1 := by
  have hlo : 1 ≤ dist a b := dist_pos (.inr ⟨p, hp, hne⟩)
  have h0 := D_same a b p (fun s hs => h1 s (by omega) (by omega))
  have hi := D_rep a b p p
  have hc := cost_le a b p p
  have hal := D_along a b (p + 1) (p + 1) (a.length - (p + 1)) (fun s hs => h1 _ (by omega) (by omega))
  have e1 : p + 1 + (a.length - (p + 1)) = a.length := by omega
  rw [e1] at hal
  unfold dist at *
  rw [hl] at *
  omega

/-- Two neighbours swapped. -/
theorem dist_swap (a b : List Int) (p : Nat) (hp : p + 1 < a.length) (hl : b.length = a.length) (hne : a.getD p 0 ≠ a.getD (p + 1) 0) (hx : b.getD p 0 = a.getD (p + 1) 0) (hy : b.getD (p + 1) 0 = a.getD p 0)
    (h1 : ∀ s, s < a.length → s ≠ p → s ≠ p + 1 → a.getD s 0 = b.getD s 0) : dist a b = 1 := by
  have hlo : 1 ≤ dist a b := dist_pos (.inr ⟨p, by omega, by rw [hx]; exact hne⟩)
  have h0 := D_same a b p (fun s hs => h1 s (by omega) (by omega) (by omega))
  have hi := D_swap a b p p (by unfold swapB; simp only [Nat.add_sub_cancel, hx, hy]; simp)
  have hal := D_along a b (p + 2) (p + 2) (a.length - (p + 2)) (fun s hs => h1 _ (by omega) (by omega) (by omega))
  have e1 : p + 2 + (a.length - (p + 2)) = a.length := by omega
  rw [e1] at hal
  unfold dist at *
  rw [hl] at *
  omega
end Go.Proofs.Qxb6619225a
