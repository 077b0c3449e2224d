/-
  The grid of edits as a graph. No program is in this text.
-/
import Derived.Test.Qxb6619225aBfs
namespace Go.Proofs.Qxb6619225a
set_option linter.unusedVariables false

def gridD (a b : List Int) (m v : Nat) : Nat := D a b (v / (m + 1)) (v % (m + 1))
def gridE (a b : List Int) (n m v u c : Nat) : Prop := ∃ i j, v = i * (m + 1) + j ∧ j ≤ m ∧
  ((i < n ∧ u = v + (m + 1) ∧ c = 1) ∨ (j < m ∧ u = v + 1 ∧ c = 1) ∨ (i < n ∧ j < m ∧ u = v + (m + 1) + 1 ∧ c = cost a b i j) ∨
    (i + 1 < n ∧ j + 1 < m ∧ a.getD i 0 = b.getD (j + 1) 0 ∧ a.getD (i + 1) 0 = b.getD j 0 ∧ u = v + 2 * (m + 1) + 2 ∧ c = 1))

theorem grid_div (m i j : Nat) (h : j ≤ m) : (i * (m + 1) + j) / (m + 1) = i := by
  rw [Nat.mul_comm, Nat.mul_add_div (by omega), Nat.div_eq_of_lt (by omega), Nat.add_zero]
theorem grid_mod (m i j : Nat) (h : j ≤ m) : (i * (m + 1) + j) % (m + 1) = j := by
  rw [Nat.mul_comm, Nat.mul_add_mod, Nat.mod_eq_of_lt (by omega)]
theorem gridD_at (a b : List Int) (m i j : Nat) (h : j ≤ m) : gridD a b m (i * (m + 1) + j) = D a b i j := by
  unfold gridD
  rw [grid_div m i j h, grid_mod m i j h]
theorem grid_split (m v : Nat) : ∃ i j, v = i * (m + 1) + j ∧ j ≤ m := ⟨v / (m + 1), v % (m + 1), by rw [Nat.mul_comm]; exact (Nat.div_add_mod v (m + 1)).symm, by have := Nat.mod_lt v (show 0 < m + 1 by omega); omega⟩
theorem grid_row {n m i j : Nat} (h : i * (m + 1) + j < (n + 1) * (m + 1)) : i ≤ n := by
  have h1 : i * (m + 1) < (n + 1) * (m + 1) := by omega
  have := Nat.lt_of_mul_lt_mul_right h1
  omega
theorem grid_lt {n m i j : Nat} (hi : i ≤ n) (hj : j ≤ m) : i * (m + 1) + j < (n + 1) * (m + 1) := by
  have h1 : i * (m + 1) ≤ n * (m + 1) := Nat.mul_le_mul_right _ hi
  have h2 : (n + 1) * (m + 1) = n * (m + 1) + (m + 1) := Nat.succ_mul _ _
  omega
theorem grid_same {m i j i' j' : Nat} (hj : j ≤ m) (hj' : j' ≤ m) (h : i * (m + 1) + j = i' * (m + 1) + j') : i = i' ∧ j = j' := by
  have h1 := grid_div m i j hj
  have h2 := grid_mod m i j hj
  rw [h, grid_div m i' j' hj'] at h1
  rw [h, grid_mod m i' j' hj'] at h2
  exact ⟨h1.symm, h2.symm⟩

theorem gridE_lt {a b : List Int} {n m v u c : Nat} (hv : v < (n + 1) * (m + 1)) (h : gridE a b n m v u c) : u < (n + 1) * (m + 1) ∧ c ≤ 1 := by
  obtain ⟨i, j, rfl, hj, h⟩ := h
  have s1 : (i + 1) * (m + 1) = i * (m + 1) + (m + 1) := Nat.succ_mul _ _
  have s2 : (i + 2) * (m + 1) = i * (m + 1) + (m + 1) + (m + 1) := by rw [Nat.succ_mul, Nat.succ_mul]
  have hi := grid_row hv
  rcases h with ⟨h1, rfl, rfl⟩ | ⟨h1, rfl, rfl⟩ | ⟨h1, h2, rfl, rfl⟩ | ⟨h1, h2, _, _, rfl, rfl⟩
  · have := grid_lt (n := n) (m := m) (i := i + 1) (j := j) (by omega) hj
    exact ⟨by omega, by omega⟩
  · have := grid_lt (n := n) (m := m) (i := i) (j := j + 1) hi (by omega)
    exact ⟨by omega, by omega⟩
  · have := grid_lt (n := n) (m := m) (i := i + 1) (j := j + 1) (by omega) (by omega)
    exact ⟨by omega, cost_le _ _ _ _⟩
  · have := grid_lt (n := n) (m := m) (i := i + 2) (j := j + 2) (by omega) (by omega)
    exact ⟨by omega, by omega⟩

theorem swapB_mk {a b : List Int} {i j : Nat} (h1 : a.getD i 0 = b.getD (j + 1) 0) (h2 : a.getD (i + 1) 0 = b.getD j 0) : swapB a b (i + 1) (j + 1) = true := by
  simp only [swapB, Nat.add_sub_cancel, h1, h2]
  simp

theorem grid (a b : List Int) (n m : Nat) : Graph ((n + 1) * (m + 1)) (n + m + 1) (gridD a b m) (gridE a b n m) := by
  refine ⟨?_, fun v u c hv h => ?_, fun u hu h0 => ?_, fun u hu => ?_, Nat.mul_pos (by omega) (by omega)⟩
  · have := gridD_at a b m 0 0 (by omega)
    simpa [D_zero] using this
  · obtain ⟨i, j, rfl, hj, h⟩ := h
    have s1 : (i + 1) * (m + 1) = i * (m + 1) + (m + 1) := Nat.succ_mul _ _
    have s2 : (i + 2) * (m + 1) = i * (m + 1) + (m + 1) + (m + 1) := by rw [Nat.succ_mul, Nat.succ_mul]
    rw [gridD_at a b m i j hj]
    rcases h with ⟨h1, rfl, rfl⟩ | ⟨h1, rfl, rfl⟩ | ⟨h1, h2, rfl, rfl⟩ | ⟨h1, h2, e1, e2, rfl, rfl⟩
    · have e : i * (m + 1) + j + (m + 1) = (i + 1) * (m + 1) + j := by omega
      rw [e, gridD_at a b m _ _ hj]; exact D_del a b i j
    · have e : i * (m + 1) + j + 1 = i * (m + 1) + (j + 1) := by omega
      rw [e, gridD_at a b m _ _ (by omega)]; exact D_ins a b i j
    · have e : i * (m + 1) + j + (m + 1) + 1 = (i + 1) * (m + 1) + (j + 1) := by omega
      rw [e, gridD_at a b m _ _ (by omega)]; exact D_rep a b i j
    · have e : i * (m + 1) + j + 2 * (m + 1) + 2 = (i + 2) * (m + 1) + (j + 2) := by omega
      rw [e, gridD_at a b m _ _ (by omega)]; exact D_swap a b i j (swapB_mk e1 e2)
  · obtain ⟨i, j, rfl, hj⟩ := grid_split m u
    have hi := grid_row hu
    rw [gridD_at a b m i j hj]
    cases i with
    | zero =>
      cases j with
      | zero => simp at h0
      | succ j =>
        refine ⟨0 * (m + 1) + j, 1, by omega, ⟨0, j, rfl, by omega, .inr (.inl ⟨by omega, by omega, rfl⟩)⟩, ?_⟩
        rw [gridD_at a b m 0 j (by omega), D_zero, D_zero]
    | succ i =>
      have s1 : (i + 1) * (m + 1) = i * (m + 1) + (m + 1) := Nat.succ_mul _ _
      have del : ∀ j, j ≤ m → D a b (i + 1) j = D a b i j + 1 → ∃ v c, v < (i + 1) * (m + 1) + j ∧ gridE a b n m v ((i + 1) * (m + 1) + j) c ∧ D a b (i + 1) j = gridD a b m v + c := fun j hj e =>
        ⟨i * (m + 1) + j, 1, by omega, ⟨i, j, rfl, hj, .inl ⟨by omega, by omega, rfl⟩⟩, by rw [gridD_at a b m i j hj, e]⟩
      cases j with
      | zero => exact del 0 hj (by rw [D_left, D_left])
      | succ j =>
        have ins : D a b (i + 1) (j + 1) = D a b (i + 1) j + 1 → ∃ v c, v < (i + 1) * (m + 1) + (j + 1) ∧ gridE a b n m v ((i + 1) * (m + 1) + (j + 1)) c ∧ D a b (i + 1) (j + 1) = gridD a b m v + c := fun e =>
          ⟨(i + 1) * (m + 1) + j, 1, by omega, ⟨i + 1, j, rfl, by omega, .inr (.inl ⟨by omega, by omega, rfl⟩)⟩, by rw [gridD_at a b m (i + 1) j (by omega), e]⟩
        have rep : D a b (i + 1) (j + 1) = D a b i j + cost a b i j → ∃ v c, v < (i + 1) * (m + 1) + (j + 1) ∧ gridE a b n m v ((i + 1) * (m + 1) + (j + 1)) c ∧ D a b (i + 1) (j + 1) = gridD a b m v + c := fun e =>
          ⟨i * (m + 1) + j, cost a b i j, by omega, ⟨i, j, rfl, by omega, .inr (.inr (.inl ⟨by omega, by omega, by omega, rfl⟩))⟩, by rw [gridD_at a b m i j (by omega), e]⟩
        have three' : D a b (i + 1) (j + 1) = three a b i j → ∃ v c, v < (i + 1) * (m + 1) + (j + 1) ∧ gridE a b n m v ((i + 1) * (m + 1) + (j + 1)) c ∧ D a b (i + 1) (j + 1) = gridD a b m v + c := fun e => by
          unfold three at e
          by_cases c1 : D a b (i + 1) (j + 1) = D a b i (j + 1) + 1
          · exact del (j + 1) hj c1
          · by_cases c2 : D a b (i + 1) (j + 1) = D a b (i + 1) j + 1
            · exact ins c2
            · exact rep (by omega)
        have hs := D_succ a b i j
        cases hsw : swapB a b i j with
        | false => rw [hsw] at hs; exact three' (by simpa using hs)
        | true =>
          rw [hsw] at hs
          simp only [if_true] at hs
          by_cases c1 : D a b (i + 1) (j + 1) = three a b i j
          · exact three' c1
          · obtain ⟨p1, p2⟩ := swapB_pos hsw
            obtain ⟨i, rfl⟩ : ∃ i', i = i' + 1 := ⟨i - 1, by omega⟩
            obtain ⟨j, rfl⟩ : ∃ j', j = j' + 1 := ⟨j - 1, by omega⟩
            simp only [Nat.add_sub_cancel] at hs
            simp only [swapB, Nat.add_sub_cancel, Bool.and_eq_true, beq_iff_eq] at hsw
            have s2 : (i + 1) * (m + 1) = i * (m + 1) + (m + 1) := Nat.succ_mul _ _
            refine ⟨i * (m + 1) + j, 1, by omega, ⟨i, j, rfl, by omega, .inr (.inr (.inr ⟨by omega, by omega, hsw.2.2.2, hsw.2.2.1, by omega, rfl⟩))⟩, ?_⟩
            rw [gridD_at a b m i j (by omega)]
            omega
  · obtain ⟨i, j, rfl, hj⟩ := grid_split m u
    have hi := grid_row hu
    rw [gridD_at a b m i j hj]
    have := D_le a b i j
    omega
end Go.Proofs.Qxb6619225a
