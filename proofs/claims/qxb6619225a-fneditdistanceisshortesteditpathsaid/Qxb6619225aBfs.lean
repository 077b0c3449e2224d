/-
  The plain mathematics of the 0-1 breadth-first search: a graph by its edges, the waiting row with its keys, what a pop and a push keep. No program is in this text.
-/
import Derived.Test.Qxb6619225aOsa
namespace Go.Proofs.Qxb6619225a
set_option linter.unusedVariables false

/-- A graph of T places, its edges go upward; ds is the true distance. -/
structure Graph (T inf : Nat) (ds : Nat → Nat) (edge : Nat → Nat → Nat → Prop) : Prop where
  zero : ds 0 = 0
  le : ∀ v u c, v < T → edge v u c → ds u ≤ ds v + c
  pred : ∀ u, u < T → u ≠ 0 → ∃ v c, v < u ∧ edge v u c ∧ ds u = ds v + c
  small : ∀ u, u < T → ds u < inf
  pos : 0 < T

/-- What holds while a place is being handled; k is the key that was popped. -/
structure Mid (T inf : Nat) (ds : Nat → Nat) (dn : Nat → Bool) (k : Nat) (dl : Nat → Nat) (q : List (Nat × Nat)) : Prop where
  sound : ∀ u, u < T → ds u ≤ dl u
  zero : dl 0 = 0
  isDone : ∀ u, u < T → dn u = true → dl u = ds u
  wait : ∀ u, u < T → dn u = false → dl u < inf → (u, dl u) ∈ q
  key : ∀ e ∈ q, e.1 < T ∧ dl e.1 ≤ e.2
  sorted : q.Pairwise (fun x y => x.2 ≤ y.2)
  range : ∀ e ∈ q, k ≤ e.2 ∧ e.2 ≤ k + 1
  cap : ∀ u, u < T → dl u ≤ inf

def Relaxed (edge : Nat → Nat → Nat → Prop) (dl : Nat → Nat) (x : Nat) : Prop := ∀ u c, edge x u c → dl u ≤ dl x + c

def relaxD (dl : Nat → Nat) (u nd : Nat) : Nat → Nat := if nd < dl u then fun x => if x = u then nd else dl x else dl
def relaxQ (dl : Nat → Nat) (q : List (Nat × Nat)) (u nd : Nat) (free : Bool) : List (Nat × Nat) :=
  if nd < dl u then (if free then (u, nd) :: q else q ++ [(u, nd)]) else q

theorem relaxD_le (dl : Nat → Nat) (u nd x : Nat) : relaxD dl u nd x ≤ dl x := by
  unfold relaxD
  split
  · show (if x = u then nd else dl x) ≤ dl x
    split
    · subst_vars; omega
    · exact Nat.le_refl _
  · exact Nat.le_refl _
theorem relaxD_at (dl : Nat → Nat) (u nd : Nat) : relaxD dl u nd u ≤ nd := by
  unfold relaxD
  split
  · simp
  · omega

variable {T inf : Nat} {ds : Nat → Nat} {edge : Nat → Nat → Nat → Prop} {dn : Nat → Bool} {k : Nat} {dl : Nat → Nat} {q : List (Nat × Nat)}

theorem Mid.relax (G : Graph T inf ds edge) (M : Mid T inf ds dn k dl q) {v u c : Nat} (hv : v < T) (hdv : dn v = true) (hk : dl v = k) (hu : u < T) (he : edge v u c) (hc : c ≤ 1) :
    Mid T inf ds dn k (relaxD dl u (k + c)) (relaxQ dl q u (k + c) (c == 0)) := by
  unfold relaxD relaxQ
  by_cases h : k + c < dl u
  · rw [if_pos h, if_pos h]
    have hle := G.le v u c hv he
    have hvv := M.isDone v hv hdv
    have hun : dn u = false := by
      cases hd : dn u with
      | false => rfl
      | true => have := M.isDone u hu hd; omega
    have hu0 : u ≠ 0 := by intro e; subst e; have := M.zero; omega
    have hmem : ∀ e, e ∈ (if (c == 0) = true then (u, k + c) :: q else q ++ [(u, k + c)]) ↔ e = (u, k + c) ∨ e ∈ q := by
      intro e
      split <;> simp [or_comm]
    refine ⟨fun x hx => ?_, ?_, fun x hx hd => ?_, fun x hx hd hi => ?_, fun e he => ?_, ?_, fun e he => ?_, fun x hx => ?_⟩
    · show ds x ≤ if x = u then k + c else dl x
      split
      · subst_vars; omega
      · exact M.sound x hx
    · show (if 0 = u then k + c else dl 0) = 0
      rw [if_neg (Ne.symm hu0)]; exact M.zero
    · show (if x = u then k + c else dl x) = ds x
      rw [if_neg (by intro e; subst e; rw [hun] at hd; cases hd)]; exact M.isDone x hx hd
    · rw [hmem]
      show (x, if x = u then k + c else dl x) = _ ∨ (x, if x = u then k + c else dl x) ∈ q
      by_cases e : x = u
      · subst e; left; simp
      · rw [if_neg e]
        right
        have hi' : (if x = u then k + c else dl x) < inf := hi
        rw [if_neg e] at hi'
        exact M.wait x hx hd hi'
    · rw [hmem] at he
      rcases he with rfl | he
      · exact ⟨hu, by show (if u = u then k + c else dl u) ≤ k + c; simp⟩
      · obtain ⟨h1, h2⟩ := M.key e he
        refine ⟨h1, ?_⟩
        show (if e.1 = u then k + c else dl e.1) ≤ e.2
        split
        · rename_i e'; rw [e'] at h2; omega
        · exact h2
    · by_cases c0 : c = 0
      · subst c0
        simp only [beq_self_eq_true, if_true]
        exact List.pairwise_cons.2 ⟨fun e he => (M.range e he).1, M.sorted⟩
      · have : (c == 0) = false := by simpa using c0
        rw [this]
        simp only [Bool.false_eq_true, if_false]
        refine List.pairwise_append.2 ⟨M.sorted, by simp, fun x hx y hy => ?_⟩
        have := (M.range x hx).2
        obtain rfl : y = (u, k + c) := by simpa using hy
        show x.2 ≤ k + c
        omega
    · rw [hmem] at he
      rcases he with rfl | he
      · exact ⟨Nat.le_add_right _ _, by show k + c ≤ k + 1; omega⟩
      · exact M.range e he
    · show (if x = u then k + c else dl x) ≤ inf
      have h1 := M.cap u hu
      have h2 := M.cap x hx
      split <;> omega
  · rw [if_neg h, if_neg h]
    exact M

/-- Every place nearer than the first key is done. -/
theorem Mid.near (G : Graph T inf ds edge) (M : Mid T inf ds dn k dl q) (R : ∀ x, x < T → dn x = true → Relaxed edge dl x) (κ : Nat) (hκ : ∀ e ∈ q, κ ≤ e.2) : ∀ u, u < T → ds u < κ → dn u = true := by
  intro u
  induction u using Nat.strongRecOn with
  | _ u ih =>
    intro hu hk
    cases hd : dn u with
    | true => rfl
    | false =>
      exfalso
      have key : dl u = ds u := by
        by_cases u0 : u = 0
        · subst u0; rw [M.zero, G.zero]
        · obtain ⟨v, c, hv, he, hds⟩ := G.pred u hu u0
          have hvd := ih v hv (by omega) (by omega)
          have h1 := R v (by omega) hvd u c he
          have h2 := M.isDone v (by omega) hvd
          have h3 := M.sound u hu
          omega
      have hw := M.wait u hu hd (by rw [key]; exact G.small u hu)
      have := hκ _ hw
      rw [key] at this
      exact absurd this (by show ¬ κ ≤ ds u; omega)

/-- A pop of a place that is done. -/
theorem Mid.popDone {v κ : Nat} (M : Mid T inf ds dn k dl ((v, κ) :: q)) (hd : dn v = true) : Mid T inf ds dn k dl q := by
  refine ⟨M.sound, M.zero, M.isDone, fun u hu hn hi => ?_, fun e he => M.key e (List.mem_cons_of_mem _ he), (List.pairwise_cons.1 M.sorted).2, fun e he => M.range e (List.mem_cons_of_mem _ he), M.cap⟩
  rcases List.mem_cons.1 (M.wait u hu hn hi) with e | e
  · have : u = v := congrArg Prod.fst e
    subst this
    rw [hd] at hn; cases hn
  · exact e

/-- A pop of a place that is not done: it is at its true distance. -/
theorem Mid.pop (G : Graph T inf ds edge) {v κ : Nat} (M : Mid T inf ds dn k dl ((v, κ) :: q)) (R : ∀ x, x < T → dn x = true → Relaxed edge dl x) (hd : dn v = false) :
    v < T ∧ dl v = κ ∧ Mid T inf ds (fun x => if x = v then true else dn x) κ dl q := by
  obtain ⟨hv, hle⟩ := M.key (v, κ) List.mem_cons_self
  have hfirst : ∀ e ∈ (v, κ) :: q, κ ≤ e.2 := by
    intro e he
    rcases List.mem_cons.1 he with rfl | he
    · exact Nat.le_refl _
    · exact (List.pairwise_cons.1 M.sorted).1 e he
  have hk := (M.range (v, κ) List.mem_cons_self)
  have hds : ¬ ds v < κ := fun h => by rw [M.near G R κ hfirst v hv h] at hd; cases hd
  have hs := M.sound v hv
  have hle' : dl v ≤ κ := hle
  have hvk : dl v = κ := by omega
  refine ⟨hv, hvk, ?_⟩
  refine ⟨M.sound, M.zero, fun u hu h => ?_, fun u hu hn hi => ?_, fun e he => M.key e (List.mem_cons_of_mem _ he), (List.pairwise_cons.1 M.sorted).2, fun e he => ?_, M.cap⟩
  · by_cases e : u = v
    · subst e; omega
    · exact M.isDone u hu (by simpa [e] using h)
  · have e : u ≠ v := by intro e; subst e; simp at hn
    rcases List.mem_cons.1 (M.wait u hu (by simpa [e] using hn) hi) with h | h
    · exact absurd (congrArg Prod.fst h) e
    · exact h
  · have h1 := hfirst e (List.mem_cons_of_mem _ he)
    have h2 := (M.range e (List.mem_cons_of_mem _ he)).2
    have : k ≤ κ := hk.1
    exact ⟨h1, by omega⟩

/-- Nothing waits: every place is at its true distance. -/
theorem Mid.over (G : Graph T inf ds edge) (M : Mid T inf ds dn k dl []) (R : ∀ x, x < T → dn x = true → Relaxed edge dl x) (u : Nat) (hu : u < T) : dl u = ds u :=
  M.isDone u hu (M.near G R (ds u + 1) (fun e he => by cases he) u hu (Nat.lt_succ_self _))

/-- The start. -/
theorem Mid.start (G : Graph T inf ds edge) : Mid T inf ds (fun _ => false) 0 (fun x => if x = 0 then 0 else inf) [(0, 0)] := by
  refine ⟨fun u hu => ?_, rfl, fun u hu h => (by cases h), fun u hu _ hi => ?_, fun e he => ?_, List.pairwise_singleton _ _, fun e he => ?_, fun u _ => ?_⟩
  · show ds u ≤ if u = 0 then 0 else inf
    split
    · subst_vars; rw [G.zero]; exact Nat.le_refl _
    · exact Nat.le_of_lt (G.small u hu)
  · have hi' : (if u = 0 then 0 else inf) < inf := hi
    by_cases e : u = 0
    · subst e; simp
    · rw [if_neg e] at hi'; omega
  · obtain rfl : e = (0, 0) := by simpa using he
    exact ⟨G.pos, Nat.le_refl _⟩
  · obtain rfl : e = (0, 0) := by simpa using he
    exact ⟨Nat.le_refl _, Nat.zero_le _⟩
  · show (if u = 0 then 0 else inf) ≤ inf
    split <;> omega
end Go.Proofs.Qxb6619225a
