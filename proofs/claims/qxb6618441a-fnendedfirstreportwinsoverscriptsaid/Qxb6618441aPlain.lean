/-
  The plain mathematics of the law: what the last entry of an id is, which entries count, what the reports do. No program is in this text.
-/
namespace Go.Proofs.Qxb6618441a

/-- One entry of the running list: an id and a position. -/
abbrev Run := Int × Int

def lastPos : List Run → Int → Option Int
  | [], _ => none
  | q :: r, id => match lastPos r id with
    | some p => some p
    | none => if q.1 == id then some q.2 else none

theorem lastPos_snoc (l : List Run) (q : Run) (id : Int) : lastPos (l ++ [q]) id = if q.1 == id then some q.2 else lastPos l id := by
  induction l with
  | nil => simp [lastPos]
  | cons a r ih =>
    simp only [List.cons_append, lastPos, ih]
    by_cases h : (q.1 == id) = true
    · simp [h]
    · simp [h]

theorem lastPos_drop (l : List Run) (i : Nat) (id p : Int) (h : lastPos (l.drop i) id = some p) : lastPos l id = some p := by
  induction i generalizing l with
  | zero => simpa using h
  | succ i ih =>
    cases l with
    | nil => simp [lastPos] at h
    | cons a r =>
      have := ih r (by simpa using h)
      simp [lastPos, this]

theorem drop_get (l : List Run) (i : Nat) (h : i < l.length) : l.drop i = l.getD i (0, 0) :: l.drop (i + 1) := by
  rw [List.drop_eq_getElem_cons h]
  simp [List.getD_eq_getElem?_getD, h]

/-- No later entry has the same id. -/
def eff (l : List Run) (i : Nat) : Bool := (l.drop (i + 1)).all fun q => q.1 != (l.getD i (0, 0)).1

theorem lastPos_none {l : List Run} {id : Int} (h : ∀ q ∈ l, q.1 ≠ id) : lastPos l id = none := by
  induction l with
  | nil => rfl
  | cons a r ih =>
    have h1 := ih fun q hq => h q (by simp [hq])
    have h2 : ¬ a.1 = id := h a (by simp)
    simp [lastPos, h1, h2]

theorem lastPos_mem {l : List Run} {id : Int} (h : ∃ q ∈ l, q.1 = id) : ∃ p, lastPos l id = some p := by
  induction l with
  | nil => obtain ⟨q, hq, _⟩ := h; cases hq
  | cons a r ih =>
    by_cases hr : ∃ q ∈ r, q.1 = id
    · obtain ⟨p, hp⟩ := ih hr
      exact ⟨p, by simp [lastPos, hp]⟩
    · obtain ⟨q, hq, e⟩ := h
      have : q = a := by
        rcases List.mem_cons.1 hq with h | h
        · exact h
        · exact absurd ⟨q, h, e⟩ hr
      subst this
      have hn : lastPos r id = none := lastPos_none fun q' hq' e' => hr ⟨q', hq', e'⟩
      exact ⟨q.2, by simp [lastPos, hn, e]⟩

/-- An entry that counts is its id's last. -/
theorem eff_last (l : List Run) (i : Nat) (hi : i < l.length) (he : eff l i = true) : lastPos l (l.getD i (0, 0)).1 = some (l.getD i (0, 0)).2 := by
  refine lastPos_drop l i _ _ ?_
  rw [drop_get l i hi]
  have hn : lastPos (l.drop (i + 1)) (l.getD i (0, 0)).1 = none := lastPos_none fun q hq => by
    have := (List.all_eq_true.1 he) q hq
    simpa using this
  simp only [lastPos, hn, beq_self_eq_true, if_true]

/-- What has a last position has an entry that counts. -/
theorem last_eff (l : List Run) (id p : Int) (h : lastPos l id = some p) : ∃ i, i < l.length ∧ eff l i = true ∧ (l.getD i (0, 0)).1 = id ∧ (l.getD i (0, 0)).2 = p := by
  induction l with
  | nil => simp [lastPos] at h
  | cons a r ih =>
    unfold lastPos at h
    cases hr : lastPos r id with
    | some q =>
      rw [hr] at h
      simp only [Option.some.injEq] at h
      subst h
      obtain ⟨i, h1, h2, h3, h4⟩ := ih hr
      refine ⟨i + 1, by simp; omega, ?_, by simpa using h3, by simpa using h4⟩
      simpa [eff] using h2
    | none =>
      rw [hr] at h
      simp only at h
      by_cases e : (a.1 == id) = true
      · simp only [e, if_true, Option.some.injEq] at h
        refine ⟨0, by simp, ?_, by simpa using e, by simpa using h⟩
        have hall : ∀ q ∈ r, q.1 ≠ id := fun q hq e' => by
          obtain ⟨p', hp'⟩ := lastPos_mem ⟨q, hq, e'⟩
          rw [hr] at hp'
          cases hp'
        unfold eff
        simp only [List.drop_succ_cons, List.drop_zero, List.all_eq_true]
        intro q hq
        have h1 := hall q hq
        have h2 : a.1 = id := by simpa using e
        simp [h2]
        exact h1
      · simp [e] at h

theorem eff_apart (l : List Run) (i j : Nat) (hij : i < j) (hj : j < l.length) (he : eff l i = true) : (l.getD j (0, 0)).1 ≠ (l.getD i (0, 0)).1 := by
  have hm : l.getD j (0, 0) ∈ l.drop (i + 1) := by
    rw [List.mem_iff_getElem?]
    refine ⟨j - (i + 1), ?_⟩
    rw [List.getElem?_drop, show i + 1 + (j - (i + 1)) = j by omega, List.getElem?_eq_getElem hj]
    simp [List.getD_eq_getElem?_getD, hj]
  have := (List.all_eq_true.1 he) _ hm
  simpa using this

theorem eff_of (l : List Run) (i : Nat) (h : ∀ j, i < j → j < l.length → (l.getD j (0, 0)).1 ≠ (l.getD i (0, 0)).1) : eff l i = true := by
  unfold eff
  rw [List.all_eq_true]
  intro q hq
  obtain ⟨j, hj⟩ := List.mem_iff_getElem?.1 hq
  rw [List.getElem?_drop] at hj
  have hlt : i + 1 + j < l.length := (List.getElem?_eq_some_iff.1 hj).1
  have := h (i + 1 + j) (by omega) hlt
  simp only [List.getD_eq_getElem?_getD, hj, Option.getD_some] at this ⊢
  simpa using this

theorem eff_not (l : List Run) (i j : Nat) (hij : i < j) (hj : j < l.length) (h : (l.getD j (0, 0)).1 = (l.getD i (0, 0)).1) : eff l i = false := by
  cases he : eff l i with
  | false => rfl
  | true => exact absurd h (eff_apart l i j hij hj he)

theorem lastPos_here (l : List Run) (i : Nat) (hi : i < l.length) (id : Int) (hn : lastPos (l.drop (i + 1)) id = none) :
    lastPos (l.drop i) id = if (l.getD i (0, 0)).1 == id then some (l.getD i (0, 0)).2 else none := by
  rw [drop_get l i hi]
  simp only [lastPos, hn]

/-- Is id among the first n reports? -/
def called (ids : List Int) (n : Nat) (id : Int) : Bool := (ids.take n).contains id

theorem take_snoc (l : List Int) (k : Nat) (h : k < l.length) : l.take (k + 1) = l.take k ++ [l.getD k 0] := by
  rw [List.take_succ_eq_append_getElem h]
  simp [List.getD_eq_getElem?_getD, h]

theorem called_succ (ids : List Int) (n : Nat) (h : n < ids.length) (id : Int) : called ids (n + 1) id = (called ids n id || id == ids.getD n 0) := by
  unfold called
  rw [take_snoc ids n h]
  simp [List.contains_eq_mem]
  by_cases e : id = ids[n]?.getD 0 <;> simp [e]

theorem called_of (ids : List Int) (n j : Nat) (hj : j < n) (hn : n ≤ ids.length) (id : Int) (h : ids.getD j 0 = id) : called ids n id = true := by
  unfold called
  rw [List.contains_iff_mem, List.mem_iff_getElem?]
  refine ⟨j, ?_⟩
  rw [List.getElem?_take, if_pos hj, List.getElem?_eq_getElem (by omega)]
  simp only [List.getD_eq_getElem?_getD, List.getElem?_eq_getElem (show j < ids.length by omega), Option.getD_some] at h
  rw [h]

theorem called_not (ids : List Int) (n : Nat) (id : Int) (h : ∀ j, j < n → j < ids.length → ids.getD j 0 ≠ id) : called ids n id = false := by
  cases hc : called ids n id with
  | false => rfl
  | true =>
    unfold called at hc
    rw [List.contains_iff_mem, List.mem_iff_getElem?] at hc
    obtain ⟨j, hj⟩ := hc
    rw [List.getElem?_take] at hj
    split at hj
    · rename_i hjn
      have hl := (List.getElem?_eq_some_iff.1 hj).1
      exact absurd (by simp [List.getD_eq_getElem?_getD, hj]) (h j hjn hl)
    · cases hj

/-- The ends behind the first j reports. -/
def ends (e0 : List Int) (run : List Run) (nows ids : List Int) : Nat → List Int
  | 0 => e0
  | j + 1 =>
    if called ids j (ids.getD j 0) then ends e0 run nows ids j
    else match lastPos run (ids.getD j 0) with
      | none => ends e0 run nows ids j
      | some p => (ends e0 run nows ids j).set p.toNat (nows.getD j 0)

theorem ends_length (e0 : List Int) (run : List Run) (nows ids : List Int) (j : Nat) : (ends e0 run nows ids j).length = e0.length := by
  induction j with
  | zero => rfl
  | succ j ih =>
    unfold ends
    split
    · exact ih
    · split
      · exact ih
      · simpa using ih

/-- What the running map holds behind the first j reports. -/
def now (run : List Run) (ids : List Int) (j : Nat) (id : Int) : Option Int := if called ids j id then none else lastPos run id

theorem now_zero (run : List Run) (ids : List Int) (id : Int) : now run ids 0 id = lastPos run id := by simp [now, called]

theorem now_succ (run : List Run) (ids : List Int) (j : Nat) (h : j < ids.length) (id : Int) : now run ids (j + 1) id = if id == ids.getD j 0 then none else now run ids j id := by
  unfold now
  rw [called_succ ids j h]
  by_cases e : (id == ids.getD j 0) = true
  · simp only [e, Bool.or_true, if_true]
  · rw [Bool.not_eq_true] at e
    simp only [e, Bool.or_false, Bool.false_eq_true, if_false]

/-- The step of 'ends', said of what the map holds. -/
theorem ends_succ (e0 : List Int) (run : List Run) (nows ids : List Int) (j : Nat) :
    ends e0 run nows ids (j + 1) = match now run ids j (ids.getD j 0) with
      | none => ends e0 run nows ids j
      | some p => (ends e0 run nows ids j).set p.toNat (nows.getD j 0) := by
  rw [ends, now]
  by_cases e : called ids j (ids.getD j 0) = true
  · simp only [e, if_true]
  · simp only [e, Bool.false_eq_true, if_false]

/-- What a report does to the ends, and to the map. -/
def hit (o : Option Int) (es : List Int) (t : Int) : List Int := match o with
  | none => es
  | some p => es.set p.toNat t
def without (f : Int → Option Int) (id : Int) : Int → Option Int := fun y => if y == id then none else f y

theorem ends_hit (e0 : List Int) (run : List Run) (nows ids : List Int) (j : Nat) : ends e0 run nows ids (j + 1) = hit (now run ids j (ids.getD j 0)) (ends e0 run nows ids j) (nows.getD j 0) := ends_succ e0 run nows ids j
theorem now_without (run : List Run) (ids : List Int) (j : Nat) (h : j < ids.length) (id : Int) : without (now run ids j) (ids.getD j 0) id = now run ids (j + 1) id := (now_succ run ids j h id).symm

/-- A finite map as a function, with the list of its keys. -/
structure Keys (f : Int → Option Int) (ks : List Int) : Prop where
  nodup : ks.Nodup
  mem : ∀ id, id ∈ ks ↔ ∃ p, f id = some p

theorem Keys.nil : Keys (fun _ => none) [] := ⟨List.nodup_nil, fun id => by simp⟩

def keyPut (ks : List Int) (id : Int) : List Int := if id ∈ ks then ks else ks ++ [id]

theorem Keys.put {f : Int → Option Int} {ks : List Int} (h : Keys f ks) (id p : Int) : Keys (fun x => if id == x then some p else f x) (keyPut ks id) := by
  unfold keyPut
  by_cases hm : id ∈ ks
  · rw [if_pos hm]
    refine ⟨h.nodup, fun x => ?_⟩
    by_cases e : id = x
    · subst e; simp [hm]
    · simp [e]; exact h.mem x
  · rw [if_neg hm]
    refine ⟨List.nodup_append.2 ⟨h.nodup, by simp, fun a ha b hb => ?_⟩, fun x => ?_⟩
    · simp at hb; subst hb; intro e; exact hm (e ▸ ha)
    · by_cases e : id = x
      · subst e; simp
      · simp [e, Ne.symm e]; exact h.mem x

theorem Keys.del {f : Int → Option Int} {ks : List Int} (h : Keys f ks) (id : Int) : Keys (fun x => if x == id then none else f x) (ks.erase id) := by
  refine ⟨h.nodup.erase id, fun x => ?_⟩
  rw [h.nodup.mem_erase_iff]
  by_cases e : x = id
  · subst e; simp
  · simp [e]; exact h.mem x

theorem Keys.congr {f g : Int → Option Int} {ks : List Int} (h : Keys f ks) (e : ∀ x, f x = g x) : Keys g ks := by
  obtain rfl : f = g := funext e
  exact h

/-- How many of the first k entries count and are not reported. -/
def leftTo (run : List Run) (ids : List Int) (n k : Nat) : Nat := ((List.range k).filter fun i => eff run i && !called ids n (run.getD i (0, 0)).1).length

theorem leftTo_succ (run : List Run) (ids : List Int) (n k : Nat) : leftTo run ids n (k + 1) = leftTo run ids n k + if eff run k && !called ids n (run.getD k (0, 0)).1 then 1 else 0 := by
  unfold leftTo
  rw [List.range_succ, List.filter_append, List.length_append]
  congr 1
  simp only [List.filter_cons, List.filter_nil]
  split <;> rfl

theorem leftTo_le (run : List Run) (ids : List Int) (n k : Nat) : leftTo run ids n k ≤ k := by
  unfold leftTo
  have := List.length_filter_le (fun i => eff run i && !called ids n (run.getD i (0, 0)).1) (List.range k)
  simpa using this

/-- The map that is left has as many keys as the entries that count and are not reported. -/
theorem keys_left (run : List Run) (ids : List Int) (n : Nat) (ks : List Int) (h : Keys (now run ids n) ks) : ks.length = leftTo run ids n run.length := by
  have hp : ks.Perm (((List.range run.length).filter fun i => eff run i && !called ids n (run.getD i (0, 0)).1).map fun i => (run.getD i (0, 0)).1) := by
    refine (List.perm_ext_iff_of_nodup h.nodup ?_).2 fun id => ?_
    · rw [List.nodup_iff_pairwise_ne, List.pairwise_map]
      have hr : List.Pairwise (fun a b : Nat => a < b) (List.range run.length) := List.pairwise_lt_range
      refine (hr.filter _).imp_of_mem ?_
      intro a b ha hb hab
      simp only [List.mem_filter, List.mem_range, Bool.and_eq_true] at ha hb
      exact fun e => eff_apart run a b hab hb.1 ha.2.1 e.symm
    · rw [h.mem]
      constructor
      · rintro ⟨p, hp⟩
        unfold now at hp
        split at hp
        · cases hp
        · rename_i hc
          obtain ⟨i, h1, h2, h3, _⟩ := last_eff run id p hp
          refine List.mem_map.2 ⟨i, List.mem_filter.2 ⟨List.mem_range.2 h1, ?_⟩, h3⟩
          rw [h3, h2]
          simpa using hc
      · intro hm
        obtain ⟨i, hi, rfl⟩ := List.mem_map.1 hm
        simp only [List.mem_filter, List.mem_range, Bool.and_eq_true, Bool.not_eq_true'] at hi
        refine ⟨(run.getD i (0, 0)).2, ?_⟩
        unfold now
        rw [hi.2.2]
        exact eff_last run i hi.1 hi.2.1
  rw [hp.length_eq, List.length_map]
  rfl

end Go.Proofs.Qxb6618441a
